import JvmDerived
import JvmDerived.Pilot.@@N@@Statement
import JvmDerived.Pilot.@@N@@Code
set_option linter.unusedVariables false
set_option linter.unusedSimpArgs false
namespace Jvm.Pilot.@@N@@
open Jvm Jvm.ClassFile Sem Op Lib Jvm.Free Jvm.Stand Jvm.LawKit Jvm.RoadKit Bundle Jvm.Pilot.@@N@@.Jvm.D
section OwnLayer
variable {p : Program} {l : Launch} {e : Env} {R : Room} {s : State} {m : MethodId} {args : Array Value} {below : List Frame} {meth : Method} {c : Code} {T : State} {locs : List Loc} {cells slots : Nat} {Z : State} {y : MethodName} {bs : ByteArray} {maxL : Nat} {rt : Option FieldType} {ce sl : Nat} {Q : Option Value → Heap → List Loc → Prop} {G : Outcome → State → Prop} {pc : Nat} {Ls : Array Slot} {st rest : List Value} {h : Heap} {a0 : Array Value}
/-- from S the body runs on, returns, and Q says what it leaves -/
def OwnEnds (p : Program) (e : Env) (below : List Frame) (G : Outcome → State → Prop) (S : State) : Prop :=
  ∃ s₂ o, Steps p.tables e below S s₂ ∧ s₂.status = .running ∧ Ended s₂ below o ∧ G o s₂
def OwnG (s : State) (ce sl : Nat) (Q : Option Value → Heap → List Loc → Prop) : Outcome → State → Prop := fun o s₂ => ∃ v L, o = .returned v ∧ Q v s₂.heap L ∧ FrameEnd s o s₂ L ce sl
/-- what stands throughout a body's walk -/
def OwnCx (p : Program) (s : State) (m : MethodId) (meth : Method) (c : Code) (Z : State) (y : MethodName) (bs : ByteArray) (maxL : Nat) (rt : Option FieldType) : Prop :=
  p.tables.exec = Jvm.exec ∧ Z.Warmed39 s.vm ∧ s.vm.findClass y.cls = some m.cls ∧ c.code = bs ∧ c.maxLocals = maxL ∧ meth.sig.returnType = rt ∧ meth.locks = false ∧ meth.name = y.name
/-- a body's contract over the heap h at these arguments -/
def OwnMet (l : Launch) (Z : State) (y : MethodName) (bs : ByteArray) (maxL : Nat) (rt : Option FieldType) (ws : List Jvm.Cond) (rm : Room) (as' : Array Value) (h : Heap) (Q : Option Value → Heap → List Loc → Prop) : Prop :=
  MetFree l y (head1 (Jvm.Cond.code y bs maxL rt :: ws) rm) (fun a U => a = as' ∧ Z.Warmed39 U.vm ∧ U.heap = h) (fun _ _ _ _ _ => True) (fun _ U o U' => ∃ v L, o = .returned v ∧ Q v U'.heap L ∧ FrameEnd U o U' L rm.cells rm.slots)
theorem own_nz32 {d : Int32} (q : d.toInt ≠ 0) : d ≠ 0 := fun r => q (by rw [r]; rfl)
theorem own_nz64 {d : Int64} (q : d.toInt ≠ 0) : d ≠ 0 := fun r => q (by rw [r]; rfl)
theorem own_st {S S' : State} (k : ∀ t, Steps p.tables e below S' t → Steps p.tables e below S t) (r : OwnEnds p e below G S') : OwnEnds p e below G S := by
  obtain ⟨s₂, o, h1, r⟩ := r
  exact ⟨s₂, o, k _ h1, r⟩
theorem own_tr {S S' : State} (k : Steps p.tables e below S S') (r : OwnEnds p e below G S') : OwnEnds p e below G S := own_st (fun _ q => k.trans q) r
theorem own_enter {ws : List Jvm.Cond} {rm : Room} {as' : Array Value} {f0 : MethodId → JFrame} (hp : plainFor y = true) (hf : ∀ m, entryFrame m as' maxL = f0 m)
    (H : ∀ p e s m below meth c T, Stand p l e rm s m as' below meth c T [] 0 0 → OwnCx p s m meth c Z y bs maxL rt → T.heap = h → OwnEnds p e below (OwnG s rm.cells rm.slots Q) (T.setTop (f0 m))) : OwnMet l Z y bs maxL rt ws rm as' h Q := by
  refine MetFree.of_bodySF hp hisR ?_
  intro p e s m args below meth c s₁ Bd hml0 hP hK
  obtain ⟨rfl, hZ, hh⟩ := hP
  have k := H p e s m below meth c s₁ (Stand.of_body Bd) ⟨Bd.exec, hZ, findClass_of_methodNamed Bd.named, Bd.bytes, hml0, Bd.returns, Bd.notSynchronized, (name_of_methodNamed Bd.named Bd.method).1⟩ (by rw [← hh, Bd.state]; rfl)
  rw [← hf m] at k
  exact k
theorem own_mono {ws : List Jvm.Cond} {rm : Room} {as' : Array Value} {Q' : Option Value → Heap → List Loc → Prop} (H : OwnMet l Z y bs maxL rt ws rm as' h Q) (q : ∀ v h' L, Q v h' L → Q' v h' L) : OwnMet l Z y bs maxL rt ws rm as' h Q' := by
  intro p e ha hc hk s m args below hf happ hP hK
  obtain ⟨n, o, h1, h2, h3, v, L, h4, h5, h6⟩ := H p e ha hc hk s m args below hf happ hP hK
  exact ⟨n, o, h1, h2, h3, v, L, h4, q _ _ _ h5, h6⟩
theorem own_iload (X : Stand p l e R s m args below meth c T locs cells slots) (C : OwnCx p s m meth c Z y bs maxL rt) {k : Nat} {v : Int32} (hd : decode bs pc = .ok (.iload k, 2)) (pc' : Nat) (hp : pc + 2 = pc') (hl : Ls[k]? = some (.val (.int v)))
    (hr : OwnEnds p e below G (T.setTop (mkF m pc' Ls (.int v :: st)))) : OwnEnds p e below G (T.setTop (mkF m pc Ls st)) := by
  subst hp; exact own_st (fun _ q => XS.iload X.here C.1 rfl (hb C.2.2.2.1 hd) hl q) hr
theorem own_lload (X : Stand p l e R s m args below meth c T locs cells slots) (C : OwnCx p s m meth c Z y bs maxL rt) {k : Nat} {v : Int64} (hd : decode bs pc = .ok (.lload k, 2)) (pc' : Nat) (hp : pc + 2 = pc') (hl : Ls[k]? = some (.val (.long v)))
    (hr : OwnEnds p e below G (T.setTop (mkF m pc' Ls (.long v :: st)))) : OwnEnds p e below G (T.setTop (mkF m pc Ls st)) := by
  subst hp; exact own_st (fun _ q => XS.lload X.here C.1 rfl (hb C.2.2.2.1 hd) hl q) hr
theorem own_iload_n (X : Stand p l e R s m args below meth c T locs cells slots) (C : OwnCx p s m meth c Z y bs maxL rt) {k : Fin 4} {v : Int32} (hd : decode bs pc = .ok (.iload_n k, 1)) (pc' : Nat) (hp : pc + 1 = pc') (hl : Ls[k.val]? = some (.val (.int v)))
    (hr : OwnEnds p e below G (T.setTop (mkF m pc' Ls (.int v :: st)))) : OwnEnds p e below G (T.setTop (mkF m pc Ls st)) := by
  subst hp; exact own_st (fun _ q => XS.iloadN X.here C.1 rfl (hb C.2.2.2.1 hd) hl q) hr
theorem own_lload_n (X : Stand p l e R s m args below meth c T locs cells slots) (C : OwnCx p s m meth c Z y bs maxL rt) {k : Fin 4} {v : Int64} (hd : decode bs pc = .ok (.lload_n k, 1)) (pc' : Nat) (hp : pc + 1 = pc') (hl : Ls[k.val]? = some (.val (.long v)))
    (hr : OwnEnds p e below G (T.setTop (mkF m pc' Ls (.long v :: st)))) : OwnEnds p e below G (T.setTop (mkF m pc Ls st)) := by
  subst hp; exact own_st (fun _ q => XS.lloadN X.here C.1 rfl (hb C.2.2.2.1 hd) hl q) hr
theorem own_aload (X : Stand p l e R s m args below meth c T locs cells slots) (C : OwnCx p s m meth c Z y bs maxL rt) {k : Nat} {v : Value} (hd : decode bs pc = .ok (.aload k, 2)) (pc' : Nat) (hp : pc + 2 = pc') (hl : Ls[k]? = some (.val v)) (hv : v.isRef = true)
    (hr : OwnEnds p e below G (T.setTop (mkF m pc' Ls (v :: st)))) : OwnEnds p e below G (T.setTop (mkF m pc Ls st)) := by
  subst hp; exact own_st (fun _ q => XS.aload X.here C.1 rfl (hb C.2.2.2.1 hd) hl hv q) hr
theorem own_aload_n (X : Stand p l e R s m args below meth c T locs cells slots) (C : OwnCx p s m meth c Z y bs maxL rt) {k : Fin 4} {v : Value} (hd : decode bs pc = .ok (.aload_n k, 1)) (pc' : Nat) (hp : pc + 1 = pc') (hl : Ls[k.val]? = some (.val v)) (hv : v.isRef = true)
    (hr : OwnEnds p e below G (T.setTop (mkF m pc' Ls (v :: st)))) : OwnEnds p e below G (T.setTop (mkF m pc Ls st)) := by
  subst hp; exact own_st (fun _ q => XS.aloadN X.here C.1 rfl (hb C.2.2.2.1 hd) hl hv q) hr
theorem own_istore (X : Stand p l e R s m args below meth c T locs cells slots) (C : OwnCx p s m meth c Z y bs maxL rt) {k : Nat} {v : Int32} (hd : decode bs pc = .ok (.istore k, 2)) (pc' : Nat) (hp : pc + 2 = pc') (L' : Array Slot) (hl : storeLocals Ls k (.int v) = some L')
    (hr : OwnEnds p e below G (T.setTop (mkF m pc' L' st))) : OwnEnds p e below G (T.setTop (mkF m pc Ls (.int v :: st))) := by
  subst hp; exact own_st (fun _ q => XS.istore X.here C.1 rfl (hb C.2.2.2.1 hd) rfl hl q) hr
theorem own_lstore (X : Stand p l e R s m args below meth c T locs cells slots) (C : OwnCx p s m meth c Z y bs maxL rt) {k : Nat} {v : Int64} (hd : decode bs pc = .ok (.lstore k, 2)) (pc' : Nat) (hp : pc + 2 = pc') (L' : Array Slot) (hl : storeLocals Ls k (.long v) = some L')
    (hr : OwnEnds p e below G (T.setTop (mkF m pc' L' st))) : OwnEnds p e below G (T.setTop (mkF m pc Ls (.long v :: st))) := by
  subst hp; exact own_st (fun _ q => XS.lstore X.here C.1 rfl (hb C.2.2.2.1 hd) rfl hl q) hr
theorem own_istore_n (X : Stand p l e R s m args below meth c T locs cells slots) (C : OwnCx p s m meth c Z y bs maxL rt) {k : Fin 4} {v : Int32} (hd : decode bs pc = .ok (.istore_n k, 1)) (pc' : Nat) (hp : pc + 1 = pc') (L' : Array Slot) (hl : storeLocals Ls k.val (.int v) = some L')
    (hr : OwnEnds p e below G (T.setTop (mkF m pc' L' st))) : OwnEnds p e below G (T.setTop (mkF m pc Ls (.int v :: st))) := by
  subst hp; exact own_st (fun _ q => XS.istoreN X.here C.1 rfl (hb C.2.2.2.1 hd) rfl hl q) hr
theorem own_lstore_n (X : Stand p l e R s m args below meth c T locs cells slots) (C : OwnCx p s m meth c Z y bs maxL rt) {k : Fin 4} {v : Int64} (hd : decode bs pc = .ok (.lstore_n k, 1)) (pc' : Nat) (hp : pc + 1 = pc') (L' : Array Slot) (hl : storeLocals Ls k.val (.long v) = some L')
    (hr : OwnEnds p e below G (T.setTop (mkF m pc' L' st))) : OwnEnds p e below G (T.setTop (mkF m pc Ls (.long v :: st))) := by
  subst hp; exact own_st (fun _ q => XS.lstoreN X.here C.1 rfl (hb C.2.2.2.1 hd) rfl hl q) hr
theorem own_astore (X : Stand p l e R s m args below meth c T locs cells slots) (C : OwnCx p s m meth c Z y bs maxL rt) {k : Nat} {v : Value} (hd : decode bs pc = .ok (.astore k, 2)) (pc' : Nat) (hp : pc + 2 = pc') (hv : v.isRef = true) (L' : Array Slot) (hl : storeLocals Ls k v = some L')
    (hr : OwnEnds p e below G (T.setTop (mkF m pc' L' st))) : OwnEnds p e below G (T.setTop (mkF m pc Ls (v :: st))) := by
  subst hp; exact own_st (fun _ q => XS.astore X.here C.1 rfl (hb C.2.2.2.1 hd) rfl hv hl q) hr
theorem own_astore_n (X : Stand p l e R s m args below meth c T locs cells slots) (C : OwnCx p s m meth c Z y bs maxL rt) {k : Fin 4} {v : Value} (hd : decode bs pc = .ok (.astore_n k, 1)) (pc' : Nat) (hp : pc + 1 = pc') (hv : v.isRef = true) (L' : Array Slot) (hl : storeLocals Ls k.val v = some L')
    (hr : OwnEnds p e below G (T.setTop (mkF m pc' L' st))) : OwnEnds p e below G (T.setTop (mkF m pc Ls (v :: st))) := by
  subst hp; exact own_st (fun _ q => XS.astoreN X.here C.1 rfl (hb C.2.2.2.1 hd) rfl hv hl q) hr
theorem own_iinc (X : Stand p l e R s m args below meth c T locs cells slots) (C : OwnCx p s m meth c Z y bs maxL rt) {k : Nat} {cst : Int} {v : Int32} (hd : decode bs pc = .ok (.iinc k cst, 3)) (pc' : Nat) (hp : pc + 3 = pc') (hl : Ls[k]? = some (.val (.int v))) (w : Int32) (hw : Int32.ofInt cst = w) (F : Int32 → Array Slot) (hl' : ∀ z, storeLocals Ls k (.int z) = some (F z))
    (hr : ∀ z, z = v + w → OwnEnds p e below G (T.setTop (mkF m pc' (F z) st))) : OwnEnds p e below G (T.setTop (mkF m pc Ls st)) := by
  subst hp hw; exact own_st (fun _ q => XS.iinc X.here C.1 rfl (hb C.2.2.2.1 hd) hl (hl' _) q) (hr _ rfl)
theorem own_iconst (X : Stand p l e R s m args below meth c T locs cells slots) (C : OwnCx p s m meth c Z y bs maxL rt) {i : Int} (hd : decode bs pc = .ok (.iconst i, 1)) (pc' : Nat) (hp : pc + 1 = pc') (k : Int32) (hk : Int32.ofInt i = k)
    (hr : OwnEnds p e below G (T.setTop (mkF m pc' Ls (.int k :: st)))) : OwnEnds p e below G (T.setTop (mkF m pc Ls st)) := by
  subst hp hk; exact own_st (fun _ q => XS.iconst X.here C.1 rfl (hb C.2.2.2.1 hd) q) hr
theorem own_bipush (X : Stand p l e R s m args below meth c T locs cells slots) (C : OwnCx p s m meth c Z y bs maxL rt) {i : Int} (hd : decode bs pc = .ok (.bipush i, 2)) (pc' : Nat) (hp : pc + 2 = pc') (k : Int32) (hk : (Int8.ofInt i).toInt32 = k)
    (hr : OwnEnds p e below G (T.setTop (mkF m pc' Ls (.int k :: st)))) : OwnEnds p e below G (T.setTop (mkF m pc Ls st)) := by
  subst hp hk; exact own_st (fun _ q => XS.bipush X.here C.1 rfl (hb C.2.2.2.1 hd) q) hr
theorem own_sipush (X : Stand p l e R s m args below meth c T locs cells slots) (C : OwnCx p s m meth c Z y bs maxL rt) {i : Int} (hd : decode bs pc = .ok (.sipush i, 3)) (pc' : Nat) (hp : pc + 3 = pc') (k : Int32) (hk : (Int16.ofInt i).toInt32 = k)
    (hr : OwnEnds p e below G (T.setTop (mkF m pc' Ls (.int k :: st)))) : OwnEnds p e below G (T.setTop (mkF m pc Ls st)) := by
  subst hp hk; exact own_st (fun _ q => XS.sipush X.here C.1 rfl (hb C.2.2.2.1 hd) q) hr
theorem own_lconst (X : Stand p l e R s m args below meth c T locs cells slots) (C : OwnCx p s m meth c Z y bs maxL rt) {i : Fin 2} (hd : decode bs pc = .ok (.lconst i, 1)) (pc' : Nat) (hp : pc + 1 = pc') (k : Int64) (hk : Int64.ofNat i = k)
    (hr : OwnEnds p e below G (T.setTop (mkF m pc' Ls (.long k :: st)))) : OwnEnds p e below G (T.setTop (mkF m pc Ls st)) := by
  subst hp hk; exact own_st (fun _ q => XS.lconst X.here C.1 rfl (hb C.2.2.2.1 hd) q) hr
theorem own_aconst_null (X : Stand p l e R s m args below meth c T locs cells slots) (C : OwnCx p s m meth c Z y bs maxL rt) (hd : decode bs pc = .ok (.aconst_null, 1)) (pc' : Nat) (hp : pc + 1 = pc')
    (hr : OwnEnds p e below G (T.setTop (mkF m pc' Ls (.null :: st)))) : OwnEnds p e below G (T.setTop (mkF m pc Ls st)) := by
  subst hp; exact own_st (fun _ q => XS.aconstNull X.here C.1 rfl (hb C.2.2.2.1 hd) q) hr
theorem own_ldc (X : Stand p l e R s m args below meth c T locs cells slots) (C : OwnCx p s m meth c Z y bs maxL rt) {i : Nat} {v : Int32} (w : (Jvm.Cond.constant y.cls i v).before a0 Z = true) (hd : decode bs pc = .ok (.ldc i, 2)) (pc' : Nat) (hp : pc + 2 = pc')
    (hr : OwnEnds p e below G (T.setTop (mkF m pc' Ls (.int v :: st)))) : OwnEnds p e below G (T.setTop (mkF m pc Ls st)) := by
  subst hp; exact own_st (X.ldcInt C.1 C.2.2.1 (mvT C.2.1 w) (g := mkF m pc Ls st) rfl (hb C.2.2.2.1 hd)) hr
theorem own_ldcw (X : Stand p l e R s m args below meth c T locs cells slots) (C : OwnCx p s m meth c Z y bs maxL rt) {i : Nat} {v : Int32} (w : (Jvm.Cond.constant y.cls i v).before a0 Z = true) (hd : decode bs pc = .ok (.ldc_w i, 3)) (pc' : Nat) (hp : pc + 3 = pc')
    (hr : OwnEnds p e below G (T.setTop (mkF m pc' Ls (.int v :: st)))) : OwnEnds p e below G (T.setTop (mkF m pc Ls st)) := by
  subst hp; exact own_st (X.ldcwInt C.1 C.2.2.1 (mvT C.2.1 w) (g := mkF m pc Ls st) rfl (hb C.2.2.2.1 hd)) hr
theorem own_ldc2 (X : Stand p l e R s m args below meth c T locs cells slots) (C : OwnCx p s m meth c Z y bs maxL rt) {i : Nat} {v : Int64} (w : (Jvm.Cond.constantLong y.cls i v).before a0 Z = true) (hd : decode bs pc = .ok (.ldc2_w i, 3)) (pc' : Nat) (hp : pc + 3 = pc')
    (hr : OwnEnds p e below G (T.setTop (mkF m pc' Ls (.long v :: st)))) : OwnEnds p e below G (T.setTop (mkF m pc Ls st)) := by
  subst hp; exact own_st (X.ldc2Long C.1 C.2.2.1 (mvT C.2.1 w) (g := mkF m pc Ls st) rfl (hb C.2.2.2.1 hd)) hr
theorem own_iadd (X : Stand p l e R s m args below meth c T locs cells slots) (C : OwnCx p s m meth c Z y bs maxL rt) {a b : Int32} (hd : decode bs pc = .ok (.iadd, 1)) (pc' : Nat) (hp : pc + 1 = pc')
    (hr : ∀ z, z = a + b → OwnEnds p e below G (T.setTop (mkF m pc' Ls (.int z :: st)))) : OwnEnds p e below G (T.setTop (mkF m pc Ls (.int b :: .int a :: st))) := by
  subst hp; exact own_st (fun _ q => XS.iadd X.here C.1 rfl (hb C.2.2.2.1 hd) rfl q) (hr _ rfl)
theorem own_isub (X : Stand p l e R s m args below meth c T locs cells slots) (C : OwnCx p s m meth c Z y bs maxL rt) {a b : Int32} (hd : decode bs pc = .ok (.isub, 1)) (pc' : Nat) (hp : pc + 1 = pc')
    (hr : ∀ z, z = a - b → OwnEnds p e below G (T.setTop (mkF m pc' Ls (.int z :: st)))) : OwnEnds p e below G (T.setTop (mkF m pc Ls (.int b :: .int a :: st))) := by
  subst hp; exact own_st (fun _ q => XS.isub X.here C.1 rfl (hb C.2.2.2.1 hd) rfl q) (hr _ rfl)
theorem own_imul (X : Stand p l e R s m args below meth c T locs cells slots) (C : OwnCx p s m meth c Z y bs maxL rt) {a b : Int32} (hd : decode bs pc = .ok (.imul, 1)) (pc' : Nat) (hp : pc + 1 = pc')
    (hr : ∀ z, z = a * b → OwnEnds p e below G (T.setTop (mkF m pc' Ls (.int z :: st)))) : OwnEnds p e below G (T.setTop (mkF m pc Ls (.int b :: .int a :: st))) := by
  subst hp; exact own_st (fun _ q => XS.imul X.here C.1 rfl (hb C.2.2.2.1 hd) rfl q) (hr _ rfl)
theorem own_iand (X : Stand p l e R s m args below meth c T locs cells slots) (C : OwnCx p s m meth c Z y bs maxL rt) {a b : Int32} (hd : decode bs pc = .ok (.iand, 1)) (pc' : Nat) (hp : pc + 1 = pc')
    (hr : ∀ z, z = a &&& b → OwnEnds p e below G (T.setTop (mkF m pc' Ls (.int z :: st)))) : OwnEnds p e below G (T.setTop (mkF m pc Ls (.int b :: .int a :: st))) := by
  subst hp; exact own_st (fun _ q => XS.iand X.here C.1 rfl (hb C.2.2.2.1 hd) rfl q) (hr _ rfl)
theorem own_ior (X : Stand p l e R s m args below meth c T locs cells slots) (C : OwnCx p s m meth c Z y bs maxL rt) {a b : Int32} (hd : decode bs pc = .ok (.ior, 1)) (pc' : Nat) (hp : pc + 1 = pc')
    (hr : ∀ z, z = a ||| b → OwnEnds p e below G (T.setTop (mkF m pc' Ls (.int z :: st)))) : OwnEnds p e below G (T.setTop (mkF m pc Ls (.int b :: .int a :: st))) := by
  subst hp; exact own_st (fun _ q => XS.ior X.here C.1 rfl (hb C.2.2.2.1 hd) rfl q) (hr _ rfl)
theorem own_ixor (X : Stand p l e R s m args below meth c T locs cells slots) (C : OwnCx p s m meth c Z y bs maxL rt) {a b : Int32} (hd : decode bs pc = .ok (.ixor, 1)) (pc' : Nat) (hp : pc + 1 = pc')
    (hr : ∀ z, z = a ^^^ b → OwnEnds p e below G (T.setTop (mkF m pc' Ls (.int z :: st)))) : OwnEnds p e below G (T.setTop (mkF m pc Ls (.int b :: .int a :: st))) := by
  subst hp; exact own_st (fun _ q => XS.ixor X.here C.1 rfl (hb C.2.2.2.1 hd) rfl q) (hr _ rfl)
theorem own_idiv (X : Stand p l e R s m args below meth c T locs cells slots) (C : OwnCx p s m meth c Z y bs maxL rt) {a b : Int32} (hd : decode bs pc = .ok (.idiv, 1)) (pc' : Nat) (hp : pc + 1 = pc') (hz : b ≠ 0)
    (hr : ∀ z, z = a / b → OwnEnds p e below G (T.setTop (mkF m pc' Ls (.int z :: st)))) : OwnEnds p e below G (T.setTop (mkF m pc Ls (.int b :: .int a :: st))) := by
  subst hp; exact own_st (fun _ q => XS.idiv X.here C.1 rfl (hb C.2.2.2.1 hd) rfl hz q) (hr _ rfl)
theorem own_ladd (X : Stand p l e R s m args below meth c T locs cells slots) (C : OwnCx p s m meth c Z y bs maxL rt) {a b : Int64} (hd : decode bs pc = .ok (.ladd, 1)) (pc' : Nat) (hp : pc + 1 = pc')
    (hr : ∀ z, z = a + b → OwnEnds p e below G (T.setTop (mkF m pc' Ls (.long z :: st)))) : OwnEnds p e below G (T.setTop (mkF m pc Ls (.long b :: .long a :: st))) := by
  subst hp; exact own_st (fun _ q => XS.ladd X.here C.1 rfl (hb C.2.2.2.1 hd) rfl q) (hr _ rfl)
theorem own_lsub (X : Stand p l e R s m args below meth c T locs cells slots) (C : OwnCx p s m meth c Z y bs maxL rt) {a b : Int64} (hd : decode bs pc = .ok (.lsub, 1)) (pc' : Nat) (hp : pc + 1 = pc')
    (hr : ∀ z, z = a - b → OwnEnds p e below G (T.setTop (mkF m pc' Ls (.long z :: st)))) : OwnEnds p e below G (T.setTop (mkF m pc Ls (.long b :: .long a :: st))) := by
  subst hp; exact own_st (fun _ q => XS.lsub X.here C.1 rfl (hb C.2.2.2.1 hd) rfl q) (hr _ rfl)
theorem own_lmul (X : Stand p l e R s m args below meth c T locs cells slots) (C : OwnCx p s m meth c Z y bs maxL rt) {a b : Int64} (hd : decode bs pc = .ok (.lmul, 1)) (pc' : Nat) (hp : pc + 1 = pc')
    (hr : ∀ z, z = a * b → OwnEnds p e below G (T.setTop (mkF m pc' Ls (.long z :: st)))) : OwnEnds p e below G (T.setTop (mkF m pc Ls (.long b :: .long a :: st))) := by
  subst hp; exact own_st (fun _ q => XS.lmul X.here C.1 rfl (hb C.2.2.2.1 hd) rfl q) (hr _ rfl)
theorem own_land (X : Stand p l e R s m args below meth c T locs cells slots) (C : OwnCx p s m meth c Z y bs maxL rt) {a b : Int64} (hd : decode bs pc = .ok (.land, 1)) (pc' : Nat) (hp : pc + 1 = pc')
    (hr : ∀ z, z = a &&& b → OwnEnds p e below G (T.setTop (mkF m pc' Ls (.long z :: st)))) : OwnEnds p e below G (T.setTop (mkF m pc Ls (.long b :: .long a :: st))) := by
  subst hp; exact own_st (fun _ q => XS.land X.here C.1 rfl (hb C.2.2.2.1 hd) rfl q) (hr _ rfl)
theorem own_lor (X : Stand p l e R s m args below meth c T locs cells slots) (C : OwnCx p s m meth c Z y bs maxL rt) {a b : Int64} (hd : decode bs pc = .ok (.lor, 1)) (pc' : Nat) (hp : pc + 1 = pc')
    (hr : ∀ z, z = a ||| b → OwnEnds p e below G (T.setTop (mkF m pc' Ls (.long z :: st)))) : OwnEnds p e below G (T.setTop (mkF m pc Ls (.long b :: .long a :: st))) := by
  subst hp; exact own_st (fun _ q => XS.lor X.here C.1 rfl (hb C.2.2.2.1 hd) rfl q) (hr _ rfl)
theorem own_lxor (X : Stand p l e R s m args below meth c T locs cells slots) (C : OwnCx p s m meth c Z y bs maxL rt) {a b : Int64} (hd : decode bs pc = .ok (.lxor, 1)) (pc' : Nat) (hp : pc + 1 = pc')
    (hr : ∀ z, z = a ^^^ b → OwnEnds p e below G (T.setTop (mkF m pc' Ls (.long z :: st)))) : OwnEnds p e below G (T.setTop (mkF m pc Ls (.long b :: .long a :: st))) := by
  subst hp; exact own_st (fun _ q => XS.lxor X.here C.1 rfl (hb C.2.2.2.1 hd) rfl q) (hr _ rfl)
theorem own_ldiv (X : Stand p l e R s m args below meth c T locs cells slots) (C : OwnCx p s m meth c Z y bs maxL rt) {a b : Int64} (hd : decode bs pc = .ok (.ldiv, 1)) (pc' : Nat) (hp : pc + 1 = pc') (hz : b ≠ 0)
    (hr : ∀ z, z = a / b → OwnEnds p e below G (T.setTop (mkF m pc' Ls (.long z :: st)))) : OwnEnds p e below G (T.setTop (mkF m pc Ls (.long b :: .long a :: st))) := by
  subst hp; exact own_st (fun _ q => XS.ldiv X.here C.1 rfl (hb C.2.2.2.1 hd) rfl hz q) (hr _ rfl)
theorem own_irem (X : Stand p l e R s m args below meth c T locs cells slots) (C : OwnCx p s m meth c Z y bs maxL rt) {a b : Int32} (hd : decode bs pc = .ok (.irem, 1)) (pc' : Nat) (hp : pc + 1 = pc') (hz : b ≠ 0)
    (hr : ∀ z, z = a % b → OwnEnds p e below G (T.setTop (mkF m pc' Ls (.int z :: st)))) : OwnEnds p e below G (T.setTop (mkF m pc Ls (.int b :: .int a :: st))) := by
  subst hp; exact own_st (fun _ q => iremM X C.1 rfl (hb C.2.2.2.1 hd) rfl hz q) (hr _ rfl)
theorem own_lrem (X : Stand p l e R s m args below meth c T locs cells slots) (C : OwnCx p s m meth c Z y bs maxL rt) {a b : Int64} (hd : decode bs pc = .ok (.lrem, 1)) (pc' : Nat) (hp : pc + 1 = pc') (hz : b ≠ 0)
    (hr : ∀ z, z = a % b → OwnEnds p e below G (T.setTop (mkF m pc' Ls (.long z :: st)))) : OwnEnds p e below G (T.setTop (mkF m pc Ls (.long b :: .long a :: st))) := by
  subst hp; exact own_st (fun _ q => XS.lrem X.here C.1 rfl (hb C.2.2.2.1 hd) rfl hz q) (hr _ (lrem_mod a b))
theorem own_ishl (X : Stand p l e R s m args below meth c T locs cells slots) (C : OwnCx p s m meth c Z y bs maxL rt) {a : Int32} {b : Int32} (hd : decode bs pc = .ok (.ishl, 1)) (pc' : Nat) (hp : pc + 1 = pc')
    (hr : ∀ z, z = (a <<< (b &&& 31)) → OwnEnds p e below G (T.setTop (mkF m pc' Ls (.int z :: st)))) : OwnEnds p e below G (T.setTop (mkF m pc Ls (.int b :: .int a :: st))) := by
  subst hp; exact own_st (fun _ q => XS.ishl X.here C.1 rfl (hb C.2.2.2.1 hd) rfl q) (hr _ rfl)
theorem own_ishr (X : Stand p l e R s m args below meth c T locs cells slots) (C : OwnCx p s m meth c Z y bs maxL rt) {a : Int32} {b : Int32} (hd : decode bs pc = .ok (.ishr, 1)) (pc' : Nat) (hp : pc + 1 = pc')
    (hr : ∀ z, z = (a >>> (b &&& 31)) → OwnEnds p e below G (T.setTop (mkF m pc' Ls (.int z :: st)))) : OwnEnds p e below G (T.setTop (mkF m pc Ls (.int b :: .int a :: st))) := by
  subst hp; exact own_st (fun _ q => XS.ishr X.here C.1 rfl (hb C.2.2.2.1 hd) rfl q) (hr _ rfl)
theorem own_iushr (X : Stand p l e R s m args below meth c T locs cells slots) (C : OwnCx p s m meth c Z y bs maxL rt) {a : Int32} {b : Int32} (hd : decode bs pc = .ok (.iushr, 1)) (pc' : Nat) (hp : pc + 1 = pc')
    (hr : ∀ z, z = ((a.toUInt32 >>> (b &&& 31).toUInt32).toInt32) → OwnEnds p e below G (T.setTop (mkF m pc' Ls (.int z :: st)))) : OwnEnds p e below G (T.setTop (mkF m pc Ls (.int b :: .int a :: st))) := by
  subst hp; exact own_st (fun _ q => XS.iushr X.here C.1 rfl (hb C.2.2.2.1 hd) rfl q) (hr _ rfl)
theorem own_lshl (X : Stand p l e R s m args below meth c T locs cells slots) (C : OwnCx p s m meth c Z y bs maxL rt) {a : Int64} {b : Int32} (hd : decode bs pc = .ok (.lshl, 1)) (pc' : Nat) (hp : pc + 1 = pc')
    (hr : ∀ z, z = (a <<< (b &&& 0x3f).toInt64) → OwnEnds p e below G (T.setTop (mkF m pc' Ls (.long z :: st)))) : OwnEnds p e below G (T.setTop (mkF m pc Ls (.int b :: .long a :: st))) := by
  subst hp; exact own_st (fun _ q => XS.lshl X.here C.1 rfl (hb C.2.2.2.1 hd) rfl q) (hr _ rfl)
theorem own_lshr (X : Stand p l e R s m args below meth c T locs cells slots) (C : OwnCx p s m meth c Z y bs maxL rt) {a : Int64} {b : Int32} (hd : decode bs pc = .ok (.lshr, 1)) (pc' : Nat) (hp : pc + 1 = pc')
    (hr : ∀ z, z = (a >>> (b &&& 0x3f).toInt64) → OwnEnds p e below G (T.setTop (mkF m pc' Ls (.long z :: st)))) : OwnEnds p e below G (T.setTop (mkF m pc Ls (.int b :: .long a :: st))) := by
  subst hp; exact own_st (fun _ q => XS.lshr X.here C.1 rfl (hb C.2.2.2.1 hd) rfl q) (hr _ rfl)
theorem own_lushr (X : Stand p l e R s m args below meth c T locs cells slots) (C : OwnCx p s m meth c Z y bs maxL rt) {a : Int64} {b : Int32} (hd : decode bs pc = .ok (.lushr, 1)) (pc' : Nat) (hp : pc + 1 = pc')
    (hr : ∀ z, z = ((a.toUInt64 >>> (b &&& 0x3f).toInt64.toUInt64).toInt64) → OwnEnds p e below G (T.setTop (mkF m pc' Ls (.long z :: st)))) : OwnEnds p e below G (T.setTop (mkF m pc Ls (.int b :: .long a :: st))) := by
  subst hp; exact own_st (fun _ q => XS.lushr X.here C.1 rfl (hb C.2.2.2.1 hd) rfl q) (hr _ rfl)
theorem own_ineg (X : Stand p l e R s m args below meth c T locs cells slots) (C : OwnCx p s m meth c Z y bs maxL rt) {a : Int32} (hd : decode bs pc = .ok (.ineg, 1)) (pc' : Nat) (hp : pc + 1 = pc')
    (hr : ∀ z, z = -a → OwnEnds p e below G (T.setTop (mkF m pc' Ls (.int z :: st)))) : OwnEnds p e below G (T.setTop (mkF m pc Ls (.int a :: st))) := by
  subst hp; exact own_st (fun _ q => XS.ineg X.here C.1 rfl (hb C.2.2.2.1 hd) rfl q) (hr _ rfl)
theorem own_lneg (X : Stand p l e R s m args below meth c T locs cells slots) (C : OwnCx p s m meth c Z y bs maxL rt) {a : Int64} (hd : decode bs pc = .ok (.lneg, 1)) (pc' : Nat) (hp : pc + 1 = pc')
    (hr : ∀ z, z = -a → OwnEnds p e below G (T.setTop (mkF m pc' Ls (.long z :: st)))) : OwnEnds p e below G (T.setTop (mkF m pc Ls (.long a :: st))) := by
  subst hp; exact own_st (fun _ q => XS.lneg X.here C.1 rfl (hb C.2.2.2.1 hd) rfl q) (hr _ rfl)
theorem own_i2l (X : Stand p l e R s m args below meth c T locs cells slots) (C : OwnCx p s m meth c Z y bs maxL rt) {a : Int32} (hd : decode bs pc = .ok (.i2l, 1)) (pc' : Nat) (hp : pc + 1 = pc')
    (hr : ∀ z, z = a.toInt64 → OwnEnds p e below G (T.setTop (mkF m pc' Ls (.long z :: st)))) : OwnEnds p e below G (T.setTop (mkF m pc Ls (.int a :: st))) := by
  subst hp; exact own_st (fun _ q => XS.i2l X.here C.1 rfl (hb C.2.2.2.1 hd) rfl q) (hr _ rfl)
theorem own_l2i (X : Stand p l e R s m args below meth c T locs cells slots) (C : OwnCx p s m meth c Z y bs maxL rt) {a : Int64} (hd : decode bs pc = .ok (.l2i, 1)) (pc' : Nat) (hp : pc + 1 = pc')
    (hr : ∀ z, z = a.toInt32 → OwnEnds p e below G (T.setTop (mkF m pc' Ls (.int z :: st)))) : OwnEnds p e below G (T.setTop (mkF m pc Ls (.long a :: st))) := by
  subst hp; exact own_st (fun _ q => XS.l2i X.here C.1 rfl (hb C.2.2.2.1 hd) rfl q) (hr _ rfl)
theorem own_i2b (X : Stand p l e R s m args below meth c T locs cells slots) (C : OwnCx p s m meth c Z y bs maxL rt) {a : Int32} (hd : decode bs pc = .ok (.i2b, 1)) (pc' : Nat) (hp : pc + 1 = pc')
    (hr : ∀ z, z = a.toInt8.toInt32 → OwnEnds p e below G (T.setTop (mkF m pc' Ls (.int z :: st)))) : OwnEnds p e below G (T.setTop (mkF m pc Ls (.int a :: st))) := by
  subst hp; exact own_st (fun _ q => XS.i2b X.here C.1 rfl (hb C.2.2.2.1 hd) rfl q) (hr _ rfl)
theorem own_i2s (X : Stand p l e R s m args below meth c T locs cells slots) (C : OwnCx p s m meth c Z y bs maxL rt) {a : Int32} (hd : decode bs pc = .ok (.i2s, 1)) (pc' : Nat) (hp : pc + 1 = pc')
    (hr : ∀ z, z = a.toInt16.toInt32 → OwnEnds p e below G (T.setTop (mkF m pc' Ls (.int z :: st)))) : OwnEnds p e below G (T.setTop (mkF m pc Ls (.int a :: st))) := by
  subst hp; exact own_st (fun _ q => XS.i2s X.here C.1 rfl (hb C.2.2.2.1 hd) rfl q) (hr _ rfl)
theorem own_i2c (X : Stand p l e R s m args below meth c T locs cells slots) (C : OwnCx p s m meth c Z y bs maxL rt) {a : Int32} (hd : decode bs pc = .ok (.i2c, 1)) (pc' : Nat) (hp : pc + 1 = pc')
    (hr : ∀ z, z = a.toUInt32.toUInt16.toUInt32.toInt32 → OwnEnds p e below G (T.setTop (mkF m pc' Ls (.int z :: st)))) : OwnEnds p e below G (T.setTop (mkF m pc Ls (.int a :: st))) := by
  subst hp; exact own_st (fun _ q => XS.i2c X.here C.1 rfl (hb C.2.2.2.1 hd) rfl q) (hr _ rfl)
theorem own_lcmp (X : Stand p l e R s m args below meth c T locs cells slots) (C : OwnCx p s m meth c Z y bs maxL rt) {a b : Int64} (hd : decode bs pc = .ok (.lcmp, 1)) (pc' : Nat) (hp : pc + 1 = pc')
    (hr : ∀ z : Int32, (a.toInt < b.toInt → z.toInt = -1) → (a.toInt = b.toInt → z.toInt = 0) → (b.toInt < a.toInt → z.toInt = 1) → OwnEnds p e below G (T.setTop (mkF m pc' Ls (.int z :: st)))) : OwnEnds p e below G (T.setTop (mkF m pc Ls (.long b :: .long a :: st))) := by
  subst hp; exact own_st (fun _ q => XS.lcmp X.here C.1 rfl (hb C.2.2.2.1 hd) rfl q) (hr _ (c_lcmp a b).1 (c_lcmp a b).2.1 (c_lcmp a b).2.2)
theorem own_dup (X : Stand p l e R s m args below meth c T locs cells slots) (C : OwnCx p s m meth c Z y bs maxL rt) {v : Value} (hd : decode bs pc = .ok (.dup, 1)) (pc' : Nat) (hp : pc + 1 = pc') (hc : v.category = 1)
    (hr : OwnEnds p e below G (T.setTop (mkF m pc' Ls (v :: v :: st)))) : OwnEnds p e below G (T.setTop (mkF m pc Ls (v :: st))) := by
  subst hp; exact own_st (fun _ q => XS.dup X.here C.1 rfl (hb C.2.2.2.1 hd) rfl hc q) hr
theorem own_dup_x1 (X : Stand p l e R s m args below meth c T locs cells slots) (C : OwnCx p s m meth c Z y bs maxL rt) {v w : Value} (hd : decode bs pc = .ok (.dup_x1, 1)) (pc' : Nat) (hp : pc + 1 = pc') (hc : v.category = 1) (hc' : w.category = 1)
    (hr : OwnEnds p e below G (T.setTop (mkF m pc' Ls (v :: w :: v :: st)))) : OwnEnds p e below G (T.setTop (mkF m pc Ls (v :: w :: st))) := by
  subst hp; exact own_st (fun _ q => XS.dupX1 X.here C.1 rfl (hb C.2.2.2.1 hd) rfl hc hc' q) hr
theorem own_pop (X : Stand p l e R s m args below meth c T locs cells slots) (C : OwnCx p s m meth c Z y bs maxL rt) {v : Value} (hd : decode bs pc = .ok (.pop, 1)) (pc' : Nat) (hp : pc + 1 = pc') (hc : v.category = 1)
    (hr : OwnEnds p e below G (T.setTop (mkF m pc' Ls st))) : OwnEnds p e below G (T.setTop (mkF m pc Ls (v :: st))) := by
  subst hp; exact own_st (fun _ q => XS.pop X.here C.1 rfl (hb C.2.2.2.1 hd) rfl hc q) hr
theorem own_dup2 (X : Stand p l e R s m args below meth c T locs cells slots) (C : OwnCx p s m meth c Z y bs maxL rt) {v w : Value} (hd : decode bs pc = .ok (.dup2, 1)) (pc' : Nat) (hp : pc + 1 = pc') (hc : v.category = 1) (hc' : w.category = 1)
    (hr : OwnEnds p e below G (T.setTop (mkF m pc' Ls (v :: w :: v :: w :: st)))) : OwnEnds p e below G (T.setTop (mkF m pc Ls (v :: w :: st))) := by
  subst hp; exact own_st (fun _ q => XT.dup2 X.here C.1 rfl (hb C.2.2.2.1 hd) rfl hc hc' q) hr
theorem own_goto (X : Stand p l e R s m args below meth c T locs cells slots) (C : OwnCx p s m meth c Z y bs maxL rt) {o : Int} (hd : decode bs pc = .ok (.goto o, 3)) (pc' : Nat) (ho : 0 ≤ (pc : Int) + o) (hp : ((pc : Int) + o).toNat = pc')
    (hr : OwnEnds p e below G (T.setTop (mkF m pc' Ls st))) : OwnEnds p e below G (T.setTop (mkF m pc Ls st)) :=
  own_st (fun _ q => XS.goto X.here C.1 rfl rfl (hb C.2.2.2.1 hd) ho hp q) hr
theorem own_icmplt (X : Stand p l e R s m args below meth c T locs cells slots) (C : OwnCx p s m meth c Z y bs maxL rt) {x' y' : Int32} {o : Int} (hd : decode bs pc = .ok (.if_icmp .lt o, 3)) (pn pc' : Nat) (hpn : pc + 3 = pn) (ho : 0 ≤ (pc : Int) + o) (hp : ((pc : Int) + o).toNat = pc') {i : Int} (hi : x'.toInt = i) {j : Int} (hj : y'.toInt = j) 
    (hy : i < j → OwnEnds p e below G (T.setTop (mkF m pc' Ls st))) (hn : j ≤ i → OwnEnds p e below G (T.setTop (mkF m pn Ls st))) : OwnEnds p e below G (T.setTop (mkF m pc Ls (.int y' :: .int x' :: st))) := by
  subst hpn
  by_cases k : x' < y'
  · exact own_st (fun _ q => XS.icmpYes X.here C.1 rfl rfl (hb C.2.2.2.1 hd) rfl (((tlt k).1)) ho hp q) (hy (by rw [Int32.lt_iff_toInt_lt] at k; have q : y'.toInt = j := hj; omega))
  · exact own_st (fun _ q => XS.icmpNo X.here C.1 rfl (hb C.2.2.2.1 hd) rfl (((flt k).1)) q) (hn (by rw [Int32.lt_iff_toInt_lt] at k; have q : y'.toInt = j := hj; omega))
theorem own_icmpge (X : Stand p l e R s m args below meth c T locs cells slots) (C : OwnCx p s m meth c Z y bs maxL rt) {x' y' : Int32} {o : Int} (hd : decode bs pc = .ok (.if_icmp .ge o, 3)) (pn pc' : Nat) (hpn : pc + 3 = pn) (ho : 0 ≤ (pc : Int) + o) (hp : ((pc : Int) + o).toNat = pc') {i : Int} (hi : x'.toInt = i) {j : Int} (hj : y'.toInt = j) 
    (hy : j ≤ i → OwnEnds p e below G (T.setTop (mkF m pc' Ls st))) (hn : i < j → OwnEnds p e below G (T.setTop (mkF m pn Ls st))) : OwnEnds p e below G (T.setTop (mkF m pc Ls (.int y' :: .int x' :: st))) := by
  subst hpn
  by_cases k : x' < y'
  · exact own_st (fun _ q => XS.icmpNo X.here C.1 rfl (hb C.2.2.2.1 hd) rfl (((tlt k).2.1)) q) (hn (by rw [Int32.lt_iff_toInt_lt] at k; have q : y'.toInt = j := hj; omega))
  · exact own_st (fun _ q => XS.icmpYes X.here C.1 rfl rfl (hb C.2.2.2.1 hd) rfl (((flt k).2.1)) ho hp q) (hy (by rw [Int32.lt_iff_toInt_lt] at k; have q : y'.toInt = j := hj; omega))
theorem own_icmpgt (X : Stand p l e R s m args below meth c T locs cells slots) (C : OwnCx p s m meth c Z y bs maxL rt) {x' y' : Int32} {o : Int} (hd : decode bs pc = .ok (.if_icmp .gt o, 3)) (pn pc' : Nat) (hpn : pc + 3 = pn) (ho : 0 ≤ (pc : Int) + o) (hp : ((pc : Int) + o).toNat = pc') {i : Int} (hi : x'.toInt = i) {j : Int} (hj : y'.toInt = j) 
    (hy : j < i → OwnEnds p e below G (T.setTop (mkF m pc' Ls st))) (hn : i ≤ j → OwnEnds p e below G (T.setTop (mkF m pn Ls st))) : OwnEnds p e below G (T.setTop (mkF m pc Ls (.int y' :: .int x' :: st))) := by
  subst hpn
  by_cases k : y' < x'
  · exact own_st (fun _ q => XS.icmpYes X.here C.1 rfl rfl (hb C.2.2.2.1 hd) rfl (((tlt k).2.2.1)) ho hp q) (hy (by rw [Int32.lt_iff_toInt_lt] at k; have q : y'.toInt = j := hj; omega))
  · exact own_st (fun _ q => XS.icmpNo X.here C.1 rfl (hb C.2.2.2.1 hd) rfl (((flt k).2.2.1)) q) (hn (by rw [Int32.lt_iff_toInt_lt] at k; have q : y'.toInt = j := hj; omega))
theorem own_icmple (X : Stand p l e R s m args below meth c T locs cells slots) (C : OwnCx p s m meth c Z y bs maxL rt) {x' y' : Int32} {o : Int} (hd : decode bs pc = .ok (.if_icmp .le o, 3)) (pn pc' : Nat) (hpn : pc + 3 = pn) (ho : 0 ≤ (pc : Int) + o) (hp : ((pc : Int) + o).toNat = pc') {i : Int} (hi : x'.toInt = i) {j : Int} (hj : y'.toInt = j) 
    (hy : i ≤ j → OwnEnds p e below G (T.setTop (mkF m pc' Ls st))) (hn : j < i → OwnEnds p e below G (T.setTop (mkF m pn Ls st))) : OwnEnds p e below G (T.setTop (mkF m pc Ls (.int y' :: .int x' :: st))) := by
  subst hpn
  by_cases k : y' < x'
  · exact own_st (fun _ q => XS.icmpNo X.here C.1 rfl (hb C.2.2.2.1 hd) rfl (((tlt k).2.2.2)) q) (hn (by rw [Int32.lt_iff_toInt_lt] at k; have q : y'.toInt = j := hj; omega))
  · exact own_st (fun _ q => XS.icmpYes X.here C.1 rfl rfl (hb C.2.2.2.1 hd) rfl (((flt k).2.2.2)) ho hp q) (hy (by rw [Int32.lt_iff_toInt_lt] at k; have q : y'.toInt = j := hj; omega))
theorem own_icmpeq (X : Stand p l e R s m args below meth c T locs cells slots) (C : OwnCx p s m meth c Z y bs maxL rt) {x' y' : Int32} {o : Int} (hd : decode bs pc = .ok (.if_icmp .eq o, 3)) (pn pc' : Nat) (hpn : pc + 3 = pn) (ho : 0 ≤ (pc : Int) + o) (hp : ((pc : Int) + o).toNat = pc') {i : Int} (hi : x'.toInt = i) {j : Int} (hj : y'.toInt = j) 
    (hy : i = j → OwnEnds p e below G (T.setTop (mkF m pc' Ls st))) (hn : i ≠ j → OwnEnds p e below G (T.setTop (mkF m pn Ls st))) : OwnEnds p e below G (T.setTop (mkF m pc Ls (.int y' :: .int x' :: st))) := by
  subst hpn
  by_cases k : x' = y'
  · exact own_st (fun _ q => XS.icmpYes X.here C.1 rfl rfl (hb C.2.2.2.1 hd) rfl (((teq k).1)) ho hp q) (hy (by subst k; exact hi.symm.trans hj))
  · exact own_st (fun _ q => XS.icmpNo X.here C.1 rfl (hb C.2.2.2.1 hd) rfl (((feq k).1)) q) (hn (fun q => k (Int32.toInt_inj.mp (hi.trans (q.trans hj.symm)))))
theorem own_icmpne (X : Stand p l e R s m args below meth c T locs cells slots) (C : OwnCx p s m meth c Z y bs maxL rt) {x' y' : Int32} {o : Int} (hd : decode bs pc = .ok (.if_icmp .ne o, 3)) (pn pc' : Nat) (hpn : pc + 3 = pn) (ho : 0 ≤ (pc : Int) + o) (hp : ((pc : Int) + o).toNat = pc') {i : Int} (hi : x'.toInt = i) {j : Int} (hj : y'.toInt = j) 
    (hy : i ≠ j → OwnEnds p e below G (T.setTop (mkF m pc' Ls st))) (hn : i = j → OwnEnds p e below G (T.setTop (mkF m pn Ls st))) : OwnEnds p e below G (T.setTop (mkF m pc Ls (.int y' :: .int x' :: st))) := by
  subst hpn
  by_cases k : x' = y'
  · exact own_st (fun _ q => XS.icmpNo X.here C.1 rfl (hb C.2.2.2.1 hd) rfl (((teq k).2)) q) (hn (by subst k; exact hi.symm.trans hj))
  · exact own_st (fun _ q => XS.icmpYes X.here C.1 rfl rfl (hb C.2.2.2.1 hd) rfl (((feq k).2)) ho hp q) (hy (fun q => k (Int32.toInt_inj.mp (hi.trans (q.trans hj.symm)))))
theorem own_iflt (X : Stand p l e R s m args below meth c T locs cells slots) (C : OwnCx p s m meth c Z y bs maxL rt) {x' : Int32} {o : Int} (hd : decode bs pc = .ok (.ifCond .lt o, 3)) (pn pc' : Nat) (hpn : pc + 3 = pn) (ho : 0 ≤ (pc : Int) + o) (hp : ((pc : Int) + o).toNat = pc') {i : Int} (hi : x'.toInt = i) 
    (hy : i < 0 → OwnEnds p e below G (T.setTop (mkF m pc' Ls st))) (hn : 0 ≤ i → OwnEnds p e below G (T.setTop (mkF m pn Ls st))) : OwnEnds p e below G (T.setTop (mkF m pc Ls (.int x' :: st))) := by
  subst hpn
  by_cases k : x' < (0 : Int32)
  · exact own_st (fun _ q => XS.ifYes X.here C.1 rfl rfl (hb C.2.2.2.1 hd) rfl ((if0 _ _).trans ((tlt k).1)) ho hp q) (hy (by rw [Int32.lt_iff_toInt_lt] at k; have q : (0 : Int32).toInt = 0 := (rfl : (0 : Int32).toInt = 0); omega))
  · exact own_st (fun _ q => XS.ifNo X.here C.1 rfl (hb C.2.2.2.1 hd) rfl ((if0 _ _).trans ((flt k).1)) q) (hn (by rw [Int32.lt_iff_toInt_lt] at k; have q : (0 : Int32).toInt = 0 := (rfl : (0 : Int32).toInt = 0); omega))
theorem own_ifge (X : Stand p l e R s m args below meth c T locs cells slots) (C : OwnCx p s m meth c Z y bs maxL rt) {x' : Int32} {o : Int} (hd : decode bs pc = .ok (.ifCond .ge o, 3)) (pn pc' : Nat) (hpn : pc + 3 = pn) (ho : 0 ≤ (pc : Int) + o) (hp : ((pc : Int) + o).toNat = pc') {i : Int} (hi : x'.toInt = i) 
    (hy : 0 ≤ i → OwnEnds p e below G (T.setTop (mkF m pc' Ls st))) (hn : i < 0 → OwnEnds p e below G (T.setTop (mkF m pn Ls st))) : OwnEnds p e below G (T.setTop (mkF m pc Ls (.int x' :: st))) := by
  subst hpn
  by_cases k : x' < (0 : Int32)
  · exact own_st (fun _ q => XS.ifNo X.here C.1 rfl (hb C.2.2.2.1 hd) rfl ((if0 _ _).trans ((tlt k).2.1)) q) (hn (by rw [Int32.lt_iff_toInt_lt] at k; have q : (0 : Int32).toInt = 0 := (rfl : (0 : Int32).toInt = 0); omega))
  · exact own_st (fun _ q => XS.ifYes X.here C.1 rfl rfl (hb C.2.2.2.1 hd) rfl ((if0 _ _).trans ((flt k).2.1)) ho hp q) (hy (by rw [Int32.lt_iff_toInt_lt] at k; have q : (0 : Int32).toInt = 0 := (rfl : (0 : Int32).toInt = 0); omega))
theorem own_ifgt (X : Stand p l e R s m args below meth c T locs cells slots) (C : OwnCx p s m meth c Z y bs maxL rt) {x' : Int32} {o : Int} (hd : decode bs pc = .ok (.ifCond .gt o, 3)) (pn pc' : Nat) (hpn : pc + 3 = pn) (ho : 0 ≤ (pc : Int) + o) (hp : ((pc : Int) + o).toNat = pc') {i : Int} (hi : x'.toInt = i) 
    (hy : 0 < i → OwnEnds p e below G (T.setTop (mkF m pc' Ls st))) (hn : i ≤ 0 → OwnEnds p e below G (T.setTop (mkF m pn Ls st))) : OwnEnds p e below G (T.setTop (mkF m pc Ls (.int x' :: st))) := by
  subst hpn
  by_cases k : (0 : Int32) < x'
  · exact own_st (fun _ q => XS.ifYes X.here C.1 rfl rfl (hb C.2.2.2.1 hd) rfl ((if0 _ _).trans ((tlt k).2.2.1)) ho hp q) (hy (by rw [Int32.lt_iff_toInt_lt] at k; have q : (0 : Int32).toInt = 0 := (rfl : (0 : Int32).toInt = 0); omega))
  · exact own_st (fun _ q => XS.ifNo X.here C.1 rfl (hb C.2.2.2.1 hd) rfl ((if0 _ _).trans ((flt k).2.2.1)) q) (hn (by rw [Int32.lt_iff_toInt_lt] at k; have q : (0 : Int32).toInt = 0 := (rfl : (0 : Int32).toInt = 0); omega))
theorem own_ifle (X : Stand p l e R s m args below meth c T locs cells slots) (C : OwnCx p s m meth c Z y bs maxL rt) {x' : Int32} {o : Int} (hd : decode bs pc = .ok (.ifCond .le o, 3)) (pn pc' : Nat) (hpn : pc + 3 = pn) (ho : 0 ≤ (pc : Int) + o) (hp : ((pc : Int) + o).toNat = pc') {i : Int} (hi : x'.toInt = i) 
    (hy : i ≤ 0 → OwnEnds p e below G (T.setTop (mkF m pc' Ls st))) (hn : 0 < i → OwnEnds p e below G (T.setTop (mkF m pn Ls st))) : OwnEnds p e below G (T.setTop (mkF m pc Ls (.int x' :: st))) := by
  subst hpn
  by_cases k : (0 : Int32) < x'
  · exact own_st (fun _ q => XS.ifNo X.here C.1 rfl (hb C.2.2.2.1 hd) rfl ((if0 _ _).trans ((tlt k).2.2.2)) q) (hn (by rw [Int32.lt_iff_toInt_lt] at k; have q : (0 : Int32).toInt = 0 := (rfl : (0 : Int32).toInt = 0); omega))
  · exact own_st (fun _ q => XS.ifYes X.here C.1 rfl rfl (hb C.2.2.2.1 hd) rfl ((if0 _ _).trans ((flt k).2.2.2)) ho hp q) (hy (by rw [Int32.lt_iff_toInt_lt] at k; have q : (0 : Int32).toInt = 0 := (rfl : (0 : Int32).toInt = 0); omega))
theorem own_ifeq (X : Stand p l e R s m args below meth c T locs cells slots) (C : OwnCx p s m meth c Z y bs maxL rt) {x' : Int32} {o : Int} (hd : decode bs pc = .ok (.ifCond .eq o, 3)) (pn pc' : Nat) (hpn : pc + 3 = pn) (ho : 0 ≤ (pc : Int) + o) (hp : ((pc : Int) + o).toNat = pc') {i : Int} (hi : x'.toInt = i) 
    (hy : i = 0 → OwnEnds p e below G (T.setTop (mkF m pc' Ls st))) (hn : i ≠ 0 → OwnEnds p e below G (T.setTop (mkF m pn Ls st))) : OwnEnds p e below G (T.setTop (mkF m pc Ls (.int x' :: st))) := by
  subst hpn
  by_cases k : x' = (0 : Int32)
  · exact own_st (fun _ q => XS.ifYes X.here C.1 rfl rfl (hb C.2.2.2.1 hd) rfl ((if0 _ _).trans ((teq k).1)) ho hp q) (hy (by subst k; exact hi.symm.trans (rfl : (0 : Int32).toInt = 0)))
  · exact own_st (fun _ q => XS.ifNo X.here C.1 rfl (hb C.2.2.2.1 hd) rfl ((if0 _ _).trans ((feq k).1)) q) (hn (fun q => k (Int32.toInt_inj.mp (hi.trans (q.trans (rfl : (0 : Int32).toInt = 0).symm)))))
theorem own_ifne (X : Stand p l e R s m args below meth c T locs cells slots) (C : OwnCx p s m meth c Z y bs maxL rt) {x' : Int32} {o : Int} (hd : decode bs pc = .ok (.ifCond .ne o, 3)) (pn pc' : Nat) (hpn : pc + 3 = pn) (ho : 0 ≤ (pc : Int) + o) (hp : ((pc : Int) + o).toNat = pc') {i : Int} (hi : x'.toInt = i) 
    (hy : i ≠ 0 → OwnEnds p e below G (T.setTop (mkF m pc' Ls st))) (hn : i = 0 → OwnEnds p e below G (T.setTop (mkF m pn Ls st))) : OwnEnds p e below G (T.setTop (mkF m pc Ls (.int x' :: st))) := by
  subst hpn
  by_cases k : x' = (0 : Int32)
  · exact own_st (fun _ q => XS.ifNo X.here C.1 rfl (hb C.2.2.2.1 hd) rfl ((if0 _ _).trans ((teq k).2)) q) (hn (by subst k; exact hi.symm.trans (rfl : (0 : Int32).toInt = 0)))
  · exact own_st (fun _ q => XS.ifYes X.here C.1 rfl rfl (hb C.2.2.2.1 hd) rfl ((if0 _ _).trans ((feq k).2)) ho hp q) (hy (fun q => k (Int32.toInt_inj.mp (hi.trans (q.trans (rfl : (0 : Int32).toInt = 0).symm)))))
theorem own_ifnonnull_y (X : Stand p l e R s m args below meth c T locs cells slots) (C : OwnCx p s m meth c Z y bs maxL rt) {b : Addr} {o : Int} (hd : decode bs pc = .ok (.ifnonnull o, 3)) (pc' : Nat) (ho : 0 ≤ (pc : Int) + o) (hp : ((pc : Int) + o).toNat = pc')
    (hr : OwnEnds p e below G (T.setTop (mkF m pc' Ls st))) : OwnEnds p e below G (T.setTop (mkF m pc Ls (.ref b :: st))) :=
  own_st (fun _ q => XS.ifnonnullYes X.here C.1 rfl rfl (hb C.2.2.2.1 hd) rfl ho hp q) hr
theorem own_ifnull_n (X : Stand p l e R s m args below meth c T locs cells slots) (C : OwnCx p s m meth c Z y bs maxL rt) {b : Addr} {o : Int} (hd : decode bs pc = .ok (.ifnull o, 3)) (pn : Nat) (hp : pc + 3 = pn)
    (hr : OwnEnds p e below G (T.setTop (mkF m pn Ls st))) : OwnEnds p e below G (T.setTop (mkF m pc Ls (.ref b :: st))) := by
  subst hp; exact own_st (fun _ q => XS.ifnullNo X.here C.1 rfl (hb C.2.2.2.1 hd) rfl q) hr
theorem own_ifnull_y (X : Stand p l e R s m args below meth c T locs cells slots) (C : OwnCx p s m meth c Z y bs maxL rt) {o : Int} (hd : decode bs pc = .ok (.ifnull o, 3)) (pc' : Nat) (ho : 0 ≤ (pc : Int) + o) (hp : ((pc : Int) + o).toNat = pc')
    (hr : OwnEnds p e below G (T.setTop (mkF m pc' Ls st))) : OwnEnds p e below G (T.setTop (mkF m pc Ls (.null :: st))) :=
  own_st (fun _ q => XS.ifnullYes X.here C.1 rfl rfl (hb C.2.2.2.1 hd) rfl ho hp q) hr
theorem own_ifnonnull_n (X : Stand p l e R s m args below meth c T locs cells slots) (C : OwnCx p s m meth c Z y bs maxL rt) {o : Int} (hd : decode bs pc = .ok (.ifnonnull o, 3)) (pn : Nat) (hp : pc + 3 = pn)
    (hr : OwnEnds p e below G (T.setTop (mkF m pn Ls st))) : OwnEnds p e below G (T.setTop (mkF m pc Ls (.null :: st))) := by
  subst hp; exact own_st (fun _ q => XS.ifnonnullNo X.here C.1 rfl (hb C.2.2.2.1 hd) rfl q) hr
theorem own_acmpeq (X : Stand p l e R s m args below meth c T locs cells slots) (C : OwnCx p s m meth c Z y bs maxL rt) {a b : Addr} {o : Int} (hd : decode bs pc = .ok (.if_acmp .eq o, 3)) (pn pc' : Nat) (hpn : pc + 3 = pn) (ho : 0 ≤ (pc : Int) + o) (hp : ((pc : Int) + o).toNat = pc')
    (hy : a = b → OwnEnds p e below G (T.setTop (mkF m pc' Ls st))) (hn : a ≠ b → OwnEnds p e below G (T.setTop (mkF m pn Ls st))) : OwnEnds p e below G (T.setTop (mkF m pc Ls (.ref b :: .ref a :: st))) := by
  subst hpn
  by_cases k : a = b
  · exact own_st (fun _ q => XS.acmpYes X.here C.1 rfl rfl (hb C.2.2.2.1 hd) rfl (by simp [if_acmp.holds, k]) ho hp q) (hy k)
  · exact own_st (fun _ q => XS.acmpNo X.here C.1 rfl (hb C.2.2.2.1 hd) rfl (by simp [if_acmp.holds, k]) q) (hn k)
theorem own_acmpne (X : Stand p l e R s m args below meth c T locs cells slots) (C : OwnCx p s m meth c Z y bs maxL rt) {a b : Addr} {o : Int} (hd : decode bs pc = .ok (.if_acmp .ne o, 3)) (pn pc' : Nat) (hpn : pc + 3 = pn) (ho : 0 ≤ (pc : Int) + o) (hp : ((pc : Int) + o).toNat = pc')
    (hy : a ≠ b → OwnEnds p e below G (T.setTop (mkF m pc' Ls st))) (hn : a = b → OwnEnds p e below G (T.setTop (mkF m pn Ls st))) : OwnEnds p e below G (T.setTop (mkF m pc Ls (.ref b :: .ref a :: st))) := by
  subst hpn
  by_cases k : a = b
  · exact own_st (fun _ q => XS.acmpNo X.here C.1 rfl (hb C.2.2.2.1 hd) rfl (by simp [if_acmp.holds, k]) q) (hn k)
  · exact own_st (fun _ q => XS.acmpYes X.here C.1 rfl rfl (hb C.2.2.2.1 hd) rfl (by simp [if_acmp.holds, k]) ho hp q) (hy k)
theorem own_leave (X : Stand p l e R s m args below meth c T locs cells slots) (C : OwnCx p s m meth c Z y bs maxL rt) (v : Option Value) (hv : meth.sig.returnType = none → v = none) (hce : cells ≤ ce) (hsl : slots ≤ sl) (hQ : Q v T.heap locs) {S : State}
    (k : ∀ fs, (∀ (f : JFrame) (acts : List Action), f.method = m → f.locked = none → f.entered = [] → (doReturn e (T.setTop f) acts v).1 = T.setFrames fs) → Steps p.tables e below S (T.setFrames fs)) : OwnEnds p e below (OwnG s ce sl Q) S := by
  obtain ⟨fs, hr, hrun, hended, hW, hsame⟩ := X.leave (v := v) hv C.2.2.2.2.2.2.1
  exact ⟨_, _, k fs hr, hrun, hended, _, _, rfl, hQ, ⟨_, rfl⟩, hW, hsame.mono hce hsl⟩
theorem own_return (X : Stand p l e R s m args below meth c T locs cells slots) (C : OwnCx p s m meth c Z y bs maxL rt) (hrt : rt = none) (hd : decode bs pc = .ok (.return_, 1)) (hce : cells ≤ ce) (hsl : slots ≤ sl) (hQ : Q none T.heap locs) : OwnEnds p e below (OwnG s ce sl Q) (T.setTop (mkF m pc Ls [])) := by
  subst hrt
  exact own_leave X C none (fun _ => rfl) hce hsl hQ fun fs hr => X.returnOut C.1 C.2.2.2.2.2.1 (hb C.2.2.2.1 hd) hr
theorem own_iretN (X : Stand p l e R s m args below meth c T locs cells slots) (C : OwnCx p s m meth c Z y bs maxL rt) {z : Int32} (t : FieldType) (hrt : rt = some t) (ht : t = .boolean ∨ t = .byte ∨ t = .char ∨ t = .short) (hd : decode bs pc = .ok (.ireturn, 1)) (hce : cells ≤ ce) (hsl : slots ≤ sl) (w : Int32) (hw : nar t z = w) (hQ : Q (some (.int w)) T.heap locs) : OwnEnds p e below (OwnG s ce sl Q) (T.setTop (mkF m pc Ls (.int z :: st))) := by
  subst hrt hw
  exact own_leave X C (some (.int (nar t z))) (fun q => by rw [C.2.2.2.2.2.1] at q; cases q) hce hsl hQ fun fs hr => retN X C.1 C.2.2.2.2.2.1 ht (hb C.2.2.2.1 hd) hr
theorem own_ireturn (X : Stand p l e R s m args below meth c T locs cells slots) (C : OwnCx p s m meth c Z y bs maxL rt) {z : Int32} (hrt : rt = some .int) (hd : decode bs pc = .ok (.ireturn, 1)) (hce : cells ≤ ce) (hsl : slots ≤ sl) (hQ : Q (some (.int z)) T.heap locs) : OwnEnds p e below (OwnG s ce sl Q) (T.setTop (mkF m pc Ls (.int z :: st))) := by
  subst hrt
  exact own_leave X C (some (.int z)) (fun q => by rw [C.2.2.2.2.2.1] at q; cases q) hce hsl hQ fun fs hr => retOut X C.1 C.2.2.2.2.2.1 rfl (Or.inl ⟨rfl, Or.inl rfl, z, rfl⟩) (hb C.2.2.2.1 hd) hr
theorem own_lreturn (X : Stand p l e R s m args below meth c T locs cells slots) (C : OwnCx p s m meth c Z y bs maxL rt) {z : Int64} (hrt : rt = some .long) (hd : decode bs pc = .ok (.lreturn, 1)) (hce : cells ≤ ce) (hsl : slots ≤ sl) (hQ : Q (some (.long z)) T.heap locs) : OwnEnds p e below (OwnG s ce sl Q) (T.setTop (mkF m pc Ls (.long z :: st))) := by
  subst hrt
  exact own_leave X C (some (.long z)) (fun q => by rw [C.2.2.2.2.2.1] at q; cases q) hce hsl hQ fun fs hr => retOut X C.1 C.2.2.2.2.2.1 rfl (Or.inr (Or.inl ⟨rfl, rfl, z, rfl⟩)) (hb C.2.2.2.1 hd) hr
theorem own_areturn (X : Stand p l e R s m args below meth c T locs cells slots) (C : OwnCx p s m meth c Z y bs maxL rt) {z : Value} (t : FieldType) (hrt : rt = some t) (ht : t.isReference = true) (hz : z.isRef = true) (hn : narrow t z = z) (hd : decode bs pc = .ok (.areturn, 1)) (hce : cells ≤ ce) (hsl : slots ≤ sl) (hQ : Q (some z) T.heap locs) : OwnEnds p e below (OwnG s ce sl Q) (T.setTop (mkF m pc Ls (z :: st))) := by
  subst hrt
  exact own_leave X C (some z) (fun q => by rw [C.2.2.2.2.2.1] at q; cases q) hce hsl hQ fun fs hr => retOut X C.1 C.2.2.2.2.2.1 hn (Or.inr (Or.inr (Or.inr (Or.inr ⟨rfl, ht, hz⟩)))) (hb C.2.2.2.1 hd) hr
theorem own_callS (X : Stand p l e R s m args below meth c T locs cells slots) (C : OwnCx p s m meth c Z y bs maxL rt) {idx : Nat} {y' : MethodName} {bs' : ByteArray} {maxL' : Nat} {rt' : Option FieldType} {rm : Room} {as' : Array Value} {Q' : Option Value → Heap → List Loc → Prop}
    (w1 : (Jvm.Cond.methodLink y.cls idx y').before a0 Z = true) (w2 : (Jvm.Cond.static y').before a0 Z = true) (w3 : (Jvm.Cond.initialized y'.cls).before a0 Z = true) (w4 : (Jvm.Cond.code y' bs' maxL' rt').before a0 Z = true) (hy : y'.cls ≠ "java/lang/invoke/MethodHandle" ∧ y'.cls ≠ "java/lang/invoke/VarHandle")
    (hM : OwnMet l Z y' bs' maxL' rt' [] rm as' h Q') (eT : T.heap = h) {ps : List FieldType} {r : Option FieldType} (hpd : parseMethodDescriptor y'.desc = some ⟨ps, r⟩) (argsL : List Value) (has : argsL.toArray = as') (hlen : argsL.length = ps.length) (hst : st = argsL.reverse ++ rest) (hsz : Ls.size = maxL)
    (W : Nat) (hW : (rest.map fun v => v.category).sum = W) (hf : rm.frames + 1 ≤ R.frames) (hlo : W + (maxL' + 11) + rm.locals ≤ R.locals) (hce : cells + rm.cells ≤ R.cells) (hsl : slots + rm.slots ≤ R.slots) (hd : decode bs pc = .ok (.invokestatic idx, 3)) (pc' : Nat) (hp : pc + 3 = pc')
    (hr : ∀ T' L v, Stand p l e R s m args below meth c T' (locs ++ L) (cells + rm.cells) (slots + rm.slots) → Q' v T'.heap L → OwnEnds p e below G (T'.setTop (mkF m pc' Ls (v.toList ++ rest)))) : OwnEnds p e below G (T.setTop (mkF m pc Ls st)) := by
  subst hp has hW
  obtain ⟨v, _, ⟨T', L, k, n⟩, -, X', ⟨L', hQ, l1, l2, l3⟩, stp⟩ := Jvm.LawKit.callS X C.1 C.2.2.1 (mvT C.2.1 w1) (mvT C.2.1 w2) (mvT C.2.1 w3) (mvT C.2.1 w4) hy (backOf (len := 3) (W := (rest.map fun v => v.category).sum) hM C.2.1 w4 w3 hf hlo) (g := mkF m pc Ls st) rfl (by rw [C.2.2.2.2.1]; exact hsz) (argsL := argsL) (rest := rest) (lenOf hpd hlen) hst (by show 2 * 0 + _ ≤ _; omega) (hb C.2.2.2.1 hd) (fun _ _ => ⟨rfl, eT, hce, hsl⟩)
  dsimp only [Pt.U, Pt.locs, Pt.cells, Pt.slots] at X' l1 l2 l3 stp hQ
  subst l1 l2 l3
  exact own_st stp (hr T' L' v X' hQ)
/-- a callee that returns w and leaves the heap alone -/
def OwnPure (w : Value) (h : Heap) : Option Value → Heap → List Loc → Prop := fun v h' L => v = some w ∧ h' = h ∧ L = []
theorem own_conv {ws : List Jvm.Cond} {rm : Room} {as' : Array Value} {w w' : Value} (H : OwnMet l Z y bs maxL rt ws rm as' h (OwnPure w h)) (q : w = w') : OwnMet l Z y bs maxL rt ws rm as' h (OwnPure w' h) := q ▸ H
theorem own_callP (X : Stand p l e R s m args below meth c T locs cells slots) (C : OwnCx p s m meth c Z y bs maxL rt) {idx : Nat} {y' : MethodName} {bs' : ByteArray} {maxL' : Nat} {rt' : Option FieldType} {rm : Room} {as' : Array Value} {w : Value}
    (w1 : (Jvm.Cond.methodLink y.cls idx y').before a0 Z = true) (w2 : (Jvm.Cond.static y').before a0 Z = true) (w3 : (Jvm.Cond.initialized y'.cls).before a0 Z = true) (w4 : (Jvm.Cond.code y' bs' maxL' rt').before a0 Z = true) (hy : y'.cls ≠ "java/lang/invoke/MethodHandle" ∧ y'.cls ≠ "java/lang/invoke/VarHandle")
    (hM : OwnMet l Z y' bs' maxL' rt' [] rm as' h (OwnPure w h)) (eT : T.heap = h) {ps : List FieldType} {r : Option FieldType} (hpd : parseMethodDescriptor y'.desc = some ⟨ps, r⟩) (argsL : List Value) (has : argsL.toArray = as') (hlen : argsL.length = ps.length) (hst : st = argsL.reverse ++ rest) (hsz : Ls.size = maxL)
    (W : Nat) (hW : (rest.map fun v => v.category).sum = W) (hf : rm.frames + 1 ≤ R.frames) (hlo : W + (maxL' + 11) + rm.locals ≤ R.locals) (hce : rm.cells = 0) (hsl : rm.slots = 0) (hc0 : cells ≤ R.cells) (hs0 : slots ≤ R.slots) (hd : decode bs pc = .ok (.invokestatic idx, 3)) (pc' : Nat) (hp : pc + 3 = pc')
    (hr : ∀ T', Stand p l e R s m args below meth c T' locs cells slots → T'.heap = h → OwnEnds p e below G (T'.setTop (mkF m pc' Ls (w :: rest)))) : OwnEnds p e below G (T.setTop (mkF m pc Ls st)) := by
  refine own_callS X C w1 w2 w3 w4 hy hM eT hpd argsL has hlen hst hsz W hW hf hlo (by omega) (by omega) hd pc' hp ?_
  rintro T' L v X' ⟨rfl, e, rfl⟩
  rw [List.append_nil, hce, hsl] at X'
  exact hr T' X' e
/-- a callee that leaves the heap alone and returns a value of which Pw says something -/
def OwnSome (Pw : Value → Prop) (h : Heap) : Option Value → Heap → List Loc → Prop := fun v h' L => (∃ w, v = some w ∧ Pw w) ∧ h' = h ∧ L = []
theorem own_callE (X : Stand p l e R s m args below meth c T locs cells slots) (C : OwnCx p s m meth c Z y bs maxL rt) {idx : Nat} {y' : MethodName} {bs' : ByteArray} {maxL' : Nat} {rt' : Option FieldType} {rm : Room} {as' : Array Value} {Pw : Value → Prop}
    (w1 : (Jvm.Cond.methodLink y.cls idx y').before a0 Z = true) (w2 : (Jvm.Cond.static y').before a0 Z = true) (w3 : (Jvm.Cond.initialized y'.cls).before a0 Z = true) (w4 : (Jvm.Cond.code y' bs' maxL' rt').before a0 Z = true) (hy : y'.cls ≠ "java/lang/invoke/MethodHandle" ∧ y'.cls ≠ "java/lang/invoke/VarHandle")
    (hM : OwnMet l Z y' bs' maxL' rt' [] rm as' h (OwnSome Pw h)) (eT : T.heap = h) {ps : List FieldType} {r : Option FieldType} (hpd : parseMethodDescriptor y'.desc = some ⟨ps, r⟩) (argsL : List Value) (has : argsL.toArray = as') (hlen : argsL.length = ps.length) (hst : st = argsL.reverse ++ rest) (hsz : Ls.size = maxL)
    (W : Nat) (hW : (rest.map fun v => v.category).sum = W) (hf : rm.frames + 1 ≤ R.frames) (hlo : W + (maxL' + 11) + rm.locals ≤ R.locals) (hce : rm.cells = 0) (hsl : rm.slots = 0) (hc0 : cells ≤ R.cells) (hs0 : slots ≤ R.slots) (hd : decode bs pc = .ok (.invokestatic idx, 3)) (pc' : Nat) (hp : pc + 3 = pc')
    (hr : ∀ T' w, Pw w → Stand p l e R s m args below meth c T' locs cells slots → T'.heap = h → OwnEnds p e below G (T'.setTop (mkF m pc' Ls (w :: rest)))) : OwnEnds p e below G (T.setTop (mkF m pc Ls st)) := by
  refine own_callS X C w1 w2 w3 w4 hy hM eT hpd argsL has hlen hst hsz W hW hf hlo (by omega) (by omega) hd pc' hp ?_
  rintro T' L v X' ⟨⟨w, rfl, hw⟩, e, rfl⟩
  rw [List.append_nil, hce, hsl] at X'
  exact hr T' w hw X' e
end OwnLayer
section OwnHeap
variable {p : Program} {l : Launch} {e : Env} {R : Room} {s : State} {m : MethodId} {args : Array Value} {below : List Frame} {meth : Method} {c : Code} {T : State} {locs : List Loc} {cells slots : Nat} {Z : State} {y : MethodName} {bs : ByteArray} {maxL : Nat} {rt : Option FieldType} {ce sl : Nat} {Q : Option Value → Heap → List Loc → Prop} {G : Outcome → State → Prop} {pc : Nat} {Ls : Array Slot} {st rest : List Value} {h h' : Heap} {a0 : Array Value} {a : Addr}
/-- an array: its length and what lies at each place -/
def OwnAr (Z : State) (h : Heap) (a : Addr) (ty : FieldType) (n : Nat) (f : Nat → Value) : Prop := ∃ cl : Cell, Arr Z h a cl ty ∧ cl.slots.size = n ∧ ∀ i, i < n → cl.slots[i]? = some (f i)
theorem OwnAr.lt {ty : FieldType} {n : Nat} {f : Nat → Value} (F : OwnAr Z h a ty n f) : a < h.size := by obtain ⟨cl, A, -⟩ := F; exact A.lt
theorem OwnAr.ext {ty : FieldType} {n : Nat} {f : Nat → Value} (F : OwnAr Z h a ty n f) (E : Ext h h') : OwnAr Z h' a ty n f := by obtain ⟨cl, A, r⟩ := F; exact ⟨cl, A.ext E, r⟩
theorem OwnAr.other {ty : FieldType} {n : Nat} {f : Nat → Value} {b : Addr} {sl : Nat} {v : Value} (F : OwnAr Z h a ty n f) (W : Wr h h' b sl v) (q : a ≠ b) : OwnAr Z h' a ty n f := by obtain ⟨cl, A, r⟩ := F; exact ⟨cl, A.other W q, r⟩
theorem OwnAr.keep {ty : FieldType} {n : Nat} {f : Nat → Value} {ws : List Addr} (F : OwnAr Z h a ty n f) (K : Keep h h' ws) (q : a ∉ ws) : OwnAr Z h' a ty n f := by obtain ⟨cl, A, r⟩ := F; exact ⟨cl, ⟨K.2.1 a cl A.1 q, A.2⟩, r⟩
theorem OwnAr.eqv {ty : FieldType} {n : Nat} {f g : Nat → Value} (F : OwnAr Z h a ty n f) (q : ∀ i, i < n → f i = g i) : OwnAr Z h a ty n g := by obtain ⟨cl, A, S, r⟩ := F; exact ⟨cl, A, S, fun i hi => by rw [r i hi, q i hi]⟩
theorem OwnAr.set {ty : FieldType} {n : Nat} {f : Nat → Value} {k : Nat} {v : Value} (F : OwnAr Z h a ty n f) (W : Wr h h' a k v) : OwnAr Z h' a ty n (fun i => if i = k then v else f i) := by
  obtain ⟨cl, A, S, r⟩ := F
  obtain ⟨cl', w1, w2, w3, w4⟩ := id W
  cases A.1.symm.trans w1
  refine ⟨cl.setSlot k v, A.same W, by rw [sz_set]; exact S, fun i hi => ?_⟩
  by_cases q : i = k
  · subst q; simp [Cell.setSlot, w3]
  · simp [Cell.setSlot, q, Array.getElem?_setIfInBounds_ne (Ne.symm q), r i hi]
theorem OwnAr.new {ty : FieldType} {n : Int32} {cA : ClassId} (A : Arr Z h a (newA cA ty n) ty) : OwnAr Z h a ty n.toNatClampNeg (fun _ => defaultValue ty) := ⟨_, A, sz_new _ _ _, fun i hi => by simp [newA, hi]⟩
theorem own_fr1 {k : Nat} {L : List Loc} {a : Addr} {sl : Nat} (N : Fr k L) (q : k ≤ a) : Fr k (L ++ [⟨a, sl⟩]) := N.app fun y hy => by cases List.mem_singleton.mp hy; exact q
theorem own_stak {C n d : String} {v : Value} (F : Sta Z h C n d v) (K : Keep h h' []) : Sta Z h' C n d v := by
  obtain ⟨cf, i, k, f, st, cell, h1, h2, h3, h4, h5, r⟩ := F
  exact ⟨cf, i, k, f, st, cell, h1, h2, h3, h4, K.2.1 _ _ h5 nin0, r⟩
theorem own_arl {a : Nat} {ty : FieldType} {n : Nat} {f : Nat → Value} (F : OwnAr Z h a ty n f) : a < h.size := F.lt
theorem own_exl {a : Nat} {K : String} (F : Exa Z h a K) : a < h.size := F.lt
theorem own_iteI {q : Prop} [Decidable q] {a b : Int32} : (if q then Value.int a else Value.int b) = Value.int (if q then a else b) := by split <;> rfl
theorem own_iteL {q : Prop} [Decidable q] {a b : Int64} : (if q then Value.long a else Value.long b) = Value.long (if q then a else b) := by split <;> rfl
theorem own_ne {x y : Nat} (q : x ≠ y) : @Ne Addr x y := q
theorem own_in {j : Int32} {n : Nat} (h0 : 0 ≤ j.toInt) (h1 : j.toInt < n) : ¬ (j < 0 ∨ n ≤ j.toNatClampNeg) := by
  rintro (q | q)
  · rw [Int32.lt_iff_toInt_lt] at q; have : (0 : Int32).toInt = 0 := rfl; omega
  · have e : j.toNatClampNeg = j.toInt.toNat := rfl
    omega
theorem own_len {n : Nat} (h : n < 2147483648) : (n.toInt32).toInt = n := by
  show (Int32.ofNat n).toInt = _
  rw [Int32.toInt_ofNat_of_lt (by omega)]
theorem own_iastore (X : Stand p l e R s m args below meth c T locs cells slots) (C : OwnCx p s m meth c Z y bs maxL rt) {v : Int32} {j : Int32} {n : Nat} {f : Nat → Value} (eT : T.heap = h) (F : OwnAr Z h a .int n f) (h0 : 0 ≤ j.toInt) (h1 : j.toInt < n) (hd : decode bs pc = .ok (.iastore, 1)) (pc' : Nat) (hp : pc + 1 = pc')
    (hr : ∀ T' h', Stand p l e R s m args below meth c T' (locs ++ [⟨a, j.toInt.toNat⟩]) cells slots → T'.heap = h' → Wr h h' a j.toInt.toNat (.int v) → OwnEnds p e below G (T'.setTop (mkF m pc' Ls st))) : OwnEnds p e below G (T.setTop (mkF m pc Ls ((.int v) :: .int j :: .ref a :: st))) := by
  subst hp
  obtain ⟨cl, A, S, r⟩ := F
  obtain ⟨T', h', X', e', W, stp⟩ := stI X C.1 C.2.1 eT A (j := j) (x := v) (by rw [S]; exact own_in h0 h1) (g := mkF m pc Ls _) rfl rfl (hb C.2.2.2.1 hd)
  exact own_st stp (hr T' h' X' e' W)
theorem own_lastore (X : Stand p l e R s m args below meth c T locs cells slots) (C : OwnCx p s m meth c Z y bs maxL rt) {v : Int64} {j : Int32} {n : Nat} {f : Nat → Value} (eT : T.heap = h) (F : OwnAr Z h a .long n f) (h0 : 0 ≤ j.toInt) (h1 : j.toInt < n) (hd : decode bs pc = .ok (.lastore, 1)) (pc' : Nat) (hp : pc + 1 = pc')
    (hr : ∀ T' h', Stand p l e R s m args below meth c T' (locs ++ [⟨a, j.toInt.toNat⟩]) cells slots → T'.heap = h' → Wr h h' a j.toInt.toNat (.long v) → OwnEnds p e below G (T'.setTop (mkF m pc' Ls st))) : OwnEnds p e below G (T.setTop (mkF m pc Ls ((.long v) :: .int j :: .ref a :: st))) := by
  subst hp
  obtain ⟨cl, A, S, r⟩ := F
  obtain ⟨T', h', X', e', W, stp⟩ := stJ X C.1 C.2.1 eT A (j := j) (x := v) (by rw [S]; exact own_in h0 h1) (g := mkF m pc Ls _) rfl rfl (hb C.2.2.2.1 hd)
  exact own_st stp (hr T' h' X' e' W)
theorem own_bastoreB (X : Stand p l e R s m args below meth c T locs cells slots) (C : OwnCx p s m meth c Z y bs maxL rt) {v : Int32} {j : Int32} {n : Nat} {f : Nat → Value} (eT : T.heap = h) (F : OwnAr Z h a .byte n f) (h0 : 0 ≤ j.toInt) (h1 : j.toInt < n) (hd : decode bs pc = .ok (.bastore, 1)) (pc' : Nat) (hp : pc + 1 = pc') (w : Int32) (hw : v.toInt8.toInt32 = w)
    (hr : ∀ T' h', Stand p l e R s m args below meth c T' (locs ++ [⟨a, j.toInt.toNat⟩]) cells slots → T'.heap = h' → Wr h h' a j.toInt.toNat (.int w) → OwnEnds p e below G (T'.setTop (mkF m pc' Ls st))) : OwnEnds p e below G (T.setTop (mkF m pc Ls (.int v :: .int j :: .ref a :: st))) := by
  subst hp hw
  obtain ⟨cl, A, S, r⟩ := F
  obtain ⟨T', h', X', e', W, stp⟩ := stB X C.1 C.2.1 eT A (j := j) (x := v) (by rw [S]; exact own_in h0 h1) (g := mkF m pc Ls _) rfl rfl (hb C.2.2.2.1 hd)
  exact own_st stp (hr T' h' X' e' W)
theorem own_castore (X : Stand p l e R s m args below meth c T locs cells slots) (C : OwnCx p s m meth c Z y bs maxL rt) {v : Int32} {j : Int32} {n : Nat} {f : Nat → Value} (eT : T.heap = h) (F : OwnAr Z h a .char n f) (h0 : 0 ≤ j.toInt) (h1 : j.toInt < n) (hd : decode bs pc = .ok (.castore, 1)) (pc' : Nat) (hp : pc + 1 = pc') (w : Int32) (hw : nar .char v = w)
    (hr : ∀ T' h', Stand p l e R s m args below meth c T' (locs ++ [⟨a, j.toInt.toNat⟩]) cells slots → T'.heap = h' → Wr h h' a j.toInt.toNat (.int w) → OwnEnds p e below G (T'.setTop (mkF m pc' Ls st))) : OwnEnds p e below G (T.setTop (mkF m pc Ls (.int v :: .int j :: .ref a :: st))) := by
  subst hp hw
  obtain ⟨cl, A, S, r⟩ := F
  obtain ⟨T', h', X', e', W, stp⟩ := stC X C.1 C.2.1 eT A (j := j) (x := v) (by rw [S]; exact own_in h0 h1) (g := mkF m pc Ls _) rfl rfl (hb C.2.2.2.1 hd)
  exact own_st stp (hr T' h' X' e' W)
theorem own_bastoreZ (X : Stand p l e R s m args below meth c T locs cells slots) (C : OwnCx p s m meth c Z y bs maxL rt) {v : Int32} {j : Int32} {n : Nat} {f : Nat → Value} (eT : T.heap = h) (F : OwnAr Z h a .boolean n f) (h0 : 0 ≤ j.toInt) (h1 : j.toInt < n) (hd : decode bs pc = .ok (.bastore, 1)) (pc' : Nat) (hp : pc + 1 = pc') (w : Int32) (hw : nar .boolean v = w)
    (hr : ∀ T' h', Stand p l e R s m args below meth c T' (locs ++ [⟨a, j.toInt.toNat⟩]) cells slots → T'.heap = h' → Wr h h' a j.toInt.toNat (.int w) → OwnEnds p e below G (T'.setTop (mkF m pc' Ls st))) : OwnEnds p e below G (T.setTop (mkF m pc Ls (.int v :: .int j :: .ref a :: st))) := by
  subst hp hw
  obtain ⟨cl, A, S, r⟩ := F
  obtain ⟨T', h', X', e', W, stp⟩ := stZ X C.1 C.2.1 eT A (j := j) (x := v) (by rw [S]; exact own_in h0 h1) (g := mkF m pc Ls _) rfl rfl (hb C.2.2.2.1 hd)
  exact own_st stp (hr T' h' X' e' W)
theorem own_iaload (X : Stand p l e R s m args below meth c T locs cells slots) (C : OwnCx p s m meth c Z y bs maxL rt) {j : Int32} {n : Nat} {f : Nat → Value} (eT : T.heap = h) (F : OwnAr Z h a .int n f) (h0 : 0 ≤ j.toInt) (h1 : j.toInt < n) (hd : decode bs pc = .ok (.iaload, 1)) (pc' : Nat) (hp : pc + 1 = pc') (v : Value) (hv : f j.toInt.toNat = v)
    (hr : OwnEnds p e below G (T.setTop (mkF m pc' Ls (v :: st)))) : OwnEnds p e below G (T.setTop (mkF m pc Ls (.int j :: .ref a :: st))) := by
  subst hp hv
  obtain ⟨cl, A, S, r⟩ := F
  exact own_st (fun _ q => X.iaload C.1 (j := j) (v := f j.toInt.toNat) (by rw [eT]; exact A.1) (State.isArrayOf_alike C.2.1.alike A.2.1) A.2.2 (by rw [S]; exact own_in h0 h1) (show cl.slots[j.toNatClampNeg]? = _ from r j.toInt.toNat (by omega)) (g := mkF m pc Ls _) rfl rfl (hb C.2.2.2.1 hd) _ q) hr
theorem own_laload (X : Stand p l e R s m args below meth c T locs cells slots) (C : OwnCx p s m meth c Z y bs maxL rt) {j : Int32} {n : Nat} {f : Nat → Value} (eT : T.heap = h) (F : OwnAr Z h a .long n f) (h0 : 0 ≤ j.toInt) (h1 : j.toInt < n) (hd : decode bs pc = .ok (.laload, 1)) (pc' : Nat) (hp : pc + 1 = pc') (v : Value) (hv : f j.toInt.toNat = v)
    (hr : OwnEnds p e below G (T.setTop (mkF m pc' Ls (v :: st)))) : OwnEnds p e below G (T.setTop (mkF m pc Ls (.int j :: .ref a :: st))) := by
  subst hp hv
  obtain ⟨cl, A, S, r⟩ := F
  exact own_st (fun _ q => X.laload C.1 (j := j) (v := f j.toInt.toNat) (by rw [eT]; exact A.1) (State.isArrayOf_alike C.2.1.alike A.2.1) A.2.2 (by rw [S]; exact own_in h0 h1) (show cl.slots[j.toNatClampNeg]? = _ from r j.toInt.toNat (by omega)) (g := mkF m pc Ls _) rfl rfl (hb C.2.2.2.1 hd) _ q) hr
theorem own_caload (X : Stand p l e R s m args below meth c T locs cells slots) (C : OwnCx p s m meth c Z y bs maxL rt) {j : Int32} {n : Nat} {f : Nat → Value} (eT : T.heap = h) (F : OwnAr Z h a .char n f) (h0 : 0 ≤ j.toInt) (h1 : j.toInt < n) (hd : decode bs pc = .ok (.caload, 1)) (pc' : Nat) (hp : pc + 1 = pc') (v : Value) (hv : f j.toInt.toNat = v)
    (hr : OwnEnds p e below G (T.setTop (mkF m pc' Ls (v :: st)))) : OwnEnds p e below G (T.setTop (mkF m pc Ls (.int j :: .ref a :: st))) := by
  subst hp hv
  obtain ⟨cl, A, S, r⟩ := F
  exact own_st (fun _ q => X.caload C.1 (j := j) (v := f j.toInt.toNat) (by rw [eT]; exact A.1) (State.isArrayOf_alike C.2.1.alike A.2.1) A.2.2 (by rw [S]; exact own_in h0 h1) (show cl.slots[j.toNatClampNeg]? = _ from r j.toInt.toNat (by omega)) (g := mkF m pc Ls _) rfl rfl (hb C.2.2.2.1 hd) _ q) hr
theorem own_baloadB (X : Stand p l e R s m args below meth c T locs cells slots) (C : OwnCx p s m meth c Z y bs maxL rt) {j : Int32} {n : Nat} {f : Nat → Value} (eT : T.heap = h) (F : OwnAr Z h a .byte n f) (h0 : 0 ≤ j.toInt) (h1 : j.toInt < n) (hd : decode bs pc = .ok (.baload, 1)) (pc' : Nat) (hp : pc + 1 = pc') (v : Value) (hv : f j.toInt.toNat = v)
    (hr : OwnEnds p e below G (T.setTop (mkF m pc' Ls (v :: st)))) : OwnEnds p e below G (T.setTop (mkF m pc Ls (.int j :: .ref a :: st))) := by
  subst hp hv
  obtain ⟨cl, A, S, r⟩ := F
  exact own_st (fun _ q => X.baloadBytes C.1 (j := j) (v := f j.toInt.toNat) (by rw [eT]; exact A.1) (State.isArrayOf_alike C.2.1.alike A.2.1) A.2.2 (by rw [S]; exact own_in h0 h1) (show cl.slots[j.toNatClampNeg]? = _ from r j.toInt.toNat (by omega)) (g := mkF m pc Ls _) rfl rfl (hb C.2.2.2.1 hd) _ q) hr
theorem own_baloadZ (X : Stand p l e R s m args below meth c T locs cells slots) (C : OwnCx p s m meth c Z y bs maxL rt) {j : Int32} {n : Nat} {f : Nat → Value} (eT : T.heap = h) (F : OwnAr Z h a .boolean n f) (h0 : 0 ≤ j.toInt) (h1 : j.toInt < n) (hd : decode bs pc = .ok (.baload, 1)) (pc' : Nat) (hp : pc + 1 = pc') (v : Value) (hv : f j.toInt.toNat = v)
    (hr : OwnEnds p e below G (T.setTop (mkF m pc' Ls (v :: st)))) : OwnEnds p e below G (T.setTop (mkF m pc Ls (.int j :: .ref a :: st))) := by
  subst hp hv
  obtain ⟨cl, A, S, r⟩ := F
  exact own_st (fun _ q => X.baloadBooleans C.1 (j := j) (v := f j.toInt.toNat) (by rw [eT]; exact A.1) (State.isArrayOf_alike C.2.1.alike A.2.1) A.2.2 (by rw [S]; exact own_in h0 h1) (show cl.slots[j.toNatClampNeg]? = _ from r j.toInt.toNat (by omega)) (g := mkF m pc Ls _) rfl rfl (hb C.2.2.2.1 hd) _ q) hr
theorem own_arraylength (X : Stand p l e R s m args below meth c T locs cells slots) (C : OwnCx p s m meth c Z y bs maxL rt) {ty : FieldType} {n : Nat} {f : Nat → Value} (eT : T.heap = h) (F : OwnAr Z h a ty n f) (hd : decode bs pc = .ok (.arraylength, 1)) (pc' : Nat) (hp : pc + 1 = pc') (hn : n < 2147483648)
    (hr : ∀ z : Int32, z.toInt = n → z = n.toInt32 → OwnEnds p e below G (T.setTop (mkF m pc' Ls (.int z :: st)))) : OwnEnds p e below G (T.setTop (mkF m pc Ls (.ref a :: st))) := by
  subst hp
  obtain ⟨cl, A, S, r⟩ := F
  have k := hr n.toInt32 (own_len hn) rfl
  rw [← S] at k
  exact own_st (fun _ q => X.arraylength C.1 (by rw [eT]; exact A.1) (State.isArrayOf_alike C.2.1.alike A.2.1) (g := mkF m pc Ls _) rfl rfl (hb C.2.2.2.1 hd) _ q) k
theorem own_newarray (X : Stand p l e R s m args below meth c T locs cells slots) (C : OwnCx p s m meth c Z y bs maxL rt) {aty : ArrayType} {n : Int32} (w : (Jvm.Cond.arrayClass (newarray.typeOf aty)).before a0 Z = true) (eT : T.heap = h) (hd : decode bs pc = .ok (.newarray aty, 2)) (pc' : Nat) (hp : pc + 2 = pc') (h0 : 0 ≤ n.toInt) (cap : Nat) (hcap : n.toInt ≤ cap) (hbig : cap * 8 ≤ 536870912) (hc : cells + 1 ≤ R.cells) (hl : slots + cap ≤ R.slots)
    (hr : ∀ T' h' b, b = h.size → Stand p l e R s m args below meth c T' locs (cells + 1) (slots + cap) → T'.heap = h' → Ext h h' → OwnAr Z h' b (newarray.typeOf aty) n.toInt.toNat (fun _ => defaultValue (newarray.typeOf aty)) → OwnEnds p e below G (T'.setTop (mkF m pc' Ls (.ref b :: st)))) : OwnEnds p e below G (T.setTop (mkF m pc Ls (.int n :: st))) := by
  subst hp
  have hn0 : ¬ n < 0 := fun q => by rw [Int32.lt_iff_toInt_lt] at q; have : (0 : Int32).toInt = 0 := rfl; omega
  obtain ⟨T', h', cA, X', e', E', A, stp⟩ := newP X C.1 C.2.1 w eT (g := mkF m pc Ls (.int n :: st)) rfl (hb C.2.2.2.1 hd) rfl hn0 (cap := cap) (by show n.toInt.toNat ≤ cap; omega) hbig hc hl
  exact own_st stp (hr T' h' _ rfl X' e' E' (OwnAr.new A))
theorem own_new (X : Stand p l e R s m args below meth c T locs cells slots) (C : OwnCx p s m meth c Z y bs maxL rt) {idx n : Nat} {K : String} (w : (Jvm.Cond.classLink y.cls idx K).before a0 Z = true) (wi : (Jvm.Cond.instantiable K n).before a0 Z = true) (wz : (Jvm.Cond.initialized K).before a0 Z = true) (eT : T.heap = h) (hd : decode bs pc = .ok (.new idx, 3)) (pc' : Nat) (hp : pc + 3 = pc') (hc : cells + 1 ≤ R.cells) (hl : slots + n ≤ R.slots)
    (hr : ∀ T' h' b, b = h.size → Stand p l e R s m args below meth c T' locs (cells + 1) (slots + n) → T'.heap = h' → Ext h h' → Exa Z h' b K → (∀ {O nm d : String} {ty : FieldType}, Laid Z a0 K O nm d → parseFieldDescriptor d = some ty → Fld Z h' b O nm d (defaultValue ty)) → OwnEnds p e below G (T'.setTop (mkF m pc' Ls (.ref b :: st)))) : OwnEnds p e below G (T.setTop (mkF m pc Ls st)) := by
  subst hp
  obtain ⟨T', h', X', e', E', A, D, -, stp⟩ := newO X C.1 C.2.1 C.2.2.1 w wi wz eT (g := mkF m pc Ls st) rfl (hb C.2.2.2.1 hd) hc hl
  exact own_st stp (hr T' h' _ rfl X' e' E' A D)
theorem own_getfield (X : Stand p l e R s m args below meth c T locs cells slots) (C : OwnCx p s m meth c Z y bs maxL rt) {idx : Nat} {R0 O n d host : String} {v : Value} (w : (Jvm.Cond.fieldLink y.cls idx R0 n d).before a0 Z = true ∨ (Jvm.Cond.fieldLinkNest y.cls idx R0 n d host).before a0 Z = true) (via : Via Z R0 O n d) (eT : T.heap = h) (F : Fld Z h a O n d v) (hd : decode bs pc = .ok (.getfield idx, 3)) (pc' : Nat) (hp : pc + 3 = pc')
    (hr : ∀ T', Stand p l e R s m args below meth c T' locs cells slots → T'.heap = h → OwnEnds p e below G (T'.setTop (mkF m pc' Ls (v :: st)))) : OwnEnds p e below G (T.setTop (mkF m pc Ls (.ref a :: st))) := by
  subst hp
  obtain ⟨T', X', e', stp⟩ := getF X C.1 C.2.1 C.2.2.1 w via eT F (g := mkF m pc Ls _) rfl rfl (hb C.2.2.2.1 hd)
  exact own_st stp (hr T' X' e')
theorem own_getstatic (X : Stand p l e R s m args below meth c T locs cells slots) (C : OwnCx p s m meth c Z y bs maxL rt) {idx : Nat} {R0 O n d host : String} {v : Value} (w : (Jvm.Cond.fieldLink y.cls idx R0 n d).before a0 Z = true ∨ (Jvm.Cond.fieldLinkNest y.cls idx R0 n d host).before a0 Z = true) (via : Via Z R0 O n d) (eT : T.heap = h) (F : Sta Z h O n d v) (hd : decode bs pc = .ok (.getstatic idx, 3)) (pc' : Nat) (hp : pc + 3 = pc')
    (hr : ∀ T', Stand p l e R s m args below meth c T' locs cells slots → T'.heap = h → OwnEnds p e below G (T'.setTop (mkF m pc' Ls (v :: st)))) : OwnEnds p e below G (T.setTop (mkF m pc Ls st)) := by
  subst hp
  obtain ⟨T', X', e', stp⟩ := getS2 X C.1 C.2.1 C.2.2.1 w via eT F (g := mkF m pc Ls st) rfl (hb C.2.2.2.1 hd)
  exact own_st stp (hr T' X' e')
theorem own_putfield (X : Stand p l e R s m args below meth c T locs cells slots) (C : OwnCx p s m meth c Z y bs maxL rt) {idx kk : Nat} {R0 O n d host K : String} {ty : FieldType} {v old : Value} (w : (Jvm.Cond.fieldLink y.cls idx R0 n d).before a0 Z = true ∨ (Jvm.Cond.fieldLinkNest y.cls idx R0 n d host).before a0 Z = true) (via : Via Z R0 O n d) (eT : T.heap = h) (F : Fld Z h a O n d old) (E : Exa Z h a K) (L : (Jvm.Cond.lays K O n d).before a0 Z = true ∨ ((Jvm.Cond.laysFinal K O n d).before a0 Z = true ∧ y.cls = O ∧ y.name = "<init>")) (wi : (Jvm.Cond.instantiable K kk).before a0 Z = true)
    (hty : parseFieldDescriptor d = some ty) (hn : narrow ty v = v) (hf : fits ty v = true) (hd : decode bs pc = .ok (.putfield idx, 3)) (pc' : Nat) (hp : pc + 3 = pc')
    (hr : ∀ T' h', Stand p l e R s m args below meth c T' (locs ++ [⟨a, Jvm.RoadKit.slotOf Z O n d⟩]) cells slots → T'.heap = h' → Wr h h' a (Jvm.RoadKit.slotOf Z O n d) v → OwnEnds p e below G (T'.setTop (mkF m pc' Ls st))) : OwnEnds p e below G (T.setTop (mkF m pc Ls (v :: .ref a :: st))) := by
  subst hp
  obtain ⟨T', h', X', e', W, stp⟩ := putF X C.1 C.2.1 C.2.2.1 w via eT F E (L.imp id fun q => ⟨q.1, q.2.1, C.2.2.2.2.2.2.2.trans q.2.2⟩) wi hty hn hf (g := mkF m pc Ls _) rfl rfl (hb C.2.2.2.1 hd)
  exact own_st stp (hr T' h' X' e' W)
theorem own_putfieldN (X : Stand p l e R s m args below meth c T locs cells slots) (C : OwnCx p s m meth c Z y bs maxL rt) {idx kk : Nat} {R0 O n d K : String} {ty : FieldType} {v v' old : Value} (w : (Jvm.Cond.fieldLink y.cls idx R0 n d).before a0 Z = true) (via : Via Z R0 O n d) (eT : T.heap = h) (F : Fld Z h a O n d old) (E : Exa Z h a K) (L : (Jvm.Cond.lays K O n d).before a0 Z = true ∨ ((Jvm.Cond.laysFinal K O n d).before a0 Z = true ∧ y.cls = O ∧ y.name = "<init>")) (wi : (Jvm.Cond.instantiable K kk).before a0 Z = true)
    (hty : parseFieldDescriptor d = some ty) (hn : narrow ty v = v') (hf : fits ty v' = true) (hd : decode bs pc = .ok (.putfield idx, 3)) (pc' : Nat) (hp : pc + 3 = pc')
    (hr : ∀ T' h', Stand p l e R s m args below meth c T' (locs ++ [⟨a, Jvm.RoadKit.slotOf Z O n d⟩]) cells slots → T'.heap = h' → Wr h h' a (Jvm.RoadKit.slotOf Z O n d) v' → OwnEnds p e below G (T'.setTop (mkF m pc' Ls st))) : OwnEnds p e below G (T.setTop (mkF m pc Ls (v :: .ref a :: st))) := by
  subst hp
  obtain ⟨T', h', X', e', W, stp⟩ := putFN X C.1 C.2.1 C.2.2.1 w via eT F E (L.imp id fun q => ⟨q.1, q.2.1, C.2.2.2.2.2.2.2.trans q.2.2⟩) wi hty hn hf (g := mkF m pc Ls _) rfl rfl (hb C.2.2.2.1 hd)
  exact own_st stp (hr T' h' X' e' W)
theorem own_callI (X : Stand p l e R s m args below meth c T locs cells slots) (C : OwnCx p s m meth c Z y bs maxL rt) {idx : Nat} {y' : MethodName} {bs' : ByteArray} {maxL' : Nat} {rt' : Option FieldType} {rm : Room} {as' : Array Value} {Q' : Option Value → Heap → List Loc → Prop} (hrt' : rt' = none)
    (w1 : (Jvm.Cond.methodLink y.cls idx y').before a0 Z = true) (w2 : (Jvm.Cond.instanceMethod y').before a0 Z = true) (w3 : (Jvm.Cond.initialized y'.cls).before a0 Z = true) (w4 : (Jvm.Cond.code y' bs' maxL' rt').before a0 Z = true) (hy1 : y'.name = "<init>") (hy : y'.cls ≠ "java/lang/invoke/MethodHandle" ∧ y'.cls ≠ "java/lang/invoke/VarHandle")
    (hM : OwnMet l Z y' bs' maxL' rt' [] rm as' h Q') (eT : T.heap = h) {ps : List FieldType} {r : Option FieldType} (hpd : parseMethodDescriptor y'.desc = some ⟨ps, r⟩) (argsL : List Value) (has : (Value.ref a :: argsL).toArray = as') (hlen : argsL.length = ps.length) (hst : st = argsL.reverse ++ .ref a :: rest) (hsz : Ls.size = maxL)
    (W : Nat) (hW : (rest.map fun v => v.category).sum = W) (hf : rm.frames + 1 ≤ R.frames) (hlo : W + (maxL' + 11) + rm.locals ≤ R.locals) (hce : cells + rm.cells ≤ R.cells) (hsl : slots + rm.slots ≤ R.slots) (hd : decode bs pc = .ok (.invokespecial idx, 3)) (pc' : Nat) (hp : pc + 3 = pc')
    (hr : ∀ T' L v, Stand p l e R s m args below meth c T' (locs ++ L) (cells + rm.cells) (slots + rm.slots) → Q' v T'.heap L → OwnEnds p e below G (T'.setTop (mkF m pc' Ls (v.toList ++ rest)))) : OwnEnds p e below G (T.setTop (mkF m pc Ls st)) := by
  subst hp has hW hrt'
  obtain ⟨v, _, ⟨T', L, k, n⟩, -, X', ⟨L', hQ, l1, l2, l3⟩, stp⟩ := X.specialBack C.1 hy1 C.2.2.1 (mvT C.2.1 w1) (mvT C.2.1 w2) (mvT C.2.1 w4) hy (backOf (len := 3) (W := (rest.map fun v => v.category).sum) hM C.2.1 w4 w3 hf hlo) (g := mkF m pc Ls st) rfl (by rw [C.2.2.2.2.1]; exact hsz) (Steps.refl _) (a := a) (argsL := argsL) (rest := rest) (lenOf hpd hlen) hst (by show 2 * 0 + _ ≤ _; omega) (hb C.2.2.2.1 hd) (fun _ _ => ⟨rfl, eT, hce, hsl⟩)
  dsimp only [Pt.U, Pt.locs, Pt.cells, Pt.slots] at X' l1 l2 l3 stp hQ
  subst l1 l2 l3
  exact own_tr stp (hr T' L' v X' hQ)
theorem own_callV (X : Stand p l e R s m args below meth c T locs cells slots) (C : OwnCx p s m meth c Z y bs maxL rt) {idx : Nat} {K : String} {y' : MethodName} {bs' : ByteArray} {maxL' : Nat} {rt' : Option FieldType} {rm : Room} {as' : Array Value} {Q' : Option Value → Heap → List Loc → Prop}
    (w1 : (Jvm.Cond.methodLink y.cls idx y').before a0 Z = true) (wd : (Jvm.Cond.declares y').before a0 Z = true) (ws : (Jvm.Cond.selects K y' y').before a0 Z = true) (w2 : (Jvm.Cond.instanceMethod y').before a0 Z = true) (w3 : (Jvm.Cond.initialized y'.cls).before a0 Z = true) (w4 : (Jvm.Cond.code y' bs' maxL' rt').before a0 Z = true) (hy : y'.cls ≠ "java/lang/invoke/MethodHandle" ∧ y'.cls ≠ "java/lang/invoke/VarHandle") (E : Exa Z h a K)
    (hM : OwnMet l Z y' bs' maxL' rt' [] rm as' h Q') (eT : T.heap = h) {ps : List FieldType} {r : Option FieldType} (hpd : parseMethodDescriptor y'.desc = some ⟨ps, r⟩) (argsL : List Value) (has : (Value.ref a :: argsL).toArray = as') (hlen : argsL.length = ps.length) (hst : st = argsL.reverse ++ .ref a :: rest) (hsz : Ls.size = maxL)
    (W : Nat) (hW : (rest.map fun v => v.category).sum = W) (hf : rm.frames + 1 ≤ R.frames) (hlo : W + (maxL' + 11) + rm.locals ≤ R.locals) (hce : cells + rm.cells ≤ R.cells) (hsl : slots + rm.slots ≤ R.slots) (hd : decode bs pc = .ok (.invokevirtual idx, 3)) (pc' : Nat) (hp : pc + 3 = pc')
    (hr : ∀ T' L v, Stand p l e R s m args below meth c T' (locs ++ L) (cells + rm.cells) (slots + rm.slots) → Q' v T'.heap L → OwnEnds p e below G (T'.setTop (mkF m pc' Ls (v.toList ++ rest)))) : OwnEnds p e below G (T.setTop (mkF m pc Ls st)) := by
  subst hp has hW
  obtain ⟨cq, kq, qa, qb, qc⟩ := isOf C.2.1 eT E
  obtain ⟨v, _, ⟨T', L, k, n⟩, -, X', ⟨L', hQ, l1, l2, l3⟩, stp⟩ := X.virtualBack C.1 (y := y') (z := y') C.2.2.1 (mvT C.2.1 w1) (mvT C.2.1 wd) (notFace_of_selects (args := #[]) (mvT C.2.1 ws)) (mvT C.2.1 ws) (mvT C.2.1 w2) hy (backOf (len := 3) (W := (rest.map fun v => v.category).sum) hM C.2.1 w4 w3 hf hlo) qa qc (g := mkF m pc Ls st) rfl (by rw [C.2.2.2.2.1]; exact hsz) (Steps.refl _) (argsL := argsL) (rest := rest) (lenOf hpd hlen) hst (by show 2 * 0 + _ ≤ _; omega) (hb C.2.2.2.1 hd) (fun _ _ => ⟨rfl, eT, hce, hsl⟩)
  dsimp only [Pt.U, Pt.locs, Pt.cells, Pt.slots] at X' l1 l2 l3 stp hQ
  subst l1 l2 l3
  exact own_tr stp (hr T' L' v X' hQ)
theorem own_instY (X : Stand p l e R s m args below meth c T locs cells slots) (C : OwnCx p s m meth c Z y bs maxL rt) {idx : Nat} {K : String} (w : (Jvm.Cond.classLink y.cls idx K).before a0 Z = true) (eT : T.heap = h) (F : Ins Z h a K true) (hd : decode bs pc = .ok (.instanceof idx, 3)) (pc' : Nat) (hp : pc + 3 = pc')
    (hr : ∀ T', Stand p l e R s m args below meth c T' locs cells slots → T'.heap = h → OwnEnds p e below G (T'.setTop (mkF m pc' Ls (.int 1 :: st)))) : OwnEnds p e below G (T.setTop (mkF m pc Ls (.ref a :: st))) := by
  subst hp
  obtain ⟨T', X', e', stp⟩ := instY X C.1 C.2.1 C.2.2.1 w eT F (g := mkF m pc Ls _) rfl rfl (hb C.2.2.2.1 hd)
  exact own_st stp (hr T' X' e')
theorem own_castY (X : Stand p l e R s m args below meth c T locs cells slots) (C : OwnCx p s m meth c Z y bs maxL rt) {idx : Nat} {K : String} (w : (Jvm.Cond.classLink y.cls idx K).before a0 Z = true) (eT : T.heap = h) (F : Ins Z h a K true) (hd : decode bs pc = .ok (.checkcast idx, 3)) (pc' : Nat) (hp : pc + 3 = pc')
    (hr : ∀ T', Stand p l e R s m args below meth c T' locs cells slots → T'.heap = h → OwnEnds p e below G (T'.setTop (mkF m pc' Ls (.ref a :: st)))) : OwnEnds p e below G (T.setTop (mkF m pc Ls (.ref a :: st))) := by
  subst hp
  obtain ⟨T', X', e', stp⟩ := castY X C.1 C.2.1 C.2.2.1 w eT F (g := mkF m pc Ls (.ref a :: st)) rfl (rest := st) rfl (hb C.2.2.2.1 hd)
  exact own_st stp (hr T' X' e')
end OwnHeap
theorem own_w {Z : State} {a0 : Array Value} (hw : ∀ d ∈ tables_1, d.before a0 Z = true) (k : Nat) {d : Jvm.Cond} (q : tables_1[k]? = some d) : d.before a0 Z = true := hw _ (List.mem_of_getElem? q)
theorem own_eqI {args : Array Value} {s : State} {t : Term} {k : Int32} (q : (Jvm.Cond.eq t (.int k)).value args s none s [] = some true) : t.eval args s none [] s = some (.int k) := by
  simp only [Cond.value, Term.int_eval] at q
  cases e : t.eval args s none [] s with
  | none => simp [e] at q
  | some v => cases v <;> simp [e] at q ⊢; exact q
theorem own_lenI {args : Array Value} {s : State} {t : Term} {a : Addr} {cl : Cell} {ty : FieldType} {k : Int32} (ev : t.eval args s none [] s = some (.ref a)) (A : Arr s s.heap a cl ty) (q : (Jvm.Cond.eq (.length t) (.int k)).value args s none s [] = some true) : (cl.slots.size : Int) = k.toInt := by
  have q1 := own_eqI q
  have q2 := A.fin (Vm.Alike.refl _)
  simp only [Term.eval, ev] at q1
  simp [q2] at q1
  obtain ⟨q3, q4⟩ := q1
  rw [← q4, len_toInt (by omega)]
theorem own_elI {args : Array Value} {s : State} {t : Term} {a : Addr} {cl : Cell} {ty : FieldType} {k j : Int32} (ev : t.eval args s none [] s = some (.ref a)) (A : Arr s s.heap a cl ty) (q : (Jvm.Cond.eq (.elem t (.int j)) (.int k)).value args s none s [] = some true) : cl.slots[j.toNatClampNeg]? = some (.int k) :=
  (elem_in (own_eqI q) ev (Term.int_eval j) A.1).2
def own_of (aN aA aS : Addr) (en up : Int32) : Addr := if up.toInt = 0 then aN else if up.toInt = en.toInt then aA else aS
theorem own_pn_ListenerHealth : plainName "com/example/lean_balancer/leanbalancer/stats/ListenerHealth" = true := by first | (simp [plainName, overriddenIn]; done) | decide +kernel
theorem own_pd_II_R_Lcom_example_lean_balancer_leanbalancer_stats_ListenerHealth_ : parseMethodDescriptor "(II)Lcom/example/lean_balancer/leanbalancer/stats/ListenerHealth;" = some ⟨[.int, .int], some (.object "com/example/lean_balancer/leanbalancer/stats/ListenerHealth")⟩ := by decide +kernel
theorem own_d_prog_44_method_4_code_0 : decode prog_44_method_4_code 0 = .ok (.iload_n 1, 1) := by decide +kernel
theorem own_d_prog_44_method_4_code_1 : decode prog_44_method_4_code 1 = .ok (.ifCond .ne 10, 3) := by decide +kernel
theorem own_d_prog_44_method_4_code_4 : decode prog_44_method_4_code 4 = .ok (.getstatic 10, 3) := by decide +kernel
theorem own_d_prog_44_method_4_code_7 : decode prog_44_method_4_code 7 = .ok (.astore_n 2, 1) := by decide +kernel
theorem own_d_prog_44_method_4_code_8 : decode prog_44_method_4_code 8 = .ok (.goto 19, 3) := by decide +kernel
theorem own_d_prog_44_method_4_code_11 : decode prog_44_method_4_code 11 = .ok (.iload_n 1, 1) := by decide +kernel
theorem own_d_prog_44_method_4_code_12 : decode prog_44_method_4_code 12 = .ok (.iload_n 0, 1) := by decide +kernel
theorem own_d_prog_44_method_4_code_13 : decode prog_44_method_4_code 13 = .ok (.if_icmp .ne 10, 3) := by decide +kernel
theorem own_d_prog_44_method_4_code_16 : decode prog_44_method_4_code 16 = .ok (.getstatic 3, 3) := by decide +kernel
theorem own_d_prog_44_method_4_code_19 : decode prog_44_method_4_code 19 = .ok (.astore_n 2, 1) := by decide +kernel
theorem own_d_prog_44_method_4_code_20 : decode prog_44_method_4_code 20 = .ok (.goto 7, 3) := by decide +kernel
theorem own_d_prog_44_method_4_code_23 : decode prog_44_method_4_code 23 = .ok (.getstatic 7, 3) := by decide +kernel
theorem own_d_prog_44_method_4_code_26 : decode prog_44_method_4_code 26 = .ok (.astore_n 2, 1) := by decide +kernel
theorem own_d_prog_44_method_4_code_27 : decode prog_44_method_4_code 27 = .ok (.aload_n 2, 1) := by decide +kernel
theorem own_d_prog_44_method_4_code_28 : decode prog_44_method_4_code 28 = .ok (.areturn, 1) := by decide +kernel
set_option maxRecDepth 65536 in
set_option maxHeartbeats 4000000 in
theorem own_ef_own_rm_of (m : MethodId) (ia0 : Int32) (ia1 : Int32) : entryFrame m #[(.int ia0), (.int ia1)] 3 = (mkF m 0 #[.val (.int ia0), .val (.int ia1), .unset] []) := by first | (simp [entryFrame, mkF, argsToLocals, Value.category]; done) | rfl
set_option maxRecDepth 65536 in
set_option maxHeartbeats 4000000 in
theorem own_rm_of (l : Launch) (Z : State) (a0 : Array Value) (hw : ∀ d ∈ tables_1, d.before a0 Z = true) (ia0 : Int32) (ia1 : Int32) (h : Heap) (aN aA aS : Addr) (S_NONE_HEALTHY : Sta Z h "com/example/lean_balancer/leanbalancer/stats/ListenerHealth" "NONE_HEALTHY" "Lcom/example/lean_balancer/leanbalancer/stats/ListenerHealth;" (.ref aN)) (S_ALL_HEALTHY : Sta Z h "com/example/lean_balancer/leanbalancer/stats/ListenerHealth" "ALL_HEALTHY" "Lcom/example/lean_balancer/leanbalancer/stats/ListenerHealth;" (.ref aA)) (S_SOME_UNHEALTHY : Sta Z h "com/example/lean_balancer/leanbalancer/stats/ListenerHealth" "SOME_UNHEALTHY" "Lcom/example/lean_balancer/leanbalancer/stats/ListenerHealth;" (.ref aS)) :
    OwnMet l Z (⟨"com/example/lean_balancer/leanbalancer/stats/ListenerHealth", "of", "(II)Lcom/example/lean_balancer/leanbalancer/stats/ListenerHealth;"⟩ : MethodName) prog_44_method_4_code 3 (some (.object "com/example/lean_balancer/leanbalancer/stats/ListenerHealth")) [] ({ frames := 0, cells := 0, slots := 0, locals := 0 } : Room) #[(.int ia0), (.int ia1)] h (OwnPure (.ref (own_of aN aA aS ia0 ia1)) h) := by
  refine own_enter (f0 := fun m => mkF m 0 #[.val (.int ia0), .val (.int ia1), .unset] []) (plainFor_of_name own_pn_ListenerHealth) (fun m => own_ef_own_rm_of m ia0 ia1) ?_
  intro p e s m below meth c T0 X0 C e0
  refine own_iload_n X0 C own_d_prog_44_method_4_code_0 1 rfl rfl ?_
  refine own_ifne X0 C own_d_prog_44_method_4_code_1 4 11 rfl (by decide) (by decide) (i := ia1.toInt) rfl (fun b1 => ?_) (fun b1 => ?_)
  · refine own_iload_n X0 C own_d_prog_44_method_4_code_11 12 rfl rfl ?_
    refine own_iload_n X0 C own_d_prog_44_method_4_code_12 13 rfl rfl ?_
    refine own_icmpne X0 C own_d_prog_44_method_4_code_13 16 23 rfl (by decide) (by decide) (i := ia1.toInt) rfl (j := ia0.toInt) rfl (fun b2 => ?_) (fun b2 => ?_)
    · refine own_getstatic X0 C (host := "") (Or.inl (own_w hw 13 rfl)) Via.refl e0 S_SOME_UNHEALTHY own_d_prog_44_method_4_code_23 26 rfl (fun T3 X3 e3 => ?_)
      refine own_astore_n X3 C own_d_prog_44_method_4_code_26 27 rfl rfl #[.val (.int ia0), .val (.int ia1), .val (.ref aS)] rfl ?_
      refine own_aload_n X3 C own_d_prog_44_method_4_code_27 28 rfl rfl rfl ?_
      refine own_areturn X3 C _ rfl rfl rfl rfl own_d_prog_44_method_4_code_28 (by decide) (by decide) ?_
      exact ⟨by rw [show own_of aN aA aS ia0 ia1 = aS from (if_neg (by omega)).trans (if_neg (by omega))], e3, rfl⟩
    · refine own_getstatic X0 C (host := "") (Or.inl (own_w hw 14 rfl)) Via.refl e0 S_ALL_HEALTHY own_d_prog_44_method_4_code_16 19 rfl (fun T4 X4 e4 => ?_)
      refine own_astore_n X4 C own_d_prog_44_method_4_code_19 20 rfl rfl #[.val (.int ia0), .val (.int ia1), .val (.ref aA)] rfl ?_
      refine own_goto X4 C own_d_prog_44_method_4_code_20 27 (by decide) (by decide) ?_
      refine own_aload_n X4 C own_d_prog_44_method_4_code_27 28 rfl rfl rfl ?_
      refine own_areturn X4 C _ rfl rfl rfl rfl own_d_prog_44_method_4_code_28 (by decide) (by decide) ?_
      exact ⟨by rw [show own_of aN aA aS ia0 ia1 = aA from (if_neg (by omega)).trans (if_pos (by omega))], e4, rfl⟩
  · refine own_getstatic X0 C (host := "") (Or.inl (own_w hw 6 rfl)) Via.refl e0 S_NONE_HEALTHY own_d_prog_44_method_4_code_4 7 rfl (fun T5 X5 e5 => ?_)
    refine own_astore_n X5 C own_d_prog_44_method_4_code_7 8 rfl rfl #[.val (.int ia0), .val (.int ia1), .val (.ref aN)] rfl ?_
    refine own_goto X5 C own_d_prog_44_method_4_code_8 27 (by decide) (by decide) ?_
    refine own_aload_n X5 C own_d_prog_44_method_4_code_27 28 rfl rfl rfl ?_
    refine own_areturn X5 C _ rfl rfl rfl rfl own_d_prog_44_method_4_code_28 (by decide) (by decide) ?_
    exact ⟨by rw [show own_of aN aA aS ia0 ia1 = aN from if_pos (by omega)], e5, rfl⟩
theorem own_pn_ListenerHealthOfPinLaw : plainName "com/example/lean_balancer/leanbalancer/stats/ListenerHealthOfPinLaw" = true := by first | (simp [plainName, overriddenIn]; done) | decide +kernel
theorem own_pd_III_R_Z : parseMethodDescriptor "(III)Z" = some ⟨[.int, .int, .int], some .boolean⟩ := by decide +kernel
set_option maxRecDepth 65536 in
set_option maxHeartbeats 4000000 in
theorem own_ef_own_rm_law (m : MethodId) (ia0 : Int32) (ia1 : Int32) (ia2 : Int32) : entryFrame m #[(.int ia0), (.int ia1), (.int ia2)] maxLocals = (mkF m 0 #[.val (.int ia0), .val (.int ia1), .val (.int ia2), .unset, .unset, .unset, .unset, .unset, .unset, .unset, .unset] []) := by first | (simp [entryFrame, mkF, argsToLocals, Value.category, maxLocals]; done) | rfl
set_option maxRecDepth 65536 in
set_option maxHeartbeats 4000000 in
theorem own_rm_law (l : Launch) (Z : State) (a0 : Array Value) (hw : ∀ d ∈ tables_1, d.before a0 Z = true) (ia0 : Int32) (ia1 : Int32) (ia2 : Int32) (h : Heap) (n0 : Nat) (aN aA aS : Addr) (S_NONE_HEALTHY : Sta Z h "com/example/lean_balancer/leanbalancer/stats/ListenerHealth" "NONE_HEALTHY" "Lcom/example/lean_balancer/leanbalancer/stats/ListenerHealth;" (.ref aN)) (S_ALL_HEALTHY : Sta Z h "com/example/lean_balancer/leanbalancer/stats/ListenerHealth" "ALL_HEALTHY" "Lcom/example/lean_balancer/leanbalancer/stats/ListenerHealth;" (.ref aA)) (S_SOME_UNHEALTHY : Sta Z h "com/example/lean_balancer/leanbalancer/stats/ListenerHealth" "SOME_UNHEALTHY" "Lcom/example/lean_balancer/leanbalancer/stats/ListenerHealth;" (.ref aS)) (ne_aN_aA : aN ≠ aA) (ne_aN_aS : aN ≠ aS) (ne_aA_aN : aA ≠ aN) (ne_aA_aS : aA ≠ aS) (ne_aS_aN : aS ≠ aN) (ne_aS_aA : aS ≠ aA) :
    OwnMet l Z x code maxLocals ret tables_1 room_1 #[(.int ia0), (.int ia1), (.int ia2)] h (fun v h' L => v = some (.int 1) ∧ Fr n0 L) := by
  refine own_enter (f0 := fun m => mkF m 0 #[.val (.int ia0), .val (.int ia1), .val (.int ia2), .unset, .unset, .unset, .unset, .unset, .unset, .unset, .unset] []) (plainFor_of_name own_pn_ListenerHealthOfPinLaw) (fun m => own_ef_own_rm_law m ia0 ia1 ia2) ?_
  intro p e s m below meth c T0 X0 C e0
  refine own_iload_n X0 C at_0 1 rfl rfl ?_
  refine own_ldc X0 C (own_w hw 0 rfl) at_1 3 rfl ?_
  refine own_iand X0 C at_3 4 rfl (fun v1 ev1 => ?_)
  have r1 := c_and ia0 2147483647 (by decide)
  rw [← ev1] at r1
  have r2 : (2147483647 : Int32).toInt = 2147483647 := by decide
  have z32 : (0 : Int32).toInt = 0 := by decide
  refine own_istore_n X0 C at_4 5 rfl #[.val (.int ia0), .val (.int ia1), .val (.int ia2), .val (.int v1), .unset, .unset, .unset, .unset, .unset, .unset, .unset] rfl ?_
  refine own_iload_n X0 C at_5 6 rfl rfl ?_
  refine own_iconst X0 C at_6 7 rfl (3) rfl ?_
  refine own_iand X0 C at_7 8 rfl (fun v2 ev2 => ?_)
  refine own_istore X0 C at_8 10 rfl #[.val (.int ia0), .val (.int ia1), .val (.int ia2), .val (.int v1), .val (.int v2), .unset, .unset, .unset, .unset, .unset, .unset] rfl ?_
  refine own_iload X0 C at_10 12 rfl rfl ?_
  refine own_ifne X0 C at_12 15 21 rfl (by decide) (by decide) (i := v2.toInt) rfl (fun b1 => ?_) (fun b1 => ?_)
  · refine own_iload X0 C at_21 23 rfl rfl ?_
    refine own_iconst X0 C at_23 24 rfl (1) rfl ?_
    refine own_icmpne X0 C at_24 27 33 rfl (by decide) (by decide) (i := v2.toInt) rfl (j := 1) (by decide) (fun b2 => ?_) (fun b2 => ?_)
    · refine own_iload_n X0 C at_33 34 rfl rfl ?_
      refine own_i2l X0 C at_34 35 rfl (fun v3 ev3 => ?_)
      refine own_ldc2 X0 C (own_w hw 1 rfl) at_35 38 rfl ?_
      refine own_land X0 C at_38 39 rfl (fun v4 ev4 => ?_)
      refine own_iload_n X0 C at_39 40 rfl rfl ?_
      refine own_i2l X0 C at_40 41 rfl (fun v5 ev5 => ?_)
      refine own_lconst X0 C at_41 42 rfl (1) rfl ?_
      refine own_ladd X0 C at_42 43 rfl (fun v6 ev6 => ?_)
      refine own_lrem X0 C at_43 44 rfl (by
          intro q
          have k3 := c_ladd v5 1
          rw [← ev6, ev5, c_i2l, q] at k3
          have k4 : (1 : Int64).toInt = 1 := by decide
          have k5 : (0 : Int64).toInt = 0 := by decide
          omega) (fun v7 ev7 => ?_)
      refine own_l2i X0 C at_44 45 rfl (fun v8 ev8 => ?_)
      have k1 : v4.toInt % 1 = 0 := by omega
      have k2 := c_maskL v3 2147483647 31 (by decide) (by decide)
      rw [← ev4] at k2
      have k3 := c_ladd v5 1
      rw [← ev6, ev5, c_i2l] at k3
      have k4 : (1 : Int64).toInt = 1 := by decide
      have k5 := rng64 v6
      have k6 : v6.toInt = v1.toInt + 1 := by omega
      have k7 : v7.toInt = v4.toInt % v6.toInt := by
        rw [ev7, Int64.toInt_mod]; exact Int.tmod_eq_emod_of_nonneg (by omega)
      have k8 := Int.emod_nonneg v4.toInt (show v6.toInt ≠ 0 by omega)
      have k9 := Int.emod_lt_of_pos v4.toInt (show 0 < v6.toInt by omega)
      have k10 := c_l2i v7
      rw [← ev8] at k10
      have k11 := rng32 v8
      refine own_istore X0 C at_45 47 rfl #[.val (.int ia0), .val (.int ia1), .val (.int ia2), .val (.int v1), .val (.int v2), .val (.int v8), .unset, .unset, .unset, .unset, .unset] rfl ?_
      refine own_iload_n X0 C at_47 48 rfl rfl ?_
      refine own_iload X0 C at_48 50 rfl rfl ?_
      refine own_isub X0 C at_50 51 rfl (fun v9 ev9 => ?_)
      refine own_istore X0 C at_51 53 rfl #[.val (.int ia0), .val (.int ia1), .val (.int ia2), .val (.int v1), .val (.int v2), .val (.int v8), .val (.int v9), .unset, .unset, .unset, .unset] rfl ?_
      have u1 : 0 ≤ v8.toInt ∧ v8.toInt ≤ v1.toInt := by omega
      have u2 := c_isub v1 v8
      rw [← ev9] at u2
      have u3 := rng32 v9
      have u4 : v9.toInt = v1.toInt - v8.toInt := by omega
      refine own_iload_n X0 C at_53 54 rfl rfl ?_
      refine own_iload X0 C at_54 56 rfl rfl ?_
      refine own_callP X0 C (own_w hw 2 rfl) (own_w hw 3 rfl) (own_w hw 4 rfl) (own_w hw 5 rfl) (by decide) (own_rm_of l Z a0 hw v1 v8 h aN aA aS S_NONE_HEALTHY S_ALL_HEALTHY S_SOME_UNHEALTHY) e0 own_pd_II_R_Lcom_example_lean_balancer_leanbalancer_stats_ListenerHealth_ [(.int v1), (.int v8)] rfl rfl rfl rfl 0 rfl (by decide) (by decide) rfl rfl (by decide) (by decide) at_56 59 rfl (fun T3 X3 e3 => ?_)
      rcases (show (v8.toInt = 0 ∧ own_of aN aA aS v1 v8 = aN) ∨ (v8.toInt ≠ 0 ∧ v8.toInt = v1.toInt ∧ own_of aN aA aS v1 v8 = aA) ∨ (v8.toInt ≠ 0 ∧ v8.toInt ≠ v1.toInt ∧ own_of aN aA aS v1 v8 = aS) by
          by_cases q : v8.toInt = 0
          · left; exact ⟨q, if_pos q⟩
          · by_cases q2 : v8.toInt = v1.toInt
            · right; left; exact ⟨q, q2, (if_neg q).trans (if_pos q2)⟩
            · right; right; exact ⟨q, q2, (if_neg q).trans (if_neg q2)⟩) with ⟨c1, ck⟩ | ⟨c1, c2, ck⟩ | ⟨c1, c2, ck⟩
      · rw [ck]
        refine own_astore X3 C at_59 61 rfl rfl #[.val (.int ia0), .val (.int ia1), .val (.int ia2), .val (.int v1), .val (.int v2), .val (.int v8), .val (.int v9), .val (.ref aN), .unset, .unset, .unset] rfl ?_
        refine own_iload X3 C at_61 63 rfl rfl ?_
        refine own_ifne X3 C at_63 66 70 rfl (by decide) (by decide) (i := v8.toInt) rfl (fun b4 => ?_) (fun b4 => ?_)
        · exfalso
          omega
        · refine own_iconst X3 C at_66 67 rfl (1) rfl ?_
          refine own_goto X3 C at_67 71 (by decide) (by decide) ?_
          refine own_istore X3 C at_71 73 rfl #[.val (.int ia0), .val (.int ia1), .val (.int ia2), .val (.int v1), .val (.int v2), .val (.int v8), .val (.int v9), .val (.ref aN), .val (.int (1 : Int32)), .unset, .unset] rfl ?_
          refine own_iload X3 C at_73 75 rfl rfl ?_
          refine own_ifle X3 C at_75 78 87 rfl (by decide) (by decide) (i := v8.toInt) rfl (fun b5 => ?_) (fun b5 => ?_)
          · refine own_iconst X3 C at_87 88 rfl (0) rfl ?_
            refine own_istore X3 C at_88 90 rfl #[.val (.int ia0), .val (.int ia1), .val (.int ia2), .val (.int v1), .val (.int v2), .val (.int v8), .val (.int v9), .val (.ref aN), .val (.int (1 : Int32)), .val (.int (0 : Int32)), .unset] rfl ?_
            refine own_iload X3 C at_90 92 rfl rfl ?_
            refine own_ifle X3 C at_92 95 104 rfl (by decide) (by decide) (i := v8.toInt) rfl (fun b6 => ?_) (fun b6 => ?_)
            · refine own_iconst X3 C at_104 105 rfl (0) rfl ?_
              refine own_istore X3 C at_105 107 rfl #[.val (.int ia0), .val (.int ia1), .val (.int ia2), .val (.int v1), .val (.int v2), .val (.int v8), .val (.int v9), .val (.ref aN), .val (.int (1 : Int32)), .val (.int (0 : Int32)), .val (.int (0 : Int32))] rfl ?_
              refine own_aload X3 C at_107 109 rfl rfl rfl ?_
              refine own_getstatic X3 C (host := "") (Or.inl (own_w hw 8 rfl)) Via.refl e3 S_NONE_HEALTHY at_109 112 rfl (fun T7 X7 e7 => ?_)
              refine own_acmpne X7 C at_112 115 119 rfl (by decide) (by decide) (fun b8 => ?_) (fun b8 => ?_)
              · exfalso
                exact b8 rfl
              · refine own_iconst X7 C at_115 116 rfl (1) rfl ?_
                refine own_goto X7 C at_116 120 (by decide) (by decide) ?_
                refine own_iload X7 C at_120 122 rfl rfl ?_
                refine own_icmpne X7 C at_122 125 165 rfl (by decide) (by decide) (i := 1) (by decide) (j := 1) (by decide) (fun b9 => ?_) (fun b9 => ?_)
                · exfalso
                  omega
                · refine own_aload X7 C at_125 127 rfl rfl rfl ?_
                  refine own_getstatic X7 C (host := "") (Or.inl (own_w hw 9 rfl)) Via.refl e7 S_ALL_HEALTHY at_127 130 rfl (fun T10 X10 e10 => ?_)
                  refine own_acmpne X10 C at_130 133 137 rfl (by decide) (by decide) (fun b11 => ?_) (fun b11 => ?_)
                  · refine own_iconst X10 C at_137 138 rfl (0) rfl ?_
                    refine own_iload X10 C at_138 140 rfl rfl ?_
                    refine own_icmpne X10 C at_140 143 165 rfl (by decide) (by decide) (i := 0) (by decide) (j := 0) (by decide) (fun b12 => ?_) (fun b12 => ?_)
                    · exfalso
                      omega
                    · refine own_aload X10 C at_143 145 rfl rfl rfl ?_
                      refine own_getstatic X10 C (host := "") (Or.inl (own_w hw 11 rfl)) Via.refl e10 S_SOME_UNHEALTHY at_145 148 rfl (fun T13 X13 e13 => ?_)
                      refine own_acmpne X13 C at_148 151 155 rfl (by decide) (by decide) (fun b14 => ?_) (fun b14 => ?_)
                      · refine own_iconst X13 C at_155 156 rfl (0) rfl ?_
                        refine own_iload X13 C at_156 158 rfl rfl ?_
                        refine own_icmpne X13 C at_158 161 165 rfl (by decide) (by decide) (i := 0) (by decide) (j := 0) (by decide) (fun b15 => ?_) (fun b15 => ?_)
                        · exfalso
                          omega
                        · refine own_iconst X13 C at_161 162 rfl (1) rfl ?_
                          refine own_goto X13 C at_162 166 (by decide) (by decide) ?_
                          refine own_iretN X13 C .boolean rfl (by simp) at_166 (by decide) (by decide) (1) (by decide) ?_
                          exact ⟨rfl, Fr.nil _⟩
                      · exfalso
                        exact ne_aN_aS b14
                  · exfalso
                    exact ne_aN_aA b11
            · exfalso
              omega
          · exfalso
            omega
      · rw [ck]
        refine own_astore X3 C at_59 61 rfl rfl #[.val (.int ia0), .val (.int ia1), .val (.int ia2), .val (.int v1), .val (.int v2), .val (.int v8), .val (.int v9), .val (.ref aA), .unset, .unset, .unset] rfl ?_
        refine own_iload X3 C at_61 63 rfl rfl ?_
        refine own_ifne X3 C at_63 66 70 rfl (by decide) (by decide) (i := v8.toInt) rfl (fun b16 => ?_) (fun b16 => ?_)
        · refine own_iconst X3 C at_70 71 rfl (0) rfl ?_
          refine own_istore X3 C at_71 73 rfl #[.val (.int ia0), .val (.int ia1), .val (.int ia2), .val (.int v1), .val (.int v2), .val (.int v8), .val (.int v9), .val (.ref aA), .val (.int (0 : Int32)), .unset, .unset] rfl ?_
          refine own_iload X3 C at_73 75 rfl rfl ?_
          refine own_ifle X3 C at_75 78 87 rfl (by decide) (by decide) (i := v8.toInt) rfl (fun b17 => ?_) (fun b17 => ?_)
          · exfalso
            omega
          · refine own_iload X3 C at_78 80 rfl rfl ?_
            refine own_ifne X3 C at_80 83 87 rfl (by decide) (by decide) (i := v9.toInt) rfl (fun b18 => ?_) (fun b18 => ?_)
            · exfalso
              omega
            · refine own_iconst X3 C at_83 84 rfl (1) rfl ?_
              refine own_goto X3 C at_84 88 (by decide) (by decide) ?_
              refine own_istore X3 C at_88 90 rfl #[.val (.int ia0), .val (.int ia1), .val (.int ia2), .val (.int v1), .val (.int v2), .val (.int v8), .val (.int v9), .val (.ref aA), .val (.int (0 : Int32)), .val (.int (1 : Int32)), .unset] rfl ?_
              refine own_iload X3 C at_90 92 rfl rfl ?_
              refine own_ifle X3 C at_92 95 104 rfl (by decide) (by decide) (i := v8.toInt) rfl (fun b19 => ?_) (fun b19 => ?_)
              · exfalso
                omega
              · refine own_iload X3 C at_95 97 rfl rfl ?_
                refine own_ifle X3 C at_97 100 104 rfl (by decide) (by decide) (i := v9.toInt) rfl (fun b20 => ?_) (fun b20 => ?_)
                · refine own_iconst X3 C at_104 105 rfl (0) rfl ?_
                  refine own_istore X3 C at_105 107 rfl #[.val (.int ia0), .val (.int ia1), .val (.int ia2), .val (.int v1), .val (.int v2), .val (.int v8), .val (.int v9), .val (.ref aA), .val (.int (0 : Int32)), .val (.int (1 : Int32)), .val (.int (0 : Int32))] rfl ?_
                  refine own_aload X3 C at_107 109 rfl rfl rfl ?_
                  refine own_getstatic X3 C (host := "") (Or.inl (own_w hw 8 rfl)) Via.refl e3 S_NONE_HEALTHY at_109 112 rfl (fun T21 X21 e21 => ?_)
                  refine own_acmpne X21 C at_112 115 119 rfl (by decide) (by decide) (fun b22 => ?_) (fun b22 => ?_)
                  · refine own_iconst X21 C at_119 120 rfl (0) rfl ?_
                    refine own_iload X21 C at_120 122 rfl rfl ?_
                    refine own_icmpne X21 C at_122 125 165 rfl (by decide) (by decide) (i := 0) (by decide) (j := 0) (by decide) (fun b23 => ?_) (fun b23 => ?_)
                    · exfalso
                      omega
                    · refine own_aload X21 C at_125 127 rfl rfl rfl ?_
                      refine own_getstatic X21 C (host := "") (Or.inl (own_w hw 9 rfl)) Via.refl e21 S_ALL_HEALTHY at_127 130 rfl (fun T24 X24 e24 => ?_)
                      refine own_acmpne X24 C at_130 133 137 rfl (by decide) (by decide) (fun b25 => ?_) (fun b25 => ?_)
                      · exfalso
                        exact b25 rfl
                      · refine own_iconst X24 C at_133 134 rfl (1) rfl ?_
                        refine own_goto X24 C at_134 138 (by decide) (by decide) ?_
                        refine own_iload X24 C at_138 140 rfl rfl ?_
                        refine own_icmpne X24 C at_140 143 165 rfl (by decide) (by decide) (i := 1) (by decide) (j := 1) (by decide) (fun b26 => ?_) (fun b26 => ?_)
                        · exfalso
                          omega
                        · refine own_aload X24 C at_143 145 rfl rfl rfl ?_
                          refine own_getstatic X24 C (host := "") (Or.inl (own_w hw 11 rfl)) Via.refl e24 S_SOME_UNHEALTHY at_145 148 rfl (fun T27 X27 e27 => ?_)
                          refine own_acmpne X27 C at_148 151 155 rfl (by decide) (by decide) (fun b28 => ?_) (fun b28 => ?_)
                          · refine own_iconst X27 C at_155 156 rfl (0) rfl ?_
                            refine own_iload X27 C at_156 158 rfl rfl ?_
                            refine own_icmpne X27 C at_158 161 165 rfl (by decide) (by decide) (i := 0) (by decide) (j := 0) (by decide) (fun b29 => ?_) (fun b29 => ?_)
                            · exfalso
                              omega
                            · refine own_iconst X27 C at_161 162 rfl (1) rfl ?_
                              refine own_goto X27 C at_162 166 (by decide) (by decide) ?_
                              refine own_iretN X27 C .boolean rfl (by simp) at_166 (by decide) (by decide) (1) (by decide) ?_
                              exact ⟨rfl, Fr.nil _⟩
                          · exfalso
                            exact ne_aA_aS b28
                  · exfalso
                    exact ne_aA_aN b22
                · exfalso
                  omega
        · exfalso
          omega
      · rw [ck]
        refine own_astore X3 C at_59 61 rfl rfl #[.val (.int ia0), .val (.int ia1), .val (.int ia2), .val (.int v1), .val (.int v2), .val (.int v8), .val (.int v9), .val (.ref aS), .unset, .unset, .unset] rfl ?_
        refine own_iload X3 C at_61 63 rfl rfl ?_
        refine own_ifne X3 C at_63 66 70 rfl (by decide) (by decide) (i := v8.toInt) rfl (fun b30 => ?_) (fun b30 => ?_)
        · refine own_iconst X3 C at_70 71 rfl (0) rfl ?_
          refine own_istore X3 C at_71 73 rfl #[.val (.int ia0), .val (.int ia1), .val (.int ia2), .val (.int v1), .val (.int v2), .val (.int v8), .val (.int v9), .val (.ref aS), .val (.int (0 : Int32)), .unset, .unset] rfl ?_
          refine own_iload X3 C at_73 75 rfl rfl ?_
          refine own_ifle X3 C at_75 78 87 rfl (by decide) (by decide) (i := v8.toInt) rfl (fun b31 => ?_) (fun b31 => ?_)
          · exfalso
            omega
          · refine own_iload X3 C at_78 80 rfl rfl ?_
            refine own_ifne X3 C at_80 83 87 rfl (by decide) (by decide) (i := v9.toInt) rfl (fun b32 => ?_) (fun b32 => ?_)
            · refine own_iconst X3 C at_87 88 rfl (0) rfl ?_
              refine own_istore X3 C at_88 90 rfl #[.val (.int ia0), .val (.int ia1), .val (.int ia2), .val (.int v1), .val (.int v2), .val (.int v8), .val (.int v9), .val (.ref aS), .val (.int (0 : Int32)), .val (.int (0 : Int32)), .unset] rfl ?_
              refine own_iload X3 C at_90 92 rfl rfl ?_
              refine own_ifle X3 C at_92 95 104 rfl (by decide) (by decide) (i := v8.toInt) rfl (fun b33 => ?_) (fun b33 => ?_)
              · exfalso
                omega
              · refine own_iload X3 C at_95 97 rfl rfl ?_
                refine own_ifle X3 C at_97 100 104 rfl (by decide) (by decide) (i := v9.toInt) rfl (fun b34 => ?_) (fun b34 => ?_)
                · exfalso
                  omega
                · refine own_iconst X3 C at_100 101 rfl (1) rfl ?_
                  refine own_goto X3 C at_101 105 (by decide) (by decide) ?_
                  refine own_istore X3 C at_105 107 rfl #[.val (.int ia0), .val (.int ia1), .val (.int ia2), .val (.int v1), .val (.int v2), .val (.int v8), .val (.int v9), .val (.ref aS), .val (.int (0 : Int32)), .val (.int (0 : Int32)), .val (.int (1 : Int32))] rfl ?_
                  refine own_aload X3 C at_107 109 rfl rfl rfl ?_
                  refine own_getstatic X3 C (host := "") (Or.inl (own_w hw 8 rfl)) Via.refl e3 S_NONE_HEALTHY at_109 112 rfl (fun T35 X35 e35 => ?_)
                  refine own_acmpne X35 C at_112 115 119 rfl (by decide) (by decide) (fun b36 => ?_) (fun b36 => ?_)
                  · refine own_iconst X35 C at_119 120 rfl (0) rfl ?_
                    refine own_iload X35 C at_120 122 rfl rfl ?_
                    refine own_icmpne X35 C at_122 125 165 rfl (by decide) (by decide) (i := 0) (by decide) (j := 0) (by decide) (fun b37 => ?_) (fun b37 => ?_)
                    · exfalso
                      omega
                    · refine own_aload X35 C at_125 127 rfl rfl rfl ?_
                      refine own_getstatic X35 C (host := "") (Or.inl (own_w hw 9 rfl)) Via.refl e35 S_ALL_HEALTHY at_127 130 rfl (fun T38 X38 e38 => ?_)
                      refine own_acmpne X38 C at_130 133 137 rfl (by decide) (by decide) (fun b39 => ?_) (fun b39 => ?_)
                      · refine own_iconst X38 C at_137 138 rfl (0) rfl ?_
                        refine own_iload X38 C at_138 140 rfl rfl ?_
                        refine own_icmpne X38 C at_140 143 165 rfl (by decide) (by decide) (i := 0) (by decide) (j := 0) (by decide) (fun b40 => ?_) (fun b40 => ?_)
                        · exfalso
                          omega
                        · refine own_aload X38 C at_143 145 rfl rfl rfl ?_
                          refine own_getstatic X38 C (host := "") (Or.inl (own_w hw 11 rfl)) Via.refl e38 S_SOME_UNHEALTHY at_145 148 rfl (fun T41 X41 e41 => ?_)
                          refine own_acmpne X41 C at_148 151 155 rfl (by decide) (by decide) (fun b42 => ?_) (fun b42 => ?_)
                          · exfalso
                            exact b42 rfl
                          · refine own_iconst X41 C at_151 152 rfl (1) rfl ?_
                            refine own_goto X41 C at_152 156 (by decide) (by decide) ?_
                            refine own_iload X41 C at_156 158 rfl rfl ?_
                            refine own_icmpne X41 C at_158 161 165 rfl (by decide) (by decide) (i := 1) (by decide) (j := 1) (by decide) (fun b43 => ?_) (fun b43 => ?_)
                            · exfalso
                              omega
                            · refine own_iconst X41 C at_161 162 rfl (1) rfl ?_
                              refine own_goto X41 C at_162 166 (by decide) (by decide) ?_
                              refine own_iretN X41 C .boolean rfl (by simp) at_166 (by decide) (by decide) (1) (by decide) ?_
                              exact ⟨rfl, Fr.nil _⟩
                      · exfalso
                        exact ne_aS_aA b39
                  · exfalso
                    exact ne_aS_aN b36
            · exfalso
              omega
        · exfalso
          omega
    · refine own_iload_n X0 C at_27 28 rfl rfl ?_
      refine own_istore X0 C at_28 30 rfl #[.val (.int ia0), .val (.int ia1), .val (.int ia2), .val (.int v1), .val (.int v2), .val (.int v1), .unset, .unset, .unset, .unset, .unset] rfl ?_
      refine own_goto X0 C at_30 47 (by decide) (by decide) ?_
      refine own_iload_n X0 C at_47 48 rfl rfl ?_
      refine own_iload X0 C at_48 50 rfl rfl ?_
      refine own_isub X0 C at_50 51 rfl (fun v10 ev10 => ?_)
      refine own_istore X0 C at_51 53 rfl #[.val (.int ia0), .val (.int ia1), .val (.int ia2), .val (.int v1), .val (.int v2), .val (.int v1), .val (.int v10), .unset, .unset, .unset, .unset] rfl ?_
      have u1 : 0 ≤ v1.toInt ∧ v1.toInt ≤ v1.toInt := by omega
      have u2 := c_isub v1 v1
      rw [← ev10] at u2
      have u3 := rng32 v10
      have u4 : v10.toInt = v1.toInt - v1.toInt := by omega
      refine own_iload_n X0 C at_53 54 rfl rfl ?_
      refine own_iload X0 C at_54 56 rfl rfl ?_
      refine own_callP X0 C (own_w hw 2 rfl) (own_w hw 3 rfl) (own_w hw 4 rfl) (own_w hw 5 rfl) (by decide) (own_rm_of l Z a0 hw v1 v1 h aN aA aS S_NONE_HEALTHY S_ALL_HEALTHY S_SOME_UNHEALTHY) e0 own_pd_II_R_Lcom_example_lean_balancer_leanbalancer_stats_ListenerHealth_ [(.int v1), (.int v1)] rfl rfl rfl rfl 0 rfl (by decide) (by decide) rfl rfl (by decide) (by decide) at_56 59 rfl (fun T44 X44 e44 => ?_)
      rcases (show (v1.toInt = 0 ∧ own_of aN aA aS v1 v1 = aN) ∨ (v1.toInt ≠ 0 ∧ v1.toInt = v1.toInt ∧ own_of aN aA aS v1 v1 = aA) ∨ (v1.toInt ≠ 0 ∧ v1.toInt ≠ v1.toInt ∧ own_of aN aA aS v1 v1 = aS) by
          by_cases q : v1.toInt = 0
          · left; exact ⟨q, if_pos q⟩
          · by_cases q2 : v1.toInt = v1.toInt
            · right; left; exact ⟨q, q2, (if_neg q).trans (if_pos q2)⟩
            · right; right; exact ⟨q, q2, (if_neg q).trans (if_neg q2)⟩) with ⟨c1, ck⟩ | ⟨c1, c2, ck⟩ | ⟨c1, c2, ck⟩
      · rw [ck]
        refine own_astore X44 C at_59 61 rfl rfl #[.val (.int ia0), .val (.int ia1), .val (.int ia2), .val (.int v1), .val (.int v2), .val (.int v1), .val (.int v10), .val (.ref aN), .unset, .unset, .unset] rfl ?_
        refine own_iload X44 C at_61 63 rfl rfl ?_
        refine own_ifne X44 C at_63 66 70 rfl (by decide) (by decide) (i := v1.toInt) rfl (fun b45 => ?_) (fun b45 => ?_)
        · exfalso
          omega
        · refine own_iconst X44 C at_66 67 rfl (1) rfl ?_
          refine own_goto X44 C at_67 71 (by decide) (by decide) ?_
          refine own_istore X44 C at_71 73 rfl #[.val (.int ia0), .val (.int ia1), .val (.int ia2), .val (.int v1), .val (.int v2), .val (.int v1), .val (.int v10), .val (.ref aN), .val (.int (1 : Int32)), .unset, .unset] rfl ?_
          refine own_iload X44 C at_73 75 rfl rfl ?_
          refine own_ifle X44 C at_75 78 87 rfl (by decide) (by decide) (i := v1.toInt) rfl (fun b46 => ?_) (fun b46 => ?_)
          · refine own_iconst X44 C at_87 88 rfl (0) rfl ?_
            refine own_istore X44 C at_88 90 rfl #[.val (.int ia0), .val (.int ia1), .val (.int ia2), .val (.int v1), .val (.int v2), .val (.int v1), .val (.int v10), .val (.ref aN), .val (.int (1 : Int32)), .val (.int (0 : Int32)), .unset] rfl ?_
            refine own_iload X44 C at_90 92 rfl rfl ?_
            refine own_ifle X44 C at_92 95 104 rfl (by decide) (by decide) (i := v1.toInt) rfl (fun b47 => ?_) (fun b47 => ?_)
            · refine own_iconst X44 C at_104 105 rfl (0) rfl ?_
              refine own_istore X44 C at_105 107 rfl #[.val (.int ia0), .val (.int ia1), .val (.int ia2), .val (.int v1), .val (.int v2), .val (.int v1), .val (.int v10), .val (.ref aN), .val (.int (1 : Int32)), .val (.int (0 : Int32)), .val (.int (0 : Int32))] rfl ?_
              refine own_aload X44 C at_107 109 rfl rfl rfl ?_
              refine own_getstatic X44 C (host := "") (Or.inl (own_w hw 8 rfl)) Via.refl e44 S_NONE_HEALTHY at_109 112 rfl (fun T48 X48 e48 => ?_)
              refine own_acmpne X48 C at_112 115 119 rfl (by decide) (by decide) (fun b49 => ?_) (fun b49 => ?_)
              · exfalso
                exact b49 rfl
              · refine own_iconst X48 C at_115 116 rfl (1) rfl ?_
                refine own_goto X48 C at_116 120 (by decide) (by decide) ?_
                refine own_iload X48 C at_120 122 rfl rfl ?_
                refine own_icmpne X48 C at_122 125 165 rfl (by decide) (by decide) (i := 1) (by decide) (j := 1) (by decide) (fun b50 => ?_) (fun b50 => ?_)
                · exfalso
                  omega
                · refine own_aload X48 C at_125 127 rfl rfl rfl ?_
                  refine own_getstatic X48 C (host := "") (Or.inl (own_w hw 9 rfl)) Via.refl e48 S_ALL_HEALTHY at_127 130 rfl (fun T51 X51 e51 => ?_)
                  refine own_acmpne X51 C at_130 133 137 rfl (by decide) (by decide) (fun b52 => ?_) (fun b52 => ?_)
                  · refine own_iconst X51 C at_137 138 rfl (0) rfl ?_
                    refine own_iload X51 C at_138 140 rfl rfl ?_
                    refine own_icmpne X51 C at_140 143 165 rfl (by decide) (by decide) (i := 0) (by decide) (j := 0) (by decide) (fun b53 => ?_) (fun b53 => ?_)
                    · exfalso
                      omega
                    · refine own_aload X51 C at_143 145 rfl rfl rfl ?_
                      refine own_getstatic X51 C (host := "") (Or.inl (own_w hw 11 rfl)) Via.refl e51 S_SOME_UNHEALTHY at_145 148 rfl (fun T54 X54 e54 => ?_)
                      refine own_acmpne X54 C at_148 151 155 rfl (by decide) (by decide) (fun b55 => ?_) (fun b55 => ?_)
                      · refine own_iconst X54 C at_155 156 rfl (0) rfl ?_
                        refine own_iload X54 C at_156 158 rfl rfl ?_
                        refine own_icmpne X54 C at_158 161 165 rfl (by decide) (by decide) (i := 0) (by decide) (j := 0) (by decide) (fun b56 => ?_) (fun b56 => ?_)
                        · exfalso
                          omega
                        · refine own_iconst X54 C at_161 162 rfl (1) rfl ?_
                          refine own_goto X54 C at_162 166 (by decide) (by decide) ?_
                          refine own_iretN X54 C .boolean rfl (by simp) at_166 (by decide) (by decide) (1) (by decide) ?_
                          exact ⟨rfl, Fr.nil _⟩
                      · exfalso
                        exact ne_aN_aS b55
                  · exfalso
                    exact ne_aN_aA b52
            · exfalso
              omega
          · exfalso
            omega
      · rw [ck]
        refine own_astore X44 C at_59 61 rfl rfl #[.val (.int ia0), .val (.int ia1), .val (.int ia2), .val (.int v1), .val (.int v2), .val (.int v1), .val (.int v10), .val (.ref aA), .unset, .unset, .unset] rfl ?_
        refine own_iload X44 C at_61 63 rfl rfl ?_
        refine own_ifne X44 C at_63 66 70 rfl (by decide) (by decide) (i := v1.toInt) rfl (fun b57 => ?_) (fun b57 => ?_)
        · refine own_iconst X44 C at_70 71 rfl (0) rfl ?_
          refine own_istore X44 C at_71 73 rfl #[.val (.int ia0), .val (.int ia1), .val (.int ia2), .val (.int v1), .val (.int v2), .val (.int v1), .val (.int v10), .val (.ref aA), .val (.int (0 : Int32)), .unset, .unset] rfl ?_
          refine own_iload X44 C at_73 75 rfl rfl ?_
          refine own_ifle X44 C at_75 78 87 rfl (by decide) (by decide) (i := v1.toInt) rfl (fun b58 => ?_) (fun b58 => ?_)
          · exfalso
            omega
          · refine own_iload X44 C at_78 80 rfl rfl ?_
            refine own_ifne X44 C at_80 83 87 rfl (by decide) (by decide) (i := v10.toInt) rfl (fun b59 => ?_) (fun b59 => ?_)
            · exfalso
              omega
            · refine own_iconst X44 C at_83 84 rfl (1) rfl ?_
              refine own_goto X44 C at_84 88 (by decide) (by decide) ?_
              refine own_istore X44 C at_88 90 rfl #[.val (.int ia0), .val (.int ia1), .val (.int ia2), .val (.int v1), .val (.int v2), .val (.int v1), .val (.int v10), .val (.ref aA), .val (.int (0 : Int32)), .val (.int (1 : Int32)), .unset] rfl ?_
              refine own_iload X44 C at_90 92 rfl rfl ?_
              refine own_ifle X44 C at_92 95 104 rfl (by decide) (by decide) (i := v1.toInt) rfl (fun b60 => ?_) (fun b60 => ?_)
              · exfalso
                omega
              · refine own_iload X44 C at_95 97 rfl rfl ?_
                refine own_ifle X44 C at_97 100 104 rfl (by decide) (by decide) (i := v10.toInt) rfl (fun b61 => ?_) (fun b61 => ?_)
                · refine own_iconst X44 C at_104 105 rfl (0) rfl ?_
                  refine own_istore X44 C at_105 107 rfl #[.val (.int ia0), .val (.int ia1), .val (.int ia2), .val (.int v1), .val (.int v2), .val (.int v1), .val (.int v10), .val (.ref aA), .val (.int (0 : Int32)), .val (.int (1 : Int32)), .val (.int (0 : Int32))] rfl ?_
                  refine own_aload X44 C at_107 109 rfl rfl rfl ?_
                  refine own_getstatic X44 C (host := "") (Or.inl (own_w hw 8 rfl)) Via.refl e44 S_NONE_HEALTHY at_109 112 rfl (fun T62 X62 e62 => ?_)
                  refine own_acmpne X62 C at_112 115 119 rfl (by decide) (by decide) (fun b63 => ?_) (fun b63 => ?_)
                  · refine own_iconst X62 C at_119 120 rfl (0) rfl ?_
                    refine own_iload X62 C at_120 122 rfl rfl ?_
                    refine own_icmpne X62 C at_122 125 165 rfl (by decide) (by decide) (i := 0) (by decide) (j := 0) (by decide) (fun b64 => ?_) (fun b64 => ?_)
                    · exfalso
                      omega
                    · refine own_aload X62 C at_125 127 rfl rfl rfl ?_
                      refine own_getstatic X62 C (host := "") (Or.inl (own_w hw 9 rfl)) Via.refl e62 S_ALL_HEALTHY at_127 130 rfl (fun T65 X65 e65 => ?_)
                      refine own_acmpne X65 C at_130 133 137 rfl (by decide) (by decide) (fun b66 => ?_) (fun b66 => ?_)
                      · exfalso
                        exact b66 rfl
                      · refine own_iconst X65 C at_133 134 rfl (1) rfl ?_
                        refine own_goto X65 C at_134 138 (by decide) (by decide) ?_
                        refine own_iload X65 C at_138 140 rfl rfl ?_
                        refine own_icmpne X65 C at_140 143 165 rfl (by decide) (by decide) (i := 1) (by decide) (j := 1) (by decide) (fun b67 => ?_) (fun b67 => ?_)
                        · exfalso
                          omega
                        · refine own_aload X65 C at_143 145 rfl rfl rfl ?_
                          refine own_getstatic X65 C (host := "") (Or.inl (own_w hw 11 rfl)) Via.refl e65 S_SOME_UNHEALTHY at_145 148 rfl (fun T68 X68 e68 => ?_)
                          refine own_acmpne X68 C at_148 151 155 rfl (by decide) (by decide) (fun b69 => ?_) (fun b69 => ?_)
                          · refine own_iconst X68 C at_155 156 rfl (0) rfl ?_
                            refine own_iload X68 C at_156 158 rfl rfl ?_
                            refine own_icmpne X68 C at_158 161 165 rfl (by decide) (by decide) (i := 0) (by decide) (j := 0) (by decide) (fun b70 => ?_) (fun b70 => ?_)
                            · exfalso
                              omega
                            · refine own_iconst X68 C at_161 162 rfl (1) rfl ?_
                              refine own_goto X68 C at_162 166 (by decide) (by decide) ?_
                              refine own_iretN X68 C .boolean rfl (by simp) at_166 (by decide) (by decide) (1) (by decide) ?_
                              exact ⟨rfl, Fr.nil _⟩
                          · exfalso
                            exact ne_aA_aS b69
                  · exfalso
                    exact ne_aA_aN b63
                · exfalso
                  omega
        · exfalso
          omega
      · rw [ck]
        refine own_astore X44 C at_59 61 rfl rfl #[.val (.int ia0), .val (.int ia1), .val (.int ia2), .val (.int v1), .val (.int v2), .val (.int v1), .val (.int v10), .val (.ref aS), .unset, .unset, .unset] rfl ?_
        refine own_iload X44 C at_61 63 rfl rfl ?_
        refine own_ifne X44 C at_63 66 70 rfl (by decide) (by decide) (i := v1.toInt) rfl (fun b71 => ?_) (fun b71 => ?_)
        · refine own_iconst X44 C at_70 71 rfl (0) rfl ?_
          refine own_istore X44 C at_71 73 rfl #[.val (.int ia0), .val (.int ia1), .val (.int ia2), .val (.int v1), .val (.int v2), .val (.int v1), .val (.int v10), .val (.ref aS), .val (.int (0 : Int32)), .unset, .unset] rfl ?_
          refine own_iload X44 C at_73 75 rfl rfl ?_
          refine own_ifle X44 C at_75 78 87 rfl (by decide) (by decide) (i := v1.toInt) rfl (fun b72 => ?_) (fun b72 => ?_)
          · exfalso
            omega
          · refine own_iload X44 C at_78 80 rfl rfl ?_
            refine own_ifne X44 C at_80 83 87 rfl (by decide) (by decide) (i := v10.toInt) rfl (fun b73 => ?_) (fun b73 => ?_)
            · refine own_iconst X44 C at_87 88 rfl (0) rfl ?_
              refine own_istore X44 C at_88 90 rfl #[.val (.int ia0), .val (.int ia1), .val (.int ia2), .val (.int v1), .val (.int v2), .val (.int v1), .val (.int v10), .val (.ref aS), .val (.int (0 : Int32)), .val (.int (0 : Int32)), .unset] rfl ?_
              refine own_iload X44 C at_90 92 rfl rfl ?_
              refine own_ifle X44 C at_92 95 104 rfl (by decide) (by decide) (i := v1.toInt) rfl (fun b74 => ?_) (fun b74 => ?_)
              · exfalso
                omega
              · refine own_iload X44 C at_95 97 rfl rfl ?_
                refine own_ifle X44 C at_97 100 104 rfl (by decide) (by decide) (i := v10.toInt) rfl (fun b75 => ?_) (fun b75 => ?_)
                · exfalso
                  omega
                · refine own_iconst X44 C at_100 101 rfl (1) rfl ?_
                  refine own_goto X44 C at_101 105 (by decide) (by decide) ?_
                  refine own_istore X44 C at_105 107 rfl #[.val (.int ia0), .val (.int ia1), .val (.int ia2), .val (.int v1), .val (.int v2), .val (.int v1), .val (.int v10), .val (.ref aS), .val (.int (0 : Int32)), .val (.int (0 : Int32)), .val (.int (1 : Int32))] rfl ?_
                  refine own_aload X44 C at_107 109 rfl rfl rfl ?_
                  refine own_getstatic X44 C (host := "") (Or.inl (own_w hw 8 rfl)) Via.refl e44 S_NONE_HEALTHY at_109 112 rfl (fun T76 X76 e76 => ?_)
                  refine own_acmpne X76 C at_112 115 119 rfl (by decide) (by decide) (fun b77 => ?_) (fun b77 => ?_)
                  · refine own_iconst X76 C at_119 120 rfl (0) rfl ?_
                    refine own_iload X76 C at_120 122 rfl rfl ?_
                    refine own_icmpne X76 C at_122 125 165 rfl (by decide) (by decide) (i := 0) (by decide) (j := 0) (by decide) (fun b78 => ?_) (fun b78 => ?_)
                    · exfalso
                      omega
                    · refine own_aload X76 C at_125 127 rfl rfl rfl ?_
                      refine own_getstatic X76 C (host := "") (Or.inl (own_w hw 9 rfl)) Via.refl e76 S_ALL_HEALTHY at_127 130 rfl (fun T79 X79 e79 => ?_)
                      refine own_acmpne X79 C at_130 133 137 rfl (by decide) (by decide) (fun b80 => ?_) (fun b80 => ?_)
                      · refine own_iconst X79 C at_137 138 rfl (0) rfl ?_
                        refine own_iload X79 C at_138 140 rfl rfl ?_
                        refine own_icmpne X79 C at_140 143 165 rfl (by decide) (by decide) (i := 0) (by decide) (j := 0) (by decide) (fun b81 => ?_) (fun b81 => ?_)
                        · exfalso
                          omega
                        · refine own_aload X79 C at_143 145 rfl rfl rfl ?_
                          refine own_getstatic X79 C (host := "") (Or.inl (own_w hw 11 rfl)) Via.refl e79 S_SOME_UNHEALTHY at_145 148 rfl (fun T82 X82 e82 => ?_)
                          refine own_acmpne X82 C at_148 151 155 rfl (by decide) (by decide) (fun b83 => ?_) (fun b83 => ?_)
                          · exfalso
                            exact b83 rfl
                          · refine own_iconst X82 C at_151 152 rfl (1) rfl ?_
                            refine own_goto X82 C at_152 156 (by decide) (by decide) ?_
                            refine own_iload X82 C at_156 158 rfl rfl ?_
                            refine own_icmpne X82 C at_158 161 165 rfl (by decide) (by decide) (i := 1) (by decide) (j := 1) (by decide) (fun b84 => ?_) (fun b84 => ?_)
                            · exfalso
                              omega
                            · refine own_iconst X82 C at_161 162 rfl (1) rfl ?_
                              refine own_goto X82 C at_162 166 (by decide) (by decide) ?_
                              refine own_iretN X82 C .boolean rfl (by simp) at_166 (by decide) (by decide) (1) (by decide) ?_
                              exact ⟨rfl, Fr.nil _⟩
                      · exfalso
                        exact ne_aS_aA b80
                  · exfalso
                    exact ne_aS_aN b77
            · exfalso
              omega
        · exfalso
          omega
  · refine own_iconst X0 C at_15 16 rfl (0) rfl ?_
    refine own_istore X0 C at_16 18 rfl #[.val (.int ia0), .val (.int ia1), .val (.int ia2), .val (.int v1), .val (.int v2), .val (.int (0 : Int32)), .unset, .unset, .unset, .unset, .unset] rfl ?_
    refine own_goto X0 C at_18 47 (by decide) (by decide) ?_
    refine own_iload_n X0 C at_47 48 rfl rfl ?_
    refine own_iload X0 C at_48 50 rfl rfl ?_
    refine own_isub X0 C at_50 51 rfl (fun v11 ev11 => ?_)
    refine own_istore X0 C at_51 53 rfl #[.val (.int ia0), .val (.int ia1), .val (.int ia2), .val (.int v1), .val (.int v2), .val (.int (0 : Int32)), .val (.int v11), .unset, .unset, .unset, .unset] rfl ?_
    have u1 : 0 ≤ (0 : Int32).toInt ∧ (0 : Int32).toInt ≤ v1.toInt := by omega
    have u2 := c_isub v1 (0 : Int32)
    rw [← ev11] at u2
    have u3 := rng32 v11
    have u4 : v11.toInt = v1.toInt - (0 : Int32).toInt := by omega
    refine own_iload_n X0 C at_53 54 rfl rfl ?_
    refine own_iload X0 C at_54 56 rfl rfl ?_
    refine own_callP X0 C (own_w hw 2 rfl) (own_w hw 3 rfl) (own_w hw 4 rfl) (own_w hw 5 rfl) (by decide) (own_rm_of l Z a0 hw v1 (0 : Int32) h aN aA aS S_NONE_HEALTHY S_ALL_HEALTHY S_SOME_UNHEALTHY) e0 own_pd_II_R_Lcom_example_lean_balancer_leanbalancer_stats_ListenerHealth_ [(.int v1), (.int (0 : Int32))] rfl rfl rfl rfl 0 rfl (by decide) (by decide) rfl rfl (by decide) (by decide) at_56 59 rfl (fun T85 X85 e85 => ?_)
    have ck : own_of aN aA aS v1 (0 : Int32) = aN := if_pos (by decide)
    rw [ck]
    · refine own_astore X85 C at_59 61 rfl rfl #[.val (.int ia0), .val (.int ia1), .val (.int ia2), .val (.int v1), .val (.int v2), .val (.int (0 : Int32)), .val (.int v11), .val (.ref aN), .unset, .unset, .unset] rfl ?_
      refine own_iload X85 C at_61 63 rfl rfl ?_
      refine own_ifne X85 C at_63 66 70 rfl (by decide) (by decide) (i := 0) (by decide) (fun b86 => ?_) (fun b86 => ?_)
      · exfalso
        omega
      · refine own_iconst X85 C at_66 67 rfl (1) rfl ?_
        refine own_goto X85 C at_67 71 (by decide) (by decide) ?_
        refine own_istore X85 C at_71 73 rfl #[.val (.int ia0), .val (.int ia1), .val (.int ia2), .val (.int v1), .val (.int v2), .val (.int (0 : Int32)), .val (.int v11), .val (.ref aN), .val (.int (1 : Int32)), .unset, .unset] rfl ?_
        refine own_iload X85 C at_73 75 rfl rfl ?_
        refine own_ifle X85 C at_75 78 87 rfl (by decide) (by decide) (i := 0) (by decide) (fun b87 => ?_) (fun b87 => ?_)
        · refine own_iconst X85 C at_87 88 rfl (0) rfl ?_
          refine own_istore X85 C at_88 90 rfl #[.val (.int ia0), .val (.int ia1), .val (.int ia2), .val (.int v1), .val (.int v2), .val (.int (0 : Int32)), .val (.int v11), .val (.ref aN), .val (.int (1 : Int32)), .val (.int (0 : Int32)), .unset] rfl ?_
          refine own_iload X85 C at_90 92 rfl rfl ?_
          refine own_ifle X85 C at_92 95 104 rfl (by decide) (by decide) (i := 0) (by decide) (fun b88 => ?_) (fun b88 => ?_)
          · refine own_iconst X85 C at_104 105 rfl (0) rfl ?_
            refine own_istore X85 C at_105 107 rfl #[.val (.int ia0), .val (.int ia1), .val (.int ia2), .val (.int v1), .val (.int v2), .val (.int (0 : Int32)), .val (.int v11), .val (.ref aN), .val (.int (1 : Int32)), .val (.int (0 : Int32)), .val (.int (0 : Int32))] rfl ?_
            refine own_aload X85 C at_107 109 rfl rfl rfl ?_
            refine own_getstatic X85 C (host := "") (Or.inl (own_w hw 8 rfl)) Via.refl e85 S_NONE_HEALTHY at_109 112 rfl (fun T89 X89 e89 => ?_)
            refine own_acmpne X89 C at_112 115 119 rfl (by decide) (by decide) (fun b90 => ?_) (fun b90 => ?_)
            · exfalso
              exact b90 rfl
            · refine own_iconst X89 C at_115 116 rfl (1) rfl ?_
              refine own_goto X89 C at_116 120 (by decide) (by decide) ?_
              refine own_iload X89 C at_120 122 rfl rfl ?_
              refine own_icmpne X89 C at_122 125 165 rfl (by decide) (by decide) (i := 1) (by decide) (j := 1) (by decide) (fun b91 => ?_) (fun b91 => ?_)
              · exfalso
                omega
              · refine own_aload X89 C at_125 127 rfl rfl rfl ?_
                refine own_getstatic X89 C (host := "") (Or.inl (own_w hw 9 rfl)) Via.refl e89 S_ALL_HEALTHY at_127 130 rfl (fun T92 X92 e92 => ?_)
                refine own_acmpne X92 C at_130 133 137 rfl (by decide) (by decide) (fun b93 => ?_) (fun b93 => ?_)
                · refine own_iconst X92 C at_137 138 rfl (0) rfl ?_
                  refine own_iload X92 C at_138 140 rfl rfl ?_
                  refine own_icmpne X92 C at_140 143 165 rfl (by decide) (by decide) (i := 0) (by decide) (j := 0) (by decide) (fun b94 => ?_) (fun b94 => ?_)
                  · exfalso
                    omega
                  · refine own_aload X92 C at_143 145 rfl rfl rfl ?_
                    refine own_getstatic X92 C (host := "") (Or.inl (own_w hw 11 rfl)) Via.refl e92 S_SOME_UNHEALTHY at_145 148 rfl (fun T95 X95 e95 => ?_)
                    refine own_acmpne X95 C at_148 151 155 rfl (by decide) (by decide) (fun b96 => ?_) (fun b96 => ?_)
                    · refine own_iconst X95 C at_155 156 rfl (0) rfl ?_
                      refine own_iload X95 C at_156 158 rfl rfl ?_
                      refine own_icmpne X95 C at_158 161 165 rfl (by decide) (by decide) (i := 0) (by decide) (j := 0) (by decide) (fun b97 => ?_) (fun b97 => ?_)
                      · exfalso
                        omega
                      · refine own_iconst X95 C at_161 162 rfl (1) rfl ?_
                        refine own_goto X95 C at_162 166 (by decide) (by decide) ?_
                        refine own_iretN X95 C .boolean rfl (by simp) at_166 (by decide) (by decide) (1) (by decide) ?_
                        exact ⟨rfl, Fr.nil _⟩
                    · exfalso
                      exact ne_aN_aS b96
                · exfalso
                  exact ne_aN_aA b93
          · exfalso
            omega
        · exfalso
          omega
set_option maxRecDepth 65536 in
set_option maxHeartbeats 4000000 in
theorem own_comes_1 {Post : Tables → Env → Array Value → State → Outcome → State → Prop} (hpost : ∀ tb e args s v u, (limb_1_1.after args s (.returned v) u = true ∧ limb_1_2.after args s (.returned v) u = true ∧ True) → FrameEnd s (.returned v) u (Jvm.fieldLocs frame_1_writes args s ++ Jvm.arrayLocs frame_1_arrays args s ++ Jvm.staticLocs frame_1_statics s) 0 0 → Post tb e args s (.returned v) u) :
    ArmFor flags0 classFile x code maxLocals ret World_1 tables_1 room_1 Calls_1 rest_1 Pre_1 Post := by
  intro l hfl _ _ p e ha hc hk s m args below hf hA hF happ hP
  obtain ⟨hcalls, hrest, hpre⟩ := hP
  obtain ⟨-, -, -, hnamed, -, -, -, hat⟩ := (Spec.applies_iff hf).mp happ
  obtain ⟨hg, hn⟩ := and_e (Cond.before_iff.mp (show (Jvm.Cond.and given_1 narrow_1).before args s = true from hpre))
  obtain ⟨g0, g0r⟩ := and_e hg
  obtain ⟨g1, g1r⟩ := and_e g0r
  obtain ⟨g2, g2r⟩ := and_e g1r
  obtain ⟨w0, w1, w2, rfl⟩ : ∃ w0 w1 w2 : Value, args = #[w0, w1, w2] := by
    have hs : args.size = 3 := by simpa [Cond.value, given_1] using g0
    obtain ⟨L⟩ := args
    match L, hs with
    | [w0, w1, w2], _ => exact ⟨w0, w1, w2, rfl⟩
  have hw := fun d (hd : d ∈ tables_1) => atoms_spec (ws := Jvm.Cond.code x code maxLocals ret :: tables_1) hat d (List.mem_cons_of_mem _ hd)
  have hfit : Fit s := fun {y c} hc i hi => by
    obtain ⟨ha, rfl⟩ := Array.getElem?_eq_some_iff.mp hc
    have q := List.all_eq_true.mp ((Array.all_eq_true_iff_forall_mem.mp hF) _ (Array.getElem_mem ha)) i (List.mem_range.mpr hi)
    simpa [Array.getElem?_eq_getElem hi] using q
  obtain ⟨i0, q0⟩ := is_v g1
  obtain rfl : w0 = (.int i0) := Option.some.inj q0
  obtain ⟨i1, q1⟩ := is_v g2
  obtain rfl : w1 = (.int i1) := Option.some.inj q1
  obtain ⟨i2, q2⟩ := is_v g2r
  obtain rfl : w2 = (.int i2) := Option.some.inj q2
  obtain ⟨n0, n0r⟩ := and_e hn
  obtain ⟨n1, n1r⟩ := and_e n0r
  obtain ⟨n2, n2r⟩ := and_e n1r
  obtain ⟨n3, n3r⟩ := and_e n2r
  obtain ⟨n4, n4r⟩ := and_e n3r
  obtain ⟨a_NONE_HEALTHY, ev_NONE_HEALTHY⟩ := exa_v n0
  have S_NONE_HEALTHY : Sta s s.heap "com/example/lean_balancer/leanbalancer/stats/ListenerHealth" "NONE_HEALTHY" "Lcom/example/lean_balancer/leanbalancer/stats/ListenerHealth;" (.ref a_NONE_HEALTHY) := Sta.start ev_NONE_HEALTHY (Or.inr ⟨(own_w hw 4 rfl), (own_w hw 7 rfl)⟩)
  have E_NONE_HEALTHY : Exa s s.heap a_NONE_HEALTHY "com/example/lean_balancer/leanbalancer/stats/ListenerHealth" := Exa.start ev_NONE_HEALTHY n0
  obtain ⟨a_ALL_HEALTHY, ev_ALL_HEALTHY⟩ := exa_v n1
  have S_ALL_HEALTHY : Sta s s.heap "com/example/lean_balancer/leanbalancer/stats/ListenerHealth" "ALL_HEALTHY" "Lcom/example/lean_balancer/leanbalancer/stats/ListenerHealth;" (.ref a_ALL_HEALTHY) := Sta.start ev_ALL_HEALTHY (Or.inr ⟨(own_w hw 4 rfl), (own_w hw 10 rfl)⟩)
  have E_ALL_HEALTHY : Exa s s.heap a_ALL_HEALTHY "com/example/lean_balancer/leanbalancer/stats/ListenerHealth" := Exa.start ev_ALL_HEALTHY n1
  have ev_NONE_HEALTHY_ordinal := own_eqI n2
  have F_NONE_HEALTHY_ordinal : Fld s s.heap a_NONE_HEALTHY "java/lang/Enum" "ordinal" "I" (.int (2 : Int32)) := Fld.start ((fld_at ev_NONE_HEALTHY).symm.trans ev_NONE_HEALTHY_ordinal)
  have ev_ALL_HEALTHY_ordinal := own_eqI n3
  have F_ALL_HEALTHY_ordinal : Fld s s.heap a_ALL_HEALTHY "java/lang/Enum" "ordinal" "I" (.int (0 : Int32)) := Fld.start ((fld_at ev_ALL_HEALTHY).symm.trans ev_ALL_HEALTHY_ordinal)
  obtain ⟨a_SOME_UNHEALTHY, ev_SOME_UNHEALTHY⟩ := exa_v n4
  have S_SOME_UNHEALTHY : Sta s s.heap "com/example/lean_balancer/leanbalancer/stats/ListenerHealth" "SOME_UNHEALTHY" "Lcom/example/lean_balancer/leanbalancer/stats/ListenerHealth;" (.ref a_SOME_UNHEALTHY) := Sta.start ev_SOME_UNHEALTHY (Or.inr ⟨(own_w hw 4 rfl), (own_w hw 12 rfl)⟩)
  have E_SOME_UNHEALTHY : Exa s s.heap a_SOME_UNHEALTHY "com/example/lean_balancer/leanbalancer/stats/ListenerHealth" := Exa.start ev_SOME_UNHEALTHY n4
  have ev_SOME_UNHEALTHY_ordinal := own_eqI n4r
  have F_SOME_UNHEALTHY_ordinal : Fld s s.heap a_SOME_UNHEALTHY "java/lang/Enum" "ordinal" "I" (.int (1 : Int32)) := Fld.start ((fld_at ev_SOME_UNHEALTHY).symm.trans ev_SOME_UNHEALTHY_ordinal)
  obtain ⟨n, o, h1, h2, h3, _, L, rfl, ⟨rfl, N⟩, hq⟩ := own_rm_law l s _ hw i0 i1 i2 s.heap s.heap.size a_NONE_HEALTHY a_ALL_HEALTHY a_SOME_UNHEALTHY S_NONE_HEALTHY S_ALL_HEALTHY S_SOME_UNHEALTHY (Fld.ne F_NONE_HEALTHY_ordinal F_ALL_HEALTHY_ordinal (by decide)) (Fld.ne F_NONE_HEALTHY_ordinal F_SOME_UNHEALTHY_ordinal (by decide)) (Fld.ne F_ALL_HEALTHY_ordinal F_NONE_HEALTHY_ordinal (by decide)) (Fld.ne F_ALL_HEALTHY_ordinal F_SOME_UNHEALTHY_ordinal (by decide)) (Fld.ne F_SOME_UNHEALTHY_ordinal F_NONE_HEALTHY_ordinal (by decide)) (Fld.ne F_SOME_UNHEALTHY_ordinal F_ALL_HEALTHY_ordinal (by decide)) p e ha hc hk s m _ below hf ((Spec.applies_iff_loose hf).mp happ).1 ⟨rfl, State.Warmed39.refl s, rfl⟩ trivial
  refine ⟨n, _, h1, h2, h3, hpost _ _ _ _ _ _ ⟨Cond.after_iff.mpr rfl, Cond.after_iff.mpr (eq_i res_at (Term.int_eval (1)) rfl), trivial⟩ ⟨hq.1, hq.2.1, (hq.2.2.sift fun y hy => Or.inr (N y hy)).mono (by decide) (by decide)⟩⟩
theorem main_1_1 : Claimed_1_1 := own_comes_1 fun _ _ _ _ _ _ h hF => ⟨h.1, hF⟩
theorem main_1_2 : Claimed_1_2 := own_comes_1 fun _ _ _ _ _ _ h hF => ⟨h.2.1, hF⟩
end Jvm.Pilot.@@N@@
namespace Jvm.Pilot.@@N@@
open Jvm Jvm.ClassFile Sem Op Lib Jvm.Free Jvm.Stand Jvm.Pilot.@@N@@.Jvm.D
/-! MADE BY PROGRAM (witnessworld.py) out of the Statement's table words and the real class files: 12 classes; the members and pool entries that the words name. The judged class is class 1, her method 1. -/
namespace start1
open Jvm.ClassFile
def u (s : String) : CpInfo := .utf8 (stringToUtf16 s)
/-- a pool by its gaps: so many unusable entries, then the entry; so many at the end -/
def gap : Nat → List CpInfo → List CpInfo
  | 0, r => r
  | n + 1, r => .unusable :: gap n r
def poolList (es : List (Nat × CpInfo)) (last : Nat) : List CpInfo := es.foldr (fun e r => gap e.1 (e.2 :: r)) (gap last [])
def pool (es : List (Nat × CpInfo)) (last : Nat) : Array CpInfo := ⟨poolList es last⟩
def fileOf (pool : Array CpInfo) (this : Nat) (attrs : Array Attribute := #[]) (ms : Array MethodInfo := #[]) (fl : Nat := 33) (sup : Nat := 0) (ifs : Array Nat := #[]) (fds : Array FieldInfo := #[]) : ClassFile where
  minorVersion := 0
  majorVersion := 65
  constantPool := pool
  accessFlags := fl
  thisClass := this
  superClass := sup
  interfaces := ifs
  fields := fds
  methods := ms
  attributes := attrs
def plain (name : String) (sup : Option ClassId) : Class where
  name := name
  kind := .ordinary
  loader := none
  accessFlags := 33
  super := sup
  interfaces := #[]
  cf := none
  fields := #[]
  methods := #[]
  instanceTypes := #[]
  staticTypes := #[]
  resolved := #[]
  callSites := []
  init := .initialized
  statics := none
  mirror := none

def pool0 : Array CpInfo := pool [(5, u "<init>"), (0, u "()V"), (1, .class_ 10), (1, u "java/lang/Object")] 113

def k0m0 : Method := { name := "<init>", desc := "()V", sig := { parameters := [], returnType := none }, accessFlags := 1, code := none }
/-- java/lang/Object -/
def k0 : Class := { plain "java/lang/Object" none with
  accessFlags := 33
  interfaces := #[]
  cf := some (fileOf pool0 8 #[] #[{ accessFlags := 1, nameIndex := 5, descriptorIndex := 6, attributes := #[] }] 33 0 #[] #[])
  fields := #[]
  methods := #[k0m0]
  instanceTypes := #[]
  staticTypes := #[]
  resolved := Array.replicate 124 none
  statics := none }

def pool1 : Array CpInfo := pool [(2, .class_ 4), (1, u "java/lang/Object"), (0, u "<init>"), (0, u "()V"), (0, .integer 2147483647), (0, .long 2147483647), (1, .methodref 11 12), (0, .class_ 13), (0, .nameAndType 14 15), (0, u "com/example/lean_balancer/leanbalancer/stats/ListenerHealth"), (0, u "of"), (0, u "(II)Lcom/example/lean_balancer/leanbalancer/stats/ListenerHealth;"), (0, .fieldref 11 17), (0, .nameAndType 18 19), (0, u "NONE_HEALTHY"), (0, u "Lcom/example/lean_balancer/leanbalancer/stats/ListenerHealth;"), (0, .fieldref 11 21), (0, .nameAndType 22 19), (0, u "ALL_HEALTHY"), (0, .fieldref 11 24), (0, .nameAndType 25 19), (0, u "SOME_UNHEALTHY"), (0, .class_ 27), (0, u "com/example/lean_balancer/leanbalancer/stats/ListenerHealthOfPinLaw"), (2, u "law"), (0, u "(III)Z")] 3

def k1m0 : Method := { name := "<init>", desc := "()V", sig := { parameters := [], returnType := none }, accessFlags := 1, code := none }
def k1c1 : Code := { maxStack := 6, maxLocals := 11, code := code, exceptionTable := #[], attributes := #[] }
def k1m1 : Method := { name := "law", desc := "(III)Z", sig := { parameters := [.int, .int, .int], returnType := some .boolean }, accessFlags := 9, code := some k1c1 }
/-- com/example/lean_balancer/leanbalancer/stats/ListenerHealthOfPinLaw -/
def k1 : Class := { plain "com/example/lean_balancer/leanbalancer/stats/ListenerHealthOfPinLaw" (some 0) with
  accessFlags := 49
  interfaces := #[]
  cf := some (fileOf pool1 26 #[] #[{ accessFlags := 1, nameIndex := 5, descriptorIndex := 6, attributes := #[] }, { accessFlags := 9, nameIndex := 30, descriptorIndex := 31, attributes := #[] }] 49 2 #[] #[])
  fields := #[]
  methods := #[k1m0, k1m1]
  instanceTypes := #[]
  staticTypes := #[]
  resolved := Array.replicate 35 none
  statics := none }

def pool2 : Array CpInfo := pool [(1, .class_ 2), (0, u "java/lang/constant/Constable"), (0, .class_ 4), (0, u "java/lang/Object")] 6

/-- java/lang/constant/Constable -/
def k2 : Class := { plain "java/lang/constant/Constable" (some 0) with
  accessFlags := 1537
  interfaces := #[]
  cf := some (fileOf pool2 1 #[] #[] 1537 3 #[] #[])
  fields := #[]
  methods := #[]
  instanceTypes := #[]
  staticTypes := #[]
  resolved := Array.replicate 11 none
  statics := none }

def pool3 : Array CpInfo := pool [(1, .class_ 2), (0, u "java/lang/Comparable"), (0, .class_ 4), (0, u "java/lang/Object")] 7

/-- java/lang/Comparable -/
def k3 : Class := { plain "java/lang/Comparable" (some 0) with
  accessFlags := 1537
  interfaces := #[]
  cf := some (fileOf pool3 1 #[] #[] 1537 3 #[] #[])
  fields := #[]
  methods := #[]
  instanceTypes := #[]
  staticTypes := #[]
  resolved := Array.replicate 12 none
  statics := none }

def pool4 : Array CpInfo := pool [(1, .class_ 2), (0, u "java/io/Serializable"), (0, .class_ 4), (0, u "java/lang/Object")] 2

/-- java/io/Serializable -/
def k4 : Class := { plain "java/io/Serializable" (some 0) with
  accessFlags := 1537
  interfaces := #[]
  cf := some (fileOf pool4 1 #[] #[] 1537 3 #[] #[])
  fields := #[]
  methods := #[]
  instanceTypes := #[]
  staticTypes := #[]
  resolved := Array.replicate 7 none
  statics := none }

def pool5 : Array CpInfo := pool [(2, .class_ 4), (1, u "java/lang/Enum"), (0, u "name"), (0, u "Ljava/lang/String;"), (2, u "ordinal"), (0, u "I"), (1, .class_ 14), (1, u "java/lang/Object"), (4, u "hash"), (86, .class_ 108), (1, u "java/lang/Enum$EnumDesc"), (2, .class_ 112), (0, u "java/lang/constant/Constable"), (0, .class_ 114), (0, u "java/lang/Comparable"), (0, .class_ 116), (0, u "java/io/Serializable")] 87

/-- java/lang/Enum -/
def k5 : Class := { plain "java/lang/Enum" (some 0) with
  accessFlags := 1057
  interfaces := #[2, 3, 4]
  cf := some (fileOf pool5 2 #[.nestMembers #[106]] #[] 1057 12 #[111, 113, 115] #[{ accessFlags := 18, nameIndex := 5, descriptorIndex := 6, attributes := #[] }, { accessFlags := 18, nameIndex := 9, descriptorIndex := 10, attributes := #[] }, { accessFlags := 2, nameIndex := 19, descriptorIndex := 10, attributes := #[] }])
  fields := #[{ name := "name", type := (.object "java/lang/String"), accessFlags := 18, slot := 0, constantValue := 0 }, { name := "ordinal", type := .int, accessFlags := 18, slot := 1, constantValue := 0 }, { name := "hash", type := .int, accessFlags := 2, slot := 2, constantValue := 0 }]
  methods := #[]
  instanceTypes := #[(.object "java/lang/String"), .int, .int]
  staticTypes := #[]
  resolved := Array.replicate 204 none
  statics := none }

def pool6 : Array CpInfo := pool [(1, .class_ 2), (0, u "com/example/lean_balancer/leanbalancer/stats/ListenerHealth"), (0, .fieldref 1 4), (0, .nameAndType 5 6), (0, u "ALL_HEALTHY"), (0, u "Lcom/example/lean_balancer/leanbalancer/stats/ListenerHealth;"), (0, .fieldref 1 8), (0, .nameAndType 9 6), (0, u "SOME_UNHEALTHY"), (0, .fieldref 1 11), (0, .nameAndType 12 6), (0, u "NONE_HEALTHY"), (2, u "$VALUES"), (0, u "[Lcom/example/lean_balancer/leanbalancer/stats/ListenerHealth;"), (6, .class_ 25), (1, u "java/lang/Enum"), (8, u "words"), (0, u "Ljava/lang/String;"), (39, u "of"), (0, u "(II)Lcom/example/lean_balancer/leanbalancer/stats/ListenerHealth;")] 7

def k6c0 : Code := { maxStack := 2, maxLocals := 3, code := prog_44_method_4_code, exceptionTable := #[], attributes := #[] }
def k6m0 : Method := { name := "of", desc := "(II)Lcom/example/lean_balancer/leanbalancer/stats/ListenerHealth;", sig := { parameters := [.int, .int], returnType := some (.object "com/example/lean_balancer/leanbalancer/stats/ListenerHealth") }, accessFlags := 8, code := some k6c0 }
/-- com/example/lean_balancer/leanbalancer/stats/ListenerHealth -/
def k6 : Class := { plain "com/example/lean_balancer/leanbalancer/stats/ListenerHealth" (some 5) with
  accessFlags := 16433
  interfaces := #[]
  cf := some (fileOf pool6 1 #[] #[{ accessFlags := 8, nameIndex := 75, descriptorIndex := 76, attributes := #[] }] 16433 23 #[] #[{ accessFlags := 16409, nameIndex := 5, descriptorIndex := 6, attributes := #[] }, { accessFlags := 16409, nameIndex := 9, descriptorIndex := 6, attributes := #[] }, { accessFlags := 16409, nameIndex := 12, descriptorIndex := 6, attributes := #[] }, { accessFlags := 18, nameIndex := 34, descriptorIndex := 35, attributes := #[] }, { accessFlags := 4122, nameIndex := 15, descriptorIndex := 16, attributes := #[] }])
  fields := #[{ name := "ALL_HEALTHY", type := (.object "com/example/lean_balancer/leanbalancer/stats/ListenerHealth"), accessFlags := 16409, slot := 0, constantValue := 0 }, { name := "SOME_UNHEALTHY", type := (.object "com/example/lean_balancer/leanbalancer/stats/ListenerHealth"), accessFlags := 16409, slot := 1, constantValue := 0 }, { name := "NONE_HEALTHY", type := (.object "com/example/lean_balancer/leanbalancer/stats/ListenerHealth"), accessFlags := 16409, slot := 2, constantValue := 0 }, { name := "words", type := (.object "java/lang/String"), accessFlags := 18, slot := 3, constantValue := 0 }, { name := "$VALUES", type := (.array (.object "com/example/lean_balancer/leanbalancer/stats/ListenerHealth")), accessFlags := 4122, slot := 3, constantValue := 0 }]
  methods := #[k6m0]
  instanceTypes := #[(.object "java/lang/String"), .int, .int, (.object "java/lang/String")]
  staticTypes := #[(.object "com/example/lean_balancer/leanbalancer/stats/ListenerHealth"), (.object "com/example/lean_balancer/leanbalancer/stats/ListenerHealth"), (.object "com/example/lean_balancer/leanbalancer/stats/ListenerHealth"), (.array (.object "com/example/lean_balancer/leanbalancer/stats/ListenerHealth"))]
  resolved := Array.replicate 84 none
  statics := some 0 }

def pool7 : Array CpInfo := pool [(1, u "java/lang/Cloneable"), (0, .class_ 1), (0, u "java/lang/Object"), (0, .class_ 3)] 3

/-- java/lang/Cloneable -/
def k7 : Class := { plain "java/lang/Cloneable" (some 0) with
  accessFlags := 1537
  interfaces := #[]
  cf := some (fileOf pool7 2 #[] #[] 1537 4 #[] #[])
  fields := #[]
  methods := #[]
  instanceTypes := #[]
  staticTypes := #[]
  resolved := Array.replicate 8 none
  statics := none }

/-- the primitive byte -/
def k8 : Class := { plain "byte" none with kind := .primitive 'B', accessFlags := 0x411 }
/-- [B -/
def k9 : Class := { plain "[B" (some 0) with kind := .array 8 .byte, interfaces := #[7, 4], accessFlags := 1041 }

/-- the primitive int -/
def k10 : Class := { plain "int" none with kind := .primitive 'I', accessFlags := 0x411 }
/-- [I -/
def k11 : Class := { plain "[I" (some 0) with kind := .array 10 .int, interfaces := #[7, 4], accessFlags := 1041 }

def heap : Heap := #[{ cls := 6, slots := #[.ref 1, .ref 2, .ref 3, .null], vm := .statics 6 },
  { cls := 6, slots := #[.null, .int 0, .int 0, .null], vm := .none },
  { cls := 6, slots := #[.null, .int 1, .int 0, .null], vm := .none },
  { cls := 6, slots := #[.null, .int 2, .int 0, .null], vm := .none }]
def classes : Array Class := #[k0, k1, k2, k3, k4, k5, k6, k7, k8, k9, k10, k11]
def interned : List (Array UInt16 × Addr) := []
def slotsUsed : Nat := 16
def theMethod : MethodId := ⟨1, 1⟩
def args0 : Array Value := #[.int 5, .int 3, .int 2]
def aboutOver (below : List Frame) : State where
  vm := { classes := classes, interned := interned.toArray }
  heap := heap
  slotsUsed := slotsUsed
  threads := #[{ frames := .invoking theMethod args0 :: below }]
def below0 : List Frame := [.native { method := ⟨0, 0⟩, args := #[] }]
def about1 : State := aboutOver below0
def p0 : Program := .bare "" "" ""
def e0 : Env := launch0.env 0 0 0
theorem w_frames : about1.frames = Frame.invoking theMethod args0 :: below0 := rfl
set_option maxRecDepth 65536 in
theorem w_args : argsFit about1.vm theMethod args0 = true := by decide +kernel
set_option maxRecDepth 65536 in
theorem w_heap : heapFits about1 = true := by decide +kernel
set_option maxRecDepth 65536 in
theorem w_runnable : about1.curStatus? = some .runnable := by decide +kernel
set_option maxRecDepth 65536 in
theorem w_alone : about1.alone = true := by decide +kernel
set_option maxRecDepth 65536 in
theorem w_named : about1.methodNamed? x = some theMethod := by decide +kernel
set_option maxRecDepth 65536 in
theorem w_hears : about1.hears theMethod below0 = true := by decide +kernel
set_option maxRecDepth 65536 in
theorem w_ripe : about1.ripe theMethod args0 below0 = true := by decide +kernel
theorem w_running : about1.status = .running := rfl
set_option maxRecDepth 65536 in
theorem w_room : about1.hasRoom e0.platform room_1 = true :=
  launch0.hasRoom_least _ room_1 (by decide +kernel) (by decide +kernel) (by decide +kernel) (by decide +kernel) (by decide +kernel) (by decide +kernel)
theorem allAtoms_all (ts : List Jvm.Cond) (a : Array Jvm.Value) (st : Jvm.State) : (allAtoms ts).before a st = ts.all (fun c => c.before a st) := by
  induction ts with
  | nil => rfl
  | cons c t ih =>
    show (Jvm.Cond.and c (allAtoms t)).before a st = _
    rw [Jvm.Cond.before_and, ih, List.all_cons]
def words1 : List Jvm.Cond := Jvm.Cond.code x code maxLocals ret :: tables_1
/-- a 'code' word, met by the world's own term for the bytes: nothing is compared byte by byte -/
theorem code_word {y : MethodName} {bytes : ByteArray} {mx : Nat} {rt : Option FieldType} {a : Array Value} {s : State} {m : MethodId} {meth : Method} {c : Code} (h1 : s.methodNamed? y = some m) (h2 : s.vm.method? m = some meth) (h3 : meth.code = some c) (h4 : c.code = bytes)
    (h5 : (c.maxLocals == mx && c.exceptionTable.isEmpty && decide (c.maxStack ≤ mostOperands) && decide (meth.sig.returnType = rt) && !meth.locks && decide (parseMethodDescriptor y.desc = some meth.sig)) = true) : (Jvm.Cond.code y bytes mx rt).before a s = true := by
  simp only [Bool.and_eq_true, beq_iff_eq, Bool.not_eq_true', decide_eq_true_eq] at h5
  obtain ⟨⟨⟨⟨⟨g1, g2⟩, g3⟩, g4⟩, g5⟩, g6⟩ := h5
  simp [Cond.before, Cond.holds, Cond.value, h1, h2, h3, h4, g1, g2, g3, g4, g5, g6]
def isCode : Jvm.Cond → Bool
  | .code _ _ _ _ => true
  | _ => false
theorem all_split {L : List Jvm.Cond} {P : Jvm.Cond → Bool} (h1 : L.all (fun c => isCode c || P c) = true) (h2 : ∀ c ∈ L.filter isCode, P c = true) : L.all P = true := by
  refine List.all_eq_true.mpr fun c hc => ?_
  have h := List.all_eq_true.mp h1 c hc
  rcases Bool.eq_false_or_eq_true (isCode c) with hi | hi
  · exact h2 c (List.mem_filter.mpr ⟨hc, hi⟩)
  · simpa [hi] using h
set_option maxRecDepth 65536 in
theorem w_c0 : (Jvm.Cond.code x code maxLocals ret).before args0 about1 = true := code_word (m := ⟨1, 1⟩) (meth := k1m1) (c := k1c1) (by decide +kernel) rfl rfl rfl (by decide +kernel)
set_option maxRecDepth 65536 in
theorem w_c1 : (Jvm.Cond.code ({ cls := "com/example/lean_balancer/leanbalancer/stats/ListenerHealth", name := "of", desc := "(II)Lcom/example/lean_balancer/leanbalancer/stats/ListenerHealth;" } : Jvm.MethodName) prog_44_method_4_code (3 : Nat) (Option.some (Jvm.ClassFile.FieldType.object "com/example/lean_balancer/leanbalancer/stats/ListenerHealth"))).before args0 about1 = true := code_word (m := ⟨6, 0⟩) (meth := k6m0) (c := k6c0) (by decide +kernel) rfl rfl rfl (by decide +kernel)
def codes1 : List Jvm.Cond := [Jvm.Cond.code x code maxLocals ret, Jvm.Cond.code ({ cls := "com/example/lean_balancer/leanbalancer/stats/ListenerHealth", name := "of", desc := "(II)Lcom/example/lean_balancer/leanbalancer/stats/ListenerHealth;" } : Jvm.MethodName) prog_44_method_4_code (3 : Nat) (Option.some (Jvm.ClassFile.FieldType.object "com/example/lean_balancer/leanbalancer/stats/ListenerHealth"))]
set_option maxRecDepth 65536 in
theorem codes_eq : words1.filter isCode = codes1 := rfl
theorem w_codes : ∀ c ∈ words1.filter isCode, c.before args0 about1 = true := by
  rw [codes_eq]
  intro c hc
  simp only [codes1, List.mem_cons, List.not_mem_nil, or_false] at hc
  rcases hc with rfl | rfl
  · exact w_c0
  · exact w_c1
set_option maxRecDepth 65536 in
theorem w_t1 : words1.all (fun c => isCode c || c.before args0 about1) = true := by decide +kernel
theorem w_tables : (allAtoms (Jvm.Cond.code x code maxLocals ret :: tables_1)).before args0 about1 = true := by
  rw [allAtoms_all]
  show words1.all (fun c => c.before args0 about1) = true
  refine all_split ?_ w_codes
  rw [w_t1]
set_option maxRecDepth 65536 in
theorem w_case : (Jvm.Cond.and given_1 narrow_1).before args0 about1 = true := by decide +kernel
theorem w_applies : (headSpec (Jvm.Cond.code x code maxLocals ret :: tables_1) room_1).applies x e0.platform about1 = true :=
  (Spec.applies_iff w_frames).mpr ⟨w_running, w_runnable, w_alone, w_named, w_hears, w_ripe, w_room, w_tables⟩
theorem atStart : AtStart classFile x code maxLocals ret World_1 tables_1 room_1 Calls_1 rest_1 Pre_1 launch0 p0 e0 about1 theMethod args0 below0 :=
  ⟨lists_1, trivial, launch0.admits_env _ _ _, launch0.least_env, fairChoices_fair.cas, fairChoices_fair.clock, w_frames, w_args, w_heap, w_applies, trivial, trivial, w_case⟩
end start1
theorem witness_1 : WitnessClaimed_1 := ⟨start1.p0, start1.e0, start1.about1, start1.theMethod, start1.args0, start1.below0, start1.atStart⟩
end Jvm.Pilot.@@N@@
