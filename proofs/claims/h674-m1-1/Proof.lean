import JvmDerived
import JvmDerived.Pilot.@@N@@Statement
import JvmDerived.Pilot.@@N@@Code
set_option linter.unusedVariables false
set_option linter.unusedSimpArgs false
namespace Jvm.Pilot.@@N@@
open Jvm Jvm.ClassFile Sem Op Lib Jvm.Free Jvm.Stand Jvm.LawKit Jvm.RoadKit Bundle Jvm.Pilot.@@N@@.Jvm.D
section OwnLayer
variable {p : Program} {l : Launch} {e : Env} {R : Room} {s : State} {m : MethodId} {args : Array Value} {below : List Frame} {meth : Method} {c : Code} {T : State} {locs : List Loc} {cells slots : Nat} {Z : State} {y : MethodName} {bs : ByteArray} {maxL : Nat} {rt : Option FieldType} {ce sl : Nat} {Q : Option Value → Heap → List Loc → Prop} {G : Outcome → State → Prop} {pc : Nat} {Ls : Array Slot} {st rest : List Value} {h : Heap} {a0 : Array Value}
/-- from S the body runs on, returns, and Q says what it leaves -/
def OwnEnds (p : Program) (e : Env) (below : List Frame) (G : Outcome → State → Prop) (S : State) : Prop :=
  ∃ s₂ o, Steps p.tables e below S s₂ ∧ s₂.status = .running ∧ Ended s₂ below o ∧ G o s₂
def OwnG (s : State) (ce sl : Nat) (Q : Option Value → Heap → List Loc → Prop) : Outcome → State → Prop := fun o s₂ => ∃ v L, o = .returned v ∧ Q v s₂.heap L ∧ FrameEnd s o s₂ L ce sl
/-- what stands throughout a body's walk -/
def OwnCx (p : Program) (s : State) (m : MethodId) (meth : Method) (c : Code) (Z : State) (y : MethodName) (bs : ByteArray) (maxL : Nat) (rt : Option FieldType) : Prop :=
  p.tables.exec = Jvm.exec ∧ Z.Warmed39 s.vm ∧ s.vm.findClass y.cls = some m.cls ∧ c.code = bs ∧ c.maxLocals = maxL ∧ meth.sig.returnType = rt ∧ meth.locks = false ∧ meth.name = y.name
/-- a body's contract over the heap h at these arguments -/
def OwnMet (l : Launch) (Z : State) (y : MethodName) (bs : ByteArray) (maxL : Nat) (rt : Option FieldType) (ws : List Jvm.Cond) (rm : Room) (as' : Array Value) (h : Heap) (Q : Option Value → Heap → List Loc → Prop) : Prop :=
  MetFree l y (head1 (Jvm.Cond.code y bs maxL rt :: ws) rm) (fun a U => a = as' ∧ Z.Warmed39 U.vm ∧ U.heap = h) (fun _ _ _ _ _ => True) (fun _ U o U' => ∃ v L, o = .returned v ∧ Q v U'.heap L ∧ FrameEnd U o U' L rm.cells rm.slots)
theorem own_nz32 {d : Int32} (q : d.toInt ≠ 0) : d ≠ 0 := fun r => q (by rw [r]; rfl)
theorem own_nz64 {d : Int64} (q : d.toInt ≠ 0) : d ≠ 0 := fun r => q (by rw [r]; rfl)
theorem own_st {S S' : State} (k : ∀ t, Steps p.tables e below S' t → Steps p.tables e below S t) (r : OwnEnds p e below G S') : OwnEnds p e below G S := by
  obtain ⟨s₂, o, h1, r⟩ := r
  exact ⟨s₂, o, k _ h1, r⟩
theorem own_tr {S S' : State} (k : Steps p.tables e below S S') (r : OwnEnds p e below G S') : OwnEnds p e below G S := own_st (fun _ q => k.trans q) r
theorem own_enter {ws : List Jvm.Cond} {rm : Room} {as' : Array Value} {f0 : MethodId → JFrame} (hp : plainFor y = true) (hf : ∀ m, entryFrame m as' maxL = f0 m)
    (H : ∀ p e s m below meth c T, Stand p l e rm s m as' below meth c T [] 0 0 → OwnCx p s m meth c Z y bs maxL rt → T.heap = h → OwnEnds p e below (OwnG s rm.cells rm.slots Q) (T.setTop (f0 m))) : OwnMet l Z y bs maxL rt ws rm as' h Q := by
  refine MetFree.of_bodySF hp hisR ?_
  intro p e s m args below meth c s₁ Bd hml0 hP hK
  obtain ⟨rfl, hZ, hh⟩ := hP
  have k := H p e s m below meth c s₁ (Stand.of_body Bd) ⟨Bd.exec, hZ, findClass_of_methodNamed Bd.named, Bd.bytes, hml0, Bd.returns, Bd.notSynchronized, (name_of_methodNamed Bd.named Bd.method).1⟩ (by rw [← hh, Bd.state]; rfl)
  rw [← hf m] at k
  exact k
theorem own_mono {ws : List Jvm.Cond} {rm : Room} {as' : Array Value} {Q' : Option Value → Heap → List Loc → Prop} (H : OwnMet l Z y bs maxL rt ws rm as' h Q) (q : ∀ v h' L, Q v h' L → Q' v h' L) : OwnMet l Z y bs maxL rt ws rm as' h Q' := by
  intro p e ha hc hk s m args below hf happ hP hK
  obtain ⟨n, o, h1, h2, h3, v, L, h4, h5, h6⟩ := H p e ha hc hk s m args below hf happ hP hK
  exact ⟨n, o, h1, h2, h3, v, L, h4, q _ _ _ h5, h6⟩
theorem own_iload (X : Stand p l e R s m args below meth c T locs cells slots) (C : OwnCx p s m meth c Z y bs maxL rt) {k : Nat} {v : Int32} (hd : decode bs pc = .ok (.iload k, 2)) (pc' : Nat) (hp : pc + 2 = pc') (hl : Ls[k]? = some (.val (.int v)))
    (hr : OwnEnds p e below G (T.setTop (mkF m pc' Ls (.int v :: st)))) : OwnEnds p e below G (T.setTop (mkF m pc Ls st)) := by
  subst hp; exact own_st (fun _ q => XS.iload X.here C.1 rfl (hb C.2.2.2.1 hd) hl q) hr
theorem own_lload (X : Stand p l e R s m args below meth c T locs cells slots) (C : OwnCx p s m meth c Z y bs maxL rt) {k : Nat} {v : Int64} (hd : decode bs pc = .ok (.lload k, 2)) (pc' : Nat) (hp : pc + 2 = pc') (hl : Ls[k]? = some (.val (.long v)))
    (hr : OwnEnds p e below G (T.setTop (mkF m pc' Ls (.long v :: st)))) : OwnEnds p e below G (T.setTop (mkF m pc Ls st)) := by
  subst hp; exact own_st (fun _ q => XS.lload X.here C.1 rfl (hb C.2.2.2.1 hd) hl q) hr
theorem own_iload_n (X : Stand p l e R s m args below meth c T locs cells slots) (C : OwnCx p s m meth c Z y bs maxL rt) {k : Fin 4} {v : Int32} (hd : decode bs pc = .ok (.iload_n k, 1)) (pc' : Nat) (hp : pc + 1 = pc') (hl : Ls[k.val]? = some (.val (.int v)))
    (hr : OwnEnds p e below G (T.setTop (mkF m pc' Ls (.int v :: st)))) : OwnEnds p e below G (T.setTop (mkF m pc Ls st)) := by
  subst hp; exact own_st (fun _ q => XS.iloadN X.here C.1 rfl (hb C.2.2.2.1 hd) hl q) hr
theorem own_lload_n (X : Stand p l e R s m args below meth c T locs cells slots) (C : OwnCx p s m meth c Z y bs maxL rt) {k : Fin 4} {v : Int64} (hd : decode bs pc = .ok (.lload_n k, 1)) (pc' : Nat) (hp : pc + 1 = pc') (hl : Ls[k.val]? = some (.val (.long v)))
    (hr : OwnEnds p e below G (T.setTop (mkF m pc' Ls (.long v :: st)))) : OwnEnds p e below G (T.setTop (mkF m pc Ls st)) := by
  subst hp; exact own_st (fun _ q => XS.lloadN X.here C.1 rfl (hb C.2.2.2.1 hd) hl q) hr
theorem own_aload (X : Stand p l e R s m args below meth c T locs cells slots) (C : OwnCx p s m meth c Z y bs maxL rt) {k : Nat} {v : Value} (hd : decode bs pc = .ok (.aload k, 2)) (pc' : Nat) (hp : pc + 2 = pc') (hl : Ls[k]? = some (.val v)) (hv : v.isRef = true)
    (hr : OwnEnds p e below G (T.setTop (mkF m pc' Ls (v :: st)))) : OwnEnds p e below G (T.setTop (mkF m pc Ls st)) := by
  subst hp; exact own_st (fun _ q => XS.aload X.here C.1 rfl (hb C.2.2.2.1 hd) hl hv q) hr
theorem own_aload_n (X : Stand p l e R s m args below meth c T locs cells slots) (C : OwnCx p s m meth c Z y bs maxL rt) {k : Fin 4} {v : Value} (hd : decode bs pc = .ok (.aload_n k, 1)) (pc' : Nat) (hp : pc + 1 = pc') (hl : Ls[k.val]? = some (.val v)) (hv : v.isRef = true)
    (hr : OwnEnds p e below G (T.setTop (mkF m pc' Ls (v :: st)))) : OwnEnds p e below G (T.setTop (mkF m pc Ls st)) := by
  subst hp; exact own_st (fun _ q => XS.aloadN X.here C.1 rfl (hb C.2.2.2.1 hd) hl hv q) hr
theorem own_istore (X : Stand p l e R s m args below meth c T locs cells slots) (C : OwnCx p s m meth c Z y bs maxL rt) {k : Nat} {v : Int32} (hd : decode bs pc = .ok (.istore k, 2)) (pc' : Nat) (hp : pc + 2 = pc') (L' : Array Slot) (hl : storeLocals Ls k (.int v) = some L')
    (hr : OwnEnds p e below G (T.setTop (mkF m pc' L' st))) : OwnEnds p e below G (T.setTop (mkF m pc Ls (.int v :: st))) := by
  subst hp; exact own_st (fun _ q => XS.istore X.here C.1 rfl (hb C.2.2.2.1 hd) rfl hl q) hr
theorem own_lstore (X : Stand p l e R s m args below meth c T locs cells slots) (C : OwnCx p s m meth c Z y bs maxL rt) {k : Nat} {v : Int64} (hd : decode bs pc = .ok (.lstore k, 2)) (pc' : Nat) (hp : pc + 2 = pc') (L' : Array Slot) (hl : storeLocals Ls k (.long v) = some L')
    (hr : OwnEnds p e below G (T.setTop (mkF m pc' L' st))) : OwnEnds p e below G (T.setTop (mkF m pc Ls (.long v :: st))) := by
  subst hp; exact own_st (fun _ q => XS.lstore X.here C.1 rfl (hb C.2.2.2.1 hd) rfl hl q) hr
theorem own_istore_n (X : Stand p l e R s m args below meth c T locs cells slots) (C : OwnCx p s m meth c Z y bs maxL rt) {k : Fin 4} {v : Int32} (hd : decode bs pc = .ok (.istore_n k, 1)) (pc' : Nat) (hp : pc + 1 = pc') (L' : Array Slot) (hl : storeLocals Ls k.val (.int v) = some L')
    (hr : OwnEnds p e below G (T.setTop (mkF m pc' L' st))) : OwnEnds p e below G (T.setTop (mkF m pc Ls (.int v :: st))) := by
  subst hp; exact own_st (fun _ q => XS.istoreN X.here C.1 rfl (hb C.2.2.2.1 hd) rfl hl q) hr
theorem own_lstore_n (X : Stand p l e R s m args below meth c T locs cells slots) (C : OwnCx p s m meth c Z y bs maxL rt) {k : Fin 4} {v : Int64} (hd : decode bs pc = .ok (.lstore_n k, 1)) (pc' : Nat) (hp : pc + 1 = pc') (L' : Array Slot) (hl : storeLocals Ls k.val (.long v) = some L')
    (hr : OwnEnds p e below G (T.setTop (mkF m pc' L' st))) : OwnEnds p e below G (T.setTop (mkF m pc Ls (.long v :: st))) := by
  subst hp; exact own_st (fun _ q => XS.lstoreN X.here C.1 rfl (hb C.2.2.2.1 hd) rfl hl q) hr
theorem own_astore (X : Stand p l e R s m args below meth c T locs cells slots) (C : OwnCx p s m meth c Z y bs maxL rt) {k : Nat} {v : Value} (hd : decode bs pc = .ok (.astore k, 2)) (pc' : Nat) (hp : pc + 2 = pc') (hv : v.isRef = true) (L' : Array Slot) (hl : storeLocals Ls k v = some L')
    (hr : OwnEnds p e below G (T.setTop (mkF m pc' L' st))) : OwnEnds p e below G (T.setTop (mkF m pc Ls (v :: st))) := by
  subst hp; exact own_st (fun _ q => XS.astore X.here C.1 rfl (hb C.2.2.2.1 hd) rfl hv hl q) hr
theorem own_astore_n (X : Stand p l e R s m args below meth c T locs cells slots) (C : OwnCx p s m meth c Z y bs maxL rt) {k : Fin 4} {v : Value} (hd : decode bs pc = .ok (.astore_n k, 1)) (pc' : Nat) (hp : pc + 1 = pc') (hv : v.isRef = true) (L' : Array Slot) (hl : storeLocals Ls k.val v = some L')
    (hr : OwnEnds p e below G (T.setTop (mkF m pc' L' st))) : OwnEnds p e below G (T.setTop (mkF m pc Ls (v :: st))) := by
  subst hp; exact own_st (fun _ q => XS.astoreN X.here C.1 rfl (hb C.2.2.2.1 hd) rfl hv hl q) hr
theorem own_iinc (X : Stand p l e R s m args below meth c T locs cells slots) (C : OwnCx p s m meth c Z y bs maxL rt) {k : Nat} {cst : Int} {v : Int32} (hd : decode bs pc = .ok (.iinc k cst, 3)) (pc' : Nat) (hp : pc + 3 = pc') (hl : Ls[k]? = some (.val (.int v))) (w : Int32) (hw : Int32.ofInt cst = w) (F : Int32 → Array Slot) (hl' : ∀ z, storeLocals Ls k (.int z) = some (F z))
    (hr : ∀ z, z = v + w → OwnEnds p e below G (T.setTop (mkF m pc' (F z) st))) : OwnEnds p e below G (T.setTop (mkF m pc Ls st)) := by
  subst hp hw; exact own_st (fun _ q => XS.iinc X.here C.1 rfl (hb C.2.2.2.1 hd) hl (hl' _) q) (hr _ rfl)
theorem own_iconst (X : Stand p l e R s m args below meth c T locs cells slots) (C : OwnCx p s m meth c Z y bs maxL rt) {i : Int} (hd : decode bs pc = .ok (.iconst i, 1)) (pc' : Nat) (hp : pc + 1 = pc') (k : Int32) (hk : Int32.ofInt i = k)
    (hr : OwnEnds p e below G (T.setTop (mkF m pc' Ls (.int k :: st)))) : OwnEnds p e below G (T.setTop (mkF m pc Ls st)) := by
  subst hp hk; exact own_st (fun _ q => XS.iconst X.here C.1 rfl (hb C.2.2.2.1 hd) q) hr
theorem own_bipush (X : Stand p l e R s m args below meth c T locs cells slots) (C : OwnCx p s m meth c Z y bs maxL rt) {i : Int} (hd : decode bs pc = .ok (.bipush i, 2)) (pc' : Nat) (hp : pc + 2 = pc') (k : Int32) (hk : (Int8.ofInt i).toInt32 = k)
    (hr : OwnEnds p e below G (T.setTop (mkF m pc' Ls (.int k :: st)))) : OwnEnds p e below G (T.setTop (mkF m pc Ls st)) := by
  subst hp hk; exact own_st (fun _ q => XS.bipush X.here C.1 rfl (hb C.2.2.2.1 hd) q) hr
theorem own_sipush (X : Stand p l e R s m args below meth c T locs cells slots) (C : OwnCx p s m meth c Z y bs maxL rt) {i : Int} (hd : decode bs pc = .ok (.sipush i, 3)) (pc' : Nat) (hp : pc + 3 = pc') (k : Int32) (hk : (Int16.ofInt i).toInt32 = k)
    (hr : OwnEnds p e below G (T.setTop (mkF m pc' Ls (.int k :: st)))) : OwnEnds p e below G (T.setTop (mkF m pc Ls st)) := by
  subst hp hk; exact own_st (fun _ q => XS.sipush X.here C.1 rfl (hb C.2.2.2.1 hd) q) hr
theorem own_lconst (X : Stand p l e R s m args below meth c T locs cells slots) (C : OwnCx p s m meth c Z y bs maxL rt) {i : Fin 2} (hd : decode bs pc = .ok (.lconst i, 1)) (pc' : Nat) (hp : pc + 1 = pc') (k : Int64) (hk : Int64.ofNat i = k)
    (hr : OwnEnds p e below G (T.setTop (mkF m pc' Ls (.long k :: st)))) : OwnEnds p e below G (T.setTop (mkF m pc Ls st)) := by
  subst hp hk; exact own_st (fun _ q => XS.lconst X.here C.1 rfl (hb C.2.2.2.1 hd) q) hr
theorem own_aconst_null (X : Stand p l e R s m args below meth c T locs cells slots) (C : OwnCx p s m meth c Z y bs maxL rt) (hd : decode bs pc = .ok (.aconst_null, 1)) (pc' : Nat) (hp : pc + 1 = pc')
    (hr : OwnEnds p e below G (T.setTop (mkF m pc' Ls (.null :: st)))) : OwnEnds p e below G (T.setTop (mkF m pc Ls st)) := by
  subst hp; exact own_st (fun _ q => XS.aconstNull X.here C.1 rfl (hb C.2.2.2.1 hd) q) hr
theorem own_ldc (X : Stand p l e R s m args below meth c T locs cells slots) (C : OwnCx p s m meth c Z y bs maxL rt) {i : Nat} {v : Int32} (w : (Jvm.Cond.constant y.cls i v).before a0 Z = true) (hd : decode bs pc = .ok (.ldc i, 2)) (pc' : Nat) (hp : pc + 2 = pc')
    (hr : OwnEnds p e below G (T.setTop (mkF m pc' Ls (.int v :: st)))) : OwnEnds p e below G (T.setTop (mkF m pc Ls st)) := by
  subst hp; exact own_st (X.ldcInt C.1 C.2.2.1 (mvT C.2.1 w) (g := mkF m pc Ls st) rfl (hb C.2.2.2.1 hd)) hr
theorem own_ldcw (X : Stand p l e R s m args below meth c T locs cells slots) (C : OwnCx p s m meth c Z y bs maxL rt) {i : Nat} {v : Int32} (w : (Jvm.Cond.constant y.cls i v).before a0 Z = true) (hd : decode bs pc = .ok (.ldc_w i, 3)) (pc' : Nat) (hp : pc + 3 = pc')
    (hr : OwnEnds p e below G (T.setTop (mkF m pc' Ls (.int v :: st)))) : OwnEnds p e below G (T.setTop (mkF m pc Ls st)) := by
  subst hp; exact own_st (X.ldcwInt C.1 C.2.2.1 (mvT C.2.1 w) (g := mkF m pc Ls st) rfl (hb C.2.2.2.1 hd)) hr
theorem own_ldc2 (X : Stand p l e R s m args below meth c T locs cells slots) (C : OwnCx p s m meth c Z y bs maxL rt) {i : Nat} {v : Int64} (w : (Jvm.Cond.constantLong y.cls i v).before a0 Z = true) (hd : decode bs pc = .ok (.ldc2_w i, 3)) (pc' : Nat) (hp : pc + 3 = pc')
    (hr : OwnEnds p e below G (T.setTop (mkF m pc' Ls (.long v :: st)))) : OwnEnds p e below G (T.setTop (mkF m pc Ls st)) := by
  subst hp; exact own_st (X.ldc2Long C.1 C.2.2.1 (mvT C.2.1 w) (g := mkF m pc Ls st) rfl (hb C.2.2.2.1 hd)) hr
theorem own_iadd (X : Stand p l e R s m args below meth c T locs cells slots) (C : OwnCx p s m meth c Z y bs maxL rt) {a b : Int32} (hd : decode bs pc = .ok (.iadd, 1)) (pc' : Nat) (hp : pc + 1 = pc')
    (hr : ∀ z, z = a + b → OwnEnds p e below G (T.setTop (mkF m pc' Ls (.int z :: st)))) : OwnEnds p e below G (T.setTop (mkF m pc Ls (.int b :: .int a :: st))) := by
  subst hp; exact own_st (fun _ q => XS.iadd X.here C.1 rfl (hb C.2.2.2.1 hd) rfl q) (hr _ rfl)
theorem own_isub (X : Stand p l e R s m args below meth c T locs cells slots) (C : OwnCx p s m meth c Z y bs maxL rt) {a b : Int32} (hd : decode bs pc = .ok (.isub, 1)) (pc' : Nat) (hp : pc + 1 = pc')
    (hr : ∀ z, z = a - b → OwnEnds p e below G (T.setTop (mkF m pc' Ls (.int z :: st)))) : OwnEnds p e below G (T.setTop (mkF m pc Ls (.int b :: .int a :: st))) := by
  subst hp; exact own_st (fun _ q => XS.isub X.here C.1 rfl (hb C.2.2.2.1 hd) rfl q) (hr _ rfl)
theorem own_imul (X : Stand p l e R s m args below meth c T locs cells slots) (C : OwnCx p s m meth c Z y bs maxL rt) {a b : Int32} (hd : decode bs pc = .ok (.imul, 1)) (pc' : Nat) (hp : pc + 1 = pc')
    (hr : ∀ z, z = a * b → OwnEnds p e below G (T.setTop (mkF m pc' Ls (.int z :: st)))) : OwnEnds p e below G (T.setTop (mkF m pc Ls (.int b :: .int a :: st))) := by
  subst hp; exact own_st (fun _ q => XS.imul X.here C.1 rfl (hb C.2.2.2.1 hd) rfl q) (hr _ rfl)
theorem own_iand (X : Stand p l e R s m args below meth c T locs cells slots) (C : OwnCx p s m meth c Z y bs maxL rt) {a b : Int32} (hd : decode bs pc = .ok (.iand, 1)) (pc' : Nat) (hp : pc + 1 = pc')
    (hr : ∀ z, z = a &&& b → OwnEnds p e below G (T.setTop (mkF m pc' Ls (.int z :: st)))) : OwnEnds p e below G (T.setTop (mkF m pc Ls (.int b :: .int a :: st))) := by
  subst hp; exact own_st (fun _ q => XS.iand X.here C.1 rfl (hb C.2.2.2.1 hd) rfl q) (hr _ rfl)
theorem own_ior (X : Stand p l e R s m args below meth c T locs cells slots) (C : OwnCx p s m meth c Z y bs maxL rt) {a b : Int32} (hd : decode bs pc = .ok (.ior, 1)) (pc' : Nat) (hp : pc + 1 = pc')
    (hr : ∀ z, z = a ||| b → OwnEnds p e below G (T.setTop (mkF m pc' Ls (.int z :: st)))) : OwnEnds p e below G (T.setTop (mkF m pc Ls (.int b :: .int a :: st))) := by
  subst hp; exact own_st (fun _ q => XS.ior X.here C.1 rfl (hb C.2.2.2.1 hd) rfl q) (hr _ rfl)
theorem own_ixor (X : Stand p l e R s m args below meth c T locs cells slots) (C : OwnCx p s m meth c Z y bs maxL rt) {a b : Int32} (hd : decode bs pc = .ok (.ixor, 1)) (pc' : Nat) (hp : pc + 1 = pc')
    (hr : ∀ z, z = a ^^^ b → OwnEnds p e below G (T.setTop (mkF m pc' Ls (.int z :: st)))) : OwnEnds p e below G (T.setTop (mkF m pc Ls (.int b :: .int a :: st))) := by
  subst hp; exact own_st (fun _ q => XS.ixor X.here C.1 rfl (hb C.2.2.2.1 hd) rfl q) (hr _ rfl)
theorem own_idiv (X : Stand p l e R s m args below meth c T locs cells slots) (C : OwnCx p s m meth c Z y bs maxL rt) {a b : Int32} (hd : decode bs pc = .ok (.idiv, 1)) (pc' : Nat) (hp : pc + 1 = pc') (hz : b ≠ 0)
    (hr : ∀ z, z = a / b → OwnEnds p e below G (T.setTop (mkF m pc' Ls (.int z :: st)))) : OwnEnds p e below G (T.setTop (mkF m pc Ls (.int b :: .int a :: st))) := by
  subst hp; exact own_st (fun _ q => XS.idiv X.here C.1 rfl (hb C.2.2.2.1 hd) rfl hz q) (hr _ rfl)
theorem own_ladd (X : Stand p l e R s m args below meth c T locs cells slots) (C : OwnCx p s m meth c Z y bs maxL rt) {a b : Int64} (hd : decode bs pc = .ok (.ladd, 1)) (pc' : Nat) (hp : pc + 1 = pc')
    (hr : ∀ z, z = a + b → OwnEnds p e below G (T.setTop (mkF m pc' Ls (.long z :: st)))) : OwnEnds p e below G (T.setTop (mkF m pc Ls (.long b :: .long a :: st))) := by
  subst hp; exact own_st (fun _ q => XS.ladd X.here C.1 rfl (hb C.2.2.2.1 hd) rfl q) (hr _ rfl)
theorem own_lsub (X : Stand p l e R s m args below meth c T locs cells slots) (C : OwnCx p s m meth c Z y bs maxL rt) {a b : Int64} (hd : decode bs pc = .ok (.lsub, 1)) (pc' : Nat) (hp : pc + 1 = pc')
    (hr : ∀ z, z = a - b → OwnEnds p e below G (T.setTop (mkF m pc' Ls (.long z :: st)))) : OwnEnds p e below G (T.setTop (mkF m pc Ls (.long b :: .long a :: st))) := by
  subst hp; exact own_st (fun _ q => XS.lsub X.here C.1 rfl (hb C.2.2.2.1 hd) rfl q) (hr _ rfl)
theorem own_lmul (X : Stand p l e R s m args below meth c T locs cells slots) (C : OwnCx p s m meth c Z y bs maxL rt) {a b : Int64} (hd : decode bs pc = .ok (.lmul, 1)) (pc' : Nat) (hp : pc + 1 = pc')
    (hr : ∀ z, z = a * b → OwnEnds p e below G (T.setTop (mkF m pc' Ls (.long z :: st)))) : OwnEnds p e below G (T.setTop (mkF m pc Ls (.long b :: .long a :: st))) := by
  subst hp; exact own_st (fun _ q => XS.lmul X.here C.1 rfl (hb C.2.2.2.1 hd) rfl q) (hr _ rfl)
theorem own_land (X : Stand p l e R s m args below meth c T locs cells slots) (C : OwnCx p s m meth c Z y bs maxL rt) {a b : Int64} (hd : decode bs pc = .ok (.land, 1)) (pc' : Nat) (hp : pc + 1 = pc')
    (hr : ∀ z, z = a &&& b → OwnEnds p e below G (T.setTop (mkF m pc' Ls (.long z :: st)))) : OwnEnds p e below G (T.setTop (mkF m pc Ls (.long b :: .long a :: st))) := by
  subst hp; exact own_st (fun _ q => XS.land X.here C.1 rfl (hb C.2.2.2.1 hd) rfl q) (hr _ rfl)
theorem own_lor (X : Stand p l e R s m args below meth c T locs cells slots) (C : OwnCx p s m meth c Z y bs maxL rt) {a b : Int64} (hd : decode bs pc = .ok (.lor, 1)) (pc' : Nat) (hp : pc + 1 = pc')
    (hr : ∀ z, z = a ||| b → OwnEnds p e below G (T.setTop (mkF m pc' Ls (.long z :: st)))) : OwnEnds p e below G (T.setTop (mkF m pc Ls (.long b :: .long a :: st))) := by
  subst hp; exact own_st (fun _ q => XS.lor X.here C.1 rfl (hb C.2.2.2.1 hd) rfl q) (hr _ rfl)
theorem own_lxor (X : Stand p l e R s m args below meth c T locs cells slots) (C : OwnCx p s m meth c Z y bs maxL rt) {a b : Int64} (hd : decode bs pc = .ok (.lxor, 1)) (pc' : Nat) (hp : pc + 1 = pc')
    (hr : ∀ z, z = a ^^^ b → OwnEnds p e below G (T.setTop (mkF m pc' Ls (.long z :: st)))) : OwnEnds p e below G (T.setTop (mkF m pc Ls (.long b :: .long a :: st))) := by
  subst hp; exact own_st (fun _ q => XS.lxor X.here C.1 rfl (hb C.2.2.2.1 hd) rfl q) (hr _ rfl)
theorem own_ldiv (X : Stand p l e R s m args below meth c T locs cells slots) (C : OwnCx p s m meth c Z y bs maxL rt) {a b : Int64} (hd : decode bs pc = .ok (.ldiv, 1)) (pc' : Nat) (hp : pc + 1 = pc') (hz : b ≠ 0)
    (hr : ∀ z, z = a / b → OwnEnds p e below G (T.setTop (mkF m pc' Ls (.long z :: st)))) : OwnEnds p e below G (T.setTop (mkF m pc Ls (.long b :: .long a :: st))) := by
  subst hp; exact own_st (fun _ q => XS.ldiv X.here C.1 rfl (hb C.2.2.2.1 hd) rfl hz q) (hr _ rfl)
theorem own_irem (X : Stand p l e R s m args below meth c T locs cells slots) (C : OwnCx p s m meth c Z y bs maxL rt) {a b : Int32} (hd : decode bs pc = .ok (.irem, 1)) (pc' : Nat) (hp : pc + 1 = pc') (hz : b ≠ 0)
    (hr : ∀ z, z = a % b → OwnEnds p e below G (T.setTop (mkF m pc' Ls (.int z :: st)))) : OwnEnds p e below G (T.setTop (mkF m pc Ls (.int b :: .int a :: st))) := by
  subst hp; exact own_st (fun _ q => iremM X C.1 rfl (hb C.2.2.2.1 hd) rfl hz q) (hr _ rfl)
theorem own_lrem (X : Stand p l e R s m args below meth c T locs cells slots) (C : OwnCx p s m meth c Z y bs maxL rt) {a b : Int64} (hd : decode bs pc = .ok (.lrem, 1)) (pc' : Nat) (hp : pc + 1 = pc') (hz : b ≠ 0)
    (hr : ∀ z, z = a % b → OwnEnds p e below G (T.setTop (mkF m pc' Ls (.long z :: st)))) : OwnEnds p e below G (T.setTop (mkF m pc Ls (.long b :: .long a :: st))) := by
  subst hp; exact own_st (fun _ q => XS.lrem X.here C.1 rfl (hb C.2.2.2.1 hd) rfl hz q) (hr _ (lrem_mod a b))
theorem own_ishl (X : Stand p l e R s m args below meth c T locs cells slots) (C : OwnCx p s m meth c Z y bs maxL rt) {a : Int32} {b : Int32} (hd : decode bs pc = .ok (.ishl, 1)) (pc' : Nat) (hp : pc + 1 = pc')
    (hr : ∀ z, z = (a <<< (b &&& 31)) → OwnEnds p e below G (T.setTop (mkF m pc' Ls (.int z :: st)))) : OwnEnds p e below G (T.setTop (mkF m pc Ls (.int b :: .int a :: st))) := by
  subst hp; exact own_st (fun _ q => XS.ishl X.here C.1 rfl (hb C.2.2.2.1 hd) rfl q) (hr _ rfl)
theorem own_ishr (X : Stand p l e R s m args below meth c T locs cells slots) (C : OwnCx p s m meth c Z y bs maxL rt) {a : Int32} {b : Int32} (hd : decode bs pc = .ok (.ishr, 1)) (pc' : Nat) (hp : pc + 1 = pc')
    (hr : ∀ z, z = (a >>> (b &&& 31)) → OwnEnds p e below G (T.setTop (mkF m pc' Ls (.int z :: st)))) : OwnEnds p e below G (T.setTop (mkF m pc Ls (.int b :: .int a :: st))) := by
  subst hp; exact own_st (fun _ q => XS.ishr X.here C.1 rfl (hb C.2.2.2.1 hd) rfl q) (hr _ rfl)
theorem own_iushr (X : Stand p l e R s m args below meth c T locs cells slots) (C : OwnCx p s m meth c Z y bs maxL rt) {a : Int32} {b : Int32} (hd : decode bs pc = .ok (.iushr, 1)) (pc' : Nat) (hp : pc + 1 = pc')
    (hr : ∀ z, z = ((a.toUInt32 >>> (b &&& 31).toUInt32).toInt32) → OwnEnds p e below G (T.setTop (mkF m pc' Ls (.int z :: st)))) : OwnEnds p e below G (T.setTop (mkF m pc Ls (.int b :: .int a :: st))) := by
  subst hp; exact own_st (fun _ q => XS.iushr X.here C.1 rfl (hb C.2.2.2.1 hd) rfl q) (hr _ rfl)
theorem own_lshl (X : Stand p l e R s m args below meth c T locs cells slots) (C : OwnCx p s m meth c Z y bs maxL rt) {a : Int64} {b : Int32} (hd : decode bs pc = .ok (.lshl, 1)) (pc' : Nat) (hp : pc + 1 = pc')
    (hr : ∀ z, z = (a <<< (b &&& 0x3f).toInt64) → OwnEnds p e below G (T.setTop (mkF m pc' Ls (.long z :: st)))) : OwnEnds p e below G (T.setTop (mkF m pc Ls (.int b :: .long a :: st))) := by
  subst hp; exact own_st (fun _ q => XS.lshl X.here C.1 rfl (hb C.2.2.2.1 hd) rfl q) (hr _ rfl)
theorem own_lshr (X : Stand p l e R s m args below meth c T locs cells slots) (C : OwnCx p s m meth c Z y bs maxL rt) {a : Int64} {b : Int32} (hd : decode bs pc = .ok (.lshr, 1)) (pc' : Nat) (hp : pc + 1 = pc')
    (hr : ∀ z, z = (a >>> (b &&& 0x3f).toInt64) → OwnEnds p e below G (T.setTop (mkF m pc' Ls (.long z :: st)))) : OwnEnds p e below G (T.setTop (mkF m pc Ls (.int b :: .long a :: st))) := by
  subst hp; exact own_st (fun _ q => XS.lshr X.here C.1 rfl (hb C.2.2.2.1 hd) rfl q) (hr _ rfl)
theorem own_lushr (X : Stand p l e R s m args below meth c T locs cells slots) (C : OwnCx p s m meth c Z y bs maxL rt) {a : Int64} {b : Int32} (hd : decode bs pc = .ok (.lushr, 1)) (pc' : Nat) (hp : pc + 1 = pc')
    (hr : ∀ z, z = ((a.toUInt64 >>> (b &&& 0x3f).toInt64.toUInt64).toInt64) → OwnEnds p e below G (T.setTop (mkF m pc' Ls (.long z :: st)))) : OwnEnds p e below G (T.setTop (mkF m pc Ls (.int b :: .long a :: st))) := by
  subst hp; exact own_st (fun _ q => XS.lushr X.here C.1 rfl (hb C.2.2.2.1 hd) rfl q) (hr _ rfl)
theorem own_ineg (X : Stand p l e R s m args below meth c T locs cells slots) (C : OwnCx p s m meth c Z y bs maxL rt) {a : Int32} (hd : decode bs pc = .ok (.ineg, 1)) (pc' : Nat) (hp : pc + 1 = pc')
    (hr : ∀ z, z = -a → OwnEnds p e below G (T.setTop (mkF m pc' Ls (.int z :: st)))) : OwnEnds p e below G (T.setTop (mkF m pc Ls (.int a :: st))) := by
  subst hp; exact own_st (fun _ q => XS.ineg X.here C.1 rfl (hb C.2.2.2.1 hd) rfl q) (hr _ rfl)
theorem own_lneg (X : Stand p l e R s m args below meth c T locs cells slots) (C : OwnCx p s m meth c Z y bs maxL rt) {a : Int64} (hd : decode bs pc = .ok (.lneg, 1)) (pc' : Nat) (hp : pc + 1 = pc')
    (hr : ∀ z, z = -a → OwnEnds p e below G (T.setTop (mkF m pc' Ls (.long z :: st)))) : OwnEnds p e below G (T.setTop (mkF m pc Ls (.long a :: st))) := by
  subst hp; exact own_st (fun _ q => XS.lneg X.here C.1 rfl (hb C.2.2.2.1 hd) rfl q) (hr _ rfl)
theorem own_i2l (X : Stand p l e R s m args below meth c T locs cells slots) (C : OwnCx p s m meth c Z y bs maxL rt) {a : Int32} (hd : decode bs pc = .ok (.i2l, 1)) (pc' : Nat) (hp : pc + 1 = pc')
    (hr : ∀ z, z = a.toInt64 → OwnEnds p e below G (T.setTop (mkF m pc' Ls (.long z :: st)))) : OwnEnds p e below G (T.setTop (mkF m pc Ls (.int a :: st))) := by
  subst hp; exact own_st (fun _ q => XS.i2l X.here C.1 rfl (hb C.2.2.2.1 hd) rfl q) (hr _ rfl)
theorem own_l2i (X : Stand p l e R s m args below meth c T locs cells slots) (C : OwnCx p s m meth c Z y bs maxL rt) {a : Int64} (hd : decode bs pc = .ok (.l2i, 1)) (pc' : Nat) (hp : pc + 1 = pc')
    (hr : ∀ z, z = a.toInt32 → OwnEnds p e below G (T.setTop (mkF m pc' Ls (.int z :: st)))) : OwnEnds p e below G (T.setTop (mkF m pc Ls (.long a :: st))) := by
  subst hp; exact own_st (fun _ q => XS.l2i X.here C.1 rfl (hb C.2.2.2.1 hd) rfl q) (hr _ rfl)
theorem own_i2b (X : Stand p l e R s m args below meth c T locs cells slots) (C : OwnCx p s m meth c Z y bs maxL rt) {a : Int32} (hd : decode bs pc = .ok (.i2b, 1)) (pc' : Nat) (hp : pc + 1 = pc')
    (hr : ∀ z, z = a.toInt8.toInt32 → OwnEnds p e below G (T.setTop (mkF m pc' Ls (.int z :: st)))) : OwnEnds p e below G (T.setTop (mkF m pc Ls (.int a :: st))) := by
  subst hp; exact own_st (fun _ q => XS.i2b X.here C.1 rfl (hb C.2.2.2.1 hd) rfl q) (hr _ rfl)
theorem own_i2s (X : Stand p l e R s m args below meth c T locs cells slots) (C : OwnCx p s m meth c Z y bs maxL rt) {a : Int32} (hd : decode bs pc = .ok (.i2s, 1)) (pc' : Nat) (hp : pc + 1 = pc')
    (hr : ∀ z, z = a.toInt16.toInt32 → OwnEnds p e below G (T.setTop (mkF m pc' Ls (.int z :: st)))) : OwnEnds p e below G (T.setTop (mkF m pc Ls (.int a :: st))) := by
  subst hp; exact own_st (fun _ q => XS.i2s X.here C.1 rfl (hb C.2.2.2.1 hd) rfl q) (hr _ rfl)
theorem own_i2c (X : Stand p l e R s m args below meth c T locs cells slots) (C : OwnCx p s m meth c Z y bs maxL rt) {a : Int32} (hd : decode bs pc = .ok (.i2c, 1)) (pc' : Nat) (hp : pc + 1 = pc')
    (hr : ∀ z, z = a.toUInt32.toUInt16.toUInt32.toInt32 → OwnEnds p e below G (T.setTop (mkF m pc' Ls (.int z :: st)))) : OwnEnds p e below G (T.setTop (mkF m pc Ls (.int a :: st))) := by
  subst hp; exact own_st (fun _ q => XS.i2c X.here C.1 rfl (hb C.2.2.2.1 hd) rfl q) (hr _ rfl)
theorem own_lcmp (X : Stand p l e R s m args below meth c T locs cells slots) (C : OwnCx p s m meth c Z y bs maxL rt) {a b : Int64} (hd : decode bs pc = .ok (.lcmp, 1)) (pc' : Nat) (hp : pc + 1 = pc')
    (hr : ∀ z : Int32, (a.toInt < b.toInt → z.toInt = -1) → (a.toInt = b.toInt → z.toInt = 0) → (b.toInt < a.toInt → z.toInt = 1) → OwnEnds p e below G (T.setTop (mkF m pc' Ls (.int z :: st)))) : OwnEnds p e below G (T.setTop (mkF m pc Ls (.long b :: .long a :: st))) := by
  subst hp; exact own_st (fun _ q => XS.lcmp X.here C.1 rfl (hb C.2.2.2.1 hd) rfl q) (hr _ (c_lcmp a b).1 (c_lcmp a b).2.1 (c_lcmp a b).2.2)
theorem own_dup (X : Stand p l e R s m args below meth c T locs cells slots) (C : OwnCx p s m meth c Z y bs maxL rt) {v : Value} (hd : decode bs pc = .ok (.dup, 1)) (pc' : Nat) (hp : pc + 1 = pc') (hc : v.category = 1)
    (hr : OwnEnds p e below G (T.setTop (mkF m pc' Ls (v :: v :: st)))) : OwnEnds p e below G (T.setTop (mkF m pc Ls (v :: st))) := by
  subst hp; exact own_st (fun _ q => XS.dup X.here C.1 rfl (hb C.2.2.2.1 hd) rfl hc q) hr
theorem own_dup_x1 (X : Stand p l e R s m args below meth c T locs cells slots) (C : OwnCx p s m meth c Z y bs maxL rt) {v w : Value} (hd : decode bs pc = .ok (.dup_x1, 1)) (pc' : Nat) (hp : pc + 1 = pc') (hc : v.category = 1) (hc' : w.category = 1)
    (hr : OwnEnds p e below G (T.setTop (mkF m pc' Ls (v :: w :: v :: st)))) : OwnEnds p e below G (T.setTop (mkF m pc Ls (v :: w :: st))) := by
  subst hp; exact own_st (fun _ q => XS.dupX1 X.here C.1 rfl (hb C.2.2.2.1 hd) rfl hc hc' q) hr
theorem own_pop (X : Stand p l e R s m args below meth c T locs cells slots) (C : OwnCx p s m meth c Z y bs maxL rt) {v : Value} (hd : decode bs pc = .ok (.pop, 1)) (pc' : Nat) (hp : pc + 1 = pc') (hc : v.category = 1)
    (hr : OwnEnds p e below G (T.setTop (mkF m pc' Ls st))) : OwnEnds p e below G (T.setTop (mkF m pc Ls (v :: st))) := by
  subst hp; exact own_st (fun _ q => XS.pop X.here C.1 rfl (hb C.2.2.2.1 hd) rfl hc q) hr
theorem own_dup2 (X : Stand p l e R s m args below meth c T locs cells slots) (C : OwnCx p s m meth c Z y bs maxL rt) {v w : Value} (hd : decode bs pc = .ok (.dup2, 1)) (pc' : Nat) (hp : pc + 1 = pc') (hc : v.category = 1) (hc' : w.category = 1)
    (hr : OwnEnds p e below G (T.setTop (mkF m pc' Ls (v :: w :: v :: w :: st)))) : OwnEnds p e below G (T.setTop (mkF m pc Ls (v :: w :: st))) := by
  subst hp; exact own_st (fun _ q => XT.dup2 X.here C.1 rfl (hb C.2.2.2.1 hd) rfl hc hc' q) hr
theorem own_goto (X : Stand p l e R s m args below meth c T locs cells slots) (C : OwnCx p s m meth c Z y bs maxL rt) {o : Int} (hd : decode bs pc = .ok (.goto o, 3)) (pc' : Nat) (ho : 0 ≤ (pc : Int) + o) (hp : ((pc : Int) + o).toNat = pc')
    (hr : OwnEnds p e below G (T.setTop (mkF m pc' Ls st))) : OwnEnds p e below G (T.setTop (mkF m pc Ls st)) :=
  own_st (fun _ q => XS.goto X.here C.1 rfl rfl (hb C.2.2.2.1 hd) ho hp q) hr
theorem own_icmplt (X : Stand p l e R s m args below meth c T locs cells slots) (C : OwnCx p s m meth c Z y bs maxL rt) {x' y' : Int32} {o : Int} (hd : decode bs pc = .ok (.if_icmp .lt o, 3)) (pn pc' : Nat) (hpn : pc + 3 = pn) (ho : 0 ≤ (pc : Int) + o) (hp : ((pc : Int) + o).toNat = pc') {i : Int} (hi : x'.toInt = i) {j : Int} (hj : y'.toInt = j) 
    (hy : i < j → OwnEnds p e below G (T.setTop (mkF m pc' Ls st))) (hn : j ≤ i → OwnEnds p e below G (T.setTop (mkF m pn Ls st))) : OwnEnds p e below G (T.setTop (mkF m pc Ls (.int y' :: .int x' :: st))) := by
  subst hpn
  by_cases k : x' < y'
  · exact own_st (fun _ q => XS.icmpYes X.here C.1 rfl rfl (hb C.2.2.2.1 hd) rfl (((tlt k).1)) ho hp q) (hy (by rw [Int32.lt_iff_toInt_lt] at k; have q : y'.toInt = j := hj; omega))
  · exact own_st (fun _ q => XS.icmpNo X.here C.1 rfl (hb C.2.2.2.1 hd) rfl (((flt k).1)) q) (hn (by rw [Int32.lt_iff_toInt_lt] at k; have q : y'.toInt = j := hj; omega))
theorem own_icmpge (X : Stand p l e R s m args below meth c T locs cells slots) (C : OwnCx p s m meth c Z y bs maxL rt) {x' y' : Int32} {o : Int} (hd : decode bs pc = .ok (.if_icmp .ge o, 3)) (pn pc' : Nat) (hpn : pc + 3 = pn) (ho : 0 ≤ (pc : Int) + o) (hp : ((pc : Int) + o).toNat = pc') {i : Int} (hi : x'.toInt = i) {j : Int} (hj : y'.toInt = j) 
    (hy : j ≤ i → OwnEnds p e below G (T.setTop (mkF m pc' Ls st))) (hn : i < j → OwnEnds p e below G (T.setTop (mkF m pn Ls st))) : OwnEnds p e below G (T.setTop (mkF m pc Ls (.int y' :: .int x' :: st))) := by
  subst hpn
  by_cases k : x' < y'
  · exact own_st (fun _ q => XS.icmpNo X.here C.1 rfl (hb C.2.2.2.1 hd) rfl (((tlt k).2.1)) q) (hn (by rw [Int32.lt_iff_toInt_lt] at k; have q : y'.toInt = j := hj; omega))
  · exact own_st (fun _ q => XS.icmpYes X.here C.1 rfl rfl (hb C.2.2.2.1 hd) rfl (((flt k).2.1)) ho hp q) (hy (by rw [Int32.lt_iff_toInt_lt] at k; have q : y'.toInt = j := hj; omega))
theorem own_icmpgt (X : Stand p l e R s m args below meth c T locs cells slots) (C : OwnCx p s m meth c Z y bs maxL rt) {x' y' : Int32} {o : Int} (hd : decode bs pc = .ok (.if_icmp .gt o, 3)) (pn pc' : Nat) (hpn : pc + 3 = pn) (ho : 0 ≤ (pc : Int) + o) (hp : ((pc : Int) + o).toNat = pc') {i : Int} (hi : x'.toInt = i) {j : Int} (hj : y'.toInt = j) 
    (hy : j < i → OwnEnds p e below G (T.setTop (mkF m pc' Ls st))) (hn : i ≤ j → OwnEnds p e below G (T.setTop (mkF m pn Ls st))) : OwnEnds p e below G (T.setTop (mkF m pc Ls (.int y' :: .int x' :: st))) := by
  subst hpn
  by_cases k : y' < x'
  · exact own_st (fun _ q => XS.icmpYes X.here C.1 rfl rfl (hb C.2.2.2.1 hd) rfl (((tlt k).2.2.1)) ho hp q) (hy (by rw [Int32.lt_iff_toInt_lt] at k; have q : y'.toInt = j := hj; omega))
  · exact own_st (fun _ q => XS.icmpNo X.here C.1 rfl (hb C.2.2.2.1 hd) rfl (((flt k).2.2.1)) q) (hn (by rw [Int32.lt_iff_toInt_lt] at k; have q : y'.toInt = j := hj; omega))
theorem own_icmple (X : Stand p l e R s m args below meth c T locs cells slots) (C : OwnCx p s m meth c Z y bs maxL rt) {x' y' : Int32} {o : Int} (hd : decode bs pc = .ok (.if_icmp .le o, 3)) (pn pc' : Nat) (hpn : pc + 3 = pn) (ho : 0 ≤ (pc : Int) + o) (hp : ((pc : Int) + o).toNat = pc') {i : Int} (hi : x'.toInt = i) {j : Int} (hj : y'.toInt = j) 
    (hy : i ≤ j → OwnEnds p e below G (T.setTop (mkF m pc' Ls st))) (hn : j < i → OwnEnds p e below G (T.setTop (mkF m pn Ls st))) : OwnEnds p e below G (T.setTop (mkF m pc Ls (.int y' :: .int x' :: st))) := by
  subst hpn
  by_cases k : y' < x'
  · exact own_st (fun _ q => XS.icmpNo X.here C.1 rfl (hb C.2.2.2.1 hd) rfl (((tlt k).2.2.2)) q) (hn (by rw [Int32.lt_iff_toInt_lt] at k; have q : y'.toInt = j := hj; omega))
  · exact own_st (fun _ q => XS.icmpYes X.here C.1 rfl rfl (hb C.2.2.2.1 hd) rfl (((flt k).2.2.2)) ho hp q) (hy (by rw [Int32.lt_iff_toInt_lt] at k; have q : y'.toInt = j := hj; omega))
theorem own_icmpeq (X : Stand p l e R s m args below meth c T locs cells slots) (C : OwnCx p s m meth c Z y bs maxL rt) {x' y' : Int32} {o : Int} (hd : decode bs pc = .ok (.if_icmp .eq o, 3)) (pn pc' : Nat) (hpn : pc + 3 = pn) (ho : 0 ≤ (pc : Int) + o) (hp : ((pc : Int) + o).toNat = pc') {i : Int} (hi : x'.toInt = i) {j : Int} (hj : y'.toInt = j) 
    (hy : i = j → OwnEnds p e below G (T.setTop (mkF m pc' Ls st))) (hn : i ≠ j → OwnEnds p e below G (T.setTop (mkF m pn Ls st))) : OwnEnds p e below G (T.setTop (mkF m pc Ls (.int y' :: .int x' :: st))) := by
  subst hpn
  by_cases k : x' = y'
  · exact own_st (fun _ q => XS.icmpYes X.here C.1 rfl rfl (hb C.2.2.2.1 hd) rfl (((teq k).1)) ho hp q) (hy (by subst k; exact hi.symm.trans hj))
  · exact own_st (fun _ q => XS.icmpNo X.here C.1 rfl (hb C.2.2.2.1 hd) rfl (((feq k).1)) q) (hn (fun q => k (Int32.toInt_inj.mp (hi.trans (q.trans hj.symm)))))
theorem own_icmpne (X : Stand p l e R s m args below meth c T locs cells slots) (C : OwnCx p s m meth c Z y bs maxL rt) {x' y' : Int32} {o : Int} (hd : decode bs pc = .ok (.if_icmp .ne o, 3)) (pn pc' : Nat) (hpn : pc + 3 = pn) (ho : 0 ≤ (pc : Int) + o) (hp : ((pc : Int) + o).toNat = pc') {i : Int} (hi : x'.toInt = i) {j : Int} (hj : y'.toInt = j) 
    (hy : i ≠ j → OwnEnds p e below G (T.setTop (mkF m pc' Ls st))) (hn : i = j → OwnEnds p e below G (T.setTop (mkF m pn Ls st))) : OwnEnds p e below G (T.setTop (mkF m pc Ls (.int y' :: .int x' :: st))) := by
  subst hpn
  by_cases k : x' = y'
  · exact own_st (fun _ q => XS.icmpNo X.here C.1 rfl (hb C.2.2.2.1 hd) rfl (((teq k).2)) q) (hn (by subst k; exact hi.symm.trans hj))
  · exact own_st (fun _ q => XS.icmpYes X.here C.1 rfl rfl (hb C.2.2.2.1 hd) rfl (((feq k).2)) ho hp q) (hy (fun q => k (Int32.toInt_inj.mp (hi.trans (q.trans hj.symm)))))
theorem own_iflt (X : Stand p l e R s m args below meth c T locs cells slots) (C : OwnCx p s m meth c Z y bs maxL rt) {x' : Int32} {o : Int} (hd : decode bs pc = .ok (.ifCond .lt o, 3)) (pn pc' : Nat) (hpn : pc + 3 = pn) (ho : 0 ≤ (pc : Int) + o) (hp : ((pc : Int) + o).toNat = pc') {i : Int} (hi : x'.toInt = i) 
    (hy : i < 0 → OwnEnds p e below G (T.setTop (mkF m pc' Ls st))) (hn : 0 ≤ i → OwnEnds p e below G (T.setTop (mkF m pn Ls st))) : OwnEnds p e below G (T.setTop (mkF m pc Ls (.int x' :: st))) := by
  subst hpn
  by_cases k : x' < (0 : Int32)
  · exact own_st (fun _ q => XS.ifYes X.here C.1 rfl rfl (hb C.2.2.2.1 hd) rfl ((if0 _ _).trans ((tlt k).1)) ho hp q) (hy (by rw [Int32.lt_iff_toInt_lt] at k; have q : (0 : Int32).toInt = 0 := (rfl : (0 : Int32).toInt = 0); omega))
  · exact own_st (fun _ q => XS.ifNo X.here C.1 rfl (hb C.2.2.2.1 hd) rfl ((if0 _ _).trans ((flt k).1)) q) (hn (by rw [Int32.lt_iff_toInt_lt] at k; have q : (0 : Int32).toInt = 0 := (rfl : (0 : Int32).toInt = 0); omega))
theorem own_ifge (X : Stand p l e R s m args below meth c T locs cells slots) (C : OwnCx p s m meth c Z y bs maxL rt) {x' : Int32} {o : Int} (hd : decode bs pc = .ok (.ifCond .ge o, 3)) (pn pc' : Nat) (hpn : pc + 3 = pn) (ho : 0 ≤ (pc : Int) + o) (hp : ((pc : Int) + o).toNat = pc') {i : Int} (hi : x'.toInt = i) 
    (hy : 0 ≤ i → OwnEnds p e below G (T.setTop (mkF m pc' Ls st))) (hn : i < 0 → OwnEnds p e below G (T.setTop (mkF m pn Ls st))) : OwnEnds p e below G (T.setTop (mkF m pc Ls (.int x' :: st))) := by
  subst hpn
  by_cases k : x' < (0 : Int32)
  · exact own_st (fun _ q => XS.ifNo X.here C.1 rfl (hb C.2.2.2.1 hd) rfl ((if0 _ _).trans ((tlt k).2.1)) q) (hn (by rw [Int32.lt_iff_toInt_lt] at k; have q : (0 : Int32).toInt = 0 := (rfl : (0 : Int32).toInt = 0); omega))
  · exact own_st (fun _ q => XS.ifYes X.here C.1 rfl rfl (hb C.2.2.2.1 hd) rfl ((if0 _ _).trans ((flt k).2.1)) ho hp q) (hy (by rw [Int32.lt_iff_toInt_lt] at k; have q : (0 : Int32).toInt = 0 := (rfl : (0 : Int32).toInt = 0); omega))
theorem own_ifgt (X : Stand p l e R s m args below meth c T locs cells slots) (C : OwnCx p s m meth c Z y bs maxL rt) {x' : Int32} {o : Int} (hd : decode bs pc = .ok (.ifCond .gt o, 3)) (pn pc' : Nat) (hpn : pc + 3 = pn) (ho : 0 ≤ (pc : Int) + o) (hp : ((pc : Int) + o).toNat = pc') {i : Int} (hi : x'.toInt = i) 
    (hy : 0 < i → OwnEnds p e below G (T.setTop (mkF m pc' Ls st))) (hn : i ≤ 0 → OwnEnds p e below G (T.setTop (mkF m pn Ls st))) : OwnEnds p e below G (T.setTop (mkF m pc Ls (.int x' :: st))) := by
  subst hpn
  by_cases k : (0 : Int32) < x'
  · exact own_st (fun _ q => XS.ifYes X.here C.1 rfl rfl (hb C.2.2.2.1 hd) rfl ((if0 _ _).trans ((tlt k).2.2.1)) ho hp q) (hy (by rw [Int32.lt_iff_toInt_lt] at k; have q : (0 : Int32).toInt = 0 := (rfl : (0 : Int32).toInt = 0); omega))
  · exact own_st (fun _ q => XS.ifNo X.here C.1 rfl (hb C.2.2.2.1 hd) rfl ((if0 _ _).trans ((flt k).2.2.1)) q) (hn (by rw [Int32.lt_iff_toInt_lt] at k; have q : (0 : Int32).toInt = 0 := (rfl : (0 : Int32).toInt = 0); omega))
theorem own_ifle (X : Stand p l e R s m args below meth c T locs cells slots) (C : OwnCx p s m meth c Z y bs maxL rt) {x' : Int32} {o : Int} (hd : decode bs pc = .ok (.ifCond .le o, 3)) (pn pc' : Nat) (hpn : pc + 3 = pn) (ho : 0 ≤ (pc : Int) + o) (hp : ((pc : Int) + o).toNat = pc') {i : Int} (hi : x'.toInt = i) 
    (hy : i ≤ 0 → OwnEnds p e below G (T.setTop (mkF m pc' Ls st))) (hn : 0 < i → OwnEnds p e below G (T.setTop (mkF m pn Ls st))) : OwnEnds p e below G (T.setTop (mkF m pc Ls (.int x' :: st))) := by
  subst hpn
  by_cases k : (0 : Int32) < x'
  · exact own_st (fun _ q => XS.ifNo X.here C.1 rfl (hb C.2.2.2.1 hd) rfl ((if0 _ _).trans ((tlt k).2.2.2)) q) (hn (by rw [Int32.lt_iff_toInt_lt] at k; have q : (0 : Int32).toInt = 0 := (rfl : (0 : Int32).toInt = 0); omega))
  · exact own_st (fun _ q => XS.ifYes X.here C.1 rfl rfl (hb C.2.2.2.1 hd) rfl ((if0 _ _).trans ((flt k).2.2.2)) ho hp q) (hy (by rw [Int32.lt_iff_toInt_lt] at k; have q : (0 : Int32).toInt = 0 := (rfl : (0 : Int32).toInt = 0); omega))
theorem own_ifeq (X : Stand p l e R s m args below meth c T locs cells slots) (C : OwnCx p s m meth c Z y bs maxL rt) {x' : Int32} {o : Int} (hd : decode bs pc = .ok (.ifCond .eq o, 3)) (pn pc' : Nat) (hpn : pc + 3 = pn) (ho : 0 ≤ (pc : Int) + o) (hp : ((pc : Int) + o).toNat = pc') {i : Int} (hi : x'.toInt = i) 
    (hy : i = 0 → OwnEnds p e below G (T.setTop (mkF m pc' Ls st))) (hn : i ≠ 0 → OwnEnds p e below G (T.setTop (mkF m pn Ls st))) : OwnEnds p e below G (T.setTop (mkF m pc Ls (.int x' :: st))) := by
  subst hpn
  by_cases k : x' = (0 : Int32)
  · exact own_st (fun _ q => XS.ifYes X.here C.1 rfl rfl (hb C.2.2.2.1 hd) rfl ((if0 _ _).trans ((teq k).1)) ho hp q) (hy (by subst k; exact hi.symm.trans (rfl : (0 : Int32).toInt = 0)))
  · exact own_st (fun _ q => XS.ifNo X.here C.1 rfl (hb C.2.2.2.1 hd) rfl ((if0 _ _).trans ((feq k).1)) q) (hn (fun q => k (Int32.toInt_inj.mp (hi.trans (q.trans (rfl : (0 : Int32).toInt = 0).symm)))))
theorem own_ifne (X : Stand p l e R s m args below meth c T locs cells slots) (C : OwnCx p s m meth c Z y bs maxL rt) {x' : Int32} {o : Int} (hd : decode bs pc = .ok (.ifCond .ne o, 3)) (pn pc' : Nat) (hpn : pc + 3 = pn) (ho : 0 ≤ (pc : Int) + o) (hp : ((pc : Int) + o).toNat = pc') {i : Int} (hi : x'.toInt = i) 
    (hy : i ≠ 0 → OwnEnds p e below G (T.setTop (mkF m pc' Ls st))) (hn : i = 0 → OwnEnds p e below G (T.setTop (mkF m pn Ls st))) : OwnEnds p e below G (T.setTop (mkF m pc Ls (.int x' :: st))) := by
  subst hpn
  by_cases k : x' = (0 : Int32)
  · exact own_st (fun _ q => XS.ifNo X.here C.1 rfl (hb C.2.2.2.1 hd) rfl ((if0 _ _).trans ((teq k).2)) q) (hn (by subst k; exact hi.symm.trans (rfl : (0 : Int32).toInt = 0)))
  · exact own_st (fun _ q => XS.ifYes X.here C.1 rfl rfl (hb C.2.2.2.1 hd) rfl ((if0 _ _).trans ((feq k).2)) ho hp q) (hy (fun q => k (Int32.toInt_inj.mp (hi.trans (q.trans (rfl : (0 : Int32).toInt = 0).symm)))))
theorem own_ifnonnull_y (X : Stand p l e R s m args below meth c T locs cells slots) (C : OwnCx p s m meth c Z y bs maxL rt) {b : Addr} {o : Int} (hd : decode bs pc = .ok (.ifnonnull o, 3)) (pc' : Nat) (ho : 0 ≤ (pc : Int) + o) (hp : ((pc : Int) + o).toNat = pc')
    (hr : OwnEnds p e below G (T.setTop (mkF m pc' Ls st))) : OwnEnds p e below G (T.setTop (mkF m pc Ls (.ref b :: st))) :=
  own_st (fun _ q => XS.ifnonnullYes X.here C.1 rfl rfl (hb C.2.2.2.1 hd) rfl ho hp q) hr
theorem own_ifnull_n (X : Stand p l e R s m args below meth c T locs cells slots) (C : OwnCx p s m meth c Z y bs maxL rt) {b : Addr} {o : Int} (hd : decode bs pc = .ok (.ifnull o, 3)) (pn : Nat) (hp : pc + 3 = pn)
    (hr : OwnEnds p e below G (T.setTop (mkF m pn Ls st))) : OwnEnds p e below G (T.setTop (mkF m pc Ls (.ref b :: st))) := by
  subst hp; exact own_st (fun _ q => XS.ifnullNo X.here C.1 rfl (hb C.2.2.2.1 hd) rfl q) hr
theorem own_ifnull_y (X : Stand p l e R s m args below meth c T locs cells slots) (C : OwnCx p s m meth c Z y bs maxL rt) {o : Int} (hd : decode bs pc = .ok (.ifnull o, 3)) (pc' : Nat) (ho : 0 ≤ (pc : Int) + o) (hp : ((pc : Int) + o).toNat = pc')
    (hr : OwnEnds p e below G (T.setTop (mkF m pc' Ls st))) : OwnEnds p e below G (T.setTop (mkF m pc Ls (.null :: st))) :=
  own_st (fun _ q => XS.ifnullYes X.here C.1 rfl rfl (hb C.2.2.2.1 hd) rfl ho hp q) hr
theorem own_ifnonnull_n (X : Stand p l e R s m args below meth c T locs cells slots) (C : OwnCx p s m meth c Z y bs maxL rt) {o : Int} (hd : decode bs pc = .ok (.ifnonnull o, 3)) (pn : Nat) (hp : pc + 3 = pn)
    (hr : OwnEnds p e below G (T.setTop (mkF m pn Ls st))) : OwnEnds p e below G (T.setTop (mkF m pc Ls (.null :: st))) := by
  subst hp; exact own_st (fun _ q => XS.ifnonnullNo X.here C.1 rfl (hb C.2.2.2.1 hd) rfl q) hr
theorem own_acmpeq (X : Stand p l e R s m args below meth c T locs cells slots) (C : OwnCx p s m meth c Z y bs maxL rt) {a b : Addr} {o : Int} (hd : decode bs pc = .ok (.if_acmp .eq o, 3)) (pn pc' : Nat) (hpn : pc + 3 = pn) (ho : 0 ≤ (pc : Int) + o) (hp : ((pc : Int) + o).toNat = pc')
    (hy : a = b → OwnEnds p e below G (T.setTop (mkF m pc' Ls st))) (hn : a ≠ b → OwnEnds p e below G (T.setTop (mkF m pn Ls st))) : OwnEnds p e below G (T.setTop (mkF m pc Ls (.ref b :: .ref a :: st))) := by
  subst hpn
  by_cases k : a = b
  · exact own_st (fun _ q => XS.acmpYes X.here C.1 rfl rfl (hb C.2.2.2.1 hd) rfl (by simp [if_acmp.holds, k]) ho hp q) (hy k)
  · exact own_st (fun _ q => XS.acmpNo X.here C.1 rfl (hb C.2.2.2.1 hd) rfl (by simp [if_acmp.holds, k]) q) (hn k)
theorem own_acmpne (X : Stand p l e R s m args below meth c T locs cells slots) (C : OwnCx p s m meth c Z y bs maxL rt) {a b : Addr} {o : Int} (hd : decode bs pc = .ok (.if_acmp .ne o, 3)) (pn pc' : Nat) (hpn : pc + 3 = pn) (ho : 0 ≤ (pc : Int) + o) (hp : ((pc : Int) + o).toNat = pc')
    (hy : a ≠ b → OwnEnds p e below G (T.setTop (mkF m pc' Ls st))) (hn : a = b → OwnEnds p e below G (T.setTop (mkF m pn Ls st))) : OwnEnds p e below G (T.setTop (mkF m pc Ls (.ref b :: .ref a :: st))) := by
  subst hpn
  by_cases k : a = b
  · exact own_st (fun _ q => XS.acmpNo X.here C.1 rfl (hb C.2.2.2.1 hd) rfl (by simp [if_acmp.holds, k]) q) (hn k)
  · exact own_st (fun _ q => XS.acmpYes X.here C.1 rfl rfl (hb C.2.2.2.1 hd) rfl (by simp [if_acmp.holds, k]) ho hp q) (hy k)
theorem own_leave (X : Stand p l e R s m args below meth c T locs cells slots) (C : OwnCx p s m meth c Z y bs maxL rt) (v : Option Value) (hv : meth.sig.returnType = none → v = none) (hce : cells ≤ ce) (hsl : slots ≤ sl) (hQ : Q v T.heap locs) {S : State}
    (k : ∀ fs, (∀ (f : JFrame) (acts : List Action), f.method = m → f.locked = none → f.entered = [] → (doReturn e (T.setTop f) acts v).1 = T.setFrames fs) → Steps p.tables e below S (T.setFrames fs)) : OwnEnds p e below (OwnG s ce sl Q) S := by
  obtain ⟨fs, hr, hrun, hended, hW, hsame⟩ := X.leave (v := v) hv C.2.2.2.2.2.2.1
  exact ⟨_, _, k fs hr, hrun, hended, _, _, rfl, hQ, ⟨_, rfl⟩, hW, hsame.mono hce hsl⟩
theorem own_return (X : Stand p l e R s m args below meth c T locs cells slots) (C : OwnCx p s m meth c Z y bs maxL rt) (hrt : rt = none) (hd : decode bs pc = .ok (.return_, 1)) (hce : cells ≤ ce) (hsl : slots ≤ sl) (hQ : Q none T.heap locs) : OwnEnds p e below (OwnG s ce sl Q) (T.setTop (mkF m pc Ls [])) := by
  subst hrt
  exact own_leave X C none (fun _ => rfl) hce hsl hQ fun fs hr => X.returnOut C.1 C.2.2.2.2.2.1 (hb C.2.2.2.1 hd) hr
theorem own_iretN (X : Stand p l e R s m args below meth c T locs cells slots) (C : OwnCx p s m meth c Z y bs maxL rt) {z : Int32} (t : FieldType) (hrt : rt = some t) (ht : t = .boolean ∨ t = .byte ∨ t = .char ∨ t = .short) (hd : decode bs pc = .ok (.ireturn, 1)) (hce : cells ≤ ce) (hsl : slots ≤ sl) (w : Int32) (hw : nar t z = w) (hQ : Q (some (.int w)) T.heap locs) : OwnEnds p e below (OwnG s ce sl Q) (T.setTop (mkF m pc Ls (.int z :: st))) := by
  subst hrt hw
  exact own_leave X C (some (.int (nar t z))) (fun q => by rw [C.2.2.2.2.2.1] at q; cases q) hce hsl hQ fun fs hr => retN X C.1 C.2.2.2.2.2.1 ht (hb C.2.2.2.1 hd) hr
theorem own_ireturn (X : Stand p l e R s m args below meth c T locs cells slots) (C : OwnCx p s m meth c Z y bs maxL rt) {z : Int32} (hrt : rt = some .int) (hd : decode bs pc = .ok (.ireturn, 1)) (hce : cells ≤ ce) (hsl : slots ≤ sl) (hQ : Q (some (.int z)) T.heap locs) : OwnEnds p e below (OwnG s ce sl Q) (T.setTop (mkF m pc Ls (.int z :: st))) := by
  subst hrt
  exact own_leave X C (some (.int z)) (fun q => by rw [C.2.2.2.2.2.1] at q; cases q) hce hsl hQ fun fs hr => retOut X C.1 C.2.2.2.2.2.1 rfl (Or.inl ⟨rfl, Or.inl rfl, z, rfl⟩) (hb C.2.2.2.1 hd) hr
theorem own_lreturn (X : Stand p l e R s m args below meth c T locs cells slots) (C : OwnCx p s m meth c Z y bs maxL rt) {z : Int64} (hrt : rt = some .long) (hd : decode bs pc = .ok (.lreturn, 1)) (hce : cells ≤ ce) (hsl : slots ≤ sl) (hQ : Q (some (.long z)) T.heap locs) : OwnEnds p e below (OwnG s ce sl Q) (T.setTop (mkF m pc Ls (.long z :: st))) := by
  subst hrt
  exact own_leave X C (some (.long z)) (fun q => by rw [C.2.2.2.2.2.1] at q; cases q) hce hsl hQ fun fs hr => retOut X C.1 C.2.2.2.2.2.1 rfl (Or.inr (Or.inl ⟨rfl, rfl, z, rfl⟩)) (hb C.2.2.2.1 hd) hr
theorem own_areturn (X : Stand p l e R s m args below meth c T locs cells slots) (C : OwnCx p s m meth c Z y bs maxL rt) {z : Value} (t : FieldType) (hrt : rt = some t) (ht : t.isReference = true) (hz : z.isRef = true) (hn : narrow t z = z) (hd : decode bs pc = .ok (.areturn, 1)) (hce : cells ≤ ce) (hsl : slots ≤ sl) (hQ : Q (some z) T.heap locs) : OwnEnds p e below (OwnG s ce sl Q) (T.setTop (mkF m pc Ls (z :: st))) := by
  subst hrt
  exact own_leave X C (some z) (fun q => by rw [C.2.2.2.2.2.1] at q; cases q) hce hsl hQ fun fs hr => retOut X C.1 C.2.2.2.2.2.1 hn (Or.inr (Or.inr (Or.inr (Or.inr ⟨rfl, ht, hz⟩)))) (hb C.2.2.2.1 hd) hr
theorem own_callS (X : Stand p l e R s m args below meth c T locs cells slots) (C : OwnCx p s m meth c Z y bs maxL rt) {idx : Nat} {y' : MethodName} {bs' : ByteArray} {maxL' : Nat} {rt' : Option FieldType} {rm : Room} {as' : Array Value} {Q' : Option Value → Heap → List Loc → Prop}
    (w1 : (Jvm.Cond.methodLink y.cls idx y').before a0 Z = true) (w2 : (Jvm.Cond.static y').before a0 Z = true) (w3 : (Jvm.Cond.initialized y'.cls).before a0 Z = true) (w4 : (Jvm.Cond.code y' bs' maxL' rt').before a0 Z = true) (hy : y'.cls ≠ "java/lang/invoke/MethodHandle" ∧ y'.cls ≠ "java/lang/invoke/VarHandle")
    (hM : OwnMet l Z y' bs' maxL' rt' [] rm as' h Q') (eT : T.heap = h) {ps : List FieldType} {r : Option FieldType} (hpd : parseMethodDescriptor y'.desc = some ⟨ps, r⟩) (argsL : List Value) (has : argsL.toArray = as') (hlen : argsL.length = ps.length) (hst : st = argsL.reverse ++ rest) (hsz : Ls.size = maxL)
    (W : Nat) (hW : (rest.map fun v => v.category).sum = W) (hf : rm.frames + 1 ≤ R.frames) (hlo : W + (maxL' + 11) + rm.locals ≤ R.locals) (hce : cells + rm.cells ≤ R.cells) (hsl : slots + rm.slots ≤ R.slots) (hd : decode bs pc = .ok (.invokestatic idx, 3)) (pc' : Nat) (hp : pc + 3 = pc')
    (hr : ∀ T' L v, Stand p l e R s m args below meth c T' (locs ++ L) (cells + rm.cells) (slots + rm.slots) → Q' v T'.heap L → OwnEnds p e below G (T'.setTop (mkF m pc' Ls (v.toList ++ rest)))) : OwnEnds p e below G (T.setTop (mkF m pc Ls st)) := by
  subst hp has hW
  obtain ⟨v, _, ⟨T', L, k, n⟩, -, X', ⟨L', hQ, l1, l2, l3⟩, stp⟩ := Jvm.LawKit.callS X C.1 C.2.2.1 (mvT C.2.1 w1) (mvT C.2.1 w2) (mvT C.2.1 w3) (mvT C.2.1 w4) hy (backOf (len := 3) (W := (rest.map fun v => v.category).sum) hM C.2.1 w4 w3 hf hlo) (g := mkF m pc Ls st) rfl (by rw [C.2.2.2.2.1]; exact hsz) (argsL := argsL) (rest := rest) (lenOf hpd hlen) hst (by show 2 * 0 + _ ≤ _; omega) (hb C.2.2.2.1 hd) (fun _ _ => ⟨rfl, eT, hce, hsl⟩)
  dsimp only [Pt.U, Pt.locs, Pt.cells, Pt.slots] at X' l1 l2 l3 stp hQ
  subst l1 l2 l3
  exact own_st stp (hr T' L' v X' hQ)
/-- a callee that returns w and leaves the heap alone -/
def OwnPure (w : Value) (h : Heap) : Option Value → Heap → List Loc → Prop := fun v h' L => v = some w ∧ h' = h ∧ L = []
theorem own_conv {ws : List Jvm.Cond} {rm : Room} {as' : Array Value} {w w' : Value} (H : OwnMet l Z y bs maxL rt ws rm as' h (OwnPure w h)) (q : w = w') : OwnMet l Z y bs maxL rt ws rm as' h (OwnPure w' h) := q ▸ H
theorem own_callP (X : Stand p l e R s m args below meth c T locs cells slots) (C : OwnCx p s m meth c Z y bs maxL rt) {idx : Nat} {y' : MethodName} {bs' : ByteArray} {maxL' : Nat} {rt' : Option FieldType} {rm : Room} {as' : Array Value} {w : Value}
    (w1 : (Jvm.Cond.methodLink y.cls idx y').before a0 Z = true) (w2 : (Jvm.Cond.static y').before a0 Z = true) (w3 : (Jvm.Cond.initialized y'.cls).before a0 Z = true) (w4 : (Jvm.Cond.code y' bs' maxL' rt').before a0 Z = true) (hy : y'.cls ≠ "java/lang/invoke/MethodHandle" ∧ y'.cls ≠ "java/lang/invoke/VarHandle")
    (hM : OwnMet l Z y' bs' maxL' rt' [] rm as' h (OwnPure w h)) (eT : T.heap = h) {ps : List FieldType} {r : Option FieldType} (hpd : parseMethodDescriptor y'.desc = some ⟨ps, r⟩) (argsL : List Value) (has : argsL.toArray = as') (hlen : argsL.length = ps.length) (hst : st = argsL.reverse ++ rest) (hsz : Ls.size = maxL)
    (W : Nat) (hW : (rest.map fun v => v.category).sum = W) (hf : rm.frames + 1 ≤ R.frames) (hlo : W + (maxL' + 11) + rm.locals ≤ R.locals) (hce : rm.cells = 0) (hsl : rm.slots = 0) (hc0 : cells ≤ R.cells) (hs0 : slots ≤ R.slots) (hd : decode bs pc = .ok (.invokestatic idx, 3)) (pc' : Nat) (hp : pc + 3 = pc')
    (hr : ∀ T', Stand p l e R s m args below meth c T' locs cells slots → T'.heap = h → OwnEnds p e below G (T'.setTop (mkF m pc' Ls (w :: rest)))) : OwnEnds p e below G (T.setTop (mkF m pc Ls st)) := by
  refine own_callS X C w1 w2 w3 w4 hy hM eT hpd argsL has hlen hst hsz W hW hf hlo (by omega) (by omega) hd pc' hp ?_
  rintro T' L v X' ⟨rfl, e, rfl⟩
  rw [List.append_nil, hce, hsl] at X'
  exact hr T' X' e
/-- a callee that leaves the heap alone and returns a value of which Pw says something -/
def OwnSome (Pw : Value → Prop) (h : Heap) : Option Value → Heap → List Loc → Prop := fun v h' L => (∃ w, v = some w ∧ Pw w) ∧ h' = h ∧ L = []
theorem own_callE (X : Stand p l e R s m args below meth c T locs cells slots) (C : OwnCx p s m meth c Z y bs maxL rt) {idx : Nat} {y' : MethodName} {bs' : ByteArray} {maxL' : Nat} {rt' : Option FieldType} {rm : Room} {as' : Array Value} {Pw : Value → Prop}
    (w1 : (Jvm.Cond.methodLink y.cls idx y').before a0 Z = true) (w2 : (Jvm.Cond.static y').before a0 Z = true) (w3 : (Jvm.Cond.initialized y'.cls).before a0 Z = true) (w4 : (Jvm.Cond.code y' bs' maxL' rt').before a0 Z = true) (hy : y'.cls ≠ "java/lang/invoke/MethodHandle" ∧ y'.cls ≠ "java/lang/invoke/VarHandle")
    (hM : OwnMet l Z y' bs' maxL' rt' [] rm as' h (OwnSome Pw h)) (eT : T.heap = h) {ps : List FieldType} {r : Option FieldType} (hpd : parseMethodDescriptor y'.desc = some ⟨ps, r⟩) (argsL : List Value) (has : argsL.toArray = as') (hlen : argsL.length = ps.length) (hst : st = argsL.reverse ++ rest) (hsz : Ls.size = maxL)
    (W : Nat) (hW : (rest.map fun v => v.category).sum = W) (hf : rm.frames + 1 ≤ R.frames) (hlo : W + (maxL' + 11) + rm.locals ≤ R.locals) (hce : rm.cells = 0) (hsl : rm.slots = 0) (hc0 : cells ≤ R.cells) (hs0 : slots ≤ R.slots) (hd : decode bs pc = .ok (.invokestatic idx, 3)) (pc' : Nat) (hp : pc + 3 = pc')
    (hr : ∀ T' w, Pw w → Stand p l e R s m args below meth c T' locs cells slots → T'.heap = h → OwnEnds p e below G (T'.setTop (mkF m pc' Ls (w :: rest)))) : OwnEnds p e below G (T.setTop (mkF m pc Ls st)) := by
  refine own_callS X C w1 w2 w3 w4 hy hM eT hpd argsL has hlen hst hsz W hW hf hlo (by omega) (by omega) hd pc' hp ?_
  rintro T' L v X' ⟨⟨w, rfl, hw⟩, e, rfl⟩
  rw [List.append_nil, hce, hsl] at X'
  exact hr T' w hw X' e
end OwnLayer
section OwnHeap
variable {p : Program} {l : Launch} {e : Env} {R : Room} {s : State} {m : MethodId} {args : Array Value} {below : List Frame} {meth : Method} {c : Code} {T : State} {locs : List Loc} {cells slots : Nat} {Z : State} {y : MethodName} {bs : ByteArray} {maxL : Nat} {rt : Option FieldType} {ce sl : Nat} {Q : Option Value → Heap → List Loc → Prop} {G : Outcome → State → Prop} {pc : Nat} {Ls : Array Slot} {st rest : List Value} {h h' : Heap} {a0 : Array Value} {a : Addr}
/-- an array: its length and what lies at each place -/
def OwnAr (Z : State) (h : Heap) (a : Addr) (ty : FieldType) (n : Nat) (f : Nat → Value) : Prop := ∃ cl : Cell, Arr Z h a cl ty ∧ cl.slots.size = n ∧ ∀ i, i < n → cl.slots[i]? = some (f i)
theorem OwnAr.lt {ty : FieldType} {n : Nat} {f : Nat → Value} (F : OwnAr Z h a ty n f) : a < h.size := by obtain ⟨cl, A, -⟩ := F; exact A.lt
theorem OwnAr.ext {ty : FieldType} {n : Nat} {f : Nat → Value} (F : OwnAr Z h a ty n f) (E : Ext h h') : OwnAr Z h' a ty n f := by obtain ⟨cl, A, r⟩ := F; exact ⟨cl, A.ext E, r⟩
theorem OwnAr.other {ty : FieldType} {n : Nat} {f : Nat → Value} {b : Addr} {sl : Nat} {v : Value} (F : OwnAr Z h a ty n f) (W : Wr h h' b sl v) (q : a ≠ b) : OwnAr Z h' a ty n f := by obtain ⟨cl, A, r⟩ := F; exact ⟨cl, A.other W q, r⟩
theorem OwnAr.keep {ty : FieldType} {n : Nat} {f : Nat → Value} {ws : List Addr} (F : OwnAr Z h a ty n f) (K : Keep h h' ws) (q : a ∉ ws) : OwnAr Z h' a ty n f := by obtain ⟨cl, A, r⟩ := F; exact ⟨cl, ⟨K.2.1 a cl A.1 q, A.2⟩, r⟩
theorem OwnAr.eqv {ty : FieldType} {n : Nat} {f g : Nat → Value} (F : OwnAr Z h a ty n f) (q : ∀ i, i < n → f i = g i) : OwnAr Z h a ty n g := by obtain ⟨cl, A, S, r⟩ := F; exact ⟨cl, A, S, fun i hi => by rw [r i hi, q i hi]⟩
theorem OwnAr.set {ty : FieldType} {n : Nat} {f : Nat → Value} {k : Nat} {v : Value} (F : OwnAr Z h a ty n f) (W : Wr h h' a k v) : OwnAr Z h' a ty n (fun i => if i = k then v else f i) := by
  obtain ⟨cl, A, S, r⟩ := F
  obtain ⟨cl', w1, w2, w3, w4⟩ := id W
  cases A.1.symm.trans w1
  refine ⟨cl.setSlot k v, A.same W, by rw [sz_set]; exact S, fun i hi => ?_⟩
  by_cases q : i = k
  · subst q; simp [Cell.setSlot, w3]
  · simp [Cell.setSlot, q, Array.getElem?_setIfInBounds_ne (Ne.symm q), r i hi]
theorem OwnAr.new {ty : FieldType} {n : Int32} {cA : ClassId} (A : Arr Z h a (newA cA ty n) ty) : OwnAr Z h a ty n.toNatClampNeg (fun _ => defaultValue ty) := ⟨_, A, sz_new _ _ _, fun i hi => by simp [newA, hi]⟩
theorem own_fr1 {k : Nat} {L : List Loc} {a : Addr} {sl : Nat} (N : Fr k L) (q : k ≤ a) : Fr k (L ++ [⟨a, sl⟩]) := N.app fun y hy => by cases List.mem_singleton.mp hy; exact q
theorem own_stak {C n d : String} {v : Value} (F : Sta Z h C n d v) (K : Keep h h' []) : Sta Z h' C n d v := by
  obtain ⟨cf, i, k, f, st, cell, h1, h2, h3, h4, h5, r⟩ := F
  exact ⟨cf, i, k, f, st, cell, h1, h2, h3, h4, K.2.1 _ _ h5 nin0, r⟩
theorem own_arl {a : Nat} {ty : FieldType} {n : Nat} {f : Nat → Value} (F : OwnAr Z h a ty n f) : a < h.size := F.lt
theorem own_exl {a : Nat} {K : String} (F : Exa Z h a K) : a < h.size := F.lt
theorem own_iteI {q : Prop} [Decidable q] {a b : Int32} : (if q then Value.int a else Value.int b) = Value.int (if q then a else b) := by split <;> rfl
theorem own_iteL {q : Prop} [Decidable q] {a b : Int64} : (if q then Value.long a else Value.long b) = Value.long (if q then a else b) := by split <;> rfl
theorem own_ne {x y : Nat} (q : x ≠ y) : @Ne Addr x y := q
theorem own_in {j : Int32} {n : Nat} (h0 : 0 ≤ j.toInt) (h1 : j.toInt < n) : ¬ (j < 0 ∨ n ≤ j.toNatClampNeg) := by
  rintro (q | q)
  · rw [Int32.lt_iff_toInt_lt] at q; have : (0 : Int32).toInt = 0 := rfl; omega
  · have e : j.toNatClampNeg = j.toInt.toNat := rfl
    omega
theorem own_len {n : Nat} (h : n < 2147483648) : (n.toInt32).toInt = n := by
  show (Int32.ofNat n).toInt = _
  rw [Int32.toInt_ofNat_of_lt (by omega)]
theorem own_iastore (X : Stand p l e R s m args below meth c T locs cells slots) (C : OwnCx p s m meth c Z y bs maxL rt) {v : Int32} {j : Int32} {n : Nat} {f : Nat → Value} (eT : T.heap = h) (F : OwnAr Z h a .int n f) (h0 : 0 ≤ j.toInt) (h1 : j.toInt < n) (hd : decode bs pc = .ok (.iastore, 1)) (pc' : Nat) (hp : pc + 1 = pc')
    (hr : ∀ T' h', Stand p l e R s m args below meth c T' (locs ++ [⟨a, j.toInt.toNat⟩]) cells slots → T'.heap = h' → Wr h h' a j.toInt.toNat (.int v) → OwnEnds p e below G (T'.setTop (mkF m pc' Ls st))) : OwnEnds p e below G (T.setTop (mkF m pc Ls ((.int v) :: .int j :: .ref a :: st))) := by
  subst hp
  obtain ⟨cl, A, S, r⟩ := F
  obtain ⟨T', h', X', e', W, stp⟩ := stI X C.1 C.2.1 eT A (j := j) (x := v) (by rw [S]; exact own_in h0 h1) (g := mkF m pc Ls _) rfl rfl (hb C.2.2.2.1 hd)
  exact own_st stp (hr T' h' X' e' W)
theorem own_lastore (X : Stand p l e R s m args below meth c T locs cells slots) (C : OwnCx p s m meth c Z y bs maxL rt) {v : Int64} {j : Int32} {n : Nat} {f : Nat → Value} (eT : T.heap = h) (F : OwnAr Z h a .long n f) (h0 : 0 ≤ j.toInt) (h1 : j.toInt < n) (hd : decode bs pc = .ok (.lastore, 1)) (pc' : Nat) (hp : pc + 1 = pc')
    (hr : ∀ T' h', Stand p l e R s m args below meth c T' (locs ++ [⟨a, j.toInt.toNat⟩]) cells slots → T'.heap = h' → Wr h h' a j.toInt.toNat (.long v) → OwnEnds p e below G (T'.setTop (mkF m pc' Ls st))) : OwnEnds p e below G (T.setTop (mkF m pc Ls ((.long v) :: .int j :: .ref a :: st))) := by
  subst hp
  obtain ⟨cl, A, S, r⟩ := F
  obtain ⟨T', h', X', e', W, stp⟩ := stJ X C.1 C.2.1 eT A (j := j) (x := v) (by rw [S]; exact own_in h0 h1) (g := mkF m pc Ls _) rfl rfl (hb C.2.2.2.1 hd)
  exact own_st stp (hr T' h' X' e' W)
theorem own_bastoreB (X : Stand p l e R s m args below meth c T locs cells slots) (C : OwnCx p s m meth c Z y bs maxL rt) {v : Int32} {j : Int32} {n : Nat} {f : Nat → Value} (eT : T.heap = h) (F : OwnAr Z h a .byte n f) (h0 : 0 ≤ j.toInt) (h1 : j.toInt < n) (hd : decode bs pc = .ok (.bastore, 1)) (pc' : Nat) (hp : pc + 1 = pc') (w : Int32) (hw : v.toInt8.toInt32 = w)
    (hr : ∀ T' h', Stand p l e R s m args below meth c T' (locs ++ [⟨a, j.toInt.toNat⟩]) cells slots → T'.heap = h' → Wr h h' a j.toInt.toNat (.int w) → OwnEnds p e below G (T'.setTop (mkF m pc' Ls st))) : OwnEnds p e below G (T.setTop (mkF m pc Ls (.int v :: .int j :: .ref a :: st))) := by
  subst hp hw
  obtain ⟨cl, A, S, r⟩ := F
  obtain ⟨T', h', X', e', W, stp⟩ := stB X C.1 C.2.1 eT A (j := j) (x := v) (by rw [S]; exact own_in h0 h1) (g := mkF m pc Ls _) rfl rfl (hb C.2.2.2.1 hd)
  exact own_st stp (hr T' h' X' e' W)
theorem own_castore (X : Stand p l e R s m args below meth c T locs cells slots) (C : OwnCx p s m meth c Z y bs maxL rt) {v : Int32} {j : Int32} {n : Nat} {f : Nat → Value} (eT : T.heap = h) (F : OwnAr Z h a .char n f) (h0 : 0 ≤ j.toInt) (h1 : j.toInt < n) (hd : decode bs pc = .ok (.castore, 1)) (pc' : Nat) (hp : pc + 1 = pc') (w : Int32) (hw : nar .char v = w)
    (hr : ∀ T' h', Stand p l e R s m args below meth c T' (locs ++ [⟨a, j.toInt.toNat⟩]) cells slots → T'.heap = h' → Wr h h' a j.toInt.toNat (.int w) → OwnEnds p e below G (T'.setTop (mkF m pc' Ls st))) : OwnEnds p e below G (T.setTop (mkF m pc Ls (.int v :: .int j :: .ref a :: st))) := by
  subst hp hw
  obtain ⟨cl, A, S, r⟩ := F
  obtain ⟨T', h', X', e', W, stp⟩ := stC X C.1 C.2.1 eT A (j := j) (x := v) (by rw [S]; exact own_in h0 h1) (g := mkF m pc Ls _) rfl rfl (hb C.2.2.2.1 hd)
  exact own_st stp (hr T' h' X' e' W)
theorem own_bastoreZ (X : Stand p l e R s m args below meth c T locs cells slots) (C : OwnCx p s m meth c Z y bs maxL rt) {v : Int32} {j : Int32} {n : Nat} {f : Nat → Value} (eT : T.heap = h) (F : OwnAr Z h a .boolean n f) (h0 : 0 ≤ j.toInt) (h1 : j.toInt < n) (hd : decode bs pc = .ok (.bastore, 1)) (pc' : Nat) (hp : pc + 1 = pc') (w : Int32) (hw : nar .boolean v = w)
    (hr : ∀ T' h', Stand p l e R s m args below meth c T' (locs ++ [⟨a, j.toInt.toNat⟩]) cells slots → T'.heap = h' → Wr h h' a j.toInt.toNat (.int w) → OwnEnds p e below G (T'.setTop (mkF m pc' Ls st))) : OwnEnds p e below G (T.setTop (mkF m pc Ls (.int v :: .int j :: .ref a :: st))) := by
  subst hp hw
  obtain ⟨cl, A, S, r⟩ := F
  obtain ⟨T', h', X', e', W, stp⟩ := stZ X C.1 C.2.1 eT A (j := j) (x := v) (by rw [S]; exact own_in h0 h1) (g := mkF m pc Ls _) rfl rfl (hb C.2.2.2.1 hd)
  exact own_st stp (hr T' h' X' e' W)
theorem own_iaload (X : Stand p l e R s m args below meth c T locs cells slots) (C : OwnCx p s m meth c Z y bs maxL rt) {j : Int32} {n : Nat} {f : Nat → Value} (eT : T.heap = h) (F : OwnAr Z h a .int n f) (h0 : 0 ≤ j.toInt) (h1 : j.toInt < n) (hd : decode bs pc = .ok (.iaload, 1)) (pc' : Nat) (hp : pc + 1 = pc') (v : Value) (hv : f j.toInt.toNat = v)
    (hr : OwnEnds p e below G (T.setTop (mkF m pc' Ls (v :: st)))) : OwnEnds p e below G (T.setTop (mkF m pc Ls (.int j :: .ref a :: st))) := by
  subst hp hv
  obtain ⟨cl, A, S, r⟩ := F
  exact own_st (fun _ q => X.iaload C.1 (j := j) (v := f j.toInt.toNat) (by rw [eT]; exact A.1) (State.isArrayOf_alike C.2.1.alike A.2.1) A.2.2 (by rw [S]; exact own_in h0 h1) (show cl.slots[j.toNatClampNeg]? = _ from r j.toInt.toNat (by omega)) (g := mkF m pc Ls _) rfl rfl (hb C.2.2.2.1 hd) _ q) hr
theorem own_laload (X : Stand p l e R s m args below meth c T locs cells slots) (C : OwnCx p s m meth c Z y bs maxL rt) {j : Int32} {n : Nat} {f : Nat → Value} (eT : T.heap = h) (F : OwnAr Z h a .long n f) (h0 : 0 ≤ j.toInt) (h1 : j.toInt < n) (hd : decode bs pc = .ok (.laload, 1)) (pc' : Nat) (hp : pc + 1 = pc') (v : Value) (hv : f j.toInt.toNat = v)
    (hr : OwnEnds p e below G (T.setTop (mkF m pc' Ls (v :: st)))) : OwnEnds p e below G (T.setTop (mkF m pc Ls (.int j :: .ref a :: st))) := by
  subst hp hv
  obtain ⟨cl, A, S, r⟩ := F
  exact own_st (fun _ q => X.laload C.1 (j := j) (v := f j.toInt.toNat) (by rw [eT]; exact A.1) (State.isArrayOf_alike C.2.1.alike A.2.1) A.2.2 (by rw [S]; exact own_in h0 h1) (show cl.slots[j.toNatClampNeg]? = _ from r j.toInt.toNat (by omega)) (g := mkF m pc Ls _) rfl rfl (hb C.2.2.2.1 hd) _ q) hr
theorem own_caload (X : Stand p l e R s m args below meth c T locs cells slots) (C : OwnCx p s m meth c Z y bs maxL rt) {j : Int32} {n : Nat} {f : Nat → Value} (eT : T.heap = h) (F : OwnAr Z h a .char n f) (h0 : 0 ≤ j.toInt) (h1 : j.toInt < n) (hd : decode bs pc = .ok (.caload, 1)) (pc' : Nat) (hp : pc + 1 = pc') (v : Value) (hv : f j.toInt.toNat = v)
    (hr : OwnEnds p e below G (T.setTop (mkF m pc' Ls (v :: st)))) : OwnEnds p e below G (T.setTop (mkF m pc Ls (.int j :: .ref a :: st))) := by
  subst hp hv
  obtain ⟨cl, A, S, r⟩ := F
  exact own_st (fun _ q => X.caload C.1 (j := j) (v := f j.toInt.toNat) (by rw [eT]; exact A.1) (State.isArrayOf_alike C.2.1.alike A.2.1) A.2.2 (by rw [S]; exact own_in h0 h1) (show cl.slots[j.toNatClampNeg]? = _ from r j.toInt.toNat (by omega)) (g := mkF m pc Ls _) rfl rfl (hb C.2.2.2.1 hd) _ q) hr
theorem own_baloadB (X : Stand p l e R s m args below meth c T locs cells slots) (C : OwnCx p s m meth c Z y bs maxL rt) {j : Int32} {n : Nat} {f : Nat → Value} (eT : T.heap = h) (F : OwnAr Z h a .byte n f) (h0 : 0 ≤ j.toInt) (h1 : j.toInt < n) (hd : decode bs pc = .ok (.baload, 1)) (pc' : Nat) (hp : pc + 1 = pc') (v : Value) (hv : f j.toInt.toNat = v)
    (hr : OwnEnds p e below G (T.setTop (mkF m pc' Ls (v :: st)))) : OwnEnds p e below G (T.setTop (mkF m pc Ls (.int j :: .ref a :: st))) := by
  subst hp hv
  obtain ⟨cl, A, S, r⟩ := F
  exact own_st (fun _ q => X.baloadBytes C.1 (j := j) (v := f j.toInt.toNat) (by rw [eT]; exact A.1) (State.isArrayOf_alike C.2.1.alike A.2.1) A.2.2 (by rw [S]; exact own_in h0 h1) (show cl.slots[j.toNatClampNeg]? = _ from r j.toInt.toNat (by omega)) (g := mkF m pc Ls _) rfl rfl (hb C.2.2.2.1 hd) _ q) hr
theorem own_baloadZ (X : Stand p l e R s m args below meth c T locs cells slots) (C : OwnCx p s m meth c Z y bs maxL rt) {j : Int32} {n : Nat} {f : Nat → Value} (eT : T.heap = h) (F : OwnAr Z h a .boolean n f) (h0 : 0 ≤ j.toInt) (h1 : j.toInt < n) (hd : decode bs pc = .ok (.baload, 1)) (pc' : Nat) (hp : pc + 1 = pc') (v : Value) (hv : f j.toInt.toNat = v)
    (hr : OwnEnds p e below G (T.setTop (mkF m pc' Ls (v :: st)))) : OwnEnds p e below G (T.setTop (mkF m pc Ls (.int j :: .ref a :: st))) := by
  subst hp hv
  obtain ⟨cl, A, S, r⟩ := F
  exact own_st (fun _ q => X.baloadBooleans C.1 (j := j) (v := f j.toInt.toNat) (by rw [eT]; exact A.1) (State.isArrayOf_alike C.2.1.alike A.2.1) A.2.2 (by rw [S]; exact own_in h0 h1) (show cl.slots[j.toNatClampNeg]? = _ from r j.toInt.toNat (by omega)) (g := mkF m pc Ls _) rfl rfl (hb C.2.2.2.1 hd) _ q) hr
theorem own_arraylength (X : Stand p l e R s m args below meth c T locs cells slots) (C : OwnCx p s m meth c Z y bs maxL rt) {ty : FieldType} {n : Nat} {f : Nat → Value} (eT : T.heap = h) (F : OwnAr Z h a ty n f) (hd : decode bs pc = .ok (.arraylength, 1)) (pc' : Nat) (hp : pc + 1 = pc') (hn : n < 2147483648)
    (hr : ∀ z : Int32, z.toInt = n → z = n.toInt32 → OwnEnds p e below G (T.setTop (mkF m pc' Ls (.int z :: st)))) : OwnEnds p e below G (T.setTop (mkF m pc Ls (.ref a :: st))) := by
  subst hp
  obtain ⟨cl, A, S, r⟩ := F
  have k := hr n.toInt32 (own_len hn) rfl
  rw [← S] at k
  exact own_st (fun _ q => X.arraylength C.1 (by rw [eT]; exact A.1) (State.isArrayOf_alike C.2.1.alike A.2.1) (g := mkF m pc Ls _) rfl rfl (hb C.2.2.2.1 hd) _ q) k
theorem own_newarray (X : Stand p l e R s m args below meth c T locs cells slots) (C : OwnCx p s m meth c Z y bs maxL rt) {aty : ArrayType} {n : Int32} (w : (Jvm.Cond.arrayClass (newarray.typeOf aty)).before a0 Z = true) (eT : T.heap = h) (hd : decode bs pc = .ok (.newarray aty, 2)) (pc' : Nat) (hp : pc + 2 = pc') (h0 : 0 ≤ n.toInt) (cap : Nat) (hcap : n.toInt ≤ cap) (hbig : cap * 8 ≤ 536870912) (hc : cells + 1 ≤ R.cells) (hl : slots + cap ≤ R.slots)
    (hr : ∀ T' h' b, b = h.size → Stand p l e R s m args below meth c T' locs (cells + 1) (slots + cap) → T'.heap = h' → Ext h h' → OwnAr Z h' b (newarray.typeOf aty) n.toInt.toNat (fun _ => defaultValue (newarray.typeOf aty)) → OwnEnds p e below G (T'.setTop (mkF m pc' Ls (.ref b :: st)))) : OwnEnds p e below G (T.setTop (mkF m pc Ls (.int n :: st))) := by
  subst hp
  have hn0 : ¬ n < 0 := fun q => by rw [Int32.lt_iff_toInt_lt] at q; have : (0 : Int32).toInt = 0 := rfl; omega
  obtain ⟨T', h', cA, X', e', E', A, stp⟩ := newP X C.1 C.2.1 w eT (g := mkF m pc Ls (.int n :: st)) rfl (hb C.2.2.2.1 hd) rfl hn0 (cap := cap) (by show n.toInt.toNat ≤ cap; omega) hbig hc hl
  exact own_st stp (hr T' h' _ rfl X' e' E' (OwnAr.new A))
theorem own_new (X : Stand p l e R s m args below meth c T locs cells slots) (C : OwnCx p s m meth c Z y bs maxL rt) {idx n : Nat} {K : String} (w : (Jvm.Cond.classLink y.cls idx K).before a0 Z = true) (wi : (Jvm.Cond.instantiable K n).before a0 Z = true) (wz : (Jvm.Cond.initialized K).before a0 Z = true) (eT : T.heap = h) (hd : decode bs pc = .ok (.new idx, 3)) (pc' : Nat) (hp : pc + 3 = pc') (hc : cells + 1 ≤ R.cells) (hl : slots + n ≤ R.slots)
    (hr : ∀ T' h' b, b = h.size → Stand p l e R s m args below meth c T' locs (cells + 1) (slots + n) → T'.heap = h' → Ext h h' → Exa Z h' b K → (∀ {O nm d : String} {ty : FieldType}, Laid Z a0 K O nm d → parseFieldDescriptor d = some ty → Fld Z h' b O nm d (defaultValue ty)) → OwnEnds p e below G (T'.setTop (mkF m pc' Ls (.ref b :: st)))) : OwnEnds p e below G (T.setTop (mkF m pc Ls st)) := by
  subst hp
  obtain ⟨T', h', X', e', E', A, D, -, stp⟩ := newO X C.1 C.2.1 C.2.2.1 w wi wz eT (g := mkF m pc Ls st) rfl (hb C.2.2.2.1 hd) hc hl
  exact own_st stp (hr T' h' _ rfl X' e' E' A D)
theorem own_getfield (X : Stand p l e R s m args below meth c T locs cells slots) (C : OwnCx p s m meth c Z y bs maxL rt) {idx : Nat} {R0 O n d host : String} {v : Value} (w : (Jvm.Cond.fieldLink y.cls idx R0 n d).before a0 Z = true ∨ (Jvm.Cond.fieldLinkNest y.cls idx R0 n d host).before a0 Z = true) (via : Via Z R0 O n d) (eT : T.heap = h) (F : Fld Z h a O n d v) (hd : decode bs pc = .ok (.getfield idx, 3)) (pc' : Nat) (hp : pc + 3 = pc')
    (hr : ∀ T', Stand p l e R s m args below meth c T' locs cells slots → T'.heap = h → OwnEnds p e below G (T'.setTop (mkF m pc' Ls (v :: st)))) : OwnEnds p e below G (T.setTop (mkF m pc Ls (.ref a :: st))) := by
  subst hp
  obtain ⟨T', X', e', stp⟩ := getF X C.1 C.2.1 C.2.2.1 w via eT F (g := mkF m pc Ls _) rfl rfl (hb C.2.2.2.1 hd)
  exact own_st stp (hr T' X' e')
theorem own_getstatic (X : Stand p l e R s m args below meth c T locs cells slots) (C : OwnCx p s m meth c Z y bs maxL rt) {idx : Nat} {R0 O n d host : String} {v : Value} (w : (Jvm.Cond.fieldLink y.cls idx R0 n d).before a0 Z = true ∨ (Jvm.Cond.fieldLinkNest y.cls idx R0 n d host).before a0 Z = true) (via : Via Z R0 O n d) (eT : T.heap = h) (F : Sta Z h O n d v) (hd : decode bs pc = .ok (.getstatic idx, 3)) (pc' : Nat) (hp : pc + 3 = pc')
    (hr : ∀ T', Stand p l e R s m args below meth c T' locs cells slots → T'.heap = h → OwnEnds p e below G (T'.setTop (mkF m pc' Ls (v :: st)))) : OwnEnds p e below G (T.setTop (mkF m pc Ls st)) := by
  subst hp
  obtain ⟨T', X', e', stp⟩ := getS2 X C.1 C.2.1 C.2.2.1 w via eT F (g := mkF m pc Ls st) rfl (hb C.2.2.2.1 hd)
  exact own_st stp (hr T' X' e')
theorem own_putfield (X : Stand p l e R s m args below meth c T locs cells slots) (C : OwnCx p s m meth c Z y bs maxL rt) {idx kk : Nat} {R0 O n d host K : String} {ty : FieldType} {v old : Value} (w : (Jvm.Cond.fieldLink y.cls idx R0 n d).before a0 Z = true ∨ (Jvm.Cond.fieldLinkNest y.cls idx R0 n d host).before a0 Z = true) (via : Via Z R0 O n d) (eT : T.heap = h) (F : Fld Z h a O n d old) (E : Exa Z h a K) (L : (Jvm.Cond.lays K O n d).before a0 Z = true ∨ ((Jvm.Cond.laysFinal K O n d).before a0 Z = true ∧ y.cls = O ∧ y.name = "<init>")) (wi : (Jvm.Cond.instantiable K kk).before a0 Z = true)
    (hty : parseFieldDescriptor d = some ty) (hn : narrow ty v = v) (hf : fits ty v = true) (hd : decode bs pc = .ok (.putfield idx, 3)) (pc' : Nat) (hp : pc + 3 = pc')
    (hr : ∀ T' h', Stand p l e R s m args below meth c T' (locs ++ [⟨a, Jvm.RoadKit.slotOf Z O n d⟩]) cells slots → T'.heap = h' → Wr h h' a (Jvm.RoadKit.slotOf Z O n d) v → OwnEnds p e below G (T'.setTop (mkF m pc' Ls st))) : OwnEnds p e below G (T.setTop (mkF m pc Ls (v :: .ref a :: st))) := by
  subst hp
  obtain ⟨T', h', X', e', W, stp⟩ := putF X C.1 C.2.1 C.2.2.1 w via eT F E (L.imp id fun q => ⟨q.1, q.2.1, C.2.2.2.2.2.2.2.trans q.2.2⟩) wi hty hn hf (g := mkF m pc Ls _) rfl rfl (hb C.2.2.2.1 hd)
  exact own_st stp (hr T' h' X' e' W)
theorem own_putfieldN (X : Stand p l e R s m args below meth c T locs cells slots) (C : OwnCx p s m meth c Z y bs maxL rt) {idx kk : Nat} {R0 O n d K : String} {ty : FieldType} {v v' old : Value} (w : (Jvm.Cond.fieldLink y.cls idx R0 n d).before a0 Z = true) (via : Via Z R0 O n d) (eT : T.heap = h) (F : Fld Z h a O n d old) (E : Exa Z h a K) (L : (Jvm.Cond.lays K O n d).before a0 Z = true ∨ ((Jvm.Cond.laysFinal K O n d).before a0 Z = true ∧ y.cls = O ∧ y.name = "<init>")) (wi : (Jvm.Cond.instantiable K kk).before a0 Z = true)
    (hty : parseFieldDescriptor d = some ty) (hn : narrow ty v = v') (hf : fits ty v' = true) (hd : decode bs pc = .ok (.putfield idx, 3)) (pc' : Nat) (hp : pc + 3 = pc')
    (hr : ∀ T' h', Stand p l e R s m args below meth c T' (locs ++ [⟨a, Jvm.RoadKit.slotOf Z O n d⟩]) cells slots → T'.heap = h' → Wr h h' a (Jvm.RoadKit.slotOf Z O n d) v' → OwnEnds p e below G (T'.setTop (mkF m pc' Ls st))) : OwnEnds p e below G (T.setTop (mkF m pc Ls (v :: .ref a :: st))) := by
  subst hp
  obtain ⟨T', h', X', e', W, stp⟩ := putFN X C.1 C.2.1 C.2.2.1 w via eT F E (L.imp id fun q => ⟨q.1, q.2.1, C.2.2.2.2.2.2.2.trans q.2.2⟩) wi hty hn hf (g := mkF m pc Ls _) rfl rfl (hb C.2.2.2.1 hd)
  exact own_st stp (hr T' h' X' e' W)
theorem own_initO (X : Stand p l e R s m args below meth c T locs cells slots) (C : OwnCx p s m meth c Z y bs maxL rt) {idx : Nat} (w1 : (Jvm.Cond.methodLink y.cls idx Lib.objectInit).before a0 Z = true) (w2 : (Jvm.Cond.instanceMethod Lib.objectInit).before a0 Z = true) (w3 : (Jvm.Cond.code Lib.objectInit object_method_1_code 1 none).before a0 Z = true) (eT : T.heap = h) (hsz : Ls.size = maxL) (hd : decode bs pc = .ok (.invokespecial idx, 3)) (pc' : Nat) (hp : pc + 3 = pc') (hf : 1 ≤ R.frames) (W : Nat) (hW : (st.map fun v => v.category).sum = W) (hl : W + 12 ≤ R.locals)
    (hr : ∀ T', Stand p l e R s m args below meth c T' locs cells slots → T'.heap = h → OwnEnds p e below G (T'.setTop (mkF m pc' Ls st))) : OwnEnds p e below G (T.setTop (mkF m pc Ls (.ref a :: st))) := by
  subst hp
  obtain ⟨T', X', e', stp⟩ := initO X C.1 C.2.1 C.2.2.1 w1 w2 w3 eT (g := mkF m pc Ls (.ref a :: st)) rfl (by rw [C.2.2.2.2.1]; exact hsz) (a := a) (rest := st) rfl (hb C.2.2.2.1 hd) hf (W := W) (by show 2 * 0 + _ ≤ _; omega) hl
  exact own_st stp (hr T' X' e')
theorem own_callI (X : Stand p l e R s m args below meth c T locs cells slots) (C : OwnCx p s m meth c Z y bs maxL rt) {idx : Nat} {y' : MethodName} {bs' : ByteArray} {maxL' : Nat} {rt' : Option FieldType} {rm : Room} {as' : Array Value} {Q' : Option Value → Heap → List Loc → Prop} (hrt' : rt' = none)
    (w1 : (Jvm.Cond.methodLink y.cls idx y').before a0 Z = true) (w2 : (Jvm.Cond.instanceMethod y').before a0 Z = true) (w3 : (Jvm.Cond.initialized y'.cls).before a0 Z = true) (w4 : (Jvm.Cond.code y' bs' maxL' rt').before a0 Z = true) (hy1 : y'.name = "<init>") (hy : y'.cls ≠ "java/lang/invoke/MethodHandle" ∧ y'.cls ≠ "java/lang/invoke/VarHandle")
    (hM : OwnMet l Z y' bs' maxL' rt' [] rm as' h Q') (eT : T.heap = h) {ps : List FieldType} {r : Option FieldType} (hpd : parseMethodDescriptor y'.desc = some ⟨ps, r⟩) (argsL : List Value) (has : (Value.ref a :: argsL).toArray = as') (hlen : argsL.length = ps.length) (hst : st = argsL.reverse ++ .ref a :: rest) (hsz : Ls.size = maxL)
    (W : Nat) (hW : (rest.map fun v => v.category).sum = W) (hf : rm.frames + 1 ≤ R.frames) (hlo : W + (maxL' + 11) + rm.locals ≤ R.locals) (hce : cells + rm.cells ≤ R.cells) (hsl : slots + rm.slots ≤ R.slots) (hd : decode bs pc = .ok (.invokespecial idx, 3)) (pc' : Nat) (hp : pc + 3 = pc')
    (hr : ∀ T' L v, Stand p l e R s m args below meth c T' (locs ++ L) (cells + rm.cells) (slots + rm.slots) → Q' v T'.heap L → OwnEnds p e below G (T'.setTop (mkF m pc' Ls (v.toList ++ rest)))) : OwnEnds p e below G (T.setTop (mkF m pc Ls st)) := by
  subst hp has hW hrt'
  obtain ⟨v, _, ⟨T', L, k, n⟩, -, X', ⟨L', hQ, l1, l2, l3⟩, stp⟩ := X.specialBack C.1 hy1 C.2.2.1 (mvT C.2.1 w1) (mvT C.2.1 w2) (mvT C.2.1 w4) hy (backOf (len := 3) (W := (rest.map fun v => v.category).sum) hM C.2.1 w4 w3 hf hlo) (g := mkF m pc Ls st) rfl (by rw [C.2.2.2.2.1]; exact hsz) (Steps.refl _) (a := a) (argsL := argsL) (rest := rest) (lenOf hpd hlen) hst (by show 2 * 0 + _ ≤ _; omega) (hb C.2.2.2.1 hd) (fun _ _ => ⟨rfl, eT, hce, hsl⟩)
  dsimp only [Pt.U, Pt.locs, Pt.cells, Pt.slots] at X' l1 l2 l3 stp hQ
  subst l1 l2 l3
  exact own_tr stp (hr T' L' v X' hQ)
theorem own_callV (X : Stand p l e R s m args below meth c T locs cells slots) (C : OwnCx p s m meth c Z y bs maxL rt) {idx : Nat} {K : String} {y' : MethodName} {bs' : ByteArray} {maxL' : Nat} {rt' : Option FieldType} {rm : Room} {as' : Array Value} {Q' : Option Value → Heap → List Loc → Prop}
    (w1 : (Jvm.Cond.methodLink y.cls idx y').before a0 Z = true) (wd : (Jvm.Cond.declares y').before a0 Z = true) (ws : (Jvm.Cond.selects K y' y').before a0 Z = true) (w2 : (Jvm.Cond.instanceMethod y').before a0 Z = true) (w3 : (Jvm.Cond.initialized y'.cls).before a0 Z = true) (w4 : (Jvm.Cond.code y' bs' maxL' rt').before a0 Z = true) (hy : y'.cls ≠ "java/lang/invoke/MethodHandle" ∧ y'.cls ≠ "java/lang/invoke/VarHandle") (E : Exa Z h a K)
    (hM : OwnMet l Z y' bs' maxL' rt' [] rm as' h Q') (eT : T.heap = h) {ps : List FieldType} {r : Option FieldType} (hpd : parseMethodDescriptor y'.desc = some ⟨ps, r⟩) (argsL : List Value) (has : (Value.ref a :: argsL).toArray = as') (hlen : argsL.length = ps.length) (hst : st = argsL.reverse ++ .ref a :: rest) (hsz : Ls.size = maxL)
    (W : Nat) (hW : (rest.map fun v => v.category).sum = W) (hf : rm.frames + 1 ≤ R.frames) (hlo : W + (maxL' + 11) + rm.locals ≤ R.locals) (hce : cells + rm.cells ≤ R.cells) (hsl : slots + rm.slots ≤ R.slots) (hd : decode bs pc = .ok (.invokevirtual idx, 3)) (pc' : Nat) (hp : pc + 3 = pc')
    (hr : ∀ T' L v, Stand p l e R s m args below meth c T' (locs ++ L) (cells + rm.cells) (slots + rm.slots) → Q' v T'.heap L → OwnEnds p e below G (T'.setTop (mkF m pc' Ls (v.toList ++ rest)))) : OwnEnds p e below G (T.setTop (mkF m pc Ls st)) := by
  subst hp has hW
  obtain ⟨cq, kq, qa, qb, qc⟩ := isOf C.2.1 eT E
  obtain ⟨v, _, ⟨T', L, k, n⟩, -, X', ⟨L', hQ, l1, l2, l3⟩, stp⟩ := X.virtualBack C.1 (y := y') (z := y') C.2.2.1 (mvT C.2.1 w1) (mvT C.2.1 wd) (notFace_of_selects (args := #[]) (mvT C.2.1 ws)) (mvT C.2.1 ws) (mvT C.2.1 w2) hy (backOf (len := 3) (W := (rest.map fun v => v.category).sum) hM C.2.1 w4 w3 hf hlo) qa qc (g := mkF m pc Ls st) rfl (by rw [C.2.2.2.2.1]; exact hsz) (Steps.refl _) (argsL := argsL) (rest := rest) (lenOf hpd hlen) hst (by show 2 * 0 + _ ≤ _; omega) (hb C.2.2.2.1 hd) (fun _ _ => ⟨rfl, eT, hce, hsl⟩)
  dsimp only [Pt.U, Pt.locs, Pt.cells, Pt.slots] at X' l1 l2 l3 stp hQ
  subst l1 l2 l3
  exact own_tr stp (hr T' L' v X' hQ)
theorem own_instY (X : Stand p l e R s m args below meth c T locs cells slots) (C : OwnCx p s m meth c Z y bs maxL rt) {idx : Nat} {K : String} (w : (Jvm.Cond.classLink y.cls idx K).before a0 Z = true) (eT : T.heap = h) (F : Ins Z h a K true) (hd : decode bs pc = .ok (.instanceof idx, 3)) (pc' : Nat) (hp : pc + 3 = pc')
    (hr : ∀ T', Stand p l e R s m args below meth c T' locs cells slots → T'.heap = h → OwnEnds p e below G (T'.setTop (mkF m pc' Ls (.int 1 :: st)))) : OwnEnds p e below G (T.setTop (mkF m pc Ls (.ref a :: st))) := by
  subst hp
  obtain ⟨T', X', e', stp⟩ := instY X C.1 C.2.1 C.2.2.1 w eT F (g := mkF m pc Ls _) rfl rfl (hb C.2.2.2.1 hd)
  exact own_st stp (hr T' X' e')
theorem own_castY (X : Stand p l e R s m args below meth c T locs cells slots) (C : OwnCx p s m meth c Z y bs maxL rt) {idx : Nat} {K : String} (w : (Jvm.Cond.classLink y.cls idx K).before a0 Z = true) (eT : T.heap = h) (F : Ins Z h a K true) (hd : decode bs pc = .ok (.checkcast idx, 3)) (pc' : Nat) (hp : pc + 3 = pc')
    (hr : ∀ T', Stand p l e R s m args below meth c T' locs cells slots → T'.heap = h → OwnEnds p e below G (T'.setTop (mkF m pc' Ls (.ref a :: st)))) : OwnEnds p e below G (T.setTop (mkF m pc Ls (.ref a :: st))) := by
  subst hp
  obtain ⟨T', X', e', stp⟩ := castY X C.1 C.2.1 C.2.2.1 w eT F (g := mkF m pc Ls (.ref a :: st)) rfl (rest := st) rfl (hb C.2.2.2.1 hd)
  exact own_st stp (hr T' X' e')
end OwnHeap
theorem own_w {Z : State} {a0 : Array Value} (hw : ∀ d ∈ tables_1, d.before a0 Z = true) (k : Nat) {d : Jvm.Cond} (q : tables_1[k]? = some d) : d.before a0 Z = true := hw _ (List.mem_of_getElem? q)
def own_K : String := "com/example/subsumer/subsumer/Ints"
/-- an Ints at o: its array at a (16 places), n values in it: g -/
def OwnI (Z : State) (h : Heap) (o a : Nat) (n : Nat) (g : Nat → Int32) : Prop :=
  Exa Z h o "com/example/subsumer/subsumer/Ints" ∧ Fld Z h o "com/example/subsumer/subsumer/Ints" "values" "[I" (.ref a) ∧ (∃ z : Int32, z.toInt = n ∧ Fld Z h o "com/example/subsumer/subsumer/Ints" "size" "I" (.int z)) ∧ OwnAr Z h a .int 16 (fun i => .int (g i)) ∧ o ≠ a
theorem OwnI.ext {Z : State} {h h' : Heap} {o a : Addr} {n : Nat} {g : Nat → Int32} (I : OwnI Z h o a n g) (E : Ext h h') : OwnI Z h' o a n g := by
  obtain ⟨h1, h2, ⟨z, h3, h4⟩, h5, h6⟩ := I
  exact ⟨h1.ext E, h2.ext E, ⟨z, h3, h4.ext E⟩, h5.ext E, h6⟩
theorem OwnI.keep {Z : State} {h h' : Heap} {o a : Addr} {n : Nat} {g : Nat → Int32} {ws : List Addr} (I : OwnI Z h o a n g) (K : Keep h h' ws) (q1 : o ∉ ws) (q2 : a ∉ ws) : OwnI Z h' o a n g := by
  obtain ⟨h1, h2, ⟨z, h3, h4⟩, h5, h6⟩ := I
  exact ⟨h1.keep K, h2.keep K q1, ⟨z, h3, h4.keep K q1⟩, h5.keep K q2, h6⟩
theorem OwnI.other {Z : State} {h h' : Heap} {o a b : Addr} {n sl : Nat} {v : Value} {g : Nat → Int32} (I : OwnI Z h o a n g) (W : Wr h h' b sl v) (q1 : o ≠ b) (q2 : a ≠ b) : OwnI Z h' o a n g := by
  obtain ⟨h1, h2, ⟨z, h3, h4⟩, h5, h6⟩ := I
  exact ⟨h1.wr W, h2.other W (Or.inl q1), ⟨z, h3, h4.other W (Or.inl q1)⟩, h5.other W q2, h6⟩
theorem own_pn_Ints : plainName "com/example/subsumer/subsumer/Ints" = true := by first | (simp [plainName, overriddenIn]; done) | decide +kernel
theorem own_pd__R_V : parseMethodDescriptor "()V" = some ⟨[], none⟩ := by decide +kernel
theorem own_d_prog_35_method_1_code_0 : decode prog_35_method_1_code 0 = .ok (.aload_n 0, 1) := by decide +kernel
theorem own_d_prog_35_method_1_code_1 : decode prog_35_method_1_code 1 = .ok (.invokespecial 1, 3) := by decide +kernel
theorem own_d_prog_35_method_1_code_4 : decode prog_35_method_1_code 4 = .ok (.aload_n 0, 1) := by decide +kernel
theorem own_d_prog_35_method_1_code_5 : decode prog_35_method_1_code 5 = .ok (.bipush 16, 2) := by decide +kernel
theorem own_d_prog_35_method_1_code_7 : decode prog_35_method_1_code 7 = .ok (.newarray .int, 2) := by decide +kernel
theorem own_d_prog_35_method_1_code_9 : decode prog_35_method_1_code 9 = .ok (.putfield 7, 3) := by decide +kernel
theorem own_d_prog_35_method_1_code_12 : decode prog_35_method_1_code 12 = .ok (.return_, 1) := by decide +kernel
set_option maxRecDepth 65536 in
set_option maxHeartbeats 4000000 in
theorem own_ef_own_rm_I_init (m : MethodId) (oa0 : Nat) : entryFrame m #[(.ref oa0)] 1 = (mkF m 0 #[.val (.ref oa0)] []) := by first | (simp [entryFrame, mkF, argsToLocals, Value.category]; done) | rfl
set_option maxRecDepth 65536 in
set_option maxHeartbeats 4000000 in
theorem own_rm_I_init (l : Launch) (Z : State) (a0 : Array Value) (hw : ∀ d ∈ tables_1, d.before a0 Z = true) (oa0 : Nat) (h : Heap) (n0 : Nat) (Z0 : n0 ≤ h.size) (go : n0 ≤ oa0) (Eo : Exa Z h oa0 "com/example/subsumer/subsumer/Ints") (Fv : Fld Z h oa0 "com/example/subsumer/subsumer/Ints" "values" "[I" .null) (Fs : Fld Z h oa0 "com/example/subsumer/subsumer/Ints" "size" "I" (.int (0 : Int32))) :
    OwnMet l Z (⟨"com/example/subsumer/subsumer/Ints", "<init>", "()V"⟩ : MethodName) prog_35_method_1_code 1 none [] ({ frames := 1, cells := 1, slots := 16, locals := 20 } : Room) #[(.ref oa0)] h (fun v h' L => v = none ∧ Fr n0 L ∧ ∃ a : Nat, n0 ≤ a ∧ h.size ≤ a ∧ OwnI Z h' oa0 a 0 (fun _ => 0) ∧ Keep h h' [oa0]) := by
  refine own_enter (f0 := fun m => mkF m 0 #[.val (.ref oa0)] []) (plainFor_of_name own_pn_Ints) (fun m => own_ef_own_rm_I_init m oa0) ?_
  intro p e s m below meth c T0 X0 C e0
  refine own_aload_n X0 C own_d_prog_35_method_1_code_0 1 rfl rfl rfl ?_
  refine own_initO X0 C (own_w hw 6 rfl) (own_w hw 7 rfl) (own_w hw 8 rfl) e0 rfl own_d_prog_35_method_1_code_1 4 rfl (by decide) 0 rfl (by decide) (fun T1 X1 e1 => ?_)
  refine own_aload_n X1 C own_d_prog_35_method_1_code_4 5 rfl rfl rfl ?_
  refine own_bipush X1 C own_d_prog_35_method_1_code_5 7 rfl (16) rfl ?_
  refine own_newarray X1 C (own_w hw 9 rfl) e1 own_d_prog_35_method_1_code_7 9 rfl (by decide) 16 (by decide) (by decide) (by decide) (by decide) (fun T2 h2 b2 g2 X2 e2 E2 A2 => ?_)
  have F1 := Fv.ext E2
  have F2 := Fs.ext E2
  have Ex := Eo.ext E2
  refine own_putfield X2 C (host := "") (Or.inl (own_w hw 10 rfl)) Via.refl e2 F1 Ex (Or.inl (own_w hw 11 rfl)) (own_w hw 1 rfl) (ty := (.array .int)) (by decide) rfl rfl own_d_prog_35_method_1_code_9 12 rfl (fun T3 h3 X3 e3 W3 => ?_)
  have N3 := own_fr1 (sl := Jvm.RoadKit.slotOf Z "com/example/subsumer/subsumer/Ints" "values" "[I") (Fr.nil n0) go
  refine own_return X3 C rfl own_d_prog_35_method_1_code_12 (by decide) (by decide) ?_
  rw [e3]
  have gb : h.size ≤ b2 := Nat.le_of_eq g2.symm
  have ne : oa0 ≠ b2 := Nat.ne_of_lt (Nat.lt_of_lt_of_le Eo.lt gb)
  refine ⟨rfl, N3, b2, Nat.le_trans Z0 gb, gb, ⟨Ex.wr W3, F1.same W3, ⟨0, by decide, F2.other W3 (Or.inr (slot_ne (Or.inl (own_w hw 18 rfl)) (Or.inl (own_w hw 11 rfl)) (by decide) (t := .int) (t' := (.array .int)) (by decide) (by decide)))⟩, A2.other W3 (Ne.symm ne), ne⟩, ?_⟩
  exact ((Keep.refl h [oa0]).ext E2).wr W3 (Or.inl (List.mem_singleton.mpr rfl))
theorem own_pd_I_R_V : parseMethodDescriptor "(I)V" = some ⟨[.int], none⟩ := by decide +kernel
theorem own_d_prog_35_method_5_code_0 : decode prog_35_method_5_code 0 = .ok (.aload_n 0, 1) := by decide +kernel
theorem own_d_prog_35_method_5_code_1 : decode prog_35_method_5_code 1 = .ok (.getfield 13, 3) := by decide +kernel
theorem own_d_prog_35_method_5_code_4 : decode prog_35_method_5_code 4 = .ok (.aload_n 0, 1) := by decide +kernel
theorem own_d_prog_35_method_5_code_5 : decode prog_35_method_5_code 5 = .ok (.getfield 7, 3) := by decide +kernel
theorem own_d_prog_35_method_5_code_8 : decode prog_35_method_5_code 8 = .ok (.arraylength, 1) := by decide +kernel
theorem own_d_prog_35_method_5_code_9 : decode prog_35_method_5_code 9 = .ok (.if_icmp .ne 20, 3) := by decide +kernel
theorem own_d_prog_35_method_5_code_29 : decode prog_35_method_5_code 29 = .ok (.aload_n 0, 1) := by decide +kernel
theorem own_d_prog_35_method_5_code_30 : decode prog_35_method_5_code 30 = .ok (.getfield 7, 3) := by decide +kernel
theorem own_d_prog_35_method_5_code_33 : decode prog_35_method_5_code 33 = .ok (.aload_n 0, 1) := by decide +kernel
theorem own_d_prog_35_method_5_code_34 : decode prog_35_method_5_code 34 = .ok (.dup, 1) := by decide +kernel
theorem own_d_prog_35_method_5_code_35 : decode prog_35_method_5_code 35 = .ok (.getfield 13, 3) := by decide +kernel
theorem own_d_prog_35_method_5_code_38 : decode prog_35_method_5_code 38 = .ok (.dup_x1, 1) := by decide +kernel
theorem own_d_prog_35_method_5_code_39 : decode prog_35_method_5_code 39 = .ok (.iconst 1, 1) := by decide +kernel
theorem own_d_prog_35_method_5_code_40 : decode prog_35_method_5_code 40 = .ok (.iadd, 1) := by decide +kernel
theorem own_d_prog_35_method_5_code_41 : decode prog_35_method_5_code 41 = .ok (.putfield 13, 3) := by decide +kernel
theorem own_d_prog_35_method_5_code_44 : decode prog_35_method_5_code 44 = .ok (.iload_n 1, 1) := by decide +kernel
theorem own_d_prog_35_method_5_code_45 : decode prog_35_method_5_code 45 = .ok (.iastore, 1) := by decide +kernel
theorem own_d_prog_35_method_5_code_46 : decode prog_35_method_5_code 46 = .ok (.return_, 1) := by decide +kernel
set_option maxRecDepth 65536 in
set_option maxHeartbeats 4000000 in
theorem own_ef_own_rm_I_add (m : MethodId) (oa0 : Nat) (ia1 : Int32) : entryFrame m #[(.ref oa0), (.int ia1)] 2 = (mkF m 0 #[.val (.ref oa0), .val (.int ia1)] []) := by first | (simp [entryFrame, mkF, argsToLocals, Value.category]; done) | rfl
set_option maxRecDepth 65536 in
set_option maxHeartbeats 4000000 in
theorem own_rm_I_add (l : Launch) (Z : State) (a0 : Array Value) (hw : ∀ d ∈ tables_1, d.before a0 Z = true) (oa0 : Nat) (ia1 : Int32) (h : Heap) (a : Nat) (n : Nat) (g : Nat → Int32) (I : OwnI Z h oa0 a n g) (n0 : Nat) (go : n0 ≤ oa0) (ga : n0 ≤ a) (hn : n < 16) :
    OwnMet l Z (⟨"com/example/subsumer/subsumer/Ints", "add", "(I)V"⟩ : MethodName) prog_35_method_5_code 2 none [] ({ frames := 0, cells := 0, slots := 0, locals := 0 } : Room) #[(.ref oa0), (.int ia1)] h (fun v h' L => v = none ∧ Fr n0 L ∧ OwnI Z h' oa0 a (n + 1) (fun i => if i = n then ia1 else g i) ∧ Keep h h' [oa0, a]) := by
  refine own_enter (f0 := fun m => mkF m 0 #[.val (.ref oa0), .val (.int ia1)] []) (plainFor_of_name own_pn_Ints) (fun m => own_ef_own_rm_I_add m oa0 ia1) ?_
  intro p e s m below meth c T0 X0 C e0
  obtain ⟨Eo, Fv, ⟨z0, hz0, Fs⟩, A, ne⟩ := I
  refine own_aload_n X0 C own_d_prog_35_method_5_code_0 1 rfl rfl rfl ?_
  refine own_getfield X0 C (host := "") (Or.inl (own_w hw 17 rfl)) Via.refl e0 Fs own_d_prog_35_method_5_code_1 4 rfl (fun T1 X1 e1 => ?_)
  refine own_aload_n X1 C own_d_prog_35_method_5_code_4 5 rfl rfl rfl ?_
  refine own_getfield X1 C (host := "") (Or.inl (own_w hw 10 rfl)) Via.refl e1 Fv own_d_prog_35_method_5_code_5 8 rfl (fun T2 X2 e2 => ?_)
  refine own_arraylength X2 C e2 A own_d_prog_35_method_5_code_8 9 rfl (by decide) (fun v1 ev1 fv1 => ?_)
  refine own_icmpne X2 C own_d_prog_35_method_5_code_9 12 29 rfl (by decide) (by decide) (i := z0.toInt) rfl (j := v1.toInt) rfl (fun b3 => ?_) (fun b3 => ?_)
  · refine own_aload_n X2 C own_d_prog_35_method_5_code_29 30 rfl rfl rfl ?_
    refine own_getfield X2 C (host := "") (Or.inl (own_w hw 10 rfl)) Via.refl e2 Fv own_d_prog_35_method_5_code_30 33 rfl (fun T4 X4 e4 => ?_)
    refine own_aload_n X4 C own_d_prog_35_method_5_code_33 34 rfl rfl rfl ?_
    refine own_dup X4 C own_d_prog_35_method_5_code_34 35 rfl rfl ?_
    refine own_getfield X4 C (host := "") (Or.inl (own_w hw 17 rfl)) Via.refl e4 Fs own_d_prog_35_method_5_code_35 38 rfl (fun T5 X5 e5 => ?_)
    refine own_dup_x1 X5 C own_d_prog_35_method_5_code_38 39 rfl rfl rfl ?_
    refine own_iconst X5 C own_d_prog_35_method_5_code_39 40 rfl (1) rfl ?_
    refine own_iadd X5 C own_d_prog_35_method_5_code_40 41 rfl (fun v2 ev2 => ?_)
    refine own_putfield X5 C (host := "") (Or.inl (own_w hw 17 rfl)) Via.refl e5 Fs Eo (Or.inl (own_w hw 18 rfl)) (own_w hw 1 rfl) (ty := .int) (by decide) rfl rfl own_d_prog_35_method_5_code_41 44 rfl (fun T6 h6 X6 e6 W6 => ?_)
    have N6 := own_fr1 (sl := Jvm.RoadKit.slotOf Z "com/example/subsumer/subsumer/Ints" "size" "I") (Fr.nil n0) go
    have A1 := A.other W6 (Ne.symm ne)
    refine own_iload_n X6 C own_d_prog_35_method_5_code_44 45 rfl rfl ?_
    refine own_iastore X6 C e6 A1 (by omega) (by omega) own_d_prog_35_method_5_code_45 46 rfl (fun T7 h7 X7 e7 W7 => ?_)
    have N7 := own_fr1 (sl := (z0).toInt.toNat) N6 ga
    refine own_return X7 C rfl own_d_prog_35_method_5_code_46 (by decide) (by decide) ?_
    rw [e7]
    refine ⟨rfl, N7, ⟨(Eo.wr W6).wr W7, (Fv.other W6 (Or.inr (slot_ne (Or.inl (own_w hw 11 rfl)) (Or.inl (own_w hw 18 rfl)) (by decide) (t := (.array .int)) (t' := .int) (by decide) (by decide)))).other W7 (Or.inl ne), ⟨v2, ?_, (Fs.same W6).other W7 (Or.inl ne)⟩, (A1.set W7).eqv ?_, ne⟩, ?_⟩
    · have q := c_iadd z0 1
      rw [← ev2] at q
      have q1 : (1 : Int32).toInt = 1 := by decide
      have q2 := rng32 v2
      omega
    · intro i hi
      have q : z0.toInt.toNat = n := by omega
      rw [q]
      by_cases k : i = n <;> simp [k]
    · exact ((Keep.refl h [oa0, a]).wr W6 (Or.inl (by simp))).wr W7 (Or.inl (by simp))
  · exfalso
    omega
theorem own_pd__R_I : parseMethodDescriptor "()I" = some ⟨[], some .int⟩ := by decide +kernel
theorem own_d_prog_35_method_6_code_0 : decode prog_35_method_6_code 0 = .ok (.aload_n 0, 1) := by decide +kernel
theorem own_d_prog_35_method_6_code_1 : decode prog_35_method_6_code 1 = .ok (.getfield 7, 3) := by decide +kernel
theorem own_d_prog_35_method_6_code_4 : decode prog_35_method_6_code 4 = .ok (.aload_n 0, 1) := by decide +kernel
theorem own_d_prog_35_method_6_code_5 : decode prog_35_method_6_code 5 = .ok (.dup, 1) := by decide +kernel
theorem own_d_prog_35_method_6_code_6 : decode prog_35_method_6_code 6 = .ok (.getfield 13, 3) := by decide +kernel
theorem own_d_prog_35_method_6_code_9 : decode prog_35_method_6_code 9 = .ok (.iconst 1, 1) := by decide +kernel
theorem own_d_prog_35_method_6_code_10 : decode prog_35_method_6_code 10 = .ok (.isub, 1) := by decide +kernel
theorem own_d_prog_35_method_6_code_11 : decode prog_35_method_6_code 11 = .ok (.dup_x1, 1) := by decide +kernel
theorem own_d_prog_35_method_6_code_12 : decode prog_35_method_6_code 12 = .ok (.putfield 13, 3) := by decide +kernel
theorem own_d_prog_35_method_6_code_15 : decode prog_35_method_6_code 15 = .ok (.iaload, 1) := by decide +kernel
theorem own_d_prog_35_method_6_code_16 : decode prog_35_method_6_code 16 = .ok (.ireturn, 1) := by decide +kernel
set_option maxRecDepth 65536 in
set_option maxHeartbeats 4000000 in
theorem own_ef_own_rm_I_removeLast (m : MethodId) (oa0 : Nat) : entryFrame m #[(.ref oa0)] 1 = (mkF m 0 #[.val (.ref oa0)] []) := by first | (simp [entryFrame, mkF, argsToLocals, Value.category]; done) | rfl
set_option maxRecDepth 65536 in
set_option maxHeartbeats 4000000 in
theorem own_rm_I_removeLast (l : Launch) (Z : State) (a0 : Array Value) (hw : ∀ d ∈ tables_1, d.before a0 Z = true) (oa0 : Nat) (h : Heap) (a : Nat) (n : Nat) (g : Nat → Int32) (I : OwnI Z h oa0 a (n + 1) g) (n0 : Nat) (go : n0 ≤ oa0) (ga : n0 ≤ a) (hn : n < 16) :
    OwnMet l Z (⟨"com/example/subsumer/subsumer/Ints", "removeLast", "()I"⟩ : MethodName) prog_35_method_6_code 1 (some .int) [] ({ frames := 0, cells := 0, slots := 0, locals := 0 } : Room) #[(.ref oa0)] h (fun v h' L => v = some (.int (g n)) ∧ Fr n0 L ∧ OwnI Z h' oa0 a n g ∧ Keep h h' [oa0, a]) := by
  refine own_enter (f0 := fun m => mkF m 0 #[.val (.ref oa0)] []) (plainFor_of_name own_pn_Ints) (fun m => own_ef_own_rm_I_removeLast m oa0) ?_
  intro p e s m below meth c T0 X0 C e0
  obtain ⟨Eo, Fv, ⟨z0, hz0, Fs⟩, A, ne⟩ := I
  refine own_aload_n X0 C own_d_prog_35_method_6_code_0 1 rfl rfl rfl ?_
  refine own_getfield X0 C (host := "") (Or.inl (own_w hw 10 rfl)) Via.refl e0 Fv own_d_prog_35_method_6_code_1 4 rfl (fun T1 X1 e1 => ?_)
  refine own_aload_n X1 C own_d_prog_35_method_6_code_4 5 rfl rfl rfl ?_
  refine own_dup X1 C own_d_prog_35_method_6_code_5 6 rfl rfl ?_
  refine own_getfield X1 C (host := "") (Or.inl (own_w hw 17 rfl)) Via.refl e1 Fs own_d_prog_35_method_6_code_6 9 rfl (fun T2 X2 e2 => ?_)
  refine own_iconst X2 C own_d_prog_35_method_6_code_9 10 rfl (1) rfl ?_
  refine own_isub X2 C own_d_prog_35_method_6_code_10 11 rfl (fun v1 ev1 => ?_)
  refine own_dup_x1 X2 C own_d_prog_35_method_6_code_11 12 rfl rfl rfl ?_
  have hv : v1.toInt = n := by
    have q := c_isub z0 1
    rw [← ev1] at q
    have q1 : (1 : Int32).toInt = 1 := by decide
    have q2 := rng32 v1
    omega
  refine own_putfield X2 C (host := "") (Or.inl (own_w hw 17 rfl)) Via.refl e2 Fs Eo (Or.inl (own_w hw 18 rfl)) (own_w hw 1 rfl) (ty := .int) (by decide) rfl rfl own_d_prog_35_method_6_code_12 15 rfl (fun T3 h3 X3 e3 W3 => ?_)
  have N3 := own_fr1 (sl := Jvm.RoadKit.slotOf Z "com/example/subsumer/subsumer/Ints" "size" "I") (Fr.nil n0) go
  have A1 := A.other W3 (Ne.symm ne)
  refine own_iaload X3 C e3 A1 (by omega) (by omega) own_d_prog_35_method_6_code_15 16 rfl (.int (g n)) (by rw [show v1.toInt.toNat = n by omega]) ?_
  refine own_ireturn X3 C rfl own_d_prog_35_method_6_code_16 (by decide) (by decide) ?_
  rw [e3]
  exact ⟨rfl, N3, ⟨Eo.wr W3, Fv.other W3 (Or.inr (slot_ne (Or.inl (own_w hw 11 rfl)) (Or.inl (own_w hw 18 rfl)) (by decide) (t := (.array .int)) (t' := .int) (by decide) (by decide))), ⟨v1, hv, Fs.same W3⟩, A1, ne⟩, (Keep.refl h [oa0, a]).wr W3 (Or.inl (by simp))⟩
theorem own_d_prog_35_method_2_code_0 : decode prog_35_method_2_code 0 = .ok (.aload_n 0, 1) := by decide +kernel
theorem own_d_prog_35_method_2_code_1 : decode prog_35_method_2_code 1 = .ok (.getfield 13, 3) := by decide +kernel
theorem own_d_prog_35_method_2_code_4 : decode prog_35_method_2_code 4 = .ok (.ireturn, 1) := by decide +kernel
set_option maxRecDepth 65536 in
set_option maxHeartbeats 4000000 in
theorem own_ef_own_rm_I_size (m : MethodId) (oa0 : Nat) : entryFrame m #[(.ref oa0)] 1 = (mkF m 0 #[.val (.ref oa0)] []) := by first | (simp [entryFrame, mkF, argsToLocals, Value.category]; done) | rfl
set_option maxRecDepth 65536 in
set_option maxHeartbeats 4000000 in
theorem own_rm_I_size (l : Launch) (Z : State) (a0 : Array Value) (hw : ∀ d ∈ tables_1, d.before a0 Z = true) (oa0 : Nat) (h : Heap) (a : Nat) (n : Nat) (g : Nat → Int32) (I : OwnI Z h oa0 a n g) :
    OwnMet l Z (⟨"com/example/subsumer/subsumer/Ints", "size", "()I"⟩ : MethodName) prog_35_method_2_code 1 (some .int) [] ({ frames := 0, cells := 0, slots := 0, locals := 0 } : Room) #[(.ref oa0)] h (OwnSome (fun v => ∃ z : Int32, v = .int z ∧ z.toInt = n) h) := by
  refine own_enter (f0 := fun m => mkF m 0 #[.val (.ref oa0)] []) (plainFor_of_name own_pn_Ints) (fun m => own_ef_own_rm_I_size m oa0) ?_
  intro p e s m below meth c T0 X0 C e0
  obtain ⟨Eo, Fv, ⟨z0, hz0, Fs⟩, A, ne⟩ := I
  refine own_aload_n X0 C own_d_prog_35_method_2_code_0 1 rfl rfl rfl ?_
  refine own_getfield X0 C (host := "") (Or.inl (own_w hw 17 rfl)) Via.refl e0 Fs own_d_prog_35_method_2_code_1 4 rfl (fun T1 X1 e1 => ?_)
  refine own_ireturn X1 C rfl own_d_prog_35_method_2_code_4 (by decide) (by decide) ?_
  exact ⟨⟨_, rfl, _, rfl, hz0⟩, e1, rfl⟩
theorem own_pd_I_R_I : parseMethodDescriptor "(I)I" = some ⟨[.int], some .int⟩ := by decide +kernel
theorem own_d_prog_35_method_3_code_0 : decode prog_35_method_3_code 0 = .ok (.aload_n 0, 1) := by decide +kernel
theorem own_d_prog_35_method_3_code_1 : decode prog_35_method_3_code 1 = .ok (.getfield 7, 3) := by decide +kernel
theorem own_d_prog_35_method_3_code_4 : decode prog_35_method_3_code 4 = .ok (.iload_n 1, 1) := by decide +kernel
theorem own_d_prog_35_method_3_code_5 : decode prog_35_method_3_code 5 = .ok (.iaload, 1) := by decide +kernel
theorem own_d_prog_35_method_3_code_6 : decode prog_35_method_3_code 6 = .ok (.ireturn, 1) := by decide +kernel
set_option maxRecDepth 65536 in
set_option maxHeartbeats 4000000 in
theorem own_ef_own_rm_I_get (m : MethodId) (oa0 : Nat) (ia1 : Int32) : entryFrame m #[(.ref oa0), (.int ia1)] 2 = (mkF m 0 #[.val (.ref oa0), .val (.int ia1)] []) := by first | (simp [entryFrame, mkF, argsToLocals, Value.category]; done) | rfl
set_option maxRecDepth 65536 in
set_option maxHeartbeats 4000000 in
theorem own_rm_I_get (l : Launch) (Z : State) (a0 : Array Value) (hw : ∀ d ∈ tables_1, d.before a0 Z = true) (oa0 : Nat) (ia1 : Int32) (h : Heap) (a : Nat) (n : Nat) (g : Nat → Int32) (I : OwnI Z h oa0 a n g) (k : Nat) (hk : ia1.toInt = k) (hk2 : k < 16) :
    OwnMet l Z (⟨"com/example/subsumer/subsumer/Ints", "get", "(I)I"⟩ : MethodName) prog_35_method_3_code 2 (some .int) [] ({ frames := 0, cells := 0, slots := 0, locals := 0 } : Room) #[(.ref oa0), (.int ia1)] h (OwnPure (.int (g k)) h) := by
  refine own_enter (f0 := fun m => mkF m 0 #[.val (.ref oa0), .val (.int ia1)] []) (plainFor_of_name own_pn_Ints) (fun m => own_ef_own_rm_I_get m oa0 ia1) ?_
  intro p e s m below meth c T0 X0 C e0
  obtain ⟨Eo, Fv, ⟨z0, hz0, Fs⟩, A, ne⟩ := I
  refine own_aload_n X0 C own_d_prog_35_method_3_code_0 1 rfl rfl rfl ?_
  refine own_getfield X0 C (host := "") (Or.inl (own_w hw 10 rfl)) Via.refl e0 Fv own_d_prog_35_method_3_code_1 4 rfl (fun T1 X1 e1 => ?_)
  refine own_iload_n X1 C own_d_prog_35_method_3_code_4 5 rfl rfl ?_
  refine own_iaload X1 C e1 A (by omega) (by omega) own_d_prog_35_method_3_code_5 6 rfl (.int (g k)) (by rw [show ia1.toInt.toNat = k by omega]) ?_
  refine own_ireturn X1 C rfl own_d_prog_35_method_3_code_6 (by decide) (by decide) ?_
  exact ⟨rfl, e1, rfl⟩
theorem own_pn_IntsRemoveLastPinLaw : plainName "com/example/subsumer/subsumer/IntsRemoveLastPinLaw" = true := by first | (simp [plainName, overriddenIn]; done) | decide +kernel
theorem own_pd_IIIIII_R_Z : parseMethodDescriptor "(IIIIII)Z" = some ⟨[.int, .int, .int, .int, .int, .int], some .boolean⟩ := by decide +kernel
set_option maxRecDepth 65536 in
set_option maxHeartbeats 4000000 in
theorem own_ef_own_rm_law (m : MethodId) (ia0 : Int32) (ia1 : Int32) (ia2 : Int32) (ia3 : Int32) (ia4 : Int32) (ia5 : Int32) : entryFrame m #[(.int ia0), (.int ia1), (.int ia2), (.int ia3), (.int ia4), (.int ia5)] maxLocals = (mkF m 0 #[.val (.int ia0), .val (.int ia1), .val (.int ia2), .val (.int ia3), .val (.int ia4), .val (.int ia5), .unset, .unset, .unset, .unset, .unset, .unset] []) := by first | (simp [entryFrame, mkF, argsToLocals, Value.category, maxLocals]; done) | rfl
set_option maxRecDepth 65536 in
set_option maxHeartbeats 4000000 in
theorem own_rm_law (l : Launch) (Z : State) (a0 : Array Value) (hw : ∀ d ∈ tables_1, d.before a0 Z = true) (ia0 : Int32) (ia1 : Int32) (ia2 : Int32) (ia3 : Int32) (ia4 : Int32) (ia5 : Int32) (h : Heap)  :
    OwnMet l Z x code maxLocals ret tables_1 room_1 #[(.int ia0), (.int ia1), (.int ia2), (.int ia3), (.int ia4), (.int ia5)] h (fun v h' L => v = some (.int 1) ∧ Fr h.size L) := by
  refine own_enter (f0 := fun m => mkF m 0 #[.val (.int ia0), .val (.int ia1), .val (.int ia2), .val (.int ia3), .val (.int ia4), .val (.int ia5), .unset, .unset, .unset, .unset, .unset, .unset] []) (plainFor_of_name own_pn_IntsRemoveLastPinLaw) (fun m => own_ef_own_rm_law m ia0 ia1 ia2 ia3 ia4 ia5) ?_
  intro p e s m below meth c T0 X0 C e0
  refine own_iload_n X0 C at_0 1 rfl rfl ?_
  refine own_iconst X0 C at_1 2 rfl (3) rfl ?_
  refine own_iand X0 C at_2 3 rfl (fun v1 ev1 => ?_)
  refine own_iconst X0 C at_3 4 rfl (1) rfl ?_
  refine own_iadd X0 C at_4 5 rfl (fun v2 ev2 => ?_)
  have r1 := c_and ia0 3 (by decide)
  rw [← ev1] at r1
  have r2 := c_iadd v1 1
  rw [← ev2] at r2
  have r3 : (3 : Int32).toInt = 3 := by decide
  have r4 : (1 : Int32).toInt = 1 := by decide
  have r5 := rng32 v2
  have rn : 1 ≤ v2.toInt ∧ v2.toInt ≤ 4 := by omega
  refine own_istore X0 C at_5 7 rfl #[.val (.int ia0), .val (.int ia1), .val (.int ia2), .val (.int ia3), .val (.int ia4), .val (.int ia5), .val (.int v2), .unset, .unset, .unset, .unset, .unset] rfl ?_
  refine own_new X0 C (own_w hw 0 rfl) (own_w hw 1 rfl) (own_w hw 2 rfl) e0 at_7 10 rfl (by decide) (by decide) (fun T1 h1 b1 g1 X1 e1 E1 A1 D1 => ?_)
  have Fv0 : Fld Z h1 b1 "com/example/subsumer/subsumer/Ints" "values" "[I" .null := D1 (Or.inl (own_w hw 11 rfl)) (ty := (.array .int)) (by decide)
  have Fs0 : Fld Z h1 b1 "com/example/subsumer/subsumer/Ints" "size" "I" (.int (0 : Int32)) := D1 (Or.inl (own_w hw 18 rfl)) (ty := .int) (by decide)
  have g0 : h.size ≤ b1 := Nat.le_of_eq g1.symm
  refine own_dup X1 C at_10 11 rfl rfl ?_
  refine own_callI X1 C rfl (own_w hw 3 rfl) (own_w hw 4 rfl) (own_w hw 2 rfl) (own_w hw 5 rfl) rfl (by decide) (own_rm_I_init l Z a0 hw b1 h1 h.size E1.1 g0 A1 Fv0 Fs0) e1 own_pd__R_V [] rfl rfl rfl rfl 1 rfl (by decide) (by decide) (by decide) (by decide) at_11 14 rfl (fun T2 L2 v2 X2 q2 => ?_)
  obtain ⟨rfl, NL2, a2, ga2, -, I2, -⟩ := q2
  have N2 := Fr.app (Fr.nil h.size) NL2
  refine own_astore X2 C at_14 16 rfl rfl #[.val (.int ia0), .val (.int ia1), .val (.int ia2), .val (.int ia3), .val (.int ia4), .val (.int ia5), .val (.int v2), .val (.ref b1), .unset, .unset, .unset, .unset] rfl ?_
  refine own_aload X2 C at_16 18 rfl rfl rfl ?_
  refine own_iload_n X2 C at_18 19 rfl rfl ?_
  refine own_callV X2 C (own_w hw 12 rfl) (own_w hw 13 rfl) (own_w hw 15 rfl) (own_w hw 14 rfl) (own_w hw 2 rfl) (own_w hw 16 rfl) (by decide) I2.1 (own_rm_I_add l Z a0 hw b1  ia1 T2.heap a2 0 (fun _ => (0 : Int32)) I2 h.size g0 ga2 (by decide)) rfl own_pd_I_R_V [(.int ia1)] rfl rfl rfl rfl 0 rfl (by decide) (by decide) (by decide) (by decide) at_19 22 rfl (fun T3 L3 v3 X3 q3 => ?_)
  obtain ⟨rfl, NL3, I3, -⟩ := q3
  have N3 := Fr.app N2 NL3
  refine own_iload X3 C at_22 24 rfl rfl ?_
  refine own_iconst X3 C at_24 25 rfl (2) rfl ?_
  refine own_icmplt X3 C at_25 28 34 rfl (by decide) (by decide) (i := v2.toInt) rfl (j := 2) (by decide) (fun b4 => ?_) (fun b4 => ?_)
  · refine own_iload X3 C at_34 36 rfl rfl ?_
    refine own_iconst X3 C at_36 37 rfl (3) rfl ?_
    refine own_icmplt X3 C at_37 40 46 rfl (by decide) (by decide) (i := v2.toInt) rfl (j := 3) (by decide) (fun b5 => ?_) (fun b5 => ?_)
    · refine own_iload X3 C at_46 48 rfl rfl ?_
      refine own_iconst X3 C at_48 49 rfl (4) rfl ?_
      refine own_icmplt X3 C at_49 52 59 rfl (by decide) (by decide) (i := v2.toInt) rfl (j := 4) (by decide) (fun b6 => ?_) (fun b6 => ?_)
      · refine own_iload X3 C at_59 61 rfl rfl ?_
        refine own_iconst X3 C at_61 62 rfl (1) rfl ?_
        refine own_icmpne X3 C at_62 65 69 rfl (by decide) (by decide) (i := v2.toInt) rfl (j := 1) (by decide) (fun b7 => ?_) (fun b7 => ?_)
        · exfalso
          omega
        · refine own_iload_n X3 C at_65 66 rfl rfl ?_
          refine own_goto X3 C at_66 91 (by decide) (by decide) ?_
          refine own_istore X3 C at_91 93 rfl #[.val (.int ia0), .val (.int ia1), .val (.int ia2), .val (.int ia3), .val (.int ia4), .val (.int ia5), .val (.int v2), .val (.ref b1), .val (.int ia1), .unset, .unset, .unset] rfl ?_
          refine own_aload X3 C at_93 95 rfl rfl rfl ?_
          refine own_callV X3 C (own_w hw 19 rfl) (own_w hw 20 rfl) (own_w hw 22 rfl) (own_w hw 21 rfl) (own_w hw 2 rfl) (own_w hw 23 rfl) (by decide) I3.1 (own_rm_I_removeLast l Z a0 hw b1  T3.heap a2 0 (fun i => if i = 0 then ia1 else (fun _ => (0 : Int32)) i) I3 h.size g0 ga2 (by decide)) rfl own_pd__R_I [] rfl rfl rfl rfl 0 rfl (by decide) (by decide) (by decide) (by decide) at_95 98 rfl (fun T8 L8 v8 X8 q8 => ?_)
          obtain ⟨rfl, NL8, I8, -⟩ := q8
          have N8 := Fr.app N3 NL8
          refine own_istore X8 C at_98 100 rfl #[.val (.int ia0), .val (.int ia1), .val (.int ia2), .val (.int ia3), .val (.int ia4), .val (.int ia5), .val (.int v2), .val (.ref b1), .val (.int ia1), .val (.int ia1), .unset, .unset] rfl ?_
          refine own_iload X8 C at_100 102 rfl rfl ?_
          refine own_iload X8 C at_102 104 rfl rfl ?_
          refine own_icmpne X8 C at_104 107 123 rfl (by decide) (by decide) (i := ia1.toInt) rfl (j := ia1.toInt) rfl (fun b9 => ?_) (fun b9 => ?_)
          · exfalso
            exact b9 rfl
          · refine own_aload X8 C at_107 109 rfl rfl rfl ?_
            refine own_callV X8 C (own_w hw 24 rfl) (own_w hw 25 rfl) (own_w hw 27 rfl) (own_w hw 26 rfl) (own_w hw 2 rfl) (own_w hw 28 rfl) (by decide) I8.1 (own_rm_I_size l Z a0 hw b1  T8.heap a2 0 (fun i => if i = 0 then ia1 else (fun _ => (0 : Int32)) i) I8) rfl own_pd__R_I [] rfl rfl rfl rfl 0 rfl (by decide) (by decide) (by decide) (by decide) at_109 112 rfl (fun T10 L10 v10 X10 q10 => ?_)
            obtain ⟨⟨_, rfl, z10, rfl, hz10⟩, eh10, rfl⟩ := q10
            have N10 := Fr.app N8 (Fr.nil h.size)
            rw [← eh10] at I8
            refine own_iload X10 C at_112 114 rfl rfl ?_
            refine own_iconst X10 C at_114 115 rfl (1) rfl ?_
            refine own_isub X10 C at_115 116 rfl (fun v3 ev3 => ?_)
            refine own_icmpne X10 C at_116 119 123 rfl (by decide) (by decide) (i := z10.toInt) rfl (j := v3.toInt) rfl (fun b11 => ?_) (fun b11 => ?_)
            · exfalso
              have q := c_isub v2 1
              rw [← ev3] at q
              have q2 := rng32 v3
              omega
            · refine own_iconst X10 C at_119 120 rfl (1) rfl ?_
              refine own_goto X10 C at_120 124 (by decide) (by decide) ?_
              refine own_istore X10 C at_124 126 rfl #[.val (.int ia0), .val (.int ia1), .val (.int ia2), .val (.int ia3), .val (.int ia4), .val (.int ia5), .val (.int v2), .val (.ref b1), .val (.int ia1), .val (.int ia1), .val (.int (1 : Int32)), .unset] rfl ?_
              refine own_iload X10 C at_126 128 rfl rfl ?_
              refine own_iconst X10 C at_128 129 rfl (2) rfl ?_
              refine own_icmplt X10 C at_129 132 181 rfl (by decide) (by decide) (i := v2.toInt) rfl (j := 2) (by decide) (fun b12 => ?_) (fun b12 => ?_)
              · refine own_aload X10 C at_181 183 rfl rfl rfl ?_
                refine own_iload X10 C at_183 185 rfl rfl ?_
                refine own_callV X10 C (own_w hw 12 rfl) (own_w hw 13 rfl) (own_w hw 15 rfl) (own_w hw 14 rfl) (own_w hw 2 rfl) (own_w hw 16 rfl) (by decide) I8.1 (own_rm_I_add l Z a0 hw b1  ia5 T10.heap a2 0 (fun i => if i = 0 then ia1 else (fun _ => (0 : Int32)) i) I8 h.size g0 ga2 (by decide)) rfl own_pd_I_R_V [(.int ia5)] rfl rfl rfl rfl 0 rfl (by decide) (by decide) (by decide) (by decide) at_185 188 rfl (fun T13 L13 v13 X13 q13 => ?_)
                obtain ⟨rfl, NL13, I13, -⟩ := q13
                have N13 := Fr.app N10 NL13
                refine own_aload X13 C at_188 190 rfl rfl rfl ?_
                refine own_callV X13 C (own_w hw 19 rfl) (own_w hw 20 rfl) (own_w hw 22 rfl) (own_w hw 21 rfl) (own_w hw 2 rfl) (own_w hw 23 rfl) (by decide) I13.1 (own_rm_I_removeLast l Z a0 hw b1  T13.heap a2 0 (fun i => if i = 0 then ia5 else (fun i => if i = 0 then ia1 else (fun _ => (0 : Int32)) i) i) I13 h.size g0 ga2 (by decide)) rfl own_pd__R_I [] rfl rfl rfl rfl 0 rfl (by decide) (by decide) (by decide) (by decide) at_190 193 rfl (fun T14 L14 v14 X14 q14 => ?_)
                obtain ⟨rfl, NL14, I14, -⟩ := q14
                have N14 := Fr.app N13 NL14
                refine own_istore X14 C at_193 195 rfl #[.val (.int ia0), .val (.int ia1), .val (.int ia2), .val (.int ia3), .val (.int ia4), .val (.int ia5), .val (.int v2), .val (.ref b1), .val (.int ia1), .val (.int ia1), .val (.int (1 : Int32)), .val (.int ia5)] rfl ?_
                refine own_iload X14 C at_195 197 rfl rfl ?_
                refine own_ifeq X14 C at_197 200 223 rfl (by decide) (by decide) (i := 1) (by decide) (fun b15 => ?_) (fun b15 => ?_)
                · exfalso
                  omega
                · refine own_iload X14 C at_200 202 rfl rfl ?_
                  refine own_iload X14 C at_202 204 rfl rfl ?_
                  refine own_icmpne X14 C at_204 207 223 rfl (by decide) (by decide) (i := ia5.toInt) rfl (j := ia5.toInt) rfl (fun b16 => ?_) (fun b16 => ?_)
                  · exfalso
                    exact b16 rfl
                  · refine own_aload X14 C at_207 209 rfl rfl rfl ?_
                    refine own_callV X14 C (own_w hw 24 rfl) (own_w hw 25 rfl) (own_w hw 27 rfl) (own_w hw 26 rfl) (own_w hw 2 rfl) (own_w hw 28 rfl) (by decide) I14.1 (own_rm_I_size l Z a0 hw b1  T14.heap a2 0 (fun i => if i = 0 then ia5 else (fun i => if i = 0 then ia1 else (fun _ => (0 : Int32)) i) i) I14) rfl own_pd__R_I [] rfl rfl rfl rfl 0 rfl (by decide) (by decide) (by decide) (by decide) at_209 212 rfl (fun T17 L17 v17 X17 q17 => ?_)
                    obtain ⟨⟨_, rfl, z17, rfl, hz17⟩, eh17, rfl⟩ := q17
                    have N17 := Fr.app N14 (Fr.nil h.size)
                    rw [← eh17] at I14
                    refine own_iload X17 C at_212 214 rfl rfl ?_
                    refine own_iconst X17 C at_214 215 rfl (1) rfl ?_
                    refine own_isub X17 C at_215 216 rfl (fun v4 ev4 => ?_)
                    refine own_icmpne X17 C at_216 219 223 rfl (by decide) (by decide) (i := z17.toInt) rfl (j := v4.toInt) rfl (fun b18 => ?_) (fun b18 => ?_)
                    · exfalso
                      have q := c_isub v2 1
                      rw [← ev4] at q
                      have q2 := rng32 v4
                      omega
                    · refine own_iconst X17 C at_219 220 rfl (1) rfl ?_
                      refine own_goto X17 C at_220 224 (by decide) (by decide) ?_
                      refine own_istore X17 C at_224 226 rfl #[.val (.int ia0), .val (.int ia1), .val (.int ia2), .val (.int ia3), .val (.int ia4), .val (.int ia5), .val (.int v2), .val (.ref b1), .val (.int ia1), .val (.int ia1), .val (.int (1 : Int32)), .val (.int ia5)] rfl ?_
                      refine own_iload X17 C at_226 228 rfl rfl ?_
                      refine own_iretN X17 C .boolean rfl (by simp) at_228 (by decide) (by decide) (1) (by decide) ?_
                      exact ⟨rfl, N17⟩
              · exfalso
                omega
      · exfalso
        omega
    · exfalso
      omega
  · refine own_aload X3 C at_28 30 rfl rfl rfl ?_
    refine own_iload_n X3 C at_30 31 rfl rfl ?_
    refine own_callV X3 C (own_w hw 12 rfl) (own_w hw 13 rfl) (own_w hw 15 rfl) (own_w hw 14 rfl) (own_w hw 2 rfl) (own_w hw 16 rfl) (by decide) I3.1 (own_rm_I_add l Z a0 hw b1  ia2 T3.heap a2 1 (fun i => if i = 0 then ia1 else (fun _ => (0 : Int32)) i) I3 h.size g0 ga2 (by decide)) rfl own_pd_I_R_V [(.int ia2)] rfl rfl rfl rfl 0 rfl (by decide) (by decide) (by decide) (by decide) at_31 34 rfl (fun T19 L19 v19 X19 q19 => ?_)
    obtain ⟨rfl, NL19, I19, -⟩ := q19
    have N19 := Fr.app N3 NL19
    refine own_iload X19 C at_34 36 rfl rfl ?_
    refine own_iconst X19 C at_36 37 rfl (3) rfl ?_
    refine own_icmplt X19 C at_37 40 46 rfl (by decide) (by decide) (i := v2.toInt) rfl (j := 3) (by decide) (fun b20 => ?_) (fun b20 => ?_)
    · refine own_iload X19 C at_46 48 rfl rfl ?_
      refine own_iconst X19 C at_48 49 rfl (4) rfl ?_
      refine own_icmplt X19 C at_49 52 59 rfl (by decide) (by decide) (i := v2.toInt) rfl (j := 4) (by decide) (fun b21 => ?_) (fun b21 => ?_)
      · refine own_iload X19 C at_59 61 rfl rfl ?_
        refine own_iconst X19 C at_61 62 rfl (1) rfl ?_
        refine own_icmpne X19 C at_62 65 69 rfl (by decide) (by decide) (i := v2.toInt) rfl (j := 1) (by decide) (fun b22 => ?_) (fun b22 => ?_)
        · refine own_iload X19 C at_69 71 rfl rfl ?_
          refine own_iconst X19 C at_71 72 rfl (2) rfl ?_
          refine own_icmpne X19 C at_72 75 79 rfl (by decide) (by decide) (i := v2.toInt) rfl (j := 2) (by decide) (fun b23 => ?_) (fun b23 => ?_)
          · exfalso
            omega
          · refine own_iload_n X19 C at_75 76 rfl rfl ?_
            refine own_goto X19 C at_76 91 (by decide) (by decide) ?_
            refine own_istore X19 C at_91 93 rfl #[.val (.int ia0), .val (.int ia1), .val (.int ia2), .val (.int ia3), .val (.int ia4), .val (.int ia5), .val (.int v2), .val (.ref b1), .val (.int ia2), .unset, .unset, .unset] rfl ?_
            refine own_aload X19 C at_93 95 rfl rfl rfl ?_
            refine own_callV X19 C (own_w hw 19 rfl) (own_w hw 20 rfl) (own_w hw 22 rfl) (own_w hw 21 rfl) (own_w hw 2 rfl) (own_w hw 23 rfl) (by decide) I19.1 (own_rm_I_removeLast l Z a0 hw b1  T19.heap a2 1 (fun i => if i = 1 then ia2 else (fun i => if i = 0 then ia1 else (fun _ => (0 : Int32)) i) i) I19 h.size g0 ga2 (by decide)) rfl own_pd__R_I [] rfl rfl rfl rfl 0 rfl (by decide) (by decide) (by decide) (by decide) at_95 98 rfl (fun T24 L24 v24 X24 q24 => ?_)
            obtain ⟨rfl, NL24, I24, -⟩ := q24
            have N24 := Fr.app N19 NL24
            refine own_istore X24 C at_98 100 rfl #[.val (.int ia0), .val (.int ia1), .val (.int ia2), .val (.int ia3), .val (.int ia4), .val (.int ia5), .val (.int v2), .val (.ref b1), .val (.int ia2), .val (.int ia2), .unset, .unset] rfl ?_
            refine own_iload X24 C at_100 102 rfl rfl ?_
            refine own_iload X24 C at_102 104 rfl rfl ?_
            refine own_icmpne X24 C at_104 107 123 rfl (by decide) (by decide) (i := ia2.toInt) rfl (j := ia2.toInt) rfl (fun b25 => ?_) (fun b25 => ?_)
            · exfalso
              exact b25 rfl
            · refine own_aload X24 C at_107 109 rfl rfl rfl ?_
              refine own_callV X24 C (own_w hw 24 rfl) (own_w hw 25 rfl) (own_w hw 27 rfl) (own_w hw 26 rfl) (own_w hw 2 rfl) (own_w hw 28 rfl) (by decide) I24.1 (own_rm_I_size l Z a0 hw b1  T24.heap a2 1 (fun i => if i = 1 then ia2 else (fun i => if i = 0 then ia1 else (fun _ => (0 : Int32)) i) i) I24) rfl own_pd__R_I [] rfl rfl rfl rfl 0 rfl (by decide) (by decide) (by decide) (by decide) at_109 112 rfl (fun T26 L26 v26 X26 q26 => ?_)
              obtain ⟨⟨_, rfl, z26, rfl, hz26⟩, eh26, rfl⟩ := q26
              have N26 := Fr.app N24 (Fr.nil h.size)
              rw [← eh26] at I24
              refine own_iload X26 C at_112 114 rfl rfl ?_
              refine own_iconst X26 C at_114 115 rfl (1) rfl ?_
              refine own_isub X26 C at_115 116 rfl (fun v5 ev5 => ?_)
              refine own_icmpne X26 C at_116 119 123 rfl (by decide) (by decide) (i := z26.toInt) rfl (j := v5.toInt) rfl (fun b27 => ?_) (fun b27 => ?_)
              · exfalso
                have q := c_isub v2 1
                rw [← ev5] at q
                have q2 := rng32 v5
                omega
              · refine own_iconst X26 C at_119 120 rfl (1) rfl ?_
                refine own_goto X26 C at_120 124 (by decide) (by decide) ?_
                refine own_istore X26 C at_124 126 rfl #[.val (.int ia0), .val (.int ia1), .val (.int ia2), .val (.int ia3), .val (.int ia4), .val (.int ia5), .val (.int v2), .val (.ref b1), .val (.int ia2), .val (.int ia2), .val (.int (1 : Int32)), .unset] rfl ?_
                refine own_iload X26 C at_126 128 rfl rfl ?_
                refine own_iconst X26 C at_128 129 rfl (2) rfl ?_
                refine own_icmplt X26 C at_129 132 181 rfl (by decide) (by decide) (i := v2.toInt) rfl (j := 2) (by decide) (fun b28 => ?_) (fun b28 => ?_)
                · exfalso
                  omega
                · refine own_iload X26 C at_132 134 rfl rfl ?_
                  refine own_iconst X26 C at_134 135 rfl (2) rfl ?_
                  refine own_icmpne X26 C at_135 138 142 rfl (by decide) (by decide) (i := v2.toInt) rfl (j := 2) (by decide) (fun b29 => ?_) (fun b29 => ?_)
                  · exfalso
                    omega
                  · refine own_iload_n X26 C at_138 139 rfl rfl ?_
                    refine own_goto X26 C at_139 153 (by decide) (by decide) ?_
                    refine own_istore X26 C at_153 155 rfl #[.val (.int ia0), .val (.int ia1), .val (.int ia2), .val (.int ia3), .val (.int ia4), .val (.int ia5), .val (.int v2), .val (.ref b1), .val (.int ia2), .val (.int ia2), .val (.int (1 : Int32)), .val (.int ia1)] rfl ?_
                    refine own_iload X26 C at_155 157 rfl rfl ?_
                    refine own_ifeq X26 C at_157 160 178 rfl (by decide) (by decide) (i := 1) (by decide) (fun b30 => ?_) (fun b30 => ?_)
                    · exfalso
                      omega
                    · refine own_aload X26 C at_160 162 rfl rfl rfl ?_
                      refine own_iload X26 C at_162 164 rfl rfl ?_
                      refine own_iconst X26 C at_164 165 rfl (2) rfl ?_
                      refine own_isub X26 C at_165 166 rfl (fun v6 ev6 => ?_)
                      have hk : v6.toInt = 0 := by
                        have q := c_isub v2 2
                        rw [← ev6] at q
                        have q1 : (2 : Int32).toInt = 2 := by decide
                        have q2 := rng32 v6
                        omega
                      refine own_callV X26 C (own_w hw 29 rfl) (own_w hw 30 rfl) (own_w hw 32 rfl) (own_w hw 31 rfl) (own_w hw 2 rfl) (own_w hw 33 rfl) (by decide) I24.1 (own_rm_I_get l Z a0 hw b1  v6 T26.heap a2 1 (fun i => if i = 1 then ia2 else (fun i => if i = 0 then ia1 else (fun _ => (0 : Int32)) i) i) I24 0 hk (by decide)) rfl own_pd_I_R_I [(.int v6)] rfl rfl rfl rfl 0 rfl (by decide) (by decide) (by decide) (by decide) at_166 169 rfl (fun T31 L31 v31 X31 q31 => ?_)
                      obtain ⟨rfl, eh31, rfl⟩ := q31
                      have N31 := Fr.app N26 (Fr.nil h.size)
                      rw [← eh31] at I24
                      refine own_iload X31 C at_169 171 rfl rfl ?_
                      refine own_icmpne X31 C at_171 174 178 rfl (by decide) (by decide) (i := ia1.toInt) rfl (j := ia1.toInt) rfl (fun b32 => ?_) (fun b32 => ?_)
                      · exfalso
                        exact b32 rfl
                      · refine own_iconst X31 C at_174 175 rfl (1) rfl ?_
                        refine own_goto X31 C at_175 179 (by decide) (by decide) ?_
                        refine own_istore X31 C at_179 181 rfl #[.val (.int ia0), .val (.int ia1), .val (.int ia2), .val (.int ia3), .val (.int ia4), .val (.int ia5), .val (.int v2), .val (.ref b1), .val (.int ia2), .val (.int ia2), .val (.int (1 : Int32)), .val (.int ia1)] rfl ?_
                        refine own_aload X31 C at_181 183 rfl rfl rfl ?_
                        refine own_iload X31 C at_183 185 rfl rfl ?_
                        refine own_callV X31 C (own_w hw 12 rfl) (own_w hw 13 rfl) (own_w hw 15 rfl) (own_w hw 14 rfl) (own_w hw 2 rfl) (own_w hw 16 rfl) (by decide) I24.1 (own_rm_I_add l Z a0 hw b1  ia5 T31.heap a2 1 (fun i => if i = 1 then ia2 else (fun i => if i = 0 then ia1 else (fun _ => (0 : Int32)) i) i) I24 h.size g0 ga2 (by decide)) rfl own_pd_I_R_V [(.int ia5)] rfl rfl rfl rfl 0 rfl (by decide) (by decide) (by decide) (by decide) at_185 188 rfl (fun T33 L33 v33 X33 q33 => ?_)
                        obtain ⟨rfl, NL33, I33, -⟩ := q33
                        have N33 := Fr.app N31 NL33
                        refine own_aload X33 C at_188 190 rfl rfl rfl ?_
                        refine own_callV X33 C (own_w hw 19 rfl) (own_w hw 20 rfl) (own_w hw 22 rfl) (own_w hw 21 rfl) (own_w hw 2 rfl) (own_w hw 23 rfl) (by decide) I33.1 (own_rm_I_removeLast l Z a0 hw b1  T33.heap a2 1 (fun i => if i = 1 then ia5 else (fun i => if i = 1 then ia2 else (fun i => if i = 0 then ia1 else (fun _ => (0 : Int32)) i) i) i) I33 h.size g0 ga2 (by decide)) rfl own_pd__R_I [] rfl rfl rfl rfl 0 rfl (by decide) (by decide) (by decide) (by decide) at_190 193 rfl (fun T34 L34 v34 X34 q34 => ?_)
                        obtain ⟨rfl, NL34, I34, -⟩ := q34
                        have N34 := Fr.app N33 NL34
                        refine own_istore X34 C at_193 195 rfl #[.val (.int ia0), .val (.int ia1), .val (.int ia2), .val (.int ia3), .val (.int ia4), .val (.int ia5), .val (.int v2), .val (.ref b1), .val (.int ia2), .val (.int ia2), .val (.int (1 : Int32)), .val (.int ia5)] rfl ?_
                        refine own_iload X34 C at_195 197 rfl rfl ?_
                        refine own_ifeq X34 C at_197 200 223 rfl (by decide) (by decide) (i := 1) (by decide) (fun b35 => ?_) (fun b35 => ?_)
                        · exfalso
                          omega
                        · refine own_iload X34 C at_200 202 rfl rfl ?_
                          refine own_iload X34 C at_202 204 rfl rfl ?_
                          refine own_icmpne X34 C at_204 207 223 rfl (by decide) (by decide) (i := ia5.toInt) rfl (j := ia5.toInt) rfl (fun b36 => ?_) (fun b36 => ?_)
                          · exfalso
                            exact b36 rfl
                          · refine own_aload X34 C at_207 209 rfl rfl rfl ?_
                            refine own_callV X34 C (own_w hw 24 rfl) (own_w hw 25 rfl) (own_w hw 27 rfl) (own_w hw 26 rfl) (own_w hw 2 rfl) (own_w hw 28 rfl) (by decide) I34.1 (own_rm_I_size l Z a0 hw b1  T34.heap a2 1 (fun i => if i = 1 then ia5 else (fun i => if i = 1 then ia2 else (fun i => if i = 0 then ia1 else (fun _ => (0 : Int32)) i) i) i) I34) rfl own_pd__R_I [] rfl rfl rfl rfl 0 rfl (by decide) (by decide) (by decide) (by decide) at_209 212 rfl (fun T37 L37 v37 X37 q37 => ?_)
                            obtain ⟨⟨_, rfl, z37, rfl, hz37⟩, eh37, rfl⟩ := q37
                            have N37 := Fr.app N34 (Fr.nil h.size)
                            rw [← eh37] at I34
                            refine own_iload X37 C at_212 214 rfl rfl ?_
                            refine own_iconst X37 C at_214 215 rfl (1) rfl ?_
                            refine own_isub X37 C at_215 216 rfl (fun v7 ev7 => ?_)
                            refine own_icmpne X37 C at_216 219 223 rfl (by decide) (by decide) (i := z37.toInt) rfl (j := v7.toInt) rfl (fun b38 => ?_) (fun b38 => ?_)
                            · exfalso
                              have q := c_isub v2 1
                              rw [← ev7] at q
                              have q2 := rng32 v7
                              omega
                            · refine own_iconst X37 C at_219 220 rfl (1) rfl ?_
                              refine own_goto X37 C at_220 224 (by decide) (by decide) ?_
                              refine own_istore X37 C at_224 226 rfl #[.val (.int ia0), .val (.int ia1), .val (.int ia2), .val (.int ia3), .val (.int ia4), .val (.int ia5), .val (.int v2), .val (.ref b1), .val (.int ia2), .val (.int ia2), .val (.int (1 : Int32)), .val (.int ia5)] rfl ?_
                              refine own_iload X37 C at_226 228 rfl rfl ?_
                              refine own_iretN X37 C .boolean rfl (by simp) at_228 (by decide) (by decide) (1) (by decide) ?_
                              exact ⟨rfl, N37⟩
        · exfalso
          omega
      · exfalso
        omega
    · refine own_aload X19 C at_40 42 rfl rfl rfl ?_
      refine own_iload_n X19 C at_42 43 rfl rfl ?_
      refine own_callV X19 C (own_w hw 12 rfl) (own_w hw 13 rfl) (own_w hw 15 rfl) (own_w hw 14 rfl) (own_w hw 2 rfl) (own_w hw 16 rfl) (by decide) I19.1 (own_rm_I_add l Z a0 hw b1  ia3 T19.heap a2 2 (fun i => if i = 1 then ia2 else (fun i => if i = 0 then ia1 else (fun _ => (0 : Int32)) i) i) I19 h.size g0 ga2 (by decide)) rfl own_pd_I_R_V [(.int ia3)] rfl rfl rfl rfl 0 rfl (by decide) (by decide) (by decide) (by decide) at_43 46 rfl (fun T39 L39 v39 X39 q39 => ?_)
      obtain ⟨rfl, NL39, I39, -⟩ := q39
      have N39 := Fr.app N19 NL39
      refine own_iload X39 C at_46 48 rfl rfl ?_
      refine own_iconst X39 C at_48 49 rfl (4) rfl ?_
      refine own_icmplt X39 C at_49 52 59 rfl (by decide) (by decide) (i := v2.toInt) rfl (j := 4) (by decide) (fun b40 => ?_) (fun b40 => ?_)
      · refine own_iload X39 C at_59 61 rfl rfl ?_
        refine own_iconst X39 C at_61 62 rfl (1) rfl ?_
        refine own_icmpne X39 C at_62 65 69 rfl (by decide) (by decide) (i := v2.toInt) rfl (j := 1) (by decide) (fun b41 => ?_) (fun b41 => ?_)
        · refine own_iload X39 C at_69 71 rfl rfl ?_
          refine own_iconst X39 C at_71 72 rfl (2) rfl ?_
          refine own_icmpne X39 C at_72 75 79 rfl (by decide) (by decide) (i := v2.toInt) rfl (j := 2) (by decide) (fun b42 => ?_) (fun b42 => ?_)
          · refine own_iload X39 C at_79 81 rfl rfl ?_
            refine own_iconst X39 C at_81 82 rfl (3) rfl ?_
            refine own_icmpne X39 C at_82 85 89 rfl (by decide) (by decide) (i := v2.toInt) rfl (j := 3) (by decide) (fun b43 => ?_) (fun b43 => ?_)
            · exfalso
              omega
            · refine own_iload_n X39 C at_85 86 rfl rfl ?_
              refine own_goto X39 C at_86 91 (by decide) (by decide) ?_
              refine own_istore X39 C at_91 93 rfl #[.val (.int ia0), .val (.int ia1), .val (.int ia2), .val (.int ia3), .val (.int ia4), .val (.int ia5), .val (.int v2), .val (.ref b1), .val (.int ia3), .unset, .unset, .unset] rfl ?_
              refine own_aload X39 C at_93 95 rfl rfl rfl ?_
              refine own_callV X39 C (own_w hw 19 rfl) (own_w hw 20 rfl) (own_w hw 22 rfl) (own_w hw 21 rfl) (own_w hw 2 rfl) (own_w hw 23 rfl) (by decide) I39.1 (own_rm_I_removeLast l Z a0 hw b1  T39.heap a2 2 (fun i => if i = 2 then ia3 else (fun i => if i = 1 then ia2 else (fun i => if i = 0 then ia1 else (fun _ => (0 : Int32)) i) i) i) I39 h.size g0 ga2 (by decide)) rfl own_pd__R_I [] rfl rfl rfl rfl 0 rfl (by decide) (by decide) (by decide) (by decide) at_95 98 rfl (fun T44 L44 v44 X44 q44 => ?_)
              obtain ⟨rfl, NL44, I44, -⟩ := q44
              have N44 := Fr.app N39 NL44
              refine own_istore X44 C at_98 100 rfl #[.val (.int ia0), .val (.int ia1), .val (.int ia2), .val (.int ia3), .val (.int ia4), .val (.int ia5), .val (.int v2), .val (.ref b1), .val (.int ia3), .val (.int ia3), .unset, .unset] rfl ?_
              refine own_iload X44 C at_100 102 rfl rfl ?_
              refine own_iload X44 C at_102 104 rfl rfl ?_
              refine own_icmpne X44 C at_104 107 123 rfl (by decide) (by decide) (i := ia3.toInt) rfl (j := ia3.toInt) rfl (fun b45 => ?_) (fun b45 => ?_)
              · exfalso
                exact b45 rfl
              · refine own_aload X44 C at_107 109 rfl rfl rfl ?_
                refine own_callV X44 C (own_w hw 24 rfl) (own_w hw 25 rfl) (own_w hw 27 rfl) (own_w hw 26 rfl) (own_w hw 2 rfl) (own_w hw 28 rfl) (by decide) I44.1 (own_rm_I_size l Z a0 hw b1  T44.heap a2 2 (fun i => if i = 2 then ia3 else (fun i => if i = 1 then ia2 else (fun i => if i = 0 then ia1 else (fun _ => (0 : Int32)) i) i) i) I44) rfl own_pd__R_I [] rfl rfl rfl rfl 0 rfl (by decide) (by decide) (by decide) (by decide) at_109 112 rfl (fun T46 L46 v46 X46 q46 => ?_)
                obtain ⟨⟨_, rfl, z46, rfl, hz46⟩, eh46, rfl⟩ := q46
                have N46 := Fr.app N44 (Fr.nil h.size)
                rw [← eh46] at I44
                refine own_iload X46 C at_112 114 rfl rfl ?_
                refine own_iconst X46 C at_114 115 rfl (1) rfl ?_
                refine own_isub X46 C at_115 116 rfl (fun v8 ev8 => ?_)
                refine own_icmpne X46 C at_116 119 123 rfl (by decide) (by decide) (i := z46.toInt) rfl (j := v8.toInt) rfl (fun b47 => ?_) (fun b47 => ?_)
                · exfalso
                  have q := c_isub v2 1
                  rw [← ev8] at q
                  have q2 := rng32 v8
                  omega
                · refine own_iconst X46 C at_119 120 rfl (1) rfl ?_
                  refine own_goto X46 C at_120 124 (by decide) (by decide) ?_
                  refine own_istore X46 C at_124 126 rfl #[.val (.int ia0), .val (.int ia1), .val (.int ia2), .val (.int ia3), .val (.int ia4), .val (.int ia5), .val (.int v2), .val (.ref b1), .val (.int ia3), .val (.int ia3), .val (.int (1 : Int32)), .unset] rfl ?_
                  refine own_iload X46 C at_126 128 rfl rfl ?_
                  refine own_iconst X46 C at_128 129 rfl (2) rfl ?_
                  refine own_icmplt X46 C at_129 132 181 rfl (by decide) (by decide) (i := v2.toInt) rfl (j := 2) (by decide) (fun b48 => ?_) (fun b48 => ?_)
                  · exfalso
                    omega
                  · refine own_iload X46 C at_132 134 rfl rfl ?_
                    refine own_iconst X46 C at_134 135 rfl (2) rfl ?_
                    refine own_icmpne X46 C at_135 138 142 rfl (by decide) (by decide) (i := v2.toInt) rfl (j := 2) (by decide) (fun b49 => ?_) (fun b49 => ?_)
                    · refine own_iload X46 C at_142 144 rfl rfl ?_
                      refine own_iconst X46 C at_144 145 rfl (3) rfl ?_
                      refine own_icmpne X46 C at_145 148 152 rfl (by decide) (by decide) (i := v2.toInt) rfl (j := 3) (by decide) (fun b50 => ?_) (fun b50 => ?_)
                      · exfalso
                        omega
                      · refine own_iload_n X46 C at_148 149 rfl rfl ?_
                        refine own_goto X46 C at_149 153 (by decide) (by decide) ?_
                        refine own_istore X46 C at_153 155 rfl #[.val (.int ia0), .val (.int ia1), .val (.int ia2), .val (.int ia3), .val (.int ia4), .val (.int ia5), .val (.int v2), .val (.ref b1), .val (.int ia3), .val (.int ia3), .val (.int (1 : Int32)), .val (.int ia2)] rfl ?_
                        refine own_iload X46 C at_155 157 rfl rfl ?_
                        refine own_ifeq X46 C at_157 160 178 rfl (by decide) (by decide) (i := 1) (by decide) (fun b51 => ?_) (fun b51 => ?_)
                        · exfalso
                          omega
                        · refine own_aload X46 C at_160 162 rfl rfl rfl ?_
                          refine own_iload X46 C at_162 164 rfl rfl ?_
                          refine own_iconst X46 C at_164 165 rfl (2) rfl ?_
                          refine own_isub X46 C at_165 166 rfl (fun v9 ev9 => ?_)
                          have hk : v9.toInt = 1 := by
                            have q := c_isub v2 2
                            rw [← ev9] at q
                            have q1 : (2 : Int32).toInt = 2 := by decide
                            have q2 := rng32 v9
                            omega
                          refine own_callV X46 C (own_w hw 29 rfl) (own_w hw 30 rfl) (own_w hw 32 rfl) (own_w hw 31 rfl) (own_w hw 2 rfl) (own_w hw 33 rfl) (by decide) I44.1 (own_rm_I_get l Z a0 hw b1  v9 T46.heap a2 2 (fun i => if i = 2 then ia3 else (fun i => if i = 1 then ia2 else (fun i => if i = 0 then ia1 else (fun _ => (0 : Int32)) i) i) i) I44 1 hk (by decide)) rfl own_pd_I_R_I [(.int v9)] rfl rfl rfl rfl 0 rfl (by decide) (by decide) (by decide) (by decide) at_166 169 rfl (fun T52 L52 v52 X52 q52 => ?_)
                          obtain ⟨rfl, eh52, rfl⟩ := q52
                          have N52 := Fr.app N46 (Fr.nil h.size)
                          rw [← eh52] at I44
                          refine own_iload X52 C at_169 171 rfl rfl ?_
                          refine own_icmpne X52 C at_171 174 178 rfl (by decide) (by decide) (i := ia2.toInt) rfl (j := ia2.toInt) rfl (fun b53 => ?_) (fun b53 => ?_)
                          · exfalso
                            exact b53 rfl
                          · refine own_iconst X52 C at_174 175 rfl (1) rfl ?_
                            refine own_goto X52 C at_175 179 (by decide) (by decide) ?_
                            refine own_istore X52 C at_179 181 rfl #[.val (.int ia0), .val (.int ia1), .val (.int ia2), .val (.int ia3), .val (.int ia4), .val (.int ia5), .val (.int v2), .val (.ref b1), .val (.int ia3), .val (.int ia3), .val (.int (1 : Int32)), .val (.int ia2)] rfl ?_
                            refine own_aload X52 C at_181 183 rfl rfl rfl ?_
                            refine own_iload X52 C at_183 185 rfl rfl ?_
                            refine own_callV X52 C (own_w hw 12 rfl) (own_w hw 13 rfl) (own_w hw 15 rfl) (own_w hw 14 rfl) (own_w hw 2 rfl) (own_w hw 16 rfl) (by decide) I44.1 (own_rm_I_add l Z a0 hw b1  ia5 T52.heap a2 2 (fun i => if i = 2 then ia3 else (fun i => if i = 1 then ia2 else (fun i => if i = 0 then ia1 else (fun _ => (0 : Int32)) i) i) i) I44 h.size g0 ga2 (by decide)) rfl own_pd_I_R_V [(.int ia5)] rfl rfl rfl rfl 0 rfl (by decide) (by decide) (by decide) (by decide) at_185 188 rfl (fun T54 L54 v54 X54 q54 => ?_)
                            obtain ⟨rfl, NL54, I54, -⟩ := q54
                            have N54 := Fr.app N52 NL54
                            refine own_aload X54 C at_188 190 rfl rfl rfl ?_
                            refine own_callV X54 C (own_w hw 19 rfl) (own_w hw 20 rfl) (own_w hw 22 rfl) (own_w hw 21 rfl) (own_w hw 2 rfl) (own_w hw 23 rfl) (by decide) I54.1 (own_rm_I_removeLast l Z a0 hw b1  T54.heap a2 2 (fun i => if i = 2 then ia5 else (fun i => if i = 2 then ia3 else (fun i => if i = 1 then ia2 else (fun i => if i = 0 then ia1 else (fun _ => (0 : Int32)) i) i) i) i) I54 h.size g0 ga2 (by decide)) rfl own_pd__R_I [] rfl rfl rfl rfl 0 rfl (by decide) (by decide) (by decide) (by decide) at_190 193 rfl (fun T55 L55 v55 X55 q55 => ?_)
                            obtain ⟨rfl, NL55, I55, -⟩ := q55
                            have N55 := Fr.app N54 NL55
                            refine own_istore X55 C at_193 195 rfl #[.val (.int ia0), .val (.int ia1), .val (.int ia2), .val (.int ia3), .val (.int ia4), .val (.int ia5), .val (.int v2), .val (.ref b1), .val (.int ia3), .val (.int ia3), .val (.int (1 : Int32)), .val (.int ia5)] rfl ?_
                            refine own_iload X55 C at_195 197 rfl rfl ?_
                            refine own_ifeq X55 C at_197 200 223 rfl (by decide) (by decide) (i := 1) (by decide) (fun b56 => ?_) (fun b56 => ?_)
                            · exfalso
                              omega
                            · refine own_iload X55 C at_200 202 rfl rfl ?_
                              refine own_iload X55 C at_202 204 rfl rfl ?_
                              refine own_icmpne X55 C at_204 207 223 rfl (by decide) (by decide) (i := ia5.toInt) rfl (j := ia5.toInt) rfl (fun b57 => ?_) (fun b57 => ?_)
                              · exfalso
                                exact b57 rfl
                              · refine own_aload X55 C at_207 209 rfl rfl rfl ?_
                                refine own_callV X55 C (own_w hw 24 rfl) (own_w hw 25 rfl) (own_w hw 27 rfl) (own_w hw 26 rfl) (own_w hw 2 rfl) (own_w hw 28 rfl) (by decide) I55.1 (own_rm_I_size l Z a0 hw b1  T55.heap a2 2 (fun i => if i = 2 then ia5 else (fun i => if i = 2 then ia3 else (fun i => if i = 1 then ia2 else (fun i => if i = 0 then ia1 else (fun _ => (0 : Int32)) i) i) i) i) I55) rfl own_pd__R_I [] rfl rfl rfl rfl 0 rfl (by decide) (by decide) (by decide) (by decide) at_209 212 rfl (fun T58 L58 v58 X58 q58 => ?_)
                                obtain ⟨⟨_, rfl, z58, rfl, hz58⟩, eh58, rfl⟩ := q58
                                have N58 := Fr.app N55 (Fr.nil h.size)
                                rw [← eh58] at I55
                                refine own_iload X58 C at_212 214 rfl rfl ?_
                                refine own_iconst X58 C at_214 215 rfl (1) rfl ?_
                                refine own_isub X58 C at_215 216 rfl (fun v10 ev10 => ?_)
                                refine own_icmpne X58 C at_216 219 223 rfl (by decide) (by decide) (i := z58.toInt) rfl (j := v10.toInt) rfl (fun b59 => ?_) (fun b59 => ?_)
                                · exfalso
                                  have q := c_isub v2 1
                                  rw [← ev10] at q
                                  have q2 := rng32 v10
                                  omega
                                · refine own_iconst X58 C at_219 220 rfl (1) rfl ?_
                                  refine own_goto X58 C at_220 224 (by decide) (by decide) ?_
                                  refine own_istore X58 C at_224 226 rfl #[.val (.int ia0), .val (.int ia1), .val (.int ia2), .val (.int ia3), .val (.int ia4), .val (.int ia5), .val (.int v2), .val (.ref b1), .val (.int ia3), .val (.int ia3), .val (.int (1 : Int32)), .val (.int ia5)] rfl ?_
                                  refine own_iload X58 C at_226 228 rfl rfl ?_
                                  refine own_iretN X58 C .boolean rfl (by simp) at_228 (by decide) (by decide) (1) (by decide) ?_
                                  exact ⟨rfl, N58⟩
                    · exfalso
                      omega
          · exfalso
            omega
        · exfalso
          omega
      · refine own_aload X39 C at_52 54 rfl rfl rfl ?_
        refine own_iload X39 C at_54 56 rfl rfl ?_
        refine own_callV X39 C (own_w hw 12 rfl) (own_w hw 13 rfl) (own_w hw 15 rfl) (own_w hw 14 rfl) (own_w hw 2 rfl) (own_w hw 16 rfl) (by decide) I39.1 (own_rm_I_add l Z a0 hw b1  ia4 T39.heap a2 3 (fun i => if i = 2 then ia3 else (fun i => if i = 1 then ia2 else (fun i => if i = 0 then ia1 else (fun _ => (0 : Int32)) i) i) i) I39 h.size g0 ga2 (by decide)) rfl own_pd_I_R_V [(.int ia4)] rfl rfl rfl rfl 0 rfl (by decide) (by decide) (by decide) (by decide) at_56 59 rfl (fun T60 L60 v60 X60 q60 => ?_)
        obtain ⟨rfl, NL60, I60, -⟩ := q60
        have N60 := Fr.app N39 NL60
        refine own_iload X60 C at_59 61 rfl rfl ?_
        refine own_iconst X60 C at_61 62 rfl (1) rfl ?_
        refine own_icmpne X60 C at_62 65 69 rfl (by decide) (by decide) (i := v2.toInt) rfl (j := 1) (by decide) (fun b61 => ?_) (fun b61 => ?_)
        · refine own_iload X60 C at_69 71 rfl rfl ?_
          refine own_iconst X60 C at_71 72 rfl (2) rfl ?_
          refine own_icmpne X60 C at_72 75 79 rfl (by decide) (by decide) (i := v2.toInt) rfl (j := 2) (by decide) (fun b62 => ?_) (fun b62 => ?_)
          · refine own_iload X60 C at_79 81 rfl rfl ?_
            refine own_iconst X60 C at_81 82 rfl (3) rfl ?_
            refine own_icmpne X60 C at_82 85 89 rfl (by decide) (by decide) (i := v2.toInt) rfl (j := 3) (by decide) (fun b63 => ?_) (fun b63 => ?_)
            · refine own_iload X60 C at_89 91 rfl rfl ?_
              refine own_istore X60 C at_91 93 rfl #[.val (.int ia0), .val (.int ia1), .val (.int ia2), .val (.int ia3), .val (.int ia4), .val (.int ia5), .val (.int v2), .val (.ref b1), .val (.int ia4), .unset, .unset, .unset] rfl ?_
              refine own_aload X60 C at_93 95 rfl rfl rfl ?_
              refine own_callV X60 C (own_w hw 19 rfl) (own_w hw 20 rfl) (own_w hw 22 rfl) (own_w hw 21 rfl) (own_w hw 2 rfl) (own_w hw 23 rfl) (by decide) I60.1 (own_rm_I_removeLast l Z a0 hw b1  T60.heap a2 3 (fun i => if i = 3 then ia4 else (fun i => if i = 2 then ia3 else (fun i => if i = 1 then ia2 else (fun i => if i = 0 then ia1 else (fun _ => (0 : Int32)) i) i) i) i) I60 h.size g0 ga2 (by decide)) rfl own_pd__R_I [] rfl rfl rfl rfl 0 rfl (by decide) (by decide) (by decide) (by decide) at_95 98 rfl (fun T64 L64 v64 X64 q64 => ?_)
              obtain ⟨rfl, NL64, I64, -⟩ := q64
              have N64 := Fr.app N60 NL64
              refine own_istore X64 C at_98 100 rfl #[.val (.int ia0), .val (.int ia1), .val (.int ia2), .val (.int ia3), .val (.int ia4), .val (.int ia5), .val (.int v2), .val (.ref b1), .val (.int ia4), .val (.int ia4), .unset, .unset] rfl ?_
              refine own_iload X64 C at_100 102 rfl rfl ?_
              refine own_iload X64 C at_102 104 rfl rfl ?_
              refine own_icmpne X64 C at_104 107 123 rfl (by decide) (by decide) (i := ia4.toInt) rfl (j := ia4.toInt) rfl (fun b65 => ?_) (fun b65 => ?_)
              · exfalso
                exact b65 rfl
              · refine own_aload X64 C at_107 109 rfl rfl rfl ?_
                refine own_callV X64 C (own_w hw 24 rfl) (own_w hw 25 rfl) (own_w hw 27 rfl) (own_w hw 26 rfl) (own_w hw 2 rfl) (own_w hw 28 rfl) (by decide) I64.1 (own_rm_I_size l Z a0 hw b1  T64.heap a2 3 (fun i => if i = 3 then ia4 else (fun i => if i = 2 then ia3 else (fun i => if i = 1 then ia2 else (fun i => if i = 0 then ia1 else (fun _ => (0 : Int32)) i) i) i) i) I64) rfl own_pd__R_I [] rfl rfl rfl rfl 0 rfl (by decide) (by decide) (by decide) (by decide) at_109 112 rfl (fun T66 L66 v66 X66 q66 => ?_)
                obtain ⟨⟨_, rfl, z66, rfl, hz66⟩, eh66, rfl⟩ := q66
                have N66 := Fr.app N64 (Fr.nil h.size)
                rw [← eh66] at I64
                refine own_iload X66 C at_112 114 rfl rfl ?_
                refine own_iconst X66 C at_114 115 rfl (1) rfl ?_
                refine own_isub X66 C at_115 116 rfl (fun v11 ev11 => ?_)
                refine own_icmpne X66 C at_116 119 123 rfl (by decide) (by decide) (i := z66.toInt) rfl (j := v11.toInt) rfl (fun b67 => ?_) (fun b67 => ?_)
                · exfalso
                  have q := c_isub v2 1
                  rw [← ev11] at q
                  have q2 := rng32 v11
                  omega
                · refine own_iconst X66 C at_119 120 rfl (1) rfl ?_
                  refine own_goto X66 C at_120 124 (by decide) (by decide) ?_
                  refine own_istore X66 C at_124 126 rfl #[.val (.int ia0), .val (.int ia1), .val (.int ia2), .val (.int ia3), .val (.int ia4), .val (.int ia5), .val (.int v2), .val (.ref b1), .val (.int ia4), .val (.int ia4), .val (.int (1 : Int32)), .unset] rfl ?_
                  refine own_iload X66 C at_126 128 rfl rfl ?_
                  refine own_iconst X66 C at_128 129 rfl (2) rfl ?_
                  refine own_icmplt X66 C at_129 132 181 rfl (by decide) (by decide) (i := v2.toInt) rfl (j := 2) (by decide) (fun b68 => ?_) (fun b68 => ?_)
                  · exfalso
                    omega
                  · refine own_iload X66 C at_132 134 rfl rfl ?_
                    refine own_iconst X66 C at_134 135 rfl (2) rfl ?_
                    refine own_icmpne X66 C at_135 138 142 rfl (by decide) (by decide) (i := v2.toInt) rfl (j := 2) (by decide) (fun b69 => ?_) (fun b69 => ?_)
                    · refine own_iload X66 C at_142 144 rfl rfl ?_
                      refine own_iconst X66 C at_144 145 rfl (3) rfl ?_
                      refine own_icmpne X66 C at_145 148 152 rfl (by decide) (by decide) (i := v2.toInt) rfl (j := 3) (by decide) (fun b70 => ?_) (fun b70 => ?_)
                      · refine own_iload_n X66 C at_152 153 rfl rfl ?_
                        refine own_istore X66 C at_153 155 rfl #[.val (.int ia0), .val (.int ia1), .val (.int ia2), .val (.int ia3), .val (.int ia4), .val (.int ia5), .val (.int v2), .val (.ref b1), .val (.int ia4), .val (.int ia4), .val (.int (1 : Int32)), .val (.int ia3)] rfl ?_
                        refine own_iload X66 C at_155 157 rfl rfl ?_
                        refine own_ifeq X66 C at_157 160 178 rfl (by decide) (by decide) (i := 1) (by decide) (fun b71 => ?_) (fun b71 => ?_)
                        · exfalso
                          omega
                        · refine own_aload X66 C at_160 162 rfl rfl rfl ?_
                          refine own_iload X66 C at_162 164 rfl rfl ?_
                          refine own_iconst X66 C at_164 165 rfl (2) rfl ?_
                          refine own_isub X66 C at_165 166 rfl (fun v12 ev12 => ?_)
                          have hk : v12.toInt = 2 := by
                            have q := c_isub v2 2
                            rw [← ev12] at q
                            have q1 : (2 : Int32).toInt = 2 := by decide
                            have q2 := rng32 v12
                            omega
                          refine own_callV X66 C (own_w hw 29 rfl) (own_w hw 30 rfl) (own_w hw 32 rfl) (own_w hw 31 rfl) (own_w hw 2 rfl) (own_w hw 33 rfl) (by decide) I64.1 (own_rm_I_get l Z a0 hw b1  v12 T66.heap a2 3 (fun i => if i = 3 then ia4 else (fun i => if i = 2 then ia3 else (fun i => if i = 1 then ia2 else (fun i => if i = 0 then ia1 else (fun _ => (0 : Int32)) i) i) i) i) I64 2 hk (by decide)) rfl own_pd_I_R_I [(.int v12)] rfl rfl rfl rfl 0 rfl (by decide) (by decide) (by decide) (by decide) at_166 169 rfl (fun T72 L72 v72 X72 q72 => ?_)
                          obtain ⟨rfl, eh72, rfl⟩ := q72
                          have N72 := Fr.app N66 (Fr.nil h.size)
                          rw [← eh72] at I64
                          refine own_iload X72 C at_169 171 rfl rfl ?_
                          refine own_icmpne X72 C at_171 174 178 rfl (by decide) (by decide) (i := ia3.toInt) rfl (j := ia3.toInt) rfl (fun b73 => ?_) (fun b73 => ?_)
                          · exfalso
                            exact b73 rfl
                          · refine own_iconst X72 C at_174 175 rfl (1) rfl ?_
                            refine own_goto X72 C at_175 179 (by decide) (by decide) ?_
                            refine own_istore X72 C at_179 181 rfl #[.val (.int ia0), .val (.int ia1), .val (.int ia2), .val (.int ia3), .val (.int ia4), .val (.int ia5), .val (.int v2), .val (.ref b1), .val (.int ia4), .val (.int ia4), .val (.int (1 : Int32)), .val (.int ia3)] rfl ?_
                            refine own_aload X72 C at_181 183 rfl rfl rfl ?_
                            refine own_iload X72 C at_183 185 rfl rfl ?_
                            refine own_callV X72 C (own_w hw 12 rfl) (own_w hw 13 rfl) (own_w hw 15 rfl) (own_w hw 14 rfl) (own_w hw 2 rfl) (own_w hw 16 rfl) (by decide) I64.1 (own_rm_I_add l Z a0 hw b1  ia5 T72.heap a2 3 (fun i => if i = 3 then ia4 else (fun i => if i = 2 then ia3 else (fun i => if i = 1 then ia2 else (fun i => if i = 0 then ia1 else (fun _ => (0 : Int32)) i) i) i) i) I64 h.size g0 ga2 (by decide)) rfl own_pd_I_R_V [(.int ia5)] rfl rfl rfl rfl 0 rfl (by decide) (by decide) (by decide) (by decide) at_185 188 rfl (fun T74 L74 v74 X74 q74 => ?_)
                            obtain ⟨rfl, NL74, I74, -⟩ := q74
                            have N74 := Fr.app N72 NL74
                            refine own_aload X74 C at_188 190 rfl rfl rfl ?_
                            refine own_callV X74 C (own_w hw 19 rfl) (own_w hw 20 rfl) (own_w hw 22 rfl) (own_w hw 21 rfl) (own_w hw 2 rfl) (own_w hw 23 rfl) (by decide) I74.1 (own_rm_I_removeLast l Z a0 hw b1  T74.heap a2 3 (fun i => if i = 3 then ia5 else (fun i => if i = 3 then ia4 else (fun i => if i = 2 then ia3 else (fun i => if i = 1 then ia2 else (fun i => if i = 0 then ia1 else (fun _ => (0 : Int32)) i) i) i) i) i) I74 h.size g0 ga2 (by decide)) rfl own_pd__R_I [] rfl rfl rfl rfl 0 rfl (by decide) (by decide) (by decide) (by decide) at_190 193 rfl (fun T75 L75 v75 X75 q75 => ?_)
                            obtain ⟨rfl, NL75, I75, -⟩ := q75
                            have N75 := Fr.app N74 NL75
                            refine own_istore X75 C at_193 195 rfl #[.val (.int ia0), .val (.int ia1), .val (.int ia2), .val (.int ia3), .val (.int ia4), .val (.int ia5), .val (.int v2), .val (.ref b1), .val (.int ia4), .val (.int ia4), .val (.int (1 : Int32)), .val (.int ia5)] rfl ?_
                            refine own_iload X75 C at_195 197 rfl rfl ?_
                            refine own_ifeq X75 C at_197 200 223 rfl (by decide) (by decide) (i := 1) (by decide) (fun b76 => ?_) (fun b76 => ?_)
                            · exfalso
                              omega
                            · refine own_iload X75 C at_200 202 rfl rfl ?_
                              refine own_iload X75 C at_202 204 rfl rfl ?_
                              refine own_icmpne X75 C at_204 207 223 rfl (by decide) (by decide) (i := ia5.toInt) rfl (j := ia5.toInt) rfl (fun b77 => ?_) (fun b77 => ?_)
                              · exfalso
                                exact b77 rfl
                              · refine own_aload X75 C at_207 209 rfl rfl rfl ?_
                                refine own_callV X75 C (own_w hw 24 rfl) (own_w hw 25 rfl) (own_w hw 27 rfl) (own_w hw 26 rfl) (own_w hw 2 rfl) (own_w hw 28 rfl) (by decide) I75.1 (own_rm_I_size l Z a0 hw b1  T75.heap a2 3 (fun i => if i = 3 then ia5 else (fun i => if i = 3 then ia4 else (fun i => if i = 2 then ia3 else (fun i => if i = 1 then ia2 else (fun i => if i = 0 then ia1 else (fun _ => (0 : Int32)) i) i) i) i) i) I75) rfl own_pd__R_I [] rfl rfl rfl rfl 0 rfl (by decide) (by decide) (by decide) (by decide) at_209 212 rfl (fun T78 L78 v78 X78 q78 => ?_)
                                obtain ⟨⟨_, rfl, z78, rfl, hz78⟩, eh78, rfl⟩ := q78
                                have N78 := Fr.app N75 (Fr.nil h.size)
                                rw [← eh78] at I75
                                refine own_iload X78 C at_212 214 rfl rfl ?_
                                refine own_iconst X78 C at_214 215 rfl (1) rfl ?_
                                refine own_isub X78 C at_215 216 rfl (fun v13 ev13 => ?_)
                                refine own_icmpne X78 C at_216 219 223 rfl (by decide) (by decide) (i := z78.toInt) rfl (j := v13.toInt) rfl (fun b79 => ?_) (fun b79 => ?_)
                                · exfalso
                                  have q := c_isub v2 1
                                  rw [← ev13] at q
                                  have q2 := rng32 v13
                                  omega
                                · refine own_iconst X78 C at_219 220 rfl (1) rfl ?_
                                  refine own_goto X78 C at_220 224 (by decide) (by decide) ?_
                                  refine own_istore X78 C at_224 226 rfl #[.val (.int ia0), .val (.int ia1), .val (.int ia2), .val (.int ia3), .val (.int ia4), .val (.int ia5), .val (.int v2), .val (.ref b1), .val (.int ia4), .val (.int ia4), .val (.int (1 : Int32)), .val (.int ia5)] rfl ?_
                                  refine own_iload X78 C at_226 228 rfl rfl ?_
                                  refine own_iretN X78 C .boolean rfl (by simp) at_228 (by decide) (by decide) (1) (by decide) ?_
                                  exact ⟨rfl, N78⟩
                      · exfalso
                        omega
                    · exfalso
                      omega
            · exfalso
              omega
          · exfalso
            omega
        · exfalso
          omega
set_option maxRecDepth 65536 in
set_option maxHeartbeats 4000000 in
theorem own_comes_1 {Post : Tables → Env → Array Value → State → Outcome → State → Prop} (hpost : ∀ tb e args s v u, (limb_1_1.after args s (.returned v) u = true ∧ limb_1_2.after args s (.returned v) u = true ∧ True) → FrameEnd s (.returned v) u (Jvm.fieldLocs frame_1_writes args s ++ Jvm.arrayLocs frame_1_arrays args s ++ Jvm.staticLocs frame_1_statics s) 16 128 → Post tb e args s (.returned v) u) :
    ArmFor flags0 classFile x code maxLocals ret World_1 tables_1 room_1 Calls_1 rest_1 Pre_1 Post := by
  intro l hfl _ _ p e ha hc hk s m args below hf hA hF happ hP
  obtain ⟨hcalls, hrest, hpre⟩ := hP
  obtain ⟨-, -, -, hnamed, -, -, -, hat⟩ := (Spec.applies_iff hf).mp happ
  obtain ⟨hg, hn⟩ := and_e (Cond.before_iff.mp (show (Jvm.Cond.and given_1 narrow_1).before args s = true from hpre))
  obtain ⟨g0, g0r⟩ := and_e hg
  obtain ⟨g1, g1r⟩ := and_e g0r
  obtain ⟨g2, g2r⟩ := and_e g1r
  obtain ⟨g3, g3r⟩ := and_e g2r
  obtain ⟨g4, g4r⟩ := and_e g3r
  obtain ⟨g5, g5r⟩ := and_e g4r
  obtain ⟨w0, w1, w2, w3, w4, w5, rfl⟩ : ∃ w0 w1 w2 w3 w4 w5 : Value, args = #[w0, w1, w2, w3, w4, w5] := by
    have hs : args.size = 6 := by simpa [Cond.value, given_1] using g0
    obtain ⟨L⟩ := args
    match L, hs with
    | [w0, w1, w2, w3, w4, w5], _ => exact ⟨w0, w1, w2, w3, w4, w5, rfl⟩
  have hw := fun d (hd : d ∈ tables_1) => atoms_spec (ws := Jvm.Cond.code x code maxLocals ret :: tables_1) hat d (List.mem_cons_of_mem _ hd)
  have hfit : Fit s := fun {y c} hc i hi => by
    obtain ⟨ha, rfl⟩ := Array.getElem?_eq_some_iff.mp hc
    have q := List.all_eq_true.mp ((Array.all_eq_true_iff_forall_mem.mp hF) _ (Array.getElem_mem ha)) i (List.mem_range.mpr hi)
    simpa [Array.getElem?_eq_getElem hi] using q
  obtain ⟨i0, q0⟩ := is_v g1
  obtain rfl : w0 = (.int i0) := Option.some.inj q0
  obtain ⟨i1, q1⟩ := is_v g2
  obtain rfl : w1 = (.int i1) := Option.some.inj q1
  obtain ⟨i2, q2⟩ := is_v g3
  obtain rfl : w2 = (.int i2) := Option.some.inj q2
  obtain ⟨i3, q3⟩ := is_v g4
  obtain rfl : w3 = (.int i3) := Option.some.inj q3
  obtain ⟨i4, q4⟩ := is_v g5
  obtain rfl : w4 = (.int i4) := Option.some.inj q4
  obtain ⟨i5, q5⟩ := is_v g5r
  obtain rfl : w5 = (.int i5) := Option.some.inj q5
  obtain ⟨n, o, h1, h2, h3, _, L, rfl, ⟨rfl, N⟩, hq⟩ := own_rm_law l s _ hw i0 i1 i2 i3 i4 i5 s.heap p e ha hc hk s m _ below hf ((Spec.applies_iff_loose hf).mp happ).1 ⟨rfl, State.Warmed39.refl s, rfl⟩ trivial
  refine ⟨n, _, h1, h2, h3, hpost _ _ _ _ _ _ ⟨Cond.after_iff.mpr rfl, Cond.after_iff.mpr (eq_i res_at (Term.int_eval (1)) rfl), trivial⟩ ⟨hq.1, hq.2.1, (hq.2.2.sift fun y hy => Or.inr (N y hy)).mono (by decide) (by decide)⟩⟩
theorem main_1_1 : Claimed_1_1 := own_comes_1 fun _ _ _ _ _ _ h hF => ⟨h.1, hF⟩
theorem main_1_2 : Claimed_1_2 := own_comes_1 fun _ _ _ _ _ _ h hF => ⟨h.2.1, hF⟩
end Jvm.Pilot.@@N@@
namespace Jvm.Pilot.@@N@@
open Jvm Jvm.ClassFile Sem Op Lib Jvm.Free Jvm.Stand Jvm.Pilot.@@N@@.Jvm.D
/-! MADE BY PROGRAM (witnessworld.py) out of the Statement's table words and the real class files: 9 classes; the members and pool entries that the words name. The judged class is class 1, her method 1. -/
namespace start1
open Jvm.ClassFile
def u (s : String) : CpInfo := .utf8 (stringToUtf16 s)
/-- a pool by its gaps: so many unusable entries, then the entry; so many at the end -/
def gap : Nat → List CpInfo → List CpInfo
  | 0, r => r
  | n + 1, r => .unusable :: gap n r
def poolList (es : List (Nat × CpInfo)) (last : Nat) : List CpInfo := es.foldr (fun e r => gap e.1 (e.2 :: r)) (gap last [])
def pool (es : List (Nat × CpInfo)) (last : Nat) : Array CpInfo := ⟨poolList es last⟩
def fileOf (pool : Array CpInfo) (this : Nat) (attrs : Array Attribute := #[]) (ms : Array MethodInfo := #[]) (fl : Nat := 33) (sup : Nat := 0) (ifs : Array Nat := #[]) (fds : Array FieldInfo := #[]) : ClassFile where
  minorVersion := 0
  majorVersion := 65
  constantPool := pool
  accessFlags := fl
  thisClass := this
  superClass := sup
  interfaces := ifs
  fields := fds
  methods := ms
  attributes := attrs
def plain (name : String) (sup : Option ClassId) : Class where
  name := name
  kind := .ordinary
  loader := none
  accessFlags := 33
  super := sup
  interfaces := #[]
  cf := none
  fields := #[]
  methods := #[]
  instanceTypes := #[]
  staticTypes := #[]
  resolved := #[]
  callSites := []
  init := .initialized
  statics := none
  mirror := none

def pool0 : Array CpInfo := pool [(5, u "<init>"), (0, u "()V"), (1, .class_ 10), (1, u "java/lang/Object")] 113

def k0c0 : Code := { maxStack := 0, maxLocals := 1, code := object_method_1_code, exceptionTable := #[], attributes := #[] }
def k0m0 : Method := { name := "<init>", desc := "()V", sig := { parameters := [], returnType := none }, accessFlags := 1, code := some k0c0 }
/-- java/lang/Object -/
def k0 : Class := { plain "java/lang/Object" none with
  accessFlags := 33
  interfaces := #[]
  cf := some (fileOf pool0 8 #[] #[{ accessFlags := 1, nameIndex := 5, descriptorIndex := 6, attributes := #[] }] 33 0 #[] #[])
  fields := #[]
  methods := #[k0m0]
  instanceTypes := #[]
  staticTypes := #[]
  resolved := Array.replicate 124 none
  statics := none }

def pool1 : Array CpInfo := pool [(2, .class_ 4), (0, .nameAndType 5 6), (0, u "java/lang/Object"), (0, u "<init>"), (0, u "()V"), (0, .class_ 8), (0, u "com/example/subsumer/subsumer/Ints"), (0, .methodref 7 3), (0, .methodref 7 11), (0, .nameAndType 12 13), (0, u "add"), (0, u "(I)V"), (0, .methodref 7 15), (0, .nameAndType 16 17), (0, u "removeLast"), (0, u "()I"), (0, .methodref 7 19), (0, .nameAndType 20 17), (0, u "size"), (0, .methodref 7 22), (0, .nameAndType 23 24), (0, u "get"), (0, u "(I)I"), (0, .class_ 26), (0, u "com/example/subsumer/subsumer/IntsRemoveLastPinLaw"), (2, u "law"), (0, u "(IIIIII)Z")] 3

def k1m0 : Method := { name := "<init>", desc := "()V", sig := { parameters := [], returnType := none }, accessFlags := 2, code := none }
def k1c1 : Code := { maxStack := 3, maxLocals := 12, code := code, exceptionTable := #[], attributes := #[] }
def k1m1 : Method := { name := "law", desc := "(IIIIII)Z", sig := { parameters := [.int, .int, .int, .int, .int, .int], returnType := some .boolean }, accessFlags := 9, code := some k1c1 }
/-- com/example/subsumer/subsumer/IntsRemoveLastPinLaw -/
def k1 : Class := { plain "com/example/subsumer/subsumer/IntsRemoveLastPinLaw" (some 0) with
  accessFlags := 49
  interfaces := #[]
  cf := some (fileOf pool1 25 #[] #[{ accessFlags := 2, nameIndex := 5, descriptorIndex := 6, attributes := #[] }, { accessFlags := 9, nameIndex := 29, descriptorIndex := 30, attributes := #[] }] 49 2 #[] #[])
  fields := #[]
  methods := #[k1m0, k1m1]
  instanceTypes := #[]
  staticTypes := #[]
  resolved := Array.replicate 34 none
  statics := none }

def pool2 : Array CpInfo := pool [(1, .methodref 2 3), (0, .class_ 4), (0, .nameAndType 5 6), (0, u "java/lang/Object"), (0, u "<init>"), (0, u "()V"), (0, .fieldref 8 9), (0, .class_ 10), (0, .nameAndType 11 12), (0, u "com/example/subsumer/subsumer/Ints"), (0, u "values"), (0, u "[I"), (0, .fieldref 8 14), (0, .nameAndType 15 16), (0, u "size"), (0, u "I"), (8, u "()I"), (0, u "get"), (0, u "(I)I"), (2, u "add"), (0, u "(I)V"), (1, u "removeLast")] 3

def k2c0 : Code := { maxStack := 2, maxLocals := 1, code := prog_35_method_1_code, exceptionTable := #[], attributes := #[] }
def k2m0 : Method := { name := "<init>", desc := "()V", sig := { parameters := [], returnType := none }, accessFlags := 0, code := some k2c0 }
def k2c1 : Code := { maxStack := 1, maxLocals := 1, code := prog_35_method_2_code, exceptionTable := #[], attributes := #[] }
def k2m1 : Method := { name := "size", desc := "()I", sig := { parameters := [], returnType := some .int }, accessFlags := 0, code := some k2c1 }
def k2c2 : Code := { maxStack := 2, maxLocals := 2, code := prog_35_method_3_code, exceptionTable := #[], attributes := #[] }
def k2m2 : Method := { name := "get", desc := "(I)I", sig := { parameters := [.int], returnType := some .int }, accessFlags := 0, code := some k2c2 }
def k2c3 : Code := { maxStack := 5, maxLocals := 2, code := prog_35_method_5_code, exceptionTable := #[], attributes := #[] }
def k2m3 : Method := { name := "add", desc := "(I)V", sig := { parameters := [.int], returnType := none }, accessFlags := 0, code := some k2c3 }
def k2c4 : Code := { maxStack := 4, maxLocals := 1, code := prog_35_method_6_code, exceptionTable := #[], attributes := #[] }
def k2m4 : Method := { name := "removeLast", desc := "()I", sig := { parameters := [], returnType := some .int }, accessFlags := 0, code := some k2c4 }
/-- com/example/subsumer/subsumer/Ints -/
def k2 : Class := { plain "com/example/subsumer/subsumer/Ints" (some 0) with
  accessFlags := 32
  interfaces := #[]
  cf := some (fileOf pool2 8 #[] #[{ accessFlags := 0, nameIndex := 5, descriptorIndex := 6, attributes := #[] }, { accessFlags := 0, nameIndex := 15, descriptorIndex := 25, attributes := #[] }, { accessFlags := 0, nameIndex := 26, descriptorIndex := 27, attributes := #[] }, { accessFlags := 0, nameIndex := 30, descriptorIndex := 31, attributes := #[] }, { accessFlags := 0, nameIndex := 33, descriptorIndex := 25, attributes := #[] }] 32 2 #[] #[{ accessFlags := 2, nameIndex := 11, descriptorIndex := 12, attributes := #[] }, { accessFlags := 2, nameIndex := 15, descriptorIndex := 16, attributes := #[] }])
  fields := #[{ name := "values", type := (.array .int), accessFlags := 2, slot := 0, constantValue := 0 }, { name := "size", type := .int, accessFlags := 2, slot := 1, constantValue := 0 }]
  methods := #[k2m0, k2m1, k2m2, k2m3, k2m4]
  instanceTypes := #[(.array .int), .int]
  staticTypes := #[]
  resolved := Array.replicate 37 none
  statics := none }

def pool3 : Array CpInfo := pool [(1, u "java/lang/Cloneable"), (0, .class_ 1), (0, u "java/lang/Object"), (0, .class_ 3)] 3

/-- java/lang/Cloneable -/
def k3 : Class := { plain "java/lang/Cloneable" (some 0) with
  accessFlags := 1537
  interfaces := #[]
  cf := some (fileOf pool3 2 #[] #[] 1537 4 #[] #[])
  fields := #[]
  methods := #[]
  instanceTypes := #[]
  staticTypes := #[]
  resolved := Array.replicate 8 none
  statics := none }

def pool4 : Array CpInfo := pool [(1, u "java/io/Serializable"), (0, .class_ 1), (0, u "java/lang/Object"), (0, .class_ 3)] 3

/-- java/io/Serializable -/
def k4 : Class := { plain "java/io/Serializable" (some 0) with
  accessFlags := 1537
  interfaces := #[]
  cf := some (fileOf pool4 2 #[] #[] 1537 4 #[] #[])
  fields := #[]
  methods := #[]
  instanceTypes := #[]
  staticTypes := #[]
  resolved := Array.replicate 8 none
  statics := none }

/-- the primitive byte -/
def k5 : Class := { plain "byte" none with kind := .primitive 'B', accessFlags := 0x411 }
/-- [B -/
def k6 : Class := { plain "[B" (some 0) with kind := .array 5 .byte, interfaces := #[3, 4], accessFlags := 1041 }

/-- the primitive int -/
def k7 : Class := { plain "int" none with kind := .primitive 'I', accessFlags := 0x411 }
/-- [I -/
def k8 : Class := { plain "[I" (some 0) with kind := .array 7 .int, interfaces := #[3, 4], accessFlags := 1041 }

def heap : Heap := #[]
def classes : Array Class := #[k0, k1, k2, k3, k4, k5, k6, k7, k8]
def interned : List (Array UInt16 × Addr) := []
def slotsUsed : Nat := 0
def theMethod : MethodId := ⟨1, 1⟩
def args0 : Array Value := #[.int 2, .int 5, .int 6, .int 7, .int 8, .int 9]
def aboutOver (below : List Frame) : State where
  vm := { classes := classes, interned := interned.toArray }
  heap := heap
  slotsUsed := slotsUsed
  threads := #[{ frames := .invoking theMethod args0 :: below }]
def below0 : List Frame := [.native { method := ⟨0, 0⟩, args := #[] }]
def about1 : State := aboutOver below0
def p0 : Program := .bare "" "" ""
def e0 : Env := launch0.env 0 0 0
theorem w_frames : about1.frames = Frame.invoking theMethod args0 :: below0 := rfl
set_option maxRecDepth 65536 in
theorem w_args : argsFit about1.vm theMethod args0 = true := by decide +kernel
set_option maxRecDepth 65536 in
theorem w_heap : heapFits about1 = true := by decide +kernel
set_option maxRecDepth 65536 in
theorem w_runnable : about1.curStatus? = some .runnable := by decide +kernel
set_option maxRecDepth 65536 in
theorem w_alone : about1.alone = true := by decide +kernel
set_option maxRecDepth 65536 in
theorem w_named : about1.methodNamed? x = some theMethod := by decide +kernel
set_option maxRecDepth 65536 in
theorem w_hears : about1.hears theMethod below0 = true := by decide +kernel
set_option maxRecDepth 65536 in
theorem w_ripe : about1.ripe theMethod args0 below0 = true := by decide +kernel
theorem w_running : about1.status = .running := rfl
set_option maxRecDepth 65536 in
theorem w_room : about1.hasRoom e0.platform room_1 = true :=
  launch0.hasRoom_least _ room_1 (by decide +kernel) (by decide +kernel) (by decide +kernel) (by decide +kernel) (by decide +kernel) (by decide +kernel)
theorem allAtoms_all (ts : List Jvm.Cond) (a : Array Jvm.Value) (st : Jvm.State) : (allAtoms ts).before a st = ts.all (fun c => c.before a st) := by
  induction ts with
  | nil => rfl
  | cons c t ih =>
    show (Jvm.Cond.and c (allAtoms t)).before a st = _
    rw [Jvm.Cond.before_and, ih, List.all_cons]
def words1 : List Jvm.Cond := Jvm.Cond.code x code maxLocals ret :: tables_1
/-- a 'code' word, met by the world's own term for the bytes: nothing is compared byte by byte -/
theorem code_word {y : MethodName} {bytes : ByteArray} {mx : Nat} {rt : Option FieldType} {a : Array Value} {s : State} {m : MethodId} {meth : Method} {c : Code} (h1 : s.methodNamed? y = some m) (h2 : s.vm.method? m = some meth) (h3 : meth.code = some c) (h4 : c.code = bytes)
    (h5 : (c.maxLocals == mx && c.exceptionTable.isEmpty && decide (c.maxStack ≤ mostOperands) && decide (meth.sig.returnType = rt) && !meth.locks && decide (parseMethodDescriptor y.desc = some meth.sig)) = true) : (Jvm.Cond.code y bytes mx rt).before a s = true := by
  simp only [Bool.and_eq_true, beq_iff_eq, Bool.not_eq_true', decide_eq_true_eq] at h5
  obtain ⟨⟨⟨⟨⟨g1, g2⟩, g3⟩, g4⟩, g5⟩, g6⟩ := h5
  simp [Cond.before, Cond.holds, Cond.value, h1, h2, h3, h4, g1, g2, g3, g4, g5, g6]
def isCode : Jvm.Cond → Bool
  | .code _ _ _ _ => true
  | _ => false
theorem all_split {L : List Jvm.Cond} {P : Jvm.Cond → Bool} (h1 : L.all (fun c => isCode c || P c) = true) (h2 : ∀ c ∈ L.filter isCode, P c = true) : L.all P = true := by
  refine List.all_eq_true.mpr fun c hc => ?_
  have h := List.all_eq_true.mp h1 c hc
  rcases Bool.eq_false_or_eq_true (isCode c) with hi | hi
  · exact h2 c (List.mem_filter.mpr ⟨hc, hi⟩)
  · simpa [hi] using h
set_option maxRecDepth 65536 in
theorem w_c0 : (Jvm.Cond.code x code maxLocals ret).before args0 about1 = true := code_word (m := ⟨1, 1⟩) (meth := k1m1) (c := k1c1) (by decide +kernel) rfl rfl rfl (by decide +kernel)
set_option maxRecDepth 65536 in
theorem w_c1 : (Jvm.Cond.code ({ cls := "com/example/subsumer/subsumer/Ints", name := "<init>", desc := "()V" } : Jvm.MethodName) prog_35_method_1_code (1 : Nat) (Option.none : Option Jvm.ClassFile.FieldType)).before args0 about1 = true := code_word (m := ⟨2, 0⟩) (meth := k2m0) (c := k2c0) (by decide +kernel) rfl rfl rfl (by decide +kernel)
set_option maxRecDepth 65536 in
theorem w_c2 : (Jvm.Cond.code ({ cls := "java/lang/Object", name := "<init>", desc := "()V" } : Jvm.MethodName) object_method_1_code (1 : Nat) (Option.none : Option Jvm.ClassFile.FieldType)).before args0 about1 = true := code_word (m := ⟨0, 0⟩) (meth := k0m0) (c := k0c0) (by decide +kernel) rfl rfl rfl (by decide +kernel)
set_option maxRecDepth 65536 in
theorem w_c3 : (Jvm.Cond.code ({ cls := "com/example/subsumer/subsumer/Ints", name := "add", desc := "(I)V" } : Jvm.MethodName) prog_35_method_5_code (2 : Nat) (Option.none : Option Jvm.ClassFile.FieldType)).before args0 about1 = true := code_word (m := ⟨2, 3⟩) (meth := k2m3) (c := k2c3) (by decide +kernel) rfl rfl rfl (by decide +kernel)
set_option maxRecDepth 65536 in
theorem w_c4 : (Jvm.Cond.code ({ cls := "com/example/subsumer/subsumer/Ints", name := "removeLast", desc := "()I" } : Jvm.MethodName) prog_35_method_6_code (1 : Nat) (Option.some Jvm.ClassFile.FieldType.int)).before args0 about1 = true := code_word (m := ⟨2, 4⟩) (meth := k2m4) (c := k2c4) (by decide +kernel) rfl rfl rfl (by decide +kernel)
set_option maxRecDepth 65536 in
theorem w_c5 : (Jvm.Cond.code ({ cls := "com/example/subsumer/subsumer/Ints", name := "size", desc := "()I" } : Jvm.MethodName) prog_35_method_2_code (1 : Nat) (Option.some Jvm.ClassFile.FieldType.int)).before args0 about1 = true := code_word (m := ⟨2, 1⟩) (meth := k2m1) (c := k2c1) (by decide +kernel) rfl rfl rfl (by decide +kernel)
set_option maxRecDepth 65536 in
theorem w_c6 : (Jvm.Cond.code ({ cls := "com/example/subsumer/subsumer/Ints", name := "get", desc := "(I)I" } : Jvm.MethodName) prog_35_method_3_code (2 : Nat) (Option.some Jvm.ClassFile.FieldType.int)).before args0 about1 = true := code_word (m := ⟨2, 2⟩) (meth := k2m2) (c := k2c2) (by decide +kernel) rfl rfl rfl (by decide +kernel)
def codes1 : List Jvm.Cond := [Jvm.Cond.code x code maxLocals ret, Jvm.Cond.code ({ cls := "com/example/subsumer/subsumer/Ints", name := "<init>", desc := "()V" } : Jvm.MethodName) prog_35_method_1_code (1 : Nat) (Option.none : Option Jvm.ClassFile.FieldType), Jvm.Cond.code ({ cls := "java/lang/Object", name := "<init>", desc := "()V" } : Jvm.MethodName) object_method_1_code (1 : Nat) (Option.none : Option Jvm.ClassFile.FieldType), Jvm.Cond.code ({ cls := "com/example/subsumer/subsumer/Ints", name := "add", desc := "(I)V" } : Jvm.MethodName) prog_35_method_5_code (2 : Nat) (Option.none : Option Jvm.ClassFile.FieldType), Jvm.Cond.code ({ cls := "com/example/subsumer/subsumer/Ints", name := "removeLast", desc := "()I" } : Jvm.MethodName) prog_35_method_6_code (1 : Nat) (Option.some Jvm.ClassFile.FieldType.int), Jvm.Cond.code ({ cls := "com/example/subsumer/subsumer/Ints", name := "size", desc := "()I" } : Jvm.MethodName) prog_35_method_2_code (1 : Nat) (Option.some Jvm.ClassFile.FieldType.int), Jvm.Cond.code ({ cls := "com/example/subsumer/subsumer/Ints", name := "get", desc := "(I)I" } : Jvm.MethodName) prog_35_method_3_code (2 : Nat) (Option.some Jvm.ClassFile.FieldType.int)]
set_option maxRecDepth 65536 in
theorem codes_eq : words1.filter isCode = codes1 := rfl
theorem w_codes : ∀ c ∈ words1.filter isCode, c.before args0 about1 = true := by
  rw [codes_eq]
  intro c hc
  simp only [codes1, List.mem_cons, List.not_mem_nil, or_false] at hc
  rcases hc with rfl | rfl | rfl | rfl | rfl | rfl | rfl
  · exact w_c0
  · exact w_c1
  · exact w_c2
  · exact w_c3
  · exact w_c4
  · exact w_c5
  · exact w_c6
set_option maxRecDepth 65536 in
theorem w_t1 : (words1.take 24).all (fun c => isCode c || c.before args0 about1) = true := by decide +kernel
set_option maxRecDepth 65536 in
theorem w_t2 : (words1.drop 24).all (fun c => isCode c || c.before args0 about1) = true := by decide +kernel
theorem w_tables : (allAtoms (Jvm.Cond.code x code maxLocals ret :: tables_1)).before args0 about1 = true := by
  rw [allAtoms_all]
  show words1.all (fun c => c.before args0 about1) = true
  refine all_split ?_ w_codes
  rw [← List.take_append_drop 24 words1, List.all_append, w_t1, w_t2]
  rfl
set_option maxRecDepth 65536 in
theorem w_case : (Jvm.Cond.and given_1 narrow_1).before args0 about1 = true := by decide +kernel
theorem w_applies : (headSpec (Jvm.Cond.code x code maxLocals ret :: tables_1) room_1).applies x e0.platform about1 = true :=
  (Spec.applies_iff w_frames).mpr ⟨w_running, w_runnable, w_alone, w_named, w_hears, w_ripe, w_room, w_tables⟩
theorem atStart : AtStart classFile x code maxLocals ret World_1 tables_1 room_1 Calls_1 rest_1 Pre_1 launch0 p0 e0 about1 theMethod args0 below0 :=
  ⟨lists_1, trivial, launch0.admits_env _ _ _, launch0.least_env, fairChoices_fair.cas, fairChoices_fair.clock, w_frames, w_args, w_heap, w_applies, trivial, trivial, w_case⟩
end start1
theorem witness_1 : WitnessClaimed_1 := ⟨start1.p0, start1.e0, start1.about1, start1.theMethod, start1.args0, start1.below0, start1.atStart⟩
end Jvm.Pilot.@@N@@
