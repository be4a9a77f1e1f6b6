import JvmDerived
import JvmDerived.Pilot.@@N@@Statement
import JvmDerived.Pilot.@@N@@Code
set_option linter.unusedVariables false
set_option linter.unusedSimpArgs false
namespace Jvm.Pilot.@@N@@
open Jvm Jvm.ClassFile Sem Op Lib Jvm.Free Jvm.Stand Jvm.LawKit Jvm.RoadKit Bundle Jvm.Pilot.@@N@@.Jvm.D
section OwnLayer
variable {p : Program} {l : Launch} {e : Env} {R : Room} {s : State} {m : MethodId} {args : Array Value} {below : List Frame} {meth : Method} {c : Code} {T : State} {locs : List Loc} {cells slots : Nat} {Z : State} {y : MethodName} {bs : ByteArray} {maxL : Nat} {rt : Option FieldType} {ce sl : Nat} {Q : Option Value → Heap → List Loc → Prop} {G : Outcome → State → Prop} {pc : Nat} {Ls : Array Slot} {st rest : List Value} {h : Heap} {a0 : Array Value}
/-- from S the body runs on, returns, and Q says what it leaves -/
def OwnEnds (p : Program) (e : Env) (below : List Frame) (G : Outcome → State → Prop) (S : State) : Prop :=
  ∃ s₂ o, Steps p.tables e below S s₂ ∧ s₂.status = .running ∧ Ended s₂ below o ∧ G o s₂
def OwnG (s : State) (ce sl : Nat) (Q : Option Value → Heap → List Loc → Prop) : Outcome → State → Prop := fun o s₂ => ∃ v L, o = .returned v ∧ Q v s₂.heap L ∧ FrameEnd s o s₂ L ce sl
/-- what stands throughout a body's walk -/
def OwnCx (p : Program) (s : State) (m : MethodId) (meth : Method) (c : Code) (Z : State) (y : MethodName) (bs : ByteArray) (maxL : Nat) (rt : Option FieldType) : Prop :=
  p.tables.exec = Jvm.exec ∧ Z.Warmed39 s.vm ∧ s.vm.findClass y.cls = some m.cls ∧ c.code = bs ∧ c.maxLocals = maxL ∧ meth.sig.returnType = rt ∧ meth.locks = false ∧ meth.name = y.name
/-- a body's contract over the heap h at these arguments -/
def OwnMet (l : Launch) (Z : State) (y : MethodName) (bs : ByteArray) (maxL : Nat) (rt : Option FieldType) (ws : List Jvm.Cond) (rm : Room) (as' : Array Value) (h : Heap) (Q : Option Value → Heap → List Loc → Prop) : Prop :=
  MetFree l y (head1 (Jvm.Cond.code y bs maxL rt :: ws) rm) (fun a U => a = as' ∧ Z.Warmed39 U.vm ∧ U.heap = h) (fun _ _ _ _ _ => True) (fun _ U o U' => ∃ v L, o = .returned v ∧ Q v U'.heap L ∧ FrameEnd U o U' L rm.cells rm.slots)
theorem own_nz32 {d : Int32} (q : d.toInt ≠ 0) : d ≠ 0 := fun r => q (by rw [r]; rfl)
theorem own_nz64 {d : Int64} (q : d.toInt ≠ 0) : d ≠ 0 := fun r => q (by rw [r]; rfl)
theorem own_st {S S' : State} (k : ∀ t, Steps p.tables e below S' t → Steps p.tables e below S t) (r : OwnEnds p e below G S') : OwnEnds p e below G S := by
  obtain ⟨s₂, o, h1, r⟩ := r
  exact ⟨s₂, o, k _ h1, r⟩
theorem own_tr {S S' : State} (k : Steps p.tables e below S S') (r : OwnEnds p e below G S') : OwnEnds p e below G S := own_st (fun _ q => k.trans q) r
theorem own_enter {ws : List Jvm.Cond} {rm : Room} {as' : Array Value} {f0 : MethodId → JFrame} (hp : plainFor y = true) (hf : ∀ m, entryFrame m as' maxL = f0 m)
    (H : ∀ p e s m below meth c T, Stand p l e rm s m as' below meth c T [] 0 0 → OwnCx p s m meth c Z y bs maxL rt → T.heap = h → OwnEnds p e below (OwnG s rm.cells rm.slots Q) (T.setTop (f0 m))) : OwnMet l Z y bs maxL rt ws rm as' h Q := by
  refine MetFree.of_bodySF hp hisR ?_
  intro p e s m args below meth c s₁ Bd hml0 hP hK
  obtain ⟨rfl, hZ, hh⟩ := hP
  have k := H p e s m below meth c s₁ (Stand.of_body Bd) ⟨Bd.exec, hZ, findClass_of_methodNamed Bd.named, Bd.bytes, hml0, Bd.returns, Bd.notSynchronized, (name_of_methodNamed Bd.named Bd.method).1⟩ (by rw [← hh, Bd.state]; rfl)
  rw [← hf m] at k
  exact k
theorem own_mono {ws : List Jvm.Cond} {rm : Room} {as' : Array Value} {Q' : Option Value → Heap → List Loc → Prop} (H : OwnMet l Z y bs maxL rt ws rm as' h Q) (q : ∀ v h' L, Q v h' L → Q' v h' L) : OwnMet l Z y bs maxL rt ws rm as' h Q' := by
  intro p e ha hc hk s m args below hf happ hP hK
  obtain ⟨n, o, h1, h2, h3, v, L, h4, h5, h6⟩ := H p e ha hc hk s m args below hf happ hP hK
  exact ⟨n, o, h1, h2, h3, v, L, h4, q _ _ _ h5, h6⟩
theorem own_iload (X : Stand p l e R s m args below meth c T locs cells slots) (C : OwnCx p s m meth c Z y bs maxL rt) {k : Nat} {v : Int32} (hd : decode bs pc = .ok (.iload k, 2)) (pc' : Nat) (hp : pc + 2 = pc') (hl : Ls[k]? = some (.val (.int v)))
    (hr : OwnEnds p e below G (T.setTop (mkF m pc' Ls (.int v :: st)))) : OwnEnds p e below G (T.setTop (mkF m pc Ls st)) := by
  subst hp; exact own_st (fun _ q => XS.iload X.here C.1 rfl (hb C.2.2.2.1 hd) hl q) hr
theorem own_lload (X : Stand p l e R s m args below meth c T locs cells slots) (C : OwnCx p s m meth c Z y bs maxL rt) {k : Nat} {v : Int64} (hd : decode bs pc = .ok (.lload k, 2)) (pc' : Nat) (hp : pc + 2 = pc') (hl : Ls[k]? = some (.val (.long v)))
    (hr : OwnEnds p e below G (T.setTop (mkF m pc' Ls (.long v :: st)))) : OwnEnds p e below G (T.setTop (mkF m pc Ls st)) := by
  subst hp; exact own_st (fun _ q => XS.lload X.here C.1 rfl (hb C.2.2.2.1 hd) hl q) hr
theorem own_iload_n (X : Stand p l e R s m args below meth c T locs cells slots) (C : OwnCx p s m meth c Z y bs maxL rt) {k : Fin 4} {v : Int32} (hd : decode bs pc = .ok (.iload_n k, 1)) (pc' : Nat) (hp : pc + 1 = pc') (hl : Ls[k.val]? = some (.val (.int v)))
    (hr : OwnEnds p e below G (T.setTop (mkF m pc' Ls (.int v :: st)))) : OwnEnds p e below G (T.setTop (mkF m pc Ls st)) := by
  subst hp; exact own_st (fun _ q => XS.iloadN X.here C.1 rfl (hb C.2.2.2.1 hd) hl q) hr
theorem own_lload_n (X : Stand p l e R s m args below meth c T locs cells slots) (C : OwnCx p s m meth c Z y bs maxL rt) {k : Fin 4} {v : Int64} (hd : decode bs pc = .ok (.lload_n k, 1)) (pc' : Nat) (hp : pc + 1 = pc') (hl : Ls[k.val]? = some (.val (.long v)))
    (hr : OwnEnds p e below G (T.setTop (mkF m pc' Ls (.long v :: st)))) : OwnEnds p e below G (T.setTop (mkF m pc Ls st)) := by
  subst hp; exact own_st (fun _ q => XS.lloadN X.here C.1 rfl (hb C.2.2.2.1 hd) hl q) hr
theorem own_aload (X : Stand p l e R s m args below meth c T locs cells slots) (C : OwnCx p s m meth c Z y bs maxL rt) {k : Nat} {v : Value} (hd : decode bs pc = .ok (.aload k, 2)) (pc' : Nat) (hp : pc + 2 = pc') (hl : Ls[k]? = some (.val v)) (hv : v.isRef = true)
    (hr : OwnEnds p e below G (T.setTop (mkF m pc' Ls (v :: st)))) : OwnEnds p e below G (T.setTop (mkF m pc Ls st)) := by
  subst hp; exact own_st (fun _ q => XS.aload X.here C.1 rfl (hb C.2.2.2.1 hd) hl hv q) hr
theorem own_aload_n (X : Stand p l e R s m args below meth c T locs cells slots) (C : OwnCx p s m meth c Z y bs maxL rt) {k : Fin 4} {v : Value} (hd : decode bs pc = .ok (.aload_n k, 1)) (pc' : Nat) (hp : pc + 1 = pc') (hl : Ls[k.val]? = some (.val v)) (hv : v.isRef = true)
    (hr : OwnEnds p e below G (T.setTop (mkF m pc' Ls (v :: st)))) : OwnEnds p e below G (T.setTop (mkF m pc Ls st)) := by
  subst hp; exact own_st (fun _ q => XS.aloadN X.here C.1 rfl (hb C.2.2.2.1 hd) hl hv q) hr
theorem own_istore (X : Stand p l e R s m args below meth c T locs cells slots) (C : OwnCx p s m meth c Z y bs maxL rt) {k : Nat} {v : Int32} (hd : decode bs pc = .ok (.istore k, 2)) (pc' : Nat) (hp : pc + 2 = pc') (L' : Array Slot) (hl : storeLocals Ls k (.int v) = some L')
    (hr : OwnEnds p e below G (T.setTop (mkF m pc' L' st))) : OwnEnds p e below G (T.setTop (mkF m pc Ls (.int v :: st))) := by
  subst hp; exact own_st (fun _ q => XS.istore X.here C.1 rfl (hb C.2.2.2.1 hd) rfl hl q) hr
theorem own_lstore (X : Stand p l e R s m args below meth c T locs cells slots) (C : OwnCx p s m meth c Z y bs maxL rt) {k : Nat} {v : Int64} (hd : decode bs pc = .ok (.lstore k, 2)) (pc' : Nat) (hp : pc + 2 = pc') (L' : Array Slot) (hl : storeLocals Ls k (.long v) = some L')
    (hr : OwnEnds p e below G (T.setTop (mkF m pc' L' st))) : OwnEnds p e below G (T.setTop (mkF m pc Ls (.long v :: st))) := by
  subst hp; exact own_st (fun _ q => XS.lstore X.here C.1 rfl (hb C.2.2.2.1 hd) rfl hl q) hr
theorem own_istore_n (X : Stand p l e R s m args below meth c T locs cells slots) (C : OwnCx p s m meth c Z y bs maxL rt) {k : Fin 4} {v : Int32} (hd : decode bs pc = .ok (.istore_n k, 1)) (pc' : Nat) (hp : pc + 1 = pc') (L' : Array Slot) (hl : storeLocals Ls k.val (.int v) = some L')
    (hr : OwnEnds p e below G (T.setTop (mkF m pc' L' st))) : OwnEnds p e below G (T.setTop (mkF m pc Ls (.int v :: st))) := by
  subst hp; exact own_st (fun _ q => XS.istoreN X.here C.1 rfl (hb C.2.2.2.1 hd) rfl hl q) hr
theorem own_lstore_n (X : Stand p l e R s m args below meth c T locs cells slots) (C : OwnCx p s m meth c Z y bs maxL rt) {k : Fin 4} {v : Int64} (hd : decode bs pc = .ok (.lstore_n k, 1)) (pc' : Nat) (hp : pc + 1 = pc') (L' : Array Slot) (hl : storeLocals Ls k.val (.long v) = some L')
    (hr : OwnEnds p e below G (T.setTop (mkF m pc' L' st))) : OwnEnds p e below G (T.setTop (mkF m pc Ls (.long v :: st))) := by
  subst hp; exact own_st (fun _ q => XS.lstoreN X.here C.1 rfl (hb C.2.2.2.1 hd) rfl hl q) hr
theorem own_astore (X : Stand p l e R s m args below meth c T locs cells slots) (C : OwnCx p s m meth c Z y bs maxL rt) {k : Nat} {v : Value} (hd : decode bs pc = .ok (.astore k, 2)) (pc' : Nat) (hp : pc + 2 = pc') (hv : v.isRef = true) (L' : Array Slot) (hl : storeLocals Ls k v = some L')
    (hr : OwnEnds p e below G (T.setTop (mkF m pc' L' st))) : OwnEnds p e below G (T.setTop (mkF m pc Ls (v :: st))) := by
  subst hp; exact own_st (fun _ q => XS.astore X.here C.1 rfl (hb C.2.2.2.1 hd) rfl hv hl q) hr
theorem own_astore_n (X : Stand p l e R s m args below meth c T locs cells slots) (C : OwnCx p s m meth c Z y bs maxL rt) {k : Fin 4} {v : Value} (hd : decode bs pc = .ok (.astore_n k, 1)) (pc' : Nat) (hp : pc + 1 = pc') (hv : v.isRef = true) (L' : Array Slot) (hl : storeLocals Ls k.val v = some L')
    (hr : OwnEnds p e below G (T.setTop (mkF m pc' L' st))) : OwnEnds p e below G (T.setTop (mkF m pc Ls (v :: st))) := by
  subst hp; exact own_st (fun _ q => XS.astoreN X.here C.1 rfl (hb C.2.2.2.1 hd) rfl hv hl q) hr
theorem own_iinc (X : Stand p l e R s m args below meth c T locs cells slots) (C : OwnCx p s m meth c Z y bs maxL rt) {k : Nat} {cst : Int} {v : Int32} (hd : decode bs pc = .ok (.iinc k cst, 3)) (pc' : Nat) (hp : pc + 3 = pc') (hl : Ls[k]? = some (.val (.int v))) (w : Int32) (hw : Int32.ofInt cst = w) (F : Int32 → Array Slot) (hl' : ∀ z, storeLocals Ls k (.int z) = some (F z))
    (hr : ∀ z, z = v + w → OwnEnds p e below G (T.setTop (mkF m pc' (F z) st))) : OwnEnds p e below G (T.setTop (mkF m pc Ls st)) := by
  subst hp hw; exact own_st (fun _ q => XS.iinc X.here C.1 rfl (hb C.2.2.2.1 hd) hl (hl' _) q) (hr _ rfl)
theorem own_iconst (X : Stand p l e R s m args below meth c T locs cells slots) (C : OwnCx p s m meth c Z y bs maxL rt) {i : Int} (hd : decode bs pc = .ok (.iconst i, 1)) (pc' : Nat) (hp : pc + 1 = pc') (k : Int32) (hk : Int32.ofInt i = k)
    (hr : OwnEnds p e below G (T.setTop (mkF m pc' Ls (.int k :: st)))) : OwnEnds p e below G (T.setTop (mkF m pc Ls st)) := by
  subst hp hk; exact own_st (fun _ q => XS.iconst X.here C.1 rfl (hb C.2.2.2.1 hd) q) hr
theorem own_bipush (X : Stand p l e R s m args below meth c T locs cells slots) (C : OwnCx p s m meth c Z y bs maxL rt) {i : Int} (hd : decode bs pc = .ok (.bipush i, 2)) (pc' : Nat) (hp : pc + 2 = pc') (k : Int32) (hk : (Int8.ofInt i).toInt32 = k)
    (hr : OwnEnds p e below G (T.setTop (mkF m pc' Ls (.int k :: st)))) : OwnEnds p e below G (T.setTop (mkF m pc Ls st)) := by
  subst hp hk; exact own_st (fun _ q => XS.bipush X.here C.1 rfl (hb C.2.2.2.1 hd) q) hr
theorem own_sipush (X : Stand p l e R s m args below meth c T locs cells slots) (C : OwnCx p s m meth c Z y bs maxL rt) {i : Int} (hd : decode bs pc = .ok (.sipush i, 3)) (pc' : Nat) (hp : pc + 3 = pc') (k : Int32) (hk : (Int16.ofInt i).toInt32 = k)
    (hr : OwnEnds p e below G (T.setTop (mkF m pc' Ls (.int k :: st)))) : OwnEnds p e below G (T.setTop (mkF m pc Ls st)) := by
  subst hp hk; exact own_st (fun _ q => XS.sipush X.here C.1 rfl (hb C.2.2.2.1 hd) q) hr
theorem own_lconst (X : Stand p l e R s m args below meth c T locs cells slots) (C : OwnCx p s m meth c Z y bs maxL rt) {i : Fin 2} (hd : decode bs pc = .ok (.lconst i, 1)) (pc' : Nat) (hp : pc + 1 = pc') (k : Int64) (hk : Int64.ofNat i = k)
    (hr : OwnEnds p e below G (T.setTop (mkF m pc' Ls (.long k :: st)))) : OwnEnds p e below G (T.setTop (mkF m pc Ls st)) := by
  subst hp hk; exact own_st (fun _ q => XS.lconst X.here C.1 rfl (hb C.2.2.2.1 hd) q) hr
theorem own_aconst_null (X : Stand p l e R s m args below meth c T locs cells slots) (C : OwnCx p s m meth c Z y bs maxL rt) (hd : decode bs pc = .ok (.aconst_null, 1)) (pc' : Nat) (hp : pc + 1 = pc')
    (hr : OwnEnds p e below G (T.setTop (mkF m pc' Ls (.null :: st)))) : OwnEnds p e below G (T.setTop (mkF m pc Ls st)) := by
  subst hp; exact own_st (fun _ q => XS.aconstNull X.here C.1 rfl (hb C.2.2.2.1 hd) q) hr
theorem own_ldc (X : Stand p l e R s m args below meth c T locs cells slots) (C : OwnCx p s m meth c Z y bs maxL rt) {i : Nat} {v : Int32} (w : (Jvm.Cond.constant y.cls i v).before a0 Z = true) (hd : decode bs pc = .ok (.ldc i, 2)) (pc' : Nat) (hp : pc + 2 = pc')
    (hr : OwnEnds p e below G (T.setTop (mkF m pc' Ls (.int v :: st)))) : OwnEnds p e below G (T.setTop (mkF m pc Ls st)) := by
  subst hp; exact own_st (X.ldcInt C.1 C.2.2.1 (mvT C.2.1 w) (g := mkF m pc Ls st) rfl (hb C.2.2.2.1 hd)) hr
theorem own_ldcw (X : Stand p l e R s m args below meth c T locs cells slots) (C : OwnCx p s m meth c Z y bs maxL rt) {i : Nat} {v : Int32} (w : (Jvm.Cond.constant y.cls i v).before a0 Z = true) (hd : decode bs pc = .ok (.ldc_w i, 3)) (pc' : Nat) (hp : pc + 3 = pc')
    (hr : OwnEnds p e below G (T.setTop (mkF m pc' Ls (.int v :: st)))) : OwnEnds p e below G (T.setTop (mkF m pc Ls st)) := by
  subst hp; exact own_st (X.ldcwInt C.1 C.2.2.1 (mvT C.2.1 w) (g := mkF m pc Ls st) rfl (hb C.2.2.2.1 hd)) hr
theorem own_ldc2 (X : Stand p l e R s m args below meth c T locs cells slots) (C : OwnCx p s m meth c Z y bs maxL rt) {i : Nat} {v : Int64} (w : (Jvm.Cond.constantLong y.cls i v).before a0 Z = true) (hd : decode bs pc = .ok (.ldc2_w i, 3)) (pc' : Nat) (hp : pc + 3 = pc')
    (hr : OwnEnds p e below G (T.setTop (mkF m pc' Ls (.long v :: st)))) : OwnEnds p e below G (T.setTop (mkF m pc Ls st)) := by
  subst hp; exact own_st (X.ldc2Long C.1 C.2.2.1 (mvT C.2.1 w) (g := mkF m pc Ls st) rfl (hb C.2.2.2.1 hd)) hr
theorem own_iadd (X : Stand p l e R s m args below meth c T locs cells slots) (C : OwnCx p s m meth c Z y bs maxL rt) {a b : Int32} (hd : decode bs pc = .ok (.iadd, 1)) (pc' : Nat) (hp : pc + 1 = pc')
    (hr : ∀ z, z = a + b → OwnEnds p e below G (T.setTop (mkF m pc' Ls (.int z :: st)))) : OwnEnds p e below G (T.setTop (mkF m pc Ls (.int b :: .int a :: st))) := by
  subst hp; exact own_st (fun _ q => XS.iadd X.here C.1 rfl (hb C.2.2.2.1 hd) rfl q) (hr _ rfl)
theorem own_isub (X : Stand p l e R s m args below meth c T locs cells slots) (C : OwnCx p s m meth c Z y bs maxL rt) {a b : Int32} (hd : decode bs pc = .ok (.isub, 1)) (pc' : Nat) (hp : pc + 1 = pc')
    (hr : ∀ z, z = a - b → OwnEnds p e below G (T.setTop (mkF m pc' Ls (.int z :: st)))) : OwnEnds p e below G (T.setTop (mkF m pc Ls (.int b :: .int a :: st))) := by
  subst hp; exact own_st (fun _ q => XS.isub X.here C.1 rfl (hb C.2.2.2.1 hd) rfl q) (hr _ rfl)
theorem own_imul (X : Stand p l e R s m args below meth c T locs cells slots) (C : OwnCx p s m meth c Z y bs maxL rt) {a b : Int32} (hd : decode bs pc = .ok (.imul, 1)) (pc' : Nat) (hp : pc + 1 = pc')
    (hr : ∀ z, z = a * b → OwnEnds p e below G (T.setTop (mkF m pc' Ls (.int z :: st)))) : OwnEnds p e below G (T.setTop (mkF m pc Ls (.int b :: .int a :: st))) := by
  subst hp; exact own_st (fun _ q => XS.imul X.here C.1 rfl (hb C.2.2.2.1 hd) rfl q) (hr _ rfl)
theorem own_iand (X : Stand p l e R s m args below meth c T locs cells slots) (C : OwnCx p s m meth c Z y bs maxL rt) {a b : Int32} (hd : decode bs pc = .ok (.iand, 1)) (pc' : Nat) (hp : pc + 1 = pc')
    (hr : ∀ z, z = a &&& b → OwnEnds p e below G (T.setTop (mkF m pc' Ls (.int z :: st)))) : OwnEnds p e below G (T.setTop (mkF m pc Ls (.int b :: .int a :: st))) := by
  subst hp; exact own_st (fun _ q => XS.iand X.here C.1 rfl (hb C.2.2.2.1 hd) rfl q) (hr _ rfl)
theorem own_ior (X : Stand p l e R s m args below meth c T locs cells slots) (C : OwnCx p s m meth c Z y bs maxL rt) {a b : Int32} (hd : decode bs pc = .ok (.ior, 1)) (pc' : Nat) (hp : pc + 1 = pc')
    (hr : ∀ z, z = a ||| b → OwnEnds p e below G (T.setTop (mkF m pc' Ls (.int z :: st)))) : OwnEnds p e below G (T.setTop (mkF m pc Ls (.int b :: .int a :: st))) := by
  subst hp; exact own_st (fun _ q => XS.ior X.here C.1 rfl (hb C.2.2.2.1 hd) rfl q) (hr _ rfl)
theorem own_ixor (X : Stand p l e R s m args below meth c T locs cells slots) (C : OwnCx p s m meth c Z y bs maxL rt) {a b : Int32} (hd : decode bs pc = .ok (.ixor, 1)) (pc' : Nat) (hp : pc + 1 = pc')
    (hr : ∀ z, z = a ^^^ b → OwnEnds p e below G (T.setTop (mkF m pc' Ls (.int z :: st)))) : OwnEnds p e below G (T.setTop (mkF m pc Ls (.int b :: .int a :: st))) := by
  subst hp; exact own_st (fun _ q => XS.ixor X.here C.1 rfl (hb C.2.2.2.1 hd) rfl q) (hr _ rfl)
theorem own_idiv (X : Stand p l e R s m args below meth c T locs cells slots) (C : OwnCx p s m meth c Z y bs maxL rt) {a b : Int32} (hd : decode bs pc = .ok (.idiv, 1)) (pc' : Nat) (hp : pc + 1 = pc') (hz : b ≠ 0)
    (hr : ∀ z, z = a / b → OwnEnds p e below G (T.setTop (mkF m pc' Ls (.int z :: st)))) : OwnEnds p e below G (T.setTop (mkF m pc Ls (.int b :: .int a :: st))) := by
  subst hp; exact own_st (fun _ q => XS.idiv X.here C.1 rfl (hb C.2.2.2.1 hd) rfl hz q) (hr _ rfl)
theorem own_ladd (X : Stand p l e R s m args below meth c T locs cells slots) (C : OwnCx p s m meth c Z y bs maxL rt) {a b : Int64} (hd : decode bs pc = .ok (.ladd, 1)) (pc' : Nat) (hp : pc + 1 = pc')
    (hr : ∀ z, z = a + b → OwnEnds p e below G (T.setTop (mkF m pc' Ls (.long z :: st)))) : OwnEnds p e below G (T.setTop (mkF m pc Ls (.long b :: .long a :: st))) := by
  subst hp; exact own_st (fun _ q => XS.ladd X.here C.1 rfl (hb C.2.2.2.1 hd) rfl q) (hr _ rfl)
theorem own_lsub (X : Stand p l e R s m args below meth c T locs cells slots) (C : OwnCx p s m meth c Z y bs maxL rt) {a b : Int64} (hd : decode bs pc = .ok (.lsub, 1)) (pc' : Nat) (hp : pc + 1 = pc')
    (hr : ∀ z, z = a - b → OwnEnds p e below G (T.setTop (mkF m pc' Ls (.long z :: st)))) : OwnEnds p e below G (T.setTop (mkF m pc Ls (.long b :: .long a :: st))) := by
  subst hp; exact own_st (fun _ q => XS.lsub X.here C.1 rfl (hb C.2.2.2.1 hd) rfl q) (hr _ rfl)
theorem own_lmul (X : Stand p l e R s m args below meth c T locs cells slots) (C : OwnCx p s m meth c Z y bs maxL rt) {a b : Int64} (hd : decode bs pc = .ok (.lmul, 1)) (pc' : Nat) (hp : pc + 1 = pc')
    (hr : ∀ z, z = a * b → OwnEnds p e below G (T.setTop (mkF m pc' Ls (.long z :: st)))) : OwnEnds p e below G (T.setTop (mkF m pc Ls (.long b :: .long a :: st))) := by
  subst hp; exact own_st (fun _ q => XS.lmul X.here C.1 rfl (hb C.2.2.2.1 hd) rfl q) (hr _ rfl)
theorem own_land (X : Stand p l e R s m args below meth c T locs cells slots) (C : OwnCx p s m meth c Z y bs maxL rt) {a b : Int64} (hd : decode bs pc = .ok (.land, 1)) (pc' : Nat) (hp : pc + 1 = pc')
    (hr : ∀ z, z = a &&& b → OwnEnds p e below G (T.setTop (mkF m pc' Ls (.long z :: st)))) : OwnEnds p e below G (T.setTop (mkF m pc Ls (.long b :: .long a :: st))) := by
  subst hp; exact own_st (fun _ q => XS.land X.here C.1 rfl (hb C.2.2.2.1 hd) rfl q) (hr _ rfl)
theorem own_lor (X : Stand p l e R s m args below meth c T locs cells slots) (C : OwnCx p s m meth c Z y bs maxL rt) {a b : Int64} (hd : decode bs pc = .ok (.lor, 1)) (pc' : Nat) (hp : pc + 1 = pc')
    (hr : ∀ z, z = a ||| b → OwnEnds p e below G (T.setTop (mkF m pc' Ls (.long z :: st)))) : OwnEnds p e below G (T.setTop (mkF m pc Ls (.long b :: .long a :: st))) := by
  subst hp; exact own_st (fun _ q => XS.lor X.here C.1 rfl (hb C.2.2.2.1 hd) rfl q) (hr _ rfl)
theorem own_lxor (X : Stand p l e R s m args below meth c T locs cells slots) (C : OwnCx p s m meth c Z y bs maxL rt) {a b : Int64} (hd : decode bs pc = .ok (.lxor, 1)) (pc' : Nat) (hp : pc + 1 = pc')
    (hr : ∀ z, z = a ^^^ b → OwnEnds p e below G (T.setTop (mkF m pc' Ls (.long z :: st)))) : OwnEnds p e below G (T.setTop (mkF m pc Ls (.long b :: .long a :: st))) := by
  subst hp; exact own_st (fun _ q => XS.lxor X.here C.1 rfl (hb C.2.2.2.1 hd) rfl q) (hr _ rfl)
theorem own_ldiv (X : Stand p l e R s m args below meth c T locs cells slots) (C : OwnCx p s m meth c Z y bs maxL rt) {a b : Int64} (hd : decode bs pc = .ok (.ldiv, 1)) (pc' : Nat) (hp : pc + 1 = pc') (hz : b ≠ 0)
    (hr : ∀ z, z = a / b → OwnEnds p e below G (T.setTop (mkF m pc' Ls (.long z :: st)))) : OwnEnds p e below G (T.setTop (mkF m pc Ls (.long b :: .long a :: st))) := by
  subst hp; exact own_st (fun _ q => XS.ldiv X.here C.1 rfl (hb C.2.2.2.1 hd) rfl hz q) (hr _ rfl)
theorem own_irem (X : Stand p l e R s m args below meth c T locs cells slots) (C : OwnCx p s m meth c Z y bs maxL rt) {a b : Int32} (hd : decode bs pc = .ok (.irem, 1)) (pc' : Nat) (hp : pc + 1 = pc') (hz : b ≠ 0)
    (hr : ∀ z, z = a % b → OwnEnds p e below G (T.setTop (mkF m pc' Ls (.int z :: st)))) : OwnEnds p e below G (T.setTop (mkF m pc Ls (.int b :: .int a :: st))) := by
  subst hp; exact own_st (fun _ q => iremM X C.1 rfl (hb C.2.2.2.1 hd) rfl hz q) (hr _ rfl)
theorem own_lrem (X : Stand p l e R s m args below meth c T locs cells slots) (C : OwnCx p s m meth c Z y bs maxL rt) {a b : Int64} (hd : decode bs pc = .ok (.lrem, 1)) (pc' : Nat) (hp : pc + 1 = pc') (hz : b ≠ 0)
    (hr : ∀ z, z = a % b → OwnEnds p e below G (T.setTop (mkF m pc' Ls (.long z :: st)))) : OwnEnds p e below G (T.setTop (mkF m pc Ls (.long b :: .long a :: st))) := by
  subst hp; exact own_st (fun _ q => XS.lrem X.here C.1 rfl (hb C.2.2.2.1 hd) rfl hz q) (hr _ (lrem_mod a b))
theorem own_ishl (X : Stand p l e R s m args below meth c T locs cells slots) (C : OwnCx p s m meth c Z y bs maxL rt) {a : Int32} {b : Int32} (hd : decode bs pc = .ok (.ishl, 1)) (pc' : Nat) (hp : pc + 1 = pc')
    (hr : ∀ z, z = (a <<< (b &&& 31)) → OwnEnds p e below G (T.setTop (mkF m pc' Ls (.int z :: st)))) : OwnEnds p e below G (T.setTop (mkF m pc Ls (.int b :: .int a :: st))) := by
  subst hp; exact own_st (fun _ q => XS.ishl X.here C.1 rfl (hb C.2.2.2.1 hd) rfl q) (hr _ rfl)
theorem own_ishr (X : Stand p l e R s m args below meth c T locs cells slots) (C : OwnCx p s m meth c Z y bs maxL rt) {a : Int32} {b : Int32} (hd : decode bs pc = .ok (.ishr, 1)) (pc' : Nat) (hp : pc + 1 = pc')
    (hr : ∀ z, z = (a >>> (b &&& 31)) → OwnEnds p e below G (T.setTop (mkF m pc' Ls (.int z :: st)))) : OwnEnds p e below G (T.setTop (mkF m pc Ls (.int b :: .int a :: st))) := by
  subst hp; exact own_st (fun _ q => XS.ishr X.here C.1 rfl (hb C.2.2.2.1 hd) rfl q) (hr _ rfl)
theorem own_iushr (X : Stand p l e R s m args below meth c T locs cells slots) (C : OwnCx p s m meth c Z y bs maxL rt) {a : Int32} {b : Int32} (hd : decode bs pc = .ok (.iushr, 1)) (pc' : Nat) (hp : pc + 1 = pc')
    (hr : ∀ z, z = ((a.toUInt32 >>> (b &&& 31).toUInt32).toInt32) → OwnEnds p e below G (T.setTop (mkF m pc' Ls (.int z :: st)))) : OwnEnds p e below G (T.setTop (mkF m pc Ls (.int b :: .int a :: st))) := by
  subst hp; exact own_st (fun _ q => XS.iushr X.here C.1 rfl (hb C.2.2.2.1 hd) rfl q) (hr _ rfl)
theorem own_lshl (X : Stand p l e R s m args below meth c T locs cells slots) (C : OwnCx p s m meth c Z y bs maxL rt) {a : Int64} {b : Int32} (hd : decode bs pc = .ok (.lshl, 1)) (pc' : Nat) (hp : pc + 1 = pc')
    (hr : ∀ z, z = (a <<< (b &&& 0x3f).toInt64) → OwnEnds p e below G (T.setTop (mkF m pc' Ls (.long z :: st)))) : OwnEnds p e below G (T.setTop (mkF m pc Ls (.int b :: .long a :: st))) := by
  subst hp; exact own_st (fun _ q => XS.lshl X.here C.1 rfl (hb C.2.2.2.1 hd) rfl q) (hr _ rfl)
theorem own_lshr (X : Stand p l e R s m args below meth c T locs cells slots) (C : OwnCx p s m meth c Z y bs maxL rt) {a : Int64} {b : Int32} (hd : decode bs pc = .ok (.lshr, 1)) (pc' : Nat) (hp : pc + 1 = pc')
    (hr : ∀ z, z = (a >>> (b &&& 0x3f).toInt64) → OwnEnds p e below G (T.setTop (mkF m pc' Ls (.long z :: st)))) : OwnEnds p e below G (T.setTop (mkF m pc Ls (.int b :: .long a :: st))) := by
  subst hp; exact own_st (fun _ q => XS.lshr X.here C.1 rfl (hb C.2.2.2.1 hd) rfl q) (hr _ rfl)
theorem own_lushr (X : Stand p l e R s m args below meth c T locs cells slots) (C : OwnCx p s m meth c Z y bs maxL rt) {a : Int64} {b : Int32} (hd : decode bs pc = .ok (.lushr, 1)) (pc' : Nat) (hp : pc + 1 = pc')
    (hr : ∀ z, z = ((a.toUInt64 >>> (b &&& 0x3f).toInt64.toUInt64).toInt64) → OwnEnds p e below G (T.setTop (mkF m pc' Ls (.long z :: st)))) : OwnEnds p e below G (T.setTop (mkF m pc Ls (.int b :: .long a :: st))) := by
  subst hp; exact own_st (fun _ q => XS.lushr X.here C.1 rfl (hb C.2.2.2.1 hd) rfl q) (hr _ rfl)
theorem own_ineg (X : Stand p l e R s m args below meth c T locs cells slots) (C : OwnCx p s m meth c Z y bs maxL rt) {a : Int32} (hd : decode bs pc = .ok (.ineg, 1)) (pc' : Nat) (hp : pc + 1 = pc')
    (hr : ∀ z, z = -a → OwnEnds p e below G (T.setTop (mkF m pc' Ls (.int z :: st)))) : OwnEnds p e below G (T.setTop (mkF m pc Ls (.int a :: st))) := by
  subst hp; exact own_st (fun _ q => XS.ineg X.here C.1 rfl (hb C.2.2.2.1 hd) rfl q) (hr _ rfl)
theorem own_lneg (X : Stand p l e R s m args below meth c T locs cells slots) (C : OwnCx p s m meth c Z y bs maxL rt) {a : Int64} (hd : decode bs pc = .ok (.lneg, 1)) (pc' : Nat) (hp : pc + 1 = pc')
    (hr : ∀ z, z = -a → OwnEnds p e below G (T.setTop (mkF m pc' Ls (.long z :: st)))) : OwnEnds p e below G (T.setTop (mkF m pc Ls (.long a :: st))) := by
  subst hp; exact own_st (fun _ q => XS.lneg X.here C.1 rfl (hb C.2.2.2.1 hd) rfl q) (hr _ rfl)
theorem own_i2l (X : Stand p l e R s m args below meth c T locs cells slots) (C : OwnCx p s m meth c Z y bs maxL rt) {a : Int32} (hd : decode bs pc = .ok (.i2l, 1)) (pc' : Nat) (hp : pc + 1 = pc')
    (hr : ∀ z, z = a.toInt64 → OwnEnds p e below G (T.setTop (mkF m pc' Ls (.long z :: st)))) : OwnEnds p e below G (T.setTop (mkF m pc Ls (.int a :: st))) := by
  subst hp; exact own_st (fun _ q => XS.i2l X.here C.1 rfl (hb C.2.2.2.1 hd) rfl q) (hr _ rfl)
theorem own_l2i (X : Stand p l e R s m args below meth c T locs cells slots) (C : OwnCx p s m meth c Z y bs maxL rt) {a : Int64} (hd : decode bs pc = .ok (.l2i, 1)) (pc' : Nat) (hp : pc + 1 = pc')
    (hr : ∀ z, z = a.toInt32 → OwnEnds p e below G (T.setTop (mkF m pc' Ls (.int z :: st)))) : OwnEnds p e below G (T.setTop (mkF m pc Ls (.long a :: st))) := by
  subst hp; exact own_st (fun _ q => XS.l2i X.here C.1 rfl (hb C.2.2.2.1 hd) rfl q) (hr _ rfl)
theorem own_i2b (X : Stand p l e R s m args below meth c T locs cells slots) (C : OwnCx p s m meth c Z y bs maxL rt) {a : Int32} (hd : decode bs pc = .ok (.i2b, 1)) (pc' : Nat) (hp : pc + 1 = pc')
    (hr : ∀ z, z = a.toInt8.toInt32 → OwnEnds p e below G (T.setTop (mkF m pc' Ls (.int z :: st)))) : OwnEnds p e below G (T.setTop (mkF m pc Ls (.int a :: st))) := by
  subst hp; exact own_st (fun _ q => XS.i2b X.here C.1 rfl (hb C.2.2.2.1 hd) rfl q) (hr _ rfl)
theorem own_i2s (X : Stand p l e R s m args below meth c T locs cells slots) (C : OwnCx p s m meth c Z y bs maxL rt) {a : Int32} (hd : decode bs pc = .ok (.i2s, 1)) (pc' : Nat) (hp : pc + 1 = pc')
    (hr : ∀ z, z = a.toInt16.toInt32 → OwnEnds p e below G (T.setTop (mkF m pc' Ls (.int z :: st)))) : OwnEnds p e below G (T.setTop (mkF m pc Ls (.int a :: st))) := by
  subst hp; exact own_st (fun _ q => XS.i2s X.here C.1 rfl (hb C.2.2.2.1 hd) rfl q) (hr _ rfl)
theorem own_i2c (X : Stand p l e R s m args below meth c T locs cells slots) (C : OwnCx p s m meth c Z y bs maxL rt) {a : Int32} (hd : decode bs pc = .ok (.i2c, 1)) (pc' : Nat) (hp : pc + 1 = pc')
    (hr : ∀ z, z = a.toUInt32.toUInt16.toUInt32.toInt32 → OwnEnds p e below G (T.setTop (mkF m pc' Ls (.int z :: st)))) : OwnEnds p e below G (T.setTop (mkF m pc Ls (.int a :: st))) := by
  subst hp; exact own_st (fun _ q => XS.i2c X.here C.1 rfl (hb C.2.2.2.1 hd) rfl q) (hr _ rfl)
theorem own_lcmp (X : Stand p l e R s m args below meth c T locs cells slots) (C : OwnCx p s m meth c Z y bs maxL rt) {a b : Int64} (hd : decode bs pc = .ok (.lcmp, 1)) (pc' : Nat) (hp : pc + 1 = pc')
    (hr : ∀ z : Int32, (a.toInt < b.toInt → z.toInt = -1) → (a.toInt = b.toInt → z.toInt = 0) → (b.toInt < a.toInt → z.toInt = 1) → OwnEnds p e below G (T.setTop (mkF m pc' Ls (.int z :: st)))) : OwnEnds p e below G (T.setTop (mkF m pc Ls (.long b :: .long a :: st))) := by
  subst hp; exact own_st (fun _ q => XS.lcmp X.here C.1 rfl (hb C.2.2.2.1 hd) rfl q) (hr _ (c_lcmp a b).1 (c_lcmp a b).2.1 (c_lcmp a b).2.2)
theorem own_dup (X : Stand p l e R s m args below meth c T locs cells slots) (C : OwnCx p s m meth c Z y bs maxL rt) {v : Value} (hd : decode bs pc = .ok (.dup, 1)) (pc' : Nat) (hp : pc + 1 = pc') (hc : v.category = 1)
    (hr : OwnEnds p e below G (T.setTop (mkF m pc' Ls (v :: v :: st)))) : OwnEnds p e below G (T.setTop (mkF m pc Ls (v :: st))) := by
  subst hp; exact own_st (fun _ q => XS.dup X.here C.1 rfl (hb C.2.2.2.1 hd) rfl hc q) hr
theorem own_dup_x1 (X : Stand p l e R s m args below meth c T locs cells slots) (C : OwnCx p s m meth c Z y bs maxL rt) {v w : Value} (hd : decode bs pc = .ok (.dup_x1, 1)) (pc' : Nat) (hp : pc + 1 = pc') (hc : v.category = 1) (hc' : w.category = 1)
    (hr : OwnEnds p e below G (T.setTop (mkF m pc' Ls (v :: w :: v :: st)))) : OwnEnds p e below G (T.setTop (mkF m pc Ls (v :: w :: st))) := by
  subst hp; exact own_st (fun _ q => XS.dupX1 X.here C.1 rfl (hb C.2.2.2.1 hd) rfl hc hc' q) hr
theorem own_pop (X : Stand p l e R s m args below meth c T locs cells slots) (C : OwnCx p s m meth c Z y bs maxL rt) {v : Value} (hd : decode bs pc = .ok (.pop, 1)) (pc' : Nat) (hp : pc + 1 = pc') (hc : v.category = 1)
    (hr : OwnEnds p e below G (T.setTop (mkF m pc' Ls st))) : OwnEnds p e below G (T.setTop (mkF m pc Ls (v :: st))) := by
  subst hp; exact own_st (fun _ q => XS.pop X.here C.1 rfl (hb C.2.2.2.1 hd) rfl hc q) hr
theorem own_dup2 (X : Stand p l e R s m args below meth c T locs cells slots) (C : OwnCx p s m meth c Z y bs maxL rt) {v w : Value} (hd : decode bs pc = .ok (.dup2, 1)) (pc' : Nat) (hp : pc + 1 = pc') (hc : v.category = 1) (hc' : w.category = 1)
    (hr : OwnEnds p e below G (T.setTop (mkF m pc' Ls (v :: w :: v :: w :: st)))) : OwnEnds p e below G (T.setTop (mkF m pc Ls (v :: w :: st))) := by
  subst hp; exact own_st (fun _ q => XT.dup2 X.here C.1 rfl (hb C.2.2.2.1 hd) rfl hc hc' q) hr
theorem own_goto (X : Stand p l e R s m args below meth c T locs cells slots) (C : OwnCx p s m meth c Z y bs maxL rt) {o : Int} (hd : decode bs pc = .ok (.goto o, 3)) (pc' : Nat) (ho : 0 ≤ (pc : Int) + o) (hp : ((pc : Int) + o).toNat = pc')
    (hr : OwnEnds p e below G (T.setTop (mkF m pc' Ls st))) : OwnEnds p e below G (T.setTop (mkF m pc Ls st)) :=
  own_st (fun _ q => XS.goto X.here C.1 rfl rfl (hb C.2.2.2.1 hd) ho hp q) hr
theorem own_icmplt (X : Stand p l e R s m args below meth c T locs cells slots) (C : OwnCx p s m meth c Z y bs maxL rt) {x' y' : Int32} {o : Int} (hd : decode bs pc = .ok (.if_icmp .lt o, 3)) (pn pc' : Nat) (hpn : pc + 3 = pn) (ho : 0 ≤ (pc : Int) + o) (hp : ((pc : Int) + o).toNat = pc') {i : Int} (hi : x'.toInt = i) {j : Int} (hj : y'.toInt = j) 
    (hy : i < j → OwnEnds p e below G (T.setTop (mkF m pc' Ls st))) (hn : j ≤ i → OwnEnds p e below G (T.setTop (mkF m pn Ls st))) : OwnEnds p e below G (T.setTop (mkF m pc Ls (.int y' :: .int x' :: st))) := by
  subst hpn
  by_cases k : x' < y'
  · exact own_st (fun _ q => XS.icmpYes X.here C.1 rfl rfl (hb C.2.2.2.1 hd) rfl (((tlt k).1)) ho hp q) (hy (by rw [Int32.lt_iff_toInt_lt] at k; have q : y'.toInt = j := hj; omega))
  · exact own_st (fun _ q => XS.icmpNo X.here C.1 rfl (hb C.2.2.2.1 hd) rfl (((flt k).1)) q) (hn (by rw [Int32.lt_iff_toInt_lt] at k; have q : y'.toInt = j := hj; omega))
theorem own_icmpge (X : Stand p l e R s m args below meth c T locs cells slots) (C : OwnCx p s m meth c Z y bs maxL rt) {x' y' : Int32} {o : Int} (hd : decode bs pc = .ok (.if_icmp .ge o, 3)) (pn pc' : Nat) (hpn : pc + 3 = pn) (ho : 0 ≤ (pc : Int) + o) (hp : ((pc : Int) + o).toNat = pc') {i : Int} (hi : x'.toInt = i) {j : Int} (hj : y'.toInt = j) 
    (hy : j ≤ i → OwnEnds p e below G (T.setTop (mkF m pc' Ls st))) (hn : i < j → OwnEnds p e below G (T.setTop (mkF m pn Ls st))) : OwnEnds p e below G (T.setTop (mkF m pc Ls (.int y' :: .int x' :: st))) := by
  subst hpn
  by_cases k : x' < y'
  · exact own_st (fun _ q => XS.icmpNo X.here C.1 rfl (hb C.2.2.2.1 hd) rfl (((tlt k).2.1)) q) (hn (by rw [Int32.lt_iff_toInt_lt] at k; have q : y'.toInt = j := hj; omega))
  · exact own_st (fun _ q => XS.icmpYes X.here C.1 rfl rfl (hb C.2.2.2.1 hd) rfl (((flt k).2.1)) ho hp q) (hy (by rw [Int32.lt_iff_toInt_lt] at k; have q : y'.toInt = j := hj; omega))
theorem own_icmpgt (X : Stand p l e R s m args below meth c T locs cells slots) (C : OwnCx p s m meth c Z y bs maxL rt) {x' y' : Int32} {o : Int} (hd : decode bs pc = .ok (.if_icmp .gt o, 3)) (pn pc' : Nat) (hpn : pc + 3 = pn) (ho : 0 ≤ (pc : Int) + o) (hp : ((pc : Int) + o).toNat = pc') {i : Int} (hi : x'.toInt = i) {j : Int} (hj : y'.toInt = j) 
    (hy : j < i → OwnEnds p e below G (T.setTop (mkF m pc' Ls st))) (hn : i ≤ j → OwnEnds p e below G (T.setTop (mkF m pn Ls st))) : OwnEnds p e below G (T.setTop (mkF m pc Ls (.int y' :: .int x' :: st))) := by
  subst hpn
  by_cases k : y' < x'
  · exact own_st (fun _ q => XS.icmpYes X.here C.1 rfl rfl (hb C.2.2.2.1 hd) rfl (((tlt k).2.2.1)) ho hp q) (hy (by rw [Int32.lt_iff_toInt_lt] at k; have q : y'.toInt = j := hj; omega))
  · exact own_st (fun _ q => XS.icmpNo X.here C.1 rfl (hb C.2.2.2.1 hd) rfl (((flt k).2.2.1)) q) (hn (by rw [Int32.lt_iff_toInt_lt] at k; have q : y'.toInt = j := hj; omega))
theorem own_icmple (X : Stand p l e R s m args below meth c T locs cells slots) (C : OwnCx p s m meth c Z y bs maxL rt) {x' y' : Int32} {o : Int} (hd : decode bs pc = .ok (.if_icmp .le o, 3)) (pn pc' : Nat) (hpn : pc + 3 = pn) (ho : 0 ≤ (pc : Int) + o) (hp : ((pc : Int) + o).toNat = pc') {i : Int} (hi : x'.toInt = i) {j : Int} (hj : y'.toInt = j) 
    (hy : i ≤ j → OwnEnds p e below G (T.setTop (mkF m pc' Ls st))) (hn : j < i → OwnEnds p e below G (T.setTop (mkF m pn Ls st))) : OwnEnds p e below G (T.setTop (mkF m pc Ls (.int y' :: .int x' :: st))) := by
  subst hpn
  by_cases k : y' < x'
  · exact own_st (fun _ q => XS.icmpNo X.here C.1 rfl (hb C.2.2.2.1 hd) rfl (((tlt k).2.2.2)) q) (hn (by rw [Int32.lt_iff_toInt_lt] at k; have q : y'.toInt = j := hj; omega))
  · exact own_st (fun _ q => XS.icmpYes X.here C.1 rfl rfl (hb C.2.2.2.1 hd) rfl (((flt k).2.2.2)) ho hp q) (hy (by rw [Int32.lt_iff_toInt_lt] at k; have q : y'.toInt = j := hj; omega))
theorem own_icmpeq (X : Stand p l e R s m args below meth c T locs cells slots) (C : OwnCx p s m meth c Z y bs maxL rt) {x' y' : Int32} {o : Int} (hd : decode bs pc = .ok (.if_icmp .eq o, 3)) (pn pc' : Nat) (hpn : pc + 3 = pn) (ho : 0 ≤ (pc : Int) + o) (hp : ((pc : Int) + o).toNat = pc') {i : Int} (hi : x'.toInt = i) {j : Int} (hj : y'.toInt = j) 
    (hy : i = j → OwnEnds p e below G (T.setTop (mkF m pc' Ls st))) (hn : i ≠ j → OwnEnds p e below G (T.setTop (mkF m pn Ls st))) : OwnEnds p e below G (T.setTop (mkF m pc Ls (.int y' :: .int x' :: st))) := by
  subst hpn
  by_cases k : x' = y'
  · exact own_st (fun _ q => XS.icmpYes X.here C.1 rfl rfl (hb C.2.2.2.1 hd) rfl (((teq k).1)) ho hp q) (hy (by subst k; exact hi.symm.trans hj))
  · exact own_st (fun _ q => XS.icmpNo X.here C.1 rfl (hb C.2.2.2.1 hd) rfl (((feq k).1)) q) (hn (fun q => k (Int32.toInt_inj.mp (hi.trans (q.trans hj.symm)))))
theorem own_icmpne (X : Stand p l e R s m args below meth c T locs cells slots) (C : OwnCx p s m meth c Z y bs maxL rt) {x' y' : Int32} {o : Int} (hd : decode bs pc = .ok (.if_icmp .ne o, 3)) (pn pc' : Nat) (hpn : pc + 3 = pn) (ho : 0 ≤ (pc : Int) + o) (hp : ((pc : Int) + o).toNat = pc') {i : Int} (hi : x'.toInt = i) {j : Int} (hj : y'.toInt = j) 
    (hy : i ≠ j → OwnEnds p e below G (T.setTop (mkF m pc' Ls st))) (hn : i = j → OwnEnds p e below G (T.setTop (mkF m pn Ls st))) : OwnEnds p e below G (T.setTop (mkF m pc Ls (.int y' :: .int x' :: st))) := by
  subst hpn
  by_cases k : x' = y'
  · exact own_st (fun _ q => XS.icmpNo X.here C.1 rfl (hb C.2.2.2.1 hd) rfl (((teq k).2)) q) (hn (by subst k; exact hi.symm.trans hj))
  · exact own_st (fun _ q => XS.icmpYes X.here C.1 rfl rfl (hb C.2.2.2.1 hd) rfl (((feq k).2)) ho hp q) (hy (fun q => k (Int32.toInt_inj.mp (hi.trans (q.trans hj.symm)))))
theorem own_iflt (X : Stand p l e R s m args below meth c T locs cells slots) (C : OwnCx p s m meth c Z y bs maxL rt) {x' : Int32} {o : Int} (hd : decode bs pc = .ok (.ifCond .lt o, 3)) (pn pc' : Nat) (hpn : pc + 3 = pn) (ho : 0 ≤ (pc : Int) + o) (hp : ((pc : Int) + o).toNat = pc') {i : Int} (hi : x'.toInt = i) 
    (hy : i < 0 → OwnEnds p e below G (T.setTop (mkF m pc' Ls st))) (hn : 0 ≤ i → OwnEnds p e below G (T.setTop (mkF m pn Ls st))) : OwnEnds p e below G (T.setTop (mkF m pc Ls (.int x' :: st))) := by
  subst hpn
  by_cases k : x' < (0 : Int32)
  · exact own_st (fun _ q => XS.ifYes X.here C.1 rfl rfl (hb C.2.2.2.1 hd) rfl ((if0 _ _).trans ((tlt k).1)) ho hp q) (hy (by rw [Int32.lt_iff_toInt_lt] at k; have q : (0 : Int32).toInt = 0 := (rfl : (0 : Int32).toInt = 0); omega))
  · exact own_st (fun _ q => XS.ifNo X.here C.1 rfl (hb C.2.2.2.1 hd) rfl ((if0 _ _).trans ((flt k).1)) q) (hn (by rw [Int32.lt_iff_toInt_lt] at k; have q : (0 : Int32).toInt = 0 := (rfl : (0 : Int32).toInt = 0); omega))
theorem own_ifge (X : Stand p l e R s m args below meth c T locs cells slots) (C : OwnCx p s m meth c Z y bs maxL rt) {x' : Int32} {o : Int} (hd : decode bs pc = .ok (.ifCond .ge o, 3)) (pn pc' : Nat) (hpn : pc + 3 = pn) (ho : 0 ≤ (pc : Int) + o) (hp : ((pc : Int) + o).toNat = pc') {i : Int} (hi : x'.toInt = i) 
    (hy : 0 ≤ i → OwnEnds p e below G (T.setTop (mkF m pc' Ls st))) (hn : i < 0 → OwnEnds p e below G (T.setTop (mkF m pn Ls st))) : OwnEnds p e below G (T.setTop (mkF m pc Ls (.int x' :: st))) := by
  subst hpn
  by_cases k : x' < (0 : Int32)
  · exact own_st (fun _ q => XS.ifNo X.here C.1 rfl (hb C.2.2.2.1 hd) rfl ((if0 _ _).trans ((tlt k).2.1)) q) (hn (by rw [Int32.lt_iff_toInt_lt] at k; have q : (0 : Int32).toInt = 0 := (rfl : (0 : Int32).toInt = 0); omega))
  · exact own_st (fun _ q => XS.ifYes X.here C.1 rfl rfl (hb C.2.2.2.1 hd) rfl ((if0 _ _).trans ((flt k).2.1)) ho hp q) (hy (by rw [Int32.lt_iff_toInt_lt] at k; have q : (0 : Int32).toInt = 0 := (rfl : (0 : Int32).toInt = 0); omega))
theorem own_ifgt (X : Stand p l e R s m args below meth c T locs cells slots) (C : OwnCx p s m meth c Z y bs maxL rt) {x' : Int32} {o : Int} (hd : decode bs pc = .ok (.ifCond .gt o, 3)) (pn pc' : Nat) (hpn : pc + 3 = pn) (ho : 0 ≤ (pc : Int) + o) (hp : ((pc : Int) + o).toNat = pc') {i : Int} (hi : x'.toInt = i) 
    (hy : 0 < i → OwnEnds p e below G (T.setTop (mkF m pc' Ls st))) (hn : i ≤ 0 → OwnEnds p e below G (T.setTop (mkF m pn Ls st))) : OwnEnds p e below G (T.setTop (mkF m pc Ls (.int x' :: st))) := by
  subst hpn
  by_cases k : (0 : Int32) < x'
  · exact own_st (fun _ q => XS.ifYes X.here C.1 rfl rfl (hb C.2.2.2.1 hd) rfl ((if0 _ _).trans ((tlt k).2.2.1)) ho hp q) (hy (by rw [Int32.lt_iff_toInt_lt] at k; have q : (0 : Int32).toInt = 0 := (rfl : (0 : Int32).toInt = 0); omega))
  · exact own_st (fun _ q => XS.ifNo X.here C.1 rfl (hb C.2.2.2.1 hd) rfl ((if0 _ _).trans ((flt k).2.2.1)) q) (hn (by rw [Int32.lt_iff_toInt_lt] at k; have q : (0 : Int32).toInt = 0 := (rfl : (0 : Int32).toInt = 0); omega))
theorem own_ifle (X : Stand p l e R s m args below meth c T locs cells slots) (C : OwnCx p s m meth c Z y bs maxL rt) {x' : Int32} {o : Int} (hd : decode bs pc = .ok (.ifCond .le o, 3)) (pn pc' : Nat) (hpn : pc + 3 = pn) (ho : 0 ≤ (pc : Int) + o) (hp : ((pc : Int) + o).toNat = pc') {i : Int} (hi : x'.toInt = i) 
    (hy : i ≤ 0 → OwnEnds p e below G (T.setTop (mkF m pc' Ls st))) (hn : 0 < i → OwnEnds p e below G (T.setTop (mkF m pn Ls st))) : OwnEnds p e below G (T.setTop (mkF m pc Ls (.int x' :: st))) := by
  subst hpn
  by_cases k : (0 : Int32) < x'
  · exact own_st (fun _ q => XS.ifNo X.here C.1 rfl (hb C.2.2.2.1 hd) rfl ((if0 _ _).trans ((tlt k).2.2.2)) q) (hn (by rw [Int32.lt_iff_toInt_lt] at k; have q : (0 : Int32).toInt = 0 := (rfl : (0 : Int32).toInt = 0); omega))
  · exact own_st (fun _ q => XS.ifYes X.here C.1 rfl rfl (hb C.2.2.2.1 hd) rfl ((if0 _ _).trans ((flt k).2.2.2)) ho hp q) (hy (by rw [Int32.lt_iff_toInt_lt] at k; have q : (0 : Int32).toInt = 0 := (rfl : (0 : Int32).toInt = 0); omega))
theorem own_ifeq (X : Stand p l e R s m args below meth c T locs cells slots) (C : OwnCx p s m meth c Z y bs maxL rt) {x' : Int32} {o : Int} (hd : decode bs pc = .ok (.ifCond .eq o, 3)) (pn pc' : Nat) (hpn : pc + 3 = pn) (ho : 0 ≤ (pc : Int) + o) (hp : ((pc : Int) + o).toNat = pc') {i : Int} (hi : x'.toInt = i) 
    (hy : i = 0 → OwnEnds p e below G (T.setTop (mkF m pc' Ls st))) (hn : i ≠ 0 → OwnEnds p e below G (T.setTop (mkF m pn Ls st))) : OwnEnds p e below G (T.setTop (mkF m pc Ls (.int x' :: st))) := by
  subst hpn
  by_cases k : x' = (0 : Int32)
  · exact own_st (fun _ q => XS.ifYes X.here C.1 rfl rfl (hb C.2.2.2.1 hd) rfl ((if0 _ _).trans ((teq k).1)) ho hp q) (hy (by subst k; exact hi.symm.trans (rfl : (0 : Int32).toInt = 0)))
  · exact own_st (fun _ q => XS.ifNo X.here C.1 rfl (hb C.2.2.2.1 hd) rfl ((if0 _ _).trans ((feq k).1)) q) (hn (fun q => k (Int32.toInt_inj.mp (hi.trans (q.trans (rfl : (0 : Int32).toInt = 0).symm)))))
theorem own_ifne (X : Stand p l e R s m args below meth c T locs cells slots) (C : OwnCx p s m meth c Z y bs maxL rt) {x' : Int32} {o : Int} (hd : decode bs pc = .ok (.ifCond .ne o, 3)) (pn pc' : Nat) (hpn : pc + 3 = pn) (ho : 0 ≤ (pc : Int) + o) (hp : ((pc : Int) + o).toNat = pc') {i : Int} (hi : x'.toInt = i) 
    (hy : i ≠ 0 → OwnEnds p e below G (T.setTop (mkF m pc' Ls st))) (hn : i = 0 → OwnEnds p e below G (T.setTop (mkF m pn Ls st))) : OwnEnds p e below G (T.setTop (mkF m pc Ls (.int x' :: st))) := by
  subst hpn
  by_cases k : x' = (0 : Int32)
  · exact own_st (fun _ q => XS.ifNo X.here C.1 rfl (hb C.2.2.2.1 hd) rfl ((if0 _ _).trans ((teq k).2)) q) (hn (by subst k; exact hi.symm.trans (rfl : (0 : Int32).toInt = 0)))
  · exact own_st (fun _ q => XS.ifYes X.here C.1 rfl rfl (hb C.2.2.2.1 hd) rfl ((if0 _ _).trans ((feq k).2)) ho hp q) (hy (fun q => k (Int32.toInt_inj.mp (hi.trans (q.trans (rfl : (0 : Int32).toInt = 0).symm)))))
theorem own_ifnonnull_y (X : Stand p l e R s m args below meth c T locs cells slots) (C : OwnCx p s m meth c Z y bs maxL rt) {b : Addr} {o : Int} (hd : decode bs pc = .ok (.ifnonnull o, 3)) (pc' : Nat) (ho : 0 ≤ (pc : Int) + o) (hp : ((pc : Int) + o).toNat = pc')
    (hr : OwnEnds p e below G (T.setTop (mkF m pc' Ls st))) : OwnEnds p e below G (T.setTop (mkF m pc Ls (.ref b :: st))) :=
  own_st (fun _ q => XS.ifnonnullYes X.here C.1 rfl rfl (hb C.2.2.2.1 hd) rfl ho hp q) hr
theorem own_ifnull_n (X : Stand p l e R s m args below meth c T locs cells slots) (C : OwnCx p s m meth c Z y bs maxL rt) {b : Addr} {o : Int} (hd : decode bs pc = .ok (.ifnull o, 3)) (pn : Nat) (hp : pc + 3 = pn)
    (hr : OwnEnds p e below G (T.setTop (mkF m pn Ls st))) : OwnEnds p e below G (T.setTop (mkF m pc Ls (.ref b :: st))) := by
  subst hp; exact own_st (fun _ q => XS.ifnullNo X.here C.1 rfl (hb C.2.2.2.1 hd) rfl q) hr
theorem own_ifnull_y (X : Stand p l e R s m args below meth c T locs cells slots) (C : OwnCx p s m meth c Z y bs maxL rt) {o : Int} (hd : decode bs pc = .ok (.ifnull o, 3)) (pc' : Nat) (ho : 0 ≤ (pc : Int) + o) (hp : ((pc : Int) + o).toNat = pc')
    (hr : OwnEnds p e below G (T.setTop (mkF m pc' Ls st))) : OwnEnds p e below G (T.setTop (mkF m pc Ls (.null :: st))) :=
  own_st (fun _ q => XS.ifnullYes X.here C.1 rfl rfl (hb C.2.2.2.1 hd) rfl ho hp q) hr
theorem own_ifnonnull_n (X : Stand p l e R s m args below meth c T locs cells slots) (C : OwnCx p s m meth c Z y bs maxL rt) {o : Int} (hd : decode bs pc = .ok (.ifnonnull o, 3)) (pn : Nat) (hp : pc + 3 = pn)
    (hr : OwnEnds p e below G (T.setTop (mkF m pn Ls st))) : OwnEnds p e below G (T.setTop (mkF m pc Ls (.null :: st))) := by
  subst hp; exact own_st (fun _ q => XS.ifnonnullNo X.here C.1 rfl (hb C.2.2.2.1 hd) rfl q) hr
theorem own_acmpeq (X : Stand p l e R s m args below meth c T locs cells slots) (C : OwnCx p s m meth c Z y bs maxL rt) {a b : Addr} {o : Int} (hd : decode bs pc = .ok (.if_acmp .eq o, 3)) (pn pc' : Nat) (hpn : pc + 3 = pn) (ho : 0 ≤ (pc : Int) + o) (hp : ((pc : Int) + o).toNat = pc')
    (hy : a = b → OwnEnds p e below G (T.setTop (mkF m pc' Ls st))) (hn : a ≠ b → OwnEnds p e below G (T.setTop (mkF m pn Ls st))) : OwnEnds p e below G (T.setTop (mkF m pc Ls (.ref b :: .ref a :: st))) := by
  subst hpn
  by_cases k : a = b
  · exact own_st (fun _ q => XS.acmpYes X.here C.1 rfl rfl (hb C.2.2.2.1 hd) rfl (by simp [if_acmp.holds, k]) ho hp q) (hy k)
  · exact own_st (fun _ q => XS.acmpNo X.here C.1 rfl (hb C.2.2.2.1 hd) rfl (by simp [if_acmp.holds, k]) q) (hn k)
theorem own_acmpne (X : Stand p l e R s m args below meth c T locs cells slots) (C : OwnCx p s m meth c Z y bs maxL rt) {a b : Addr} {o : Int} (hd : decode bs pc = .ok (.if_acmp .ne o, 3)) (pn pc' : Nat) (hpn : pc + 3 = pn) (ho : 0 ≤ (pc : Int) + o) (hp : ((pc : Int) + o).toNat = pc')
    (hy : a ≠ b → OwnEnds p e below G (T.setTop (mkF m pc' Ls st))) (hn : a = b → OwnEnds p e below G (T.setTop (mkF m pn Ls st))) : OwnEnds p e below G (T.setTop (mkF m pc Ls (.ref b :: .ref a :: st))) := by
  subst hpn
  by_cases k : a = b
  · exact own_st (fun _ q => XS.acmpNo X.here C.1 rfl (hb C.2.2.2.1 hd) rfl (by simp [if_acmp.holds, k]) q) (hn k)
  · exact own_st (fun _ q => XS.acmpYes X.here C.1 rfl rfl (hb C.2.2.2.1 hd) rfl (by simp [if_acmp.holds, k]) ho hp q) (hy k)
theorem own_leave (X : Stand p l e R s m args below meth c T locs cells slots) (C : OwnCx p s m meth c Z y bs maxL rt) (v : Option Value) (hv : meth.sig.returnType = none → v = none) (hce : cells ≤ ce) (hsl : slots ≤ sl) (hQ : Q v T.heap locs) {S : State}
    (k : ∀ fs, (∀ (f : JFrame) (acts : List Action), f.method = m → f.locked = none → f.entered = [] → (doReturn e (T.setTop f) acts v).1 = T.setFrames fs) → Steps p.tables e below S (T.setFrames fs)) : OwnEnds p e below (OwnG s ce sl Q) S := by
  obtain ⟨fs, hr, hrun, hended, hW, hsame⟩ := X.leave (v := v) hv C.2.2.2.2.2.2.1
  exact ⟨_, _, k fs hr, hrun, hended, _, _, rfl, hQ, ⟨_, rfl⟩, hW, hsame.mono hce hsl⟩
theorem own_return (X : Stand p l e R s m args below meth c T locs cells slots) (C : OwnCx p s m meth c Z y bs maxL rt) (hrt : rt = none) (hd : decode bs pc = .ok (.return_, 1)) (hce : cells ≤ ce) (hsl : slots ≤ sl) (hQ : Q none T.heap locs) : OwnEnds p e below (OwnG s ce sl Q) (T.setTop (mkF m pc Ls [])) := by
  subst hrt
  exact own_leave X C none (fun _ => rfl) hce hsl hQ fun fs hr => X.returnOut C.1 C.2.2.2.2.2.1 (hb C.2.2.2.1 hd) hr
theorem own_iretN (X : Stand p l e R s m args below meth c T locs cells slots) (C : OwnCx p s m meth c Z y bs maxL rt) {z : Int32} (t : FieldType) (hrt : rt = some t) (ht : t = .boolean ∨ t = .byte ∨ t = .char ∨ t = .short) (hd : decode bs pc = .ok (.ireturn, 1)) (hce : cells ≤ ce) (hsl : slots ≤ sl) (w : Int32) (hw : nar t z = w) (hQ : Q (some (.int w)) T.heap locs) : OwnEnds p e below (OwnG s ce sl Q) (T.setTop (mkF m pc Ls (.int z :: st))) := by
  subst hrt hw
  exact own_leave X C (some (.int (nar t z))) (fun q => by rw [C.2.2.2.2.2.1] at q; cases q) hce hsl hQ fun fs hr => retN X C.1 C.2.2.2.2.2.1 ht (hb C.2.2.2.1 hd) hr
theorem own_ireturn (X : Stand p l e R s m args below meth c T locs cells slots) (C : OwnCx p s m meth c Z y bs maxL rt) {z : Int32} (hrt : rt = some .int) (hd : decode bs pc = .ok (.ireturn, 1)) (hce : cells ≤ ce) (hsl : slots ≤ sl) (hQ : Q (some (.int z)) T.heap locs) : OwnEnds p e below (OwnG s ce sl Q) (T.setTop (mkF m pc Ls (.int z :: st))) := by
  subst hrt
  exact own_leave X C (some (.int z)) (fun q => by rw [C.2.2.2.2.2.1] at q; cases q) hce hsl hQ fun fs hr => retOut X C.1 C.2.2.2.2.2.1 rfl (Or.inl ⟨rfl, Or.inl rfl, z, rfl⟩) (hb C.2.2.2.1 hd) hr
theorem own_lreturn (X : Stand p l e R s m args below meth c T locs cells slots) (C : OwnCx p s m meth c Z y bs maxL rt) {z : Int64} (hrt : rt = some .long) (hd : decode bs pc = .ok (.lreturn, 1)) (hce : cells ≤ ce) (hsl : slots ≤ sl) (hQ : Q (some (.long z)) T.heap locs) : OwnEnds p e below (OwnG s ce sl Q) (T.setTop (mkF m pc Ls (.long z :: st))) := by
  subst hrt
  exact own_leave X C (some (.long z)) (fun q => by rw [C.2.2.2.2.2.1] at q; cases q) hce hsl hQ fun fs hr => retOut X C.1 C.2.2.2.2.2.1 rfl (Or.inr (Or.inl ⟨rfl, rfl, z, rfl⟩)) (hb C.2.2.2.1 hd) hr
theorem own_areturn (X : Stand p l e R s m args below meth c T locs cells slots) (C : OwnCx p s m meth c Z y bs maxL rt) {z : Value} (t : FieldType) (hrt : rt = some t) (ht : t.isReference = true) (hz : z.isRef = true) (hn : narrow t z = z) (hd : decode bs pc = .ok (.areturn, 1)) (hce : cells ≤ ce) (hsl : slots ≤ sl) (hQ : Q (some z) T.heap locs) : OwnEnds p e below (OwnG s ce sl Q) (T.setTop (mkF m pc Ls (z :: st))) := by
  subst hrt
  exact own_leave X C (some z) (fun q => by rw [C.2.2.2.2.2.1] at q; cases q) hce hsl hQ fun fs hr => retOut X C.1 C.2.2.2.2.2.1 hn (Or.inr (Or.inr (Or.inr (Or.inr ⟨rfl, ht, hz⟩)))) (hb C.2.2.2.1 hd) hr
theorem own_callS (X : Stand p l e R s m args below meth c T locs cells slots) (C : OwnCx p s m meth c Z y bs maxL rt) {idx : Nat} {y' : MethodName} {bs' : ByteArray} {maxL' : Nat} {rt' : Option FieldType} {rm : Room} {as' : Array Value} {Q' : Option Value → Heap → List Loc → Prop}
    (w1 : (Jvm.Cond.methodLink y.cls idx y').before a0 Z = true) (w2 : (Jvm.Cond.static y').before a0 Z = true) (w3 : (Jvm.Cond.initialized y'.cls).before a0 Z = true) (w4 : (Jvm.Cond.code y' bs' maxL' rt').before a0 Z = true) (hy : y'.cls ≠ "java/lang/invoke/MethodHandle" ∧ y'.cls ≠ "java/lang/invoke/VarHandle")
    (hM : OwnMet l Z y' bs' maxL' rt' [] rm as' h Q') (eT : T.heap = h) {ps : List FieldType} {r : Option FieldType} (hpd : parseMethodDescriptor y'.desc = some ⟨ps, r⟩) (argsL : List Value) (has : argsL.toArray = as') (hlen : argsL.length = ps.length) (hst : st = argsL.reverse ++ rest) (hsz : Ls.size = maxL)
    (W : Nat) (hW : (rest.map fun v => v.category).sum = W) (hf : rm.frames + 1 ≤ R.frames) (hlo : W + (maxL' + 11) + rm.locals ≤ R.locals) (hce : cells + rm.cells ≤ R.cells) (hsl : slots + rm.slots ≤ R.slots) (hd : decode bs pc = .ok (.invokestatic idx, 3)) (pc' : Nat) (hp : pc + 3 = pc')
    (hr : ∀ T' L v, Stand p l e R s m args below meth c T' (locs ++ L) (cells + rm.cells) (slots + rm.slots) → Q' v T'.heap L → OwnEnds p e below G (T'.setTop (mkF m pc' Ls (v.toList ++ rest)))) : OwnEnds p e below G (T.setTop (mkF m pc Ls st)) := by
  subst hp has hW
  obtain ⟨v, _, ⟨T', L, k, n⟩, -, X', ⟨L', hQ, l1, l2, l3⟩, stp⟩ := Jvm.LawKit.callS X C.1 C.2.2.1 (mvT C.2.1 w1) (mvT C.2.1 w2) (mvT C.2.1 w3) (mvT C.2.1 w4) hy (backOf (len := 3) (W := (rest.map fun v => v.category).sum) hM C.2.1 w4 w3 hf hlo) (g := mkF m pc Ls st) rfl (by rw [C.2.2.2.2.1]; exact hsz) (argsL := argsL) (rest := rest) (lenOf hpd hlen) hst (by show 2 * 0 + _ ≤ _; omega) (hb C.2.2.2.1 hd) (fun _ _ => ⟨rfl, eT, hce, hsl⟩)
  dsimp only [Pt.U, Pt.locs, Pt.cells, Pt.slots] at X' l1 l2 l3 stp hQ
  subst l1 l2 l3
  exact own_st stp (hr T' L' v X' hQ)
/-- a callee that returns w and leaves the heap alone -/
def OwnPure (w : Value) (h : Heap) : Option Value → Heap → List Loc → Prop := fun v h' L => v = some w ∧ h' = h ∧ L = []
theorem own_conv {ws : List Jvm.Cond} {rm : Room} {as' : Array Value} {w w' : Value} (H : OwnMet l Z y bs maxL rt ws rm as' h (OwnPure w h)) (q : w = w') : OwnMet l Z y bs maxL rt ws rm as' h (OwnPure w' h) := q ▸ H
theorem own_callP (X : Stand p l e R s m args below meth c T locs cells slots) (C : OwnCx p s m meth c Z y bs maxL rt) {idx : Nat} {y' : MethodName} {bs' : ByteArray} {maxL' : Nat} {rt' : Option FieldType} {rm : Room} {as' : Array Value} {w : Value}
    (w1 : (Jvm.Cond.methodLink y.cls idx y').before a0 Z = true) (w2 : (Jvm.Cond.static y').before a0 Z = true) (w3 : (Jvm.Cond.initialized y'.cls).before a0 Z = true) (w4 : (Jvm.Cond.code y' bs' maxL' rt').before a0 Z = true) (hy : y'.cls ≠ "java/lang/invoke/MethodHandle" ∧ y'.cls ≠ "java/lang/invoke/VarHandle")
    (hM : OwnMet l Z y' bs' maxL' rt' [] rm as' h (OwnPure w h)) (eT : T.heap = h) {ps : List FieldType} {r : Option FieldType} (hpd : parseMethodDescriptor y'.desc = some ⟨ps, r⟩) (argsL : List Value) (has : argsL.toArray = as') (hlen : argsL.length = ps.length) (hst : st = argsL.reverse ++ rest) (hsz : Ls.size = maxL)
    (W : Nat) (hW : (rest.map fun v => v.category).sum = W) (hf : rm.frames + 1 ≤ R.frames) (hlo : W + (maxL' + 11) + rm.locals ≤ R.locals) (hce : rm.cells = 0) (hsl : rm.slots = 0) (hc0 : cells ≤ R.cells) (hs0 : slots ≤ R.slots) (hd : decode bs pc = .ok (.invokestatic idx, 3)) (pc' : Nat) (hp : pc + 3 = pc')
    (hr : ∀ T', Stand p l e R s m args below meth c T' locs cells slots → T'.heap = h → OwnEnds p e below G (T'.setTop (mkF m pc' Ls (w :: rest)))) : OwnEnds p e below G (T.setTop (mkF m pc Ls st)) := by
  refine own_callS X C w1 w2 w3 w4 hy hM eT hpd argsL has hlen hst hsz W hW hf hlo (by omega) (by omega) hd pc' hp ?_
  rintro T' L v X' ⟨rfl, e, rfl⟩
  rw [List.append_nil, hce, hsl] at X'
  exact hr T' X' e
/-- a callee that leaves the heap alone and returns a value of which Pw says something -/
def OwnSome (Pw : Value → Prop) (h : Heap) : Option Value → Heap → List Loc → Prop := fun v h' L => (∃ w, v = some w ∧ Pw w) ∧ h' = h ∧ L = []
theorem own_callE (X : Stand p l e R s m args below meth c T locs cells slots) (C : OwnCx p s m meth c Z y bs maxL rt) {idx : Nat} {y' : MethodName} {bs' : ByteArray} {maxL' : Nat} {rt' : Option FieldType} {rm : Room} {as' : Array Value} {Pw : Value → Prop}
    (w1 : (Jvm.Cond.methodLink y.cls idx y').before a0 Z = true) (w2 : (Jvm.Cond.static y').before a0 Z = true) (w3 : (Jvm.Cond.initialized y'.cls).before a0 Z = true) (w4 : (Jvm.Cond.code y' bs' maxL' rt').before a0 Z = true) (hy : y'.cls ≠ "java/lang/invoke/MethodHandle" ∧ y'.cls ≠ "java/lang/invoke/VarHandle")
    (hM : OwnMet l Z y' bs' maxL' rt' [] rm as' h (OwnSome Pw h)) (eT : T.heap = h) {ps : List FieldType} {r : Option FieldType} (hpd : parseMethodDescriptor y'.desc = some ⟨ps, r⟩) (argsL : List Value) (has : argsL.toArray = as') (hlen : argsL.length = ps.length) (hst : st = argsL.reverse ++ rest) (hsz : Ls.size = maxL)
    (W : Nat) (hW : (rest.map fun v => v.category).sum = W) (hf : rm.frames + 1 ≤ R.frames) (hlo : W + (maxL' + 11) + rm.locals ≤ R.locals) (hce : rm.cells = 0) (hsl : rm.slots = 0) (hc0 : cells ≤ R.cells) (hs0 : slots ≤ R.slots) (hd : decode bs pc = .ok (.invokestatic idx, 3)) (pc' : Nat) (hp : pc + 3 = pc')
    (hr : ∀ T' w, Pw w → Stand p l e R s m args below meth c T' locs cells slots → T'.heap = h → OwnEnds p e below G (T'.setTop (mkF m pc' Ls (w :: rest)))) : OwnEnds p e below G (T.setTop (mkF m pc Ls st)) := by
  refine own_callS X C w1 w2 w3 w4 hy hM eT hpd argsL has hlen hst hsz W hW hf hlo (by omega) (by omega) hd pc' hp ?_
  rintro T' L v X' ⟨⟨w, rfl, hw⟩, e, rfl⟩
  rw [List.append_nil, hce, hsl] at X'
  exact hr T' w hw X' e
end OwnLayer
section OwnHeap
variable {p : Program} {l : Launch} {e : Env} {R : Room} {s : State} {m : MethodId} {args : Array Value} {below : List Frame} {meth : Method} {c : Code} {T : State} {locs : List Loc} {cells slots : Nat} {Z : State} {y : MethodName} {bs : ByteArray} {maxL : Nat} {rt : Option FieldType} {ce sl : Nat} {Q : Option Value → Heap → List Loc → Prop} {G : Outcome → State → Prop} {pc : Nat} {Ls : Array Slot} {st rest : List Value} {h h' : Heap} {a0 : Array Value} {a : Addr}
/-- an array: its length and what lies at each place -/
def OwnAr (Z : State) (h : Heap) (a : Addr) (ty : FieldType) (n : Nat) (f : Nat → Value) : Prop := ∃ cl : Cell, Arr Z h a cl ty ∧ cl.slots.size = n ∧ ∀ i, i < n → cl.slots[i]? = some (f i)
theorem OwnAr.lt {ty : FieldType} {n : Nat} {f : Nat → Value} (F : OwnAr Z h a ty n f) : a < h.size := by obtain ⟨cl, A, -⟩ := F; exact A.lt
theorem OwnAr.ext {ty : FieldType} {n : Nat} {f : Nat → Value} (F : OwnAr Z h a ty n f) (E : Ext h h') : OwnAr Z h' a ty n f := by obtain ⟨cl, A, r⟩ := F; exact ⟨cl, A.ext E, r⟩
theorem OwnAr.other {ty : FieldType} {n : Nat} {f : Nat → Value} {b : Addr} {sl : Nat} {v : Value} (F : OwnAr Z h a ty n f) (W : Wr h h' b sl v) (q : a ≠ b) : OwnAr Z h' a ty n f := by obtain ⟨cl, A, r⟩ := F; exact ⟨cl, A.other W q, r⟩
theorem OwnAr.keep {ty : FieldType} {n : Nat} {f : Nat → Value} {ws : List Addr} (F : OwnAr Z h a ty n f) (K : Keep h h' ws) (q : a ∉ ws) : OwnAr Z h' a ty n f := by obtain ⟨cl, A, r⟩ := F; exact ⟨cl, ⟨K.2.1 a cl A.1 q, A.2⟩, r⟩
theorem OwnAr.eqv {ty : FieldType} {n : Nat} {f g : Nat → Value} (F : OwnAr Z h a ty n f) (q : ∀ i, i < n → f i = g i) : OwnAr Z h a ty n g := by obtain ⟨cl, A, S, r⟩ := F; exact ⟨cl, A, S, fun i hi => by rw [r i hi, q i hi]⟩
theorem OwnAr.set {ty : FieldType} {n : Nat} {f : Nat → Value} {k : Nat} {v : Value} (F : OwnAr Z h a ty n f) (W : Wr h h' a k v) : OwnAr Z h' a ty n (fun i => if i = k then v else f i) := by
  obtain ⟨cl, A, S, r⟩ := F
  obtain ⟨cl', w1, w2, w3, w4⟩ := id W
  cases A.1.symm.trans w1
  refine ⟨cl.setSlot k v, A.same W, by rw [sz_set]; exact S, fun i hi => ?_⟩
  by_cases q : i = k
  · subst q; simp [Cell.setSlot, w3]
  · simp [Cell.setSlot, q, Array.getElem?_setIfInBounds_ne (Ne.symm q), r i hi]
theorem OwnAr.new {ty : FieldType} {n : Int32} {cA : ClassId} (A : Arr Z h a (newA cA ty n) ty) : OwnAr Z h a ty n.toNatClampNeg (fun _ => defaultValue ty) := ⟨_, A, sz_new _ _ _, fun i hi => by simp [newA, hi]⟩
theorem own_fr1 {k : Nat} {L : List Loc} {a : Addr} {sl : Nat} (N : Fr k L) (q : k ≤ a) : Fr k (L ++ [⟨a, sl⟩]) := N.app fun y hy => by cases List.mem_singleton.mp hy; exact q
theorem own_stak {C n d : String} {v : Value} (F : Sta Z h C n d v) (K : Keep h h' []) : Sta Z h' C n d v := by
  obtain ⟨cf, i, k, f, st, cell, h1, h2, h3, h4, h5, r⟩ := F
  exact ⟨cf, i, k, f, st, cell, h1, h2, h3, h4, K.2.1 _ _ h5 nin0, r⟩
theorem own_arl {a : Nat} {ty : FieldType} {n : Nat} {f : Nat → Value} (F : OwnAr Z h a ty n f) : a < h.size := F.lt
theorem own_exl {a : Nat} {K : String} (F : Exa Z h a K) : a < h.size := F.lt
theorem own_iteI {q : Prop} [Decidable q] {a b : Int32} : (if q then Value.int a else Value.int b) = Value.int (if q then a else b) := by split <;> rfl
theorem own_iteL {q : Prop} [Decidable q] {a b : Int64} : (if q then Value.long a else Value.long b) = Value.long (if q then a else b) := by split <;> rfl
theorem own_ne {x y : Nat} (q : x ≠ y) : @Ne Addr x y := q
theorem own_in {j : Int32} {n : Nat} (h0 : 0 ≤ j.toInt) (h1 : j.toInt < n) : ¬ (j < 0 ∨ n ≤ j.toNatClampNeg) := by
  rintro (q | q)
  · rw [Int32.lt_iff_toInt_lt] at q; have : (0 : Int32).toInt = 0 := rfl; omega
  · have e : j.toNatClampNeg = j.toInt.toNat := rfl
    omega
theorem own_len {n : Nat} (h : n < 2147483648) : (n.toInt32).toInt = n := by
  show (Int32.ofNat n).toInt = _
  rw [Int32.toInt_ofNat_of_lt (by omega)]
theorem own_iastore (X : Stand p l e R s m args below meth c T locs cells slots) (C : OwnCx p s m meth c Z y bs maxL rt) {v : Int32} {j : Int32} {n : Nat} {f : Nat → Value} (eT : T.heap = h) (F : OwnAr Z h a .int n f) (h0 : 0 ≤ j.toInt) (h1 : j.toInt < n) (hd : decode bs pc = .ok (.iastore, 1)) (pc' : Nat) (hp : pc + 1 = pc')
    (hr : ∀ T' h', Stand p l e R s m args below meth c T' (locs ++ [⟨a, j.toInt.toNat⟩]) cells slots → T'.heap = h' → Wr h h' a j.toInt.toNat (.int v) → OwnEnds p e below G (T'.setTop (mkF m pc' Ls st))) : OwnEnds p e below G (T.setTop (mkF m pc Ls ((.int v) :: .int j :: .ref a :: st))) := by
  subst hp
  obtain ⟨cl, A, S, r⟩ := F
  obtain ⟨T', h', X', e', W, stp⟩ := stI X C.1 C.2.1 eT A (j := j) (x := v) (by rw [S]; exact own_in h0 h1) (g := mkF m pc Ls _) rfl rfl (hb C.2.2.2.1 hd)
  exact own_st stp (hr T' h' X' e' W)
theorem own_lastore (X : Stand p l e R s m args below meth c T locs cells slots) (C : OwnCx p s m meth c Z y bs maxL rt) {v : Int64} {j : Int32} {n : Nat} {f : Nat → Value} (eT : T.heap = h) (F : OwnAr Z h a .long n f) (h0 : 0 ≤ j.toInt) (h1 : j.toInt < n) (hd : decode bs pc = .ok (.lastore, 1)) (pc' : Nat) (hp : pc + 1 = pc')
    (hr : ∀ T' h', Stand p l e R s m args below meth c T' (locs ++ [⟨a, j.toInt.toNat⟩]) cells slots → T'.heap = h' → Wr h h' a j.toInt.toNat (.long v) → OwnEnds p e below G (T'.setTop (mkF m pc' Ls st))) : OwnEnds p e below G (T.setTop (mkF m pc Ls ((.long v) :: .int j :: .ref a :: st))) := by
  subst hp
  obtain ⟨cl, A, S, r⟩ := F
  obtain ⟨T', h', X', e', W, stp⟩ := stJ X C.1 C.2.1 eT A (j := j) (x := v) (by rw [S]; exact own_in h0 h1) (g := mkF m pc Ls _) rfl rfl (hb C.2.2.2.1 hd)
  exact own_st stp (hr T' h' X' e' W)
theorem own_bastoreB (X : Stand p l e R s m args below meth c T locs cells slots) (C : OwnCx p s m meth c Z y bs maxL rt) {v : Int32} {j : Int32} {n : Nat} {f : Nat → Value} (eT : T.heap = h) (F : OwnAr Z h a .byte n f) (h0 : 0 ≤ j.toInt) (h1 : j.toInt < n) (hd : decode bs pc = .ok (.bastore, 1)) (pc' : Nat) (hp : pc + 1 = pc') (w : Int32) (hw : v.toInt8.toInt32 = w)
    (hr : ∀ T' h', Stand p l e R s m args below meth c T' (locs ++ [⟨a, j.toInt.toNat⟩]) cells slots → T'.heap = h' → Wr h h' a j.toInt.toNat (.int w) → OwnEnds p e below G (T'.setTop (mkF m pc' Ls st))) : OwnEnds p e below G (T.setTop (mkF m pc Ls (.int v :: .int j :: .ref a :: st))) := by
  subst hp hw
  obtain ⟨cl, A, S, r⟩ := F
  obtain ⟨T', h', X', e', W, stp⟩ := stB X C.1 C.2.1 eT A (j := j) (x := v) (by rw [S]; exact own_in h0 h1) (g := mkF m pc Ls _) rfl rfl (hb C.2.2.2.1 hd)
  exact own_st stp (hr T' h' X' e' W)
theorem own_castore (X : Stand p l e R s m args below meth c T locs cells slots) (C : OwnCx p s m meth c Z y bs maxL rt) {v : Int32} {j : Int32} {n : Nat} {f : Nat → Value} (eT : T.heap = h) (F : OwnAr Z h a .char n f) (h0 : 0 ≤ j.toInt) (h1 : j.toInt < n) (hd : decode bs pc = .ok (.castore, 1)) (pc' : Nat) (hp : pc + 1 = pc') (w : Int32) (hw : nar .char v = w)
    (hr : ∀ T' h', Stand p l e R s m args below meth c T' (locs ++ [⟨a, j.toInt.toNat⟩]) cells slots → T'.heap = h' → Wr h h' a j.toInt.toNat (.int w) → OwnEnds p e below G (T'.setTop (mkF m pc' Ls st))) : OwnEnds p e below G (T.setTop (mkF m pc Ls (.int v :: .int j :: .ref a :: st))) := by
  subst hp hw
  obtain ⟨cl, A, S, r⟩ := F
  obtain ⟨T', h', X', e', W, stp⟩ := stC X C.1 C.2.1 eT A (j := j) (x := v) (by rw [S]; exact own_in h0 h1) (g := mkF m pc Ls _) rfl rfl (hb C.2.2.2.1 hd)
  exact own_st stp (hr T' h' X' e' W)
theorem own_bastoreZ (X : Stand p l e R s m args below meth c T locs cells slots) (C : OwnCx p s m meth c Z y bs maxL rt) {v : Int32} {j : Int32} {n : Nat} {f : Nat → Value} (eT : T.heap = h) (F : OwnAr Z h a .boolean n f) (h0 : 0 ≤ j.toInt) (h1 : j.toInt < n) (hd : decode bs pc = .ok (.bastore, 1)) (pc' : Nat) (hp : pc + 1 = pc') (w : Int32) (hw : nar .boolean v = w)
    (hr : ∀ T' h', Stand p l e R s m args below meth c T' (locs ++ [⟨a, j.toInt.toNat⟩]) cells slots → T'.heap = h' → Wr h h' a j.toInt.toNat (.int w) → OwnEnds p e below G (T'.setTop (mkF m pc' Ls st))) : OwnEnds p e below G (T.setTop (mkF m pc Ls (.int v :: .int j :: .ref a :: st))) := by
  subst hp hw
  obtain ⟨cl, A, S, r⟩ := F
  obtain ⟨T', h', X', e', W, stp⟩ := stZ X C.1 C.2.1 eT A (j := j) (x := v) (by rw [S]; exact own_in h0 h1) (g := mkF m pc Ls _) rfl rfl (hb C.2.2.2.1 hd)
  exact own_st stp (hr T' h' X' e' W)
theorem own_iaload (X : Stand p l e R s m args below meth c T locs cells slots) (C : OwnCx p s m meth c Z y bs maxL rt) {j : Int32} {n : Nat} {f : Nat → Value} (eT : T.heap = h) (F : OwnAr Z h a .int n f) (h0 : 0 ≤ j.toInt) (h1 : j.toInt < n) (hd : decode bs pc = .ok (.iaload, 1)) (pc' : Nat) (hp : pc + 1 = pc') (v : Value) (hv : f j.toInt.toNat = v)
    (hr : OwnEnds p e below G (T.setTop (mkF m pc' Ls (v :: st)))) : OwnEnds p e below G (T.setTop (mkF m pc Ls (.int j :: .ref a :: st))) := by
  subst hp hv
  obtain ⟨cl, A, S, r⟩ := F
  exact own_st (fun _ q => X.iaload C.1 (j := j) (v := f j.toInt.toNat) (by rw [eT]; exact A.1) (State.isArrayOf_alike C.2.1.alike A.2.1) A.2.2 (by rw [S]; exact own_in h0 h1) (show cl.slots[j.toNatClampNeg]? = _ from r j.toInt.toNat (by omega)) (g := mkF m pc Ls _) rfl rfl (hb C.2.2.2.1 hd) _ q) hr
theorem own_laload (X : Stand p l e R s m args below meth c T locs cells slots) (C : OwnCx p s m meth c Z y bs maxL rt) {j : Int32} {n : Nat} {f : Nat → Value} (eT : T.heap = h) (F : OwnAr Z h a .long n f) (h0 : 0 ≤ j.toInt) (h1 : j.toInt < n) (hd : decode bs pc = .ok (.laload, 1)) (pc' : Nat) (hp : pc + 1 = pc') (v : Value) (hv : f j.toInt.toNat = v)
    (hr : OwnEnds p e below G (T.setTop (mkF m pc' Ls (v :: st)))) : OwnEnds p e below G (T.setTop (mkF m pc Ls (.int j :: .ref a :: st))) := by
  subst hp hv
  obtain ⟨cl, A, S, r⟩ := F
  exact own_st (fun _ q => X.laload C.1 (j := j) (v := f j.toInt.toNat) (by rw [eT]; exact A.1) (State.isArrayOf_alike C.2.1.alike A.2.1) A.2.2 (by rw [S]; exact own_in h0 h1) (show cl.slots[j.toNatClampNeg]? = _ from r j.toInt.toNat (by omega)) (g := mkF m pc Ls _) rfl rfl (hb C.2.2.2.1 hd) _ q) hr
theorem own_caload (X : Stand p l e R s m args below meth c T locs cells slots) (C : OwnCx p s m meth c Z y bs maxL rt) {j : Int32} {n : Nat} {f : Nat → Value} (eT : T.heap = h) (F : OwnAr Z h a .char n f) (h0 : 0 ≤ j.toInt) (h1 : j.toInt < n) (hd : decode bs pc = .ok (.caload, 1)) (pc' : Nat) (hp : pc + 1 = pc') (v : Value) (hv : f j.toInt.toNat = v)
    (hr : OwnEnds p e below G (T.setTop (mkF m pc' Ls (v :: st)))) : OwnEnds p e below G (T.setTop (mkF m pc Ls (.int j :: .ref a :: st))) := by
  subst hp hv
  obtain ⟨cl, A, S, r⟩ := F
  exact own_st (fun _ q => X.caload C.1 (j := j) (v := f j.toInt.toNat) (by rw [eT]; exact A.1) (State.isArrayOf_alike C.2.1.alike A.2.1) A.2.2 (by rw [S]; exact own_in h0 h1) (show cl.slots[j.toNatClampNeg]? = _ from r j.toInt.toNat (by omega)) (g := mkF m pc Ls _) rfl rfl (hb C.2.2.2.1 hd) _ q) hr
theorem own_baloadB (X : Stand p l e R s m args below meth c T locs cells slots) (C : OwnCx p s m meth c Z y bs maxL rt) {j : Int32} {n : Nat} {f : Nat → Value} (eT : T.heap = h) (F : OwnAr Z h a .byte n f) (h0 : 0 ≤ j.toInt) (h1 : j.toInt < n) (hd : decode bs pc = .ok (.baload, 1)) (pc' : Nat) (hp : pc + 1 = pc') (v : Value) (hv : f j.toInt.toNat = v)
    (hr : OwnEnds p e below G (T.setTop (mkF m pc' Ls (v :: st)))) : OwnEnds p e below G (T.setTop (mkF m pc Ls (.int j :: .ref a :: st))) := by
  subst hp hv
  obtain ⟨cl, A, S, r⟩ := F
  exact own_st (fun _ q => X.baloadBytes C.1 (j := j) (v := f j.toInt.toNat) (by rw [eT]; exact A.1) (State.isArrayOf_alike C.2.1.alike A.2.1) A.2.2 (by rw [S]; exact own_in h0 h1) (show cl.slots[j.toNatClampNeg]? = _ from r j.toInt.toNat (by omega)) (g := mkF m pc Ls _) rfl rfl (hb C.2.2.2.1 hd) _ q) hr
theorem own_baloadZ (X : Stand p l e R s m args below meth c T locs cells slots) (C : OwnCx p s m meth c Z y bs maxL rt) {j : Int32} {n : Nat} {f : Nat → Value} (eT : T.heap = h) (F : OwnAr Z h a .boolean n f) (h0 : 0 ≤ j.toInt) (h1 : j.toInt < n) (hd : decode bs pc = .ok (.baload, 1)) (pc' : Nat) (hp : pc + 1 = pc') (v : Value) (hv : f j.toInt.toNat = v)
    (hr : OwnEnds p e below G (T.setTop (mkF m pc' Ls (v :: st)))) : OwnEnds p e below G (T.setTop (mkF m pc Ls (.int j :: .ref a :: st))) := by
  subst hp hv
  obtain ⟨cl, A, S, r⟩ := F
  exact own_st (fun _ q => X.baloadBooleans C.1 (j := j) (v := f j.toInt.toNat) (by rw [eT]; exact A.1) (State.isArrayOf_alike C.2.1.alike A.2.1) A.2.2 (by rw [S]; exact own_in h0 h1) (show cl.slots[j.toNatClampNeg]? = _ from r j.toInt.toNat (by omega)) (g := mkF m pc Ls _) rfl rfl (hb C.2.2.2.1 hd) _ q) hr
theorem own_arraylength (X : Stand p l e R s m args below meth c T locs cells slots) (C : OwnCx p s m meth c Z y bs maxL rt) {ty : FieldType} {n : Nat} {f : Nat → Value} (eT : T.heap = h) (F : OwnAr Z h a ty n f) (hd : decode bs pc = .ok (.arraylength, 1)) (pc' : Nat) (hp : pc + 1 = pc') (hn : n < 2147483648)
    (hr : ∀ z : Int32, z.toInt = n → z = n.toInt32 → OwnEnds p e below G (T.setTop (mkF m pc' Ls (.int z :: st)))) : OwnEnds p e below G (T.setTop (mkF m pc Ls (.ref a :: st))) := by
  subst hp
  obtain ⟨cl, A, S, r⟩ := F
  have k := hr n.toInt32 (own_len hn) rfl
  rw [← S] at k
  exact own_st (fun _ q => X.arraylength C.1 (by rw [eT]; exact A.1) (State.isArrayOf_alike C.2.1.alike A.2.1) (g := mkF m pc Ls _) rfl rfl (hb C.2.2.2.1 hd) _ q) k
theorem own_newarray (X : Stand p l e R s m args below meth c T locs cells slots) (C : OwnCx p s m meth c Z y bs maxL rt) {aty : ArrayType} {n : Int32} (w : (Jvm.Cond.arrayClass (newarray.typeOf aty)).before a0 Z = true) (eT : T.heap = h) (hd : decode bs pc = .ok (.newarray aty, 2)) (pc' : Nat) (hp : pc + 2 = pc') (h0 : 0 ≤ n.toInt) (cap : Nat) (hcap : n.toInt ≤ cap) (hbig : cap * 8 ≤ 536870912) (hc : cells + 1 ≤ R.cells) (hl : slots + cap ≤ R.slots)
    (hr : ∀ T' h' b, b = h.size → Stand p l e R s m args below meth c T' locs (cells + 1) (slots + cap) → T'.heap = h' → Ext h h' → OwnAr Z h' b (newarray.typeOf aty) n.toInt.toNat (fun _ => defaultValue (newarray.typeOf aty)) → OwnEnds p e below G (T'.setTop (mkF m pc' Ls (.ref b :: st)))) : OwnEnds p e below G (T.setTop (mkF m pc Ls (.int n :: st))) := by
  subst hp
  have hn0 : ¬ n < 0 := fun q => by rw [Int32.lt_iff_toInt_lt] at q; have : (0 : Int32).toInt = 0 := rfl; omega
  obtain ⟨T', h', cA, X', e', E', A, stp⟩ := newP X C.1 C.2.1 w eT (g := mkF m pc Ls (.int n :: st)) rfl (hb C.2.2.2.1 hd) rfl hn0 (cap := cap) (by show n.toInt.toNat ≤ cap; omega) hbig hc hl
  exact own_st stp (hr T' h' _ rfl X' e' E' (OwnAr.new A))
theorem own_new (X : Stand p l e R s m args below meth c T locs cells slots) (C : OwnCx p s m meth c Z y bs maxL rt) {idx n : Nat} {K : String} (w : (Jvm.Cond.classLink y.cls idx K).before a0 Z = true) (wi : (Jvm.Cond.instantiable K n).before a0 Z = true) (wz : (Jvm.Cond.initialized K).before a0 Z = true) (eT : T.heap = h) (hd : decode bs pc = .ok (.new idx, 3)) (pc' : Nat) (hp : pc + 3 = pc') (hc : cells + 1 ≤ R.cells) (hl : slots + n ≤ R.slots)
    (hr : ∀ T' h' b, b = h.size → Stand p l e R s m args below meth c T' locs (cells + 1) (slots + n) → T'.heap = h' → Ext h h' → Exa Z h' b K → (∀ {O nm d : String} {ty : FieldType}, Laid Z a0 K O nm d → parseFieldDescriptor d = some ty → Fld Z h' b O nm d (defaultValue ty)) → OwnEnds p e below G (T'.setTop (mkF m pc' Ls (.ref b :: st)))) : OwnEnds p e below G (T.setTop (mkF m pc Ls st)) := by
  subst hp
  obtain ⟨T', h', X', e', E', A, D, -, stp⟩ := newO X C.1 C.2.1 C.2.2.1 w wi wz eT (g := mkF m pc Ls st) rfl (hb C.2.2.2.1 hd) hc hl
  exact own_st stp (hr T' h' _ rfl X' e' E' A D)
theorem own_getfield (X : Stand p l e R s m args below meth c T locs cells slots) (C : OwnCx p s m meth c Z y bs maxL rt) {idx : Nat} {R0 O n d host : String} {v : Value} (w : (Jvm.Cond.fieldLink y.cls idx R0 n d).before a0 Z = true ∨ (Jvm.Cond.fieldLinkNest y.cls idx R0 n d host).before a0 Z = true) (via : Via Z R0 O n d) (eT : T.heap = h) (F : Fld Z h a O n d v) (hd : decode bs pc = .ok (.getfield idx, 3)) (pc' : Nat) (hp : pc + 3 = pc')
    (hr : ∀ T', Stand p l e R s m args below meth c T' locs cells slots → T'.heap = h → OwnEnds p e below G (T'.setTop (mkF m pc' Ls (v :: st)))) : OwnEnds p e below G (T.setTop (mkF m pc Ls (.ref a :: st))) := by
  subst hp
  obtain ⟨T', X', e', stp⟩ := getF X C.1 C.2.1 C.2.2.1 w via eT F (g := mkF m pc Ls _) rfl rfl (hb C.2.2.2.1 hd)
  exact own_st stp (hr T' X' e')
theorem own_getstatic (X : Stand p l e R s m args below meth c T locs cells slots) (C : OwnCx p s m meth c Z y bs maxL rt) {idx : Nat} {R0 O n d host : String} {v : Value} (w : (Jvm.Cond.fieldLink y.cls idx R0 n d).before a0 Z = true ∨ (Jvm.Cond.fieldLinkNest y.cls idx R0 n d host).before a0 Z = true) (via : Via Z R0 O n d) (eT : T.heap = h) (F : Sta Z h O n d v) (hd : decode bs pc = .ok (.getstatic idx, 3)) (pc' : Nat) (hp : pc + 3 = pc')
    (hr : ∀ T', Stand p l e R s m args below meth c T' locs cells slots → T'.heap = h → OwnEnds p e below G (T'.setTop (mkF m pc' Ls (v :: st)))) : OwnEnds p e below G (T.setTop (mkF m pc Ls st)) := by
  subst hp
  obtain ⟨T', X', e', stp⟩ := getS2 X C.1 C.2.1 C.2.2.1 w via eT F (g := mkF m pc Ls st) rfl (hb C.2.2.2.1 hd)
  exact own_st stp (hr T' X' e')
theorem own_putfield (X : Stand p l e R s m args below meth c T locs cells slots) (C : OwnCx p s m meth c Z y bs maxL rt) {idx kk : Nat} {R0 O n d host K : String} {ty : FieldType} {v old : Value} (w : (Jvm.Cond.fieldLink y.cls idx R0 n d).before a0 Z = true ∨ (Jvm.Cond.fieldLinkNest y.cls idx R0 n d host).before a0 Z = true) (via : Via Z R0 O n d) (eT : T.heap = h) (F : Fld Z h a O n d old) (E : Exa Z h a K) (L : (Jvm.Cond.lays K O n d).before a0 Z = true ∨ ((Jvm.Cond.laysFinal K O n d).before a0 Z = true ∧ y.cls = O ∧ y.name = "<init>")) (wi : (Jvm.Cond.instantiable K kk).before a0 Z = true)
    (hty : parseFieldDescriptor d = some ty) (hn : narrow ty v = v) (hf : fits ty v = true) (hd : decode bs pc = .ok (.putfield idx, 3)) (pc' : Nat) (hp : pc + 3 = pc')
    (hr : ∀ T' h', Stand p l e R s m args below meth c T' (locs ++ [⟨a, Jvm.RoadKit.slotOf Z O n d⟩]) cells slots → T'.heap = h' → Wr h h' a (Jvm.RoadKit.slotOf Z O n d) v → OwnEnds p e below G (T'.setTop (mkF m pc' Ls st))) : OwnEnds p e below G (T.setTop (mkF m pc Ls (v :: .ref a :: st))) := by
  subst hp
  obtain ⟨T', h', X', e', W, stp⟩ := putF X C.1 C.2.1 C.2.2.1 w via eT F E (L.imp id fun q => ⟨q.1, q.2.1, C.2.2.2.2.2.2.2.trans q.2.2⟩) wi hty hn hf (g := mkF m pc Ls _) rfl rfl (hb C.2.2.2.1 hd)
  exact own_st stp (hr T' h' X' e' W)
theorem own_putfieldN (X : Stand p l e R s m args below meth c T locs cells slots) (C : OwnCx p s m meth c Z y bs maxL rt) {idx kk : Nat} {R0 O n d K : String} {ty : FieldType} {v v' old : Value} (w : (Jvm.Cond.fieldLink y.cls idx R0 n d).before a0 Z = true) (via : Via Z R0 O n d) (eT : T.heap = h) (F : Fld Z h a O n d old) (E : Exa Z h a K) (L : (Jvm.Cond.lays K O n d).before a0 Z = true ∨ ((Jvm.Cond.laysFinal K O n d).before a0 Z = true ∧ y.cls = O ∧ y.name = "<init>")) (wi : (Jvm.Cond.instantiable K kk).before a0 Z = true)
    (hty : parseFieldDescriptor d = some ty) (hn : narrow ty v = v') (hf : fits ty v' = true) (hd : decode bs pc = .ok (.putfield idx, 3)) (pc' : Nat) (hp : pc + 3 = pc')
    (hr : ∀ T' h', Stand p l e R s m args below meth c T' (locs ++ [⟨a, Jvm.RoadKit.slotOf Z O n d⟩]) cells slots → T'.heap = h' → Wr h h' a (Jvm.RoadKit.slotOf Z O n d) v' → OwnEnds p e below G (T'.setTop (mkF m pc' Ls st))) : OwnEnds p e below G (T.setTop (mkF m pc Ls (v :: .ref a :: st))) := by
  subst hp
  obtain ⟨T', h', X', e', W, stp⟩ := putFN X C.1 C.2.1 C.2.2.1 w via eT F E (L.imp id fun q => ⟨q.1, q.2.1, C.2.2.2.2.2.2.2.trans q.2.2⟩) wi hty hn hf (g := mkF m pc Ls _) rfl rfl (hb C.2.2.2.1 hd)
  exact own_st stp (hr T' h' X' e' W)
theorem own_initO (X : Stand p l e R s m args below meth c T locs cells slots) (C : OwnCx p s m meth c Z y bs maxL rt) {idx : Nat} (w1 : (Jvm.Cond.methodLink y.cls idx Lib.objectInit).before a0 Z = true) (w2 : (Jvm.Cond.instanceMethod Lib.objectInit).before a0 Z = true) (w3 : (Jvm.Cond.code Lib.objectInit object_method_1_code 1 none).before a0 Z = true) (eT : T.heap = h) (hsz : Ls.size = maxL) (hd : decode bs pc = .ok (.invokespecial idx, 3)) (pc' : Nat) (hp : pc + 3 = pc') (hf : 1 ≤ R.frames) (W : Nat) (hW : (st.map fun v => v.category).sum = W) (hl : W + 12 ≤ R.locals)
    (hr : ∀ T', Stand p l e R s m args below meth c T' locs cells slots → T'.heap = h → OwnEnds p e below G (T'.setTop (mkF m pc' Ls st))) : OwnEnds p e below G (T.setTop (mkF m pc Ls (.ref a :: st))) := by
  subst hp
  obtain ⟨T', X', e', stp⟩ := initO X C.1 C.2.1 C.2.2.1 w1 w2 w3 eT (g := mkF m pc Ls (.ref a :: st)) rfl (by rw [C.2.2.2.2.1]; exact hsz) (a := a) (rest := st) rfl (hb C.2.2.2.1 hd) hf (W := W) (by show 2 * 0 + _ ≤ _; omega) hl
  exact own_st stp (hr T' X' e')
theorem own_callI (X : Stand p l e R s m args below meth c T locs cells slots) (C : OwnCx p s m meth c Z y bs maxL rt) {idx : Nat} {y' : MethodName} {bs' : ByteArray} {maxL' : Nat} {rt' : Option FieldType} {rm : Room} {as' : Array Value} {Q' : Option Value → Heap → List Loc → Prop} (hrt' : rt' = none)
    (w1 : (Jvm.Cond.methodLink y.cls idx y').before a0 Z = true) (w2 : (Jvm.Cond.instanceMethod y').before a0 Z = true) (w3 : (Jvm.Cond.initialized y'.cls).before a0 Z = true) (w4 : (Jvm.Cond.code y' bs' maxL' rt').before a0 Z = true) (hy1 : y'.name = "<init>") (hy : y'.cls ≠ "java/lang/invoke/MethodHandle" ∧ y'.cls ≠ "java/lang/invoke/VarHandle")
    (hM : OwnMet l Z y' bs' maxL' rt' [] rm as' h Q') (eT : T.heap = h) {ps : List FieldType} {r : Option FieldType} (hpd : parseMethodDescriptor y'.desc = some ⟨ps, r⟩) (argsL : List Value) (has : (Value.ref a :: argsL).toArray = as') (hlen : argsL.length = ps.length) (hst : st = argsL.reverse ++ .ref a :: rest) (hsz : Ls.size = maxL)
    (W : Nat) (hW : (rest.map fun v => v.category).sum = W) (hf : rm.frames + 1 ≤ R.frames) (hlo : W + (maxL' + 11) + rm.locals ≤ R.locals) (hce : cells + rm.cells ≤ R.cells) (hsl : slots + rm.slots ≤ R.slots) (hd : decode bs pc = .ok (.invokespecial idx, 3)) (pc' : Nat) (hp : pc + 3 = pc')
    (hr : ∀ T' L v, Stand p l e R s m args below meth c T' (locs ++ L) (cells + rm.cells) (slots + rm.slots) → Q' v T'.heap L → OwnEnds p e below G (T'.setTop (mkF m pc' Ls (v.toList ++ rest)))) : OwnEnds p e below G (T.setTop (mkF m pc Ls st)) := by
  subst hp has hW hrt'
  obtain ⟨v, _, ⟨T', L, k, n⟩, -, X', ⟨L', hQ, l1, l2, l3⟩, stp⟩ := X.specialBack C.1 hy1 C.2.2.1 (mvT C.2.1 w1) (mvT C.2.1 w2) (mvT C.2.1 w4) hy (backOf (len := 3) (W := (rest.map fun v => v.category).sum) hM C.2.1 w4 w3 hf hlo) (g := mkF m pc Ls st) rfl (by rw [C.2.2.2.2.1]; exact hsz) (Steps.refl _) (a := a) (argsL := argsL) (rest := rest) (lenOf hpd hlen) hst (by show 2 * 0 + _ ≤ _; omega) (hb C.2.2.2.1 hd) (fun _ _ => ⟨rfl, eT, hce, hsl⟩)
  dsimp only [Pt.U, Pt.locs, Pt.cells, Pt.slots] at X' l1 l2 l3 stp hQ
  subst l1 l2 l3
  exact own_tr stp (hr T' L' v X' hQ)
theorem own_callV (X : Stand p l e R s m args below meth c T locs cells slots) (C : OwnCx p s m meth c Z y bs maxL rt) {idx : Nat} {K : String} {y' : MethodName} {bs' : ByteArray} {maxL' : Nat} {rt' : Option FieldType} {rm : Room} {as' : Array Value} {Q' : Option Value → Heap → List Loc → Prop}
    (w1 : (Jvm.Cond.methodLink y.cls idx y').before a0 Z = true) (wd : (Jvm.Cond.declares y').before a0 Z = true) (ws : (Jvm.Cond.selects K y' y').before a0 Z = true) (w2 : (Jvm.Cond.instanceMethod y').before a0 Z = true) (w3 : (Jvm.Cond.initialized y'.cls).before a0 Z = true) (w4 : (Jvm.Cond.code y' bs' maxL' rt').before a0 Z = true) (hy : y'.cls ≠ "java/lang/invoke/MethodHandle" ∧ y'.cls ≠ "java/lang/invoke/VarHandle") (E : Exa Z h a K)
    (hM : OwnMet l Z y' bs' maxL' rt' [] rm as' h Q') (eT : T.heap = h) {ps : List FieldType} {r : Option FieldType} (hpd : parseMethodDescriptor y'.desc = some ⟨ps, r⟩) (argsL : List Value) (has : (Value.ref a :: argsL).toArray = as') (hlen : argsL.length = ps.length) (hst : st = argsL.reverse ++ .ref a :: rest) (hsz : Ls.size = maxL)
    (W : Nat) (hW : (rest.map fun v => v.category).sum = W) (hf : rm.frames + 1 ≤ R.frames) (hlo : W + (maxL' + 11) + rm.locals ≤ R.locals) (hce : cells + rm.cells ≤ R.cells) (hsl : slots + rm.slots ≤ R.slots) (hd : decode bs pc = .ok (.invokevirtual idx, 3)) (pc' : Nat) (hp : pc + 3 = pc')
    (hr : ∀ T' L v, Stand p l e R s m args below meth c T' (locs ++ L) (cells + rm.cells) (slots + rm.slots) → Q' v T'.heap L → OwnEnds p e below G (T'.setTop (mkF m pc' Ls (v.toList ++ rest)))) : OwnEnds p e below G (T.setTop (mkF m pc Ls st)) := by
  subst hp has hW
  obtain ⟨cq, kq, qa, qb, qc⟩ := isOf C.2.1 eT E
  obtain ⟨v, _, ⟨T', L, k, n⟩, -, X', ⟨L', hQ, l1, l2, l3⟩, stp⟩ := X.virtualBack C.1 (y := y') (z := y') C.2.2.1 (mvT C.2.1 w1) (mvT C.2.1 wd) (notFace_of_selects (args := #[]) (mvT C.2.1 ws)) (mvT C.2.1 ws) (mvT C.2.1 w2) hy (backOf (len := 3) (W := (rest.map fun v => v.category).sum) hM C.2.1 w4 w3 hf hlo) qa qc (g := mkF m pc Ls st) rfl (by rw [C.2.2.2.2.1]; exact hsz) (Steps.refl _) (argsL := argsL) (rest := rest) (lenOf hpd hlen) hst (by show 2 * 0 + _ ≤ _; omega) (hb C.2.2.2.1 hd) (fun _ _ => ⟨rfl, eT, hce, hsl⟩)
  dsimp only [Pt.U, Pt.locs, Pt.cells, Pt.slots] at X' l1 l2 l3 stp hQ
  subst l1 l2 l3
  exact own_tr stp (hr T' L' v X' hQ)
theorem own_instY (X : Stand p l e R s m args below meth c T locs cells slots) (C : OwnCx p s m meth c Z y bs maxL rt) {idx : Nat} {K : String} (w : (Jvm.Cond.classLink y.cls idx K).before a0 Z = true) (eT : T.heap = h) (F : Ins Z h a K true) (hd : decode bs pc = .ok (.instanceof idx, 3)) (pc' : Nat) (hp : pc + 3 = pc')
    (hr : ∀ T', Stand p l e R s m args below meth c T' locs cells slots → T'.heap = h → OwnEnds p e below G (T'.setTop (mkF m pc' Ls (.int 1 :: st)))) : OwnEnds p e below G (T.setTop (mkF m pc Ls (.ref a :: st))) := by
  subst hp
  obtain ⟨T', X', e', stp⟩ := instY X C.1 C.2.1 C.2.2.1 w eT F (g := mkF m pc Ls _) rfl rfl (hb C.2.2.2.1 hd)
  exact own_st stp (hr T' X' e')
theorem own_castY (X : Stand p l e R s m args below meth c T locs cells slots) (C : OwnCx p s m meth c Z y bs maxL rt) {idx : Nat} {K : String} (w : (Jvm.Cond.classLink y.cls idx K).before a0 Z = true) (eT : T.heap = h) (F : Ins Z h a K true) (hd : decode bs pc = .ok (.checkcast idx, 3)) (pc' : Nat) (hp : pc + 3 = pc')
    (hr : ∀ T', Stand p l e R s m args below meth c T' locs cells slots → T'.heap = h → OwnEnds p e below G (T'.setTop (mkF m pc' Ls (.ref a :: st)))) : OwnEnds p e below G (T.setTop (mkF m pc Ls (.ref a :: st))) := by
  subst hp
  obtain ⟨T', X', e', stp⟩ := castY X C.1 C.2.1 C.2.2.1 w eT F (g := mkF m pc Ls (.ref a :: st)) rfl (rest := st) rfl (hb C.2.2.2.1 hd)
  exact own_st stp (hr T' X' e')
end OwnHeap
theorem own_w {Z : State} {a0 : Array Value} (hw : ∀ d ∈ tables_1, d.before a0 Z = true) (k : Nat) {d : Jvm.Cond} (q : tables_1[k]? = some d) : d.before a0 Z = true := hw _ (List.mem_of_getElem? q)
def own_K : String := "com/example/subsumer/subsumer/Ints"
/-- an Ints at o: its array at a (16 places), n values in it: g -/
def OwnI (Z : State) (h : Heap) (o a : Nat) (n : Nat) (g : Nat → Int32) : Prop :=
  Exa Z h o "com/example/subsumer/subsumer/Ints" ∧ Fld Z h o "com/example/subsumer/subsumer/Ints" "values" "[I" (.ref a) ∧ (∃ z : Int32, z.toInt = n ∧ Fld Z h o "com/example/subsumer/subsumer/Ints" "size" "I" (.int z)) ∧ OwnAr Z h a .int 16 (fun i => .int (g i)) ∧ o ≠ a
theorem OwnI.ext {Z : State} {h h' : Heap} {o a : Addr} {n : Nat} {g : Nat → Int32} (I : OwnI Z h o a n g) (E : Ext h h') : OwnI Z h' o a n g := by
  obtain ⟨h1, h2, ⟨z, h3, h4⟩, h5, h6⟩ := I
  exact ⟨h1.ext E, h2.ext E, ⟨z, h3, h4.ext E⟩, h5.ext E, h6⟩
theorem OwnI.keep {Z : State} {h h' : Heap} {o a : Addr} {n : Nat} {g : Nat → Int32} {ws : List Addr} (I : OwnI Z h o a n g) (K : Keep h h' ws) (q1 : o ∉ ws) (q2 : a ∉ ws) : OwnI Z h' o a n g := by
  obtain ⟨h1, h2, ⟨z, h3, h4⟩, h5, h6⟩ := I
  exact ⟨h1.keep K, h2.keep K q1, ⟨z, h3, h4.keep K q1⟩, h5.keep K q2, h6⟩
theorem OwnI.other {Z : State} {h h' : Heap} {o a b : Addr} {n sl : Nat} {v : Value} {g : Nat → Int32} (I : OwnI Z h o a n g) (W : Wr h h' b sl v) (q1 : o ≠ b) (q2 : a ≠ b) : OwnI Z h' o a n g := by
  obtain ⟨h1, h2, ⟨z, h3, h4⟩, h5, h6⟩ := I
  exact ⟨h1.wr W, h2.other W (Or.inl q1), ⟨z, h3, h4.other W (Or.inl q1)⟩, h5.other W q2, h6⟩
def own_max (i j : Int32) : Int32 := if i.toInt < j.toInt then j else i
def own_hash (key : Int64) : Nat := ((((key * -7046029254386353131).toUInt64 >>> ((33 : Int32) &&& 0x3f).toInt64.toUInt64).toInt64).toInt32 &&& 15).toInt.toNat
theorem own_hash_lt (key : Int64) : own_hash key < 16 := by
  have q := c_and ((((key * -7046029254386353131).toUInt64 >>> ((33 : Int32) &&& 0x3f).toInt64.toUInt64).toInt64).toInt32) 15 (by decide)
  have q2 : (15 : Int32).toInt = 15 := by decide
  unfold own_hash; omega
/-- the open table's probing, with fuel -/
def own_probe (f : Nat → Int64) (key : Int64) : Nat → Nat → Nat
  | 0, s => s
  | n + 1, s => if f s = -1 ∨ f s = key then s else own_probe f key n ((s + 1) % 16)
def own_slot (f : Nat → Int64) (key : Int64) : Nat := own_probe f key 3 (own_hash key)
def own_ok (f : Nat → Int64) (key : Int64) : Prop := f (own_slot f key) = -1 ∨ f (own_slot f key) = key
def own_find (f : Nat → Int64) (g : Nat → Int32) (key : Int64) : Int32 := if f (own_slot f key) = -1 then -1 else g (own_slot f key)
def own_key (w : Int64) (a b : Int32) : Int64 := a.toInt64 * w + b.toInt64
theorem own_key_int (w : Int64) (a b : Int32) (ha : 0 ≤ a.toInt) (hb : 0 ≤ b.toInt) (hw : 1 ≤ w.toInt) (hw2 : w.toInt < 2147483648) : (own_key w a b).toInt = a.toInt * w.toInt + b.toInt := by
  have r1 := rng32 a
  have r2 := rng32 b
  have q1 := c_lmul a.toInt64 w
  have q2 := c_ladd (a.toInt64 * w) b.toInt64
  have q3 := rng64 (a.toInt64 * w)
  have q4 := rng64 (a.toInt64 * w + b.toInt64)
  rw [c_i2l] at q1
  rw [c_i2l] at q2
  have m := mc (a := a.toInt) (b := w.toInt) (l1 := 0) (h1 := 2147483647) (l2 := 0) (h2 := 2147483647) (by omega) (by omega) (by omega) (by omega)
  unfold own_key
  generalize a.toInt * w.toInt = P at *
  omega
theorem own_key_ne (w : Int64) (a b : Int32) (ha : 0 ≤ a.toInt) (hb : 0 ≤ b.toInt) (hw : 1 ≤ w.toInt) (hw2 : w.toInt < 2147483648) : own_key w a b ≠ -1 := by
  intro q
  have q1 := own_key_int w a b ha hb hw hw2
  rw [q] at q1
  have q2 : (-1 : Int64).toInt = -1 := by decide
  have m := mc (a := a.toInt) (b := w.toInt) (l1 := 0) (h1 := 2147483647) (l2 := 0) (h2 := 2147483647) (by omega) (by have := rng32 a; omega) (by omega) (by omega)
  omega
theorem own_key_inj (w : Int64) (a b a' b' : Int32) (ha : 0 ≤ a.toInt) (hb : 0 ≤ b.toInt) (ha' : 0 ≤ a'.toInt) (hb' : 0 ≤ b'.toInt) (hw : 1 ≤ w.toInt) (hw2 : w.toInt < 2147483648) (h1 : b.toInt < w.toInt) (h2 : b'.toInt < w.toInt) (q : own_key w a b = own_key w a' b') : a.toInt = a'.toInt ∧ b.toInt = b'.toInt := by
  have q1 := own_key_int w a b ha hb hw hw2
  have q2 := own_key_int w a' b' ha' hb' hw hw2
  rw [q, q2] at q1
  have e1 : (a.toInt * w.toInt + b.toInt) / w.toInt = a.toInt := by
    rw [Int.add_comm, Int.add_mul_ediv_right _ _ (by omega), Int.ediv_eq_zero_of_lt hb h1]; omega
  have e2 : (a'.toInt * w.toInt + b'.toInt) / w.toInt = a'.toInt := by
    rw [Int.add_comm, Int.add_mul_ediv_right _ _ (by omega), Int.ediv_eq_zero_of_lt hb' h2]; omega
  rw [q1, e1] at e2
  refine ⟨e2, ?_⟩
  rw [e2] at q1
  omega
def own_f0 : Nat → Int64 := fun _ => -1
def own_up (f : Nat → Int64) (s : Nat) (k : Int64) : Nat → Int64 := fun i => if i = s then k else f i
def own_upI (g : Nat → Int32) (s : Nat) (v : Int32) : Nat → Int32 := fun i => if i = s then v else g i
def own_f1 (k1 : Int64) : Nat → Int64 := own_up own_f0 (own_slot own_f0 k1) k1
def own_g1 (k1 : Int64) : Nat → Int32 := own_upI (fun _ => 0) (own_slot own_f0 k1) 0
def own_f2 (k1 k2 : Int64) : Nat → Int64 := own_up (own_f1 k1) (own_slot (own_f1 k1) k2) k2
def own_g2 (k1 k2 : Int64) : Nat → Int32 := own_upI (own_g1 k1) (own_slot (own_f1 k1) k2) 1
theorem own_s0 (k : Int64) : own_slot own_f0 k = own_hash k := by simp [own_slot, own_probe, own_f0]
theorem own_ok0 (k : Int64) : own_ok own_f0 k := Or.inl rfl
theorem own_find0 (g : Nat → Int32) (k : Int64) : own_find own_f0 g k = -1 := if_pos rfl
theorem own_f1a (k1 : Int64) : own_f1 k1 (own_hash k1) = k1 := by rw [own_f1, own_s0]; exact if_pos rfl
theorem own_f1b (k1 : Int64) (i : Nat) (h : i ≠ own_hash k1) : own_f1 k1 i = -1 := by rw [own_f1, own_s0]; exact if_neg h
theorem own_s1a (k1 : Int64) : own_slot (own_f1 k1) k1 = own_hash k1 := by rw [own_slot, own_probe, if_pos (Or.inr (own_f1a k1))]
theorem own_s1b (k1 k : Int64) (n1 : k1 ≠ -1) (h : k1 ≠ k) : own_slot (own_f1 k1) k = if own_hash k = own_hash k1 then (own_hash k1 + 1) % 16 else own_hash k := by
  have l1 := own_hash_lt k1
  by_cases q : own_hash k = own_hash k1
  · rw [if_pos q, own_slot, own_probe, q, own_f1a, if_neg (fun r => r.elim n1 h), own_probe, if_pos (Or.inl (own_f1b k1 _ (by omega)))]
  · rw [if_neg q, own_slot, own_probe, if_pos (Or.inl (own_f1b k1 _ q))]
theorem own_s1n (k1 k : Int64) (n1 : k1 ≠ -1) (h : k1 ≠ k) : own_slot (own_f1 k1) k ≠ own_hash k1 := by
  have l1 := own_hash_lt k1
  rw [own_s1b k1 k n1 h]
  split <;> omega
theorem own_s1e (k1 k : Int64) (n1 : k1 ≠ -1) (h : k1 ≠ k) : own_f1 k1 (own_slot (own_f1 k1) k) = -1 := own_f1b k1 _ (own_s1n k1 k n1 h)
theorem own_ok1a (k1 : Int64) : own_ok (own_f1 k1) k1 := by rw [own_ok, own_s1a]; exact Or.inr (own_f1a k1)
theorem own_ok1b (k1 k : Int64) (n1 : k1 ≠ -1) (h : k1 ≠ k) : own_ok (own_f1 k1) k := Or.inl (own_s1e k1 k n1 h)
theorem own_find1a (k1 : Int64) (n1 : k1 ≠ -1) : own_find (own_f1 k1) (own_g1 k1) k1 = 0 := by
  rw [own_find, own_s1a, own_f1a, if_neg n1, own_g1, own_s0]; exact if_pos rfl
theorem own_find1b (g : Nat → Int32) (k1 k : Int64) (n1 : k1 ≠ -1) (h : k1 ≠ k) : own_find (own_f1 k1) g k = -1 := if_pos (own_s1e k1 k n1 h)
section Two
variable (k1 k2 : Int64) (n1 : k1 ≠ -1) (n2 : k2 ≠ -1) (h : k1 ≠ k2)
theorem own_f2a (n1 : k1 ≠ -1) (h : k1 ≠ k2) : own_f2 k1 k2 (own_hash k1) = k1 := (if_neg (Ne.symm (own_s1n k1 k2 n1 h))).trans (own_f1a k1)
theorem own_f2b : own_f2 k1 k2 (own_slot (own_f1 k1) k2) = k2 := if_pos rfl
theorem own_f2c (i : Nat) (q1 : i ≠ own_hash k1) (q2 : i ≠ own_slot (own_f1 k1) k2) : own_f2 k1 k2 i = -1 := (if_neg q2).trans (own_f1b k1 i q1)
theorem own_s2a (n1 : k1 ≠ -1) (h : k1 ≠ k2) : own_slot (own_f2 k1 k2) k1 = own_hash k1 := by rw [own_slot, own_probe, if_pos (Or.inr (own_f2a k1 k2 n1 h))]
theorem own_s2b (n1 : k1 ≠ -1) (h : k1 ≠ k2) : own_slot (own_f2 k1 k2) k2 = own_slot (own_f1 k1) k2 := by
  have l1 := own_hash_lt k1
  by_cases q : own_hash k2 = own_hash k1
  · have e : own_slot (own_f1 k1) k2 = (own_hash k1 + 1) % 16 := by rw [own_s1b k1 k2 n1 h, if_pos q]
    have e2 := own_f2b k1 k2
    rw [e] at e2
    rw [e, own_slot, own_probe, q, own_f2a k1 k2 n1 h, if_neg (fun r => r.elim n1 h), own_probe, if_pos (Or.inr e2)]
  · have e : own_slot (own_f1 k1) k2 = own_hash k2 := by rw [own_s1b k1 k2 n1 h, if_neg q]
    have e2 := own_f2b k1 k2
    rw [e] at e2
    rw [e, own_slot, own_probe, if_pos (Or.inr e2)]
theorem own_ok2a (n1 : k1 ≠ -1) (h : k1 ≠ k2) : own_ok (own_f2 k1 k2) k1 := by rw [own_ok, own_s2a k1 k2 n1 h]; exact Or.inr (own_f2a k1 k2 n1 h)
theorem own_ok2b (n1 : k1 ≠ -1) (h : k1 ≠ k2) : own_ok (own_f2 k1 k2) k2 := by rw [own_ok, own_s2b k1 k2 n1 h]; exact Or.inr (own_f2b k1 k2)
theorem own_find2a (n1 : k1 ≠ -1) (h : k1 ≠ k2) : own_find (own_f2 k1 k2) (own_g2 k1 k2) k1 = 0 := by
  rw [own_find, own_s2a k1 k2 n1 h, own_f2a k1 k2 n1 h, if_neg n1]
  exact (if_neg (Ne.symm (own_s1n k1 k2 n1 h))).trans (by rw [own_g1, own_s0]; exact if_pos rfl)
theorem own_find2b (n1 : k1 ≠ -1) (n2 : k2 ≠ -1) (h : k1 ≠ k2) : own_find (own_f2 k1 k2) (own_g2 k1 k2) k2 = 1 := by
  rw [own_find, own_s2b k1 k2 n1 h, own_f2b, if_neg n2]; exact if_pos rfl
theorem own_s2c (k : Int64) (n1 : k1 ≠ -1) (n2 : k2 ≠ -1) (h : k1 ≠ k2) (h1 : k1 ≠ k) (h2 : k2 ≠ k) : own_f2 k1 k2 (own_slot (own_f2 k1 k2) k) = -1 := by
  have l1 := own_hash_lt k1
  have l2 := own_hash_lt k
  have l3 : own_slot (own_f1 k1) k2 < 16 := by
    rw [own_s1b k1 k2 n1 h]; have := own_hash_lt k2; split <;> omega
  have ne := own_s1n k1 k2 n1 h
  have A : ∀ i, own_f2 k1 k2 i = -1 ∨ ((i = own_hash k1 ∨ i = own_slot (own_f1 k1) k2) ∧ ¬ (own_f2 k1 k2 i = -1 ∨ own_f2 k1 k2 i = k)) := fun i => by
    by_cases q1 : i = own_hash k1
    · subst q1; right; refine ⟨Or.inl rfl, ?_⟩; rw [own_f2a k1 k2 n1 h]; exact fun r => r.elim n1 h1
    · by_cases q2 : i = own_slot (own_f1 k1) k2
      · subst q2; right; refine ⟨Or.inr rfl, ?_⟩; rw [own_f2b]; exact fun r => r.elim n2 h2
      · exact Or.inl (own_f2c k1 k2 i q1 q2)
  rw [own_slot]
  rcases A (own_hash k) with a | ⟨a, a'⟩
  · rw [own_probe, if_pos (Or.inl a)]; exact a
  · rw [own_probe, if_neg a']
    rcases A ((own_hash k + 1) % 16) with b | ⟨b, b'⟩
    · rw [own_probe, if_pos (Or.inl b)]; exact b
    · rw [own_probe, if_neg b']
      rcases A (((own_hash k + 1) % 16 + 1) % 16) with e | ⟨e, e'⟩
      · rw [own_probe, if_pos (Or.inl e)]; exact e
      · exfalso; omega
theorem own_ok2c (k : Int64) (n1 : k1 ≠ -1) (n2 : k2 ≠ -1) (h : k1 ≠ k2) (h1 : k1 ≠ k) (h2 : k2 ≠ k) : own_ok (own_f2 k1 k2) k := Or.inl (own_s2c k1 k2 k n1 n2 h h1 h2)
theorem own_find2c (g : Nat → Int32) (k : Int64) (n1 : k1 ≠ -1) (n2 : k2 ≠ -1) (h : k1 ≠ k2) (h1 : k1 ≠ k) (h2 : k2 ≠ k) : own_find (own_f2 k1 k2) g k = -1 := if_pos (own_s2c k1 k2 k n1 n2 h h1 h2)
end Two
theorem own_probe_lt (f : Nat → Int64) (key : Int64) : ∀ n s, s < 16 → own_probe f key n s < 16
  | 0, s, q => q
  | n + 1, s, q => by rw [own_probe]; split; exact q; exact own_probe_lt f key n _ (by omega)
theorem own_slot_lt (f : Nat → Int64) (key : Int64) : own_slot f key < 16 := own_probe_lt f key 3 _ (own_hash_lt key)
theorem own_pf_max_II_I : plainFor (⟨"java/lang/Math", "max", "(II)I"⟩ : MethodName) = true := by decide +kernel
theorem own_pd_II_R_I : parseMethodDescriptor "(II)I" = some ⟨[.int, .int], some .int⟩ := by decide +kernel
theorem own_d_jdk_29_method_65_code_0 : decode jdk_29_method_65_code 0 = .ok (.iload_n 0, 1) := by decide +kernel
theorem own_d_jdk_29_method_65_code_1 : decode jdk_29_method_65_code 1 = .ok (.iload_n 1, 1) := by decide +kernel
theorem own_d_jdk_29_method_65_code_2 : decode jdk_29_method_65_code 2 = .ok (.if_icmp .lt 7, 3) := by decide +kernel
theorem own_d_jdk_29_method_65_code_5 : decode jdk_29_method_65_code 5 = .ok (.iload_n 0, 1) := by decide +kernel
theorem own_d_jdk_29_method_65_code_6 : decode jdk_29_method_65_code 6 = .ok (.goto 4, 3) := by decide +kernel
theorem own_d_jdk_29_method_65_code_9 : decode jdk_29_method_65_code 9 = .ok (.iload_n 1, 1) := by decide +kernel
theorem own_d_jdk_29_method_65_code_10 : decode jdk_29_method_65_code 10 = .ok (.ireturn, 1) := by decide +kernel
set_option maxRecDepth 65536 in
set_option maxHeartbeats 4000000 in
theorem own_ef_own_rm_max (m : MethodId) (ia0 : Int32) (ia1 : Int32) : entryFrame m #[(.int ia0), (.int ia1)] 2 = (mkF m 0 #[.val (.int ia0), .val (.int ia1)] []) := by first | (simp [entryFrame, mkF, argsToLocals, Value.category]; done) | rfl
set_option maxRecDepth 65536 in
set_option maxHeartbeats 4000000 in
theorem own_rm_max (l : Launch) (Z : State) (a0 : Array Value) (hw : ∀ d ∈ tables_1, d.before a0 Z = true) (ia0 : Int32) (ia1 : Int32) (h : Heap)  :
    OwnMet l Z (⟨"java/lang/Math", "max", "(II)I"⟩ : MethodName) jdk_29_method_65_code 2 (some .int) [] ({ frames := 0, cells := 0, slots := 0, locals := 0 } : Room) #[(.int ia0), (.int ia1)] h (OwnPure (.int (own_max ia0 ia1)) h) := by
  refine own_enter (f0 := fun m => mkF m 0 #[.val (.int ia0), .val (.int ia1)] []) own_pf_max_II_I (fun m => own_ef_own_rm_max m ia0 ia1) ?_
  intro p e s m below meth c T0 X0 C e0
  refine own_iload_n X0 C own_d_jdk_29_method_65_code_0 1 rfl rfl ?_
  refine own_iload_n X0 C own_d_jdk_29_method_65_code_1 2 rfl rfl ?_
  refine own_icmplt X0 C own_d_jdk_29_method_65_code_2 5 9 rfl (by decide) (by decide) (i := ia0.toInt) rfl (j := ia1.toInt) rfl (fun b1 => ?_) (fun b1 => ?_)
  · refine own_iload_n X0 C own_d_jdk_29_method_65_code_9 10 rfl rfl ?_
    refine own_ireturn X0 C rfl own_d_jdk_29_method_65_code_10 (by decide) (by decide) ?_
    exact ⟨by rw [own_max, if_pos (by omega)], e0, rfl⟩
  · refine own_iload_n X0 C own_d_jdk_29_method_65_code_5 6 rfl rfl ?_
    refine own_goto X0 C own_d_jdk_29_method_65_code_6 10 (by decide) (by decide) ?_
    refine own_ireturn X0 C rfl own_d_jdk_29_method_65_code_10 (by decide) (by decide) ?_
    exact ⟨by rw [own_max, if_neg (by omega)], e0, rfl⟩
theorem own_pn_Ints : plainName "com/example/subsumer/subsumer/Ints" = true := by first | (simp [plainName, overriddenIn]; done) | decide +kernel
theorem own_pd__R_V : parseMethodDescriptor "()V" = some ⟨[], none⟩ := by decide +kernel
theorem own_d_prog_35_method_1_code_0 : decode prog_35_method_1_code 0 = .ok (.aload_n 0, 1) := by decide +kernel
theorem own_d_prog_35_method_1_code_1 : decode prog_35_method_1_code 1 = .ok (.invokespecial 1, 3) := by decide +kernel
theorem own_d_prog_35_method_1_code_4 : decode prog_35_method_1_code 4 = .ok (.aload_n 0, 1) := by decide +kernel
theorem own_d_prog_35_method_1_code_5 : decode prog_35_method_1_code 5 = .ok (.bipush 16, 2) := by decide +kernel
theorem own_d_prog_35_method_1_code_7 : decode prog_35_method_1_code 7 = .ok (.newarray .int, 2) := by decide +kernel
theorem own_d_prog_35_method_1_code_9 : decode prog_35_method_1_code 9 = .ok (.putfield 7, 3) := by decide +kernel
theorem own_d_prog_35_method_1_code_12 : decode prog_35_method_1_code 12 = .ok (.return_, 1) := by decide +kernel
set_option maxRecDepth 65536 in
set_option maxHeartbeats 4000000 in
theorem own_ef_own_rm_I_init (m : MethodId) (oa0 : Nat) : entryFrame m #[(.ref oa0)] 1 = (mkF m 0 #[.val (.ref oa0)] []) := by first | (simp [entryFrame, mkF, argsToLocals, Value.category]; done) | rfl
set_option maxRecDepth 65536 in
set_option maxHeartbeats 4000000 in
theorem own_rm_I_init (l : Launch) (Z : State) (a0 : Array Value) (hw : ∀ d ∈ tables_1, d.before a0 Z = true) (oa0 : Nat) (h : Heap) (n0 : Nat) (Z0 : n0 ≤ h.size) (go : n0 ≤ oa0) (Eo : Exa Z h oa0 "com/example/subsumer/subsumer/Ints") (Fv : Fld Z h oa0 "com/example/subsumer/subsumer/Ints" "values" "[I" .null) (Fs : Fld Z h oa0 "com/example/subsumer/subsumer/Ints" "size" "I" (.int (0 : Int32))) :
    OwnMet l Z (⟨"com/example/subsumer/subsumer/Ints", "<init>", "()V"⟩ : MethodName) prog_35_method_1_code 1 none [] ({ frames := 1, cells := 1, slots := 16, locals := 20 } : Room) #[(.ref oa0)] h (fun v h' L => v = none ∧ Fr n0 L ∧ ∃ a : Nat, n0 ≤ a ∧ h.size ≤ a ∧ OwnI Z h' oa0 a 0 (fun _ => 0) ∧ Keep h h' [oa0]) := by
  refine own_enter (f0 := fun m => mkF m 0 #[.val (.ref oa0)] []) (plainFor_of_name own_pn_Ints) (fun m => own_ef_own_rm_I_init m oa0) ?_
  intro p e s m below meth c T0 X0 C e0
  refine own_aload_n X0 C own_d_prog_35_method_1_code_0 1 rfl rfl rfl ?_
  refine own_initO X0 C (own_w hw 34 rfl) (own_w hw 12 rfl) (own_w hw 13 rfl) e0 rfl own_d_prog_35_method_1_code_1 4 rfl (by decide) 0 rfl (by decide) (fun T1 X1 e1 => ?_)
  refine own_aload_n X1 C own_d_prog_35_method_1_code_4 5 rfl rfl rfl ?_
  refine own_bipush X1 C own_d_prog_35_method_1_code_5 7 rfl (16) rfl ?_
  refine own_newarray X1 C (own_w hw 25 rfl) e1 own_d_prog_35_method_1_code_7 9 rfl (by decide) 16 (by decide) (by decide) (by decide) (by decide) (fun T2 h2 b2 g2 X2 e2 E2 A2 => ?_)
  have F1 := Fv.ext E2
  have F2 := Fs.ext E2
  have Ex := Eo.ext E2
  refine own_putfield X2 C (host := "") (Or.inl (own_w hw 35 rfl)) Via.refl e2 F1 Ex (Or.inl (own_w hw 36 rfl)) (own_w hw 29 rfl) (ty := (.array .int)) (by decide) rfl rfl own_d_prog_35_method_1_code_9 12 rfl (fun T3 h3 X3 e3 W3 => ?_)
  have N3 := own_fr1 (sl := Jvm.RoadKit.slotOf Z "com/example/subsumer/subsumer/Ints" "values" "[I") (Fr.nil n0) go
  refine own_return X3 C rfl own_d_prog_35_method_1_code_12 (by decide) (by decide) ?_
  rw [e3]
  have gb : h.size ≤ b2 := Nat.le_of_eq g2.symm
  have ne : oa0 ≠ b2 := Nat.ne_of_lt (Nat.lt_of_lt_of_le Eo.lt gb)
  refine ⟨rfl, N3, b2, Nat.le_trans Z0 gb, gb, ⟨Ex.wr W3, F1.same W3, ⟨0, by decide, F2.other W3 (Or.inr (slot_ne (Or.inl (own_w hw 68 rfl)) (Or.inl (own_w hw 36 rfl)) (by decide) (t := .int) (t' := (.array .int)) (by decide) (by decide)))⟩, A2.other W3 (Ne.symm ne), ne⟩, ?_⟩
  exact ((Keep.refl h [oa0]).ext E2).wr W3 (Or.inl (List.mem_singleton.mpr rfl))
theorem own_pd_I_R_V : parseMethodDescriptor "(I)V" = some ⟨[.int], none⟩ := by decide +kernel
theorem own_d_prog_35_method_5_code_0 : decode prog_35_method_5_code 0 = .ok (.aload_n 0, 1) := by decide +kernel
theorem own_d_prog_35_method_5_code_1 : decode prog_35_method_5_code 1 = .ok (.getfield 13, 3) := by decide +kernel
theorem own_d_prog_35_method_5_code_4 : decode prog_35_method_5_code 4 = .ok (.aload_n 0, 1) := by decide +kernel
theorem own_d_prog_35_method_5_code_5 : decode prog_35_method_5_code 5 = .ok (.getfield 7, 3) := by decide +kernel
theorem own_d_prog_35_method_5_code_8 : decode prog_35_method_5_code 8 = .ok (.arraylength, 1) := by decide +kernel
theorem own_d_prog_35_method_5_code_9 : decode prog_35_method_5_code 9 = .ok (.if_icmp .ne 20, 3) := by decide +kernel
theorem own_d_prog_35_method_5_code_29 : decode prog_35_method_5_code 29 = .ok (.aload_n 0, 1) := by decide +kernel
theorem own_d_prog_35_method_5_code_30 : decode prog_35_method_5_code 30 = .ok (.getfield 7, 3) := by decide +kernel
theorem own_d_prog_35_method_5_code_33 : decode prog_35_method_5_code 33 = .ok (.aload_n 0, 1) := by decide +kernel
theorem own_d_prog_35_method_5_code_34 : decode prog_35_method_5_code 34 = .ok (.dup, 1) := by decide +kernel
theorem own_d_prog_35_method_5_code_35 : decode prog_35_method_5_code 35 = .ok (.getfield 13, 3) := by decide +kernel
theorem own_d_prog_35_method_5_code_38 : decode prog_35_method_5_code 38 = .ok (.dup_x1, 1) := by decide +kernel
theorem own_d_prog_35_method_5_code_39 : decode prog_35_method_5_code 39 = .ok (.iconst 1, 1) := by decide +kernel
theorem own_d_prog_35_method_5_code_40 : decode prog_35_method_5_code 40 = .ok (.iadd, 1) := by decide +kernel
theorem own_d_prog_35_method_5_code_41 : decode prog_35_method_5_code 41 = .ok (.putfield 13, 3) := by decide +kernel
theorem own_d_prog_35_method_5_code_44 : decode prog_35_method_5_code 44 = .ok (.iload_n 1, 1) := by decide +kernel
theorem own_d_prog_35_method_5_code_45 : decode prog_35_method_5_code 45 = .ok (.iastore, 1) := by decide +kernel
theorem own_d_prog_35_method_5_code_46 : decode prog_35_method_5_code 46 = .ok (.return_, 1) := by decide +kernel
set_option maxRecDepth 65536 in
set_option maxHeartbeats 4000000 in
theorem own_ef_own_rm_I_add (m : MethodId) (oa0 : Nat) (ia1 : Int32) : entryFrame m #[(.ref oa0), (.int ia1)] 2 = (mkF m 0 #[.val (.ref oa0), .val (.int ia1)] []) := by first | (simp [entryFrame, mkF, argsToLocals, Value.category]; done) | rfl
set_option maxRecDepth 65536 in
set_option maxHeartbeats 4000000 in
theorem own_rm_I_add (l : Launch) (Z : State) (a0 : Array Value) (hw : ∀ d ∈ tables_1, d.before a0 Z = true) (oa0 : Nat) (ia1 : Int32) (h : Heap) (a : Nat) (n : Nat) (g : Nat → Int32) (I : OwnI Z h oa0 a n g) (n0 : Nat) (go : n0 ≤ oa0) (ga : n0 ≤ a) (hn : n < 16) :
    OwnMet l Z (⟨"com/example/subsumer/subsumer/Ints", "add", "(I)V"⟩ : MethodName) prog_35_method_5_code 2 none [] ({ frames := 0, cells := 0, slots := 0, locals := 0 } : Room) #[(.ref oa0), (.int ia1)] h (fun v h' L => v = none ∧ Fr n0 L ∧ OwnI Z h' oa0 a (n + 1) (fun i => if i = n then ia1 else g i) ∧ Keep h h' [oa0, a]) := by
  refine own_enter (f0 := fun m => mkF m 0 #[.val (.ref oa0), .val (.int ia1)] []) (plainFor_of_name own_pn_Ints) (fun m => own_ef_own_rm_I_add m oa0 ia1) ?_
  intro p e s m below meth c T0 X0 C e0
  obtain ⟨Eo, Fv, ⟨z0, hz0, Fs⟩, A, ne⟩ := I
  refine own_aload_n X0 C own_d_prog_35_method_5_code_0 1 rfl rfl rfl ?_
  refine own_getfield X0 C (host := "") (Or.inl (own_w hw 67 rfl)) Via.refl e0 Fs own_d_prog_35_method_5_code_1 4 rfl (fun T1 X1 e1 => ?_)
  refine own_aload_n X1 C own_d_prog_35_method_5_code_4 5 rfl rfl rfl ?_
  refine own_getfield X1 C (host := "") (Or.inl (own_w hw 35 rfl)) Via.refl e1 Fv own_d_prog_35_method_5_code_5 8 rfl (fun T2 X2 e2 => ?_)
  refine own_arraylength X2 C e2 A own_d_prog_35_method_5_code_8 9 rfl (by decide) (fun v1 ev1 fv1 => ?_)
  refine own_icmpne X2 C own_d_prog_35_method_5_code_9 12 29 rfl (by decide) (by decide) (i := z0.toInt) rfl (j := v1.toInt) rfl (fun b3 => ?_) (fun b3 => ?_)
  · refine own_aload_n X2 C own_d_prog_35_method_5_code_29 30 rfl rfl rfl ?_
    refine own_getfield X2 C (host := "") (Or.inl (own_w hw 35 rfl)) Via.refl e2 Fv own_d_prog_35_method_5_code_30 33 rfl (fun T4 X4 e4 => ?_)
    refine own_aload_n X4 C own_d_prog_35_method_5_code_33 34 rfl rfl rfl ?_
    refine own_dup X4 C own_d_prog_35_method_5_code_34 35 rfl rfl ?_
    refine own_getfield X4 C (host := "") (Or.inl (own_w hw 67 rfl)) Via.refl e4 Fs own_d_prog_35_method_5_code_35 38 rfl (fun T5 X5 e5 => ?_)
    refine own_dup_x1 X5 C own_d_prog_35_method_5_code_38 39 rfl rfl rfl ?_
    refine own_iconst X5 C own_d_prog_35_method_5_code_39 40 rfl (1) rfl ?_
    refine own_iadd X5 C own_d_prog_35_method_5_code_40 41 rfl (fun v2 ev2 => ?_)
    refine own_putfield X5 C (host := "") (Or.inl (own_w hw 67 rfl)) Via.refl e5 Fs Eo (Or.inl (own_w hw 68 rfl)) (own_w hw 29 rfl) (ty := .int) (by decide) rfl rfl own_d_prog_35_method_5_code_41 44 rfl (fun T6 h6 X6 e6 W6 => ?_)
    have N6 := own_fr1 (sl := Jvm.RoadKit.slotOf Z "com/example/subsumer/subsumer/Ints" "size" "I") (Fr.nil n0) go
    have A1 := A.other W6 (Ne.symm ne)
    refine own_iload_n X6 C own_d_prog_35_method_5_code_44 45 rfl rfl ?_
    refine own_iastore X6 C e6 A1 (by omega) (by omega) own_d_prog_35_method_5_code_45 46 rfl (fun T7 h7 X7 e7 W7 => ?_)
    have N7 := own_fr1 (sl := (z0).toInt.toNat) N6 ga
    refine own_return X7 C rfl own_d_prog_35_method_5_code_46 (by decide) (by decide) ?_
    rw [e7]
    refine ⟨rfl, N7, ⟨(Eo.wr W6).wr W7, (Fv.other W6 (Or.inr (slot_ne (Or.inl (own_w hw 36 rfl)) (Or.inl (own_w hw 68 rfl)) (by decide) (t := (.array .int)) (t' := .int) (by decide) (by decide)))).other W7 (Or.inl ne), ⟨v2, ?_, (Fs.same W6).other W7 (Or.inl ne)⟩, (A1.set W7).eqv ?_, ne⟩, ?_⟩
    · have q := c_iadd z0 1
      rw [← ev2] at q
      have q1 : (1 : Int32).toInt = 1 := by decide
      have q2 := rng32 v2
      omega
    · intro i hi
      have q : z0.toInt.toNat = n := by omega
      rw [q]
      by_cases k : i = n <;> simp [k]
    · exact ((Keep.refl h [oa0, a]).wr W6 (Or.inl (by simp))).wr W7 (Or.inl (by simp))
  · exfalso
    omega
theorem own_pd__R_I : parseMethodDescriptor "()I" = some ⟨[], some .int⟩ := by decide +kernel
theorem own_d_prog_35_method_2_code_0 : decode prog_35_method_2_code 0 = .ok (.aload_n 0, 1) := by decide +kernel
theorem own_d_prog_35_method_2_code_1 : decode prog_35_method_2_code 1 = .ok (.getfield 13, 3) := by decide +kernel
theorem own_d_prog_35_method_2_code_4 : decode prog_35_method_2_code 4 = .ok (.ireturn, 1) := by decide +kernel
set_option maxRecDepth 65536 in
set_option maxHeartbeats 4000000 in
theorem own_ef_own_rm_I_size (m : MethodId) (oa0 : Nat) : entryFrame m #[(.ref oa0)] 1 = (mkF m 0 #[.val (.ref oa0)] []) := by first | (simp [entryFrame, mkF, argsToLocals, Value.category]; done) | rfl
set_option maxRecDepth 65536 in
set_option maxHeartbeats 4000000 in
theorem own_rm_I_size (l : Launch) (Z : State) (a0 : Array Value) (hw : ∀ d ∈ tables_1, d.before a0 Z = true) (oa0 : Nat) (h : Heap) (a : Nat) (n : Nat) (g : Nat → Int32) (I : OwnI Z h oa0 a n g) :
    OwnMet l Z (⟨"com/example/subsumer/subsumer/Ints", "size", "()I"⟩ : MethodName) prog_35_method_2_code 1 (some .int) [] ({ frames := 0, cells := 0, slots := 0, locals := 0 } : Room) #[(.ref oa0)] h (OwnSome (fun v => ∃ z : Int32, v = .int z ∧ z.toInt = n) h) := by
  refine own_enter (f0 := fun m => mkF m 0 #[.val (.ref oa0)] []) (plainFor_of_name own_pn_Ints) (fun m => own_ef_own_rm_I_size m oa0) ?_
  intro p e s m below meth c T0 X0 C e0
  obtain ⟨Eo, Fv, ⟨z0, hz0, Fs⟩, A, ne⟩ := I
  refine own_aload_n X0 C own_d_prog_35_method_2_code_0 1 rfl rfl rfl ?_
  refine own_getfield X0 C (host := "") (Or.inl (own_w hw 67 rfl)) Via.refl e0 Fs own_d_prog_35_method_2_code_1 4 rfl (fun T1 X1 e1 => ?_)
  refine own_ireturn X1 C rfl own_d_prog_35_method_2_code_4 (by decide) (by decide) ?_
  exact ⟨⟨_, rfl, _, rfl, hz0⟩, e1, rfl⟩
theorem own_pn_Arrays : plainName "java/util/Arrays" = true := by first | (simp [plainName, overriddenIn]; done) | decide +kernel
theorem own_pd_AJJ_R_V : parseMethodDescriptor "([JJ)V" = some ⟨[(.array .long), .long], none⟩ := by decide +kernel
theorem own_d_jdk_65_method_101_code_0 : decode jdk_65_method_101_code 0 = .ok (.iconst 0, 1) := by decide +kernel
theorem own_d_jdk_65_method_101_code_1 : decode jdk_65_method_101_code 1 = .ok (.istore_n 3, 1) := by decide +kernel
theorem own_d_jdk_65_method_101_code_2 : decode jdk_65_method_101_code 2 = .ok (.aload_n 0, 1) := by decide +kernel
theorem own_d_jdk_65_method_101_code_3 : decode jdk_65_method_101_code 3 = .ok (.arraylength, 1) := by decide +kernel
theorem own_d_jdk_65_method_101_code_4 : decode jdk_65_method_101_code 4 = .ok (.istore 4, 2) := by decide +kernel
theorem own_d_jdk_65_method_101_code_6 : decode jdk_65_method_101_code 6 = .ok (.iload_n 3, 1) := by decide +kernel
theorem own_d_jdk_65_method_101_code_7 : decode jdk_65_method_101_code 7 = .ok (.iload 4, 2) := by decide +kernel
theorem own_d_jdk_65_method_101_code_9 : decode jdk_65_method_101_code 9 = .ok (.if_icmp .ge 13, 3) := by decide +kernel
theorem own_d_jdk_65_method_101_code_12 : decode jdk_65_method_101_code 12 = .ok (.aload_n 0, 1) := by decide +kernel
theorem own_d_jdk_65_method_101_code_13 : decode jdk_65_method_101_code 13 = .ok (.iload_n 3, 1) := by decide +kernel
theorem own_d_jdk_65_method_101_code_14 : decode jdk_65_method_101_code 14 = .ok (.lload_n 1, 1) := by decide +kernel
theorem own_d_jdk_65_method_101_code_15 : decode jdk_65_method_101_code 15 = .ok (.lastore, 1) := by decide +kernel
theorem own_d_jdk_65_method_101_code_16 : decode jdk_65_method_101_code 16 = .ok (.iinc 3 1, 3) := by decide +kernel
theorem own_d_jdk_65_method_101_code_19 : decode jdk_65_method_101_code 19 = .ok (.goto (-13), 3) := by decide +kernel
theorem own_d_jdk_65_method_101_code_22 : decode jdk_65_method_101_code 22 = .ok (.return_, 1) := by decide +kernel
set_option maxRecDepth 65536 in
set_option maxHeartbeats 4000000 in
theorem own_ef_own_rm_fill (m : MethodId) (oa0 : Nat) (ja1 : Int64) : entryFrame m #[(.ref oa0), (.long ja1)] 5 = (mkF m 0 #[.val (.ref oa0), .val (.long ja1), .second, .unset, .unset] []) := by first | (simp [entryFrame, mkF, argsToLocals, Value.category]; done) | rfl
set_option maxRecDepth 65536 in
set_option maxHeartbeats 4000000 in
theorem own_rm_fill (l : Launch) (Z : State) (a0 : Array Value) (hw : ∀ d ∈ tables_1, d.before a0 Z = true) (oa0 : Nat) (ja1 : Int64) (h : Heap) (n0 : Nat) (go : n0 ≤ oa0) (f : Nat → Int64) (A : OwnAr Z h oa0 .long 16 (fun i => .long (f i))) :
    OwnMet l Z (⟨"java/util/Arrays", "fill", "([JJ)V"⟩ : MethodName) jdk_65_method_101_code 5 none [] ({ frames := 0, cells := 0, slots := 0, locals := 0 } : Room) #[(.ref oa0), (.long ja1)] h (fun v h' L => v = none ∧ Fr n0 L ∧ Keep h h' [oa0] ∧ OwnAr Z h' oa0 .long 16 (fun _ => .long ja1)) := by
  refine own_enter (f0 := fun m => mkF m 0 #[.val (.ref oa0), .val (.long ja1), .second, .unset, .unset] []) (plainFor_of_name own_pn_Arrays) (fun m => own_ef_own_rm_fill m oa0 ja1) ?_
  intro p e s m below meth c T0 X0 C e0
  refine own_iconst X0 C own_d_jdk_65_method_101_code_0 1 rfl (0) rfl ?_
  refine own_istore_n X0 C own_d_jdk_65_method_101_code_1 2 rfl #[.val (.ref oa0), .val (.long ja1), .second, .val (.int (0 : Int32)), .unset] rfl ?_
  refine own_aload_n X0 C own_d_jdk_65_method_101_code_2 3 rfl rfl rfl ?_
  refine own_arraylength X0 C e0 A own_d_jdk_65_method_101_code_3 4 rfl (by decide) (fun v1 ev1 fv1 => ?_)
  refine own_istore X0 C own_d_jdk_65_method_101_code_4 6 rfl #[.val (.ref oa0), .val (.long ja1), .second, .val (.int (0 : Int32)), .val (.int v1)] rfl ?_
  have loop : ∀ r k, k + r = 16 → ∀ T hc locs, Stand p l e ({ frames := 0, cells := 0, slots := 0, locals := 0 } : Room) s m #[(.ref oa0), (.long ja1)] below meth c T locs 0 0 → T.heap = hc → Fr n0 locs → Keep h hc [oa0] → OwnAr Z hc oa0 .long 16 (fun i => .long (if i < k then ja1 else f i)) → ∀ vi : Int32, vi.toInt = k → OwnEnds p e below (OwnG s (({ frames := 0, cells := 0, slots := 0, locals := 0 } : Room)).cells (({ frames := 0, cells := 0, slots := 0, locals := 0 } : Room)).slots (fun v h' L => v = none ∧ Fr n0 L ∧ Keep h h' [oa0] ∧ OwnAr Z h' oa0 .long 16 (fun _ => .long ja1))) (T.setTop (mkF m 6 #[.val (.ref oa0), .val (.long ja1), .second, .val (.int vi), .val (.int v1)] [])) := by
    intro r
    induction r with
    | zero =>
      intro k hk T hc locs X eT N Kp A vi hvi
      refine own_iload_n X C own_d_jdk_65_method_101_code_6 7 rfl rfl ?_
      refine own_iload X C own_d_jdk_65_method_101_code_7 9 rfl rfl ?_
      refine own_icmpge X C own_d_jdk_65_method_101_code_9 12 22 rfl (by decide) (by decide) (i := vi.toInt) rfl (j := v1.toInt) rfl (fun b1 => ?_) (fun b1 => ?_)
      · refine own_return X C rfl own_d_jdk_65_method_101_code_22 (by decide) (by decide) ?_
        rw [eT]; exact ⟨rfl, N, Kp, A.eqv fun i hi => by rw [if_pos (by omega)]⟩
      · exfalso
        omega
    | succ r ih =>
      intro k hk T hc locs X eT N Kp A vi hvi
      refine own_iload_n X C own_d_jdk_65_method_101_code_6 7 rfl rfl ?_
      refine own_iload X C own_d_jdk_65_method_101_code_7 9 rfl rfl ?_
      refine own_icmpge X C own_d_jdk_65_method_101_code_9 12 22 rfl (by decide) (by decide) (i := vi.toInt) rfl (j := v1.toInt) rfl (fun b2 => ?_) (fun b2 => ?_)
      · exfalso
        omega
      · refine own_aload_n X C own_d_jdk_65_method_101_code_12 13 rfl rfl rfl ?_
        refine own_iload_n X C own_d_jdk_65_method_101_code_13 14 rfl rfl ?_
        refine own_lload_n X C own_d_jdk_65_method_101_code_14 15 rfl rfl ?_
        refine own_lastore X C eT A (by omega) (by omega) own_d_jdk_65_method_101_code_15 16 rfl (fun T3 h3 X3 e3 W3 => ?_)
        have N3 := own_fr1 (sl := (vi).toInt.toNat) N go
        have hj : vi.toInt.toNat = k := by omega
        rw [hj] at W3
        replace A : OwnAr Z h3 oa0 .long 16 (fun i => .long (if i < k + 1 then ja1 else f i)) := (A.set W3).eqv fun i _ => by
          by_cases q : i = k
          · rw [if_pos q, if_pos (by omega)]
          · rw [if_neg q]
            by_cases q2 : i < k
            · rw [if_pos q2, if_pos (by omega)]
            · rw [if_neg q2, if_neg (by omega)]
        replace Kp := Kp.wr W3 (Or.inl (List.mem_singleton.mpr rfl))
        refine own_iinc X3 C own_d_jdk_65_method_101_code_16 19 rfl rfl (1) rfl (fun z => #[.val (.ref oa0), .val (.long ja1), .second, .val (.int z), .val (.int v1)]) (fun z => rfl) (fun v2 ev2 => ?_)
        refine own_goto X3 C own_d_jdk_65_method_101_code_19 6 (by decide) (by decide) ?_
        have y1 := c_iadd vi 1
        rw [← ev2] at y1
        have y2 := rng32 v2
        have y3 : (1 : Int32).toInt = 1 := by decide
        exact ih (k + 1) (by omega) T3 h3 _ X3 e3 N3 Kp A _ (by omega)
  exact loop 16 0 (by omega) T0 h [] X0 e0 (Fr.nil _) (Keep.refl _ _) (A.eqv fun i _ => by rw [if_neg (by omega)]) _ rfl
theorem own_pn_Pairs : plainName "com/example/subsumer/subsumer/Pairs" = true := by first | (simp [plainName, overriddenIn]; done) | decide +kernel
theorem own_pd_I_R_AJ : parseMethodDescriptor "(I)[J" = some ⟨[.int], some (.array .long)⟩ := by decide +kernel
theorem own_d_prog_43_method_10_code_0 : decode prog_43_method_10_code 0 = .ok (.iload_n 0, 1) := by decide +kernel
theorem own_d_prog_43_method_10_code_1 : decode prog_43_method_10_code 1 = .ok (.newarray .long, 2) := by decide +kernel
theorem own_d_prog_43_method_10_code_3 : decode prog_43_method_10_code 3 = .ok (.astore_n 1, 1) := by decide +kernel
theorem own_d_prog_43_method_10_code_4 : decode prog_43_method_10_code 4 = .ok (.aload_n 1, 1) := by decide +kernel
theorem own_d_prog_43_method_10_code_5 : decode prog_43_method_10_code 5 = .ok (.ldc2_w 43, 3) := by decide +kernel
theorem own_d_prog_43_method_10_code_8 : decode prog_43_method_10_code 8 = .ok (.invokestatic 45, 3) := by decide +kernel
theorem own_d_prog_43_method_10_code_11 : decode prog_43_method_10_code 11 = .ok (.aload_n 1, 1) := by decide +kernel
theorem own_d_prog_43_method_10_code_12 : decode prog_43_method_10_code 12 = .ok (.areturn, 1) := by decide +kernel
set_option maxRecDepth 65536 in
set_option maxHeartbeats 4000000 in
theorem own_ef_own_rm_newKeys (m : MethodId)  : entryFrame m #[(.int (16 : Int32))] 2 = (mkF m 0 #[.val (.int (16 : Int32)), .unset] []) := by first | (simp [entryFrame, mkF, argsToLocals, Value.category]; done) | rfl
set_option maxRecDepth 65536 in
set_option maxHeartbeats 4000000 in
theorem own_rm_newKeys (l : Launch) (Z : State) (a0 : Array Value) (hw : ∀ d ∈ tables_1, d.before a0 Z = true)  (h : Heap) (n0 : Nat) (Z0 : n0 ≤ h.size) :
    OwnMet l Z (⟨"com/example/subsumer/subsumer/Pairs", "newKeys", "(I)[J"⟩ : MethodName) prog_43_method_10_code 2 (some (.array .long)) [] ({ frames := 1, cells := 1, slots := 16, locals := 40 } : Room) #[(.int (16 : Int32))] h (fun v h' L => (∃ b : Nat, v = some (.ref b) ∧ b = h.size ∧ OwnAr Z h' b .long 16 (fun i => .long (own_f0 i))) ∧ Fr n0 L ∧ Keep h h' []) := by
  refine own_enter (f0 := fun m => mkF m 0 #[.val (.int (16 : Int32)), .unset] []) (plainFor_of_name own_pn_Pairs) (fun m => own_ef_own_rm_newKeys m ) ?_
  intro p e s m below meth c T0 X0 C e0
  refine own_iload_n X0 C own_d_prog_43_method_10_code_0 1 rfl rfl ?_
  refine own_newarray X0 C (own_w hw 17 rfl) e0 own_d_prog_43_method_10_code_1 3 rfl (by decide) 16 (by decide) (by decide) (by decide) (by decide) (fun T1 h1 b1 g1 X1 e1 E1 A1 => ?_)
  refine own_astore_n X1 C own_d_prog_43_method_10_code_3 4 rfl rfl #[.val (.int (16 : Int32)), .val (.ref b1)] rfl ?_
  refine own_aload_n X1 C own_d_prog_43_method_10_code_4 5 rfl rfl rfl ?_
  refine own_ldc2 X1 C (own_w hw 18 rfl) own_d_prog_43_method_10_code_5 8 rfl ?_
  refine own_callS X1 C (own_w hw 19 rfl) (own_w hw 20 rfl) (own_w hw 21 rfl) (own_w hw 22 rfl) (by decide) (own_rm_fill l Z a0 hw b1 (-1 : Int64) h1 n0 (Nat.le_trans Z0 (Nat.le_of_eq g1.symm)) (fun _ => 0) A1) e1 own_pd_AJJ_R_V [(.ref b1), (.long (-1 : Int64))] rfl rfl rfl rfl 0 rfl (by decide) (by decide) (by decide) (by decide) own_d_prog_43_method_10_code_8 11 rfl (fun T2 L2 v2 X2 q2 => ?_)
  obtain ⟨rfl, NL2, K2, A2⟩ := q2
  have N2 := Fr.app (Fr.nil n0) NL2
  refine own_aload_n X2 C own_d_prog_43_method_10_code_11 12 rfl rfl rfl ?_
  refine own_areturn X2 C _ rfl rfl rfl rfl own_d_prog_43_method_10_code_12 (by decide) (by decide) ?_
  exact ⟨⟨_, rfl, g1, A2⟩, N2, ((Keep.refl h []).ext E1).trans K2 (allS (Or.inr (Nat.le_of_eq g1.symm)) all0)⟩
def OwnP (Z : State) (h : Heap) (o kA nA lO lA rO rA : Nat) (w : Int64) (f : Nat → Int64) (g : Nat → Int32) (n : Nat) : Prop :=
  Exa Z h o "com/example/subsumer/subsumer/Pairs" ∧ Fld Z h o "com/example/subsumer/subsumer/Pairs" "keys" "[J" (.ref kA) ∧ Fld Z h o "com/example/subsumer/subsumer/Pairs" "numbers" "[I" (.ref nA) ∧ Fld Z h o "com/example/subsumer/subsumer/Pairs" "lefts" "Lcom/example/subsumer/subsumer/Ints;" (.ref lO) ∧ Fld Z h o "com/example/subsumer/subsumer/Pairs" "rights" "Lcom/example/subsumer/subsumer/Ints;" (.ref rO) ∧ Fld Z h o "com/example/subsumer/subsumer/Pairs" "width" "J" (.long w) ∧ OwnAr Z h kA .long 16 (fun i => .long (f i)) ∧ OwnAr Z h nA .int 16 (fun i => .int (g i)) ∧ (∃ gl, OwnI Z h lO lA n gl) ∧ (∃ gr, OwnI Z h rO rA n gr) ∧ o < kA ∧ kA < nA ∧ nA < lO ∧ lO < lA ∧ lA < rO ∧ rO < rA
theorem own_d_prog_43_method_1_code_0 : decode prog_43_method_1_code 0 = .ok (.aload_n 0, 1) := by decide +kernel
theorem own_d_prog_43_method_1_code_1 : decode prog_43_method_1_code 1 = .ok (.invokespecial 1, 3) := by decide +kernel
theorem own_d_prog_43_method_1_code_4 : decode prog_43_method_1_code 4 = .ok (.aload_n 0, 1) := by decide +kernel
theorem own_d_prog_43_method_1_code_5 : decode prog_43_method_1_code 5 = .ok (.bipush 16, 2) := by decide +kernel
theorem own_d_prog_43_method_1_code_7 : decode prog_43_method_1_code 7 = .ok (.invokestatic 9, 3) := by decide +kernel
theorem own_d_prog_43_method_1_code_10 : decode prog_43_method_1_code 10 = .ok (.putfield 13, 3) := by decide +kernel
theorem own_d_prog_43_method_1_code_13 : decode prog_43_method_1_code 13 = .ok (.aload_n 0, 1) := by decide +kernel
theorem own_d_prog_43_method_1_code_14 : decode prog_43_method_1_code 14 = .ok (.aload_n 0, 1) := by decide +kernel
theorem own_d_prog_43_method_1_code_15 : decode prog_43_method_1_code 15 = .ok (.getfield 13, 3) := by decide +kernel
theorem own_d_prog_43_method_1_code_18 : decode prog_43_method_1_code 18 = .ok (.arraylength, 1) := by decide +kernel
theorem own_d_prog_43_method_1_code_19 : decode prog_43_method_1_code 19 = .ok (.newarray .int, 2) := by decide +kernel
theorem own_d_prog_43_method_1_code_21 : decode prog_43_method_1_code 21 = .ok (.putfield 17, 3) := by decide +kernel
theorem own_d_prog_43_method_1_code_24 : decode prog_43_method_1_code 24 = .ok (.aload_n 0, 1) := by decide +kernel
theorem own_d_prog_43_method_1_code_25 : decode prog_43_method_1_code 25 = .ok (.new 21, 3) := by decide +kernel
theorem own_d_prog_43_method_1_code_28 : decode prog_43_method_1_code 28 = .ok (.dup, 1) := by decide +kernel
theorem own_d_prog_43_method_1_code_29 : decode prog_43_method_1_code 29 = .ok (.invokespecial 23, 3) := by decide +kernel
theorem own_d_prog_43_method_1_code_32 : decode prog_43_method_1_code 32 = .ok (.putfield 24, 3) := by decide +kernel
theorem own_d_prog_43_method_1_code_35 : decode prog_43_method_1_code 35 = .ok (.aload_n 0, 1) := by decide +kernel
theorem own_d_prog_43_method_1_code_36 : decode prog_43_method_1_code 36 = .ok (.new 21, 3) := by decide +kernel
theorem own_d_prog_43_method_1_code_39 : decode prog_43_method_1_code 39 = .ok (.dup, 1) := by decide +kernel
theorem own_d_prog_43_method_1_code_40 : decode prog_43_method_1_code 40 = .ok (.invokespecial 23, 3) := by decide +kernel
theorem own_d_prog_43_method_1_code_43 : decode prog_43_method_1_code 43 = .ok (.putfield 28, 3) := by decide +kernel
theorem own_d_prog_43_method_1_code_46 : decode prog_43_method_1_code 46 = .ok (.aload_n 0, 1) := by decide +kernel
theorem own_d_prog_43_method_1_code_47 : decode prog_43_method_1_code 47 = .ok (.iload_n 1, 1) := by decide +kernel
theorem own_d_prog_43_method_1_code_48 : decode prog_43_method_1_code 48 = .ok (.i2l, 1) := by decide +kernel
theorem own_d_prog_43_method_1_code_49 : decode prog_43_method_1_code 49 = .ok (.putfield 31, 3) := by decide +kernel
theorem own_d_prog_43_method_1_code_52 : decode prog_43_method_1_code 52 = .ok (.return_, 1) := by decide +kernel
set_option maxRecDepth 65536 in
set_option maxHeartbeats 4000000 in
theorem own_ef_own_rm_pinit (m : MethodId) (oa0 : Nat) (ia1 : Int32) : entryFrame m #[(.ref oa0), (.int ia1)] 2 = (mkF m 0 #[.val (.ref oa0), .val (.int ia1)] []) := by first | (simp [entryFrame, mkF, argsToLocals, Value.category]; done) | rfl
set_option maxRecDepth 65536 in
set_option maxHeartbeats 4000000 in
theorem own_rm_pinit (l : Launch) (Z : State) (a0 : Array Value) (hw : ∀ d ∈ tables_1, d.before a0 Z = true) (oa0 : Nat) (ia1 : Int32) (h : Heap) (n0 : Nat) (Z0 : n0 ≤ h.size) (go : n0 ≤ oa0) (Eo : Exa Z h oa0 "com/example/subsumer/subsumer/Pairs") (F_keys : Fld Z h oa0 "com/example/subsumer/subsumer/Pairs" "keys" "[J" .null) (F_numbers : Fld Z h oa0 "com/example/subsumer/subsumer/Pairs" "numbers" "[I" .null) (F_lefts : Fld Z h oa0 "com/example/subsumer/subsumer/Pairs" "lefts" "Lcom/example/subsumer/subsumer/Ints;" .null) (F_rights : Fld Z h oa0 "com/example/subsumer/subsumer/Pairs" "rights" "Lcom/example/subsumer/subsumer/Ints;" .null) (F_width : Fld Z h oa0 "com/example/subsumer/subsumer/Pairs" "width" "J" (.long (0 : Int64))) :
    OwnMet l Z (⟨"com/example/subsumer/subsumer/Pairs", "<init>", "(I)V"⟩ : MethodName) prog_43_method_1_code 2 none [] ({ frames := 3, cells := 8, slots := 100, locals := 90 } : Room) #[(.ref oa0), (.int ia1)] h (fun v h' L => v = none ∧ Fr n0 L ∧ ∃ kA nA lO lA rO rA : Nat, n0 ≤ oa0 ∧ h.size ≤ kA ∧ OwnP Z h' oa0 kA nA lO lA rO rA ia1.toInt64 own_f0 (fun _ => 0) 0) := by
  refine own_enter (f0 := fun m => mkF m 0 #[.val (.ref oa0), .val (.int ia1)] []) (plainFor_of_name own_pn_Pairs) (fun m => own_ef_own_rm_pinit m oa0 ia1) ?_
  intro p e s m below meth c T0 X0 C e0
  have Kp := Keep.refl h [oa0]
  refine own_aload_n X0 C own_d_prog_43_method_1_code_0 1 rfl rfl rfl ?_
  refine own_initO X0 C (own_w hw 11 rfl) (own_w hw 12 rfl) (own_w hw 13 rfl) e0 rfl own_d_prog_43_method_1_code_1 4 rfl (by decide) 0 rfl (by decide) (fun T1 X1 e1 => ?_)
  refine own_aload_n X1 C own_d_prog_43_method_1_code_4 5 rfl rfl rfl ?_
  refine own_bipush X1 C own_d_prog_43_method_1_code_5 7 rfl (16) rfl ?_
  refine own_callS X1 C (own_w hw 14 rfl) (own_w hw 15 rfl) (own_w hw 7 rfl) (own_w hw 16 rfl) (by decide) (own_rm_newKeys l Z a0 hw h n0 Z0) e1 own_pd_I_R_AJ [(.int (16 : Int32))] rfl rfl rfl rfl 1 rfl (by decide) (by decide) (by decide) (by decide) own_d_prog_43_method_1_code_7 10 rfl (fun T2 L2 v2 X2 q2 => ?_)
  obtain ⟨⟨kA, rfl, gk, A_k⟩, NL2, K2⟩ := q2
  have N2 := Fr.app (Fr.nil n0) NL2
  have Lo := own_exl Eo
  have o1 : oa0 < kA := by omega
  replace Kp := Kp.trans K2 all0
  replace Eo := Eo.keep K2
  replace F_keys := F_keys.keep K2 nin0
  replace F_numbers := F_numbers.keep K2 nin0
  replace F_lefts := F_lefts.keep K2 nin0
  replace F_rights := F_rights.keep K2 nin0
  replace F_width := F_width.keep K2 nin0
  refine own_putfield X2 C (host := "") (Or.inl (own_w hw 23 rfl)) Via.refl rfl F_keys Eo (Or.inl (own_w hw 24 rfl)) (own_w hw 6 rfl) (ty := (.array .long)) (by decide) rfl rfl own_d_prog_43_method_1_code_10 13 rfl (fun T3 h3 X3 e3 W3 => ?_)
  have N3 := own_fr1 (sl := Jvm.RoadKit.slotOf Z "com/example/subsumer/subsumer/Pairs" "keys" "[J") N2 go
  replace Eo := Eo.wr W3
  replace F_keys := F_keys.same W3
  replace Kp := Kp.wr W3 (Or.inl (List.mem_singleton.mpr rfl))
  replace F_numbers := F_numbers.other W3 (Or.inr (slot_ne (Or.inl (own_w hw 27 rfl)) (Or.inl (own_w hw 24 rfl)) (by decide) (t := (.array .int)) (t' := (.array .long)) (by decide) (by decide)))
  replace F_lefts := F_lefts.other W3 (Or.inr (slot_ne (Or.inr (own_w hw 38 rfl)) (Or.inl (own_w hw 24 rfl)) (by decide) (t := (.object "com/example/subsumer/subsumer/Ints")) (t' := (.array .long)) (by decide) (by decide)))
  replace F_rights := F_rights.other W3 (Or.inr (slot_ne (Or.inr (own_w hw 40 rfl)) (Or.inl (own_w hw 24 rfl)) (by decide) (t := (.object "com/example/subsumer/subsumer/Ints")) (t' := (.array .long)) (by decide) (by decide)))
  replace F_width := F_width.other W3 (Or.inr (slot_ne (Or.inr (own_w hw 42 rfl)) (Or.inl (own_w hw 24 rfl)) (by decide) (t := .long) (t' := (.array .long)) (by decide) (by decide)))
  replace A_k := A_k.other W3 (own_ne (by omega))
  refine own_aload_n X3 C own_d_prog_43_method_1_code_13 14 rfl rfl rfl ?_
  refine own_aload_n X3 C own_d_prog_43_method_1_code_14 15 rfl rfl rfl ?_
  refine own_getfield X3 C (host := "") (Or.inl (own_w hw 23 rfl)) Via.refl e3 F_keys own_d_prog_43_method_1_code_15 18 rfl (fun T4 X4 e4 => ?_)
  refine own_arraylength X4 C e4 A_k own_d_prog_43_method_1_code_18 19 rfl (by decide) (fun v1 ev1 fv1 => ?_)
  have szk := own_arl A_k
  refine own_newarray X4 C (own_w hw 25 rfl) e4 own_d_prog_43_method_1_code_19 21 rfl (by omega) 16 (by omega) (by decide) (by decide) (by decide) (fun T5 h5 b5 g5 X5 e5 E5 A5 => ?_)
  replace Eo := Eo.ext E5
  replace Kp := Kp.ext E5
  replace F_keys := F_keys.ext E5
  replace F_numbers := F_numbers.ext E5
  replace F_lefts := F_lefts.ext E5
  replace F_rights := F_rights.ext E5
  replace F_width := F_width.ext E5
  replace A_k := A_k.ext E5
  have A_n : OwnAr Z h5 b5 .int 16 (fun i => .int ((fun _ => (0 : Int32)) i)) := by
    have q : v1.toInt.toNat = 16 := by omega
    rw [q] at A5; exact A5
  have o2 : kA < b5 := by omega
  refine own_putfield X5 C (host := "") (Or.inl (own_w hw 26 rfl)) Via.refl e5 F_numbers Eo (Or.inl (own_w hw 27 rfl)) (own_w hw 6 rfl) (ty := (.array .int)) (by decide) rfl rfl own_d_prog_43_method_1_code_21 24 rfl (fun T6 h6 X6 e6 W6 => ?_)
  have N6 := own_fr1 (sl := Jvm.RoadKit.slotOf Z "com/example/subsumer/subsumer/Pairs" "numbers" "[I") N3 go
  replace Eo := Eo.wr W6
  replace F_numbers := F_numbers.same W6
  replace Kp := Kp.wr W6 (Or.inl (List.mem_singleton.mpr rfl))
  replace F_keys := F_keys.other W6 (Or.inr (slot_ne (Or.inl (own_w hw 24 rfl)) (Or.inl (own_w hw 27 rfl)) (by decide) (t := (.array .long)) (t' := (.array .int)) (by decide) (by decide)))
  replace F_lefts := F_lefts.other W6 (Or.inr (slot_ne (Or.inr (own_w hw 38 rfl)) (Or.inl (own_w hw 27 rfl)) (by decide) (t := (.object "com/example/subsumer/subsumer/Ints")) (t' := (.array .int)) (by decide) (by decide)))
  replace F_rights := F_rights.other W6 (Or.inr (slot_ne (Or.inr (own_w hw 40 rfl)) (Or.inl (own_w hw 27 rfl)) (by decide) (t := (.object "com/example/subsumer/subsumer/Ints")) (t' := (.array .int)) (by decide) (by decide)))
  replace F_width := F_width.other W6 (Or.inr (slot_ne (Or.inr (own_w hw 42 rfl)) (Or.inl (own_w hw 27 rfl)) (by decide) (t := .long) (t' := (.array .int)) (by decide) (by decide)))
  replace A_k := A_k.other W6 (own_ne (by omega))
  replace A_n := A_n.other W6 (own_ne (by omega))
  refine own_aload_n X6 C own_d_prog_43_method_1_code_24 25 rfl rfl rfl ?_
  have sz0 := own_arl A_n
  refine own_new X6 C (own_w hw 28 rfl) (own_w hw 29 rfl) (own_w hw 30 rfl) e6 own_d_prog_43_method_1_code_25 28 rfl (by decide) (by decide) (fun T7 h7 b7 g7 X7 e7 E7 A7 D7 => ?_)
  have Fv0 : Fld Z h7 b7 "com/example/subsumer/subsumer/Ints" "values" "[I" .null := D7 (Or.inl (own_w hw 36 rfl)) (ty := (.array .int)) (by decide)
  have Fs0 : Fld Z h7 b7 "com/example/subsumer/subsumer/Ints" "size" "I" (.int (0 : Int32)) := D7 (Or.inl (own_w hw 68 rfl)) (ty := .int) (by decide)
  replace Eo := Eo.ext E7
  replace Kp := Kp.ext E7
  replace F_keys := F_keys.ext E7
  replace F_numbers := F_numbers.ext E7
  replace F_lefts := F_lefts.ext E7
  replace F_rights := F_rights.ext E7
  replace F_width := F_width.ext E7
  replace A_k := A_k.ext E7
  replace A_n := A_n.ext E7
  have gi0 : h.size ≤ b7 := by have q := Kp.1; omega
  have oi0 : b5 < b7 := by omega
  have lo0 : oa0 < b7 := by omega
  refine own_dup X7 C own_d_prog_43_method_1_code_28 29 rfl rfl ?_
  have hs0 := E7.1
  have zz0 : n0 ≤ h7.size := by have q := Kp.1; omega
  refine own_callI X7 C rfl (own_w hw 31 rfl) (own_w hw 32 rfl) (own_w hw 30 rfl) (own_w hw 33 rfl) rfl (by decide) (own_rm_I_init l Z a0 hw b7 h7 n0 zz0 (Nat.le_trans Z0 gi0) A7 Fv0 Fs0) e7 own_pd__R_V [] rfl rfl rfl rfl 2 rfl (by decide) (by decide) (by decide) (by decide) own_d_prog_43_method_1_code_29 32 rfl (fun T8 L8 v8 X8 q8 => ?_)
  obtain ⟨rfl, NL8, ai0, -, ha0, I_0, K8⟩ := q8
  have N8 := Fr.app N6 NL8
  have la0 : b7 < ai0 := by have q := own_exl A7; omega
  replace Kp := Kp.trans K8 (allS (Or.inr gi0) all0)
  replace Eo := Eo.keep K8
  replace F_keys := F_keys.keep K8 (ninS (own_ne (by omega)) nin0)
  replace F_numbers := F_numbers.keep K8 (ninS (own_ne (by omega)) nin0)
  replace F_lefts := F_lefts.keep K8 (ninS (own_ne (by omega)) nin0)
  replace F_rights := F_rights.keep K8 (ninS (own_ne (by omega)) nin0)
  replace F_width := F_width.keep K8 (ninS (own_ne (by omega)) nin0)
  replace A_k := A_k.keep K8 (ninS (own_ne (by omega)) nin0)
  replace A_n := A_n.keep K8 (ninS (own_ne (by omega)) nin0)
  refine own_putfield X8 C (host := "") (Or.inl (own_w hw 37 rfl)) Via.refl rfl F_lefts Eo (Or.inr ⟨(own_w hw 38 rfl), rfl, rfl⟩) (own_w hw 6 rfl) (ty := (.object "com/example/subsumer/subsumer/Ints")) (by decide) rfl rfl own_d_prog_43_method_1_code_32 35 rfl (fun T9 h9 X9 e9 W9 => ?_)
  have N9 := own_fr1 (sl := Jvm.RoadKit.slotOf Z "com/example/subsumer/subsumer/Pairs" "lefts" "Lcom/example/subsumer/subsumer/Ints;") N8 go
  replace Eo := Eo.wr W9
  replace F_lefts := F_lefts.same W9
  replace Kp := Kp.wr W9 (Or.inl (List.mem_singleton.mpr rfl))
  replace F_keys := F_keys.other W9 (Or.inr (slot_ne (Or.inl (own_w hw 24 rfl)) (Or.inr (own_w hw 38 rfl)) (by decide) (t := (.array .long)) (t' := (.object "com/example/subsumer/subsumer/Ints")) (by decide) (by decide)))
  replace F_numbers := F_numbers.other W9 (Or.inr (slot_ne (Or.inl (own_w hw 27 rfl)) (Or.inr (own_w hw 38 rfl)) (by decide) (t := (.array .int)) (t' := (.object "com/example/subsumer/subsumer/Ints")) (by decide) (by decide)))
  replace F_rights := F_rights.other W9 (Or.inr (slot_ne (Or.inr (own_w hw 40 rfl)) (Or.inr (own_w hw 38 rfl)) (by decide) (t := (.object "com/example/subsumer/subsumer/Ints")) (t' := (.object "com/example/subsumer/subsumer/Ints")) (by decide) (by decide)))
  replace F_width := F_width.other W9 (Or.inr (slot_ne (Or.inr (own_w hw 42 rfl)) (Or.inr (own_w hw 38 rfl)) (by decide) (t := .long) (t' := (.object "com/example/subsumer/subsumer/Ints")) (by decide) (by decide)))
  replace A_k := A_k.other W9 (own_ne (by omega))
  replace A_n := A_n.other W9 (own_ne (by omega))
  replace I_0 := I_0.other W9 (own_ne (by omega)) (own_ne (by omega))
  refine own_aload_n X9 C own_d_prog_43_method_1_code_35 36 rfl rfl rfl ?_
  have sz1 := own_arl I_0.2.2.2.1
  refine own_new X9 C (own_w hw 28 rfl) (own_w hw 29 rfl) (own_w hw 30 rfl) e9 own_d_prog_43_method_1_code_36 39 rfl (by decide) (by decide) (fun T10 h10 b10 g10 X10 e10 E10 A10 D10 => ?_)
  have Fv1 : Fld Z h10 b10 "com/example/subsumer/subsumer/Ints" "values" "[I" .null := D10 (Or.inl (own_w hw 36 rfl)) (ty := (.array .int)) (by decide)
  have Fs1 : Fld Z h10 b10 "com/example/subsumer/subsumer/Ints" "size" "I" (.int (0 : Int32)) := D10 (Or.inl (own_w hw 68 rfl)) (ty := .int) (by decide)
  replace Eo := Eo.ext E10
  replace Kp := Kp.ext E10
  replace F_keys := F_keys.ext E10
  replace F_numbers := F_numbers.ext E10
  replace F_lefts := F_lefts.ext E10
  replace F_rights := F_rights.ext E10
  replace F_width := F_width.ext E10
  replace A_k := A_k.ext E10
  replace A_n := A_n.ext E10
  replace I_0 := I_0.ext E10
  have gi1 : h.size ≤ b10 := by have q := Kp.1; omega
  have oi1 : ai0 < b10 := by omega
  have lo1 : oa0 < b10 := by omega
  refine own_dup X10 C own_d_prog_43_method_1_code_39 40 rfl rfl ?_
  have hs1 := E10.1
  have zz1 : n0 ≤ h10.size := by have q := Kp.1; omega
  refine own_callI X10 C rfl (own_w hw 31 rfl) (own_w hw 32 rfl) (own_w hw 30 rfl) (own_w hw 33 rfl) rfl (by decide) (own_rm_I_init l Z a0 hw b10 h10 n0 zz1 (Nat.le_trans Z0 gi1) A10 Fv1 Fs1) e10 own_pd__R_V [] rfl rfl rfl rfl 2 rfl (by decide) (by decide) (by decide) (by decide) own_d_prog_43_method_1_code_40 43 rfl (fun T11 L11 v11 X11 q11 => ?_)
  obtain ⟨rfl, NL11, ai1, -, ha1, I_1, K11⟩ := q11
  have N11 := Fr.app N9 NL11
  have la1 : b10 < ai1 := by have q := own_exl A10; omega
  replace Kp := Kp.trans K11 (allS (Or.inr gi1) all0)
  replace Eo := Eo.keep K11
  replace F_keys := F_keys.keep K11 (ninS (own_ne (by omega)) nin0)
  replace F_numbers := F_numbers.keep K11 (ninS (own_ne (by omega)) nin0)
  replace F_lefts := F_lefts.keep K11 (ninS (own_ne (by omega)) nin0)
  replace F_rights := F_rights.keep K11 (ninS (own_ne (by omega)) nin0)
  replace F_width := F_width.keep K11 (ninS (own_ne (by omega)) nin0)
  replace A_k := A_k.keep K11 (ninS (own_ne (by omega)) nin0)
  replace A_n := A_n.keep K11 (ninS (own_ne (by omega)) nin0)
  replace I_0 := I_0.keep K11 (ninS (own_ne (by omega)) nin0) (ninS (own_ne (by omega)) nin0)
  refine own_putfield X11 C (host := "") (Or.inl (own_w hw 39 rfl)) Via.refl rfl F_rights Eo (Or.inr ⟨(own_w hw 40 rfl), rfl, rfl⟩) (own_w hw 6 rfl) (ty := (.object "com/example/subsumer/subsumer/Ints")) (by decide) rfl rfl own_d_prog_43_method_1_code_43 46 rfl (fun T12 h12 X12 e12 W12 => ?_)
  have N12 := own_fr1 (sl := Jvm.RoadKit.slotOf Z "com/example/subsumer/subsumer/Pairs" "rights" "Lcom/example/subsumer/subsumer/Ints;") N11 go
  replace Eo := Eo.wr W12
  replace F_rights := F_rights.same W12
  replace Kp := Kp.wr W12 (Or.inl (List.mem_singleton.mpr rfl))
  replace F_keys := F_keys.other W12 (Or.inr (slot_ne (Or.inl (own_w hw 24 rfl)) (Or.inr (own_w hw 40 rfl)) (by decide) (t := (.array .long)) (t' := (.object "com/example/subsumer/subsumer/Ints")) (by decide) (by decide)))
  replace F_numbers := F_numbers.other W12 (Or.inr (slot_ne (Or.inl (own_w hw 27 rfl)) (Or.inr (own_w hw 40 rfl)) (by decide) (t := (.array .int)) (t' := (.object "com/example/subsumer/subsumer/Ints")) (by decide) (by decide)))
  replace F_lefts := F_lefts.other W12 (Or.inr (slot_ne (Or.inr (own_w hw 38 rfl)) (Or.inr (own_w hw 40 rfl)) (by decide) (t := (.object "com/example/subsumer/subsumer/Ints")) (t' := (.object "com/example/subsumer/subsumer/Ints")) (by decide) (by decide)))
  replace F_width := F_width.other W12 (Or.inr (slot_ne (Or.inr (own_w hw 42 rfl)) (Or.inr (own_w hw 40 rfl)) (by decide) (t := .long) (t' := (.object "com/example/subsumer/subsumer/Ints")) (by decide) (by decide)))
  replace A_k := A_k.other W12 (own_ne (by omega))
  replace A_n := A_n.other W12 (own_ne (by omega))
  replace I_0 := I_0.other W12 (own_ne (by omega)) (own_ne (by omega))
  replace I_1 := I_1.other W12 (own_ne (by omega)) (own_ne (by omega))
  refine own_aload_n X12 C own_d_prog_43_method_1_code_46 47 rfl rfl rfl ?_
  refine own_iload_n X12 C own_d_prog_43_method_1_code_47 48 rfl rfl ?_
  refine own_i2l X12 C own_d_prog_43_method_1_code_48 49 rfl (fun v2 ev2 => ?_)
  refine own_putfield X12 C (host := "") (Or.inl (own_w hw 41 rfl)) Via.refl e12 F_width Eo (Or.inr ⟨(own_w hw 42 rfl), rfl, rfl⟩) (own_w hw 6 rfl) (ty := .long) (by decide) rfl rfl own_d_prog_43_method_1_code_49 52 rfl (fun T13 h13 X13 e13 W13 => ?_)
  have N13 := own_fr1 (sl := Jvm.RoadKit.slotOf Z "com/example/subsumer/subsumer/Pairs" "width" "J") N12 go
  replace Eo := Eo.wr W13
  replace F_width := F_width.same W13
  replace Kp := Kp.wr W13 (Or.inl (List.mem_singleton.mpr rfl))
  replace F_keys := F_keys.other W13 (Or.inr (slot_ne (Or.inl (own_w hw 24 rfl)) (Or.inr (own_w hw 42 rfl)) (by decide) (t := (.array .long)) (t' := .long) (by decide) (by decide)))
  replace F_numbers := F_numbers.other W13 (Or.inr (slot_ne (Or.inl (own_w hw 27 rfl)) (Or.inr (own_w hw 42 rfl)) (by decide) (t := (.array .int)) (t' := .long) (by decide) (by decide)))
  replace F_lefts := F_lefts.other W13 (Or.inr (slot_ne (Or.inr (own_w hw 38 rfl)) (Or.inr (own_w hw 42 rfl)) (by decide) (t := (.object "com/example/subsumer/subsumer/Ints")) (t' := .long) (by decide) (by decide)))
  replace F_rights := F_rights.other W13 (Or.inr (slot_ne (Or.inr (own_w hw 40 rfl)) (Or.inr (own_w hw 42 rfl)) (by decide) (t := (.object "com/example/subsumer/subsumer/Ints")) (t' := .long) (by decide) (by decide)))
  replace A_k := A_k.other W13 (own_ne (by omega))
  replace A_n := A_n.other W13 (own_ne (by omega))
  replace I_0 := I_0.other W13 (own_ne (by omega)) (own_ne (by omega))
  replace I_1 := I_1.other W13 (own_ne (by omega)) (own_ne (by omega))
  refine own_return X13 C rfl own_d_prog_43_method_1_code_52 (by decide) (by decide) ?_
  rw [e13]; rw [ev2] at F_width
  exact ⟨rfl, N13, kA, b5, b7, ai0, b10, ai1, by omega, by omega, ⟨Eo, F_keys, F_numbers, F_lefts, F_rights, F_width, A_k, A_n, ⟨_, I_0⟩, ⟨_, I_1⟩, by omega, by omega, by omega, by omega, by omega, by omega⟩⟩
theorem own_pd_JAJ_R_I : parseMethodDescriptor "(J[J)I" = some ⟨[.long, (.array .long)], some .int⟩ := by decide +kernel
theorem own_d_prog_43_method_9_code_0 : decode prog_43_method_9_code 0 = .ok (.lload_n 0, 1) := by decide +kernel
theorem own_d_prog_43_method_9_code_1 : decode prog_43_method_9_code 1 = .ok (.ldc2_w 66, 3) := by decide +kernel
theorem own_d_prog_43_method_9_code_4 : decode prog_43_method_9_code 4 = .ok (.lmul, 1) := by decide +kernel
theorem own_d_prog_43_method_9_code_5 : decode prog_43_method_9_code 5 = .ok (.bipush 33, 2) := by decide +kernel
theorem own_d_prog_43_method_9_code_7 : decode prog_43_method_9_code 7 = .ok (.lushr, 1) := by decide +kernel
theorem own_d_prog_43_method_9_code_8 : decode prog_43_method_9_code 8 = .ok (.l2i, 1) := by decide +kernel
theorem own_d_prog_43_method_9_code_9 : decode prog_43_method_9_code 9 = .ok (.aload_n 2, 1) := by decide +kernel
theorem own_d_prog_43_method_9_code_10 : decode prog_43_method_9_code 10 = .ok (.arraylength, 1) := by decide +kernel
theorem own_d_prog_43_method_9_code_11 : decode prog_43_method_9_code 11 = .ok (.iconst 1, 1) := by decide +kernel
theorem own_d_prog_43_method_9_code_12 : decode prog_43_method_9_code 12 = .ok (.isub, 1) := by decide +kernel
theorem own_d_prog_43_method_9_code_13 : decode prog_43_method_9_code 13 = .ok (.iand, 1) := by decide +kernel
theorem own_d_prog_43_method_9_code_14 : decode prog_43_method_9_code 14 = .ok (.istore_n 3, 1) := by decide +kernel
theorem own_d_prog_43_method_9_code_15 : decode prog_43_method_9_code 15 = .ok (.aload_n 2, 1) := by decide +kernel
theorem own_d_prog_43_method_9_code_16 : decode prog_43_method_9_code 16 = .ok (.iload_n 3, 1) := by decide +kernel
theorem own_d_prog_43_method_9_code_17 : decode prog_43_method_9_code 17 = .ok (.laload, 1) := by decide +kernel
theorem own_d_prog_43_method_9_code_18 : decode prog_43_method_9_code 18 = .ok (.ldc2_w 43, 3) := by decide +kernel
theorem own_d_prog_43_method_9_code_21 : decode prog_43_method_9_code 21 = .ok (.lcmp, 1) := by decide +kernel
theorem own_d_prog_43_method_9_code_22 : decode prog_43_method_9_code 22 = .ok (.ifCond .eq 23, 3) := by decide +kernel
theorem own_d_prog_43_method_9_code_25 : decode prog_43_method_9_code 25 = .ok (.aload_n 2, 1) := by decide +kernel
theorem own_d_prog_43_method_9_code_26 : decode prog_43_method_9_code 26 = .ok (.iload_n 3, 1) := by decide +kernel
theorem own_d_prog_43_method_9_code_27 : decode prog_43_method_9_code 27 = .ok (.laload, 1) := by decide +kernel
theorem own_d_prog_43_method_9_code_28 : decode prog_43_method_9_code 28 = .ok (.lload_n 0, 1) := by decide +kernel
theorem own_d_prog_43_method_9_code_29 : decode prog_43_method_9_code 29 = .ok (.lcmp, 1) := by decide +kernel
theorem own_d_prog_43_method_9_code_30 : decode prog_43_method_9_code 30 = .ok (.ifCond .eq 15, 3) := by decide +kernel
theorem own_d_prog_43_method_9_code_33 : decode prog_43_method_9_code 33 = .ok (.iload_n 3, 1) := by decide +kernel
theorem own_d_prog_43_method_9_code_34 : decode prog_43_method_9_code 34 = .ok (.iconst 1, 1) := by decide +kernel
theorem own_d_prog_43_method_9_code_35 : decode prog_43_method_9_code 35 = .ok (.iadd, 1) := by decide +kernel
theorem own_d_prog_43_method_9_code_36 : decode prog_43_method_9_code 36 = .ok (.aload_n 2, 1) := by decide +kernel
theorem own_d_prog_43_method_9_code_37 : decode prog_43_method_9_code 37 = .ok (.arraylength, 1) := by decide +kernel
theorem own_d_prog_43_method_9_code_38 : decode prog_43_method_9_code 38 = .ok (.iconst 1, 1) := by decide +kernel
theorem own_d_prog_43_method_9_code_39 : decode prog_43_method_9_code 39 = .ok (.isub, 1) := by decide +kernel
theorem own_d_prog_43_method_9_code_40 : decode prog_43_method_9_code 40 = .ok (.iand, 1) := by decide +kernel
theorem own_d_prog_43_method_9_code_41 : decode prog_43_method_9_code 41 = .ok (.istore_n 3, 1) := by decide +kernel
theorem own_d_prog_43_method_9_code_42 : decode prog_43_method_9_code 42 = .ok (.goto (-27), 3) := by decide +kernel
theorem own_d_prog_43_method_9_code_45 : decode prog_43_method_9_code 45 = .ok (.iload_n 3, 1) := by decide +kernel
theorem own_d_prog_43_method_9_code_46 : decode prog_43_method_9_code 46 = .ok (.ireturn, 1) := by decide +kernel
set_option maxRecDepth 65536 in
set_option maxHeartbeats 4000000 in
theorem own_ef_own_rm_slotOf (m : MethodId) (ja0 : Int64) (oa1 : Nat) : entryFrame m #[(.long ja0), (.ref oa1)] 4 = (mkF m 0 #[.val (.long ja0), .second, .val (.ref oa1), .unset] []) := by first | (simp [entryFrame, mkF, argsToLocals, Value.category]; done) | rfl
set_option maxRecDepth 65536 in
set_option maxHeartbeats 4000000 in
theorem own_rm_slotOf (l : Launch) (Z : State) (a0 : Array Value) (hw : ∀ d ∈ tables_1, d.before a0 Z = true) (ja0 : Int64) (oa1 : Nat) (h : Heap) (f : Nat → Int64) (A : OwnAr Z h oa1 .long 16 (fun i => .long (f i))) (hok : own_ok f ja0) :
    OwnMet l Z (⟨"com/example/subsumer/subsumer/Pairs", "slotOf", "(J[J)I"⟩ : MethodName) prog_43_method_9_code 4 (some .int) [] ({ frames := 0, cells := 0, slots := 0, locals := 0 } : Room) #[(.long ja0), (.ref oa1)] h (OwnSome (fun v => ∃ z : Int32, v = .int z ∧ z.toInt = own_slot f ja0) h) := by
  refine own_enter (f0 := fun m => mkF m 0 #[.val (.long ja0), .second, .val (.ref oa1), .unset] []) (plainFor_of_name own_pn_Pairs) (fun m => own_ef_own_rm_slotOf m ja0 oa1) ?_
  intro p e s m below meth c T0 X0 C e0
  refine own_lload_n X0 C own_d_prog_43_method_9_code_0 1 rfl rfl ?_
  refine own_ldc2 X0 C (own_w hw 51 rfl) own_d_prog_43_method_9_code_1 4 rfl ?_
  refine own_lmul X0 C own_d_prog_43_method_9_code_4 5 rfl (fun v1 ev1 => ?_)
  refine own_bipush X0 C own_d_prog_43_method_9_code_5 7 rfl (33) rfl ?_
  refine own_lushr X0 C own_d_prog_43_method_9_code_7 8 rfl (fun v2 ev2 => ?_)
  refine own_l2i X0 C own_d_prog_43_method_9_code_8 9 rfl (fun v3 ev3 => ?_)
  refine own_aload_n X0 C own_d_prog_43_method_9_code_9 10 rfl rfl rfl ?_
  refine own_arraylength X0 C e0 A own_d_prog_43_method_9_code_10 11 rfl (by decide) (fun v4 ev4 fv4 => ?_)
  refine own_iconst X0 C own_d_prog_43_method_9_code_11 12 rfl (1) rfl ?_
  refine own_isub X0 C own_d_prog_43_method_9_code_12 13 rfl (fun v5 ev5 => ?_)
  have m13 : v5 = 15 := by
    apply Int32.toInt_inj.mp
    have q := c_isub v4 1
    rw [← ev5] at q
    have q1 : (1 : Int32).toInt = 1 := by decide
    have q2 : (15 : Int32).toInt = 15 := by decide
    have q3 := rng32 v5
    omega
  refine own_iand X0 C own_d_prog_43_method_9_code_13 14 rfl (fun v6 ev6 => ?_)
  refine own_istore_n X0 C own_d_prog_43_method_9_code_14 15 rfl #[.val (.long ja0), .second, .val (.ref oa1), .val (.int v6)] rfl ?_
  have loop : ∀ r k, k < 16 → (f (own_probe f ja0 r k) = -1 ∨ f (own_probe f ja0 r k) = ja0) → own_probe f ja0 r k = own_slot f ja0 → ∀ T, Stand p l e ({ frames := 0, cells := 0, slots := 0, locals := 0 } : Room) s m #[(.long ja0), (.ref oa1)] below meth c T [] 0 0 → T.heap = h → ∀ vi : Int32, vi.toInt = k → OwnEnds p e below (OwnG s (({ frames := 0, cells := 0, slots := 0, locals := 0 } : Room)).cells (({ frames := 0, cells := 0, slots := 0, locals := 0 } : Room)).slots (OwnSome (fun v => ∃ z : Int32, v = .int z ∧ z.toInt = own_slot f ja0) h)) (T.setTop (mkF m 15 #[.val (.long ja0), .second, .val (.ref oa1), .val (.int vi)] [])) := by
    intro r
    induction r with
    | zero =>
      intro k hk hg hs T X eT vi hvi
      have mone : (-1 : Int64).toInt = -1 := by decide
      rw [own_probe] at hg hs
      refine own_aload_n X C own_d_prog_43_method_9_code_15 16 rfl rfl rfl ?_
      refine own_iload_n X C own_d_prog_43_method_9_code_16 17 rfl rfl ?_
      refine own_laload X C eT A (by omega) (by omega) own_d_prog_43_method_9_code_17 18 rfl (.long (f k)) (by show Value.long (f _) = _; rw [show vi.toInt.toNat = k by omega]) ?_
      refine own_ldc2 X C (own_w hw 18 rfl) own_d_prog_43_method_9_code_18 21 rfl ?_
      refine own_lcmp X C own_d_prog_43_method_9_code_21 22 rfl (fun v7 ev7a ev7b ev7c => ?_)
      refine own_ifeq X C own_d_prog_43_method_9_code_22 25 45 rfl (by decide) (by decide) (i := v7.toInt) rfl (fun b1 => ?_) (fun b1 => ?_)
      · refine own_iload_n X C own_d_prog_43_method_9_code_45 46 rfl rfl ?_
        refine own_ireturn X C rfl own_d_prog_43_method_9_code_46 (by decide) (by decide) ?_
        exact ⟨⟨_, rfl, _, rfl, by rw [← hs]; exact hvi⟩, eT, rfl⟩
      · refine own_aload_n X C own_d_prog_43_method_9_code_25 26 rfl rfl rfl ?_
        refine own_iload_n X C own_d_prog_43_method_9_code_26 27 rfl rfl ?_
        refine own_laload X C eT A (by omega) (by omega) own_d_prog_43_method_9_code_27 28 rfl (.long (f k)) (by show Value.long (f _) = _; rw [show vi.toInt.toNat = k by omega]) ?_
        refine own_lload_n X C own_d_prog_43_method_9_code_28 29 rfl rfl ?_
        refine own_lcmp X C own_d_prog_43_method_9_code_29 30 rfl (fun v8 ev8a ev8b ev8c => ?_)
        refine own_ifeq X C own_d_prog_43_method_9_code_30 33 45 rfl (by decide) (by decide) (i := v8.toInt) rfl (fun b2 => ?_) (fun b2 => ?_)
        · refine own_iload_n X C own_d_prog_43_method_9_code_45 46 rfl rfl ?_
          refine own_ireturn X C rfl own_d_prog_43_method_9_code_46 (by decide) (by decide) ?_
          exact ⟨⟨_, rfl, _, rfl, by rw [← hs]; exact hvi⟩, eT, rfl⟩
        · exfalso
          rcases hg with q | q
          · have q' := congrArg Int64.toInt q; omega
          · have q' := congrArg Int64.toInt q; omega
    | succ r ih =>
      intro k hk hg hs T X eT vi hvi
      have mone : (-1 : Int64).toInt = -1 := by decide
      rw [own_probe] at hg hs
      refine own_aload_n X C own_d_prog_43_method_9_code_15 16 rfl rfl rfl ?_
      refine own_iload_n X C own_d_prog_43_method_9_code_16 17 rfl rfl ?_
      refine own_laload X C eT A (by omega) (by omega) own_d_prog_43_method_9_code_17 18 rfl (.long (f k)) (by show Value.long (f _) = _; rw [show vi.toInt.toNat = k by omega]) ?_
      refine own_ldc2 X C (own_w hw 18 rfl) own_d_prog_43_method_9_code_18 21 rfl ?_
      refine own_lcmp X C own_d_prog_43_method_9_code_21 22 rfl (fun v9 ev9a ev9b ev9c => ?_)
      refine own_ifeq X C own_d_prog_43_method_9_code_22 25 45 rfl (by decide) (by decide) (i := v9.toInt) rfl (fun b3 => ?_) (fun b3 => ?_)
      · refine own_iload_n X C own_d_prog_43_method_9_code_45 46 rfl rfl ?_
        refine own_ireturn X C rfl own_d_prog_43_method_9_code_46 (by decide) (by decide) ?_
        rw [if_pos (Or.inl (Int64.toInt_inj.mp (by omega)))] at hs
        exact ⟨⟨_, rfl, _, rfl, by rw [← hs]; exact hvi⟩, eT, rfl⟩
      · refine own_aload_n X C own_d_prog_43_method_9_code_25 26 rfl rfl rfl ?_
        refine own_iload_n X C own_d_prog_43_method_9_code_26 27 rfl rfl ?_
        refine own_laload X C eT A (by omega) (by omega) own_d_prog_43_method_9_code_27 28 rfl (.long (f k)) (by show Value.long (f _) = _; rw [show vi.toInt.toNat = k by omega]) ?_
        refine own_lload_n X C own_d_prog_43_method_9_code_28 29 rfl rfl ?_
        refine own_lcmp X C own_d_prog_43_method_9_code_29 30 rfl (fun v10 ev10a ev10b ev10c => ?_)
        refine own_ifeq X C own_d_prog_43_method_9_code_30 33 45 rfl (by decide) (by decide) (i := v10.toInt) rfl (fun b4 => ?_) (fun b4 => ?_)
        · refine own_iload_n X C own_d_prog_43_method_9_code_45 46 rfl rfl ?_
          refine own_ireturn X C rfl own_d_prog_43_method_9_code_46 (by decide) (by decide) ?_
          rw [if_pos (Or.inr (Int64.toInt_inj.mp (by omega)))] at hs
          exact ⟨⟨_, rfl, _, rfl, by rw [← hs]; exact hvi⟩, eT, rfl⟩
        · refine own_iload_n X C own_d_prog_43_method_9_code_33 34 rfl rfl ?_
          refine own_iconst X C own_d_prog_43_method_9_code_34 35 rfl (1) rfl ?_
          refine own_iadd X C own_d_prog_43_method_9_code_35 36 rfl (fun v11 ev11 => ?_)
          refine own_aload_n X C own_d_prog_43_method_9_code_36 37 rfl rfl rfl ?_
          refine own_arraylength X C eT A own_d_prog_43_method_9_code_37 38 rfl (by decide) (fun v12 ev12 fv12 => ?_)
          refine own_iconst X C own_d_prog_43_method_9_code_38 39 rfl (1) rfl ?_
          refine own_isub X C own_d_prog_43_method_9_code_39 40 rfl (fun v13 ev13 => ?_)
          have m40 : v13 = 15 := by
            apply Int32.toInt_inj.mp
            have q := c_isub v12 1
            rw [← ev13] at q
            have q1 : (1 : Int32).toInt = 1 := by decide
            have q2 : (15 : Int32).toInt = 15 := by decide
            have q3 := rng32 v13
            omega
          refine own_iand X C own_d_prog_43_method_9_code_40 41 rfl (fun v14 ev14 => ?_)
          refine own_istore_n X C own_d_prog_43_method_9_code_41 42 rfl #[.val (.long ja0), .second, .val (.ref oa1), .val (.int v14)] rfl ?_
          refine own_goto X C own_d_prog_43_method_9_code_42 15 (by decide) (by decide) ?_
          have nf : ¬ (f k = -1 ∨ f k = ja0) := by
            rintro (q | q)
            · have q' := congrArg Int64.toInt q; omega
            · have q' := congrArg Int64.toInt q; omega
          rw [if_neg nf] at hg hs
          refine ih ((k + 1) % 16) (by omega) hg hs T X eT _ ?_
          have y1 := c_iadd vi 1
          rw [← ev11] at y1
          have y2 := rng32 v11
          have y3 : (1 : Int32).toInt = 1 := by decide
          rw [ev14, m40, c_mask _ 15 4 (by decide) (by decide)]
          omega
  have hi : v6.toInt = own_hash ja0 := by
    have q := own_hash_lt ja0
    have q1 := c_and v3 15 (by decide)
    rw [show v6 = v3 &&& 15 by rw [ev6, m13]]
    rw [own_hash]
    rw [show (((ja0 * -7046029254386353131).toUInt64 >>> ((33 : Int32) &&& 0x3f).toInt64.toUInt64).toInt64).toInt32 = v3 by rw [ev3, ev2, ev1]]
    omega
  exact loop 3 (own_hash ja0) (own_hash_lt ja0) hok rfl T0 X0 e0 _ hi
theorem own_d_prog_43_method_6_code_0 : decode prog_43_method_6_code 0 = .ok (.iload_n 1, 1) := by decide +kernel
theorem own_d_prog_43_method_6_code_1 : decode prog_43_method_6_code 1 = .ok (.i2l, 1) := by decide +kernel
theorem own_d_prog_43_method_6_code_2 : decode prog_43_method_6_code 2 = .ok (.aload_n 0, 1) := by decide +kernel
theorem own_d_prog_43_method_6_code_3 : decode prog_43_method_6_code 3 = .ok (.getfield 31, 3) := by decide +kernel
theorem own_d_prog_43_method_6_code_6 : decode prog_43_method_6_code 6 = .ok (.lmul, 1) := by decide +kernel
theorem own_d_prog_43_method_6_code_7 : decode prog_43_method_6_code 7 = .ok (.iload_n 2, 1) := by decide +kernel
theorem own_d_prog_43_method_6_code_8 : decode prog_43_method_6_code 8 = .ok (.i2l, 1) := by decide +kernel
theorem own_d_prog_43_method_6_code_9 : decode prog_43_method_6_code 9 = .ok (.ladd, 1) := by decide +kernel
theorem own_d_prog_43_method_6_code_10 : decode prog_43_method_6_code 10 = .ok (.lstore_n 3, 1) := by decide +kernel
theorem own_d_prog_43_method_6_code_11 : decode prog_43_method_6_code 11 = .ok (.lload_n 3, 1) := by decide +kernel
theorem own_d_prog_43_method_6_code_12 : decode prog_43_method_6_code 12 = .ok (.aload_n 0, 1) := by decide +kernel
theorem own_d_prog_43_method_6_code_13 : decode prog_43_method_6_code 13 = .ok (.getfield 13, 3) := by decide +kernel
theorem own_d_prog_43_method_6_code_16 : decode prog_43_method_6_code 16 = .ok (.invokestatic 54, 3) := by decide +kernel
theorem own_d_prog_43_method_6_code_19 : decode prog_43_method_6_code 19 = .ok (.istore 5, 2) := by decide +kernel
theorem own_d_prog_43_method_6_code_21 : decode prog_43_method_6_code 21 = .ok (.aload_n 0, 1) := by decide +kernel
theorem own_d_prog_43_method_6_code_22 : decode prog_43_method_6_code 22 = .ok (.getfield 13, 3) := by decide +kernel
theorem own_d_prog_43_method_6_code_25 : decode prog_43_method_6_code 25 = .ok (.iload 5, 2) := by decide +kernel
theorem own_d_prog_43_method_6_code_27 : decode prog_43_method_6_code 27 = .ok (.laload, 1) := by decide +kernel
theorem own_d_prog_43_method_6_code_28 : decode prog_43_method_6_code 28 = .ok (.ldc2_w 43, 3) := by decide +kernel
theorem own_d_prog_43_method_6_code_31 : decode prog_43_method_6_code 31 = .ok (.lcmp, 1) := by decide +kernel
theorem own_d_prog_43_method_6_code_32 : decode prog_43_method_6_code 32 = .ok (.ifCond .ne 7, 3) := by decide +kernel
theorem own_d_prog_43_method_6_code_35 : decode prog_43_method_6_code 35 = .ok (.iconst (-1), 1) := by decide +kernel
theorem own_d_prog_43_method_6_code_36 : decode prog_43_method_6_code 36 = .ok (.goto 10, 3) := by decide +kernel
theorem own_d_prog_43_method_6_code_39 : decode prog_43_method_6_code 39 = .ok (.aload_n 0, 1) := by decide +kernel
theorem own_d_prog_43_method_6_code_40 : decode prog_43_method_6_code 40 = .ok (.getfield 17, 3) := by decide +kernel
theorem own_d_prog_43_method_6_code_43 : decode prog_43_method_6_code 43 = .ok (.iload 5, 2) := by decide +kernel
theorem own_d_prog_43_method_6_code_45 : decode prog_43_method_6_code 45 = .ok (.iaload, 1) := by decide +kernel
theorem own_d_prog_43_method_6_code_46 : decode prog_43_method_6_code 46 = .ok (.ireturn, 1) := by decide +kernel
set_option maxRecDepth 65536 in
set_option maxHeartbeats 4000000 in
theorem own_ef_own_rm_find (m : MethodId) (oa0 : Nat) (ia1 : Int32) (ia2 : Int32) : entryFrame m #[(.ref oa0), (.int ia1), (.int ia2)] 6 = (mkF m 0 #[.val (.ref oa0), .val (.int ia1), .val (.int ia2), .unset, .unset, .unset] []) := by first | (simp [entryFrame, mkF, argsToLocals, Value.category]; done) | rfl
set_option maxRecDepth 65536 in
set_option maxHeartbeats 4000000 in
theorem own_rm_find (l : Launch) (Z : State) (a0 : Array Value) (hw : ∀ d ∈ tables_1, d.before a0 Z = true) (oa0 : Nat) (ia1 : Int32) (ia2 : Int32) (h : Heap) (kA nA lO lA rO rA : Nat) (w : Int64) (f : Nat → Int64) (g : Nat → Int32) (n : Nat) (P : OwnP Z h oa0 kA nA lO lA rO rA w f g n) (hok : own_ok f (own_key w ia1 ia2)) :
    OwnMet l Z (⟨"com/example/subsumer/subsumer/Pairs", "find", "(II)I"⟩ : MethodName) prog_43_method_6_code 6 (some .int) [] ({ frames := 1, cells := 0, slots := 0, locals := 40 } : Room) #[(.ref oa0), (.int ia1), (.int ia2)] h (OwnPure (.int (own_find f g (own_key w ia1 ia2))) h) := by
  refine own_enter (f0 := fun m => mkF m 0 #[.val (.ref oa0), .val (.int ia1), .val (.int ia2), .unset, .unset, .unset] []) (plainFor_of_name own_pn_Pairs) (fun m => own_ef_own_rm_find m oa0 ia1 ia2) ?_
  intro p e s m below meth c T0 X0 C e0
  obtain ⟨Eo, F_keys, F_numbers, F_lefts, F_rights, F_width, A_k, A_n, ⟨gl, I_0⟩, ⟨gr, I_1⟩, o1, o2, o3, o4, o5, o6⟩ := P
  refine own_iload_n X0 C own_d_prog_43_method_6_code_0 1 rfl rfl ?_
  refine own_i2l X0 C own_d_prog_43_method_6_code_1 2 rfl (fun v1 ev1 => ?_)
  refine own_aload_n X0 C own_d_prog_43_method_6_code_2 3 rfl rfl rfl ?_
  refine own_getfield X0 C (host := "") (Or.inl (own_w hw 41 rfl)) Via.refl e0 F_width own_d_prog_43_method_6_code_3 6 rfl (fun T1 X1 e1 => ?_)
  refine own_lmul X1 C own_d_prog_43_method_6_code_6 7 rfl (fun v2 ev2 => ?_)
  refine own_iload_n X1 C own_d_prog_43_method_6_code_7 8 rfl rfl ?_
  refine own_i2l X1 C own_d_prog_43_method_6_code_8 9 rfl (fun v3 ev3 => ?_)
  refine own_ladd X1 C own_d_prog_43_method_6_code_9 10 rfl (fun v4 ev4 => ?_)
  refine own_lstore_n X1 C own_d_prog_43_method_6_code_10 11 rfl #[.val (.ref oa0), .val (.int ia1), .val (.int ia2), .val (.long v4), .second, .unset] rfl ?_
  have hkey : v4 = own_key w ia1 ia2 := by rw [own_key, ev4]; subst_vars; rfl
  clear ev4
  subst hkey
  refine own_lload_n X1 C own_d_prog_43_method_6_code_11 12 rfl rfl ?_
  refine own_aload_n X1 C own_d_prog_43_method_6_code_12 13 rfl rfl rfl ?_
  refine own_getfield X1 C (host := "") (Or.inl (own_w hw 23 rfl)) Via.refl e1 F_keys own_d_prog_43_method_6_code_13 16 rfl (fun T2 X2 e2 => ?_)
  refine own_callE X2 C (own_w hw 48 rfl) (own_w hw 49 rfl) (own_w hw 7 rfl) (own_w hw 50 rfl) (by decide) (own_rm_slotOf l Z a0 hw (own_key w ia1 ia2) kA h f A_k hok) e2 own_pd_JAJ_R_I [(.long (own_key w ia1 ia2)), (.ref kA)] rfl rfl rfl rfl 0 rfl (by decide) (by decide) rfl rfl (by decide) (by decide) own_d_prog_43_method_6_code_16 19 rfl (fun T3 w3 q3 X3 e3 => ?_)
  obtain ⟨z3, rfl, hz⟩ := q3
  refine own_istore X3 C own_d_prog_43_method_6_code_19 21 rfl #[.val (.ref oa0), .val (.int ia1), .val (.int ia2), .val (.long (own_key w ia1 ia2)), .second, .val (.int z3)] rfl ?_
  refine own_aload_n X3 C own_d_prog_43_method_6_code_21 22 rfl rfl rfl ?_
  refine own_getfield X3 C (host := "") (Or.inl (own_w hw 23 rfl)) Via.refl e3 F_keys own_d_prog_43_method_6_code_22 25 rfl (fun T4 X4 e4 => ?_)
  refine own_iload X4 C own_d_prog_43_method_6_code_25 27 rfl rfl ?_
  have sl := own_slot_lt f (own_key w ia1 ia2)
  have mone : (-1 : Int64).toInt = -1 := by decide
  refine own_laload X4 C e4 A_k (by omega) (by omega) own_d_prog_43_method_6_code_27 28 rfl (.long (f (own_slot f (own_key w ia1 ia2)))) (by show Value.long (f _) = _; rw [show z3.toInt.toNat = own_slot f (own_key w ia1 ia2) by omega]) ?_
  refine own_ldc2 X4 C (own_w hw 18 rfl) own_d_prog_43_method_6_code_28 31 rfl ?_
  refine own_lcmp X4 C own_d_prog_43_method_6_code_31 32 rfl (fun v5 ev5a ev5b ev5c => ?_)
  refine own_ifne X4 C own_d_prog_43_method_6_code_32 35 39 rfl (by decide) (by decide) (i := v5.toInt) rfl (fun b5 => ?_) (fun b5 => ?_)
  · refine own_aload_n X4 C own_d_prog_43_method_6_code_39 40 rfl rfl rfl ?_
    refine own_getfield X4 C (host := "") (Or.inl (own_w hw 26 rfl)) Via.refl e4 F_numbers own_d_prog_43_method_6_code_40 43 rfl (fun T6 X6 e6 => ?_)
    refine own_iload X6 C own_d_prog_43_method_6_code_43 45 rfl rfl ?_
    refine own_iaload X6 C e6 A_n (by omega) (by omega) own_d_prog_43_method_6_code_45 46 rfl (.int (g (own_slot f (own_key w ia1 ia2)))) (by show Value.int (g _) = _; rw [show z3.toInt.toNat = own_slot f (own_key w ia1 ia2) by omega]) ?_
    refine own_ireturn X6 C rfl own_d_prog_43_method_6_code_46 (by decide) (by decide) ?_
    exact ⟨by rw [own_find, if_neg (fun q => by have q' := congrArg Int64.toInt q; omega)], e6, rfl⟩
  · refine own_iconst X4 C own_d_prog_43_method_6_code_35 36 rfl (-1) rfl ?_
    refine own_goto X4 C own_d_prog_43_method_6_code_36 46 (by decide) (by decide) ?_
    refine own_ireturn X4 C rfl own_d_prog_43_method_6_code_46 (by decide) (by decide) ?_
    exact ⟨by rw [own_find, if_pos (Int64.toInt_inj.mp (by omega))], e4, rfl⟩
theorem own_d_prog_43_method_2_code_0 : decode prog_43_method_2_code 0 = .ok (.aload_n 0, 1) := by decide +kernel
theorem own_d_prog_43_method_2_code_1 : decode prog_43_method_2_code 1 = .ok (.getfield 24, 3) := by decide +kernel
theorem own_d_prog_43_method_2_code_4 : decode prog_43_method_2_code 4 = .ok (.invokevirtual 35, 3) := by decide +kernel
theorem own_d_prog_43_method_2_code_7 : decode prog_43_method_2_code 7 = .ok (.ireturn, 1) := by decide +kernel
set_option maxRecDepth 65536 in
set_option maxHeartbeats 4000000 in
theorem own_ef_own_rm_psize (m : MethodId) (oa0 : Nat) : entryFrame m #[(.ref oa0)] 1 = (mkF m 0 #[.val (.ref oa0)] []) := by first | (simp [entryFrame, mkF, argsToLocals, Value.category]; done) | rfl
set_option maxRecDepth 65536 in
set_option maxHeartbeats 4000000 in
theorem own_rm_psize (l : Launch) (Z : State) (a0 : Array Value) (hw : ∀ d ∈ tables_1, d.before a0 Z = true) (oa0 : Nat) (h : Heap) (lO lA : Nat) (n : Nat) (gl : Nat → Int32) (F_lefts : Fld Z h oa0 "com/example/subsumer/subsumer/Pairs" "lefts" "Lcom/example/subsumer/subsumer/Ints;" (.ref lO)) (I : OwnI Z h lO lA n gl) :
    OwnMet l Z (⟨"com/example/subsumer/subsumer/Pairs", "size", "()I"⟩ : MethodName) prog_43_method_2_code 1 (some .int) [] ({ frames := 1, cells := 0, slots := 0, locals := 20 } : Room) #[(.ref oa0)] h (OwnSome (fun v => ∃ z : Int32, v = .int z ∧ z.toInt = n) h) := by
  refine own_enter (f0 := fun m => mkF m 0 #[.val (.ref oa0)] []) (plainFor_of_name own_pn_Pairs) (fun m => own_ef_own_rm_psize m oa0) ?_
  intro p e s m below meth c T0 X0 C e0
  refine own_aload_n X0 C own_d_prog_43_method_2_code_0 1 rfl rfl rfl ?_
  refine own_getfield X0 C (host := "") (Or.inl (own_w hw 37 rfl)) Via.refl e0 F_lefts own_d_prog_43_method_2_code_1 4 rfl (fun T1 X1 e1 => ?_)
  refine own_callV X1 C (own_w hw 62 rfl) (own_w hw 63 rfl) (own_w hw 65 rfl) (own_w hw 64 rfl) (own_w hw 30 rfl) (own_w hw 66 rfl) (by decide) I.1 (own_rm_I_size l Z a0 hw lO h lA n gl I) e1 own_pd__R_I [] rfl rfl rfl rfl 0 rfl (by decide) (by decide) (by decide) (by decide) own_d_prog_43_method_2_code_4 7 rfl (fun T2 L2 v2 X2 q2 => ?_)
  obtain ⟨⟨_, rfl, z2, rfl, hz2⟩, eh2, rfl⟩ := q2
  have N2 := Fr.app (Fr.nil 0) (Fr.nil 0)
  refine own_ireturn X2 C rfl own_d_prog_43_method_2_code_7 (by decide) (by decide) ?_
  exact ⟨⟨_, rfl, _, rfl, hz2⟩, eh2, rfl⟩
theorem own_d_prog_43_method_7_code_0 : decode prog_43_method_7_code 0 = .ok (.iload_n 1, 1) := by decide +kernel
theorem own_d_prog_43_method_7_code_1 : decode prog_43_method_7_code 1 = .ok (.i2l, 1) := by decide +kernel
theorem own_d_prog_43_method_7_code_2 : decode prog_43_method_7_code 2 = .ok (.aload_n 0, 1) := by decide +kernel
theorem own_d_prog_43_method_7_code_3 : decode prog_43_method_7_code 3 = .ok (.getfield 31, 3) := by decide +kernel
theorem own_d_prog_43_method_7_code_6 : decode prog_43_method_7_code 6 = .ok (.lmul, 1) := by decide +kernel
theorem own_d_prog_43_method_7_code_7 : decode prog_43_method_7_code 7 = .ok (.iload_n 2, 1) := by decide +kernel
theorem own_d_prog_43_method_7_code_8 : decode prog_43_method_7_code 8 = .ok (.i2l, 1) := by decide +kernel
theorem own_d_prog_43_method_7_code_9 : decode prog_43_method_7_code 9 = .ok (.ladd, 1) := by decide +kernel
theorem own_d_prog_43_method_7_code_10 : decode prog_43_method_7_code 10 = .ok (.lstore_n 3, 1) := by decide +kernel
theorem own_d_prog_43_method_7_code_11 : decode prog_43_method_7_code 11 = .ok (.lload_n 3, 1) := by decide +kernel
theorem own_d_prog_43_method_7_code_12 : decode prog_43_method_7_code 12 = .ok (.aload_n 0, 1) := by decide +kernel
theorem own_d_prog_43_method_7_code_13 : decode prog_43_method_7_code 13 = .ok (.getfield 13, 3) := by decide +kernel
theorem own_d_prog_43_method_7_code_16 : decode prog_43_method_7_code 16 = .ok (.invokestatic 54, 3) := by decide +kernel
theorem own_d_prog_43_method_7_code_19 : decode prog_43_method_7_code 19 = .ok (.istore 5, 2) := by decide +kernel
theorem own_d_prog_43_method_7_code_21 : decode prog_43_method_7_code 21 = .ok (.aload_n 0, 1) := by decide +kernel
theorem own_d_prog_43_method_7_code_22 : decode prog_43_method_7_code 22 = .ok (.getfield 13, 3) := by decide +kernel
theorem own_d_prog_43_method_7_code_25 : decode prog_43_method_7_code 25 = .ok (.iload 5, 2) := by decide +kernel
theorem own_d_prog_43_method_7_code_27 : decode prog_43_method_7_code 27 = .ok (.laload, 1) := by decide +kernel
theorem own_d_prog_43_method_7_code_28 : decode prog_43_method_7_code 28 = .ok (.ldc2_w 43, 3) := by decide +kernel
theorem own_d_prog_43_method_7_code_31 : decode prog_43_method_7_code 31 = .ok (.lcmp, 1) := by decide +kernel
theorem own_d_prog_43_method_7_code_32 : decode prog_43_method_7_code 32 = .ok (.ifCond .ne 63, 3) := by decide +kernel
theorem own_d_prog_43_method_7_code_35 : decode prog_43_method_7_code 35 = .ok (.aload_n 0, 1) := by decide +kernel
theorem own_d_prog_43_method_7_code_36 : decode prog_43_method_7_code 36 = .ok (.invokevirtual 58, 3) := by decide +kernel
theorem own_d_prog_43_method_7_code_39 : decode prog_43_method_7_code 39 = .ok (.istore 6, 2) := by decide +kernel
theorem own_d_prog_43_method_7_code_41 : decode prog_43_method_7_code 41 = .ok (.aload_n 0, 1) := by decide +kernel
theorem own_d_prog_43_method_7_code_42 : decode prog_43_method_7_code 42 = .ok (.getfield 13, 3) := by decide +kernel
theorem own_d_prog_43_method_7_code_45 : decode prog_43_method_7_code 45 = .ok (.iload 5, 2) := by decide +kernel
theorem own_d_prog_43_method_7_code_47 : decode prog_43_method_7_code 47 = .ok (.lload_n 3, 1) := by decide +kernel
theorem own_d_prog_43_method_7_code_48 : decode prog_43_method_7_code 48 = .ok (.lastore, 1) := by decide +kernel
theorem own_d_prog_43_method_7_code_49 : decode prog_43_method_7_code 49 = .ok (.aload_n 0, 1) := by decide +kernel
theorem own_d_prog_43_method_7_code_50 : decode prog_43_method_7_code 50 = .ok (.getfield 17, 3) := by decide +kernel
theorem own_d_prog_43_method_7_code_53 : decode prog_43_method_7_code 53 = .ok (.iload 5, 2) := by decide +kernel
theorem own_d_prog_43_method_7_code_55 : decode prog_43_method_7_code 55 = .ok (.iload 6, 2) := by decide +kernel
theorem own_d_prog_43_method_7_code_57 : decode prog_43_method_7_code 57 = .ok (.iastore, 1) := by decide +kernel
theorem own_d_prog_43_method_7_code_58 : decode prog_43_method_7_code 58 = .ok (.aload_n 0, 1) := by decide +kernel
theorem own_d_prog_43_method_7_code_59 : decode prog_43_method_7_code 59 = .ok (.getfield 24, 3) := by decide +kernel
theorem own_d_prog_43_method_7_code_62 : decode prog_43_method_7_code 62 = .ok (.iload_n 1, 1) := by decide +kernel
theorem own_d_prog_43_method_7_code_63 : decode prog_43_method_7_code 63 = .ok (.invokevirtual 59, 3) := by decide +kernel
theorem own_d_prog_43_method_7_code_66 : decode prog_43_method_7_code 66 = .ok (.aload_n 0, 1) := by decide +kernel
theorem own_d_prog_43_method_7_code_67 : decode prog_43_method_7_code 67 = .ok (.getfield 28, 3) := by decide +kernel
theorem own_d_prog_43_method_7_code_70 : decode prog_43_method_7_code 70 = .ok (.iload_n 2, 1) := by decide +kernel
theorem own_d_prog_43_method_7_code_71 : decode prog_43_method_7_code 71 = .ok (.invokevirtual 59, 3) := by decide +kernel
theorem own_d_prog_43_method_7_code_74 : decode prog_43_method_7_code 74 = .ok (.iconst 2, 1) := by decide +kernel
theorem own_d_prog_43_method_7_code_75 : decode prog_43_method_7_code 75 = .ok (.aload_n 0, 1) := by decide +kernel
theorem own_d_prog_43_method_7_code_76 : decode prog_43_method_7_code 76 = .ok (.invokevirtual 58, 3) := by decide +kernel
theorem own_d_prog_43_method_7_code_79 : decode prog_43_method_7_code 79 = .ok (.imul, 1) := by decide +kernel
theorem own_d_prog_43_method_7_code_80 : decode prog_43_method_7_code 80 = .ok (.aload_n 0, 1) := by decide +kernel
theorem own_d_prog_43_method_7_code_81 : decode prog_43_method_7_code 81 = .ok (.getfield 13, 3) := by decide +kernel
theorem own_d_prog_43_method_7_code_84 : decode prog_43_method_7_code 84 = .ok (.arraylength, 1) := by decide +kernel
theorem own_d_prog_43_method_7_code_85 : decode prog_43_method_7_code 85 = .ok (.if_icmp .le 19, 3) := by decide +kernel
theorem own_d_prog_43_method_7_code_104 : decode prog_43_method_7_code 104 = .ok (.iload 6, 2) := by decide +kernel
theorem own_d_prog_43_method_7_code_106 : decode prog_43_method_7_code 106 = .ok (.ireturn, 1) := by decide +kernel
set_option maxRecDepth 65536 in
set_option maxHeartbeats 4000000 in
theorem own_ef_own_rm_numNew (m : MethodId) (oa0 : Nat) (ia1 : Int32) (ia2 : Int32) : entryFrame m #[(.ref oa0), (.int ia1), (.int ia2)] 7 = (mkF m 0 #[.val (.ref oa0), .val (.int ia1), .val (.int ia2), .unset, .unset, .unset, .unset] []) := by first | (simp [entryFrame, mkF, argsToLocals, Value.category]; done) | rfl
set_option maxRecDepth 65536 in
set_option maxHeartbeats 4000000 in
theorem own_rm_numNew (l : Launch) (Z : State) (a0 : Array Value) (hw : ∀ d ∈ tables_1, d.before a0 Z = true) (oa0 : Nat) (ia1 : Int32) (ia2 : Int32) (h : Heap) (kA nA lO lA rO rA : Nat) (w : Int64) (f : Nat → Int64) (g : Nat → Int32) (n : Nat) (P : OwnP Z h oa0 kA nA lO lA rO rA w f g n) (n0 : Nat) (go : n0 ≤ oa0) (hok : own_ok f (own_key w ia1 ia2)) (hnew : f (own_slot f (own_key w ia1 ia2)) = -1) (hn : n < 7) :
    OwnMet l Z (⟨"com/example/subsumer/subsumer/Pairs", "number", "(II)I"⟩ : MethodName) prog_43_method_7_code 7 (some .int) [] ({ frames := 2, cells := 0, slots := 0, locals := 60 } : Room) #[(.ref oa0), (.int ia1), (.int ia2)] h (fun v h' L => (∃ z, v = some (.int z) ∧ z = Int32.ofNat n) ∧ Fr n0 L ∧ OwnP Z h' oa0 kA nA lO lA rO rA w (own_up f (own_slot f (own_key w ia1 ia2)) (own_key w ia1 ia2)) (own_upI g (own_slot f (own_key w ia1 ia2)) (Int32.ofNat n)) (n + 1)) := by
  refine own_enter (f0 := fun m => mkF m 0 #[.val (.ref oa0), .val (.int ia1), .val (.int ia2), .unset, .unset, .unset, .unset] []) (plainFor_of_name own_pn_Pairs) (fun m => own_ef_own_rm_numNew m oa0 ia1 ia2) ?_
  intro p e s m below meth c T0 X0 C e0
  obtain ⟨Eo, F_keys, F_numbers, F_lefts, F_rights, F_width, A_k, A_n, ⟨gl, I_0⟩, ⟨gr, I_1⟩, o1, o2, o3, o4, o5, o6⟩ := P
  refine own_iload_n X0 C own_d_prog_43_method_7_code_0 1 rfl rfl ?_
  refine own_i2l X0 C own_d_prog_43_method_7_code_1 2 rfl (fun v1 ev1 => ?_)
  refine own_aload_n X0 C own_d_prog_43_method_7_code_2 3 rfl rfl rfl ?_
  refine own_getfield X0 C (host := "") (Or.inl (own_w hw 41 rfl)) Via.refl e0 F_width own_d_prog_43_method_7_code_3 6 rfl (fun T1 X1 e1 => ?_)
  refine own_lmul X1 C own_d_prog_43_method_7_code_6 7 rfl (fun v2 ev2 => ?_)
  refine own_iload_n X1 C own_d_prog_43_method_7_code_7 8 rfl rfl ?_
  refine own_i2l X1 C own_d_prog_43_method_7_code_8 9 rfl (fun v3 ev3 => ?_)
  refine own_ladd X1 C own_d_prog_43_method_7_code_9 10 rfl (fun v4 ev4 => ?_)
  refine own_lstore_n X1 C own_d_prog_43_method_7_code_10 11 rfl #[.val (.ref oa0), .val (.int ia1), .val (.int ia2), .val (.long v4), .second, .unset, .unset] rfl ?_
  have hkey : v4 = own_key w ia1 ia2 := by rw [own_key, ev4]; subst_vars; rfl
  clear ev4
  subst hkey
  refine own_lload_n X1 C own_d_prog_43_method_7_code_11 12 rfl rfl ?_
  refine own_aload_n X1 C own_d_prog_43_method_7_code_12 13 rfl rfl rfl ?_
  refine own_getfield X1 C (host := "") (Or.inl (own_w hw 23 rfl)) Via.refl e1 F_keys own_d_prog_43_method_7_code_13 16 rfl (fun T2 X2 e2 => ?_)
  refine own_callE X2 C (own_w hw 48 rfl) (own_w hw 49 rfl) (own_w hw 7 rfl) (own_w hw 50 rfl) (by decide) (own_rm_slotOf l Z a0 hw (own_key w ia1 ia2) kA h f A_k hok) e2 own_pd_JAJ_R_I [(.long (own_key w ia1 ia2)), (.ref kA)] rfl rfl rfl rfl 0 rfl (by decide) (by decide) rfl rfl (by decide) (by decide) own_d_prog_43_method_7_code_16 19 rfl (fun T3 w3 q3 X3 e3 => ?_)
  obtain ⟨z3, rfl, hz⟩ := q3
  refine own_istore X3 C own_d_prog_43_method_7_code_19 21 rfl #[.val (.ref oa0), .val (.int ia1), .val (.int ia2), .val (.long (own_key w ia1 ia2)), .second, .val (.int z3), .unset] rfl ?_
  refine own_aload_n X3 C own_d_prog_43_method_7_code_21 22 rfl rfl rfl ?_
  refine own_getfield X3 C (host := "") (Or.inl (own_w hw 23 rfl)) Via.refl e3 F_keys own_d_prog_43_method_7_code_22 25 rfl (fun T4 X4 e4 => ?_)
  refine own_iload X4 C own_d_prog_43_method_7_code_25 27 rfl rfl ?_
  have sl := own_slot_lt f (own_key w ia1 ia2)
  have mone : (-1 : Int64).toInt = -1 := by decide
  refine own_laload X4 C e4 A_k (by omega) (by omega) own_d_prog_43_method_7_code_27 28 rfl (.long (f (own_slot f (own_key w ia1 ia2)))) (by show Value.long (f _) = _; rw [show z3.toInt.toNat = own_slot f (own_key w ia1 ia2) by omega]) ?_
  refine own_ldc2 X4 C (own_w hw 18 rfl) own_d_prog_43_method_7_code_28 31 rfl ?_
  refine own_lcmp X4 C own_d_prog_43_method_7_code_31 32 rfl (fun v5 ev5a ev5b ev5c => ?_)
  refine own_ifne X4 C own_d_prog_43_method_7_code_32 35 95 rfl (by decide) (by decide) (i := v5.toInt) rfl (fun b5 => ?_) (fun b5 => ?_)
  · exfalso
    have q' := congrArg Int64.toInt hnew; omega
  · refine own_aload_n X4 C own_d_prog_43_method_7_code_35 36 rfl rfl rfl ?_
    refine own_callV X4 C (own_w hw 57 rfl) (own_w hw 58 rfl) (own_w hw 60 rfl) (own_w hw 59 rfl) (own_w hw 7 rfl) (own_w hw 61 rfl) (by decide) Eo (own_rm_psize l Z a0 hw oa0 h lO lA n gl F_lefts I_0) e4 own_pd__R_I [] rfl rfl rfl rfl 0 rfl (by decide) (by decide) (by decide) (by decide) own_d_prog_43_method_7_code_36 39 rfl (fun T6 L6 v6 X6 q6 => ?_)
    obtain ⟨⟨_, rfl, z6, rfl, hz6⟩, eh6, rfl⟩ := q6
    have N6 := Fr.app (Fr.nil n0) (Fr.nil n0)
    have hzn : z6 = Int32.ofNat n := by
      apply Int32.toInt_inj.mp
      rw [Int32.toInt_ofNat_of_lt (by omega)]; exact hz6
    refine own_istore X6 C own_d_prog_43_method_7_code_39 41 rfl #[.val (.ref oa0), .val (.int ia1), .val (.int ia2), .val (.long (own_key w ia1 ia2)), .second, .val (.int z3), .val (.int z6)] rfl ?_
    refine own_aload_n X6 C own_d_prog_43_method_7_code_41 42 rfl rfl rfl ?_
    refine own_getfield X6 C (host := "") (Or.inl (own_w hw 23 rfl)) Via.refl eh6 F_keys own_d_prog_43_method_7_code_42 45 rfl (fun T7 X7 e7 => ?_)
    refine own_iload X7 C own_d_prog_43_method_7_code_45 47 rfl rfl ?_
    refine own_lload_n X7 C own_d_prog_43_method_7_code_47 48 rfl rfl ?_
    refine own_lastore X7 C e7 A_k (by omega) (by omega) own_d_prog_43_method_7_code_48 49 rfl (fun T8 h8 X8 e8 W8 => ?_)
    have N8 := own_fr1 (sl := (z3).toInt.toNat) N6 (show n0 ≤ kA by omega)
    have hj : z3.toInt.toNat = own_slot f (own_key w ia1 ia2) := by omega
    rw [hj] at W8
    replace A_k : OwnAr Z h8 kA .long 16 (fun i => .long (own_up f (own_slot f (own_key w ia1 ia2)) (own_key w ia1 ia2) i)) := (A_k.set W8).eqv fun i _ => by unfold own_up; by_cases q : i = own_slot f (own_key w ia1 ia2) <;> simp [q]
    replace A_n := A_n.other W8 (own_ne (by omega))
    replace I_0 := I_0.other W8 (own_ne (by omega)) (own_ne (by omega))
    replace I_1 := I_1.other W8 (own_ne (by omega)) (own_ne (by omega))
    replace Eo := Eo.wr W8
    replace F_keys := F_keys.other W8 (Or.inl (own_ne (by omega)))
    replace F_numbers := F_numbers.other W8 (Or.inl (own_ne (by omega)))
    replace F_lefts := F_lefts.other W8 (Or.inl (own_ne (by omega)))
    replace F_rights := F_rights.other W8 (Or.inl (own_ne (by omega)))
    replace F_width := F_width.other W8 (Or.inl (own_ne (by omega)))
    refine own_aload_n X8 C own_d_prog_43_method_7_code_49 50 rfl rfl rfl ?_
    refine own_getfield X8 C (host := "") (Or.inl (own_w hw 26 rfl)) Via.refl e8 F_numbers own_d_prog_43_method_7_code_50 53 rfl (fun T9 X9 e9 => ?_)
    refine own_iload X9 C own_d_prog_43_method_7_code_53 55 rfl rfl ?_
    refine own_iload X9 C own_d_prog_43_method_7_code_55 57 rfl rfl ?_
    refine own_iastore X9 C e9 A_n (by omega) (by omega) own_d_prog_43_method_7_code_57 58 rfl (fun T10 h10 X10 e10 W10 => ?_)
    have N10 := own_fr1 (sl := (z3).toInt.toNat) N8 (show n0 ≤ nA by omega)
    rw [hj] at W10
    replace A_n : OwnAr Z h10 nA .int 16 (fun i => .int (own_upI g (own_slot f (own_key w ia1 ia2)) (Int32.ofNat n) i)) := (A_n.set W10).eqv fun i _ => by unfold own_upI; by_cases q : i = own_slot f (own_key w ia1 ia2) <;> simp [q, hzn]
    replace A_k := A_k.other W10 (own_ne (by omega))
    replace I_0 := I_0.other W10 (own_ne (by omega)) (own_ne (by omega))
    replace I_1 := I_1.other W10 (own_ne (by omega)) (own_ne (by omega))
    replace Eo := Eo.wr W10
    replace F_keys := F_keys.other W10 (Or.inl (own_ne (by omega)))
    replace F_numbers := F_numbers.other W10 (Or.inl (own_ne (by omega)))
    replace F_lefts := F_lefts.other W10 (Or.inl (own_ne (by omega)))
    replace F_rights := F_rights.other W10 (Or.inl (own_ne (by omega)))
    replace F_width := F_width.other W10 (Or.inl (own_ne (by omega)))
    refine own_aload_n X10 C own_d_prog_43_method_7_code_58 59 rfl rfl rfl ?_
    refine own_getfield X10 C (host := "") (Or.inl (own_w hw 37 rfl)) Via.refl e10 F_lefts own_d_prog_43_method_7_code_59 62 rfl (fun T11 X11 e11 => ?_)
    refine own_iload_n X11 C own_d_prog_43_method_7_code_62 63 rfl rfl ?_
    refine own_callV X11 C (own_w hw 69 rfl) (own_w hw 70 rfl) (own_w hw 72 rfl) (own_w hw 71 rfl) (own_w hw 30 rfl) (own_w hw 73 rfl) (by decide) I_0.1 (own_rm_I_add l Z a0 hw lO ia1 h10 lA n gl I_0 n0 (by omega) (by omega) (by omega)) e11 own_pd_I_R_V [(.int ia1)] rfl rfl rfl rfl 0 rfl (by decide) (by decide) (by decide) (by decide) own_d_prog_43_method_7_code_63 66 rfl (fun T12 L12 v12 X12 q12 => ?_)
    obtain ⟨rfl, NL12, I_0, K12⟩ := q12
    have N12 := Fr.app N10 NL12
    replace A_k := A_k.keep K12 (ninS (own_ne (by omega)) (ninS (own_ne (by omega)) nin0))
    replace A_n := A_n.keep K12 (ninS (own_ne (by omega)) (ninS (own_ne (by omega)) nin0))
    replace I_1 := I_1.keep K12 (ninS (own_ne (by omega)) (ninS (own_ne (by omega)) nin0)) (ninS (own_ne (by omega)) (ninS (own_ne (by omega)) nin0))
    replace Eo := Eo.keep K12
    replace F_keys := F_keys.keep K12 (ninS (own_ne (by omega)) (ninS (own_ne (by omega)) nin0))
    replace F_numbers := F_numbers.keep K12 (ninS (own_ne (by omega)) (ninS (own_ne (by omega)) nin0))
    replace F_lefts := F_lefts.keep K12 (ninS (own_ne (by omega)) (ninS (own_ne (by omega)) nin0))
    replace F_rights := F_rights.keep K12 (ninS (own_ne (by omega)) (ninS (own_ne (by omega)) nin0))
    replace F_width := F_width.keep K12 (ninS (own_ne (by omega)) (ninS (own_ne (by omega)) nin0))
    refine own_aload_n X12 C own_d_prog_43_method_7_code_66 67 rfl rfl rfl ?_
    refine own_getfield X12 C (host := "") (Or.inl (own_w hw 39 rfl)) Via.refl rfl F_rights own_d_prog_43_method_7_code_67 70 rfl (fun T13 X13 e13 => ?_)
    refine own_iload_n X13 C own_d_prog_43_method_7_code_70 71 rfl rfl ?_
    refine own_callV X13 C (own_w hw 69 rfl) (own_w hw 70 rfl) (own_w hw 72 rfl) (own_w hw 71 rfl) (own_w hw 30 rfl) (own_w hw 73 rfl) (by decide) I_1.1 (own_rm_I_add l Z a0 hw rO ia2 T12.heap rA n gr I_1 n0 (by omega) (by omega) (by omega)) e13 own_pd_I_R_V [(.int ia2)] rfl rfl rfl rfl 0 rfl (by decide) (by decide) (by decide) (by decide) own_d_prog_43_method_7_code_71 74 rfl (fun T14 L14 v14 X14 q14 => ?_)
    obtain ⟨rfl, NL14, I_1, K14⟩ := q14
    have N14 := Fr.app N12 NL14
    replace A_k := A_k.keep K14 (ninS (own_ne (by omega)) (ninS (own_ne (by omega)) nin0))
    replace A_n := A_n.keep K14 (ninS (own_ne (by omega)) (ninS (own_ne (by omega)) nin0))
    replace I_0 := I_0.keep K14 (ninS (own_ne (by omega)) (ninS (own_ne (by omega)) nin0)) (ninS (own_ne (by omega)) (ninS (own_ne (by omega)) nin0))
    replace Eo := Eo.keep K14
    replace F_keys := F_keys.keep K14 (ninS (own_ne (by omega)) (ninS (own_ne (by omega)) nin0))
    replace F_numbers := F_numbers.keep K14 (ninS (own_ne (by omega)) (ninS (own_ne (by omega)) nin0))
    replace F_lefts := F_lefts.keep K14 (ninS (own_ne (by omega)) (ninS (own_ne (by omega)) nin0))
    replace F_rights := F_rights.keep K14 (ninS (own_ne (by omega)) (ninS (own_ne (by omega)) nin0))
    replace F_width := F_width.keep K14 (ninS (own_ne (by omega)) (ninS (own_ne (by omega)) nin0))
    refine own_iconst X14 C own_d_prog_43_method_7_code_74 75 rfl (2) rfl ?_
    refine own_aload_n X14 C own_d_prog_43_method_7_code_75 76 rfl rfl rfl ?_
    refine own_callV X14 C (own_w hw 57 rfl) (own_w hw 58 rfl) (own_w hw 60 rfl) (own_w hw 59 rfl) (own_w hw 7 rfl) (own_w hw 61 rfl) (by decide) Eo (own_rm_psize l Z a0 hw oa0 T14.heap lO lA (n + 1) _ F_lefts I_0) rfl own_pd__R_I [] rfl rfl rfl rfl 1 rfl (by decide) (by decide) (by decide) (by decide) own_d_prog_43_method_7_code_76 79 rfl (fun T15 L15 v15 X15 q15 => ?_)
    obtain ⟨⟨_, rfl, z15, rfl, hz15⟩, eh15, rfl⟩ := q15
    have N15 := Fr.app N14 (Fr.nil n0)
    refine own_imul X15 C own_d_prog_43_method_7_code_79 80 rfl (fun v6 ev6 => ?_)
    refine own_aload_n X15 C own_d_prog_43_method_7_code_80 81 rfl rfl rfl ?_
    refine own_getfield X15 C (host := "") (Or.inl (own_w hw 23 rfl)) Via.refl eh15 F_keys own_d_prog_43_method_7_code_81 84 rfl (fun T16 X16 e16 => ?_)
    refine own_arraylength X16 C e16 A_k own_d_prog_43_method_7_code_84 85 rfl (by decide) (fun v7 ev7 fv7 => ?_)
    refine own_icmple X16 C own_d_prog_43_method_7_code_85 88 104 rfl (by decide) (by decide) (i := v6.toInt) rfl (j := v7.toInt) rfl (fun b17 => ?_) (fun b17 => ?_)
    · refine own_iload X16 C own_d_prog_43_method_7_code_104 106 rfl rfl ?_
      refine own_ireturn X16 C rfl own_d_prog_43_method_7_code_106 (by decide) (by decide) ?_
      refine ⟨⟨_, rfl, hzn⟩, N15, ?_⟩
      rw [e16]
      exact ⟨Eo, F_keys, F_numbers, F_lefts, F_rights, F_width, A_k, A_n, ⟨_, I_0⟩, ⟨_, I_1⟩, o1, o2, o3, o4, o5, o6⟩
    · exfalso
      have y1 := c_imul 2 z15
      rw [← ev6] at y1
      have y2 : (2 : Int32).toInt = 2 := by decide
      have y3 := rng32 v6
      rw [y2] at y1
      omega
theorem own_d_prog_43_method_7_code_95 : decode prog_43_method_7_code 95 = .ok (.aload_n 0, 1) := by decide +kernel
theorem own_d_prog_43_method_7_code_96 : decode prog_43_method_7_code 96 = .ok (.getfield 17, 3) := by decide +kernel
theorem own_d_prog_43_method_7_code_99 : decode prog_43_method_7_code 99 = .ok (.iload 5, 2) := by decide +kernel
theorem own_d_prog_43_method_7_code_101 : decode prog_43_method_7_code 101 = .ok (.iaload, 1) := by decide +kernel
theorem own_d_prog_43_method_7_code_102 : decode prog_43_method_7_code 102 = .ok (.istore 6, 2) := by decide +kernel
set_option maxRecDepth 65536 in
set_option maxHeartbeats 4000000 in
theorem own_ef_own_rm_numOld (m : MethodId) (oa0 : Nat) (ia1 : Int32) (ia2 : Int32) : entryFrame m #[(.ref oa0), (.int ia1), (.int ia2)] 7 = (mkF m 0 #[.val (.ref oa0), .val (.int ia1), .val (.int ia2), .unset, .unset, .unset, .unset] []) := by first | (simp [entryFrame, mkF, argsToLocals, Value.category]; done) | rfl
set_option maxRecDepth 65536 in
set_option maxHeartbeats 4000000 in
theorem own_rm_numOld (l : Launch) (Z : State) (a0 : Array Value) (hw : ∀ d ∈ tables_1, d.before a0 Z = true) (oa0 : Nat) (ia1 : Int32) (ia2 : Int32) (h : Heap) (kA nA lO lA rO rA : Nat) (w : Int64) (f : Nat → Int64) (g : Nat → Int32) (n : Nat) (P : OwnP Z h oa0 kA nA lO lA rO rA w f g n) (n0 : Nat) (go : n0 ≤ oa0) (hok : own_ok f (own_key w ia1 ia2)) (hold : f (own_slot f (own_key w ia1 ia2)) ≠ -1) :
    OwnMet l Z (⟨"com/example/subsumer/subsumer/Pairs", "number", "(II)I"⟩ : MethodName) prog_43_method_7_code 7 (some .int) [] ({ frames := 2, cells := 0, slots := 0, locals := 60 } : Room) #[(.ref oa0), (.int ia1), (.int ia2)] h (OwnPure (.int (g (own_slot f (own_key w ia1 ia2)))) h) := by
  refine own_enter (f0 := fun m => mkF m 0 #[.val (.ref oa0), .val (.int ia1), .val (.int ia2), .unset, .unset, .unset, .unset] []) (plainFor_of_name own_pn_Pairs) (fun m => own_ef_own_rm_numOld m oa0 ia1 ia2) ?_
  intro p e s m below meth c T0 X0 C e0
  obtain ⟨Eo, F_keys, F_numbers, F_lefts, F_rights, F_width, A_k, A_n, ⟨gl, I_0⟩, ⟨gr, I_1⟩, o1, o2, o3, o4, o5, o6⟩ := P
  refine own_iload_n X0 C own_d_prog_43_method_7_code_0 1 rfl rfl ?_
  refine own_i2l X0 C own_d_prog_43_method_7_code_1 2 rfl (fun v1 ev1 => ?_)
  refine own_aload_n X0 C own_d_prog_43_method_7_code_2 3 rfl rfl rfl ?_
  refine own_getfield X0 C (host := "") (Or.inl (own_w hw 41 rfl)) Via.refl e0 F_width own_d_prog_43_method_7_code_3 6 rfl (fun T1 X1 e1 => ?_)
  refine own_lmul X1 C own_d_prog_43_method_7_code_6 7 rfl (fun v2 ev2 => ?_)
  refine own_iload_n X1 C own_d_prog_43_method_7_code_7 8 rfl rfl ?_
  refine own_i2l X1 C own_d_prog_43_method_7_code_8 9 rfl (fun v3 ev3 => ?_)
  refine own_ladd X1 C own_d_prog_43_method_7_code_9 10 rfl (fun v4 ev4 => ?_)
  refine own_lstore_n X1 C own_d_prog_43_method_7_code_10 11 rfl #[.val (.ref oa0), .val (.int ia1), .val (.int ia2), .val (.long v4), .second, .unset, .unset] rfl ?_
  have hkey : v4 = own_key w ia1 ia2 := by rw [own_key, ev4]; subst_vars; rfl
  clear ev4
  subst hkey
  refine own_lload_n X1 C own_d_prog_43_method_7_code_11 12 rfl rfl ?_
  refine own_aload_n X1 C own_d_prog_43_method_7_code_12 13 rfl rfl rfl ?_
  refine own_getfield X1 C (host := "") (Or.inl (own_w hw 23 rfl)) Via.refl e1 F_keys own_d_prog_43_method_7_code_13 16 rfl (fun T2 X2 e2 => ?_)
  refine own_callE X2 C (own_w hw 48 rfl) (own_w hw 49 rfl) (own_w hw 7 rfl) (own_w hw 50 rfl) (by decide) (own_rm_slotOf l Z a0 hw (own_key w ia1 ia2) kA h f A_k hok) e2 own_pd_JAJ_R_I [(.long (own_key w ia1 ia2)), (.ref kA)] rfl rfl rfl rfl 0 rfl (by decide) (by decide) rfl rfl (by decide) (by decide) own_d_prog_43_method_7_code_16 19 rfl (fun T3 w3 q3 X3 e3 => ?_)
  obtain ⟨z3, rfl, hz⟩ := q3
  refine own_istore X3 C own_d_prog_43_method_7_code_19 21 rfl #[.val (.ref oa0), .val (.int ia1), .val (.int ia2), .val (.long (own_key w ia1 ia2)), .second, .val (.int z3), .unset] rfl ?_
  refine own_aload_n X3 C own_d_prog_43_method_7_code_21 22 rfl rfl rfl ?_
  refine own_getfield X3 C (host := "") (Or.inl (own_w hw 23 rfl)) Via.refl e3 F_keys own_d_prog_43_method_7_code_22 25 rfl (fun T4 X4 e4 => ?_)
  refine own_iload X4 C own_d_prog_43_method_7_code_25 27 rfl rfl ?_
  have sl := own_slot_lt f (own_key w ia1 ia2)
  have mone : (-1 : Int64).toInt = -1 := by decide
  refine own_laload X4 C e4 A_k (by omega) (by omega) own_d_prog_43_method_7_code_27 28 rfl (.long (f (own_slot f (own_key w ia1 ia2)))) (by show Value.long (f _) = _; rw [show z3.toInt.toNat = own_slot f (own_key w ia1 ia2) by omega]) ?_
  refine own_ldc2 X4 C (own_w hw 18 rfl) own_d_prog_43_method_7_code_28 31 rfl ?_
  refine own_lcmp X4 C own_d_prog_43_method_7_code_31 32 rfl (fun v5 ev5a ev5b ev5c => ?_)
  refine own_ifne X4 C own_d_prog_43_method_7_code_32 35 95 rfl (by decide) (by decide) (i := v5.toInt) rfl (fun b5 => ?_) (fun b5 => ?_)
  · refine own_aload_n X4 C own_d_prog_43_method_7_code_95 96 rfl rfl rfl ?_
    refine own_getfield X4 C (host := "") (Or.inl (own_w hw 26 rfl)) Via.refl e4 F_numbers own_d_prog_43_method_7_code_96 99 rfl (fun T6 X6 e6 => ?_)
    refine own_iload X6 C own_d_prog_43_method_7_code_99 101 rfl rfl ?_
    refine own_iaload X6 C e6 A_n (by omega) (by omega) own_d_prog_43_method_7_code_101 102 rfl (.int (g (own_slot f (own_key w ia1 ia2)))) (by show Value.int (g _) = _; rw [show z3.toInt.toNat = own_slot f (own_key w ia1 ia2) by omega]) ?_
    refine own_istore X6 C own_d_prog_43_method_7_code_102 104 rfl #[.val (.ref oa0), .val (.int ia1), .val (.int ia2), .val (.long (own_key w ia1 ia2)), .second, .val (.int z3), .val (.int (g (own_slot f (own_key w ia1 ia2))))] rfl ?_
    refine own_iload X6 C own_d_prog_43_method_7_code_104 106 rfl rfl ?_
    refine own_ireturn X6 C rfl own_d_prog_43_method_7_code_106 (by decide) (by decide) ?_
    exact ⟨rfl, e6, rfl⟩
  · exfalso
    exact hold (Int64.toInt_inj.mp (by omega))
theorem own_keyc {w : Int64} {a b a' b' : Int32} (h1 : a.toInt = a'.toInt) (h2 : b.toInt = b'.toInt) : own_key w a b = own_key w a' b' := by rw [Int32.toInt_inj.mp h1, Int32.toInt_inj.mp h2]
theorem own_pn_PairsFindPinLaw : plainName "com/example/subsumer/subsumer/PairsFindPinLaw" = true := by first | (simp [plainName, overriddenIn]; done) | decide +kernel
theorem own_pd_IIIIII_R_Z : parseMethodDescriptor "(IIIIII)Z" = some ⟨[.int, .int, .int, .int, .int, .int], some .boolean⟩ := by decide +kernel
set_option maxRecDepth 65536 in
set_option maxHeartbeats 4000000 in
theorem own_ef_own_rm_law (m : MethodId) (ia0 : Int32) (ia1 : Int32) (ia2 : Int32) (ia3 : Int32) (ia4 : Int32) (ia5 : Int32) : entryFrame m #[(.int ia0), (.int ia1), (.int ia2), (.int ia3), (.int ia4), (.int ia5)] maxLocals = (mkF m 0 #[.val (.int ia0), .val (.int ia1), .val (.int ia2), .val (.int ia3), .val (.int ia4), .val (.int ia5), .unset, .unset, .unset, .unset, .unset, .unset, .unset, .unset, .unset, .unset, .unset, .unset, .unset, .unset] []) := by first | (simp [entryFrame, mkF, argsToLocals, Value.category, maxLocals]; done) | rfl
set_option maxRecDepth 65536 in
set_option maxHeartbeats 4000000 in
theorem own_rm_law (l : Launch) (Z : State) (a0 : Array Value) (hw : ∀ d ∈ tables_1, d.before a0 Z = true) (ia0 : Int32) (ia1 : Int32) (ia2 : Int32) (ia3 : Int32) (ia4 : Int32) (ia5 : Int32) (h : Heap)  :
    OwnMet l Z x code maxLocals ret tables_1 room_1 #[(.int ia0), (.int ia1), (.int ia2), (.int ia3), (.int ia4), (.int ia5)] h (fun v h' L => v = some (.int 1) ∧ Fr h.size L) := by
  refine own_enter (f0 := fun m => mkF m 0 #[.val (.int ia0), .val (.int ia1), .val (.int ia2), .val (.int ia3), .val (.int ia4), .val (.int ia5), .unset, .unset, .unset, .unset, .unset, .unset, .unset, .unset, .unset, .unset, .unset, .unset, .unset, .unset] []) (plainFor_of_name own_pn_PairsFindPinLaw) (fun m => own_ef_own_rm_law m ia0 ia1 ia2 ia3 ia4 ia5) ?_
  intro p e s m below meth c T0 X0 C e0
  refine own_iconst X0 C at_0 1 rfl (1) rfl ?_
  refine own_iload_n X0 C at_1 2 rfl rfl ?_
  refine own_ldc X0 C (own_w hw 0 rfl) at_2 4 rfl ?_
  refine own_iand X0 C at_4 5 rfl (fun v1 ev1 => ?_)
  refine own_callP X0 C (own_w hw 1 rfl) (own_w hw 2 rfl) (own_w hw 3 rfl) (own_w hw 4 rfl) (by decide) (own_rm_max l Z a0 hw (1 : Int32) v1 h) e0 own_pd_II_R_I [(.int (1 : Int32)), (.int v1)] rfl rfl rfl rfl 0 rfl (by decide) (by decide) rfl rfl (by decide) (by decide) at_5 8 rfl (fun T1 X1 e1 => ?_)
  have q1 := c_and ia0 2147483647 (by decide)
  rw [← ev1] at q1
  have mx : (2147483647 : Int32).toInt = 2147483647 := by decide
  have one : (1 : Int32).toInt = 1 := by decide
  obtain ⟨wd, hwd⟩ : ∃ z, z = own_max 1 v1 := ⟨_, rfl⟩
  rw [← hwd]
  have w1 : 1 ≤ wd.toInt ∧ wd.toInt ≤ 2147483647 := by rw [hwd]; unfold own_max; split <;> omega
  have wl := c_i2l wd
  have wnz : wd ≠ 0 := own_nz32 (by omega)
  refine own_istore X1 C at_8 10 rfl #[.val (.int ia0), .val (.int ia1), .val (.int ia2), .val (.int ia3), .val (.int ia4), .val (.int ia5), .val (.int wd), .unset, .unset, .unset, .unset, .unset, .unset, .unset, .unset, .unset, .unset, .unset, .unset, .unset] rfl ?_
  refine own_iload_n X1 C at_10 11 rfl rfl ?_
  refine own_ldc X1 C (own_w hw 0 rfl) at_11 13 rfl ?_
  refine own_iand X1 C at_13 14 rfl (fun v2 ev2 => ?_)
  have pv2 := c_and ia1 2147483647 (by decide)
  rw [← ev2] at pv2
  refine own_istore X1 C at_14 16 rfl #[.val (.int ia0), .val (.int ia1), .val (.int ia2), .val (.int ia3), .val (.int ia4), .val (.int ia5), .val (.int wd), .val (.int v2), .unset, .unset, .unset, .unset, .unset, .unset, .unset, .unset, .unset, .unset, .unset, .unset] rfl ?_
  refine own_iload_n X1 C at_16 17 rfl rfl ?_
  refine own_ldc X1 C (own_w hw 0 rfl) at_17 19 rfl ?_
  refine own_iand X1 C at_19 20 rfl (fun v3 ev3 => ?_)
  refine own_iload X1 C at_20 22 rfl rfl ?_
  refine own_irem X1 C at_22 23 rfl wnz (fun v4 ev4 => ?_)
  have pv3 := c_and ia2 2147483647 (by decide)
  rw [← ev3] at pv3
  have qv4 := (c_iremV v3 wd).1 pv3.1 (by omega)
  rw [← ev4] at qv4
  refine own_istore X1 C at_23 25 rfl #[.val (.int ia0), .val (.int ia1), .val (.int ia2), .val (.int ia3), .val (.int ia4), .val (.int ia5), .val (.int wd), .val (.int v2), .val (.int v4), .unset, .unset, .unset, .unset, .unset, .unset, .unset, .unset, .unset, .unset, .unset] rfl ?_
  refine own_iload_n X1 C at_25 26 rfl rfl ?_
  refine own_ldc X1 C (own_w hw 0 rfl) at_26 28 rfl ?_
  refine own_iand X1 C at_28 29 rfl (fun v5 ev5 => ?_)
  have pv5 := c_and ia3 2147483647 (by decide)
  rw [← ev5] at pv5
  refine own_istore X1 C at_29 31 rfl #[.val (.int ia0), .val (.int ia1), .val (.int ia2), .val (.int ia3), .val (.int ia4), .val (.int ia5), .val (.int wd), .val (.int v2), .val (.int v4), .val (.int v5), .unset, .unset, .unset, .unset, .unset, .unset, .unset, .unset, .unset, .unset] rfl ?_
  refine own_iload X1 C at_31 33 rfl rfl ?_
  refine own_ldc X1 C (own_w hw 0 rfl) at_33 35 rfl ?_
  refine own_iand X1 C at_35 36 rfl (fun v6 ev6 => ?_)
  refine own_iload X1 C at_36 38 rfl rfl ?_
  refine own_irem X1 C at_38 39 rfl wnz (fun v7 ev7 => ?_)
  have pv6 := c_and ia4 2147483647 (by decide)
  rw [← ev6] at pv6
  have qv7 := (c_iremV v6 wd).1 pv6.1 (by omega)
  rw [← ev7] at qv7
  refine own_istore X1 C at_39 41 rfl #[.val (.int ia0), .val (.int ia1), .val (.int ia2), .val (.int ia3), .val (.int ia4), .val (.int ia5), .val (.int wd), .val (.int v2), .val (.int v4), .val (.int v5), .val (.int v7), .unset, .unset, .unset, .unset, .unset, .unset, .unset, .unset, .unset] rfl ?_
  refine own_new X1 C (own_w hw 5 rfl) (own_w hw 6 rfl) (own_w hw 7 rfl) e1 at_41 44 rfl (by decide) (by decide) (fun T2 h2 b2 g2 X2 e2 E2 A2 D2 => ?_)
  have F0_keys : Fld Z h2 b2 "com/example/subsumer/subsumer/Pairs" "keys" "[J" .null := D2 (Or.inl (own_w hw 24 rfl)) (ty := (.array .long)) (by decide)
  have F0_numbers : Fld Z h2 b2 "com/example/subsumer/subsumer/Pairs" "numbers" "[I" .null := D2 (Or.inl (own_w hw 27 rfl)) (ty := (.array .int)) (by decide)
  have F0_lefts : Fld Z h2 b2 "com/example/subsumer/subsumer/Pairs" "lefts" "Lcom/example/subsumer/subsumer/Ints;" .null := D2 (Or.inr (own_w hw 38 rfl)) (ty := (.object "com/example/subsumer/subsumer/Ints")) (by decide)
  have F0_rights : Fld Z h2 b2 "com/example/subsumer/subsumer/Pairs" "rights" "Lcom/example/subsumer/subsumer/Ints;" .null := D2 (Or.inr (own_w hw 40 rfl)) (ty := (.object "com/example/subsumer/subsumer/Ints")) (by decide)
  have F0_width : Fld Z h2 b2 "com/example/subsumer/subsumer/Pairs" "width" "J" (.long (0 : Int64)) := D2 (Or.inr (own_w hw 42 rfl)) (ty := .long) (by decide)
  have g0 : h.size ≤ b2 := Nat.le_of_eq g2.symm
  refine own_dup X2 C at_44 45 rfl rfl ?_
  refine own_iload X2 C at_45 47 rfl rfl ?_
  refine own_callI X2 C rfl (own_w hw 8 rfl) (own_w hw 9 rfl) (own_w hw 7 rfl) (own_w hw 10 rfl) rfl (by decide) (own_rm_pinit l Z a0 hw b2 wd h2 h.size E2.1 g0 A2 F0_keys F0_numbers F0_lefts F0_rights F0_width) e2 own_pd_I_R_V [(.int wd)] rfl rfl rfl rfl 1 rfl (by decide) (by decide) (by decide) (by decide) at_47 50 rfl (fun T3 L3 v3 X3 q3 => ?_)
  obtain ⟨rfl, NL3, kA, nA, lO, lA, rO, rA, -, -, P⟩ := q3
  have N3 := Fr.app (Fr.nil h.size) NL3
  have n1 := own_key_ne wd.toInt64 v2 v4 (by omega) (by omega) (by omega) (by omega)
  have n2 := own_key_ne wd.toInt64 v5 v7 (by omega) (by omega) (by omega) (by omega)
  refine own_astore X3 C at_50 52 rfl rfl #[.val (.int ia0), .val (.int ia1), .val (.int ia2), .val (.int ia3), .val (.int ia4), .val (.int ia5), .val (.int wd), .val (.int v2), .val (.int v4), .val (.int v5), .val (.int v7), .val (.ref b2), .unset, .unset, .unset, .unset, .unset, .unset, .unset, .unset] rfl ?_
  refine own_aload X3 C at_52 54 rfl rfl rfl ?_
  refine own_iload X3 C at_54 56 rfl rfl ?_
  refine own_iload X3 C at_56 58 rfl rfl ?_
  have hk4 : own_key wd.toInt64 v2 v4 = (own_key wd.toInt64 v2 v4) := own_keyc (by omega) (by omega)
  refine own_callV X3 C (own_w hw 43 rfl) (own_w hw 44 rfl) (own_w hw 46 rfl) (own_w hw 45 rfl) (own_w hw 7 rfl) (own_w hw 47 rfl) (by decide) P.1 (own_conv (w' := (.int (-1))) (own_rm_find l Z a0 hw b2 v2 v4 T3.heap kA nA lO lA rO rA wd.toInt64 own_f0 (fun _ => 0) 0 P (by rw [hk4]; exact (own_ok0 _))) (congrArg Value.int (by rw [hk4]; exact (own_find0 _ _)))) rfl own_pd_II_R_I [(.int v2), (.int v4)] rfl rfl rfl rfl 0 rfl (by decide) (by decide) (by decide) (by decide) at_58 61 rfl (fun T5 L5 v5 X5 q5 => ?_)
  obtain ⟨rfl, eh5, rfl⟩ := q5
  have N5 := Fr.app N3 (Fr.nil h.size)
  refine own_iconst X5 C at_61 62 rfl (-1) rfl ?_
  refine own_icmpne X5 C at_62 65 69 rfl (by decide) (by decide) (i := (-1)) (by decide) (j := (-1)) (by decide) (fun b6 => ?_) (fun b6 => ?_)
  · exfalso
    omega
  · refine own_iconst X5 C at_65 66 rfl (1) rfl ?_
    refine own_goto X5 C at_66 70 (by decide) (by decide) ?_
    refine own_istore X5 C at_70 72 rfl #[.val (.int ia0), .val (.int ia1), .val (.int ia2), .val (.int ia3), .val (.int ia4), .val (.int ia5), .val (.int wd), .val (.int v2), .val (.int v4), .val (.int v5), .val (.int v7), .val (.ref b2), .val (.int (1 : Int32)), .unset, .unset, .unset, .unset, .unset, .unset, .unset] rfl ?_
    refine own_aload X5 C at_72 74 rfl rfl rfl ?_
    refine own_iload X5 C at_74 76 rfl rfl ?_
    refine own_iload X5 C at_76 78 rfl rfl ?_
    have hk7 : own_key wd.toInt64 v2 v4 = (own_key wd.toInt64 v2 v4) := own_keyc (by omega) (by omega)
    refine own_callV X5 C (own_w hw 52 rfl) (own_w hw 53 rfl) (own_w hw 55 rfl) (own_w hw 54 rfl) (own_w hw 7 rfl) (own_w hw 56 rfl) (by decide) P.1 (own_rm_numNew l Z a0 hw b2 v2 v4 T3.heap kA nA lO lA rO rA wd.toInt64 own_f0 (fun _ => 0) 0 P h.size g0 (own_ok0 _) rfl (by decide)) eh5 own_pd_II_R_I [(.int v2), (.int v4)] rfl rfl rfl rfl 0 rfl (by decide) (by decide) (by decide) (by decide) at_78 81 rfl (fun T8 L8 v8 X8 q8 => ?_)
    obtain ⟨⟨z8, rfl, hz8⟩, NL8, P⟩ := q8
    have N8 := Fr.app N5 NL8
    obtain rfl : z8 = (0 : Int32) := hz8
    replace P : OwnP Z T8.heap b2 kA nA lO lA rO rA wd.toInt64 (own_f1 (own_key wd.toInt64 v2 v4)) (own_g1 (own_key wd.toInt64 v2 v4)) 1 := P
    refine own_istore X8 C at_81 83 rfl #[.val (.int ia0), .val (.int ia1), .val (.int ia2), .val (.int ia3), .val (.int ia4), .val (.int ia5), .val (.int wd), .val (.int v2), .val (.int v4), .val (.int v5), .val (.int v7), .val (.ref b2), .val (.int (1 : Int32)), .val (.int (0 : Int32)), .unset, .unset, .unset, .unset, .unset, .unset] rfl ?_
    refine own_iload X8 C at_83 85 rfl rfl ?_
    refine own_ifeq X8 C at_85 88 97 rfl (by decide) (by decide) (i := 1) (by decide) (fun b9 => ?_) (fun b9 => ?_)
    · exfalso
      omega
    · refine own_iload X8 C at_88 90 rfl rfl ?_
      refine own_ifne X8 C at_90 93 97 rfl (by decide) (by decide) (i := 0) (by decide) (fun b10 => ?_) (fun b10 => ?_)
      · exfalso
        omega
      · refine own_iconst X8 C at_93 94 rfl (1) rfl ?_
        refine own_goto X8 C at_94 98 (by decide) (by decide) ?_
        refine own_istore X8 C at_98 100 rfl #[.val (.int ia0), .val (.int ia1), .val (.int ia2), .val (.int ia3), .val (.int ia4), .val (.int ia5), .val (.int wd), .val (.int v2), .val (.int v4), .val (.int v5), .val (.int v7), .val (.ref b2), .val (.int (1 : Int32)), .val (.int (0 : Int32)), .unset, .unset, .unset, .unset, .unset, .unset] rfl ?_
        refine own_iload X8 C at_100 102 rfl rfl ?_
        refine own_iload X8 C at_102 104 rfl rfl ?_
        refine own_icmpne X8 C at_104 107 118 rfl (by decide) (by decide) (i := v2.toInt) rfl (j := v5.toInt) rfl (fun b11 => ?_) (fun b11 => ?_)
        · refine own_iconst X8 C at_118 119 rfl (0) rfl ?_
          refine own_istore X8 C at_119 121 rfl #[.val (.int ia0), .val (.int ia1), .val (.int ia2), .val (.int ia3), .val (.int ia4), .val (.int ia5), .val (.int wd), .val (.int v2), .val (.int v4), .val (.int v5), .val (.int v7), .val (.ref b2), .val (.int (1 : Int32)), .val (.int (0 : Int32)), .val (.int (0 : Int32)), .unset, .unset, .unset, .unset, .unset] rfl ?_
          refine own_iload X8 C at_121 123 rfl rfl ?_
          refine own_ifeq X8 C at_123 126 152 rfl (by decide) (by decide) (i := 1) (by decide) (fun b12 => ?_) (fun b12 => ?_)
          · exfalso
            omega
          · refine own_aload X8 C at_126 128 rfl rfl rfl ?_
            refine own_iload X8 C at_128 130 rfl rfl ?_
            refine own_iload X8 C at_130 132 rfl rfl ?_
            have hq1_13 : (own_key wd.toInt64 v2 v4) ≠ own_key wd.toInt64 v5 v7 := fun q => by
              have z := own_key_inj wd.toInt64 v2 v4 v5 v7 (by omega) (by omega) (by omega) (by omega) (by omega) (by omega) (by omega) (by omega) q
              omega
            refine own_callV X8 C (own_w hw 43 rfl) (own_w hw 44 rfl) (own_w hw 46 rfl) (own_w hw 45 rfl) (own_w hw 7 rfl) (own_w hw 47 rfl) (by decide) P.1 (own_conv (w' := (.int (-1))) (own_rm_find l Z a0 hw b2 v5 v7 T8.heap kA nA lO lA rO rA wd.toInt64 (own_f1 (own_key wd.toInt64 v2 v4)) (own_g1 (own_key wd.toInt64 v2 v4)) 1 P (own_ok1b _ _ n1 hq1_13)) (congrArg Value.int (own_find1b _ _ _ n1 hq1_13))) rfl own_pd_II_R_I [(.int v5), (.int v7)] rfl rfl rfl rfl 0 rfl (by decide) (by decide) (by decide) (by decide) at_132 135 rfl (fun T14 L14 v14 X14 q14 => ?_)
            obtain ⟨rfl, eh14, rfl⟩ := q14
            have N14 := Fr.app N8 (Fr.nil h.size)
            refine own_iload X14 C at_135 137 rfl rfl ?_
            refine own_ifeq X14 C at_137 140 144 rfl (by decide) (by decide) (i := 0) (by decide) (fun b15 => ?_) (fun b15 => ?_)
            · refine own_iconst X14 C at_144 145 rfl (-1) rfl ?_
              refine own_icmpne X14 C at_145 148 152 rfl (by decide) (by decide) (i := (-1)) (by decide) (j := (-1)) (by decide) (fun b16 => ?_) (fun b16 => ?_)
              · exfalso
                omega
              · refine own_iconst X14 C at_148 149 rfl (1) rfl ?_
                refine own_goto X14 C at_149 153 (by decide) (by decide) ?_
                refine own_istore X14 C at_153 155 rfl #[.val (.int ia0), .val (.int ia1), .val (.int ia2), .val (.int ia3), .val (.int ia4), .val (.int ia5), .val (.int wd), .val (.int v2), .val (.int v4), .val (.int v5), .val (.int v7), .val (.ref b2), .val (.int (1 : Int32)), .val (.int (0 : Int32)), .val (.int (0 : Int32)), .unset, .unset, .unset, .unset, .unset] rfl ?_
                refine own_aload X14 C at_155 157 rfl rfl rfl ?_
                refine own_iload X14 C at_157 159 rfl rfl ?_
                refine own_iload X14 C at_159 161 rfl rfl ?_
                have hq1_17 : (own_key wd.toInt64 v2 v4) ≠ own_key wd.toInt64 v5 v7 := fun q => by
                  have z := own_key_inj wd.toInt64 v2 v4 v5 v7 (by omega) (by omega) (by omega) (by omega) (by omega) (by omega) (by omega) (by omega) q
                  omega
                have hk12 := hq1_17
                refine own_callV X14 C (own_w hw 52 rfl) (own_w hw 53 rfl) (own_w hw 55 rfl) (own_w hw 54 rfl) (own_w hw 7 rfl) (own_w hw 56 rfl) (by decide) P.1 (own_rm_numNew l Z a0 hw b2 v5 v7 T8.heap kA nA lO lA rO rA wd.toInt64 (own_f1 (own_key wd.toInt64 v2 v4)) (own_g1 (own_key wd.toInt64 v2 v4)) 1 P h.size g0 (own_ok1b _ _ n1 hk12) (own_s1e _ _ n1 hk12) (by decide)) eh14 own_pd_II_R_I [(.int v5), (.int v7)] rfl rfl rfl rfl 0 rfl (by decide) (by decide) (by decide) (by decide) at_161 164 rfl (fun T18 L18 v18 X18 q18 => ?_)
                obtain ⟨⟨z18, rfl, hz18⟩, NL18, P⟩ := q18
                have N18 := Fr.app N14 NL18
                obtain rfl : z18 = (1 : Int32) := hz18
                replace P : OwnP Z T18.heap b2 kA nA lO lA rO rA wd.toInt64 (own_f2 (own_key wd.toInt64 v2 v4) (own_key wd.toInt64 v5 v7)) (own_g2 (own_key wd.toInt64 v2 v4) (own_key wd.toInt64 v5 v7)) 2 := P
                refine own_istore X18 C at_164 166 rfl #[.val (.int ia0), .val (.int ia1), .val (.int ia2), .val (.int ia3), .val (.int ia4), .val (.int ia5), .val (.int wd), .val (.int v2), .val (.int v4), .val (.int v5), .val (.int v7), .val (.ref b2), .val (.int (1 : Int32)), .val (.int (0 : Int32)), .val (.int (0 : Int32)), .val (.int (1 : Int32)), .unset, .unset, .unset, .unset] rfl ?_
                refine own_iload X18 C at_166 168 rfl rfl ?_
                refine own_ifeq X18 C at_168 171 175 rfl (by decide) (by decide) (i := 0) (by decide) (fun b19 => ?_) (fun b19 => ?_)
                · refine own_iconst X18 C at_175 176 rfl (1) rfl ?_
                  refine own_istore X18 C at_176 178 rfl #[.val (.int ia0), .val (.int ia1), .val (.int ia2), .val (.int ia3), .val (.int ia4), .val (.int ia5), .val (.int wd), .val (.int v2), .val (.int v4), .val (.int v5), .val (.int v7), .val (.ref b2), .val (.int (1 : Int32)), .val (.int (0 : Int32)), .val (.int (0 : Int32)), .val (.int (1 : Int32)), .val (.int (1 : Int32)), .unset, .unset, .unset] rfl ?_
                  refine own_iload X18 C at_178 180 rfl rfl ?_
                  refine own_ifeq X18 C at_180 183 194 rfl (by decide) (by decide) (i := 1) (by decide) (fun b20 => ?_) (fun b20 => ?_)
                  · exfalso
                    omega
                  · refine own_iload X18 C at_183 185 rfl rfl ?_
                    refine own_iload X18 C at_185 187 rfl rfl ?_
                    refine own_icmpne X18 C at_187 190 194 rfl (by decide) (by decide) (i := 1) (by decide) (j := 1) (by decide) (fun b21 => ?_) (fun b21 => ?_)
                    · exfalso
                      omega
                    · refine own_iconst X18 C at_190 191 rfl (1) rfl ?_
                      refine own_goto X18 C at_191 195 (by decide) (by decide) ?_
                      refine own_istore X18 C at_195 197 rfl #[.val (.int ia0), .val (.int ia1), .val (.int ia2), .val (.int ia3), .val (.int ia4), .val (.int ia5), .val (.int wd), .val (.int v2), .val (.int v4), .val (.int v5), .val (.int v7), .val (.ref b2), .val (.int (1 : Int32)), .val (.int (0 : Int32)), .val (.int (0 : Int32)), .val (.int (1 : Int32)), .val (.int (1 : Int32)), .unset, .unset, .unset] rfl ?_
                      refine own_iload X18 C at_197 199 rfl rfl ?_
                      refine own_ifeq X18 C at_199 202 218 rfl (by decide) (by decide) (i := 1) (by decide) (fun b22 => ?_) (fun b22 => ?_)
                      · exfalso
                        omega
                      · refine own_aload X18 C at_202 204 rfl rfl rfl ?_
                        refine own_iload X18 C at_204 206 rfl rfl ?_
                        refine own_iload X18 C at_206 208 rfl rfl ?_
                        have hk23 : own_key wd.toInt64 v2 v4 = (own_key wd.toInt64 v2 v4) := own_keyc (by omega) (by omega)
                        refine own_callV X18 C (own_w hw 43 rfl) (own_w hw 44 rfl) (own_w hw 46 rfl) (own_w hw 45 rfl) (own_w hw 7 rfl) (own_w hw 47 rfl) (by decide) P.1 (own_conv (w' := (.int (0))) (own_rm_find l Z a0 hw b2 v2 v4 T18.heap kA nA lO lA rO rA wd.toInt64 (own_f2 (own_key wd.toInt64 v2 v4) (own_key wd.toInt64 v5 v7)) (own_g2 (own_key wd.toInt64 v2 v4) (own_key wd.toInt64 v5 v7)) 2 P (by rw [hk23]; exact (own_ok2a _ _ n1 hk12))) (congrArg Value.int (by rw [hk23]; exact (own_find2a _ _ n1 hk12)))) rfl own_pd_II_R_I [(.int v2), (.int v4)] rfl rfl rfl rfl 0 rfl (by decide) (by decide) (by decide) (by decide) at_208 211 rfl (fun T24 L24 v24 X24 q24 => ?_)
                        obtain ⟨rfl, eh24, rfl⟩ := q24
                        have N24 := Fr.app N18 (Fr.nil h.size)
                        refine own_ifne X24 C at_211 214 218 rfl (by decide) (by decide) (i := 0) (by decide) (fun b25 => ?_) (fun b25 => ?_)
                        · exfalso
                          omega
                        · refine own_iconst X24 C at_214 215 rfl (1) rfl ?_
                          refine own_goto X24 C at_215 219 (by decide) (by decide) ?_
                          refine own_istore X24 C at_219 221 rfl #[.val (.int ia0), .val (.int ia1), .val (.int ia2), .val (.int ia3), .val (.int ia4), .val (.int ia5), .val (.int wd), .val (.int v2), .val (.int v4), .val (.int v5), .val (.int v7), .val (.ref b2), .val (.int (1 : Int32)), .val (.int (0 : Int32)), .val (.int (0 : Int32)), .val (.int (1 : Int32)), .val (.int (1 : Int32)), .unset, .unset, .unset] rfl ?_
                          refine own_iload X24 C at_221 223 rfl rfl ?_
                          refine own_ifeq X24 C at_223 226 244 rfl (by decide) (by decide) (i := 1) (by decide) (fun b26 => ?_) (fun b26 => ?_)
                          · exfalso
                            omega
                          · refine own_aload X24 C at_226 228 rfl rfl rfl ?_
                            refine own_iload X24 C at_228 230 rfl rfl ?_
                            refine own_iload X24 C at_230 232 rfl rfl ?_
                            have hk27 : own_key wd.toInt64 v5 v7 = (own_key wd.toInt64 v5 v7) := own_keyc (by omega) (by omega)
                            refine own_callV X24 C (own_w hw 43 rfl) (own_w hw 44 rfl) (own_w hw 46 rfl) (own_w hw 45 rfl) (own_w hw 7 rfl) (own_w hw 47 rfl) (by decide) P.1 (own_conv (w' := (.int (1))) (own_rm_find l Z a0 hw b2 v5 v7 T18.heap kA nA lO lA rO rA wd.toInt64 (own_f2 (own_key wd.toInt64 v2 v4) (own_key wd.toInt64 v5 v7)) (own_g2 (own_key wd.toInt64 v2 v4) (own_key wd.toInt64 v5 v7)) 2 P (by rw [hk27]; exact (own_ok2b _ _ n1 hk12))) (congrArg Value.int (by rw [hk27]; exact (own_find2b _ _ n1 n2 hk12)))) eh24 own_pd_II_R_I [(.int v5), (.int v7)] rfl rfl rfl rfl 0 rfl (by decide) (by decide) (by decide) (by decide) at_232 235 rfl (fun T28 L28 v28 X28 q28 => ?_)
                            obtain ⟨rfl, eh28, rfl⟩ := q28
                            have N28 := Fr.app N24 (Fr.nil h.size)
                            refine own_iload X28 C at_235 237 rfl rfl ?_
                            refine own_icmpne X28 C at_237 240 244 rfl (by decide) (by decide) (i := 1) (by decide) (j := 1) (by decide) (fun b29 => ?_) (fun b29 => ?_)
                            · exfalso
                              omega
                            · refine own_iconst X28 C at_240 241 rfl (1) rfl ?_
                              refine own_goto X28 C at_241 245 (by decide) (by decide) ?_
                              refine own_istore X28 C at_245 247 rfl #[.val (.int ia0), .val (.int ia1), .val (.int ia2), .val (.int ia3), .val (.int ia4), .val (.int ia5), .val (.int wd), .val (.int v2), .val (.int v4), .val (.int v5), .val (.int v7), .val (.ref b2), .val (.int (1 : Int32)), .val (.int (0 : Int32)), .val (.int (0 : Int32)), .val (.int (1 : Int32)), .val (.int (1 : Int32)), .unset, .unset, .unset] rfl ?_
                              refine own_iload X28 C at_247 249 rfl rfl ?_
                              refine own_iconst X28 C at_249 250 rfl (1) rfl ?_
                              refine own_iand X28 C at_250 251 rfl (fun v8 ev8 => ?_)
                              refine own_ifeq X28 C at_251 254 259 rfl (by decide) (by decide) (i := v8.toInt) rfl (fun b30 => ?_) (fun b30 => ?_)
                              · refine own_iload X28 C at_259 261 rfl rfl ?_
                                refine own_istore X28 C at_261 263 rfl #[.val (.int ia0), .val (.int ia1), .val (.int ia2), .val (.int ia3), .val (.int ia4), .val (.int ia5), .val (.int wd), .val (.int v2), .val (.int v4), .val (.int v5), .val (.int v7), .val (.ref b2), .val (.int (1 : Int32)), .val (.int (0 : Int32)), .val (.int (0 : Int32)), .val (.int (1 : Int32)), .val (.int (1 : Int32)), .val (.int v5), .unset, .unset] rfl ?_
                                refine own_iload X28 C at_263 265 rfl rfl ?_
                                refine own_iconst X28 C at_265 266 rfl (2) rfl ?_
                                refine own_iand X28 C at_266 267 rfl (fun v9 ev9 => ?_)
                                refine own_ifeq X28 C at_267 270 275 rfl (by decide) (by decide) (i := v9.toInt) rfl (fun b31 => ?_) (fun b31 => ?_)
                                · refine own_iload X28 C at_275 277 rfl rfl ?_
                                  refine own_istore X28 C at_277 279 rfl #[.val (.int ia0), .val (.int ia1), .val (.int ia2), .val (.int ia3), .val (.int ia4), .val (.int ia5), .val (.int wd), .val (.int v2), .val (.int v4), .val (.int v5), .val (.int v7), .val (.ref b2), .val (.int (1 : Int32)), .val (.int (0 : Int32)), .val (.int (0 : Int32)), .val (.int (1 : Int32)), .val (.int (1 : Int32)), .val (.int v5), .val (.int v7), .unset] rfl ?_
                                  refine own_iload X28 C at_279 281 rfl rfl ?_
                                  refine own_iload X28 C at_281 283 rfl rfl ?_
                                  refine own_icmpne X28 C at_283 286 299 rfl (by decide) (by decide) (i := v5.toInt) rfl (j := v2.toInt) rfl (fun b32 => ?_) (fun b32 => ?_)
                                  · refine own_iload X28 C at_299 301 rfl rfl ?_
                                    refine own_iload X28 C at_301 303 rfl rfl ?_
                                    refine own_icmpne X28 C at_303 306 320 rfl (by decide) (by decide) (i := v5.toInt) rfl (j := v5.toInt) rfl (fun b33 => ?_) (fun b33 => ?_)
                                    · exfalso
                                      omega
                                    · refine own_iload X28 C at_306 308 rfl rfl ?_
                                      refine own_iload X28 C at_308 310 rfl rfl ?_
                                      refine own_icmpne X28 C at_310 313 320 rfl (by decide) (by decide) (i := v7.toInt) rfl (j := v7.toInt) rfl (fun b34 => ?_) (fun b34 => ?_)
                                      · exfalso
                                        omega
                                      · refine own_iload X28 C at_313 315 rfl rfl ?_
                                        refine own_istore X28 C at_315 317 rfl #[.val (.int ia0), .val (.int ia1), .val (.int ia2), .val (.int ia3), .val (.int ia4), .val (.int ia5), .val (.int wd), .val (.int v2), .val (.int v4), .val (.int v5), .val (.int v7), .val (.ref b2), .val (.int (1 : Int32)), .val (.int (0 : Int32)), .val (.int (0 : Int32)), .val (.int (1 : Int32)), .val (.int (1 : Int32)), .val (.int v5), .val (.int v7), .val (.int (1 : Int32))] rfl ?_
                                        refine own_goto X28 C at_317 323 (by decide) (by decide) ?_
                                        refine own_iload X28 C at_323 325 rfl rfl ?_
                                        refine own_ifeq X28 C at_325 328 346 rfl (by decide) (by decide) (i := 1) (by decide) (fun b35 => ?_) (fun b35 => ?_)
                                        · exfalso
                                          omega
                                        · refine own_aload X28 C at_328 330 rfl rfl rfl ?_
                                          refine own_iload X28 C at_330 332 rfl rfl ?_
                                          refine own_iload X28 C at_332 334 rfl rfl ?_
                                          have hk36 : own_key wd.toInt64 v5 v7 = (own_key wd.toInt64 v5 v7) := own_keyc (by omega) (by omega)
                                          refine own_callV X28 C (own_w hw 43 rfl) (own_w hw 44 rfl) (own_w hw 46 rfl) (own_w hw 45 rfl) (own_w hw 7 rfl) (own_w hw 47 rfl) (by decide) P.1 (own_conv (w' := (.int (1))) (own_rm_find l Z a0 hw b2 v5 v7 T18.heap kA nA lO lA rO rA wd.toInt64 (own_f2 (own_key wd.toInt64 v2 v4) (own_key wd.toInt64 v5 v7)) (own_g2 (own_key wd.toInt64 v2 v4) (own_key wd.toInt64 v5 v7)) 2 P (by rw [hk36]; exact (own_ok2b _ _ n1 hk12))) (congrArg Value.int (by rw [hk36]; exact (own_find2b _ _ n1 n2 hk12)))) eh28 own_pd_II_R_I [(.int v5), (.int v7)] rfl rfl rfl rfl 0 rfl (by decide) (by decide) (by decide) (by decide) at_334 337 rfl (fun T37 L37 v37 X37 q37 => ?_)
                                          obtain ⟨rfl, eh37, rfl⟩ := q37
                                          have N37 := Fr.app N28 (Fr.nil h.size)
                                          refine own_iload X37 C at_337 339 rfl rfl ?_
                                          refine own_icmpne X37 C at_339 342 346 rfl (by decide) (by decide) (i := 1) (by decide) (j := 1) (by decide) (fun b38 => ?_) (fun b38 => ?_)
                                          · exfalso
                                            omega
                                          · refine own_iconst X37 C at_342 343 rfl (1) rfl ?_
                                            refine own_goto X37 C at_343 347 (by decide) (by decide) ?_
                                            refine own_istore X37 C at_347 349 rfl #[.val (.int ia0), .val (.int ia1), .val (.int ia2), .val (.int ia3), .val (.int ia4), .val (.int ia5), .val (.int wd), .val (.int v2), .val (.int v4), .val (.int v5), .val (.int v7), .val (.ref b2), .val (.int (1 : Int32)), .val (.int (0 : Int32)), .val (.int (0 : Int32)), .val (.int (1 : Int32)), .val (.int (1 : Int32)), .val (.int v5), .val (.int v7), .val (.int (1 : Int32))] rfl ?_
                                            refine own_iload X37 C at_349 351 rfl rfl ?_
                                            refine own_ifeq X37 C at_351 354 370 rfl (by decide) (by decide) (i := 1) (by decide) (fun b39 => ?_) (fun b39 => ?_)
                                            · exfalso
                                              omega
                                            · refine own_aload X37 C at_354 356 rfl rfl rfl ?_
                                              have P' := P
                                              obtain ⟨-, -, -, Fl, -, -, -, -, ⟨gl, I0⟩, -⟩ := P'
                                              refine own_callV X37 C (own_w hw 74 rfl) (own_w hw 58 rfl) (own_w hw 60 rfl) (own_w hw 59 rfl) (own_w hw 7 rfl) (own_w hw 61 rfl) (by decide) P.1 (own_rm_psize l Z a0 hw b2 T18.heap lO lA 2 gl Fl I0) eh37 own_pd__R_I [] rfl rfl rfl rfl 0 rfl (by decide) (by decide) (by decide) (by decide) at_356 359 rfl (fun T40 L40 v40 X40 q40 => ?_)
                                              obtain ⟨⟨_, rfl, z40, rfl, hz40⟩, eh40, rfl⟩ := q40
                                              have N40 := Fr.app N37 (Fr.nil h.size)
                                              refine own_iload X40 C at_359 361 rfl rfl ?_
                                              refine own_iconst X40 C at_361 362 rfl (1) rfl ?_
                                              refine own_iadd X40 C at_362 363 rfl (fun v10 ev10 => ?_)
                                              obtain rfl : v10 = (2 : Int32) := ev10.trans (by decide)
                                              refine own_icmpne X40 C at_363 366 370 rfl (by decide) (by decide) (i := z40.toInt) rfl (j := 2) (by decide) (fun b41 => ?_) (fun b41 => ?_)
                                              · exfalso
                                                omega
                                              · refine own_iconst X40 C at_366 367 rfl (1) rfl ?_
                                                refine own_goto X40 C at_367 371 (by decide) (by decide) ?_
                                                refine own_istore X40 C at_371 373 rfl #[.val (.int ia0), .val (.int ia1), .val (.int ia2), .val (.int ia3), .val (.int ia4), .val (.int ia5), .val (.int wd), .val (.int v2), .val (.int v4), .val (.int v5), .val (.int v7), .val (.ref b2), .val (.int (1 : Int32)), .val (.int (0 : Int32)), .val (.int (0 : Int32)), .val (.int (1 : Int32)), .val (.int (1 : Int32)), .val (.int v5), .val (.int v7), .val (.int (1 : Int32))] rfl ?_
                                                refine own_iload X40 C at_373 375 rfl rfl ?_
                                                refine own_iretN X40 C .boolean rfl (by simp) at_375 (by decide) (by decide) (1) (by decide) ?_
                                                exact ⟨rfl, N40⟩
                                  · exfalso
                                    omega
                                · refine own_iload X28 C at_270 272 rfl rfl ?_
                                  refine own_goto X28 C at_272 277 (by decide) (by decide) ?_
                                  refine own_istore X28 C at_277 279 rfl #[.val (.int ia0), .val (.int ia1), .val (.int ia2), .val (.int ia3), .val (.int ia4), .val (.int ia5), .val (.int wd), .val (.int v2), .val (.int v4), .val (.int v5), .val (.int v7), .val (.ref b2), .val (.int (1 : Int32)), .val (.int (0 : Int32)), .val (.int (0 : Int32)), .val (.int (1 : Int32)), .val (.int (1 : Int32)), .val (.int v5), .val (.int v4), .unset] rfl ?_
                                  refine own_iload X28 C at_279 281 rfl rfl ?_
                                  refine own_iload X28 C at_281 283 rfl rfl ?_
                                  refine own_icmpne X28 C at_283 286 299 rfl (by decide) (by decide) (i := v5.toInt) rfl (j := v2.toInt) rfl (fun b42 => ?_) (fun b42 => ?_)
                                  · refine own_iload X28 C at_299 301 rfl rfl ?_
                                    refine own_iload X28 C at_301 303 rfl rfl ?_
                                    refine own_icmpne X28 C at_303 306 320 rfl (by decide) (by decide) (i := v5.toInt) rfl (j := v5.toInt) rfl (fun b43 => ?_) (fun b43 => ?_)
                                    · exfalso
                                      omega
                                    · refine own_iload X28 C at_306 308 rfl rfl ?_
                                      refine own_iload X28 C at_308 310 rfl rfl ?_
                                      refine own_icmpne X28 C at_310 313 320 rfl (by decide) (by decide) (i := v4.toInt) rfl (j := v7.toInt) rfl (fun b44 => ?_) (fun b44 => ?_)
                                      · refine own_iconst X28 C at_320 321 rfl (-1) rfl ?_
                                        refine own_istore X28 C at_321 323 rfl #[.val (.int ia0), .val (.int ia1), .val (.int ia2), .val (.int ia3), .val (.int ia4), .val (.int ia5), .val (.int wd), .val (.int v2), .val (.int v4), .val (.int v5), .val (.int v7), .val (.ref b2), .val (.int (1 : Int32)), .val (.int (0 : Int32)), .val (.int (0 : Int32)), .val (.int (1 : Int32)), .val (.int (1 : Int32)), .val (.int v5), .val (.int v4), .val (.int (-1 : Int32))] rfl ?_
                                        refine own_iload X28 C at_323 325 rfl rfl ?_
                                        refine own_ifeq X28 C at_325 328 346 rfl (by decide) (by decide) (i := 1) (by decide) (fun b45 => ?_) (fun b45 => ?_)
                                        · exfalso
                                          omega
                                        · refine own_aload X28 C at_328 330 rfl rfl rfl ?_
                                          refine own_iload X28 C at_330 332 rfl rfl ?_
                                          refine own_iload X28 C at_332 334 rfl rfl ?_
                                          have hq1_46 : (own_key wd.toInt64 v2 v4) ≠ own_key wd.toInt64 v5 v4 := fun q => by
                                            have z := own_key_inj wd.toInt64 v2 v4 v5 v4 (by omega) (by omega) (by omega) (by omega) (by omega) (by omega) (by omega) (by omega) q
                                            omega
                                          have hq2_46 : (own_key wd.toInt64 v5 v7) ≠ own_key wd.toInt64 v5 v4 := fun q => by
                                            have z := own_key_inj wd.toInt64 v5 v7 v5 v4 (by omega) (by omega) (by omega) (by omega) (by omega) (by omega) (by omega) (by omega) q
                                            omega
                                          refine own_callV X28 C (own_w hw 43 rfl) (own_w hw 44 rfl) (own_w hw 46 rfl) (own_w hw 45 rfl) (own_w hw 7 rfl) (own_w hw 47 rfl) (by decide) P.1 (own_conv (w' := (.int (-1))) (own_rm_find l Z a0 hw b2 v5 v4 T18.heap kA nA lO lA rO rA wd.toInt64 (own_f2 (own_key wd.toInt64 v2 v4) (own_key wd.toInt64 v5 v7)) (own_g2 (own_key wd.toInt64 v2 v4) (own_key wd.toInt64 v5 v7)) 2 P (own_ok2c _ _ _ n1 n2 hk12 hq1_46 hq2_46)) (congrArg Value.int (own_find2c _ _ _ _ n1 n2 hk12 hq1_46 hq2_46))) eh28 own_pd_II_R_I [(.int v5), (.int v4)] rfl rfl rfl rfl 0 rfl (by decide) (by decide) (by decide) (by decide) at_334 337 rfl (fun T47 L47 v47 X47 q47 => ?_)
                                          obtain ⟨rfl, eh47, rfl⟩ := q47
                                          have N47 := Fr.app N28 (Fr.nil h.size)
                                          refine own_iload X47 C at_337 339 rfl rfl ?_
                                          refine own_icmpne X47 C at_339 342 346 rfl (by decide) (by decide) (i := (-1)) (by decide) (j := (-1)) (by decide) (fun b48 => ?_) (fun b48 => ?_)
                                          · exfalso
                                            omega
                                          · refine own_iconst X47 C at_342 343 rfl (1) rfl ?_
                                            refine own_goto X47 C at_343 347 (by decide) (by decide) ?_
                                            refine own_istore X47 C at_347 349 rfl #[.val (.int ia0), .val (.int ia1), .val (.int ia2), .val (.int ia3), .val (.int ia4), .val (.int ia5), .val (.int wd), .val (.int v2), .val (.int v4), .val (.int v5), .val (.int v7), .val (.ref b2), .val (.int (1 : Int32)), .val (.int (0 : Int32)), .val (.int (0 : Int32)), .val (.int (1 : Int32)), .val (.int (1 : Int32)), .val (.int v5), .val (.int v4), .val (.int (-1 : Int32))] rfl ?_
                                            refine own_iload X47 C at_349 351 rfl rfl ?_
                                            refine own_ifeq X47 C at_351 354 370 rfl (by decide) (by decide) (i := 1) (by decide) (fun b49 => ?_) (fun b49 => ?_)
                                            · exfalso
                                              omega
                                            · refine own_aload X47 C at_354 356 rfl rfl rfl ?_
                                              have P' := P
                                              obtain ⟨-, -, -, Fl, -, -, -, -, ⟨gl, I0⟩, -⟩ := P'
                                              refine own_callV X47 C (own_w hw 74 rfl) (own_w hw 58 rfl) (own_w hw 60 rfl) (own_w hw 59 rfl) (own_w hw 7 rfl) (own_w hw 61 rfl) (by decide) P.1 (own_rm_psize l Z a0 hw b2 T18.heap lO lA 2 gl Fl I0) eh47 own_pd__R_I [] rfl rfl rfl rfl 0 rfl (by decide) (by decide) (by decide) (by decide) at_356 359 rfl (fun T50 L50 v50 X50 q50 => ?_)
                                              obtain ⟨⟨_, rfl, z50, rfl, hz50⟩, eh50, rfl⟩ := q50
                                              have N50 := Fr.app N47 (Fr.nil h.size)
                                              refine own_iload X50 C at_359 361 rfl rfl ?_
                                              refine own_iconst X50 C at_361 362 rfl (1) rfl ?_
                                              refine own_iadd X50 C at_362 363 rfl (fun v11 ev11 => ?_)
                                              obtain rfl : v11 = (2 : Int32) := ev11.trans (by decide)
                                              refine own_icmpne X50 C at_363 366 370 rfl (by decide) (by decide) (i := z50.toInt) rfl (j := 2) (by decide) (fun b51 => ?_) (fun b51 => ?_)
                                              · exfalso
                                                omega
                                              · refine own_iconst X50 C at_366 367 rfl (1) rfl ?_
                                                refine own_goto X50 C at_367 371 (by decide) (by decide) ?_
                                                refine own_istore X50 C at_371 373 rfl #[.val (.int ia0), .val (.int ia1), .val (.int ia2), .val (.int ia3), .val (.int ia4), .val (.int ia5), .val (.int wd), .val (.int v2), .val (.int v4), .val (.int v5), .val (.int v7), .val (.ref b2), .val (.int (1 : Int32)), .val (.int (0 : Int32)), .val (.int (0 : Int32)), .val (.int (1 : Int32)), .val (.int (1 : Int32)), .val (.int v5), .val (.int v4), .val (.int (-1 : Int32))] rfl ?_
                                                refine own_iload X50 C at_373 375 rfl rfl ?_
                                                refine own_iretN X50 C .boolean rfl (by simp) at_375 (by decide) (by decide) (1) (by decide) ?_
                                                exact ⟨rfl, N50⟩
                                      · refine own_iload X28 C at_313 315 rfl rfl ?_
                                        refine own_istore X28 C at_315 317 rfl #[.val (.int ia0), .val (.int ia1), .val (.int ia2), .val (.int ia3), .val (.int ia4), .val (.int ia5), .val (.int wd), .val (.int v2), .val (.int v4), .val (.int v5), .val (.int v7), .val (.ref b2), .val (.int (1 : Int32)), .val (.int (0 : Int32)), .val (.int (0 : Int32)), .val (.int (1 : Int32)), .val (.int (1 : Int32)), .val (.int v5), .val (.int v4), .val (.int (1 : Int32))] rfl ?_
                                        refine own_goto X28 C at_317 323 (by decide) (by decide) ?_
                                        refine own_iload X28 C at_323 325 rfl rfl ?_
                                        refine own_ifeq X28 C at_325 328 346 rfl (by decide) (by decide) (i := 1) (by decide) (fun b52 => ?_) (fun b52 => ?_)
                                        · exfalso
                                          omega
                                        · refine own_aload X28 C at_328 330 rfl rfl rfl ?_
                                          refine own_iload X28 C at_330 332 rfl rfl ?_
                                          refine own_iload X28 C at_332 334 rfl rfl ?_
                                          have hk53 : own_key wd.toInt64 v5 v4 = (own_key wd.toInt64 v5 v7) := own_keyc (by omega) (by omega)
                                          refine own_callV X28 C (own_w hw 43 rfl) (own_w hw 44 rfl) (own_w hw 46 rfl) (own_w hw 45 rfl) (own_w hw 7 rfl) (own_w hw 47 rfl) (by decide) P.1 (own_conv (w' := (.int (1))) (own_rm_find l Z a0 hw b2 v5 v4 T18.heap kA nA lO lA rO rA wd.toInt64 (own_f2 (own_key wd.toInt64 v2 v4) (own_key wd.toInt64 v5 v7)) (own_g2 (own_key wd.toInt64 v2 v4) (own_key wd.toInt64 v5 v7)) 2 P (by rw [hk53]; exact (own_ok2b _ _ n1 hk12))) (congrArg Value.int (by rw [hk53]; exact (own_find2b _ _ n1 n2 hk12)))) eh28 own_pd_II_R_I [(.int v5), (.int v4)] rfl rfl rfl rfl 0 rfl (by decide) (by decide) (by decide) (by decide) at_334 337 rfl (fun T54 L54 v54 X54 q54 => ?_)
                                          obtain ⟨rfl, eh54, rfl⟩ := q54
                                          have N54 := Fr.app N28 (Fr.nil h.size)
                                          refine own_iload X54 C at_337 339 rfl rfl ?_
                                          refine own_icmpne X54 C at_339 342 346 rfl (by decide) (by decide) (i := 1) (by decide) (j := 1) (by decide) (fun b55 => ?_) (fun b55 => ?_)
                                          · exfalso
                                            omega
                                          · refine own_iconst X54 C at_342 343 rfl (1) rfl ?_
                                            refine own_goto X54 C at_343 347 (by decide) (by decide) ?_
                                            refine own_istore X54 C at_347 349 rfl #[.val (.int ia0), .val (.int ia1), .val (.int ia2), .val (.int ia3), .val (.int ia4), .val (.int ia5), .val (.int wd), .val (.int v2), .val (.int v4), .val (.int v5), .val (.int v7), .val (.ref b2), .val (.int (1 : Int32)), .val (.int (0 : Int32)), .val (.int (0 : Int32)), .val (.int (1 : Int32)), .val (.int (1 : Int32)), .val (.int v5), .val (.int v4), .val (.int (1 : Int32))] rfl ?_
                                            refine own_iload X54 C at_349 351 rfl rfl ?_
                                            refine own_ifeq X54 C at_351 354 370 rfl (by decide) (by decide) (i := 1) (by decide) (fun b56 => ?_) (fun b56 => ?_)
                                            · exfalso
                                              omega
                                            · refine own_aload X54 C at_354 356 rfl rfl rfl ?_
                                              have P' := P
                                              obtain ⟨-, -, -, Fl, -, -, -, -, ⟨gl, I0⟩, -⟩ := P'
                                              refine own_callV X54 C (own_w hw 74 rfl) (own_w hw 58 rfl) (own_w hw 60 rfl) (own_w hw 59 rfl) (own_w hw 7 rfl) (own_w hw 61 rfl) (by decide) P.1 (own_rm_psize l Z a0 hw b2 T18.heap lO lA 2 gl Fl I0) eh54 own_pd__R_I [] rfl rfl rfl rfl 0 rfl (by decide) (by decide) (by decide) (by decide) at_356 359 rfl (fun T57 L57 v57 X57 q57 => ?_)
                                              obtain ⟨⟨_, rfl, z57, rfl, hz57⟩, eh57, rfl⟩ := q57
                                              have N57 := Fr.app N54 (Fr.nil h.size)
                                              refine own_iload X57 C at_359 361 rfl rfl ?_
                                              refine own_iconst X57 C at_361 362 rfl (1) rfl ?_
                                              refine own_iadd X57 C at_362 363 rfl (fun v12 ev12 => ?_)
                                              obtain rfl : v12 = (2 : Int32) := ev12.trans (by decide)
                                              refine own_icmpne X57 C at_363 366 370 rfl (by decide) (by decide) (i := z57.toInt) rfl (j := 2) (by decide) (fun b58 => ?_) (fun b58 => ?_)
                                              · exfalso
                                                omega
                                              · refine own_iconst X57 C at_366 367 rfl (1) rfl ?_
                                                refine own_goto X57 C at_367 371 (by decide) (by decide) ?_
                                                refine own_istore X57 C at_371 373 rfl #[.val (.int ia0), .val (.int ia1), .val (.int ia2), .val (.int ia3), .val (.int ia4), .val (.int ia5), .val (.int wd), .val (.int v2), .val (.int v4), .val (.int v5), .val (.int v7), .val (.ref b2), .val (.int (1 : Int32)), .val (.int (0 : Int32)), .val (.int (0 : Int32)), .val (.int (1 : Int32)), .val (.int (1 : Int32)), .val (.int v5), .val (.int v4), .val (.int (1 : Int32))] rfl ?_
                                                refine own_iload X57 C at_373 375 rfl rfl ?_
                                                refine own_iretN X57 C .boolean rfl (by simp) at_375 (by decide) (by decide) (1) (by decide) ?_
                                                exact ⟨rfl, N57⟩
                                  · exfalso
                                    omega
                              · refine own_iload X28 C at_254 256 rfl rfl ?_
                                refine own_goto X28 C at_256 261 (by decide) (by decide) ?_
                                refine own_istore X28 C at_261 263 rfl #[.val (.int ia0), .val (.int ia1), .val (.int ia2), .val (.int ia3), .val (.int ia4), .val (.int ia5), .val (.int wd), .val (.int v2), .val (.int v4), .val (.int v5), .val (.int v7), .val (.ref b2), .val (.int (1 : Int32)), .val (.int (0 : Int32)), .val (.int (0 : Int32)), .val (.int (1 : Int32)), .val (.int (1 : Int32)), .val (.int v2), .unset, .unset] rfl ?_
                                refine own_iload X28 C at_263 265 rfl rfl ?_
                                refine own_iconst X28 C at_265 266 rfl (2) rfl ?_
                                refine own_iand X28 C at_266 267 rfl (fun v13 ev13 => ?_)
                                refine own_ifeq X28 C at_267 270 275 rfl (by decide) (by decide) (i := v13.toInt) rfl (fun b59 => ?_) (fun b59 => ?_)
                                · refine own_iload X28 C at_275 277 rfl rfl ?_
                                  refine own_istore X28 C at_277 279 rfl #[.val (.int ia0), .val (.int ia1), .val (.int ia2), .val (.int ia3), .val (.int ia4), .val (.int ia5), .val (.int wd), .val (.int v2), .val (.int v4), .val (.int v5), .val (.int v7), .val (.ref b2), .val (.int (1 : Int32)), .val (.int (0 : Int32)), .val (.int (0 : Int32)), .val (.int (1 : Int32)), .val (.int (1 : Int32)), .val (.int v2), .val (.int v7), .unset] rfl ?_
                                  refine own_iload X28 C at_279 281 rfl rfl ?_
                                  refine own_iload X28 C at_281 283 rfl rfl ?_
                                  refine own_icmpne X28 C at_283 286 299 rfl (by decide) (by decide) (i := v2.toInt) rfl (j := v2.toInt) rfl (fun b60 => ?_) (fun b60 => ?_)
                                  · exfalso
                                    omega
                                  · refine own_iload X28 C at_286 288 rfl rfl ?_
                                    refine own_iload X28 C at_288 290 rfl rfl ?_
                                    refine own_icmpne X28 C at_290 293 299 rfl (by decide) (by decide) (i := v7.toInt) rfl (j := v4.toInt) rfl (fun b61 => ?_) (fun b61 => ?_)
                                    · refine own_iload X28 C at_299 301 rfl rfl ?_
                                      refine own_iload X28 C at_301 303 rfl rfl ?_
                                      refine own_icmpne X28 C at_303 306 320 rfl (by decide) (by decide) (i := v2.toInt) rfl (j := v5.toInt) rfl (fun b62 => ?_) (fun b62 => ?_)
                                      · refine own_iconst X28 C at_320 321 rfl (-1) rfl ?_
                                        refine own_istore X28 C at_321 323 rfl #[.val (.int ia0), .val (.int ia1), .val (.int ia2), .val (.int ia3), .val (.int ia4), .val (.int ia5), .val (.int wd), .val (.int v2), .val (.int v4), .val (.int v5), .val (.int v7), .val (.ref b2), .val (.int (1 : Int32)), .val (.int (0 : Int32)), .val (.int (0 : Int32)), .val (.int (1 : Int32)), .val (.int (1 : Int32)), .val (.int v2), .val (.int v7), .val (.int (-1 : Int32))] rfl ?_
                                        refine own_iload X28 C at_323 325 rfl rfl ?_
                                        refine own_ifeq X28 C at_325 328 346 rfl (by decide) (by decide) (i := 1) (by decide) (fun b63 => ?_) (fun b63 => ?_)
                                        · exfalso
                                          omega
                                        · refine own_aload X28 C at_328 330 rfl rfl rfl ?_
                                          refine own_iload X28 C at_330 332 rfl rfl ?_
                                          refine own_iload X28 C at_332 334 rfl rfl ?_
                                          have hq1_64 : (own_key wd.toInt64 v2 v4) ≠ own_key wd.toInt64 v2 v7 := fun q => by
                                            have z := own_key_inj wd.toInt64 v2 v4 v2 v7 (by omega) (by omega) (by omega) (by omega) (by omega) (by omega) (by omega) (by omega) q
                                            omega
                                          have hq2_64 : (own_key wd.toInt64 v5 v7) ≠ own_key wd.toInt64 v2 v7 := fun q => by
                                            have z := own_key_inj wd.toInt64 v5 v7 v2 v7 (by omega) (by omega) (by omega) (by omega) (by omega) (by omega) (by omega) (by omega) q
                                            omega
                                          refine own_callV X28 C (own_w hw 43 rfl) (own_w hw 44 rfl) (own_w hw 46 rfl) (own_w hw 45 rfl) (own_w hw 7 rfl) (own_w hw 47 rfl) (by decide) P.1 (own_conv (w' := (.int (-1))) (own_rm_find l Z a0 hw b2 v2 v7 T18.heap kA nA lO lA rO rA wd.toInt64 (own_f2 (own_key wd.toInt64 v2 v4) (own_key wd.toInt64 v5 v7)) (own_g2 (own_key wd.toInt64 v2 v4) (own_key wd.toInt64 v5 v7)) 2 P (own_ok2c _ _ _ n1 n2 hk12 hq1_64 hq2_64)) (congrArg Value.int (own_find2c _ _ _ _ n1 n2 hk12 hq1_64 hq2_64))) eh28 own_pd_II_R_I [(.int v2), (.int v7)] rfl rfl rfl rfl 0 rfl (by decide) (by decide) (by decide) (by decide) at_334 337 rfl (fun T65 L65 v65 X65 q65 => ?_)
                                          obtain ⟨rfl, eh65, rfl⟩ := q65
                                          have N65 := Fr.app N28 (Fr.nil h.size)
                                          refine own_iload X65 C at_337 339 rfl rfl ?_
                                          refine own_icmpne X65 C at_339 342 346 rfl (by decide) (by decide) (i := (-1)) (by decide) (j := (-1)) (by decide) (fun b66 => ?_) (fun b66 => ?_)
                                          · exfalso
                                            omega
                                          · refine own_iconst X65 C at_342 343 rfl (1) rfl ?_
                                            refine own_goto X65 C at_343 347 (by decide) (by decide) ?_
                                            refine own_istore X65 C at_347 349 rfl #[.val (.int ia0), .val (.int ia1), .val (.int ia2), .val (.int ia3), .val (.int ia4), .val (.int ia5), .val (.int wd), .val (.int v2), .val (.int v4), .val (.int v5), .val (.int v7), .val (.ref b2), .val (.int (1 : Int32)), .val (.int (0 : Int32)), .val (.int (0 : Int32)), .val (.int (1 : Int32)), .val (.int (1 : Int32)), .val (.int v2), .val (.int v7), .val (.int (-1 : Int32))] rfl ?_
                                            refine own_iload X65 C at_349 351 rfl rfl ?_
                                            refine own_ifeq X65 C at_351 354 370 rfl (by decide) (by decide) (i := 1) (by decide) (fun b67 => ?_) (fun b67 => ?_)
                                            · exfalso
                                              omega
                                            · refine own_aload X65 C at_354 356 rfl rfl rfl ?_
                                              have P' := P
                                              obtain ⟨-, -, -, Fl, -, -, -, -, ⟨gl, I0⟩, -⟩ := P'
                                              refine own_callV X65 C (own_w hw 74 rfl) (own_w hw 58 rfl) (own_w hw 60 rfl) (own_w hw 59 rfl) (own_w hw 7 rfl) (own_w hw 61 rfl) (by decide) P.1 (own_rm_psize l Z a0 hw b2 T18.heap lO lA 2 gl Fl I0) eh65 own_pd__R_I [] rfl rfl rfl rfl 0 rfl (by decide) (by decide) (by decide) (by decide) at_356 359 rfl (fun T68 L68 v68 X68 q68 => ?_)
                                              obtain ⟨⟨_, rfl, z68, rfl, hz68⟩, eh68, rfl⟩ := q68
                                              have N68 := Fr.app N65 (Fr.nil h.size)
                                              refine own_iload X68 C at_359 361 rfl rfl ?_
                                              refine own_iconst X68 C at_361 362 rfl (1) rfl ?_
                                              refine own_iadd X68 C at_362 363 rfl (fun v14 ev14 => ?_)
                                              obtain rfl : v14 = (2 : Int32) := ev14.trans (by decide)
                                              refine own_icmpne X68 C at_363 366 370 rfl (by decide) (by decide) (i := z68.toInt) rfl (j := 2) (by decide) (fun b69 => ?_) (fun b69 => ?_)
                                              · exfalso
                                                omega
                                              · refine own_iconst X68 C at_366 367 rfl (1) rfl ?_
                                                refine own_goto X68 C at_367 371 (by decide) (by decide) ?_
                                                refine own_istore X68 C at_371 373 rfl #[.val (.int ia0), .val (.int ia1), .val (.int ia2), .val (.int ia3), .val (.int ia4), .val (.int ia5), .val (.int wd), .val (.int v2), .val (.int v4), .val (.int v5), .val (.int v7), .val (.ref b2), .val (.int (1 : Int32)), .val (.int (0 : Int32)), .val (.int (0 : Int32)), .val (.int (1 : Int32)), .val (.int (1 : Int32)), .val (.int v2), .val (.int v7), .val (.int (-1 : Int32))] rfl ?_
                                                refine own_iload X68 C at_373 375 rfl rfl ?_
                                                refine own_iretN X68 C .boolean rfl (by simp) at_375 (by decide) (by decide) (1) (by decide) ?_
                                                exact ⟨rfl, N68⟩
                                      · exfalso
                                        omega
                                    · refine own_iconst X28 C at_293 294 rfl (0) rfl ?_
                                      refine own_istore X28 C at_294 296 rfl #[.val (.int ia0), .val (.int ia1), .val (.int ia2), .val (.int ia3), .val (.int ia4), .val (.int ia5), .val (.int wd), .val (.int v2), .val (.int v4), .val (.int v5), .val (.int v7), .val (.ref b2), .val (.int (1 : Int32)), .val (.int (0 : Int32)), .val (.int (0 : Int32)), .val (.int (1 : Int32)), .val (.int (1 : Int32)), .val (.int v2), .val (.int v7), .val (.int (0 : Int32))] rfl ?_
                                      refine own_goto X28 C at_296 323 (by decide) (by decide) ?_
                                      refine own_iload X28 C at_323 325 rfl rfl ?_
                                      refine own_ifeq X28 C at_325 328 346 rfl (by decide) (by decide) (i := 1) (by decide) (fun b70 => ?_) (fun b70 => ?_)
                                      · exfalso
                                        omega
                                      · refine own_aload X28 C at_328 330 rfl rfl rfl ?_
                                        refine own_iload X28 C at_330 332 rfl rfl ?_
                                        refine own_iload X28 C at_332 334 rfl rfl ?_
                                        have hk71 : own_key wd.toInt64 v2 v7 = (own_key wd.toInt64 v2 v4) := own_keyc (by omega) (by omega)
                                        refine own_callV X28 C (own_w hw 43 rfl) (own_w hw 44 rfl) (own_w hw 46 rfl) (own_w hw 45 rfl) (own_w hw 7 rfl) (own_w hw 47 rfl) (by decide) P.1 (own_conv (w' := (.int (0))) (own_rm_find l Z a0 hw b2 v2 v7 T18.heap kA nA lO lA rO rA wd.toInt64 (own_f2 (own_key wd.toInt64 v2 v4) (own_key wd.toInt64 v5 v7)) (own_g2 (own_key wd.toInt64 v2 v4) (own_key wd.toInt64 v5 v7)) 2 P (by rw [hk71]; exact (own_ok2a _ _ n1 hk12))) (congrArg Value.int (by rw [hk71]; exact (own_find2a _ _ n1 hk12)))) eh28 own_pd_II_R_I [(.int v2), (.int v7)] rfl rfl rfl rfl 0 rfl (by decide) (by decide) (by decide) (by decide) at_334 337 rfl (fun T72 L72 v72 X72 q72 => ?_)
                                        obtain ⟨rfl, eh72, rfl⟩ := q72
                                        have N72 := Fr.app N28 (Fr.nil h.size)
                                        refine own_iload X72 C at_337 339 rfl rfl ?_
                                        refine own_icmpne X72 C at_339 342 346 rfl (by decide) (by decide) (i := 0) (by decide) (j := 0) (by decide) (fun b73 => ?_) (fun b73 => ?_)
                                        · exfalso
                                          omega
                                        · refine own_iconst X72 C at_342 343 rfl (1) rfl ?_
                                          refine own_goto X72 C at_343 347 (by decide) (by decide) ?_
                                          refine own_istore X72 C at_347 349 rfl #[.val (.int ia0), .val (.int ia1), .val (.int ia2), .val (.int ia3), .val (.int ia4), .val (.int ia5), .val (.int wd), .val (.int v2), .val (.int v4), .val (.int v5), .val (.int v7), .val (.ref b2), .val (.int (1 : Int32)), .val (.int (0 : Int32)), .val (.int (0 : Int32)), .val (.int (1 : Int32)), .val (.int (1 : Int32)), .val (.int v2), .val (.int v7), .val (.int (0 : Int32))] rfl ?_
                                          refine own_iload X72 C at_349 351 rfl rfl ?_
                                          refine own_ifeq X72 C at_351 354 370 rfl (by decide) (by decide) (i := 1) (by decide) (fun b74 => ?_) (fun b74 => ?_)
                                          · exfalso
                                            omega
                                          · refine own_aload X72 C at_354 356 rfl rfl rfl ?_
                                            have P' := P
                                            obtain ⟨-, -, -, Fl, -, -, -, -, ⟨gl, I0⟩, -⟩ := P'
                                            refine own_callV X72 C (own_w hw 74 rfl) (own_w hw 58 rfl) (own_w hw 60 rfl) (own_w hw 59 rfl) (own_w hw 7 rfl) (own_w hw 61 rfl) (by decide) P.1 (own_rm_psize l Z a0 hw b2 T18.heap lO lA 2 gl Fl I0) eh72 own_pd__R_I [] rfl rfl rfl rfl 0 rfl (by decide) (by decide) (by decide) (by decide) at_356 359 rfl (fun T75 L75 v75 X75 q75 => ?_)
                                            obtain ⟨⟨_, rfl, z75, rfl, hz75⟩, eh75, rfl⟩ := q75
                                            have N75 := Fr.app N72 (Fr.nil h.size)
                                            refine own_iload X75 C at_359 361 rfl rfl ?_
                                            refine own_iconst X75 C at_361 362 rfl (1) rfl ?_
                                            refine own_iadd X75 C at_362 363 rfl (fun v15 ev15 => ?_)
                                            obtain rfl : v15 = (2 : Int32) := ev15.trans (by decide)
                                            refine own_icmpne X75 C at_363 366 370 rfl (by decide) (by decide) (i := z75.toInt) rfl (j := 2) (by decide) (fun b76 => ?_) (fun b76 => ?_)
                                            · exfalso
                                              omega
                                            · refine own_iconst X75 C at_366 367 rfl (1) rfl ?_
                                              refine own_goto X75 C at_367 371 (by decide) (by decide) ?_
                                              refine own_istore X75 C at_371 373 rfl #[.val (.int ia0), .val (.int ia1), .val (.int ia2), .val (.int ia3), .val (.int ia4), .val (.int ia5), .val (.int wd), .val (.int v2), .val (.int v4), .val (.int v5), .val (.int v7), .val (.ref b2), .val (.int (1 : Int32)), .val (.int (0 : Int32)), .val (.int (0 : Int32)), .val (.int (1 : Int32)), .val (.int (1 : Int32)), .val (.int v2), .val (.int v7), .val (.int (0 : Int32))] rfl ?_
                                              refine own_iload X75 C at_373 375 rfl rfl ?_
                                              refine own_iretN X75 C .boolean rfl (by simp) at_375 (by decide) (by decide) (1) (by decide) ?_
                                              exact ⟨rfl, N75⟩
                                · refine own_iload X28 C at_270 272 rfl rfl ?_
                                  refine own_goto X28 C at_272 277 (by decide) (by decide) ?_
                                  refine own_istore X28 C at_277 279 rfl #[.val (.int ia0), .val (.int ia1), .val (.int ia2), .val (.int ia3), .val (.int ia4), .val (.int ia5), .val (.int wd), .val (.int v2), .val (.int v4), .val (.int v5), .val (.int v7), .val (.ref b2), .val (.int (1 : Int32)), .val (.int (0 : Int32)), .val (.int (0 : Int32)), .val (.int (1 : Int32)), .val (.int (1 : Int32)), .val (.int v2), .val (.int v4), .unset] rfl ?_
                                  refine own_iload X28 C at_279 281 rfl rfl ?_
                                  refine own_iload X28 C at_281 283 rfl rfl ?_
                                  refine own_icmpne X28 C at_283 286 299 rfl (by decide) (by decide) (i := v2.toInt) rfl (j := v2.toInt) rfl (fun b77 => ?_) (fun b77 => ?_)
                                  · exfalso
                                    omega
                                  · refine own_iload X28 C at_286 288 rfl rfl ?_
                                    refine own_iload X28 C at_288 290 rfl rfl ?_
                                    refine own_icmpne X28 C at_290 293 299 rfl (by decide) (by decide) (i := v4.toInt) rfl (j := v4.toInt) rfl (fun b78 => ?_) (fun b78 => ?_)
                                    · exfalso
                                      omega
                                    · refine own_iconst X28 C at_293 294 rfl (0) rfl ?_
                                      refine own_istore X28 C at_294 296 rfl #[.val (.int ia0), .val (.int ia1), .val (.int ia2), .val (.int ia3), .val (.int ia4), .val (.int ia5), .val (.int wd), .val (.int v2), .val (.int v4), .val (.int v5), .val (.int v7), .val (.ref b2), .val (.int (1 : Int32)), .val (.int (0 : Int32)), .val (.int (0 : Int32)), .val (.int (1 : Int32)), .val (.int (1 : Int32)), .val (.int v2), .val (.int v4), .val (.int (0 : Int32))] rfl ?_
                                      refine own_goto X28 C at_296 323 (by decide) (by decide) ?_
                                      refine own_iload X28 C at_323 325 rfl rfl ?_
                                      refine own_ifeq X28 C at_325 328 346 rfl (by decide) (by decide) (i := 1) (by decide) (fun b79 => ?_) (fun b79 => ?_)
                                      · exfalso
                                        omega
                                      · refine own_aload X28 C at_328 330 rfl rfl rfl ?_
                                        refine own_iload X28 C at_330 332 rfl rfl ?_
                                        refine own_iload X28 C at_332 334 rfl rfl ?_
                                        have hk80 : own_key wd.toInt64 v2 v4 = (own_key wd.toInt64 v2 v4) := own_keyc (by omega) (by omega)
                                        refine own_callV X28 C (own_w hw 43 rfl) (own_w hw 44 rfl) (own_w hw 46 rfl) (own_w hw 45 rfl) (own_w hw 7 rfl) (own_w hw 47 rfl) (by decide) P.1 (own_conv (w' := (.int (0))) (own_rm_find l Z a0 hw b2 v2 v4 T18.heap kA nA lO lA rO rA wd.toInt64 (own_f2 (own_key wd.toInt64 v2 v4) (own_key wd.toInt64 v5 v7)) (own_g2 (own_key wd.toInt64 v2 v4) (own_key wd.toInt64 v5 v7)) 2 P (by rw [hk80]; exact (own_ok2a _ _ n1 hk12))) (congrArg Value.int (by rw [hk80]; exact (own_find2a _ _ n1 hk12)))) eh28 own_pd_II_R_I [(.int v2), (.int v4)] rfl rfl rfl rfl 0 rfl (by decide) (by decide) (by decide) (by decide) at_334 337 rfl (fun T81 L81 v81 X81 q81 => ?_)
                                        obtain ⟨rfl, eh81, rfl⟩ := q81
                                        have N81 := Fr.app N28 (Fr.nil h.size)
                                        refine own_iload X81 C at_337 339 rfl rfl ?_
                                        refine own_icmpne X81 C at_339 342 346 rfl (by decide) (by decide) (i := 0) (by decide) (j := 0) (by decide) (fun b82 => ?_) (fun b82 => ?_)
                                        · exfalso
                                          omega
                                        · refine own_iconst X81 C at_342 343 rfl (1) rfl ?_
                                          refine own_goto X81 C at_343 347 (by decide) (by decide) ?_
                                          refine own_istore X81 C at_347 349 rfl #[.val (.int ia0), .val (.int ia1), .val (.int ia2), .val (.int ia3), .val (.int ia4), .val (.int ia5), .val (.int wd), .val (.int v2), .val (.int v4), .val (.int v5), .val (.int v7), .val (.ref b2), .val (.int (1 : Int32)), .val (.int (0 : Int32)), .val (.int (0 : Int32)), .val (.int (1 : Int32)), .val (.int (1 : Int32)), .val (.int v2), .val (.int v4), .val (.int (0 : Int32))] rfl ?_
                                          refine own_iload X81 C at_349 351 rfl rfl ?_
                                          refine own_ifeq X81 C at_351 354 370 rfl (by decide) (by decide) (i := 1) (by decide) (fun b83 => ?_) (fun b83 => ?_)
                                          · exfalso
                                            omega
                                          · refine own_aload X81 C at_354 356 rfl rfl rfl ?_
                                            have P' := P
                                            obtain ⟨-, -, -, Fl, -, -, -, -, ⟨gl, I0⟩, -⟩ := P'
                                            refine own_callV X81 C (own_w hw 74 rfl) (own_w hw 58 rfl) (own_w hw 60 rfl) (own_w hw 59 rfl) (own_w hw 7 rfl) (own_w hw 61 rfl) (by decide) P.1 (own_rm_psize l Z a0 hw b2 T18.heap lO lA 2 gl Fl I0) eh81 own_pd__R_I [] rfl rfl rfl rfl 0 rfl (by decide) (by decide) (by decide) (by decide) at_356 359 rfl (fun T84 L84 v84 X84 q84 => ?_)
                                            obtain ⟨⟨_, rfl, z84, rfl, hz84⟩, eh84, rfl⟩ := q84
                                            have N84 := Fr.app N81 (Fr.nil h.size)
                                            refine own_iload X84 C at_359 361 rfl rfl ?_
                                            refine own_iconst X84 C at_361 362 rfl (1) rfl ?_
                                            refine own_iadd X84 C at_362 363 rfl (fun v16 ev16 => ?_)
                                            obtain rfl : v16 = (2 : Int32) := ev16.trans (by decide)
                                            refine own_icmpne X84 C at_363 366 370 rfl (by decide) (by decide) (i := z84.toInt) rfl (j := 2) (by decide) (fun b85 => ?_) (fun b85 => ?_)
                                            · exfalso
                                              omega
                                            · refine own_iconst X84 C at_366 367 rfl (1) rfl ?_
                                              refine own_goto X84 C at_367 371 (by decide) (by decide) ?_
                                              refine own_istore X84 C at_371 373 rfl #[.val (.int ia0), .val (.int ia1), .val (.int ia2), .val (.int ia3), .val (.int ia4), .val (.int ia5), .val (.int wd), .val (.int v2), .val (.int v4), .val (.int v5), .val (.int v7), .val (.ref b2), .val (.int (1 : Int32)), .val (.int (0 : Int32)), .val (.int (0 : Int32)), .val (.int (1 : Int32)), .val (.int (1 : Int32)), .val (.int v2), .val (.int v4), .val (.int (0 : Int32))] rfl ?_
                                              refine own_iload X84 C at_373 375 rfl rfl ?_
                                              refine own_iretN X84 C .boolean rfl (by simp) at_375 (by decide) (by decide) (1) (by decide) ?_
                                              exact ⟨rfl, N84⟩
                · exfalso
                  omega
            · exfalso
              omega
        · refine own_iload X8 C at_107 109 rfl rfl ?_
          refine own_iload X8 C at_109 111 rfl rfl ?_
          refine own_icmpne X8 C at_111 114 118 rfl (by decide) (by decide) (i := v4.toInt) rfl (j := v7.toInt) rfl (fun b86 => ?_) (fun b86 => ?_)
          · refine own_iconst X8 C at_118 119 rfl (0) rfl ?_
            refine own_istore X8 C at_119 121 rfl #[.val (.int ia0), .val (.int ia1), .val (.int ia2), .val (.int ia3), .val (.int ia4), .val (.int ia5), .val (.int wd), .val (.int v2), .val (.int v4), .val (.int v5), .val (.int v7), .val (.ref b2), .val (.int (1 : Int32)), .val (.int (0 : Int32)), .val (.int (0 : Int32)), .unset, .unset, .unset, .unset, .unset] rfl ?_
            refine own_iload X8 C at_121 123 rfl rfl ?_
            refine own_ifeq X8 C at_123 126 152 rfl (by decide) (by decide) (i := 1) (by decide) (fun b87 => ?_) (fun b87 => ?_)
            · exfalso
              omega
            · refine own_aload X8 C at_126 128 rfl rfl rfl ?_
              refine own_iload X8 C at_128 130 rfl rfl ?_
              refine own_iload X8 C at_130 132 rfl rfl ?_
              have hq1_88 : (own_key wd.toInt64 v2 v4) ≠ own_key wd.toInt64 v5 v7 := fun q => by
                have z := own_key_inj wd.toInt64 v2 v4 v5 v7 (by omega) (by omega) (by omega) (by omega) (by omega) (by omega) (by omega) (by omega) q
                omega
              refine own_callV X8 C (own_w hw 43 rfl) (own_w hw 44 rfl) (own_w hw 46 rfl) (own_w hw 45 rfl) (own_w hw 7 rfl) (own_w hw 47 rfl) (by decide) P.1 (own_conv (w' := (.int (-1))) (own_rm_find l Z a0 hw b2 v5 v7 T8.heap kA nA lO lA rO rA wd.toInt64 (own_f1 (own_key wd.toInt64 v2 v4)) (own_g1 (own_key wd.toInt64 v2 v4)) 1 P (own_ok1b _ _ n1 hq1_88)) (congrArg Value.int (own_find1b _ _ _ n1 hq1_88))) rfl own_pd_II_R_I [(.int v5), (.int v7)] rfl rfl rfl rfl 0 rfl (by decide) (by decide) (by decide) (by decide) at_132 135 rfl (fun T89 L89 v89 X89 q89 => ?_)
              obtain ⟨rfl, eh89, rfl⟩ := q89
              have N89 := Fr.app N8 (Fr.nil h.size)
              refine own_iload X89 C at_135 137 rfl rfl ?_
              refine own_ifeq X89 C at_137 140 144 rfl (by decide) (by decide) (i := 0) (by decide) (fun b90 => ?_) (fun b90 => ?_)
              · refine own_iconst X89 C at_144 145 rfl (-1) rfl ?_
                refine own_icmpne X89 C at_145 148 152 rfl (by decide) (by decide) (i := (-1)) (by decide) (j := (-1)) (by decide) (fun b91 => ?_) (fun b91 => ?_)
                · exfalso
                  omega
                · refine own_iconst X89 C at_148 149 rfl (1) rfl ?_
                  refine own_goto X89 C at_149 153 (by decide) (by decide) ?_
                  refine own_istore X89 C at_153 155 rfl #[.val (.int ia0), .val (.int ia1), .val (.int ia2), .val (.int ia3), .val (.int ia4), .val (.int ia5), .val (.int wd), .val (.int v2), .val (.int v4), .val (.int v5), .val (.int v7), .val (.ref b2), .val (.int (1 : Int32)), .val (.int (0 : Int32)), .val (.int (0 : Int32)), .unset, .unset, .unset, .unset, .unset] rfl ?_
                  refine own_aload X89 C at_155 157 rfl rfl rfl ?_
                  refine own_iload X89 C at_157 159 rfl rfl ?_
                  refine own_iload X89 C at_159 161 rfl rfl ?_
                  have hq1_92 : (own_key wd.toInt64 v2 v4) ≠ own_key wd.toInt64 v5 v7 := fun q => by
                    have z := own_key_inj wd.toInt64 v2 v4 v5 v7 (by omega) (by omega) (by omega) (by omega) (by omega) (by omega) (by omega) (by omega) q
                    omega
                  have hk12 := hq1_92
                  refine own_callV X89 C (own_w hw 52 rfl) (own_w hw 53 rfl) (own_w hw 55 rfl) (own_w hw 54 rfl) (own_w hw 7 rfl) (own_w hw 56 rfl) (by decide) P.1 (own_rm_numNew l Z a0 hw b2 v5 v7 T8.heap kA nA lO lA rO rA wd.toInt64 (own_f1 (own_key wd.toInt64 v2 v4)) (own_g1 (own_key wd.toInt64 v2 v4)) 1 P h.size g0 (own_ok1b _ _ n1 hk12) (own_s1e _ _ n1 hk12) (by decide)) eh89 own_pd_II_R_I [(.int v5), (.int v7)] rfl rfl rfl rfl 0 rfl (by decide) (by decide) (by decide) (by decide) at_161 164 rfl (fun T93 L93 v93 X93 q93 => ?_)
                  obtain ⟨⟨z93, rfl, hz93⟩, NL93, P⟩ := q93
                  have N93 := Fr.app N89 NL93
                  obtain rfl : z93 = (1 : Int32) := hz93
                  replace P : OwnP Z T93.heap b2 kA nA lO lA rO rA wd.toInt64 (own_f2 (own_key wd.toInt64 v2 v4) (own_key wd.toInt64 v5 v7)) (own_g2 (own_key wd.toInt64 v2 v4) (own_key wd.toInt64 v5 v7)) 2 := P
                  refine own_istore X93 C at_164 166 rfl #[.val (.int ia0), .val (.int ia1), .val (.int ia2), .val (.int ia3), .val (.int ia4), .val (.int ia5), .val (.int wd), .val (.int v2), .val (.int v4), .val (.int v5), .val (.int v7), .val (.ref b2), .val (.int (1 : Int32)), .val (.int (0 : Int32)), .val (.int (0 : Int32)), .val (.int (1 : Int32)), .unset, .unset, .unset, .unset] rfl ?_
                  refine own_iload X93 C at_166 168 rfl rfl ?_
                  refine own_ifeq X93 C at_168 171 175 rfl (by decide) (by decide) (i := 0) (by decide) (fun b94 => ?_) (fun b94 => ?_)
                  · refine own_iconst X93 C at_175 176 rfl (1) rfl ?_
                    refine own_istore X93 C at_176 178 rfl #[.val (.int ia0), .val (.int ia1), .val (.int ia2), .val (.int ia3), .val (.int ia4), .val (.int ia5), .val (.int wd), .val (.int v2), .val (.int v4), .val (.int v5), .val (.int v7), .val (.ref b2), .val (.int (1 : Int32)), .val (.int (0 : Int32)), .val (.int (0 : Int32)), .val (.int (1 : Int32)), .val (.int (1 : Int32)), .unset, .unset, .unset] rfl ?_
                    refine own_iload X93 C at_178 180 rfl rfl ?_
                    refine own_ifeq X93 C at_180 183 194 rfl (by decide) (by decide) (i := 1) (by decide) (fun b95 => ?_) (fun b95 => ?_)
                    · exfalso
                      omega
                    · refine own_iload X93 C at_183 185 rfl rfl ?_
                      refine own_iload X93 C at_185 187 rfl rfl ?_
                      refine own_icmpne X93 C at_187 190 194 rfl (by decide) (by decide) (i := 1) (by decide) (j := 1) (by decide) (fun b96 => ?_) (fun b96 => ?_)
                      · exfalso
                        omega
                      · refine own_iconst X93 C at_190 191 rfl (1) rfl ?_
                        refine own_goto X93 C at_191 195 (by decide) (by decide) ?_
                        refine own_istore X93 C at_195 197 rfl #[.val (.int ia0), .val (.int ia1), .val (.int ia2), .val (.int ia3), .val (.int ia4), .val (.int ia5), .val (.int wd), .val (.int v2), .val (.int v4), .val (.int v5), .val (.int v7), .val (.ref b2), .val (.int (1 : Int32)), .val (.int (0 : Int32)), .val (.int (0 : Int32)), .val (.int (1 : Int32)), .val (.int (1 : Int32)), .unset, .unset, .unset] rfl ?_
                        refine own_iload X93 C at_197 199 rfl rfl ?_
                        refine own_ifeq X93 C at_199 202 218 rfl (by decide) (by decide) (i := 1) (by decide) (fun b97 => ?_) (fun b97 => ?_)
                        · exfalso
                          omega
                        · refine own_aload X93 C at_202 204 rfl rfl rfl ?_
                          refine own_iload X93 C at_204 206 rfl rfl ?_
                          refine own_iload X93 C at_206 208 rfl rfl ?_
                          have hk98 : own_key wd.toInt64 v2 v4 = (own_key wd.toInt64 v2 v4) := own_keyc (by omega) (by omega)
                          refine own_callV X93 C (own_w hw 43 rfl) (own_w hw 44 rfl) (own_w hw 46 rfl) (own_w hw 45 rfl) (own_w hw 7 rfl) (own_w hw 47 rfl) (by decide) P.1 (own_conv (w' := (.int (0))) (own_rm_find l Z a0 hw b2 v2 v4 T93.heap kA nA lO lA rO rA wd.toInt64 (own_f2 (own_key wd.toInt64 v2 v4) (own_key wd.toInt64 v5 v7)) (own_g2 (own_key wd.toInt64 v2 v4) (own_key wd.toInt64 v5 v7)) 2 P (by rw [hk98]; exact (own_ok2a _ _ n1 hk12))) (congrArg Value.int (by rw [hk98]; exact (own_find2a _ _ n1 hk12)))) rfl own_pd_II_R_I [(.int v2), (.int v4)] rfl rfl rfl rfl 0 rfl (by decide) (by decide) (by decide) (by decide) at_208 211 rfl (fun T99 L99 v99 X99 q99 => ?_)
                          obtain ⟨rfl, eh99, rfl⟩ := q99
                          have N99 := Fr.app N93 (Fr.nil h.size)
                          refine own_ifne X99 C at_211 214 218 rfl (by decide) (by decide) (i := 0) (by decide) (fun b100 => ?_) (fun b100 => ?_)
                          · exfalso
                            omega
                          · refine own_iconst X99 C at_214 215 rfl (1) rfl ?_
                            refine own_goto X99 C at_215 219 (by decide) (by decide) ?_
                            refine own_istore X99 C at_219 221 rfl #[.val (.int ia0), .val (.int ia1), .val (.int ia2), .val (.int ia3), .val (.int ia4), .val (.int ia5), .val (.int wd), .val (.int v2), .val (.int v4), .val (.int v5), .val (.int v7), .val (.ref b2), .val (.int (1 : Int32)), .val (.int (0 : Int32)), .val (.int (0 : Int32)), .val (.int (1 : Int32)), .val (.int (1 : Int32)), .unset, .unset, .unset] rfl ?_
                            refine own_iload X99 C at_221 223 rfl rfl ?_
                            refine own_ifeq X99 C at_223 226 244 rfl (by decide) (by decide) (i := 1) (by decide) (fun b101 => ?_) (fun b101 => ?_)
                            · exfalso
                              omega
                            · refine own_aload X99 C at_226 228 rfl rfl rfl ?_
                              refine own_iload X99 C at_228 230 rfl rfl ?_
                              refine own_iload X99 C at_230 232 rfl rfl ?_
                              have hk102 : own_key wd.toInt64 v5 v7 = (own_key wd.toInt64 v5 v7) := own_keyc (by omega) (by omega)
                              refine own_callV X99 C (own_w hw 43 rfl) (own_w hw 44 rfl) (own_w hw 46 rfl) (own_w hw 45 rfl) (own_w hw 7 rfl) (own_w hw 47 rfl) (by decide) P.1 (own_conv (w' := (.int (1))) (own_rm_find l Z a0 hw b2 v5 v7 T93.heap kA nA lO lA rO rA wd.toInt64 (own_f2 (own_key wd.toInt64 v2 v4) (own_key wd.toInt64 v5 v7)) (own_g2 (own_key wd.toInt64 v2 v4) (own_key wd.toInt64 v5 v7)) 2 P (by rw [hk102]; exact (own_ok2b _ _ n1 hk12))) (congrArg Value.int (by rw [hk102]; exact (own_find2b _ _ n1 n2 hk12)))) eh99 own_pd_II_R_I [(.int v5), (.int v7)] rfl rfl rfl rfl 0 rfl (by decide) (by decide) (by decide) (by decide) at_232 235 rfl (fun T103 L103 v103 X103 q103 => ?_)
                              obtain ⟨rfl, eh103, rfl⟩ := q103
                              have N103 := Fr.app N99 (Fr.nil h.size)
                              refine own_iload X103 C at_235 237 rfl rfl ?_
                              refine own_icmpne X103 C at_237 240 244 rfl (by decide) (by decide) (i := 1) (by decide) (j := 1) (by decide) (fun b104 => ?_) (fun b104 => ?_)
                              · exfalso
                                omega
                              · refine own_iconst X103 C at_240 241 rfl (1) rfl ?_
                                refine own_goto X103 C at_241 245 (by decide) (by decide) ?_
                                refine own_istore X103 C at_245 247 rfl #[.val (.int ia0), .val (.int ia1), .val (.int ia2), .val (.int ia3), .val (.int ia4), .val (.int ia5), .val (.int wd), .val (.int v2), .val (.int v4), .val (.int v5), .val (.int v7), .val (.ref b2), .val (.int (1 : Int32)), .val (.int (0 : Int32)), .val (.int (0 : Int32)), .val (.int (1 : Int32)), .val (.int (1 : Int32)), .unset, .unset, .unset] rfl ?_
                                refine own_iload X103 C at_247 249 rfl rfl ?_
                                refine own_iconst X103 C at_249 250 rfl (1) rfl ?_
                                refine own_iand X103 C at_250 251 rfl (fun v17 ev17 => ?_)
                                refine own_ifeq X103 C at_251 254 259 rfl (by decide) (by decide) (i := v17.toInt) rfl (fun b105 => ?_) (fun b105 => ?_)
                                · refine own_iload X103 C at_259 261 rfl rfl ?_
                                  refine own_istore X103 C at_261 263 rfl #[.val (.int ia0), .val (.int ia1), .val (.int ia2), .val (.int ia3), .val (.int ia4), .val (.int ia5), .val (.int wd), .val (.int v2), .val (.int v4), .val (.int v5), .val (.int v7), .val (.ref b2), .val (.int (1 : Int32)), .val (.int (0 : Int32)), .val (.int (0 : Int32)), .val (.int (1 : Int32)), .val (.int (1 : Int32)), .val (.int v5), .unset, .unset] rfl ?_
                                  refine own_iload X103 C at_263 265 rfl rfl ?_
                                  refine own_iconst X103 C at_265 266 rfl (2) rfl ?_
                                  refine own_iand X103 C at_266 267 rfl (fun v18 ev18 => ?_)
                                  refine own_ifeq X103 C at_267 270 275 rfl (by decide) (by decide) (i := v18.toInt) rfl (fun b106 => ?_) (fun b106 => ?_)
                                  · refine own_iload X103 C at_275 277 rfl rfl ?_
                                    refine own_istore X103 C at_277 279 rfl #[.val (.int ia0), .val (.int ia1), .val (.int ia2), .val (.int ia3), .val (.int ia4), .val (.int ia5), .val (.int wd), .val (.int v2), .val (.int v4), .val (.int v5), .val (.int v7), .val (.ref b2), .val (.int (1 : Int32)), .val (.int (0 : Int32)), .val (.int (0 : Int32)), .val (.int (1 : Int32)), .val (.int (1 : Int32)), .val (.int v5), .val (.int v7), .unset] rfl ?_
                                    refine own_iload X103 C at_279 281 rfl rfl ?_
                                    refine own_iload X103 C at_281 283 rfl rfl ?_
                                    refine own_icmpne X103 C at_283 286 299 rfl (by decide) (by decide) (i := v5.toInt) rfl (j := v2.toInt) rfl (fun b107 => ?_) (fun b107 => ?_)
                                    · exfalso
                                      omega
                                    · refine own_iload X103 C at_286 288 rfl rfl ?_
                                      refine own_iload X103 C at_288 290 rfl rfl ?_
                                      refine own_icmpne X103 C at_290 293 299 rfl (by decide) (by decide) (i := v7.toInt) rfl (j := v4.toInt) rfl (fun b108 => ?_) (fun b108 => ?_)
                                      · refine own_iload X103 C at_299 301 rfl rfl ?_
                                        refine own_iload X103 C at_301 303 rfl rfl ?_
                                        refine own_icmpne X103 C at_303 306 320 rfl (by decide) (by decide) (i := v5.toInt) rfl (j := v5.toInt) rfl (fun b109 => ?_) (fun b109 => ?_)
                                        · exfalso
                                          omega
                                        · refine own_iload X103 C at_306 308 rfl rfl ?_
                                          refine own_iload X103 C at_308 310 rfl rfl ?_
                                          refine own_icmpne X103 C at_310 313 320 rfl (by decide) (by decide) (i := v7.toInt) rfl (j := v7.toInt) rfl (fun b110 => ?_) (fun b110 => ?_)
                                          · exfalso
                                            omega
                                          · refine own_iload X103 C at_313 315 rfl rfl ?_
                                            refine own_istore X103 C at_315 317 rfl #[.val (.int ia0), .val (.int ia1), .val (.int ia2), .val (.int ia3), .val (.int ia4), .val (.int ia5), .val (.int wd), .val (.int v2), .val (.int v4), .val (.int v5), .val (.int v7), .val (.ref b2), .val (.int (1 : Int32)), .val (.int (0 : Int32)), .val (.int (0 : Int32)), .val (.int (1 : Int32)), .val (.int (1 : Int32)), .val (.int v5), .val (.int v7), .val (.int (1 : Int32))] rfl ?_
                                            refine own_goto X103 C at_317 323 (by decide) (by decide) ?_
                                            refine own_iload X103 C at_323 325 rfl rfl ?_
                                            refine own_ifeq X103 C at_325 328 346 rfl (by decide) (by decide) (i := 1) (by decide) (fun b111 => ?_) (fun b111 => ?_)
                                            · exfalso
                                              omega
                                            · refine own_aload X103 C at_328 330 rfl rfl rfl ?_
                                              refine own_iload X103 C at_330 332 rfl rfl ?_
                                              refine own_iload X103 C at_332 334 rfl rfl ?_
                                              have hk112 : own_key wd.toInt64 v5 v7 = (own_key wd.toInt64 v5 v7) := own_keyc (by omega) (by omega)
                                              refine own_callV X103 C (own_w hw 43 rfl) (own_w hw 44 rfl) (own_w hw 46 rfl) (own_w hw 45 rfl) (own_w hw 7 rfl) (own_w hw 47 rfl) (by decide) P.1 (own_conv (w' := (.int (1))) (own_rm_find l Z a0 hw b2 v5 v7 T93.heap kA nA lO lA rO rA wd.toInt64 (own_f2 (own_key wd.toInt64 v2 v4) (own_key wd.toInt64 v5 v7)) (own_g2 (own_key wd.toInt64 v2 v4) (own_key wd.toInt64 v5 v7)) 2 P (by rw [hk112]; exact (own_ok2b _ _ n1 hk12))) (congrArg Value.int (by rw [hk112]; exact (own_find2b _ _ n1 n2 hk12)))) eh103 own_pd_II_R_I [(.int v5), (.int v7)] rfl rfl rfl rfl 0 rfl (by decide) (by decide) (by decide) (by decide) at_334 337 rfl (fun T113 L113 v113 X113 q113 => ?_)
                                              obtain ⟨rfl, eh113, rfl⟩ := q113
                                              have N113 := Fr.app N103 (Fr.nil h.size)
                                              refine own_iload X113 C at_337 339 rfl rfl ?_
                                              refine own_icmpne X113 C at_339 342 346 rfl (by decide) (by decide) (i := 1) (by decide) (j := 1) (by decide) (fun b114 => ?_) (fun b114 => ?_)
                                              · exfalso
                                                omega
                                              · refine own_iconst X113 C at_342 343 rfl (1) rfl ?_
                                                refine own_goto X113 C at_343 347 (by decide) (by decide) ?_
                                                refine own_istore X113 C at_347 349 rfl #[.val (.int ia0), .val (.int ia1), .val (.int ia2), .val (.int ia3), .val (.int ia4), .val (.int ia5), .val (.int wd), .val (.int v2), .val (.int v4), .val (.int v5), .val (.int v7), .val (.ref b2), .val (.int (1 : Int32)), .val (.int (0 : Int32)), .val (.int (0 : Int32)), .val (.int (1 : Int32)), .val (.int (1 : Int32)), .val (.int v5), .val (.int v7), .val (.int (1 : Int32))] rfl ?_
                                                refine own_iload X113 C at_349 351 rfl rfl ?_
                                                refine own_ifeq X113 C at_351 354 370 rfl (by decide) (by decide) (i := 1) (by decide) (fun b115 => ?_) (fun b115 => ?_)
                                                · exfalso
                                                  omega
                                                · refine own_aload X113 C at_354 356 rfl rfl rfl ?_
                                                  have P' := P
                                                  obtain ⟨-, -, -, Fl, -, -, -, -, ⟨gl, I0⟩, -⟩ := P'
                                                  refine own_callV X113 C (own_w hw 74 rfl) (own_w hw 58 rfl) (own_w hw 60 rfl) (own_w hw 59 rfl) (own_w hw 7 rfl) (own_w hw 61 rfl) (by decide) P.1 (own_rm_psize l Z a0 hw b2 T93.heap lO lA 2 gl Fl I0) eh113 own_pd__R_I [] rfl rfl rfl rfl 0 rfl (by decide) (by decide) (by decide) (by decide) at_356 359 rfl (fun T116 L116 v116 X116 q116 => ?_)
                                                  obtain ⟨⟨_, rfl, z116, rfl, hz116⟩, eh116, rfl⟩ := q116
                                                  have N116 := Fr.app N113 (Fr.nil h.size)
                                                  refine own_iload X116 C at_359 361 rfl rfl ?_
                                                  refine own_iconst X116 C at_361 362 rfl (1) rfl ?_
                                                  refine own_iadd X116 C at_362 363 rfl (fun v19 ev19 => ?_)
                                                  obtain rfl : v19 = (2 : Int32) := ev19.trans (by decide)
                                                  refine own_icmpne X116 C at_363 366 370 rfl (by decide) (by decide) (i := z116.toInt) rfl (j := 2) (by decide) (fun b117 => ?_) (fun b117 => ?_)
                                                  · exfalso
                                                    omega
                                                  · refine own_iconst X116 C at_366 367 rfl (1) rfl ?_
                                                    refine own_goto X116 C at_367 371 (by decide) (by decide) ?_
                                                    refine own_istore X116 C at_371 373 rfl #[.val (.int ia0), .val (.int ia1), .val (.int ia2), .val (.int ia3), .val (.int ia4), .val (.int ia5), .val (.int wd), .val (.int v2), .val (.int v4), .val (.int v5), .val (.int v7), .val (.ref b2), .val (.int (1 : Int32)), .val (.int (0 : Int32)), .val (.int (0 : Int32)), .val (.int (1 : Int32)), .val (.int (1 : Int32)), .val (.int v5), .val (.int v7), .val (.int (1 : Int32))] rfl ?_
                                                    refine own_iload X116 C at_373 375 rfl rfl ?_
                                                    refine own_iretN X116 C .boolean rfl (by simp) at_375 (by decide) (by decide) (1) (by decide) ?_
                                                    exact ⟨rfl, N116⟩
                                      · exfalso
                                        omega
                                  · refine own_iload X103 C at_270 272 rfl rfl ?_
                                    refine own_goto X103 C at_272 277 (by decide) (by decide) ?_
                                    refine own_istore X103 C at_277 279 rfl #[.val (.int ia0), .val (.int ia1), .val (.int ia2), .val (.int ia3), .val (.int ia4), .val (.int ia5), .val (.int wd), .val (.int v2), .val (.int v4), .val (.int v5), .val (.int v7), .val (.ref b2), .val (.int (1 : Int32)), .val (.int (0 : Int32)), .val (.int (0 : Int32)), .val (.int (1 : Int32)), .val (.int (1 : Int32)), .val (.int v5), .val (.int v4), .unset] rfl ?_
                                    refine own_iload X103 C at_279 281 rfl rfl ?_
                                    refine own_iload X103 C at_281 283 rfl rfl ?_
                                    refine own_icmpne X103 C at_283 286 299 rfl (by decide) (by decide) (i := v5.toInt) rfl (j := v2.toInt) rfl (fun b118 => ?_) (fun b118 => ?_)
                                    · exfalso
                                      omega
                                    · refine own_iload X103 C at_286 288 rfl rfl ?_
                                      refine own_iload X103 C at_288 290 rfl rfl ?_
                                      refine own_icmpne X103 C at_290 293 299 rfl (by decide) (by decide) (i := v4.toInt) rfl (j := v4.toInt) rfl (fun b119 => ?_) (fun b119 => ?_)
                                      · exfalso
                                        omega
                                      · refine own_iconst X103 C at_293 294 rfl (0) rfl ?_
                                        refine own_istore X103 C at_294 296 rfl #[.val (.int ia0), .val (.int ia1), .val (.int ia2), .val (.int ia3), .val (.int ia4), .val (.int ia5), .val (.int wd), .val (.int v2), .val (.int v4), .val (.int v5), .val (.int v7), .val (.ref b2), .val (.int (1 : Int32)), .val (.int (0 : Int32)), .val (.int (0 : Int32)), .val (.int (1 : Int32)), .val (.int (1 : Int32)), .val (.int v5), .val (.int v4), .val (.int (0 : Int32))] rfl ?_
                                        refine own_goto X103 C at_296 323 (by decide) (by decide) ?_
                                        refine own_iload X103 C at_323 325 rfl rfl ?_
                                        refine own_ifeq X103 C at_325 328 346 rfl (by decide) (by decide) (i := 1) (by decide) (fun b120 => ?_) (fun b120 => ?_)
                                        · exfalso
                                          omega
                                        · refine own_aload X103 C at_328 330 rfl rfl rfl ?_
                                          refine own_iload X103 C at_330 332 rfl rfl ?_
                                          refine own_iload X103 C at_332 334 rfl rfl ?_
                                          have hk121 : own_key wd.toInt64 v5 v4 = (own_key wd.toInt64 v2 v4) := own_keyc (by omega) (by omega)
                                          refine own_callV X103 C (own_w hw 43 rfl) (own_w hw 44 rfl) (own_w hw 46 rfl) (own_w hw 45 rfl) (own_w hw 7 rfl) (own_w hw 47 rfl) (by decide) P.1 (own_conv (w' := (.int (0))) (own_rm_find l Z a0 hw b2 v5 v4 T93.heap kA nA lO lA rO rA wd.toInt64 (own_f2 (own_key wd.toInt64 v2 v4) (own_key wd.toInt64 v5 v7)) (own_g2 (own_key wd.toInt64 v2 v4) (own_key wd.toInt64 v5 v7)) 2 P (by rw [hk121]; exact (own_ok2a _ _ n1 hk12))) (congrArg Value.int (by rw [hk121]; exact (own_find2a _ _ n1 hk12)))) eh103 own_pd_II_R_I [(.int v5), (.int v4)] rfl rfl rfl rfl 0 rfl (by decide) (by decide) (by decide) (by decide) at_334 337 rfl (fun T122 L122 v122 X122 q122 => ?_)
                                          obtain ⟨rfl, eh122, rfl⟩ := q122
                                          have N122 := Fr.app N103 (Fr.nil h.size)
                                          refine own_iload X122 C at_337 339 rfl rfl ?_
                                          refine own_icmpne X122 C at_339 342 346 rfl (by decide) (by decide) (i := 0) (by decide) (j := 0) (by decide) (fun b123 => ?_) (fun b123 => ?_)
                                          · exfalso
                                            omega
                                          · refine own_iconst X122 C at_342 343 rfl (1) rfl ?_
                                            refine own_goto X122 C at_343 347 (by decide) (by decide) ?_
                                            refine own_istore X122 C at_347 349 rfl #[.val (.int ia0), .val (.int ia1), .val (.int ia2), .val (.int ia3), .val (.int ia4), .val (.int ia5), .val (.int wd), .val (.int v2), .val (.int v4), .val (.int v5), .val (.int v7), .val (.ref b2), .val (.int (1 : Int32)), .val (.int (0 : Int32)), .val (.int (0 : Int32)), .val (.int (1 : Int32)), .val (.int (1 : Int32)), .val (.int v5), .val (.int v4), .val (.int (0 : Int32))] rfl ?_
                                            refine own_iload X122 C at_349 351 rfl rfl ?_
                                            refine own_ifeq X122 C at_351 354 370 rfl (by decide) (by decide) (i := 1) (by decide) (fun b124 => ?_) (fun b124 => ?_)
                                            · exfalso
                                              omega
                                            · refine own_aload X122 C at_354 356 rfl rfl rfl ?_
                                              have P' := P
                                              obtain ⟨-, -, -, Fl, -, -, -, -, ⟨gl, I0⟩, -⟩ := P'
                                              refine own_callV X122 C (own_w hw 74 rfl) (own_w hw 58 rfl) (own_w hw 60 rfl) (own_w hw 59 rfl) (own_w hw 7 rfl) (own_w hw 61 rfl) (by decide) P.1 (own_rm_psize l Z a0 hw b2 T93.heap lO lA 2 gl Fl I0) eh122 own_pd__R_I [] rfl rfl rfl rfl 0 rfl (by decide) (by decide) (by decide) (by decide) at_356 359 rfl (fun T125 L125 v125 X125 q125 => ?_)
                                              obtain ⟨⟨_, rfl, z125, rfl, hz125⟩, eh125, rfl⟩ := q125
                                              have N125 := Fr.app N122 (Fr.nil h.size)
                                              refine own_iload X125 C at_359 361 rfl rfl ?_
                                              refine own_iconst X125 C at_361 362 rfl (1) rfl ?_
                                              refine own_iadd X125 C at_362 363 rfl (fun v20 ev20 => ?_)
                                              obtain rfl : v20 = (2 : Int32) := ev20.trans (by decide)
                                              refine own_icmpne X125 C at_363 366 370 rfl (by decide) (by decide) (i := z125.toInt) rfl (j := 2) (by decide) (fun b126 => ?_) (fun b126 => ?_)
                                              · exfalso
                                                omega
                                              · refine own_iconst X125 C at_366 367 rfl (1) rfl ?_
                                                refine own_goto X125 C at_367 371 (by decide) (by decide) ?_
                                                refine own_istore X125 C at_371 373 rfl #[.val (.int ia0), .val (.int ia1), .val (.int ia2), .val (.int ia3), .val (.int ia4), .val (.int ia5), .val (.int wd), .val (.int v2), .val (.int v4), .val (.int v5), .val (.int v7), .val (.ref b2), .val (.int (1 : Int32)), .val (.int (0 : Int32)), .val (.int (0 : Int32)), .val (.int (1 : Int32)), .val (.int (1 : Int32)), .val (.int v5), .val (.int v4), .val (.int (0 : Int32))] rfl ?_
                                                refine own_iload X125 C at_373 375 rfl rfl ?_
                                                refine own_iretN X125 C .boolean rfl (by simp) at_375 (by decide) (by decide) (1) (by decide) ?_
                                                exact ⟨rfl, N125⟩
                                · refine own_iload X103 C at_254 256 rfl rfl ?_
                                  refine own_goto X103 C at_256 261 (by decide) (by decide) ?_
                                  refine own_istore X103 C at_261 263 rfl #[.val (.int ia0), .val (.int ia1), .val (.int ia2), .val (.int ia3), .val (.int ia4), .val (.int ia5), .val (.int wd), .val (.int v2), .val (.int v4), .val (.int v5), .val (.int v7), .val (.ref b2), .val (.int (1 : Int32)), .val (.int (0 : Int32)), .val (.int (0 : Int32)), .val (.int (1 : Int32)), .val (.int (1 : Int32)), .val (.int v2), .unset, .unset] rfl ?_
                                  refine own_iload X103 C at_263 265 rfl rfl ?_
                                  refine own_iconst X103 C at_265 266 rfl (2) rfl ?_
                                  refine own_iand X103 C at_266 267 rfl (fun v21 ev21 => ?_)
                                  refine own_ifeq X103 C at_267 270 275 rfl (by decide) (by decide) (i := v21.toInt) rfl (fun b127 => ?_) (fun b127 => ?_)
                                  · refine own_iload X103 C at_275 277 rfl rfl ?_
                                    refine own_istore X103 C at_277 279 rfl #[.val (.int ia0), .val (.int ia1), .val (.int ia2), .val (.int ia3), .val (.int ia4), .val (.int ia5), .val (.int wd), .val (.int v2), .val (.int v4), .val (.int v5), .val (.int v7), .val (.ref b2), .val (.int (1 : Int32)), .val (.int (0 : Int32)), .val (.int (0 : Int32)), .val (.int (1 : Int32)), .val (.int (1 : Int32)), .val (.int v2), .val (.int v7), .unset] rfl ?_
                                    refine own_iload X103 C at_279 281 rfl rfl ?_
                                    refine own_iload X103 C at_281 283 rfl rfl ?_
                                    refine own_icmpne X103 C at_283 286 299 rfl (by decide) (by decide) (i := v2.toInt) rfl (j := v2.toInt) rfl (fun b128 => ?_) (fun b128 => ?_)
                                    · exfalso
                                      omega
                                    · refine own_iload X103 C at_286 288 rfl rfl ?_
                                      refine own_iload X103 C at_288 290 rfl rfl ?_
                                      refine own_icmpne X103 C at_290 293 299 rfl (by decide) (by decide) (i := v7.toInt) rfl (j := v4.toInt) rfl (fun b129 => ?_) (fun b129 => ?_)
                                      · refine own_iload X103 C at_299 301 rfl rfl ?_
                                        refine own_iload X103 C at_301 303 rfl rfl ?_
                                        refine own_icmpne X103 C at_303 306 320 rfl (by decide) (by decide) (i := v2.toInt) rfl (j := v5.toInt) rfl (fun b130 => ?_) (fun b130 => ?_)
                                        · exfalso
                                          omega
                                        · refine own_iload X103 C at_306 308 rfl rfl ?_
                                          refine own_iload X103 C at_308 310 rfl rfl ?_
                                          refine own_icmpne X103 C at_310 313 320 rfl (by decide) (by decide) (i := v7.toInt) rfl (j := v7.toInt) rfl (fun b131 => ?_) (fun b131 => ?_)
                                          · exfalso
                                            omega
                                          · refine own_iload X103 C at_313 315 rfl rfl ?_
                                            refine own_istore X103 C at_315 317 rfl #[.val (.int ia0), .val (.int ia1), .val (.int ia2), .val (.int ia3), .val (.int ia4), .val (.int ia5), .val (.int wd), .val (.int v2), .val (.int v4), .val (.int v5), .val (.int v7), .val (.ref b2), .val (.int (1 : Int32)), .val (.int (0 : Int32)), .val (.int (0 : Int32)), .val (.int (1 : Int32)), .val (.int (1 : Int32)), .val (.int v2), .val (.int v7), .val (.int (1 : Int32))] rfl ?_
                                            refine own_goto X103 C at_317 323 (by decide) (by decide) ?_
                                            refine own_iload X103 C at_323 325 rfl rfl ?_
                                            refine own_ifeq X103 C at_325 328 346 rfl (by decide) (by decide) (i := 1) (by decide) (fun b132 => ?_) (fun b132 => ?_)
                                            · exfalso
                                              omega
                                            · refine own_aload X103 C at_328 330 rfl rfl rfl ?_
                                              refine own_iload X103 C at_330 332 rfl rfl ?_
                                              refine own_iload X103 C at_332 334 rfl rfl ?_
                                              have hk133 : own_key wd.toInt64 v2 v7 = (own_key wd.toInt64 v5 v7) := own_keyc (by omega) (by omega)
                                              refine own_callV X103 C (own_w hw 43 rfl) (own_w hw 44 rfl) (own_w hw 46 rfl) (own_w hw 45 rfl) (own_w hw 7 rfl) (own_w hw 47 rfl) (by decide) P.1 (own_conv (w' := (.int (1))) (own_rm_find l Z a0 hw b2 v2 v7 T93.heap kA nA lO lA rO rA wd.toInt64 (own_f2 (own_key wd.toInt64 v2 v4) (own_key wd.toInt64 v5 v7)) (own_g2 (own_key wd.toInt64 v2 v4) (own_key wd.toInt64 v5 v7)) 2 P (by rw [hk133]; exact (own_ok2b _ _ n1 hk12))) (congrArg Value.int (by rw [hk133]; exact (own_find2b _ _ n1 n2 hk12)))) eh103 own_pd_II_R_I [(.int v2), (.int v7)] rfl rfl rfl rfl 0 rfl (by decide) (by decide) (by decide) (by decide) at_334 337 rfl (fun T134 L134 v134 X134 q134 => ?_)
                                              obtain ⟨rfl, eh134, rfl⟩ := q134
                                              have N134 := Fr.app N103 (Fr.nil h.size)
                                              refine own_iload X134 C at_337 339 rfl rfl ?_
                                              refine own_icmpne X134 C at_339 342 346 rfl (by decide) (by decide) (i := 1) (by decide) (j := 1) (by decide) (fun b135 => ?_) (fun b135 => ?_)
                                              · exfalso
                                                omega
                                              · refine own_iconst X134 C at_342 343 rfl (1) rfl ?_
                                                refine own_goto X134 C at_343 347 (by decide) (by decide) ?_
                                                refine own_istore X134 C at_347 349 rfl #[.val (.int ia0), .val (.int ia1), .val (.int ia2), .val (.int ia3), .val (.int ia4), .val (.int ia5), .val (.int wd), .val (.int v2), .val (.int v4), .val (.int v5), .val (.int v7), .val (.ref b2), .val (.int (1 : Int32)), .val (.int (0 : Int32)), .val (.int (0 : Int32)), .val (.int (1 : Int32)), .val (.int (1 : Int32)), .val (.int v2), .val (.int v7), .val (.int (1 : Int32))] rfl ?_
                                                refine own_iload X134 C at_349 351 rfl rfl ?_
                                                refine own_ifeq X134 C at_351 354 370 rfl (by decide) (by decide) (i := 1) (by decide) (fun b136 => ?_) (fun b136 => ?_)
                                                · exfalso
                                                  omega
                                                · refine own_aload X134 C at_354 356 rfl rfl rfl ?_
                                                  have P' := P
                                                  obtain ⟨-, -, -, Fl, -, -, -, -, ⟨gl, I0⟩, -⟩ := P'
                                                  refine own_callV X134 C (own_w hw 74 rfl) (own_w hw 58 rfl) (own_w hw 60 rfl) (own_w hw 59 rfl) (own_w hw 7 rfl) (own_w hw 61 rfl) (by decide) P.1 (own_rm_psize l Z a0 hw b2 T93.heap lO lA 2 gl Fl I0) eh134 own_pd__R_I [] rfl rfl rfl rfl 0 rfl (by decide) (by decide) (by decide) (by decide) at_356 359 rfl (fun T137 L137 v137 X137 q137 => ?_)
                                                  obtain ⟨⟨_, rfl, z137, rfl, hz137⟩, eh137, rfl⟩ := q137
                                                  have N137 := Fr.app N134 (Fr.nil h.size)
                                                  refine own_iload X137 C at_359 361 rfl rfl ?_
                                                  refine own_iconst X137 C at_361 362 rfl (1) rfl ?_
                                                  refine own_iadd X137 C at_362 363 rfl (fun v22 ev22 => ?_)
                                                  obtain rfl : v22 = (2 : Int32) := ev22.trans (by decide)
                                                  refine own_icmpne X137 C at_363 366 370 rfl (by decide) (by decide) (i := z137.toInt) rfl (j := 2) (by decide) (fun b138 => ?_) (fun b138 => ?_)
                                                  · exfalso
                                                    omega
                                                  · refine own_iconst X137 C at_366 367 rfl (1) rfl ?_
                                                    refine own_goto X137 C at_367 371 (by decide) (by decide) ?_
                                                    refine own_istore X137 C at_371 373 rfl #[.val (.int ia0), .val (.int ia1), .val (.int ia2), .val (.int ia3), .val (.int ia4), .val (.int ia5), .val (.int wd), .val (.int v2), .val (.int v4), .val (.int v5), .val (.int v7), .val (.ref b2), .val (.int (1 : Int32)), .val (.int (0 : Int32)), .val (.int (0 : Int32)), .val (.int (1 : Int32)), .val (.int (1 : Int32)), .val (.int v2), .val (.int v7), .val (.int (1 : Int32))] rfl ?_
                                                    refine own_iload X137 C at_373 375 rfl rfl ?_
                                                    refine own_iretN X137 C .boolean rfl (by simp) at_375 (by decide) (by decide) (1) (by decide) ?_
                                                    exact ⟨rfl, N137⟩
                                      · exfalso
                                        omega
                                  · refine own_iload X103 C at_270 272 rfl rfl ?_
                                    refine own_goto X103 C at_272 277 (by decide) (by decide) ?_
                                    refine own_istore X103 C at_277 279 rfl #[.val (.int ia0), .val (.int ia1), .val (.int ia2), .val (.int ia3), .val (.int ia4), .val (.int ia5), .val (.int wd), .val (.int v2), .val (.int v4), .val (.int v5), .val (.int v7), .val (.ref b2), .val (.int (1 : Int32)), .val (.int (0 : Int32)), .val (.int (0 : Int32)), .val (.int (1 : Int32)), .val (.int (1 : Int32)), .val (.int v2), .val (.int v4), .unset] rfl ?_
                                    refine own_iload X103 C at_279 281 rfl rfl ?_
                                    refine own_iload X103 C at_281 283 rfl rfl ?_
                                    refine own_icmpne X103 C at_283 286 299 rfl (by decide) (by decide) (i := v2.toInt) rfl (j := v2.toInt) rfl (fun b139 => ?_) (fun b139 => ?_)
                                    · exfalso
                                      omega
                                    · refine own_iload X103 C at_286 288 rfl rfl ?_
                                      refine own_iload X103 C at_288 290 rfl rfl ?_
                                      refine own_icmpne X103 C at_290 293 299 rfl (by decide) (by decide) (i := v4.toInt) rfl (j := v4.toInt) rfl (fun b140 => ?_) (fun b140 => ?_)
                                      · exfalso
                                        omega
                                      · refine own_iconst X103 C at_293 294 rfl (0) rfl ?_
                                        refine own_istore X103 C at_294 296 rfl #[.val (.int ia0), .val (.int ia1), .val (.int ia2), .val (.int ia3), .val (.int ia4), .val (.int ia5), .val (.int wd), .val (.int v2), .val (.int v4), .val (.int v5), .val (.int v7), .val (.ref b2), .val (.int (1 : Int32)), .val (.int (0 : Int32)), .val (.int (0 : Int32)), .val (.int (1 : Int32)), .val (.int (1 : Int32)), .val (.int v2), .val (.int v4), .val (.int (0 : Int32))] rfl ?_
                                        refine own_goto X103 C at_296 323 (by decide) (by decide) ?_
                                        refine own_iload X103 C at_323 325 rfl rfl ?_
                                        refine own_ifeq X103 C at_325 328 346 rfl (by decide) (by decide) (i := 1) (by decide) (fun b141 => ?_) (fun b141 => ?_)
                                        · exfalso
                                          omega
                                        · refine own_aload X103 C at_328 330 rfl rfl rfl ?_
                                          refine own_iload X103 C at_330 332 rfl rfl ?_
                                          refine own_iload X103 C at_332 334 rfl rfl ?_
                                          have hk142 : own_key wd.toInt64 v2 v4 = (own_key wd.toInt64 v2 v4) := own_keyc (by omega) (by omega)
                                          refine own_callV X103 C (own_w hw 43 rfl) (own_w hw 44 rfl) (own_w hw 46 rfl) (own_w hw 45 rfl) (own_w hw 7 rfl) (own_w hw 47 rfl) (by decide) P.1 (own_conv (w' := (.int (0))) (own_rm_find l Z a0 hw b2 v2 v4 T93.heap kA nA lO lA rO rA wd.toInt64 (own_f2 (own_key wd.toInt64 v2 v4) (own_key wd.toInt64 v5 v7)) (own_g2 (own_key wd.toInt64 v2 v4) (own_key wd.toInt64 v5 v7)) 2 P (by rw [hk142]; exact (own_ok2a _ _ n1 hk12))) (congrArg Value.int (by rw [hk142]; exact (own_find2a _ _ n1 hk12)))) eh103 own_pd_II_R_I [(.int v2), (.int v4)] rfl rfl rfl rfl 0 rfl (by decide) (by decide) (by decide) (by decide) at_334 337 rfl (fun T143 L143 v143 X143 q143 => ?_)
                                          obtain ⟨rfl, eh143, rfl⟩ := q143
                                          have N143 := Fr.app N103 (Fr.nil h.size)
                                          refine own_iload X143 C at_337 339 rfl rfl ?_
                                          refine own_icmpne X143 C at_339 342 346 rfl (by decide) (by decide) (i := 0) (by decide) (j := 0) (by decide) (fun b144 => ?_) (fun b144 => ?_)
                                          · exfalso
                                            omega
                                          · refine own_iconst X143 C at_342 343 rfl (1) rfl ?_
                                            refine own_goto X143 C at_343 347 (by decide) (by decide) ?_
                                            refine own_istore X143 C at_347 349 rfl #[.val (.int ia0), .val (.int ia1), .val (.int ia2), .val (.int ia3), .val (.int ia4), .val (.int ia5), .val (.int wd), .val (.int v2), .val (.int v4), .val (.int v5), .val (.int v7), .val (.ref b2), .val (.int (1 : Int32)), .val (.int (0 : Int32)), .val (.int (0 : Int32)), .val (.int (1 : Int32)), .val (.int (1 : Int32)), .val (.int v2), .val (.int v4), .val (.int (0 : Int32))] rfl ?_
                                            refine own_iload X143 C at_349 351 rfl rfl ?_
                                            refine own_ifeq X143 C at_351 354 370 rfl (by decide) (by decide) (i := 1) (by decide) (fun b145 => ?_) (fun b145 => ?_)
                                            · exfalso
                                              omega
                                            · refine own_aload X143 C at_354 356 rfl rfl rfl ?_
                                              have P' := P
                                              obtain ⟨-, -, -, Fl, -, -, -, -, ⟨gl, I0⟩, -⟩ := P'
                                              refine own_callV X143 C (own_w hw 74 rfl) (own_w hw 58 rfl) (own_w hw 60 rfl) (own_w hw 59 rfl) (own_w hw 7 rfl) (own_w hw 61 rfl) (by decide) P.1 (own_rm_psize l Z a0 hw b2 T93.heap lO lA 2 gl Fl I0) eh143 own_pd__R_I [] rfl rfl rfl rfl 0 rfl (by decide) (by decide) (by decide) (by decide) at_356 359 rfl (fun T146 L146 v146 X146 q146 => ?_)
                                              obtain ⟨⟨_, rfl, z146, rfl, hz146⟩, eh146, rfl⟩ := q146
                                              have N146 := Fr.app N143 (Fr.nil h.size)
                                              refine own_iload X146 C at_359 361 rfl rfl ?_
                                              refine own_iconst X146 C at_361 362 rfl (1) rfl ?_
                                              refine own_iadd X146 C at_362 363 rfl (fun v23 ev23 => ?_)
                                              obtain rfl : v23 = (2 : Int32) := ev23.trans (by decide)
                                              refine own_icmpne X146 C at_363 366 370 rfl (by decide) (by decide) (i := z146.toInt) rfl (j := 2) (by decide) (fun b147 => ?_) (fun b147 => ?_)
                                              · exfalso
                                                omega
                                              · refine own_iconst X146 C at_366 367 rfl (1) rfl ?_
                                                refine own_goto X146 C at_367 371 (by decide) (by decide) ?_
                                                refine own_istore X146 C at_371 373 rfl #[.val (.int ia0), .val (.int ia1), .val (.int ia2), .val (.int ia3), .val (.int ia4), .val (.int ia5), .val (.int wd), .val (.int v2), .val (.int v4), .val (.int v5), .val (.int v7), .val (.ref b2), .val (.int (1 : Int32)), .val (.int (0 : Int32)), .val (.int (0 : Int32)), .val (.int (1 : Int32)), .val (.int (1 : Int32)), .val (.int v2), .val (.int v4), .val (.int (0 : Int32))] rfl ?_
                                                refine own_iload X146 C at_373 375 rfl rfl ?_
                                                refine own_iretN X146 C .boolean rfl (by simp) at_375 (by decide) (by decide) (1) (by decide) ?_
                                                exact ⟨rfl, N146⟩
                  · exfalso
                    omega
              · exfalso
                omega
          · refine own_iconst X8 C at_114 115 rfl (1) rfl ?_
            refine own_goto X8 C at_115 119 (by decide) (by decide) ?_
            refine own_istore X8 C at_119 121 rfl #[.val (.int ia0), .val (.int ia1), .val (.int ia2), .val (.int ia3), .val (.int ia4), .val (.int ia5), .val (.int wd), .val (.int v2), .val (.int v4), .val (.int v5), .val (.int v7), .val (.ref b2), .val (.int (1 : Int32)), .val (.int (0 : Int32)), .val (.int (1 : Int32)), .unset, .unset, .unset, .unset, .unset] rfl ?_
            refine own_iload X8 C at_121 123 rfl rfl ?_
            refine own_ifeq X8 C at_123 126 152 rfl (by decide) (by decide) (i := 1) (by decide) (fun b148 => ?_) (fun b148 => ?_)
            · exfalso
              omega
            · refine own_aload X8 C at_126 128 rfl rfl rfl ?_
              refine own_iload X8 C at_128 130 rfl rfl ?_
              refine own_iload X8 C at_130 132 rfl rfl ?_
              have hk149 : own_key wd.toInt64 v5 v7 = (own_key wd.toInt64 v2 v4) := own_keyc (by omega) (by omega)
              refine own_callV X8 C (own_w hw 43 rfl) (own_w hw 44 rfl) (own_w hw 46 rfl) (own_w hw 45 rfl) (own_w hw 7 rfl) (own_w hw 47 rfl) (by decide) P.1 (own_conv (w' := (.int (0))) (own_rm_find l Z a0 hw b2 v5 v7 T8.heap kA nA lO lA rO rA wd.toInt64 (own_f1 (own_key wd.toInt64 v2 v4)) (own_g1 (own_key wd.toInt64 v2 v4)) 1 P (by rw [hk149]; exact (own_ok1a _))) (congrArg Value.int (by rw [hk149]; exact (own_find1a _ n1)))) rfl own_pd_II_R_I [(.int v5), (.int v7)] rfl rfl rfl rfl 0 rfl (by decide) (by decide) (by decide) (by decide) at_132 135 rfl (fun T150 L150 v150 X150 q150 => ?_)
              obtain ⟨rfl, eh150, rfl⟩ := q150
              have N150 := Fr.app N8 (Fr.nil h.size)
              refine own_iload X150 C at_135 137 rfl rfl ?_
              refine own_ifeq X150 C at_137 140 144 rfl (by decide) (by decide) (i := 1) (by decide) (fun b151 => ?_) (fun b151 => ?_)
              · exfalso
                omega
              · refine own_iconst X150 C at_140 141 rfl (0) rfl ?_
                refine own_goto X150 C at_141 145 (by decide) (by decide) ?_
                refine own_icmpne X150 C at_145 148 152 rfl (by decide) (by decide) (i := 0) (by decide) (j := 0) (by decide) (fun b152 => ?_) (fun b152 => ?_)
                · exfalso
                  omega
                · refine own_iconst X150 C at_148 149 rfl (1) rfl ?_
                  refine own_goto X150 C at_149 153 (by decide) (by decide) ?_
                  refine own_istore X150 C at_153 155 rfl #[.val (.int ia0), .val (.int ia1), .val (.int ia2), .val (.int ia3), .val (.int ia4), .val (.int ia5), .val (.int wd), .val (.int v2), .val (.int v4), .val (.int v5), .val (.int v7), .val (.ref b2), .val (.int (1 : Int32)), .val (.int (0 : Int32)), .val (.int (1 : Int32)), .unset, .unset, .unset, .unset, .unset] rfl ?_
                  refine own_aload X150 C at_155 157 rfl rfl rfl ?_
                  refine own_iload X150 C at_157 159 rfl rfl ?_
                  refine own_iload X150 C at_159 161 rfl rfl ?_
                  have hk153 : own_key wd.toInt64 v5 v7 = (own_key wd.toInt64 v2 v4) := own_keyc (by omega) (by omega)
                  refine own_callV X150 C (own_w hw 52 rfl) (own_w hw 53 rfl) (own_w hw 55 rfl) (own_w hw 54 rfl) (own_w hw 7 rfl) (own_w hw 56 rfl) (by decide) P.1 (own_conv (w' := (.int 0)) (own_rm_numOld l Z a0 hw b2 v5 v7 T8.heap kA nA lO lA rO rA wd.toInt64 (own_f1 (own_key wd.toInt64 v2 v4)) (own_g1 (own_key wd.toInt64 v2 v4)) 1 P h.size g0 (by rw [hk153]; exact own_ok1a _) (by rw [hk153, own_s1a, own_f1a]; exact n1)) (by rw [hk153, own_s1a, own_g1, own_s0]; exact congrArg Value.int (if_pos rfl))) eh150 own_pd_II_R_I [(.int v5), (.int v7)] rfl rfl rfl rfl 0 rfl (by decide) (by decide) (by decide) (by decide) at_161 164 rfl (fun T154 L154 v154 X154 q154 => ?_)
                  obtain ⟨rfl, eh154, rfl⟩ := q154
                  have N154 := Fr.app N150 (Fr.nil h.size)
                  refine own_istore X154 C at_164 166 rfl #[.val (.int ia0), .val (.int ia1), .val (.int ia2), .val (.int ia3), .val (.int ia4), .val (.int ia5), .val (.int wd), .val (.int v2), .val (.int v4), .val (.int v5), .val (.int v7), .val (.ref b2), .val (.int (1 : Int32)), .val (.int (0 : Int32)), .val (.int (1 : Int32)), .val (.int (0 : Int32)), .unset, .unset, .unset, .unset] rfl ?_
                  refine own_iload X154 C at_166 168 rfl rfl ?_
                  refine own_ifeq X154 C at_168 171 175 rfl (by decide) (by decide) (i := 1) (by decide) (fun b155 => ?_) (fun b155 => ?_)
                  · exfalso
                    omega
                  · refine own_iconst X154 C at_171 172 rfl (0) rfl ?_
                    refine own_goto X154 C at_172 176 (by decide) (by decide) ?_
                    refine own_istore X154 C at_176 178 rfl #[.val (.int ia0), .val (.int ia1), .val (.int ia2), .val (.int ia3), .val (.int ia4), .val (.int ia5), .val (.int wd), .val (.int v2), .val (.int v4), .val (.int v5), .val (.int v7), .val (.ref b2), .val (.int (1 : Int32)), .val (.int (0 : Int32)), .val (.int (1 : Int32)), .val (.int (0 : Int32)), .val (.int (0 : Int32)), .unset, .unset, .unset] rfl ?_
                    refine own_iload X154 C at_178 180 rfl rfl ?_
                    refine own_ifeq X154 C at_180 183 194 rfl (by decide) (by decide) (i := 1) (by decide) (fun b156 => ?_) (fun b156 => ?_)
                    · exfalso
                      omega
                    · refine own_iload X154 C at_183 185 rfl rfl ?_
                      refine own_iload X154 C at_185 187 rfl rfl ?_
                      refine own_icmpne X154 C at_187 190 194 rfl (by decide) (by decide) (i := 0) (by decide) (j := 0) (by decide) (fun b157 => ?_) (fun b157 => ?_)
                      · exfalso
                        omega
                      · refine own_iconst X154 C at_190 191 rfl (1) rfl ?_
                        refine own_goto X154 C at_191 195 (by decide) (by decide) ?_
                        refine own_istore X154 C at_195 197 rfl #[.val (.int ia0), .val (.int ia1), .val (.int ia2), .val (.int ia3), .val (.int ia4), .val (.int ia5), .val (.int wd), .val (.int v2), .val (.int v4), .val (.int v5), .val (.int v7), .val (.ref b2), .val (.int (1 : Int32)), .val (.int (0 : Int32)), .val (.int (1 : Int32)), .val (.int (0 : Int32)), .val (.int (0 : Int32)), .unset, .unset, .unset] rfl ?_
                        refine own_iload X154 C at_197 199 rfl rfl ?_
                        refine own_ifeq X154 C at_199 202 218 rfl (by decide) (by decide) (i := 1) (by decide) (fun b158 => ?_) (fun b158 => ?_)
                        · exfalso
                          omega
                        · refine own_aload X154 C at_202 204 rfl rfl rfl ?_
                          refine own_iload X154 C at_204 206 rfl rfl ?_
                          refine own_iload X154 C at_206 208 rfl rfl ?_
                          have hk159 : own_key wd.toInt64 v2 v4 = (own_key wd.toInt64 v2 v4) := own_keyc (by omega) (by omega)
                          refine own_callV X154 C (own_w hw 43 rfl) (own_w hw 44 rfl) (own_w hw 46 rfl) (own_w hw 45 rfl) (own_w hw 7 rfl) (own_w hw 47 rfl) (by decide) P.1 (own_conv (w' := (.int (0))) (own_rm_find l Z a0 hw b2 v2 v4 T8.heap kA nA lO lA rO rA wd.toInt64 (own_f1 (own_key wd.toInt64 v2 v4)) (own_g1 (own_key wd.toInt64 v2 v4)) 1 P (by rw [hk159]; exact (own_ok1a _))) (congrArg Value.int (by rw [hk159]; exact (own_find1a _ n1)))) eh154 own_pd_II_R_I [(.int v2), (.int v4)] rfl rfl rfl rfl 0 rfl (by decide) (by decide) (by decide) (by decide) at_208 211 rfl (fun T160 L160 v160 X160 q160 => ?_)
                          obtain ⟨rfl, eh160, rfl⟩ := q160
                          have N160 := Fr.app N154 (Fr.nil h.size)
                          refine own_ifne X160 C at_211 214 218 rfl (by decide) (by decide) (i := 0) (by decide) (fun b161 => ?_) (fun b161 => ?_)
                          · exfalso
                            omega
                          · refine own_iconst X160 C at_214 215 rfl (1) rfl ?_
                            refine own_goto X160 C at_215 219 (by decide) (by decide) ?_
                            refine own_istore X160 C at_219 221 rfl #[.val (.int ia0), .val (.int ia1), .val (.int ia2), .val (.int ia3), .val (.int ia4), .val (.int ia5), .val (.int wd), .val (.int v2), .val (.int v4), .val (.int v5), .val (.int v7), .val (.ref b2), .val (.int (1 : Int32)), .val (.int (0 : Int32)), .val (.int (1 : Int32)), .val (.int (0 : Int32)), .val (.int (0 : Int32)), .unset, .unset, .unset] rfl ?_
                            refine own_iload X160 C at_221 223 rfl rfl ?_
                            refine own_ifeq X160 C at_223 226 244 rfl (by decide) (by decide) (i := 1) (by decide) (fun b162 => ?_) (fun b162 => ?_)
                            · exfalso
                              omega
                            · refine own_aload X160 C at_226 228 rfl rfl rfl ?_
                              refine own_iload X160 C at_228 230 rfl rfl ?_
                              refine own_iload X160 C at_230 232 rfl rfl ?_
                              have hk163 : own_key wd.toInt64 v5 v7 = (own_key wd.toInt64 v2 v4) := own_keyc (by omega) (by omega)
                              refine own_callV X160 C (own_w hw 43 rfl) (own_w hw 44 rfl) (own_w hw 46 rfl) (own_w hw 45 rfl) (own_w hw 7 rfl) (own_w hw 47 rfl) (by decide) P.1 (own_conv (w' := (.int (0))) (own_rm_find l Z a0 hw b2 v5 v7 T8.heap kA nA lO lA rO rA wd.toInt64 (own_f1 (own_key wd.toInt64 v2 v4)) (own_g1 (own_key wd.toInt64 v2 v4)) 1 P (by rw [hk163]; exact (own_ok1a _))) (congrArg Value.int (by rw [hk163]; exact (own_find1a _ n1)))) eh160 own_pd_II_R_I [(.int v5), (.int v7)] rfl rfl rfl rfl 0 rfl (by decide) (by decide) (by decide) (by decide) at_232 235 rfl (fun T164 L164 v164 X164 q164 => ?_)
                              obtain ⟨rfl, eh164, rfl⟩ := q164
                              have N164 := Fr.app N160 (Fr.nil h.size)
                              refine own_iload X164 C at_235 237 rfl rfl ?_
                              refine own_icmpne X164 C at_237 240 244 rfl (by decide) (by decide) (i := 0) (by decide) (j := 0) (by decide) (fun b165 => ?_) (fun b165 => ?_)
                              · exfalso
                                omega
                              · refine own_iconst X164 C at_240 241 rfl (1) rfl ?_
                                refine own_goto X164 C at_241 245 (by decide) (by decide) ?_
                                refine own_istore X164 C at_245 247 rfl #[.val (.int ia0), .val (.int ia1), .val (.int ia2), .val (.int ia3), .val (.int ia4), .val (.int ia5), .val (.int wd), .val (.int v2), .val (.int v4), .val (.int v5), .val (.int v7), .val (.ref b2), .val (.int (1 : Int32)), .val (.int (0 : Int32)), .val (.int (1 : Int32)), .val (.int (0 : Int32)), .val (.int (0 : Int32)), .unset, .unset, .unset] rfl ?_
                                refine own_iload X164 C at_247 249 rfl rfl ?_
                                refine own_iconst X164 C at_249 250 rfl (1) rfl ?_
                                refine own_iand X164 C at_250 251 rfl (fun v24 ev24 => ?_)
                                refine own_ifeq X164 C at_251 254 259 rfl (by decide) (by decide) (i := v24.toInt) rfl (fun b166 => ?_) (fun b166 => ?_)
                                · refine own_iload X164 C at_259 261 rfl rfl ?_
                                  refine own_istore X164 C at_261 263 rfl #[.val (.int ia0), .val (.int ia1), .val (.int ia2), .val (.int ia3), .val (.int ia4), .val (.int ia5), .val (.int wd), .val (.int v2), .val (.int v4), .val (.int v5), .val (.int v7), .val (.ref b2), .val (.int (1 : Int32)), .val (.int (0 : Int32)), .val (.int (1 : Int32)), .val (.int (0 : Int32)), .val (.int (0 : Int32)), .val (.int v5), .unset, .unset] rfl ?_
                                  refine own_iload X164 C at_263 265 rfl rfl ?_
                                  refine own_iconst X164 C at_265 266 rfl (2) rfl ?_
                                  refine own_iand X164 C at_266 267 rfl (fun v25 ev25 => ?_)
                                  refine own_ifeq X164 C at_267 270 275 rfl (by decide) (by decide) (i := v25.toInt) rfl (fun b167 => ?_) (fun b167 => ?_)
                                  · refine own_iload X164 C at_275 277 rfl rfl ?_
                                    refine own_istore X164 C at_277 279 rfl #[.val (.int ia0), .val (.int ia1), .val (.int ia2), .val (.int ia3), .val (.int ia4), .val (.int ia5), .val (.int wd), .val (.int v2), .val (.int v4), .val (.int v5), .val (.int v7), .val (.ref b2), .val (.int (1 : Int32)), .val (.int (0 : Int32)), .val (.int (1 : Int32)), .val (.int (0 : Int32)), .val (.int (0 : Int32)), .val (.int v5), .val (.int v7), .unset] rfl ?_
                                    refine own_iload X164 C at_279 281 rfl rfl ?_
                                    refine own_iload X164 C at_281 283 rfl rfl ?_
                                    refine own_icmpne X164 C at_283 286 299 rfl (by decide) (by decide) (i := v5.toInt) rfl (j := v2.toInt) rfl (fun b168 => ?_) (fun b168 => ?_)
                                    · exfalso
                                      omega
                                    · refine own_iload X164 C at_286 288 rfl rfl ?_
                                      refine own_iload X164 C at_288 290 rfl rfl ?_
                                      refine own_icmpne X164 C at_290 293 299 rfl (by decide) (by decide) (i := v7.toInt) rfl (j := v4.toInt) rfl (fun b169 => ?_) (fun b169 => ?_)
                                      · exfalso
                                        omega
                                      · refine own_iconst X164 C at_293 294 rfl (0) rfl ?_
                                        refine own_istore X164 C at_294 296 rfl #[.val (.int ia0), .val (.int ia1), .val (.int ia2), .val (.int ia3), .val (.int ia4), .val (.int ia5), .val (.int wd), .val (.int v2), .val (.int v4), .val (.int v5), .val (.int v7), .val (.ref b2), .val (.int (1 : Int32)), .val (.int (0 : Int32)), .val (.int (1 : Int32)), .val (.int (0 : Int32)), .val (.int (0 : Int32)), .val (.int v5), .val (.int v7), .val (.int (0 : Int32))] rfl ?_
                                        refine own_goto X164 C at_296 323 (by decide) (by decide) ?_
                                        refine own_iload X164 C at_323 325 rfl rfl ?_
                                        refine own_ifeq X164 C at_325 328 346 rfl (by decide) (by decide) (i := 1) (by decide) (fun b170 => ?_) (fun b170 => ?_)
                                        · exfalso
                                          omega
                                        · refine own_aload X164 C at_328 330 rfl rfl rfl ?_
                                          refine own_iload X164 C at_330 332 rfl rfl ?_
                                          refine own_iload X164 C at_332 334 rfl rfl ?_
                                          have hk171 : own_key wd.toInt64 v5 v7 = (own_key wd.toInt64 v2 v4) := own_keyc (by omega) (by omega)
                                          refine own_callV X164 C (own_w hw 43 rfl) (own_w hw 44 rfl) (own_w hw 46 rfl) (own_w hw 45 rfl) (own_w hw 7 rfl) (own_w hw 47 rfl) (by decide) P.1 (own_conv (w' := (.int (0))) (own_rm_find l Z a0 hw b2 v5 v7 T8.heap kA nA lO lA rO rA wd.toInt64 (own_f1 (own_key wd.toInt64 v2 v4)) (own_g1 (own_key wd.toInt64 v2 v4)) 1 P (by rw [hk171]; exact (own_ok1a _))) (congrArg Value.int (by rw [hk171]; exact (own_find1a _ n1)))) eh164 own_pd_II_R_I [(.int v5), (.int v7)] rfl rfl rfl rfl 0 rfl (by decide) (by decide) (by decide) (by decide) at_334 337 rfl (fun T172 L172 v172 X172 q172 => ?_)
                                          obtain ⟨rfl, eh172, rfl⟩ := q172
                                          have N172 := Fr.app N164 (Fr.nil h.size)
                                          refine own_iload X172 C at_337 339 rfl rfl ?_
                                          refine own_icmpne X172 C at_339 342 346 rfl (by decide) (by decide) (i := 0) (by decide) (j := 0) (by decide) (fun b173 => ?_) (fun b173 => ?_)
                                          · exfalso
                                            omega
                                          · refine own_iconst X172 C at_342 343 rfl (1) rfl ?_
                                            refine own_goto X172 C at_343 347 (by decide) (by decide) ?_
                                            refine own_istore X172 C at_347 349 rfl #[.val (.int ia0), .val (.int ia1), .val (.int ia2), .val (.int ia3), .val (.int ia4), .val (.int ia5), .val (.int wd), .val (.int v2), .val (.int v4), .val (.int v5), .val (.int v7), .val (.ref b2), .val (.int (1 : Int32)), .val (.int (0 : Int32)), .val (.int (1 : Int32)), .val (.int (0 : Int32)), .val (.int (0 : Int32)), .val (.int v5), .val (.int v7), .val (.int (0 : Int32))] rfl ?_
                                            refine own_iload X172 C at_349 351 rfl rfl ?_
                                            refine own_ifeq X172 C at_351 354 370 rfl (by decide) (by decide) (i := 1) (by decide) (fun b174 => ?_) (fun b174 => ?_)
                                            · exfalso
                                              omega
                                            · refine own_aload X172 C at_354 356 rfl rfl rfl ?_
                                              have P' := P
                                              obtain ⟨-, -, -, Fl, -, -, -, -, ⟨gl, I0⟩, -⟩ := P'
                                              refine own_callV X172 C (own_w hw 74 rfl) (own_w hw 58 rfl) (own_w hw 60 rfl) (own_w hw 59 rfl) (own_w hw 7 rfl) (own_w hw 61 rfl) (by decide) P.1 (own_rm_psize l Z a0 hw b2 T8.heap lO lA 1 gl Fl I0) eh172 own_pd__R_I [] rfl rfl rfl rfl 0 rfl (by decide) (by decide) (by decide) (by decide) at_356 359 rfl (fun T175 L175 v175 X175 q175 => ?_)
                                              obtain ⟨⟨_, rfl, z175, rfl, hz175⟩, eh175, rfl⟩ := q175
                                              have N175 := Fr.app N172 (Fr.nil h.size)
                                              refine own_iload X175 C at_359 361 rfl rfl ?_
                                              refine own_iconst X175 C at_361 362 rfl (1) rfl ?_
                                              refine own_iadd X175 C at_362 363 rfl (fun v26 ev26 => ?_)
                                              obtain rfl : v26 = (1 : Int32) := ev26.trans (by decide)
                                              refine own_icmpne X175 C at_363 366 370 rfl (by decide) (by decide) (i := z175.toInt) rfl (j := 1) (by decide) (fun b176 => ?_) (fun b176 => ?_)
                                              · exfalso
                                                omega
                                              · refine own_iconst X175 C at_366 367 rfl (1) rfl ?_
                                                refine own_goto X175 C at_367 371 (by decide) (by decide) ?_
                                                refine own_istore X175 C at_371 373 rfl #[.val (.int ia0), .val (.int ia1), .val (.int ia2), .val (.int ia3), .val (.int ia4), .val (.int ia5), .val (.int wd), .val (.int v2), .val (.int v4), .val (.int v5), .val (.int v7), .val (.ref b2), .val (.int (1 : Int32)), .val (.int (0 : Int32)), .val (.int (1 : Int32)), .val (.int (0 : Int32)), .val (.int (0 : Int32)), .val (.int v5), .val (.int v7), .val (.int (0 : Int32))] rfl ?_
                                                refine own_iload X175 C at_373 375 rfl rfl ?_
                                                refine own_iretN X175 C .boolean rfl (by simp) at_375 (by decide) (by decide) (1) (by decide) ?_
                                                exact ⟨rfl, N175⟩
                                  · refine own_iload X164 C at_270 272 rfl rfl ?_
                                    refine own_goto X164 C at_272 277 (by decide) (by decide) ?_
                                    refine own_istore X164 C at_277 279 rfl #[.val (.int ia0), .val (.int ia1), .val (.int ia2), .val (.int ia3), .val (.int ia4), .val (.int ia5), .val (.int wd), .val (.int v2), .val (.int v4), .val (.int v5), .val (.int v7), .val (.ref b2), .val (.int (1 : Int32)), .val (.int (0 : Int32)), .val (.int (1 : Int32)), .val (.int (0 : Int32)), .val (.int (0 : Int32)), .val (.int v5), .val (.int v4), .unset] rfl ?_
                                    refine own_iload X164 C at_279 281 rfl rfl ?_
                                    refine own_iload X164 C at_281 283 rfl rfl ?_
                                    refine own_icmpne X164 C at_283 286 299 rfl (by decide) (by decide) (i := v5.toInt) rfl (j := v2.toInt) rfl (fun b177 => ?_) (fun b177 => ?_)
                                    · exfalso
                                      omega
                                    · refine own_iload X164 C at_286 288 rfl rfl ?_
                                      refine own_iload X164 C at_288 290 rfl rfl ?_
                                      refine own_icmpne X164 C at_290 293 299 rfl (by decide) (by decide) (i := v4.toInt) rfl (j := v4.toInt) rfl (fun b178 => ?_) (fun b178 => ?_)
                                      · exfalso
                                        omega
                                      · refine own_iconst X164 C at_293 294 rfl (0) rfl ?_
                                        refine own_istore X164 C at_294 296 rfl #[.val (.int ia0), .val (.int ia1), .val (.int ia2), .val (.int ia3), .val (.int ia4), .val (.int ia5), .val (.int wd), .val (.int v2), .val (.int v4), .val (.int v5), .val (.int v7), .val (.ref b2), .val (.int (1 : Int32)), .val (.int (0 : Int32)), .val (.int (1 : Int32)), .val (.int (0 : Int32)), .val (.int (0 : Int32)), .val (.int v5), .val (.int v4), .val (.int (0 : Int32))] rfl ?_
                                        refine own_goto X164 C at_296 323 (by decide) (by decide) ?_
                                        refine own_iload X164 C at_323 325 rfl rfl ?_
                                        refine own_ifeq X164 C at_325 328 346 rfl (by decide) (by decide) (i := 1) (by decide) (fun b179 => ?_) (fun b179 => ?_)
                                        · exfalso
                                          omega
                                        · refine own_aload X164 C at_328 330 rfl rfl rfl ?_
                                          refine own_iload X164 C at_330 332 rfl rfl ?_
                                          refine own_iload X164 C at_332 334 rfl rfl ?_
                                          have hk180 : own_key wd.toInt64 v5 v4 = (own_key wd.toInt64 v2 v4) := own_keyc (by omega) (by omega)
                                          refine own_callV X164 C (own_w hw 43 rfl) (own_w hw 44 rfl) (own_w hw 46 rfl) (own_w hw 45 rfl) (own_w hw 7 rfl) (own_w hw 47 rfl) (by decide) P.1 (own_conv (w' := (.int (0))) (own_rm_find l Z a0 hw b2 v5 v4 T8.heap kA nA lO lA rO rA wd.toInt64 (own_f1 (own_key wd.toInt64 v2 v4)) (own_g1 (own_key wd.toInt64 v2 v4)) 1 P (by rw [hk180]; exact (own_ok1a _))) (congrArg Value.int (by rw [hk180]; exact (own_find1a _ n1)))) eh164 own_pd_II_R_I [(.int v5), (.int v4)] rfl rfl rfl rfl 0 rfl (by decide) (by decide) (by decide) (by decide) at_334 337 rfl (fun T181 L181 v181 X181 q181 => ?_)
                                          obtain ⟨rfl, eh181, rfl⟩ := q181
                                          have N181 := Fr.app N164 (Fr.nil h.size)
                                          refine own_iload X181 C at_337 339 rfl rfl ?_
                                          refine own_icmpne X181 C at_339 342 346 rfl (by decide) (by decide) (i := 0) (by decide) (j := 0) (by decide) (fun b182 => ?_) (fun b182 => ?_)
                                          · exfalso
                                            omega
                                          · refine own_iconst X181 C at_342 343 rfl (1) rfl ?_
                                            refine own_goto X181 C at_343 347 (by decide) (by decide) ?_
                                            refine own_istore X181 C at_347 349 rfl #[.val (.int ia0), .val (.int ia1), .val (.int ia2), .val (.int ia3), .val (.int ia4), .val (.int ia5), .val (.int wd), .val (.int v2), .val (.int v4), .val (.int v5), .val (.int v7), .val (.ref b2), .val (.int (1 : Int32)), .val (.int (0 : Int32)), .val (.int (1 : Int32)), .val (.int (0 : Int32)), .val (.int (0 : Int32)), .val (.int v5), .val (.int v4), .val (.int (0 : Int32))] rfl ?_
                                            refine own_iload X181 C at_349 351 rfl rfl ?_
                                            refine own_ifeq X181 C at_351 354 370 rfl (by decide) (by decide) (i := 1) (by decide) (fun b183 => ?_) (fun b183 => ?_)
                                            · exfalso
                                              omega
                                            · refine own_aload X181 C at_354 356 rfl rfl rfl ?_
                                              have P' := P
                                              obtain ⟨-, -, -, Fl, -, -, -, -, ⟨gl, I0⟩, -⟩ := P'
                                              refine own_callV X181 C (own_w hw 74 rfl) (own_w hw 58 rfl) (own_w hw 60 rfl) (own_w hw 59 rfl) (own_w hw 7 rfl) (own_w hw 61 rfl) (by decide) P.1 (own_rm_psize l Z a0 hw b2 T8.heap lO lA 1 gl Fl I0) eh181 own_pd__R_I [] rfl rfl rfl rfl 0 rfl (by decide) (by decide) (by decide) (by decide) at_356 359 rfl (fun T184 L184 v184 X184 q184 => ?_)
                                              obtain ⟨⟨_, rfl, z184, rfl, hz184⟩, eh184, rfl⟩ := q184
                                              have N184 := Fr.app N181 (Fr.nil h.size)
                                              refine own_iload X184 C at_359 361 rfl rfl ?_
                                              refine own_iconst X184 C at_361 362 rfl (1) rfl ?_
                                              refine own_iadd X184 C at_362 363 rfl (fun v27 ev27 => ?_)
                                              obtain rfl : v27 = (1 : Int32) := ev27.trans (by decide)
                                              refine own_icmpne X184 C at_363 366 370 rfl (by decide) (by decide) (i := z184.toInt) rfl (j := 1) (by decide) (fun b185 => ?_) (fun b185 => ?_)
                                              · exfalso
                                                omega
                                              · refine own_iconst X184 C at_366 367 rfl (1) rfl ?_
                                                refine own_goto X184 C at_367 371 (by decide) (by decide) ?_
                                                refine own_istore X184 C at_371 373 rfl #[.val (.int ia0), .val (.int ia1), .val (.int ia2), .val (.int ia3), .val (.int ia4), .val (.int ia5), .val (.int wd), .val (.int v2), .val (.int v4), .val (.int v5), .val (.int v7), .val (.ref b2), .val (.int (1 : Int32)), .val (.int (0 : Int32)), .val (.int (1 : Int32)), .val (.int (0 : Int32)), .val (.int (0 : Int32)), .val (.int v5), .val (.int v4), .val (.int (0 : Int32))] rfl ?_
                                                refine own_iload X184 C at_373 375 rfl rfl ?_
                                                refine own_iretN X184 C .boolean rfl (by simp) at_375 (by decide) (by decide) (1) (by decide) ?_
                                                exact ⟨rfl, N184⟩
                                · refine own_iload X164 C at_254 256 rfl rfl ?_
                                  refine own_goto X164 C at_256 261 (by decide) (by decide) ?_
                                  refine own_istore X164 C at_261 263 rfl #[.val (.int ia0), .val (.int ia1), .val (.int ia2), .val (.int ia3), .val (.int ia4), .val (.int ia5), .val (.int wd), .val (.int v2), .val (.int v4), .val (.int v5), .val (.int v7), .val (.ref b2), .val (.int (1 : Int32)), .val (.int (0 : Int32)), .val (.int (1 : Int32)), .val (.int (0 : Int32)), .val (.int (0 : Int32)), .val (.int v2), .unset, .unset] rfl ?_
                                  refine own_iload X164 C at_263 265 rfl rfl ?_
                                  refine own_iconst X164 C at_265 266 rfl (2) rfl ?_
                                  refine own_iand X164 C at_266 267 rfl (fun v28 ev28 => ?_)
                                  refine own_ifeq X164 C at_267 270 275 rfl (by decide) (by decide) (i := v28.toInt) rfl (fun b186 => ?_) (fun b186 => ?_)
                                  · refine own_iload X164 C at_275 277 rfl rfl ?_
                                    refine own_istore X164 C at_277 279 rfl #[.val (.int ia0), .val (.int ia1), .val (.int ia2), .val (.int ia3), .val (.int ia4), .val (.int ia5), .val (.int wd), .val (.int v2), .val (.int v4), .val (.int v5), .val (.int v7), .val (.ref b2), .val (.int (1 : Int32)), .val (.int (0 : Int32)), .val (.int (1 : Int32)), .val (.int (0 : Int32)), .val (.int (0 : Int32)), .val (.int v2), .val (.int v7), .unset] rfl ?_
                                    refine own_iload X164 C at_279 281 rfl rfl ?_
                                    refine own_iload X164 C at_281 283 rfl rfl ?_
                                    refine own_icmpne X164 C at_283 286 299 rfl (by decide) (by decide) (i := v2.toInt) rfl (j := v2.toInt) rfl (fun b187 => ?_) (fun b187 => ?_)
                                    · exfalso
                                      omega
                                    · refine own_iload X164 C at_286 288 rfl rfl ?_
                                      refine own_iload X164 C at_288 290 rfl rfl ?_
                                      refine own_icmpne X164 C at_290 293 299 rfl (by decide) (by decide) (i := v7.toInt) rfl (j := v4.toInt) rfl (fun b188 => ?_) (fun b188 => ?_)
                                      · exfalso
                                        omega
                                      · refine own_iconst X164 C at_293 294 rfl (0) rfl ?_
                                        refine own_istore X164 C at_294 296 rfl #[.val (.int ia0), .val (.int ia1), .val (.int ia2), .val (.int ia3), .val (.int ia4), .val (.int ia5), .val (.int wd), .val (.int v2), .val (.int v4), .val (.int v5), .val (.int v7), .val (.ref b2), .val (.int (1 : Int32)), .val (.int (0 : Int32)), .val (.int (1 : Int32)), .val (.int (0 : Int32)), .val (.int (0 : Int32)), .val (.int v2), .val (.int v7), .val (.int (0 : Int32))] rfl ?_
                                        refine own_goto X164 C at_296 323 (by decide) (by decide) ?_
                                        refine own_iload X164 C at_323 325 rfl rfl ?_
                                        refine own_ifeq X164 C at_325 328 346 rfl (by decide) (by decide) (i := 1) (by decide) (fun b189 => ?_) (fun b189 => ?_)
                                        · exfalso
                                          omega
                                        · refine own_aload X164 C at_328 330 rfl rfl rfl ?_
                                          refine own_iload X164 C at_330 332 rfl rfl ?_
                                          refine own_iload X164 C at_332 334 rfl rfl ?_
                                          have hk190 : own_key wd.toInt64 v2 v7 = (own_key wd.toInt64 v2 v4) := own_keyc (by omega) (by omega)
                                          refine own_callV X164 C (own_w hw 43 rfl) (own_w hw 44 rfl) (own_w hw 46 rfl) (own_w hw 45 rfl) (own_w hw 7 rfl) (own_w hw 47 rfl) (by decide) P.1 (own_conv (w' := (.int (0))) (own_rm_find l Z a0 hw b2 v2 v7 T8.heap kA nA lO lA rO rA wd.toInt64 (own_f1 (own_key wd.toInt64 v2 v4)) (own_g1 (own_key wd.toInt64 v2 v4)) 1 P (by rw [hk190]; exact (own_ok1a _))) (congrArg Value.int (by rw [hk190]; exact (own_find1a _ n1)))) eh164 own_pd_II_R_I [(.int v2), (.int v7)] rfl rfl rfl rfl 0 rfl (by decide) (by decide) (by decide) (by decide) at_334 337 rfl (fun T191 L191 v191 X191 q191 => ?_)
                                          obtain ⟨rfl, eh191, rfl⟩ := q191
                                          have N191 := Fr.app N164 (Fr.nil h.size)
                                          refine own_iload X191 C at_337 339 rfl rfl ?_
                                          refine own_icmpne X191 C at_339 342 346 rfl (by decide) (by decide) (i := 0) (by decide) (j := 0) (by decide) (fun b192 => ?_) (fun b192 => ?_)
                                          · exfalso
                                            omega
                                          · refine own_iconst X191 C at_342 343 rfl (1) rfl ?_
                                            refine own_goto X191 C at_343 347 (by decide) (by decide) ?_
                                            refine own_istore X191 C at_347 349 rfl #[.val (.int ia0), .val (.int ia1), .val (.int ia2), .val (.int ia3), .val (.int ia4), .val (.int ia5), .val (.int wd), .val (.int v2), .val (.int v4), .val (.int v5), .val (.int v7), .val (.ref b2), .val (.int (1 : Int32)), .val (.int (0 : Int32)), .val (.int (1 : Int32)), .val (.int (0 : Int32)), .val (.int (0 : Int32)), .val (.int v2), .val (.int v7), .val (.int (0 : Int32))] rfl ?_
                                            refine own_iload X191 C at_349 351 rfl rfl ?_
                                            refine own_ifeq X191 C at_351 354 370 rfl (by decide) (by decide) (i := 1) (by decide) (fun b193 => ?_) (fun b193 => ?_)
                                            · exfalso
                                              omega
                                            · refine own_aload X191 C at_354 356 rfl rfl rfl ?_
                                              have P' := P
                                              obtain ⟨-, -, -, Fl, -, -, -, -, ⟨gl, I0⟩, -⟩ := P'
                                              refine own_callV X191 C (own_w hw 74 rfl) (own_w hw 58 rfl) (own_w hw 60 rfl) (own_w hw 59 rfl) (own_w hw 7 rfl) (own_w hw 61 rfl) (by decide) P.1 (own_rm_psize l Z a0 hw b2 T8.heap lO lA 1 gl Fl I0) eh191 own_pd__R_I [] rfl rfl rfl rfl 0 rfl (by decide) (by decide) (by decide) (by decide) at_356 359 rfl (fun T194 L194 v194 X194 q194 => ?_)
                                              obtain ⟨⟨_, rfl, z194, rfl, hz194⟩, eh194, rfl⟩ := q194
                                              have N194 := Fr.app N191 (Fr.nil h.size)
                                              refine own_iload X194 C at_359 361 rfl rfl ?_
                                              refine own_iconst X194 C at_361 362 rfl (1) rfl ?_
                                              refine own_iadd X194 C at_362 363 rfl (fun v29 ev29 => ?_)
                                              obtain rfl : v29 = (1 : Int32) := ev29.trans (by decide)
                                              refine own_icmpne X194 C at_363 366 370 rfl (by decide) (by decide) (i := z194.toInt) rfl (j := 1) (by decide) (fun b195 => ?_) (fun b195 => ?_)
                                              · exfalso
                                                omega
                                              · refine own_iconst X194 C at_366 367 rfl (1) rfl ?_
                                                refine own_goto X194 C at_367 371 (by decide) (by decide) ?_
                                                refine own_istore X194 C at_371 373 rfl #[.val (.int ia0), .val (.int ia1), .val (.int ia2), .val (.int ia3), .val (.int ia4), .val (.int ia5), .val (.int wd), .val (.int v2), .val (.int v4), .val (.int v5), .val (.int v7), .val (.ref b2), .val (.int (1 : Int32)), .val (.int (0 : Int32)), .val (.int (1 : Int32)), .val (.int (0 : Int32)), .val (.int (0 : Int32)), .val (.int v2), .val (.int v7), .val (.int (0 : Int32))] rfl ?_
                                                refine own_iload X194 C at_373 375 rfl rfl ?_
                                                refine own_iretN X194 C .boolean rfl (by simp) at_375 (by decide) (by decide) (1) (by decide) ?_
                                                exact ⟨rfl, N194⟩
                                  · refine own_iload X164 C at_270 272 rfl rfl ?_
                                    refine own_goto X164 C at_272 277 (by decide) (by decide) ?_
                                    refine own_istore X164 C at_277 279 rfl #[.val (.int ia0), .val (.int ia1), .val (.int ia2), .val (.int ia3), .val (.int ia4), .val (.int ia5), .val (.int wd), .val (.int v2), .val (.int v4), .val (.int v5), .val (.int v7), .val (.ref b2), .val (.int (1 : Int32)), .val (.int (0 : Int32)), .val (.int (1 : Int32)), .val (.int (0 : Int32)), .val (.int (0 : Int32)), .val (.int v2), .val (.int v4), .unset] rfl ?_
                                    refine own_iload X164 C at_279 281 rfl rfl ?_
                                    refine own_iload X164 C at_281 283 rfl rfl ?_
                                    refine own_icmpne X164 C at_283 286 299 rfl (by decide) (by decide) (i := v2.toInt) rfl (j := v2.toInt) rfl (fun b196 => ?_) (fun b196 => ?_)
                                    · exfalso
                                      omega
                                    · refine own_iload X164 C at_286 288 rfl rfl ?_
                                      refine own_iload X164 C at_288 290 rfl rfl ?_
                                      refine own_icmpne X164 C at_290 293 299 rfl (by decide) (by decide) (i := v4.toInt) rfl (j := v4.toInt) rfl (fun b197 => ?_) (fun b197 => ?_)
                                      · exfalso
                                        omega
                                      · refine own_iconst X164 C at_293 294 rfl (0) rfl ?_
                                        refine own_istore X164 C at_294 296 rfl #[.val (.int ia0), .val (.int ia1), .val (.int ia2), .val (.int ia3), .val (.int ia4), .val (.int ia5), .val (.int wd), .val (.int v2), .val (.int v4), .val (.int v5), .val (.int v7), .val (.ref b2), .val (.int (1 : Int32)), .val (.int (0 : Int32)), .val (.int (1 : Int32)), .val (.int (0 : Int32)), .val (.int (0 : Int32)), .val (.int v2), .val (.int v4), .val (.int (0 : Int32))] rfl ?_
                                        refine own_goto X164 C at_296 323 (by decide) (by decide) ?_
                                        refine own_iload X164 C at_323 325 rfl rfl ?_
                                        refine own_ifeq X164 C at_325 328 346 rfl (by decide) (by decide) (i := 1) (by decide) (fun b198 => ?_) (fun b198 => ?_)
                                        · exfalso
                                          omega
                                        · refine own_aload X164 C at_328 330 rfl rfl rfl ?_
                                          refine own_iload X164 C at_330 332 rfl rfl ?_
                                          refine own_iload X164 C at_332 334 rfl rfl ?_
                                          have hk199 : own_key wd.toInt64 v2 v4 = (own_key wd.toInt64 v2 v4) := own_keyc (by omega) (by omega)
                                          refine own_callV X164 C (own_w hw 43 rfl) (own_w hw 44 rfl) (own_w hw 46 rfl) (own_w hw 45 rfl) (own_w hw 7 rfl) (own_w hw 47 rfl) (by decide) P.1 (own_conv (w' := (.int (0))) (own_rm_find l Z a0 hw b2 v2 v4 T8.heap kA nA lO lA rO rA wd.toInt64 (own_f1 (own_key wd.toInt64 v2 v4)) (own_g1 (own_key wd.toInt64 v2 v4)) 1 P (by rw [hk199]; exact (own_ok1a _))) (congrArg Value.int (by rw [hk199]; exact (own_find1a _ n1)))) eh164 own_pd_II_R_I [(.int v2), (.int v4)] rfl rfl rfl rfl 0 rfl (by decide) (by decide) (by decide) (by decide) at_334 337 rfl (fun T200 L200 v200 X200 q200 => ?_)
                                          obtain ⟨rfl, eh200, rfl⟩ := q200
                                          have N200 := Fr.app N164 (Fr.nil h.size)
                                          refine own_iload X200 C at_337 339 rfl rfl ?_
                                          refine own_icmpne X200 C at_339 342 346 rfl (by decide) (by decide) (i := 0) (by decide) (j := 0) (by decide) (fun b201 => ?_) (fun b201 => ?_)
                                          · exfalso
                                            omega
                                          · refine own_iconst X200 C at_342 343 rfl (1) rfl ?_
                                            refine own_goto X200 C at_343 347 (by decide) (by decide) ?_
                                            refine own_istore X200 C at_347 349 rfl #[.val (.int ia0), .val (.int ia1), .val (.int ia2), .val (.int ia3), .val (.int ia4), .val (.int ia5), .val (.int wd), .val (.int v2), .val (.int v4), .val (.int v5), .val (.int v7), .val (.ref b2), .val (.int (1 : Int32)), .val (.int (0 : Int32)), .val (.int (1 : Int32)), .val (.int (0 : Int32)), .val (.int (0 : Int32)), .val (.int v2), .val (.int v4), .val (.int (0 : Int32))] rfl ?_
                                            refine own_iload X200 C at_349 351 rfl rfl ?_
                                            refine own_ifeq X200 C at_351 354 370 rfl (by decide) (by decide) (i := 1) (by decide) (fun b202 => ?_) (fun b202 => ?_)
                                            · exfalso
                                              omega
                                            · refine own_aload X200 C at_354 356 rfl rfl rfl ?_
                                              have P' := P
                                              obtain ⟨-, -, -, Fl, -, -, -, -, ⟨gl, I0⟩, -⟩ := P'
                                              refine own_callV X200 C (own_w hw 74 rfl) (own_w hw 58 rfl) (own_w hw 60 rfl) (own_w hw 59 rfl) (own_w hw 7 rfl) (own_w hw 61 rfl) (by decide) P.1 (own_rm_psize l Z a0 hw b2 T8.heap lO lA 1 gl Fl I0) eh200 own_pd__R_I [] rfl rfl rfl rfl 0 rfl (by decide) (by decide) (by decide) (by decide) at_356 359 rfl (fun T203 L203 v203 X203 q203 => ?_)
                                              obtain ⟨⟨_, rfl, z203, rfl, hz203⟩, eh203, rfl⟩ := q203
                                              have N203 := Fr.app N200 (Fr.nil h.size)
                                              refine own_iload X203 C at_359 361 rfl rfl ?_
                                              refine own_iconst X203 C at_361 362 rfl (1) rfl ?_
                                              refine own_iadd X203 C at_362 363 rfl (fun v30 ev30 => ?_)
                                              obtain rfl : v30 = (1 : Int32) := ev30.trans (by decide)
                                              refine own_icmpne X203 C at_363 366 370 rfl (by decide) (by decide) (i := z203.toInt) rfl (j := 1) (by decide) (fun b204 => ?_) (fun b204 => ?_)
                                              · exfalso
                                                omega
                                              · refine own_iconst X203 C at_366 367 rfl (1) rfl ?_
                                                refine own_goto X203 C at_367 371 (by decide) (by decide) ?_
                                                refine own_istore X203 C at_371 373 rfl #[.val (.int ia0), .val (.int ia1), .val (.int ia2), .val (.int ia3), .val (.int ia4), .val (.int ia5), .val (.int wd), .val (.int v2), .val (.int v4), .val (.int v5), .val (.int v7), .val (.ref b2), .val (.int (1 : Int32)), .val (.int (0 : Int32)), .val (.int (1 : Int32)), .val (.int (0 : Int32)), .val (.int (0 : Int32)), .val (.int v2), .val (.int v4), .val (.int (0 : Int32))] rfl ?_
                                                refine own_iload X203 C at_373 375 rfl rfl ?_
                                                refine own_iretN X203 C .boolean rfl (by simp) at_375 (by decide) (by decide) (1) (by decide) ?_
                                                exact ⟨rfl, N203⟩
set_option maxRecDepth 65536 in
set_option maxHeartbeats 4000000 in
theorem own_comes_1 {Post : Tables → Env → Array Value → State → Outcome → State → Prop} (hpost : ∀ tb e args s v u, (limb_1_1.after args s (.returned v) u = true ∧ limb_1_2.after args s (.returned v) u = true ∧ True) → FrameEnd s (.returned v) u (Jvm.fieldLocs frame_1_writes args s ++ Jvm.arrayLocs frame_1_arrays args s ++ Jvm.staticLocs frame_1_statics s) 24 256 → Post tb e args s (.returned v) u) :
    ArmFor flags0 classFile x code maxLocals ret World_1 tables_1 room_1 Calls_1 rest_1 Pre_1 Post := by
  intro l hfl _ _ p e ha hc hk s m args below hf hA hF happ hP
  obtain ⟨hcalls, hrest, hpre⟩ := hP
  obtain ⟨-, -, -, hnamed, -, -, -, hat⟩ := (Spec.applies_iff hf).mp happ
  obtain ⟨hg, hn⟩ := and_e (Cond.before_iff.mp (show (Jvm.Cond.and given_1 narrow_1).before args s = true from hpre))
  obtain ⟨g0, g0r⟩ := and_e hg
  obtain ⟨g1, g1r⟩ := and_e g0r
  obtain ⟨g2, g2r⟩ := and_e g1r
  obtain ⟨g3, g3r⟩ := and_e g2r
  obtain ⟨g4, g4r⟩ := and_e g3r
  obtain ⟨g5, g5r⟩ := and_e g4r
  obtain ⟨w0, w1, w2, w3, w4, w5, rfl⟩ : ∃ w0 w1 w2 w3 w4 w5 : Value, args = #[w0, w1, w2, w3, w4, w5] := by
    have hs : args.size = 6 := by simpa [Cond.value, given_1] using g0
    obtain ⟨L⟩ := args
    match L, hs with
    | [w0, w1, w2, w3, w4, w5], _ => exact ⟨w0, w1, w2, w3, w4, w5, rfl⟩
  have hw := fun d (hd : d ∈ tables_1) => atoms_spec (ws := Jvm.Cond.code x code maxLocals ret :: tables_1) hat d (List.mem_cons_of_mem _ hd)
  have hfit : Fit s := fun {y c} hc i hi => by
    obtain ⟨ha, rfl⟩ := Array.getElem?_eq_some_iff.mp hc
    have q := List.all_eq_true.mp ((Array.all_eq_true_iff_forall_mem.mp hF) _ (Array.getElem_mem ha)) i (List.mem_range.mpr hi)
    simpa [Array.getElem?_eq_getElem hi] using q
  obtain ⟨i0, q0⟩ := is_v g1
  obtain rfl : w0 = (.int i0) := Option.some.inj q0
  obtain ⟨i1, q1⟩ := is_v g2
  obtain rfl : w1 = (.int i1) := Option.some.inj q1
  obtain ⟨i2, q2⟩ := is_v g3
  obtain rfl : w2 = (.int i2) := Option.some.inj q2
  obtain ⟨i3, q3⟩ := is_v g4
  obtain rfl : w3 = (.int i3) := Option.some.inj q3
  obtain ⟨i4, q4⟩ := is_v g5
  obtain rfl : w4 = (.int i4) := Option.some.inj q4
  obtain ⟨i5, q5⟩ := is_v g5r
  obtain rfl : w5 = (.int i5) := Option.some.inj q5
  obtain ⟨n, o, h1, h2, h3, _, L, rfl, ⟨rfl, N⟩, hq⟩ := own_rm_law l s _ hw i0 i1 i2 i3 i4 i5 s.heap p e ha hc hk s m _ below hf ((Spec.applies_iff_loose hf).mp happ).1 ⟨rfl, State.Warmed39.refl s, rfl⟩ trivial
  refine ⟨n, _, h1, h2, h3, hpost _ _ _ _ _ _ ⟨Cond.after_iff.mpr rfl, Cond.after_iff.mpr (eq_i res_at (Term.int_eval (1)) rfl), trivial⟩ ⟨hq.1, hq.2.1, (hq.2.2.sift fun y hy => Or.inr (N y hy)).mono (by decide) (by decide)⟩⟩
theorem main_1_1 : Claimed_1_1 := own_comes_1 fun _ _ _ _ _ _ h hF => ⟨h.1, hF⟩
theorem main_1_2 : Claimed_1_2 := own_comes_1 fun _ _ _ _ _ _ h hF => ⟨h.2.1, hF⟩
end Jvm.Pilot.@@N@@
namespace Jvm.Pilot.@@N@@
open Jvm Jvm.ClassFile Sem Op Lib Jvm.Free Jvm.Stand Jvm.Pilot.@@N@@.Jvm.D
/-! MADE BY PROGRAM (witnessworld.py) out of the Statement's table words and the real class files: 14 classes; the members and pool entries that the words name. The judged class is class 1, her method 1. -/
namespace start1
open Jvm.ClassFile
def u (s : String) : CpInfo := .utf8 (stringToUtf16 s)
/-- a pool by its gaps: so many unusable entries, then the entry; so many at the end -/
def gap : Nat → List CpInfo → List CpInfo
  | 0, r => r
  | n + 1, r => .unusable :: gap n r
def poolList (es : List (Nat × CpInfo)) (last : Nat) : List CpInfo := es.foldr (fun e r => gap e.1 (e.2 :: r)) (gap last [])
def pool (es : List (Nat × CpInfo)) (last : Nat) : Array CpInfo := ⟨poolList es last⟩
def fileOf (pool : Array CpInfo) (this : Nat) (attrs : Array Attribute := #[]) (ms : Array MethodInfo := #[]) (fl : Nat := 33) (sup : Nat := 0) (ifs : Array Nat := #[]) (fds : Array FieldInfo := #[]) : ClassFile where
  minorVersion := 0
  majorVersion := 65
  constantPool := pool
  accessFlags := fl
  thisClass := this
  superClass := sup
  interfaces := ifs
  fields := fds
  methods := ms
  attributes := attrs
def plain (name : String) (sup : Option ClassId) : Class where
  name := name
  kind := .ordinary
  loader := none
  accessFlags := 33
  super := sup
  interfaces := #[]
  cf := none
  fields := #[]
  methods := #[]
  instanceTypes := #[]
  staticTypes := #[]
  resolved := #[]
  callSites := []
  init := .initialized
  statics := none
  mirror := none

def pool0 : Array CpInfo := pool [(5, u "<init>"), (0, u "()V"), (1, .class_ 10), (1, u "java/lang/Object")] 113

def k0c0 : Code := { maxStack := 0, maxLocals := 1, code := object_method_1_code, exceptionTable := #[], attributes := #[] }
def k0m0 : Method := { name := "<init>", desc := "()V", sig := { parameters := [], returnType := none }, accessFlags := 1, code := some k0c0 }
/-- java/lang/Object -/
def k0 : Class := { plain "java/lang/Object" none with
  accessFlags := 33
  interfaces := #[]
  cf := some (fileOf pool0 8 #[] #[{ accessFlags := 1, nameIndex := 5, descriptorIndex := 6, attributes := #[] }] 33 0 #[] #[])
  fields := #[]
  methods := #[k0m0]
  instanceTypes := #[]
  staticTypes := #[]
  resolved := Array.replicate 124 none
  statics := none }

def pool1 : Array CpInfo := pool [(2, .class_ 4), (1, u "java/lang/Object"), (0, u "<init>"), (0, u "()V"), (0, .integer 2147483647), (0, .methodref 9 10), (0, .class_ 11), (0, .nameAndType 12 13), (0, u "java/lang/Math"), (0, u "max"), (0, u "(II)I"), (0, .class_ 15), (0, u "com/example/subsumer/subsumer/Pairs"), (0, .methodref 14 17), (0, .nameAndType 5 18), (0, u "(I)V"), (0, .methodref 14 20), (0, .nameAndType 21 13), (0, u "find"), (0, .methodref 14 23), (0, .nameAndType 24 13), (0, u "number"), (0, .methodref 14 26), (0, .nameAndType 27 28), (0, u "size"), (0, u "()I"), (0, .class_ 30), (0, u "com/example/subsumer/subsumer/PairsFindPinLaw"), (2, u "law"), (0, u "(IIIIII)Z")] 3

def k1m0 : Method := { name := "<init>", desc := "()V", sig := { parameters := [], returnType := none }, accessFlags := 1, code := none }
def k1c1 : Code := { maxStack := 3, maxLocals := 20, code := code, exceptionTable := #[], attributes := #[] }
def k1m1 : Method := { name := "law", desc := "(IIIIII)Z", sig := { parameters := [.int, .int, .int, .int, .int, .int], returnType := some .boolean }, accessFlags := 9, code := some k1c1 }
/-- com/example/subsumer/subsumer/PairsFindPinLaw -/
def k1 : Class := { plain "com/example/subsumer/subsumer/PairsFindPinLaw" (some 0) with
  accessFlags := 49
  interfaces := #[]
  cf := some (fileOf pool1 29 #[] #[{ accessFlags := 1, nameIndex := 5, descriptorIndex := 6, attributes := #[] }, { accessFlags := 9, nameIndex := 33, descriptorIndex := 34, attributes := #[] }] 49 2 #[] #[])
  fields := #[]
  methods := #[k1m0, k1m1]
  instanceTypes := #[]
  staticTypes := #[]
  resolved := Array.replicate 38 none
  statics := none }

def pool2 : Array CpInfo := pool [(1, .class_ 2), (0, u "java/lang/Math"), (1, .class_ 6), (1, u "java/lang/Object"), (0, u "<init>"), (0, u "()V"), (89, .class_ 100), (1, u "java/lang/Math$RandomNumberGeneratorHolder"), (71, u "negativeZeroFloatBits"), (0, u "J"), (2, u "negativeZeroDoubleBits"), (21, u "max"), (46, u "$assertionsDisabled"), (0, u "Z"), (88, u "(II)I"), (2, u "twoToTheDoubleScaleDown"), (0, u "D"), (4, u "twoToTheDoubleScaleUp"), (9, u "E"), (3, u "PI"), (2, u "TAU"), (2, u "DEGREES_TO_RADIANS"), (0, u "RADIANS_TO_DEGREES")] 94

def k2m0 : Method := { name := "<init>", desc := "()V", sig := { parameters := [], returnType := none }, accessFlags := 2, code := none }
def k2c1 : Code := { maxStack := 2, maxLocals := 2, code := jdk_29_method_65_code, exceptionTable := #[], attributes := #[] }
def k2m1 : Method := { name := "max", desc := "(II)I", sig := { parameters := [.int, .int], returnType := some .int }, accessFlags := 9, code := some k2c1 }
/-- java/lang/Math -/
def k2 : Class := { plain "java/lang/Math" (some 0) with
  accessFlags := 49
  interfaces := #[]
  cf := some (fileOf pool2 1 #[.nestMembers #[98]] #[{ accessFlags := 2, nameIndex := 7, descriptorIndex := 8, attributes := #[] }, { accessFlags := 9, nameIndex := 198, descriptorIndex := 335, attributes := #[] }] 49 4 #[] #[{ accessFlags := 25, nameIndex := 354, descriptorIndex := 339, attributes := #[] }, { accessFlags := 25, nameIndex := 358, descriptorIndex := 339, attributes := #[] }, { accessFlags := 25, nameIndex := 361, descriptorIndex := 339, attributes := #[] }, { accessFlags := 26, nameIndex := 364, descriptorIndex := 339, attributes := #[] }, { accessFlags := 26, nameIndex := 365, descriptorIndex := 339, attributes := #[] }, { accessFlags := 26, nameIndex := 172, descriptorIndex := 173, attributes := #[] }, { accessFlags := 26, nameIndex := 176, descriptorIndex := 173, attributes := #[] }, { accessFlags := 8, nameIndex := 344, descriptorIndex := 339, attributes := #[] }, { accessFlags := 8, nameIndex := 338, descriptorIndex := 339, attributes := #[] }, { accessFlags := 4120, nameIndex := 245, descriptorIndex := 246, attributes := #[] }])
  fields := #[{ name := "E", type := .double, accessFlags := 25, slot := 0, constantValue := 0 }, { name := "PI", type := .double, accessFlags := 25, slot := 1, constantValue := 0 }, { name := "TAU", type := .double, accessFlags := 25, slot := 2, constantValue := 0 }, { name := "DEGREES_TO_RADIANS", type := .double, accessFlags := 26, slot := 3, constantValue := 0 }, { name := "RADIANS_TO_DEGREES", type := .double, accessFlags := 26, slot := 4, constantValue := 0 }, { name := "negativeZeroFloatBits", type := .long, accessFlags := 26, slot := 5, constantValue := 0 }, { name := "negativeZeroDoubleBits", type := .long, accessFlags := 26, slot := 6, constantValue := 0 }, { name := "twoToTheDoubleScaleUp", type := .double, accessFlags := 8, slot := 7, constantValue := 0 }, { name := "twoToTheDoubleScaleDown", type := .double, accessFlags := 8, slot := 8, constantValue := 0 }, { name := "$assertionsDisabled", type := .boolean, accessFlags := 4120, slot := 9, constantValue := 0 }]
  methods := #[k2m0, k2m1]
  instanceTypes := #[]
  staticTypes := #[.double, .double, .double, .double, .double, .long, .long, .double, .double, .boolean]
  resolved := Array.replicate 460 none
  statics := none }

def pool3 : Array CpInfo := pool [(1, .methodref 2 3), (0, .class_ 4), (0, .nameAndType 5 6), (0, u "java/lang/Object"), (0, u "<init>"), (0, u "()V"), (0, .class_ 8), (0, u "com/example/subsumer/subsumer/Pairs"), (0, .methodref 7 10), (0, .nameAndType 11 12), (0, u "newKeys"), (0, u "(I)[J"), (0, .fieldref 7 14), (0, .nameAndType 15 16), (0, u "keys"), (0, u "[J"), (0, .fieldref 7 18), (0, .nameAndType 19 20), (0, u "numbers"), (0, u "[I"), (0, .class_ 22), (0, u "com/example/subsumer/subsumer/Ints"), (0, .methodref 21 3), (0, .fieldref 7 25), (0, .nameAndType 26 27), (0, u "lefts"), (0, u "Lcom/example/subsumer/subsumer/Ints;"), (0, .fieldref 7 29), (0, .nameAndType 30 27), (0, u "rights"), (0, .fieldref 7 32), (0, .nameAndType 33 34), (0, u "width"), (0, u "J"), (0, .methodref 21 36), (0, .nameAndType 37 38), (0, u "size"), (0, u "()I"), (4, .long 18446744073709551615), (1, .methodref 46 47), (0, .class_ 48), (0, .nameAndType 49 50), (0, u "java/util/Arrays"), (0, u "fill"), (0, u "([JJ)V"), (3, .methodref 7 55), (0, .nameAndType 56 57), (0, u "slotOf"), (0, u "(J[J)I"), (0, .methodref 7 36), (0, .methodref 21 60), (0, .nameAndType 61 62), (0, u "add"), (0, u "(I)V"), (3, .long 11400714819323198485), (1, u "NONE"), (1, u "FIRST_LENGTH"), (0, u "I"), (6, u "find"), (0, u "(II)I"), (0, u "number")] 4

def k3c0 : Code := { maxStack := 3, maxLocals := 2, code := prog_43_method_1_code, exceptionTable := #[], attributes := #[] }
def k3m0 : Method := { name := "<init>", desc := "(I)V", sig := { parameters := [.int], returnType := none }, accessFlags := 0, code := some k3c0 }
def k3c1 : Code := { maxStack := 1, maxLocals := 1, code := prog_43_method_2_code, exceptionTable := #[], attributes := #[] }
def k3m1 : Method := { name := "size", desc := "()I", sig := { parameters := [], returnType := some .int }, accessFlags := 0, code := some k3c1 }
def k3c2 : Code := { maxStack := 4, maxLocals := 6, code := prog_43_method_6_code, exceptionTable := #[], attributes := #[] }
def k3m2 : Method := { name := "find", desc := "(II)I", sig := { parameters := [.int, .int], returnType := some .int }, accessFlags := 0, code := some k3c2 }
def k3c3 : Code := { maxStack := 4, maxLocals := 7, code := prog_43_method_7_code, exceptionTable := #[], attributes := #[] }
def k3m3 : Method := { name := "number", desc := "(II)I", sig := { parameters := [.int, .int], returnType := some .int }, accessFlags := 0, code := some k3c3 }
def k3c4 : Code := { maxStack := 4, maxLocals := 4, code := prog_43_method_9_code, exceptionTable := #[], attributes := #[] }
def k3m4 : Method := { name := "slotOf", desc := "(J[J)I", sig := { parameters := [.long, (.array .long)], returnType := some .int }, accessFlags := 10, code := some k3c4 }
def k3c5 : Code := { maxStack := 3, maxLocals := 2, code := prog_43_method_10_code, exceptionTable := #[], attributes := #[] }
def k3m5 : Method := { name := "newKeys", desc := "(I)[J", sig := { parameters := [.int], returnType := some (.array .long) }, accessFlags := 10, code := some k3c5 }
/-- com/example/subsumer/subsumer/Pairs -/
def k3 : Class := { plain "com/example/subsumer/subsumer/Pairs" (some 0) with
  accessFlags := 32
  interfaces := #[]
  cf := some (fileOf pool3 7 #[] #[{ accessFlags := 0, nameIndex := 5, descriptorIndex := 62, attributes := #[] }, { accessFlags := 0, nameIndex := 37, descriptorIndex := 38, attributes := #[] }, { accessFlags := 0, nameIndex := 78, descriptorIndex := 79, attributes := #[] }, { accessFlags := 0, nameIndex := 80, descriptorIndex := 79, attributes := #[] }, { accessFlags := 10, nameIndex := 56, descriptorIndex := 57, attributes := #[] }, { accessFlags := 10, nameIndex := 11, descriptorIndex := 12, attributes := #[] }] 32 2 #[] #[{ accessFlags := 26, nameIndex := 68, descriptorIndex := 34, attributes := #[] }, { accessFlags := 26, nameIndex := 70, descriptorIndex := 71, attributes := #[] }, { accessFlags := 18, nameIndex := 33, descriptorIndex := 34, attributes := #[] }, { accessFlags := 2, nameIndex := 15, descriptorIndex := 16, attributes := #[] }, { accessFlags := 2, nameIndex := 19, descriptorIndex := 20, attributes := #[] }, { accessFlags := 18, nameIndex := 26, descriptorIndex := 27, attributes := #[] }, { accessFlags := 18, nameIndex := 30, descriptorIndex := 27, attributes := #[] }])
  fields := #[{ name := "NONE", type := .long, accessFlags := 26, slot := 0, constantValue := 0 }, { name := "FIRST_LENGTH", type := .int, accessFlags := 26, slot := 1, constantValue := 0 }, { name := "width", type := .long, accessFlags := 18, slot := 0, constantValue := 0 }, { name := "keys", type := (.array .long), accessFlags := 2, slot := 1, constantValue := 0 }, { name := "numbers", type := (.array .int), accessFlags := 2, slot := 2, constantValue := 0 }, { name := "lefts", type := (.object "com/example/subsumer/subsumer/Ints"), accessFlags := 18, slot := 3, constantValue := 0 }, { name := "rights", type := (.object "com/example/subsumer/subsumer/Ints"), accessFlags := 18, slot := 4, constantValue := 0 }]
  methods := #[k3m0, k3m1, k3m2, k3m3, k3m4, k3m5]
  instanceTypes := #[.long, (.array .long), (.array .int), (.object "com/example/subsumer/subsumer/Ints"), (.object "com/example/subsumer/subsumer/Ints")]
  staticTypes := #[.long, .int]
  resolved := Array.replicate 85 none
  statics := none }

def pool4 : Array CpInfo := pool [(2, .class_ 4), (1, u "java/lang/Object"), (0, u "<init>"), (0, u "()V"), (7, .class_ 16), (1, u "java/util/Arrays"), (57, .class_ 76), (1, u "java/util/Arrays$NaturalOrder"), (36, .class_ 115), (1, u "java/util/Arrays$LegacyMergeSort"), (1, u "Z"), (257, .class_ 376), (0, u "java/util/Arrays$ArrayList"), (68, u "$assertionsDisabled"), (269, u "MIN_ARRAY_SORT_GRAN"), (0, u "I"), (2, u "INSERTIONSORT_THRESHOLD"), (120, u "fill"), (0, u "([JJ)V"), (133, .class_ 976), (0, u "java/util/Arrays$ArrayItr")] 52

def k4m0 : Method := { name := "<init>", desc := "()V", sig := { parameters := [], returnType := none }, accessFlags := 2, code := none }
def k4c1 : Code := { maxStack := 4, maxLocals := 5, code := jdk_65_method_101_code, exceptionTable := #[], attributes := #[] }
def k4m1 : Method := { name := "fill", desc := "([JJ)V", sig := { parameters := [(.array .long), .long], returnType := none }, accessFlags := 9, code := some k4c1 }
/-- java/util/Arrays -/
def k4 : Class := { plain "java/util/Arrays" (some 0) with
  accessFlags := 49
  interfaces := #[]
  cf := some (fileOf pool4 14 #[.nestMembers #[975, 375, 113, 74]] #[{ accessFlags := 2, nameIndex := 5, descriptorIndex := 6, attributes := #[] }, { accessFlags := 9, nameIndex := 840, descriptorIndex := 841, attributes := #[] }] 49 2 #[] #[{ accessFlags := 26, nameIndex := 715, descriptorIndex := 716, attributes := #[] }, { accessFlags := 26, nameIndex := 719, descriptorIndex := 716, attributes := #[] }, { accessFlags := 4120, nameIndex := 445, descriptorIndex := 117, attributes := #[] }])
  fields := #[{ name := "MIN_ARRAY_SORT_GRAN", type := .int, accessFlags := 26, slot := 0, constantValue := 0 }, { name := "INSERTIONSORT_THRESHOLD", type := .int, accessFlags := 26, slot := 1, constantValue := 0 }, { name := "$assertionsDisabled", type := .boolean, accessFlags := 4120, slot := 2, constantValue := 0 }]
  methods := #[k4m0, k4m1]
  instanceTypes := #[]
  staticTypes := #[.int, .int, .boolean]
  resolved := Array.replicate 1029 none
  statics := none }

def pool5 : Array CpInfo := pool [(1, .methodref 2 3), (0, .class_ 4), (0, .nameAndType 5 6), (0, u "java/lang/Object"), (0, u "<init>"), (0, u "()V"), (0, .fieldref 8 9), (0, .class_ 10), (0, .nameAndType 11 12), (0, u "com/example/subsumer/subsumer/Ints"), (0, u "values"), (0, u "[I"), (0, .fieldref 8 14), (0, .nameAndType 15 16), (0, u "size"), (0, u "I"), (8, u "()I"), (4, u "add"), (0, u "(I)V")] 5

def k5c0 : Code := { maxStack := 2, maxLocals := 1, code := prog_35_method_1_code, exceptionTable := #[], attributes := #[] }
def k5m0 : Method := { name := "<init>", desc := "()V", sig := { parameters := [], returnType := none }, accessFlags := 0, code := some k5c0 }
def k5c1 : Code := { maxStack := 1, maxLocals := 1, code := prog_35_method_2_code, exceptionTable := #[], attributes := #[] }
def k5m1 : Method := { name := "size", desc := "()I", sig := { parameters := [], returnType := some .int }, accessFlags := 0, code := some k5c1 }
def k5c2 : Code := { maxStack := 5, maxLocals := 2, code := prog_35_method_5_code, exceptionTable := #[], attributes := #[] }
def k5m2 : Method := { name := "add", desc := "(I)V", sig := { parameters := [.int], returnType := none }, accessFlags := 0, code := some k5c2 }
/-- com/example/subsumer/subsumer/Ints -/
def k5 : Class := { plain "com/example/subsumer/subsumer/Ints" (some 0) with
  accessFlags := 32
  interfaces := #[]
  cf := some (fileOf pool5 8 #[] #[{ accessFlags := 0, nameIndex := 5, descriptorIndex := 6, attributes := #[] }, { accessFlags := 0, nameIndex := 15, descriptorIndex := 25, attributes := #[] }, { accessFlags := 0, nameIndex := 30, descriptorIndex := 31, attributes := #[] }] 32 2 #[] #[{ accessFlags := 2, nameIndex := 11, descriptorIndex := 12, attributes := #[] }, { accessFlags := 2, nameIndex := 15, descriptorIndex := 16, attributes := #[] }])
  fields := #[{ name := "values", type := (.array .int), accessFlags := 2, slot := 0, constantValue := 0 }, { name := "size", type := .int, accessFlags := 2, slot := 1, constantValue := 0 }]
  methods := #[k5m0, k5m1, k5m2]
  instanceTypes := #[(.array .int), .int]
  staticTypes := #[]
  resolved := Array.replicate 37 none
  statics := none }

def pool6 : Array CpInfo := pool [(1, u "java/lang/Cloneable"), (0, .class_ 1), (0, u "java/lang/Object"), (0, .class_ 3)] 3

/-- java/lang/Cloneable -/
def k6 : Class := { plain "java/lang/Cloneable" (some 0) with
  accessFlags := 1537
  interfaces := #[]
  cf := some (fileOf pool6 2 #[] #[] 1537 4 #[] #[])
  fields := #[]
  methods := #[]
  instanceTypes := #[]
  staticTypes := #[]
  resolved := Array.replicate 8 none
  statics := none }

def pool7 : Array CpInfo := pool [(1, u "java/io/Serializable"), (0, .class_ 1), (0, u "java/lang/Object"), (0, .class_ 3)] 3

/-- java/io/Serializable -/
def k7 : Class := { plain "java/io/Serializable" (some 0) with
  accessFlags := 1537
  interfaces := #[]
  cf := some (fileOf pool7 2 #[] #[] 1537 4 #[] #[])
  fields := #[]
  methods := #[]
  instanceTypes := #[]
  staticTypes := #[]
  resolved := Array.replicate 8 none
  statics := none }

/-- the primitive byte -/
def k8 : Class := { plain "byte" none with kind := .primitive 'B', accessFlags := 0x411 }
/-- [B -/
def k9 : Class := { plain "[B" (some 0) with kind := .array 8 .byte, interfaces := #[6, 7], accessFlags := 1041 }

/-- the primitive int -/
def k10 : Class := { plain "int" none with kind := .primitive 'I', accessFlags := 0x411 }
/-- [I -/
def k11 : Class := { plain "[I" (some 0) with kind := .array 10 .int, interfaces := #[6, 7], accessFlags := 1041 }

/-- the primitive long -/
def k12 : Class := { plain "long" none with kind := .primitive 'J', accessFlags := 0x411 }
/-- [J -/
def k13 : Class := { plain "[J" (some 0) with kind := .array 12 .long, interfaces := #[6, 7], accessFlags := 1041 }

def heap : Heap := #[]
def classes : Array Class := #[k0, k1, k2, k3, k4, k5, k6, k7, k8, k9, k10, k11, k12, k13]
def interned : List (Array UInt16 × Addr) := []
def slotsUsed : Nat := 0
def theMethod : MethodId := ⟨1, 1⟩
def args0 : Array Value := #[.int 7, .int 1, .int 2, .int 3, .int 4, .int 1]
def aboutOver (below : List Frame) : State where
  vm := { classes := classes, interned := interned.toArray }
  heap := heap
  slotsUsed := slotsUsed
  threads := #[{ frames := .invoking theMethod args0 :: below }]
def below0 : List Frame := [.native { method := ⟨0, 0⟩, args := #[] }]
def about1 : State := aboutOver below0
def p0 : Program := .bare "" "" ""
def e0 : Env := launch0.env 0 0 0
theorem w_frames : about1.frames = Frame.invoking theMethod args0 :: below0 := rfl
set_option maxRecDepth 65536 in
theorem w_args : argsFit about1.vm theMethod args0 = true := by decide +kernel
set_option maxRecDepth 65536 in
theorem w_heap : heapFits about1 = true := by decide +kernel
set_option maxRecDepth 65536 in
theorem w_runnable : about1.curStatus? = some .runnable := by decide +kernel
set_option maxRecDepth 65536 in
theorem w_alone : about1.alone = true := by decide +kernel
set_option maxRecDepth 65536 in
theorem w_named : about1.methodNamed? x = some theMethod := by decide +kernel
set_option maxRecDepth 65536 in
theorem w_hears : about1.hears theMethod below0 = true := by decide +kernel
set_option maxRecDepth 65536 in
theorem w_ripe : about1.ripe theMethod args0 below0 = true := by decide +kernel
theorem w_running : about1.status = .running := rfl
set_option maxRecDepth 65536 in
theorem w_room : about1.hasRoom e0.platform room_1 = true :=
  launch0.hasRoom_least _ room_1 (by decide +kernel) (by decide +kernel) (by decide +kernel) (by decide +kernel) (by decide +kernel) (by decide +kernel)
theorem allAtoms_all (ts : List Jvm.Cond) (a : Array Jvm.Value) (st : Jvm.State) : (allAtoms ts).before a st = ts.all (fun c => c.before a st) := by
  induction ts with
  | nil => rfl
  | cons c t ih =>
    show (Jvm.Cond.and c (allAtoms t)).before a st = _
    rw [Jvm.Cond.before_and, ih, List.all_cons]
def words1 : List Jvm.Cond := Jvm.Cond.code x code maxLocals ret :: tables_1
/-- a 'code' word, met by the world's own term for the bytes: nothing is compared byte by byte -/
theorem code_word {y : MethodName} {bytes : ByteArray} {mx : Nat} {rt : Option FieldType} {a : Array Value} {s : State} {m : MethodId} {meth : Method} {c : Code} (h1 : s.methodNamed? y = some m) (h2 : s.vm.method? m = some meth) (h3 : meth.code = some c) (h4 : c.code = bytes)
    (h5 : (c.maxLocals == mx && c.exceptionTable.isEmpty && decide (c.maxStack ≤ mostOperands) && decide (meth.sig.returnType = rt) && !meth.locks && decide (parseMethodDescriptor y.desc = some meth.sig)) = true) : (Jvm.Cond.code y bytes mx rt).before a s = true := by
  simp only [Bool.and_eq_true, beq_iff_eq, Bool.not_eq_true', decide_eq_true_eq] at h5
  obtain ⟨⟨⟨⟨⟨g1, g2⟩, g3⟩, g4⟩, g5⟩, g6⟩ := h5
  simp [Cond.before, Cond.holds, Cond.value, h1, h2, h3, h4, g1, g2, g3, g4, g5, g6]
def isCode : Jvm.Cond → Bool
  | .code _ _ _ _ => true
  | _ => false
theorem all_split {L : List Jvm.Cond} {P : Jvm.Cond → Bool} (h1 : L.all (fun c => isCode c || P c) = true) (h2 : ∀ c ∈ L.filter isCode, P c = true) : L.all P = true := by
  refine List.all_eq_true.mpr fun c hc => ?_
  have h := List.all_eq_true.mp h1 c hc
  rcases Bool.eq_false_or_eq_true (isCode c) with hi | hi
  · exact h2 c (List.mem_filter.mpr ⟨hc, hi⟩)
  · simpa [hi] using h
set_option maxRecDepth 65536 in
theorem w_c0 : (Jvm.Cond.code x code maxLocals ret).before args0 about1 = true := code_word (m := ⟨1, 1⟩) (meth := k1m1) (c := k1c1) (by decide +kernel) rfl rfl rfl (by decide +kernel)
set_option maxRecDepth 65536 in
theorem w_c1 : (Jvm.Cond.code ({ cls := "java/lang/Math", name := "max", desc := "(II)I" } : Jvm.MethodName) jdk_29_method_65_code (2 : Nat) (Option.some Jvm.ClassFile.FieldType.int)).before args0 about1 = true := code_word (m := ⟨2, 1⟩) (meth := k2m1) (c := k2c1) (by decide +kernel) rfl rfl rfl (by decide +kernel)
set_option maxRecDepth 65536 in
theorem w_c2 : (Jvm.Cond.code ({ cls := "com/example/subsumer/subsumer/Pairs", name := "<init>", desc := "(I)V" } : Jvm.MethodName) prog_43_method_1_code (2 : Nat) (Option.none : Option Jvm.ClassFile.FieldType)).before args0 about1 = true := code_word (m := ⟨3, 0⟩) (meth := k3m0) (c := k3c0) (by decide +kernel) rfl rfl rfl (by decide +kernel)
set_option maxRecDepth 65536 in
theorem w_c3 : (Jvm.Cond.code ({ cls := "java/lang/Object", name := "<init>", desc := "()V" } : Jvm.MethodName) object_method_1_code (1 : Nat) (Option.none : Option Jvm.ClassFile.FieldType)).before args0 about1 = true := code_word (m := ⟨0, 0⟩) (meth := k0m0) (c := k0c0) (by decide +kernel) rfl rfl rfl (by decide +kernel)
set_option maxRecDepth 65536 in
theorem w_c4 : (Jvm.Cond.code ({ cls := "com/example/subsumer/subsumer/Pairs", name := "newKeys", desc := "(I)[J" } : Jvm.MethodName) prog_43_method_10_code (2 : Nat) (Option.some (Jvm.ClassFile.FieldType.array Jvm.ClassFile.FieldType.long))).before args0 about1 = true := code_word (m := ⟨3, 5⟩) (meth := k3m5) (c := k3c5) (by decide +kernel) rfl rfl rfl (by decide +kernel)
set_option maxRecDepth 65536 in
theorem w_c5 : (Jvm.Cond.code ({ cls := "java/util/Arrays", name := "fill", desc := "([JJ)V" } : Jvm.MethodName) jdk_65_method_101_code (5 : Nat) (Option.none : Option Jvm.ClassFile.FieldType)).before args0 about1 = true := code_word (m := ⟨4, 1⟩) (meth := k4m1) (c := k4c1) (by decide +kernel) rfl rfl rfl (by decide +kernel)
set_option maxRecDepth 65536 in
theorem w_c6 : (Jvm.Cond.code ({ cls := "com/example/subsumer/subsumer/Ints", name := "<init>", desc := "()V" } : Jvm.MethodName) prog_35_method_1_code (1 : Nat) (Option.none : Option Jvm.ClassFile.FieldType)).before args0 about1 = true := code_word (m := ⟨5, 0⟩) (meth := k5m0) (c := k5c0) (by decide +kernel) rfl rfl rfl (by decide +kernel)
set_option maxRecDepth 65536 in
theorem w_c7 : (Jvm.Cond.code ({ cls := "com/example/subsumer/subsumer/Pairs", name := "find", desc := "(II)I" } : Jvm.MethodName) prog_43_method_6_code (6 : Nat) (Option.some Jvm.ClassFile.FieldType.int)).before args0 about1 = true := code_word (m := ⟨3, 2⟩) (meth := k3m2) (c := k3c2) (by decide +kernel) rfl rfl rfl (by decide +kernel)
set_option maxRecDepth 65536 in
theorem w_c8 : (Jvm.Cond.code ({ cls := "com/example/subsumer/subsumer/Pairs", name := "slotOf", desc := "(J[J)I" } : Jvm.MethodName) prog_43_method_9_code (4 : Nat) (Option.some Jvm.ClassFile.FieldType.int)).before args0 about1 = true := code_word (m := ⟨3, 4⟩) (meth := k3m4) (c := k3c4) (by decide +kernel) rfl rfl rfl (by decide +kernel)
set_option maxRecDepth 65536 in
theorem w_c9 : (Jvm.Cond.code ({ cls := "com/example/subsumer/subsumer/Pairs", name := "number", desc := "(II)I" } : Jvm.MethodName) prog_43_method_7_code (7 : Nat) (Option.some Jvm.ClassFile.FieldType.int)).before args0 about1 = true := code_word (m := ⟨3, 3⟩) (meth := k3m3) (c := k3c3) (by decide +kernel) rfl rfl rfl (by decide +kernel)
set_option maxRecDepth 65536 in
theorem w_c10 : (Jvm.Cond.code ({ cls := "com/example/subsumer/subsumer/Pairs", name := "size", desc := "()I" } : Jvm.MethodName) prog_43_method_2_code (1 : Nat) (Option.some Jvm.ClassFile.FieldType.int)).before args0 about1 = true := code_word (m := ⟨3, 1⟩) (meth := k3m1) (c := k3c1) (by decide +kernel) rfl rfl rfl (by decide +kernel)
set_option maxRecDepth 65536 in
theorem w_c11 : (Jvm.Cond.code ({ cls := "com/example/subsumer/subsumer/Ints", name := "size", desc := "()I" } : Jvm.MethodName) prog_35_method_2_code (1 : Nat) (Option.some Jvm.ClassFile.FieldType.int)).before args0 about1 = true := code_word (m := ⟨5, 1⟩) (meth := k5m1) (c := k5c1) (by decide +kernel) rfl rfl rfl (by decide +kernel)
set_option maxRecDepth 65536 in
theorem w_c12 : (Jvm.Cond.code ({ cls := "com/example/subsumer/subsumer/Ints", name := "add", desc := "(I)V" } : Jvm.MethodName) prog_35_method_5_code (2 : Nat) (Option.none : Option Jvm.ClassFile.FieldType)).before args0 about1 = true := code_word (m := ⟨5, 2⟩) (meth := k5m2) (c := k5c2) (by decide +kernel) rfl rfl rfl (by decide +kernel)
def codes1 : List Jvm.Cond := [Jvm.Cond.code x code maxLocals ret, Jvm.Cond.code ({ cls := "java/lang/Math", name := "max", desc := "(II)I" } : Jvm.MethodName) jdk_29_method_65_code (2 : Nat) (Option.some Jvm.ClassFile.FieldType.int), Jvm.Cond.code ({ cls := "com/example/subsumer/subsumer/Pairs", name := "<init>", desc := "(I)V" } : Jvm.MethodName) prog_43_method_1_code (2 : Nat) (Option.none : Option Jvm.ClassFile.FieldType), Jvm.Cond.code ({ cls := "java/lang/Object", name := "<init>", desc := "()V" } : Jvm.MethodName) object_method_1_code (1 : Nat) (Option.none : Option Jvm.ClassFile.FieldType), Jvm.Cond.code ({ cls := "com/example/subsumer/subsumer/Pairs", name := "newKeys", desc := "(I)[J" } : Jvm.MethodName) prog_43_method_10_code (2 : Nat) (Option.some (Jvm.ClassFile.FieldType.array Jvm.ClassFile.FieldType.long)), Jvm.Cond.code ({ cls := "java/util/Arrays", name := "fill", desc := "([JJ)V" } : Jvm.MethodName) jdk_65_method_101_code (5 : Nat) (Option.none : Option Jvm.ClassFile.FieldType), Jvm.Cond.code ({ cls := "com/example/subsumer/subsumer/Ints", name := "<init>", desc := "()V" } : Jvm.MethodName) prog_35_method_1_code (1 : Nat) (Option.none : Option Jvm.ClassFile.FieldType), Jvm.Cond.code ({ cls := "com/example/subsumer/subsumer/Pairs", name := "find", desc := "(II)I" } : Jvm.MethodName) prog_43_method_6_code (6 : Nat) (Option.some Jvm.ClassFile.FieldType.int), Jvm.Cond.code ({ cls := "com/example/subsumer/subsumer/Pairs", name := "slotOf", desc := "(J[J)I" } : Jvm.MethodName) prog_43_method_9_code (4 : Nat) (Option.some Jvm.ClassFile.FieldType.int), Jvm.Cond.code ({ cls := "com/example/subsumer/subsumer/Pairs", name := "number", desc := "(II)I" } : Jvm.MethodName) prog_43_method_7_code (7 : Nat) (Option.some Jvm.ClassFile.FieldType.int), Jvm.Cond.code ({ cls := "com/example/subsumer/subsumer/Pairs", name := "size", desc := "()I" } : Jvm.MethodName) prog_43_method_2_code (1 : Nat) (Option.some Jvm.ClassFile.FieldType.int), Jvm.Cond.code ({ cls := "com/example/subsumer/subsumer/Ints", name := "size", desc := "()I" } : Jvm.MethodName) prog_35_method_2_code (1 : Nat) (Option.some Jvm.ClassFile.FieldType.int), Jvm.Cond.code ({ cls := "com/example/subsumer/subsumer/Ints", name := "add", desc := "(I)V" } : Jvm.MethodName) prog_35_method_5_code (2 : Nat) (Option.none : Option Jvm.ClassFile.FieldType)]
set_option maxRecDepth 65536 in
theorem codes_eq : words1.filter isCode = codes1 := rfl
theorem w_codes : ∀ c ∈ words1.filter isCode, c.before args0 about1 = true := by
  rw [codes_eq]
  intro c hc
  simp only [codes1, List.mem_cons, List.not_mem_nil, or_false] at hc
  rcases hc with rfl | rfl | rfl | rfl | rfl | rfl | rfl | rfl | rfl | rfl | rfl | rfl | rfl
  · exact w_c0
  · exact w_c1
  · exact w_c2
  · exact w_c3
  · exact w_c4
  · exact w_c5
  · exact w_c6
  · exact w_c7
  · exact w_c8
  · exact w_c9
  · exact w_c10
  · exact w_c11
  · exact w_c12
set_option maxRecDepth 65536 in
theorem w_t1 : (words1.take 24).all (fun c => isCode c || c.before args0 about1) = true := by decide +kernel
set_option maxRecDepth 65536 in
theorem w_t2 : ((words1.drop 24).take 24).all (fun c => isCode c || c.before args0 about1) = true := by decide +kernel
set_option maxRecDepth 65536 in
theorem w_t3 : (((words1.drop 24).drop 24).take 24).all (fun c => isCode c || c.before args0 about1) = true := by decide +kernel
set_option maxRecDepth 65536 in
theorem w_t4 : (((words1.drop 24).drop 24).drop 24).all (fun c => isCode c || c.before args0 about1) = true := by decide +kernel
theorem w_tables : (allAtoms (Jvm.Cond.code x code maxLocals ret :: tables_1)).before args0 about1 = true := by
  rw [allAtoms_all]
  show words1.all (fun c => c.before args0 about1) = true
  refine all_split ?_ w_codes
  rw [← List.take_append_drop 24 words1, List.all_append, w_t1, ← List.take_append_drop 24 (words1.drop 24), List.all_append, w_t2, ← List.take_append_drop 24 ((words1.drop 24).drop 24), List.all_append, w_t3, w_t4]
  rfl
set_option maxRecDepth 65536 in
theorem w_case : (Jvm.Cond.and given_1 narrow_1).before args0 about1 = true := by decide +kernel
theorem w_applies : (headSpec (Jvm.Cond.code x code maxLocals ret :: tables_1) room_1).applies x e0.platform about1 = true :=
  (Spec.applies_iff w_frames).mpr ⟨w_running, w_runnable, w_alone, w_named, w_hears, w_ripe, w_room, w_tables⟩
theorem atStart : AtStart classFile x code maxLocals ret World_1 tables_1 room_1 Calls_1 rest_1 Pre_1 launch0 p0 e0 about1 theMethod args0 below0 :=
  ⟨lists_1, trivial, launch0.admits_env _ _ _, launch0.least_env, fairChoices_fair.cas, fairChoices_fair.clock, w_frames, w_args, w_heap, w_applies, trivial, trivial, w_case⟩
end start1
theorem witness_1 : WitnessClaimed_1 := ⟨start1.p0, start1.e0, start1.about1, start1.theMethod, start1.args0, start1.below0, start1.atStart⟩
end Jvm.Pilot.@@N@@
