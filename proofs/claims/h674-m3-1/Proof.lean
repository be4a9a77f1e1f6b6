import JvmDerived
import JvmDerived.Pilot.@@N@@Statement
import JvmDerived.Pilot.@@N@@Code
set_option linter.unusedVariables false
set_option linter.unusedSimpArgs false
namespace Jvm.Pilot.@@N@@
open Jvm Jvm.ClassFile Sem Op Lib Jvm.Free Jvm.Stand Jvm.LawKit Jvm.RoadKit Bundle Jvm.Pilot.@@N@@.Jvm.D
section OwnLayer
variable {p : Program} {l : Launch} {e : Env} {R : Room} {s : State} {m : MethodId} {args : Array Value} {below : List Frame} {meth : Method} {c : Code} {T : State} {locs : List Loc} {cells slots : Nat} {Z : State} {y : MethodName} {bs : ByteArray} {maxL : Nat} {rt : Option FieldType} {ce sl : Nat} {Q : Option Value → Heap → List Loc → Prop} {G : Outcome → State → Prop} {pc : Nat} {Ls : Array Slot} {st rest : List Value} {h : Heap} {a0 : Array Value}
/-- from S the body runs on, returns, and Q says what it leaves -/
def OwnEnds (p : Program) (e : Env) (below : List Frame) (G : Outcome → State → Prop) (S : State) : Prop :=
  ∃ s₂ o, Steps p.tables e below S s₂ ∧ s₂.status = .running ∧ Ended s₂ below o ∧ G o s₂
def OwnG (s : State) (ce sl : Nat) (Q : Option Value → Heap → List Loc → Prop) : Outcome → State → Prop := fun o s₂ => ∃ v L, o = .returned v ∧ Q v s₂.heap L ∧ FrameEnd s o s₂ L ce sl
/-- what stands throughout a body's walk -/
def OwnCx (p : Program) (s : State) (m : MethodId) (meth : Method) (c : Code) (Z : State) (y : MethodName) (bs : ByteArray) (maxL : Nat) (rt : Option FieldType) : Prop :=
  p.tables.exec = Jvm.exec ∧ Z.Warmed39 s.vm ∧ s.vm.findClass y.cls = some m.cls ∧ c.code = bs ∧ c.maxLocals = maxL ∧ meth.sig.returnType = rt ∧ meth.locks = false ∧ meth.name = y.name
/-- a body's contract over the heap h at these arguments -/
def OwnMet (l : Launch) (Z : State) (y : MethodName) (bs : ByteArray) (maxL : Nat) (rt : Option FieldType) (ws : List Jvm.Cond) (rm : Room) (as' : Array Value) (h : Heap) (Q : Option Value → Heap → List Loc → Prop) : Prop :=
  MetFree l y (head1 (Jvm.Cond.code y bs maxL rt :: ws) rm) (fun a U => a = as' ∧ Z.Warmed39 U.vm ∧ U.heap = h) (fun _ _ _ _ _ => True) (fun _ U o U' => ∃ v L, o = .returned v ∧ Q v U'.heap L ∧ FrameEnd U o U' L rm.cells rm.slots)
theorem own_nz32 {d : Int32} (q : d.toInt ≠ 0) : d ≠ 0 := fun r => q (by rw [r]; rfl)
theorem own_nz64 {d : Int64} (q : d.toInt ≠ 0) : d ≠ 0 := fun r => q (by rw [r]; rfl)
theorem own_st {S S' : State} (k : ∀ t, Steps p.tables e below S' t → Steps p.tables e below S t) (r : OwnEnds p e below G S') : OwnEnds p e below G S := by
  obtain ⟨s₂, o, h1, r⟩ := r
  exact ⟨s₂, o, k _ h1, r⟩
theorem own_tr {S S' : State} (k : Steps p.tables e below S S') (r : OwnEnds p e below G S') : OwnEnds p e below G S := own_st (fun _ q => k.trans q) r
theorem own_enter {ws : List Jvm.Cond} {rm : Room} {as' : Array Value} {f0 : MethodId → JFrame} (hp : plainFor y = true) (hf : ∀ m, entryFrame m as' maxL = f0 m)
    (H : ∀ p e s m below meth c T, Stand p l e rm s m as' below meth c T [] 0 0 → OwnCx p s m meth c Z y bs maxL rt → T.heap = h → OwnEnds p e below (OwnG s rm.cells rm.slots Q) (T.setTop (f0 m))) : OwnMet l Z y bs maxL rt ws rm as' h Q := by
  refine MetFree.of_bodySF hp hisR ?_
  intro p e s m args below meth c s₁ Bd hml0 hP hK
  obtain ⟨rfl, hZ, hh⟩ := hP
  have k := H p e s m below meth c s₁ (Stand.of_body Bd) ⟨Bd.exec, hZ, findClass_of_methodNamed Bd.named, Bd.bytes, hml0, Bd.returns, Bd.notSynchronized, (name_of_methodNamed Bd.named Bd.method).1⟩ (by rw [← hh, Bd.state]; rfl)
  rw [← hf m] at k
  exact k
theorem own_mono {ws : List Jvm.Cond} {rm : Room} {as' : Array Value} {Q' : Option Value → Heap → List Loc → Prop} (H : OwnMet l Z y bs maxL rt ws rm as' h Q) (q : ∀ v h' L, Q v h' L → Q' v h' L) : OwnMet l Z y bs maxL rt ws rm as' h Q' := by
  intro p e ha hc hk s m args below hf happ hP hK
  obtain ⟨n, o, h1, h2, h3, v, L, h4, h5, h6⟩ := H p e ha hc hk s m args below hf happ hP hK
  exact ⟨n, o, h1, h2, h3, v, L, h4, q _ _ _ h5, h6⟩
theorem own_iload (X : Stand p l e R s m args below meth c T locs cells slots) (C : OwnCx p s m meth c Z y bs maxL rt) {k : Nat} {v : Int32} (hd : decode bs pc = .ok (.iload k, 2)) (pc' : Nat) (hp : pc + 2 = pc') (hl : Ls[k]? = some (.val (.int v)))
    (hr : OwnEnds p e below G (T.setTop (mkF m pc' Ls (.int v :: st)))) : OwnEnds p e below G (T.setTop (mkF m pc Ls st)) := by
  subst hp; exact own_st (fun _ q => XS.iload X.here C.1 rfl (hb C.2.2.2.1 hd) hl q) hr
theorem own_lload (X : Stand p l e R s m args below meth c T locs cells slots) (C : OwnCx p s m meth c Z y bs maxL rt) {k : Nat} {v : Int64} (hd : decode bs pc = .ok (.lload k, 2)) (pc' : Nat) (hp : pc + 2 = pc') (hl : Ls[k]? = some (.val (.long v)))
    (hr : OwnEnds p e below G (T.setTop (mkF m pc' Ls (.long v :: st)))) : OwnEnds p e below G (T.setTop (mkF m pc Ls st)) := by
  subst hp; exact own_st (fun _ q => XS.lload X.here C.1 rfl (hb C.2.2.2.1 hd) hl q) hr
theorem own_iload_n (X : Stand p l e R s m args below meth c T locs cells slots) (C : OwnCx p s m meth c Z y bs maxL rt) {k : Fin 4} {v : Int32} (hd : decode bs pc = .ok (.iload_n k, 1)) (pc' : Nat) (hp : pc + 1 = pc') (hl : Ls[k.val]? = some (.val (.int v)))
    (hr : OwnEnds p e below G (T.setTop (mkF m pc' Ls (.int v :: st)))) : OwnEnds p e below G (T.setTop (mkF m pc Ls st)) := by
  subst hp; exact own_st (fun _ q => XS.iloadN X.here C.1 rfl (hb C.2.2.2.1 hd) hl q) hr
theorem own_lload_n (X : Stand p l e R s m args below meth c T locs cells slots) (C : OwnCx p s m meth c Z y bs maxL rt) {k : Fin 4} {v : Int64} (hd : decode bs pc = .ok (.lload_n k, 1)) (pc' : Nat) (hp : pc + 1 = pc') (hl : Ls[k.val]? = some (.val (.long v)))
    (hr : OwnEnds p e below G (T.setTop (mkF m pc' Ls (.long v :: st)))) : OwnEnds p e below G (T.setTop (mkF m pc Ls st)) := by
  subst hp; exact own_st (fun _ q => XS.lloadN X.here C.1 rfl (hb C.2.2.2.1 hd) hl q) hr
theorem own_aload (X : Stand p l e R s m args below meth c T locs cells slots) (C : OwnCx p s m meth c Z y bs maxL rt) {k : Nat} {v : Value} (hd : decode bs pc = .ok (.aload k, 2)) (pc' : Nat) (hp : pc + 2 = pc') (hl : Ls[k]? = some (.val v)) (hv : v.isRef = true)
    (hr : OwnEnds p e below G (T.setTop (mkF m pc' Ls (v :: st)))) : OwnEnds p e below G (T.setTop (mkF m pc Ls st)) := by
  subst hp; exact own_st (fun _ q => XS.aload X.here C.1 rfl (hb C.2.2.2.1 hd) hl hv q) hr
theorem own_aload_n (X : Stand p l e R s m args below meth c T locs cells slots) (C : OwnCx p s m meth c Z y bs maxL rt) {k : Fin 4} {v : Value} (hd : decode bs pc = .ok (.aload_n k, 1)) (pc' : Nat) (hp : pc + 1 = pc') (hl : Ls[k.val]? = some (.val v)) (hv : v.isRef = true)
    (hr : OwnEnds p e below G (T.setTop (mkF m pc' Ls (v :: st)))) : OwnEnds p e below G (T.setTop (mkF m pc Ls st)) := by
  subst hp; exact own_st (fun _ q => XS.aloadN X.here C.1 rfl (hb C.2.2.2.1 hd) hl hv q) hr
theorem own_istore (X : Stand p l e R s m args below meth c T locs cells slots) (C : OwnCx p s m meth c Z y bs maxL rt) {k : Nat} {v : Int32} (hd : decode bs pc = .ok (.istore k, 2)) (pc' : Nat) (hp : pc + 2 = pc') (L' : Array Slot) (hl : storeLocals Ls k (.int v) = some L')
    (hr : OwnEnds p e below G (T.setTop (mkF m pc' L' st))) : OwnEnds p e below G (T.setTop (mkF m pc Ls (.int v :: st))) := by
  subst hp; exact own_st (fun _ q => XS.istore X.here C.1 rfl (hb C.2.2.2.1 hd) rfl hl q) hr
theorem own_lstore (X : Stand p l e R s m args below meth c T locs cells slots) (C : OwnCx p s m meth c Z y bs maxL rt) {k : Nat} {v : Int64} (hd : decode bs pc = .ok (.lstore k, 2)) (pc' : Nat) (hp : pc + 2 = pc') (L' : Array Slot) (hl : storeLocals Ls k (.long v) = some L')
    (hr : OwnEnds p e below G (T.setTop (mkF m pc' L' st))) : OwnEnds p e below G (T.setTop (mkF m pc Ls (.long v :: st))) := by
  subst hp; exact own_st (fun _ q => XS.lstore X.here C.1 rfl (hb C.2.2.2.1 hd) rfl hl q) hr
theorem own_istore_n (X : Stand p l e R s m args below meth c T locs cells slots) (C : OwnCx p s m meth c Z y bs maxL rt) {k : Fin 4} {v : Int32} (hd : decode bs pc = .ok (.istore_n k, 1)) (pc' : Nat) (hp : pc + 1 = pc') (L' : Array Slot) (hl : storeLocals Ls k.val (.int v) = some L')
    (hr : OwnEnds p e below G (T.setTop (mkF m pc' L' st))) : OwnEnds p e below G (T.setTop (mkF m pc Ls (.int v :: st))) := by
  subst hp; exact own_st (fun _ q => XS.istoreN X.here C.1 rfl (hb C.2.2.2.1 hd) rfl hl q) hr
theorem own_lstore_n (X : Stand p l e R s m args below meth c T locs cells slots) (C : OwnCx p s m meth c Z y bs maxL rt) {k : Fin 4} {v : Int64} (hd : decode bs pc = .ok (.lstore_n k, 1)) (pc' : Nat) (hp : pc + 1 = pc') (L' : Array Slot) (hl : storeLocals Ls k.val (.long v) = some L')
    (hr : OwnEnds p e below G (T.setTop (mkF m pc' L' st))) : OwnEnds p e below G (T.setTop (mkF m pc Ls (.long v :: st))) := by
  subst hp; exact own_st (fun _ q => XS.lstoreN X.here C.1 rfl (hb C.2.2.2.1 hd) rfl hl q) hr
theorem own_astore (X : Stand p l e R s m args below meth c T locs cells slots) (C : OwnCx p s m meth c Z y bs maxL rt) {k : Nat} {v : Value} (hd : decode bs pc = .ok (.astore k, 2)) (pc' : Nat) (hp : pc + 2 = pc') (hv : v.isRef = true) (L' : Array Slot) (hl : storeLocals Ls k v = some L')
    (hr : OwnEnds p e below G (T.setTop (mkF m pc' L' st))) : OwnEnds p e below G (T.setTop (mkF m pc Ls (v :: st))) := by
  subst hp; exact own_st (fun _ q => XS.astore X.here C.1 rfl (hb C.2.2.2.1 hd) rfl hv hl q) hr
theorem own_astore_n (X : Stand p l e R s m args below meth c T locs cells slots) (C : OwnCx p s m meth c Z y bs maxL rt) {k : Fin 4} {v : Value} (hd : decode bs pc = .ok (.astore_n k, 1)) (pc' : Nat) (hp : pc + 1 = pc') (hv : v.isRef = true) (L' : Array Slot) (hl : storeLocals Ls k.val v = some L')
    (hr : OwnEnds p e below G (T.setTop (mkF m pc' L' st))) : OwnEnds p e below G (T.setTop (mkF m pc Ls (v :: st))) := by
  subst hp; exact own_st (fun _ q => XS.astoreN X.here C.1 rfl (hb C.2.2.2.1 hd) rfl hv hl q) hr
theorem own_iinc (X : Stand p l e R s m args below meth c T locs cells slots) (C : OwnCx p s m meth c Z y bs maxL rt) {k : Nat} {cst : Int} {v : Int32} (hd : decode bs pc = .ok (.iinc k cst, 3)) (pc' : Nat) (hp : pc + 3 = pc') (hl : Ls[k]? = some (.val (.int v))) (w : Int32) (hw : Int32.ofInt cst = w) (F : Int32 → Array Slot) (hl' : ∀ z, storeLocals Ls k (.int z) = some (F z))
    (hr : ∀ z, z = v + w → OwnEnds p e below G (T.setTop (mkF m pc' (F z) st))) : OwnEnds p e below G (T.setTop (mkF m pc Ls st)) := by
  subst hp hw; exact own_st (fun _ q => XS.iinc X.here C.1 rfl (hb C.2.2.2.1 hd) hl (hl' _) q) (hr _ rfl)
theorem own_iconst (X : Stand p l e R s m args below meth c T locs cells slots) (C : OwnCx p s m meth c Z y bs maxL rt) {i : Int} (hd : decode bs pc = .ok (.iconst i, 1)) (pc' : Nat) (hp : pc + 1 = pc') (k : Int32) (hk : Int32.ofInt i = k)
    (hr : OwnEnds p e below G (T.setTop (mkF m pc' Ls (.int k :: st)))) : OwnEnds p e below G (T.setTop (mkF m pc Ls st)) := by
  subst hp hk; exact own_st (fun _ q => XS.iconst X.here C.1 rfl (hb C.2.2.2.1 hd) q) hr
theorem own_bipush (X : Stand p l e R s m args below meth c T locs cells slots) (C : OwnCx p s m meth c Z y bs maxL rt) {i : Int} (hd : decode bs pc = .ok (.bipush i, 2)) (pc' : Nat) (hp : pc + 2 = pc') (k : Int32) (hk : (Int8.ofInt i).toInt32 = k)
    (hr : OwnEnds p e below G (T.setTop (mkF m pc' Ls (.int k :: st)))) : OwnEnds p e below G (T.setTop (mkF m pc Ls st)) := by
  subst hp hk; exact own_st (fun _ q => XS.bipush X.here C.1 rfl (hb C.2.2.2.1 hd) q) hr
theorem own_sipush (X : Stand p l e R s m args below meth c T locs cells slots) (C : OwnCx p s m meth c Z y bs maxL rt) {i : Int} (hd : decode bs pc = .ok (.sipush i, 3)) (pc' : Nat) (hp : pc + 3 = pc') (k : Int32) (hk : (Int16.ofInt i).toInt32 = k)
    (hr : OwnEnds p e below G (T.setTop (mkF m pc' Ls (.int k :: st)))) : OwnEnds p e below G (T.setTop (mkF m pc Ls st)) := by
  subst hp hk; exact own_st (fun _ q => XS.sipush X.here C.1 rfl (hb C.2.2.2.1 hd) q) hr
theorem own_lconst (X : Stand p l e R s m args below meth c T locs cells slots) (C : OwnCx p s m meth c Z y bs maxL rt) {i : Fin 2} (hd : decode bs pc = .ok (.lconst i, 1)) (pc' : Nat) (hp : pc + 1 = pc') (k : Int64) (hk : Int64.ofNat i = k)
    (hr : OwnEnds p e below G (T.setTop (mkF m pc' Ls (.long k :: st)))) : OwnEnds p e below G (T.setTop (mkF m pc Ls st)) := by
  subst hp hk; exact own_st (fun _ q => XS.lconst X.here C.1 rfl (hb C.2.2.2.1 hd) q) hr
theorem own_aconst_null (X : Stand p l e R s m args below meth c T locs cells slots) (C : OwnCx p s m meth c Z y bs maxL rt) (hd : decode bs pc = .ok (.aconst_null, 1)) (pc' : Nat) (hp : pc + 1 = pc')
    (hr : OwnEnds p e below G (T.setTop (mkF m pc' Ls (.null :: st)))) : OwnEnds p e below G (T.setTop (mkF m pc Ls st)) := by
  subst hp; exact own_st (fun _ q => XS.aconstNull X.here C.1 rfl (hb C.2.2.2.1 hd) q) hr
theorem own_ldc (X : Stand p l e R s m args below meth c T locs cells slots) (C : OwnCx p s m meth c Z y bs maxL rt) {i : Nat} {v : Int32} (w : (Jvm.Cond.constant y.cls i v).before a0 Z = true) (hd : decode bs pc = .ok (.ldc i, 2)) (pc' : Nat) (hp : pc + 2 = pc')
    (hr : OwnEnds p e below G (T.setTop (mkF m pc' Ls (.int v :: st)))) : OwnEnds p e below G (T.setTop (mkF m pc Ls st)) := by
  subst hp; exact own_st (X.ldcInt C.1 C.2.2.1 (mvT C.2.1 w) (g := mkF m pc Ls st) rfl (hb C.2.2.2.1 hd)) hr
theorem own_ldcw (X : Stand p l e R s m args below meth c T locs cells slots) (C : OwnCx p s m meth c Z y bs maxL rt) {i : Nat} {v : Int32} (w : (Jvm.Cond.constant y.cls i v).before a0 Z = true) (hd : decode bs pc = .ok (.ldc_w i, 3)) (pc' : Nat) (hp : pc + 3 = pc')
    (hr : OwnEnds p e below G (T.setTop (mkF m pc' Ls (.int v :: st)))) : OwnEnds p e below G (T.setTop (mkF m pc Ls st)) := by
  subst hp; exact own_st (X.ldcwInt C.1 C.2.2.1 (mvT C.2.1 w) (g := mkF m pc Ls st) rfl (hb C.2.2.2.1 hd)) hr
theorem own_ldc2 (X : Stand p l e R s m args below meth c T locs cells slots) (C : OwnCx p s m meth c Z y bs maxL rt) {i : Nat} {v : Int64} (w : (Jvm.Cond.constantLong y.cls i v).before a0 Z = true) (hd : decode bs pc = .ok (.ldc2_w i, 3)) (pc' : Nat) (hp : pc + 3 = pc')
    (hr : OwnEnds p e below G (T.setTop (mkF m pc' Ls (.long v :: st)))) : OwnEnds p e below G (T.setTop (mkF m pc Ls st)) := by
  subst hp; exact own_st (X.ldc2Long C.1 C.2.2.1 (mvT C.2.1 w) (g := mkF m pc Ls st) rfl (hb C.2.2.2.1 hd)) hr
theorem own_iadd (X : Stand p l e R s m args below meth c T locs cells slots) (C : OwnCx p s m meth c Z y bs maxL rt) {a b : Int32} (hd : decode bs pc = .ok (.iadd, 1)) (pc' : Nat) (hp : pc + 1 = pc')
    (hr : ∀ z, z = a + b → OwnEnds p e below G (T.setTop (mkF m pc' Ls (.int z :: st)))) : OwnEnds p e below G (T.setTop (mkF m pc Ls (.int b :: .int a :: st))) := by
  subst hp; exact own_st (fun _ q => XS.iadd X.here C.1 rfl (hb C.2.2.2.1 hd) rfl q) (hr _ rfl)
theorem own_isub (X : Stand p l e R s m args below meth c T locs cells slots) (C : OwnCx p s m meth c Z y bs maxL rt) {a b : Int32} (hd : decode bs pc = .ok (.isub, 1)) (pc' : Nat) (hp : pc + 1 = pc')
    (hr : ∀ z, z = a - b → OwnEnds p e below G (T.setTop (mkF m pc' Ls (.int z :: st)))) : OwnEnds p e below G (T.setTop (mkF m pc Ls (.int b :: .int a :: st))) := by
  subst hp; exact own_st (fun _ q => XS.isub X.here C.1 rfl (hb C.2.2.2.1 hd) rfl q) (hr _ rfl)
theorem own_imul (X : Stand p l e R s m args below meth c T locs cells slots) (C : OwnCx p s m meth c Z y bs maxL rt) {a b : Int32} (hd : decode bs pc = .ok (.imul, 1)) (pc' : Nat) (hp : pc + 1 = pc')
    (hr : ∀ z, z = a * b → OwnEnds p e below G (T.setTop (mkF m pc' Ls (.int z :: st)))) : OwnEnds p e below G (T.setTop (mkF m pc Ls (.int b :: .int a :: st))) := by
  subst hp; exact own_st (fun _ q => XS.imul X.here C.1 rfl (hb C.2.2.2.1 hd) rfl q) (hr _ rfl)
theorem own_iand (X : Stand p l e R s m args below meth c T locs cells slots) (C : OwnCx p s m meth c Z y bs maxL rt) {a b : Int32} (hd : decode bs pc = .ok (.iand, 1)) (pc' : Nat) (hp : pc + 1 = pc')
    (hr : ∀ z, z = a &&& b → OwnEnds p e below G (T.setTop (mkF m pc' Ls (.int z :: st)))) : OwnEnds p e below G (T.setTop (mkF m pc Ls (.int b :: .int a :: st))) := by
  subst hp; exact own_st (fun _ q => XS.iand X.here C.1 rfl (hb C.2.2.2.1 hd) rfl q) (hr _ rfl)
theorem own_ior (X : Stand p l e R s m args below meth c T locs cells slots) (C : OwnCx p s m meth c Z y bs maxL rt) {a b : Int32} (hd : decode bs pc = .ok (.ior, 1)) (pc' : Nat) (hp : pc + 1 = pc')
    (hr : ∀ z, z = a ||| b → OwnEnds p e below G (T.setTop (mkF m pc' Ls (.int z :: st)))) : OwnEnds p e below G (T.setTop (mkF m pc Ls (.int b :: .int a :: st))) := by
  subst hp; exact own_st (fun _ q => XS.ior X.here C.1 rfl (hb C.2.2.2.1 hd) rfl q) (hr _ rfl)
theorem own_ixor (X : Stand p l e R s m args below meth c T locs cells slots) (C : OwnCx p s m meth c Z y bs maxL rt) {a b : Int32} (hd : decode bs pc = .ok (.ixor, 1)) (pc' : Nat) (hp : pc + 1 = pc')
    (hr : ∀ z, z = a ^^^ b → OwnEnds p e below G (T.setTop (mkF m pc' Ls (.int z :: st)))) : OwnEnds p e below G (T.setTop (mkF m pc Ls (.int b :: .int a :: st))) := by
  subst hp; exact own_st (fun _ q => XS.ixor X.here C.1 rfl (hb C.2.2.2.1 hd) rfl q) (hr _ rfl)
theorem own_idiv (X : Stand p l e R s m args below meth c T locs cells slots) (C : OwnCx p s m meth c Z y bs maxL rt) {a b : Int32} (hd : decode bs pc = .ok (.idiv, 1)) (pc' : Nat) (hp : pc + 1 = pc') (hz : b ≠ 0)
    (hr : ∀ z, z = a / b → OwnEnds p e below G (T.setTop (mkF m pc' Ls (.int z :: st)))) : OwnEnds p e below G (T.setTop (mkF m pc Ls (.int b :: .int a :: st))) := by
  subst hp; exact own_st (fun _ q => XS.idiv X.here C.1 rfl (hb C.2.2.2.1 hd) rfl hz q) (hr _ rfl)
theorem own_ladd (X : Stand p l e R s m args below meth c T locs cells slots) (C : OwnCx p s m meth c Z y bs maxL rt) {a b : Int64} (hd : decode bs pc = .ok (.ladd, 1)) (pc' : Nat) (hp : pc + 1 = pc')
    (hr : ∀ z, z = a + b → OwnEnds p e below G (T.setTop (mkF m pc' Ls (.long z :: st)))) : OwnEnds p e below G (T.setTop (mkF m pc Ls (.long b :: .long a :: st))) := by
  subst hp; exact own_st (fun _ q => XS.ladd X.here C.1 rfl (hb C.2.2.2.1 hd) rfl q) (hr _ rfl)
theorem own_lsub (X : Stand p l e R s m args below meth c T locs cells slots) (C : OwnCx p s m meth c Z y bs maxL rt) {a b : Int64} (hd : decode bs pc = .ok (.lsub, 1)) (pc' : Nat) (hp : pc + 1 = pc')
    (hr : ∀ z, z = a - b → OwnEnds p e below G (T.setTop (mkF m pc' Ls (.long z :: st)))) : OwnEnds p e below G (T.setTop (mkF m pc Ls (.long b :: .long a :: st))) := by
  subst hp; exact own_st (fun _ q => XS.lsub X.here C.1 rfl (hb C.2.2.2.1 hd) rfl q) (hr _ rfl)
theorem own_lmul (X : Stand p l e R s m args below meth c T locs cells slots) (C : OwnCx p s m meth c Z y bs maxL rt) {a b : Int64} (hd : decode bs pc = .ok (.lmul, 1)) (pc' : Nat) (hp : pc + 1 = pc')
    (hr : ∀ z, z = a * b → OwnEnds p e below G (T.setTop (mkF m pc' Ls (.long z :: st)))) : OwnEnds p e below G (T.setTop (mkF m pc Ls (.long b :: .long a :: st))) := by
  subst hp; exact own_st (fun _ q => XS.lmul X.here C.1 rfl (hb C.2.2.2.1 hd) rfl q) (hr _ rfl)
theorem own_land (X : Stand p l e R s m args below meth c T locs cells slots) (C : OwnCx p s m meth c Z y bs maxL rt) {a b : Int64} (hd : decode bs pc = .ok (.land, 1)) (pc' : Nat) (hp : pc + 1 = pc')
    (hr : ∀ z, z = a &&& b → OwnEnds p e below G (T.setTop (mkF m pc' Ls (.long z :: st)))) : OwnEnds p e below G (T.setTop (mkF m pc Ls (.long b :: .long a :: st))) := by
  subst hp; exact own_st (fun _ q => XS.land X.here C.1 rfl (hb C.2.2.2.1 hd) rfl q) (hr _ rfl)
theorem own_lor (X : Stand p l e R s m args below meth c T locs cells slots) (C : OwnCx p s m meth c Z y bs maxL rt) {a b : Int64} (hd : decode bs pc = .ok (.lor, 1)) (pc' : Nat) (hp : pc + 1 = pc')
    (hr : ∀ z, z = a ||| b → OwnEnds p e below G (T.setTop (mkF m pc' Ls (.long z :: st)))) : OwnEnds p e below G (T.setTop (mkF m pc Ls (.long b :: .long a :: st))) := by
  subst hp; exact own_st (fun _ q => XS.lor X.here C.1 rfl (hb C.2.2.2.1 hd) rfl q) (hr _ rfl)
theorem own_lxor (X : Stand p l e R s m args below meth c T locs cells slots) (C : OwnCx p s m meth c Z y bs maxL rt) {a b : Int64} (hd : decode bs pc = .ok (.lxor, 1)) (pc' : Nat) (hp : pc + 1 = pc')
    (hr : ∀ z, z = a ^^^ b → OwnEnds p e below G (T.setTop (mkF m pc' Ls (.long z :: st)))) : OwnEnds p e below G (T.setTop (mkF m pc Ls (.long b :: .long a :: st))) := by
  subst hp; exact own_st (fun _ q => XS.lxor X.here C.1 rfl (hb C.2.2.2.1 hd) rfl q) (hr _ rfl)
theorem own_ldiv (X : Stand p l e R s m args below meth c T locs cells slots) (C : OwnCx p s m meth c Z y bs maxL rt) {a b : Int64} (hd : decode bs pc = .ok (.ldiv, 1)) (pc' : Nat) (hp : pc + 1 = pc') (hz : b ≠ 0)
    (hr : ∀ z, z = a / b → OwnEnds p e below G (T.setTop (mkF m pc' Ls (.long z :: st)))) : OwnEnds p e below G (T.setTop (mkF m pc Ls (.long b :: .long a :: st))) := by
  subst hp; exact own_st (fun _ q => XS.ldiv X.here C.1 rfl (hb C.2.2.2.1 hd) rfl hz q) (hr _ rfl)
theorem own_irem (X : Stand p l e R s m args below meth c T locs cells slots) (C : OwnCx p s m meth c Z y bs maxL rt) {a b : Int32} (hd : decode bs pc = .ok (.irem, 1)) (pc' : Nat) (hp : pc + 1 = pc') (hz : b ≠ 0)
    (hr : ∀ z, z = a % b → OwnEnds p e below G (T.setTop (mkF m pc' Ls (.int z :: st)))) : OwnEnds p e below G (T.setTop (mkF m pc Ls (.int b :: .int a :: st))) := by
  subst hp; exact own_st (fun _ q => iremM X C.1 rfl (hb C.2.2.2.1 hd) rfl hz q) (hr _ rfl)
theorem own_lrem (X : Stand p l e R s m args below meth c T locs cells slots) (C : OwnCx p s m meth c Z y bs maxL rt) {a b : Int64} (hd : decode bs pc = .ok (.lrem, 1)) (pc' : Nat) (hp : pc + 1 = pc') (hz : b ≠ 0)
    (hr : ∀ z, z = a % b → OwnEnds p e below G (T.setTop (mkF m pc' Ls (.long z :: st)))) : OwnEnds p e below G (T.setTop (mkF m pc Ls (.long b :: .long a :: st))) := by
  subst hp; exact own_st (fun _ q => XS.lrem X.here C.1 rfl (hb C.2.2.2.1 hd) rfl hz q) (hr _ (lrem_mod a b))
theorem own_ishl (X : Stand p l e R s m args below meth c T locs cells slots) (C : OwnCx p s m meth c Z y bs maxL rt) {a : Int32} {b : Int32} (hd : decode bs pc = .ok (.ishl, 1)) (pc' : Nat) (hp : pc + 1 = pc')
    (hr : ∀ z, z = (a <<< (b &&& 31)) → OwnEnds p e below G (T.setTop (mkF m pc' Ls (.int z :: st)))) : OwnEnds p e below G (T.setTop (mkF m pc Ls (.int b :: .int a :: st))) := by
  subst hp; exact own_st (fun _ q => XS.ishl X.here C.1 rfl (hb C.2.2.2.1 hd) rfl q) (hr _ rfl)
theorem own_ishr (X : Stand p l e R s m args below meth c T locs cells slots) (C : OwnCx p s m meth c Z y bs maxL rt) {a : Int32} {b : Int32} (hd : decode bs pc = .ok (.ishr, 1)) (pc' : Nat) (hp : pc + 1 = pc')
    (hr : ∀ z, z = (a >>> (b &&& 31)) → OwnEnds p e below G (T.setTop (mkF m pc' Ls (.int z :: st)))) : OwnEnds p e below G (T.setTop (mkF m pc Ls (.int b :: .int a :: st))) := by
  subst hp; exact own_st (fun _ q => XS.ishr X.here C.1 rfl (hb C.2.2.2.1 hd) rfl q) (hr _ rfl)
theorem own_iushr (X : Stand p l e R s m args below meth c T locs cells slots) (C : OwnCx p s m meth c Z y bs maxL rt) {a : Int32} {b : Int32} (hd : decode bs pc = .ok (.iushr, 1)) (pc' : Nat) (hp : pc + 1 = pc')
    (hr : ∀ z, z = ((a.toUInt32 >>> (b &&& 31).toUInt32).toInt32) → OwnEnds p e below G (T.setTop (mkF m pc' Ls (.int z :: st)))) : OwnEnds p e below G (T.setTop (mkF m pc Ls (.int b :: .int a :: st))) := by
  subst hp; exact own_st (fun _ q => XS.iushr X.here C.1 rfl (hb C.2.2.2.1 hd) rfl q) (hr _ rfl)
theorem own_lshl (X : Stand p l e R s m args below meth c T locs cells slots) (C : OwnCx p s m meth c Z y bs maxL rt) {a : Int64} {b : Int32} (hd : decode bs pc = .ok (.lshl, 1)) (pc' : Nat) (hp : pc + 1 = pc')
    (hr : ∀ z, z = (a <<< (b &&& 0x3f).toInt64) → OwnEnds p e below G (T.setTop (mkF m pc' Ls (.long z :: st)))) : OwnEnds p e below G (T.setTop (mkF m pc Ls (.int b :: .long a :: st))) := by
  subst hp; exact own_st (fun _ q => XS.lshl X.here C.1 rfl (hb C.2.2.2.1 hd) rfl q) (hr _ rfl)
theorem own_lshr (X : Stand p l e R s m args below meth c T locs cells slots) (C : OwnCx p s m meth c Z y bs maxL rt) {a : Int64} {b : Int32} (hd : decode bs pc = .ok (.lshr, 1)) (pc' : Nat) (hp : pc + 1 = pc')
    (hr : ∀ z, z = (a >>> (b &&& 0x3f).toInt64) → OwnEnds p e below G (T.setTop (mkF m pc' Ls (.long z :: st)))) : OwnEnds p e below G (T.setTop (mkF m pc Ls (.int b :: .long a :: st))) := by
  subst hp; exact own_st (fun _ q => XS.lshr X.here C.1 rfl (hb C.2.2.2.1 hd) rfl q) (hr _ rfl)
theorem own_lushr (X : Stand p l e R s m args below meth c T locs cells slots) (C : OwnCx p s m meth c Z y bs maxL rt) {a : Int64} {b : Int32} (hd : decode bs pc = .ok (.lushr, 1)) (pc' : Nat) (hp : pc + 1 = pc')
    (hr : ∀ z, z = ((a.toUInt64 >>> (b &&& 0x3f).toInt64.toUInt64).toInt64) → OwnEnds p e below G (T.setTop (mkF m pc' Ls (.long z :: st)))) : OwnEnds p e below G (T.setTop (mkF m pc Ls (.int b :: .long a :: st))) := by
  subst hp; exact own_st (fun _ q => XS.lushr X.here C.1 rfl (hb C.2.2.2.1 hd) rfl q) (hr _ rfl)
theorem own_ineg (X : Stand p l e R s m args below meth c T locs cells slots) (C : OwnCx p s m meth c Z y bs maxL rt) {a : Int32} (hd : decode bs pc = .ok (.ineg, 1)) (pc' : Nat) (hp : pc + 1 = pc')
    (hr : ∀ z, z = -a → OwnEnds p e below G (T.setTop (mkF m pc' Ls (.int z :: st)))) : OwnEnds p e below G (T.setTop (mkF m pc Ls (.int a :: st))) := by
  subst hp; exact own_st (fun _ q => XS.ineg X.here C.1 rfl (hb C.2.2.2.1 hd) rfl q) (hr _ rfl)
theorem own_lneg (X : Stand p l e R s m args below meth c T locs cells slots) (C : OwnCx p s m meth c Z y bs maxL rt) {a : Int64} (hd : decode bs pc = .ok (.lneg, 1)) (pc' : Nat) (hp : pc + 1 = pc')
    (hr : ∀ z, z = -a → OwnEnds p e below G (T.setTop (mkF m pc' Ls (.long z :: st)))) : OwnEnds p e below G (T.setTop (mkF m pc Ls (.long a :: st))) := by
  subst hp; exact own_st (fun _ q => XS.lneg X.here C.1 rfl (hb C.2.2.2.1 hd) rfl q) (hr _ rfl)
theorem own_i2l (X : Stand p l e R s m args below meth c T locs cells slots) (C : OwnCx p s m meth c Z y bs maxL rt) {a : Int32} (hd : decode bs pc = .ok (.i2l, 1)) (pc' : Nat) (hp : pc + 1 = pc')
    (hr : ∀ z, z = a.toInt64 → OwnEnds p e below G (T.setTop (mkF m pc' Ls (.long z :: st)))) : OwnEnds p e below G (T.setTop (mkF m pc Ls (.int a :: st))) := by
  subst hp; exact own_st (fun _ q => XS.i2l X.here C.1 rfl (hb C.2.2.2.1 hd) rfl q) (hr _ rfl)
theorem own_l2i (X : Stand p l e R s m args below meth c T locs cells slots) (C : OwnCx p s m meth c Z y bs maxL rt) {a : Int64} (hd : decode bs pc = .ok (.l2i, 1)) (pc' : Nat) (hp : pc + 1 = pc')
    (hr : ∀ z, z = a.toInt32 → OwnEnds p e below G (T.setTop (mkF m pc' Ls (.int z :: st)))) : OwnEnds p e below G (T.setTop (mkF m pc Ls (.long a :: st))) := by
  subst hp; exact own_st (fun _ q => XS.l2i X.here C.1 rfl (hb C.2.2.2.1 hd) rfl q) (hr _ rfl)
theorem own_i2b (X : Stand p l e R s m args below meth c T locs cells slots) (C : OwnCx p s m meth c Z y bs maxL rt) {a : Int32} (hd : decode bs pc = .ok (.i2b, 1)) (pc' : Nat) (hp : pc + 1 = pc')
    (hr : ∀ z, z = a.toInt8.toInt32 → OwnEnds p e below G (T.setTop (mkF m pc' Ls (.int z :: st)))) : OwnEnds p e below G (T.setTop (mkF m pc Ls (.int a :: st))) := by
  subst hp; exact own_st (fun _ q => XS.i2b X.here C.1 rfl (hb C.2.2.2.1 hd) rfl q) (hr _ rfl)
theorem own_i2s (X : Stand p l e R s m args below meth c T locs cells slots) (C : OwnCx p s m meth c Z y bs maxL rt) {a : Int32} (hd : decode bs pc = .ok (.i2s, 1)) (pc' : Nat) (hp : pc + 1 = pc')
    (hr : ∀ z, z = a.toInt16.toInt32 → OwnEnds p e below G (T.setTop (mkF m pc' Ls (.int z :: st)))) : OwnEnds p e below G (T.setTop (mkF m pc Ls (.int a :: st))) := by
  subst hp; exact own_st (fun _ q => XS.i2s X.here C.1 rfl (hb C.2.2.2.1 hd) rfl q) (hr _ rfl)
theorem own_i2c (X : Stand p l e R s m args below meth c T locs cells slots) (C : OwnCx p s m meth c Z y bs maxL rt) {a : Int32} (hd : decode bs pc = .ok (.i2c, 1)) (pc' : Nat) (hp : pc + 1 = pc')
    (hr : ∀ z, z = a.toUInt32.toUInt16.toUInt32.toInt32 → OwnEnds p e below G (T.setTop (mkF m pc' Ls (.int z :: st)))) : OwnEnds p e below G (T.setTop (mkF m pc Ls (.int a :: st))) := by
  subst hp; exact own_st (fun _ q => XS.i2c X.here C.1 rfl (hb C.2.2.2.1 hd) rfl q) (hr _ rfl)
theorem own_lcmp (X : Stand p l e R s m args below meth c T locs cells slots) (C : OwnCx p s m meth c Z y bs maxL rt) {a b : Int64} (hd : decode bs pc = .ok (.lcmp, 1)) (pc' : Nat) (hp : pc + 1 = pc')
    (hr : ∀ z : Int32, (a.toInt < b.toInt → z.toInt = -1) → (a.toInt = b.toInt → z.toInt = 0) → (b.toInt < a.toInt → z.toInt = 1) → OwnEnds p e below G (T.setTop (mkF m pc' Ls (.int z :: st)))) : OwnEnds p e below G (T.setTop (mkF m pc Ls (.long b :: .long a :: st))) := by
  subst hp; exact own_st (fun _ q => XS.lcmp X.here C.1 rfl (hb C.2.2.2.1 hd) rfl q) (hr _ (c_lcmp a b).1 (c_lcmp a b).2.1 (c_lcmp a b).2.2)
theorem own_dup (X : Stand p l e R s m args below meth c T locs cells slots) (C : OwnCx p s m meth c Z y bs maxL rt) {v : Value} (hd : decode bs pc = .ok (.dup, 1)) (pc' : Nat) (hp : pc + 1 = pc') (hc : v.category = 1)
    (hr : OwnEnds p e below G (T.setTop (mkF m pc' Ls (v :: v :: st)))) : OwnEnds p e below G (T.setTop (mkF m pc Ls (v :: st))) := by
  subst hp; exact own_st (fun _ q => XS.dup X.here C.1 rfl (hb C.2.2.2.1 hd) rfl hc q) hr
theorem own_dup_x1 (X : Stand p l e R s m args below meth c T locs cells slots) (C : OwnCx p s m meth c Z y bs maxL rt) {v w : Value} (hd : decode bs pc = .ok (.dup_x1, 1)) (pc' : Nat) (hp : pc + 1 = pc') (hc : v.category = 1) (hc' : w.category = 1)
    (hr : OwnEnds p e below G (T.setTop (mkF m pc' Ls (v :: w :: v :: st)))) : OwnEnds p e below G (T.setTop (mkF m pc Ls (v :: w :: st))) := by
  subst hp; exact own_st (fun _ q => XS.dupX1 X.here C.1 rfl (hb C.2.2.2.1 hd) rfl hc hc' q) hr
theorem own_pop (X : Stand p l e R s m args below meth c T locs cells slots) (C : OwnCx p s m meth c Z y bs maxL rt) {v : Value} (hd : decode bs pc = .ok (.pop, 1)) (pc' : Nat) (hp : pc + 1 = pc') (hc : v.category = 1)
    (hr : OwnEnds p e below G (T.setTop (mkF m pc' Ls st))) : OwnEnds p e below G (T.setTop (mkF m pc Ls (v :: st))) := by
  subst hp; exact own_st (fun _ q => XS.pop X.here C.1 rfl (hb C.2.2.2.1 hd) rfl hc q) hr
theorem own_dup2 (X : Stand p l e R s m args below meth c T locs cells slots) (C : OwnCx p s m meth c Z y bs maxL rt) {v w : Value} (hd : decode bs pc = .ok (.dup2, 1)) (pc' : Nat) (hp : pc + 1 = pc') (hc : v.category = 1) (hc' : w.category = 1)
    (hr : OwnEnds p e below G (T.setTop (mkF m pc' Ls (v :: w :: v :: w :: st)))) : OwnEnds p e below G (T.setTop (mkF m pc Ls (v :: w :: st))) := by
  subst hp; exact own_st (fun _ q => XT.dup2 X.here C.1 rfl (hb C.2.2.2.1 hd) rfl hc hc' q) hr
theorem own_goto (X : Stand p l e R s m args below meth c T locs cells slots) (C : OwnCx p s m meth c Z y bs maxL rt) {o : Int} (hd : decode bs pc = .ok (.goto o, 3)) (pc' : Nat) (ho : 0 ≤ (pc : Int) + o) (hp : ((pc : Int) + o).toNat = pc')
    (hr : OwnEnds p e below G (T.setTop (mkF m pc' Ls st))) : OwnEnds p e below G (T.setTop (mkF m pc Ls st)) :=
  own_st (fun _ q => XS.goto X.here C.1 rfl rfl (hb C.2.2.2.1 hd) ho hp q) hr
theorem own_icmplt (X : Stand p l e R s m args below meth c T locs cells slots) (C : OwnCx p s m meth c Z y bs maxL rt) {x' y' : Int32} {o : Int} (hd : decode bs pc = .ok (.if_icmp .lt o, 3)) (pn pc' : Nat) (hpn : pc + 3 = pn) (ho : 0 ≤ (pc : Int) + o) (hp : ((pc : Int) + o).toNat = pc') {i : Int} (hi : x'.toInt = i) {j : Int} (hj : y'.toInt = j) 
    (hy : i < j → OwnEnds p e below G (T.setTop (mkF m pc' Ls st))) (hn : j ≤ i → OwnEnds p e below G (T.setTop (mkF m pn Ls st))) : OwnEnds p e below G (T.setTop (mkF m pc Ls (.int y' :: .int x' :: st))) := by
  subst hpn
  by_cases k : x' < y'
  · exact own_st (fun _ q => XS.icmpYes X.here C.1 rfl rfl (hb C.2.2.2.1 hd) rfl (((tlt k).1)) ho hp q) (hy (by rw [Int32.lt_iff_toInt_lt] at k; have q : y'.toInt = j := hj; omega))
  · exact own_st (fun _ q => XS.icmpNo X.here C.1 rfl (hb C.2.2.2.1 hd) rfl (((flt k).1)) q) (hn (by rw [Int32.lt_iff_toInt_lt] at k; have q : y'.toInt = j := hj; omega))
theorem own_icmpge (X : Stand p l e R s m args below meth c T locs cells slots) (C : OwnCx p s m meth c Z y bs maxL rt) {x' y' : Int32} {o : Int} (hd : decode bs pc = .ok (.if_icmp .ge o, 3)) (pn pc' : Nat) (hpn : pc + 3 = pn) (ho : 0 ≤ (pc : Int) + o) (hp : ((pc : Int) + o).toNat = pc') {i : Int} (hi : x'.toInt = i) {j : Int} (hj : y'.toInt = j) 
    (hy : j ≤ i → OwnEnds p e below G (T.setTop (mkF m pc' Ls st))) (hn : i < j → OwnEnds p e below G (T.setTop (mkF m pn Ls st))) : OwnEnds p e below G (T.setTop (mkF m pc Ls (.int y' :: .int x' :: st))) := by
  subst hpn
  by_cases k : x' < y'
  · exact own_st (fun _ q => XS.icmpNo X.here C.1 rfl (hb C.2.2.2.1 hd) rfl (((tlt k).2.1)) q) (hn (by rw [Int32.lt_iff_toInt_lt] at k; have q : y'.toInt = j := hj; omega))
  · exact own_st (fun _ q => XS.icmpYes X.here C.1 rfl rfl (hb C.2.2.2.1 hd) rfl (((flt k).2.1)) ho hp q) (hy (by rw [Int32.lt_iff_toInt_lt] at k; have q : y'.toInt = j := hj; omega))
theorem own_icmpgt (X : Stand p l e R s m args below meth c T locs cells slots) (C : OwnCx p s m meth c Z y bs maxL rt) {x' y' : Int32} {o : Int} (hd : decode bs pc = .ok (.if_icmp .gt o, 3)) (pn pc' : Nat) (hpn : pc + 3 = pn) (ho : 0 ≤ (pc : Int) + o) (hp : ((pc : Int) + o).toNat = pc') {i : Int} (hi : x'.toInt = i) {j : Int} (hj : y'.toInt = j) 
    (hy : j < i → OwnEnds p e below G (T.setTop (mkF m pc' Ls st))) (hn : i ≤ j → OwnEnds p e below G (T.setTop (mkF m pn Ls st))) : OwnEnds p e below G (T.setTop (mkF m pc Ls (.int y' :: .int x' :: st))) := by
  subst hpn
  by_cases k : y' < x'
  · exact own_st (fun _ q => XS.icmpYes X.here C.1 rfl rfl (hb C.2.2.2.1 hd) rfl (((tlt k).2.2.1)) ho hp q) (hy (by rw [Int32.lt_iff_toInt_lt] at k; have q : y'.toInt = j := hj; omega))
  · exact own_st (fun _ q => XS.icmpNo X.here C.1 rfl (hb C.2.2.2.1 hd) rfl (((flt k).2.2.1)) q) (hn (by rw [Int32.lt_iff_toInt_lt] at k; have q : y'.toInt = j := hj; omega))
theorem own_icmple (X : Stand p l e R s m args below meth c T locs cells slots) (C : OwnCx p s m meth c Z y bs maxL rt) {x' y' : Int32} {o : Int} (hd : decode bs pc = .ok (.if_icmp .le o, 3)) (pn pc' : Nat) (hpn : pc + 3 = pn) (ho : 0 ≤ (pc : Int) + o) (hp : ((pc : Int) + o).toNat = pc') {i : Int} (hi : x'.toInt = i) {j : Int} (hj : y'.toInt = j) 
    (hy : i ≤ j → OwnEnds p e below G (T.setTop (mkF m pc' Ls st))) (hn : j < i → OwnEnds p e below G (T.setTop (mkF m pn Ls st))) : OwnEnds p e below G (T.setTop (mkF m pc Ls (.int y' :: .int x' :: st))) := by
  subst hpn
  by_cases k : y' < x'
  · exact own_st (fun _ q => XS.icmpNo X.here C.1 rfl (hb C.2.2.2.1 hd) rfl (((tlt k).2.2.2)) q) (hn (by rw [Int32.lt_iff_toInt_lt] at k; have q : y'.toInt = j := hj; omega))
  · exact own_st (fun _ q => XS.icmpYes X.here C.1 rfl rfl (hb C.2.2.2.1 hd) rfl (((flt k).2.2.2)) ho hp q) (hy (by rw [Int32.lt_iff_toInt_lt] at k; have q : y'.toInt = j := hj; omega))
theorem own_icmpeq (X : Stand p l e R s m args below meth c T locs cells slots) (C : OwnCx p s m meth c Z y bs maxL rt) {x' y' : Int32} {o : Int} (hd : decode bs pc = .ok (.if_icmp .eq o, 3)) (pn pc' : Nat) (hpn : pc + 3 = pn) (ho : 0 ≤ (pc : Int) + o) (hp : ((pc : Int) + o).toNat = pc') {i : Int} (hi : x'.toInt = i) {j : Int} (hj : y'.toInt = j) 
    (hy : i = j → OwnEnds p e below G (T.setTop (mkF m pc' Ls st))) (hn : i ≠ j → OwnEnds p e below G (T.setTop (mkF m pn Ls st))) : OwnEnds p e below G (T.setTop (mkF m pc Ls (.int y' :: .int x' :: st))) := by
  subst hpn
  by_cases k : x' = y'
  · exact own_st (fun _ q => XS.icmpYes X.here C.1 rfl rfl (hb C.2.2.2.1 hd) rfl (((teq k).1)) ho hp q) (hy (by subst k; exact hi.symm.trans hj))
  · exact own_st (fun _ q => XS.icmpNo X.here C.1 rfl (hb C.2.2.2.1 hd) rfl (((feq k).1)) q) (hn (fun q => k (Int32.toInt_inj.mp (hi.trans (q.trans hj.symm)))))
theorem own_icmpne (X : Stand p l e R s m args below meth c T locs cells slots) (C : OwnCx p s m meth c Z y bs maxL rt) {x' y' : Int32} {o : Int} (hd : decode bs pc = .ok (.if_icmp .ne o, 3)) (pn pc' : Nat) (hpn : pc + 3 = pn) (ho : 0 ≤ (pc : Int) + o) (hp : ((pc : Int) + o).toNat = pc') {i : Int} (hi : x'.toInt = i) {j : Int} (hj : y'.toInt = j) 
    (hy : i ≠ j → OwnEnds p e below G (T.setTop (mkF m pc' Ls st))) (hn : i = j → OwnEnds p e below G (T.setTop (mkF m pn Ls st))) : OwnEnds p e below G (T.setTop (mkF m pc Ls (.int y' :: .int x' :: st))) := by
  subst hpn
  by_cases k : x' = y'
  · exact own_st (fun _ q => XS.icmpNo X.here C.1 rfl (hb C.2.2.2.1 hd) rfl (((teq k).2)) q) (hn (by subst k; exact hi.symm.trans hj))
  · exact own_st (fun _ q => XS.icmpYes X.here C.1 rfl rfl (hb C.2.2.2.1 hd) rfl (((feq k).2)) ho hp q) (hy (fun q => k (Int32.toInt_inj.mp (hi.trans (q.trans hj.symm)))))
theorem own_iflt (X : Stand p l e R s m args below meth c T locs cells slots) (C : OwnCx p s m meth c Z y bs maxL rt) {x' : Int32} {o : Int} (hd : decode bs pc = .ok (.ifCond .lt o, 3)) (pn pc' : Nat) (hpn : pc + 3 = pn) (ho : 0 ≤ (pc : Int) + o) (hp : ((pc : Int) + o).toNat = pc') {i : Int} (hi : x'.toInt = i) 
    (hy : i < 0 → OwnEnds p e below G (T.setTop (mkF m pc' Ls st))) (hn : 0 ≤ i → OwnEnds p e below G (T.setTop (mkF m pn Ls st))) : OwnEnds p e below G (T.setTop (mkF m pc Ls (.int x' :: st))) := by
  subst hpn
  by_cases k : x' < (0 : Int32)
  · exact own_st (fun _ q => XS.ifYes X.here C.1 rfl rfl (hb C.2.2.2.1 hd) rfl ((if0 _ _).trans ((tlt k).1)) ho hp q) (hy (by rw [Int32.lt_iff_toInt_lt] at k; have q : (0 : Int32).toInt = 0 := (rfl : (0 : Int32).toInt = 0); omega))
  · exact own_st (fun _ q => XS.ifNo X.here C.1 rfl (hb C.2.2.2.1 hd) rfl ((if0 _ _).trans ((flt k).1)) q) (hn (by rw [Int32.lt_iff_toInt_lt] at k; have q : (0 : Int32).toInt = 0 := (rfl : (0 : Int32).toInt = 0); omega))
theorem own_ifge (X : Stand p l e R s m args below meth c T locs cells slots) (C : OwnCx p s m meth c Z y bs maxL rt) {x' : Int32} {o : Int} (hd : decode bs pc = .ok (.ifCond .ge o, 3)) (pn pc' : Nat) (hpn : pc + 3 = pn) (ho : 0 ≤ (pc : Int) + o) (hp : ((pc : Int) + o).toNat = pc') {i : Int} (hi : x'.toInt = i) 
    (hy : 0 ≤ i → OwnEnds p e below G (T.setTop (mkF m pc' Ls st))) (hn : i < 0 → OwnEnds p e below G (T.setTop (mkF m pn Ls st))) : OwnEnds p e below G (T.setTop (mkF m pc Ls (.int x' :: st))) := by
  subst hpn
  by_cases k : x' < (0 : Int32)
  · exact own_st (fun _ q => XS.ifNo X.here C.1 rfl (hb C.2.2.2.1 hd) rfl ((if0 _ _).trans ((tlt k).2.1)) q) (hn (by rw [Int32.lt_iff_toInt_lt] at k; have q : (0 : Int32).toInt = 0 := (rfl : (0 : Int32).toInt = 0); omega))
  · exact own_st (fun _ q => XS.ifYes X.here C.1 rfl rfl (hb C.2.2.2.1 hd) rfl ((if0 _ _).trans ((flt k).2.1)) ho hp q) (hy (by rw [Int32.lt_iff_toInt_lt] at k; have q : (0 : Int32).toInt = 0 := (rfl : (0 : Int32).toInt = 0); omega))
theorem own_ifgt (X : Stand p l e R s m args below meth c T locs cells slots) (C : OwnCx p s m meth c Z y bs maxL rt) {x' : Int32} {o : Int} (hd : decode bs pc = .ok (.ifCond .gt o, 3)) (pn pc' : Nat) (hpn : pc + 3 = pn) (ho : 0 ≤ (pc : Int) + o) (hp : ((pc : Int) + o).toNat = pc') {i : Int} (hi : x'.toInt = i) 
    (hy : 0 < i → OwnEnds p e below G (T.setTop (mkF m pc' Ls st))) (hn : i ≤ 0 → OwnEnds p e below G (T.setTop (mkF m pn Ls st))) : OwnEnds p e below G (T.setTop (mkF m pc Ls (.int x' :: st))) := by
  subst hpn
  by_cases k : (0 : Int32) < x'
  · exact own_st (fun _ q => XS.ifYes X.here C.1 rfl rfl (hb C.2.2.2.1 hd) rfl ((if0 _ _).trans ((tlt k).2.2.1)) ho hp q) (hy (by rw [Int32.lt_iff_toInt_lt] at k; have q : (0 : Int32).toInt = 0 := (rfl : (0 : Int32).toInt = 0); omega))
  · exact own_st (fun _ q => XS.ifNo X.here C.1 rfl (hb C.2.2.2.1 hd) rfl ((if0 _ _).trans ((flt k).2.2.1)) q) (hn (by rw [Int32.lt_iff_toInt_lt] at k; have q : (0 : Int32).toInt = 0 := (rfl : (0 : Int32).toInt = 0); omega))
theorem own_ifle (X : Stand p l e R s m args below meth c T locs cells slots) (C : OwnCx p s m meth c Z y bs maxL rt) {x' : Int32} {o : Int} (hd : decode bs pc = .ok (.ifCond .le o, 3)) (pn pc' : Nat) (hpn : pc + 3 = pn) (ho : 0 ≤ (pc : Int) + o) (hp : ((pc : Int) + o).toNat = pc') {i : Int} (hi : x'.toInt = i) 
    (hy : i ≤ 0 → OwnEnds p e below G (T.setTop (mkF m pc' Ls st))) (hn : 0 < i → OwnEnds p e below G (T.setTop (mkF m pn Ls st))) : OwnEnds p e below G (T.setTop (mkF m pc Ls (.int x' :: st))) := by
  subst hpn
  by_cases k : (0 : Int32) < x'
  · exact own_st (fun _ q => XS.ifNo X.here C.1 rfl (hb C.2.2.2.1 hd) rfl ((if0 _ _).trans ((tlt k).2.2.2)) q) (hn (by rw [Int32.lt_iff_toInt_lt] at k; have q : (0 : Int32).toInt = 0 := (rfl : (0 : Int32).toInt = 0); omega))
  · exact own_st (fun _ q => XS.ifYes X.here C.1 rfl rfl (hb C.2.2.2.1 hd) rfl ((if0 _ _).trans ((flt k).2.2.2)) ho hp q) (hy (by rw [Int32.lt_iff_toInt_lt] at k; have q : (0 : Int32).toInt = 0 := (rfl : (0 : Int32).toInt = 0); omega))
theorem own_ifeq (X : Stand p l e R s m args below meth c T locs cells slots) (C : OwnCx p s m meth c Z y bs maxL rt) {x' : Int32} {o : Int} (hd : decode bs pc = .ok (.ifCond .eq o, 3)) (pn pc' : Nat) (hpn : pc + 3 = pn) (ho : 0 ≤ (pc : Int) + o) (hp : ((pc : Int) + o).toNat = pc') {i : Int} (hi : x'.toInt = i) 
    (hy : i = 0 → OwnEnds p e below G (T.setTop (mkF m pc' Ls st))) (hn : i ≠ 0 → OwnEnds p e below G (T.setTop (mkF m pn Ls st))) : OwnEnds p e below G (T.setTop (mkF m pc Ls (.int x' :: st))) := by
  subst hpn
  by_cases k : x' = (0 : Int32)
  · exact own_st (fun _ q => XS.ifYes X.here C.1 rfl rfl (hb C.2.2.2.1 hd) rfl ((if0 _ _).trans ((teq k).1)) ho hp q) (hy (by subst k; exact hi.symm.trans (rfl : (0 : Int32).toInt = 0)))
  · exact own_st (fun _ q => XS.ifNo X.here C.1 rfl (hb C.2.2.2.1 hd) rfl ((if0 _ _).trans ((feq k).1)) q) (hn (fun q => k (Int32.toInt_inj.mp (hi.trans (q.trans (rfl : (0 : Int32).toInt = 0).symm)))))
theorem own_ifne (X : Stand p l e R s m args below meth c T locs cells slots) (C : OwnCx p s m meth c Z y bs maxL rt) {x' : Int32} {o : Int} (hd : decode bs pc = .ok (.ifCond .ne o, 3)) (pn pc' : Nat) (hpn : pc + 3 = pn) (ho : 0 ≤ (pc : Int) + o) (hp : ((pc : Int) + o).toNat = pc') {i : Int} (hi : x'.toInt = i) 
    (hy : i ≠ 0 → OwnEnds p e below G (T.setTop (mkF m pc' Ls st))) (hn : i = 0 → OwnEnds p e below G (T.setTop (mkF m pn Ls st))) : OwnEnds p e below G (T.setTop (mkF m pc Ls (.int x' :: st))) := by
  subst hpn
  by_cases k : x' = (0 : Int32)
  · exact own_st (fun _ q => XS.ifNo X.here C.1 rfl (hb C.2.2.2.1 hd) rfl ((if0 _ _).trans ((teq k).2)) q) (hn (by subst k; exact hi.symm.trans (rfl : (0 : Int32).toInt = 0)))
  · exact own_st (fun _ q => XS.ifYes X.here C.1 rfl rfl (hb C.2.2.2.1 hd) rfl ((if0 _ _).trans ((feq k).2)) ho hp q) (hy (fun q => k (Int32.toInt_inj.mp (hi.trans (q.trans (rfl : (0 : Int32).toInt = 0).symm)))))
theorem own_ifnonnull_y (X : Stand p l e R s m args below meth c T locs cells slots) (C : OwnCx p s m meth c Z y bs maxL rt) {b : Addr} {o : Int} (hd : decode bs pc = .ok (.ifnonnull o, 3)) (pc' : Nat) (ho : 0 ≤ (pc : Int) + o) (hp : ((pc : Int) + o).toNat = pc')
    (hr : OwnEnds p e below G (T.setTop (mkF m pc' Ls st))) : OwnEnds p e below G (T.setTop (mkF m pc Ls (.ref b :: st))) :=
  own_st (fun _ q => XS.ifnonnullYes X.here C.1 rfl rfl (hb C.2.2.2.1 hd) rfl ho hp q) hr
theorem own_ifnull_n (X : Stand p l e R s m args below meth c T locs cells slots) (C : OwnCx p s m meth c Z y bs maxL rt) {b : Addr} {o : Int} (hd : decode bs pc = .ok (.ifnull o, 3)) (pn : Nat) (hp : pc + 3 = pn)
    (hr : OwnEnds p e below G (T.setTop (mkF m pn Ls st))) : OwnEnds p e below G (T.setTop (mkF m pc Ls (.ref b :: st))) := by
  subst hp; exact own_st (fun _ q => XS.ifnullNo X.here C.1 rfl (hb C.2.2.2.1 hd) rfl q) hr
theorem own_ifnull_y (X : Stand p l e R s m args below meth c T locs cells slots) (C : OwnCx p s m meth c Z y bs maxL rt) {o : Int} (hd : decode bs pc = .ok (.ifnull o, 3)) (pc' : Nat) (ho : 0 ≤ (pc : Int) + o) (hp : ((pc : Int) + o).toNat = pc')
    (hr : OwnEnds p e below G (T.setTop (mkF m pc' Ls st))) : OwnEnds p e below G (T.setTop (mkF m pc Ls (.null :: st))) :=
  own_st (fun _ q => XS.ifnullYes X.here C.1 rfl rfl (hb C.2.2.2.1 hd) rfl ho hp q) hr
theorem own_ifnonnull_n (X : Stand p l e R s m args below meth c T locs cells slots) (C : OwnCx p s m meth c Z y bs maxL rt) {o : Int} (hd : decode bs pc = .ok (.ifnonnull o, 3)) (pn : Nat) (hp : pc + 3 = pn)
    (hr : OwnEnds p e below G (T.setTop (mkF m pn Ls st))) : OwnEnds p e below G (T.setTop (mkF m pc Ls (.null :: st))) := by
  subst hp; exact own_st (fun _ q => XS.ifnonnullNo X.here C.1 rfl (hb C.2.2.2.1 hd) rfl q) hr
theorem own_acmpeq (X : Stand p l e R s m args below meth c T locs cells slots) (C : OwnCx p s m meth c Z y bs maxL rt) {a b : Addr} {o : Int} (hd : decode bs pc = .ok (.if_acmp .eq o, 3)) (pn pc' : Nat) (hpn : pc + 3 = pn) (ho : 0 ≤ (pc : Int) + o) (hp : ((pc : Int) + o).toNat = pc')
    (hy : a = b → OwnEnds p e below G (T.setTop (mkF m pc' Ls st))) (hn : a ≠ b → OwnEnds p e below G (T.setTop (mkF m pn Ls st))) : OwnEnds p e below G (T.setTop (mkF m pc Ls (.ref b :: .ref a :: st))) := by
  subst hpn
  by_cases k : a = b
  · exact own_st (fun _ q => XS.acmpYes X.here C.1 rfl rfl (hb C.2.2.2.1 hd) rfl (by simp [if_acmp.holds, k]) ho hp q) (hy k)
  · exact own_st (fun _ q => XS.acmpNo X.here C.1 rfl (hb C.2.2.2.1 hd) rfl (by simp [if_acmp.holds, k]) q) (hn k)
theorem own_acmpne (X : Stand p l e R s m args below meth c T locs cells slots) (C : OwnCx p s m meth c Z y bs maxL rt) {a b : Addr} {o : Int} (hd : decode bs pc = .ok (.if_acmp .ne o, 3)) (pn pc' : Nat) (hpn : pc + 3 = pn) (ho : 0 ≤ (pc : Int) + o) (hp : ((pc : Int) + o).toNat = pc')
    (hy : a ≠ b → OwnEnds p e below G (T.setTop (mkF m pc' Ls st))) (hn : a = b → OwnEnds p e below G (T.setTop (mkF m pn Ls st))) : OwnEnds p e below G (T.setTop (mkF m pc Ls (.ref b :: .ref a :: st))) := by
  subst hpn
  by_cases k : a = b
  · exact own_st (fun _ q => XS.acmpNo X.here C.1 rfl (hb C.2.2.2.1 hd) rfl (by simp [if_acmp.holds, k]) q) (hn k)
  · exact own_st (fun _ q => XS.acmpYes X.here C.1 rfl rfl (hb C.2.2.2.1 hd) rfl (by simp [if_acmp.holds, k]) ho hp q) (hy k)
theorem own_leave (X : Stand p l e R s m args below meth c T locs cells slots) (C : OwnCx p s m meth c Z y bs maxL rt) (v : Option Value) (hv : meth.sig.returnType = none → v = none) (hce : cells ≤ ce) (hsl : slots ≤ sl) (hQ : Q v T.heap locs) {S : State}
    (k : ∀ fs, (∀ (f : JFrame) (acts : List Action), f.method = m → f.locked = none → f.entered = [] → (doReturn e (T.setTop f) acts v).1 = T.setFrames fs) → Steps p.tables e below S (T.setFrames fs)) : OwnEnds p e below (OwnG s ce sl Q) S := by
  obtain ⟨fs, hr, hrun, hended, hW, hsame⟩ := X.leave (v := v) hv C.2.2.2.2.2.2.1
  exact ⟨_, _, k fs hr, hrun, hended, _, _, rfl, hQ, ⟨_, rfl⟩, hW, hsame.mono hce hsl⟩
theorem own_return (X : Stand p l e R s m args below meth c T locs cells slots) (C : OwnCx p s m meth c Z y bs maxL rt) (hrt : rt = none) (hd : decode bs pc = .ok (.return_, 1)) (hce : cells ≤ ce) (hsl : slots ≤ sl) (hQ : Q none T.heap locs) : OwnEnds p e below (OwnG s ce sl Q) (T.setTop (mkF m pc Ls [])) := by
  subst hrt
  exact own_leave X C none (fun _ => rfl) hce hsl hQ fun fs hr => X.returnOut C.1 C.2.2.2.2.2.1 (hb C.2.2.2.1 hd) hr
theorem own_iretN (X : Stand p l e R s m args below meth c T locs cells slots) (C : OwnCx p s m meth c Z y bs maxL rt) {z : Int32} (t : FieldType) (hrt : rt = some t) (ht : t = .boolean ∨ t = .byte ∨ t = .char ∨ t = .short) (hd : decode bs pc = .ok (.ireturn, 1)) (hce : cells ≤ ce) (hsl : slots ≤ sl) (w : Int32) (hw : nar t z = w) (hQ : Q (some (.int w)) T.heap locs) : OwnEnds p e below (OwnG s ce sl Q) (T.setTop (mkF m pc Ls (.int z :: st))) := by
  subst hrt hw
  exact own_leave X C (some (.int (nar t z))) (fun q => by rw [C.2.2.2.2.2.1] at q; cases q) hce hsl hQ fun fs hr => retN X C.1 C.2.2.2.2.2.1 ht (hb C.2.2.2.1 hd) hr
theorem own_ireturn (X : Stand p l e R s m args below meth c T locs cells slots) (C : OwnCx p s m meth c Z y bs maxL rt) {z : Int32} (hrt : rt = some .int) (hd : decode bs pc = .ok (.ireturn, 1)) (hce : cells ≤ ce) (hsl : slots ≤ sl) (hQ : Q (some (.int z)) T.heap locs) : OwnEnds p e below (OwnG s ce sl Q) (T.setTop (mkF m pc Ls (.int z :: st))) := by
  subst hrt
  exact own_leave X C (some (.int z)) (fun q => by rw [C.2.2.2.2.2.1] at q; cases q) hce hsl hQ fun fs hr => retOut X C.1 C.2.2.2.2.2.1 rfl (Or.inl ⟨rfl, Or.inl rfl, z, rfl⟩) (hb C.2.2.2.1 hd) hr
theorem own_lreturn (X : Stand p l e R s m args below meth c T locs cells slots) (C : OwnCx p s m meth c Z y bs maxL rt) {z : Int64} (hrt : rt = some .long) (hd : decode bs pc = .ok (.lreturn, 1)) (hce : cells ≤ ce) (hsl : slots ≤ sl) (hQ : Q (some (.long z)) T.heap locs) : OwnEnds p e below (OwnG s ce sl Q) (T.setTop (mkF m pc Ls (.long z :: st))) := by
  subst hrt
  exact own_leave X C (some (.long z)) (fun q => by rw [C.2.2.2.2.2.1] at q; cases q) hce hsl hQ fun fs hr => retOut X C.1 C.2.2.2.2.2.1 rfl (Or.inr (Or.inl ⟨rfl, rfl, z, rfl⟩)) (hb C.2.2.2.1 hd) hr
theorem own_areturn (X : Stand p l e R s m args below meth c T locs cells slots) (C : OwnCx p s m meth c Z y bs maxL rt) {z : Value} (t : FieldType) (hrt : rt = some t) (ht : t.isReference = true) (hz : z.isRef = true) (hn : narrow t z = z) (hd : decode bs pc = .ok (.areturn, 1)) (hce : cells ≤ ce) (hsl : slots ≤ sl) (hQ : Q (some z) T.heap locs) : OwnEnds p e below (OwnG s ce sl Q) (T.setTop (mkF m pc Ls (z :: st))) := by
  subst hrt
  exact own_leave X C (some z) (fun q => by rw [C.2.2.2.2.2.1] at q; cases q) hce hsl hQ fun fs hr => retOut X C.1 C.2.2.2.2.2.1 hn (Or.inr (Or.inr (Or.inr (Or.inr ⟨rfl, ht, hz⟩)))) (hb C.2.2.2.1 hd) hr
theorem own_callS (X : Stand p l e R s m args below meth c T locs cells slots) (C : OwnCx p s m meth c Z y bs maxL rt) {idx : Nat} {y' : MethodName} {bs' : ByteArray} {maxL' : Nat} {rt' : Option FieldType} {rm : Room} {as' : Array Value} {Q' : Option Value → Heap → List Loc → Prop}
    (w1 : (Jvm.Cond.methodLink y.cls idx y').before a0 Z = true) (w2 : (Jvm.Cond.static y').before a0 Z = true) (w3 : (Jvm.Cond.initialized y'.cls).before a0 Z = true) (w4 : (Jvm.Cond.code y' bs' maxL' rt').before a0 Z = true) (hy : y'.cls ≠ "java/lang/invoke/MethodHandle" ∧ y'.cls ≠ "java/lang/invoke/VarHandle")
    (hM : OwnMet l Z y' bs' maxL' rt' [] rm as' h Q') (eT : T.heap = h) {ps : List FieldType} {r : Option FieldType} (hpd : parseMethodDescriptor y'.desc = some ⟨ps, r⟩) (argsL : List Value) (has : argsL.toArray = as') (hlen : argsL.length = ps.length) (hst : st = argsL.reverse ++ rest) (hsz : Ls.size = maxL)
    (W : Nat) (hW : (rest.map fun v => v.category).sum = W) (hf : rm.frames + 1 ≤ R.frames) (hlo : W + (maxL' + 11) + rm.locals ≤ R.locals) (hce : cells + rm.cells ≤ R.cells) (hsl : slots + rm.slots ≤ R.slots) (hd : decode bs pc = .ok (.invokestatic idx, 3)) (pc' : Nat) (hp : pc + 3 = pc')
    (hr : ∀ T' L v, Stand p l e R s m args below meth c T' (locs ++ L) (cells + rm.cells) (slots + rm.slots) → Q' v T'.heap L → OwnEnds p e below G (T'.setTop (mkF m pc' Ls (v.toList ++ rest)))) : OwnEnds p e below G (T.setTop (mkF m pc Ls st)) := by
  subst hp has hW
  obtain ⟨v, _, ⟨T', L, k, n⟩, -, X', ⟨L', hQ, l1, l2, l3⟩, stp⟩ := Jvm.LawKit.callS X C.1 C.2.2.1 (mvT C.2.1 w1) (mvT C.2.1 w2) (mvT C.2.1 w3) (mvT C.2.1 w4) hy (backOf (len := 3) (W := (rest.map fun v => v.category).sum) hM C.2.1 w4 w3 hf hlo) (g := mkF m pc Ls st) rfl (by rw [C.2.2.2.2.1]; exact hsz) (argsL := argsL) (rest := rest) (lenOf hpd hlen) hst (by show 2 * 0 + _ ≤ _; omega) (hb C.2.2.2.1 hd) (fun _ _ => ⟨rfl, eT, hce, hsl⟩)
  dsimp only [Pt.U, Pt.locs, Pt.cells, Pt.slots] at X' l1 l2 l3 stp hQ
  subst l1 l2 l3
  exact own_st stp (hr T' L' v X' hQ)
/-- a callee that returns w and leaves the heap alone -/
def OwnPure (w : Value) (h : Heap) : Option Value → Heap → List Loc → Prop := fun v h' L => v = some w ∧ h' = h ∧ L = []
theorem own_conv {ws : List Jvm.Cond} {rm : Room} {as' : Array Value} {w w' : Value} (H : OwnMet l Z y bs maxL rt ws rm as' h (OwnPure w h)) (q : w = w') : OwnMet l Z y bs maxL rt ws rm as' h (OwnPure w' h) := q ▸ H
theorem own_callP (X : Stand p l e R s m args below meth c T locs cells slots) (C : OwnCx p s m meth c Z y bs maxL rt) {idx : Nat} {y' : MethodName} {bs' : ByteArray} {maxL' : Nat} {rt' : Option FieldType} {rm : Room} {as' : Array Value} {w : Value}
    (w1 : (Jvm.Cond.methodLink y.cls idx y').before a0 Z = true) (w2 : (Jvm.Cond.static y').before a0 Z = true) (w3 : (Jvm.Cond.initialized y'.cls).before a0 Z = true) (w4 : (Jvm.Cond.code y' bs' maxL' rt').before a0 Z = true) (hy : y'.cls ≠ "java/lang/invoke/MethodHandle" ∧ y'.cls ≠ "java/lang/invoke/VarHandle")
    (hM : OwnMet l Z y' bs' maxL' rt' [] rm as' h (OwnPure w h)) (eT : T.heap = h) {ps : List FieldType} {r : Option FieldType} (hpd : parseMethodDescriptor y'.desc = some ⟨ps, r⟩) (argsL : List Value) (has : argsL.toArray = as') (hlen : argsL.length = ps.length) (hst : st = argsL.reverse ++ rest) (hsz : Ls.size = maxL)
    (W : Nat) (hW : (rest.map fun v => v.category).sum = W) (hf : rm.frames + 1 ≤ R.frames) (hlo : W + (maxL' + 11) + rm.locals ≤ R.locals) (hce : rm.cells = 0) (hsl : rm.slots = 0) (hc0 : cells ≤ R.cells) (hs0 : slots ≤ R.slots) (hd : decode bs pc = .ok (.invokestatic idx, 3)) (pc' : Nat) (hp : pc + 3 = pc')
    (hr : ∀ T', Stand p l e R s m args below meth c T' locs cells slots → T'.heap = h → OwnEnds p e below G (T'.setTop (mkF m pc' Ls (w :: rest)))) : OwnEnds p e below G (T.setTop (mkF m pc Ls st)) := by
  refine own_callS X C w1 w2 w3 w4 hy hM eT hpd argsL has hlen hst hsz W hW hf hlo (by omega) (by omega) hd pc' hp ?_
  rintro T' L v X' ⟨rfl, e, rfl⟩
  rw [List.append_nil, hce, hsl] at X'
  exact hr T' X' e
/-- a callee that leaves the heap alone and returns a value of which Pw says something -/
def OwnSome (Pw : Value → Prop) (h : Heap) : Option Value → Heap → List Loc → Prop := fun v h' L => (∃ w, v = some w ∧ Pw w) ∧ h' = h ∧ L = []
theorem own_callE (X : Stand p l e R s m args below meth c T locs cells slots) (C : OwnCx p s m meth c Z y bs maxL rt) {idx : Nat} {y' : MethodName} {bs' : ByteArray} {maxL' : Nat} {rt' : Option FieldType} {rm : Room} {as' : Array Value} {Pw : Value → Prop}
    (w1 : (Jvm.Cond.methodLink y.cls idx y').before a0 Z = true) (w2 : (Jvm.Cond.static y').before a0 Z = true) (w3 : (Jvm.Cond.initialized y'.cls).before a0 Z = true) (w4 : (Jvm.Cond.code y' bs' maxL' rt').before a0 Z = true) (hy : y'.cls ≠ "java/lang/invoke/MethodHandle" ∧ y'.cls ≠ "java/lang/invoke/VarHandle")
    (hM : OwnMet l Z y' bs' maxL' rt' [] rm as' h (OwnSome Pw h)) (eT : T.heap = h) {ps : List FieldType} {r : Option FieldType} (hpd : parseMethodDescriptor y'.desc = some ⟨ps, r⟩) (argsL : List Value) (has : argsL.toArray = as') (hlen : argsL.length = ps.length) (hst : st = argsL.reverse ++ rest) (hsz : Ls.size = maxL)
    (W : Nat) (hW : (rest.map fun v => v.category).sum = W) (hf : rm.frames + 1 ≤ R.frames) (hlo : W + (maxL' + 11) + rm.locals ≤ R.locals) (hce : rm.cells = 0) (hsl : rm.slots = 0) (hc0 : cells ≤ R.cells) (hs0 : slots ≤ R.slots) (hd : decode bs pc = .ok (.invokestatic idx, 3)) (pc' : Nat) (hp : pc + 3 = pc')
    (hr : ∀ T' w, Pw w → Stand p l e R s m args below meth c T' locs cells slots → T'.heap = h → OwnEnds p e below G (T'.setTop (mkF m pc' Ls (w :: rest)))) : OwnEnds p e below G (T.setTop (mkF m pc Ls st)) := by
  refine own_callS X C w1 w2 w3 w4 hy hM eT hpd argsL has hlen hst hsz W hW hf hlo (by omega) (by omega) hd pc' hp ?_
  rintro T' L v X' ⟨⟨w, rfl, hw⟩, e, rfl⟩
  rw [List.append_nil, hce, hsl] at X'
  exact hr T' w hw X' e
end OwnLayer
section OwnHeap
variable {p : Program} {l : Launch} {e : Env} {R : Room} {s : State} {m : MethodId} {args : Array Value} {below : List Frame} {meth : Method} {c : Code} {T : State} {locs : List Loc} {cells slots : Nat} {Z : State} {y : MethodName} {bs : ByteArray} {maxL : Nat} {rt : Option FieldType} {ce sl : Nat} {Q : Option Value → Heap → List Loc → Prop} {G : Outcome → State → Prop} {pc : Nat} {Ls : Array Slot} {st rest : List Value} {h h' : Heap} {a0 : Array Value} {a : Addr}
/-- an array: its length and what lies at each place -/
def OwnAr (Z : State) (h : Heap) (a : Addr) (ty : FieldType) (n : Nat) (f : Nat → Value) : Prop := ∃ cl : Cell, Arr Z h a cl ty ∧ cl.slots.size = n ∧ ∀ i, i < n → cl.slots[i]? = some (f i)
theorem OwnAr.lt {ty : FieldType} {n : Nat} {f : Nat → Value} (F : OwnAr Z h a ty n f) : a < h.size := by obtain ⟨cl, A, -⟩ := F; exact A.lt
theorem OwnAr.ext {ty : FieldType} {n : Nat} {f : Nat → Value} (F : OwnAr Z h a ty n f) (E : Ext h h') : OwnAr Z h' a ty n f := by obtain ⟨cl, A, r⟩ := F; exact ⟨cl, A.ext E, r⟩
theorem OwnAr.other {ty : FieldType} {n : Nat} {f : Nat → Value} {b : Addr} {sl : Nat} {v : Value} (F : OwnAr Z h a ty n f) (W : Wr h h' b sl v) (q : a ≠ b) : OwnAr Z h' a ty n f := by obtain ⟨cl, A, r⟩ := F; exact ⟨cl, A.other W q, r⟩
theorem OwnAr.keep {ty : FieldType} {n : Nat} {f : Nat → Value} {ws : List Addr} (F : OwnAr Z h a ty n f) (K : Keep h h' ws) (q : a ∉ ws) : OwnAr Z h' a ty n f := by obtain ⟨cl, A, r⟩ := F; exact ⟨cl, ⟨K.2.1 a cl A.1 q, A.2⟩, r⟩
theorem OwnAr.eqv {ty : FieldType} {n : Nat} {f g : Nat → Value} (F : OwnAr Z h a ty n f) (q : ∀ i, i < n → f i = g i) : OwnAr Z h a ty n g := by obtain ⟨cl, A, S, r⟩ := F; exact ⟨cl, A, S, fun i hi => by rw [r i hi, q i hi]⟩
theorem OwnAr.set {ty : FieldType} {n : Nat} {f : Nat → Value} {k : Nat} {v : Value} (F : OwnAr Z h a ty n f) (W : Wr h h' a k v) : OwnAr Z h' a ty n (fun i => if i = k then v else f i) := by
  obtain ⟨cl, A, S, r⟩ := F
  obtain ⟨cl', w1, w2, w3, w4⟩ := id W
  cases A.1.symm.trans w1
  refine ⟨cl.setSlot k v, A.same W, by rw [sz_set]; exact S, fun i hi => ?_⟩
  by_cases q : i = k
  · subst q; simp [Cell.setSlot, w3]
  · simp [Cell.setSlot, q, Array.getElem?_setIfInBounds_ne (Ne.symm q), r i hi]
theorem OwnAr.new {ty : FieldType} {n : Int32} {cA : ClassId} (A : Arr Z h a (newA cA ty n) ty) : OwnAr Z h a ty n.toNatClampNeg (fun _ => defaultValue ty) := ⟨_, A, sz_new _ _ _, fun i hi => by simp [newA, hi]⟩
theorem own_fr1 {k : Nat} {L : List Loc} {a : Addr} {sl : Nat} (N : Fr k L) (q : k ≤ a) : Fr k (L ++ [⟨a, sl⟩]) := N.app fun y hy => by cases List.mem_singleton.mp hy; exact q
theorem own_stak {C n d : String} {v : Value} (F : Sta Z h C n d v) (K : Keep h h' []) : Sta Z h' C n d v := by
  obtain ⟨cf, i, k, f, st, cell, h1, h2, h3, h4, h5, r⟩ := F
  exact ⟨cf, i, k, f, st, cell, h1, h2, h3, h4, K.2.1 _ _ h5 nin0, r⟩
theorem own_arl {a : Nat} {ty : FieldType} {n : Nat} {f : Nat → Value} (F : OwnAr Z h a ty n f) : a < h.size := F.lt
theorem own_exl {a : Nat} {K : String} (F : Exa Z h a K) : a < h.size := F.lt
theorem own_iteI {q : Prop} [Decidable q] {a b : Int32} : (if q then Value.int a else Value.int b) = Value.int (if q then a else b) := by split <;> rfl
theorem own_iteL {q : Prop} [Decidable q] {a b : Int64} : (if q then Value.long a else Value.long b) = Value.long (if q then a else b) := by split <;> rfl
theorem own_ne {x y : Nat} (q : x ≠ y) : @Ne Addr x y := q
theorem own_in {j : Int32} {n : Nat} (h0 : 0 ≤ j.toInt) (h1 : j.toInt < n) : ¬ (j < 0 ∨ n ≤ j.toNatClampNeg) := by
  rintro (q | q)
  · rw [Int32.lt_iff_toInt_lt] at q; have : (0 : Int32).toInt = 0 := rfl; omega
  · have e : j.toNatClampNeg = j.toInt.toNat := rfl
    omega
theorem own_len {n : Nat} (h : n < 2147483648) : (n.toInt32).toInt = n := by
  show (Int32.ofNat n).toInt = _
  rw [Int32.toInt_ofNat_of_lt (by omega)]
theorem own_iastore (X : Stand p l e R s m args below meth c T locs cells slots) (C : OwnCx p s m meth c Z y bs maxL rt) {v : Int32} {j : Int32} {n : Nat} {f : Nat → Value} (eT : T.heap = h) (F : OwnAr Z h a .int n f) (h0 : 0 ≤ j.toInt) (h1 : j.toInt < n) (hd : decode bs pc = .ok (.iastore, 1)) (pc' : Nat) (hp : pc + 1 = pc')
    (hr : ∀ T' h', Stand p l e R s m args below meth c T' (locs ++ [⟨a, j.toInt.toNat⟩]) cells slots → T'.heap = h' → Wr h h' a j.toInt.toNat (.int v) → OwnEnds p e below G (T'.setTop (mkF m pc' Ls st))) : OwnEnds p e below G (T.setTop (mkF m pc Ls ((.int v) :: .int j :: .ref a :: st))) := by
  subst hp
  obtain ⟨cl, A, S, r⟩ := F
  obtain ⟨T', h', X', e', W, stp⟩ := stI X C.1 C.2.1 eT A (j := j) (x := v) (by rw [S]; exact own_in h0 h1) (g := mkF m pc Ls _) rfl rfl (hb C.2.2.2.1 hd)
  exact own_st stp (hr T' h' X' e' W)
theorem own_lastore (X : Stand p l e R s m args below meth c T locs cells slots) (C : OwnCx p s m meth c Z y bs maxL rt) {v : Int64} {j : Int32} {n : Nat} {f : Nat → Value} (eT : T.heap = h) (F : OwnAr Z h a .long n f) (h0 : 0 ≤ j.toInt) (h1 : j.toInt < n) (hd : decode bs pc = .ok (.lastore, 1)) (pc' : Nat) (hp : pc + 1 = pc')
    (hr : ∀ T' h', Stand p l e R s m args below meth c T' (locs ++ [⟨a, j.toInt.toNat⟩]) cells slots → T'.heap = h' → Wr h h' a j.toInt.toNat (.long v) → OwnEnds p e below G (T'.setTop (mkF m pc' Ls st))) : OwnEnds p e below G (T.setTop (mkF m pc Ls ((.long v) :: .int j :: .ref a :: st))) := by
  subst hp
  obtain ⟨cl, A, S, r⟩ := F
  obtain ⟨T', h', X', e', W, stp⟩ := stJ X C.1 C.2.1 eT A (j := j) (x := v) (by rw [S]; exact own_in h0 h1) (g := mkF m pc Ls _) rfl rfl (hb C.2.2.2.1 hd)
  exact own_st stp (hr T' h' X' e' W)
theorem own_bastoreB (X : Stand p l e R s m args below meth c T locs cells slots) (C : OwnCx p s m meth c Z y bs maxL rt) {v : Int32} {j : Int32} {n : Nat} {f : Nat → Value} (eT : T.heap = h) (F : OwnAr Z h a .byte n f) (h0 : 0 ≤ j.toInt) (h1 : j.toInt < n) (hd : decode bs pc = .ok (.bastore, 1)) (pc' : Nat) (hp : pc + 1 = pc') (w : Int32) (hw : v.toInt8.toInt32 = w)
    (hr : ∀ T' h', Stand p l e R s m args below meth c T' (locs ++ [⟨a, j.toInt.toNat⟩]) cells slots → T'.heap = h' → Wr h h' a j.toInt.toNat (.int w) → OwnEnds p e below G (T'.setTop (mkF m pc' Ls st))) : OwnEnds p e below G (T.setTop (mkF m pc Ls (.int v :: .int j :: .ref a :: st))) := by
  subst hp hw
  obtain ⟨cl, A, S, r⟩ := F
  obtain ⟨T', h', X', e', W, stp⟩ := stB X C.1 C.2.1 eT A (j := j) (x := v) (by rw [S]; exact own_in h0 h1) (g := mkF m pc Ls _) rfl rfl (hb C.2.2.2.1 hd)
  exact own_st stp (hr T' h' X' e' W)
theorem own_castore (X : Stand p l e R s m args below meth c T locs cells slots) (C : OwnCx p s m meth c Z y bs maxL rt) {v : Int32} {j : Int32} {n : Nat} {f : Nat → Value} (eT : T.heap = h) (F : OwnAr Z h a .char n f) (h0 : 0 ≤ j.toInt) (h1 : j.toInt < n) (hd : decode bs pc = .ok (.castore, 1)) (pc' : Nat) (hp : pc + 1 = pc') (w : Int32) (hw : nar .char v = w)
    (hr : ∀ T' h', Stand p l e R s m args below meth c T' (locs ++ [⟨a, j.toInt.toNat⟩]) cells slots → T'.heap = h' → Wr h h' a j.toInt.toNat (.int w) → OwnEnds p e below G (T'.setTop (mkF m pc' Ls st))) : OwnEnds p e below G (T.setTop (mkF m pc Ls (.int v :: .int j :: .ref a :: st))) := by
  subst hp hw
  obtain ⟨cl, A, S, r⟩ := F
  obtain ⟨T', h', X', e', W, stp⟩ := stC X C.1 C.2.1 eT A (j := j) (x := v) (by rw [S]; exact own_in h0 h1) (g := mkF m pc Ls _) rfl rfl (hb C.2.2.2.1 hd)
  exact own_st stp (hr T' h' X' e' W)
theorem own_bastoreZ (X : Stand p l e R s m args below meth c T locs cells slots) (C : OwnCx p s m meth c Z y bs maxL rt) {v : Int32} {j : Int32} {n : Nat} {f : Nat → Value} (eT : T.heap = h) (F : OwnAr Z h a .boolean n f) (h0 : 0 ≤ j.toInt) (h1 : j.toInt < n) (hd : decode bs pc = .ok (.bastore, 1)) (pc' : Nat) (hp : pc + 1 = pc') (w : Int32) (hw : nar .boolean v = w)
    (hr : ∀ T' h', Stand p l e R s m args below meth c T' (locs ++ [⟨a, j.toInt.toNat⟩]) cells slots → T'.heap = h' → Wr h h' a j.toInt.toNat (.int w) → OwnEnds p e below G (T'.setTop (mkF m pc' Ls st))) : OwnEnds p e below G (T.setTop (mkF m pc Ls (.int v :: .int j :: .ref a :: st))) := by
  subst hp hw
  obtain ⟨cl, A, S, r⟩ := F
  obtain ⟨T', h', X', e', W, stp⟩ := stZ X C.1 C.2.1 eT A (j := j) (x := v) (by rw [S]; exact own_in h0 h1) (g := mkF m pc Ls _) rfl rfl (hb C.2.2.2.1 hd)
  exact own_st stp (hr T' h' X' e' W)
theorem own_iaload (X : Stand p l e R s m args below meth c T locs cells slots) (C : OwnCx p s m meth c Z y bs maxL rt) {j : Int32} {n : Nat} {f : Nat → Value} (eT : T.heap = h) (F : OwnAr Z h a .int n f) (h0 : 0 ≤ j.toInt) (h1 : j.toInt < n) (hd : decode bs pc = .ok (.iaload, 1)) (pc' : Nat) (hp : pc + 1 = pc') (v : Value) (hv : f j.toInt.toNat = v)
    (hr : OwnEnds p e below G (T.setTop (mkF m pc' Ls (v :: st)))) : OwnEnds p e below G (T.setTop (mkF m pc Ls (.int j :: .ref a :: st))) := by
  subst hp hv
  obtain ⟨cl, A, S, r⟩ := F
  exact own_st (fun _ q => X.iaload C.1 (j := j) (v := f j.toInt.toNat) (by rw [eT]; exact A.1) (State.isArrayOf_alike C.2.1.alike A.2.1) A.2.2 (by rw [S]; exact own_in h0 h1) (show cl.slots[j.toNatClampNeg]? = _ from r j.toInt.toNat (by omega)) (g := mkF m pc Ls _) rfl rfl (hb C.2.2.2.1 hd) _ q) hr
theorem own_laload (X : Stand p l e R s m args below meth c T locs cells slots) (C : OwnCx p s m meth c Z y bs maxL rt) {j : Int32} {n : Nat} {f : Nat → Value} (eT : T.heap = h) (F : OwnAr Z h a .long n f) (h0 : 0 ≤ j.toInt) (h1 : j.toInt < n) (hd : decode bs pc = .ok (.laload, 1)) (pc' : Nat) (hp : pc + 1 = pc') (v : Value) (hv : f j.toInt.toNat = v)
    (hr : OwnEnds p e below G (T.setTop (mkF m pc' Ls (v :: st)))) : OwnEnds p e below G (T.setTop (mkF m pc Ls (.int j :: .ref a :: st))) := by
  subst hp hv
  obtain ⟨cl, A, S, r⟩ := F
  exact own_st (fun _ q => X.laload C.1 (j := j) (v := f j.toInt.toNat) (by rw [eT]; exact A.1) (State.isArrayOf_alike C.2.1.alike A.2.1) A.2.2 (by rw [S]; exact own_in h0 h1) (show cl.slots[j.toNatClampNeg]? = _ from r j.toInt.toNat (by omega)) (g := mkF m pc Ls _) rfl rfl (hb C.2.2.2.1 hd) _ q) hr
theorem own_caload (X : Stand p l e R s m args below meth c T locs cells slots) (C : OwnCx p s m meth c Z y bs maxL rt) {j : Int32} {n : Nat} {f : Nat → Value} (eT : T.heap = h) (F : OwnAr Z h a .char n f) (h0 : 0 ≤ j.toInt) (h1 : j.toInt < n) (hd : decode bs pc = .ok (.caload, 1)) (pc' : Nat) (hp : pc + 1 = pc') (v : Value) (hv : f j.toInt.toNat = v)
    (hr : OwnEnds p e below G (T.setTop (mkF m pc' Ls (v :: st)))) : OwnEnds p e below G (T.setTop (mkF m pc Ls (.int j :: .ref a :: st))) := by
  subst hp hv
  obtain ⟨cl, A, S, r⟩ := F
  exact own_st (fun _ q => X.caload C.1 (j := j) (v := f j.toInt.toNat) (by rw [eT]; exact A.1) (State.isArrayOf_alike C.2.1.alike A.2.1) A.2.2 (by rw [S]; exact own_in h0 h1) (show cl.slots[j.toNatClampNeg]? = _ from r j.toInt.toNat (by omega)) (g := mkF m pc Ls _) rfl rfl (hb C.2.2.2.1 hd) _ q) hr
theorem own_baloadB (X : Stand p l e R s m args below meth c T locs cells slots) (C : OwnCx p s m meth c Z y bs maxL rt) {j : Int32} {n : Nat} {f : Nat → Value} (eT : T.heap = h) (F : OwnAr Z h a .byte n f) (h0 : 0 ≤ j.toInt) (h1 : j.toInt < n) (hd : decode bs pc = .ok (.baload, 1)) (pc' : Nat) (hp : pc + 1 = pc') (v : Value) (hv : f j.toInt.toNat = v)
    (hr : OwnEnds p e below G (T.setTop (mkF m pc' Ls (v :: st)))) : OwnEnds p e below G (T.setTop (mkF m pc Ls (.int j :: .ref a :: st))) := by
  subst hp hv
  obtain ⟨cl, A, S, r⟩ := F
  exact own_st (fun _ q => X.baloadBytes C.1 (j := j) (v := f j.toInt.toNat) (by rw [eT]; exact A.1) (State.isArrayOf_alike C.2.1.alike A.2.1) A.2.2 (by rw [S]; exact own_in h0 h1) (show cl.slots[j.toNatClampNeg]? = _ from r j.toInt.toNat (by omega)) (g := mkF m pc Ls _) rfl rfl (hb C.2.2.2.1 hd) _ q) hr
theorem own_baloadZ (X : Stand p l e R s m args below meth c T locs cells slots) (C : OwnCx p s m meth c Z y bs maxL rt) {j : Int32} {n : Nat} {f : Nat → Value} (eT : T.heap = h) (F : OwnAr Z h a .boolean n f) (h0 : 0 ≤ j.toInt) (h1 : j.toInt < n) (hd : decode bs pc = .ok (.baload, 1)) (pc' : Nat) (hp : pc + 1 = pc') (v : Value) (hv : f j.toInt.toNat = v)
    (hr : OwnEnds p e below G (T.setTop (mkF m pc' Ls (v :: st)))) : OwnEnds p e below G (T.setTop (mkF m pc Ls (.int j :: .ref a :: st))) := by
  subst hp hv
  obtain ⟨cl, A, S, r⟩ := F
  exact own_st (fun _ q => X.baloadBooleans C.1 (j := j) (v := f j.toInt.toNat) (by rw [eT]; exact A.1) (State.isArrayOf_alike C.2.1.alike A.2.1) A.2.2 (by rw [S]; exact own_in h0 h1) (show cl.slots[j.toNatClampNeg]? = _ from r j.toInt.toNat (by omega)) (g := mkF m pc Ls _) rfl rfl (hb C.2.2.2.1 hd) _ q) hr
theorem own_arraylength (X : Stand p l e R s m args below meth c T locs cells slots) (C : OwnCx p s m meth c Z y bs maxL rt) {ty : FieldType} {n : Nat} {f : Nat → Value} (eT : T.heap = h) (F : OwnAr Z h a ty n f) (hd : decode bs pc = .ok (.arraylength, 1)) (pc' : Nat) (hp : pc + 1 = pc') (hn : n < 2147483648)
    (hr : ∀ z : Int32, z.toInt = n → z = n.toInt32 → OwnEnds p e below G (T.setTop (mkF m pc' Ls (.int z :: st)))) : OwnEnds p e below G (T.setTop (mkF m pc Ls (.ref a :: st))) := by
  subst hp
  obtain ⟨cl, A, S, r⟩ := F
  have k := hr n.toInt32 (own_len hn) rfl
  rw [← S] at k
  exact own_st (fun _ q => X.arraylength C.1 (by rw [eT]; exact A.1) (State.isArrayOf_alike C.2.1.alike A.2.1) (g := mkF m pc Ls _) rfl rfl (hb C.2.2.2.1 hd) _ q) k
theorem own_newarray (X : Stand p l e R s m args below meth c T locs cells slots) (C : OwnCx p s m meth c Z y bs maxL rt) {aty : ArrayType} {n : Int32} (w : (Jvm.Cond.arrayClass (newarray.typeOf aty)).before a0 Z = true) (eT : T.heap = h) (hd : decode bs pc = .ok (.newarray aty, 2)) (pc' : Nat) (hp : pc + 2 = pc') (h0 : 0 ≤ n.toInt) (cap : Nat) (hcap : n.toInt ≤ cap) (hbig : cap * 8 ≤ 536870912) (hc : cells + 1 ≤ R.cells) (hl : slots + cap ≤ R.slots)
    (hr : ∀ T' h' b, b = h.size → Stand p l e R s m args below meth c T' locs (cells + 1) (slots + cap) → T'.heap = h' → Ext h h' → OwnAr Z h' b (newarray.typeOf aty) n.toInt.toNat (fun _ => defaultValue (newarray.typeOf aty)) → OwnEnds p e below G (T'.setTop (mkF m pc' Ls (.ref b :: st)))) : OwnEnds p e below G (T.setTop (mkF m pc Ls (.int n :: st))) := by
  subst hp
  have hn0 : ¬ n < 0 := fun q => by rw [Int32.lt_iff_toInt_lt] at q; have : (0 : Int32).toInt = 0 := rfl; omega
  obtain ⟨T', h', cA, X', e', E', A, stp⟩ := newP X C.1 C.2.1 w eT (g := mkF m pc Ls (.int n :: st)) rfl (hb C.2.2.2.1 hd) rfl hn0 (cap := cap) (by show n.toInt.toNat ≤ cap; omega) hbig hc hl
  exact own_st stp (hr T' h' _ rfl X' e' E' (OwnAr.new A))
theorem own_new (X : Stand p l e R s m args below meth c T locs cells slots) (C : OwnCx p s m meth c Z y bs maxL rt) {idx n : Nat} {K : String} (w : (Jvm.Cond.classLink y.cls idx K).before a0 Z = true) (wi : (Jvm.Cond.instantiable K n).before a0 Z = true) (wz : (Jvm.Cond.initialized K).before a0 Z = true) (eT : T.heap = h) (hd : decode bs pc = .ok (.new idx, 3)) (pc' : Nat) (hp : pc + 3 = pc') (hc : cells + 1 ≤ R.cells) (hl : slots + n ≤ R.slots)
    (hr : ∀ T' h' b, b = h.size → Stand p l e R s m args below meth c T' locs (cells + 1) (slots + n) → T'.heap = h' → Ext h h' → Exa Z h' b K → (∀ {O nm d : String} {ty : FieldType}, Laid Z a0 K O nm d → parseFieldDescriptor d = some ty → Fld Z h' b O nm d (defaultValue ty)) → OwnEnds p e below G (T'.setTop (mkF m pc' Ls (.ref b :: st)))) : OwnEnds p e below G (T.setTop (mkF m pc Ls st)) := by
  subst hp
  obtain ⟨T', h', X', e', E', A, D, -, stp⟩ := newO X C.1 C.2.1 C.2.2.1 w wi wz eT (g := mkF m pc Ls st) rfl (hb C.2.2.2.1 hd) hc hl
  exact own_st stp (hr T' h' _ rfl X' e' E' A D)
theorem own_getfield (X : Stand p l e R s m args below meth c T locs cells slots) (C : OwnCx p s m meth c Z y bs maxL rt) {idx : Nat} {R0 O n d host : String} {v : Value} (w : (Jvm.Cond.fieldLink y.cls idx R0 n d).before a0 Z = true ∨ (Jvm.Cond.fieldLinkNest y.cls idx R0 n d host).before a0 Z = true) (via : Via Z R0 O n d) (eT : T.heap = h) (F : Fld Z h a O n d v) (hd : decode bs pc = .ok (.getfield idx, 3)) (pc' : Nat) (hp : pc + 3 = pc')
    (hr : ∀ T', Stand p l e R s m args below meth c T' locs cells slots → T'.heap = h → OwnEnds p e below G (T'.setTop (mkF m pc' Ls (v :: st)))) : OwnEnds p e below G (T.setTop (mkF m pc Ls (.ref a :: st))) := by
  subst hp
  obtain ⟨T', X', e', stp⟩ := getF X C.1 C.2.1 C.2.2.1 w via eT F (g := mkF m pc Ls _) rfl rfl (hb C.2.2.2.1 hd)
  exact own_st stp (hr T' X' e')
theorem own_getstatic (X : Stand p l e R s m args below meth c T locs cells slots) (C : OwnCx p s m meth c Z y bs maxL rt) {idx : Nat} {R0 O n d host : String} {v : Value} (w : (Jvm.Cond.fieldLink y.cls idx R0 n d).before a0 Z = true ∨ (Jvm.Cond.fieldLinkNest y.cls idx R0 n d host).before a0 Z = true) (via : Via Z R0 O n d) (eT : T.heap = h) (F : Sta Z h O n d v) (hd : decode bs pc = .ok (.getstatic idx, 3)) (pc' : Nat) (hp : pc + 3 = pc')
    (hr : ∀ T', Stand p l e R s m args below meth c T' locs cells slots → T'.heap = h → OwnEnds p e below G (T'.setTop (mkF m pc' Ls (v :: st)))) : OwnEnds p e below G (T.setTop (mkF m pc Ls st)) := by
  subst hp
  obtain ⟨T', X', e', stp⟩ := getS2 X C.1 C.2.1 C.2.2.1 w via eT F (g := mkF m pc Ls st) rfl (hb C.2.2.2.1 hd)
  exact own_st stp (hr T' X' e')
theorem own_putfield (X : Stand p l e R s m args below meth c T locs cells slots) (C : OwnCx p s m meth c Z y bs maxL rt) {idx kk : Nat} {R0 O n d host K : String} {ty : FieldType} {v old : Value} (w : (Jvm.Cond.fieldLink y.cls idx R0 n d).before a0 Z = true ∨ (Jvm.Cond.fieldLinkNest y.cls idx R0 n d host).before a0 Z = true) (via : Via Z R0 O n d) (eT : T.heap = h) (F : Fld Z h a O n d old) (E : Exa Z h a K) (L : (Jvm.Cond.lays K O n d).before a0 Z = true ∨ ((Jvm.Cond.laysFinal K O n d).before a0 Z = true ∧ y.cls = O ∧ y.name = "<init>")) (wi : (Jvm.Cond.instantiable K kk).before a0 Z = true)
    (hty : parseFieldDescriptor d = some ty) (hn : narrow ty v = v) (hf : fits ty v = true) (hd : decode bs pc = .ok (.putfield idx, 3)) (pc' : Nat) (hp : pc + 3 = pc')
    (hr : ∀ T' h', Stand p l e R s m args below meth c T' (locs ++ [⟨a, Jvm.RoadKit.slotOf Z O n d⟩]) cells slots → T'.heap = h' → Wr h h' a (Jvm.RoadKit.slotOf Z O n d) v → OwnEnds p e below G (T'.setTop (mkF m pc' Ls st))) : OwnEnds p e below G (T.setTop (mkF m pc Ls (v :: .ref a :: st))) := by
  subst hp
  obtain ⟨T', h', X', e', W, stp⟩ := putF X C.1 C.2.1 C.2.2.1 w via eT F E (L.imp id fun q => ⟨q.1, q.2.1, C.2.2.2.2.2.2.2.trans q.2.2⟩) wi hty hn hf (g := mkF m pc Ls _) rfl rfl (hb C.2.2.2.1 hd)
  exact own_st stp (hr T' h' X' e' W)
theorem own_putfieldN (X : Stand p l e R s m args below meth c T locs cells slots) (C : OwnCx p s m meth c Z y bs maxL rt) {idx kk : Nat} {R0 O n d K : String} {ty : FieldType} {v v' old : Value} (w : (Jvm.Cond.fieldLink y.cls idx R0 n d).before a0 Z = true) (via : Via Z R0 O n d) (eT : T.heap = h) (F : Fld Z h a O n d old) (E : Exa Z h a K) (L : (Jvm.Cond.lays K O n d).before a0 Z = true ∨ ((Jvm.Cond.laysFinal K O n d).before a0 Z = true ∧ y.cls = O ∧ y.name = "<init>")) (wi : (Jvm.Cond.instantiable K kk).before a0 Z = true)
    (hty : parseFieldDescriptor d = some ty) (hn : narrow ty v = v') (hf : fits ty v' = true) (hd : decode bs pc = .ok (.putfield idx, 3)) (pc' : Nat) (hp : pc + 3 = pc')
    (hr : ∀ T' h', Stand p l e R s m args below meth c T' (locs ++ [⟨a, Jvm.RoadKit.slotOf Z O n d⟩]) cells slots → T'.heap = h' → Wr h h' a (Jvm.RoadKit.slotOf Z O n d) v' → OwnEnds p e below G (T'.setTop (mkF m pc' Ls st))) : OwnEnds p e below G (T.setTop (mkF m pc Ls (v :: .ref a :: st))) := by
  subst hp
  obtain ⟨T', h', X', e', W, stp⟩ := putFN X C.1 C.2.1 C.2.2.1 w via eT F E (L.imp id fun q => ⟨q.1, q.2.1, C.2.2.2.2.2.2.2.trans q.2.2⟩) wi hty hn hf (g := mkF m pc Ls _) rfl rfl (hb C.2.2.2.1 hd)
  exact own_st stp (hr T' h' X' e' W)
theorem own_initO (X : Stand p l e R s m args below meth c T locs cells slots) (C : OwnCx p s m meth c Z y bs maxL rt) {idx : Nat} (w1 : (Jvm.Cond.methodLink y.cls idx Lib.objectInit).before a0 Z = true) (w2 : (Jvm.Cond.instanceMethod Lib.objectInit).before a0 Z = true) (w3 : (Jvm.Cond.code Lib.objectInit object_method_1_code 1 none).before a0 Z = true) (eT : T.heap = h) (hsz : Ls.size = maxL) (hd : decode bs pc = .ok (.invokespecial idx, 3)) (pc' : Nat) (hp : pc + 3 = pc') (hf : 1 ≤ R.frames) (W : Nat) (hW : (st.map fun v => v.category).sum = W) (hl : W + 12 ≤ R.locals)
    (hr : ∀ T', Stand p l e R s m args below meth c T' locs cells slots → T'.heap = h → OwnEnds p e below G (T'.setTop (mkF m pc' Ls st))) : OwnEnds p e below G (T.setTop (mkF m pc Ls (.ref a :: st))) := by
  subst hp
  obtain ⟨T', X', e', stp⟩ := initO X C.1 C.2.1 C.2.2.1 w1 w2 w3 eT (g := mkF m pc Ls (.ref a :: st)) rfl (by rw [C.2.2.2.2.1]; exact hsz) (a := a) (rest := st) rfl (hb C.2.2.2.1 hd) hf (W := W) (by show 2 * 0 + _ ≤ _; omega) hl
  exact own_st stp (hr T' X' e')
theorem own_callI (X : Stand p l e R s m args below meth c T locs cells slots) (C : OwnCx p s m meth c Z y bs maxL rt) {idx : Nat} {y' : MethodName} {bs' : ByteArray} {maxL' : Nat} {rt' : Option FieldType} {rm : Room} {as' : Array Value} {Q' : Option Value → Heap → List Loc → Prop} (hrt' : rt' = none)
    (w1 : (Jvm.Cond.methodLink y.cls idx y').before a0 Z = true) (w2 : (Jvm.Cond.instanceMethod y').before a0 Z = true) (w3 : (Jvm.Cond.initialized y'.cls).before a0 Z = true) (w4 : (Jvm.Cond.code y' bs' maxL' rt').before a0 Z = true) (hy1 : y'.name = "<init>") (hy : y'.cls ≠ "java/lang/invoke/MethodHandle" ∧ y'.cls ≠ "java/lang/invoke/VarHandle")
    (hM : OwnMet l Z y' bs' maxL' rt' [] rm as' h Q') (eT : T.heap = h) {ps : List FieldType} {r : Option FieldType} (hpd : parseMethodDescriptor y'.desc = some ⟨ps, r⟩) (argsL : List Value) (has : (Value.ref a :: argsL).toArray = as') (hlen : argsL.length = ps.length) (hst : st = argsL.reverse ++ .ref a :: rest) (hsz : Ls.size = maxL)
    (W : Nat) (hW : (rest.map fun v => v.category).sum = W) (hf : rm.frames + 1 ≤ R.frames) (hlo : W + (maxL' + 11) + rm.locals ≤ R.locals) (hce : cells + rm.cells ≤ R.cells) (hsl : slots + rm.slots ≤ R.slots) (hd : decode bs pc = .ok (.invokespecial idx, 3)) (pc' : Nat) (hp : pc + 3 = pc')
    (hr : ∀ T' L v, Stand p l e R s m args below meth c T' (locs ++ L) (cells + rm.cells) (slots + rm.slots) → Q' v T'.heap L → OwnEnds p e below G (T'.setTop (mkF m pc' Ls (v.toList ++ rest)))) : OwnEnds p e below G (T.setTop (mkF m pc Ls st)) := by
  subst hp has hW hrt'
  obtain ⟨v, _, ⟨T', L, k, n⟩, -, X', ⟨L', hQ, l1, l2, l3⟩, stp⟩ := X.specialBack C.1 hy1 C.2.2.1 (mvT C.2.1 w1) (mvT C.2.1 w2) (mvT C.2.1 w4) hy (backOf (len := 3) (W := (rest.map fun v => v.category).sum) hM C.2.1 w4 w3 hf hlo) (g := mkF m pc Ls st) rfl (by rw [C.2.2.2.2.1]; exact hsz) (Steps.refl _) (a := a) (argsL := argsL) (rest := rest) (lenOf hpd hlen) hst (by show 2 * 0 + _ ≤ _; omega) (hb C.2.2.2.1 hd) (fun _ _ => ⟨rfl, eT, hce, hsl⟩)
  dsimp only [Pt.U, Pt.locs, Pt.cells, Pt.slots] at X' l1 l2 l3 stp hQ
  subst l1 l2 l3
  exact own_tr stp (hr T' L' v X' hQ)
theorem own_callV (X : Stand p l e R s m args below meth c T locs cells slots) (C : OwnCx p s m meth c Z y bs maxL rt) {idx : Nat} {K : String} {y' : MethodName} {bs' : ByteArray} {maxL' : Nat} {rt' : Option FieldType} {rm : Room} {as' : Array Value} {Q' : Option Value → Heap → List Loc → Prop}
    (w1 : (Jvm.Cond.methodLink y.cls idx y').before a0 Z = true) (wd : (Jvm.Cond.declares y').before a0 Z = true) (ws : (Jvm.Cond.selects K y' y').before a0 Z = true) (w2 : (Jvm.Cond.instanceMethod y').before a0 Z = true) (w3 : (Jvm.Cond.initialized y'.cls).before a0 Z = true) (w4 : (Jvm.Cond.code y' bs' maxL' rt').before a0 Z = true) (hy : y'.cls ≠ "java/lang/invoke/MethodHandle" ∧ y'.cls ≠ "java/lang/invoke/VarHandle") (E : Exa Z h a K)
    (hM : OwnMet l Z y' bs' maxL' rt' [] rm as' h Q') (eT : T.heap = h) {ps : List FieldType} {r : Option FieldType} (hpd : parseMethodDescriptor y'.desc = some ⟨ps, r⟩) (argsL : List Value) (has : (Value.ref a :: argsL).toArray = as') (hlen : argsL.length = ps.length) (hst : st = argsL.reverse ++ .ref a :: rest) (hsz : Ls.size = maxL)
    (W : Nat) (hW : (rest.map fun v => v.category).sum = W) (hf : rm.frames + 1 ≤ R.frames) (hlo : W + (maxL' + 11) + rm.locals ≤ R.locals) (hce : cells + rm.cells ≤ R.cells) (hsl : slots + rm.slots ≤ R.slots) (hd : decode bs pc = .ok (.invokevirtual idx, 3)) (pc' : Nat) (hp : pc + 3 = pc')
    (hr : ∀ T' L v, Stand p l e R s m args below meth c T' (locs ++ L) (cells + rm.cells) (slots + rm.slots) → Q' v T'.heap L → OwnEnds p e below G (T'.setTop (mkF m pc' Ls (v.toList ++ rest)))) : OwnEnds p e below G (T.setTop (mkF m pc Ls st)) := by
  subst hp has hW
  obtain ⟨cq, kq, qa, qb, qc⟩ := isOf C.2.1 eT E
  obtain ⟨v, _, ⟨T', L, k, n⟩, -, X', ⟨L', hQ, l1, l2, l3⟩, stp⟩ := X.virtualBack C.1 (y := y') (z := y') C.2.2.1 (mvT C.2.1 w1) (mvT C.2.1 wd) (notFace_of_selects (args := #[]) (mvT C.2.1 ws)) (mvT C.2.1 ws) (mvT C.2.1 w2) hy (backOf (len := 3) (W := (rest.map fun v => v.category).sum) hM C.2.1 w4 w3 hf hlo) qa qc (g := mkF m pc Ls st) rfl (by rw [C.2.2.2.2.1]; exact hsz) (Steps.refl _) (argsL := argsL) (rest := rest) (lenOf hpd hlen) hst (by show 2 * 0 + _ ≤ _; omega) (hb C.2.2.2.1 hd) (fun _ _ => ⟨rfl, eT, hce, hsl⟩)
  dsimp only [Pt.U, Pt.locs, Pt.cells, Pt.slots] at X' l1 l2 l3 stp hQ
  subst l1 l2 l3
  exact own_tr stp (hr T' L' v X' hQ)
theorem own_instY (X : Stand p l e R s m args below meth c T locs cells slots) (C : OwnCx p s m meth c Z y bs maxL rt) {idx : Nat} {K : String} (w : (Jvm.Cond.classLink y.cls idx K).before a0 Z = true) (eT : T.heap = h) (F : Ins Z h a K true) (hd : decode bs pc = .ok (.instanceof idx, 3)) (pc' : Nat) (hp : pc + 3 = pc')
    (hr : ∀ T', Stand p l e R s m args below meth c T' locs cells slots → T'.heap = h → OwnEnds p e below G (T'.setTop (mkF m pc' Ls (.int 1 :: st)))) : OwnEnds p e below G (T.setTop (mkF m pc Ls (.ref a :: st))) := by
  subst hp
  obtain ⟨T', X', e', stp⟩ := instY X C.1 C.2.1 C.2.2.1 w eT F (g := mkF m pc Ls _) rfl rfl (hb C.2.2.2.1 hd)
  exact own_st stp (hr T' X' e')
theorem own_castY (X : Stand p l e R s m args below meth c T locs cells slots) (C : OwnCx p s m meth c Z y bs maxL rt) {idx : Nat} {K : String} (w : (Jvm.Cond.classLink y.cls idx K).before a0 Z = true) (eT : T.heap = h) (F : Ins Z h a K true) (hd : decode bs pc = .ok (.checkcast idx, 3)) (pc' : Nat) (hp : pc + 3 = pc')
    (hr : ∀ T', Stand p l e R s m args below meth c T' locs cells slots → T'.heap = h → OwnEnds p e below G (T'.setTop (mkF m pc' Ls (.ref a :: st)))) : OwnEnds p e below G (T.setTop (mkF m pc Ls (.ref a :: st))) := by
  subst hp
  obtain ⟨T', X', e', stp⟩ := castY X C.1 C.2.1 C.2.2.1 w eT F (g := mkF m pc Ls (.ref a :: st)) rfl (rest := st) rfl (hb C.2.2.2.1 hd)
  exact own_st stp (hr T' X' e')
end OwnHeap
section OwnWide
variable {p : Program} {l : Launch} {e : Env} {R : Room} {s : State} {m : MethodId} {args : Array Value} {below : List Frame} {meth : Method} {c : Code} {T : State} {locs : List Loc} {cells slots : Nat} {Z : State} {y : MethodName} {bs : ByteArray} {maxL : Nat} {rt : Option FieldType} {ce sl : Nat} {Q : Option Value → Heap → List Loc → Prop} {G : Outcome → State → Prop} {pc : Nat} {Ls : Array Slot} {st rest : List Value} {h h' : Heap} {a0 : Array Value} {a : Nat} {vm0 : Vm} {k0 : Nat}
def OwnGW (s : State) (ce sl : Nat) (Q : Option Value → Heap → List Loc → Prop) : Outcome → State → Prop := fun o s₂ => ∃ v L, o = .returned v ∧ Q v s₂.heap L ∧ ReturnedEndW s o s₂ L ce sl
def OwnMetW (l : Launch) (Z : State) (y : MethodName) (bs : ByteArray) (maxL : Nat) (rt : Option FieldType) (ws : List Jvm.Cond) (rm : Room) (as' : Array Value) (h : Heap) (Q : Option Value → Heap → List Loc → Prop) : Prop :=
  MetFree l y (head1 (Jvm.Cond.code y bs maxL rt :: ws) rm) (fun a U => a = as' ∧ Z.Warmed39 U.vm ∧ U.heap = h) (fun _ _ _ _ _ => True) (fun _ U o U' => ∃ v L, o = .returned v ∧ Q v U'.heap L ∧ ReturnedEndW U o U' L rm.cells rm.slots)
def OwnMetWP (l : Launch) (Z : State) (y : MethodName) (bs : ByteArray) (maxL : Nat) (rt : Option FieldType) (ws : List Jvm.Cond) (rm : Room) (as' : Array Value) (h : Heap) (PX : State → Prop) (Q : Option Value → Heap → List Loc → Prop) : Prop :=
  MetFree l y (head1 (Jvm.Cond.code y bs maxL rt :: ws) rm) (fun a U => a = as' ∧ Z.Warmed39 U.vm ∧ U.heap = h ∧ PX U) (fun _ _ _ _ _ => True) (fun _ U o U' => ∃ v L, o = .returned v ∧ Q v U'.heap L ∧ ReturnedEndW U o U' L rm.cells rm.slots)
theorem own_metW {ws : List Jvm.Cond} {rm : Room} {as' : Array Value} (H : OwnMetWP l Z y bs maxL rt ws rm as' h (fun _ => True) Q) : OwnMetW l Z y bs maxL rt ws rm as' h Q :=
  fun p e ha hc hk s m args below hf happ hP hK => H p e ha hc hk s m args below hf happ ⟨hP.1, hP.2.1, hP.2.2, trivial⟩ hK
theorem own_enterW {ws : List Jvm.Cond} {rm : Room} {as' : Array Value} {f0 : MethodId → JFrame} {PX : State → Prop} (hp : plainFor y = true) (hf : ∀ m, entryFrame m as' maxL = f0 m)
    (H : ∀ p e s m below meth c T, Stand p l e rm (s.setVm s.vm) m as' below meth c T [] 0 0 → OwnCx p (s.setVm s.vm) m meth c Z y bs maxL rt → T.heap = h → s.heap = h → PX s → s.Since s.vm 0 → OwnEnds p e below (OwnGW s rm.cells rm.slots Q) (T.setTop (f0 m))) : OwnMetWP l Z y bs maxL rt ws rm as' h PX Q := by
  refine MetFree.of_bodySF hp hisR ?_
  intro p e s m args below meth c s₁ Bd hml0 hP hK
  obtain ⟨rfl, hZ, hh, hPX⟩ := hP
  have k := H p e s m below meth c s₁ (Stand.of_body Bd) ⟨Bd.exec, hZ, findClass_of_methodNamed Bd.named, Bd.bytes, hml0, Bd.returns, Bd.notSynchronized, (name_of_methodNamed Bd.named Bd.method).1⟩ (by rw [← hh, Bd.state]; rfl) hh hPX ((State.WarmedH.refl s).since 0)
  rw [← hf m] at k
  exact k
theorem own_leaveW (X : Stand p l e R (s.setVm vm0) m args below meth c T locs cells slots) (C : OwnCx p (s.setVm vm0) m meth c Z y bs maxL rt) (hS : s.Since vm0 k0) (hk : k0 ≤ T.heap.size) (v : Option Value) (hv : meth.sig.returnType = none → v = none) (hce : cells ≤ ce) (hsl : slots ≤ sl) (hQ : Q v T.heap locs) {S : State}
    (k : ∀ fs, (∀ (f : JFrame) (acts : List Action), f.method = m → f.locked = none → f.entered = [] → (doReturn e (T.setTop f) acts v).1 = T.setFrames fs) → Steps p.tables e below S (T.setFrames fs)) : OwnEnds p e below (OwnGW s ce sl Q) S := by
  obtain ⟨fs, hr, hrun, hended, r1, r2, r3, r4⟩ := X.leaveW hS hk (v := v) hv C.2.2.2.2.2.2.1
  exact ⟨_, _, k fs hr, hrun, hended, _, _, rfl, hQ, r1, r2, r3, r4.mono hce hsl⟩
theorem own_returnW (X : Stand p l e R (s.setVm vm0) m args below meth c T locs cells slots) (C : OwnCx p (s.setVm vm0) m meth c Z y bs maxL rt) (hS : s.Since vm0 k0) (hk : k0 ≤ T.heap.size) (hrt : rt = none) (hd : decode bs pc = .ok (.return_, 1)) (hce : cells ≤ ce) (hsl : slots ≤ sl) (hQ : Q none T.heap locs) : OwnEnds p e below (OwnGW s ce sl Q) (T.setTop (mkF m pc Ls [])) := by
  subst hrt
  exact own_leaveW X C hS hk none (fun _ => rfl) hce hsl hQ fun fs hr => X.returnOut C.1 C.2.2.2.2.2.1 (hb C.2.2.2.1 hd) hr
theorem own_iretNW (X : Stand p l e R (s.setVm vm0) m args below meth c T locs cells slots) (C : OwnCx p (s.setVm vm0) m meth c Z y bs maxL rt) (hS : s.Since vm0 k0) (hk : k0 ≤ T.heap.size) {z : Int32} (t : FieldType) (hrt : rt = some t) (ht : t = .boolean ∨ t = .byte ∨ t = .char ∨ t = .short) (hd : decode bs pc = .ok (.ireturn, 1)) (hce : cells ≤ ce) (hsl : slots ≤ sl) (w : Int32) (hw : nar t z = w) (hQ : Q (some (.int w)) T.heap locs) : OwnEnds p e below (OwnGW s ce sl Q) (T.setTop (mkF m pc Ls (.int z :: st))) := by
  subst hrt hw
  exact own_leaveW X C hS hk (some (.int (nar t z))) (fun q => by rw [C.2.2.2.2.2.1] at q; cases q) hce hsl hQ fun fs hr => retN X C.1 C.2.2.2.2.2.1 ht (hb C.2.2.2.1 hd) hr
theorem own_areturnW (X : Stand p l e R (s.setVm vm0) m args below meth c T locs cells slots) (C : OwnCx p (s.setVm vm0) m meth c Z y bs maxL rt) (hS : s.Since vm0 k0) (hk : k0 ≤ T.heap.size) {z : Value} (t : FieldType) (hrt : rt = some t) (ht : t.isReference = true) (hz : z.isRef = true) (hn : narrow t z = z) (hd : decode bs pc = .ok (.areturn, 1)) (hce : cells ≤ ce) (hsl : slots ≤ sl) (hQ : Q (some z) T.heap locs) : OwnEnds p e below (OwnGW s ce sl Q) (T.setTop (mkF m pc Ls (z :: st))) := by
  subst hrt
  exact own_leaveW X C hS hk (some z) (fun q => by rw [C.2.2.2.2.2.1] at q; cases q) hce hsl hQ fun fs hr => retOut X C.1 C.2.2.2.2.2.1 hn (Or.inr (Or.inr (Or.inr (Or.inr ⟨rfl, ht, hz⟩)))) (hb C.2.2.2.1 hd) hr
theorem own_ldcS (X : Stand p l e R (s.setVm vm0) m args below meth c T locs cells slots) (C : OwnCx p (s.setVm vm0) m meth c Z y bs maxL rt) {idx : Nat} {text : String} (w : (Jvm.Cond.stringLink y.cls idx text).before a0 Z = true) (wS : ∀ a ∈ Bundle.stringAtoms, a.before a0 Z = true) (eT : T.heap = h) (hS : s.Since vm0 k0) (hk : k0 ≤ h.size) (hd : decode bs pc = .ok (.ldc idx, 2)) (pc' : Nat) (hp : pc + 2 = pc') (n : Nat) (hn : 4 * text.toList.length ≤ n) (hbig : n ≤ 536870912) (hc : cells + 2 ≤ R.cells) (hl : slots + (n + 4) ≤ R.slots)
    (hr : ∀ (a : Nat) T' h' k1, Stand p l e R (s.setVm T'.vm) m args below meth c T' locs (cells + 2) (slots + (n + 4)) → OwnCx p (s.setVm T'.vm) m meth c Z y bs maxL rt → T'.heap = h' → Ext h h' → s.Since T'.vm k1 → k1 ≤ h'.size → OwnEnds p e below G (T'.setTop (mkF m pc' Ls (.ref a :: st)))) : OwnEnds p e below G (T.setTop (mkF m pc Ls st)) := by
  subst hp
  obtain ⟨a, T', h', k1, X', e', E', hS', hk', hZ', ho', stp⟩ := ldcS X C.1 C.2.1 C.2.2.1 w wS eT hS hk (g := mkF m pc Ls st) rfl (hb C.2.2.2.1 hd) hn hbig hc hl
  exact own_st stp (hr a T' h' k1 X' ⟨C.1, hZ', ho', C.2.2.2⟩ e' E' hS' hk')
theorem own_arv {b : Nat} {k : ClassId} {ty : FieldType} {z : Int32} {vs : List Value} {d : Value} (A : Arv Z h b k ty z vs d) (q : z.toNatClampNeg = vs.length) : OwnAr Z h b ty vs.length (fun i => vs.getD i d) := by
  obtain ⟨cl, A, -, S, -, H, -⟩ := A
  exact ⟨cl, A, S.trans q, fun i hi => H i (by omega)⟩
theorem own_ldcSV (X : Stand p l e R (s.setVm vm0) m args below meth c T locs cells slots) (C : OwnCx p (s.setVm vm0) m meth c Z y bs maxL rt) {idx : Nat} {text : String} {Ts : List String} (w : (Jvm.Cond.stringLink y.cls idx text).before a0 Z = true) (wS : ∀ a ∈ Bundle.stringAtoms, a.before a0 Z = true) (eT : T.heap = h) (hS : s.Since vm0 k0) (hk : k0 ≤ h.size) (N : Fr s.heap.size locs) (hkeep : ∀ (b : Addr) (cl : Cell), Z.heap[b]? = some cl → s.heap[b]? = some cl) (I : IB Z vm0 Ts) (hnot : text ∉ Ts) (hh : Jvm.Lit.constHeld Z y.cls idx) (hcw : Jvm.Lit.compactW.before a0 Z = true)
    {vs : List Value} {z : Int32} (ht : (∀ c ∈ text.toList, c.toNat < 256) ∧ text.toList.map (fun c => Value.int (Jvm.Lit.byteI c.toNat.toUInt16)) = vs) (hz : ¬ z < 0) (hlv : z.toNatClampNeg = vs.length)
    (hd : decode bs pc = .ok (.ldc idx, 2)) (pc' : Nat) (hp : pc + 2 = pc') (n : Nat) (hn : 4 * text.toList.length ≤ n) (hbig : n ≤ 536870912) (hc : cells + 2 ≤ R.cells) (hl : slots + (n + 4) ≤ R.slots)
    (hr : ∀ (a b : Nat) T' h' k1, Stand p l e R (s.setVm T'.vm) m args below meth c T' locs (cells + 2) (slots + (n + 4)) → OwnCx p (s.setVm T'.vm) m meth c Z y bs maxL rt → T'.heap = h' → Ext h h' → s.Since T'.vm k1 → k1 ≤ h'.size → Exa Z h' a "java/lang/String" → Fld Z h' a "java/lang/String" "coder" "B" (.int 0) → Fld Z h' a "java/lang/String" "value" "[B" (.ref b) → OwnAr Z h' b .byte vs.length (fun i => vs.getD i (.int 0)) → IB Z T'.vm (text :: Ts) → OwnEnds p e below G (T'.setTop (mkF m pc' Ls (.ref a :: st)))) : OwnEnds p e below G (T.setTop (mkF m pc Ls st)) := by
  subst hp
  obtain ⟨a, T', h', k1, b, k, X', e', E', hS', hk', hZ', ho', r1, r2, r3, r4, -, -, r7, stp⟩ := ldcSV X C.1 C.2.1 C.2.2.1 w wS eT hS hk N hkeep I hnot hh hcw ht hz hlv (g := mkF m pc Ls st) rfl (hb C.2.2.2.1 hd) hn hbig hc hl
  exact own_st stp (hr a b T' h' k1 X' ⟨C.1, hZ', ho', C.2.2.2⟩ e' E' hS' hk' r1 r2 r3 (own_arv r4 hlv) r7)
theorem own_callIW (X : Stand p l e R (s.setVm vm0) m args below meth c T locs cells slots) (C : OwnCx p (s.setVm vm0) m meth c Z y bs maxL rt) {idx : Nat} {y' : MethodName} {bs' : ByteArray} {maxL' : Nat} {rt' : Option FieldType} {rm : Room} {as' : Array Value} {Q' : Option Value → Heap → List Loc → Prop} (hrt' : rt' = none)
    (w1 : (Jvm.Cond.methodLink y.cls idx y').before a0 Z = true) (w2 : (Jvm.Cond.instanceMethod y').before a0 Z = true) (w3 : (Jvm.Cond.initialized y'.cls).before a0 Z = true) (w4 : (Jvm.Cond.code y' bs' maxL' rt').before a0 Z = true) (hy1 : y'.name = "<init>") (hy : y'.cls ≠ "java/lang/invoke/MethodHandle" ∧ y'.cls ≠ "java/lang/invoke/VarHandle")
    (hM : OwnMetW l Z y' bs' maxL' rt' [] rm as' h Q') (eT : T.heap = h) (hS : s.Since vm0 k0) (hk : k0 ≤ T.heap.size) {ps : List FieldType} {r : Option FieldType} (hpd : parseMethodDescriptor y'.desc = some ⟨ps, r⟩) (argsL : List Value) (has : (Value.ref a :: argsL).toArray = as') (hlen : argsL.length = ps.length) (hst : st = argsL.reverse ++ .ref a :: rest) (hsz : Ls.size = maxL)
    (W : Nat) (hW : (rest.map fun v => v.category).sum = W) (hf : rm.frames + 1 ≤ R.frames) (hlo : W + (maxL' + 11) + rm.locals ≤ R.locals) (hce : cells + rm.cells ≤ R.cells) (hsl : slots + rm.slots ≤ R.slots) (hd : decode bs pc = .ok (.invokespecial idx, 3)) (pc' : Nat) (hp : pc + 3 = pc')
    (hr : ∀ T' L v, Stand p l e R (s.setVm T'.vm) m args below meth c T' (locs ++ L) (cells + rm.cells) (slots + rm.slots) → OwnCx p (s.setVm T'.vm) m meth c Z y bs maxL rt → s.Since T'.vm T'.heap.size → Q' v T'.heap L → OwnEnds p e below G (T'.setTop (mkF m pc' Ls (v.toList ++ rest)))) : OwnEnds p e below G (T.setTop (mkF m pc Ls st)) := by
  subst hp has hW hrt'
  obtain ⟨v, _, ⟨T', L, k, n⟩, -, X', hS2, hg2, ⟨L', hQ, l1, l2, l3⟩, stp⟩ := X.specialBackS C.1 hy1 C.2.2.1 (mvT C.2.1 w1) (mvT C.2.1 w2) (mvT C.2.1 w4) hy (backOfS (len := 3) (W := (rest.map fun v => v.category).sum) hM C.2.1 w4 w3 hf hlo) (g := mkF m pc Ls st) rfl (by rw [C.2.2.2.2.1]; exact hsz) (Steps.refl _) (a := a) (argsL := argsL) (rest := rest) (lenOf hpd hlen) hst (by show 2 * 0 + _ ≤ _; omega) (hb C.2.2.2.1 hd) (fun _ _ => ⟨rfl, eT, hce, hsl⟩)
  dsimp only [Pt.U, Pt.locs, Pt.cells, Pt.slots] at X' l1 l2 l3 stp hQ hS2 hg2
  subst l1 l2 l3
  obtain ⟨Y, hS3, hZ3, ho3⟩ := rebS hS hk X' hS2 hg2 C.2.1 C.2.2.1
  exact own_tr stp (hr T' L' v Y ⟨C.1, hZ3, ho3, C.2.2.2⟩ hS3 hQ)
theorem own_callSW (X : Stand p l e R (s.setVm vm0) m args below meth c T locs cells slots) (C : OwnCx p (s.setVm vm0) m meth c Z y bs maxL rt) {idx : Nat} {y' : MethodName} {bs' : ByteArray} {maxL' : Nat} {rt' : Option FieldType} {rm : Room} {as' : Array Value} {Q' : Option Value → Heap → List Loc → Prop}
    (w1 : (Jvm.Cond.methodLink y.cls idx y').before a0 Z = true) (w2 : (Jvm.Cond.static y').before a0 Z = true) (w3 : (Jvm.Cond.initialized y'.cls).before a0 Z = true) (w4 : (Jvm.Cond.code y' bs' maxL' rt').before a0 Z = true) (hy : y'.cls ≠ "java/lang/invoke/MethodHandle" ∧ y'.cls ≠ "java/lang/invoke/VarHandle")
    (hM : OwnMetW l Z y' bs' maxL' rt' [] rm as' h Q') (eT : T.heap = h) (hS : s.Since vm0 k0) (hk : k0 ≤ T.heap.size) {ps : List FieldType} {r : Option FieldType} (hpd : parseMethodDescriptor y'.desc = some ⟨ps, r⟩) (argsL : List Value) (has : argsL.toArray = as') (hlen : argsL.length = ps.length) (hst : st = argsL.reverse ++ rest) (hsz : Ls.size = maxL)
    (W : Nat) (hW : (rest.map fun v => v.category).sum = W) (hf : rm.frames + 1 ≤ R.frames) (hlo : W + (maxL' + 11) + rm.locals ≤ R.locals) (hce : cells + rm.cells ≤ R.cells) (hsl : slots + rm.slots ≤ R.slots) (hd : decode bs pc = .ok (.invokestatic idx, 3)) (pc' : Nat) (hp : pc + 3 = pc')
    (hr : ∀ T' L v, Stand p l e R (s.setVm T'.vm) m args below meth c T' (locs ++ L) (cells + rm.cells) (slots + rm.slots) → OwnCx p (s.setVm T'.vm) m meth c Z y bs maxL rt → s.Since T'.vm T'.heap.size → Q' v T'.heap L → OwnEnds p e below G (T'.setTop (mkF m pc' Ls (v.toList ++ rest)))) : OwnEnds p e below G (T.setTop (mkF m pc Ls st)) := by
  subst hp has hW
  obtain ⟨v, _, ⟨T', L, k, n⟩, -, X', hS2, hg2, ⟨L', hQ, l1, l2, l3⟩, stp⟩ := callSS X C.1 C.2.2.1 (mvT C.2.1 w1) (mvT C.2.1 w2) (mvT C.2.1 w3) (mvT C.2.1 w4) hy (backOfS (len := 3) (W := (rest.map fun v => v.category).sum) hM C.2.1 w4 w3 hf hlo) (g := mkF m pc Ls st) rfl (by rw [C.2.2.2.2.1]; exact hsz) (argsL := argsL) (rest := rest) (lenOf hpd hlen) hst (by show 2 * 0 + _ ≤ _; omega) (hb C.2.2.2.1 hd) (fun _ _ => ⟨rfl, eT, hce, hsl⟩)
  dsimp only [Pt.U, Pt.locs, Pt.cells, Pt.slots] at X' l1 l2 l3 stp hQ hS2 hg2
  subst l1 l2 l3
  obtain ⟨Y, hS3, hZ3, ho3⟩ := rebS hS hk X' hS2 hg2 C.2.1 C.2.2.1
  exact own_tr stp (hr T' L' v Y ⟨C.1, hZ3, ho3, C.2.2.2⟩ hS3 hQ)
end OwnWide
section OwnHeld
variable {p : Program} {l : Launch} {e : Env} {R : Room} {s : State} {m : MethodId} {args : Array Value} {below : List Frame} {meth : Method} {c : Code} {T : State} {locs : List Loc} {cells slots : Nat} {Z : State} {y : MethodName} {bs : ByteArray} {maxL : Nat} {rt : Option FieldType} {ce sl : Nat} {Q : Option Value → Heap → List Loc → Prop} {G : Outcome → State → Prop} {pc : Nat} {Ls : Array Slot} {st rest : List Value} {h h' : Heap} {a0 : Array Value} {a : Nat} {vm0 vm : Vm} {k0 : Nat} {EL : List (String × Nat)}
def OwnGH (Z : State) (EL : List (String × Nat)) (s : State) (ce sl : Nat) (Q : Option Value → Heap → List Loc → Prop) : Outcome → State → Prop := fun o s₂ => ∃ v L, o = .returned v ∧ Q v s₂.heap L ∧ CHr Z EL s.vm s.heap s₂.vm s₂.heap ∧ ReturnedEndW s o s₂ L ce sl
def OwnMetH (l : Launch) (Z : State) (EL : List (String × Nat)) (y : MethodName) (bs : ByteArray) (maxL : Nat) (rt : Option FieldType) (ws : List Jvm.Cond) (rm : Room) (as' : Array Value) (h : Heap) (Q : Option Value → Heap → List Loc → Prop) : Prop :=
  MetFree l y (head1 (Jvm.Cond.code y bs maxL rt :: ws) rm) (fun a U => a = as' ∧ Z.Warmed39 U.vm ∧ U.heap = h ∧ CHv Z EL U.vm h) (fun _ _ _ _ _ => True) (fun _ U o U' => ∃ v L, o = .returned v ∧ Q v U'.heap L ∧ CHr Z EL U.vm U.heap U'.vm U'.heap ∧ ReturnedEndW U o U' L rm.cells rm.slots)
theorem own_enterH {ws : List Jvm.Cond} {rm : Room} {as' : Array Value} {f0 : MethodId → JFrame} (hp : plainFor y = true) (hf : ∀ m, entryFrame m as' maxL = f0 m)
    (H : ∀ p e s m below meth c T, Stand p l e rm (s.setVm s.vm) m as' below meth c T [] 0 0 → OwnCx p (s.setVm s.vm) m meth c Z y bs maxL rt → T.heap = h → s.heap = h → CHr Z EL s.vm s.heap s.vm h → s.Since s.vm 0 → OwnEnds p e below (OwnGH Z EL s rm.cells rm.slots Q) (T.setTop (f0 m))) : OwnMetH l Z EL y bs maxL rt ws rm as' h Q := by
  refine MetFree.of_bodySF hp hisR ?_
  intro p e s m args below meth c s₁ Bd hml0 hP hK
  obtain ⟨rfl, hZ, hh, hPX⟩ := hP
  have k := H p e s m below meth c s₁ (Stand.of_body Bd) ⟨Bd.exec, hZ, findClass_of_methodNamed Bd.named, Bd.bytes, hml0, Bd.returns, Bd.notSynchronized, (name_of_methodNamed Bd.named Bd.method).1⟩ (by rw [← hh, Bd.state]; rfl) hh (by rw [hh]; exact CHr.refl hPX) ((State.WarmedH.refl s).since 0)
  rw [← hf m] at k
  exact k
theorem own_leaveH (X : Stand p l e R (s.setVm vm0) m args below meth c T locs cells slots) (C : OwnCx p (s.setVm vm0) m meth c Z y bs maxL rt) (hS : s.Since vm0 k0) (hk : k0 ≤ T.heap.size) (hEL : EW Z a0 EL) (eT : T.heap = h) (H : CHr Z EL s.vm s.heap vm0 h) (v : Option Value) (hv : meth.sig.returnType = none → v = none) (hce : cells ≤ ce) (hsl : slots ≤ sl) (hQ : Q v T.heap locs) {S : State}
    (k : ∀ fs, (∀ (f : JFrame) (acts : List Action), f.method = m → f.locked = none → f.entered = [] → (doReturn e (T.setTop f) acts v).1 = T.setFrames fs) → Steps p.tables e below S (T.setFrames fs)) : OwnEnds p e below (OwnGH Z EL s ce sl Q) S := by
  subst eT
  have H2 := H.trans (CHv.at X C.2.1 hEL H.1)
  obtain ⟨fs, hr, hrun, hended, r1, r2, r3, r4⟩ := X.leaveW hS hk (v := v) hv C.2.2.2.2.2.2.1
  exact ⟨_, _, k fs hr, hrun, hended, _, _, rfl, hQ, H2, r1, r2, r3, r4.mono hce hsl⟩
theorem own_returnH (X : Stand p l e R (s.setVm vm0) m args below meth c T locs cells slots) (C : OwnCx p (s.setVm vm0) m meth c Z y bs maxL rt) (hS : s.Since vm0 k0) (hk : k0 ≤ T.heap.size) (hEL : EW Z a0 EL) (eT : T.heap = h) (H : CHr Z EL s.vm s.heap vm0 h) (hrt : rt = none) (hd : decode bs pc = .ok (.return_, 1)) (hce : cells ≤ ce) (hsl : slots ≤ sl) (hQ : Q none T.heap locs) : OwnEnds p e below (OwnGH Z EL s ce sl Q) (T.setTop (mkF m pc Ls [])) := by
  subst hrt
  exact own_leaveH X C hS hk hEL eT H none (fun _ => rfl) hce hsl hQ fun fs hr => X.returnOut C.1 C.2.2.2.2.2.1 (hb C.2.2.2.1 hd) hr
theorem own_areturnH (X : Stand p l e R (s.setVm vm0) m args below meth c T locs cells slots) (C : OwnCx p (s.setVm vm0) m meth c Z y bs maxL rt) (hS : s.Since vm0 k0) (hk : k0 ≤ T.heap.size) (hEL : EW Z a0 EL) (eT : T.heap = h) (H : CHr Z EL s.vm s.heap vm0 h) {z : Value} (t : FieldType) (hrt : rt = some t) (ht : t.isReference = true) (hz : z.isRef = true) (hn : narrow t z = z) (hd : decode bs pc = .ok (.areturn, 1)) (hce : cells ≤ ce) (hsl : slots ≤ sl) (hQ : Q (some z) T.heap locs) : OwnEnds p e below (OwnGH Z EL s ce sl Q) (T.setTop (mkF m pc Ls (z :: st))) := by
  subst hrt
  exact own_leaveH X C hS hk hEL eT H (some z) (fun q => by rw [C.2.2.2.2.2.1] at q; cases q) hce hsl hQ fun fs hr => retOut X C.1 C.2.2.2.2.2.1 hn (Or.inr (Or.inr (Or.inr (Or.inr ⟨rfl, ht, hz⟩)))) (hb C.2.2.2.1 hd) hr
theorem own_ldcCH (X : Stand p l e R (s.setVm vm0) m args below meth c T locs cells slots) (C : OwnCx p (s.setVm vm0) m meth c Z y bs maxL rt) {idx : Nat} {text : String} (w : (Jvm.Cond.stringLink y.cls idx text).before a0 Z = true) (wS : ∀ a ∈ Bundle.stringAtoms, a.before a0 Z = true) (eT : T.heap = h) (hS : s.Since vm0 k0) (hk : k0 ≤ T.heap.size) (hEL : EW Z a0 EL) (hmem : (y.cls, idx) ∈ EL) (H : CHv Z EL vm0 h)
    {vs : List Value} {z : Int32} (ht : (∀ c ∈ text.toList, c.toNat < 256) ∧ text.toList.map (fun c => Value.int (Jvm.Lit.byteI c.toNat.toUInt16)) = vs) (hz : ¬ z < 0) (hlv : z.toNatClampNeg = vs.length)
    (hd : decode bs pc = .ok (.ldc idx, 2)) (pc' : Nat) (hp : pc + 2 = pc') (n : Nat) (hn : 4 * text.toList.length ≤ n) (hbig : n ≤ 536870912) (hc : cells + 2 ≤ R.cells) (hl : slots + (n + 4) ≤ R.slots)
    (hr : ∀ (a b : Nat) T' h' k1, Stand p l e R (s.setVm T'.vm) m args below meth c T' locs (cells + 2) (slots + (n + 4)) → OwnCx p (s.setVm T'.vm) m meth c Z y bs maxL rt → T'.heap = h' → Ext h h' → s.Since T'.vm k1 → k1 ≤ T'.heap.size → Exa Z h' a "java/lang/String" → Fld Z h' a "java/lang/String" "coder" "B" (.int 0) → Fld Z h' a "java/lang/String" "value" "[B" (.ref b) → OwnAr Z h' b .byte vs.length (fun i => vs.getD i (.int 0)) → CHr Z EL vm0 h T'.vm h' → (∀ x : Nat, Safe Z EL T'.vm h' x → x ≠ a ∧ x ≠ b) → OwnEnds p e below G (T'.setTop (mkF m pc' Ls (.ref a :: st)))) : OwnEnds p e below G (T.setTop (mkF m pc Ls st)) := by
  subst hp
  obtain ⟨a, T', h', k1, b, k, X', e', E', hS', hk', hZ', ho', r1, r2, r3, r4, -, -, r7, -, r9, stp⟩ := ldcCH X C.1 C.2.1 C.2.2.1 w wS eT hS (eT ▸ hk) hEL hmem H ht hz hlv (g := mkF m pc Ls st) rfl (hb C.2.2.2.1 hd) hn hbig hc hl
  exact own_st stp (hr a b T' h' k1 X' ⟨C.1, hZ', ho', C.2.2.2⟩ e' E' hS' (e' ▸ hk') r1 r2 r3 (own_arv r4 hlv) r7 r9)
theorem own_callIH (X : Stand p l e R (s.setVm vm0) m args below meth c T locs cells slots) (C : OwnCx p (s.setVm vm0) m meth c Z y bs maxL rt) {idx : Nat} {y' : MethodName} {bs' : ByteArray} {maxL' : Nat} {rt' : Option FieldType} {rm : Room} {as' : Array Value} {Q' : Option Value → Heap → List Loc → Prop} (hrt' : rt' = none)
    (w1 : (Jvm.Cond.methodLink y.cls idx y').before a0 Z = true) (w2 : (Jvm.Cond.instanceMethod y').before a0 Z = true) (w3 : (Jvm.Cond.initialized y'.cls).before a0 Z = true) (w4 : (Jvm.Cond.code y' bs' maxL' rt').before a0 Z = true) (hy1 : y'.name = "<init>") (hy : y'.cls ≠ "java/lang/invoke/MethodHandle" ∧ y'.cls ≠ "java/lang/invoke/VarHandle")
    (hM : OwnMetH l Z EL y' bs' maxL' rt' [] rm as' h Q') (eT : T.heap = h) (hS : s.Since vm0 k0) (hk : k0 ≤ T.heap.size) (hEL : EW Z a0 EL) (H : CHv Z EL vm0 h) {ps : List FieldType} {r : Option FieldType} (hpd : parseMethodDescriptor y'.desc = some ⟨ps, r⟩) (argsL : List Value) (has : (Value.ref a :: argsL).toArray = as') (hlen : argsL.length = ps.length) (hst : st = argsL.reverse ++ .ref a :: rest) (hsz : Ls.size = maxL)
    (W : Nat) (hW : (rest.map fun v => v.category).sum = W) (hf : rm.frames + 1 ≤ R.frames) (hlo : W + (maxL' + 11) + rm.locals ≤ R.locals) (hce : cells + rm.cells ≤ R.cells) (hsl : slots + rm.slots ≤ R.slots) (hd : decode bs pc = .ok (.invokespecial idx, 3)) (pc' : Nat) (hp : pc + 3 = pc')
    (hr : ∀ T' L v, Stand p l e R (s.setVm T'.vm) m args below meth c T' (locs ++ L) (cells + rm.cells) (slots + rm.slots) → OwnCx p (s.setVm T'.vm) m meth c Z y bs maxL rt → s.Since T'.vm T'.heap.size → CHr Z EL vm0 h T'.vm T'.heap → Q' v T'.heap L → OwnEnds p e below G (T'.setTop (mkF m pc' Ls (v.toList ++ rest)))) : OwnEnds p e below G (T.setTop (mkF m pc Ls st)) := by
  subst hp has hW hrt'
  obtain ⟨v, _, ⟨T', L, k, n⟩, -, X', hS2, hg2, ⟨L', hQ, l1, l2, l3, l4⟩, stp⟩ := X.specialBackS C.1 hy1 C.2.2.1 (mvT C.2.1 w1) (mvT C.2.1 w2) (mvT C.2.1 w4) hy (backOfSH (len := 3) (W := (rest.map fun v => v.category).sum) hM C.2.1 w4 w3 hf hlo hEL H) (g := mkF m pc Ls st) rfl (by rw [C.2.2.2.2.1]; exact hsz) (Steps.refl _) (a := a) (argsL := argsL) (rest := rest) (lenOf hpd hlen) hst (by show 2 * 0 + _ ≤ _; omega) (hb C.2.2.2.1 hd) (fun _ _ => ⟨rfl, eT, hce, hsl⟩)
  dsimp only [Pt.U, Pt.locs, Pt.cells, Pt.slots] at X' l1 l2 l3 l4 stp hQ hS2 hg2
  subst l1 l2 l3
  obtain ⟨Y, hS3, hZ3, ho3⟩ := rebS hS hk X' hS2 hg2 C.2.1 C.2.2.1
  exact own_tr stp (hr T' L' v Y ⟨C.1, hZ3, ho3, C.2.2.2⟩ hS3 l4 hQ)
theorem own_callSH (X : Stand p l e R (s.setVm vm0) m args below meth c T locs cells slots) (C : OwnCx p (s.setVm vm0) m meth c Z y bs maxL rt) {idx : Nat} {y' : MethodName} {bs' : ByteArray} {maxL' : Nat} {rt' : Option FieldType} {rm : Room} {as' : Array Value} {Q' : Option Value → Heap → List Loc → Prop}
    (w1 : (Jvm.Cond.methodLink y.cls idx y').before a0 Z = true) (w2 : (Jvm.Cond.static y').before a0 Z = true) (w3 : (Jvm.Cond.initialized y'.cls).before a0 Z = true) (w4 : (Jvm.Cond.code y' bs' maxL' rt').before a0 Z = true) (hy : y'.cls ≠ "java/lang/invoke/MethodHandle" ∧ y'.cls ≠ "java/lang/invoke/VarHandle")
    (hM : OwnMetH l Z EL y' bs' maxL' rt' [] rm as' h Q') (eT : T.heap = h) (hS : s.Since vm0 k0) (hk : k0 ≤ T.heap.size) (hEL : EW Z a0 EL) (H : CHv Z EL vm0 h) {ps : List FieldType} {r : Option FieldType} (hpd : parseMethodDescriptor y'.desc = some ⟨ps, r⟩) (argsL : List Value) (has : argsL.toArray = as') (hlen : argsL.length = ps.length) (hst : st = argsL.reverse ++ rest) (hsz : Ls.size = maxL)
    (W : Nat) (hW : (rest.map fun v => v.category).sum = W) (hf : rm.frames + 1 ≤ R.frames) (hlo : W + (maxL' + 11) + rm.locals ≤ R.locals) (hce : cells + rm.cells ≤ R.cells) (hsl : slots + rm.slots ≤ R.slots) (hd : decode bs pc = .ok (.invokestatic idx, 3)) (pc' : Nat) (hp : pc + 3 = pc')
    (hr : ∀ T' L v, Stand p l e R (s.setVm T'.vm) m args below meth c T' (locs ++ L) (cells + rm.cells) (slots + rm.slots) → OwnCx p (s.setVm T'.vm) m meth c Z y bs maxL rt → s.Since T'.vm T'.heap.size → CHr Z EL vm0 h T'.vm T'.heap → Q' v T'.heap L → OwnEnds p e below G (T'.setTop (mkF m pc' Ls (v.toList ++ rest)))) : OwnEnds p e below G (T.setTop (mkF m pc Ls st)) := by
  subst hp has hW
  obtain ⟨v, _, ⟨T', L, k, n⟩, -, X', hS2, hg2, ⟨L', hQ, l1, l2, l3, l4⟩, stp⟩ := callSS X C.1 C.2.2.1 (mvT C.2.1 w1) (mvT C.2.1 w2) (mvT C.2.1 w3) (mvT C.2.1 w4) hy (backOfSH (len := 3) (W := (rest.map fun v => v.category).sum) hM C.2.1 w4 w3 hf hlo hEL H) (g := mkF m pc Ls st) rfl (by rw [C.2.2.2.2.1]; exact hsz) (argsL := argsL) (rest := rest) (lenOf hpd hlen) hst (by show 2 * 0 + _ ≤ _; omega) (hb C.2.2.2.1 hd) (fun _ _ => ⟨rfl, eT, hce, hsl⟩)
  dsimp only [Pt.U, Pt.locs, Pt.cells, Pt.slots] at X' l1 l2 l3 l4 stp hQ hS2 hg2
  subst l1 l2 l3
  obtain ⟨Y, hS3, hZ3, ho3⟩ := rebS hS hk X' hS2 hg2 C.2.1 C.2.2.1
  exact own_tr stp (hr T' L' v Y ⟨C.1, hZ3, ho3, C.2.2.2⟩ hS3 l4 hQ)
/-- an object of class String whose value is null is no booked literal -/
theorem own_safe_null (hal : Z.vm.Alike vm) (E : Exa Z h a "java/lang/String") (F : Fld Z h a "java/lang/String" "value" "[B" .null) : Safe Z EL vm h a := fun B => by
  obtain ⟨p, -, u, b, -, q, -, S, hy⟩ := B
  rcases hy with hy | hy
  · subst hy
    have e2 := S.ha
    obtain ⟨cS, ⟨⟨-, -, -, ⟨cv, kv, iv, s4, -⟩, -, -, -, s8, -⟩, -⟩, -⟩ := S
    obtain ⟨cell, cf, k, i, f, h1, h2, -, -, -, -, h7⟩ := F
    cases (show h[q.sa]? = some q.sC from e2).symm.trans h1
    obtain ⟨k3, e3, -⟩ := State.fieldFound?_setVm (s := Z) hal h2
    have e4 := (show (Wst Z vm h).fieldFound? _ _ _ = _ from e3).symm.trans s4
    simp only [Option.some.injEq, Prod.mk.injEq] at e4
    rw [e4.2.2.2, s8] at h7
    cases h7
  · subst hy
    have e2 := S.hd
    obtain ⟨cS, -, -, f, -⟩ := S
    obtain ⟨cell, k, h1, h2, -⟩ := E
    cases (show h[q.sd]? = some q.SA from e2).symm.trans h1
    have f' : vm.findClass "[B" = some q.SA.cls := f
    rw [hal.findClass] at f'
    obtain ⟨k1, q1, q2⟩ := Vm.findClass_spec f'
    obtain ⟨k2, q3, q4⟩ := Vm.findClass_spec h2
    cases q1.symm.trans q3
    exact absurd (q2.symm.trans q4) (by decide)
theorem own_safe_ar {x : Addr} {ty : FieldType} {n : Nat} {f : Nat → Value} (hal : Z.vm.Alike vm) (A : OwnAr Z h x ty n f) (ht : ty ≠ .byte) : Safe Z EL vm h x := by
  obtain ⟨cl, A, -⟩ := A
  exact Safe.arr hal A ht
theorem own_exar_ne {K : String} {kk n : Nat} {b : Nat} {ty : FieldType} {f : Nat → Value} (wi : (Jvm.Cond.instantiable K kk).before a0 Z = true) (E : Exa Z h a K) (A : OwnAr Z h b ty n f) : a ≠ b := by
  intro q
  subst q
  obtain ⟨c1, k, h1, h2, h3, -, -⟩ := E
  obtain ⟨cl, ⟨A1, ⟨-, k9, hk9, cm, hkind⟩, -⟩, -⟩ := A
  cases h1.symm.trans A1
  obtain ⟨cI, kI, hfI, hkI, hkindI, -⟩ := Cond.instantiable_spec wi
  cases h2.symm.trans hfI
  cases hkI.symm.trans hk9
  rw [hkindI] at hkind
  cases hkind
theorem own_stake {ws : List Addr} {C n d : String} {v : Value} (F : Sta Z h C n d v) (K : Keep h h' ws) (q : ∀ x ∈ ws, ∀ cell : Cell, h[x]? = some cell → cell.vm.isStatics = false) : Sta Z h' C n d v := by
  obtain ⟨cf, i, k, f, st, cell, h1, h2, h3, h4, h5, h6, r⟩ := F
  exact ⟨cf, i, k, f, st, cell, h1, h2, h3, h4, K.2.1 _ _ h5 (fun hm => by have z := q _ hm _ h5; rw [h6] at z; cases z), h6, r⟩
end OwnHeld
theorem own_w {Z : State} {a0 : Array Value} (hw : ∀ d ∈ tables_1, d.before a0 Z = true) (k : Nat) {d : Jvm.Cond} (q : tables_1[k]? = some d) : d.before a0 Z = true := hw _ (List.mem_of_getElem? q)
theorem own_eqI {args : Array Value} {s : State} {t : Term} {k : Int32} (q : (Jvm.Cond.eq t (.int k)).value args s none s [] = some true) : t.eval args s none [] s = some (.int k) := by
  simp only [Cond.value, Term.int_eval] at q
  cases e : t.eval args s none [] s with
  | none => simp [e] at q
  | some v => cases v <;> simp [e] at q ⊢; exact q
theorem own_lenI {args : Array Value} {s : State} {t : Term} {a : Addr} {cl : Cell} {ty : FieldType} {k : Int32} (ev : t.eval args s none [] s = some (.ref a)) (A : Arr s s.heap a cl ty) (q : (Jvm.Cond.eq (.length t) (.int k)).value args s none s [] = some true) : (cl.slots.size : Int) = k.toInt := by
  have q1 := own_eqI q
  have q2 := A.fin (Vm.Alike.refl _)
  simp only [Term.eval, ev] at q1
  simp [q2] at q1
  obtain ⟨q3, q4⟩ := q1
  rw [← q4, len_toInt (by omega)]
theorem own_elI {args : Array Value} {s : State} {t : Term} {a : Addr} {cl : Cell} {ty : FieldType} {k j : Int32} (ev : t.eval args s none [] s = some (.ref a)) (A : Arr s s.heap a cl ty) (q : (Jvm.Cond.eq (.elem t (.int j)) (.int k)).value args s none s [] = some true) : cl.slots[j.toNatClampNeg]? = some (.int k) :=
  (elem_in (own_eqI q) ev (Term.int_eval j) A.1).2
/-- a Latin-1 string at o: its bytes at b, n of them: G -/
def OwnStr (Z : State) (h : Heap) (o b : Addr) (n : Nat) (G : Nat → Int32) : Prop :=
  Exa Z h o "java/lang/String" ∧ Fld Z h o "java/lang/String" "value" "[B" (.ref b) ∧ Fld Z h o "java/lang/String" "coder" "B" (.int (0 : Int32)) ∧ OwnAr Z h b .byte n (fun i => .int (G i)) ∧ n < 2147483648
theorem OwnStr.ext {Z : State} {h h' : Heap} {o b : Addr} {n : Nat} {G : Nat → Int32} (I : OwnStr Z h o b n G) (E : Ext h h') : OwnStr Z h' o b n G := ⟨I.1.ext E, I.2.1.ext E, I.2.2.1.ext E, I.2.2.2.1.ext E, I.2.2.2.2⟩
theorem OwnStr.keep {Z : State} {h h' : Heap} {o b : Addr} {n : Nat} {G : Nat → Int32} {ws : List Addr} (I : OwnStr Z h o b n G) (K : Keep h h' ws) (q1 : o ∉ ws) (q2 : b ∉ ws) : OwnStr Z h' o b n G := ⟨I.1.keep K, I.2.1.keep K q1, I.2.2.1.keep K q1, I.2.2.2.1.keep K q2, I.2.2.2.2⟩
/-- what the JDK's statics hold -/
def OwnJ (Z : State) (h : Heap) (cs : Int32) (vF : Value) : Prop := Sta Z h "java/lang/String" "COMPACT_STRINGS" "Z" (.int cs) ∧ cs.toInt ≠ 0 ∧ Sta Z h "jdk/internal/util/Preconditions" "SIOOBE_FORMATTER" "Ljava/util/function/BiFunction;" vF ∧ vF.isRef = true
theorem OwnJ.ext {Z : State} {h h' : Heap} {cs : Int32} {vF : Value} (J : OwnJ Z h cs vF) (E : Ext h h') : OwnJ Z h' cs vF := ⟨J.1.ext E, J.2.1, J.2.2.1.ext E, J.2.2.2⟩
theorem OwnJ.keep {Z : State} {h h' : Heap} {cs : Int32} {vF : Value} (J : OwnJ Z h cs vF) (K : Keep h h' []) : OwnJ Z h' cs vF := ⟨own_stak J.1 K, J.2.1, own_stak J.2.2.1 K, J.2.2.2⟩
theorem own_wS {Z : State} {a0 : Array Value} (hw : ∀ d ∈ tables_1, d.before a0 Z = true) : ∀ a ∈ Bundle.stringAtoms, a.before a0 Z = true := fun d hd => by
  simp only [Bundle.stringAtoms, Bundle.sN, List.mem_cons, List.not_mem_nil, or_false] at hd
  rcases hd with rfl | rfl | rfl | rfl | rfl | rfl | rfl
  · exact (own_w hw 9 rfl)
  · exact (own_w hw 8 rfl)
  · exact (own_w hw 22 rfl)
  · exact (own_w hw 23 rfl)
  · exact (own_w hw 24 rfl)
  · exact (own_w hw 25 rfl)
  · exact (own_w hw 26 rfl)
theorem OwnJ.wr {Z : State} {h h' : Heap} {cs : Int32} {vF : Value} {a : Addr} {sl : Nat} {v : Value} (J : OwnJ Z h cs vF) (W : Wr h h' a sl v) : OwnJ Z h' cs vF := ⟨J.1.wr W, J.2.1, J.2.2.1.wr W, J.2.2.2⟩
theorem OwnJ.keepE {Z : State} {h h' : Heap} {cs : Int32} {vF : Value} {a : Nat} {K : String} (J : OwnJ Z h cs vF) (E : Exa Z h a K) (Kp : Keep h h' [a]) : OwnJ Z h' cs vF :=
  ⟨own_stake J.1 Kp (nsS (Exa.nostat E) ns0), J.2.1, own_stake J.2.2.1 Kp (nsS (Exa.nostat E) ns0), J.2.2.2⟩
def own_EL : List (String × Nat) := [("java/lang/String", 7)]
theorem own_mem : (("java/lang/String", 7) : String × Nat) ∈ own_EL := List.mem_cons_self ..
theorem own_hEL {Z : State} {a0 : Array Value} (hw : ∀ d ∈ tables_1, d.before a0 Z = true) : EW Z a0 own_EL := EW.cons (own_w hw 21 rfl) (by decide) EW.nil
def own_cv (x y : Int32) : Nat → Int32 := fun i => if i = 0 then x else y
def own_G (f : Nat → Int32) : Nat → Int32 := fun i => (f i).toInt8.toInt32
theorem own_cvr {x y : Int32} (h1 : 0 ≤ x.toInt ∧ x.toInt ≤ 255) (h2 : 0 ≤ y.toInt ∧ y.toInt ≤ 255) (i : Nat) : 0 ≤ (own_cv x y i).toInt ∧ (own_cv x y i).toInt ≤ 255 := by
  unfold own_cv
  split <;> assumption
theorem own_narC {x : Int32} (h0 : 0 ≤ x.toInt) (h1 : x.toInt ≤ 255) : nar .char x = x := by
  have q := c_i2c x
  apply Int32.toInt_inj.mp
  show (x.toUInt32.toUInt16.toUInt32.toInt32).toInt = _
  omega
def own_seq (n m : Nat) (f g : Nat → Int32) : Int32 := if n = m ∧ ∀ i, i < n → (f i).toInt = (g i).toInt then 1 else 0
theorem own_seq1 {n m : Nat} {f g : Nat → Int32} (q : (own_seq n m f g).toInt ≠ 0) : own_seq n m f g = 1 := by
  unfold own_seq at *
  split at q
  · rw [if_pos (by assumption)]
  · exact absurd rfl q
theorem own_seq0 {n m : Nat} {f g : Nat → Int32} (q : (own_seq n m f g).toInt = 0) : own_seq n m f g = 0 := by
  unfold own_seq at *
  split at q
  · exact absurd q (by decide)
  · rw [if_neg (by assumption)]
def own_sl (xa xb : Int32) (n m : Nat) (f g : Nat → Int32) : Int32 := if xa.toInt = xb.toInt then own_seq n m f g else 0
theorem own_sl_v (xa xb : Int32) (n m : Nat) {x y z w : Int32} (hn : n ≤ 2) (h1 : 0 ≤ x.toInt ∧ x.toInt ≤ 255) (h2 : 0 ≤ y.toInt ∧ y.toInt ≤ 255) (h3 : 0 ≤ z.toInt ∧ z.toInt ≤ 255) (h4 : 0 ≤ w.toInt ∧ w.toInt ≤ 255) :
    ((xa.toInt = xb.toInt ∧ n = m ∧ (n < 1 ∨ x.toInt = z.toInt) ∧ (n < 2 ∨ y.toInt = w.toInt)) → (own_sl xa xb n m (own_G (own_cv x y)) (own_G (own_cv z w))).toInt = 1) ∧ (¬ (xa.toInt = xb.toInt ∧ n = m ∧ (n < 1 ∨ x.toInt = z.toInt) ∧ (n < 2 ∨ y.toInt = w.toInt)) → (own_sl xa xb n m (own_G (own_cv x y)) (own_G (own_cv z w))).toInt = 0) := by
  have b1 := c_i2b x
  have b2 := c_i2b y
  have b3 := c_i2b z
  have b4 := c_i2b w
  refine ⟨fun q => ?_, fun q => ?_⟩
  · obtain ⟨q1, q2, q3, q4⟩ := q
    rw [own_sl, if_pos q1, own_seq, if_pos]
    · decide
    · refine ⟨q2, fun i hi => ?_⟩
      have k : i = 0 ∨ i = 1 := by omega
      rcases k with rfl | rfl
      · show x.toInt8.toInt32.toInt = z.toInt8.toInt32.toInt
        rw [show x = z from Int32.toInt_inj.mp (by omega)]
      · show y.toInt8.toInt32.toInt = w.toInt8.toInt32.toInt
        rw [show y = w from Int32.toInt_inj.mp (by omega)]
  · rw [own_sl]
    by_cases q1 : xa.toInt = xb.toInt
    · rw [if_pos q1, own_seq, if_neg]
      · decide
      · rintro ⟨k1, k2⟩
        apply q
        refine ⟨q1, k1, ?_, ?_⟩
        · by_cases k : n < 1
          · exact Or.inl k
          · have k3 : x.toInt8.toInt32.toInt = z.toInt8.toInt32.toInt := k2 0 (by omega)
            exact Or.inr (by omega)
        · by_cases k : n < 2
          · exact Or.inl k
          · have k3 : y.toInt8.toInt32.toInt = w.toInt8.toInt32.toInt := k2 1 (by omega)
            exact Or.inr (by omega)
    · rw [if_neg q1]
      decide
theorem own_pn_Record : plainName "java/lang/Record" = true := by first | (simp [plainName, overriddenIn]; done) | decide +kernel
theorem own_pd__R_V : parseMethodDescriptor "()V" = some ⟨[], none⟩ := by decide +kernel
theorem own_d_jdk_30_method_1_code_0 : decode jdk_30_method_1_code 0 = .ok (.aload_n 0, 1) := by decide +kernel
theorem own_d_jdk_30_method_1_code_1 : decode jdk_30_method_1_code 1 = .ok (.invokespecial 1, 3) := by decide +kernel
theorem own_d_jdk_30_method_1_code_4 : decode jdk_30_method_1_code 4 = .ok (.return_, 1) := by decide +kernel
set_option maxRecDepth 65536 in
set_option maxHeartbeats 4000000 in
theorem own_ef_own_rm_record (m : MethodId) (oa0 : Nat) : entryFrame m #[(.ref oa0)] 1 = (mkF m 0 #[.val (.ref oa0)] []) := by first | (simp [entryFrame, mkF, argsToLocals, Value.category]; done) | rfl
set_option maxRecDepth 65536 in
set_option maxHeartbeats 4000000 in
theorem own_rm_record (l : Launch) (Z : State) (a0 : Array Value) (hw : ∀ d ∈ tables_1, d.before a0 Z = true) (oa0 : Nat) (h : Heap)  :
    OwnMet l Z (⟨"java/lang/Record", "<init>", "()V"⟩ : MethodName) jdk_30_method_1_code 1 none [] ({ frames := 1, cells := 0, slots := 0, locals := 12 } : Room) #[(.ref oa0)] h (fun v h' L => v = none ∧ h' = h ∧ L = []) := by
  refine own_enter (f0 := fun m => mkF m 0 #[.val (.ref oa0)] []) (plainFor_of_name own_pn_Record) (fun m => own_ef_own_rm_record m oa0) ?_
  intro p e s m below meth c T0 X0 C e0
  refine own_aload_n X0 C own_d_jdk_30_method_1_code_0 1 rfl rfl rfl ?_
  refine own_initO X0 C (own_w hw 37 rfl) (own_w hw 19 rfl) (own_w hw 20 rfl) e0 rfl own_d_jdk_30_method_1_code_1 4 rfl (by decide) 0 rfl (by decide) (fun T1 X1 e1 => ?_)
  refine own_return X1 C rfl own_d_jdk_30_method_1_code_4 (by decide) (by decide) ?_
  exact ⟨rfl, e1, rfl⟩
theorem own_pn_StringUTF16 : plainName "java/lang/StringUTF16" = true := by first | (simp [plainName, overriddenIn]; done) | decide +kernel
theorem own_pd_ABI_R_B : parseMethodDescriptor "([BI)B" = some ⟨[(.array .byte), .int], some .byte⟩ := by decide +kernel
theorem own_d_jdk_52_method_15_code_0 : decode jdk_52_method_15_code 0 = .ok (.iload_n 1, 1) := by decide +kernel
theorem own_d_jdk_52_method_15_code_1 : decode jdk_52_method_15_code 1 = .ok (.aload_n 0, 1) := by decide +kernel
theorem own_d_jdk_52_method_15_code_2 : decode jdk_52_method_15_code 2 = .ok (.arraylength, 1) := by decide +kernel
theorem own_d_jdk_52_method_15_code_3 : decode jdk_52_method_15_code 3 = .ok (.isub, 1) := by decide +kernel
theorem own_d_jdk_52_method_15_code_4 : decode jdk_52_method_15_code 4 = .ok (.bipush 31, 2) := by decide +kernel
theorem own_d_jdk_52_method_15_code_6 : decode jdk_52_method_15_code 6 = .ok (.iushr, 1) := by decide +kernel
theorem own_d_jdk_52_method_15_code_7 : decode jdk_52_method_15_code 7 = .ok (.i2b, 1) := by decide +kernel
theorem own_d_jdk_52_method_15_code_8 : decode jdk_52_method_15_code 8 = .ok (.ireturn, 1) := by decide +kernel
set_option maxRecDepth 65536 in
set_option maxHeartbeats 4000000 in
theorem own_ef_own_rm_coderFrom (m : MethodId) (oa0 : Nat) (ia1 : Int32) : entryFrame m #[(.ref oa0), (.int ia1)] 2 = (mkF m 0 #[.val (.ref oa0), .val (.int ia1)] []) := by first | (simp [entryFrame, mkF, argsToLocals, Value.category]; done) | rfl
set_option maxRecDepth 65536 in
set_option maxHeartbeats 4000000 in
theorem own_rm_coderFrom (l : Launch) (Z : State) (a0 : Array Value) (hw : ∀ d ∈ tables_1, d.before a0 Z = true) (oa0 : Nat) (ia1 : Int32) (h : Heap) (n : Nat) (f : Nat → Value) (A : OwnAr Z h oa0 .byte n f) (hn : n ≤ 2) (hi : ia1.toInt = n) :
    OwnMet l Z (⟨"java/lang/StringUTF16", "coderFromArrayLen", "([BI)B"⟩ : MethodName) jdk_52_method_15_code 2 (some .byte) [] ({ frames := 0, cells := 0, slots := 0, locals := 0 } : Room) #[(.ref oa0), (.int ia1)] h (OwnPure (.int 0) h) := by
  refine own_enter (f0 := fun m => mkF m 0 #[.val (.ref oa0), .val (.int ia1)] []) (plainFor_of_name own_pn_StringUTF16) (fun m => own_ef_own_rm_coderFrom m oa0 ia1) ?_
  intro p e s m below meth c T0 X0 C e0
  refine own_iload_n X0 C own_d_jdk_52_method_15_code_0 1 rfl rfl ?_
  refine own_aload_n X0 C own_d_jdk_52_method_15_code_1 2 rfl rfl rfl ?_
  refine own_arraylength X0 C e0 A own_d_jdk_52_method_15_code_2 3 rfl (by omega) (fun v1 ev1 fv1 => ?_)
  refine own_isub X0 C own_d_jdk_52_method_15_code_3 4 rfl (fun v2 ev2 => ?_)
  obtain rfl : v2 = (0 : Int32) := by
    have q := c_isub ia1 v1
    rw [← ev2] at q
    have q1 := rng32 v2
    have q2 : (0 : Int32).toInt = 0 := by decide
    exact Int32.toInt_inj.mp (by omega)
  refine own_bipush X0 C own_d_jdk_52_method_15_code_4 6 rfl (31) rfl ?_
  refine own_iushr X0 C own_d_jdk_52_method_15_code_6 7 rfl (fun v3 ev3 => ?_)
  obtain rfl : v3 = (0 : Int32) := ev3.trans (by decide)
  refine own_i2b X0 C own_d_jdk_52_method_15_code_7 8 rfl (fun v4 ev4 => ?_)
  obtain rfl : v4 = (0 : Int32) := ev4.trans (by decide)
  refine own_iretN X0 C .byte rfl (by simp) own_d_jdk_52_method_15_code_8 (by decide) (by decide) (0) (by decide) ?_
  exact ⟨rfl, e0, rfl⟩
theorem own_pd_ACIABII_R_I : parseMethodDescriptor "([CI[BII)I" = some ⟨[(.array .char), .int, (.array .byte), .int, .int], some .int⟩ := by decide +kernel
theorem own_d_jdk_52_method_21_code_0 : decode jdk_52_method_21_code 0 = .ok (.iconst 0, 1) := by decide +kernel
theorem own_d_jdk_52_method_21_code_1 : decode jdk_52_method_21_code 1 = .ok (.istore 5, 2) := by decide +kernel
theorem own_d_jdk_52_method_21_code_3 : decode jdk_52_method_21_code 3 = .ok (.iload 5, 2) := by decide +kernel
theorem own_d_jdk_52_method_21_code_5 : decode jdk_52_method_21_code 5 = .ok (.iload 4, 2) := by decide +kernel
theorem own_d_jdk_52_method_21_code_7 : decode jdk_52_method_21_code 7 = .ok (.if_icmp .ge 37, 3) := by decide +kernel
theorem own_d_jdk_52_method_21_code_10 : decode jdk_52_method_21_code 10 = .ok (.aload_n 0, 1) := by decide +kernel
theorem own_d_jdk_52_method_21_code_11 : decode jdk_52_method_21_code 11 = .ok (.iload_n 1, 1) := by decide +kernel
theorem own_d_jdk_52_method_21_code_12 : decode jdk_52_method_21_code 12 = .ok (.caload, 1) := by decide +kernel
theorem own_d_jdk_52_method_21_code_13 : decode jdk_52_method_21_code 13 = .ok (.istore 6, 2) := by decide +kernel
theorem own_d_jdk_52_method_21_code_15 : decode jdk_52_method_21_code 15 = .ok (.iload 6, 2) := by decide +kernel
theorem own_d_jdk_52_method_21_code_17 : decode jdk_52_method_21_code 17 = .ok (.sipush 255, 3) := by decide +kernel
theorem own_d_jdk_52_method_21_code_20 : decode jdk_52_method_21_code 20 = .ok (.if_icmp .le 6, 3) := by decide +kernel
theorem own_d_jdk_52_method_21_code_26 : decode jdk_52_method_21_code 26 = .ok (.aload_n 2, 1) := by decide +kernel
theorem own_d_jdk_52_method_21_code_27 : decode jdk_52_method_21_code 27 = .ok (.iload_n 3, 1) := by decide +kernel
theorem own_d_jdk_52_method_21_code_28 : decode jdk_52_method_21_code 28 = .ok (.iload 6, 2) := by decide +kernel
theorem own_d_jdk_52_method_21_code_30 : decode jdk_52_method_21_code 30 = .ok (.i2b, 1) := by decide +kernel
theorem own_d_jdk_52_method_21_code_31 : decode jdk_52_method_21_code 31 = .ok (.bastore, 1) := by decide +kernel
theorem own_d_jdk_52_method_21_code_32 : decode jdk_52_method_21_code 32 = .ok (.iinc 1 1, 3) := by decide +kernel
theorem own_d_jdk_52_method_21_code_35 : decode jdk_52_method_21_code 35 = .ok (.iinc 3 1, 3) := by decide +kernel
theorem own_d_jdk_52_method_21_code_38 : decode jdk_52_method_21_code 38 = .ok (.iinc 5 1, 3) := by decide +kernel
theorem own_d_jdk_52_method_21_code_41 : decode jdk_52_method_21_code 41 = .ok (.goto (-38), 3) := by decide +kernel
theorem own_d_jdk_52_method_21_code_44 : decode jdk_52_method_21_code 44 = .ok (.iload 4, 2) := by decide +kernel
theorem own_d_jdk_52_method_21_code_46 : decode jdk_52_method_21_code 46 = .ok (.ireturn, 1) := by decide +kernel
set_option maxRecDepth 65536 in
set_option maxHeartbeats 4000000 in
theorem own_ef_own_rm_comp5 (m : MethodId) (oa0 : Nat) (oa2 : Nat) (ia4 : Int32) : entryFrame m #[(.ref oa0), (.int (0 : Int32)), (.ref oa2), (.int (0 : Int32)), (.int ia4)] 7 = (mkF m 0 #[.val (.ref oa0), .val (.int (0 : Int32)), .val (.ref oa2), .val (.int (0 : Int32)), .val (.int ia4), .unset, .unset] []) := by first | (simp [entryFrame, mkF, argsToLocals, Value.category]; done) | rfl
set_option maxRecDepth 65536 in
set_option maxHeartbeats 4000000 in
theorem own_rm_comp5 (l : Launch) (Z : State) (a0 : Array Value) (hw : ∀ d ∈ tables_1, d.before a0 Z = true) (oa0 : Nat) (oa2 : Nat) (ia4 : Int32) (h : Heap) (n0 : Nat) (gb : n0 ≤ oa2) (n : Nat) (cv : Nat → Int32) (Ac : OwnAr Z h oa0 .char n (fun i => .int (cv i))) (hn : n ≤ 2) (hc : ∀ i, i < n → 0 ≤ (cv i).toInt ∧ (cv i).toInt ≤ 255) (Ab : OwnAr Z h oa2 .byte n (fun _ => .int (0 : Int32))) (hn1 : 1 ≤ n) (hi : ia4.toInt = n) (ne : oa0 ≠ oa2) :
    OwnMet l Z (⟨"java/lang/StringUTF16", "compress", "([CI[BII)I"⟩ : MethodName) jdk_52_method_21_code 7 (some .int) [] ({ frames := 0, cells := 0, slots := 0, locals := 0 } : Room) #[(.ref oa0), (.int (0 : Int32)), (.ref oa2), (.int (0 : Int32)), (.int ia4)] h (fun v h' L => v = some (.int ia4) ∧ Fr n0 L ∧ Keep h h' [oa2] ∧ OwnAr Z h' oa2 .byte n (fun i => .int (own_G cv i))) := by
  refine own_enter (f0 := fun m => mkF m 0 #[.val (.ref oa0), .val (.int (0 : Int32)), .val (.ref oa2), .val (.int (0 : Int32)), .val (.int ia4), .unset, .unset] []) (plainFor_of_name own_pn_StringUTF16) (fun m => own_ef_own_rm_comp5 m oa0 oa2 ia4) ?_
  intro p e s m below meth c T0 X0 C e0
  have Kp := Keep.refl h [oa2]
  refine own_iconst X0 C own_d_jdk_52_method_21_code_0 1 rfl (0) rfl ?_
  refine own_istore X0 C own_d_jdk_52_method_21_code_1 3 rfl #[.val (.ref oa0), .val (.int (0 : Int32)), .val (.ref oa2), .val (.int (0 : Int32)), .val (.int ia4), .val (.int (0 : Int32)), .unset] rfl ?_
  refine own_iload X0 C own_d_jdk_52_method_21_code_3 5 rfl rfl ?_
  refine own_iload X0 C own_d_jdk_52_method_21_code_5 7 rfl rfl ?_
  refine own_icmpge X0 C own_d_jdk_52_method_21_code_7 10 44 rfl (by decide) (by decide) (i := 0) (by decide) (j := ia4.toInt) rfl (fun b1 => ?_) (fun b1 => ?_)
  · exfalso
    have q : (0 : Int32).toInt = 0 := by decide
    omega
  · refine own_aload_n X0 C own_d_jdk_52_method_21_code_10 11 rfl rfl rfl ?_
    refine own_iload_n X0 C own_d_jdk_52_method_21_code_11 12 rfl rfl ?_
    refine own_caload X0 C e0 Ac (by decide) (by have q : (0 : Int32).toInt = 0 := (by decide); omega) own_d_jdk_52_method_21_code_12 13 rfl (.int (cv 0)) rfl ?_
    refine own_istore X0 C own_d_jdk_52_method_21_code_13 15 rfl #[.val (.ref oa0), .val (.int (0 : Int32)), .val (.ref oa2), .val (.int (0 : Int32)), .val (.int ia4), .val (.int (0 : Int32)), .val (.int (cv 0))] rfl ?_
    refine own_iload X0 C own_d_jdk_52_method_21_code_15 17 rfl rfl ?_
    refine own_sipush X0 C own_d_jdk_52_method_21_code_17 20 rfl (255) rfl ?_
    refine own_icmple X0 C own_d_jdk_52_method_21_code_20 23 26 rfl (by decide) (by decide) (i := (cv 0).toInt) rfl (j := 255) (by decide) (fun b2 => ?_) (fun b2 => ?_)
    · refine own_aload_n X0 C own_d_jdk_52_method_21_code_26 27 rfl rfl rfl ?_
      refine own_iload_n X0 C own_d_jdk_52_method_21_code_27 28 rfl rfl ?_
      refine own_iload X0 C own_d_jdk_52_method_21_code_28 30 rfl rfl ?_
      refine own_i2b X0 C own_d_jdk_52_method_21_code_30 31 rfl (fun v1 ev1 => ?_)
      refine own_bastoreB X0 C e0 Ab (by decide) (by have q : (0 : Int32).toInt = 0 := (by decide); omega) own_d_jdk_52_method_21_code_31 32 rfl (own_G cv 0) (by rw [ev1]; simp [own_G]) (fun T3 h3 X3 e3 W3 => ?_)
      have N3 := own_fr1 (sl := ((0 : Int32)).toInt.toNat) (Fr.nil n0) gb
      rw [show ((0 : Int32).toInt.toNat) = 0 from rfl] at W3
      replace Ab := Ab.set W3
      replace Ac := Ac.other W3 (own_ne ne)
      replace Kp := Kp.wr W3 (Or.inl (List.mem_singleton.mpr rfl))
      refine own_iinc X3 C own_d_jdk_52_method_21_code_32 35 rfl rfl (1) rfl (fun z => #[.val (.ref oa0), .val (.int z), .val (.ref oa2), .val (.int (0 : Int32)), .val (.int ia4), .val (.int (0 : Int32)), .val (.int (cv 0))]) (fun z => rfl) (fun v2 ev2 => ?_)
      obtain rfl : v2 = (1 : Int32) := ev2.trans (by decide)
      refine own_iinc X3 C own_d_jdk_52_method_21_code_35 38 rfl rfl (1) rfl (fun z => #[.val (.ref oa0), .val (.int (1 : Int32)), .val (.ref oa2), .val (.int z), .val (.int ia4), .val (.int (0 : Int32)), .val (.int (cv 0))]) (fun z => rfl) (fun v3 ev3 => ?_)
      obtain rfl : v3 = (1 : Int32) := ev3.trans (by decide)
      refine own_iinc X3 C own_d_jdk_52_method_21_code_38 41 rfl rfl (1) rfl (fun z => #[.val (.ref oa0), .val (.int (1 : Int32)), .val (.ref oa2), .val (.int (1 : Int32)), .val (.int ia4), .val (.int z), .val (.int (cv 0))]) (fun z => rfl) (fun v4 ev4 => ?_)
      obtain rfl : v4 = (1 : Int32) := ev4.trans (by decide)
      refine own_goto X3 C own_d_jdk_52_method_21_code_41 3 (by decide) (by decide) ?_
      refine own_iload X3 C own_d_jdk_52_method_21_code_3 5 rfl rfl ?_
      refine own_iload X3 C own_d_jdk_52_method_21_code_5 7 rfl rfl ?_
      refine own_icmpge X3 C own_d_jdk_52_method_21_code_7 10 44 rfl (by decide) (by decide) (i := 1) (by decide) (j := ia4.toInt) rfl (fun b4 => ?_) (fun b4 => ?_)
      · refine own_iload X3 C own_d_jdk_52_method_21_code_44 46 rfl rfl ?_
        refine own_ireturn X3 C rfl own_d_jdk_52_method_21_code_46 (by decide) (by decide) ?_
        rw [e3]
        refine ⟨rfl, N3, Kp, Ab.eqv fun i hi => ?_⟩
        have k : i = 0 ∨ i = 1 := by omega
        rcases k with rfl | rfl
        · rfl
        · first | rfl | (exfalso; omega)
      · refine own_aload_n X3 C own_d_jdk_52_method_21_code_10 11 rfl rfl rfl ?_
        refine own_iload_n X3 C own_d_jdk_52_method_21_code_11 12 rfl rfl ?_
        refine own_caload X3 C e3 Ac (by decide) (by have q : (1 : Int32).toInt = 1 := (by decide); omega) own_d_jdk_52_method_21_code_12 13 rfl (.int (cv 1)) rfl ?_
        refine own_istore X3 C own_d_jdk_52_method_21_code_13 15 rfl #[.val (.ref oa0), .val (.int (1 : Int32)), .val (.ref oa2), .val (.int (1 : Int32)), .val (.int ia4), .val (.int (1 : Int32)), .val (.int (cv 1))] rfl ?_
        refine own_iload X3 C own_d_jdk_52_method_21_code_15 17 rfl rfl ?_
        refine own_sipush X3 C own_d_jdk_52_method_21_code_17 20 rfl (255) rfl ?_
        refine own_icmple X3 C own_d_jdk_52_method_21_code_20 23 26 rfl (by decide) (by decide) (i := (cv 1).toInt) rfl (j := 255) (by decide) (fun b5 => ?_) (fun b5 => ?_)
        · refine own_aload_n X3 C own_d_jdk_52_method_21_code_26 27 rfl rfl rfl ?_
          refine own_iload_n X3 C own_d_jdk_52_method_21_code_27 28 rfl rfl ?_
          refine own_iload X3 C own_d_jdk_52_method_21_code_28 30 rfl rfl ?_
          refine own_i2b X3 C own_d_jdk_52_method_21_code_30 31 rfl (fun v5 ev5 => ?_)
          refine own_bastoreB X3 C e3 Ab (by decide) (by have q : (1 : Int32).toInt = 1 := (by decide); omega) own_d_jdk_52_method_21_code_31 32 rfl (own_G cv 1) (by rw [ev5]; simp [own_G]) (fun T6 h6 X6 e6 W6 => ?_)
          have N6 := own_fr1 (sl := ((1 : Int32)).toInt.toNat) N3 gb
          rw [show ((1 : Int32).toInt.toNat) = 1 from rfl] at W6
          replace Ab := Ab.set W6
          replace Ac := Ac.other W6 (own_ne ne)
          replace Kp := Kp.wr W6 (Or.inl (List.mem_singleton.mpr rfl))
          refine own_iinc X6 C own_d_jdk_52_method_21_code_32 35 rfl rfl (1) rfl (fun z => #[.val (.ref oa0), .val (.int z), .val (.ref oa2), .val (.int (1 : Int32)), .val (.int ia4), .val (.int (1 : Int32)), .val (.int (cv 1))]) (fun z => rfl) (fun v6 ev6 => ?_)
          obtain rfl : v6 = (2 : Int32) := ev6.trans (by decide)
          refine own_iinc X6 C own_d_jdk_52_method_21_code_35 38 rfl rfl (1) rfl (fun z => #[.val (.ref oa0), .val (.int (2 : Int32)), .val (.ref oa2), .val (.int z), .val (.int ia4), .val (.int (1 : Int32)), .val (.int (cv 1))]) (fun z => rfl) (fun v7 ev7 => ?_)
          obtain rfl : v7 = (2 : Int32) := ev7.trans (by decide)
          refine own_iinc X6 C own_d_jdk_52_method_21_code_38 41 rfl rfl (1) rfl (fun z => #[.val (.ref oa0), .val (.int (2 : Int32)), .val (.ref oa2), .val (.int (2 : Int32)), .val (.int ia4), .val (.int z), .val (.int (cv 1))]) (fun z => rfl) (fun v8 ev8 => ?_)
          obtain rfl : v8 = (2 : Int32) := ev8.trans (by decide)
          refine own_goto X6 C own_d_jdk_52_method_21_code_41 3 (by decide) (by decide) ?_
          refine own_iload X6 C own_d_jdk_52_method_21_code_3 5 rfl rfl ?_
          refine own_iload X6 C own_d_jdk_52_method_21_code_5 7 rfl rfl ?_
          refine own_icmpge X6 C own_d_jdk_52_method_21_code_7 10 44 rfl (by decide) (by decide) (i := 2) (by decide) (j := ia4.toInt) rfl (fun b7 => ?_) (fun b7 => ?_)
          · refine own_iload X6 C own_d_jdk_52_method_21_code_44 46 rfl rfl ?_
            refine own_ireturn X6 C rfl own_d_jdk_52_method_21_code_46 (by decide) (by decide) ?_
            rw [e6]
            refine ⟨rfl, N6, Kp, Ab.eqv fun i hi => ?_⟩
            have k : i = 0 ∨ i = 1 := by omega
            rcases k with rfl | rfl
            · rfl
            · first | rfl | (exfalso; omega)
          · exfalso
            omega
        · exfalso
          have q := hc 1 (by omega)
          omega
    · exfalso
      have q := hc 0 (by omega)
      omega
theorem own_pd_ACII_R_AB : parseMethodDescriptor "([CII)[B" = some ⟨[(.array .char), .int, .int], some (.array .byte)⟩ := by decide +kernel
theorem own_d_jdk_52_method_16_code_0 : decode jdk_52_method_16_code 0 = .ok (.iload_n 2, 1) := by decide +kernel
theorem own_d_jdk_52_method_16_code_1 : decode jdk_52_method_16_code 1 = .ok (.newarray .byte, 2) := by decide +kernel
theorem own_d_jdk_52_method_16_code_3 : decode jdk_52_method_16_code 3 = .ok (.astore_n 3, 1) := by decide +kernel
theorem own_d_jdk_52_method_16_code_4 : decode jdk_52_method_16_code 4 = .ok (.aload_n 0, 1) := by decide +kernel
theorem own_d_jdk_52_method_16_code_5 : decode jdk_52_method_16_code 5 = .ok (.iload_n 1, 1) := by decide +kernel
theorem own_d_jdk_52_method_16_code_6 : decode jdk_52_method_16_code 6 = .ok (.aload_n 3, 1) := by decide +kernel
theorem own_d_jdk_52_method_16_code_7 : decode jdk_52_method_16_code 7 = .ok (.iconst 0, 1) := by decide +kernel
theorem own_d_jdk_52_method_16_code_8 : decode jdk_52_method_16_code 8 = .ok (.iload_n 2, 1) := by decide +kernel
theorem own_d_jdk_52_method_16_code_9 : decode jdk_52_method_16_code 9 = .ok (.invokestatic 115, 3) := by decide +kernel
theorem own_d_jdk_52_method_16_code_12 : decode jdk_52_method_16_code 12 = .ok (.istore 4, 2) := by decide +kernel
theorem own_d_jdk_52_method_16_code_14 : decode jdk_52_method_16_code 14 = .ok (.iload 4, 2) := by decide +kernel
theorem own_d_jdk_52_method_16_code_16 : decode jdk_52_method_16_code 16 = .ok (.iload_n 2, 1) := by decide +kernel
theorem own_d_jdk_52_method_16_code_17 : decode jdk_52_method_16_code 17 = .ok (.if_icmp .eq 40, 3) := by decide +kernel
theorem own_d_jdk_52_method_16_code_57 : decode jdk_52_method_16_code 57 = .ok (.aload_n 3, 1) := by decide +kernel
theorem own_d_jdk_52_method_16_code_58 : decode jdk_52_method_16_code 58 = .ok (.areturn, 1) := by decide +kernel
set_option maxRecDepth 65536 in
set_option maxHeartbeats 4000000 in
theorem own_ef_own_rm_comp3 (m : MethodId) (oa0 : Nat) (ia2 : Int32) : entryFrame m #[(.ref oa0), (.int (0 : Int32)), (.int ia2)] 6 = (mkF m 0 #[.val (.ref oa0), .val (.int (0 : Int32)), .val (.int ia2), .unset, .unset, .unset] []) := by first | (simp [entryFrame, mkF, argsToLocals, Value.category]; done) | rfl
set_option maxRecDepth 65536 in
set_option maxHeartbeats 4000000 in
theorem own_rm_comp3 (l : Launch) (Z : State) (a0 : Array Value) (hw : ∀ d ∈ tables_1, d.before a0 Z = true) (oa0 : Nat) (ia2 : Int32) (h : Heap) (n0 : Nat) (Z0 : n0 ≤ h.size) (n : Nat) (cv : Nat → Int32) (Ac : OwnAr Z h oa0 .char n (fun i => .int (cv i))) (hn : n ≤ 2) (hc : ∀ i, i < n → 0 ≤ (cv i).toInt ∧ (cv i).toInt ≤ 255) (hn1 : 1 ≤ n) (hi : ia2.toInt = n) :
    OwnMet l Z (⟨"java/lang/StringUTF16", "compress", "([CII)[B"⟩ : MethodName) jdk_52_method_16_code 6 (some (.array .byte)) [] ({ frames := 1, cells := 1, slots := 2, locals := 20 } : Room) #[(.ref oa0), (.int (0 : Int32)), (.int ia2)] h (fun v h' L => ∃ b : Nat, v = some (.ref b) ∧ h.size ≤ b ∧ Fr n0 L ∧ Keep h h' [] ∧ OwnAr Z h' b .byte n (fun i => .int (own_G cv i))) := by
  refine own_enter (f0 := fun m => mkF m 0 #[.val (.ref oa0), .val (.int (0 : Int32)), .val (.int ia2), .unset, .unset, .unset] []) (plainFor_of_name own_pn_StringUTF16) (fun m => own_ef_own_rm_comp3 m oa0 ia2) ?_
  intro p e s m below meth c T0 X0 C e0
  refine own_iload_n X0 C own_d_jdk_52_method_16_code_0 1 rfl rfl ?_
  refine own_newarray X0 C (own_w hw 22 rfl) e0 own_d_jdk_52_method_16_code_1 3 rfl (by omega) 2 (by omega) (by decide) (by decide) (by decide) (fun T1 h1 b1 g1 X1 e1 E1 A1 => ?_)
  have hl : ia2.toInt.toNat = n := by omega
  have Ab : OwnAr Z h1 b1 .byte n (fun _ => .int (0 : Int32)) := by rw [← hl]; exact A1
  have gb : h.size ≤ b1 := Nat.le_of_eq g1.symm
  have u := own_arl Ac
  refine own_astore_n X1 C own_d_jdk_52_method_16_code_3 4 rfl rfl #[.val (.ref oa0), .val (.int (0 : Int32)), .val (.int ia2), .val (.ref b1), .unset, .unset] rfl ?_
  refine own_aload_n X1 C own_d_jdk_52_method_16_code_4 5 rfl rfl rfl ?_
  refine own_iload_n X1 C own_d_jdk_52_method_16_code_5 6 rfl rfl ?_
  refine own_aload_n X1 C own_d_jdk_52_method_16_code_6 7 rfl rfl rfl ?_
  refine own_iconst X1 C own_d_jdk_52_method_16_code_7 8 rfl (0) rfl ?_
  refine own_iload_n X1 C own_d_jdk_52_method_16_code_8 9 rfl rfl ?_
  refine own_callS X1 C (own_w hw 64 rfl) (own_w hw 65 rfl) (own_w hw 62 rfl) (own_w hw 66 rfl) (by decide) (own_rm_comp5 l Z a0 hw oa0 b1 ia2 h1 n0 (Nat.le_trans Z0 gb) n cv (Ac.ext E1) hn hc Ab hn1 hi (by omega)) e1 own_pd_ACIABII_R_I [(.ref oa0), (.int (0 : Int32)), (.ref b1), (.int (0 : Int32)), (.int ia2)] rfl rfl rfl rfl 0 rfl (by decide) (by decide) (by decide) (by decide) own_d_jdk_52_method_16_code_9 12 rfl (fun T2 L2 v2 X2 q2 => ?_)
  obtain ⟨rfl, NL2, K2, B2⟩ := q2
  have N2 := Fr.app (Fr.nil n0) NL2
  refine own_istore X2 C own_d_jdk_52_method_16_code_12 14 rfl #[.val (.ref oa0), .val (.int (0 : Int32)), .val (.int ia2), .val (.ref b1), .val (.int ia2), .unset] rfl ?_
  refine own_iload X2 C own_d_jdk_52_method_16_code_14 16 rfl rfl ?_
  refine own_iload_n X2 C own_d_jdk_52_method_16_code_16 17 rfl rfl ?_
  refine own_icmpeq X2 C own_d_jdk_52_method_16_code_17 20 57 rfl (by decide) (by decide) (i := ia2.toInt) rfl (j := ia2.toInt) rfl (fun b3 => ?_) (fun b3 => ?_)
  · refine own_aload_n X2 C own_d_jdk_52_method_16_code_57 58 rfl rfl rfl ?_
    refine own_areturn X2 C _ rfl rfl rfl rfl own_d_jdk_52_method_16_code_58 (by decide) (by decide) ?_
    exact ⟨_, rfl, gb, N2, ((Keep.refl h []).ext E1).trans K2 (allS (Or.inr gb) all0), B2⟩
  · exfalso
    omega
theorem own_pn_String : plainName "java/lang/String" = true := by first | (simp [plainName, overriddenIn]; done) | decide +kernel
theorem own_pd_ACIILjava_lang_Void__R_V : parseMethodDescriptor "([CIILjava/lang/Void;)V" = some ⟨[(.array .char), .int, .int, (.object "java/lang/Void")], none⟩ := by decide +kernel
theorem own_d_jdk_42_method_149_code_0 : decode jdk_42_method_149_code 0 = .ok (.aload_n 0, 1) := by decide +kernel
theorem own_d_jdk_42_method_149_code_1 : decode jdk_42_method_149_code 1 = .ok (.invokespecial 1, 3) := by decide +kernel
theorem own_d_jdk_42_method_149_code_4 : decode jdk_42_method_149_code 4 = .ok (.iload_n 3, 1) := by decide +kernel
theorem own_d_jdk_42_method_149_code_5 : decode jdk_42_method_149_code 5 = .ok (.ifCond .ne 22, 3) := by decide +kernel
theorem own_d_jdk_42_method_149_code_8 : decode jdk_42_method_149_code 8 = .ok (.aload_n 0, 1) := by decide +kernel
theorem own_d_jdk_42_method_149_code_9 : decode jdk_42_method_149_code 9 = .ok (.ldc 7, 2) := by decide +kernel
theorem own_d_jdk_42_method_149_code_11 : decode jdk_42_method_149_code 11 = .ok (.getfield 9, 3) := by decide +kernel
theorem own_d_jdk_42_method_149_code_14 : decode jdk_42_method_149_code 14 = .ok (.putfield 9, 3) := by decide +kernel
theorem own_d_jdk_42_method_149_code_17 : decode jdk_42_method_149_code 17 = .ok (.aload_n 0, 1) := by decide +kernel
theorem own_d_jdk_42_method_149_code_18 : decode jdk_42_method_149_code 18 = .ok (.ldc 7, 2) := by decide +kernel
theorem own_d_jdk_42_method_149_code_20 : decode jdk_42_method_149_code 20 = .ok (.getfield 15, 3) := by decide +kernel
theorem own_d_jdk_42_method_149_code_23 : decode jdk_42_method_149_code 23 = .ok (.putfield 15, 3) := by decide +kernel
theorem own_d_jdk_42_method_149_code_26 : decode jdk_42_method_149_code 26 = .ok (.return_, 1) := by decide +kernel
theorem own_d_jdk_42_method_149_code_27 : decode jdk_42_method_149_code 27 = .ok (.getstatic 38, 3) := by decide +kernel
theorem own_d_jdk_42_method_149_code_30 : decode jdk_42_method_149_code 30 = .ok (.ifCond .eq 28, 3) := by decide +kernel
theorem own_d_jdk_42_method_149_code_33 : decode jdk_42_method_149_code 33 = .ok (.aload_n 1, 1) := by decide +kernel
theorem own_d_jdk_42_method_149_code_34 : decode jdk_42_method_149_code 34 = .ok (.iload_n 2, 1) := by decide +kernel
theorem own_d_jdk_42_method_149_code_35 : decode jdk_42_method_149_code 35 = .ok (.iload_n 3, 1) := by decide +kernel
theorem own_d_jdk_42_method_149_code_36 : decode jdk_42_method_149_code 36 = .ok (.invokestatic 177, 3) := by decide +kernel
theorem own_d_jdk_42_method_149_code_39 : decode jdk_42_method_149_code 39 = .ok (.astore 5, 2) := by decide +kernel
theorem own_d_jdk_42_method_149_code_41 : decode jdk_42_method_149_code 41 = .ok (.aload_n 0, 1) := by decide +kernel
theorem own_d_jdk_42_method_149_code_42 : decode jdk_42_method_149_code 42 = .ok (.aload 5, 2) := by decide +kernel
theorem own_d_jdk_42_method_149_code_44 : decode jdk_42_method_149_code 44 = .ok (.iload_n 3, 1) := by decide +kernel
theorem own_d_jdk_42_method_149_code_45 : decode jdk_42_method_149_code 45 = .ok (.invokestatic 47, 3) := by decide +kernel
theorem own_d_jdk_42_method_149_code_48 : decode jdk_42_method_149_code 48 = .ok (.putfield 15, 3) := by decide +kernel
theorem own_d_jdk_42_method_149_code_51 : decode jdk_42_method_149_code 51 = .ok (.aload_n 0, 1) := by decide +kernel
theorem own_d_jdk_42_method_149_code_52 : decode jdk_42_method_149_code 52 = .ok (.aload 5, 2) := by decide +kernel
theorem own_d_jdk_42_method_149_code_54 : decode jdk_42_method_149_code 54 = .ok (.putfield 9, 3) := by decide +kernel
theorem own_d_jdk_42_method_149_code_57 : decode jdk_42_method_149_code 57 = .ok (.return_, 1) := by decide +kernel
set_option maxRecDepth 65536 in
set_option maxHeartbeats 4000000 in
theorem own_ef_own_rm_si2 (m : MethodId) (oa0 : Nat) (oa1 : Nat) (ia3 : Int32) : entryFrame m #[(.ref oa0), (.ref oa1), (.int (0 : Int32)), (.int ia3), .null] 6 = (mkF m 0 #[.val (.ref oa0), .val (.ref oa1), .val (.int (0 : Int32)), .val (.int ia3), .val .null, .unset] []) := by first | (simp [entryFrame, mkF, argsToLocals, Value.category]; done) | rfl
set_option maxRecDepth 65536 in
set_option maxHeartbeats 4000000 in
theorem own_rm_si2 (l : Launch) (Z : State) (a0 : Array Value) (hw : ∀ d ∈ tables_1, d.before a0 Z = true) (oa0 : Nat) (oa1 : Nat) (ia3 : Int32) (h : Heap) (n0 : Nat) (Z0 : n0 ≤ h.size) (go : n0 ≤ oa0) (Eo : Exa Z h oa0 "java/lang/String") (F_value : Fld Z h oa0 "java/lang/String" "value" "[B" .null) (F_coder : Fld Z h oa0 "java/lang/String" "coder" "B" (.int (0 : Int32))) (n : Nat) (cv : Nat → Int32) (Ac : OwnAr Z h oa1 .char n (fun i => .int (cv i))) (hn : n ≤ 2) (hc : ∀ i, i < n → 0 ≤ (cv i).toInt ∧ (cv i).toInt ≤ 255) (cs : Int32) (vF : Value) (J : OwnJ Z h cs vF) (hi : ia3.toInt = n) :
    OwnMetH l Z own_EL (⟨"java/lang/String", "<init>", "([CIILjava/lang/Void;)V"⟩ : MethodName) jdk_42_method_149_code 6 none [] ({ frames := 2, cells := 4, slots := 8, locals := 40 } : Room) #[(.ref oa0), (.ref oa1), (.int (0 : Int32)), (.int ia3), .null] h (fun v h' L => v = none ∧ Fr n0 L ∧ Keep h h' [oa0] ∧ ∃ b : Nat, OwnStr Z h' oa0 b n (own_G cv)) := by
  refine own_enterH (f0 := fun m => mkF m 0 #[.val (.ref oa0), .val (.ref oa1), .val (.int (0 : Int32)), .val (.int ia3), .val .null, .unset] []) (plainFor_of_name own_pn_String) (fun m => own_ef_own_rm_si2 m oa0 oa1 ia3) ?_
  intro p e s m below meth c T0 X0 C e0 hs0 HC hS
  have wS := own_wS hw
  have Kp := Keep.refl h [oa0]
  refine own_aload_n X0 C own_d_jdk_42_method_149_code_0 1 rfl rfl rfl ?_
  refine own_initO X0 C (own_w hw 18 rfl) (own_w hw 19 rfl) (own_w hw 20 rfl) e0 rfl own_d_jdk_42_method_149_code_1 4 rfl (by decide) 0 rfl (by decide) (fun T1 X1 e1 => ?_)
  refine own_iload_n X1 C own_d_jdk_42_method_149_code_4 5 rfl rfl ?_
  refine own_ifne X1 C own_d_jdk_42_method_149_code_5 8 27 rfl (by decide) (by decide) (i := ia3.toInt) rfl (fun b2 => ?_) (fun b2 => ?_)
  · refine own_getstatic X1 C (host := "") (Or.inl (own_w hw 55 rfl)) Via.refl e1 J.1 own_d_jdk_42_method_149_code_27 30 rfl (fun T3 X3 e3 => ?_)
    refine own_ifeq X3 C own_d_jdk_42_method_149_code_30 33 58 rfl (by decide) (by decide) (i := cs.toInt) rfl (fun b4 => ?_) (fun b4 => ?_)
    · exfalso
      exact J.2.1 b4
    · refine own_aload_n X3 C own_d_jdk_42_method_149_code_33 34 rfl rfl rfl ?_
      refine own_iload_n X3 C own_d_jdk_42_method_149_code_34 35 rfl rfl ?_
      refine own_iload_n X3 C own_d_jdk_42_method_149_code_35 36 rfl rfl ?_
      refine own_callS X3 C (own_w hw 60 rfl) (own_w hw 61 rfl) (own_w hw 62 rfl) (own_w hw 63 rfl) (by decide) (own_rm_comp3 l Z a0 hw oa1 ia3 h n0 Z0 n cv Ac hn hc (by omega) hi) e3 own_pd_ACII_R_AB [(.ref oa1), (.int (0 : Int32)), (.int ia3)] rfl rfl rfl rfl 0 rfl (by decide) (by decide) (by decide) (by decide) own_d_jdk_42_method_149_code_36 39 rfl (fun T5 L5 v5 X5 q5 => ?_)
      obtain ⟨b5, rfl, gb5, NL5, K5, As⟩ := q5
      have N5 := Fr.app (Fr.nil n0) NL5
      have u := own_exl Eo
      have nb : oa0 ≠ b5 := by omega
      replace HC := HC.trans (CHr.keep K5 sf0 HC.1)
      replace Eo := Eo.keep K5
      replace F_value := F_value.keep K5 nin0
      replace F_coder := F_coder.keep K5 nin0
      replace Kp := Kp.trans K5 all0
      refine own_astore X5 C own_d_jdk_42_method_149_code_39 41 rfl rfl #[.val (.ref oa0), .val (.ref oa1), .val (.int (0 : Int32)), .val (.int ia3), .val .null, .val (.ref b5)] rfl ?_
      refine own_aload_n X5 C own_d_jdk_42_method_149_code_41 42 rfl rfl rfl ?_
      refine own_aload X5 C own_d_jdk_42_method_149_code_42 44 rfl rfl rfl ?_
      refine own_iload_n X5 C own_d_jdk_42_method_149_code_44 45 rfl rfl ?_
      refine own_callP X5 C (own_w hw 67 rfl) (own_w hw 68 rfl) (own_w hw 62 rfl) (own_w hw 69 rfl) (by decide) (own_rm_coderFrom l Z a0 hw b5 ia3 T5.heap n _ As hn hi) rfl own_pd_ABI_R_B [(.ref b5), (.int ia3)] rfl rfl rfl rfl 1 rfl (by decide) (by decide) rfl rfl (by decide) (by decide) own_d_jdk_42_method_149_code_45 48 rfl (fun T6 X6 e6 => ?_)
      have Sf : Safe Z own_EL _ T5.heap oa0 := own_safe_null C.2.1.alike Eo F_value
      refine own_putfield X6 C (host := "") (Or.inl (own_w hw 28 rfl)) Via.refl e6 F_coder Eo (Or.inr ⟨(own_w hw 24 rfl), rfl, rfl⟩) (own_w hw 8 rfl) (ty := .byte) (by decide) rfl rfl own_d_jdk_42_method_149_code_48 51 rfl (fun T7 h7 X7 e7 W7 => ?_)
      have N7 := own_fr1 (sl := Jvm.RoadKit.slotOf Z "java/lang/String" "coder" "B") N5 go
      have Sw := Safe.wr W7 Sf HC.1 Sf
      replace HC := HC.trans (CHr.wr W7 Sf HC.1)
      replace Sf := Sw
      clear Sw
      replace Eo := Eo.wr W7
      replace F_coder := F_coder.same W7
      replace F_value := F_value.other W7 (Or.inr (slot_ne (Or.inr (own_w hw 23 rfl)) (Or.inr (own_w hw 24 rfl)) (by decide) (t := (.array .byte)) (t' := .byte) (by decide) (by decide)))
      replace Kp := Kp.wr W7 (Or.inl (List.mem_singleton.mpr rfl))
      have z7 := W7.size
      replace As := As.other W7 (own_ne (Ne.symm nb))
      refine own_aload_n X7 C own_d_jdk_42_method_149_code_51 52 rfl rfl rfl ?_
      refine own_aload X7 C own_d_jdk_42_method_149_code_52 54 rfl rfl rfl ?_
      refine own_putfield X7 C (host := "") (Or.inl (own_w hw 27 rfl)) Via.refl e7 F_value Eo (Or.inr ⟨(own_w hw 23 rfl), rfl, rfl⟩) (own_w hw 8 rfl) (ty := (.array .byte)) (by decide) rfl rfl own_d_jdk_42_method_149_code_54 57 rfl (fun T8 h8 X8 e8 W8 => ?_)
      have N8 := own_fr1 (sl := Jvm.RoadKit.slotOf Z "java/lang/String" "value" "[B") N7 go
      have Sw := Safe.wr W8 Sf HC.1 Sf
      replace HC := HC.trans (CHr.wr W8 Sf HC.1)
      replace Sf := Sw
      clear Sw
      replace Eo := Eo.wr W8
      replace F_value := F_value.same W8
      replace F_coder := F_coder.other W8 (Or.inr (slot_ne (Or.inr (own_w hw 24 rfl)) (Or.inr (own_w hw 23 rfl)) (by decide) (t := .byte) (t' := (.array .byte)) (by decide) (by decide)))
      replace Kp := Kp.wr W8 (Or.inl (List.mem_singleton.mpr rfl))
      have z8 := W8.size
      replace As := As.other W8 (own_ne (Ne.symm nb))
      refine own_returnH X8 C hS (Nat.zero_le _) (own_hEL hw) e8 HC rfl own_d_jdk_42_method_149_code_57 (by decide) (by decide) ?_
      rw [e8]
      exact ⟨rfl, N8, Kp, _, Eo, F_value, F_coder, As, by omega⟩
  · refine own_aload_n X1 C own_d_jdk_42_method_149_code_8 9 rfl rfl rfl ?_
    refine own_ldcCH X1 C (own_w hw 21 rfl) wS e1 hS (Nat.zero_le _) (own_hEL hw) own_mem HC.1 (vs := []) (z := 0) ⟨by decide, by decide⟩ (by decide) (by decide) own_d_jdk_42_method_149_code_9 11 rfl 0 (by decide) (by decide) (by decide) (by decide) (fun a9 d9 T9 h9 k9 X9 C e9 E9 hS9 hk9 Es9 Fc9 Fv9 As9 H9 ns9 => ?_)
    rw [e9] at hk9
    have z9 := E9.1
    replace HC := HC.trans H9
    replace Eo := Eo.ext E9
    replace F_value := F_value.ext E9
    replace F_coder := F_coder.ext E9
    replace Kp := Kp.ext E9
    have Sf : Safe Z own_EL T9.vm h9 oa0 := own_safe_null C.2.1.alike Eo F_value
    obtain ⟨na, nb⟩ := ns9 oa0 Sf
    have As := As9
    refine own_getfield X9 C (host := "") (Or.inl (own_w hw 27 rfl)) Via.refl e9 Fv9 own_d_jdk_42_method_149_code_11 14 rfl (fun T10 X10 e10 => ?_)
    refine own_putfield X10 C (host := "") (Or.inl (own_w hw 27 rfl)) Via.refl e10 F_value Eo (Or.inr ⟨(own_w hw 23 rfl), rfl, rfl⟩) (own_w hw 8 rfl) (ty := (.array .byte)) (by decide) rfl rfl own_d_jdk_42_method_149_code_14 17 rfl (fun T11 h11 X11 e11 W11 => ?_)
    have N11 := own_fr1 (sl := Jvm.RoadKit.slotOf Z "java/lang/String" "value" "[B") (Fr.nil n0) go
    have Sw := Safe.wr W11 Sf HC.1 Sf
    replace HC := HC.trans (CHr.wr W11 Sf HC.1)
    replace Sf := Sw
    clear Sw
    replace Eo := Eo.wr W11
    replace F_value := F_value.same W11
    replace F_coder := F_coder.other W11 (Or.inr (slot_ne (Or.inr (own_w hw 24 rfl)) (Or.inr (own_w hw 23 rfl)) (by decide) (t := .byte) (t' := (.array .byte)) (by decide) (by decide)))
    replace Kp := Kp.wr W11 (Or.inl (List.mem_singleton.mpr rfl))
    have z11 := W11.size
    replace As := As.other W11 (own_ne (Ne.symm nb))
    refine own_aload_n X11 C own_d_jdk_42_method_149_code_17 18 rfl rfl rfl ?_
    refine own_ldcCH X11 C (own_w hw 21 rfl) wS e11 hS9 (by first | exact Nat.le_refl _ | omega | (rw [e11]; omega)) (own_hEL hw) own_mem HC.1 (vs := []) (z := 0) ⟨by decide, by decide⟩ (by decide) (by decide) own_d_jdk_42_method_149_code_18 20 rfl 0 (by decide) (by decide) (by decide) (by decide) (fun a12 d12 T12 h12 k12 X12 C e12 E12 hS12 hk12 Es12 Fc12 Fv12 As12 H12 ns12 => ?_)
    rw [e12] at hk12
    have z12 := E12.1
    replace Sf := H12.safe (own_exl Eo) Sf
    replace As := As.ext E12
    replace HC := HC.trans H12
    replace Eo := Eo.ext E12
    replace F_value := F_value.ext E12
    replace F_coder := F_coder.ext E12
    replace Kp := Kp.ext E12
    refine own_getfield X12 C (host := "") (Or.inl (own_w hw 28 rfl)) Via.refl e12 Fc12 own_d_jdk_42_method_149_code_20 23 rfl (fun T13 X13 e13 => ?_)
    refine own_putfield X13 C (host := "") (Or.inl (own_w hw 28 rfl)) Via.refl e13 F_coder Eo (Or.inr ⟨(own_w hw 24 rfl), rfl, rfl⟩) (own_w hw 8 rfl) (ty := .byte) (by decide) rfl rfl own_d_jdk_42_method_149_code_23 26 rfl (fun T14 h14 X14 e14 W14 => ?_)
    have N14 := own_fr1 (sl := Jvm.RoadKit.slotOf Z "java/lang/String" "coder" "B") N11 go
    have Sw := Safe.wr W14 Sf HC.1 Sf
    replace HC := HC.trans (CHr.wr W14 Sf HC.1)
    replace Sf := Sw
    clear Sw
    replace Eo := Eo.wr W14
    replace F_coder := F_coder.same W14
    replace F_value := F_value.other W14 (Or.inr (slot_ne (Or.inr (own_w hw 23 rfl)) (Or.inr (own_w hw 24 rfl)) (by decide) (t := (.array .byte)) (t' := .byte) (by decide) (by decide)))
    replace Kp := Kp.wr W14 (Or.inl (List.mem_singleton.mpr rfl))
    have z14 := W14.size
    replace As := As.other W14 (own_ne (Ne.symm nb))
    refine own_returnH X14 C hS12 (by first | exact Nat.le_refl _ | omega | (rw [e14]; omega)) (own_hEL hw) e14 HC rfl own_d_jdk_42_method_149_code_26 (by decide) (by decide) ?_
    have hz : n = 0 := by omega
    rw [e14]
    exact ⟨rfl, N14, Kp, _, Eo, F_value, F_coder, (by rw [hz]; exact As.eqv fun i hi => absurd hi (Nat.not_lt_zero i)), by omega⟩
theorem own_pd_AC_R_V : parseMethodDescriptor "([C)V" = some ⟨[(.array .char)], none⟩ := by decide +kernel
theorem own_d_jdk_42_method_3_code_0 : decode jdk_42_method_3_code 0 = .ok (.aload_n 0, 1) := by decide +kernel
theorem own_d_jdk_42_method_3_code_1 : decode jdk_42_method_3_code 1 = .ok (.aload_n 1, 1) := by decide +kernel
theorem own_d_jdk_42_method_3_code_2 : decode jdk_42_method_3_code 2 = .ok (.iconst 0, 1) := by decide +kernel
theorem own_d_jdk_42_method_3_code_3 : decode jdk_42_method_3_code 3 = .ok (.aload_n 1, 1) := by decide +kernel
theorem own_d_jdk_42_method_3_code_4 : decode jdk_42_method_3_code 4 = .ok (.arraylength, 1) := by decide +kernel
theorem own_d_jdk_42_method_3_code_5 : decode jdk_42_method_3_code 5 = .ok (.aconst_null, 1) := by decide +kernel
theorem own_d_jdk_42_method_3_code_6 : decode jdk_42_method_3_code 6 = .ok (.invokespecial 27, 3) := by decide +kernel
theorem own_d_jdk_42_method_3_code_9 : decode jdk_42_method_3_code 9 = .ok (.return_, 1) := by decide +kernel
set_option maxRecDepth 65536 in
set_option maxHeartbeats 4000000 in
theorem own_ef_own_rm_si1 (m : MethodId) (oa0 : Nat) (oa1 : Nat) : entryFrame m #[(.ref oa0), (.ref oa1)] 2 = (mkF m 0 #[.val (.ref oa0), .val (.ref oa1)] []) := by first | (simp [entryFrame, mkF, argsToLocals, Value.category]; done) | rfl
set_option maxRecDepth 65536 in
set_option maxHeartbeats 4000000 in
theorem own_rm_si1 (l : Launch) (Z : State) (a0 : Array Value) (hw : ∀ d ∈ tables_1, d.before a0 Z = true) (oa0 : Nat) (oa1 : Nat) (h : Heap) (n0 : Nat) (Z0 : n0 ≤ h.size) (go : n0 ≤ oa0) (Eo : Exa Z h oa0 "java/lang/String") (F_value : Fld Z h oa0 "java/lang/String" "value" "[B" .null) (F_coder : Fld Z h oa0 "java/lang/String" "coder" "B" (.int (0 : Int32))) (n : Nat) (cv : Nat → Int32) (Ac : OwnAr Z h oa1 .char n (fun i => .int (cv i))) (hn : n ≤ 2) (hc : ∀ i, i < n → 0 ≤ (cv i).toInt ∧ (cv i).toInt ≤ 255) (cs : Int32) (vF : Value) (J : OwnJ Z h cs vF) :
    OwnMetH l Z own_EL (⟨"java/lang/String", "<init>", "([C)V"⟩ : MethodName) jdk_42_method_3_code 2 none [] ({ frames := 3, cells := 4, slots := 8, locals := 60 } : Room) #[(.ref oa0), (.ref oa1)] h (fun v h' L => v = none ∧ Fr n0 L ∧ Keep h h' [oa0] ∧ ∃ b : Nat, OwnStr Z h' oa0 b n (own_G cv)) := by
  refine own_enterH (f0 := fun m => mkF m 0 #[.val (.ref oa0), .val (.ref oa1)] []) (plainFor_of_name own_pn_String) (fun m => own_ef_own_rm_si1 m oa0 oa1) ?_
  intro p e s m below meth c T0 X0 C e0 hs0 HC hS
  refine own_aload_n X0 C own_d_jdk_42_method_3_code_0 1 rfl rfl rfl ?_
  refine own_aload_n X0 C own_d_jdk_42_method_3_code_1 2 rfl rfl rfl ?_
  refine own_iconst X0 C own_d_jdk_42_method_3_code_2 3 rfl (0) rfl ?_
  refine own_aload_n X0 C own_d_jdk_42_method_3_code_3 4 rfl rfl rfl ?_
  refine own_arraylength X0 C e0 Ac own_d_jdk_42_method_3_code_4 5 rfl (by omega) (fun v1 ev1 fv1 => ?_)
  refine own_aconst_null X0 C own_d_jdk_42_method_3_code_5 6 rfl ?_
  refine own_callIH X0 C rfl (own_w hw 14 rfl) (own_w hw 15 rfl) (own_w hw 9 rfl) (own_w hw 17 rfl) rfl (by decide) (own_rm_si2 l Z a0 hw oa0 oa1 v1 h n0 Z0 go Eo F_value F_coder n cv Ac hn hc cs vF J ev1) e0 hS (Nat.zero_le _) (own_hEL hw) HC.1 own_pd_ACIILjava_lang_Void__R_V [(.ref oa1), (.int (0 : Int32)), (.int v1), .null] rfl rfl rfl rfl 0 rfl (by decide) (by decide) (by decide) (by decide) own_d_jdk_42_method_3_code_6 9 rfl (fun T1 L1 v1 X1 C hS1 H1 q1 => ?_)
  obtain ⟨rfl, NL1, K1, I1⟩ := q1
  replace HC := HC.trans H1
  have N1 := Fr.app (Fr.nil n0) NL1
  refine own_returnH X1 C hS1 (by first | exact Nat.le_refl _ | omega | (rw [rfl]; omega)) (own_hEL hw) rfl HC rfl own_d_jdk_42_method_3_code_9 (by decide) (by decide) ?_
  exact ⟨rfl, N1, K1, I1⟩
theorem own_pn_EdgeSameLabelPinLaw : plainName "com/example/subsumer/subsumer/EdgeSameLabelPinLaw" = true := by first | (simp [plainName, overriddenIn]; done) | decide +kernel
theorem own_pd_ICC_R_Ljava_lang_String_ : parseMethodDescriptor "(ICC)Ljava/lang/String;" = some ⟨[.int, .char, .char], some (.object "java/lang/String")⟩ := by decide +kernel
theorem own_d_method_2_code_0 : decode method_2_code 0 = .ok (.iload_n 0, 1) := by decide +kernel
theorem own_d_method_2_code_1 : decode method_2_code 1 = .ok (.ifCond .ne 14, 3) := by decide +kernel
theorem own_d_method_2_code_4 : decode method_2_code 4 = .ok (.new 7, 3) := by decide +kernel
theorem own_d_method_2_code_7 : decode method_2_code 7 = .ok (.dup, 1) := by decide +kernel
theorem own_d_method_2_code_8 : decode method_2_code 8 = .ok (.iconst 0, 1) := by decide +kernel
theorem own_d_method_2_code_9 : decode method_2_code 9 = .ok (.newarray .char, 2) := by decide +kernel
theorem own_d_method_2_code_11 : decode method_2_code 11 = .ok (.invokespecial 9, 3) := by decide +kernel
theorem own_d_method_2_code_14 : decode method_2_code 14 = .ok (.areturn, 1) := by decide +kernel
theorem own_d_method_2_code_15 : decode method_2_code 15 = .ok (.iload_n 0, 1) := by decide +kernel
theorem own_d_method_2_code_16 : decode method_2_code 16 = .ok (.iconst 1, 1) := by decide +kernel
theorem own_d_method_2_code_17 : decode method_2_code 17 = .ok (.if_icmp .ne 20, 3) := by decide +kernel
theorem own_d_method_2_code_20 : decode method_2_code 20 = .ok (.iconst 1, 1) := by decide +kernel
theorem own_d_method_2_code_21 : decode method_2_code 21 = .ok (.newarray .char, 2) := by decide +kernel
theorem own_d_method_2_code_23 : decode method_2_code 23 = .ok (.astore_n 3, 1) := by decide +kernel
theorem own_d_method_2_code_24 : decode method_2_code 24 = .ok (.aload_n 3, 1) := by decide +kernel
theorem own_d_method_2_code_25 : decode method_2_code 25 = .ok (.iconst 0, 1) := by decide +kernel
theorem own_d_method_2_code_26 : decode method_2_code 26 = .ok (.iload_n 1, 1) := by decide +kernel
theorem own_d_method_2_code_27 : decode method_2_code 27 = .ok (.castore, 1) := by decide +kernel
theorem own_d_method_2_code_28 : decode method_2_code 28 = .ok (.new 7, 3) := by decide +kernel
theorem own_d_method_2_code_31 : decode method_2_code 31 = .ok (.dup, 1) := by decide +kernel
theorem own_d_method_2_code_32 : decode method_2_code 32 = .ok (.aload_n 3, 1) := by decide +kernel
theorem own_d_method_2_code_33 : decode method_2_code 33 = .ok (.invokespecial 9, 3) := by decide +kernel
theorem own_d_method_2_code_36 : decode method_2_code 36 = .ok (.areturn, 1) := by decide +kernel
theorem own_d_method_2_code_37 : decode method_2_code 37 = .ok (.iconst 2, 1) := by decide +kernel
theorem own_d_method_2_code_38 : decode method_2_code 38 = .ok (.newarray .char, 2) := by decide +kernel
theorem own_d_method_2_code_40 : decode method_2_code 40 = .ok (.astore_n 3, 1) := by decide +kernel
theorem own_d_method_2_code_41 : decode method_2_code 41 = .ok (.aload_n 3, 1) := by decide +kernel
theorem own_d_method_2_code_42 : decode method_2_code 42 = .ok (.iconst 0, 1) := by decide +kernel
theorem own_d_method_2_code_43 : decode method_2_code 43 = .ok (.iload_n 1, 1) := by decide +kernel
theorem own_d_method_2_code_44 : decode method_2_code 44 = .ok (.castore, 1) := by decide +kernel
theorem own_d_method_2_code_45 : decode method_2_code 45 = .ok (.aload_n 3, 1) := by decide +kernel
theorem own_d_method_2_code_46 : decode method_2_code 46 = .ok (.iconst 1, 1) := by decide +kernel
theorem own_d_method_2_code_47 : decode method_2_code 47 = .ok (.iload_n 2, 1) := by decide +kernel
theorem own_d_method_2_code_48 : decode method_2_code 48 = .ok (.castore, 1) := by decide +kernel
theorem own_d_method_2_code_49 : decode method_2_code 49 = .ok (.new 7, 3) := by decide +kernel
theorem own_d_method_2_code_52 : decode method_2_code 52 = .ok (.dup, 1) := by decide +kernel
theorem own_d_method_2_code_53 : decode method_2_code 53 = .ok (.aload_n 3, 1) := by decide +kernel
theorem own_d_method_2_code_54 : decode method_2_code 54 = .ok (.invokespecial 9, 3) := by decide +kernel
theorem own_d_method_2_code_57 : decode method_2_code 57 = .ok (.areturn, 1) := by decide +kernel
set_option maxRecDepth 65536 in
set_option maxHeartbeats 4000000 in
theorem own_ef_own_rm_role (m : MethodId) (ia0 : Int32) (ia1 : Int32) (ia2 : Int32) : entryFrame m #[(.int ia0), (.int ia1), (.int ia2)] 4 = (mkF m 0 #[.val (.int ia0), .val (.int ia1), .val (.int ia2), .unset] []) := by first | (simp [entryFrame, mkF, argsToLocals, Value.category]; done) | rfl
set_option maxRecDepth 65536 in
set_option maxHeartbeats 4000000 in
theorem own_rm_role (l : Launch) (Z : State) (a0 : Array Value) (hw : ∀ d ∈ tables_1, d.before a0 Z = true) (ia0 : Int32) (ia1 : Int32) (ia2 : Int32) (h : Heap) (n0 : Nat) (Z0 : n0 ≤ h.size) (hl : 0 ≤ ia0.toInt ∧ ia0.toInt ≤ 2) (h1 : 0 ≤ ia1.toInt ∧ ia1.toInt ≤ 255) (h2 : 0 ≤ ia2.toInt ∧ ia2.toInt ≤ 255) (cs : Int32) (vF : Value) (J : OwnJ Z h cs vF) :
    OwnMetH l Z own_EL (⟨"com/example/subsumer/subsumer/EdgeSameLabelPinLaw", "role", "(ICC)Ljava/lang/String;"⟩ : MethodName) method_2_code 4 (some (.object "java/lang/String")) [] ({ frames := 4, cells := 6, slots := 14, locals := 80 } : Room) #[(.int ia0), (.int ia1), (.int ia2)] h (fun v h' L => ∃ o d : Nat, v = some (.ref o) ∧ h.size ≤ o ∧ Fr n0 L ∧ Keep h h' [] ∧ OwnStr Z h' o d ia0.toInt.toNat (own_G (own_cv ia1 ia2))) := by
  refine own_enterH (f0 := fun m => mkF m 0 #[.val (.int ia0), .val (.int ia1), .val (.int ia2), .unset] []) (plainFor_of_name own_pn_EdgeSameLabelPinLaw) (fun m => own_ef_own_rm_role m ia0 ia1 ia2) ?_
  intro p e s m below meth c T0 X0 C e0 hs0 HC hS
  have Kp := Keep.refl h []
  refine own_iload_n X0 C own_d_method_2_code_0 1 rfl rfl ?_
  refine own_ifne X0 C own_d_method_2_code_1 4 15 rfl (by decide) (by decide) (i := ia0.toInt) rfl (fun b1 => ?_) (fun b1 => ?_)
  · refine own_iload_n X0 C own_d_method_2_code_15 16 rfl rfl ?_
    refine own_iconst X0 C own_d_method_2_code_16 17 rfl (1) rfl ?_
    refine own_icmpne X0 C own_d_method_2_code_17 20 37 rfl (by decide) (by decide) (i := ia0.toInt) rfl (j := 1) (by decide) (fun b2 => ?_) (fun b2 => ?_)
    · refine own_iconst X0 C own_d_method_2_code_37 38 rfl (2) rfl ?_
      refine own_newarray X0 C (own_w hw 10 rfl) e0 own_d_method_2_code_38 40 rfl (by decide) 2 (by decide) (by decide) (by decide) (by decide) (fun T3 h3 b3 g3 X3 e3 E3 A3 => ?_)
      have A : OwnAr Z h3 b3 .char 2 (fun _ => .int (0 : Int32)) := A3
      have z3 := E3.1
      have ga : h.size ≤ b3 := by omega
      replace HC := HC.trans (CHr.ext E3 HC.1)
      replace J := J.ext E3
      replace Kp := Kp.ext E3
      refine own_astore_n X3 C own_d_method_2_code_40 41 rfl rfl #[.val (.int ia0), .val (.int ia1), .val (.int ia2), .val (.ref b3)] rfl ?_
      refine own_aload_n X3 C own_d_method_2_code_41 42 rfl rfl rfl ?_
      refine own_iconst X3 C own_d_method_2_code_42 43 rfl (0) rfl ?_
      refine own_iload_n X3 C own_d_method_2_code_43 44 rfl rfl ?_
      refine own_castore X3 C e3 A (by decide) (by decide) own_d_method_2_code_44 45 rfl ia1 (own_narC (by omega) (by omega)) (fun T4 h4 X4 e4 W4 => ?_)
      have N4 := own_fr1 (sl := ((0 : Int32)).toInt.toNat) (Fr.nil n0) (Nat.le_trans Z0 ga)
      rw [show ((0 : Int32).toInt.toNat) = 0 from rfl] at W4
      replace HC := HC.trans (CHr.wr W4 (own_safe_ar C.2.1.alike A (by decide)) HC.1)
      replace A := A.set W4
      replace Kp := Kp.wr W4 (Or.inr ga)
      have z4 := W4.size
      replace J := J.wr W4
      refine own_aload_n X4 C own_d_method_2_code_45 46 rfl rfl rfl ?_
      refine own_iconst X4 C own_d_method_2_code_46 47 rfl (1) rfl ?_
      refine own_iload_n X4 C own_d_method_2_code_47 48 rfl rfl ?_
      refine own_castore X4 C e4 A (by decide) (by decide) own_d_method_2_code_48 49 rfl ia2 (own_narC (by omega) (by omega)) (fun T5 h5 X5 e5 W5 => ?_)
      have N5 := own_fr1 (sl := ((1 : Int32)).toInt.toNat) N4 (Nat.le_trans Z0 ga)
      rw [show ((1 : Int32).toInt.toNat) = 1 from rfl] at W5
      replace HC := HC.trans (CHr.wr W5 (own_safe_ar C.2.1.alike A (by decide)) HC.1)
      replace A := A.set W5
      replace Kp := Kp.wr W5 (Or.inr ga)
      have z5 := W5.size
      replace J := J.wr W5
      refine own_new X5 C (own_w hw 7 rfl) (own_w hw 8 rfl) (own_w hw 9 rfl) e5 own_d_method_2_code_49 52 rfl (by decide) (by decide) (fun T6 h6 b6 g6 X6 e6 E6 A6 D6 => ?_)
      have Fv : Fld Z h6 b6 "java/lang/String" "value" "[B" .null := D6 (Or.inr (own_w hw 23 rfl)) (ty := (.array .byte)) (by decide)
      have Fc : Fld Z h6 b6 "java/lang/String" "coder" "B" (.int (0 : Int32)) := D6 (Or.inr (own_w hw 24 rfl)) (ty := .byte) (by decide)
      have Eo := A6
      have z6 := E6.1
      have go : h.size ≤ b6 := by omega
      replace HC := HC.trans (CHr.ext E6 HC.1)
      replace J := J.ext E6
      replace Kp := Kp.ext E6
      replace A := A.ext E6
      refine own_dup X6 C own_d_method_2_code_52 53 rfl rfl ?_
      refine own_aload_n X6 C own_d_method_2_code_53 54 rfl rfl rfl ?_
      have Ac : OwnAr Z h6 b3 .char 2 (fun i => .int (own_cv ia1 ia2 i)) := A.eqv fun i hi => by
        have q : i = 0 ∨ i = 1 := by omega
        rcases q with rfl | rfl <;> first | rfl | (exfalso; omega)
      refine own_callIH X6 C rfl (own_w hw 11 rfl) (own_w hw 12 rfl) (own_w hw 9 rfl) (own_w hw 13 rfl) rfl (by decide) (own_rm_si1 l Z a0 hw b6 b3 h6 n0 (by omega) (by omega) Eo Fv Fc 2 (own_cv ia1 ia2) Ac (by decide) (fun i _ => own_cvr h1 h2 i) cs vF J) e6 hS (Nat.zero_le _) (own_hEL hw) HC.1 own_pd_AC_R_V [(.ref b3)] rfl rfl rfl rfl 1 rfl (by decide) (by decide) (by decide) (by decide) own_d_method_2_code_54 57 rfl (fun T7 L7 v7 X7 C hS7 H7 q7 => ?_)
      obtain ⟨rfl, NL7, K7, d7, I7⟩ := q7
      replace HC := HC.trans H7
      have N7 := Fr.app N5 NL7
      refine own_areturnH X7 C hS7 (by first | exact Nat.le_refl _ | omega | (rw [rfl]; omega)) (own_hEL hw) rfl HC _ rfl rfl rfl rfl own_d_method_2_code_57 (by decide) (by decide) ?_
      have hk : ia0.toInt.toNat = 2 := by omega
      rw [hk]
      exact ⟨_, d7, rfl, go, N7, Kp.trans K7 (allS (Or.inr go) all0), I7⟩
    · refine own_iconst X0 C own_d_method_2_code_20 21 rfl (1) rfl ?_
      refine own_newarray X0 C (own_w hw 10 rfl) e0 own_d_method_2_code_21 23 rfl (by decide) 1 (by decide) (by decide) (by decide) (by decide) (fun T8 h8 b8 g8 X8 e8 E8 A8 => ?_)
      have A : OwnAr Z h8 b8 .char 1 (fun _ => .int (0 : Int32)) := A8
      have z8 := E8.1
      have ga : h.size ≤ b8 := by omega
      replace HC := HC.trans (CHr.ext E8 HC.1)
      replace J := J.ext E8
      replace Kp := Kp.ext E8
      refine own_astore_n X8 C own_d_method_2_code_23 24 rfl rfl #[.val (.int ia0), .val (.int ia1), .val (.int ia2), .val (.ref b8)] rfl ?_
      refine own_aload_n X8 C own_d_method_2_code_24 25 rfl rfl rfl ?_
      refine own_iconst X8 C own_d_method_2_code_25 26 rfl (0) rfl ?_
      refine own_iload_n X8 C own_d_method_2_code_26 27 rfl rfl ?_
      refine own_castore X8 C e8 A (by decide) (by decide) own_d_method_2_code_27 28 rfl ia1 (own_narC (by omega) (by omega)) (fun T9 h9 X9 e9 W9 => ?_)
      have N9 := own_fr1 (sl := ((0 : Int32)).toInt.toNat) (Fr.nil n0) (Nat.le_trans Z0 ga)
      rw [show ((0 : Int32).toInt.toNat) = 0 from rfl] at W9
      replace HC := HC.trans (CHr.wr W9 (own_safe_ar C.2.1.alike A (by decide)) HC.1)
      replace A := A.set W9
      replace Kp := Kp.wr W9 (Or.inr ga)
      have z9 := W9.size
      replace J := J.wr W9
      refine own_new X9 C (own_w hw 7 rfl) (own_w hw 8 rfl) (own_w hw 9 rfl) e9 own_d_method_2_code_28 31 rfl (by decide) (by decide) (fun T10 h10 b10 g10 X10 e10 E10 A10 D10 => ?_)
      have Fv : Fld Z h10 b10 "java/lang/String" "value" "[B" .null := D10 (Or.inr (own_w hw 23 rfl)) (ty := (.array .byte)) (by decide)
      have Fc : Fld Z h10 b10 "java/lang/String" "coder" "B" (.int (0 : Int32)) := D10 (Or.inr (own_w hw 24 rfl)) (ty := .byte) (by decide)
      have Eo := A10
      have z10 := E10.1
      have go : h.size ≤ b10 := by omega
      replace HC := HC.trans (CHr.ext E10 HC.1)
      replace J := J.ext E10
      replace Kp := Kp.ext E10
      replace A := A.ext E10
      refine own_dup X10 C own_d_method_2_code_31 32 rfl rfl ?_
      refine own_aload_n X10 C own_d_method_2_code_32 33 rfl rfl rfl ?_
      have Ac : OwnAr Z h10 b8 .char 1 (fun i => .int (own_cv ia1 ia2 i)) := A.eqv fun i hi => by
        have q : i = 0 ∨ i = 1 := by omega
        rcases q with rfl | rfl <;> first | rfl | (exfalso; omega)
      refine own_callIH X10 C rfl (own_w hw 11 rfl) (own_w hw 12 rfl) (own_w hw 9 rfl) (own_w hw 13 rfl) rfl (by decide) (own_rm_si1 l Z a0 hw b10 b8 h10 n0 (by omega) (by omega) Eo Fv Fc 1 (own_cv ia1 ia2) Ac (by decide) (fun i _ => own_cvr h1 h2 i) cs vF J) e10 hS (Nat.zero_le _) (own_hEL hw) HC.1 own_pd_AC_R_V [(.ref b8)] rfl rfl rfl rfl 1 rfl (by decide) (by decide) (by decide) (by decide) own_d_method_2_code_33 36 rfl (fun T11 L11 v11 X11 C hS11 H11 q11 => ?_)
      obtain ⟨rfl, NL11, K11, d11, I11⟩ := q11
      replace HC := HC.trans H11
      have N11 := Fr.app N9 NL11
      refine own_areturnH X11 C hS11 (by first | exact Nat.le_refl _ | omega | (rw [rfl]; omega)) (own_hEL hw) rfl HC _ rfl rfl rfl rfl own_d_method_2_code_36 (by decide) (by decide) ?_
      have hk : ia0.toInt.toNat = 1 := by omega
      rw [hk]
      exact ⟨_, d11, rfl, go, N11, Kp.trans K11 (allS (Or.inr go) all0), I11⟩
  · refine own_new X0 C (own_w hw 7 rfl) (own_w hw 8 rfl) (own_w hw 9 rfl) e0 own_d_method_2_code_4 7 rfl (by decide) (by decide) (fun T12 h12 b12 g12 X12 e12 E12 A12 D12 => ?_)
    have Fv : Fld Z h12 b12 "java/lang/String" "value" "[B" .null := D12 (Or.inr (own_w hw 23 rfl)) (ty := (.array .byte)) (by decide)
    have Fc : Fld Z h12 b12 "java/lang/String" "coder" "B" (.int (0 : Int32)) := D12 (Or.inr (own_w hw 24 rfl)) (ty := .byte) (by decide)
    have Eo := A12
    have z12 := E12.1
    have go : h.size ≤ b12 := by omega
    replace HC := HC.trans (CHr.ext E12 HC.1)
    replace J := J.ext E12
    replace Kp := Kp.ext E12
    refine own_dup X12 C own_d_method_2_code_7 8 rfl rfl ?_
    refine own_iconst X12 C own_d_method_2_code_8 9 rfl (0) rfl ?_
    refine own_newarray X12 C (own_w hw 10 rfl) e12 own_d_method_2_code_9 11 rfl (by decide) 0 (by decide) (by decide) (by decide) (by decide) (fun T13 h13 b13 g13 X13 e13 E13 A13 => ?_)
    have A : OwnAr Z h13 b13 .char 0 (fun _ => .int (0 : Int32)) := A13
    have z13 := E13.1
    have ga : h.size ≤ b13 := by omega
    replace HC := HC.trans (CHr.ext E13 HC.1)
    replace J := J.ext E13
    replace Kp := Kp.ext E13
    replace Eo := Eo.ext E13
    replace Fv := Fv.ext E13
    replace Fc := Fc.ext E13
    have Ac : OwnAr Z h13 b13 .char 0 (fun i => .int (own_cv ia1 ia2 i)) := A.eqv fun i hi => by
      have q : i = 0 ∨ i = 1 := by omega
      rcases q with rfl | rfl <;> first | rfl | (exfalso; omega)
    refine own_callIH X13 C rfl (own_w hw 11 rfl) (own_w hw 12 rfl) (own_w hw 9 rfl) (own_w hw 13 rfl) rfl (by decide) (own_rm_si1 l Z a0 hw b12 b13 h13 n0 (by omega) (by omega) Eo Fv Fc 0 (own_cv ia1 ia2) Ac (by decide) (fun i _ => own_cvr h1 h2 i) cs vF J) e13 hS (Nat.zero_le _) (own_hEL hw) HC.1 own_pd_AC_R_V [(.ref b13)] rfl rfl rfl rfl 1 rfl (by decide) (by decide) (by decide) (by decide) own_d_method_2_code_11 14 rfl (fun T14 L14 v14 X14 C hS14 H14 q14 => ?_)
    obtain ⟨rfl, NL14, K14, d14, I14⟩ := q14
    replace HC := HC.trans H14
    have N14 := Fr.app (Fr.nil n0) NL14
    refine own_areturnH X14 C hS14 (by first | exact Nat.le_refl _ | omega | (rw [rfl]; omega)) (own_hEL hw) rfl HC _ rfl rfl rfl rfl own_d_method_2_code_14 (by decide) (by decide) ?_
    have hk : ia0.toInt.toNat = 0 := by omega
    rw [hk]
    exact ⟨_, d14, rfl, go, N14, Kp.trans K14 (allS (Or.inr go) all0), I14⟩
theorem own_pn_Nodes_Edge : plainName "com/example/subsumer/subsumer/Nodes$Edge" = true := by first | (simp [plainName, overriddenIn]; done) | decide +kernel
theorem own_pd_ZLjava_lang_String_I_R_V : parseMethodDescriptor "(ZLjava/lang/String;I)V" = some ⟨[.boolean, (.object "java/lang/String"), .int], none⟩ := by decide +kernel
theorem own_d_prog_41_method_1_code_0 : decode prog_41_method_1_code 0 = .ok (.aload_n 0, 1) := by decide +kernel
theorem own_d_prog_41_method_1_code_1 : decode prog_41_method_1_code 1 = .ok (.invokespecial 1, 3) := by decide +kernel
theorem own_d_prog_41_method_1_code_4 : decode prog_41_method_1_code 4 = .ok (.aload_n 0, 1) := by decide +kernel
theorem own_d_prog_41_method_1_code_5 : decode prog_41_method_1_code 5 = .ok (.iload_n 1, 1) := by decide +kernel
theorem own_d_prog_41_method_1_code_6 : decode prog_41_method_1_code 6 = .ok (.putfield 7, 3) := by decide +kernel
theorem own_d_prog_41_method_1_code_9 : decode prog_41_method_1_code 9 = .ok (.aload_n 0, 1) := by decide +kernel
theorem own_d_prog_41_method_1_code_10 : decode prog_41_method_1_code 10 = .ok (.aload_n 2, 1) := by decide +kernel
theorem own_d_prog_41_method_1_code_11 : decode prog_41_method_1_code 11 = .ok (.putfield 13, 3) := by decide +kernel
theorem own_d_prog_41_method_1_code_14 : decode prog_41_method_1_code 14 = .ok (.aload_n 0, 1) := by decide +kernel
theorem own_d_prog_41_method_1_code_15 : decode prog_41_method_1_code 15 = .ok (.iload_n 3, 1) := by decide +kernel
theorem own_d_prog_41_method_1_code_16 : decode prog_41_method_1_code 16 = .ok (.putfield 17, 3) := by decide +kernel
theorem own_d_prog_41_method_1_code_19 : decode prog_41_method_1_code 19 = .ok (.return_, 1) := by decide +kernel
set_option maxRecDepth 65536 in
set_option maxHeartbeats 4000000 in
theorem own_ef_own_rm_einit (m : MethodId) (oa0 : Nat) (ia1 : Int32) (oa2 : Nat) (ia3 : Int32) : entryFrame m #[(.ref oa0), (.int ia1), (.ref oa2), (.int ia3)] 4 = (mkF m 0 #[.val (.ref oa0), .val (.int ia1), .val (.ref oa2), .val (.int ia3)] []) := by first | (simp [entryFrame, mkF, argsToLocals, Value.category]; done) | rfl
set_option maxRecDepth 65536 in
set_option maxHeartbeats 4000000 in
theorem own_rm_einit (l : Launch) (Z : State) (a0 : Array Value) (hw : ∀ d ∈ tables_1, d.before a0 Z = true) (oa0 : Nat) (ia1 : Int32) (oa2 : Nat) (ia3 : Int32) (h : Heap) (n0 : Nat) (go : n0 ≤ oa0) (hb : ia1 = 0 ∨ ia1 = 1) (Eo : Exa Z h oa0 "com/example/subsumer/subsumer/Nodes$Edge") (F_only : Fld Z h oa0 "com/example/subsumer/subsumer/Nodes$Edge" "only" "Z" (.int (0 : Int32))) (F_role : Fld Z h oa0 "com/example/subsumer/subsumer/Nodes$Edge" "role" "Ljava/lang/String;" .null) (F_target : Fld Z h oa0 "com/example/subsumer/subsumer/Nodes$Edge" "target" "I" (.int (0 : Int32))) :
    OwnMet l Z (⟨"com/example/subsumer/subsumer/Nodes$Edge", "<init>", "(ZLjava/lang/String;I)V"⟩ : MethodName) prog_41_method_1_code 4 none [] ({ frames := 2, cells := 0, slots := 0, locals := 40 } : Room) #[(.ref oa0), (.int ia1), (.ref oa2), (.int ia3)] h (fun v h' L => v = none ∧ Fr n0 L ∧ Keep h h' [oa0] ∧ Exa Z h' oa0 "com/example/subsumer/subsumer/Nodes$Edge" ∧ Fld Z h' oa0 "com/example/subsumer/subsumer/Nodes$Edge" "only" "Z" (.int ia1) ∧ Fld Z h' oa0 "com/example/subsumer/subsumer/Nodes$Edge" "role" "Ljava/lang/String;" (.ref oa2)) := by
  refine own_enter (f0 := fun m => mkF m 0 #[.val (.ref oa0), .val (.int ia1), .val (.ref oa2), .val (.int ia3)] []) (plainFor_of_name own_pn_Nodes_Edge) (fun m => own_ef_own_rm_einit m oa0 ia1 oa2 ia3) ?_
  intro p e s m below meth c T0 X0 C e0
  have Kp := Keep.refl h [oa0]
  refine own_aload_n X0 C own_d_prog_41_method_1_code_0 1 rfl rfl rfl ?_
  refine own_callI X0 C rfl (own_w hw 32 rfl) (own_w hw 33 rfl) (own_w hw 35 rfl) (own_w hw 36 rfl) rfl (by decide) (own_rm_record l Z a0 hw oa0 h) e0 own_pd__R_V [] rfl rfl rfl rfl 0 rfl (by decide) (by decide) (by decide) (by decide) own_d_prog_41_method_1_code_1 4 rfl (fun T1 L1 v1 X1 q1 => ?_)
  obtain ⟨rfl, eh1, rfl⟩ := q1
  have N1 := Fr.app (Fr.nil n0) (Fr.nil n0)
  refine own_aload_n X1 C own_d_prog_41_method_1_code_4 5 rfl rfl rfl ?_
  refine own_iload_n X1 C own_d_prog_41_method_1_code_5 6 rfl rfl ?_
  refine own_putfieldN X1 C (own_w hw 38 rfl) Via.refl eh1 F_only Eo (Or.inr ⟨(own_w hw 39 rfl), rfl, rfl⟩) (own_w hw 1 rfl) (ty := .boolean) (v' := (.int ia1)) (by decide) (by rcases hb with rfl | rfl <;> rfl) (by rcases hb with rfl | rfl <;> rfl) own_d_prog_41_method_1_code_6 9 rfl (fun T2 h2 X2 e2 W2 => ?_)
  have N2 := own_fr1 (sl := Jvm.RoadKit.slotOf Z "com/example/subsumer/subsumer/Nodes$Edge" "only" "Z") N1 go
  replace Eo := Eo.wr W2
  replace F_only := F_only.same W2
  replace Kp := Kp.wr W2 (Or.inl (List.mem_singleton.mpr rfl))
  replace F_role := F_role.other W2 (Or.inr (slot_ne (Or.inr (own_w hw 41 rfl)) (Or.inr (own_w hw 39 rfl)) (by decide) (t := (.object "java/lang/String")) (t' := .boolean) (by decide) (by decide)))
  replace F_target := F_target.other W2 (Or.inr (slot_ne (Or.inr (own_w hw 43 rfl)) (Or.inr (own_w hw 39 rfl)) (by decide) (t := .int) (t' := .boolean) (by decide) (by decide)))
  refine own_aload_n X2 C own_d_prog_41_method_1_code_9 10 rfl rfl rfl ?_
  refine own_aload_n X2 C own_d_prog_41_method_1_code_10 11 rfl rfl rfl ?_
  refine own_putfield X2 C (host := "") (Or.inl (own_w hw 40 rfl)) Via.refl e2 F_role Eo (Or.inr ⟨(own_w hw 41 rfl), rfl, rfl⟩) (own_w hw 1 rfl) (ty := (.object "java/lang/String")) (by decide) rfl rfl own_d_prog_41_method_1_code_11 14 rfl (fun T3 h3 X3 e3 W3 => ?_)
  have N3 := own_fr1 (sl := Jvm.RoadKit.slotOf Z "com/example/subsumer/subsumer/Nodes$Edge" "role" "Ljava/lang/String;") N2 go
  replace Eo := Eo.wr W3
  replace F_role := F_role.same W3
  replace Kp := Kp.wr W3 (Or.inl (List.mem_singleton.mpr rfl))
  replace F_only := F_only.other W3 (Or.inr (slot_ne (Or.inr (own_w hw 39 rfl)) (Or.inr (own_w hw 41 rfl)) (by decide) (t := .boolean) (t' := (.object "java/lang/String")) (by decide) (by decide)))
  replace F_target := F_target.other W3 (Or.inr (slot_ne (Or.inr (own_w hw 43 rfl)) (Or.inr (own_w hw 41 rfl)) (by decide) (t := .int) (t' := (.object "java/lang/String")) (by decide) (by decide)))
  refine own_aload_n X3 C own_d_prog_41_method_1_code_14 15 rfl rfl rfl ?_
  refine own_iload_n X3 C own_d_prog_41_method_1_code_15 16 rfl rfl ?_
  refine own_putfield X3 C (host := "") (Or.inl (own_w hw 42 rfl)) Via.refl e3 F_target Eo (Or.inr ⟨(own_w hw 43 rfl), rfl, rfl⟩) (own_w hw 1 rfl) (ty := .int) (by decide) rfl rfl own_d_prog_41_method_1_code_16 19 rfl (fun T4 h4 X4 e4 W4 => ?_)
  have N4 := own_fr1 (sl := Jvm.RoadKit.slotOf Z "com/example/subsumer/subsumer/Nodes$Edge" "target" "I") N3 go
  replace Eo := Eo.wr W4
  replace F_target := F_target.same W4
  replace Kp := Kp.wr W4 (Or.inl (List.mem_singleton.mpr rfl))
  replace F_only := F_only.other W4 (Or.inr (slot_ne (Or.inr (own_w hw 39 rfl)) (Or.inr (own_w hw 43 rfl)) (by decide) (t := .boolean) (t' := .int) (by decide) (by decide)))
  replace F_role := F_role.other W4 (Or.inr (slot_ne (Or.inr (own_w hw 41 rfl)) (Or.inr (own_w hw 43 rfl)) (by decide) (t := (.object "java/lang/String")) (t' := .int) (by decide) (by decide)))
  refine own_return X4 C rfl own_d_prog_41_method_1_code_19 (by decide) (by decide) ?_
  rw [e4]; exact ⟨rfl, N4, Kp, Eo, F_only, F_role⟩
theorem own_pn_StringLatin1 : plainName "java/lang/StringLatin1" = true := by first | (simp [plainName, overriddenIn]; done) | decide +kernel
theorem own_pd_ABAB_R_Z : parseMethodDescriptor "([B[B)Z" = some ⟨[(.array .byte), (.array .byte)], some .boolean⟩ := by decide +kernel
theorem own_d_jdk_43_method_13_code_0 : decode jdk_43_method_13_code 0 = .ok (.aload_n 0, 1) := by decide +kernel
theorem own_d_jdk_43_method_13_code_1 : decode jdk_43_method_13_code 1 = .ok (.arraylength, 1) := by decide +kernel
theorem own_d_jdk_43_method_13_code_2 : decode jdk_43_method_13_code 2 = .ok (.aload_n 1, 1) := by decide +kernel
theorem own_d_jdk_43_method_13_code_3 : decode jdk_43_method_13_code 3 = .ok (.arraylength, 1) := by decide +kernel
theorem own_d_jdk_43_method_13_code_4 : decode jdk_43_method_13_code 4 = .ok (.if_icmp .ne 30, 3) := by decide +kernel
theorem own_d_jdk_43_method_13_code_7 : decode jdk_43_method_13_code 7 = .ok (.iconst 0, 1) := by decide +kernel
theorem own_d_jdk_43_method_13_code_8 : decode jdk_43_method_13_code 8 = .ok (.istore_n 2, 1) := by decide +kernel
theorem own_d_jdk_43_method_13_code_9 : decode jdk_43_method_13_code 9 = .ok (.iload_n 2, 1) := by decide +kernel
theorem own_d_jdk_43_method_13_code_10 : decode jdk_43_method_13_code 10 = .ok (.aload_n 0, 1) := by decide +kernel
theorem own_d_jdk_43_method_13_code_11 : decode jdk_43_method_13_code 11 = .ok (.arraylength, 1) := by decide +kernel
theorem own_d_jdk_43_method_13_code_12 : decode jdk_43_method_13_code 12 = .ok (.if_icmp .ge 20, 3) := by decide +kernel
theorem own_d_jdk_43_method_13_code_15 : decode jdk_43_method_13_code 15 = .ok (.aload_n 0, 1) := by decide +kernel
theorem own_d_jdk_43_method_13_code_16 : decode jdk_43_method_13_code 16 = .ok (.iload_n 2, 1) := by decide +kernel
theorem own_d_jdk_43_method_13_code_17 : decode jdk_43_method_13_code 17 = .ok (.baload, 1) := by decide +kernel
theorem own_d_jdk_43_method_13_code_18 : decode jdk_43_method_13_code 18 = .ok (.aload_n 1, 1) := by decide +kernel
theorem own_d_jdk_43_method_13_code_19 : decode jdk_43_method_13_code 19 = .ok (.iload_n 2, 1) := by decide +kernel
theorem own_d_jdk_43_method_13_code_20 : decode jdk_43_method_13_code 20 = .ok (.baload, 1) := by decide +kernel
theorem own_d_jdk_43_method_13_code_21 : decode jdk_43_method_13_code 21 = .ok (.if_icmp .eq 5, 3) := by decide +kernel
theorem own_d_jdk_43_method_13_code_24 : decode jdk_43_method_13_code 24 = .ok (.iconst 0, 1) := by decide +kernel
theorem own_d_jdk_43_method_13_code_25 : decode jdk_43_method_13_code 25 = .ok (.ireturn, 1) := by decide +kernel
theorem own_d_jdk_43_method_13_code_26 : decode jdk_43_method_13_code 26 = .ok (.iinc 2 1, 3) := by decide +kernel
theorem own_d_jdk_43_method_13_code_29 : decode jdk_43_method_13_code 29 = .ok (.goto (-20), 3) := by decide +kernel
theorem own_d_jdk_43_method_13_code_32 : decode jdk_43_method_13_code 32 = .ok (.iconst 1, 1) := by decide +kernel
theorem own_d_jdk_43_method_13_code_33 : decode jdk_43_method_13_code 33 = .ok (.ireturn, 1) := by decide +kernel
theorem own_d_jdk_43_method_13_code_34 : decode jdk_43_method_13_code 34 = .ok (.iconst 0, 1) := by decide +kernel
theorem own_d_jdk_43_method_13_code_35 : decode jdk_43_method_13_code 35 = .ok (.ireturn, 1) := by decide +kernel
set_option maxRecDepth 65536 in
set_option maxHeartbeats 4000000 in
theorem own_ef_own_rm_leq (m : MethodId) (oa0 : Nat) (oa1 : Nat) : entryFrame m #[(.ref oa0), (.ref oa1)] 3 = (mkF m 0 #[.val (.ref oa0), .val (.ref oa1), .unset] []) := by first | (simp [entryFrame, mkF, argsToLocals, Value.category]; done) | rfl
set_option maxRecDepth 65536 in
set_option maxHeartbeats 4000000 in
theorem own_rm_leq (l : Launch) (Z : State) (a0 : Array Value) (hw : ∀ d ∈ tables_1, d.before a0 Z = true) (oa0 : Nat) (oa1 : Nat) (h : Heap) (n : Nat) (m' : Nat) (f : Nat → Int32) (g : Nat → Int32) (A : OwnAr Z h oa0 .byte n (fun i => .int (f i))) (B : OwnAr Z h oa1 .byte m' (fun i => .int (g i))) (hn : n ≤ 2) (hm : m' ≤ 2) :
    OwnMet l Z (⟨"java/lang/StringLatin1", "equals", "([B[B)Z"⟩ : MethodName) jdk_43_method_13_code 3 (some .boolean) [] ({ frames := 0, cells := 0, slots := 0, locals := 0 } : Room) #[(.ref oa0), (.ref oa1)] h (OwnPure (.int (own_seq n m' f g)) h) := by
  refine own_enter (f0 := fun m => mkF m 0 #[.val (.ref oa0), .val (.ref oa1), .unset] []) (plainFor_of_name own_pn_StringLatin1) (fun m => own_ef_own_rm_leq m oa0 oa1) ?_
  intro p e s m below meth c T0 X0 C e0
  refine own_aload_n X0 C own_d_jdk_43_method_13_code_0 1 rfl rfl rfl ?_
  refine own_arraylength X0 C e0 A own_d_jdk_43_method_13_code_1 2 rfl (by omega) (fun v1 ev1 fv1 => ?_)
  refine own_aload_n X0 C own_d_jdk_43_method_13_code_2 3 rfl rfl rfl ?_
  refine own_arraylength X0 C e0 B own_d_jdk_43_method_13_code_3 4 rfl (by omega) (fun v2 ev2 fv2 => ?_)
  refine own_icmpne X0 C own_d_jdk_43_method_13_code_4 7 34 rfl (by decide) (by decide) (i := v1.toInt) rfl (j := v2.toInt) rfl (fun b1 => ?_) (fun b1 => ?_)
  · refine own_iconst X0 C own_d_jdk_43_method_13_code_34 35 rfl (0) rfl ?_
    refine own_iretN X0 C .boolean rfl (by simp) own_d_jdk_43_method_13_code_35 (by decide) (by decide) (0) (by decide) ?_
    refine ⟨?_, e0, rfl⟩
    rw [own_seq, if_neg]
    rintro ⟨k, -⟩
    omega
  · refine own_iconst X0 C own_d_jdk_43_method_13_code_7 8 rfl (0) rfl ?_
    refine own_istore_n X0 C own_d_jdk_43_method_13_code_8 9 rfl #[.val (.ref oa0), .val (.ref oa1), .val (.int (0 : Int32))] rfl ?_
    refine own_iload_n X0 C own_d_jdk_43_method_13_code_9 10 rfl rfl ?_
    refine own_aload_n X0 C own_d_jdk_43_method_13_code_10 11 rfl rfl rfl ?_
    refine own_arraylength X0 C e0 A own_d_jdk_43_method_13_code_11 12 rfl (by omega) (fun v3 ev3 fv3 => ?_)
    refine own_icmpge X0 C own_d_jdk_43_method_13_code_12 15 32 rfl (by decide) (by decide) (i := 0) (by decide) (j := v3.toInt) rfl (fun b2 => ?_) (fun b2 => ?_)
    · refine own_iconst X0 C own_d_jdk_43_method_13_code_32 33 rfl (1) rfl ?_
      refine own_iretN X0 C .boolean rfl (by simp) own_d_jdk_43_method_13_code_33 (by decide) (by decide) (1) (by decide) ?_
      refine ⟨?_, e0, rfl⟩
      rw [own_seq, if_pos]
      refine ⟨by omega, fun i hi => ?_⟩
      have k : i = 0 ∨ i = 1 := by omega
      rcases k with rfl | rfl
      · first | assumption | (exfalso; omega)
      · first | assumption | (exfalso; omega)
    · refine own_aload_n X0 C own_d_jdk_43_method_13_code_15 16 rfl rfl rfl ?_
      refine own_iload_n X0 C own_d_jdk_43_method_13_code_16 17 rfl rfl ?_
      refine own_baloadB X0 C e0 A (by decide) (by have q : (0 : Int32).toInt = 0 := (by decide); omega) own_d_jdk_43_method_13_code_17 18 rfl (.int (f 0)) rfl ?_
      refine own_aload_n X0 C own_d_jdk_43_method_13_code_18 19 rfl rfl rfl ?_
      refine own_iload_n X0 C own_d_jdk_43_method_13_code_19 20 rfl rfl ?_
      refine own_baloadB X0 C e0 B (by decide) (by have q : (0 : Int32).toInt = 0 := (by decide); omega) own_d_jdk_43_method_13_code_20 21 rfl (.int (g 0)) rfl ?_
      refine own_icmpeq X0 C own_d_jdk_43_method_13_code_21 24 26 rfl (by decide) (by decide) (i := (f 0).toInt) rfl (j := (g 0).toInt) rfl (fun b3 => ?_) (fun b3 => ?_)
      · refine own_iinc X0 C own_d_jdk_43_method_13_code_26 29 rfl rfl (1) rfl (fun z => #[.val (.ref oa0), .val (.ref oa1), .val (.int z)]) (fun z => rfl) (fun v4 ev4 => ?_)
        obtain rfl : v4 = (1 : Int32) := ev4.trans (by decide)
        refine own_goto X0 C own_d_jdk_43_method_13_code_29 9 (by decide) (by decide) ?_
        refine own_iload_n X0 C own_d_jdk_43_method_13_code_9 10 rfl rfl ?_
        refine own_aload_n X0 C own_d_jdk_43_method_13_code_10 11 rfl rfl rfl ?_
        refine own_arraylength X0 C e0 A own_d_jdk_43_method_13_code_11 12 rfl (by omega) (fun v5 ev5 fv5 => ?_)
        refine own_icmpge X0 C own_d_jdk_43_method_13_code_12 15 32 rfl (by decide) (by decide) (i := 1) (by decide) (j := v5.toInt) rfl (fun b4 => ?_) (fun b4 => ?_)
        · refine own_iconst X0 C own_d_jdk_43_method_13_code_32 33 rfl (1) rfl ?_
          refine own_iretN X0 C .boolean rfl (by simp) own_d_jdk_43_method_13_code_33 (by decide) (by decide) (1) (by decide) ?_
          refine ⟨?_, e0, rfl⟩
          rw [own_seq, if_pos]
          refine ⟨by omega, fun i hi => ?_⟩
          have k : i = 0 ∨ i = 1 := by omega
          rcases k with rfl | rfl
          · first | assumption | (exfalso; omega)
          · first | assumption | (exfalso; omega)
        · refine own_aload_n X0 C own_d_jdk_43_method_13_code_15 16 rfl rfl rfl ?_
          refine own_iload_n X0 C own_d_jdk_43_method_13_code_16 17 rfl rfl ?_
          refine own_baloadB X0 C e0 A (by decide) (by have q : (1 : Int32).toInt = 1 := (by decide); omega) own_d_jdk_43_method_13_code_17 18 rfl (.int (f 1)) rfl ?_
          refine own_aload_n X0 C own_d_jdk_43_method_13_code_18 19 rfl rfl rfl ?_
          refine own_iload_n X0 C own_d_jdk_43_method_13_code_19 20 rfl rfl ?_
          refine own_baloadB X0 C e0 B (by decide) (by have q : (1 : Int32).toInt = 1 := (by decide); omega) own_d_jdk_43_method_13_code_20 21 rfl (.int (g 1)) rfl ?_
          refine own_icmpeq X0 C own_d_jdk_43_method_13_code_21 24 26 rfl (by decide) (by decide) (i := (f 1).toInt) rfl (j := (g 1).toInt) rfl (fun b5 => ?_) (fun b5 => ?_)
          · refine own_iinc X0 C own_d_jdk_43_method_13_code_26 29 rfl rfl (1) rfl (fun z => #[.val (.ref oa0), .val (.ref oa1), .val (.int z)]) (fun z => rfl) (fun v6 ev6 => ?_)
            obtain rfl : v6 = (2 : Int32) := ev6.trans (by decide)
            refine own_goto X0 C own_d_jdk_43_method_13_code_29 9 (by decide) (by decide) ?_
            refine own_iload_n X0 C own_d_jdk_43_method_13_code_9 10 rfl rfl ?_
            refine own_aload_n X0 C own_d_jdk_43_method_13_code_10 11 rfl rfl rfl ?_
            refine own_arraylength X0 C e0 A own_d_jdk_43_method_13_code_11 12 rfl (by omega) (fun v7 ev7 fv7 => ?_)
            refine own_icmpge X0 C own_d_jdk_43_method_13_code_12 15 32 rfl (by decide) (by decide) (i := 2) (by decide) (j := v7.toInt) rfl (fun b6 => ?_) (fun b6 => ?_)
            · refine own_iconst X0 C own_d_jdk_43_method_13_code_32 33 rfl (1) rfl ?_
              refine own_iretN X0 C .boolean rfl (by simp) own_d_jdk_43_method_13_code_33 (by decide) (by decide) (1) (by decide) ?_
              refine ⟨?_, e0, rfl⟩
              rw [own_seq, if_pos]
              refine ⟨by omega, fun i hi => ?_⟩
              have k : i = 0 ∨ i = 1 := by omega
              rcases k with rfl | rfl
              · first | assumption | (exfalso; omega)
              · first | assumption | (exfalso; omega)
            · exfalso
              have q : (2 : Int32).toInt = 2 := by decide
              omega
          · refine own_iconst X0 C own_d_jdk_43_method_13_code_24 25 rfl (0) rfl ?_
            refine own_iretN X0 C .boolean rfl (by simp) own_d_jdk_43_method_13_code_25 (by decide) (by decide) (0) (by decide) ?_
            refine ⟨?_, e0, rfl⟩
            rw [own_seq, if_neg]
            rintro ⟨k1, k2⟩
            exact b5 (k2 1 (by omega))
      · refine own_iconst X0 C own_d_jdk_43_method_13_code_24 25 rfl (0) rfl ?_
        refine own_iretN X0 C .boolean rfl (by simp) own_d_jdk_43_method_13_code_25 (by decide) (by decide) (0) (by decide) ?_
        refine ⟨?_, e0, rfl⟩
        rw [own_seq, if_neg]
        rintro ⟨k1, k2⟩
        exact b3 (k2 0 (by omega))
theorem own_pd_Ljava_lang_Object__R_Z : parseMethodDescriptor "(Ljava/lang/Object;)Z" = some ⟨[(.object "java/lang/Object")], some .boolean⟩ := by decide +kernel
theorem own_d_jdk_42_method_66_code_0 : decode jdk_42_method_66_code 0 = .ok (.aload_n 0, 1) := by decide +kernel
theorem own_d_jdk_42_method_66_code_1 : decode jdk_42_method_66_code 1 = .ok (.aload_n 1, 1) := by decide +kernel
theorem own_d_jdk_42_method_66_code_2 : decode jdk_42_method_66_code 2 = .ok (.if_acmp .ne 5, 3) := by decide +kernel
theorem own_d_jdk_42_method_66_code_7 : decode jdk_42_method_66_code 7 = .ok (.aload_n 1, 1) := by decide +kernel
theorem own_d_jdk_42_method_66_code_8 : decode jdk_42_method_66_code 8 = .ok (.instanceof 10, 3) := by decide +kernel
theorem own_d_jdk_42_method_66_code_11 : decode jdk_42_method_66_code 11 = .ok (.ifCond .eq 43, 3) := by decide +kernel
theorem own_d_jdk_42_method_66_code_14 : decode jdk_42_method_66_code 14 = .ok (.aload_n 1, 1) := by decide +kernel
theorem own_d_jdk_42_method_66_code_15 : decode jdk_42_method_66_code 15 = .ok (.checkcast 10, 3) := by decide +kernel
theorem own_d_jdk_42_method_66_code_18 : decode jdk_42_method_66_code 18 = .ok (.astore_n 2, 1) := by decide +kernel
theorem own_d_jdk_42_method_66_code_19 : decode jdk_42_method_66_code 19 = .ok (.getstatic 38, 3) := by decide +kernel
theorem own_d_jdk_42_method_66_code_22 : decode jdk_42_method_66_code 22 = .ok (.ifCond .eq 14, 3) := by decide +kernel
theorem own_d_jdk_42_method_66_code_25 : decode jdk_42_method_66_code 25 = .ok (.aload_n 0, 1) := by decide +kernel
theorem own_d_jdk_42_method_66_code_26 : decode jdk_42_method_66_code 26 = .ok (.getfield 15, 3) := by decide +kernel
theorem own_d_jdk_42_method_66_code_29 : decode jdk_42_method_66_code 29 = .ok (.aload_n 2, 1) := by decide +kernel
theorem own_d_jdk_42_method_66_code_30 : decode jdk_42_method_66_code 30 = .ok (.getfield 15, 3) := by decide +kernel
theorem own_d_jdk_42_method_66_code_33 : decode jdk_42_method_66_code 33 = .ok (.if_icmp .ne 21, 3) := by decide +kernel
theorem own_d_jdk_42_method_66_code_36 : decode jdk_42_method_66_code 36 = .ok (.aload_n 0, 1) := by decide +kernel
theorem own_d_jdk_42_method_66_code_37 : decode jdk_42_method_66_code 37 = .ok (.getfield 9, 3) := by decide +kernel
theorem own_d_jdk_42_method_66_code_40 : decode jdk_42_method_66_code 40 = .ok (.aload_n 2, 1) := by decide +kernel
theorem own_d_jdk_42_method_66_code_41 : decode jdk_42_method_66_code 41 = .ok (.getfield 9, 3) := by decide +kernel
theorem own_d_jdk_42_method_66_code_44 : decode jdk_42_method_66_code 44 = .ok (.invokestatic 541, 3) := by decide +kernel
theorem own_d_jdk_42_method_66_code_47 : decode jdk_42_method_66_code 47 = .ok (.ifCond .eq 7, 3) := by decide +kernel
theorem own_d_jdk_42_method_66_code_50 : decode jdk_42_method_66_code 50 = .ok (.iconst 1, 1) := by decide +kernel
theorem own_d_jdk_42_method_66_code_51 : decode jdk_42_method_66_code 51 = .ok (.goto 4, 3) := by decide +kernel
theorem own_d_jdk_42_method_66_code_54 : decode jdk_42_method_66_code 54 = .ok (.iconst 0, 1) := by decide +kernel
theorem own_d_jdk_42_method_66_code_55 : decode jdk_42_method_66_code 55 = .ok (.ireturn, 1) := by decide +kernel
set_option maxRecDepth 65536 in
set_option maxHeartbeats 4000000 in
theorem own_ef_own_rm_seq (m : MethodId) (oa0 : Nat) (oa1 : Nat) : entryFrame m #[(.ref oa0), (.ref oa1)] 3 = (mkF m 0 #[.val (.ref oa0), .val (.ref oa1), .unset] []) := by first | (simp [entryFrame, mkF, argsToLocals, Value.category]; done) | rfl
set_option maxRecDepth 65536 in
set_option maxHeartbeats 4000000 in
theorem own_rm_seq (l : Launch) (Z : State) (a0 : Array Value) (hw : ∀ d ∈ tables_1, d.before a0 Z = true) (oa0 : Nat) (oa1 : Nat) (h : Heap) (n : Nat) (m' : Nat) (f : Nat → Int32) (g : Nat → Int32) (b : Nat) (d : Nat) (I1 : OwnStr Z h oa0 b n f) (I2 : OwnStr Z h oa1 d m' g) (hne : oa0 ≠ oa1) (hn : n ≤ 2) (hm : m' ≤ 2) (cs : Int32) (vF : Value) (J : OwnJ Z h cs vF) :
    OwnMet l Z (⟨"java/lang/String", "equals", "(Ljava/lang/Object;)Z"⟩ : MethodName) jdk_42_method_66_code 3 (some .boolean) [] ({ frames := 1, cells := 0, slots := 0, locals := 20 } : Room) #[(.ref oa0), (.ref oa1)] h (OwnPure (.int (own_seq n m' f g)) h) := by
  refine own_enter (f0 := fun m => mkF m 0 #[.val (.ref oa0), .val (.ref oa1), .unset] []) (plainFor_of_name own_pn_String) (fun m => own_ef_own_rm_seq m oa0 oa1) ?_
  intro p e s m below meth c T0 X0 C e0
  refine own_aload_n X0 C own_d_jdk_42_method_66_code_0 1 rfl rfl rfl ?_
  refine own_aload_n X0 C own_d_jdk_42_method_66_code_1 2 rfl rfl rfl ?_
  refine own_acmpne X0 C own_d_jdk_42_method_66_code_2 5 7 rfl (by decide) (by decide) (fun b1 => ?_) (fun b1 => ?_)
  · refine own_aload_n X0 C own_d_jdk_42_method_66_code_7 8 rfl rfl rfl ?_
    refine own_instY X0 C (own_w hw 54 rfl) e0 (Ins.self I2.1) own_d_jdk_42_method_66_code_8 11 rfl (fun T2 X2 e2 => ?_)
    refine own_ifeq X2 C own_d_jdk_42_method_66_code_11 14 54 rfl (by decide) (by decide) (i := 1) (by decide) (fun b3 => ?_) (fun b3 => ?_)
    · exfalso
      omega
    · refine own_aload_n X2 C own_d_jdk_42_method_66_code_14 15 rfl rfl rfl ?_
      refine own_castY X2 C (own_w hw 54 rfl) e2 (Ins.self I2.1) own_d_jdk_42_method_66_code_15 18 rfl (fun T4 X4 e4 => ?_)
      refine own_astore_n X4 C own_d_jdk_42_method_66_code_18 19 rfl rfl #[.val (.ref oa0), .val (.ref oa1), .val (.ref oa1)] rfl ?_
      refine own_getstatic X4 C (host := "") (Or.inl (own_w hw 55 rfl)) Via.refl e4 J.1 own_d_jdk_42_method_66_code_19 22 rfl (fun T5 X5 e5 => ?_)
      refine own_ifeq X5 C own_d_jdk_42_method_66_code_22 25 36 rfl (by decide) (by decide) (i := cs.toInt) rfl (fun b6 => ?_) (fun b6 => ?_)
      · exfalso
        exact J.2.1 b6
      · refine own_aload_n X5 C own_d_jdk_42_method_66_code_25 26 rfl rfl rfl ?_
        refine own_getfield X5 C (host := "") (Or.inl (own_w hw 28 rfl)) Via.refl e5 I1.2.2.1 own_d_jdk_42_method_66_code_26 29 rfl (fun T7 X7 e7 => ?_)
        refine own_aload_n X7 C own_d_jdk_42_method_66_code_29 30 rfl rfl rfl ?_
        refine own_getfield X7 C (host := "") (Or.inl (own_w hw 28 rfl)) Via.refl e7 I2.2.2.1 own_d_jdk_42_method_66_code_30 33 rfl (fun T8 X8 e8 => ?_)
        refine own_icmpne X8 C own_d_jdk_42_method_66_code_33 36 54 rfl (by decide) (by decide) (i := 0) (by decide) (j := 0) (by decide) (fun b9 => ?_) (fun b9 => ?_)
        · exfalso
          omega
        · refine own_aload_n X8 C own_d_jdk_42_method_66_code_36 37 rfl rfl rfl ?_
          refine own_getfield X8 C (host := "") (Or.inl (own_w hw 27 rfl)) Via.refl e8 I1.2.1 own_d_jdk_42_method_66_code_37 40 rfl (fun T10 X10 e10 => ?_)
          refine own_aload_n X10 C own_d_jdk_42_method_66_code_40 41 rfl rfl rfl ?_
          refine own_getfield X10 C (host := "") (Or.inl (own_w hw 27 rfl)) Via.refl e10 I2.2.1 own_d_jdk_42_method_66_code_41 44 rfl (fun T11 X11 e11 => ?_)
          refine own_callP X11 C (own_w hw 56 rfl) (own_w hw 57 rfl) (own_w hw 58 rfl) (own_w hw 59 rfl) (by decide) (own_rm_leq l Z a0 hw b d h n m' f g I1.2.2.2.1 I2.2.2.2.1 hn hm) e11 own_pd_ABAB_R_Z [(.ref b), (.ref d)] rfl rfl rfl rfl 0 rfl (by decide) (by decide) rfl rfl (by decide) (by decide) own_d_jdk_42_method_66_code_44 47 rfl (fun T12 X12 e12 => ?_)
          refine own_ifeq X12 C own_d_jdk_42_method_66_code_47 50 54 rfl (by decide) (by decide) (i := (own_seq n m' f g).toInt) rfl (fun b13 => ?_) (fun b13 => ?_)
          · refine own_iconst X12 C own_d_jdk_42_method_66_code_54 55 rfl (0) rfl ?_
            refine own_iretN X12 C .boolean rfl (by simp) own_d_jdk_42_method_66_code_55 (by decide) (by decide) (0) (by decide) ?_
            exact ⟨by rw [own_seq0 b13], e12, rfl⟩
          · refine own_iconst X12 C own_d_jdk_42_method_66_code_50 51 rfl (1) rfl ?_
            refine own_goto X12 C own_d_jdk_42_method_66_code_51 55 (by decide) (by decide) ?_
            refine own_iretN X12 C .boolean rfl (by simp) own_d_jdk_42_method_66_code_55 (by decide) (by decide) (1) (by decide) ?_
            exact ⟨by rw [own_seq1 b13], e12, rfl⟩
  · exfalso
    exact hne b1
theorem own_pd_Lcom_example_subsumer_subsumer_Nodes_Edge__R_Z : parseMethodDescriptor "(Lcom/example/subsumer/subsumer/Nodes$Edge;)Z" = some ⟨[(.object "com/example/subsumer/subsumer/Nodes$Edge")], some .boolean⟩ := by decide +kernel
theorem own_d_prog_41_method_2_code_0 : decode prog_41_method_2_code 0 = .ok (.aload_n 0, 1) := by decide +kernel
theorem own_d_prog_41_method_2_code_1 : decode prog_41_method_2_code 1 = .ok (.getfield 7, 3) := by decide +kernel
theorem own_d_prog_41_method_2_code_4 : decode prog_41_method_2_code 4 = .ok (.aload_n 1, 1) := by decide +kernel
theorem own_d_prog_41_method_2_code_5 : decode prog_41_method_2_code 5 = .ok (.getfield 7, 3) := by decide +kernel
theorem own_d_prog_41_method_2_code_8 : decode prog_41_method_2_code 8 = .ok (.if_icmp .ne 21, 3) := by decide +kernel
theorem own_d_prog_41_method_2_code_11 : decode prog_41_method_2_code 11 = .ok (.aload_n 0, 1) := by decide +kernel
theorem own_d_prog_41_method_2_code_12 : decode prog_41_method_2_code 12 = .ok (.getfield 13, 3) := by decide +kernel
theorem own_d_prog_41_method_2_code_15 : decode prog_41_method_2_code 15 = .ok (.aload_n 1, 1) := by decide +kernel
theorem own_d_prog_41_method_2_code_16 : decode prog_41_method_2_code 16 = .ok (.getfield 13, 3) := by decide +kernel
theorem own_d_prog_41_method_2_code_19 : decode prog_41_method_2_code 19 = .ok (.invokevirtual 21, 3) := by decide +kernel
theorem own_d_prog_41_method_2_code_22 : decode prog_41_method_2_code 22 = .ok (.ifCond .eq 7, 3) := by decide +kernel
theorem own_d_prog_41_method_2_code_25 : decode prog_41_method_2_code 25 = .ok (.iconst 1, 1) := by decide +kernel
theorem own_d_prog_41_method_2_code_26 : decode prog_41_method_2_code 26 = .ok (.goto 4, 3) := by decide +kernel
theorem own_d_prog_41_method_2_code_29 : decode prog_41_method_2_code 29 = .ok (.iconst 0, 1) := by decide +kernel
theorem own_d_prog_41_method_2_code_30 : decode prog_41_method_2_code 30 = .ok (.ireturn, 1) := by decide +kernel
set_option maxRecDepth 65536 in
set_option maxHeartbeats 4000000 in
theorem own_ef_own_rm_sl (m : MethodId) (oa0 : Nat) (oa1 : Nat) : entryFrame m #[(.ref oa0), (.ref oa1)] 2 = (mkF m 0 #[.val (.ref oa0), .val (.ref oa1)] []) := by first | (simp [entryFrame, mkF, argsToLocals, Value.category]; done) | rfl
set_option maxRecDepth 65536 in
set_option maxHeartbeats 4000000 in
theorem own_rm_sl (l : Launch) (Z : State) (a0 : Array Value) (hw : ∀ d ∈ tables_1, d.before a0 Z = true) (oa0 : Nat) (oa1 : Nat) (h : Heap) (xa : Int32) (xb : Int32) (o1 : Nat) (o2 : Nat) (n : Nat) (m' : Nat) (f : Nat → Int32) (g : Nat → Int32) (b : Nat) (d : Nat) (F1 : Fld Z h oa0 "com/example/subsumer/subsumer/Nodes$Edge" "only" "Z" (.int xa)) (R1 : Fld Z h oa0 "com/example/subsumer/subsumer/Nodes$Edge" "role" "Ljava/lang/String;" (.ref o1)) (F2 : Fld Z h oa1 "com/example/subsumer/subsumer/Nodes$Edge" "only" "Z" (.int xb)) (R2 : Fld Z h oa1 "com/example/subsumer/subsumer/Nodes$Edge" "role" "Ljava/lang/String;" (.ref o2)) (I1 : OwnStr Z h o1 b n f) (I2 : OwnStr Z h o2 d m' g) (hne : o1 ≠ o2) (hn : n ≤ 2) (hm : m' ≤ 2) (cs : Int32) (vF : Value) (J : OwnJ Z h cs vF) :
    OwnMet l Z (⟨"com/example/subsumer/subsumer/Nodes$Edge", "sameLabel", "(Lcom/example/subsumer/subsumer/Nodes$Edge;)Z"⟩ : MethodName) prog_41_method_2_code 2 (some .boolean) [] ({ frames := 2, cells := 0, slots := 0, locals := 40 } : Room) #[(.ref oa0), (.ref oa1)] h (OwnPure (.int (own_sl xa xb n m' f g)) h) := by
  refine own_enter (f0 := fun m => mkF m 0 #[.val (.ref oa0), .val (.ref oa1)] []) (plainFor_of_name own_pn_Nodes_Edge) (fun m => own_ef_own_rm_sl m oa0 oa1) ?_
  intro p e s m below meth c T0 X0 C e0
  refine own_aload_n X0 C own_d_prog_41_method_2_code_0 1 rfl rfl rfl ?_
  refine own_getfield X0 C (host := "") (Or.inl (own_w hw 38 rfl)) Via.refl e0 F1 own_d_prog_41_method_2_code_1 4 rfl (fun T1 X1 e1 => ?_)
  refine own_aload_n X1 C own_d_prog_41_method_2_code_4 5 rfl rfl rfl ?_
  refine own_getfield X1 C (host := "") (Or.inl (own_w hw 38 rfl)) Via.refl e1 F2 own_d_prog_41_method_2_code_5 8 rfl (fun T2 X2 e2 => ?_)
  refine own_icmpne X2 C own_d_prog_41_method_2_code_8 11 29 rfl (by decide) (by decide) (i := xa.toInt) rfl (j := xb.toInt) rfl (fun b3 => ?_) (fun b3 => ?_)
  · refine own_iconst X2 C own_d_prog_41_method_2_code_29 30 rfl (0) rfl ?_
    refine own_iretN X2 C .boolean rfl (by simp) own_d_prog_41_method_2_code_30 (by decide) (by decide) (0) (by decide) ?_
    exact ⟨by rw [own_sl, if_neg b3], e2, rfl⟩
  · refine own_aload_n X2 C own_d_prog_41_method_2_code_11 12 rfl rfl rfl ?_
    refine own_getfield X2 C (host := "") (Or.inl (own_w hw 40 rfl)) Via.refl e2 R1 own_d_prog_41_method_2_code_12 15 rfl (fun T4 X4 e4 => ?_)
    refine own_aload_n X4 C own_d_prog_41_method_2_code_15 16 rfl rfl rfl ?_
    refine own_getfield X4 C (host := "") (Or.inl (own_w hw 40 rfl)) Via.refl e4 R2 own_d_prog_41_method_2_code_16 19 rfl (fun T5 X5 e5 => ?_)
    refine own_callV X5 C (own_w hw 49 rfl) (own_w hw 50 rfl) (own_w hw 52 rfl) (own_w hw 51 rfl) (own_w hw 9 rfl) (own_w hw 53 rfl) (by decide) I1.1 (own_rm_seq l Z a0 hw o1 o2 h n m' f g b d I1 I2 hne hn hm cs vF J) e5 own_pd_Ljava_lang_Object__R_Z [(.ref o2)] rfl rfl rfl rfl 0 rfl (by decide) (by decide) (by decide) (by decide) own_d_prog_41_method_2_code_19 22 rfl (fun T6 L6 v6 X6 q6 => ?_)
    obtain ⟨rfl, eh6, rfl⟩ := q6
    have N6 := Fr.app (Fr.nil 0) (Fr.nil 0)
    refine own_ifeq X6 C own_d_prog_41_method_2_code_22 25 29 rfl (by decide) (by decide) (i := (own_seq n m' f g).toInt) rfl (fun b7 => ?_) (fun b7 => ?_)
    · refine own_iconst X6 C own_d_prog_41_method_2_code_29 30 rfl (0) rfl ?_
      refine own_iretN X6 C .boolean rfl (by simp) own_d_prog_41_method_2_code_30 (by decide) (by decide) (0) (by decide) ?_
      exact ⟨by rw [own_sl, if_pos b3, own_seq0 b7], eh6, rfl⟩
    · refine own_iconst X6 C own_d_prog_41_method_2_code_25 26 rfl (1) rfl ?_
      refine own_goto X6 C own_d_prog_41_method_2_code_26 30 (by decide) (by decide) ?_
      refine own_iretN X6 C .boolean rfl (by simp) own_d_prog_41_method_2_code_30 (by decide) (by decide) (1) (by decide) ?_
      exact ⟨by rw [own_sl, if_pos b3, own_seq1 b7], eh6, rfl⟩
theorem own_pd_IIIII_R_Z : parseMethodDescriptor "(IIIII)Z" = some ⟨[.int, .int, .int, .int, .int], some .boolean⟩ := by decide +kernel
set_option maxRecDepth 65536 in
set_option maxHeartbeats 4000000 in
theorem own_ef_own_rm_law (m : MethodId) (ia0 : Int32) (ia1 : Int32) (ia2 : Int32) (ia3 : Int32) (ia4 : Int32) : entryFrame m #[(.int ia0), (.int ia1), (.int ia2), (.int ia3), (.int ia4)] maxLocals = (mkF m 0 #[.val (.int ia0), .val (.int ia1), .val (.int ia2), .val (.int ia3), .val (.int ia4), .unset, .unset, .unset, .unset, .unset, .unset, .unset, .unset, .unset, .unset, .unset, .unset, .unset] []) := by first | (simp [entryFrame, mkF, argsToLocals, Value.category, maxLocals]; done) | rfl
set_option maxRecDepth 65536 in
set_option maxHeartbeats 4000000 in
theorem own_rm_law (l : Launch) (Z : State) (a0 : Array Value) (hw : ∀ d ∈ tables_1, d.before a0 Z = true) (ia0 : Int32) (ia1 : Int32) (ia2 : Int32) (ia3 : Int32) (ia4 : Int32) (h : Heap) (cs : Int32) (vF : Value) (J : OwnJ Z h cs vF) :
    OwnMetWP l Z x code maxLocals ret tables_1 room_1 #[(.int ia0), (.int ia1), (.int ia2), (.int ia3), (.int ia4)] h (fun U => CHv Z own_EL U.vm h) (fun v h' L => v = some (.int 1) ∧ Fr h.size L) := by
  refine own_enterW (f0 := fun m => mkF m 0 #[.val (.int ia0), .val (.int ia1), .val (.int ia2), .val (.int ia3), .val (.int ia4), .unset, .unset, .unset, .unset, .unset, .unset, .unset, .unset, .unset, .unset, .unset, .unset, .unset] []) (plainFor_of_name own_pn_EdgeSameLabelPinLaw) (fun m => own_ef_own_rm_law m ia0 ia1 ia2 ia3 ia4) ?_
  intro p e s m below meth c T0 X0 C e0 hs0 hPX hS
  have HC := CHr.refl hPX
  have J113 : ∀ (oA : Int32) (oB : Int32) (la : Int32) (lb : Int32) (cp : Int32) (xa : Int32) (ya : Int32) (xb : Int32) (yb : Int32) (hA : oA = 0 ∨ oA = 1) (hB : oB = 0 ∨ oB = 1) (hla : 0 ≤ la.toInt ∧ la.toInt ≤ 2) (hlb : 0 ≤ lb.toInt ∧ lb.toInt ≤ 2) (hxa : 0 ≤ xa.toInt ∧ xa.toInt ≤ 255) (hya : 0 ≤ ya.toInt ∧ ya.toInt ≤ 255) (hxb : 0 ≤ xb.toInt ∧ xb.toInt ≤ 255) (hyb : 0 ≤ yb.toInt ∧ yb.toInt ≤ 255), OwnEnds p e below (OwnGW s (room_1).cells (room_1).slots (fun v h' L => v = some (.int 1) ∧ Fr h.size L)) (T0.setTop (mkF m 113 #[.val (.int ia0), .val (.int ia1), .val (.int ia2), .val (.int ia3), .val (.int ia4), .val (.int oA), .val (.int oB), .val (.int la), .val (.int lb), .val (.int cp), .val (.int xa), .val (.int ya), .val (.int xb), .val (.int yb), .unset, .unset, .unset, .unset] [])) := by
    intro oA oB la lb cp xa ya xb yb hA hB hla hlb hxa hya hxb hyb
    refine own_new X0 C (own_w hw 0 rfl) (own_w hw 1 rfl) (own_w hw 2 rfl) e0 at_113 116 rfl (by decide) (by decide) (fun T1 h1 b1 g1 X1 e1 E1 A1 D1 => ?_)
    have F1only : Fld Z h1 b1 "com/example/subsumer/subsumer/Nodes$Edge" "only" "Z" (.int (0 : Int32)) := D1 (Or.inr (own_w hw 39 rfl)) (ty := .boolean) (by decide)
    have F1role : Fld Z h1 b1 "com/example/subsumer/subsumer/Nodes$Edge" "role" "Ljava/lang/String;" .null := D1 (Or.inr (own_w hw 41 rfl)) (ty := (.object "java/lang/String")) (by decide)
    have F1target : Fld Z h1 b1 "com/example/subsumer/subsumer/Nodes$Edge" "target" "I" (.int (0 : Int32)) := D1 (Or.inr (own_w hw 43 rfl)) (ty := .int) (by decide)
    have Ed1 := A1
    have z1 := E1.1
    have gE1 : h.size ≤ b1 := by omega
    replace HC := HC.trans (CHr.ext E1 HC.1)
    replace J := J.ext E1
    refine own_dup X1 C at_116 117 rfl rfl ?_
    refine own_iload X1 C at_117 119 rfl rfl ?_
    refine own_iload X1 C at_119 121 rfl rfl ?_
    refine own_iload X1 C at_121 123 rfl rfl ?_
    refine own_iload X1 C at_123 125 rfl rfl ?_
    refine own_callSH X1 C (own_w hw 3 rfl) (own_w hw 4 rfl) (own_w hw 5 rfl) (own_w hw 6 rfl) (by decide) (own_rm_role l Z a0 hw la xa ya h1 h.size (by omega) hla hxa hya cs vF J) e1 hS (Nat.zero_le _) (own_hEL hw) HC.1 own_pd_ICC_R_Ljava_lang_String_ [(.int la), (.int xa), (.int ya)] rfl rfl rfl rfl 3 rfl (by decide) (by decide) (by decide) (by decide) at_125 128 rfl (fun T2 L2 v2 X2 C hS2 H2 q2 => ?_)
    obtain ⟨o2, d2, rfl, go2, NL2, K2, I1⟩ := q2
    replace HC := HC.trans H2
    have N2 := Fr.app (Fr.nil h.size) NL2
    have w1 := own_exl Ed1
    have no1 : o2 ≠ b1 := by omega
    replace Ed1 := Ed1.keep K2
    have nd1 := own_exar_ne (own_w hw 1 rfl) Ed1 I1.2.2.2.1
    have z2 := K2.1
    replace J := J.keep K2
    replace F1only := F1only.keep K2 nin0
    replace F1role := F1role.keep K2 nin0
    replace F1target := F1target.keep K2 nin0
    refine own_iload_n X2 C at_128 129 rfl rfl ?_
    refine own_callI X2 C rfl (own_w hw 29 rfl) (own_w hw 30 rfl) (own_w hw 2 rfl) (own_w hw 31 rfl) rfl (by decide) (own_rm_einit l Z a0 hw b1 oA o2 ia3 T2.heap h.size gE1 hA Ed1 F1only F1role F1target) rfl own_pd_ZLjava_lang_String_I_R_V [(.int oA), (.ref o2), (.int ia3)] rfl rfl rfl rfl 1 rfl (by decide) (by decide) (by decide) (by decide) at_129 132 rfl (fun T3 L3 v3 X3 q3 => ?_)
    obtain ⟨rfl, NL3, K3, Ex3, Fo3, Fr3⟩ := q3
    have N3 := Fr.app N2 NL3
    have z3 := K3.1
    replace HC := HC.trans (CHr.keep K3 (sfS (Safe.exa C.2.1.alike Ed1 (by decide) (by decide)) sf0) HC.1)
    replace J := J.keepE Ed1 K3
    replace I1 := I1.keep K3 (ninS (own_ne no1) nin0) (ninS (own_ne (Ne.symm nd1)) nin0)
    replace Ed1 := Ex3
    replace F1only := Fo3
    replace F1role := Fr3
    refine own_astore X3 C at_132 134 rfl rfl #[.val (.int ia0), .val (.int ia1), .val (.int ia2), .val (.int ia3), .val (.int ia4), .val (.int oA), .val (.int oB), .val (.int la), .val (.int lb), .val (.int cp), .val (.int xa), .val (.int ya), .val (.int xb), .val (.int yb), .val (.ref b1), .unset, .unset, .unset] rfl ?_
    have u1 := own_exl Ed1
    have u2 := own_exl I1.1
    have u3 := own_arl I1.2.2.2.1
    refine own_new X3 C (own_w hw 0 rfl) (own_w hw 1 rfl) (own_w hw 2 rfl) rfl at_134 137 rfl (by decide) (by decide) (fun T4 h4 b4 g4 X4 e4 E4 A4 D4 => ?_)
    have F2only : Fld Z h4 b4 "com/example/subsumer/subsumer/Nodes$Edge" "only" "Z" (.int (0 : Int32)) := D4 (Or.inr (own_w hw 39 rfl)) (ty := .boolean) (by decide)
    have F2role : Fld Z h4 b4 "com/example/subsumer/subsumer/Nodes$Edge" "role" "Ljava/lang/String;" .null := D4 (Or.inr (own_w hw 41 rfl)) (ty := (.object "java/lang/String")) (by decide)
    have F2target : Fld Z h4 b4 "com/example/subsumer/subsumer/Nodes$Edge" "target" "I" (.int (0 : Int32)) := D4 (Or.inr (own_w hw 43 rfl)) (ty := .int) (by decide)
    have Ed2 := A4
    have z4 := E4.1
    have gE2 : h.size ≤ b4 := by omega
    replace HC := HC.trans (CHr.ext E4 HC.1)
    replace J := J.ext E4
    replace Ed1 := Ed1.ext E4
    replace F1only := F1only.ext E4
    replace F1role := F1role.ext E4
    replace I1 := I1.ext E4
    refine own_dup X4 C at_137 138 rfl rfl ?_
    refine own_iload X4 C at_138 140 rfl rfl ?_
    refine own_iload X4 C at_140 142 rfl rfl ?_
    refine own_iload X4 C at_142 144 rfl rfl ?_
    refine own_iload X4 C at_144 146 rfl rfl ?_
    refine own_callSH X4 C (own_w hw 3 rfl) (own_w hw 4 rfl) (own_w hw 5 rfl) (own_w hw 6 rfl) (by decide) (own_rm_role l Z a0 hw lb xb yb h4 h.size (by omega) hlb hxb hyb cs vF J) e4 hS2 (by first | exact Nat.le_refl _ | omega | (rw [e4]; omega)) (own_hEL hw) HC.1 own_pd_ICC_R_Ljava_lang_String_ [(.int lb), (.int xb), (.int yb)] rfl rfl rfl rfl 3 rfl (by decide) (by decide) (by decide) (by decide) at_146 149 rfl (fun T5 L5 v5 X5 C hS5 H5 q5 => ?_)
    obtain ⟨o5, d5, rfl, go5, NL5, K5, I2⟩ := q5
    replace HC := HC.trans H5
    have N5 := Fr.app N3 NL5
    have w2 := own_exl Ed2
    have no2 : o5 ≠ b4 := by omega
    replace Ed2 := Ed2.keep K5
    have nd2 := own_exar_ne (own_w hw 1 rfl) Ed2 I2.2.2.2.1
    have z5 := K5.1
    replace J := J.keep K5
    replace F2only := F2only.keep K5 nin0
    replace F2role := F2role.keep K5 nin0
    replace F2target := F2target.keep K5 nin0
    have v2 := own_exl I1.1
    have noo : o2 ≠ o5 := by omega
    replace Ed1 := Ed1.keep K5
    replace F1only := F1only.keep K5 nin0
    replace F1role := F1role.keep K5 nin0
    replace I1 := I1.keep K5 nin0 nin0
    refine own_iload X5 C at_149 151 rfl rfl ?_
    refine own_callI X5 C rfl (own_w hw 29 rfl) (own_w hw 30 rfl) (own_w hw 2 rfl) (own_w hw 31 rfl) rfl (by decide) (own_rm_einit l Z a0 hw b4 oB o5 ia4 T5.heap h.size gE2 hB Ed2 F2only F2role F2target) rfl own_pd_ZLjava_lang_String_I_R_V [(.int oB), (.ref o5), (.int ia4)] rfl rfl rfl rfl 1 rfl (by decide) (by decide) (by decide) (by decide) at_151 154 rfl (fun T6 L6 v6 X6 q6 => ?_)
    obtain ⟨rfl, NL6, K6, Ex6, Fo6, Fr6⟩ := q6
    have N6 := Fr.app N5 NL6
    have z6 := K6.1
    replace HC := HC.trans (CHr.keep K6 (sfS (Safe.exa C.2.1.alike Ed2 (by decide) (by decide)) sf0) HC.1)
    replace J := J.keepE Ed2 K6
    replace I2 := I2.keep K6 (ninS (own_ne no2) nin0) (ninS (own_ne (Ne.symm nd2)) nin0)
    replace Ed1 := Ed1.keep K6
    replace F1only := F1only.keep K6 (ninS (own_ne (by omega)) nin0)
    replace F1role := F1role.keep K6 (ninS (own_ne (by omega)) nin0)
    replace I1 := I1.keep K6 (ninS (own_ne (by omega)) nin0) (ninS (own_ne (by omega)) nin0)
    replace Ed2 := Ex6
    replace F2only := Fo6
    replace F2role := Fr6
    refine own_astore X6 C at_154 156 rfl rfl #[.val (.int ia0), .val (.int ia1), .val (.int ia2), .val (.int ia3), .val (.int ia4), .val (.int oA), .val (.int oB), .val (.int la), .val (.int lb), .val (.int cp), .val (.int xa), .val (.int ya), .val (.int xb), .val (.int yb), .val (.ref b1), .val (.ref b4), .unset, .unset] rfl ?_
    refine own_iload X6 C at_156 158 rfl rfl ?_
    refine own_iload X6 C at_158 160 rfl rfl ?_
    refine own_icmpne X6 C at_160 163 193 rfl (by decide) (by decide) (i := la.toInt) rfl (j := lb.toInt) rfl (fun b7 => ?_) (fun b7 => ?_)
    · refine own_iconst X6 C at_193 194 rfl (0) rfl ?_
      refine own_istore X6 C at_194 196 rfl #[.val (.int ia0), .val (.int ia1), .val (.int ia2), .val (.int ia3), .val (.int ia4), .val (.int oA), .val (.int oB), .val (.int la), .val (.int lb), .val (.int cp), .val (.int xa), .val (.int ya), .val (.int xb), .val (.int yb), .val (.ref b1), .val (.ref b4), .val (.int (0 : Int32)), .unset] rfl ?_
      refine own_iload X6 C at_196 198 rfl rfl ?_
      refine own_iload X6 C at_198 200 rfl rfl ?_
      refine own_icmpne X6 C at_200 203 212 rfl (by decide) (by decide) (i := oA.toInt) rfl (j := oB.toInt) rfl (fun b8 => ?_) (fun b8 => ?_)
      · refine own_iconst X6 C at_212 213 rfl (0) rfl ?_
        refine own_istore X6 C at_213 215 rfl #[.val (.int ia0), .val (.int ia1), .val (.int ia2), .val (.int ia3), .val (.int ia4), .val (.int oA), .val (.int oB), .val (.int la), .val (.int lb), .val (.int cp), .val (.int xa), .val (.int ya), .val (.int xb), .val (.int yb), .val (.ref b1), .val (.ref b4), .val (.int (0 : Int32)), .val (.int (0 : Int32))] rfl ?_
        refine own_aload X6 C at_215 217 rfl rfl rfl ?_
        refine own_aload X6 C at_217 219 rfl rfl rfl ?_
        refine own_callV X6 C (own_w hw 44 rfl) (own_w hw 45 rfl) (own_w hw 47 rfl) (own_w hw 46 rfl) (own_w hw 2 rfl) (own_w hw 48 rfl) (by decide) Ed1 (own_rm_sl l Z a0 hw b1 b4 T6.heap oA oB o2 o5 _ _ _ _ d2 d5 F1only F1role F2only F2role I1 I2 noo (by omega) (by omega) cs vF J) rfl own_pd_Lcom_example_subsumer_subsumer_Nodes_Edge__R_Z [(.ref b4)] rfl rfl rfl rfl 0 rfl (by decide) (by decide) (by decide) (by decide) at_219 222 rfl (fun T9 L9 v9 X9 q9 => ?_)
        obtain ⟨rfl, eh9, rfl⟩ := q9
        have N9 := Fr.app N6 (Fr.nil h.size)
        refine own_iload X9 C at_222 224 rfl rfl ?_
        refine own_icmpne X9 C at_224 227 243 rfl (by decide) (by decide) (i := (own_sl oA oB la.toInt.toNat lb.toInt.toNat (own_G (own_cv xa ya)) (own_G (own_cv xb yb))).toInt) rfl (j := 0) (by decide) (fun b10 => ?_) (fun b10 => ?_)
        · exfalso
          have kk := own_sl_v oA oB la.toInt.toNat lb.toInt.toNat (x := xa) (y := ya) (z := xb) (w := yb) (by omega) hxa hya hxb hyb
          omega
        · refine own_aload X9 C at_227 229 rfl rfl rfl ?_
          refine own_aload X9 C at_229 231 rfl rfl rfl ?_
          refine own_callV X9 C (own_w hw 44 rfl) (own_w hw 45 rfl) (own_w hw 47 rfl) (own_w hw 46 rfl) (own_w hw 2 rfl) (own_w hw 48 rfl) (by decide) Ed2 (own_rm_sl l Z a0 hw b4 b1 T6.heap oB oA o5 o2 _ _ _ _ d5 d2 F2only F2role F1only F1role I2 I1 (Ne.symm noo) (by omega) (by omega) cs vF J) eh9 own_pd_Lcom_example_subsumer_subsumer_Nodes_Edge__R_Z [(.ref b1)] rfl rfl rfl rfl 0 rfl (by decide) (by decide) (by decide) (by decide) at_231 234 rfl (fun T11 L11 v11 X11 q11 => ?_)
          obtain ⟨rfl, eh11, rfl⟩ := q11
          have N11 := Fr.app N9 (Fr.nil h.size)
          refine own_iload X11 C at_234 236 rfl rfl ?_
          refine own_icmpne X11 C at_236 239 243 rfl (by decide) (by decide) (i := (own_sl oB oA lb.toInt.toNat la.toInt.toNat (own_G (own_cv xb yb)) (own_G (own_cv xa ya))).toInt) rfl (j := 0) (by decide) (fun b12 => ?_) (fun b12 => ?_)
          · exfalso
            have kk := own_sl_v oB oA lb.toInt.toNat la.toInt.toNat (x := xb) (y := yb) (z := xa) (w := ya) (by omega) hxb hyb hxa hya
            omega
          · refine own_iconst X11 C at_239 240 rfl (1) rfl ?_
            refine own_goto X11 C at_240 244 (by decide) (by decide) ?_
            refine own_iretNW X11 C hS5 (by first | exact Nat.le_refl _ | omega | (rw [eh11]; omega)) .boolean rfl (by simp) at_244 (by decide) (by decide) (1) (by decide) ?_
            exact ⟨rfl, N11⟩
      · refine own_iload X6 C at_203 205 rfl rfl ?_
        refine own_ifeq X6 C at_205 208 212 rfl (by decide) (by decide) (i := 0) (by decide) (fun b13 => ?_) (fun b13 => ?_)
        · refine own_iconst X6 C at_212 213 rfl (0) rfl ?_
          refine own_istore X6 C at_213 215 rfl #[.val (.int ia0), .val (.int ia1), .val (.int ia2), .val (.int ia3), .val (.int ia4), .val (.int oA), .val (.int oB), .val (.int la), .val (.int lb), .val (.int cp), .val (.int xa), .val (.int ya), .val (.int xb), .val (.int yb), .val (.ref b1), .val (.ref b4), .val (.int (0 : Int32)), .val (.int (0 : Int32))] rfl ?_
          refine own_aload X6 C at_215 217 rfl rfl rfl ?_
          refine own_aload X6 C at_217 219 rfl rfl rfl ?_
          refine own_callV X6 C (own_w hw 44 rfl) (own_w hw 45 rfl) (own_w hw 47 rfl) (own_w hw 46 rfl) (own_w hw 2 rfl) (own_w hw 48 rfl) (by decide) Ed1 (own_rm_sl l Z a0 hw b1 b4 T6.heap oA oB o2 o5 _ _ _ _ d2 d5 F1only F1role F2only F2role I1 I2 noo (by omega) (by omega) cs vF J) rfl own_pd_Lcom_example_subsumer_subsumer_Nodes_Edge__R_Z [(.ref b4)] rfl rfl rfl rfl 0 rfl (by decide) (by decide) (by decide) (by decide) at_219 222 rfl (fun T14 L14 v14 X14 q14 => ?_)
          obtain ⟨rfl, eh14, rfl⟩ := q14
          have N14 := Fr.app N6 (Fr.nil h.size)
          refine own_iload X14 C at_222 224 rfl rfl ?_
          refine own_icmpne X14 C at_224 227 243 rfl (by decide) (by decide) (i := (own_sl oA oB la.toInt.toNat lb.toInt.toNat (own_G (own_cv xa ya)) (own_G (own_cv xb yb))).toInt) rfl (j := 0) (by decide) (fun b15 => ?_) (fun b15 => ?_)
          · exfalso
            have kk := own_sl_v oA oB la.toInt.toNat lb.toInt.toNat (x := xa) (y := ya) (z := xb) (w := yb) (by omega) hxa hya hxb hyb
            omega
          · refine own_aload X14 C at_227 229 rfl rfl rfl ?_
            refine own_aload X14 C at_229 231 rfl rfl rfl ?_
            refine own_callV X14 C (own_w hw 44 rfl) (own_w hw 45 rfl) (own_w hw 47 rfl) (own_w hw 46 rfl) (own_w hw 2 rfl) (own_w hw 48 rfl) (by decide) Ed2 (own_rm_sl l Z a0 hw b4 b1 T6.heap oB oA o5 o2 _ _ _ _ d5 d2 F2only F2role F1only F1role I2 I1 (Ne.symm noo) (by omega) (by omega) cs vF J) eh14 own_pd_Lcom_example_subsumer_subsumer_Nodes_Edge__R_Z [(.ref b1)] rfl rfl rfl rfl 0 rfl (by decide) (by decide) (by decide) (by decide) at_231 234 rfl (fun T16 L16 v16 X16 q16 => ?_)
            obtain ⟨rfl, eh16, rfl⟩ := q16
            have N16 := Fr.app N14 (Fr.nil h.size)
            refine own_iload X16 C at_234 236 rfl rfl ?_
            refine own_icmpne X16 C at_236 239 243 rfl (by decide) (by decide) (i := (own_sl oB oA lb.toInt.toNat la.toInt.toNat (own_G (own_cv xb yb)) (own_G (own_cv xa ya))).toInt) rfl (j := 0) (by decide) (fun b17 => ?_) (fun b17 => ?_)
            · exfalso
              have kk := own_sl_v oB oA lb.toInt.toNat la.toInt.toNat (x := xb) (y := yb) (z := xa) (w := ya) (by omega) hxb hyb hxa hya
              omega
            · refine own_iconst X16 C at_239 240 rfl (1) rfl ?_
              refine own_goto X16 C at_240 244 (by decide) (by decide) ?_
              refine own_iretNW X16 C hS5 (by first | exact Nat.le_refl _ | omega | (rw [eh16]; omega)) .boolean rfl (by simp) at_244 (by decide) (by decide) (1) (by decide) ?_
              exact ⟨rfl, N16⟩
        · exfalso
          omega
    · refine own_iload X6 C at_163 165 rfl rfl ?_
      refine own_iconst X6 C at_165 166 rfl (1) rfl ?_
      refine own_icmplt X6 C at_166 169 176 rfl (by decide) (by decide) (i := la.toInt) rfl (j := 1) (by decide) (fun b18 => ?_) (fun b18 => ?_)
      · refine own_iload X6 C at_176 178 rfl rfl ?_
        refine own_iconst X6 C at_178 179 rfl (2) rfl ?_
        refine own_icmplt X6 C at_179 182 189 rfl (by decide) (by decide) (i := la.toInt) rfl (j := 2) (by decide) (fun b19 => ?_) (fun b19 => ?_)
        · refine own_iconst X6 C at_189 190 rfl (1) rfl ?_
          refine own_goto X6 C at_190 194 (by decide) (by decide) ?_
          refine own_istore X6 C at_194 196 rfl #[.val (.int ia0), .val (.int ia1), .val (.int ia2), .val (.int ia3), .val (.int ia4), .val (.int oA), .val (.int oB), .val (.int la), .val (.int lb), .val (.int cp), .val (.int xa), .val (.int ya), .val (.int xb), .val (.int yb), .val (.ref b1), .val (.ref b4), .val (.int (1 : Int32)), .unset] rfl ?_
          refine own_iload X6 C at_196 198 rfl rfl ?_
          refine own_iload X6 C at_198 200 rfl rfl ?_
          refine own_icmpne X6 C at_200 203 212 rfl (by decide) (by decide) (i := oA.toInt) rfl (j := oB.toInt) rfl (fun b20 => ?_) (fun b20 => ?_)
          · refine own_iconst X6 C at_212 213 rfl (0) rfl ?_
            refine own_istore X6 C at_213 215 rfl #[.val (.int ia0), .val (.int ia1), .val (.int ia2), .val (.int ia3), .val (.int ia4), .val (.int oA), .val (.int oB), .val (.int la), .val (.int lb), .val (.int cp), .val (.int xa), .val (.int ya), .val (.int xb), .val (.int yb), .val (.ref b1), .val (.ref b4), .val (.int (1 : Int32)), .val (.int (0 : Int32))] rfl ?_
            refine own_aload X6 C at_215 217 rfl rfl rfl ?_
            refine own_aload X6 C at_217 219 rfl rfl rfl ?_
            refine own_callV X6 C (own_w hw 44 rfl) (own_w hw 45 rfl) (own_w hw 47 rfl) (own_w hw 46 rfl) (own_w hw 2 rfl) (own_w hw 48 rfl) (by decide) Ed1 (own_rm_sl l Z a0 hw b1 b4 T6.heap oA oB o2 o5 _ _ _ _ d2 d5 F1only F1role F2only F2role I1 I2 noo (by omega) (by omega) cs vF J) rfl own_pd_Lcom_example_subsumer_subsumer_Nodes_Edge__R_Z [(.ref b4)] rfl rfl rfl rfl 0 rfl (by decide) (by decide) (by decide) (by decide) at_219 222 rfl (fun T21 L21 v21 X21 q21 => ?_)
            obtain ⟨rfl, eh21, rfl⟩ := q21
            have N21 := Fr.app N6 (Fr.nil h.size)
            refine own_iload X21 C at_222 224 rfl rfl ?_
            refine own_icmpne X21 C at_224 227 243 rfl (by decide) (by decide) (i := (own_sl oA oB la.toInt.toNat lb.toInt.toNat (own_G (own_cv xa ya)) (own_G (own_cv xb yb))).toInt) rfl (j := 0) (by decide) (fun b22 => ?_) (fun b22 => ?_)
            · exfalso
              have kk := own_sl_v oA oB la.toInt.toNat lb.toInt.toNat (x := xa) (y := ya) (z := xb) (w := yb) (by omega) hxa hya hxb hyb
              omega
            · refine own_aload X21 C at_227 229 rfl rfl rfl ?_
              refine own_aload X21 C at_229 231 rfl rfl rfl ?_
              refine own_callV X21 C (own_w hw 44 rfl) (own_w hw 45 rfl) (own_w hw 47 rfl) (own_w hw 46 rfl) (own_w hw 2 rfl) (own_w hw 48 rfl) (by decide) Ed2 (own_rm_sl l Z a0 hw b4 b1 T6.heap oB oA o5 o2 _ _ _ _ d5 d2 F2only F2role F1only F1role I2 I1 (Ne.symm noo) (by omega) (by omega) cs vF J) eh21 own_pd_Lcom_example_subsumer_subsumer_Nodes_Edge__R_Z [(.ref b1)] rfl rfl rfl rfl 0 rfl (by decide) (by decide) (by decide) (by decide) at_231 234 rfl (fun T23 L23 v23 X23 q23 => ?_)
              obtain ⟨rfl, eh23, rfl⟩ := q23
              have N23 := Fr.app N21 (Fr.nil h.size)
              refine own_iload X23 C at_234 236 rfl rfl ?_
              refine own_icmpne X23 C at_236 239 243 rfl (by decide) (by decide) (i := (own_sl oB oA lb.toInt.toNat la.toInt.toNat (own_G (own_cv xb yb)) (own_G (own_cv xa ya))).toInt) rfl (j := 0) (by decide) (fun b24 => ?_) (fun b24 => ?_)
              · exfalso
                have kk := own_sl_v oB oA lb.toInt.toNat la.toInt.toNat (x := xb) (y := yb) (z := xa) (w := ya) (by omega) hxb hyb hxa hya
                omega
              · refine own_iconst X23 C at_239 240 rfl (1) rfl ?_
                refine own_goto X23 C at_240 244 (by decide) (by decide) ?_
                refine own_iretNW X23 C hS5 (by first | exact Nat.le_refl _ | omega | (rw [eh23]; omega)) .boolean rfl (by simp) at_244 (by decide) (by decide) (1) (by decide) ?_
                exact ⟨rfl, N23⟩
          · refine own_iload X6 C at_203 205 rfl rfl ?_
            refine own_ifeq X6 C at_205 208 212 rfl (by decide) (by decide) (i := 1) (by decide) (fun b25 => ?_) (fun b25 => ?_)
            · exfalso
              omega
            · refine own_iconst X6 C at_208 209 rfl (1) rfl ?_
              refine own_goto X6 C at_209 213 (by decide) (by decide) ?_
              refine own_istore X6 C at_213 215 rfl #[.val (.int ia0), .val (.int ia1), .val (.int ia2), .val (.int ia3), .val (.int ia4), .val (.int oA), .val (.int oB), .val (.int la), .val (.int lb), .val (.int cp), .val (.int xa), .val (.int ya), .val (.int xb), .val (.int yb), .val (.ref b1), .val (.ref b4), .val (.int (1 : Int32)), .val (.int (1 : Int32))] rfl ?_
              refine own_aload X6 C at_215 217 rfl rfl rfl ?_
              refine own_aload X6 C at_217 219 rfl rfl rfl ?_
              refine own_callV X6 C (own_w hw 44 rfl) (own_w hw 45 rfl) (own_w hw 47 rfl) (own_w hw 46 rfl) (own_w hw 2 rfl) (own_w hw 48 rfl) (by decide) Ed1 (own_rm_sl l Z a0 hw b1 b4 T6.heap oA oB o2 o5 _ _ _ _ d2 d5 F1only F1role F2only F2role I1 I2 noo (by omega) (by omega) cs vF J) rfl own_pd_Lcom_example_subsumer_subsumer_Nodes_Edge__R_Z [(.ref b4)] rfl rfl rfl rfl 0 rfl (by decide) (by decide) (by decide) (by decide) at_219 222 rfl (fun T26 L26 v26 X26 q26 => ?_)
              obtain ⟨rfl, eh26, rfl⟩ := q26
              have N26 := Fr.app N6 (Fr.nil h.size)
              refine own_iload X26 C at_222 224 rfl rfl ?_
              refine own_icmpne X26 C at_224 227 243 rfl (by decide) (by decide) (i := (own_sl oA oB la.toInt.toNat lb.toInt.toNat (own_G (own_cv xa ya)) (own_G (own_cv xb yb))).toInt) rfl (j := 1) (by decide) (fun b27 => ?_) (fun b27 => ?_)
              · exfalso
                have kk := own_sl_v oA oB la.toInt.toNat lb.toInt.toNat (x := xa) (y := ya) (z := xb) (w := yb) (by omega) hxa hya hxb hyb
                omega
              · refine own_aload X26 C at_227 229 rfl rfl rfl ?_
                refine own_aload X26 C at_229 231 rfl rfl rfl ?_
                refine own_callV X26 C (own_w hw 44 rfl) (own_w hw 45 rfl) (own_w hw 47 rfl) (own_w hw 46 rfl) (own_w hw 2 rfl) (own_w hw 48 rfl) (by decide) Ed2 (own_rm_sl l Z a0 hw b4 b1 T6.heap oB oA o5 o2 _ _ _ _ d5 d2 F2only F2role F1only F1role I2 I1 (Ne.symm noo) (by omega) (by omega) cs vF J) eh26 own_pd_Lcom_example_subsumer_subsumer_Nodes_Edge__R_Z [(.ref b1)] rfl rfl rfl rfl 0 rfl (by decide) (by decide) (by decide) (by decide) at_231 234 rfl (fun T28 L28 v28 X28 q28 => ?_)
                obtain ⟨rfl, eh28, rfl⟩ := q28
                have N28 := Fr.app N26 (Fr.nil h.size)
                refine own_iload X28 C at_234 236 rfl rfl ?_
                refine own_icmpne X28 C at_236 239 243 rfl (by decide) (by decide) (i := (own_sl oB oA lb.toInt.toNat la.toInt.toNat (own_G (own_cv xb yb)) (own_G (own_cv xa ya))).toInt) rfl (j := 1) (by decide) (fun b29 => ?_) (fun b29 => ?_)
                · exfalso
                  have kk := own_sl_v oB oA lb.toInt.toNat la.toInt.toNat (x := xb) (y := yb) (z := xa) (w := ya) (by omega) hxb hyb hxa hya
                  omega
                · refine own_iconst X28 C at_239 240 rfl (1) rfl ?_
                  refine own_goto X28 C at_240 244 (by decide) (by decide) ?_
                  refine own_iretNW X28 C hS5 (by first | exact Nat.le_refl _ | omega | (rw [eh28]; omega)) .boolean rfl (by simp) at_244 (by decide) (by decide) (1) (by decide) ?_
                  exact ⟨rfl, N28⟩
        · refine own_iload X6 C at_182 184 rfl rfl ?_
          refine own_iload X6 C at_184 186 rfl rfl ?_
          refine own_icmpne X6 C at_186 189 193 rfl (by decide) (by decide) (i := ya.toInt) rfl (j := yb.toInt) rfl (fun b30 => ?_) (fun b30 => ?_)
          · refine own_iconst X6 C at_193 194 rfl (0) rfl ?_
            refine own_istore X6 C at_194 196 rfl #[.val (.int ia0), .val (.int ia1), .val (.int ia2), .val (.int ia3), .val (.int ia4), .val (.int oA), .val (.int oB), .val (.int la), .val (.int lb), .val (.int cp), .val (.int xa), .val (.int ya), .val (.int xb), .val (.int yb), .val (.ref b1), .val (.ref b4), .val (.int (0 : Int32)), .unset] rfl ?_
            refine own_iload X6 C at_196 198 rfl rfl ?_
            refine own_iload X6 C at_198 200 rfl rfl ?_
            refine own_icmpne X6 C at_200 203 212 rfl (by decide) (by decide) (i := oA.toInt) rfl (j := oB.toInt) rfl (fun b31 => ?_) (fun b31 => ?_)
            · refine own_iconst X6 C at_212 213 rfl (0) rfl ?_
              refine own_istore X6 C at_213 215 rfl #[.val (.int ia0), .val (.int ia1), .val (.int ia2), .val (.int ia3), .val (.int ia4), .val (.int oA), .val (.int oB), .val (.int la), .val (.int lb), .val (.int cp), .val (.int xa), .val (.int ya), .val (.int xb), .val (.int yb), .val (.ref b1), .val (.ref b4), .val (.int (0 : Int32)), .val (.int (0 : Int32))] rfl ?_
              refine own_aload X6 C at_215 217 rfl rfl rfl ?_
              refine own_aload X6 C at_217 219 rfl rfl rfl ?_
              refine own_callV X6 C (own_w hw 44 rfl) (own_w hw 45 rfl) (own_w hw 47 rfl) (own_w hw 46 rfl) (own_w hw 2 rfl) (own_w hw 48 rfl) (by decide) Ed1 (own_rm_sl l Z a0 hw b1 b4 T6.heap oA oB o2 o5 _ _ _ _ d2 d5 F1only F1role F2only F2role I1 I2 noo (by omega) (by omega) cs vF J) rfl own_pd_Lcom_example_subsumer_subsumer_Nodes_Edge__R_Z [(.ref b4)] rfl rfl rfl rfl 0 rfl (by decide) (by decide) (by decide) (by decide) at_219 222 rfl (fun T32 L32 v32 X32 q32 => ?_)
              obtain ⟨rfl, eh32, rfl⟩ := q32
              have N32 := Fr.app N6 (Fr.nil h.size)
              refine own_iload X32 C at_222 224 rfl rfl ?_
              refine own_icmpne X32 C at_224 227 243 rfl (by decide) (by decide) (i := (own_sl oA oB la.toInt.toNat lb.toInt.toNat (own_G (own_cv xa ya)) (own_G (own_cv xb yb))).toInt) rfl (j := 0) (by decide) (fun b33 => ?_) (fun b33 => ?_)
              · exfalso
                have kk := own_sl_v oA oB la.toInt.toNat lb.toInt.toNat (x := xa) (y := ya) (z := xb) (w := yb) (by omega) hxa hya hxb hyb
                omega
              · refine own_aload X32 C at_227 229 rfl rfl rfl ?_
                refine own_aload X32 C at_229 231 rfl rfl rfl ?_
                refine own_callV X32 C (own_w hw 44 rfl) (own_w hw 45 rfl) (own_w hw 47 rfl) (own_w hw 46 rfl) (own_w hw 2 rfl) (own_w hw 48 rfl) (by decide) Ed2 (own_rm_sl l Z a0 hw b4 b1 T6.heap oB oA o5 o2 _ _ _ _ d5 d2 F2only F2role F1only F1role I2 I1 (Ne.symm noo) (by omega) (by omega) cs vF J) eh32 own_pd_Lcom_example_subsumer_subsumer_Nodes_Edge__R_Z [(.ref b1)] rfl rfl rfl rfl 0 rfl (by decide) (by decide) (by decide) (by decide) at_231 234 rfl (fun T34 L34 v34 X34 q34 => ?_)
                obtain ⟨rfl, eh34, rfl⟩ := q34
                have N34 := Fr.app N32 (Fr.nil h.size)
                refine own_iload X34 C at_234 236 rfl rfl ?_
                refine own_icmpne X34 C at_236 239 243 rfl (by decide) (by decide) (i := (own_sl oB oA lb.toInt.toNat la.toInt.toNat (own_G (own_cv xb yb)) (own_G (own_cv xa ya))).toInt) rfl (j := 0) (by decide) (fun b35 => ?_) (fun b35 => ?_)
                · exfalso
                  have kk := own_sl_v oB oA lb.toInt.toNat la.toInt.toNat (x := xb) (y := yb) (z := xa) (w := ya) (by omega) hxb hyb hxa hya
                  omega
                · refine own_iconst X34 C at_239 240 rfl (1) rfl ?_
                  refine own_goto X34 C at_240 244 (by decide) (by decide) ?_
                  refine own_iretNW X34 C hS5 (by first | exact Nat.le_refl _ | omega | (rw [eh34]; omega)) .boolean rfl (by simp) at_244 (by decide) (by decide) (1) (by decide) ?_
                  exact ⟨rfl, N34⟩
            · refine own_iload X6 C at_203 205 rfl rfl ?_
              refine own_ifeq X6 C at_205 208 212 rfl (by decide) (by decide) (i := 0) (by decide) (fun b36 => ?_) (fun b36 => ?_)
              · refine own_iconst X6 C at_212 213 rfl (0) rfl ?_
                refine own_istore X6 C at_213 215 rfl #[.val (.int ia0), .val (.int ia1), .val (.int ia2), .val (.int ia3), .val (.int ia4), .val (.int oA), .val (.int oB), .val (.int la), .val (.int lb), .val (.int cp), .val (.int xa), .val (.int ya), .val (.int xb), .val (.int yb), .val (.ref b1), .val (.ref b4), .val (.int (0 : Int32)), .val (.int (0 : Int32))] rfl ?_
                refine own_aload X6 C at_215 217 rfl rfl rfl ?_
                refine own_aload X6 C at_217 219 rfl rfl rfl ?_
                refine own_callV X6 C (own_w hw 44 rfl) (own_w hw 45 rfl) (own_w hw 47 rfl) (own_w hw 46 rfl) (own_w hw 2 rfl) (own_w hw 48 rfl) (by decide) Ed1 (own_rm_sl l Z a0 hw b1 b4 T6.heap oA oB o2 o5 _ _ _ _ d2 d5 F1only F1role F2only F2role I1 I2 noo (by omega) (by omega) cs vF J) rfl own_pd_Lcom_example_subsumer_subsumer_Nodes_Edge__R_Z [(.ref b4)] rfl rfl rfl rfl 0 rfl (by decide) (by decide) (by decide) (by decide) at_219 222 rfl (fun T37 L37 v37 X37 q37 => ?_)
                obtain ⟨rfl, eh37, rfl⟩ := q37
                have N37 := Fr.app N6 (Fr.nil h.size)
                refine own_iload X37 C at_222 224 rfl rfl ?_
                refine own_icmpne X37 C at_224 227 243 rfl (by decide) (by decide) (i := (own_sl oA oB la.toInt.toNat lb.toInt.toNat (own_G (own_cv xa ya)) (own_G (own_cv xb yb))).toInt) rfl (j := 0) (by decide) (fun b38 => ?_) (fun b38 => ?_)
                · exfalso
                  have kk := own_sl_v oA oB la.toInt.toNat lb.toInt.toNat (x := xa) (y := ya) (z := xb) (w := yb) (by omega) hxa hya hxb hyb
                  omega
                · refine own_aload X37 C at_227 229 rfl rfl rfl ?_
                  refine own_aload X37 C at_229 231 rfl rfl rfl ?_
                  refine own_callV X37 C (own_w hw 44 rfl) (own_w hw 45 rfl) (own_w hw 47 rfl) (own_w hw 46 rfl) (own_w hw 2 rfl) (own_w hw 48 rfl) (by decide) Ed2 (own_rm_sl l Z a0 hw b4 b1 T6.heap oB oA o5 o2 _ _ _ _ d5 d2 F2only F2role F1only F1role I2 I1 (Ne.symm noo) (by omega) (by omega) cs vF J) eh37 own_pd_Lcom_example_subsumer_subsumer_Nodes_Edge__R_Z [(.ref b1)] rfl rfl rfl rfl 0 rfl (by decide) (by decide) (by decide) (by decide) at_231 234 rfl (fun T39 L39 v39 X39 q39 => ?_)
                  obtain ⟨rfl, eh39, rfl⟩ := q39
                  have N39 := Fr.app N37 (Fr.nil h.size)
                  refine own_iload X39 C at_234 236 rfl rfl ?_
                  refine own_icmpne X39 C at_236 239 243 rfl (by decide) (by decide) (i := (own_sl oB oA lb.toInt.toNat la.toInt.toNat (own_G (own_cv xb yb)) (own_G (own_cv xa ya))).toInt) rfl (j := 0) (by decide) (fun b40 => ?_) (fun b40 => ?_)
                  · exfalso
                    have kk := own_sl_v oB oA lb.toInt.toNat la.toInt.toNat (x := xb) (y := yb) (z := xa) (w := ya) (by omega) hxb hyb hxa hya
                    omega
                  · refine own_iconst X39 C at_239 240 rfl (1) rfl ?_
                    refine own_goto X39 C at_240 244 (by decide) (by decide) ?_
                    refine own_iretNW X39 C hS5 (by first | exact Nat.le_refl _ | omega | (rw [eh39]; omega)) .boolean rfl (by simp) at_244 (by decide) (by decide) (1) (by decide) ?_
                    exact ⟨rfl, N39⟩
              · exfalso
                omega
          · refine own_iconst X6 C at_189 190 rfl (1) rfl ?_
            refine own_goto X6 C at_190 194 (by decide) (by decide) ?_
            refine own_istore X6 C at_194 196 rfl #[.val (.int ia0), .val (.int ia1), .val (.int ia2), .val (.int ia3), .val (.int ia4), .val (.int oA), .val (.int oB), .val (.int la), .val (.int lb), .val (.int cp), .val (.int xa), .val (.int ya), .val (.int xb), .val (.int yb), .val (.ref b1), .val (.ref b4), .val (.int (1 : Int32)), .unset] rfl ?_
            refine own_iload X6 C at_196 198 rfl rfl ?_
            refine own_iload X6 C at_198 200 rfl rfl ?_
            refine own_icmpne X6 C at_200 203 212 rfl (by decide) (by decide) (i := oA.toInt) rfl (j := oB.toInt) rfl (fun b41 => ?_) (fun b41 => ?_)
            · refine own_iconst X6 C at_212 213 rfl (0) rfl ?_
              refine own_istore X6 C at_213 215 rfl #[.val (.int ia0), .val (.int ia1), .val (.int ia2), .val (.int ia3), .val (.int ia4), .val (.int oA), .val (.int oB), .val (.int la), .val (.int lb), .val (.int cp), .val (.int xa), .val (.int ya), .val (.int xb), .val (.int yb), .val (.ref b1), .val (.ref b4), .val (.int (1 : Int32)), .val (.int (0 : Int32))] rfl ?_
              refine own_aload X6 C at_215 217 rfl rfl rfl ?_
              refine own_aload X6 C at_217 219 rfl rfl rfl ?_
              refine own_callV X6 C (own_w hw 44 rfl) (own_w hw 45 rfl) (own_w hw 47 rfl) (own_w hw 46 rfl) (own_w hw 2 rfl) (own_w hw 48 rfl) (by decide) Ed1 (own_rm_sl l Z a0 hw b1 b4 T6.heap oA oB o2 o5 _ _ _ _ d2 d5 F1only F1role F2only F2role I1 I2 noo (by omega) (by omega) cs vF J) rfl own_pd_Lcom_example_subsumer_subsumer_Nodes_Edge__R_Z [(.ref b4)] rfl rfl rfl rfl 0 rfl (by decide) (by decide) (by decide) (by decide) at_219 222 rfl (fun T42 L42 v42 X42 q42 => ?_)
              obtain ⟨rfl, eh42, rfl⟩ := q42
              have N42 := Fr.app N6 (Fr.nil h.size)
              refine own_iload X42 C at_222 224 rfl rfl ?_
              refine own_icmpne X42 C at_224 227 243 rfl (by decide) (by decide) (i := (own_sl oA oB la.toInt.toNat lb.toInt.toNat (own_G (own_cv xa ya)) (own_G (own_cv xb yb))).toInt) rfl (j := 0) (by decide) (fun b43 => ?_) (fun b43 => ?_)
              · exfalso
                have kk := own_sl_v oA oB la.toInt.toNat lb.toInt.toNat (x := xa) (y := ya) (z := xb) (w := yb) (by omega) hxa hya hxb hyb
                omega
              · refine own_aload X42 C at_227 229 rfl rfl rfl ?_
                refine own_aload X42 C at_229 231 rfl rfl rfl ?_
                refine own_callV X42 C (own_w hw 44 rfl) (own_w hw 45 rfl) (own_w hw 47 rfl) (own_w hw 46 rfl) (own_w hw 2 rfl) (own_w hw 48 rfl) (by decide) Ed2 (own_rm_sl l Z a0 hw b4 b1 T6.heap oB oA o5 o2 _ _ _ _ d5 d2 F2only F2role F1only F1role I2 I1 (Ne.symm noo) (by omega) (by omega) cs vF J) eh42 own_pd_Lcom_example_subsumer_subsumer_Nodes_Edge__R_Z [(.ref b1)] rfl rfl rfl rfl 0 rfl (by decide) (by decide) (by decide) (by decide) at_231 234 rfl (fun T44 L44 v44 X44 q44 => ?_)
                obtain ⟨rfl, eh44, rfl⟩ := q44
                have N44 := Fr.app N42 (Fr.nil h.size)
                refine own_iload X44 C at_234 236 rfl rfl ?_
                refine own_icmpne X44 C at_236 239 243 rfl (by decide) (by decide) (i := (own_sl oB oA lb.toInt.toNat la.toInt.toNat (own_G (own_cv xb yb)) (own_G (own_cv xa ya))).toInt) rfl (j := 0) (by decide) (fun b45 => ?_) (fun b45 => ?_)
                · exfalso
                  have kk := own_sl_v oB oA lb.toInt.toNat la.toInt.toNat (x := xb) (y := yb) (z := xa) (w := ya) (by omega) hxb hyb hxa hya
                  omega
                · refine own_iconst X44 C at_239 240 rfl (1) rfl ?_
                  refine own_goto X44 C at_240 244 (by decide) (by decide) ?_
                  refine own_iretNW X44 C hS5 (by first | exact Nat.le_refl _ | omega | (rw [eh44]; omega)) .boolean rfl (by simp) at_244 (by decide) (by decide) (1) (by decide) ?_
                  exact ⟨rfl, N44⟩
            · refine own_iload X6 C at_203 205 rfl rfl ?_
              refine own_ifeq X6 C at_205 208 212 rfl (by decide) (by decide) (i := 1) (by decide) (fun b46 => ?_) (fun b46 => ?_)
              · exfalso
                omega
              · refine own_iconst X6 C at_208 209 rfl (1) rfl ?_
                refine own_goto X6 C at_209 213 (by decide) (by decide) ?_
                refine own_istore X6 C at_213 215 rfl #[.val (.int ia0), .val (.int ia1), .val (.int ia2), .val (.int ia3), .val (.int ia4), .val (.int oA), .val (.int oB), .val (.int la), .val (.int lb), .val (.int cp), .val (.int xa), .val (.int ya), .val (.int xb), .val (.int yb), .val (.ref b1), .val (.ref b4), .val (.int (1 : Int32)), .val (.int (1 : Int32))] rfl ?_
                refine own_aload X6 C at_215 217 rfl rfl rfl ?_
                refine own_aload X6 C at_217 219 rfl rfl rfl ?_
                refine own_callV X6 C (own_w hw 44 rfl) (own_w hw 45 rfl) (own_w hw 47 rfl) (own_w hw 46 rfl) (own_w hw 2 rfl) (own_w hw 48 rfl) (by decide) Ed1 (own_rm_sl l Z a0 hw b1 b4 T6.heap oA oB o2 o5 _ _ _ _ d2 d5 F1only F1role F2only F2role I1 I2 noo (by omega) (by omega) cs vF J) rfl own_pd_Lcom_example_subsumer_subsumer_Nodes_Edge__R_Z [(.ref b4)] rfl rfl rfl rfl 0 rfl (by decide) (by decide) (by decide) (by decide) at_219 222 rfl (fun T47 L47 v47 X47 q47 => ?_)
                obtain ⟨rfl, eh47, rfl⟩ := q47
                have N47 := Fr.app N6 (Fr.nil h.size)
                refine own_iload X47 C at_222 224 rfl rfl ?_
                refine own_icmpne X47 C at_224 227 243 rfl (by decide) (by decide) (i := (own_sl oA oB la.toInt.toNat lb.toInt.toNat (own_G (own_cv xa ya)) (own_G (own_cv xb yb))).toInt) rfl (j := 1) (by decide) (fun b48 => ?_) (fun b48 => ?_)
                · exfalso
                  have kk := own_sl_v oA oB la.toInt.toNat lb.toInt.toNat (x := xa) (y := ya) (z := xb) (w := yb) (by omega) hxa hya hxb hyb
                  omega
                · refine own_aload X47 C at_227 229 rfl rfl rfl ?_
                  refine own_aload X47 C at_229 231 rfl rfl rfl ?_
                  refine own_callV X47 C (own_w hw 44 rfl) (own_w hw 45 rfl) (own_w hw 47 rfl) (own_w hw 46 rfl) (own_w hw 2 rfl) (own_w hw 48 rfl) (by decide) Ed2 (own_rm_sl l Z a0 hw b4 b1 T6.heap oB oA o5 o2 _ _ _ _ d5 d2 F2only F2role F1only F1role I2 I1 (Ne.symm noo) (by omega) (by omega) cs vF J) eh47 own_pd_Lcom_example_subsumer_subsumer_Nodes_Edge__R_Z [(.ref b1)] rfl rfl rfl rfl 0 rfl (by decide) (by decide) (by decide) (by decide) at_231 234 rfl (fun T49 L49 v49 X49 q49 => ?_)
                  obtain ⟨rfl, eh49, rfl⟩ := q49
                  have N49 := Fr.app N47 (Fr.nil h.size)
                  refine own_iload X49 C at_234 236 rfl rfl ?_
                  refine own_icmpne X49 C at_236 239 243 rfl (by decide) (by decide) (i := (own_sl oB oA lb.toInt.toNat la.toInt.toNat (own_G (own_cv xb yb)) (own_G (own_cv xa ya))).toInt) rfl (j := 1) (by decide) (fun b50 => ?_) (fun b50 => ?_)
                  · exfalso
                    have kk := own_sl_v oB oA lb.toInt.toNat la.toInt.toNat (x := xb) (y := yb) (z := xa) (w := ya) (by omega) hxb hyb hxa hya
                    omega
                  · refine own_iconst X49 C at_239 240 rfl (1) rfl ?_
                    refine own_goto X49 C at_240 244 (by decide) (by decide) ?_
                    refine own_iretNW X49 C hS5 (by first | exact Nat.le_refl _ | omega | (rw [eh49]; omega)) .boolean rfl (by simp) at_244 (by decide) (by decide) (1) (by decide) ?_
                    exact ⟨rfl, N49⟩
      · refine own_iload X6 C at_169 171 rfl rfl ?_
        refine own_iload X6 C at_171 173 rfl rfl ?_
        refine own_icmpne X6 C at_173 176 193 rfl (by decide) (by decide) (i := xa.toInt) rfl (j := xb.toInt) rfl (fun b51 => ?_) (fun b51 => ?_)
        · refine own_iconst X6 C at_193 194 rfl (0) rfl ?_
          refine own_istore X6 C at_194 196 rfl #[.val (.int ia0), .val (.int ia1), .val (.int ia2), .val (.int ia3), .val (.int ia4), .val (.int oA), .val (.int oB), .val (.int la), .val (.int lb), .val (.int cp), .val (.int xa), .val (.int ya), .val (.int xb), .val (.int yb), .val (.ref b1), .val (.ref b4), .val (.int (0 : Int32)), .unset] rfl ?_
          refine own_iload X6 C at_196 198 rfl rfl ?_
          refine own_iload X6 C at_198 200 rfl rfl ?_
          refine own_icmpne X6 C at_200 203 212 rfl (by decide) (by decide) (i := oA.toInt) rfl (j := oB.toInt) rfl (fun b52 => ?_) (fun b52 => ?_)
          · refine own_iconst X6 C at_212 213 rfl (0) rfl ?_
            refine own_istore X6 C at_213 215 rfl #[.val (.int ia0), .val (.int ia1), .val (.int ia2), .val (.int ia3), .val (.int ia4), .val (.int oA), .val (.int oB), .val (.int la), .val (.int lb), .val (.int cp), .val (.int xa), .val (.int ya), .val (.int xb), .val (.int yb), .val (.ref b1), .val (.ref b4), .val (.int (0 : Int32)), .val (.int (0 : Int32))] rfl ?_
            refine own_aload X6 C at_215 217 rfl rfl rfl ?_
            refine own_aload X6 C at_217 219 rfl rfl rfl ?_
            refine own_callV X6 C (own_w hw 44 rfl) (own_w hw 45 rfl) (own_w hw 47 rfl) (own_w hw 46 rfl) (own_w hw 2 rfl) (own_w hw 48 rfl) (by decide) Ed1 (own_rm_sl l Z a0 hw b1 b4 T6.heap oA oB o2 o5 _ _ _ _ d2 d5 F1only F1role F2only F2role I1 I2 noo (by omega) (by omega) cs vF J) rfl own_pd_Lcom_example_subsumer_subsumer_Nodes_Edge__R_Z [(.ref b4)] rfl rfl rfl rfl 0 rfl (by decide) (by decide) (by decide) (by decide) at_219 222 rfl (fun T53 L53 v53 X53 q53 => ?_)
            obtain ⟨rfl, eh53, rfl⟩ := q53
            have N53 := Fr.app N6 (Fr.nil h.size)
            refine own_iload X53 C at_222 224 rfl rfl ?_
            refine own_icmpne X53 C at_224 227 243 rfl (by decide) (by decide) (i := (own_sl oA oB la.toInt.toNat lb.toInt.toNat (own_G (own_cv xa ya)) (own_G (own_cv xb yb))).toInt) rfl (j := 0) (by decide) (fun b54 => ?_) (fun b54 => ?_)
            · exfalso
              have kk := own_sl_v oA oB la.toInt.toNat lb.toInt.toNat (x := xa) (y := ya) (z := xb) (w := yb) (by omega) hxa hya hxb hyb
              omega
            · refine own_aload X53 C at_227 229 rfl rfl rfl ?_
              refine own_aload X53 C at_229 231 rfl rfl rfl ?_
              refine own_callV X53 C (own_w hw 44 rfl) (own_w hw 45 rfl) (own_w hw 47 rfl) (own_w hw 46 rfl) (own_w hw 2 rfl) (own_w hw 48 rfl) (by decide) Ed2 (own_rm_sl l Z a0 hw b4 b1 T6.heap oB oA o5 o2 _ _ _ _ d5 d2 F2only F2role F1only F1role I2 I1 (Ne.symm noo) (by omega) (by omega) cs vF J) eh53 own_pd_Lcom_example_subsumer_subsumer_Nodes_Edge__R_Z [(.ref b1)] rfl rfl rfl rfl 0 rfl (by decide) (by decide) (by decide) (by decide) at_231 234 rfl (fun T55 L55 v55 X55 q55 => ?_)
              obtain ⟨rfl, eh55, rfl⟩ := q55
              have N55 := Fr.app N53 (Fr.nil h.size)
              refine own_iload X55 C at_234 236 rfl rfl ?_
              refine own_icmpne X55 C at_236 239 243 rfl (by decide) (by decide) (i := (own_sl oB oA lb.toInt.toNat la.toInt.toNat (own_G (own_cv xb yb)) (own_G (own_cv xa ya))).toInt) rfl (j := 0) (by decide) (fun b56 => ?_) (fun b56 => ?_)
              · exfalso
                have kk := own_sl_v oB oA lb.toInt.toNat la.toInt.toNat (x := xb) (y := yb) (z := xa) (w := ya) (by omega) hxb hyb hxa hya
                omega
              · refine own_iconst X55 C at_239 240 rfl (1) rfl ?_
                refine own_goto X55 C at_240 244 (by decide) (by decide) ?_
                refine own_iretNW X55 C hS5 (by first | exact Nat.le_refl _ | omega | (rw [eh55]; omega)) .boolean rfl (by simp) at_244 (by decide) (by decide) (1) (by decide) ?_
                exact ⟨rfl, N55⟩
          · refine own_iload X6 C at_203 205 rfl rfl ?_
            refine own_ifeq X6 C at_205 208 212 rfl (by decide) (by decide) (i := 0) (by decide) (fun b57 => ?_) (fun b57 => ?_)
            · refine own_iconst X6 C at_212 213 rfl (0) rfl ?_
              refine own_istore X6 C at_213 215 rfl #[.val (.int ia0), .val (.int ia1), .val (.int ia2), .val (.int ia3), .val (.int ia4), .val (.int oA), .val (.int oB), .val (.int la), .val (.int lb), .val (.int cp), .val (.int xa), .val (.int ya), .val (.int xb), .val (.int yb), .val (.ref b1), .val (.ref b4), .val (.int (0 : Int32)), .val (.int (0 : Int32))] rfl ?_
              refine own_aload X6 C at_215 217 rfl rfl rfl ?_
              refine own_aload X6 C at_217 219 rfl rfl rfl ?_
              refine own_callV X6 C (own_w hw 44 rfl) (own_w hw 45 rfl) (own_w hw 47 rfl) (own_w hw 46 rfl) (own_w hw 2 rfl) (own_w hw 48 rfl) (by decide) Ed1 (own_rm_sl l Z a0 hw b1 b4 T6.heap oA oB o2 o5 _ _ _ _ d2 d5 F1only F1role F2only F2role I1 I2 noo (by omega) (by omega) cs vF J) rfl own_pd_Lcom_example_subsumer_subsumer_Nodes_Edge__R_Z [(.ref b4)] rfl rfl rfl rfl 0 rfl (by decide) (by decide) (by decide) (by decide) at_219 222 rfl (fun T58 L58 v58 X58 q58 => ?_)
              obtain ⟨rfl, eh58, rfl⟩ := q58
              have N58 := Fr.app N6 (Fr.nil h.size)
              refine own_iload X58 C at_222 224 rfl rfl ?_
              refine own_icmpne X58 C at_224 227 243 rfl (by decide) (by decide) (i := (own_sl oA oB la.toInt.toNat lb.toInt.toNat (own_G (own_cv xa ya)) (own_G (own_cv xb yb))).toInt) rfl (j := 0) (by decide) (fun b59 => ?_) (fun b59 => ?_)
              · exfalso
                have kk := own_sl_v oA oB la.toInt.toNat lb.toInt.toNat (x := xa) (y := ya) (z := xb) (w := yb) (by omega) hxa hya hxb hyb
                omega
              · refine own_aload X58 C at_227 229 rfl rfl rfl ?_
                refine own_aload X58 C at_229 231 rfl rfl rfl ?_
                refine own_callV X58 C (own_w hw 44 rfl) (own_w hw 45 rfl) (own_w hw 47 rfl) (own_w hw 46 rfl) (own_w hw 2 rfl) (own_w hw 48 rfl) (by decide) Ed2 (own_rm_sl l Z a0 hw b4 b1 T6.heap oB oA o5 o2 _ _ _ _ d5 d2 F2only F2role F1only F1role I2 I1 (Ne.symm noo) (by omega) (by omega) cs vF J) eh58 own_pd_Lcom_example_subsumer_subsumer_Nodes_Edge__R_Z [(.ref b1)] rfl rfl rfl rfl 0 rfl (by decide) (by decide) (by decide) (by decide) at_231 234 rfl (fun T60 L60 v60 X60 q60 => ?_)
                obtain ⟨rfl, eh60, rfl⟩ := q60
                have N60 := Fr.app N58 (Fr.nil h.size)
                refine own_iload X60 C at_234 236 rfl rfl ?_
                refine own_icmpne X60 C at_236 239 243 rfl (by decide) (by decide) (i := (own_sl oB oA lb.toInt.toNat la.toInt.toNat (own_G (own_cv xb yb)) (own_G (own_cv xa ya))).toInt) rfl (j := 0) (by decide) (fun b61 => ?_) (fun b61 => ?_)
                · exfalso
                  have kk := own_sl_v oB oA lb.toInt.toNat la.toInt.toNat (x := xb) (y := yb) (z := xa) (w := ya) (by omega) hxb hyb hxa hya
                  omega
                · refine own_iconst X60 C at_239 240 rfl (1) rfl ?_
                  refine own_goto X60 C at_240 244 (by decide) (by decide) ?_
                  refine own_iretNW X60 C hS5 (by first | exact Nat.le_refl _ | omega | (rw [eh60]; omega)) .boolean rfl (by simp) at_244 (by decide) (by decide) (1) (by decide) ?_
                  exact ⟨rfl, N60⟩
            · exfalso
              omega
        · refine own_iload X6 C at_176 178 rfl rfl ?_
          refine own_iconst X6 C at_178 179 rfl (2) rfl ?_
          refine own_icmplt X6 C at_179 182 189 rfl (by decide) (by decide) (i := la.toInt) rfl (j := 2) (by decide) (fun b62 => ?_) (fun b62 => ?_)
          · refine own_iconst X6 C at_189 190 rfl (1) rfl ?_
            refine own_goto X6 C at_190 194 (by decide) (by decide) ?_
            refine own_istore X6 C at_194 196 rfl #[.val (.int ia0), .val (.int ia1), .val (.int ia2), .val (.int ia3), .val (.int ia4), .val (.int oA), .val (.int oB), .val (.int la), .val (.int lb), .val (.int cp), .val (.int xa), .val (.int ya), .val (.int xb), .val (.int yb), .val (.ref b1), .val (.ref b4), .val (.int (1 : Int32)), .unset] rfl ?_
            refine own_iload X6 C at_196 198 rfl rfl ?_
            refine own_iload X6 C at_198 200 rfl rfl ?_
            refine own_icmpne X6 C at_200 203 212 rfl (by decide) (by decide) (i := oA.toInt) rfl (j := oB.toInt) rfl (fun b63 => ?_) (fun b63 => ?_)
            · refine own_iconst X6 C at_212 213 rfl (0) rfl ?_
              refine own_istore X6 C at_213 215 rfl #[.val (.int ia0), .val (.int ia1), .val (.int ia2), .val (.int ia3), .val (.int ia4), .val (.int oA), .val (.int oB), .val (.int la), .val (.int lb), .val (.int cp), .val (.int xa), .val (.int ya), .val (.int xb), .val (.int yb), .val (.ref b1), .val (.ref b4), .val (.int (1 : Int32)), .val (.int (0 : Int32))] rfl ?_
              refine own_aload X6 C at_215 217 rfl rfl rfl ?_
              refine own_aload X6 C at_217 219 rfl rfl rfl ?_
              refine own_callV X6 C (own_w hw 44 rfl) (own_w hw 45 rfl) (own_w hw 47 rfl) (own_w hw 46 rfl) (own_w hw 2 rfl) (own_w hw 48 rfl) (by decide) Ed1 (own_rm_sl l Z a0 hw b1 b4 T6.heap oA oB o2 o5 _ _ _ _ d2 d5 F1only F1role F2only F2role I1 I2 noo (by omega) (by omega) cs vF J) rfl own_pd_Lcom_example_subsumer_subsumer_Nodes_Edge__R_Z [(.ref b4)] rfl rfl rfl rfl 0 rfl (by decide) (by decide) (by decide) (by decide) at_219 222 rfl (fun T64 L64 v64 X64 q64 => ?_)
              obtain ⟨rfl, eh64, rfl⟩ := q64
              have N64 := Fr.app N6 (Fr.nil h.size)
              refine own_iload X64 C at_222 224 rfl rfl ?_
              refine own_icmpne X64 C at_224 227 243 rfl (by decide) (by decide) (i := (own_sl oA oB la.toInt.toNat lb.toInt.toNat (own_G (own_cv xa ya)) (own_G (own_cv xb yb))).toInt) rfl (j := 0) (by decide) (fun b65 => ?_) (fun b65 => ?_)
              · exfalso
                have kk := own_sl_v oA oB la.toInt.toNat lb.toInt.toNat (x := xa) (y := ya) (z := xb) (w := yb) (by omega) hxa hya hxb hyb
                omega
              · refine own_aload X64 C at_227 229 rfl rfl rfl ?_
                refine own_aload X64 C at_229 231 rfl rfl rfl ?_
                refine own_callV X64 C (own_w hw 44 rfl) (own_w hw 45 rfl) (own_w hw 47 rfl) (own_w hw 46 rfl) (own_w hw 2 rfl) (own_w hw 48 rfl) (by decide) Ed2 (own_rm_sl l Z a0 hw b4 b1 T6.heap oB oA o5 o2 _ _ _ _ d5 d2 F2only F2role F1only F1role I2 I1 (Ne.symm noo) (by omega) (by omega) cs vF J) eh64 own_pd_Lcom_example_subsumer_subsumer_Nodes_Edge__R_Z [(.ref b1)] rfl rfl rfl rfl 0 rfl (by decide) (by decide) (by decide) (by decide) at_231 234 rfl (fun T66 L66 v66 X66 q66 => ?_)
                obtain ⟨rfl, eh66, rfl⟩ := q66
                have N66 := Fr.app N64 (Fr.nil h.size)
                refine own_iload X66 C at_234 236 rfl rfl ?_
                refine own_icmpne X66 C at_236 239 243 rfl (by decide) (by decide) (i := (own_sl oB oA lb.toInt.toNat la.toInt.toNat (own_G (own_cv xb yb)) (own_G (own_cv xa ya))).toInt) rfl (j := 0) (by decide) (fun b67 => ?_) (fun b67 => ?_)
                · exfalso
                  have kk := own_sl_v oB oA lb.toInt.toNat la.toInt.toNat (x := xb) (y := yb) (z := xa) (w := ya) (by omega) hxb hyb hxa hya
                  omega
                · refine own_iconst X66 C at_239 240 rfl (1) rfl ?_
                  refine own_goto X66 C at_240 244 (by decide) (by decide) ?_
                  refine own_iretNW X66 C hS5 (by first | exact Nat.le_refl _ | omega | (rw [eh66]; omega)) .boolean rfl (by simp) at_244 (by decide) (by decide) (1) (by decide) ?_
                  exact ⟨rfl, N66⟩
            · refine own_iload X6 C at_203 205 rfl rfl ?_
              refine own_ifeq X6 C at_205 208 212 rfl (by decide) (by decide) (i := 1) (by decide) (fun b68 => ?_) (fun b68 => ?_)
              · exfalso
                omega
              · refine own_iconst X6 C at_208 209 rfl (1) rfl ?_
                refine own_goto X6 C at_209 213 (by decide) (by decide) ?_
                refine own_istore X6 C at_213 215 rfl #[.val (.int ia0), .val (.int ia1), .val (.int ia2), .val (.int ia3), .val (.int ia4), .val (.int oA), .val (.int oB), .val (.int la), .val (.int lb), .val (.int cp), .val (.int xa), .val (.int ya), .val (.int xb), .val (.int yb), .val (.ref b1), .val (.ref b4), .val (.int (1 : Int32)), .val (.int (1 : Int32))] rfl ?_
                refine own_aload X6 C at_215 217 rfl rfl rfl ?_
                refine own_aload X6 C at_217 219 rfl rfl rfl ?_
                refine own_callV X6 C (own_w hw 44 rfl) (own_w hw 45 rfl) (own_w hw 47 rfl) (own_w hw 46 rfl) (own_w hw 2 rfl) (own_w hw 48 rfl) (by decide) Ed1 (own_rm_sl l Z a0 hw b1 b4 T6.heap oA oB o2 o5 _ _ _ _ d2 d5 F1only F1role F2only F2role I1 I2 noo (by omega) (by omega) cs vF J) rfl own_pd_Lcom_example_subsumer_subsumer_Nodes_Edge__R_Z [(.ref b4)] rfl rfl rfl rfl 0 rfl (by decide) (by decide) (by decide) (by decide) at_219 222 rfl (fun T69 L69 v69 X69 q69 => ?_)
                obtain ⟨rfl, eh69, rfl⟩ := q69
                have N69 := Fr.app N6 (Fr.nil h.size)
                refine own_iload X69 C at_222 224 rfl rfl ?_
                refine own_icmpne X69 C at_224 227 243 rfl (by decide) (by decide) (i := (own_sl oA oB la.toInt.toNat lb.toInt.toNat (own_G (own_cv xa ya)) (own_G (own_cv xb yb))).toInt) rfl (j := 1) (by decide) (fun b70 => ?_) (fun b70 => ?_)
                · exfalso
                  have kk := own_sl_v oA oB la.toInt.toNat lb.toInt.toNat (x := xa) (y := ya) (z := xb) (w := yb) (by omega) hxa hya hxb hyb
                  omega
                · refine own_aload X69 C at_227 229 rfl rfl rfl ?_
                  refine own_aload X69 C at_229 231 rfl rfl rfl ?_
                  refine own_callV X69 C (own_w hw 44 rfl) (own_w hw 45 rfl) (own_w hw 47 rfl) (own_w hw 46 rfl) (own_w hw 2 rfl) (own_w hw 48 rfl) (by decide) Ed2 (own_rm_sl l Z a0 hw b4 b1 T6.heap oB oA o5 o2 _ _ _ _ d5 d2 F2only F2role F1only F1role I2 I1 (Ne.symm noo) (by omega) (by omega) cs vF J) eh69 own_pd_Lcom_example_subsumer_subsumer_Nodes_Edge__R_Z [(.ref b1)] rfl rfl rfl rfl 0 rfl (by decide) (by decide) (by decide) (by decide) at_231 234 rfl (fun T71 L71 v71 X71 q71 => ?_)
                  obtain ⟨rfl, eh71, rfl⟩ := q71
                  have N71 := Fr.app N69 (Fr.nil h.size)
                  refine own_iload X71 C at_234 236 rfl rfl ?_
                  refine own_icmpne X71 C at_236 239 243 rfl (by decide) (by decide) (i := (own_sl oB oA lb.toInt.toNat la.toInt.toNat (own_G (own_cv xb yb)) (own_G (own_cv xa ya))).toInt) rfl (j := 1) (by decide) (fun b72 => ?_) (fun b72 => ?_)
                  · exfalso
                    have kk := own_sl_v oB oA lb.toInt.toNat la.toInt.toNat (x := xb) (y := yb) (z := xa) (w := ya) (by omega) hxb hyb hxa hya
                    omega
                  · refine own_iconst X71 C at_239 240 rfl (1) rfl ?_
                    refine own_goto X71 C at_240 244 (by decide) (by decide) ?_
                    refine own_iretNW X71 C hS5 (by first | exact Nat.le_refl _ | omega | (rw [eh71]; omega)) .boolean rfl (by simp) at_244 (by decide) (by decide) (1) (by decide) ?_
                    exact ⟨rfl, N71⟩
          · refine own_iload X6 C at_182 184 rfl rfl ?_
            refine own_iload X6 C at_184 186 rfl rfl ?_
            refine own_icmpne X6 C at_186 189 193 rfl (by decide) (by decide) (i := ya.toInt) rfl (j := yb.toInt) rfl (fun b73 => ?_) (fun b73 => ?_)
            · refine own_iconst X6 C at_193 194 rfl (0) rfl ?_
              refine own_istore X6 C at_194 196 rfl #[.val (.int ia0), .val (.int ia1), .val (.int ia2), .val (.int ia3), .val (.int ia4), .val (.int oA), .val (.int oB), .val (.int la), .val (.int lb), .val (.int cp), .val (.int xa), .val (.int ya), .val (.int xb), .val (.int yb), .val (.ref b1), .val (.ref b4), .val (.int (0 : Int32)), .unset] rfl ?_
              refine own_iload X6 C at_196 198 rfl rfl ?_
              refine own_iload X6 C at_198 200 rfl rfl ?_
              refine own_icmpne X6 C at_200 203 212 rfl (by decide) (by decide) (i := oA.toInt) rfl (j := oB.toInt) rfl (fun b74 => ?_) (fun b74 => ?_)
              · refine own_iconst X6 C at_212 213 rfl (0) rfl ?_
                refine own_istore X6 C at_213 215 rfl #[.val (.int ia0), .val (.int ia1), .val (.int ia2), .val (.int ia3), .val (.int ia4), .val (.int oA), .val (.int oB), .val (.int la), .val (.int lb), .val (.int cp), .val (.int xa), .val (.int ya), .val (.int xb), .val (.int yb), .val (.ref b1), .val (.ref b4), .val (.int (0 : Int32)), .val (.int (0 : Int32))] rfl ?_
                refine own_aload X6 C at_215 217 rfl rfl rfl ?_
                refine own_aload X6 C at_217 219 rfl rfl rfl ?_
                refine own_callV X6 C (own_w hw 44 rfl) (own_w hw 45 rfl) (own_w hw 47 rfl) (own_w hw 46 rfl) (own_w hw 2 rfl) (own_w hw 48 rfl) (by decide) Ed1 (own_rm_sl l Z a0 hw b1 b4 T6.heap oA oB o2 o5 _ _ _ _ d2 d5 F1only F1role F2only F2role I1 I2 noo (by omega) (by omega) cs vF J) rfl own_pd_Lcom_example_subsumer_subsumer_Nodes_Edge__R_Z [(.ref b4)] rfl rfl rfl rfl 0 rfl (by decide) (by decide) (by decide) (by decide) at_219 222 rfl (fun T75 L75 v75 X75 q75 => ?_)
                obtain ⟨rfl, eh75, rfl⟩ := q75
                have N75 := Fr.app N6 (Fr.nil h.size)
                refine own_iload X75 C at_222 224 rfl rfl ?_
                refine own_icmpne X75 C at_224 227 243 rfl (by decide) (by decide) (i := (own_sl oA oB la.toInt.toNat lb.toInt.toNat (own_G (own_cv xa ya)) (own_G (own_cv xb yb))).toInt) rfl (j := 0) (by decide) (fun b76 => ?_) (fun b76 => ?_)
                · exfalso
                  have kk := own_sl_v oA oB la.toInt.toNat lb.toInt.toNat (x := xa) (y := ya) (z := xb) (w := yb) (by omega) hxa hya hxb hyb
                  omega
                · refine own_aload X75 C at_227 229 rfl rfl rfl ?_
                  refine own_aload X75 C at_229 231 rfl rfl rfl ?_
                  refine own_callV X75 C (own_w hw 44 rfl) (own_w hw 45 rfl) (own_w hw 47 rfl) (own_w hw 46 rfl) (own_w hw 2 rfl) (own_w hw 48 rfl) (by decide) Ed2 (own_rm_sl l Z a0 hw b4 b1 T6.heap oB oA o5 o2 _ _ _ _ d5 d2 F2only F2role F1only F1role I2 I1 (Ne.symm noo) (by omega) (by omega) cs vF J) eh75 own_pd_Lcom_example_subsumer_subsumer_Nodes_Edge__R_Z [(.ref b1)] rfl rfl rfl rfl 0 rfl (by decide) (by decide) (by decide) (by decide) at_231 234 rfl (fun T77 L77 v77 X77 q77 => ?_)
                  obtain ⟨rfl, eh77, rfl⟩ := q77
                  have N77 := Fr.app N75 (Fr.nil h.size)
                  refine own_iload X77 C at_234 236 rfl rfl ?_
                  refine own_icmpne X77 C at_236 239 243 rfl (by decide) (by decide) (i := (own_sl oB oA lb.toInt.toNat la.toInt.toNat (own_G (own_cv xb yb)) (own_G (own_cv xa ya))).toInt) rfl (j := 0) (by decide) (fun b78 => ?_) (fun b78 => ?_)
                  · exfalso
                    have kk := own_sl_v oB oA lb.toInt.toNat la.toInt.toNat (x := xb) (y := yb) (z := xa) (w := ya) (by omega) hxb hyb hxa hya
                    omega
                  · refine own_iconst X77 C at_239 240 rfl (1) rfl ?_
                    refine own_goto X77 C at_240 244 (by decide) (by decide) ?_
                    refine own_iretNW X77 C hS5 (by first | exact Nat.le_refl _ | omega | (rw [eh77]; omega)) .boolean rfl (by simp) at_244 (by decide) (by decide) (1) (by decide) ?_
                    exact ⟨rfl, N77⟩
              · refine own_iload X6 C at_203 205 rfl rfl ?_
                refine own_ifeq X6 C at_205 208 212 rfl (by decide) (by decide) (i := 0) (by decide) (fun b79 => ?_) (fun b79 => ?_)
                · refine own_iconst X6 C at_212 213 rfl (0) rfl ?_
                  refine own_istore X6 C at_213 215 rfl #[.val (.int ia0), .val (.int ia1), .val (.int ia2), .val (.int ia3), .val (.int ia4), .val (.int oA), .val (.int oB), .val (.int la), .val (.int lb), .val (.int cp), .val (.int xa), .val (.int ya), .val (.int xb), .val (.int yb), .val (.ref b1), .val (.ref b4), .val (.int (0 : Int32)), .val (.int (0 : Int32))] rfl ?_
                  refine own_aload X6 C at_215 217 rfl rfl rfl ?_
                  refine own_aload X6 C at_217 219 rfl rfl rfl ?_
                  refine own_callV X6 C (own_w hw 44 rfl) (own_w hw 45 rfl) (own_w hw 47 rfl) (own_w hw 46 rfl) (own_w hw 2 rfl) (own_w hw 48 rfl) (by decide) Ed1 (own_rm_sl l Z a0 hw b1 b4 T6.heap oA oB o2 o5 _ _ _ _ d2 d5 F1only F1role F2only F2role I1 I2 noo (by omega) (by omega) cs vF J) rfl own_pd_Lcom_example_subsumer_subsumer_Nodes_Edge__R_Z [(.ref b4)] rfl rfl rfl rfl 0 rfl (by decide) (by decide) (by decide) (by decide) at_219 222 rfl (fun T80 L80 v80 X80 q80 => ?_)
                  obtain ⟨rfl, eh80, rfl⟩ := q80
                  have N80 := Fr.app N6 (Fr.nil h.size)
                  refine own_iload X80 C at_222 224 rfl rfl ?_
                  refine own_icmpne X80 C at_224 227 243 rfl (by decide) (by decide) (i := (own_sl oA oB la.toInt.toNat lb.toInt.toNat (own_G (own_cv xa ya)) (own_G (own_cv xb yb))).toInt) rfl (j := 0) (by decide) (fun b81 => ?_) (fun b81 => ?_)
                  · exfalso
                    have kk := own_sl_v oA oB la.toInt.toNat lb.toInt.toNat (x := xa) (y := ya) (z := xb) (w := yb) (by omega) hxa hya hxb hyb
                    omega
                  · refine own_aload X80 C at_227 229 rfl rfl rfl ?_
                    refine own_aload X80 C at_229 231 rfl rfl rfl ?_
                    refine own_callV X80 C (own_w hw 44 rfl) (own_w hw 45 rfl) (own_w hw 47 rfl) (own_w hw 46 rfl) (own_w hw 2 rfl) (own_w hw 48 rfl) (by decide) Ed2 (own_rm_sl l Z a0 hw b4 b1 T6.heap oB oA o5 o2 _ _ _ _ d5 d2 F2only F2role F1only F1role I2 I1 (Ne.symm noo) (by omega) (by omega) cs vF J) eh80 own_pd_Lcom_example_subsumer_subsumer_Nodes_Edge__R_Z [(.ref b1)] rfl rfl rfl rfl 0 rfl (by decide) (by decide) (by decide) (by decide) at_231 234 rfl (fun T82 L82 v82 X82 q82 => ?_)
                    obtain ⟨rfl, eh82, rfl⟩ := q82
                    have N82 := Fr.app N80 (Fr.nil h.size)
                    refine own_iload X82 C at_234 236 rfl rfl ?_
                    refine own_icmpne X82 C at_236 239 243 rfl (by decide) (by decide) (i := (own_sl oB oA lb.toInt.toNat la.toInt.toNat (own_G (own_cv xb yb)) (own_G (own_cv xa ya))).toInt) rfl (j := 0) (by decide) (fun b83 => ?_) (fun b83 => ?_)
                    · exfalso
                      have kk := own_sl_v oB oA lb.toInt.toNat la.toInt.toNat (x := xb) (y := yb) (z := xa) (w := ya) (by omega) hxb hyb hxa hya
                      omega
                    · refine own_iconst X82 C at_239 240 rfl (1) rfl ?_
                      refine own_goto X82 C at_240 244 (by decide) (by decide) ?_
                      refine own_iretNW X82 C hS5 (by first | exact Nat.le_refl _ | omega | (rw [eh82]; omega)) .boolean rfl (by simp) at_244 (by decide) (by decide) (1) (by decide) ?_
                      exact ⟨rfl, N82⟩
                · exfalso
                  omega
            · refine own_iconst X6 C at_189 190 rfl (1) rfl ?_
              refine own_goto X6 C at_190 194 (by decide) (by decide) ?_
              refine own_istore X6 C at_194 196 rfl #[.val (.int ia0), .val (.int ia1), .val (.int ia2), .val (.int ia3), .val (.int ia4), .val (.int oA), .val (.int oB), .val (.int la), .val (.int lb), .val (.int cp), .val (.int xa), .val (.int ya), .val (.int xb), .val (.int yb), .val (.ref b1), .val (.ref b4), .val (.int (1 : Int32)), .unset] rfl ?_
              refine own_iload X6 C at_196 198 rfl rfl ?_
              refine own_iload X6 C at_198 200 rfl rfl ?_
              refine own_icmpne X6 C at_200 203 212 rfl (by decide) (by decide) (i := oA.toInt) rfl (j := oB.toInt) rfl (fun b84 => ?_) (fun b84 => ?_)
              · refine own_iconst X6 C at_212 213 rfl (0) rfl ?_
                refine own_istore X6 C at_213 215 rfl #[.val (.int ia0), .val (.int ia1), .val (.int ia2), .val (.int ia3), .val (.int ia4), .val (.int oA), .val (.int oB), .val (.int la), .val (.int lb), .val (.int cp), .val (.int xa), .val (.int ya), .val (.int xb), .val (.int yb), .val (.ref b1), .val (.ref b4), .val (.int (1 : Int32)), .val (.int (0 : Int32))] rfl ?_
                refine own_aload X6 C at_215 217 rfl rfl rfl ?_
                refine own_aload X6 C at_217 219 rfl rfl rfl ?_
                refine own_callV X6 C (own_w hw 44 rfl) (own_w hw 45 rfl) (own_w hw 47 rfl) (own_w hw 46 rfl) (own_w hw 2 rfl) (own_w hw 48 rfl) (by decide) Ed1 (own_rm_sl l Z a0 hw b1 b4 T6.heap oA oB o2 o5 _ _ _ _ d2 d5 F1only F1role F2only F2role I1 I2 noo (by omega) (by omega) cs vF J) rfl own_pd_Lcom_example_subsumer_subsumer_Nodes_Edge__R_Z [(.ref b4)] rfl rfl rfl rfl 0 rfl (by decide) (by decide) (by decide) (by decide) at_219 222 rfl (fun T85 L85 v85 X85 q85 => ?_)
                obtain ⟨rfl, eh85, rfl⟩ := q85
                have N85 := Fr.app N6 (Fr.nil h.size)
                refine own_iload X85 C at_222 224 rfl rfl ?_
                refine own_icmpne X85 C at_224 227 243 rfl (by decide) (by decide) (i := (own_sl oA oB la.toInt.toNat lb.toInt.toNat (own_G (own_cv xa ya)) (own_G (own_cv xb yb))).toInt) rfl (j := 0) (by decide) (fun b86 => ?_) (fun b86 => ?_)
                · exfalso
                  have kk := own_sl_v oA oB la.toInt.toNat lb.toInt.toNat (x := xa) (y := ya) (z := xb) (w := yb) (by omega) hxa hya hxb hyb
                  omega
                · refine own_aload X85 C at_227 229 rfl rfl rfl ?_
                  refine own_aload X85 C at_229 231 rfl rfl rfl ?_
                  refine own_callV X85 C (own_w hw 44 rfl) (own_w hw 45 rfl) (own_w hw 47 rfl) (own_w hw 46 rfl) (own_w hw 2 rfl) (own_w hw 48 rfl) (by decide) Ed2 (own_rm_sl l Z a0 hw b4 b1 T6.heap oB oA o5 o2 _ _ _ _ d5 d2 F2only F2role F1only F1role I2 I1 (Ne.symm noo) (by omega) (by omega) cs vF J) eh85 own_pd_Lcom_example_subsumer_subsumer_Nodes_Edge__R_Z [(.ref b1)] rfl rfl rfl rfl 0 rfl (by decide) (by decide) (by decide) (by decide) at_231 234 rfl (fun T87 L87 v87 X87 q87 => ?_)
                  obtain ⟨rfl, eh87, rfl⟩ := q87
                  have N87 := Fr.app N85 (Fr.nil h.size)
                  refine own_iload X87 C at_234 236 rfl rfl ?_
                  refine own_icmpne X87 C at_236 239 243 rfl (by decide) (by decide) (i := (own_sl oB oA lb.toInt.toNat la.toInt.toNat (own_G (own_cv xb yb)) (own_G (own_cv xa ya))).toInt) rfl (j := 0) (by decide) (fun b88 => ?_) (fun b88 => ?_)
                  · exfalso
                    have kk := own_sl_v oB oA lb.toInt.toNat la.toInt.toNat (x := xb) (y := yb) (z := xa) (w := ya) (by omega) hxb hyb hxa hya
                    omega
                  · refine own_iconst X87 C at_239 240 rfl (1) rfl ?_
                    refine own_goto X87 C at_240 244 (by decide) (by decide) ?_
                    refine own_iretNW X87 C hS5 (by first | exact Nat.le_refl _ | omega | (rw [eh87]; omega)) .boolean rfl (by simp) at_244 (by decide) (by decide) (1) (by decide) ?_
                    exact ⟨rfl, N87⟩
              · refine own_iload X6 C at_203 205 rfl rfl ?_
                refine own_ifeq X6 C at_205 208 212 rfl (by decide) (by decide) (i := 1) (by decide) (fun b89 => ?_) (fun b89 => ?_)
                · exfalso
                  omega
                · refine own_iconst X6 C at_208 209 rfl (1) rfl ?_
                  refine own_goto X6 C at_209 213 (by decide) (by decide) ?_
                  refine own_istore X6 C at_213 215 rfl #[.val (.int ia0), .val (.int ia1), .val (.int ia2), .val (.int ia3), .val (.int ia4), .val (.int oA), .val (.int oB), .val (.int la), .val (.int lb), .val (.int cp), .val (.int xa), .val (.int ya), .val (.int xb), .val (.int yb), .val (.ref b1), .val (.ref b4), .val (.int (1 : Int32)), .val (.int (1 : Int32))] rfl ?_
                  refine own_aload X6 C at_215 217 rfl rfl rfl ?_
                  refine own_aload X6 C at_217 219 rfl rfl rfl ?_
                  refine own_callV X6 C (own_w hw 44 rfl) (own_w hw 45 rfl) (own_w hw 47 rfl) (own_w hw 46 rfl) (own_w hw 2 rfl) (own_w hw 48 rfl) (by decide) Ed1 (own_rm_sl l Z a0 hw b1 b4 T6.heap oA oB o2 o5 _ _ _ _ d2 d5 F1only F1role F2only F2role I1 I2 noo (by omega) (by omega) cs vF J) rfl own_pd_Lcom_example_subsumer_subsumer_Nodes_Edge__R_Z [(.ref b4)] rfl rfl rfl rfl 0 rfl (by decide) (by decide) (by decide) (by decide) at_219 222 rfl (fun T90 L90 v90 X90 q90 => ?_)
                  obtain ⟨rfl, eh90, rfl⟩ := q90
                  have N90 := Fr.app N6 (Fr.nil h.size)
                  refine own_iload X90 C at_222 224 rfl rfl ?_
                  refine own_icmpne X90 C at_224 227 243 rfl (by decide) (by decide) (i := (own_sl oA oB la.toInt.toNat lb.toInt.toNat (own_G (own_cv xa ya)) (own_G (own_cv xb yb))).toInt) rfl (j := 1) (by decide) (fun b91 => ?_) (fun b91 => ?_)
                  · exfalso
                    have kk := own_sl_v oA oB la.toInt.toNat lb.toInt.toNat (x := xa) (y := ya) (z := xb) (w := yb) (by omega) hxa hya hxb hyb
                    omega
                  · refine own_aload X90 C at_227 229 rfl rfl rfl ?_
                    refine own_aload X90 C at_229 231 rfl rfl rfl ?_
                    refine own_callV X90 C (own_w hw 44 rfl) (own_w hw 45 rfl) (own_w hw 47 rfl) (own_w hw 46 rfl) (own_w hw 2 rfl) (own_w hw 48 rfl) (by decide) Ed2 (own_rm_sl l Z a0 hw b4 b1 T6.heap oB oA o5 o2 _ _ _ _ d5 d2 F2only F2role F1only F1role I2 I1 (Ne.symm noo) (by omega) (by omega) cs vF J) eh90 own_pd_Lcom_example_subsumer_subsumer_Nodes_Edge__R_Z [(.ref b1)] rfl rfl rfl rfl 0 rfl (by decide) (by decide) (by decide) (by decide) at_231 234 rfl (fun T92 L92 v92 X92 q92 => ?_)
                    obtain ⟨rfl, eh92, rfl⟩ := q92
                    have N92 := Fr.app N90 (Fr.nil h.size)
                    refine own_iload X92 C at_234 236 rfl rfl ?_
                    refine own_icmpne X92 C at_236 239 243 rfl (by decide) (by decide) (i := (own_sl oB oA lb.toInt.toNat la.toInt.toNat (own_G (own_cv xb yb)) (own_G (own_cv xa ya))).toInt) rfl (j := 1) (by decide) (fun b93 => ?_) (fun b93 => ?_)
                    · exfalso
                      have kk := own_sl_v oB oA lb.toInt.toNat la.toInt.toNat (x := xb) (y := yb) (z := xa) (w := ya) (by omega) hxb hyb hxa hya
                      omega
                    · refine own_iconst X92 C at_239 240 rfl (1) rfl ?_
                      refine own_goto X92 C at_240 244 (by decide) (by decide) ?_
                      refine own_iretNW X92 C hS5 (by first | exact Nat.le_refl _ | omega | (rw [eh92]; omega)) .boolean rfl (by simp) at_244 (by decide) (by decide) (1) (by decide) ?_
                      exact ⟨rfl, N92⟩
  refine own_iload_n X0 C at_0 1 rfl rfl ?_
  refine own_iconst X0 C at_1 2 rfl (1) rfl ?_
  refine own_iand X0 C at_2 3 rfl (fun v1 ev1 => ?_)
  refine own_ifeq X0 C at_3 6 10 rfl (by decide) (by decide) (i := v1.toInt) rfl (fun b94 => ?_) (fun b94 => ?_)
  · refine own_iconst X0 C at_10 11 rfl (0) rfl ?_
    refine own_istore X0 C at_11 13 rfl #[.val (.int ia0), .val (.int ia1), .val (.int ia2), .val (.int ia3), .val (.int ia4), .val (.int (0 : Int32)), .unset, .unset, .unset, .unset, .unset, .unset, .unset, .unset, .unset, .unset, .unset, .unset] rfl ?_
    refine own_iload_n X0 C at_13 14 rfl rfl ?_
    refine own_iconst X0 C at_14 15 rfl (2) rfl ?_
    refine own_iand X0 C at_15 16 rfl (fun v2 ev2 => ?_)
    refine own_ifeq X0 C at_16 19 23 rfl (by decide) (by decide) (i := v2.toInt) rfl (fun b95 => ?_) (fun b95 => ?_)
    · refine own_iconst X0 C at_23 24 rfl (0) rfl ?_
      refine own_istore X0 C at_24 26 rfl #[.val (.int ia0), .val (.int ia1), .val (.int ia2), .val (.int ia3), .val (.int ia4), .val (.int (0 : Int32)), .val (.int (0 : Int32)), .unset, .unset, .unset, .unset, .unset, .unset, .unset, .unset, .unset, .unset, .unset] rfl ?_
      refine own_iload_n X0 C at_26 27 rfl rfl ?_
      refine own_iconst X0 C at_27 28 rfl (2) rfl ?_
      refine own_iushr X0 C at_28 29 rfl (fun v3 ev3 => ?_)
      refine own_iconst X0 C at_29 30 rfl (3) rfl ?_
      refine own_iand X0 C at_30 31 rfl (fun v4 ev4 => ?_)
      refine own_iconst X0 C at_31 32 rfl (3) rfl ?_
      refine own_irem X0 C at_32 33 rfl (by decide) (fun v5 ev5 => ?_)
      have ra := c_and v3 3 (by decide)
      rw [← ev4] at ra
      have rb := (c_irem v4 3 3 (by decide)).1 ra.1
      rw [← ev5] at rb
      have r_v5 : 0 ≤ v5.toInt ∧ v5.toInt ≤ 2 := by omega
      refine own_istore X0 C at_33 35 rfl #[.val (.int ia0), .val (.int ia1), .val (.int ia2), .val (.int ia3), .val (.int ia4), .val (.int (0 : Int32)), .val (.int (0 : Int32)), .val (.int v5), .unset, .unset, .unset, .unset, .unset, .unset, .unset, .unset, .unset, .unset] rfl ?_
      refine own_iload_n X0 C at_35 36 rfl rfl ?_
      refine own_iconst X0 C at_36 37 rfl (4) rfl ?_
      refine own_iushr X0 C at_37 38 rfl (fun v6 ev6 => ?_)
      refine own_iconst X0 C at_38 39 rfl (3) rfl ?_
      refine own_iand X0 C at_39 40 rfl (fun v7 ev7 => ?_)
      refine own_iconst X0 C at_40 41 rfl (3) rfl ?_
      refine own_irem X0 C at_41 42 rfl (by decide) (fun v8 ev8 => ?_)
      have ra := c_and v6 3 (by decide)
      rw [← ev7] at ra
      have rb := (c_irem v7 3 3 (by decide)).1 ra.1
      rw [← ev8] at rb
      have r_v8 : 0 ≤ v8.toInt ∧ v8.toInt ≤ 2 := by omega
      refine own_istore X0 C at_42 44 rfl #[.val (.int ia0), .val (.int ia1), .val (.int ia2), .val (.int ia3), .val (.int ia4), .val (.int (0 : Int32)), .val (.int (0 : Int32)), .val (.int v5), .val (.int v8), .unset, .unset, .unset, .unset, .unset, .unset, .unset, .unset, .unset] rfl ?_
      refine own_iload_n X0 C at_44 45 rfl rfl ?_
      refine own_bipush X0 C at_45 47 rfl (64) rfl ?_
      refine own_iand X0 C at_47 48 rfl (fun v9 ev9 => ?_)
      refine own_ifeq X0 C at_48 51 55 rfl (by decide) (by decide) (i := v9.toInt) rfl (fun b96 => ?_) (fun b96 => ?_)
      · refine own_iconst X0 C at_55 56 rfl (0) rfl ?_
        refine own_istore X0 C at_56 58 rfl #[.val (.int ia0), .val (.int ia1), .val (.int ia2), .val (.int ia3), .val (.int ia4), .val (.int (0 : Int32)), .val (.int (0 : Int32)), .val (.int v5), .val (.int v8), .val (.int (0 : Int32)), .unset, .unset, .unset, .unset, .unset, .unset, .unset, .unset] rfl ?_
        refine own_iload_n X0 C at_58 59 rfl rfl ?_
        refine own_sipush X0 C at_59 62 rfl (255) rfl ?_
        refine own_iand X0 C at_62 63 rfl (fun v10 ev10 => ?_)
        refine own_i2c X0 C at_63 64 rfl (fun v11 ev11 => ?_)
        have ra := c_and ia1 255 (by decide)
        rw [← ev10] at ra
        have rb := c_i2c v10
        rw [← ev11] at rb
        have rt : (255 : Int32).toInt = 255 := by decide
        have r_v11 : 0 ≤ v11.toInt ∧ v11.toInt ≤ 255 := by omega
        refine own_istore X0 C at_64 66 rfl #[.val (.int ia0), .val (.int ia1), .val (.int ia2), .val (.int ia3), .val (.int ia4), .val (.int (0 : Int32)), .val (.int (0 : Int32)), .val (.int v5), .val (.int v8), .val (.int (0 : Int32)), .val (.int v11), .unset, .unset, .unset, .unset, .unset, .unset, .unset] rfl ?_
        refine own_iload_n X0 C at_66 67 rfl rfl ?_
        refine own_bipush X0 C at_67 69 rfl (8) rfl ?_
        refine own_iushr X0 C at_69 70 rfl (fun v12 ev12 => ?_)
        refine own_sipush X0 C at_70 73 rfl (255) rfl ?_
        refine own_iand X0 C at_73 74 rfl (fun v13 ev13 => ?_)
        refine own_i2c X0 C at_74 75 rfl (fun v14 ev14 => ?_)
        have ra := c_and v12 255 (by decide)
        rw [← ev13] at ra
        have rb := c_i2c v13
        rw [← ev14] at rb
        have rt : (255 : Int32).toInt = 255 := by decide
        have r_v14 : 0 ≤ v14.toInt ∧ v14.toInt ≤ 255 := by omega
        refine own_istore X0 C at_75 77 rfl #[.val (.int ia0), .val (.int ia1), .val (.int ia2), .val (.int ia3), .val (.int ia4), .val (.int (0 : Int32)), .val (.int (0 : Int32)), .val (.int v5), .val (.int v8), .val (.int (0 : Int32)), .val (.int v11), .val (.int v14), .unset, .unset, .unset, .unset, .unset, .unset] rfl ?_
        refine own_iload_n X0 C at_77 78 rfl rfl ?_
        refine own_sipush X0 C at_78 81 rfl (255) rfl ?_
        refine own_iand X0 C at_81 82 rfl (fun v15 ev15 => ?_)
        refine own_i2c X0 C at_82 83 rfl (fun v16 ev16 => ?_)
        have ra := c_and ia2 255 (by decide)
        rw [← ev15] at ra
        have rb := c_i2c v15
        rw [← ev16] at rb
        have rt : (255 : Int32).toInt = 255 := by decide
        have r_v16 : 0 ≤ v16.toInt ∧ v16.toInt ≤ 255 := by omega
        refine own_istore X0 C at_83 85 rfl #[.val (.int ia0), .val (.int ia1), .val (.int ia2), .val (.int ia3), .val (.int ia4), .val (.int (0 : Int32)), .val (.int (0 : Int32)), .val (.int v5), .val (.int v8), .val (.int (0 : Int32)), .val (.int v11), .val (.int v14), .val (.int v16), .unset, .unset, .unset, .unset, .unset] rfl ?_
        refine own_iload_n X0 C at_85 86 rfl rfl ?_
        refine own_bipush X0 C at_86 88 rfl (8) rfl ?_
        refine own_iushr X0 C at_88 89 rfl (fun v17 ev17 => ?_)
        refine own_sipush X0 C at_89 92 rfl (255) rfl ?_
        refine own_iand X0 C at_92 93 rfl (fun v18 ev18 => ?_)
        refine own_i2c X0 C at_93 94 rfl (fun v19 ev19 => ?_)
        have ra := c_and v17 255 (by decide)
        rw [← ev18] at ra
        have rb := c_i2c v18
        rw [← ev19] at rb
        have rt : (255 : Int32).toInt = 255 := by decide
        have r_v19 : 0 ≤ v19.toInt ∧ v19.toInt ≤ 255 := by omega
        refine own_istore X0 C at_94 96 rfl #[.val (.int ia0), .val (.int ia1), .val (.int ia2), .val (.int ia3), .val (.int ia4), .val (.int (0 : Int32)), .val (.int (0 : Int32)), .val (.int v5), .val (.int v8), .val (.int (0 : Int32)), .val (.int v11), .val (.int v14), .val (.int v16), .val (.int v19), .unset, .unset, .unset, .unset] rfl ?_
        refine own_iload X0 C at_96 98 rfl rfl ?_
        refine own_ifeq X0 C at_98 101 113 rfl (by decide) (by decide) (i := 0) (by decide) (fun b97 => ?_) (fun b97 => ?_)
        · exact J113 (0 : Int32) (0 : Int32) v5 v8 (0 : Int32) v11 v14 v16 v19 (by decide) (by decide) r_v5 r_v8 r_v11 r_v14 r_v16 r_v19
        · exfalso
          omega
      · refine own_iconst X0 C at_51 52 rfl (1) rfl ?_
        refine own_goto X0 C at_52 56 (by decide) (by decide) ?_
        refine own_istore X0 C at_56 58 rfl #[.val (.int ia0), .val (.int ia1), .val (.int ia2), .val (.int ia3), .val (.int ia4), .val (.int (0 : Int32)), .val (.int (0 : Int32)), .val (.int v5), .val (.int v8), .val (.int (1 : Int32)), .unset, .unset, .unset, .unset, .unset, .unset, .unset, .unset] rfl ?_
        refine own_iload_n X0 C at_58 59 rfl rfl ?_
        refine own_sipush X0 C at_59 62 rfl (255) rfl ?_
        refine own_iand X0 C at_62 63 rfl (fun v20 ev20 => ?_)
        refine own_i2c X0 C at_63 64 rfl (fun v21 ev21 => ?_)
        have ra := c_and ia1 255 (by decide)
        rw [← ev20] at ra
        have rb := c_i2c v20
        rw [← ev21] at rb
        have rt : (255 : Int32).toInt = 255 := by decide
        have r_v21 : 0 ≤ v21.toInt ∧ v21.toInt ≤ 255 := by omega
        refine own_istore X0 C at_64 66 rfl #[.val (.int ia0), .val (.int ia1), .val (.int ia2), .val (.int ia3), .val (.int ia4), .val (.int (0 : Int32)), .val (.int (0 : Int32)), .val (.int v5), .val (.int v8), .val (.int (1 : Int32)), .val (.int v21), .unset, .unset, .unset, .unset, .unset, .unset, .unset] rfl ?_
        refine own_iload_n X0 C at_66 67 rfl rfl ?_
        refine own_bipush X0 C at_67 69 rfl (8) rfl ?_
        refine own_iushr X0 C at_69 70 rfl (fun v22 ev22 => ?_)
        refine own_sipush X0 C at_70 73 rfl (255) rfl ?_
        refine own_iand X0 C at_73 74 rfl (fun v23 ev23 => ?_)
        refine own_i2c X0 C at_74 75 rfl (fun v24 ev24 => ?_)
        have ra := c_and v22 255 (by decide)
        rw [← ev23] at ra
        have rb := c_i2c v23
        rw [← ev24] at rb
        have rt : (255 : Int32).toInt = 255 := by decide
        have r_v24 : 0 ≤ v24.toInt ∧ v24.toInt ≤ 255 := by omega
        refine own_istore X0 C at_75 77 rfl #[.val (.int ia0), .val (.int ia1), .val (.int ia2), .val (.int ia3), .val (.int ia4), .val (.int (0 : Int32)), .val (.int (0 : Int32)), .val (.int v5), .val (.int v8), .val (.int (1 : Int32)), .val (.int v21), .val (.int v24), .unset, .unset, .unset, .unset, .unset, .unset] rfl ?_
        refine own_iload_n X0 C at_77 78 rfl rfl ?_
        refine own_sipush X0 C at_78 81 rfl (255) rfl ?_
        refine own_iand X0 C at_81 82 rfl (fun v25 ev25 => ?_)
        refine own_i2c X0 C at_82 83 rfl (fun v26 ev26 => ?_)
        have ra := c_and ia2 255 (by decide)
        rw [← ev25] at ra
        have rb := c_i2c v25
        rw [← ev26] at rb
        have rt : (255 : Int32).toInt = 255 := by decide
        have r_v26 : 0 ≤ v26.toInt ∧ v26.toInt ≤ 255 := by omega
        refine own_istore X0 C at_83 85 rfl #[.val (.int ia0), .val (.int ia1), .val (.int ia2), .val (.int ia3), .val (.int ia4), .val (.int (0 : Int32)), .val (.int (0 : Int32)), .val (.int v5), .val (.int v8), .val (.int (1 : Int32)), .val (.int v21), .val (.int v24), .val (.int v26), .unset, .unset, .unset, .unset, .unset] rfl ?_
        refine own_iload_n X0 C at_85 86 rfl rfl ?_
        refine own_bipush X0 C at_86 88 rfl (8) rfl ?_
        refine own_iushr X0 C at_88 89 rfl (fun v27 ev27 => ?_)
        refine own_sipush X0 C at_89 92 rfl (255) rfl ?_
        refine own_iand X0 C at_92 93 rfl (fun v28 ev28 => ?_)
        refine own_i2c X0 C at_93 94 rfl (fun v29 ev29 => ?_)
        have ra := c_and v27 255 (by decide)
        rw [← ev28] at ra
        have rb := c_i2c v28
        rw [← ev29] at rb
        have rt : (255 : Int32).toInt = 255 := by decide
        have r_v29 : 0 ≤ v29.toInt ∧ v29.toInt ≤ 255 := by omega
        refine own_istore X0 C at_94 96 rfl #[.val (.int ia0), .val (.int ia1), .val (.int ia2), .val (.int ia3), .val (.int ia4), .val (.int (0 : Int32)), .val (.int (0 : Int32)), .val (.int v5), .val (.int v8), .val (.int (1 : Int32)), .val (.int v21), .val (.int v24), .val (.int v26), .val (.int v29), .unset, .unset, .unset, .unset] rfl ?_
        refine own_iload X0 C at_96 98 rfl rfl ?_
        refine own_ifeq X0 C at_98 101 113 rfl (by decide) (by decide) (i := 1) (by decide) (fun b98 => ?_) (fun b98 => ?_)
        · exfalso
          omega
        · refine own_iload X0 C at_101 103 rfl rfl ?_
          refine own_istore X0 C at_103 105 rfl #[.val (.int ia0), .val (.int ia1), .val (.int ia2), .val (.int ia3), .val (.int ia4), .val (.int (0 : Int32)), .val (.int (0 : Int32)), .val (.int v5), .val (.int v5), .val (.int (1 : Int32)), .val (.int v21), .val (.int v24), .val (.int v26), .val (.int v29), .unset, .unset, .unset, .unset] rfl ?_
          refine own_iload X0 C at_105 107 rfl rfl ?_
          refine own_istore X0 C at_107 109 rfl #[.val (.int ia0), .val (.int ia1), .val (.int ia2), .val (.int ia3), .val (.int ia4), .val (.int (0 : Int32)), .val (.int (0 : Int32)), .val (.int v5), .val (.int v5), .val (.int (1 : Int32)), .val (.int v21), .val (.int v24), .val (.int v21), .val (.int v29), .unset, .unset, .unset, .unset] rfl ?_
          refine own_iload X0 C at_109 111 rfl rfl ?_
          refine own_istore X0 C at_111 113 rfl #[.val (.int ia0), .val (.int ia1), .val (.int ia2), .val (.int ia3), .val (.int ia4), .val (.int (0 : Int32)), .val (.int (0 : Int32)), .val (.int v5), .val (.int v5), .val (.int (1 : Int32)), .val (.int v21), .val (.int v24), .val (.int v21), .val (.int v24), .unset, .unset, .unset, .unset] rfl ?_
          exact J113 (0 : Int32) (0 : Int32) v5 v5 (1 : Int32) v21 v24 v21 v24 (by decide) (by decide) r_v5 r_v5 r_v21 r_v24 r_v21 r_v24
    · refine own_iconst X0 C at_19 20 rfl (1) rfl ?_
      refine own_goto X0 C at_20 24 (by decide) (by decide) ?_
      refine own_istore X0 C at_24 26 rfl #[.val (.int ia0), .val (.int ia1), .val (.int ia2), .val (.int ia3), .val (.int ia4), .val (.int (0 : Int32)), .val (.int (1 : Int32)), .unset, .unset, .unset, .unset, .unset, .unset, .unset, .unset, .unset, .unset, .unset] rfl ?_
      refine own_iload_n X0 C at_26 27 rfl rfl ?_
      refine own_iconst X0 C at_27 28 rfl (2) rfl ?_
      refine own_iushr X0 C at_28 29 rfl (fun v30 ev30 => ?_)
      refine own_iconst X0 C at_29 30 rfl (3) rfl ?_
      refine own_iand X0 C at_30 31 rfl (fun v31 ev31 => ?_)
      refine own_iconst X0 C at_31 32 rfl (3) rfl ?_
      refine own_irem X0 C at_32 33 rfl (by decide) (fun v32 ev32 => ?_)
      have ra := c_and v30 3 (by decide)
      rw [← ev31] at ra
      have rb := (c_irem v31 3 3 (by decide)).1 ra.1
      rw [← ev32] at rb
      have r_v32 : 0 ≤ v32.toInt ∧ v32.toInt ≤ 2 := by omega
      refine own_istore X0 C at_33 35 rfl #[.val (.int ia0), .val (.int ia1), .val (.int ia2), .val (.int ia3), .val (.int ia4), .val (.int (0 : Int32)), .val (.int (1 : Int32)), .val (.int v32), .unset, .unset, .unset, .unset, .unset, .unset, .unset, .unset, .unset, .unset] rfl ?_
      refine own_iload_n X0 C at_35 36 rfl rfl ?_
      refine own_iconst X0 C at_36 37 rfl (4) rfl ?_
      refine own_iushr X0 C at_37 38 rfl (fun v33 ev33 => ?_)
      refine own_iconst X0 C at_38 39 rfl (3) rfl ?_
      refine own_iand X0 C at_39 40 rfl (fun v34 ev34 => ?_)
      refine own_iconst X0 C at_40 41 rfl (3) rfl ?_
      refine own_irem X0 C at_41 42 rfl (by decide) (fun v35 ev35 => ?_)
      have ra := c_and v33 3 (by decide)
      rw [← ev34] at ra
      have rb := (c_irem v34 3 3 (by decide)).1 ra.1
      rw [← ev35] at rb
      have r_v35 : 0 ≤ v35.toInt ∧ v35.toInt ≤ 2 := by omega
      refine own_istore X0 C at_42 44 rfl #[.val (.int ia0), .val (.int ia1), .val (.int ia2), .val (.int ia3), .val (.int ia4), .val (.int (0 : Int32)), .val (.int (1 : Int32)), .val (.int v32), .val (.int v35), .unset, .unset, .unset, .unset, .unset, .unset, .unset, .unset, .unset] rfl ?_
      refine own_iload_n X0 C at_44 45 rfl rfl ?_
      refine own_bipush X0 C at_45 47 rfl (64) rfl ?_
      refine own_iand X0 C at_47 48 rfl (fun v36 ev36 => ?_)
      refine own_ifeq X0 C at_48 51 55 rfl (by decide) (by decide) (i := v36.toInt) rfl (fun b99 => ?_) (fun b99 => ?_)
      · refine own_iconst X0 C at_55 56 rfl (0) rfl ?_
        refine own_istore X0 C at_56 58 rfl #[.val (.int ia0), .val (.int ia1), .val (.int ia2), .val (.int ia3), .val (.int ia4), .val (.int (0 : Int32)), .val (.int (1 : Int32)), .val (.int v32), .val (.int v35), .val (.int (0 : Int32)), .unset, .unset, .unset, .unset, .unset, .unset, .unset, .unset] rfl ?_
        refine own_iload_n X0 C at_58 59 rfl rfl ?_
        refine own_sipush X0 C at_59 62 rfl (255) rfl ?_
        refine own_iand X0 C at_62 63 rfl (fun v37 ev37 => ?_)
        refine own_i2c X0 C at_63 64 rfl (fun v38 ev38 => ?_)
        have ra := c_and ia1 255 (by decide)
        rw [← ev37] at ra
        have rb := c_i2c v37
        rw [← ev38] at rb
        have rt : (255 : Int32).toInt = 255 := by decide
        have r_v38 : 0 ≤ v38.toInt ∧ v38.toInt ≤ 255 := by omega
        refine own_istore X0 C at_64 66 rfl #[.val (.int ia0), .val (.int ia1), .val (.int ia2), .val (.int ia3), .val (.int ia4), .val (.int (0 : Int32)), .val (.int (1 : Int32)), .val (.int v32), .val (.int v35), .val (.int (0 : Int32)), .val (.int v38), .unset, .unset, .unset, .unset, .unset, .unset, .unset] rfl ?_
        refine own_iload_n X0 C at_66 67 rfl rfl ?_
        refine own_bipush X0 C at_67 69 rfl (8) rfl ?_
        refine own_iushr X0 C at_69 70 rfl (fun v39 ev39 => ?_)
        refine own_sipush X0 C at_70 73 rfl (255) rfl ?_
        refine own_iand X0 C at_73 74 rfl (fun v40 ev40 => ?_)
        refine own_i2c X0 C at_74 75 rfl (fun v41 ev41 => ?_)
        have ra := c_and v39 255 (by decide)
        rw [← ev40] at ra
        have rb := c_i2c v40
        rw [← ev41] at rb
        have rt : (255 : Int32).toInt = 255 := by decide
        have r_v41 : 0 ≤ v41.toInt ∧ v41.toInt ≤ 255 := by omega
        refine own_istore X0 C at_75 77 rfl #[.val (.int ia0), .val (.int ia1), .val (.int ia2), .val (.int ia3), .val (.int ia4), .val (.int (0 : Int32)), .val (.int (1 : Int32)), .val (.int v32), .val (.int v35), .val (.int (0 : Int32)), .val (.int v38), .val (.int v41), .unset, .unset, .unset, .unset, .unset, .unset] rfl ?_
        refine own_iload_n X0 C at_77 78 rfl rfl ?_
        refine own_sipush X0 C at_78 81 rfl (255) rfl ?_
        refine own_iand X0 C at_81 82 rfl (fun v42 ev42 => ?_)
        refine own_i2c X0 C at_82 83 rfl (fun v43 ev43 => ?_)
        have ra := c_and ia2 255 (by decide)
        rw [← ev42] at ra
        have rb := c_i2c v42
        rw [← ev43] at rb
        have rt : (255 : Int32).toInt = 255 := by decide
        have r_v43 : 0 ≤ v43.toInt ∧ v43.toInt ≤ 255 := by omega
        refine own_istore X0 C at_83 85 rfl #[.val (.int ia0), .val (.int ia1), .val (.int ia2), .val (.int ia3), .val (.int ia4), .val (.int (0 : Int32)), .val (.int (1 : Int32)), .val (.int v32), .val (.int v35), .val (.int (0 : Int32)), .val (.int v38), .val (.int v41), .val (.int v43), .unset, .unset, .unset, .unset, .unset] rfl ?_
        refine own_iload_n X0 C at_85 86 rfl rfl ?_
        refine own_bipush X0 C at_86 88 rfl (8) rfl ?_
        refine own_iushr X0 C at_88 89 rfl (fun v44 ev44 => ?_)
        refine own_sipush X0 C at_89 92 rfl (255) rfl ?_
        refine own_iand X0 C at_92 93 rfl (fun v45 ev45 => ?_)
        refine own_i2c X0 C at_93 94 rfl (fun v46 ev46 => ?_)
        have ra := c_and v44 255 (by decide)
        rw [← ev45] at ra
        have rb := c_i2c v45
        rw [← ev46] at rb
        have rt : (255 : Int32).toInt = 255 := by decide
        have r_v46 : 0 ≤ v46.toInt ∧ v46.toInt ≤ 255 := by omega
        refine own_istore X0 C at_94 96 rfl #[.val (.int ia0), .val (.int ia1), .val (.int ia2), .val (.int ia3), .val (.int ia4), .val (.int (0 : Int32)), .val (.int (1 : Int32)), .val (.int v32), .val (.int v35), .val (.int (0 : Int32)), .val (.int v38), .val (.int v41), .val (.int v43), .val (.int v46), .unset, .unset, .unset, .unset] rfl ?_
        refine own_iload X0 C at_96 98 rfl rfl ?_
        refine own_ifeq X0 C at_98 101 113 rfl (by decide) (by decide) (i := 0) (by decide) (fun b100 => ?_) (fun b100 => ?_)
        · exact J113 (0 : Int32) (1 : Int32) v32 v35 (0 : Int32) v38 v41 v43 v46 (by decide) (by decide) r_v32 r_v35 r_v38 r_v41 r_v43 r_v46
        · exfalso
          omega
      · refine own_iconst X0 C at_51 52 rfl (1) rfl ?_
        refine own_goto X0 C at_52 56 (by decide) (by decide) ?_
        refine own_istore X0 C at_56 58 rfl #[.val (.int ia0), .val (.int ia1), .val (.int ia2), .val (.int ia3), .val (.int ia4), .val (.int (0 : Int32)), .val (.int (1 : Int32)), .val (.int v32), .val (.int v35), .val (.int (1 : Int32)), .unset, .unset, .unset, .unset, .unset, .unset, .unset, .unset] rfl ?_
        refine own_iload_n X0 C at_58 59 rfl rfl ?_
        refine own_sipush X0 C at_59 62 rfl (255) rfl ?_
        refine own_iand X0 C at_62 63 rfl (fun v47 ev47 => ?_)
        refine own_i2c X0 C at_63 64 rfl (fun v48 ev48 => ?_)
        have ra := c_and ia1 255 (by decide)
        rw [← ev47] at ra
        have rb := c_i2c v47
        rw [← ev48] at rb
        have rt : (255 : Int32).toInt = 255 := by decide
        have r_v48 : 0 ≤ v48.toInt ∧ v48.toInt ≤ 255 := by omega
        refine own_istore X0 C at_64 66 rfl #[.val (.int ia0), .val (.int ia1), .val (.int ia2), .val (.int ia3), .val (.int ia4), .val (.int (0 : Int32)), .val (.int (1 : Int32)), .val (.int v32), .val (.int v35), .val (.int (1 : Int32)), .val (.int v48), .unset, .unset, .unset, .unset, .unset, .unset, .unset] rfl ?_
        refine own_iload_n X0 C at_66 67 rfl rfl ?_
        refine own_bipush X0 C at_67 69 rfl (8) rfl ?_
        refine own_iushr X0 C at_69 70 rfl (fun v49 ev49 => ?_)
        refine own_sipush X0 C at_70 73 rfl (255) rfl ?_
        refine own_iand X0 C at_73 74 rfl (fun v50 ev50 => ?_)
        refine own_i2c X0 C at_74 75 rfl (fun v51 ev51 => ?_)
        have ra := c_and v49 255 (by decide)
        rw [← ev50] at ra
        have rb := c_i2c v50
        rw [← ev51] at rb
        have rt : (255 : Int32).toInt = 255 := by decide
        have r_v51 : 0 ≤ v51.toInt ∧ v51.toInt ≤ 255 := by omega
        refine own_istore X0 C at_75 77 rfl #[.val (.int ia0), .val (.int ia1), .val (.int ia2), .val (.int ia3), .val (.int ia4), .val (.int (0 : Int32)), .val (.int (1 : Int32)), .val (.int v32), .val (.int v35), .val (.int (1 : Int32)), .val (.int v48), .val (.int v51), .unset, .unset, .unset, .unset, .unset, .unset] rfl ?_
        refine own_iload_n X0 C at_77 78 rfl rfl ?_
        refine own_sipush X0 C at_78 81 rfl (255) rfl ?_
        refine own_iand X0 C at_81 82 rfl (fun v52 ev52 => ?_)
        refine own_i2c X0 C at_82 83 rfl (fun v53 ev53 => ?_)
        have ra := c_and ia2 255 (by decide)
        rw [← ev52] at ra
        have rb := c_i2c v52
        rw [← ev53] at rb
        have rt : (255 : Int32).toInt = 255 := by decide
        have r_v53 : 0 ≤ v53.toInt ∧ v53.toInt ≤ 255 := by omega
        refine own_istore X0 C at_83 85 rfl #[.val (.int ia0), .val (.int ia1), .val (.int ia2), .val (.int ia3), .val (.int ia4), .val (.int (0 : Int32)), .val (.int (1 : Int32)), .val (.int v32), .val (.int v35), .val (.int (1 : Int32)), .val (.int v48), .val (.int v51), .val (.int v53), .unset, .unset, .unset, .unset, .unset] rfl ?_
        refine own_iload_n X0 C at_85 86 rfl rfl ?_
        refine own_bipush X0 C at_86 88 rfl (8) rfl ?_
        refine own_iushr X0 C at_88 89 rfl (fun v54 ev54 => ?_)
        refine own_sipush X0 C at_89 92 rfl (255) rfl ?_
        refine own_iand X0 C at_92 93 rfl (fun v55 ev55 => ?_)
        refine own_i2c X0 C at_93 94 rfl (fun v56 ev56 => ?_)
        have ra := c_and v54 255 (by decide)
        rw [← ev55] at ra
        have rb := c_i2c v55
        rw [← ev56] at rb
        have rt : (255 : Int32).toInt = 255 := by decide
        have r_v56 : 0 ≤ v56.toInt ∧ v56.toInt ≤ 255 := by omega
        refine own_istore X0 C at_94 96 rfl #[.val (.int ia0), .val (.int ia1), .val (.int ia2), .val (.int ia3), .val (.int ia4), .val (.int (0 : Int32)), .val (.int (1 : Int32)), .val (.int v32), .val (.int v35), .val (.int (1 : Int32)), .val (.int v48), .val (.int v51), .val (.int v53), .val (.int v56), .unset, .unset, .unset, .unset] rfl ?_
        refine own_iload X0 C at_96 98 rfl rfl ?_
        refine own_ifeq X0 C at_98 101 113 rfl (by decide) (by decide) (i := 1) (by decide) (fun b101 => ?_) (fun b101 => ?_)
        · exfalso
          omega
        · refine own_iload X0 C at_101 103 rfl rfl ?_
          refine own_istore X0 C at_103 105 rfl #[.val (.int ia0), .val (.int ia1), .val (.int ia2), .val (.int ia3), .val (.int ia4), .val (.int (0 : Int32)), .val (.int (1 : Int32)), .val (.int v32), .val (.int v32), .val (.int (1 : Int32)), .val (.int v48), .val (.int v51), .val (.int v53), .val (.int v56), .unset, .unset, .unset, .unset] rfl ?_
          refine own_iload X0 C at_105 107 rfl rfl ?_
          refine own_istore X0 C at_107 109 rfl #[.val (.int ia0), .val (.int ia1), .val (.int ia2), .val (.int ia3), .val (.int ia4), .val (.int (0 : Int32)), .val (.int (1 : Int32)), .val (.int v32), .val (.int v32), .val (.int (1 : Int32)), .val (.int v48), .val (.int v51), .val (.int v48), .val (.int v56), .unset, .unset, .unset, .unset] rfl ?_
          refine own_iload X0 C at_109 111 rfl rfl ?_
          refine own_istore X0 C at_111 113 rfl #[.val (.int ia0), .val (.int ia1), .val (.int ia2), .val (.int ia3), .val (.int ia4), .val (.int (0 : Int32)), .val (.int (1 : Int32)), .val (.int v32), .val (.int v32), .val (.int (1 : Int32)), .val (.int v48), .val (.int v51), .val (.int v48), .val (.int v51), .unset, .unset, .unset, .unset] rfl ?_
          exact J113 (0 : Int32) (1 : Int32) v32 v32 (1 : Int32) v48 v51 v48 v51 (by decide) (by decide) r_v32 r_v32 r_v48 r_v51 r_v48 r_v51
  · refine own_iconst X0 C at_6 7 rfl (1) rfl ?_
    refine own_goto X0 C at_7 11 (by decide) (by decide) ?_
    refine own_istore X0 C at_11 13 rfl #[.val (.int ia0), .val (.int ia1), .val (.int ia2), .val (.int ia3), .val (.int ia4), .val (.int (1 : Int32)), .unset, .unset, .unset, .unset, .unset, .unset, .unset, .unset, .unset, .unset, .unset, .unset] rfl ?_
    refine own_iload_n X0 C at_13 14 rfl rfl ?_
    refine own_iconst X0 C at_14 15 rfl (2) rfl ?_
    refine own_iand X0 C at_15 16 rfl (fun v57 ev57 => ?_)
    refine own_ifeq X0 C at_16 19 23 rfl (by decide) (by decide) (i := v57.toInt) rfl (fun b102 => ?_) (fun b102 => ?_)
    · refine own_iconst X0 C at_23 24 rfl (0) rfl ?_
      refine own_istore X0 C at_24 26 rfl #[.val (.int ia0), .val (.int ia1), .val (.int ia2), .val (.int ia3), .val (.int ia4), .val (.int (1 : Int32)), .val (.int (0 : Int32)), .unset, .unset, .unset, .unset, .unset, .unset, .unset, .unset, .unset, .unset, .unset] rfl ?_
      refine own_iload_n X0 C at_26 27 rfl rfl ?_
      refine own_iconst X0 C at_27 28 rfl (2) rfl ?_
      refine own_iushr X0 C at_28 29 rfl (fun v58 ev58 => ?_)
      refine own_iconst X0 C at_29 30 rfl (3) rfl ?_
      refine own_iand X0 C at_30 31 rfl (fun v59 ev59 => ?_)
      refine own_iconst X0 C at_31 32 rfl (3) rfl ?_
      refine own_irem X0 C at_32 33 rfl (by decide) (fun v60 ev60 => ?_)
      have ra := c_and v58 3 (by decide)
      rw [← ev59] at ra
      have rb := (c_irem v59 3 3 (by decide)).1 ra.1
      rw [← ev60] at rb
      have r_v60 : 0 ≤ v60.toInt ∧ v60.toInt ≤ 2 := by omega
      refine own_istore X0 C at_33 35 rfl #[.val (.int ia0), .val (.int ia1), .val (.int ia2), .val (.int ia3), .val (.int ia4), .val (.int (1 : Int32)), .val (.int (0 : Int32)), .val (.int v60), .unset, .unset, .unset, .unset, .unset, .unset, .unset, .unset, .unset, .unset] rfl ?_
      refine own_iload_n X0 C at_35 36 rfl rfl ?_
      refine own_iconst X0 C at_36 37 rfl (4) rfl ?_
      refine own_iushr X0 C at_37 38 rfl (fun v61 ev61 => ?_)
      refine own_iconst X0 C at_38 39 rfl (3) rfl ?_
      refine own_iand X0 C at_39 40 rfl (fun v62 ev62 => ?_)
      refine own_iconst X0 C at_40 41 rfl (3) rfl ?_
      refine own_irem X0 C at_41 42 rfl (by decide) (fun v63 ev63 => ?_)
      have ra := c_and v61 3 (by decide)
      rw [← ev62] at ra
      have rb := (c_irem v62 3 3 (by decide)).1 ra.1
      rw [← ev63] at rb
      have r_v63 : 0 ≤ v63.toInt ∧ v63.toInt ≤ 2 := by omega
      refine own_istore X0 C at_42 44 rfl #[.val (.int ia0), .val (.int ia1), .val (.int ia2), .val (.int ia3), .val (.int ia4), .val (.int (1 : Int32)), .val (.int (0 : Int32)), .val (.int v60), .val (.int v63), .unset, .unset, .unset, .unset, .unset, .unset, .unset, .unset, .unset] rfl ?_
      refine own_iload_n X0 C at_44 45 rfl rfl ?_
      refine own_bipush X0 C at_45 47 rfl (64) rfl ?_
      refine own_iand X0 C at_47 48 rfl (fun v64 ev64 => ?_)
      refine own_ifeq X0 C at_48 51 55 rfl (by decide) (by decide) (i := v64.toInt) rfl (fun b103 => ?_) (fun b103 => ?_)
      · refine own_iconst X0 C at_55 56 rfl (0) rfl ?_
        refine own_istore X0 C at_56 58 rfl #[.val (.int ia0), .val (.int ia1), .val (.int ia2), .val (.int ia3), .val (.int ia4), .val (.int (1 : Int32)), .val (.int (0 : Int32)), .val (.int v60), .val (.int v63), .val (.int (0 : Int32)), .unset, .unset, .unset, .unset, .unset, .unset, .unset, .unset] rfl ?_
        refine own_iload_n X0 C at_58 59 rfl rfl ?_
        refine own_sipush X0 C at_59 62 rfl (255) rfl ?_
        refine own_iand X0 C at_62 63 rfl (fun v65 ev65 => ?_)
        refine own_i2c X0 C at_63 64 rfl (fun v66 ev66 => ?_)
        have ra := c_and ia1 255 (by decide)
        rw [← ev65] at ra
        have rb := c_i2c v65
        rw [← ev66] at rb
        have rt : (255 : Int32).toInt = 255 := by decide
        have r_v66 : 0 ≤ v66.toInt ∧ v66.toInt ≤ 255 := by omega
        refine own_istore X0 C at_64 66 rfl #[.val (.int ia0), .val (.int ia1), .val (.int ia2), .val (.int ia3), .val (.int ia4), .val (.int (1 : Int32)), .val (.int (0 : Int32)), .val (.int v60), .val (.int v63), .val (.int (0 : Int32)), .val (.int v66), .unset, .unset, .unset, .unset, .unset, .unset, .unset] rfl ?_
        refine own_iload_n X0 C at_66 67 rfl rfl ?_
        refine own_bipush X0 C at_67 69 rfl (8) rfl ?_
        refine own_iushr X0 C at_69 70 rfl (fun v67 ev67 => ?_)
        refine own_sipush X0 C at_70 73 rfl (255) rfl ?_
        refine own_iand X0 C at_73 74 rfl (fun v68 ev68 => ?_)
        refine own_i2c X0 C at_74 75 rfl (fun v69 ev69 => ?_)
        have ra := c_and v67 255 (by decide)
        rw [← ev68] at ra
        have rb := c_i2c v68
        rw [← ev69] at rb
        have rt : (255 : Int32).toInt = 255 := by decide
        have r_v69 : 0 ≤ v69.toInt ∧ v69.toInt ≤ 255 := by omega
        refine own_istore X0 C at_75 77 rfl #[.val (.int ia0), .val (.int ia1), .val (.int ia2), .val (.int ia3), .val (.int ia4), .val (.int (1 : Int32)), .val (.int (0 : Int32)), .val (.int v60), .val (.int v63), .val (.int (0 : Int32)), .val (.int v66), .val (.int v69), .unset, .unset, .unset, .unset, .unset, .unset] rfl ?_
        refine own_iload_n X0 C at_77 78 rfl rfl ?_
        refine own_sipush X0 C at_78 81 rfl (255) rfl ?_
        refine own_iand X0 C at_81 82 rfl (fun v70 ev70 => ?_)
        refine own_i2c X0 C at_82 83 rfl (fun v71 ev71 => ?_)
        have ra := c_and ia2 255 (by decide)
        rw [← ev70] at ra
        have rb := c_i2c v70
        rw [← ev71] at rb
        have rt : (255 : Int32).toInt = 255 := by decide
        have r_v71 : 0 ≤ v71.toInt ∧ v71.toInt ≤ 255 := by omega
        refine own_istore X0 C at_83 85 rfl #[.val (.int ia0), .val (.int ia1), .val (.int ia2), .val (.int ia3), .val (.int ia4), .val (.int (1 : Int32)), .val (.int (0 : Int32)), .val (.int v60), .val (.int v63), .val (.int (0 : Int32)), .val (.int v66), .val (.int v69), .val (.int v71), .unset, .unset, .unset, .unset, .unset] rfl ?_
        refine own_iload_n X0 C at_85 86 rfl rfl ?_
        refine own_bipush X0 C at_86 88 rfl (8) rfl ?_
        refine own_iushr X0 C at_88 89 rfl (fun v72 ev72 => ?_)
        refine own_sipush X0 C at_89 92 rfl (255) rfl ?_
        refine own_iand X0 C at_92 93 rfl (fun v73 ev73 => ?_)
        refine own_i2c X0 C at_93 94 rfl (fun v74 ev74 => ?_)
        have ra := c_and v72 255 (by decide)
        rw [← ev73] at ra
        have rb := c_i2c v73
        rw [← ev74] at rb
        have rt : (255 : Int32).toInt = 255 := by decide
        have r_v74 : 0 ≤ v74.toInt ∧ v74.toInt ≤ 255 := by omega
        refine own_istore X0 C at_94 96 rfl #[.val (.int ia0), .val (.int ia1), .val (.int ia2), .val (.int ia3), .val (.int ia4), .val (.int (1 : Int32)), .val (.int (0 : Int32)), .val (.int v60), .val (.int v63), .val (.int (0 : Int32)), .val (.int v66), .val (.int v69), .val (.int v71), .val (.int v74), .unset, .unset, .unset, .unset] rfl ?_
        refine own_iload X0 C at_96 98 rfl rfl ?_
        refine own_ifeq X0 C at_98 101 113 rfl (by decide) (by decide) (i := 0) (by decide) (fun b104 => ?_) (fun b104 => ?_)
        · exact J113 (1 : Int32) (0 : Int32) v60 v63 (0 : Int32) v66 v69 v71 v74 (by decide) (by decide) r_v60 r_v63 r_v66 r_v69 r_v71 r_v74
        · exfalso
          omega
      · refine own_iconst X0 C at_51 52 rfl (1) rfl ?_
        refine own_goto X0 C at_52 56 (by decide) (by decide) ?_
        refine own_istore X0 C at_56 58 rfl #[.val (.int ia0), .val (.int ia1), .val (.int ia2), .val (.int ia3), .val (.int ia4), .val (.int (1 : Int32)), .val (.int (0 : Int32)), .val (.int v60), .val (.int v63), .val (.int (1 : Int32)), .unset, .unset, .unset, .unset, .unset, .unset, .unset, .unset] rfl ?_
        refine own_iload_n X0 C at_58 59 rfl rfl ?_
        refine own_sipush X0 C at_59 62 rfl (255) rfl ?_
        refine own_iand X0 C at_62 63 rfl (fun v75 ev75 => ?_)
        refine own_i2c X0 C at_63 64 rfl (fun v76 ev76 => ?_)
        have ra := c_and ia1 255 (by decide)
        rw [← ev75] at ra
        have rb := c_i2c v75
        rw [← ev76] at rb
        have rt : (255 : Int32).toInt = 255 := by decide
        have r_v76 : 0 ≤ v76.toInt ∧ v76.toInt ≤ 255 := by omega
        refine own_istore X0 C at_64 66 rfl #[.val (.int ia0), .val (.int ia1), .val (.int ia2), .val (.int ia3), .val (.int ia4), .val (.int (1 : Int32)), .val (.int (0 : Int32)), .val (.int v60), .val (.int v63), .val (.int (1 : Int32)), .val (.int v76), .unset, .unset, .unset, .unset, .unset, .unset, .unset] rfl ?_
        refine own_iload_n X0 C at_66 67 rfl rfl ?_
        refine own_bipush X0 C at_67 69 rfl (8) rfl ?_
        refine own_iushr X0 C at_69 70 rfl (fun v77 ev77 => ?_)
        refine own_sipush X0 C at_70 73 rfl (255) rfl ?_
        refine own_iand X0 C at_73 74 rfl (fun v78 ev78 => ?_)
        refine own_i2c X0 C at_74 75 rfl (fun v79 ev79 => ?_)
        have ra := c_and v77 255 (by decide)
        rw [← ev78] at ra
        have rb := c_i2c v78
        rw [← ev79] at rb
        have rt : (255 : Int32).toInt = 255 := by decide
        have r_v79 : 0 ≤ v79.toInt ∧ v79.toInt ≤ 255 := by omega
        refine own_istore X0 C at_75 77 rfl #[.val (.int ia0), .val (.int ia1), .val (.int ia2), .val (.int ia3), .val (.int ia4), .val (.int (1 : Int32)), .val (.int (0 : Int32)), .val (.int v60), .val (.int v63), .val (.int (1 : Int32)), .val (.int v76), .val (.int v79), .unset, .unset, .unset, .unset, .unset, .unset] rfl ?_
        refine own_iload_n X0 C at_77 78 rfl rfl ?_
        refine own_sipush X0 C at_78 81 rfl (255) rfl ?_
        refine own_iand X0 C at_81 82 rfl (fun v80 ev80 => ?_)
        refine own_i2c X0 C at_82 83 rfl (fun v81 ev81 => ?_)
        have ra := c_and ia2 255 (by decide)
        rw [← ev80] at ra
        have rb := c_i2c v80
        rw [← ev81] at rb
        have rt : (255 : Int32).toInt = 255 := by decide
        have r_v81 : 0 ≤ v81.toInt ∧ v81.toInt ≤ 255 := by omega
        refine own_istore X0 C at_83 85 rfl #[.val (.int ia0), .val (.int ia1), .val (.int ia2), .val (.int ia3), .val (.int ia4), .val (.int (1 : Int32)), .val (.int (0 : Int32)), .val (.int v60), .val (.int v63), .val (.int (1 : Int32)), .val (.int v76), .val (.int v79), .val (.int v81), .unset, .unset, .unset, .unset, .unset] rfl ?_
        refine own_iload_n X0 C at_85 86 rfl rfl ?_
        refine own_bipush X0 C at_86 88 rfl (8) rfl ?_
        refine own_iushr X0 C at_88 89 rfl (fun v82 ev82 => ?_)
        refine own_sipush X0 C at_89 92 rfl (255) rfl ?_
        refine own_iand X0 C at_92 93 rfl (fun v83 ev83 => ?_)
        refine own_i2c X0 C at_93 94 rfl (fun v84 ev84 => ?_)
        have ra := c_and v82 255 (by decide)
        rw [← ev83] at ra
        have rb := c_i2c v83
        rw [← ev84] at rb
        have rt : (255 : Int32).toInt = 255 := by decide
        have r_v84 : 0 ≤ v84.toInt ∧ v84.toInt ≤ 255 := by omega
        refine own_istore X0 C at_94 96 rfl #[.val (.int ia0), .val (.int ia1), .val (.int ia2), .val (.int ia3), .val (.int ia4), .val (.int (1 : Int32)), .val (.int (0 : Int32)), .val (.int v60), .val (.int v63), .val (.int (1 : Int32)), .val (.int v76), .val (.int v79), .val (.int v81), .val (.int v84), .unset, .unset, .unset, .unset] rfl ?_
        refine own_iload X0 C at_96 98 rfl rfl ?_
        refine own_ifeq X0 C at_98 101 113 rfl (by decide) (by decide) (i := 1) (by decide) (fun b105 => ?_) (fun b105 => ?_)
        · exfalso
          omega
        · refine own_iload X0 C at_101 103 rfl rfl ?_
          refine own_istore X0 C at_103 105 rfl #[.val (.int ia0), .val (.int ia1), .val (.int ia2), .val (.int ia3), .val (.int ia4), .val (.int (1 : Int32)), .val (.int (0 : Int32)), .val (.int v60), .val (.int v60), .val (.int (1 : Int32)), .val (.int v76), .val (.int v79), .val (.int v81), .val (.int v84), .unset, .unset, .unset, .unset] rfl ?_
          refine own_iload X0 C at_105 107 rfl rfl ?_
          refine own_istore X0 C at_107 109 rfl #[.val (.int ia0), .val (.int ia1), .val (.int ia2), .val (.int ia3), .val (.int ia4), .val (.int (1 : Int32)), .val (.int (0 : Int32)), .val (.int v60), .val (.int v60), .val (.int (1 : Int32)), .val (.int v76), .val (.int v79), .val (.int v76), .val (.int v84), .unset, .unset, .unset, .unset] rfl ?_
          refine own_iload X0 C at_109 111 rfl rfl ?_
          refine own_istore X0 C at_111 113 rfl #[.val (.int ia0), .val (.int ia1), .val (.int ia2), .val (.int ia3), .val (.int ia4), .val (.int (1 : Int32)), .val (.int (0 : Int32)), .val (.int v60), .val (.int v60), .val (.int (1 : Int32)), .val (.int v76), .val (.int v79), .val (.int v76), .val (.int v79), .unset, .unset, .unset, .unset] rfl ?_
          exact J113 (1 : Int32) (0 : Int32) v60 v60 (1 : Int32) v76 v79 v76 v79 (by decide) (by decide) r_v60 r_v60 r_v76 r_v79 r_v76 r_v79
    · refine own_iconst X0 C at_19 20 rfl (1) rfl ?_
      refine own_goto X0 C at_20 24 (by decide) (by decide) ?_
      refine own_istore X0 C at_24 26 rfl #[.val (.int ia0), .val (.int ia1), .val (.int ia2), .val (.int ia3), .val (.int ia4), .val (.int (1 : Int32)), .val (.int (1 : Int32)), .unset, .unset, .unset, .unset, .unset, .unset, .unset, .unset, .unset, .unset, .unset] rfl ?_
      refine own_iload_n X0 C at_26 27 rfl rfl ?_
      refine own_iconst X0 C at_27 28 rfl (2) rfl ?_
      refine own_iushr X0 C at_28 29 rfl (fun v85 ev85 => ?_)
      refine own_iconst X0 C at_29 30 rfl (3) rfl ?_
      refine own_iand X0 C at_30 31 rfl (fun v86 ev86 => ?_)
      refine own_iconst X0 C at_31 32 rfl (3) rfl ?_
      refine own_irem X0 C at_32 33 rfl (by decide) (fun v87 ev87 => ?_)
      have ra := c_and v85 3 (by decide)
      rw [← ev86] at ra
      have rb := (c_irem v86 3 3 (by decide)).1 ra.1
      rw [← ev87] at rb
      have r_v87 : 0 ≤ v87.toInt ∧ v87.toInt ≤ 2 := by omega
      refine own_istore X0 C at_33 35 rfl #[.val (.int ia0), .val (.int ia1), .val (.int ia2), .val (.int ia3), .val (.int ia4), .val (.int (1 : Int32)), .val (.int (1 : Int32)), .val (.int v87), .unset, .unset, .unset, .unset, .unset, .unset, .unset, .unset, .unset, .unset] rfl ?_
      refine own_iload_n X0 C at_35 36 rfl rfl ?_
      refine own_iconst X0 C at_36 37 rfl (4) rfl ?_
      refine own_iushr X0 C at_37 38 rfl (fun v88 ev88 => ?_)
      refine own_iconst X0 C at_38 39 rfl (3) rfl ?_
      refine own_iand X0 C at_39 40 rfl (fun v89 ev89 => ?_)
      refine own_iconst X0 C at_40 41 rfl (3) rfl ?_
      refine own_irem X0 C at_41 42 rfl (by decide) (fun v90 ev90 => ?_)
      have ra := c_and v88 3 (by decide)
      rw [← ev89] at ra
      have rb := (c_irem v89 3 3 (by decide)).1 ra.1
      rw [← ev90] at rb
      have r_v90 : 0 ≤ v90.toInt ∧ v90.toInt ≤ 2 := by omega
      refine own_istore X0 C at_42 44 rfl #[.val (.int ia0), .val (.int ia1), .val (.int ia2), .val (.int ia3), .val (.int ia4), .val (.int (1 : Int32)), .val (.int (1 : Int32)), .val (.int v87), .val (.int v90), .unset, .unset, .unset, .unset, .unset, .unset, .unset, .unset, .unset] rfl ?_
      refine own_iload_n X0 C at_44 45 rfl rfl ?_
      refine own_bipush X0 C at_45 47 rfl (64) rfl ?_
      refine own_iand X0 C at_47 48 rfl (fun v91 ev91 => ?_)
      refine own_ifeq X0 C at_48 51 55 rfl (by decide) (by decide) (i := v91.toInt) rfl (fun b106 => ?_) (fun b106 => ?_)
      · refine own_iconst X0 C at_55 56 rfl (0) rfl ?_
        refine own_istore X0 C at_56 58 rfl #[.val (.int ia0), .val (.int ia1), .val (.int ia2), .val (.int ia3), .val (.int ia4), .val (.int (1 : Int32)), .val (.int (1 : Int32)), .val (.int v87), .val (.int v90), .val (.int (0 : Int32)), .unset, .unset, .unset, .unset, .unset, .unset, .unset, .unset] rfl ?_
        refine own_iload_n X0 C at_58 59 rfl rfl ?_
        refine own_sipush X0 C at_59 62 rfl (255) rfl ?_
        refine own_iand X0 C at_62 63 rfl (fun v92 ev92 => ?_)
        refine own_i2c X0 C at_63 64 rfl (fun v93 ev93 => ?_)
        have ra := c_and ia1 255 (by decide)
        rw [← ev92] at ra
        have rb := c_i2c v92
        rw [← ev93] at rb
        have rt : (255 : Int32).toInt = 255 := by decide
        have r_v93 : 0 ≤ v93.toInt ∧ v93.toInt ≤ 255 := by omega
        refine own_istore X0 C at_64 66 rfl #[.val (.int ia0), .val (.int ia1), .val (.int ia2), .val (.int ia3), .val (.int ia4), .val (.int (1 : Int32)), .val (.int (1 : Int32)), .val (.int v87), .val (.int v90), .val (.int (0 : Int32)), .val (.int v93), .unset, .unset, .unset, .unset, .unset, .unset, .unset] rfl ?_
        refine own_iload_n X0 C at_66 67 rfl rfl ?_
        refine own_bipush X0 C at_67 69 rfl (8) rfl ?_
        refine own_iushr X0 C at_69 70 rfl (fun v94 ev94 => ?_)
        refine own_sipush X0 C at_70 73 rfl (255) rfl ?_
        refine own_iand X0 C at_73 74 rfl (fun v95 ev95 => ?_)
        refine own_i2c X0 C at_74 75 rfl (fun v96 ev96 => ?_)
        have ra := c_and v94 255 (by decide)
        rw [← ev95] at ra
        have rb := c_i2c v95
        rw [← ev96] at rb
        have rt : (255 : Int32).toInt = 255 := by decide
        have r_v96 : 0 ≤ v96.toInt ∧ v96.toInt ≤ 255 := by omega
        refine own_istore X0 C at_75 77 rfl #[.val (.int ia0), .val (.int ia1), .val (.int ia2), .val (.int ia3), .val (.int ia4), .val (.int (1 : Int32)), .val (.int (1 : Int32)), .val (.int v87), .val (.int v90), .val (.int (0 : Int32)), .val (.int v93), .val (.int v96), .unset, .unset, .unset, .unset, .unset, .unset] rfl ?_
        refine own_iload_n X0 C at_77 78 rfl rfl ?_
        refine own_sipush X0 C at_78 81 rfl (255) rfl ?_
        refine own_iand X0 C at_81 82 rfl (fun v97 ev97 => ?_)
        refine own_i2c X0 C at_82 83 rfl (fun v98 ev98 => ?_)
        have ra := c_and ia2 255 (by decide)
        rw [← ev97] at ra
        have rb := c_i2c v97
        rw [← ev98] at rb
        have rt : (255 : Int32).toInt = 255 := by decide
        have r_v98 : 0 ≤ v98.toInt ∧ v98.toInt ≤ 255 := by omega
        refine own_istore X0 C at_83 85 rfl #[.val (.int ia0), .val (.int ia1), .val (.int ia2), .val (.int ia3), .val (.int ia4), .val (.int (1 : Int32)), .val (.int (1 : Int32)), .val (.int v87), .val (.int v90), .val (.int (0 : Int32)), .val (.int v93), .val (.int v96), .val (.int v98), .unset, .unset, .unset, .unset, .unset] rfl ?_
        refine own_iload_n X0 C at_85 86 rfl rfl ?_
        refine own_bipush X0 C at_86 88 rfl (8) rfl ?_
        refine own_iushr X0 C at_88 89 rfl (fun v99 ev99 => ?_)
        refine own_sipush X0 C at_89 92 rfl (255) rfl ?_
        refine own_iand X0 C at_92 93 rfl (fun v100 ev100 => ?_)
        refine own_i2c X0 C at_93 94 rfl (fun v101 ev101 => ?_)
        have ra := c_and v99 255 (by decide)
        rw [← ev100] at ra
        have rb := c_i2c v100
        rw [← ev101] at rb
        have rt : (255 : Int32).toInt = 255 := by decide
        have r_v101 : 0 ≤ v101.toInt ∧ v101.toInt ≤ 255 := by omega
        refine own_istore X0 C at_94 96 rfl #[.val (.int ia0), .val (.int ia1), .val (.int ia2), .val (.int ia3), .val (.int ia4), .val (.int (1 : Int32)), .val (.int (1 : Int32)), .val (.int v87), .val (.int v90), .val (.int (0 : Int32)), .val (.int v93), .val (.int v96), .val (.int v98), .val (.int v101), .unset, .unset, .unset, .unset] rfl ?_
        refine own_iload X0 C at_96 98 rfl rfl ?_
        refine own_ifeq X0 C at_98 101 113 rfl (by decide) (by decide) (i := 0) (by decide) (fun b107 => ?_) (fun b107 => ?_)
        · exact J113 (1 : Int32) (1 : Int32) v87 v90 (0 : Int32) v93 v96 v98 v101 (by decide) (by decide) r_v87 r_v90 r_v93 r_v96 r_v98 r_v101
        · exfalso
          omega
      · refine own_iconst X0 C at_51 52 rfl (1) rfl ?_
        refine own_goto X0 C at_52 56 (by decide) (by decide) ?_
        refine own_istore X0 C at_56 58 rfl #[.val (.int ia0), .val (.int ia1), .val (.int ia2), .val (.int ia3), .val (.int ia4), .val (.int (1 : Int32)), .val (.int (1 : Int32)), .val (.int v87), .val (.int v90), .val (.int (1 : Int32)), .unset, .unset, .unset, .unset, .unset, .unset, .unset, .unset] rfl ?_
        refine own_iload_n X0 C at_58 59 rfl rfl ?_
        refine own_sipush X0 C at_59 62 rfl (255) rfl ?_
        refine own_iand X0 C at_62 63 rfl (fun v102 ev102 => ?_)
        refine own_i2c X0 C at_63 64 rfl (fun v103 ev103 => ?_)
        have ra := c_and ia1 255 (by decide)
        rw [← ev102] at ra
        have rb := c_i2c v102
        rw [← ev103] at rb
        have rt : (255 : Int32).toInt = 255 := by decide
        have r_v103 : 0 ≤ v103.toInt ∧ v103.toInt ≤ 255 := by omega
        refine own_istore X0 C at_64 66 rfl #[.val (.int ia0), .val (.int ia1), .val (.int ia2), .val (.int ia3), .val (.int ia4), .val (.int (1 : Int32)), .val (.int (1 : Int32)), .val (.int v87), .val (.int v90), .val (.int (1 : Int32)), .val (.int v103), .unset, .unset, .unset, .unset, .unset, .unset, .unset] rfl ?_
        refine own_iload_n X0 C at_66 67 rfl rfl ?_
        refine own_bipush X0 C at_67 69 rfl (8) rfl ?_
        refine own_iushr X0 C at_69 70 rfl (fun v104 ev104 => ?_)
        refine own_sipush X0 C at_70 73 rfl (255) rfl ?_
        refine own_iand X0 C at_73 74 rfl (fun v105 ev105 => ?_)
        refine own_i2c X0 C at_74 75 rfl (fun v106 ev106 => ?_)
        have ra := c_and v104 255 (by decide)
        rw [← ev105] at ra
        have rb := c_i2c v105
        rw [← ev106] at rb
        have rt : (255 : Int32).toInt = 255 := by decide
        have r_v106 : 0 ≤ v106.toInt ∧ v106.toInt ≤ 255 := by omega
        refine own_istore X0 C at_75 77 rfl #[.val (.int ia0), .val (.int ia1), .val (.int ia2), .val (.int ia3), .val (.int ia4), .val (.int (1 : Int32)), .val (.int (1 : Int32)), .val (.int v87), .val (.int v90), .val (.int (1 : Int32)), .val (.int v103), .val (.int v106), .unset, .unset, .unset, .unset, .unset, .unset] rfl ?_
        refine own_iload_n X0 C at_77 78 rfl rfl ?_
        refine own_sipush X0 C at_78 81 rfl (255) rfl ?_
        refine own_iand X0 C at_81 82 rfl (fun v107 ev107 => ?_)
        refine own_i2c X0 C at_82 83 rfl (fun v108 ev108 => ?_)
        have ra := c_and ia2 255 (by decide)
        rw [← ev107] at ra
        have rb := c_i2c v107
        rw [← ev108] at rb
        have rt : (255 : Int32).toInt = 255 := by decide
        have r_v108 : 0 ≤ v108.toInt ∧ v108.toInt ≤ 255 := by omega
        refine own_istore X0 C at_83 85 rfl #[.val (.int ia0), .val (.int ia1), .val (.int ia2), .val (.int ia3), .val (.int ia4), .val (.int (1 : Int32)), .val (.int (1 : Int32)), .val (.int v87), .val (.int v90), .val (.int (1 : Int32)), .val (.int v103), .val (.int v106), .val (.int v108), .unset, .unset, .unset, .unset, .unset] rfl ?_
        refine own_iload_n X0 C at_85 86 rfl rfl ?_
        refine own_bipush X0 C at_86 88 rfl (8) rfl ?_
        refine own_iushr X0 C at_88 89 rfl (fun v109 ev109 => ?_)
        refine own_sipush X0 C at_89 92 rfl (255) rfl ?_
        refine own_iand X0 C at_92 93 rfl (fun v110 ev110 => ?_)
        refine own_i2c X0 C at_93 94 rfl (fun v111 ev111 => ?_)
        have ra := c_and v109 255 (by decide)
        rw [← ev110] at ra
        have rb := c_i2c v110
        rw [← ev111] at rb
        have rt : (255 : Int32).toInt = 255 := by decide
        have r_v111 : 0 ≤ v111.toInt ∧ v111.toInt ≤ 255 := by omega
        refine own_istore X0 C at_94 96 rfl #[.val (.int ia0), .val (.int ia1), .val (.int ia2), .val (.int ia3), .val (.int ia4), .val (.int (1 : Int32)), .val (.int (1 : Int32)), .val (.int v87), .val (.int v90), .val (.int (1 : Int32)), .val (.int v103), .val (.int v106), .val (.int v108), .val (.int v111), .unset, .unset, .unset, .unset] rfl ?_
        refine own_iload X0 C at_96 98 rfl rfl ?_
        refine own_ifeq X0 C at_98 101 113 rfl (by decide) (by decide) (i := 1) (by decide) (fun b108 => ?_) (fun b108 => ?_)
        · exfalso
          omega
        · refine own_iload X0 C at_101 103 rfl rfl ?_
          refine own_istore X0 C at_103 105 rfl #[.val (.int ia0), .val (.int ia1), .val (.int ia2), .val (.int ia3), .val (.int ia4), .val (.int (1 : Int32)), .val (.int (1 : Int32)), .val (.int v87), .val (.int v87), .val (.int (1 : Int32)), .val (.int v103), .val (.int v106), .val (.int v108), .val (.int v111), .unset, .unset, .unset, .unset] rfl ?_
          refine own_iload X0 C at_105 107 rfl rfl ?_
          refine own_istore X0 C at_107 109 rfl #[.val (.int ia0), .val (.int ia1), .val (.int ia2), .val (.int ia3), .val (.int ia4), .val (.int (1 : Int32)), .val (.int (1 : Int32)), .val (.int v87), .val (.int v87), .val (.int (1 : Int32)), .val (.int v103), .val (.int v106), .val (.int v103), .val (.int v111), .unset, .unset, .unset, .unset] rfl ?_
          refine own_iload X0 C at_109 111 rfl rfl ?_
          refine own_istore X0 C at_111 113 rfl #[.val (.int ia0), .val (.int ia1), .val (.int ia2), .val (.int ia3), .val (.int ia4), .val (.int (1 : Int32)), .val (.int (1 : Int32)), .val (.int v87), .val (.int v87), .val (.int (1 : Int32)), .val (.int v103), .val (.int v106), .val (.int v103), .val (.int v106), .unset, .unset, .unset, .unset] rfl ?_
          exact J113 (1 : Int32) (1 : Int32) v87 v87 (1 : Int32) v103 v106 v103 v106 (by decide) (by decide) r_v87 r_v87 r_v103 r_v106 r_v103 r_v106
set_option maxRecDepth 65536 in
set_option maxHeartbeats 4000000 in
theorem own_comes_1 {Post : Tables → Env → Array Value → State → Outcome → State → Prop} (hpost : ∀ tb e args s v u, (limb_1_1.after args s (.returned v) u = true ∧ limb_1_2.after args s (.returned v) u = true ∧ True) → ReturnedEndW s (.returned v) u (Jvm.fieldLocs frame_1_writes args s ++ Jvm.arrayLocs frame_1_arrays args s ++ Jvm.staticLocs frame_1_statics s) 32 1152 → Post tb e args s (.returned v) u) :
    ArmFor flags0 classFile x code maxLocals ret World_1 tables_1 room_1 Calls_1 rest_1 Pre_1 Post := by
  intro l hfl _ _ p e ha hc hk s m args below hf hA hF happ hP
  obtain ⟨hcalls, hrest, hpre⟩ := hP
  obtain ⟨-, -, -, hnamed, -, -, -, hat⟩ := (Spec.applies_iff hf).mp happ
  obtain ⟨hg, hn⟩ := and_e (Cond.before_iff.mp (show (Jvm.Cond.and given_1 narrow_1).before args s = true from hpre))
  obtain ⟨g0, g0r⟩ := and_e hg
  obtain ⟨g1, g1r⟩ := and_e g0r
  obtain ⟨g2, g2r⟩ := and_e g1r
  obtain ⟨g3, g3r⟩ := and_e g2r
  obtain ⟨g4, g4r⟩ := and_e g3r
  obtain ⟨w0, w1, w2, w3, w4, rfl⟩ : ∃ w0 w1 w2 w3 w4 : Value, args = #[w0, w1, w2, w3, w4] := by
    have hs : args.size = 5 := by simpa [Cond.value, given_1] using g0
    obtain ⟨L⟩ := args
    match L, hs with
    | [w0, w1, w2, w3, w4], _ => exact ⟨w0, w1, w2, w3, w4, rfl⟩
  have hw := fun d (hd : d ∈ tables_1) => atoms_spec (ws := Jvm.Cond.code x code maxLocals ret :: tables_1) hat d (List.mem_cons_of_mem _ hd)
  have hfit : Fit s := fun {y c} hc i hi => by
    obtain ⟨ha, rfl⟩ := Array.getElem?_eq_some_iff.mp hc
    have q := List.all_eq_true.mp ((Array.all_eq_true_iff_forall_mem.mp hF) _ (Array.getElem_mem ha)) i (List.mem_range.mpr hi)
    simpa [Array.getElem?_eq_getElem hi] using q
  obtain ⟨i0, q0⟩ := is_v g1
  obtain rfl : w0 = (.int i0) := Option.some.inj q0
  obtain ⟨i1, q1⟩ := is_v g2
  obtain rfl : w1 = (.int i1) := Option.some.inj q1
  obtain ⟨i2, q2⟩ := is_v g3
  obtain rfl : w2 = (.int i2) := Option.some.inj q2
  obtain ⟨i3, q3⟩ := is_v g4
  obtain rfl : w3 = (.int i3) := Option.some.inj q3
  obtain ⟨i4, q4⟩ := is_v g4r
  obtain rfl : w4 = (.int i4) := Option.some.inj q4
  obtain ⟨hsets, hown0⟩ := atoms_of _ (rest_1_c_eq ▸ (show rest_1_c.before _ s = true from hrest))
  have jn := not_v (Cond.before_iff.mp (hsets _ (List.mem_of_getElem? (i := 2) rfl)))
  obtain ⟨cs, je⟩ := is_v (Cond.before_iff.mp (hsets _ (List.mem_of_getElem? (i := 1) rfl)))
  obtain ⟨vF, jf, jr⟩ := isR_v (Cond.before_iff.mp (hsets _ (List.mem_of_getElem? (i := 8) rfl)))
  have J : OwnJ s s.heap cs vF := ⟨Sta.start je (Or.inl (hsets _ (List.mem_of_getElem? (i := 0) rfl))), fun q => gotF (Cond.eq_ints je (Term.int_eval (0))) jn (Int32.toInt_inj.mp (q.trans (by decide))), Sta.start jf (Or.inl (hsets _ (List.mem_of_getElem? (i := 7) rfl))), jr⟩
  have hh : ∀ p ∈ own_EL, Jvm.Lit.constHeld s p.1 p.2 := fun p hp => hcalls.1 p (by simpa [own_EL, consts_1] using hp)
  obtain ⟨n, o, h1, h2, h3, _, L, rfl, ⟨rfl, N⟩, hq⟩ := own_rm_law l s _ hw i0 i1 i2 i3 i4 s.heap cs vF J p e ha hc hk s m _ below hf ((Spec.applies_iff_loose hf).mp happ).1 ⟨rfl, State.Warmed39.refl s, rfl, CHv.start (own_hEL hw) hh (hsets _ (List.mem_of_getElem? (i := 2) rfl)) (own_w hw 22 rfl) (own_w hw 8 rfl)⟩ trivial
  refine ⟨n, _, h1, h2, h3, hpost _ _ _ _ _ _ ⟨Cond.after_iff.mpr rfl, Cond.after_iff.mpr (eq_i res_at (Term.int_eval (1)) rfl), trivial⟩ ⟨hq.1, hq.2.1, hq.2.2.1, (hq.2.2.2.sift fun y hy => Or.inr (N y hy)).mono (by decide) (by decide)⟩⟩
theorem main_1_1 : Claimed_1_1 := own_comes_1 fun _ _ _ _ _ _ h hF => ⟨h.1, hF⟩
theorem main_1_2 : Claimed_1_2 := own_comes_1 fun _ _ _ _ _ _ h hF => ⟨h.2.1, hF⟩
end Jvm.Pilot.@@N@@
namespace Jvm.Pilot.@@N@@
open Jvm Jvm.ClassFile Sem Op Lib Jvm.Free Jvm.Stand Jvm.Pilot.@@N@@.Jvm.D
/-! MADE BY PROGRAM (witnessworld.py) out of the Statement's table words and the real class files: 21 classes; the members and pool entries that the words name. The judged class is class 1, her method 2. -/
namespace start1
open Jvm.ClassFile
def u (s : String) : CpInfo := .utf8 (stringToUtf16 s)
/-- a pool by its gaps: so many unusable entries, then the entry; so many at the end -/
def gap : Nat → List CpInfo → List CpInfo
  | 0, r => r
  | n + 1, r => .unusable :: gap n r
def poolList (es : List (Nat × CpInfo)) (last : Nat) : List CpInfo := es.foldr (fun e r => gap e.1 (e.2 :: r)) (gap last [])
def pool (es : List (Nat × CpInfo)) (last : Nat) : Array CpInfo := ⟨poolList es last⟩
def fileOf (pool : Array CpInfo) (this : Nat) (attrs : Array Attribute := #[]) (ms : Array MethodInfo := #[]) (fl : Nat := 33) (sup : Nat := 0) (ifs : Array Nat := #[]) (fds : Array FieldInfo := #[]) : ClassFile where
  minorVersion := 0
  majorVersion := 65
  constantPool := pool
  accessFlags := fl
  thisClass := this
  superClass := sup
  interfaces := ifs
  fields := fds
  methods := ms
  attributes := attrs
def plain (name : String) (sup : Option ClassId) : Class where
  name := name
  kind := .ordinary
  loader := none
  accessFlags := 33
  super := sup
  interfaces := #[]
  cf := none
  fields := #[]
  methods := #[]
  instanceTypes := #[]
  staticTypes := #[]
  resolved := #[]
  callSites := []
  init := .initialized
  statics := none
  mirror := none

def pool0 : Array CpInfo := pool [(5, u "<init>"), (0, u "()V"), (1, .class_ 10), (1, u "java/lang/Object")] 113

def k0c0 : Code := { maxStack := 0, maxLocals := 1, code := object_method_1_code, exceptionTable := #[], attributes := #[] }
def k0m0 : Method := { name := "<init>", desc := "()V", sig := { parameters := [], returnType := none }, accessFlags := 1, code := some k0c0 }
/-- java/lang/Object -/
def k0 : Class := { plain "java/lang/Object" none with
  accessFlags := 33
  interfaces := #[]
  cf := some (fileOf pool0 8 #[] #[{ accessFlags := 1, nameIndex := 5, descriptorIndex := 6, attributes := #[] }] 33 0 #[] #[])
  fields := #[]
  methods := #[k0m0]
  instanceTypes := #[]
  staticTypes := #[]
  resolved := Array.replicate 124 none
  statics := none }

def pool1 : Array CpInfo := pool [(2, .class_ 4), (1, u "java/lang/Object"), (0, u "<init>"), (0, u "()V"), (0, .class_ 8), (0, u "java/lang/String"), (0, .methodref 7 10), (0, .nameAndType 5 11), (0, u "([C)V"), (0, .class_ 13), (0, u "com/example/subsumer/subsumer/Nodes$Edge"), (0, .methodref 15 16), (0, .class_ 17), (0, .nameAndType 18 19), (0, u "com/example/subsumer/subsumer/EdgeSameLabelPinLaw"), (0, u "role"), (0, u "(ICC)Ljava/lang/String;"), (0, .methodref 12 21), (0, .nameAndType 5 22), (0, u "(ZLjava/lang/String;I)V"), (0, .methodref 12 24), (0, .nameAndType 25 26), (0, u "sameLabel"), (0, u "(Lcom/example/subsumer/subsumer/Nodes$Edge;)Z"), (3, u "law"), (0, u "(IIIII)Z")] 6

def k1m0 : Method := { name := "<init>", desc := "()V", sig := { parameters := [], returnType := none }, accessFlags := 2, code := none }
def k1c1 : Code := { maxStack := 3, maxLocals := 4, code := method_2_code, exceptionTable := #[], attributes := #[] }
def k1m1 : Method := { name := "role", desc := "(ICC)Ljava/lang/String;", sig := { parameters := [.int, .char, .char], returnType := some (.object "java/lang/String") }, accessFlags := 10, code := some k1c1 }
def k1c2 : Code := { maxStack := 6, maxLocals := 18, code := code, exceptionTable := #[], attributes := #[] }
def k1m2 : Method := { name := "law", desc := "(IIIII)Z", sig := { parameters := [.int, .int, .int, .int, .int], returnType := some .boolean }, accessFlags := 9, code := some k1c2 }
/-- com/example/subsumer/subsumer/EdgeSameLabelPinLaw -/
def k1 : Class := { plain "com/example/subsumer/subsumer/EdgeSameLabelPinLaw" (some 0) with
  accessFlags := 49
  interfaces := #[]
  cf := some (fileOf pool1 15 #[] #[{ accessFlags := 2, nameIndex := 5, descriptorIndex := 6, attributes := #[] }, { accessFlags := 10, nameIndex := 18, descriptorIndex := 19, attributes := #[] }, { accessFlags := 9, nameIndex := 30, descriptorIndex := 31, attributes := #[] }] 49 2 #[] #[])
  fields := #[]
  methods := #[k1m0, k1m1, k1m2]
  instanceTypes := #[]
  staticTypes := #[]
  resolved := Array.replicate 38 none
  statics := none }

def pool2 : Array CpInfo := pool [(1, .methodref 2 3), (0, .class_ 4), (0, .nameAndType 5 6), (0, u "java/lang/Object"), (0, u "<init>"), (0, u "()V"), (0, .class_ 8), (0, u "java/lang/Record")] 13

def k2c0 : Code := { maxStack := 1, maxLocals := 1, code := jdk_30_method_1_code, exceptionTable := #[], attributes := #[] }
def k2m0 : Method := { name := "<init>", desc := "()V", sig := { parameters := [], returnType := none }, accessFlags := 4, code := some k2c0 }
/-- java/lang/Record -/
def k2 : Class := { plain "java/lang/Record" (some 0) with
  accessFlags := 1057
  interfaces := #[]
  cf := some (fileOf pool2 7 #[] #[{ accessFlags := 4, nameIndex := 5, descriptorIndex := 6, attributes := #[] }] 1057 2 #[] #[])
  fields := #[]
  methods := #[k2m0]
  instanceTypes := #[]
  staticTypes := #[]
  resolved := Array.replicate 22 none
  statics := none }

def pool3 : Array CpInfo := pool [(1, .methodref 2 3), (0, .class_ 4), (0, .nameAndType 5 6), (0, u "java/lang/Record"), (0, u "<init>"), (0, u "()V"), (0, .fieldref 8 9), (0, .class_ 10), (0, .nameAndType 11 12), (0, u "com/example/subsumer/subsumer/Nodes$Edge"), (0, u "only"), (0, u "Z"), (0, .fieldref 8 14), (0, .nameAndType 15 16), (0, u "role"), (0, u "Ljava/lang/String;"), (0, .fieldref 8 18), (0, .nameAndType 19 20), (0, u "target"), (0, u "I"), (0, .methodref 22 23), (0, .class_ 24), (0, .nameAndType 25 26), (0, u "java/lang/String"), (0, u "equals"), (0, u "(Ljava/lang/Object;)Z"), (11, u "(ZLjava/lang/String;I)V"), (3, u "sameLabel"), (0, u "(Lcom/example/subsumer/subsumer/Nodes$Edge;)Z"), (7, .class_ 52), (0, u "com/example/subsumer/subsumer/Nodes")] 21

def k3c0 : Code := { maxStack := 2, maxLocals := 4, code := prog_41_method_1_code, exceptionTable := #[], attributes := #[] }
def k3m0 : Method := { name := "<init>", desc := "(ZLjava/lang/String;I)V", sig := { parameters := [.boolean, (.object "java/lang/String"), .int], returnType := none }, accessFlags := 0, code := some k3c0 }
def k3c1 : Code := { maxStack := 2, maxLocals := 2, code := prog_41_method_2_code, exceptionTable := #[], attributes := #[] }
def k3m1 : Method := { name := "sameLabel", desc := "(Lcom/example/subsumer/subsumer/Nodes$Edge;)Z", sig := { parameters := [(.object "com/example/subsumer/subsumer/Nodes$Edge")], returnType := some .boolean }, accessFlags := 0, code := some k3c1 }
/-- com/example/subsumer/subsumer/Nodes$Edge -/
def k3 : Class := { plain "com/example/subsumer/subsumer/Nodes$Edge" (some 2) with
  accessFlags := 48
  interfaces := #[]
  cf := some (fileOf pool3 8 #[.nestHost 51] #[{ accessFlags := 0, nameIndex := 5, descriptorIndex := 38, attributes := #[] }, { accessFlags := 0, nameIndex := 42, descriptorIndex := 43, attributes := #[] }] 48 2 #[] #[{ accessFlags := 18, nameIndex := 11, descriptorIndex := 12, attributes := #[] }, { accessFlags := 18, nameIndex := 15, descriptorIndex := 16, attributes := #[] }, { accessFlags := 18, nameIndex := 19, descriptorIndex := 20, attributes := #[] }])
  fields := #[{ name := "only", type := .boolean, accessFlags := 18, slot := 0, constantValue := 0 }, { name := "role", type := (.object "java/lang/String"), accessFlags := 18, slot := 1, constantValue := 0 }, { name := "target", type := .int, accessFlags := 18, slot := 2, constantValue := 0 }]
  methods := #[k3m0, k3m1]
  instanceTypes := #[.boolean, (.object "java/lang/String"), .int]
  staticTypes := #[]
  resolved := Array.replicate 74 none
  statics := none }

def pool4 : Array CpInfo := pool [(1, .class_ 2), (0, u "java/io/Serializable"), (0, .class_ 4), (0, u "java/lang/Object")] 2

/-- java/io/Serializable -/
def k4 : Class := { plain "java/io/Serializable" (some 0) with
  accessFlags := 1537
  interfaces := #[]
  cf := some (fileOf pool4 1 #[] #[] 1537 3 #[] #[])
  fields := #[]
  methods := #[]
  instanceTypes := #[]
  staticTypes := #[]
  resolved := Array.replicate 7 none
  statics := none }

def pool5 : Array CpInfo := pool [(1, .class_ 2), (0, u "java/lang/Comparable"), (0, .class_ 4), (0, u "java/lang/Object")] 7

/-- java/lang/Comparable -/
def k5 : Class := { plain "java/lang/Comparable" (some 0) with
  accessFlags := 1537
  interfaces := #[]
  cf := some (fileOf pool5 1 #[] #[] 1537 3 #[] #[])
  fields := #[]
  methods := #[]
  instanceTypes := #[]
  staticTypes := #[]
  resolved := Array.replicate 12 none
  statics := none }

def pool6 : Array CpInfo := pool [(2, .class_ 4), (1, u "java/lang/CharSequence"), (42, .class_ 48), (0, u "java/lang/CharSequence$1CodePointIterator"), (10, .class_ 60), (0, u "java/lang/CharSequence$1CharIterator"), (5, .class_ 67), (0, u "java/lang/Object")] 63

/-- java/lang/CharSequence -/
def k6 : Class := { plain "java/lang/CharSequence" (some 0) with
  accessFlags := 1537
  interfaces := #[]
  cf := some (fileOf pool6 2 #[.nestMembers #[47, 59]] #[] 1537 66 #[] #[])
  fields := #[]
  methods := #[]
  instanceTypes := #[]
  staticTypes := #[]
  resolved := Array.replicate 131 none
  statics := none }

def pool7 : Array CpInfo := pool [(1, .class_ 2), (0, u "java/lang/constant/Constable"), (0, .class_ 4), (0, u "java/lang/Object")] 6

/-- java/lang/constant/Constable -/
def k7 : Class := { plain "java/lang/constant/Constable" (some 0) with
  accessFlags := 1537
  interfaces := #[]
  cf := some (fileOf pool7 1 #[] #[] 1537 3 #[] #[])
  fields := #[]
  methods := #[]
  instanceTypes := #[]
  staticTypes := #[]
  resolved := Array.replicate 11 none
  statics := none }

def pool8 : Array CpInfo := pool [(1, .class_ 2), (0, u "java/lang/constant/ConstantDesc"), (0, .class_ 4), (0, u "java/lang/Object")] 32

/-- java/lang/constant/ConstantDesc -/
def k8 : Class := { plain "java/lang/constant/ConstantDesc" (some 0) with
  accessFlags := 1537
  interfaces := #[]
  cf := some (fileOf pool8 1 #[] #[] 1537 3 #[] #[])
  fields := #[]
  methods := #[]
  instanceTypes := #[]
  staticTypes := #[]
  resolved := Array.replicate 37 none
  statics := none }

def pool9 : Array CpInfo := pool [(1, .methodref 2 3), (0, .class_ 4), (0, .nameAndType 5 6), (0, u "java/lang/Object"), (0, u "<init>"), (0, u "()V"), (0, .string 8), (0, u ""), (0, .fieldref 10 11), (0, .class_ 12), (0, .nameAndType 13 14), (0, u "java/lang/String"), (0, u "value"), (0, u "[B"), (0, .fieldref 10 16), (0, .nameAndType 17 18), (0, u "coder"), (0, u "B"), (2, u "hash"), (0, u "I"), (2, u "hashIsZero"), (0, u "Z"), (0, .methodref 10 28), (0, .nameAndType 5 29), (0, u "([CIILjava/lang/Void;)V"), (8, .fieldref 10 39), (0, .nameAndType 40 26), (0, u "COMPACT_STRINGS"), (1, .class_ 44), (1, u "java/lang/StringUTF16"), (0, u "compress"), (1, .methodref 42 48), (0, .nameAndType 49 50), (0, u "coderFromArrayLen"), (0, u "([BI)B"), (56, .class_ 109), (1, u "java/lang/StringLatin1"), (67, .methodref 42 178), (0, .nameAndType 45 179), (0, u "([CII)[B"), (361, .methodref 107 542), (0, .nameAndType 543 544), (0, u "equals"), (0, u "([B[B)Z"), (28, u "(Ljava/lang/Object;)Z"), (1, .class_ 576), (0, u "java/lang/CharSequence"), (22, u "CASE_INSENSITIVE_ORDER"), (0, u "Ljava/util/Comparator;"), (409, u "([C)V"), (90, u "serialPersistentFields"), (0, u "[Ljava/io/ObjectStreamField;"), (0, .class_ 1104), (0, u "java/lang/String$CaseInsensitiveComparator"), (1, .class_ 1107), (0, u "java/io/Serializable"), (0, .class_ 1109), (0, u "java/lang/Comparable"), (0, .class_ 1111), (0, u "java/lang/constant/Constable"), (0, .class_ 1113), (0, u "java/lang/constant/ConstantDesc"), (2, u "serialVersionUID"), (0, u "J"), (3, u "REPL"), (0, u "C"), (2, u "LATIN1"), (1, u "UTF16")] 323

def k9m0 : Method := { name := "<init>", desc := "()V", sig := { parameters := [], returnType := none }, accessFlags := 1, code := none }
def k9c1 : Code := { maxStack := 5, maxLocals := 2, code := jdk_42_method_3_code, exceptionTable := #[], attributes := #[] }
def k9m1 : Method := { name := "<init>", desc := "([C)V", sig := { parameters := [(.array .char)], returnType := none }, accessFlags := 1, code := some k9c1 }
def k9c2 : Code := { maxStack := 2, maxLocals := 3, code := jdk_42_method_66_code, exceptionTable := #[], attributes := #[] }
def k9m2 : Method := { name := "equals", desc := "(Ljava/lang/Object;)Z", sig := { parameters := [(.object "java/lang/Object")], returnType := some .boolean }, accessFlags := 1, code := some k9c2 }
def k9c3 : Code := { maxStack := 4, maxLocals := 6, code := jdk_42_method_149_code, exceptionTable := #[], attributes := #[] }
def k9m3 : Method := { name := "<init>", desc := "([CIILjava/lang/Void;)V", sig := { parameters := [(.array .char), .int, .int, (.object "java/lang/Void")], returnType := none }, accessFlags := 2, code := some k9c3 }
/-- java/lang/String -/
def k9 : Class := { plain "java/lang/String" (some 0) with
  accessFlags := 49
  interfaces := #[4, 5, 6, 7, 8]
  cf := some (fileOf pool9 10 #[.nestMembers #[1103]] #[{ accessFlags := 1, nameIndex := 5, descriptorIndex := 6, attributes := #[] }, { accessFlags := 1, nameIndex := 5, descriptorIndex := 1010, attributes := #[] }, { accessFlags := 1, nameIndex := 543, descriptorIndex := 573, attributes := #[] }, { accessFlags := 2, nameIndex := 5, descriptorIndex := 29, attributes := #[] }] 49 2 #[1106, 1108, 575, 1110, 1112] #[{ accessFlags := 18, nameIndex := 13, descriptorIndex := 14, attributes := #[] }, { accessFlags := 18, nameIndex := 17, descriptorIndex := 18, attributes := #[] }, { accessFlags := 2, nameIndex := 21, descriptorIndex := 22, attributes := #[] }, { accessFlags := 2, nameIndex := 25, descriptorIndex := 26, attributes := #[] }, { accessFlags := 26, nameIndex := 1116, descriptorIndex := 1117, attributes := #[] }, { accessFlags := 24, nameIndex := 40, descriptorIndex := 26, attributes := #[] }, { accessFlags := 26, nameIndex := 1101, descriptorIndex := 1102, attributes := #[] }, { accessFlags := 26, nameIndex := 1121, descriptorIndex := 1122, attributes := #[] }, { accessFlags := 25, nameIndex := 599, descriptorIndex := 600, attributes := #[] }, { accessFlags := 24, nameIndex := 1125, descriptorIndex := 18, attributes := #[] }, { accessFlags := 24, nameIndex := 1127, descriptorIndex := 18, attributes := #[] }])
  fields := #[{ name := "value", type := (.array .byte), accessFlags := 18, slot := 0, constantValue := 0 }, { name := "coder", type := .byte, accessFlags := 18, slot := 1, constantValue := 0 }, { name := "hash", type := .int, accessFlags := 2, slot := 2, constantValue := 0 }, { name := "hashIsZero", type := .boolean, accessFlags := 2, slot := 3, constantValue := 0 }, { name := "serialVersionUID", type := .long, accessFlags := 26, slot := 0, constantValue := 0 }, { name := "COMPACT_STRINGS", type := .boolean, accessFlags := 24, slot := 1, constantValue := 0 }, { name := "serialPersistentFields", type := (.array (.object "java/io/ObjectStreamField")), accessFlags := 26, slot := 2, constantValue := 0 }, { name := "REPL", type := .char, accessFlags := 26, slot := 3, constantValue := 0 }, { name := "CASE_INSENSITIVE_ORDER", type := (.object "java/util/Comparator"), accessFlags := 25, slot := 4, constantValue := 0 }, { name := "LATIN1", type := .byte, accessFlags := 24, slot := 5, constantValue := 0 }, { name := "UTF16", type := .byte, accessFlags := 24, slot := 6, constantValue := 0 }]
  methods := #[k9m0, k9m1, k9m2, k9m3]
  instanceTypes := #[(.array .byte), .byte, .int, .boolean]
  staticTypes := #[.long, .boolean, (.array (.object "java/io/ObjectStreamField")), .char, (.object "java/util/Comparator"), .byte, .byte]
  resolved := Array.replicate 1451 none
  statics := some 0 }

def pool10 : Array CpInfo := pool [(4, .class_ 6), (1, u "java/lang/Object"), (0, u "<init>"), (0, u "()V"), (5, .class_ 16), (1, u "java/lang/StringLatin1"), (104, u "$assertionsDisabled"), (0, u "Z"), (98, .class_ 223), (1, u "java/lang/StringLatin1$LinesSpliterator"), (57, u "equals"), (0, u "([B[B)Z"), (107, .class_ 391), (0, u "java/lang/StringLatin1$CharsSpliterator")] 3

def k10m0 : Method := { name := "<init>", desc := "()V", sig := { parameters := [], returnType := none }, accessFlags := 0, code := none }
def k10c1 : Code := { maxStack := 3, maxLocals := 3, code := jdk_43_method_13_code, exceptionTable := #[], attributes := #[] }
def k10m1 : Method := { name := "equals", desc := "([B[B)Z", sig := { parameters := [(.array .byte), (.array .byte)], returnType := some .boolean }, accessFlags := 9, code := some k10c1 }
/-- java/lang/StringLatin1 -/
def k10 : Class := { plain "java/lang/StringLatin1" (some 0) with
  accessFlags := 48
  interfaces := #[]
  cf := some (fileOf pool10 14 #[.nestMembers #[390, 221]] #[{ accessFlags := 0, nameIndex := 7, descriptorIndex := 8, attributes := #[] }, { accessFlags := 9, nameIndex := 281, descriptorIndex := 282, attributes := #[] }] 48 4 #[] #[{ accessFlags := 4120, nameIndex := 121, descriptorIndex := 122, attributes := #[] }])
  fields := #[{ name := "$assertionsDisabled", type := .boolean, accessFlags := 4120, slot := 0, constantValue := 0 }]
  methods := #[k10m0, k10m1]
  instanceTypes := #[]
  staticTypes := #[.boolean]
  resolved := Array.replicate 395 none
  statics := none }

def pool11 : Array CpInfo := pool [(6, .class_ 8), (1, u "java/lang/Object"), (0, u "<init>"), (0, u "()V"), (1, .class_ 14), (1, u "java/lang/StringUTF16"), (31, u "$assertionsDisabled"), (0, u "Z"), (13, u "HI_BYTE_SHIFT"), (0, u "I"), (2, u "LO_BYTE_SHIFT"), (49, .methodref 12 116), (0, .nameAndType 117 118), (0, u "compress"), (0, u "([CI[BII)I"), (3, u "([CII)[B"), (138, u "coderFromArrayLen"), (0, u "([BI)B"), (106, .class_ 371), (1, u "java/lang/StringUTF16$LinesSpliterator"), (58, u "MAX_LENGTH"), (196, .class_ 628), (0, u "java/lang/StringUTF16$CodePointsSpliterator"), (0, .class_ 630), (0, u "java/lang/StringUTF16$CharsSpliterator")] 4

def k11m0 : Method := { name := "<init>", desc := "()V", sig := { parameters := [], returnType := none }, accessFlags := 0, code := none }
def k11c1 : Code := { maxStack := 2, maxLocals := 2, code := jdk_52_method_15_code, exceptionTable := #[], attributes := #[] }
def k11m1 : Method := { name := "coderFromArrayLen", desc := "([BI)B", sig := { parameters := [(.array .byte), .int], returnType := some .byte }, accessFlags := 8, code := some k11c1 }
def k11c2 : Code := { maxStack := 5, maxLocals := 6, code := jdk_52_method_16_code, exceptionTable := #[], attributes := #[] }
def k11m2 : Method := { name := "compress", desc := "([CII)[B", sig := { parameters := [(.array .char), .int, .int], returnType := some (.array .byte) }, accessFlags := 9, code := some k11c2 }
def k11c3 : Code := { maxStack := 3, maxLocals := 7, code := jdk_52_method_21_code, exceptionTable := #[], attributes := #[] }
def k11m3 : Method := { name := "compress", desc := "([CI[BII)I", sig := { parameters := [(.array .char), .int, (.array .byte), .int, .int], returnType := some .int }, accessFlags := 9, code := some k11c3 }
/-- java/lang/StringUTF16 -/
def k11 : Class := { plain "java/lang/StringUTF16" (some 0) with
  accessFlags := 48
  interfaces := #[]
  cf := some (fileOf pool11 12 #[.nestMembers #[627, 629, 369]] #[{ accessFlags := 0, nameIndex := 9, descriptorIndex := 10, attributes := #[] }, { accessFlags := 8, nameIndex := 261, descriptorIndex := 262, attributes := #[] }, { accessFlags := 9, nameIndex := 117, descriptorIndex := 122, attributes := #[] }, { accessFlags := 9, nameIndex := 117, descriptorIndex := 118, attributes := #[] }] 48 6 #[] #[{ accessFlags := 26, nameIndex := 61, descriptorIndex := 62, attributes := #[] }, { accessFlags := 26, nameIndex := 65, descriptorIndex := 62, attributes := #[] }, { accessFlags := 24, nameIndex := 430, descriptorIndex := 62, attributes := #[] }, { accessFlags := 4120, nameIndex := 46, descriptorIndex := 47, attributes := #[] }])
  fields := #[{ name := "HI_BYTE_SHIFT", type := .int, accessFlags := 26, slot := 0, constantValue := 0 }, { name := "LO_BYTE_SHIFT", type := .int, accessFlags := 26, slot := 1, constantValue := 0 }, { name := "MAX_LENGTH", type := .int, accessFlags := 24, slot := 2, constantValue := 0 }, { name := "$assertionsDisabled", type := .boolean, accessFlags := 4120, slot := 3, constantValue := 0 }]
  methods := #[k11m0, k11m1, k11m2, k11m3]
  instanceTypes := #[]
  staticTypes := #[.int, .int, .int, .boolean]
  resolved := Array.replicate 635 none
  statics := none }

def pool12 : Array CpInfo := pool [(2, .class_ 4), (1, u "java/lang/Object"), (0, u "<init>"), (0, u "()V"), (17, .class_ 26), (1, u "jdk/internal/util/Preconditions"), (28, .class_ 56), (0, u "jdk/internal/util/Preconditions$4"), (57, .class_ 115), (0, u "jdk/internal/util/Preconditions$1"), (7, u "SIOOBE_FORMATTER"), (0, u "Ljava/util/function/BiFunction;"), (0, .class_ 126), (0, u "jdk/internal/util/Preconditions$2"), (3, u "AIOOBE_FORMATTER"), (0, .class_ 132), (0, u "jdk/internal/util/Preconditions$3"), (3, u "IOOBE_FORMATTER")] 57

def k12m0 : Method := { name := "<init>", desc := "()V", sig := { parameters := [], returnType := none }, accessFlags := 1, code := none }
/-- jdk/internal/util/Preconditions -/
def k12 : Class := { plain "jdk/internal/util/Preconditions" (some 0) with
  accessFlags := 33
  interfaces := #[]
  cf := some (fileOf pool12 24 #[.nestMembers #[55, 131, 125, 114]] #[{ accessFlags := 1, nameIndex := 5, descriptorIndex := 6, attributes := #[] }] 33 2 #[] #[{ accessFlags := 25, nameIndex := 123, descriptorIndex := 124, attributes := #[] }, { accessFlags := 25, nameIndex := 130, descriptorIndex := 124, attributes := #[] }, { accessFlags := 25, nameIndex := 136, descriptorIndex := 124, attributes := #[] }])
  fields := #[{ name := "SIOOBE_FORMATTER", type := (.object "java/util/function/BiFunction"), accessFlags := 25, slot := 0, constantValue := 0 }, { name := "AIOOBE_FORMATTER", type := (.object "java/util/function/BiFunction"), accessFlags := 25, slot := 1, constantValue := 0 }, { name := "IOOBE_FORMATTER", type := (.object "java/util/function/BiFunction"), accessFlags := 25, slot := 2, constantValue := 0 }]
  methods := #[k12m0]
  instanceTypes := #[]
  staticTypes := #[(.object "java/util/function/BiFunction"), (.object "java/util/function/BiFunction"), (.object "java/util/function/BiFunction")]
  resolved := Array.replicate 194 none
  statics := some 1 }

def pool13 : Array CpInfo := pool [(9, u "<init>"), (6, .class_ 18), (1, u "java/lang/Object"), (0, u "()V"), (1, .class_ 23), (1, u "jdk/internal/util/ArraysSupport"), (0, u "LOG2_ARRAY_LONG_INDEX_SCALE"), (0, u "I"), (2, u "U"), (0, u "Ljdk/internal/misc/Unsafe;"), (8, u "BIG_ENDIAN"), (0, u "Z"), (8, u "LOG2_BYTE_BIT_SIZE"), (4, u "LOG2_ARRAY_INT_INDEX_SCALE"), (54, u "JLA"), (0, u "Ljdk/internal/access/JavaLangAccess;"), (11, u "LOG2_ARRAY_BOOLEAN_INDEX_SCALE"), (9, u "LOG2_ARRAY_BYTE_INDEX_SCALE"), (5, u "LOG2_ARRAY_CHAR_INDEX_SCALE"), (5, u "LOG2_ARRAY_SHORT_INDEX_SCALE"), (18, u "LOG2_ARRAY_FLOAT_INDEX_SCALE"), (24, u "LOG2_ARRAY_DOUBLE_INDEX_SCALE"), (89, u "T_BOOLEAN"), (2, u "T_CHAR"), (1, u "T_FLOAT"), (1, u "T_DOUBLE"), (1, u "T_BYTE"), (1, u "T_SHORT"), (1, u "T_INT"), (1, u "T_LONG"), (1, u "SOFT_MAX_ARRAY_LENGTH")] 83

def k13m0 : Method := { name := "<init>", desc := "()V", sig := { parameters := [], returnType := none }, accessFlags := 2, code := none }
/-- jdk/internal/util/ArraysSupport -/
def k13 : Class := { plain "jdk/internal/util/ArraysSupport" (some 0) with
  accessFlags := 33
  interfaces := #[]
  cf := some (fileOf pool13 21 #[] #[{ accessFlags := 2, nameIndex := 9, descriptorIndex := 19, attributes := #[] }] 33 16 #[] #[{ accessFlags := 24, nameIndex := 28, descriptorIndex := 29, attributes := #[] }, { accessFlags := 26, nameIndex := 38, descriptorIndex := 39, attributes := #[] }, { accessFlags := 25, nameIndex := 121, descriptorIndex := 25, attributes := #[] }, { accessFlags := 25, nameIndex := 131, descriptorIndex := 25, attributes := #[] }, { accessFlags := 25, nameIndex := 137, descriptorIndex := 25, attributes := #[] }, { accessFlags := 25, nameIndex := 143, descriptorIndex := 25, attributes := #[] }, { accessFlags := 25, nameIndex := 53, descriptorIndex := 25, attributes := #[] }, { accessFlags := 25, nameIndex := 24, descriptorIndex := 25, attributes := #[] }, { accessFlags := 25, nameIndex := 162, descriptorIndex := 25, attributes := #[] }, { accessFlags := 25, nameIndex := 187, descriptorIndex := 25, attributes := #[] }, { accessFlags := 26, nameIndex := 48, descriptorIndex := 25, attributes := #[] }, { accessFlags := 25, nameIndex := 277, descriptorIndex := 25, attributes := #[] }, { accessFlags := 25, nameIndex := 280, descriptorIndex := 25, attributes := #[] }, { accessFlags := 25, nameIndex := 282, descriptorIndex := 25, attributes := #[] }, { accessFlags := 25, nameIndex := 284, descriptorIndex := 25, attributes := #[] }, { accessFlags := 25, nameIndex := 286, descriptorIndex := 25, attributes := #[] }, { accessFlags := 25, nameIndex := 288, descriptorIndex := 25, attributes := #[] }, { accessFlags := 25, nameIndex := 290, descriptorIndex := 25, attributes := #[] }, { accessFlags := 25, nameIndex := 292, descriptorIndex := 25, attributes := #[] }, { accessFlags := 26, nameIndex := 108, descriptorIndex := 109, attributes := #[] }, { accessFlags := 25, nameIndex := 294, descriptorIndex := 25, attributes := #[] }])
  fields := #[{ name := "U", type := (.object "jdk/internal/misc/Unsafe"), accessFlags := 24, slot := 0, constantValue := 0 }, { name := "BIG_ENDIAN", type := .boolean, accessFlags := 26, slot := 1, constantValue := 0 }, { name := "LOG2_ARRAY_BOOLEAN_INDEX_SCALE", type := .int, accessFlags := 25, slot := 2, constantValue := 0 }, { name := "LOG2_ARRAY_BYTE_INDEX_SCALE", type := .int, accessFlags := 25, slot := 3, constantValue := 0 }, { name := "LOG2_ARRAY_CHAR_INDEX_SCALE", type := .int, accessFlags := 25, slot := 4, constantValue := 0 }, { name := "LOG2_ARRAY_SHORT_INDEX_SCALE", type := .int, accessFlags := 25, slot := 5, constantValue := 0 }, { name := "LOG2_ARRAY_INT_INDEX_SCALE", type := .int, accessFlags := 25, slot := 6, constantValue := 0 }, { name := "LOG2_ARRAY_LONG_INDEX_SCALE", type := .int, accessFlags := 25, slot := 7, constantValue := 0 }, { name := "LOG2_ARRAY_FLOAT_INDEX_SCALE", type := .int, accessFlags := 25, slot := 8, constantValue := 0 }, { name := "LOG2_ARRAY_DOUBLE_INDEX_SCALE", type := .int, accessFlags := 25, slot := 9, constantValue := 0 }, { name := "LOG2_BYTE_BIT_SIZE", type := .int, accessFlags := 26, slot := 10, constantValue := 0 }, { name := "T_BOOLEAN", type := .int, accessFlags := 25, slot := 11, constantValue := 0 }, { name := "T_CHAR", type := .int, accessFlags := 25, slot := 12, constantValue := 0 }, { name := "T_FLOAT", type := .int, accessFlags := 25, slot := 13, constantValue := 0 }, { name := "T_DOUBLE", type := .int, accessFlags := 25, slot := 14, constantValue := 0 }, { name := "T_BYTE", type := .int, accessFlags := 25, slot := 15, constantValue := 0 }, { name := "T_SHORT", type := .int, accessFlags := 25, slot := 16, constantValue := 0 }, { name := "T_INT", type := .int, accessFlags := 25, slot := 17, constantValue := 0 }, { name := "T_LONG", type := .int, accessFlags := 25, slot := 18, constantValue := 0 }, { name := "JLA", type := (.object "jdk/internal/access/JavaLangAccess"), accessFlags := 26, slot := 19, constantValue := 0 }, { name := "SOFT_MAX_ARRAY_LENGTH", type := .int, accessFlags := 25, slot := 20, constantValue := 0 }]
  methods := #[k13m0]
  instanceTypes := #[]
  staticTypes := #[(.object "jdk/internal/misc/Unsafe"), .boolean, .int, .int, .int, .int, .int, .int, .int, .int, .int, .int, .int, .int, .int, .int, .int, .int, .int, (.object "jdk/internal/access/JavaLangAccess"), .int]
  resolved := Array.replicate 378 none
  statics := none }

def pool14 : Array CpInfo := pool [(1, u "java/lang/Cloneable"), (0, .class_ 1), (0, u "java/lang/Object"), (0, .class_ 3)] 3

/-- java/lang/Cloneable -/
def k14 : Class := { plain "java/lang/Cloneable" (some 0) with
  accessFlags := 1537
  interfaces := #[]
  cf := some (fileOf pool14 2 #[] #[] 1537 4 #[] #[])
  fields := #[]
  methods := #[]
  instanceTypes := #[]
  staticTypes := #[]
  resolved := Array.replicate 8 none
  statics := none }

/-- the primitive byte -/
def k15 : Class := { plain "byte" none with kind := .primitive 'B', accessFlags := 0x411 }
/-- [B -/
def k16 : Class := { plain "[B" (some 0) with kind := .array 15 .byte, interfaces := #[14, 4], accessFlags := 1041 }

/-- the primitive char -/
def k17 : Class := { plain "char" none with kind := .primitive 'C', accessFlags := 0x411 }
/-- [C -/
def k18 : Class := { plain "[C" (some 0) with kind := .array 17 .char, interfaces := #[14, 4], accessFlags := 1041 }

/-- the primitive int -/
def k19 : Class := { plain "int" none with kind := .primitive 'I', accessFlags := 0x411 }
/-- [I -/
def k20 : Class := { plain "[I" (some 0) with kind := .array 19 .int, interfaces := #[14, 4], accessFlags := 1041 }

def heap : Heap := #[{ cls := 9, slots := #[.long 0, .int 1, .null, .int 0, .null, .int 0, .int 0], vm := .statics 9 },
  { cls := 12, slots := #[.null, .null, .null], vm := .statics 12 }]
def classes : Array Class := #[k0, k1, k2, k3, k4, k5, k6, k7, k8, k9, k10, k11, k12, k13, k14, k15, k16, k17, k18, k19, k20]
def interned : List (Array UInt16 × Addr) := []
def slotsUsed : Nat := 10
def theMethod : MethodId := ⟨1, 2⟩
def args0 : Array Value := #[.int 1, .int 2, .int 3, .int 4, .int 5]
def aboutOver (below : List Frame) : State where
  vm := { classes := classes, interned := interned.toArray }
  heap := heap
  slotsUsed := slotsUsed
  threads := #[{ frames := .invoking theMethod args0 :: below }]
def below0 : List Frame := [.native { method := ⟨0, 0⟩, args := #[] }]
def about1 : State := aboutOver below0
def p0 : Program := .bare "" "" ""
def e0 : Env := launch0.env 0 0 0
theorem w_frames : about1.frames = Frame.invoking theMethod args0 :: below0 := rfl
set_option maxRecDepth 65536 in
theorem w_args : argsFit about1.vm theMethod args0 = true := by decide +kernel
set_option maxRecDepth 65536 in
theorem w_heap : heapFits about1 = true := by decide +kernel
set_option maxRecDepth 65536 in
theorem w_runnable : about1.curStatus? = some .runnable := by decide +kernel
set_option maxRecDepth 65536 in
theorem w_alone : about1.alone = true := by decide +kernel
set_option maxRecDepth 65536 in
theorem w_named : about1.methodNamed? x = some theMethod := by decide +kernel
set_option maxRecDepth 65536 in
theorem w_hears : about1.hears theMethod below0 = true := by decide +kernel
set_option maxRecDepth 65536 in
theorem w_ripe : about1.ripe theMethod args0 below0 = true := by decide +kernel
theorem w_running : about1.status = .running := rfl
set_option maxRecDepth 65536 in
theorem w_room : about1.hasRoom e0.platform room_1 = true :=
  launch0.hasRoom_least _ room_1 (by decide +kernel) (by decide +kernel) (by decide +kernel) (by decide +kernel) (by decide +kernel) (by decide +kernel)
theorem allAtoms_all (ts : List Jvm.Cond) (a : Array Jvm.Value) (st : Jvm.State) : (allAtoms ts).before a st = ts.all (fun c => c.before a st) := by
  induction ts with
  | nil => rfl
  | cons c t ih =>
    show (Jvm.Cond.and c (allAtoms t)).before a st = _
    rw [Jvm.Cond.before_and, ih, List.all_cons]
def words1 : List Jvm.Cond := Jvm.Cond.code x code maxLocals ret :: tables_1
/-- a 'code' word, met by the world's own term for the bytes: nothing is compared byte by byte -/
theorem code_word {y : MethodName} {bytes : ByteArray} {mx : Nat} {rt : Option FieldType} {a : Array Value} {s : State} {m : MethodId} {meth : Method} {c : Code} (h1 : s.methodNamed? y = some m) (h2 : s.vm.method? m = some meth) (h3 : meth.code = some c) (h4 : c.code = bytes)
    (h5 : (c.maxLocals == mx && c.exceptionTable.isEmpty && decide (c.maxStack ≤ mostOperands) && decide (meth.sig.returnType = rt) && !meth.locks && decide (parseMethodDescriptor y.desc = some meth.sig)) = true) : (Jvm.Cond.code y bytes mx rt).before a s = true := by
  simp only [Bool.and_eq_true, beq_iff_eq, Bool.not_eq_true', decide_eq_true_eq] at h5
  obtain ⟨⟨⟨⟨⟨g1, g2⟩, g3⟩, g4⟩, g5⟩, g6⟩ := h5
  simp [Cond.before, Cond.holds, Cond.value, h1, h2, h3, h4, g1, g2, g3, g4, g5, g6]
def isCode : Jvm.Cond → Bool
  | .code _ _ _ _ => true
  | _ => false
theorem all_split {L : List Jvm.Cond} {P : Jvm.Cond → Bool} (h1 : L.all (fun c => isCode c || P c) = true) (h2 : ∀ c ∈ L.filter isCode, P c = true) : L.all P = true := by
  refine List.all_eq_true.mpr fun c hc => ?_
  have h := List.all_eq_true.mp h1 c hc
  rcases Bool.eq_false_or_eq_true (isCode c) with hi | hi
  · exact h2 c (List.mem_filter.mpr ⟨hc, hi⟩)
  · simpa [hi] using h
set_option maxRecDepth 65536 in
theorem w_c0 : (Jvm.Cond.code x code maxLocals ret).before args0 about1 = true := code_word (m := ⟨1, 2⟩) (meth := k1m2) (c := k1c2) (by decide +kernel) rfl rfl rfl (by decide +kernel)
set_option maxRecDepth 65536 in
theorem w_c1 : (Jvm.Cond.code ({ cls := "com/example/subsumer/subsumer/EdgeSameLabelPinLaw", name := "role", desc := "(ICC)Ljava/lang/String;" } : Jvm.MethodName) method_2_code (4 : Nat) (Option.some (Jvm.ClassFile.FieldType.object "java/lang/String"))).before args0 about1 = true := code_word (m := ⟨1, 1⟩) (meth := k1m1) (c := k1c1) (by decide +kernel) rfl rfl rfl (by decide +kernel)
set_option maxRecDepth 65536 in
theorem w_c2 : (Jvm.Cond.code ({ cls := "java/lang/String", name := "<init>", desc := "([C)V" } : Jvm.MethodName) jdk_42_method_3_code (2 : Nat) (Option.none : Option Jvm.ClassFile.FieldType)).before args0 about1 = true := code_word (m := ⟨9, 1⟩) (meth := k9m1) (c := k9c1) (by decide +kernel) rfl rfl rfl (by decide +kernel)
set_option maxRecDepth 65536 in
theorem w_c3 : (Jvm.Cond.code ({ cls := "java/lang/String", name := "<init>", desc := "([CIILjava/lang/Void;)V" } : Jvm.MethodName) jdk_42_method_149_code (6 : Nat) (Option.none : Option Jvm.ClassFile.FieldType)).before args0 about1 = true := code_word (m := ⟨9, 3⟩) (meth := k9m3) (c := k9c3) (by decide +kernel) rfl rfl rfl (by decide +kernel)
set_option maxRecDepth 65536 in
theorem w_c4 : (Jvm.Cond.code ({ cls := "java/lang/Object", name := "<init>", desc := "()V" } : Jvm.MethodName) object_method_1_code (1 : Nat) (Option.none : Option Jvm.ClassFile.FieldType)).before args0 about1 = true := code_word (m := ⟨0, 0⟩) (meth := k0m0) (c := k0c0) (by decide +kernel) rfl rfl rfl (by decide +kernel)
set_option maxRecDepth 65536 in
theorem w_c5 : (Jvm.Cond.code ({ cls := "com/example/subsumer/subsumer/Nodes$Edge", name := "<init>", desc := "(ZLjava/lang/String;I)V" } : Jvm.MethodName) prog_41_method_1_code (4 : Nat) (Option.none : Option Jvm.ClassFile.FieldType)).before args0 about1 = true := code_word (m := ⟨3, 0⟩) (meth := k3m0) (c := k3c0) (by decide +kernel) rfl rfl rfl (by decide +kernel)
set_option maxRecDepth 65536 in
theorem w_c6 : (Jvm.Cond.code ({ cls := "java/lang/Record", name := "<init>", desc := "()V" } : Jvm.MethodName) jdk_30_method_1_code (1 : Nat) (Option.none : Option Jvm.ClassFile.FieldType)).before args0 about1 = true := code_word (m := ⟨2, 0⟩) (meth := k2m0) (c := k2c0) (by decide +kernel) rfl rfl rfl (by decide +kernel)
set_option maxRecDepth 65536 in
theorem w_c7 : (Jvm.Cond.code ({ cls := "com/example/subsumer/subsumer/Nodes$Edge", name := "sameLabel", desc := "(Lcom/example/subsumer/subsumer/Nodes$Edge;)Z" } : Jvm.MethodName) prog_41_method_2_code (2 : Nat) (Option.some Jvm.ClassFile.FieldType.boolean)).before args0 about1 = true := code_word (m := ⟨3, 1⟩) (meth := k3m1) (c := k3c1) (by decide +kernel) rfl rfl rfl (by decide +kernel)
set_option maxRecDepth 65536 in
theorem w_c8 : (Jvm.Cond.code ({ cls := "java/lang/String", name := "equals", desc := "(Ljava/lang/Object;)Z" } : Jvm.MethodName) jdk_42_method_66_code (3 : Nat) (Option.some Jvm.ClassFile.FieldType.boolean)).before args0 about1 = true := code_word (m := ⟨9, 2⟩) (meth := k9m2) (c := k9c2) (by decide +kernel) rfl rfl rfl (by decide +kernel)
set_option maxRecDepth 65536 in
theorem w_c9 : (Jvm.Cond.code ({ cls := "java/lang/StringLatin1", name := "equals", desc := "([B[B)Z" } : Jvm.MethodName) jdk_43_method_13_code (3 : Nat) (Option.some Jvm.ClassFile.FieldType.boolean)).before args0 about1 = true := code_word (m := ⟨10, 1⟩) (meth := k10m1) (c := k10c1) (by decide +kernel) rfl rfl rfl (by decide +kernel)
set_option maxRecDepth 65536 in
theorem w_c10 : (Jvm.Cond.code ({ cls := "java/lang/StringUTF16", name := "compress", desc := "([CII)[B" } : Jvm.MethodName) jdk_52_method_16_code (6 : Nat) (Option.some (Jvm.ClassFile.FieldType.array Jvm.ClassFile.FieldType.byte))).before args0 about1 = true := code_word (m := ⟨11, 2⟩) (meth := k11m2) (c := k11c2) (by decide +kernel) rfl rfl rfl (by decide +kernel)
set_option maxRecDepth 65536 in
theorem w_c11 : (Jvm.Cond.code ({ cls := "java/lang/StringUTF16", name := "compress", desc := "([CI[BII)I" } : Jvm.MethodName) jdk_52_method_21_code (7 : Nat) (Option.some Jvm.ClassFile.FieldType.int)).before args0 about1 = true := code_word (m := ⟨11, 3⟩) (meth := k11m3) (c := k11c3) (by decide +kernel) rfl rfl rfl (by decide +kernel)
set_option maxRecDepth 65536 in
theorem w_c12 : (Jvm.Cond.code ({ cls := "java/lang/StringUTF16", name := "coderFromArrayLen", desc := "([BI)B" } : Jvm.MethodName) jdk_52_method_15_code (2 : Nat) (Option.some Jvm.ClassFile.FieldType.byte)).before args0 about1 = true := code_word (m := ⟨11, 1⟩) (meth := k11m1) (c := k11c1) (by decide +kernel) rfl rfl rfl (by decide +kernel)
def codes1 : List Jvm.Cond := [Jvm.Cond.code x code maxLocals ret, Jvm.Cond.code ({ cls := "com/example/subsumer/subsumer/EdgeSameLabelPinLaw", name := "role", desc := "(ICC)Ljava/lang/String;" } : Jvm.MethodName) method_2_code (4 : Nat) (Option.some (Jvm.ClassFile.FieldType.object "java/lang/String")), Jvm.Cond.code ({ cls := "java/lang/String", name := "<init>", desc := "([C)V" } : Jvm.MethodName) jdk_42_method_3_code (2 : Nat) (Option.none : Option Jvm.ClassFile.FieldType), Jvm.Cond.code ({ cls := "java/lang/String", name := "<init>", desc := "([CIILjava/lang/Void;)V" } : Jvm.MethodName) jdk_42_method_149_code (6 : Nat) (Option.none : Option Jvm.ClassFile.FieldType), Jvm.Cond.code ({ cls := "java/lang/Object", name := "<init>", desc := "()V" } : Jvm.MethodName) object_method_1_code (1 : Nat) (Option.none : Option Jvm.ClassFile.FieldType), Jvm.Cond.code ({ cls := "com/example/subsumer/subsumer/Nodes$Edge", name := "<init>", desc := "(ZLjava/lang/String;I)V" } : Jvm.MethodName) prog_41_method_1_code (4 : Nat) (Option.none : Option Jvm.ClassFile.FieldType), Jvm.Cond.code ({ cls := "java/lang/Record", name := "<init>", desc := "()V" } : Jvm.MethodName) jdk_30_method_1_code (1 : Nat) (Option.none : Option Jvm.ClassFile.FieldType), Jvm.Cond.code ({ cls := "com/example/subsumer/subsumer/Nodes$Edge", name := "sameLabel", desc := "(Lcom/example/subsumer/subsumer/Nodes$Edge;)Z" } : Jvm.MethodName) prog_41_method_2_code (2 : Nat) (Option.some Jvm.ClassFile.FieldType.boolean), Jvm.Cond.code ({ cls := "java/lang/String", name := "equals", desc := "(Ljava/lang/Object;)Z" } : Jvm.MethodName) jdk_42_method_66_code (3 : Nat) (Option.some Jvm.ClassFile.FieldType.boolean), Jvm.Cond.code ({ cls := "java/lang/StringLatin1", name := "equals", desc := "([B[B)Z" } : Jvm.MethodName) jdk_43_method_13_code (3 : Nat) (Option.some Jvm.ClassFile.FieldType.boolean), Jvm.Cond.code ({ cls := "java/lang/StringUTF16", name := "compress", desc := "([CII)[B" } : Jvm.MethodName) jdk_52_method_16_code (6 : Nat) (Option.some (Jvm.ClassFile.FieldType.array Jvm.ClassFile.FieldType.byte)), Jvm.Cond.code ({ cls := "java/lang/StringUTF16", name := "compress", desc := "([CI[BII)I" } : Jvm.MethodName) jdk_52_method_21_code (7 : Nat) (Option.some Jvm.ClassFile.FieldType.int), Jvm.Cond.code ({ cls := "java/lang/StringUTF16", name := "coderFromArrayLen", desc := "([BI)B" } : Jvm.MethodName) jdk_52_method_15_code (2 : Nat) (Option.some Jvm.ClassFile.FieldType.byte)]
set_option maxRecDepth 65536 in
theorem codes_eq : words1.filter isCode = codes1 := rfl
theorem w_codes : ∀ c ∈ words1.filter isCode, c.before args0 about1 = true := by
  rw [codes_eq]
  intro c hc
  simp only [codes1, List.mem_cons, List.not_mem_nil, or_false] at hc
  rcases hc with rfl | rfl | rfl | rfl | rfl | rfl | rfl | rfl | rfl | rfl | rfl | rfl | rfl
  · exact w_c0
  · exact w_c1
  · exact w_c2
  · exact w_c3
  · exact w_c4
  · exact w_c5
  · exact w_c6
  · exact w_c7
  · exact w_c8
  · exact w_c9
  · exact w_c10
  · exact w_c11
  · exact w_c12
set_option maxRecDepth 65536 in
theorem w_t1 : (words1.take 24).all (fun c => isCode c || c.before args0 about1) = true := by decide +kernel
set_option maxRecDepth 65536 in
theorem w_t2 : ((words1.drop 24).take 24).all (fun c => isCode c || c.before args0 about1) = true := by decide +kernel
set_option maxRecDepth 65536 in
theorem w_t3 : ((words1.drop 24).drop 24).all (fun c => isCode c || c.before args0 about1) = true := by decide +kernel
theorem w_tables : (allAtoms (Jvm.Cond.code x code maxLocals ret :: tables_1)).before args0 about1 = true := by
  rw [allAtoms_all]
  show words1.all (fun c => c.before args0 about1) = true
  refine all_split ?_ w_codes
  rw [← List.take_append_drop 24 words1, List.all_append, w_t1, ← List.take_append_drop 24 (words1.drop 24), List.all_append, w_t2, w_t3]
  rfl
set_option maxRecDepth 65536 in
theorem w_rest : rest_1_c.before args0 about1 = true := by decide +kernel
set_option maxRecDepth 65536 in
theorem w_case : (Jvm.Cond.and given_1 narrow_1).before args0 about1 = true := by decide +kernel
set_option maxRecDepth 65536 in
theorem w_consts : constsHeld consts_1 about1 := Jvm.Lit.constsHeldB_iff.mp (by decide +kernel)
theorem w_applies : (headSpec (Jvm.Cond.code x code maxLocals ret :: tables_1) room_1).applies x e0.platform about1 = true :=
  (Spec.applies_iff w_frames).mpr ⟨w_running, w_runnable, w_alone, w_named, w_hears, w_ripe, w_room, w_tables⟩
theorem atStart : AtStart classFile x code maxLocals ret World_1 tables_1 room_1 Calls_1 rest_1 Pre_1 launch0 p0 e0 about1 theMethod args0 below0 :=
  ⟨lists_1, trivial, launch0.admits_env _ _ _, launch0.least_env, fairChoices_fair.cas, fairChoices_fair.clock, w_frames, w_args, w_heap, w_applies, ⟨w_consts, trivial⟩, w_rest, w_case⟩
end start1
theorem witness_1 : WitnessClaimed_1 := ⟨start1.p0, start1.e0, start1.about1, start1.theMethod, start1.args0, start1.below0, start1.atStart⟩
end Jvm.Pilot.@@N@@
