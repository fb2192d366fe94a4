import JvmDerived
import JvmDerived.Pilot.@@N@@Statement
import JvmDerived.Pilot.@@N@@Code
set_option linter.unusedVariables false
set_option linter.unusedSimpArgs false
namespace Jvm.Pilot.@@N@@
open Jvm Jvm.ClassFile Sem Op Lib Jvm.Free Jvm.Stand Jvm.LawKit Jvm.RoadKit Bundle Jvm.Pilot.@@N@@.Jvm.D
section OwnKit
variable {p : Program} {l : Launch} {e : Env} {R : Room} {s : State} {m : MethodId} {args : Array Value} {below : List Frame} {meth : Method} {c : Code} {n0 : Nat} {h0 h h' : Heap} {ws : List Addr} {T T' : State} {C S C' S' : Nat} {Q : Option Value → Heap → Prop} {En : Outcome → State → List Loc → Prop} {Z : State} {a0 : Array Value} {bytes : ByteArray} {maxL : Nat} {own nm : String} {rt : Option FieldType} {L L' : Array Slot} {st : List Value} {pc pc' : Nat}
/-- where the run stands: heap h, nothing old written but cells in ws -/
def own_St (p : Program) (l : Launch) (e : Env) (R : Room) (s : State) (m : MethodId) (args : Array Value) (below : List Frame) (meth : Method) (c : Code) (n0 : Nat) (h0 : Heap) (ws : List Addr) (T : State) (h : Heap) (C S : Nat) : Prop :=
  ∃ locs, Stand p l e R s m args below meth c T locs C S ∧ Fr n0 locs ∧ T.heap = h ∧ Keep h0 h ws
/-- from this frame the invocation ends, and Q holds of what it returns and of the heap -/
def own_H (p : Program) (e : Env) (below : List Frame) (En : Outcome → State → List Loc → Prop) (n0 : Nat) (h0 : Heap) (ws : List Addr) (Q : Option Value → Heap → Prop) (T : State) (f : JFrame) : Prop :=
  ∃ (s₂ : State) (o : Outcome), Steps p.tables e below (T.setTop f) s₂ ∧ s₂.status = .running ∧ Ended s₂ below o ∧ ∃ v L, o = .returned v ∧ (Fr n0 L ∧ Keep h0 s₂.heap ws ∧ Q v s₂.heap) ∧ En o s₂ L
def own_F (s : State) (C S : Nat) (o : Outcome) (t : State) (L : List Loc) : Prop := FrameEnd s o t L C S
abbrev own_G (p : Program) (e : Env) (below : List Frame) (s : State) (n0 : Nat) (h0 : Heap) (ws : List Addr) (Q : Option Value → Heap → Prop) (C S : Nat) (T : State) (f : JFrame) : Prop := own_H p e below (own_F s C S) n0 h0 ws Q T f
def own_B (Z : State) (p : Program) (s : State) (m : MethodId) (meth : Method) (c : Code) (bytes : ByteArray) (maxL : Nat) (own nm : String) (rt : Option FieldType) : Prop :=
  p.tables.exec = Jvm.exec ∧ Z.Warmed39 s.vm ∧ c.code = bytes ∧ c.maxLocals = maxL ∧ s.vm.findClass own = some m.cls ∧ meth.name = nm ∧ meth.sig.returnType = rt ∧ meth.locks = false
/-- a contract -/
def own_C (l : Launch) (Z : State) (y : MethodName) (bytes : ByteArray) (maxL : Nat) (rt : Option FieldType) (cws : List Jvm.Cond) (rm : Room) (as : Array Value) (h0 : Heap) (n0 : Nat) (ws : List Addr) (Q : Option Value → Heap → Prop) (C S : Nat) : Prop :=
  MetFree l y (head1 (Jvm.Cond.code y bytes maxL rt :: cws) rm) (fun a U => a = as ∧ Z.Warmed39 U.vm ∧ U.heap = h0) (fun _ _ _ _ _ => True) (fun _ U o U' => ∃ v L, o = .returned v ∧ (Fr n0 L ∧ Keep h0 U'.heap ws ∧ Q v U'.heap) ∧ FrameEnd U o U' L C S)
theorem own_enter {y : MethodName} {cws : List Jvm.Cond} {rm : Room} {as : Array Value} {L0 : Array Slot} (hpl : plainFor y = true) (hef : ∀ m, entryFrame m as maxL = mkF m 0 L0 [])
    (body : ∀ p e s m below meth c T, own_B Z p s m meth c bytes maxL y.cls y.name rt → own_St p l e rm s m as below meth c n0 h0 ws T h0 0 0 → own_G p e below s n0 h0 ws Q C S T (mkF m 0 L0 [])) :
    own_C l Z y bytes maxL rt cws rm as h0 n0 ws Q C S := by
  show MetFree l y _ _ _ _
  refine MetFree.of_bodySF hpl hisR ?_
  intro p e s m args below meth c s₁ Bd hml0 hP hK
  obtain ⟨rfl, hZ, hh⟩ := hP
  have X0 : Stand p l e rm s m _ below meth c s₁ [] 0 0 := Stand.of_body Bd
  have e0 : s₁.heap = h0 := by rw [← hh, Bd.state]; rfl
  obtain ⟨s₂, o, h1, h2, h3, h4⟩ := body p e s m below meth c s₁ ⟨Bd.exec, hZ, Bd.bytes, hml0, findClass_of_methodNamed Bd.named, (name_of_methodNamed Bd.named Bd.method).1, Bd.returns, Bd.notSynchronized⟩ ⟨[], X0, Fr.nil n0, e0, Keep.refl _ _⟩
  exact ⟨s₂, o, castTop (hef m) h1, h2, h3, h4⟩
theorem own_st (X : own_St p l e R s m args below meth c n0 h0 ws T h C S) {f f' : JFrame} (k : own_H p e below En n0 h0 ws Q T f') (hst : ∀ t, At T m c below → Steps p.tables e below (T.setTop f') t → Steps p.tables e below (T.setTop f) t) : own_H p e below En n0 h0 ws Q T f := by
  obtain ⟨s₂, o, h1, h2⟩ := k
  obtain ⟨locs, Y, -⟩ := X
  exact ⟨s₂, o, hst _ Y.here h1, h2⟩
theorem own_tr {f f' : JFrame} (hst : ∀ t, Steps p.tables e below (T'.setTop f') t → Steps p.tables e below (T.setTop f) t) (k : own_H p e below En n0 h0 ws Q T' f') : own_H p e below En n0 h0 ws Q T f := by
  obtain ⟨s₂, o, h1, h2⟩ := k
  exact ⟨s₂, o, hst _ h1, h2⟩
theorem own_ret (X : own_St p l e R s m args below meth c n0 h0 ws T h C S) (B : own_B Z p s m meth c bytes maxL own nm rt) (hc : C ≤ C') (hs : S ≤ S') {v : Option Value} {f : JFrame} (hv : rt = none → v = none)
    (hst : ∀ locs fs, Stand p l e R s m args below meth c T locs C S → (∀ (f : JFrame) (acts : List Action), f.method = m → f.locked = none → f.entered = [] → (doReturn e (T.setTop f) acts v).1 = T.setFrames fs) → Steps p.tables e below (T.setTop f) (T.setFrames fs)) (q : Q v h) : own_G p e below s n0 h0 ws Q C' S' T f := by
  obtain ⟨locs, Y, N, e, K⟩ := X
  obtain ⟨-, -, -, -, -, -, hret, hlk⟩ := B
  obtain ⟨fs, hr, hrun, hended, hW, hsame⟩ := Y.leave (v := v) (fun h => hv (hret.symm.trans h)) hlk
  subst e
  exact ⟨_, _, hst locs fs Y hr, hrun, hended, _, _, rfl, ⟨N, K, q⟩, ⟨_, rfl⟩, hW, hsame.mono hc hs⟩
theorem own_iloadN (X : own_St p l e R s m args below meth c n0 h0 ws T h C S) (B : own_B Z p s m meth c bytes maxL own nm rt) {i : Fin 4} {v : Int32} (hd : decode bytes pc = .ok (.iload_n i, 1)) (hl : L[i.val]? = some (.val (.int v))) (hp : pc + 1 = pc') (k : own_H p e below En n0 h0 ws Q T (mkF m pc' L (.int v :: st))) : own_H p e below En n0 h0 ws Q T (mkF m pc L st) := by
  subst hp
  exact own_st X k (fun t A q => XS.iloadN A B.1 rfl (hb B.2.2.1 hd) hl q)
theorem own_iload (X : own_St p l e R s m args below meth c n0 h0 ws T h C S) (B : own_B Z p s m meth c bytes maxL own nm rt) {i : Nat} {v : Int32} (hd : decode bytes pc = .ok (.iload i, 2)) (hl : L[i]? = some (.val (.int v))) (hp : pc + 2 = pc') (k : own_H p e below En n0 h0 ws Q T (mkF m pc' L (.int v :: st))) : own_H p e below En n0 h0 ws Q T (mkF m pc L st) := by
  subst hp
  exact own_st X k (fun t A q => XS.iload A B.1 rfl (hb B.2.2.1 hd) hl q)
theorem own_istoreN (X : own_St p l e R s m args below meth c n0 h0 ws T h C S) (B : own_B Z p s m meth c bytes maxL own nm rt) {i : Fin 4} {v : Int32} (hd : decode bytes pc = .ok (.istore_n i, 1)) (hl : storeLocals L i.val (.int v) = some L') (hp : pc + 1 = pc') (k : own_H p e below En n0 h0 ws Q T (mkF m pc' L' st)) : own_H p e below En n0 h0 ws Q T (mkF m pc L (.int v :: st)) := by
  subst hp
  exact own_st X k (fun t A q => XS.istoreN A B.1 rfl (hb B.2.2.1 hd) rfl hl q)
theorem own_istore (X : own_St p l e R s m args below meth c n0 h0 ws T h C S) (B : own_B Z p s m meth c bytes maxL own nm rt) {i : Nat} {v : Int32} (hd : decode bytes pc = .ok (.istore i, 2)) (hl : storeLocals L i (.int v) = some L') (hp : pc + 2 = pc') (k : own_H p e below En n0 h0 ws Q T (mkF m pc' L' st)) : own_H p e below En n0 h0 ws Q T (mkF m pc L (.int v :: st)) := by
  subst hp
  exact own_st X k (fun t A q => XS.istore A B.1 rfl (hb B.2.2.1 hd) rfl hl q)
theorem own_lloadN (X : own_St p l e R s m args below meth c n0 h0 ws T h C S) (B : own_B Z p s m meth c bytes maxL own nm rt) {i : Fin 4} {v : Int64} (hd : decode bytes pc = .ok (.lload_n i, 1)) (hl : L[i.val]? = some (.val (.long v))) (hp : pc + 1 = pc') (k : own_H p e below En n0 h0 ws Q T (mkF m pc' L (.long v :: st))) : own_H p e below En n0 h0 ws Q T (mkF m pc L st) := by
  subst hp
  exact own_st X k (fun t A q => XS.lloadN A B.1 rfl (hb B.2.2.1 hd) hl q)
theorem own_lload (X : own_St p l e R s m args below meth c n0 h0 ws T h C S) (B : own_B Z p s m meth c bytes maxL own nm rt) {i : Nat} {v : Int64} (hd : decode bytes pc = .ok (.lload i, 2)) (hl : L[i]? = some (.val (.long v))) (hp : pc + 2 = pc') (k : own_H p e below En n0 h0 ws Q T (mkF m pc' L (.long v :: st))) : own_H p e below En n0 h0 ws Q T (mkF m pc L st) := by
  subst hp
  exact own_st X k (fun t A q => XS.lload A B.1 rfl (hb B.2.2.1 hd) hl q)
theorem own_lstoreN (X : own_St p l e R s m args below meth c n0 h0 ws T h C S) (B : own_B Z p s m meth c bytes maxL own nm rt) {i : Fin 4} {v : Int64} (hd : decode bytes pc = .ok (.lstore_n i, 1)) (hl : storeLocals L i.val (.long v) = some L') (hp : pc + 1 = pc') (k : own_H p e below En n0 h0 ws Q T (mkF m pc' L' st)) : own_H p e below En n0 h0 ws Q T (mkF m pc L (.long v :: st)) := by
  subst hp
  exact own_st X k (fun t A q => XS.lstoreN A B.1 rfl (hb B.2.2.1 hd) rfl hl q)
theorem own_lstore (X : own_St p l e R s m args below meth c n0 h0 ws T h C S) (B : own_B Z p s m meth c bytes maxL own nm rt) {i : Nat} {v : Int64} (hd : decode bytes pc = .ok (.lstore i, 2)) (hl : storeLocals L i (.long v) = some L') (hp : pc + 2 = pc') (k : own_H p e below En n0 h0 ws Q T (mkF m pc' L' st)) : own_H p e below En n0 h0 ws Q T (mkF m pc L (.long v :: st)) := by
  subst hp
  exact own_st X k (fun t A q => XS.lstore A B.1 rfl (hb B.2.2.1 hd) rfl hl q)
theorem own_aloadN (X : own_St p l e R s m args below meth c n0 h0 ws T h C S) (B : own_B Z p s m meth c bytes maxL own nm rt) {i : Fin 4} {v : Value} (hd : decode bytes pc = .ok (.aload_n i, 1)) (hl : L[i.val]? = some (.val v)) (hv : v.isRef = true) (hp : pc + 1 = pc') (k : own_H p e below En n0 h0 ws Q T (mkF m pc' L (v :: st))) : own_H p e below En n0 h0 ws Q T (mkF m pc L st) := by
  subst hp
  exact own_st X k (fun t A q => XS.aloadN A B.1 rfl (hb B.2.2.1 hd) hl hv q)
theorem own_aload (X : own_St p l e R s m args below meth c n0 h0 ws T h C S) (B : own_B Z p s m meth c bytes maxL own nm rt) {i : Nat} {v : Value} (hd : decode bytes pc = .ok (.aload i, 2)) (hl : L[i]? = some (.val v)) (hv : v.isRef = true) (hp : pc + 2 = pc') (k : own_H p e below En n0 h0 ws Q T (mkF m pc' L (v :: st))) : own_H p e below En n0 h0 ws Q T (mkF m pc L st) := by
  subst hp
  exact own_st X k (fun t A q => XS.aload A B.1 rfl (hb B.2.2.1 hd) hl hv q)
theorem own_astoreN (X : own_St p l e R s m args below meth c n0 h0 ws T h C S) (B : own_B Z p s m meth c bytes maxL own nm rt) {i : Fin 4} {v : Value} (hd : decode bytes pc = .ok (.astore_n i, 1)) (hv : v.isRef = true) (hl : storeLocals L i.val v = some L') (hp : pc + 1 = pc') (k : own_H p e below En n0 h0 ws Q T (mkF m pc' L' st)) : own_H p e below En n0 h0 ws Q T (mkF m pc L (v :: st)) := by
  subst hp
  exact own_st X k (fun t A q => XS.astoreN A B.1 rfl (hb B.2.2.1 hd) rfl hv hl q)
theorem own_astore (X : own_St p l e R s m args below meth c n0 h0 ws T h C S) (B : own_B Z p s m meth c bytes maxL own nm rt) {i : Nat} {v : Value} (hd : decode bytes pc = .ok (.astore i, 2)) (hv : v.isRef = true) (hl : storeLocals L i v = some L') (hp : pc + 2 = pc') (k : own_H p e below En n0 h0 ws Q T (mkF m pc' L' st)) : own_H p e below En n0 h0 ws Q T (mkF m pc L (v :: st)) := by
  subst hp
  exact own_st X k (fun t A q => XS.astore A B.1 rfl (hb B.2.2.1 hd) rfl hv hl q)
theorem own_iconst (X : own_St p l e R s m args below meth c n0 h0 ws T h C S) (B : own_B Z p s m meth c bytes maxL own nm rt) {i : Int} {v : Int32} (hd : decode bytes pc = .ok (.iconst i, 1)) (hv : Int32.ofInt i = v) (hp : pc + 1 = pc') (k : own_H p e below En n0 h0 ws Q T (mkF m pc' L (.int v :: st))) : own_H p e below En n0 h0 ws Q T (mkF m pc L st) := by
  subst hp hv
  exact own_st X k (fun t A q => XS.iconst A B.1 rfl (hb B.2.2.1 hd)  q)
theorem own_bipush (X : own_St p l e R s m args below meth c n0 h0 ws T h C S) (B : own_B Z p s m meth c bytes maxL own nm rt) {i : Int} {v : Int32} (hd : decode bytes pc = .ok (.bipush i, 2)) (hv : (Int8.ofInt i).toInt32 = v) (hp : pc + 2 = pc') (k : own_H p e below En n0 h0 ws Q T (mkF m pc' L (.int v :: st))) : own_H p e below En n0 h0 ws Q T (mkF m pc L st) := by
  subst hp hv
  exact own_st X k (fun t A q => XS.bipush A B.1 rfl (hb B.2.2.1 hd)  q)
theorem own_sipush (X : own_St p l e R s m args below meth c n0 h0 ws T h C S) (B : own_B Z p s m meth c bytes maxL own nm rt) {i : Int} {v : Int32} (hd : decode bytes pc = .ok (.sipush i, 3)) (hv : (Int16.ofInt i).toInt32 = v) (hp : pc + 3 = pc') (k : own_H p e below En n0 h0 ws Q T (mkF m pc' L (.int v :: st))) : own_H p e below En n0 h0 ws Q T (mkF m pc L st) := by
  subst hp hv
  exact own_st X k (fun t A q => XS.sipush A B.1 rfl (hb B.2.2.1 hd)  q)
theorem own_lconst (X : own_St p l e R s m args below meth c n0 h0 ws T h C S) (B : own_B Z p s m meth c bytes maxL own nm rt) {i : Fin 2} {v : Int64} (hd : decode bytes pc = .ok (.lconst i, 1)) (hv : Int64.ofNat i = v) (hp : pc + 1 = pc') (k : own_H p e below En n0 h0 ws Q T (mkF m pc' L (.long v :: st))) : own_H p e below En n0 h0 ws Q T (mkF m pc L st) := by
  subst hp hv
  exact own_st X k (fun t A q => XS.lconst A B.1 rfl (hb B.2.2.1 hd)  q)
theorem own_aconst_null (X : own_St p l e R s m args below meth c n0 h0 ws T h C S) (B : own_B Z p s m meth c bytes maxL own nm rt)  (hd : decode bytes pc = .ok (.aconst_null, 1)) (hp : pc + 1 = pc') (k : own_H p e below En n0 h0 ws Q T (mkF m pc' L (.null :: st))) : own_H p e below En n0 h0 ws Q T (mkF m pc L st) := by
  subst hp
  exact own_st X k (fun t A q => XS.aconstNull A B.1 rfl (hb B.2.2.1 hd)  q)
theorem own_iadd (X : own_St p l e R s m args below meth c n0 h0 ws T h C S) (B : own_B Z p s m meth c bytes maxL own nm rt) {x y : Int32} (hd : decode bytes pc = .ok (.iadd, 1)) (hp : pc + 1 = pc') (k : own_H p e below En n0 h0 ws Q T (mkF m pc' L (.int (x + y) :: st))) : own_H p e below En n0 h0 ws Q T (mkF m pc L (.int y :: .int x :: st)) := by
  subst hp
  exact own_st X k (fun t A q => XS.iadd A B.1 rfl (hb B.2.2.1 hd) rfl q)
theorem own_ladd (X : own_St p l e R s m args below meth c n0 h0 ws T h C S) (B : own_B Z p s m meth c bytes maxL own nm rt) {x y : Int64} (hd : decode bytes pc = .ok (.ladd, 1)) (hp : pc + 1 = pc') (k : own_H p e below En n0 h0 ws Q T (mkF m pc' L (.long (x + y) :: st))) : own_H p e below En n0 h0 ws Q T (mkF m pc L (.long y :: .long x :: st)) := by
  subst hp
  exact own_st X k (fun t A q => XS.ladd A B.1 rfl (hb B.2.2.1 hd) rfl q)
theorem own_isub (X : own_St p l e R s m args below meth c n0 h0 ws T h C S) (B : own_B Z p s m meth c bytes maxL own nm rt) {x y : Int32} (hd : decode bytes pc = .ok (.isub, 1)) (hp : pc + 1 = pc') (k : own_H p e below En n0 h0 ws Q T (mkF m pc' L (.int (x - y) :: st))) : own_H p e below En n0 h0 ws Q T (mkF m pc L (.int y :: .int x :: st)) := by
  subst hp
  exact own_st X k (fun t A q => XS.isub A B.1 rfl (hb B.2.2.1 hd) rfl q)
theorem own_lsub (X : own_St p l e R s m args below meth c n0 h0 ws T h C S) (B : own_B Z p s m meth c bytes maxL own nm rt) {x y : Int64} (hd : decode bytes pc = .ok (.lsub, 1)) (hp : pc + 1 = pc') (k : own_H p e below En n0 h0 ws Q T (mkF m pc' L (.long (x - y) :: st))) : own_H p e below En n0 h0 ws Q T (mkF m pc L (.long y :: .long x :: st)) := by
  subst hp
  exact own_st X k (fun t A q => XS.lsub A B.1 rfl (hb B.2.2.1 hd) rfl q)
theorem own_imul (X : own_St p l e R s m args below meth c n0 h0 ws T h C S) (B : own_B Z p s m meth c bytes maxL own nm rt) {x y : Int32} (hd : decode bytes pc = .ok (.imul, 1)) (hp : pc + 1 = pc') (k : own_H p e below En n0 h0 ws Q T (mkF m pc' L (.int (x * y) :: st))) : own_H p e below En n0 h0 ws Q T (mkF m pc L (.int y :: .int x :: st)) := by
  subst hp
  exact own_st X k (fun t A q => XS.imul A B.1 rfl (hb B.2.2.1 hd) rfl q)
theorem own_lmul (X : own_St p l e R s m args below meth c n0 h0 ws T h C S) (B : own_B Z p s m meth c bytes maxL own nm rt) {x y : Int64} (hd : decode bytes pc = .ok (.lmul, 1)) (hp : pc + 1 = pc') (k : own_H p e below En n0 h0 ws Q T (mkF m pc' L (.long (x * y) :: st))) : own_H p e below En n0 h0 ws Q T (mkF m pc L (.long y :: .long x :: st)) := by
  subst hp
  exact own_st X k (fun t A q => XS.lmul A B.1 rfl (hb B.2.2.1 hd) rfl q)
theorem own_iand (X : own_St p l e R s m args below meth c n0 h0 ws T h C S) (B : own_B Z p s m meth c bytes maxL own nm rt) {x y : Int32} (hd : decode bytes pc = .ok (.iand, 1)) (hp : pc + 1 = pc') (k : own_H p e below En n0 h0 ws Q T (mkF m pc' L (.int (x &&& y) :: st))) : own_H p e below En n0 h0 ws Q T (mkF m pc L (.int y :: .int x :: st)) := by
  subst hp
  exact own_st X k (fun t A q => XS.iand A B.1 rfl (hb B.2.2.1 hd) rfl q)
theorem own_land (X : own_St p l e R s m args below meth c n0 h0 ws T h C S) (B : own_B Z p s m meth c bytes maxL own nm rt) {x y : Int64} (hd : decode bytes pc = .ok (.land, 1)) (hp : pc + 1 = pc') (k : own_H p e below En n0 h0 ws Q T (mkF m pc' L (.long (x &&& y) :: st))) : own_H p e below En n0 h0 ws Q T (mkF m pc L (.long y :: .long x :: st)) := by
  subst hp
  exact own_st X k (fun t A q => XS.land A B.1 rfl (hb B.2.2.1 hd) rfl q)
theorem own_ior (X : own_St p l e R s m args below meth c n0 h0 ws T h C S) (B : own_B Z p s m meth c bytes maxL own nm rt) {x y : Int32} (hd : decode bytes pc = .ok (.ior, 1)) (hp : pc + 1 = pc') (k : own_H p e below En n0 h0 ws Q T (mkF m pc' L (.int (x ||| y) :: st))) : own_H p e below En n0 h0 ws Q T (mkF m pc L (.int y :: .int x :: st)) := by
  subst hp
  exact own_st X k (fun t A q => XS.ior A B.1 rfl (hb B.2.2.1 hd) rfl q)
theorem own_lor (X : own_St p l e R s m args below meth c n0 h0 ws T h C S) (B : own_B Z p s m meth c bytes maxL own nm rt) {x y : Int64} (hd : decode bytes pc = .ok (.lor, 1)) (hp : pc + 1 = pc') (k : own_H p e below En n0 h0 ws Q T (mkF m pc' L (.long (x ||| y) :: st))) : own_H p e below En n0 h0 ws Q T (mkF m pc L (.long y :: .long x :: st)) := by
  subst hp
  exact own_st X k (fun t A q => XS.lor A B.1 rfl (hb B.2.2.1 hd) rfl q)
theorem own_ixor (X : own_St p l e R s m args below meth c n0 h0 ws T h C S) (B : own_B Z p s m meth c bytes maxL own nm rt) {x y : Int32} (hd : decode bytes pc = .ok (.ixor, 1)) (hp : pc + 1 = pc') (k : own_H p e below En n0 h0 ws Q T (mkF m pc' L (.int (x ^^^ y) :: st))) : own_H p e below En n0 h0 ws Q T (mkF m pc L (.int y :: .int x :: st)) := by
  subst hp
  exact own_st X k (fun t A q => XS.ixor A B.1 rfl (hb B.2.2.1 hd) rfl q)
theorem own_lxor (X : own_St p l e R s m args below meth c n0 h0 ws T h C S) (B : own_B Z p s m meth c bytes maxL own nm rt) {x y : Int64} (hd : decode bytes pc = .ok (.lxor, 1)) (hp : pc + 1 = pc') (k : own_H p e below En n0 h0 ws Q T (mkF m pc' L (.long (x ^^^ y) :: st))) : own_H p e below En n0 h0 ws Q T (mkF m pc L (.long y :: .long x :: st)) := by
  subst hp
  exact own_st X k (fun t A q => XS.lxor A B.1 rfl (hb B.2.2.1 hd) rfl q)
theorem own_ishl (X : own_St p l e R s m args below meth c n0 h0 ws T h C S) (B : own_B Z p s m meth c bytes maxL own nm rt) {x y : Int32} (hd : decode bytes pc = .ok (.ishl, 1)) (hp : pc + 1 = pc') (k : own_H p e below En n0 h0 ws Q T (mkF m pc' L (.int (x <<< (y &&& 31)) :: st))) : own_H p e below En n0 h0 ws Q T (mkF m pc L (.int y :: .int x :: st)) := by
  subst hp
  exact own_st X k (fun t A q => XS.ishl A B.1 rfl (hb B.2.2.1 hd) rfl q)
theorem own_ishr (X : own_St p l e R s m args below meth c n0 h0 ws T h C S) (B : own_B Z p s m meth c bytes maxL own nm rt) {x y : Int32} (hd : decode bytes pc = .ok (.ishr, 1)) (hp : pc + 1 = pc') (k : own_H p e below En n0 h0 ws Q T (mkF m pc' L (.int (x >>> (y &&& 31)) :: st))) : own_H p e below En n0 h0 ws Q T (mkF m pc L (.int y :: .int x :: st)) := by
  subst hp
  exact own_st X k (fun t A q => XS.ishr A B.1 rfl (hb B.2.2.1 hd) rfl q)
theorem own_iushr (X : own_St p l e R s m args below meth c n0 h0 ws T h C S) (B : own_B Z p s m meth c bytes maxL own nm rt) {x y : Int32} (hd : decode bytes pc = .ok (.iushr, 1)) (hp : pc + 1 = pc') (k : own_H p e below En n0 h0 ws Q T (mkF m pc' L (.int ((x.toUInt32 >>> (y &&& 31).toUInt32).toInt32) :: st))) : own_H p e below En n0 h0 ws Q T (mkF m pc L (.int y :: .int x :: st)) := by
  subst hp
  exact own_st X k (fun t A q => XS.iushr A B.1 rfl (hb B.2.2.1 hd) rfl q)
theorem own_lshl (X : own_St p l e R s m args below meth c n0 h0 ws T h C S) (B : own_B Z p s m meth c bytes maxL own nm rt) {x : Int64} {y : Int32} (hd : decode bytes pc = .ok (.lshl, 1)) (hp : pc + 1 = pc') (k : own_H p e below En n0 h0 ws Q T (mkF m pc' L (.long (x <<< (y &&& 0x3f).toInt64) :: st))) : own_H p e below En n0 h0 ws Q T (mkF m pc L (.int y :: .long x :: st)) := by
  subst hp
  exact own_st X k (fun t A q => XS.lshl A B.1 rfl (hb B.2.2.1 hd) rfl q)
theorem own_lshr (X : own_St p l e R s m args below meth c n0 h0 ws T h C S) (B : own_B Z p s m meth c bytes maxL own nm rt) {x : Int64} {y : Int32} (hd : decode bytes pc = .ok (.lshr, 1)) (hp : pc + 1 = pc') (k : own_H p e below En n0 h0 ws Q T (mkF m pc' L (.long (x >>> (y &&& 0x3f).toInt64) :: st))) : own_H p e below En n0 h0 ws Q T (mkF m pc L (.int y :: .long x :: st)) := by
  subst hp
  exact own_st X k (fun t A q => XS.lshr A B.1 rfl (hb B.2.2.1 hd) rfl q)
theorem own_lushr (X : own_St p l e R s m args below meth c n0 h0 ws T h C S) (B : own_B Z p s m meth c bytes maxL own nm rt) {x : Int64} {y : Int32} (hd : decode bytes pc = .ok (.lushr, 1)) (hp : pc + 1 = pc') (k : own_H p e below En n0 h0 ws Q T (mkF m pc' L (.long ((x.toUInt64 >>> (y &&& 0x3f).toInt64.toUInt64).toInt64) :: st))) : own_H p e below En n0 h0 ws Q T (mkF m pc L (.int y :: .long x :: st)) := by
  subst hp
  exact own_st X k (fun t A q => XS.lushr A B.1 rfl (hb B.2.2.1 hd) rfl q)
theorem own_idiv (X : own_St p l e R s m args below meth c n0 h0 ws T h C S) (B : own_B Z p s m meth c bytes maxL own nm rt) {x y : Int32} (hd : decode bytes pc = .ok (.idiv, 1)) (hy : y ≠ 0) (hp : pc + 1 = pc') (k : own_H p e below En n0 h0 ws Q T (mkF m pc' L (.int (x / y) :: st))) : own_H p e below En n0 h0 ws Q T (mkF m pc L (.int y :: .int x :: st)) := by
  subst hp
  exact own_st X k (fun t A q => XS.idiv A B.1 rfl (hb B.2.2.1 hd) rfl hy q)
theorem own_irem (X : own_St p l e R s m args below meth c n0 h0 ws T h C S) (B : own_B Z p s m meth c bytes maxL own nm rt) {x y : Int32} (hd : decode bytes pc = .ok (.irem, 1)) (hy : y ≠ 0) (hp : pc + 1 = pc') (k : own_H p e below En n0 h0 ws Q T (mkF m pc' L (.int (x % y) :: st))) : own_H p e below En n0 h0 ws Q T (mkF m pc L (.int y :: .int x :: st)) := by
  subst hp
  obtain ⟨locs, Y, -⟩ := X
  exact own_tr (fun t q => iremM Y B.1 (g := mkF m pc L (.int y :: .int x :: st)) rfl (hb B.2.2.1 hd) rfl hy q) k
theorem own_lrem (X : own_St p l e R s m args below meth c n0 h0 ws T h C S) (B : own_B Z p s m meth c bytes maxL own nm rt) {x y : Int64} (hd : decode bytes pc = .ok (.lrem, 1)) (hy : y ≠ 0) (hp : pc + 1 = pc') (k : own_H p e below En n0 h0 ws Q T (mkF m pc' L (.long (x % y) :: st))) : own_H p e below En n0 h0 ws Q T (mkF m pc L (.long y :: .long x :: st)) := by
  subst hp
  exact own_st X k (fun t A q => XS.lrem A B.1 rfl (hb B.2.2.1 hd) rfl hy (by rw [lrem_mod x y]; exact q))
theorem own_i2l (X : own_St p l e R s m args below meth c n0 h0 ws T h C S) (B : own_B Z p s m meth c bytes maxL own nm rt) {x : Int32} (hd : decode bytes pc = .ok (.i2l, 1)) (hp : pc + 1 = pc') (k : own_H p e below En n0 h0 ws Q T (mkF m pc' L (.long x.toInt64 :: st))) : own_H p e below En n0 h0 ws Q T (mkF m pc L (.int x :: st)) := by
  subst hp
  exact own_st X k (fun t A q => XS.i2l A B.1 rfl (hb B.2.2.1 hd) rfl q)
theorem own_l2i (X : own_St p l e R s m args below meth c n0 h0 ws T h C S) (B : own_B Z p s m meth c bytes maxL own nm rt) {x : Int64} (hd : decode bytes pc = .ok (.l2i, 1)) (hp : pc + 1 = pc') (k : own_H p e below En n0 h0 ws Q T (mkF m pc' L (.int x.toInt32 :: st))) : own_H p e below En n0 h0 ws Q T (mkF m pc L (.long x :: st)) := by
  subst hp
  exact own_st X k (fun t A q => XS.l2i A B.1 rfl (hb B.2.2.1 hd) rfl q)
theorem own_lcmp (X : own_St p l e R s m args below meth c n0 h0 ws T h C S) (B : own_B Z p s m meth c bytes maxL own nm rt) {x y : Int64} (hd : decode bytes pc = .ok (.lcmp, 1)) (hp : pc + 1 = pc') (k : own_H p e below En n0 h0 ws Q T (mkF m pc' L (.int (lcmpW x y) :: st))) : own_H p e below En n0 h0 ws Q T (mkF m pc L (.long y :: .long x :: st)) := by
  subst hp
  exact own_st X k (fun t A q => XS.lcmp A B.1 rfl (hb B.2.2.1 hd) rfl q)
theorem own_dup (X : own_St p l e R s m args below meth c n0 h0 ws T h C S) (B : own_B Z p s m meth c bytes maxL own nm rt) {v : Value} (hd : decode bytes pc = .ok (.dup, 1)) (hv : v.category = 1) (hp : pc + 1 = pc') (k : own_H p e below En n0 h0 ws Q T (mkF m pc' L (v :: v :: st))) : own_H p e below En n0 h0 ws Q T (mkF m pc L (v :: st)) := by
  subst hp
  exact own_st X k (fun t A q => XS.dup A B.1 rfl (hb B.2.2.1 hd) rfl hv q)
theorem own_pop (X : own_St p l e R s m args below meth c n0 h0 ws T h C S) (B : own_B Z p s m meth c bytes maxL own nm rt) {v : Value} (hd : decode bytes pc = .ok (.pop, 1)) (hv : v.category = 1) (hp : pc + 1 = pc') (k : own_H p e below En n0 h0 ws Q T (mkF m pc' L st)) : own_H p e below En n0 h0 ws Q T (mkF m pc L (v :: st)) := by
  subst hp
  exact own_st X k (fun t A q => XS.pop A B.1 rfl (hb B.2.2.1 hd) rfl hv q)
theorem own_dup2 (X : own_St p l e R s m args below meth c n0 h0 ws T h C S) (B : own_B Z p s m meth c bytes maxL own nm rt) {x y : Value} (hd : decode bytes pc = .ok (.dup2, 1)) (hx' : x.category = 1) (hy' : y.category = 1) (hp : pc + 1 = pc') (k : own_H p e below En n0 h0 ws Q T (mkF m pc' L (x :: y :: x :: y :: st))) : own_H p e below En n0 h0 ws Q T (mkF m pc L (x :: y :: st)) := by
  subst hp
  exact own_st X k (fun t A q => Jvm.Free.XT.dup2 A B.1 rfl (hb B.2.2.1 hd) rfl hx' hy' q)
theorem own_iinc (X : own_St p l e R s m args below meth c n0 h0 ws T h C S) (B : own_B Z p s m meth c bytes maxL own nm rt) {i : Nat} {cst : Int} {x : Int32} (hd : decode bytes pc = .ok (.iinc i cst, 3)) (hl : L[i]? = some (.val (.int x))) (hl' : storeLocals L i (.int (x + Int32.ofInt cst)) = some L') (hp : pc + 3 = pc') (k : own_H p e below En n0 h0 ws Q T (mkF m pc' L' st)) : own_H p e below En n0 h0 ws Q T (mkF m pc L st) := by
  subst hp
  exact own_st X k (fun t A q => XS.iinc A B.1 rfl (hb B.2.2.1 hd) hl hl' q)
theorem own_goto (X : own_St p l e R s m args below meth c n0 h0 ws T h C S) (B : own_B Z p s m meth c bytes maxL own nm rt) {o : Int} (hd : decode bytes pc = .ok (.goto o, 3)) (ho : 0 ≤ (pc : Int) + o) (hp : ((pc : Int) + o).toNat = pc') (k : own_H p e below En n0 h0 ws Q T (mkF m pc' L st)) : own_H p e below En n0 h0 ws Q T (mkF m pc L st) := own_st X k (fun t A q => XS.goto A B.1 rfl rfl (hb B.2.2.1 hd) ho hp q)
theorem own_icmpT (X : own_St p l e R s m args below meth c n0 h0 ws T h C S) (B : own_B Z p s m meth c bytes maxL own nm rt) {cd : ClassFile.Cond} {o : Int} {x y : Int32} (hd : decode bytes pc = .ok (.if_icmp cd o, 3)) (hc : if_icmp.holds cd x y = true) (ho : 0 ≤ (pc : Int) + o) (hp : ((pc : Int) + o).toNat = pc') (k : own_H p e below En n0 h0 ws Q T (mkF m pc' L st)) : own_H p e below En n0 h0 ws Q T (mkF m pc L (.int y :: .int x :: st)) := own_st X k (fun t A q => XS.icmpYes A B.1 rfl rfl (hb B.2.2.1 hd) rfl hc ho hp q)
theorem own_icmpF (X : own_St p l e R s m args below meth c n0 h0 ws T h C S) (B : own_B Z p s m meth c bytes maxL own nm rt) {cd : ClassFile.Cond} {o : Int} {x y : Int32} (hd : decode bytes pc = .ok (.if_icmp cd o, 3)) (hc : if_icmp.holds cd x y = false) (hp : pc + 3 = pc') (k : own_H p e below En n0 h0 ws Q T (mkF m pc' L st)) : own_H p e below En n0 h0 ws Q T (mkF m pc L (.int y :: .int x :: st)) := by
  subst hp
  exact own_st X k (fun t A q => XS.icmpNo A B.1 rfl (hb B.2.2.1 hd) rfl hc q)
theorem own_ifT (X : own_St p l e R s m args below meth c n0 h0 ws T h C S) (B : own_B Z p s m meth c bytes maxL own nm rt) {cd : ClassFile.Cond} {o : Int} {x : Int32} (hd : decode bytes pc = .ok (.ifCond cd o, 3)) (hc : if_icmp.holds cd x 0 = true) (ho : 0 ≤ (pc : Int) + o) (hp : ((pc : Int) + o).toNat = pc') (k : own_H p e below En n0 h0 ws Q T (mkF m pc' L st)) : own_H p e below En n0 h0 ws Q T (mkF m pc L (.int x :: st)) := own_st X k (fun t A q => XS.ifYes A B.1 rfl rfl (hb B.2.2.1 hd) rfl ((if0 _ _).trans hc) ho hp q)
theorem own_ifF (X : own_St p l e R s m args below meth c n0 h0 ws T h C S) (B : own_B Z p s m meth c bytes maxL own nm rt) {cd : ClassFile.Cond} {o : Int} {x : Int32} (hd : decode bytes pc = .ok (.ifCond cd o, 3)) (hc : if_icmp.holds cd x 0 = false) (hp : pc + 3 = pc') (k : own_H p e below En n0 h0 ws Q T (mkF m pc' L st)) : own_H p e below En n0 h0 ws Q T (mkF m pc L (.int x :: st)) := by
  subst hp
  exact own_st X k (fun t A q => XS.ifNo A B.1 rfl (hb B.2.2.1 hd) rfl ((if0 _ _).trans hc) q)
theorem own_ifnullT (X : own_St p l e R s m args below meth c n0 h0 ws T h C S) (B : own_B Z p s m meth c bytes maxL own nm rt) {o : Int} (hd : decode bytes pc = .ok (.ifnull o, 3)) (ho : 0 ≤ (pc : Int) + o) (hp : ((pc : Int) + o).toNat = pc') (k : own_H p e below En n0 h0 ws Q T (mkF m pc' L st)) : own_H p e below En n0 h0 ws Q T (mkF m pc L (.null :: st)) := own_st X k (fun t A q => XS.ifnullYes A B.1 rfl rfl (hb B.2.2.1 hd) rfl ho hp q)
theorem own_ifnullF (X : own_St p l e R s m args below meth c n0 h0 ws T h C S) (B : own_B Z p s m meth c bytes maxL own nm rt) {o : Int} {b : Addr} (hd : decode bytes pc = .ok (.ifnull o, 3)) (hp : pc + 3 = pc') (k : own_H p e below En n0 h0 ws Q T (mkF m pc' L st)) : own_H p e below En n0 h0 ws Q T (mkF m pc L (.ref b :: st)) := by
  subst hp
  exact own_st X k (fun t A q => XS.ifnullNo A B.1 rfl (hb B.2.2.1 hd) rfl q)
theorem own_ifnonnullT (X : own_St p l e R s m args below meth c n0 h0 ws T h C S) (B : own_B Z p s m meth c bytes maxL own nm rt) {o : Int} {b : Addr} (hd : decode bytes pc = .ok (.ifnonnull o, 3)) (ho : 0 ≤ (pc : Int) + o) (hp : ((pc : Int) + o).toNat = pc') (k : own_H p e below En n0 h0 ws Q T (mkF m pc' L st)) : own_H p e below En n0 h0 ws Q T (mkF m pc L (.ref b :: st)) := own_st X k (fun t A q => XS.ifnonnullYes A B.1 rfl rfl (hb B.2.2.1 hd) rfl ho hp q)
theorem own_ifnonnullF (X : own_St p l e R s m args below meth c n0 h0 ws T h C S) (B : own_B Z p s m meth c bytes maxL own nm rt) {o : Int} (hd : decode bytes pc = .ok (.ifnonnull o, 3)) (hp : pc + 3 = pc') (k : own_H p e below En n0 h0 ws Q T (mkF m pc' L st)) : own_H p e below En n0 h0 ws Q T (mkF m pc L (.null :: st)) := by
  subst hp
  exact own_st X k (fun t A q => XS.ifnonnullNo A B.1 rfl (hb B.2.2.1 hd) rfl q)
theorem own_acmpSame (X : own_St p l e R s m args below meth c n0 h0 ws T h C S) (B : own_B Z p s m meth c bytes maxL own nm rt) {o : Int} {a : Addr} (hd : decode bytes pc = .ok (.if_acmp .eq o, 3)) (ho : 0 ≤ (pc : Int) + o) (hp : ((pc : Int) + o).toNat = pc') (k : own_H p e below En n0 h0 ws Q T (mkF m pc' L st)) : own_H p e below En n0 h0 ws Q T (mkF m pc L (.ref a :: .ref a :: st)) := by
  obtain ⟨locs, Y, -⟩ := X
  exact own_tr (fun t q => Jvm.RoadKit.acmp (g := mkF m pc L (.ref a :: .ref a :: st)) Y B.1 rfl rfl rfl (pc0 := pc) (pc' := pc') (same := true) rfl (hb B.2.2.1 hd) rfl (decide_eq_true rfl) ho (hp.symm.trans (if_pos (show acV ACond.eq true = true from rfl)).symm) q) k
theorem own_iret (X : own_St p l e R s m args below meth c n0 h0 ws T h C S) (B : own_B Z p s m meth c bytes maxL own nm (some .int)) {x : Int32} (hd : decode bytes pc = .ok (.ireturn, 1)) (hc : C ≤ C') (hs : S ≤ S') (q : Q (some (.int x)) h) : own_G p e below s n0 h0 ws Q C' S' T (mkF m pc L (.int x :: st)) :=
  own_ret X B hc hs (v := some (.int x)) (fun h => by cases h) (fun locs fs Y hr => retOut Y B.1 B.2.2.2.2.2.2.1 rfl (Or.inl ⟨rfl, Or.inl rfl, _, rfl⟩) (hb B.2.2.1 hd) hr) q
theorem own_zret (X : own_St p l e R s m args below meth c n0 h0 ws T h C S) (B : own_B Z p s m meth c bytes maxL own nm (some .boolean)) {x : Int32} (hd : decode bytes pc = .ok (.ireturn, 1)) (hc : C ≤ C') (hs : S ≤ S') (hx : x &&& 1 = x) (q : Q (some (.int x)) h) : own_G p e below s n0 h0 ws Q C' S' T (mkF m pc L (.int x :: st)) :=
  own_ret X B hc hs (v := some (.int x)) (fun h => by cases h) (fun locs fs Y hr => retN Y B.1 (t := .boolean) B.2.2.2.2.2.2.1 (by simp) (hb B.2.2.1 hd) (by show ∀ (f : JFrame) (acts : List Action), f.method = m → f.locked = none → f.entered = [] → (doReturn e (T.setTop f) acts (some (.int (x &&& 1)))).1 = T.setFrames fs; rw [hx]; exact hr)) q
theorem own_lret (X : own_St p l e R s m args below meth c n0 h0 ws T h C S) (B : own_B Z p s m meth c bytes maxL own nm (some .long)) {x : Int64} (hd : decode bytes pc = .ok (.lreturn, 1)) (hc : C ≤ C') (hs : S ≤ S') (q : Q (some (.long x)) h) : own_G p e below s n0 h0 ws Q C' S' T (mkF m pc L (.long x :: st)) :=
  own_ret X B hc hs (v := some (.long x)) (fun h => by cases h) (fun locs fs Y hr => retOut Y B.1 B.2.2.2.2.2.2.1 rfl (Or.inr (Or.inl ⟨rfl, rfl, _, rfl⟩)) (hb B.2.2.1 hd) hr) q
theorem own_aret (X : own_St p l e R s m args below meth c n0 h0 ws T h C S) {ft : FieldType} (B : own_B Z p s m meth c bytes maxL own nm (some ft)) {x : Value} (hd : decode bytes pc = .ok (.areturn, 1)) (hft : ft.isReference = true) (hx : x.isRef = true) (hnx : narrow ft x = x) (hc : C ≤ C') (hs : S ≤ S') (q : Q (some x) h) : own_G p e below s n0 h0 ws Q C' S' T (mkF m pc L (x :: st)) :=
  own_ret X B hc hs (v := some x) (fun h => by cases h) (fun locs fs Y hr => retOut Y B.1 B.2.2.2.2.2.2.1 hnx (Or.inr (Or.inr (Or.inr (Or.inr ⟨rfl, hft, hx⟩)))) (hb B.2.2.1 hd) hr) q
theorem own_vret (X : own_St p l e R s m args below meth c n0 h0 ws T h C S) (B : own_B Z p s m meth c bytes maxL own nm none) (hd : decode bytes pc = .ok (.return_, 1)) (hc : C ≤ C') (hs : S ≤ S') (q : Q none h) : own_G p e below s n0 h0 ws Q C' S' T (mkF m pc L []) :=
  own_ret X B hc hs (v := none) (fun _ => rfl) (fun locs fs Y hr => Y.returnOut B.1 B.2.2.2.2.2.2.1 (hb B.2.2.1 hd) hr) q
/-! fields, objects -/
theorem own_lit (X : own_St p l e R s m args below meth c n0 h0 ws T h C S) (B : own_B Z p s m meth c bytes maxL own nm rt) {i : Nat} {v : Int32} (w : (Jvm.Cond.constant own i v).before a0 Z = true) (hd : decode bytes pc = .ok (.ldc i, 2)) (hp : pc + 2 = pc') (k : own_H p e below En n0 h0 ws Q T (mkF m pc' L (.int v :: st))) : own_H p e below En n0 h0 ws Q T (mkF m pc L st) := by
  subst hp
  obtain ⟨locs, Y, -⟩ := X
  exact own_tr (Y.ldcInt B.1 B.2.2.2.2.1 (mvT B.2.1 w) (g := mkF m pc L st) rfl (hb B.2.2.1 hd)) k
theorem own_litL (X : own_St p l e R s m args below meth c n0 h0 ws T h C S) (B : own_B Z p s m meth c bytes maxL own nm rt) {i : Nat} {v : Int64} (w : (Jvm.Cond.constantLong own i v).before a0 Z = true) (hd : decode bytes pc = .ok (.ldc2_w i, 3)) (hp : pc + 3 = pc') (k : own_H p e below En n0 h0 ws Q T (mkF m pc' L (.long v :: st))) : own_H p e below En n0 h0 ws Q T (mkF m pc L st) := by
  subst hp
  obtain ⟨locs, Y, -⟩ := X
  exact own_tr (Y.ldc2Long B.1 B.2.2.2.2.1 (mvT B.2.1 w) (g := mkF m pc L st) rfl (hb B.2.2.1 hd)) k
theorem own_getF (X : own_St p l e R s m args below meth c n0 h0 ws T h C S) (B : own_B Z p s m meth c bytes maxL own nm rt) {i : Nat} {O n d : String} (w : (Jvm.Cond.fieldLink own i O n d).before a0 Z = true) {a : Addr} {v : Value} (F : Fld Z h a O n d v) (hd : decode bytes pc = .ok (.getfield i, 3)) (hp : pc + 3 = pc')
    (k : ∀ T, own_St p l e R s m args below meth c n0 h0 ws T h C S → own_H p e below En n0 h0 ws Q T (mkF m pc' L (v :: st))) : own_H p e below En n0 h0 ws Q T (mkF m pc L (.ref a :: st)) := by
  subst hp
  obtain ⟨locs, Y, N, e, K⟩ := X
  obtain ⟨T1, Y1, e1, st1⟩ := getF Y B.1 B.2.1 B.2.2.2.2.1 (host := "") (Or.inl w) Via.refl e F (g := mkF m pc L (.ref a :: st)) rfl rfl (hb B.2.2.1 hd)
  exact own_tr st1 (k T1 ⟨locs, Y1, N, e1, K⟩)
theorem own_getN (X : own_St p l e R s m args below meth c n0 h0 ws T h C S) (B : own_B Z p s m meth c bytes maxL own nm rt) {i : Nat} {O n d host : String} (w : (Jvm.Cond.fieldLinkNest own i O n d host).before a0 Z = true) {a : Addr} {v : Value} (F : Fld Z h a O n d v) (hd : decode bytes pc = .ok (.getfield i, 3)) (hp : pc + 3 = pc')
    (k : ∀ T, own_St p l e R s m args below meth c n0 h0 ws T h C S → own_H p e below En n0 h0 ws Q T (mkF m pc' L (v :: st))) : own_H p e below En n0 h0 ws Q T (mkF m pc L (.ref a :: st)) := by
  subst hp
  obtain ⟨locs, Y, N, e, K⟩ := X
  obtain ⟨T1, Y1, e1, st1⟩ := getF Y B.1 B.2.1 B.2.2.2.2.1 (host := host) (Or.inr w) Via.refl e F (g := mkF m pc L (.ref a :: st)) rfl rfl (hb B.2.2.1 hd)
  exact own_tr st1 (k T1 ⟨locs, Y1, N, e1, K⟩)
theorem own_putF (X : own_St p l e R s m args below meth c n0 h0 ws T h C S) (B : own_B Z p s m meth c bytes maxL own nm rt) {i kk : Nat} {O n d K0 : String} (w : (Jvm.Cond.fieldLink own i O n d).before a0 Z = true) {a : Addr} {v old : Value} {ty : FieldType} (F : Fld Z h a O n d old) (E : Exa Z h a K0) (Lw : (Jvm.Cond.lays K0 O n d).before a0 Z = true ∨ ((Jvm.Cond.laysFinal K0 O n d).before a0 Z = true ∧ own = O ∧ nm = "<init>")) (wi : (Jvm.Cond.instantiable K0 kk).before a0 Z = true)
    (hty : parseFieldDescriptor d = some ty) (hn : narrow ty v = v) (hf : fits ty v = true) (hw1 : n0 ≤ a) (hw2 : a ∈ ws ∨ h0.size ≤ a) (hd : decode bytes pc = .ok (.putfield i, 3)) (hp : pc + 3 = pc')
    (k : ∀ T h', own_St p l e R s m args below meth c n0 h0 ws T h' C S → Wr h h' a (Jvm.RoadKit.slotOf Z O n d) v → Keep h h' [a] → Exa Z h' a K0 → Fld Z h' a O n d v → own_H p e below En n0 h0 ws Q T (mkF m pc' L st)) : own_H p e below En n0 h0 ws Q T (mkF m pc L (v :: .ref a :: st)) := by
  subst hp
  obtain ⟨locs, Y, N, e, K⟩ := X
  obtain ⟨T1, h1, Y1, e1, W1, st1⟩ := putF Y B.1 B.2.1 B.2.2.2.2.1 (host := "") (Or.inl w) Via.refl e F E (Lw.imp id (fun q => ⟨q.1, q.2.1, B.2.2.2.2.2.1.trans q.2.2⟩)) wi hty hn hf (g := mkF m pc L (v :: .ref a :: st)) rfl rfl (hb B.2.2.1 hd)
  exact own_tr st1 (k T1 h1 ⟨_, Y1, Fr.snoc Y1 N hw1, e1, K.wr W1 hw2⟩ W1 (Keep.of_wr W1) (E.wr W1) (F.same W1))
theorem own_putN (X : own_St p l e R s m args below meth c n0 h0 ws T h C S) (B : own_B Z p s m meth c bytes maxL own nm rt) {i kk : Nat} {O n d K0 host : String} (w : (Jvm.Cond.fieldLinkNest own i O n d host).before a0 Z = true) {a : Addr} {v old : Value} {ty : FieldType} (F : Fld Z h a O n d old) (E : Exa Z h a K0) (Lw : (Jvm.Cond.lays K0 O n d).before a0 Z = true ∨ ((Jvm.Cond.laysFinal K0 O n d).before a0 Z = true ∧ own = O ∧ nm = "<init>")) (wi : (Jvm.Cond.instantiable K0 kk).before a0 Z = true)
    (hty : parseFieldDescriptor d = some ty) (hn : narrow ty v = v) (hf : fits ty v = true) (hw1 : n0 ≤ a) (hw2 : a ∈ ws ∨ h0.size ≤ a) (hd : decode bytes pc = .ok (.putfield i, 3)) (hp : pc + 3 = pc')
    (k : ∀ T h', own_St p l e R s m args below meth c n0 h0 ws T h' C S → Wr h h' a (Jvm.RoadKit.slotOf Z O n d) v → Keep h h' [a] → Exa Z h' a K0 → Fld Z h' a O n d v → own_H p e below En n0 h0 ws Q T (mkF m pc' L st)) : own_H p e below En n0 h0 ws Q T (mkF m pc L (v :: .ref a :: st)) := by
  subst hp
  obtain ⟨locs, Y, N, e, K⟩ := X
  obtain ⟨T1, h1, Y1, e1, W1, st1⟩ := putF Y B.1 B.2.1 B.2.2.2.2.1 (host := host) (Or.inr w) Via.refl e F E (Lw.imp id (fun q => ⟨q.1, q.2.1, B.2.2.2.2.2.1.trans q.2.2⟩)) wi hty hn hf (g := mkF m pc L (v :: .ref a :: st)) rfl rfl (hb B.2.2.1 hd)
  exact own_tr st1 (k T1 h1 ⟨_, Y1, Fr.snoc Y1 N hw1, e1, K.wr W1 hw2⟩ W1 (Keep.of_wr W1) (E.wr W1) (F.same W1))
theorem own_newO (X : own_St p l e R s m args below meth c n0 h0 ws T h C S) (B : own_B Z p s m meth c bytes maxL own nm rt) {i n : Nat} {K0 : String} (w : (Jvm.Cond.classLink own i K0).before a0 Z = true) (wi : (Jvm.Cond.instantiable K0 n).before a0 Z = true) (wz : (Jvm.Cond.initialized K0).before a0 Z = true) (hc : C + 1 ≤ R.cells) (hs : S + n ≤ R.slots) (hd : decode bytes pc = .ok (.new i, 3)) (hp : pc + 3 = pc')
    (k : ∀ T h' a, a = h.size → own_St p l e R s m args below meth c n0 h0 ws T h' (C + 1) (S + n) → Keep h h' [] → Exa Z h' a K0 → (∀ {O nm d : String} {ty : FieldType}, Laid Z a0 K0 O nm d → parseFieldDescriptor d = some ty → Fld Z h' a O nm d (defaultValue ty)) → h0.size ≤ a → own_H p e below En n0 h0 ws Q T (mkF m pc' L (.ref a :: st))) : own_H p e below En n0 h0 ws Q T (mkF m pc L st) := by
  subst hp
  obtain ⟨locs, Y, N, e, K⟩ := X
  obtain ⟨T1, h1, Y1, e1, E1, A1, D1, -, st1⟩ := newO Y B.1 B.2.1 B.2.2.2.2.1 w wi wz e (g := mkF m pc L st) rfl (hb B.2.2.1 hd) hc hs
  exact own_tr st1 (k T1 h1 h.size rfl ⟨_, Y1, N, e1, K.ext E1⟩ ((Keep.refl h []).ext E1) A1 D1 K.1)
theorem own_initO (X : own_St p l e R s m args below meth c n0 h0 ws T h C S) (B : own_B Z p s m meth c bytes maxL own nm rt) {i : Nat} (w1 : (Jvm.Cond.methodLink own i Lib.objectInit).before a0 Z = true) (w2 : (Jvm.Cond.instanceMethod Lib.objectInit).before a0 Z = true) (w3 : (Jvm.Cond.code Lib.objectInit ⟨#[0xb1]⟩ 1 none).before a0 Z = true) (hL : L.size = maxL) {a : Addr} (hf : 1 ≤ R.frames) {W : Nat} (hW : (st.map fun v => v.category).sum ≤ W) (hl : W + 12 ≤ R.locals) (hd : decode bytes pc = .ok (.invokespecial i, 3)) (hp : pc + 3 = pc')
    (k : ∀ T, own_St p l e R s m args below meth c n0 h0 ws T h C S → own_H p e below En n0 h0 ws Q T (mkF m pc' L st)) : own_H p e below En n0 h0 ws Q T (mkF m pc L (.ref a :: st)) := by
  subst hp
  obtain ⟨locs, Y, N, e, K⟩ := X
  obtain ⟨T1, Y1, e1, st1⟩ := initO Y B.1 B.2.1 B.2.2.2.2.1 w1 w2 w3 e (g := mkF m pc L (.ref a :: st)) rfl (hL.trans B.2.2.2.1.symm) rfl (hb B.2.2.1 hd) hf (W := W) (by show 2 * 0 + _ ≤ _; omega) hl
  exact own_tr st1 (k T1 ⟨locs, Y1, N, e1, K⟩)
/-! calls by contract -/
theorem own_callS (X : own_St p l e R s m args below meth c n0 h0 ws T h C S) (B : own_B Z p s m meth c bytes maxL own nm rt) {i : Nat} {y : MethodName} {by2 : ByteArray} {ml2 : Nat} {rt2 : Option FieldType} {rm : Room} {as2 : Array Value} {ws2 : List Addr} {Q2 : Option Value → Heap → Prop} {W : Nat}
    (w1 : (Jvm.Cond.methodLink own i y).before a0 Z = true) (w2 : (Jvm.Cond.static y).before a0 Z = true) (w3 : (Jvm.Cond.initialized y.cls).before a0 Z = true) (w4 : (Jvm.Cond.code y by2 ml2 rt2).before a0 Z = true) (hy : y.cls ≠ "java/lang/invoke/MethodHandle" ∧ y.cls ≠ "java/lang/invoke/VarHandle")
    (M : own_C l Z y by2 ml2 rt2 [] rm as2 h n0 ws2 Q2 rm.cells rm.slots) (hf : rm.frames + 1 ≤ R.frames) (hl : W + (ml2 + 11) + rm.locals ≤ R.locals) (hc : C + rm.cells ≤ R.cells) (hs : S + rm.slots ≤ R.slots) (hL : L.size = maxL)
    {argsL : List Value} {ps : List FieldType} {r : Option FieldType} (hpd : parseMethodDescriptor y.desc = some ⟨ps, r⟩) (hlen : argsL.length = ps.length) (has : argsL.toArray = as2) {stk : List Value} (hstk : stk = argsL.reverse ++ st) (hW : (st.map fun v => v.category).sum ≤ W) (hd : decode bytes pc = .ok (.invokestatic i, 3)) (hp : pc + 3 = pc') (hws : ∀ x ∈ ws2, x ∈ ws ∨ h0.size ≤ x)
    (k : ∀ v T h', own_St p l e R s m args below meth c n0 h0 ws T h' (C + rm.cells) (S + rm.slots) → Keep h h' ws2 → Q2 v h' → own_H p e below En n0 h0 ws Q T (mkF m pc' L (v.toList ++ st))) : own_H p e below En n0 h0 ws Q T (mkF m pc L stk) := by
  subst hp hstk has
  obtain ⟨locs, Y, N, e, K⟩ := X
  obtain ⟨v, _, ⟨T1, L1, k1, n1⟩, -, Y1, ⟨Lc, hQ, l1, y1, z1⟩, st1⟩ := Jvm.LawKit.callS Y B.1 (y := y) B.2.2.2.2.1 (mvT B.2.1 w1) (mvT B.2.1 w2) (mvT B.2.1 w3) (mvT B.2.1 w4) hy (backOf (W := W) (Q := fun v h' L => Fr n0 L ∧ Keep h h' ws2 ∧ Q2 v h') M B.2.1 w4 w3 hf hl) (g := mkF m pc L (argsL.reverse ++ st)) rfl (hL.trans B.2.2.2.1.symm) (argsL := argsL) (rest := st) (lenOf hpd hlen) rfl (by show 2 * 0 + _ ≤ _; omega) (hb B.2.2.1 hd) (fun _ _ => ⟨rfl, e, hc, hs⟩)
  dsimp only [Pt.U, Pt.locs, Pt.cells, Pt.slots] at Y1 l1 y1 z1 st1 hQ
  subst l1 y1 z1
  obtain ⟨N2, K2, q2⟩ := hQ
  exact own_tr st1 (k v T1 _ ⟨_, Y1, Fr.app N N2, rfl, K.trans K2 hws⟩ K2 q2)
theorem own_callV (X : own_St p l e R s m args below meth c n0 h0 ws T h C S) (B : own_B Z p s m meth c bytes maxL own nm rt) {i : Nat} {y : MethodName} {by2 : ByteArray} {ml2 : Nat} {rt2 : Option FieldType} {rm : Room} {as2 : Array Value} {ws2 : List Addr} {Q2 : Option Value → Heap → Prop} {W : Nat} {K0 : String} {a : Addr}
    (w1 : (Jvm.Cond.methodLink own i y).before a0 Z = true) (w2 : (Jvm.Cond.declares y).before a0 Z = true) (w3 : (Jvm.Cond.selects K0 y y).before a0 Z = true) (w5 : (Jvm.Cond.instanceMethod y).before a0 Z = true) (w4 : (Jvm.Cond.code y by2 ml2 rt2).before a0 Z = true) (w6 : (Jvm.Cond.initialized y.cls).before a0 Z = true) (hy : y.cls ≠ "java/lang/invoke/MethodHandle" ∧ y.cls ≠ "java/lang/invoke/VarHandle") (E : Exa Z h a K0)
    (M : own_C l Z y by2 ml2 rt2 [] rm as2 h n0 ws2 Q2 rm.cells rm.slots) (hf : rm.frames + 1 ≤ R.frames) (hl : W + (ml2 + 11) + rm.locals ≤ R.locals) (hc : C + rm.cells ≤ R.cells) (hs : S + rm.slots ≤ R.slots) (hL : L.size = maxL)
    {argsL : List Value} {ps : List FieldType} {r : Option FieldType} (hpd : parseMethodDescriptor y.desc = some ⟨ps, r⟩) (hlen : argsL.length = ps.length) (has : (.ref a :: argsL).toArray = as2) {stk : List Value} (hstk : stk = argsL.reverse ++ .ref a :: st) (hW : (st.map fun v => v.category).sum ≤ W) (hd : decode bytes pc = .ok (.invokevirtual i, 3)) (hp : pc + 3 = pc') (hws : ∀ x ∈ ws2, x ∈ ws ∨ h0.size ≤ x)
    (k : ∀ v T h', own_St p l e R s m args below meth c n0 h0 ws T h' (C + rm.cells) (S + rm.slots) → Keep h h' ws2 → Q2 v h' → own_H p e below En n0 h0 ws Q T (mkF m pc' L (v.toList ++ st))) : own_H p e below En n0 h0 ws Q T (mkF m pc L stk) := by
  subst hp hstk has
  obtain ⟨locs, Y, N, e, K⟩ := X
  obtain ⟨cq, kq, qa, qb, qc⟩ := isOf (T := T) B.2.1 e E
  obtain ⟨v, _, ⟨T1, L1, k1, n1⟩, -, Y1, ⟨Lc, hQ, l1, y1, z1⟩, st1⟩ := Y.virtualBack B.1 (y := y) (z := y) B.2.2.2.2.1 (mvT B.2.1 w1) (mvT B.2.1 w2) (notFace_of_selects (args := #[]) (mvT B.2.1 w3)) (mvT B.2.1 w3) (mvT B.2.1 w5) hy (backOf (W := W) (Q := fun v h' L => Fr n0 L ∧ Keep h h' ws2 ∧ Q2 v h') M B.2.1 w4 w6 hf hl) qa qc (g := mkF m pc L (argsL.reverse ++ .ref a :: st)) rfl (hL.trans B.2.2.2.1.symm) (Steps.refl _) (argsL := argsL) (rest := st) (lenOf hpd hlen) rfl (by show 2 * 0 + _ ≤ _; omega) (hb B.2.2.1 hd) (fun _ _ => ⟨rfl, e, hc, hs⟩)
  dsimp only [Pt.U, Pt.locs, Pt.cells, Pt.slots] at Y1 l1 y1 z1 st1 hQ
  subst l1 y1 z1
  obtain ⟨N2, K2, q2⟩ := hQ
  exact own_tr (fun t q => st1.trans q) (k v T1 _ ⟨_, Y1, Fr.app N N2, rfl, K.trans K2 hws⟩ K2 q2)
theorem own_callI (X : own_St p l e R s m args below meth c n0 h0 ws T h C S) (B : own_B Z p s m meth c bytes maxL own nm rt) {i : Nat} {y : MethodName} {by2 : ByteArray} {ml2 : Nat} {rm : Room} {as2 : Array Value} {ws2 : List Addr} {Q2 : Option Value → Heap → Prop} {W : Nat} {a : Addr} (hy1 : y.name = "<init>")
    (w1 : (Jvm.Cond.methodLink own i y).before a0 Z = true) (w5 : (Jvm.Cond.instanceMethod y).before a0 Z = true) (w4 : (Jvm.Cond.code y by2 ml2 none).before a0 Z = true) (w6 : (Jvm.Cond.initialized y.cls).before a0 Z = true) (hy : y.cls ≠ "java/lang/invoke/MethodHandle" ∧ y.cls ≠ "java/lang/invoke/VarHandle")
    (M : own_C l Z y by2 ml2 none [] rm as2 h n0 ws2 Q2 rm.cells rm.slots) (hf : rm.frames + 1 ≤ R.frames) (hl : W + (ml2 + 11) + rm.locals ≤ R.locals) (hc : C + rm.cells ≤ R.cells) (hs : S + rm.slots ≤ R.slots) (hL : L.size = maxL)
    {argsL : List Value} {ps : List FieldType} {r : Option FieldType} (hpd : parseMethodDescriptor y.desc = some ⟨ps, r⟩) (hlen : argsL.length = ps.length) (has : (.ref a :: argsL).toArray = as2) {stk : List Value} (hstk : stk = argsL.reverse ++ .ref a :: st) (hW : (st.map fun v => v.category).sum ≤ W) (hd : decode bytes pc = .ok (.invokespecial i, 3)) (hp : pc + 3 = pc') (hws : ∀ x ∈ ws2, x ∈ ws ∨ h0.size ≤ x)
    (k : ∀ v T h', own_St p l e R s m args below meth c n0 h0 ws T h' (C + rm.cells) (S + rm.slots) → Keep h h' ws2 → Q2 v h' → own_H p e below En n0 h0 ws Q T (mkF m pc' L (v.toList ++ st))) : own_H p e below En n0 h0 ws Q T (mkF m pc L stk) := by
  subst hp hstk has
  obtain ⟨locs, Y, N, e, K⟩ := X
  obtain ⟨v, _, ⟨T1, L1, k1, n1⟩, -, Y1, ⟨Lc, hQ, l1, y1, z1⟩, st1⟩ := Y.specialBack B.1 (y := y) hy1 B.2.2.2.2.1 (mvT B.2.1 w1) (mvT B.2.1 w5) (mvT B.2.1 w4) hy (backOf (W := W) (Q := fun v h' L => Fr n0 L ∧ Keep h h' ws2 ∧ Q2 v h') M B.2.1 w4 w6 hf hl) (g := mkF m pc L (argsL.reverse ++ .ref a :: st)) rfl (hL.trans B.2.2.2.1.symm) (Steps.refl _) (a := a) (argsL := argsL) (rest := st) (lenOf hpd hlen) rfl (by show 2 * 0 + _ ≤ _; omega) (hb B.2.2.1 hd) (fun _ _ => ⟨rfl, e, hc, hs⟩)
  dsimp only [Pt.U, Pt.locs, Pt.cells, Pt.slots] at Y1 l1 y1 z1 st1 hQ
  subst l1 y1 z1
  obtain ⟨N2, K2, q2⟩ := hQ
  exact own_tr (fun t q => st1.trans q) (k v T1 _ ⟨_, Y1, Fr.app N N2, rfl, K.trans K2 hws⟩ K2 q2)
/-! arrays of ints and of longs, by a function of the place -/
theorem own_ix {j : Int32} {i n : Nat} (hj : j.toInt = (i : Int)) (hi : i < n) : ¬ (j < 0 ∨ n ≤ j.toNatClampNeg) ∧ j.toNatClampNeg = i := by
  have e : j.toNatClampNeg = i := by show j.toInt.toNat = i; omega
  refine ⟨?_, e⟩
  rw [e, Int32.lt_iff_toInt_lt]
  have : (0 : Int32).toInt = 0 := rfl
  omega
theorem own_ne {a b : Addr} (lt : a < h.size) (g : b = h.size) : a ≠ b := by
  rw [g]
  exact Nat.ne_of_lt lt
theorem own_up_same {α : Type} (f : Nat → α) (i : Nat) (x : α) : (fun k => if k = i then x else f k) i = x := by simp
def own_AJ (Z : State) (h : Heap) (a : Addr) (n : Nat) (f : Nat → Int64) : Prop := ∃ cl : Cell, Arr Z h a cl .long ∧ cl.slots.size = n ∧ n < 2147483648 ∧ ∀ i, i < n → cl.slots[i]? = some (.long (f i))
theorem own_AJ.lt {a : Addr} {n : Nat} {f : Nat → Int64} (A : own_AJ Z h a n f) : a < h.size := by
  obtain ⟨cl, A, -⟩ := A
  exact A.lt
theorem own_AJ.keep {a : Addr} {n : Nat} {f : Nat → Int64} (A : own_AJ Z h a n f) {w2 : List Addr} (K : Keep h h' w2) (q : a ∉ w2) : own_AJ Z h' a n f := by
  obtain ⟨cl, A, r⟩ := A
  exact ⟨cl, ⟨K.2.1 _ _ A.1 q, A.2⟩, r⟩
theorem own_AJ.congr {a : Addr} {n : Nat} {f g : Nat → Int64} (A : own_AJ Z h a n f) (q : ∀ i, i < n → f i = g i) : own_AJ Z h a n g := by
  obtain ⟨cl, A, r1, r2, r3⟩ := A
  exact ⟨cl, A, r1, r2, fun i hi => by rw [r3 i hi, q i hi]⟩
theorem own_newJ (X : own_St p l e R s m args below meth c n0 h0 ws T h C S) (B : own_B Z p s m meth c bytes maxL own nm rt) (w : (Jvm.Cond.arrayClass .long).before a0 Z = true) {j : Int32} {n cap : Nat} (hj : j.toInt = (n : Int)) (hcap : n ≤ cap) (hb8 : cap * 8 ≤ 536870912) (hc : C + 1 ≤ R.cells) (hs : S + cap ≤ R.slots) (hd : decode bytes pc = .ok (.newarray .long, 2)) (hp : pc + 2 = pc')
    (k : ∀ T h' a, a = h.size → own_St p l e R s m args below meth c n0 h0 ws T h' (C + 1) (S + cap) → Keep h h' [] → own_AJ Z h' a n (fun _ => 0) → h0.size ≤ a → own_H p e below En n0 h0 ws Q T (mkF m pc' L (.ref a :: st))) : own_H p e below En n0 h0 ws Q T (mkF m pc L (.int j :: st)) := by
  subst hp
  obtain ⟨locs, Y, N, e, K⟩ := X
  have hn : ¬ j < 0 := by rw [Int32.lt_iff_toInt_lt]; have : (0 : Int32).toInt = 0 := rfl; omega
  have hnn : j.toNatClampNeg = n := by show j.toInt.toNat = n; omega
  obtain ⟨T1, h1, cA, Y1, e1, E1, A1, st1⟩ := newP Y B.1 B.2.1 (aty := .long) w e (g := mkF m pc L (.int j :: st)) rfl (hb B.2.2.1 hd) rfl hn (cap := cap) (hnn ▸ hcap) hb8 hc hs
  refine own_tr st1 (k T1 h1 h.size rfl ⟨_, Y1, N, e1, K.ext E1⟩ ((Keep.refl h []).ext E1) ⟨_, A1, ?_, by omega, ?_⟩ K.1)
  · rw [sz_new, hnn]
  · intro i hi
    show (Array.replicate j.toNatClampNeg (defaultValue .long))[i]? = _
    rw [hnn, Array.getElem?_replicate, if_pos hi]
    rfl
theorem own_laload (X : own_St p l e R s m args below meth c n0 h0 ws T h C S) (B : own_B Z p s m meth c bytes maxL own nm rt) {a : Addr} {n i : Nat} {f : Nat → Int64} {j : Int32} (A : own_AJ Z h a n f) (hj : j.toInt = (i : Int)) (hi : i < n) (hd : decode bytes pc = .ok (.laload, 1)) (hp : pc + 1 = pc') (k : own_H p e below En n0 h0 ws Q T (mkF m pc' L (.long (f i) :: st))) : own_H p e below En n0 h0 ws Q T (mkF m pc L (.int j :: .ref a :: st)) := by
  subst hp
  obtain ⟨locs, Y, N, e, K⟩ := X
  obtain ⟨cl, A, r1, r2, r3⟩ := A
  obtain ⟨q1, q2⟩ := own_ix hj (r1.symm ▸ hi : i < cl.slots.size)
  exact own_tr (fun t q => Y.laload B.1 (j := j) (v := .long (f i)) (by rw [e]; exact A.1) (State.isArrayOf_alike B.2.1.alike A.2.1) A.2.2 q1 (by rw [q2]; exact r3 i hi) (g := mkF m pc L (.int j :: .ref a :: st)) rfl rfl (hb B.2.2.1 hd) t q) k
theorem own_lenJ (X : own_St p l e R s m args below meth c n0 h0 ws T h C S) (B : own_B Z p s m meth c bytes maxL own nm rt) {a : Addr} {n : Nat} {f : Nat → Int64} (A : own_AJ Z h a n f) (hd : decode bytes pc = .ok (.arraylength, 1)) (hp : pc + 1 = pc') (k : own_H p e below En n0 h0 ws Q T (mkF m pc' L (.int (Int32.ofNat n) :: st))) : own_H p e below En n0 h0 ws Q T (mkF m pc L (.ref a :: st)) := by
  subst hp
  obtain ⟨locs, Y, N, e, K⟩ := X
  obtain ⟨cl, A, r1, r2, r3⟩ := A
  subst r1
  exact own_tr (fun t q => Y.arraylength B.1 (by rw [e]; exact A.1) (State.isArrayOf_alike B.2.1.alike A.2.1) (g := mkF m pc L (.ref a :: st)) rfl rfl (hb B.2.2.1 hd) t q) k
theorem own_lastore (X : own_St p l e R s m args below meth c n0 h0 ws T h C S) (B : own_B Z p s m meth c bytes maxL own nm rt) {a : Addr} {n i : Nat} {f : Nat → Int64} {j : Int32} {x : Int64} (A : own_AJ Z h a n f) (hj : j.toInt = (i : Int)) (hi : i < n) (hw1 : n0 ≤ a) (hw2 : a ∈ ws ∨ h0.size ≤ a) (hd : decode bytes pc = .ok (.lastore, 1)) (hp : pc + 1 = pc')
    (k : ∀ T h', own_St p l e R s m args below meth c n0 h0 ws T h' C S → Keep h h' [a] → own_AJ Z h' a n (fun k => if k = i then x else f k) → own_H p e below En n0 h0 ws Q T (mkF m pc' L st)) : own_H p e below En n0 h0 ws Q T (mkF m pc L (.long x :: .int j :: .ref a :: st)) := by
  subst hp
  obtain ⟨locs, Y, N, e, K⟩ := X
  obtain ⟨cl, A, r1, r2, r3⟩ := A
  obtain ⟨q1, q2⟩ := own_ix hj (r1.symm ▸ hi : i < cl.slots.size)
  obtain ⟨T1, h1, Y1, e1, W1, st1⟩ := stJ Y B.1 B.2.1 e A (j := j) (x := x) q1 (g := mkF m pc L (.long x :: .int j :: .ref a :: st)) rfl rfl (hb B.2.2.1 hd)
  refine own_tr st1 (k T1 h1 ⟨_, Y1, Fr.snoc Y1 N hw1, e1, K.wr W1 hw2⟩ (Keep.of_wr W1) ⟨_, A.same W1, ?_, r2, ?_⟩)
  · rw [sz_set, r1]
  · intro u hu
    show (cl.slots.setIfInBounds j.toNatClampNeg (.long x))[u]? = some (.long (if u = i then x else f u))
    rw [q2, Array.getElem?_setIfInBounds]
    by_cases hui : u = i
    · subst hui; rw [if_pos rfl, if_pos (r1.symm ▸ hi), if_pos rfl]
    · rw [if_neg (fun q => hui q.symm), if_neg hui]; exact r3 u hu
def own_AI (Z : State) (h : Heap) (a : Addr) (n : Nat) (f : Nat → Int32) : Prop := ∃ cl : Cell, Arr Z h a cl .int ∧ cl.slots.size = n ∧ n < 2147483648 ∧ ∀ i, i < n → cl.slots[i]? = some (.int (f i))
theorem own_AI.lt {a : Addr} {n : Nat} {f : Nat → Int32} (A : own_AI Z h a n f) : a < h.size := by
  obtain ⟨cl, A, -⟩ := A
  exact A.lt
theorem own_AI.keep {a : Addr} {n : Nat} {f : Nat → Int32} (A : own_AI Z h a n f) {w2 : List Addr} (K : Keep h h' w2) (q : a ∉ w2) : own_AI Z h' a n f := by
  obtain ⟨cl, A, r⟩ := A
  exact ⟨cl, ⟨K.2.1 _ _ A.1 q, A.2⟩, r⟩
theorem own_AI.congr {a : Addr} {n : Nat} {f g : Nat → Int32} (A : own_AI Z h a n f) (q : ∀ i, i < n → f i = g i) : own_AI Z h a n g := by
  obtain ⟨cl, A, r1, r2, r3⟩ := A
  exact ⟨cl, A, r1, r2, fun i hi => by rw [r3 i hi, q i hi]⟩
theorem own_newI (X : own_St p l e R s m args below meth c n0 h0 ws T h C S) (B : own_B Z p s m meth c bytes maxL own nm rt) (w : (Jvm.Cond.arrayClass .int).before a0 Z = true) {j : Int32} {n cap : Nat} (hj : j.toInt = (n : Int)) (hcap : n ≤ cap) (hb8 : cap * 8 ≤ 536870912) (hc : C + 1 ≤ R.cells) (hs : S + cap ≤ R.slots) (hd : decode bytes pc = .ok (.newarray .int, 2)) (hp : pc + 2 = pc')
    (k : ∀ T h' a, a = h.size → own_St p l e R s m args below meth c n0 h0 ws T h' (C + 1) (S + cap) → Keep h h' [] → own_AI Z h' a n (fun _ => 0) → h0.size ≤ a → own_H p e below En n0 h0 ws Q T (mkF m pc' L (.ref a :: st))) : own_H p e below En n0 h0 ws Q T (mkF m pc L (.int j :: st)) := by
  subst hp
  obtain ⟨locs, Y, N, e, K⟩ := X
  have hn : ¬ j < 0 := by rw [Int32.lt_iff_toInt_lt]; have : (0 : Int32).toInt = 0 := rfl; omega
  have hnn : j.toNatClampNeg = n := by show j.toInt.toNat = n; omega
  obtain ⟨T1, h1, cA, Y1, e1, E1, A1, st1⟩ := newP Y B.1 B.2.1 (aty := .int) w e (g := mkF m pc L (.int j :: st)) rfl (hb B.2.2.1 hd) rfl hn (cap := cap) (hnn ▸ hcap) hb8 hc hs
  refine own_tr st1 (k T1 h1 h.size rfl ⟨_, Y1, N, e1, K.ext E1⟩ ((Keep.refl h []).ext E1) ⟨_, A1, ?_, by omega, ?_⟩ K.1)
  · rw [sz_new, hnn]
  · intro i hi
    show (Array.replicate j.toNatClampNeg (defaultValue .int))[i]? = _
    rw [hnn, Array.getElem?_replicate, if_pos hi]
    rfl
theorem own_iaload (X : own_St p l e R s m args below meth c n0 h0 ws T h C S) (B : own_B Z p s m meth c bytes maxL own nm rt) {a : Addr} {n i : Nat} {f : Nat → Int32} {j : Int32} (A : own_AI Z h a n f) (hj : j.toInt = (i : Int)) (hi : i < n) (hd : decode bytes pc = .ok (.iaload, 1)) (hp : pc + 1 = pc') (k : own_H p e below En n0 h0 ws Q T (mkF m pc' L (.int (f i) :: st))) : own_H p e below En n0 h0 ws Q T (mkF m pc L (.int j :: .ref a :: st)) := by
  subst hp
  obtain ⟨locs, Y, N, e, K⟩ := X
  obtain ⟨cl, A, r1, r2, r3⟩ := A
  obtain ⟨q1, q2⟩ := own_ix hj (r1.symm ▸ hi : i < cl.slots.size)
  exact own_tr (fun t q => Y.iaload B.1 (j := j) (v := .int (f i)) (by rw [e]; exact A.1) (State.isArrayOf_alike B.2.1.alike A.2.1) A.2.2 q1 (by rw [q2]; exact r3 i hi) (g := mkF m pc L (.int j :: .ref a :: st)) rfl rfl (hb B.2.2.1 hd) t q) k
theorem own_lenI (X : own_St p l e R s m args below meth c n0 h0 ws T h C S) (B : own_B Z p s m meth c bytes maxL own nm rt) {a : Addr} {n : Nat} {f : Nat → Int32} (A : own_AI Z h a n f) (hd : decode bytes pc = .ok (.arraylength, 1)) (hp : pc + 1 = pc') (k : own_H p e below En n0 h0 ws Q T (mkF m pc' L (.int (Int32.ofNat n) :: st))) : own_H p e below En n0 h0 ws Q T (mkF m pc L (.ref a :: st)) := by
  subst hp
  obtain ⟨locs, Y, N, e, K⟩ := X
  obtain ⟨cl, A, r1, r2, r3⟩ := A
  subst r1
  exact own_tr (fun t q => Y.arraylength B.1 (by rw [e]; exact A.1) (State.isArrayOf_alike B.2.1.alike A.2.1) (g := mkF m pc L (.ref a :: st)) rfl rfl (hb B.2.2.1 hd) t q) k
theorem own_iastore (X : own_St p l e R s m args below meth c n0 h0 ws T h C S) (B : own_B Z p s m meth c bytes maxL own nm rt) {a : Addr} {n i : Nat} {f : Nat → Int32} {j : Int32} {x : Int32} (A : own_AI Z h a n f) (hj : j.toInt = (i : Int)) (hi : i < n) (hw1 : n0 ≤ a) (hw2 : a ∈ ws ∨ h0.size ≤ a) (hd : decode bytes pc = .ok (.iastore, 1)) (hp : pc + 1 = pc')
    (k : ∀ T h', own_St p l e R s m args below meth c n0 h0 ws T h' C S → Keep h h' [a] → own_AI Z h' a n (fun k => if k = i then x else f k) → own_H p e below En n0 h0 ws Q T (mkF m pc' L st)) : own_H p e below En n0 h0 ws Q T (mkF m pc L (.int x :: .int j :: .ref a :: st)) := by
  subst hp
  obtain ⟨locs, Y, N, e, K⟩ := X
  obtain ⟨cl, A, r1, r2, r3⟩ := A
  obtain ⟨q1, q2⟩ := own_ix hj (r1.symm ▸ hi : i < cl.slots.size)
  obtain ⟨T1, h1, Y1, e1, W1, st1⟩ := stI Y B.1 B.2.1 e A (j := j) (x := x) q1 (g := mkF m pc L (.int x :: .int j :: .ref a :: st)) rfl rfl (hb B.2.2.1 hd)
  refine own_tr st1 (k T1 h1 ⟨_, Y1, Fr.snoc Y1 N hw1, e1, K.wr W1 hw2⟩ (Keep.of_wr W1) ⟨_, A.same W1, ?_, r2, ?_⟩)
  · rw [sz_set, r1]
  · intro u hu
    show (cl.slots.setIfInBounds j.toNatClampNeg (.int x))[u]? = some (.int (if u = i then x else f u))
    rw [q2, Array.getElem?_setIfInBounds]
    by_cases hui : u = i
    · subst hui; rw [if_pos rfl, if_pos (r1.symm ▸ hi), if_pos rfl]
    · rw [if_neg (fun q => hui q.symm), if_neg hui]; exact r3 u hu
end OwnKit
section OwnKit2
variable {p : Program} {l : Launch} {e : Env} {R : Room} {s : State} {m : MethodId} {args : Array Value} {below : List Frame} {meth : Method} {c : Code} {n0 : Nat} {h0 h h' : Heap} {ws : List Addr} {T T' : State} {C S C' S' : Nat} {Q : Option Value → Heap → Prop} {En : Outcome → State → List Loc → Prop} {Z : State} {a0 : Array Value} {bytes : ByteArray} {maxL : Nat} {own nm : String} {rt : Option FieldType} {L L' : Array Slot} {st : List Value} {pc pc' : Nat}
theorem own_newB (X : own_St p l e R s m args below meth c n0 h0 ws T h C S) (B : own_B Z p s m meth c bytes maxL own nm rt) (w : (Jvm.Cond.arrayClass .byte).before a0 Z = true) {j : Int32} {n cap : Nat} (hj : j.toInt = (n : Int)) (hcap : n ≤ cap) (hb8 : cap * 8 ≤ 536870912) (hc : C + 1 ≤ R.cells) (hs : S + cap ≤ R.slots) (hd : decode bytes pc = .ok (.newarray .byte, 2)) (hp : pc + 2 = pc')
    (k : ∀ T h' a, a = h.size → own_St p l e R s m args below meth c n0 h0 ws T h' (C + 1) (S + cap) → Keep h h' [] → h0.size ≤ a → own_H p e below En n0 h0 ws Q T (mkF m pc' L (.ref a :: st))) : own_H p e below En n0 h0 ws Q T (mkF m pc L (.int j :: st)) := by
  subst hp
  obtain ⟨locs, Y, N, e, K⟩ := X
  have hn : ¬ j < 0 := by rw [Int32.lt_iff_toInt_lt]; have : (0 : Int32).toInt = 0 := rfl; omega
  have hnn : j.toNatClampNeg = n := by show j.toInt.toNat = n; omega
  obtain ⟨T1, h1, cA, Y1, e1, E1, A1, st1⟩ := newP Y B.1 B.2.1 (aty := .byte) w e (g := mkF m pc L (.int j :: st)) rfl (hb B.2.2.1 hd) rfl hn (cap := cap) (hnn ▸ hcap) hb8 hc hs
  exact own_tr st1 (k T1 h1 h.size rfl ⟨_, Y1, N, e1, K.ext E1⟩ ((Keep.refl h []).ext E1) K.1)
theorem own_getD_range (f : Nat → Int64) (n i : Nat) (hi : i < n) : ((List.range n).map fun i => Value.long (f i)).getD i (.long 0) = .long (f i) := by
  rw [List.getD_eq_getElem?_getD, List.getElem?_map, List.getElem?_range hi]; rfl
theorem own_AJ.arv {a : Addr} {n : Nat} {f : Nat → Int64} (A : own_AJ Z h a n f) : ∃ k, Arv Z h a k .long (Int32.ofNat n) ((List.range n).map fun i => Value.long (f i)) (.long 0) := by
  obtain ⟨cl, A, r1, r2, r3⟩ := A
  have e1 : (Int32.ofNat n).toInt = (n : Int) := len_toInt (by omega)
  have e2 : (Int32.ofNat n).toNatClampNeg = n := by show (Int32.ofNat n).toInt.toNat = n; omega
  refine ⟨cl.cls, cl, A, rfl, r1.trans e2.symm, ?_, ?_, ?_⟩
  · rw [Int32.lt_iff_toInt_lt]; have : (0 : Int32).toInt = 0 := rfl; omega
  · intro i hi
    rw [r1] at hi
    rw [r3 i hi, own_getD_range f n i hi]
  · intro i hi
    rw [r1] at hi
    rw [own_getD_range f n i hi]; rfl
theorem own_AJ.of_arv {a : Addr} {n : Nat} {f : Nat → Int64} {k : ClassId} {vs : List Value} {d : Value} (hn : n < 2147483648) (A : Arv Z h a k .long (Int32.ofNat n) vs d) (q : ∀ i, i < n → vs.getD i d = .long (f i)) : own_AJ Z h a n f := by
  obtain ⟨cl, A, -, S, -, H, -⟩ := A
  have e1 : (Int32.ofNat n).toInt = (n : Int) := len_toInt (by omega)
  have e2 : (Int32.ofNat n).toNatClampNeg = n := by show (Int32.ofNat n).toInt.toNat = n; omega
  rw [e2] at S
  exact ⟨cl, A, S, hn, fun i hi => by rw [H i (by omega), q i hi]⟩
theorem own_acopy (X : own_St p l e R s m args below meth c n0 h0 ws T h C S) (B : own_B Z p s m meth c bytes maxL own nm rt) {i : Nat} (w1 : (Jvm.Cond.methodLink own i Jvm.Stand.acN).before a0 Z = true) (w2 : (Jvm.Cond.native Jvm.Stand.acN).before a0 Z = true) (w3 : (Jvm.Cond.static Jvm.Stand.acN).before a0 Z = true) (w4 : (Jvm.Cond.initialized "java/lang/System").before a0 Z = true)
    {a b : Addr} {n n2 cnt : Nat} {f g : Nat → Int64} (A : own_AJ Z h a n f) (D : own_AJ Z h b n2 g) (hc1 : cnt ≤ n) (hc2 : cnt ≤ n2) {nn : Int32} (hnn : nn.toInt = (cnt : Int)) (hw1 : n0 ≤ b) (hw2 : b ∈ ws ∨ h0.size ≤ b) (hL : L.size = maxL) (hf : 1 ≤ R.frames) {W : Nat} (hW : (st.map fun v => v.category).sum ≤ W) (hlo : W + 18 ≤ R.locals) (hd : decode bytes pc = .ok (.invokestatic i, 3)) (hp : pc + 3 = pc')
    (k : ∀ T h', own_St p l e R s m args below meth c n0 h0 ws T h' C S → Keep h h' [b] → own_AJ Z h' b n2 (fun k => if k < cnt then f k else g k) → own_H p e below En n0 h0 ws Q T (mkF m pc' L st)) : own_H p e below En n0 h0 ws Q T (mkF m pc L (.int nn :: .int (0 : Int32) :: .ref b :: .int (0 : Int32) :: .ref a :: st)) := by
  subst hp
  obtain ⟨locs, Y, N, e, K⟩ := X
  obtain ⟨k1, A1⟩ := A.arv
  obtain ⟨k2, D1⟩ := D.arv
  have hn1 : n < 2147483648 := A.choose_spec.2.2.1
  have hn2 : n2 < 2147483648 := D.choose_spec.2.2.1
  have en : nn.toNatClampNeg = cnt := by show nn.toInt.toNat = cnt; omega
  have ez : (0 : Int32).toNatClampNeg = 0 := rfl
  have e1 : (Int32.ofNat n).toInt = (n : Int) := len_toInt (by omega)
  have e2 : (Int32.ofNat n).toNatClampNeg = n := by show (Int32.ofNat n).toInt.toNat = n; omega
  have e3 : (Int32.ofNat n2).toInt = (n2 : Int) := len_toInt (by omega)
  have e4 : (Int32.ofNat n2).toNatClampNeg = n2 := by show (Int32.ofNat n2).toInt.toNat = n2; omega
  obtain ⟨T1, h1, L1, Y1, q1, N1, K1, V1, st1⟩ := cpA Y B.1 B.2.1 B.2.2.2.2.1 w1 w2 w3 w4 e A1 D1 (us := (List.range cnt).map fun i => Value.long (f i)) (Or.inl ⟨rfl, rfl⟩) (sp := 0) (dp := 0) (nn := nn) (by decide) (by decide) (by rw [Int32.lt_iff_toInt_lt]; have : (0 : Int32).toInt = 0 := rfl; omega)
    (by rw [ez, en, e2]; omega) (by rw [ez, en, e4]; omega) (by
      rw [en, ez]
      apply List.map_congr_left
      intro i hi
      rw [List.mem_range] at hi
      rw [Nat.zero_add, own_getD_range f n i (by omega)]) (by rw [ez, en, List.length_map, List.length_range]; omega) N hw1 (g := mkF m pc L (.int nn :: .int (0 : Int32) :: .ref b :: .int (0 : Int32) :: .ref a :: st)) rfl (hL.trans B.2.2.2.1.symm) rfl (hb B.2.2.1 hd) hf (W := W) (by show 2 * 0 + _ ≤ _; omega) hlo
  refine own_tr st1 (k T1 h1 ⟨L1, Y1, N1, q1, K.trans K1 (allS hw2 all0)⟩ K1 (own_AJ.of_arv hn2 V1 ?_))
  intro i hi
  rw [ez, en, Nat.zero_add, List.take_zero, List.nil_append, List.getD_eq_getElem?_getD]
  by_cases hic : i < cnt
  · rw [List.getElem?_append_left (by rw [List.length_map, List.length_range]; exact hic), List.getElem?_map, List.getElem?_range hic, if_pos hic]; rfl
  · rw [List.getElem?_append_right (by rw [List.length_map, List.length_range]; omega), List.length_map, List.length_range, List.getElem?_drop, show cnt + (i - cnt) = i by omega, List.getElem?_map, List.getElem?_range hi, if_neg hic]; rfl
end OwnKit2
theorem own_szh {p : Program} {l : Launch} {e : Env} {R : Room} {s : State} {m : MethodId} {args : Array Value} {below : List Frame} {meth : Method} {c : Code} {n0 : Nat} {h0 h : Heap} {ws : List Addr} {T : State} {C S : Nat} (X : own_St p l e R s m args below meth c n0 h0 ws T h C S) : h0.size ≤ h.size := by
  obtain ⟨_, _, _, _, K⟩ := X
  exact K.1
theorem own_sz {p : Program} {l : Launch} {e : Env} {R : Room} {s : State} {m : MethodId} {args : Array Value} {below : List Frame} {meth : Method} {c : Code} {n0 : Nat} {h0 h : Heap} {ws : List Addr} {T : State} {C S : Nat} (X : own_St p l e R s m args below meth c n0 h0 ws T h C S) (Z0 : n0 ≤ h0.size) : n0 ≤ h.size := by
  obtain ⟨_, _, _, _, K⟩ := X
  exact Nat.le_trans Z0 K.1
theorem own_nat {n : Nat} (h : n < 2147483648) : (Int32.ofNat n).toInt = (n : Int) := len_toInt (by omega)
theorem own_ltN {i n : Nat} (hi : i < 2147483648) (hn : n < 2147483648) : (Int32.ofNat i < Int32.ofNat n) ↔ i < n := by
  rw [Int32.lt_iff_toInt_lt, own_nat hi, own_nat hn]; omega
theorem own_eqN {i n : Nat} (hi : i < 2147483648) (hn : n < 2147483648) : (Int32.ofNat i = Int32.ofNat n) ↔ i = n := by
  rw [← Int32.toInt_inj, own_nat hi, own_nat hn]; omega
theorem own_succ (i : Nat) : Int32.ofNat i + (1 : Int32) = Int32.ofNat (i + 1) := by
  rw [← Int32.toBitVec_inj]; simp [Int32.ofNat_add]
theorem own_and3 (x : Int32) : ∃ n : Nat, n < 4 ∧ x &&& (3 : Int32) = Int32.ofNat n := by
  have h := c_mask x 3 2 (by decide) (by decide)
  have hp : ((2 ^ 2 : Nat) : Int) = 4 := rfl
  rw [hp] at h
  refine ⟨(x.toInt % 4).toNat, by omega, ?_⟩
  rw [← Int32.toInt_inj, own_nat (by omega), h]; omega
theorem own_add (a b : Nat) : Int32.ofNat a + Int32.ofNat b = Int32.ofNat (a + b) := by
  rw [← Int32.toBitVec_inj]; simp [Int32.ofNat_add]
theorem own_mul (a b : Nat) : Int32.ofNat a * Int32.ofNat b = Int32.ofNat (a * b) := by
  rw [← Int32.toBitVec_inj]; simp [Int32.ofNat_mul]
theorem own_sub {a b : Nat} (ha : a < 2147483648) (h : b ≤ a) : Int32.ofNat a - Int32.ofNat b = Int32.ofNat (a - b) := by
  have h1 := c_isub (Int32.ofNat a) (Int32.ofNat b)
  have h2 := rng32 (Int32.ofNat a - Int32.ofNat b)
  rw [own_nat ha, own_nat (by omega : b < 2147483648)] at h1
  rw [← Int32.toInt_inj, own_nat (by omega : a - b < 2147483648)]
  omega
theorem own_sub_neg {a b : Nat} (hb : b < 2147483648) (h : a < b) : Int32.ofNat a - Int32.ofNat b < 0 := by
  have h1 := c_isub (Int32.ofNat a) (Int32.ofNat b)
  have h2 := rng32 (Int32.ofNat a - Int32.ofNat b)
  rw [own_nat (by omega : a < 2147483648), own_nat hb] at h1
  rw [Int32.lt_iff_toInt_lt]
  have h0 : (0 : Int32).toInt = 0 := rfl
  omega
theorem own_nn {a : Nat} (ha : a < 2147483648) : ¬ Int32.ofNat a < 0 := by
  rw [Int32.lt_iff_toInt_lt, own_nat ha]
  have h0 : (0 : Int32).toInt = 0 := rfl
  omega
theorem own_pred (k : Nat) : Int32.ofNat (k + 1) - (1 : Int32) = Int32.ofNat k := by
  rw [← own_succ, ← Int32.toBitVec_inj]; simp
theorem own_dec (k : Nat) : Int32.ofNat k + (-1 : Int32) = Int32.ofNat k - (1 : Int32) := by
  rw [Int32.sub_eq_add_neg]
theorem own_mask (x m : Int32) (k : Nat) (hk : k ≤ 31) (hm : m.toBitVec.toNat = 2 ^ k - 1) : ∃ n : Nat, n < 2 ^ k ∧ x &&& m = Int32.ofNat n := by
  have h := c_mask x m k hk hm
  have h31 : 2 ^ k ≤ 2147483648 := Nat.le_trans (Nat.pow_le_pow_right (by decide) hk) (by decide)
  have hp : 0 < 2 ^ k := Nat.pow_pos (by decide)
  have hpos : (0 : Int) ≤ x.toInt % ((2 ^ k : Nat) : Int) := Int.emod_nonneg _ (by omega)
  have hlt : x.toInt % ((2 ^ k : Nat) : Int) < ((2 ^ k : Nat) : Int) := Int.emod_lt_of_pos _ (by omega)
  refine ⟨(x.toInt % ((2 ^ k : Nat) : Int)).toNat, by omega, ?_⟩
  rw [← Int32.toInt_inj, own_nat (by omega), h]; omega
def own_cap (n cp : Nat) : Prop := (cp = 1 ∧ n ≤ 1) ∨ (cp = 2 ∧ n ≤ 2 ∧ 0 < n) ∨ (cp = 4 ∧ n ≤ 4 ∧ 0 < n)
theorem own_cap_lt {n cp : Nat} (h : own_cap (n + 1) cp) : n < cp := by unfold own_cap at h; omega
theorem own_cap_le {n cp : Nat} (h : own_cap n cp) : n ≤ cp := by unfold own_cap at h; omega
theorem own_cap_b {n cp : Nat} (h : own_cap n cp) : cp < 2147483648 := by unfold own_cap at h; omega
theorem own_cap_grow {n cp : Nat} (h : own_cap n cp) (e : n = cp) (h4 : n < 4) (h0 : 0 < n) : own_cap (n + 1) (n * 2) := by unfold own_cap at h ⊢; omega
theorem own_cap_room {n cp : Nat} (h : own_cap n cp) (e : ¬ n = cp) : own_cap (n + 1) cp := by unfold own_cap at h ⊢; omega
theorem own_pred1 {n : Nat} (h : 0 < n) : Int32.ofNat n - (1 : Int32) = Int32.ofNat (n - 1) := by
  obtain ⟨k, rfl⟩ : ∃ k, n = k + 1 := ⟨n - 1, by omega⟩
  exact own_pred k
theorem own_ushr1 (p : Nat) (h : p < 2147483648) : ((Int32.ofNat p).toUInt32 >>> ((1 : Int32) &&& 31).toUInt32).toInt32 = Int32.ofNat (p / 2) := by
  have h1 := c_iushr (Int32.ofNat p) 1 1 (by decide) (by decide)
  rw [own_nat h] at h1
  rw [← Int32.toInt_inj, h1, own_nat (by omega)]
  have hp : ((2 ^ 1 : Nat) : Int) = 2 := rfl
  rw [hp]; omega
theorem own_mono {n : Nat} {gs : Nat → Int64} {b : Int64} (hS : ∀ i, i + 1 < n → ∀ b, b < gs i → b < gs (i + 1)) {k : Nat} (hk : b < gs k) : ∀ {i : Nat}, k ≤ i → i < n → b < gs i := by
  intro i h1 h2
  induction i with
  | zero => have : k = 0 := by omega
            rw [← this]; exact hk
  | succ i ih =>
    by_cases h : k = i + 1
    · rw [← h]; exact hk
    · exact hS i h2 b (ih (by omega) (by omega))
def own_sum (a b c d i : Nat) : Nat := if i = 0 then 0 else if i = 1 then a else if i = 2 then a + b else if i = 3 then a + b + c else a + b + c + d
def own_S (a b c d i : Nat) : Int64 := Int64.ofNat (own_sum a b c d i)
def own_P (a b c d : Int64) (i : Nat) : Int64 := if i = 0 then a else if i = 1 then b else if i = 2 then c else d
theorem own_natL {n : Nat} (h : n < 9223372036854775808) : (Int64.ofNat n).toInt = (n : Int) := Int64.toInt_ofNat_of_lt h
theorem own_i2l_nat (c : Nat) (h : c < 2147483648) : (Int32.ofNat c).toInt64 = Int64.ofNat c := by
  rw [← Int64.toInt_inj, c_i2l, own_nat h, own_natL (by omega)]
theorem own_addL (a c : Nat) (ha : a < 2147483648) (h : c < 2147483648) : Int64.ofNat a + (Int32.ofNat c).toInt64 = Int64.ofNat (a + c) := by
  rw [own_i2l_nat c h, ← Int64.toBitVec_inj]; simp [Int64.ofNat_add]
theorem own_add0 (c : Nat) (h : c < 2147483648) : (0 : Int64) + (Int32.ofNat c).toInt64 = Int64.ofNat c := by
  rw [own_i2l_nat c h, Int64.zero_add]
theorem own_nz0 : ∀ s : Fin 64, (Int64.ofNat s.1 + (1 : Int64)).toInt32 ≠ 0 := by decide +kernel
theorem own_nz (s : Nat) (h : s < 64) : (Int64.ofNat s + (1 : Int64)).toInt32 ≠ 0 := own_nz0 ⟨s, h⟩
theorem own_all {n : Nat} {gs gp gs' gp' S P : Nat → Int64} {ln pl : Int64} (hall : ∀ i, i < n → gs i = S i ∧ gp i = P i) (h : ∀ i, i < n + 1 → gs' i = (if i = n then ln else gs i) ∧ gp' i = (if i = n then pl else gp i)) (h1 : ln = S n) (h2 : pl = P n) : ∀ i, i < n + 1 → gs' i = S i ∧ gp' i = P i := by
  intro i hi
  obtain ⟨q1, q2⟩ := h i hi
  rw [q1, q2]
  by_cases h : i = n
  · rw [if_pos h, if_pos h, h]; exact ⟨h1, h2⟩
  · rw [if_neg h, if_neg h]; exact hall i (by omega)
theorem own_sum_le (a b c d i : Nat) (ha : a < 8) (hb : b < 8) (hc : c < 8) (hd : d < 8) : own_sum a b c d i < 64 := by
  unfold own_sum
  repeat' split
  all_goals omega
theorem own_sum_b (a b c d i : Nat) (ha : a < 8) (hb : b < 8) (hc : c < 8) (hd : d < 8) : own_sum a b c d i < 2147483648 := Nat.lt_trans (own_sum_le a b c d i ha hb hc hd) (by decide)
theorem own_sum_succ (a b c d : Nat) {i : Nat} (hi : i + 1 < 4) : own_sum a b c d i ≤ own_sum a b c d (i + 1) := by
  match i, hi with
  | 0, _ => exact Nat.zero_le _
  | 1, _ => exact Nat.le_add_right _ _
  | 2, _ => exact Nat.le_add_right _ _
theorem own_sorted (a b c d : Nat) (ha : a < 8) (hb : b < 8) (hc : c < 8) (hd : d < 8) {n : Nat} (hn : n ≤ 4) {gs gp P : Nat → Int64} (hall : ∀ i, i < n → gs i = own_S a b c d i ∧ gp i = P i) : ∀ i, i + 1 < n → ∀ z, z < gs i → z < gs (i + 1) := by
  intro i hi z hz
  rw [(hall i (by omega)).1] at hz
  rw [(hall (i + 1) hi).1]
  have h1 := own_sum_le a b c d i ha hb hc hd
  have h2 := own_sum_le a b c d (i + 1) ha hb hc hd
  have h3 := own_sum_succ a b c d (i := i) (by omega)
  unfold own_S at hz ⊢
  rw [Int64.lt_iff_toInt_lt, own_natL (by omega)] at hz ⊢
  omega
theorem own_same {n : Nat} {S P gs gp : Nat → Int64} {b st pl : Int64} {k' : Nat} (hall : ∀ i, i < n → gs i = S i ∧ gp i = P i) (hk : ∃ k, k < n ∧ (k = 0 ∨ ¬ b < S k) ∧ (∀ i, k < i → i < n → b < S i) ∧ st = S k ∧ pl = P k)
    (h1 : k' < n) (h2 : k' = 0 ∨ ¬ b < gs k') (h3 : ∀ i, k' < i → i < n → b < gs i) : gp k' + b - gs k' = pl + b - st := by
  obtain ⟨k, q1, q2, q3, rfl, rfl⟩ := hk
  have e : k' = k := by
    rcases Nat.lt_trichotomy k' k with q | q | q
    · have := h3 k q q1
      rw [(hall k q1).1] at this
      rcases q2 with rfl | q2
      · omega
      · exact absurd this q2
    · exact q
    · have := q3 k' q h1
      rw [← (hall k' h1).1] at this
      rcases h2 with rfl | h2
      · omega
      · exact absurd this h2
  subst e
  rw [(hall k' h1).1, (hall k' h1).2]
theorem pd_7 : parseMethodDescriptor "(II)I" = some ⟨[.int, .int], some .int⟩ := by decide +kernel
theorem pd_6 : parseMethodDescriptor "([JI)[J" = some ⟨[(.array .long), .int], some (.array .long)⟩ := by decide +kernel
theorem pd_1 : parseMethodDescriptor "()V" = some ⟨[], none⟩ := by decide +kernel
theorem pd_3 : parseMethodDescriptor "([BJJ)V" = some ⟨[(.array .byte), .long, .long], none⟩ := by decide +kernel
theorem pd_4 : parseMethodDescriptor "()J" = some ⟨[], some .long⟩ := by decide +kernel
theorem pd_5 : parseMethodDescriptor "(J)J" = some ⟨[.long], some .long⟩ := by decide +kernel
theorem da_0 : decode jdk_29_method_69_code 0 = .ok (.iload_n 0, 1) := by decide +kernel
theorem da_1 : decode jdk_29_method_69_code 1 = .ok (.iload_n 1, 1) := by decide +kernel
theorem da_2 : decode jdk_29_method_69_code 2 = .ok (.if_icmp .gt 7, 3) := by decide +kernel
theorem da_5 : decode jdk_29_method_69_code 5 = .ok (.iload_n 0, 1) := by decide +kernel
theorem da_6 : decode jdk_29_method_69_code 6 = .ok (.goto 4, 3) := by decide +kernel
theorem da_9 : decode jdk_29_method_69_code 9 = .ok (.iload_n 1, 1) := by decide +kernel
theorem da_10 : decode jdk_29_method_69_code 10 = .ok (.ireturn, 1) := by decide +kernel
set_option maxRecDepth 65536 in
set_option maxHeartbeats 40000000 in
theorem rm1 (l : Launch) (Z : State) (a0 : Array Value) (hw : ∀ d ∈ tables_1, d.before a0 Z = true) (u : Nat) (v : Nat) (h0 : Heap) (n0 : Nat) (Z0 : n0 ≤ h0.size) (hu : u < 2147483648) (hv : v < 2147483648) :
    own_C l Z (⟨"java/lang/Math", "min", "(II)I"⟩ : MethodName) jdk_29_method_69_code 2 (some .int) [] ({ frames := 0, cells := 0, slots := 0, locals := 0 } : Room) #[.int (Int32.ofNat u), .int (Int32.ofNat v)] h0 n0 [] (fun r h => r = some (.int (Int32.ofNat (min u v)))) 0 0 := by
  refine own_enter (L0 := #[.val (.int (Int32.ofNat u)), .val (.int (Int32.ofNat v))]) (Jvm.Free.JP.mathPlain rfl (by decide +kernel)) (fun m => by first | (simp [entryFrame, mkF, argsToLocals, Value.category]; done) | rfl) ?_
  intro p e s m below meth c T B X
  refine own_iloadN X B da_0 rfl (pc' := 1) rfl ?_
  refine own_iloadN X B da_1 rfl (pc' := 2) rfl ?_
  by_cases hc : (Int32.ofNat v) < (Int32.ofNat u)
  · -- hc
    refine own_icmpT X B da_2 (tlt hc).2.2.1 (pc' := 9) (by decide) (by decide) ?_
    refine own_iloadN X B da_9 rfl (pc' := 10) rfl ?_
    have hd : min u v = v := by have := (own_ltN (by omega) (by omega)).mp hc; omega
    exact own_iret X B da_10 (by decide) (by decide) (by rw [hd])
  · -- not hc
    refine own_icmpF X B da_2 (flt hc).2.2.1 (pc' := 5) rfl ?_
    refine own_iloadN X B da_5 rfl (pc' := 6) rfl ?_
    refine own_goto X B da_6 (pc' := 10) (by decide) (by decide) ?_
    have hd : min u v = u := by have := mt (own_ltN (by omega) (by omega)).mpr hc; omega
    exact own_iret X B da_10 (by decide) (by decide) (by rw [hd])
theorem db_0 : decode jdk_65_method_124_code 0 = .ok (.iload_n 1, 1) := by decide +kernel
theorem db_1 : decode jdk_65_method_124_code 1 = .ok (.aload_n 0, 1) := by decide +kernel
theorem db_2 : decode jdk_65_method_124_code 2 = .ok (.arraylength, 1) := by decide +kernel
theorem db_3 : decode jdk_65_method_124_code 3 = .ok (.if_icmp .ne 11, 3) := by decide +kernel
theorem db_6 : decode jdk_65_method_124_code 6 = .ok (.aload_n 0, 1) := by decide +kernel
theorem db_7 : decode jdk_65_method_124_code 7 = .ok (.invokevirtual 319, 3) := by decide +kernel
theorem db_10 : decode jdk_65_method_124_code 10 = .ok (.checkcast 320, 3) := by decide +kernel
theorem db_13 : decode jdk_65_method_124_code 13 = .ok (.areturn, 1) := by decide +kernel
theorem db_14 : decode jdk_65_method_124_code 14 = .ok (.iload_n 1, 1) := by decide +kernel
theorem db_15 : decode jdk_65_method_124_code 15 = .ok (.newarray .long, 2) := by decide +kernel
theorem db_17 : decode jdk_65_method_124_code 17 = .ok (.astore_n 2, 1) := by decide +kernel
theorem db_18 : decode jdk_65_method_124_code 18 = .ok (.aload_n 0, 1) := by decide +kernel
theorem db_19 : decode jdk_65_method_124_code 19 = .ok (.iconst 0, 1) := by decide +kernel
theorem db_20 : decode jdk_65_method_124_code 20 = .ok (.aload_n 2, 1) := by decide +kernel
theorem db_21 : decode jdk_65_method_124_code 21 = .ok (.iconst 0, 1) := by decide +kernel
theorem db_22 : decode jdk_65_method_124_code 22 = .ok (.aload_n 0, 1) := by decide +kernel
theorem db_23 : decode jdk_65_method_124_code 23 = .ok (.arraylength, 1) := by decide +kernel
theorem db_24 : decode jdk_65_method_124_code 24 = .ok (.iload_n 1, 1) := by decide +kernel
theorem db_25 : decode jdk_65_method_124_code 25 = .ok (.invokestatic 304, 3) := by decide +kernel
theorem db_28 : decode jdk_65_method_124_code 28 = .ok (.invokestatic 150, 3) := by decide +kernel
theorem db_31 : decode jdk_65_method_124_code 31 = .ok (.aload_n 2, 1) := by decide +kernel
theorem db_32 : decode jdk_65_method_124_code 32 = .ok (.areturn, 1) := by decide +kernel
set_option maxRecDepth 65536 in
set_option maxHeartbeats 40000000 in
theorem rm2 (l : Launch) (Z : State) (a0 : Array Value) (hw : ∀ d ∈ tables_1, d.before a0 Z = true) (a : Addr) (n1 : Nat) (n2 : Nat) (f : Nat → Int64) (h0 : Heap) (n0 : Nat) (Z0 : n0 ≤ h0.size) (A_a : own_AJ Z h0 a n1 f) (hn : n1 < n2) (hn2 : n2 ≤ 4) :
    own_C l Z (⟨"java/util/Arrays", "copyOf", "([JI)[J"⟩ : MethodName) jdk_65_method_124_code 3 (some (.array .long)) [] ({ frames := 1, cells := 1, slots := 4, locals := 24 } : Room) #[.ref a, .int (Int32.ofNat n2)] h0 n0 [] (fun v h => ∃ b : Addr, v = some (.ref b) ∧ h0.size ≤ b ∧ own_AJ Z h b n2 (fun k => if k < n1 then f k else 0)) 1 4 := by
  refine own_enter (L0 := #[.val (.ref a), .val (.int (Int32.ofNat n2)), .unset]) (plainFor_of_name (by first | (simp [plainName, overriddenIn]; done) | decide +kernel)) (fun m => by first | (simp [entryFrame, mkF, argsToLocals, Value.category]; done) | rfl) ?_
  intro p e s m below meth c T B X
  refine own_iloadN X B db_0 rfl (pc' := 1) rfl ?_
  refine own_aloadN X B db_1 rfl rfl (pc' := 2) rfl ?_
  refine own_lenJ X B A_a db_2 (pc' := 3) rfl ?_
  refine own_icmpT X B db_3 (feq (by rw [own_eqN (by omega) (by omega)]; omega)).2 (pc' := 14) (by decide) (by decide) ?_
  refine own_iloadN X B db_14 rfl (pc' := 15) rfl ?_
  refine own_newJ X B (hw _ (List.mem_of_getElem? (i := 10) rfl)) (n := n2) (cap := 4) (own_nat (by omega)) hn2 (by decide) (by decide) (by decide) db_15 (pc' := 17) rfl fun T h b g_b X K A_b z_b => ?_
  have n_a_b : a ≠ b := own_ne A_a.lt g_b
  replace A_a := A_a.keep K nin0
  refine own_astoreN X B db_17 rfl (L' := #[.val (.ref a), .val (.int (Int32.ofNat n2)), .val (.ref b)]) rfl (pc' := 18) rfl ?_
  refine own_aloadN X B db_18 rfl rfl (pc' := 19) rfl ?_
  refine own_iconst X B db_19 (v := (0 : Int32)) rfl (pc' := 20) rfl ?_
  refine own_aloadN X B db_20 rfl rfl (pc' := 21) rfl ?_
  refine own_iconst X B db_21 (v := (0 : Int32)) rfl (pc' := 22) rfl ?_
  refine own_aloadN X B db_22 rfl rfl (pc' := 23) rfl ?_
  refine own_lenJ X B A_a db_23 (pc' := 24) rfl ?_
  refine own_iloadN X B db_24 rfl (pc' := 25) rfl ?_
  refine own_callS X B (W := 4) (hw _ (List.mem_of_getElem? (i := 41) rfl)) (hw _ (List.mem_of_getElem? (i := 42) rfl)) (hw _ (List.mem_of_getElem? (i := 43) rfl)) (hw _ (List.mem_of_getElem? (i := 44) rfl)) (by decide) (rm1 l Z a0 hw n1 n2 h n0 (own_sz X Z0) (by omega) (by omega)) (by decide) (by decide) (by decide) (by decide) rfl (argsL := [.int (Int32.ofNat n1), .int (Int32.ofNat n2)]) pd_7 rfl rfl (st := [.int (0 : Int32), .ref b, .int (0 : Int32), .ref a]) rfl (Nat.le_refl _) db_25 (pc' := 28) rfl all0 ?_
  rintro v T h X K rfl
  replace A_a := A_a.keep K nin0
  replace A_b := A_b.keep K nin0
  show own_H _ _ _ _ _ _ _ _ T (mkF m 28 #[.val (.ref a), .val (.int (Int32.ofNat n2)), .val (.ref b)] [.int (Int32.ofNat (min n1 n2)), .int (0 : Int32), .ref b, .int (0 : Int32), .ref a])
  refine own_acopy X B (hw _ (List.mem_of_getElem? (i := 45) rfl)) (hw _ (List.mem_of_getElem? (i := 48) rfl)) (hw _ (List.mem_of_getElem? (i := 46) rfl)) (hw _ (List.mem_of_getElem? (i := 47) rfl)) A_a A_b (cnt := n1) (Nat.le_refl _) (Nat.le_of_lt hn) (by rw [own_nat (by omega)]; omega) (Nat.le_trans Z0 z_b) (Or.inr z_b) rfl (by decide) (W := 0) (Nat.le_refl _) (by decide) db_28 (pc' := 31) rfl fun T h X K A_b => ?_
  replace A_a := A_a.keep K (ninS n_a_b nin0)
  refine own_aloadN X B db_31 rfl rfl (pc' := 32) rfl ?_
  exact own_aret X B db_32 rfl rfl rfl (by decide) (by decide) ⟨b, rfl, z_b, A_b⟩
theorem dc_0 : decode prog_5_method_1_code 0 = .ok (.aload_n 0, 1) := by decide +kernel
theorem dc_1 : decode prog_5_method_1_code 1 = .ok (.invokespecial 1, 3) := by decide +kernel
theorem dc_4 : decode prog_5_method_1_code 4 = .ok (.aload_n 0, 1) := by decide +kernel
theorem dc_5 : decode prog_5_method_1_code 5 = .ok (.iconst 1, 1) := by decide +kernel
theorem dc_6 : decode prog_5_method_1_code 6 = .ok (.newarray .long, 2) := by decide +kernel
theorem dc_8 : decode prog_5_method_1_code 8 = .ok (.putfield 7, 3) := by decide +kernel
theorem dc_11 : decode prog_5_method_1_code 11 = .ok (.aload_n 0, 1) := by decide +kernel
theorem dc_12 : decode prog_5_method_1_code 12 = .ok (.iconst 1, 1) := by decide +kernel
theorem dc_13 : decode prog_5_method_1_code 13 = .ok (.newarray .long, 2) := by decide +kernel
theorem dc_15 : decode prog_5_method_1_code 15 = .ok (.putfield 13, 3) := by decide +kernel
theorem dc_18 : decode prog_5_method_1_code 18 = .ok (.return_, 1) := by decide +kernel
set_option maxRecDepth 65536 in
set_option maxHeartbeats 40000000 in
theorem rm3 (l : Launch) (Z : State) (a0 : Array Value) (hw : ∀ d ∈ tables_1, d.before a0 Z = true) (o : Addr) (h0 : Heap) (n0 : Nat) (Z0 : n0 ≤ h0.size) (g_o : n0 ≤ o) (E_o : Exa Z h0 o "com/example/tightwire/tightwire/bits/BitRuns") (F_o_starts : Fld Z h0 o "com/example/tightwire/tightwire/bits/BitRuns" "starts" "[J" .null) (F_o_places : Fld Z h0 o "com/example/tightwire/tightwire/bits/BitRuns" "places" "[J" .null) (F_o_message : Fld Z h0 o "com/example/tightwire/tightwire/bits/BitRuns" "message" "[B" .null) (F_o_runs : Fld Z h0 o "com/example/tightwire/tightwire/bits/BitRuns" "runs" "I" (.int (0 : Int32))) (F_o_length : Fld Z h0 o "com/example/tightwire/tightwire/bits/BitRuns" "length" "J" (.long (0 : Int64))) :
    own_C l Z (⟨"com/example/tightwire/tightwire/bits/BitRuns", "<init>", "()V"⟩ : MethodName) prog_5_method_1_code 1 none [] ({ frames := 1, cells := 2, slots := 2, locals := 12 } : Room) #[.ref o] h0 n0 [o] (fun v h => v = none ∧ ∃ r t : Addr, h0.size ≤ r ∧ h0.size ≤ t ∧ r ≠ t ∧ Fld Z h o "com/example/tightwire/tightwire/bits/BitRuns" "starts" "[J" (.ref r) ∧ Fld Z h o "com/example/tightwire/tightwire/bits/BitRuns" "places" "[J" (.ref t) ∧ Fld Z h o "com/example/tightwire/tightwire/bits/BitRuns" "message" "[B" .null ∧ Fld Z h o "com/example/tightwire/tightwire/bits/BitRuns" "runs" "I" (.int (0 : Int32)) ∧ Fld Z h o "com/example/tightwire/tightwire/bits/BitRuns" "length" "J" (.long (0 : Int64)) ∧ own_AJ Z h r 1 (fun _ => 0) ∧ own_AJ Z h t 1 (fun _ => 0)) 2 2 := by
  refine own_enter (L0 := #[.val (.ref o)]) (plainFor_of_name (by first | (simp [plainName, overriddenIn]; done) | decide +kernel)) (fun m => by first | (simp [entryFrame, mkF, argsToLocals, Value.category]; done) | rfl) ?_
  intro p e s m below meth c T B X
  refine own_aloadN X B dc_0 rfl rfl (pc' := 1) rfl ?_
  refine own_initO X B (hw _ (List.mem_of_getElem? (i := 7) rfl)) (hw _ (List.mem_of_getElem? (i := 8) rfl)) (hw _ (List.mem_of_getElem? (i := 9) rfl)) rfl (by decide) (W := 0) (Nat.le_refl _) (by decide) dc_1 (pc' := 4) rfl fun T X => ?_
  refine own_aloadN X B dc_4 rfl rfl (pc' := 5) rfl ?_
  refine own_iconst X B dc_5 (v := (1 : Int32)) rfl (pc' := 6) rfl ?_
  refine own_newJ X B (hw _ (List.mem_of_getElem? (i := 10) rfl)) (n := 1) (cap := 1) rfl (by decide) (by decide) (by decide) (by decide) dc_6 (pc' := 8) rfl fun T h r g_r X K A_r z_r => ?_
  have n_o_r : o ≠ r := own_ne E_o.lt g_r
  replace E_o := E_o.keep K
  replace F_o_starts := F_o_starts.keep K nin0
  replace F_o_places := F_o_places.keep K nin0
  replace F_o_message := F_o_message.keep K nin0
  replace F_o_runs := F_o_runs.keep K nin0
  replace F_o_length := F_o_length.keep K nin0
  refine own_putF X B (hw _ (List.mem_of_getElem? (i := 11) rfl)) F_o_starts E_o (Or.inl (hw _ (List.mem_of_getElem? (i := 12) rfl))) (hw _ (List.mem_of_getElem? (i := 2) rfl)) (ty := (.array .long)) (by decide) rfl rfl g_o (Or.inl (List.mem_of_getElem? (i := 0) rfl)) dc_8 (pc' := 11) rfl fun T h X Wr K E_o F_o_starts => ?_
  replace F_o_places := F_o_places.other Wr (Or.inr (slot_ne (Or.inl (hw _ (List.mem_of_getElem? (i := 14) rfl))) (Or.inl (hw _ (List.mem_of_getElem? (i := 12) rfl))) (by decide) (t := (.array .long)) (t' := (.array .long)) (by decide) (by decide)))
  replace F_o_message := F_o_message.other Wr (Or.inr (slot_ne (Or.inl (hw _ (List.mem_of_getElem? (i := 21) rfl))) (Or.inl (hw _ (List.mem_of_getElem? (i := 12) rfl))) (by decide) (t := (.array .byte)) (t' := (.array .long)) (by decide) (by decide)))
  replace F_o_runs := F_o_runs.other Wr (Or.inr (slot_ne (Or.inl (hw _ (List.mem_of_getElem? (i := 23) rfl))) (Or.inl (hw _ (List.mem_of_getElem? (i := 12) rfl))) (by decide) (t := .int) (t' := (.array .long)) (by decide) (by decide)))
  replace F_o_length := F_o_length.other Wr (Or.inr (slot_ne (Or.inl (hw _ (List.mem_of_getElem? (i := 25) rfl))) (Or.inl (hw _ (List.mem_of_getElem? (i := 12) rfl))) (by decide) (t := .long) (t' := (.array .long)) (by decide) (by decide)))
  replace A_r := A_r.keep K (ninS (Ne.symm n_o_r) nin0)
  refine own_aloadN X B dc_11 rfl rfl (pc' := 12) rfl ?_
  refine own_iconst X B dc_12 (v := (1 : Int32)) rfl (pc' := 13) rfl ?_
  refine own_newJ X B (hw _ (List.mem_of_getElem? (i := 10) rfl)) (n := 1) (cap := 1) rfl (by decide) (by decide) (by decide) (by decide) dc_13 (pc' := 15) rfl fun T h t g_t X K A_t z_t => ?_
  have n_o_t : o ≠ t := own_ne E_o.lt g_t
  have n_r_t : r ≠ t := own_ne A_r.lt g_t
  replace E_o := E_o.keep K
  replace F_o_starts := F_o_starts.keep K nin0
  replace F_o_places := F_o_places.keep K nin0
  replace F_o_message := F_o_message.keep K nin0
  replace F_o_runs := F_o_runs.keep K nin0
  replace F_o_length := F_o_length.keep K nin0
  replace A_r := A_r.keep K nin0
  refine own_putF X B (hw _ (List.mem_of_getElem? (i := 13) rfl)) F_o_places E_o (Or.inl (hw _ (List.mem_of_getElem? (i := 14) rfl))) (hw _ (List.mem_of_getElem? (i := 2) rfl)) (ty := (.array .long)) (by decide) rfl rfl g_o (Or.inl (List.mem_of_getElem? (i := 0) rfl)) dc_15 (pc' := 18) rfl fun T h X Wr K E_o F_o_places => ?_
  replace F_o_starts := F_o_starts.other Wr (Or.inr (slot_ne (Or.inl (hw _ (List.mem_of_getElem? (i := 12) rfl))) (Or.inl (hw _ (List.mem_of_getElem? (i := 14) rfl))) (by decide) (t := (.array .long)) (t' := (.array .long)) (by decide) (by decide)))
  replace F_o_message := F_o_message.other Wr (Or.inr (slot_ne (Or.inl (hw _ (List.mem_of_getElem? (i := 21) rfl))) (Or.inl (hw _ (List.mem_of_getElem? (i := 14) rfl))) (by decide) (t := (.array .byte)) (t' := (.array .long)) (by decide) (by decide)))
  replace F_o_runs := F_o_runs.other Wr (Or.inr (slot_ne (Or.inl (hw _ (List.mem_of_getElem? (i := 23) rfl))) (Or.inl (hw _ (List.mem_of_getElem? (i := 14) rfl))) (by decide) (t := .int) (t' := (.array .long)) (by decide) (by decide)))
  replace F_o_length := F_o_length.other Wr (Or.inr (slot_ne (Or.inl (hw _ (List.mem_of_getElem? (i := 25) rfl))) (Or.inl (hw _ (List.mem_of_getElem? (i := 14) rfl))) (by decide) (t := .long) (t' := (.array .long)) (by decide) (by decide)))
  replace A_r := A_r.keep K (ninS (Ne.symm n_o_r) nin0)
  replace A_t := A_t.keep K (ninS (Ne.symm n_o_t) nin0)
  exact own_vret X B dc_18 (by decide) (by decide) ⟨rfl, r, t, z_r, z_t, n_r_t, F_o_starts, F_o_places, F_o_message, F_o_runs, F_o_length, A_r, A_t⟩
theorem dd_0 : decode prog_5_method_2_code 0 = .ok (.aload_n 0, 1) := by decide +kernel
theorem dd_1 : decode prog_5_method_2_code 1 = .ok (.getfield 16, 3) := by decide +kernel
theorem dd_4 : decode prog_5_method_2_code 4 = .ok (.ifnull 21, 3) := by decide +kernel
theorem dd_7 : decode prog_5_method_2_code 7 = .ok (.aload_n 0, 1) := by decide +kernel
theorem dd_8 : decode prog_5_method_2_code 8 = .ok (.getfield 16, 3) := by decide +kernel
theorem dd_11 : decode prog_5_method_2_code 11 = .ok (.aload_n 1, 1) := by decide +kernel
theorem dd_12 : decode prog_5_method_2_code 12 = .ok (.if_acmp .eq 13, 3) := by decide +kernel
theorem dd_15 : decode prog_5_method_2_code 15 = .ok (.new 20, 3) := by decide +kernel
theorem dd_18 : decode prog_5_method_2_code 18 = .ok (.dup, 1) := by decide +kernel
theorem dd_19 : decode prog_5_method_2_code 19 = .ok (.ldc 22, 2) := by decide +kernel
theorem dd_21 : decode prog_5_method_2_code 21 = .ok (.invokespecial 24, 3) := by decide +kernel
theorem dd_24 : decode prog_5_method_2_code 24 = .ok (.athrow, 1) := by decide +kernel
theorem dd_25 : decode prog_5_method_2_code 25 = .ok (.aload_n 0, 1) := by decide +kernel
theorem dd_26 : decode prog_5_method_2_code 26 = .ok (.aload_n 1, 1) := by decide +kernel
theorem dd_27 : decode prog_5_method_2_code 27 = .ok (.putfield 16, 3) := by decide +kernel
theorem dd_30 : decode prog_5_method_2_code 30 = .ok (.aload_n 0, 1) := by decide +kernel
theorem dd_31 : decode prog_5_method_2_code 31 = .ok (.getfield 27, 3) := by decide +kernel
theorem dd_34 : decode prog_5_method_2_code 34 = .ok (.aload_n 0, 1) := by decide +kernel
theorem dd_35 : decode prog_5_method_2_code 35 = .ok (.getfield 7, 3) := by decide +kernel
theorem dd_38 : decode prog_5_method_2_code 38 = .ok (.arraylength, 1) := by decide +kernel
theorem dd_39 : decode prog_5_method_2_code 39 = .ok (.if_icmp .ne 37, 3) := by decide +kernel
theorem dd_42 : decode prog_5_method_2_code 42 = .ok (.aload_n 0, 1) := by decide +kernel
theorem dd_43 : decode prog_5_method_2_code 43 = .ok (.aload_n 0, 1) := by decide +kernel
theorem dd_44 : decode prog_5_method_2_code 44 = .ok (.getfield 7, 3) := by decide +kernel
theorem dd_47 : decode prog_5_method_2_code 47 = .ok (.aload_n 0, 1) := by decide +kernel
theorem dd_48 : decode prog_5_method_2_code 48 = .ok (.getfield 27, 3) := by decide +kernel
theorem dd_51 : decode prog_5_method_2_code 51 = .ok (.iconst 2, 1) := by decide +kernel
theorem dd_52 : decode prog_5_method_2_code 52 = .ok (.imul, 1) := by decide +kernel
theorem dd_53 : decode prog_5_method_2_code 53 = .ok (.invokestatic 31, 3) := by decide +kernel
theorem dd_56 : decode prog_5_method_2_code 56 = .ok (.putfield 7, 3) := by decide +kernel
theorem dd_59 : decode prog_5_method_2_code 59 = .ok (.aload_n 0, 1) := by decide +kernel
theorem dd_60 : decode prog_5_method_2_code 60 = .ok (.aload_n 0, 1) := by decide +kernel
theorem dd_61 : decode prog_5_method_2_code 61 = .ok (.getfield 13, 3) := by decide +kernel
theorem dd_64 : decode prog_5_method_2_code 64 = .ok (.aload_n 0, 1) := by decide +kernel
theorem dd_65 : decode prog_5_method_2_code 65 = .ok (.getfield 27, 3) := by decide +kernel
theorem dd_68 : decode prog_5_method_2_code 68 = .ok (.iconst 2, 1) := by decide +kernel
theorem dd_69 : decode prog_5_method_2_code 69 = .ok (.imul, 1) := by decide +kernel
theorem dd_70 : decode prog_5_method_2_code 70 = .ok (.invokestatic 31, 3) := by decide +kernel
theorem dd_73 : decode prog_5_method_2_code 73 = .ok (.putfield 13, 3) := by decide +kernel
theorem dd_76 : decode prog_5_method_2_code 76 = .ok (.aload_n 0, 1) := by decide +kernel
theorem dd_77 : decode prog_5_method_2_code 77 = .ok (.getfield 7, 3) := by decide +kernel
theorem dd_80 : decode prog_5_method_2_code 80 = .ok (.aload_n 0, 1) := by decide +kernel
theorem dd_81 : decode prog_5_method_2_code 81 = .ok (.getfield 27, 3) := by decide +kernel
theorem dd_84 : decode prog_5_method_2_code 84 = .ok (.aload_n 0, 1) := by decide +kernel
theorem dd_85 : decode prog_5_method_2_code 85 = .ok (.getfield 37, 3) := by decide +kernel
theorem dd_88 : decode prog_5_method_2_code 88 = .ok (.lastore, 1) := by decide +kernel
theorem dd_89 : decode prog_5_method_2_code 89 = .ok (.aload_n 0, 1) := by decide +kernel
theorem dd_90 : decode prog_5_method_2_code 90 = .ok (.getfield 13, 3) := by decide +kernel
theorem dd_93 : decode prog_5_method_2_code 93 = .ok (.aload_n 0, 1) := by decide +kernel
theorem dd_94 : decode prog_5_method_2_code 94 = .ok (.getfield 27, 3) := by decide +kernel
theorem dd_97 : decode prog_5_method_2_code 97 = .ok (.lload_n 2, 1) := by decide +kernel
theorem dd_98 : decode prog_5_method_2_code 98 = .ok (.lastore, 1) := by decide +kernel
theorem dd_99 : decode prog_5_method_2_code 99 = .ok (.aload_n 0, 1) := by decide +kernel
theorem dd_100 : decode prog_5_method_2_code 100 = .ok (.dup, 1) := by decide +kernel
theorem dd_101 : decode prog_5_method_2_code 101 = .ok (.getfield 27, 3) := by decide +kernel
theorem dd_104 : decode prog_5_method_2_code 104 = .ok (.iconst 1, 1) := by decide +kernel
theorem dd_105 : decode prog_5_method_2_code 105 = .ok (.iadd, 1) := by decide +kernel
theorem dd_106 : decode prog_5_method_2_code 106 = .ok (.putfield 27, 3) := by decide +kernel
theorem dd_109 : decode prog_5_method_2_code 109 = .ok (.aload_n 0, 1) := by decide +kernel
theorem dd_110 : decode prog_5_method_2_code 110 = .ok (.dup, 1) := by decide +kernel
theorem dd_111 : decode prog_5_method_2_code 111 = .ok (.getfield 37, 3) := by decide +kernel
theorem dd_114 : decode prog_5_method_2_code 114 = .ok (.lload 4, 2) := by decide +kernel
theorem dd_116 : decode prog_5_method_2_code 116 = .ok (.ladd, 1) := by decide +kernel
theorem dd_117 : decode prog_5_method_2_code 117 = .ok (.putfield 37, 3) := by decide +kernel
theorem dd_120 : decode prog_5_method_2_code 120 = .ok (.return_, 1) := by decide +kernel
set_option maxRecDepth 65536 in
set_option maxHeartbeats 40000000 in
theorem rm4 (l : Launch) (Z : State) (a0 : Array Value) (hw : ∀ d ∈ tables_1, d.before a0 Z = true) (o : Addr) (r : Addr) (t : Addr) (mg : Addr) (mv : Value) (n : Nat) (cp : Nat) (gs : Nat → Int64) (gp : Nat → Int64) (ln : Int64) (pl : Int64) (ct : Int64) (h0 : Heap) (n0 : Nat) (Z0 : n0 ≤ h0.size) (g_o : n0 ≤ o) (g_r : n0 ≤ r) (g_t : n0 ≤ t) (n_o_r : o ≠ r) (n_o_t : o ≠ t) (n_r_t : r ≠ t) (E_o : Exa Z h0 o "com/example/tightwire/tightwire/bits/BitRuns") (F_o_starts : Fld Z h0 o "com/example/tightwire/tightwire/bits/BitRuns" "starts" "[J" (.ref r)) (F_o_places : Fld Z h0 o "com/example/tightwire/tightwire/bits/BitRuns" "places" "[J" (.ref t)) (F_o_message : Fld Z h0 o "com/example/tightwire/tightwire/bits/BitRuns" "message" "[B" (mv)) (F_o_runs : Fld Z h0 o "com/example/tightwire/tightwire/bits/BitRuns" "runs" "I" (.int (Int32.ofNat n))) (F_o_length : Fld Z h0 o "com/example/tightwire/tightwire/bits/BitRuns" "length" "J" (.long ln)) (A_r : own_AJ Z h0 r cp gs) (A_t : own_AJ Z h0 t cp gp) (hmv : mv = .null ∨ mv = .ref mg) (hcp : own_cap n cp) (hn4 : n < 4) :
    own_C l Z (⟨"com/example/tightwire/tightwire/bits/BitRuns", "add", "([BJJ)V"⟩ : MethodName) prog_5_method_2_code 6 none [] ({ frames := 2, cells := 2, slots := 8, locals := 40 } : Room) #[.ref o, .ref mg, .long pl, .long ct] h0 n0 [o, r, t] (fun v h => v = none ∧ ∃ (r t : Addr) (cp : Nat) (gs' gp' : Nat → Int64), n0 ≤ r ∧ n0 ≤ t ∧ o ≠ r ∧ o ≠ t ∧ r ≠ t ∧ own_cap (n + 1) cp ∧ Fld Z h o "com/example/tightwire/tightwire/bits/BitRuns" "starts" "[J" (.ref r) ∧ Fld Z h o "com/example/tightwire/tightwire/bits/BitRuns" "places" "[J" (.ref t) ∧ Fld Z h o "com/example/tightwire/tightwire/bits/BitRuns" "message" "[B" (.ref mg) ∧ Fld Z h o "com/example/tightwire/tightwire/bits/BitRuns" "runs" "I" (.int (Int32.ofNat (n + 1))) ∧ Fld Z h o "com/example/tightwire/tightwire/bits/BitRuns" "length" "J" (.long (ln + ct)) ∧ own_AJ Z h r cp gs' ∧ own_AJ Z h t cp gp' ∧ ∀ i, i < n + 1 → gs' i = (if i = n then ln else gs i) ∧ gp' i = (if i = n then pl else gp i)) 2 8 := by
  refine own_enter (L0 := #[.val (.ref o), .val (.ref mg), .val (.long pl), .second, .val (.long ct), .second]) (plainFor_of_name (by first | (simp [plainName, overriddenIn]; done) | decide +kernel)) (fun m => by first | (simp [entryFrame, mkF, argsToLocals, Value.category]; done) | rfl) ?_
  intro p e s m below meth c T B X
  have J76 : ∀ (T : State) (h : Heap) (C : Nat) (S : Nat) (r1 : Addr) (t1 : Addr) (c1 : Nat) (f1 : Nat → Int64) (f2 : Nat → Int64), own_St p l e ({ frames := 2, cells := 2, slots := 8, locals := 40 } : Room) s m #[.ref o, .ref mg, .long pl, .long ct] below meth c n0 h0 [o, r, t] T h C S → Exa Z h o "com/example/tightwire/tightwire/bits/BitRuns" → Fld Z h o "com/example/tightwire/tightwire/bits/BitRuns" "starts" "[J" (.ref r1) → Fld Z h o "com/example/tightwire/tightwire/bits/BitRuns" "places" "[J" (.ref t1) → Fld Z h o "com/example/tightwire/tightwire/bits/BitRuns" "message" "[B" (.ref mg) → Fld Z h o "com/example/tightwire/tightwire/bits/BitRuns" "runs" "I" (.int (Int32.ofNat n)) → Fld Z h o "com/example/tightwire/tightwire/bits/BitRuns" "length" "J" (.long ln) → own_AJ Z h r1 c1 f1 → own_AJ Z h t1 c1 f2 → (C ≤ 2) → (S ≤ 8) → (n0 ≤ r1) → (n0 ≤ t1) → (r1 ∈ [o, r, t] ∨ h0.size ≤ r1) → (t1 ∈ [o, r, t] ∨ h0.size ≤ t1) → (o ≠ r1) → (o ≠ t1) → (r1 ≠ t1) → (own_cap (n + 1) c1) → (∀ i, i < n → f1 i = gs i ∧ f2 i = gp i) → own_G p e below s n0 h0 [o, r, t] (fun v h => v = none ∧ ∃ (r t : Addr) (cp : Nat) (gs' gp' : Nat → Int64), n0 ≤ r ∧ n0 ≤ t ∧ o ≠ r ∧ o ≠ t ∧ r ≠ t ∧ own_cap (n + 1) cp ∧ Fld Z h o "com/example/tightwire/tightwire/bits/BitRuns" "starts" "[J" (.ref r) ∧ Fld Z h o "com/example/tightwire/tightwire/bits/BitRuns" "places" "[J" (.ref t) ∧ Fld Z h o "com/example/tightwire/tightwire/bits/BitRuns" "message" "[B" (.ref mg) ∧ Fld Z h o "com/example/tightwire/tightwire/bits/BitRuns" "runs" "I" (.int (Int32.ofNat (n + 1))) ∧ Fld Z h o "com/example/tightwire/tightwire/bits/BitRuns" "length" "J" (.long (ln + ct)) ∧ own_AJ Z h r cp gs' ∧ own_AJ Z h t cp gp' ∧ ∀ i, i < n + 1 → gs' i = (if i = n then ln else gs i) ∧ gp' i = (if i = n then pl else gp i)) 2 8 T (mkF m 76 #[.val (.ref o), .val (.ref mg), .val (.long pl), .second, .val (.long ct), .second] []) := by
    intro T h C S r1 t1 c1 f1 f2 X E_o F_o_starts F_o_places F_o_message F_o_runs F_o_length A_r1 A_t1 hC hS g_r1 g_t1 w_r1 w_t1 n_o_r1 n_o_t1 n_r1_t1 hc1 hpre
    have hlt : n < c1 := own_cap_lt hc1
    refine own_aloadN X B dd_76 rfl rfl (pc' := 77) rfl ?_
    refine own_getF X B (hw _ (List.mem_of_getElem? (i := 11) rfl)) F_o_starts dd_77 (pc' := 80) rfl fun T X => ?_
    refine own_aloadN X B dd_80 rfl rfl (pc' := 81) rfl ?_
    refine own_getF X B (hw _ (List.mem_of_getElem? (i := 22) rfl)) F_o_runs dd_81 (pc' := 84) rfl fun T X => ?_
    refine own_aloadN X B dd_84 rfl rfl (pc' := 85) rfl ?_
    refine own_getF X B (hw _ (List.mem_of_getElem? (i := 24) rfl)) F_o_length dd_85 (pc' := 88) rfl fun T X => ?_
    refine own_lastore X B A_r1 (i := n) (own_nat (by omega)) hlt g_r1 w_r1 dd_88 (pc' := 89) rfl fun T h X K A_r1 => ?_
    replace E_o := E_o.keep K
    replace F_o_starts := F_o_starts.keep K (ninS n_o_r1 nin0)
    replace F_o_places := F_o_places.keep K (ninS n_o_r1 nin0)
    replace F_o_message := F_o_message.keep K (ninS n_o_r1 nin0)
    replace F_o_runs := F_o_runs.keep K (ninS n_o_r1 nin0)
    replace F_o_length := F_o_length.keep K (ninS n_o_r1 nin0)
    replace A_t1 := A_t1.keep K (ninS (Ne.symm n_r1_t1) nin0)
    refine own_aloadN X B dd_89 rfl rfl (pc' := 90) rfl ?_
    refine own_getF X B (hw _ (List.mem_of_getElem? (i := 13) rfl)) F_o_places dd_90 (pc' := 93) rfl fun T X => ?_
    refine own_aloadN X B dd_93 rfl rfl (pc' := 94) rfl ?_
    refine own_getF X B (hw _ (List.mem_of_getElem? (i := 22) rfl)) F_o_runs dd_94 (pc' := 97) rfl fun T X => ?_
    refine own_lloadN X B dd_97 rfl (pc' := 98) rfl ?_
    refine own_lastore X B A_t1 (i := n) (own_nat (by omega)) hlt g_t1 w_t1 dd_98 (pc' := 99) rfl fun T h X K A_t1 => ?_
    replace E_o := E_o.keep K
    replace F_o_starts := F_o_starts.keep K (ninS n_o_t1 nin0)
    replace F_o_places := F_o_places.keep K (ninS n_o_t1 nin0)
    replace F_o_message := F_o_message.keep K (ninS n_o_t1 nin0)
    replace F_o_runs := F_o_runs.keep K (ninS n_o_t1 nin0)
    replace F_o_length := F_o_length.keep K (ninS n_o_t1 nin0)
    replace A_r1 := A_r1.keep K (ninS n_r1_t1 nin0)
    refine own_aloadN X B dd_99 rfl rfl (pc' := 100) rfl ?_
    refine own_dup X B dd_100 rfl (pc' := 101) rfl ?_
    refine own_getF X B (hw _ (List.mem_of_getElem? (i := 22) rfl)) F_o_runs dd_101 (pc' := 104) rfl fun T X => ?_
    refine own_iconst X B dd_104 (v := (1 : Int32)) rfl (pc' := 105) rfl ?_
    refine own_iadd X B dd_105 (pc' := 106) rfl ?_
    rw [own_succ]
    refine own_putF X B (hw _ (List.mem_of_getElem? (i := 22) rfl)) F_o_runs E_o (Or.inl (hw _ (List.mem_of_getElem? (i := 23) rfl))) (hw _ (List.mem_of_getElem? (i := 2) rfl)) (ty := .int) (by decide) rfl rfl g_o (Or.inl (List.mem_of_getElem? (i := 0) rfl)) dd_106 (pc' := 109) rfl fun T h X Wr K E_o F_o_runs => ?_
    replace F_o_starts := F_o_starts.other Wr (Or.inr (slot_ne (Or.inl (hw _ (List.mem_of_getElem? (i := 12) rfl))) (Or.inl (hw _ (List.mem_of_getElem? (i := 23) rfl))) (by decide) (t := (.array .long)) (t' := .int) (by decide) (by decide)))
    replace F_o_places := F_o_places.other Wr (Or.inr (slot_ne (Or.inl (hw _ (List.mem_of_getElem? (i := 14) rfl))) (Or.inl (hw _ (List.mem_of_getElem? (i := 23) rfl))) (by decide) (t := (.array .long)) (t' := .int) (by decide) (by decide)))
    replace F_o_message := F_o_message.other Wr (Or.inr (slot_ne (Or.inl (hw _ (List.mem_of_getElem? (i := 21) rfl))) (Or.inl (hw _ (List.mem_of_getElem? (i := 23) rfl))) (by decide) (t := (.array .byte)) (t' := .int) (by decide) (by decide)))
    replace F_o_length := F_o_length.other Wr (Or.inr (slot_ne (Or.inl (hw _ (List.mem_of_getElem? (i := 25) rfl))) (Or.inl (hw _ (List.mem_of_getElem? (i := 23) rfl))) (by decide) (t := .long) (t' := .int) (by decide) (by decide)))
    replace A_r1 := A_r1.keep K (ninS (Ne.symm n_o_r1) nin0)
    replace A_t1 := A_t1.keep K (ninS (Ne.symm n_o_t1) nin0)
    refine own_aloadN X B dd_109 rfl rfl (pc' := 110) rfl ?_
    refine own_dup X B dd_110 rfl (pc' := 111) rfl ?_
    refine own_getF X B (hw _ (List.mem_of_getElem? (i := 24) rfl)) F_o_length dd_111 (pc' := 114) rfl fun T X => ?_
    refine own_lload X B dd_114 rfl (pc' := 116) rfl ?_
    refine own_ladd X B dd_116 (pc' := 117) rfl ?_
    refine own_putF X B (hw _ (List.mem_of_getElem? (i := 24) rfl)) F_o_length E_o (Or.inl (hw _ (List.mem_of_getElem? (i := 25) rfl))) (hw _ (List.mem_of_getElem? (i := 2) rfl)) (ty := .long) (by decide) rfl rfl g_o (Or.inl (List.mem_of_getElem? (i := 0) rfl)) dd_117 (pc' := 120) rfl fun T h X Wr K E_o F_o_length => ?_
    replace F_o_starts := F_o_starts.other Wr (Or.inr (slot_ne (Or.inl (hw _ (List.mem_of_getElem? (i := 12) rfl))) (Or.inl (hw _ (List.mem_of_getElem? (i := 25) rfl))) (by decide) (t := (.array .long)) (t' := .long) (by decide) (by decide)))
    replace F_o_places := F_o_places.other Wr (Or.inr (slot_ne (Or.inl (hw _ (List.mem_of_getElem? (i := 14) rfl))) (Or.inl (hw _ (List.mem_of_getElem? (i := 25) rfl))) (by decide) (t := (.array .long)) (t' := .long) (by decide) (by decide)))
    replace F_o_message := F_o_message.other Wr (Or.inr (slot_ne (Or.inl (hw _ (List.mem_of_getElem? (i := 21) rfl))) (Or.inl (hw _ (List.mem_of_getElem? (i := 25) rfl))) (by decide) (t := (.array .byte)) (t' := .long) (by decide) (by decide)))
    replace F_o_runs := F_o_runs.other Wr (Or.inr (slot_ne (Or.inl (hw _ (List.mem_of_getElem? (i := 23) rfl))) (Or.inl (hw _ (List.mem_of_getElem? (i := 25) rfl))) (by decide) (t := .int) (t' := .long) (by decide) (by decide)))
    replace A_r1 := A_r1.keep K (ninS (Ne.symm n_o_r1) nin0)
    replace A_t1 := A_t1.keep K (ninS (Ne.symm n_o_t1) nin0)
    exact own_vret X B dd_120 hC hS ⟨rfl, r1, t1, c1, _, _, g_r1, g_t1, n_o_r1, n_o_t1, n_r1_t1, hc1, F_o_starts, F_o_places, F_o_message, F_o_runs, F_o_length, A_r1, A_t1, fun i hi => by
      by_cases h : i = n
      · simp only [if_pos h]; exact ⟨trivial, trivial⟩
      · simp only [if_neg h]; exact hpre i (by omega)⟩
  have J25 : ∀ (T : State) (h : Heap), own_St p l e ({ frames := 2, cells := 2, slots := 8, locals := 40 } : Room) s m #[.ref o, .ref mg, .long pl, .long ct] below meth c n0 h0 [o, r, t] T h 0 0 → Exa Z h o "com/example/tightwire/tightwire/bits/BitRuns" → Fld Z h o "com/example/tightwire/tightwire/bits/BitRuns" "starts" "[J" (.ref r) → Fld Z h o "com/example/tightwire/tightwire/bits/BitRuns" "places" "[J" (.ref t) → Fld Z h o "com/example/tightwire/tightwire/bits/BitRuns" "message" "[B" (mv) → Fld Z h o "com/example/tightwire/tightwire/bits/BitRuns" "runs" "I" (.int (Int32.ofNat n)) → Fld Z h o "com/example/tightwire/tightwire/bits/BitRuns" "length" "J" (.long ln) → own_AJ Z h r cp gs → own_AJ Z h t cp gp → own_G p e below s n0 h0 [o, r, t] (fun v h => v = none ∧ ∃ (r t : Addr) (cp : Nat) (gs' gp' : Nat → Int64), n0 ≤ r ∧ n0 ≤ t ∧ o ≠ r ∧ o ≠ t ∧ r ≠ t ∧ own_cap (n + 1) cp ∧ Fld Z h o "com/example/tightwire/tightwire/bits/BitRuns" "starts" "[J" (.ref r) ∧ Fld Z h o "com/example/tightwire/tightwire/bits/BitRuns" "places" "[J" (.ref t) ∧ Fld Z h o "com/example/tightwire/tightwire/bits/BitRuns" "message" "[B" (.ref mg) ∧ Fld Z h o "com/example/tightwire/tightwire/bits/BitRuns" "runs" "I" (.int (Int32.ofNat (n + 1))) ∧ Fld Z h o "com/example/tightwire/tightwire/bits/BitRuns" "length" "J" (.long (ln + ct)) ∧ own_AJ Z h r cp gs' ∧ own_AJ Z h t cp gp' ∧ ∀ i, i < n + 1 → gs' i = (if i = n then ln else gs i) ∧ gp' i = (if i = n then pl else gp i)) 2 8 T (mkF m 25 #[.val (.ref o), .val (.ref mg), .val (.long pl), .second, .val (.long ct), .second] []) := by
    intro T h X E_o F_o_starts F_o_places F_o_message F_o_runs F_o_length A_r A_t
    refine own_aloadN X B dd_25 rfl rfl (pc' := 26) rfl ?_
    refine own_aloadN X B dd_26 rfl rfl (pc' := 27) rfl ?_
    refine own_putF X B (hw _ (List.mem_of_getElem? (i := 20) rfl)) F_o_message E_o (Or.inl (hw _ (List.mem_of_getElem? (i := 21) rfl))) (hw _ (List.mem_of_getElem? (i := 2) rfl)) (ty := (.array .byte)) (by decide) rfl rfl g_o (Or.inl (List.mem_of_getElem? (i := 0) rfl)) dd_27 (pc' := 30) rfl fun T h X Wr K E_o F_o_message => ?_
    replace F_o_starts := F_o_starts.other Wr (Or.inr (slot_ne (Or.inl (hw _ (List.mem_of_getElem? (i := 12) rfl))) (Or.inl (hw _ (List.mem_of_getElem? (i := 21) rfl))) (by decide) (t := (.array .long)) (t' := (.array .byte)) (by decide) (by decide)))
    replace F_o_places := F_o_places.other Wr (Or.inr (slot_ne (Or.inl (hw _ (List.mem_of_getElem? (i := 14) rfl))) (Or.inl (hw _ (List.mem_of_getElem? (i := 21) rfl))) (by decide) (t := (.array .long)) (t' := (.array .byte)) (by decide) (by decide)))
    replace F_o_runs := F_o_runs.other Wr (Or.inr (slot_ne (Or.inl (hw _ (List.mem_of_getElem? (i := 23) rfl))) (Or.inl (hw _ (List.mem_of_getElem? (i := 21) rfl))) (by decide) (t := .int) (t' := (.array .byte)) (by decide) (by decide)))
    replace F_o_length := F_o_length.other Wr (Or.inr (slot_ne (Or.inl (hw _ (List.mem_of_getElem? (i := 25) rfl))) (Or.inl (hw _ (List.mem_of_getElem? (i := 21) rfl))) (by decide) (t := .long) (t' := (.array .byte)) (by decide) (by decide)))
    replace A_r := A_r.keep K (ninS (Ne.symm n_o_r) nin0)
    replace A_t := A_t.keep K (ninS (Ne.symm n_o_t) nin0)
    refine own_aloadN X B dd_30 rfl rfl (pc' := 31) rfl ?_
    refine own_getF X B (hw _ (List.mem_of_getElem? (i := 22) rfl)) F_o_runs dd_31 (pc' := 34) rfl fun T X => ?_
    refine own_aloadN X B dd_34 rfl rfl (pc' := 35) rfl ?_
    refine own_getF X B (hw _ (List.mem_of_getElem? (i := 11) rfl)) F_o_starts dd_35 (pc' := 38) rfl fun T X => ?_
    refine own_lenJ X B A_r dd_38 (pc' := 39) rfl ?_
    by_cases hc : (Int32.ofNat n) = (Int32.ofNat cp)
    · -- hc
      refine own_icmpF X B dd_39 (teq hc).2 (pc' := 42) rfl ?_
      have hnc : n = cp := (own_eqN (by omega) (own_cap_b hcp)).mp hc
      have hn0 : 0 < n := by unfold own_cap at hcp; omega
      have h24 : n * 2 ≤ 4 := by unfold own_cap at hcp; omega
      refine own_aloadN X B dd_42 rfl rfl (pc' := 43) rfl ?_
      refine own_aloadN X B dd_43 rfl rfl (pc' := 44) rfl ?_
      refine own_getF X B (hw _ (List.mem_of_getElem? (i := 11) rfl)) F_o_starts dd_44 (pc' := 47) rfl fun T X => ?_
      refine own_aloadN X B dd_47 rfl rfl (pc' := 48) rfl ?_
      refine own_getF X B (hw _ (List.mem_of_getElem? (i := 22) rfl)) F_o_runs dd_48 (pc' := 51) rfl fun T X => ?_
      refine own_iconst X B dd_51 (v := (2 : Int32)) rfl (pc' := 52) rfl ?_
      refine own_imul X B dd_52 (pc' := 53) rfl ?_
      rw [show (2 : Int32) = Int32.ofNat 2 from rfl, own_mul]
      have lto := E_o.lt
      have sz := own_szh X
      refine own_callS X B (W := 1) (hw _ (List.mem_of_getElem? (i := 37) rfl)) (hw _ (List.mem_of_getElem? (i := 38) rfl)) (hw _ (List.mem_of_getElem? (i := 39) rfl)) (hw _ (List.mem_of_getElem? (i := 40) rfl)) (by decide) (rm2 l Z a0 hw r cp (n * 2) gs h n0 (own_sz X Z0) A_r (by omega) h24) (by decide) (by decide) (by decide) (by decide) rfl (argsL := [.ref r, .int (Int32.ofNat (n * 2))]) pd_6 rfl rfl (st := [.ref o]) rfl (Nat.le_refl _) dd_53 (pc' := 56) rfl all0 ?_
      rintro v T h X K ⟨r1, rfl, z_r1, A_r1⟩
      replace E_o := E_o.keep K
      replace F_o_starts := F_o_starts.keep K nin0
      replace F_o_places := F_o_places.keep K nin0
      replace F_o_message := F_o_message.keep K nin0
      replace F_o_runs := F_o_runs.keep K nin0
      replace F_o_length := F_o_length.keep K nin0
      replace A_r := A_r.keep K nin0
      replace A_t := A_t.keep K nin0
      show own_H _ _ _ _ _ _ _ _ T (mkF m 56 #[.val (.ref o), .val (.ref mg), .val (.long pl), .second, .val (.long ct), .second] [.ref r1, .ref o])
      have n_o_r1 : o ≠ r1 := Nat.ne_of_lt (Nat.lt_of_lt_of_le lto z_r1)
      replace z_r1 := Nat.le_trans sz z_r1
      refine own_putF X B (hw _ (List.mem_of_getElem? (i := 11) rfl)) F_o_starts E_o (Or.inl (hw _ (List.mem_of_getElem? (i := 12) rfl))) (hw _ (List.mem_of_getElem? (i := 2) rfl)) (ty := (.array .long)) (by decide) rfl rfl g_o (Or.inl (List.mem_of_getElem? (i := 0) rfl)) dd_56 (pc' := 59) rfl fun T h X Wr K E_o F_o_starts => ?_
      replace F_o_places := F_o_places.other Wr (Or.inr (slot_ne (Or.inl (hw _ (List.mem_of_getElem? (i := 14) rfl))) (Or.inl (hw _ (List.mem_of_getElem? (i := 12) rfl))) (by decide) (t := (.array .long)) (t' := (.array .long)) (by decide) (by decide)))
      replace F_o_message := F_o_message.other Wr (Or.inr (slot_ne (Or.inl (hw _ (List.mem_of_getElem? (i := 21) rfl))) (Or.inl (hw _ (List.mem_of_getElem? (i := 12) rfl))) (by decide) (t := (.array .byte)) (t' := (.array .long)) (by decide) (by decide)))
      replace F_o_runs := F_o_runs.other Wr (Or.inr (slot_ne (Or.inl (hw _ (List.mem_of_getElem? (i := 23) rfl))) (Or.inl (hw _ (List.mem_of_getElem? (i := 12) rfl))) (by decide) (t := .int) (t' := (.array .long)) (by decide) (by decide)))
      replace F_o_length := F_o_length.other Wr (Or.inr (slot_ne (Or.inl (hw _ (List.mem_of_getElem? (i := 25) rfl))) (Or.inl (hw _ (List.mem_of_getElem? (i := 12) rfl))) (by decide) (t := .long) (t' := (.array .long)) (by decide) (by decide)))
      replace A_r := A_r.keep K (ninS (Ne.symm n_o_r) nin0)
      replace A_t := A_t.keep K (ninS (Ne.symm n_o_t) nin0)
      replace A_r1 := A_r1.keep K (ninS (Ne.symm n_o_r1) nin0)
      refine own_aloadN X B dd_59 rfl rfl (pc' := 60) rfl ?_
      refine own_aloadN X B dd_60 rfl rfl (pc' := 61) rfl ?_
      refine own_getF X B (hw _ (List.mem_of_getElem? (i := 13) rfl)) F_o_places dd_61 (pc' := 64) rfl fun T X => ?_
      refine own_aloadN X B dd_64 rfl rfl (pc' := 65) rfl ?_
      refine own_getF X B (hw _ (List.mem_of_getElem? (i := 22) rfl)) F_o_runs dd_65 (pc' := 68) rfl fun T X => ?_
      refine own_iconst X B dd_68 (v := (2 : Int32)) rfl (pc' := 69) rfl ?_
      refine own_imul X B dd_69 (pc' := 70) rfl ?_
      rw [show (2 : Int32) = Int32.ofNat 2 from rfl, own_mul]
      have lto := E_o.lt
      have sz := own_szh X
      have ltr := A_r1.lt
      refine own_callS X B (W := 1) (hw _ (List.mem_of_getElem? (i := 37) rfl)) (hw _ (List.mem_of_getElem? (i := 38) rfl)) (hw _ (List.mem_of_getElem? (i := 39) rfl)) (hw _ (List.mem_of_getElem? (i := 40) rfl)) (by decide) (rm2 l Z a0 hw t cp (n * 2) gp h n0 (own_sz X Z0) A_t (by omega) h24) (by decide) (by decide) (by decide) (by decide) rfl (argsL := [.ref t, .int (Int32.ofNat (n * 2))]) pd_6 rfl rfl (st := [.ref o]) rfl (Nat.le_refl _) dd_70 (pc' := 73) rfl all0 ?_
      rintro v T h X K ⟨t1, rfl, z_t1, A_t1⟩
      replace E_o := E_o.keep K
      replace F_o_starts := F_o_starts.keep K nin0
      replace F_o_places := F_o_places.keep K nin0
      replace F_o_message := F_o_message.keep K nin0
      replace F_o_runs := F_o_runs.keep K nin0
      replace F_o_length := F_o_length.keep K nin0
      replace A_r := A_r.keep K nin0
      replace A_t := A_t.keep K nin0
      replace A_r1 := A_r1.keep K nin0
      show own_H _ _ _ _ _ _ _ _ T (mkF m 73 #[.val (.ref o), .val (.ref mg), .val (.long pl), .second, .val (.long ct), .second] [.ref t1, .ref o])
      have n_o_t1 : o ≠ t1 := Nat.ne_of_lt (Nat.lt_of_lt_of_le lto z_t1)
      have n_r1_t1 : r1 ≠ t1 := Nat.ne_of_lt (Nat.lt_of_lt_of_le ltr z_t1)
      replace z_t1 := Nat.le_trans sz z_t1
      refine own_putF X B (hw _ (List.mem_of_getElem? (i := 13) rfl)) F_o_places E_o (Or.inl (hw _ (List.mem_of_getElem? (i := 14) rfl))) (hw _ (List.mem_of_getElem? (i := 2) rfl)) (ty := (.array .long)) (by decide) rfl rfl g_o (Or.inl (List.mem_of_getElem? (i := 0) rfl)) dd_73 (pc' := 76) rfl fun T h X Wr K E_o F_o_places => ?_
      replace F_o_starts := F_o_starts.other Wr (Or.inr (slot_ne (Or.inl (hw _ (List.mem_of_getElem? (i := 12) rfl))) (Or.inl (hw _ (List.mem_of_getElem? (i := 14) rfl))) (by decide) (t := (.array .long)) (t' := (.array .long)) (by decide) (by decide)))
      replace F_o_message := F_o_message.other Wr (Or.inr (slot_ne (Or.inl (hw _ (List.mem_of_getElem? (i := 21) rfl))) (Or.inl (hw _ (List.mem_of_getElem? (i := 14) rfl))) (by decide) (t := (.array .byte)) (t' := (.array .long)) (by decide) (by decide)))
      replace F_o_runs := F_o_runs.other Wr (Or.inr (slot_ne (Or.inl (hw _ (List.mem_of_getElem? (i := 23) rfl))) (Or.inl (hw _ (List.mem_of_getElem? (i := 14) rfl))) (by decide) (t := .int) (t' := (.array .long)) (by decide) (by decide)))
      replace F_o_length := F_o_length.other Wr (Or.inr (slot_ne (Or.inl (hw _ (List.mem_of_getElem? (i := 25) rfl))) (Or.inl (hw _ (List.mem_of_getElem? (i := 14) rfl))) (by decide) (t := .long) (t' := (.array .long)) (by decide) (by decide)))
      replace A_r := A_r.keep K (ninS (Ne.symm n_o_r) nin0)
      replace A_t := A_t.keep K (ninS (Ne.symm n_o_t) nin0)
      replace A_r1 := A_r1.keep K (ninS (Ne.symm n_o_r1) nin0)
      replace A_t1 := A_t1.keep K (ninS (Ne.symm n_o_t1) nin0)
      exact J76 _ _ _ _ r1 t1 _ _ _ X E_o F_o_starts F_o_places F_o_message F_o_runs F_o_length A_r1 A_t1 (by decide) (by decide) (Nat.le_trans Z0 z_r1) (Nat.le_trans Z0 z_t1) (Or.inr z_r1) (Or.inr z_t1) n_o_r1 n_o_t1 n_r1_t1 (own_cap_grow hcp hnc hn4 hn0) (fun i hi => ⟨if_pos (by omega), if_pos (by omega)⟩)
    · -- not hc
      refine own_icmpT X B dd_39 (feq hc).2 (pc' := 76) (by decide) (by decide) ?_
      exact J76 _ _ _ _ r t _ _ _ X E_o F_o_starts F_o_places F_o_message F_o_runs F_o_length A_r A_t (by decide) (by decide) g_r g_t (Or.inl (List.mem_of_getElem? (i := 1) rfl)) (Or.inl (List.mem_of_getElem? (i := 2) rfl)) n_o_r n_o_t n_r_t (own_cap_room hcp (fun q => hc (congrArg Int32.ofNat q))) (fun i hi => ⟨rfl, rfl⟩)
  rcases hmv with rfl | rfl
  · -- no message yet
    refine own_aloadN X B dd_0 rfl rfl (pc' := 1) rfl ?_
    refine own_getF X B (hw _ (List.mem_of_getElem? (i := 20) rfl)) F_o_message dd_1 (pc' := 4) rfl fun T X => ?_
    refine own_ifnullT X B dd_4 (pc' := 25) (by decide) (by decide) ?_
    exact J25 _ _ X E_o F_o_starts F_o_places F_o_message F_o_runs F_o_length A_r A_t
  · -- the same message
    refine own_aloadN X B dd_0 rfl rfl (pc' := 1) rfl ?_
    refine own_getF X B (hw _ (List.mem_of_getElem? (i := 20) rfl)) F_o_message dd_1 (pc' := 4) rfl fun T X => ?_
    refine own_ifnullF X B dd_4 (pc' := 7) rfl ?_
    refine own_aloadN X B dd_7 rfl rfl (pc' := 8) rfl ?_
    refine own_getF X B (hw _ (List.mem_of_getElem? (i := 20) rfl)) F_o_message dd_8 (pc' := 11) rfl fun T X => ?_
    refine own_aloadN X B dd_11 rfl rfl (pc' := 12) rfl ?_
    refine own_acmpSame X B dd_12 (pc' := 25) (by decide) (by decide) ?_
    exact J25 _ _ X E_o F_o_starts F_o_places F_o_message F_o_runs F_o_length A_r A_t
theorem de_0 : decode prog_5_method_3_code 0 = .ok (.aload_n 0, 1) := by decide +kernel
theorem de_1 : decode prog_5_method_3_code 1 = .ok (.getfield 37, 3) := by decide +kernel
theorem de_4 : decode prog_5_method_3_code 4 = .ok (.lreturn, 1) := by decide +kernel
set_option maxRecDepth 65536 in
set_option maxHeartbeats 40000000 in
theorem rm5 (l : Launch) (Z : State) (a0 : Array Value) (hw : ∀ d ∈ tables_1, d.before a0 Z = true) (o : Addr) (ln : Int64) (h0 : Heap) (n0 : Nat) (Z0 : n0 ≤ h0.size) (F_o_length : Fld Z h0 o "com/example/tightwire/tightwire/bits/BitRuns" "length" "J" (.long ln)) :
    own_C l Z (⟨"com/example/tightwire/tightwire/bits/BitRuns", "bitLength", "()J"⟩ : MethodName) prog_5_method_3_code 1 (some .long) [] ({ frames := 0, cells := 0, slots := 0, locals := 0 } : Room) #[.ref o] h0 n0 [] (fun v h => v = some (.long ln)) 0 0 := by
  refine own_enter (L0 := #[.val (.ref o)]) (plainFor_of_name (by first | (simp [plainName, overriddenIn]; done) | decide +kernel)) (fun m => by first | (simp [entryFrame, mkF, argsToLocals, Value.category]; done) | rfl) ?_
  intro p e s m below meth c T B X
  refine own_aloadN X B de_0 rfl rfl (pc' := 1) rfl ?_
  refine own_getF X B (hw _ (List.mem_of_getElem? (i := 24) rfl)) F_o_length de_1 (pc' := 4) rfl fun T X => ?_
  exact own_lret X B de_4 (by decide) (by decide) rfl
theorem df_0 : decode prog_5_method_4_code 0 = .ok (.iconst 0, 1) := by decide +kernel
theorem df_1 : decode prog_5_method_4_code 1 = .ok (.istore_n 3, 1) := by decide +kernel
theorem df_2 : decode prog_5_method_4_code 2 = .ok (.aload_n 0, 1) := by decide +kernel
theorem df_3 : decode prog_5_method_4_code 3 = .ok (.getfield 27, 3) := by decide +kernel
theorem df_6 : decode prog_5_method_4_code 6 = .ok (.iconst 1, 1) := by decide +kernel
theorem df_7 : decode prog_5_method_4_code 7 = .ok (.isub, 1) := by decide +kernel
theorem df_8 : decode prog_5_method_4_code 8 = .ok (.istore 4, 2) := by decide +kernel
theorem df_10 : decode prog_5_method_4_code 10 = .ok (.iload_n 3, 1) := by decide +kernel
theorem df_11 : decode prog_5_method_4_code 11 = .ok (.iload 4, 2) := by decide +kernel
theorem df_13 : decode prog_5_method_4_code 13 = .ok (.if_icmp .ge 40, 3) := by decide +kernel
theorem df_16 : decode prog_5_method_4_code 16 = .ok (.iload_n 3, 1) := by decide +kernel
theorem df_17 : decode prog_5_method_4_code 17 = .ok (.iload 4, 2) := by decide +kernel
theorem df_19 : decode prog_5_method_4_code 19 = .ok (.iadd, 1) := by decide +kernel
theorem df_20 : decode prog_5_method_4_code 20 = .ok (.iconst 1, 1) := by decide +kernel
theorem df_21 : decode prog_5_method_4_code 21 = .ok (.iadd, 1) := by decide +kernel
theorem df_22 : decode prog_5_method_4_code 22 = .ok (.iconst 1, 1) := by decide +kernel
theorem df_23 : decode prog_5_method_4_code 23 = .ok (.iushr, 1) := by decide +kernel
theorem df_24 : decode prog_5_method_4_code 24 = .ok (.istore 5, 2) := by decide +kernel
theorem df_26 : decode prog_5_method_4_code 26 = .ok (.aload_n 0, 1) := by decide +kernel
theorem df_27 : decode prog_5_method_4_code 27 = .ok (.getfield 7, 3) := by decide +kernel
theorem df_30 : decode prog_5_method_4_code 30 = .ok (.iload 5, 2) := by decide +kernel
theorem df_32 : decode prog_5_method_4_code 32 = .ok (.laload, 1) := by decide +kernel
theorem df_33 : decode prog_5_method_4_code 33 = .ok (.lload_n 1, 1) := by decide +kernel
theorem df_34 : decode prog_5_method_4_code 34 = .ok (.lcmp, 1) := by decide +kernel
theorem df_35 : decode prog_5_method_4_code 35 = .ok (.ifCond .gt 9, 3) := by decide +kernel
theorem df_38 : decode prog_5_method_4_code 38 = .ok (.iload 5, 2) := by decide +kernel
theorem df_40 : decode prog_5_method_4_code 40 = .ok (.istore_n 3, 1) := by decide +kernel
theorem df_41 : decode prog_5_method_4_code 41 = .ok (.goto 9, 3) := by decide +kernel
theorem df_44 : decode prog_5_method_4_code 44 = .ok (.iload 5, 2) := by decide +kernel
theorem df_46 : decode prog_5_method_4_code 46 = .ok (.iconst 1, 1) := by decide +kernel
theorem df_47 : decode prog_5_method_4_code 47 = .ok (.isub, 1) := by decide +kernel
theorem df_48 : decode prog_5_method_4_code 48 = .ok (.istore 4, 2) := by decide +kernel
theorem df_50 : decode prog_5_method_4_code 50 = .ok (.goto (-40), 3) := by decide +kernel
theorem df_53 : decode prog_5_method_4_code 53 = .ok (.aload_n 0, 1) := by decide +kernel
theorem df_54 : decode prog_5_method_4_code 54 = .ok (.getfield 13, 3) := by decide +kernel
theorem df_57 : decode prog_5_method_4_code 57 = .ok (.iload_n 3, 1) := by decide +kernel
theorem df_58 : decode prog_5_method_4_code 58 = .ok (.laload, 1) := by decide +kernel
theorem df_59 : decode prog_5_method_4_code 59 = .ok (.lload_n 1, 1) := by decide +kernel
theorem df_60 : decode prog_5_method_4_code 60 = .ok (.ladd, 1) := by decide +kernel
theorem df_61 : decode prog_5_method_4_code 61 = .ok (.aload_n 0, 1) := by decide +kernel
theorem df_62 : decode prog_5_method_4_code 62 = .ok (.getfield 7, 3) := by decide +kernel
theorem df_65 : decode prog_5_method_4_code 65 = .ok (.iload_n 3, 1) := by decide +kernel
theorem df_66 : decode prog_5_method_4_code 66 = .ok (.laload, 1) := by decide +kernel
theorem df_67 : decode prog_5_method_4_code 67 = .ok (.lsub, 1) := by decide +kernel
theorem df_68 : decode prog_5_method_4_code 68 = .ok (.lreturn, 1) := by decide +kernel
set_option maxRecDepth 65536 in
set_option maxHeartbeats 40000000 in
theorem rm6 (l : Launch) (Z : State) (a0 : Array Value) (hw : ∀ d ∈ tables_1, d.before a0 Z = true) (o : Addr) (r : Addr) (t : Addr) (bi : Int64) (n : Nat) (cp : Nat) (gs : Nat → Int64) (gp : Nat → Int64) (h0 : Heap) (n0 : Nat) (Z0 : n0 ≤ h0.size) (F_o_starts : Fld Z h0 o "com/example/tightwire/tightwire/bits/BitRuns" "starts" "[J" (.ref r)) (F_o_places : Fld Z h0 o "com/example/tightwire/tightwire/bits/BitRuns" "places" "[J" (.ref t)) (F_o_runs : Fld Z h0 o "com/example/tightwire/tightwire/bits/BitRuns" "runs" "I" (.int (Int32.ofNat n))) (A_r : own_AJ Z h0 r cp gs) (A_t : own_AJ Z h0 t cp gp) (hn : 0 < n) (hn4 : n ≤ 4) (hnc : n ≤ cp) (hS : ∀ i, i + 1 < n → ∀ b, b < gs i → b < gs (i + 1)) :
    own_C l Z (⟨"com/example/tightwire/tightwire/bits/BitRuns", "position", "(J)J"⟩ : MethodName) prog_5_method_4_code 6 (some .long) [] ({ frames := 0, cells := 0, slots := 0, locals := 0 } : Room) #[.ref o, .long bi] h0 n0 [] (fun v h => ∃ k, k < n ∧ (k = 0 ∨ ¬ bi < gs k) ∧ (∀ i, k < i → i < n → bi < gs i) ∧ v = some (.long (gp k + bi - gs k))) 0 0 := by
  refine own_enter (L0 := #[.val (.ref o), .val (.long bi), .second, .unset, .unset, .unset]) (plainFor_of_name (by first | (simp [plainName, overriddenIn]; done) | decide +kernel)) (fun m => by first | (simp [entryFrame, mkF, argsToLocals, Value.category]; done) | rfl) ?_
  intro p e s m below meth c T B X
  have loop : ∀ (k lo hi : Nat) (T : State) (s5 : Slot), hi ≤ lo + k → lo ≤ hi → hi < n → (lo = 0 ∨ ¬ bi < gs lo) → (∀ i, hi < i → i < n → bi < gs i) → One s5 → own_St p l e ({ frames := 0, cells := 0, slots := 0, locals := 0 } : Room) s m #[.ref o, .long bi] below meth c n0 h0 [] T h0 0 0 → own_G p e below s n0 h0 [] (fun v h => ∃ k, k < n ∧ (k = 0 ∨ ¬ bi < gs k) ∧ (∀ i, k < i → i < n → bi < gs i) ∧ v = some (.long (gp k + bi - gs k))) 0 0 T (mkF m 10 #[.val (.ref o), .val (.long bi), .second, .val (.int (Int32.ofNat lo)), .val (.int (Int32.ofNat hi)), s5] []) := by
    intro k
    induction k with
    | zero =>
      intro lo hi T s5 hk hlh hhn hlo hhi hs5 X
      refine own_iloadN X B df_10 rfl (pc' := 11) rfl ?_
      refine own_iload X B df_11 rfl (pc' := 13) rfl ?_
      refine own_icmpT X B df_13 (flt (by rw [own_ltN (by omega) (by omega)]; omega)).2.1 (pc' := 53) (by decide) (by decide) ?_
      refine own_aloadN X B df_53 rfl rfl (pc' := 54) rfl ?_
      refine own_getF X B (hw _ (List.mem_of_getElem? (i := 13) rfl)) F_o_places df_54 (pc' := 57) rfl fun T X => ?_
      refine own_iloadN X B df_57 rfl (pc' := 58) rfl ?_
      refine own_laload X B A_t (i := lo) (own_nat (by omega)) (by omega) df_58 (pc' := 59) rfl ?_
      show own_H _ _ _ _ _ _ _ _ T (mkF m 59 #[.val (.ref o), .val (.long bi), .second, .val (.int (Int32.ofNat lo)), .val (.int (Int32.ofNat hi)), s5] [.long (gp lo)])
      refine own_lloadN X B df_59 rfl (pc' := 60) rfl ?_
      refine own_ladd X B df_60 (pc' := 61) rfl ?_
      refine own_aloadN X B df_61 rfl rfl (pc' := 62) rfl ?_
      refine own_getF X B (hw _ (List.mem_of_getElem? (i := 11) rfl)) F_o_starts df_62 (pc' := 65) rfl fun T X => ?_
      refine own_iloadN X B df_65 rfl (pc' := 66) rfl ?_
      refine own_laload X B A_r (i := lo) (own_nat (by omega)) (by omega) df_66 (pc' := 67) rfl ?_
      show own_H _ _ _ _ _ _ _ _ T (mkF m 67 #[.val (.ref o), .val (.long bi), .second, .val (.int (Int32.ofNat lo)), .val (.int (Int32.ofNat hi)), s5] [.long (gs lo), .long ((gp lo) + bi)])
      refine own_lsub X B df_67 (pc' := 68) rfl ?_
      exact own_lret X B df_68 (by decide) (by decide) ⟨lo, by omega, hlo, fun i h1 h2 => hhi i (by omega) h2, rfl⟩
    | succ k ih =>
      intro lo hi T s5 hk hlh hhn hlo hhi hs5 X
      refine own_iloadN X B df_10 rfl (pc' := 11) rfl ?_
      refine own_iload X B df_11 rfl (pc' := 13) rfl ?_
      by_cases hc : lo < hi
      · -- hc
        refine own_icmpF X B df_13 (tlt ((own_ltN (by omega) (by omega)).mpr hc)).2.1 (pc' := 16) rfl ?_
        refine own_iloadN X B df_16 rfl (pc' := 17) rfl ?_
        refine own_iload X B df_17 rfl (pc' := 19) rfl ?_
        refine own_iadd X B df_19 (pc' := 20) rfl ?_
        rw [own_add]
        refine own_iconst X B df_20 (v := (1 : Int32)) rfl (pc' := 21) rfl ?_
        refine own_iadd X B df_21 (pc' := 22) rfl ?_
        rw [own_succ]
        refine own_iconst X B df_22 (v := (1 : Int32)) rfl (pc' := 23) rfl ?_
        refine own_iushr X B df_23 (pc' := 24) rfl ?_
        rw [own_ushr1 _ (by omega)]
        refine own_istore X B df_24 (L' := #[.val (.ref o), .val (.long bi), .second, .val (.int (Int32.ofNat lo)), .val (.int (Int32.ofNat hi)), .val (.int (Int32.ofNat ((lo + hi + 1) / 2)))]) (XS.store1 rfl hs5 rfl) (pc' := 26) rfl ?_
        refine own_aloadN X B df_26 rfl rfl (pc' := 27) rfl ?_
        refine own_getF X B (hw _ (List.mem_of_getElem? (i := 11) rfl)) F_o_starts df_27 (pc' := 30) rfl fun T X => ?_
        refine own_iload X B df_30 rfl (pc' := 32) rfl ?_
        refine own_laload X B A_r (i := ((lo + hi + 1) / 2)) (own_nat (by omega)) (by omega) df_32 (pc' := 33) rfl ?_
        show own_H _ _ _ _ _ _ _ _ T (mkF m 33 #[.val (.ref o), .val (.long bi), .second, .val (.int (Int32.ofNat lo)), .val (.int (Int32.ofNat hi)), .val (.int (Int32.ofNat ((lo + hi + 1) / 2)))] [.long (gs ((lo + hi + 1) / 2))])
        refine own_lloadN X B df_33 rfl (pc' := 34) rfl ?_
        refine own_lcmp X B df_34 (pc' := 35) rfl ?_
        by_cases hm0 : (0 : Int32) < (lcmpW (gs ((lo + hi + 1) / 2)) bi)
        · -- hm0
          refine own_ifT X B df_35 (tlt hm0).2.2.1 (pc' := 44) (by decide) (by decide) ?_
          have hm : bi < gs ((lo + hi + 1) / 2) := (lw_gt _ _).mp hm0
          refine own_iload X B df_44 rfl (pc' := 46) rfl ?_
          refine own_iconst X B df_46 (v := (1 : Int32)) rfl (pc' := 47) rfl ?_
          refine own_isub X B df_47 (pc' := 48) rfl ?_
          rw [own_pred1 (by omega)]
          refine own_istore X B df_48 (L' := #[.val (.ref o), .val (.long bi), .second, .val (.int (Int32.ofNat lo)), .val (.int (Int32.ofNat (((lo + hi + 1) / 2) - 1))), .val (.int (Int32.ofNat ((lo + hi + 1) / 2)))]) rfl (pc' := 50) rfl ?_
          refine own_goto X B df_50 (pc' := 10) (by decide) (by decide) ?_
          exact ih lo (((lo + hi + 1) / 2) - 1) T _ (by omega) (by omega) (by omega) hlo (fun i h1 h2 => by
            by_cases h3 : i = ((lo + hi + 1) / 2)
            · rw [h3]; exact hm
            · by_cases h4 : hi < i
              · exact hhi i h4 h2
              · exact own_mono hS hm (by omega) h2) (One.val rfl) X
        · -- not hm0
          refine own_ifF X B df_35 (flt hm0).2.2.1 (pc' := 38) rfl ?_
          have hm : ¬ bi < gs ((lo + hi + 1) / 2) := fun q => hm0 ((lw_gt _ _).mpr q)
          refine own_iload X B df_38 rfl (pc' := 40) rfl ?_
          refine own_istoreN X B df_40 (L' := #[.val (.ref o), .val (.long bi), .second, .val (.int (Int32.ofNat ((lo + hi + 1) / 2))), .val (.int (Int32.ofNat hi)), .val (.int (Int32.ofNat ((lo + hi + 1) / 2)))]) rfl (pc' := 41) rfl ?_
          refine own_goto X B df_41 (pc' := 50) (by decide) (by decide) ?_
          refine own_goto X B df_50 (pc' := 10) (by decide) (by decide) ?_
          exact ih ((lo + hi + 1) / 2) hi T _ (by omega) (by omega) hhn (Or.inr hm) hhi (One.val rfl) X
      · -- not hc
        refine own_icmpT X B df_13 (flt (mt (own_ltN (by omega) (by omega)).mp hc)).2.1 (pc' := 53) (by decide) (by decide) ?_
        refine own_aloadN X B df_53 rfl rfl (pc' := 54) rfl ?_
        refine own_getF X B (hw _ (List.mem_of_getElem? (i := 13) rfl)) F_o_places df_54 (pc' := 57) rfl fun T X => ?_
        refine own_iloadN X B df_57 rfl (pc' := 58) rfl ?_
        refine own_laload X B A_t (i := lo) (own_nat (by omega)) (by omega) df_58 (pc' := 59) rfl ?_
        show own_H _ _ _ _ _ _ _ _ T (mkF m 59 #[.val (.ref o), .val (.long bi), .second, .val (.int (Int32.ofNat lo)), .val (.int (Int32.ofNat hi)), s5] [.long (gp lo)])
        refine own_lloadN X B df_59 rfl (pc' := 60) rfl ?_
        refine own_ladd X B df_60 (pc' := 61) rfl ?_
        refine own_aloadN X B df_61 rfl rfl (pc' := 62) rfl ?_
        refine own_getF X B (hw _ (List.mem_of_getElem? (i := 11) rfl)) F_o_starts df_62 (pc' := 65) rfl fun T X => ?_
        refine own_iloadN X B df_65 rfl (pc' := 66) rfl ?_
        refine own_laload X B A_r (i := lo) (own_nat (by omega)) (by omega) df_66 (pc' := 67) rfl ?_
        show own_H _ _ _ _ _ _ _ _ T (mkF m 67 #[.val (.ref o), .val (.long bi), .second, .val (.int (Int32.ofNat lo)), .val (.int (Int32.ofNat hi)), s5] [.long (gs lo), .long ((gp lo) + bi)])
        refine own_lsub X B df_67 (pc' := 68) rfl ?_
        exact own_lret X B df_68 (by decide) (by decide) ⟨lo, by omega, hlo, fun i h1 h2 => hhi i (by omega) h2, rfl⟩
  refine own_iconst X B df_0 (v := (0 : Int32)) rfl (pc' := 1) rfl ?_
  refine own_istoreN X B df_1 (L' := #[.val (.ref o), .val (.long bi), .second, .val (.int (0 : Int32)), .unset, .unset]) rfl (pc' := 2) rfl ?_
  refine own_aloadN X B df_2 rfl rfl (pc' := 3) rfl ?_
  refine own_getF X B (hw _ (List.mem_of_getElem? (i := 22) rfl)) F_o_runs df_3 (pc' := 6) rfl fun T X => ?_
  refine own_iconst X B df_6 (v := (1 : Int32)) rfl (pc' := 7) rfl ?_
  refine own_isub X B df_7 (pc' := 8) rfl ?_
  rw [own_pred1 hn]
  refine own_istore X B df_8 (L' := #[.val (.ref o), .val (.long bi), .second, .val (.int (0 : Int32)), .val (.int (Int32.ofNat (n - 1))), .unset]) rfl (pc' := 10) rfl ?_
  exact loop n 0 (n - 1) T _ (by omega) (by omega) (by omega) (Or.inl rfl) (fun i h1 h2 => by omega) One.u X
set_option maxRecDepth 65536 in
set_option maxHeartbeats 40000000 in
theorem rm0 (l : Launch) (Z : State) (a0 : Array Value) (hw : ∀ d ∈ tables_1, d.before a0 Z = true) (p0 : Int64) (p1 : Int64) (p2 : Int64) (p3 : Int64) (x : Int32) (y : Int32) (h0 : Heap) (n0 : Nat) (Z0 : n0 ≤ h0.size) (Z1 : h0.size ≤ n0) :
    own_C l Z Jvm.Pilot.@@N@@.x code maxLocals ret tables_1 room_1 #[.long p0, .long p1, .long p2, .long p3, .int x, .int y] h0 n0 [] (fun v h => v = some (.int 1)) 24 128 := by
  refine own_enter (L0 := #[.val (.long p0), .second, .val (.long p1), .second, .val (.long p2), .second, .val (.long p3), .second, .val (.int x), .val (.int y), .unset, .unset, .unset, .unset, .unset, .unset, .unset, .unset, .unset, .unset, .unset, .unset, .unset, .unset, .unset, .unset, .unset, .unset, .unset, .unset, .unset, .unset, .unset]) (plainFor_of_name (by first | (simp [plainName, overriddenIn]; done) | decide +kernel)) (fun m => by first | (simp [entryFrame, mkF, argsToLocals, Value.category, maxLocals]; done) | rfl) ?_
  intro p e s m below meth c T B X
  refine own_iload X B at_0 rfl (pc' := 2) rfl ?_
  refine own_bipush X B at_2 (v := (7 : Int32)) rfl (pc' := 4) rfl ?_
  refine own_iand X B at_4 (pc' := 5) rfl ?_
  obtain ⟨c0, hc0, ec0⟩ := own_mask x (7 : Int32) 3 (by decide) (by decide)
  rw [ec0]
  replace hc0 : c0 < 8 := hc0
  refine own_istore X B at_5 (L' := #[.val (.long p0), .second, .val (.long p1), .second, .val (.long p2), .second, .val (.long p3), .second, .val (.int x), .val (.int y), .val (.int (Int32.ofNat c0)), .unset, .unset, .unset, .unset, .unset, .unset, .unset, .unset, .unset, .unset, .unset, .unset, .unset, .unset, .unset, .unset, .unset, .unset, .unset, .unset, .unset, .unset]) rfl (pc' := 7) rfl ?_
  refine own_iload X B at_7 rfl (pc' := 9) rfl ?_
  refine own_iconst X B at_9 (v := (3 : Int32)) rfl (pc' := 10) rfl ?_
  refine own_iushr X B at_10 (pc' := 11) rfl ?_
  refine own_bipush X B at_11 (v := (7 : Int32)) rfl (pc' := 13) rfl ?_
  refine own_iand X B at_13 (pc' := 14) rfl ?_
  obtain ⟨c1, hc1, ec1⟩ := own_mask ((x.toUInt32 >>> ((3 : Int32) &&& 31).toUInt32).toInt32) (7 : Int32) 3 (by decide) (by decide)
  rw [ec1]
  replace hc1 : c1 < 8 := hc1
  refine own_istore X B at_14 (L' := #[.val (.long p0), .second, .val (.long p1), .second, .val (.long p2), .second, .val (.long p3), .second, .val (.int x), .val (.int y), .val (.int (Int32.ofNat c0)), .val (.int (Int32.ofNat c1)), .unset, .unset, .unset, .unset, .unset, .unset, .unset, .unset, .unset, .unset, .unset, .unset, .unset, .unset, .unset, .unset, .unset, .unset, .unset, .unset, .unset]) rfl (pc' := 16) rfl ?_
  refine own_iload X B at_16 rfl (pc' := 18) rfl ?_
  refine own_bipush X B at_18 (v := (6 : Int32)) rfl (pc' := 20) rfl ?_
  refine own_iushr X B at_20 (pc' := 21) rfl ?_
  refine own_bipush X B at_21 (v := (7 : Int32)) rfl (pc' := 23) rfl ?_
  refine own_iand X B at_23 (pc' := 24) rfl ?_
  obtain ⟨c2, hc2, ec2⟩ := own_mask ((x.toUInt32 >>> ((6 : Int32) &&& 31).toUInt32).toInt32) (7 : Int32) 3 (by decide) (by decide)
  rw [ec2]
  replace hc2 : c2 < 8 := hc2
  refine own_istore X B at_24 (L' := #[.val (.long p0), .second, .val (.long p1), .second, .val (.long p2), .second, .val (.long p3), .second, .val (.int x), .val (.int y), .val (.int (Int32.ofNat c0)), .val (.int (Int32.ofNat c1)), .val (.int (Int32.ofNat c2)), .unset, .unset, .unset, .unset, .unset, .unset, .unset, .unset, .unset, .unset, .unset, .unset, .unset, .unset, .unset, .unset, .unset, .unset, .unset, .unset]) rfl (pc' := 26) rfl ?_
  refine own_iload X B at_26 rfl (pc' := 28) rfl ?_
  refine own_bipush X B at_28 (v := (9 : Int32)) rfl (pc' := 30) rfl ?_
  refine own_iushr X B at_30 (pc' := 31) rfl ?_
  refine own_bipush X B at_31 (v := (7 : Int32)) rfl (pc' := 33) rfl ?_
  refine own_iand X B at_33 (pc' := 34) rfl ?_
  obtain ⟨c3, hc3, ec3⟩ := own_mask ((x.toUInt32 >>> ((9 : Int32) &&& 31).toUInt32).toInt32) (7 : Int32) 3 (by decide) (by decide)
  rw [ec3]
  replace hc3 : c3 < 8 := hc3
  refine own_istore X B at_34 (L' := #[.val (.long p0), .second, .val (.long p1), .second, .val (.long p2), .second, .val (.long p3), .second, .val (.int x), .val (.int y), .val (.int (Int32.ofNat c0)), .val (.int (Int32.ofNat c1)), .val (.int (Int32.ofNat c2)), .val (.int (Int32.ofNat c3)), .unset, .unset, .unset, .unset, .unset, .unset, .unset, .unset, .unset, .unset, .unset, .unset, .unset, .unset, .unset, .unset, .unset, .unset, .unset]) rfl (pc' := 36) rfl ?_
  refine own_iload X B at_36 rfl (pc' := 38) rfl ?_
  refine own_bipush X B at_38 (v := (12 : Int32)) rfl (pc' := 40) rfl ?_
  refine own_iushr X B at_40 (pc' := 41) rfl ?_
  refine own_iconst X B at_41 (v := (3 : Int32)) rfl (pc' := 42) rfl ?_
  refine own_iand X B at_42 (pc' := 43) rfl ?_
  obtain ⟨mm, hmm, emm⟩ := own_mask ((x.toUInt32 >>> ((12 : Int32) &&& 31).toUInt32).toInt32) (3 : Int32) 2 (by decide) (by decide)
  rw [emm]
  replace hmm : mm < 4 := hmm
  refine own_iconst X B at_43 (v := (1 : Int32)) rfl (pc' := 44) rfl ?_
  refine own_iadd X B at_44 (pc' := 45) rfl ?_
  rw [own_succ]
  obtain rfl | rfl | rfl | rfl : mm = 0 ∨ mm = 1 ∨ mm = 2 ∨ mm = 3 := by omega
  · -- 1 runs
    show own_H _ _ _ _ _ _ _ _ T (mkF m 45 #[.val (.long p0), .second, .val (.long p1), .second, .val (.long p2), .second, .val (.long p3), .second, .val (.int x), .val (.int y), .val (.int (Int32.ofNat c0)), .val (.int (Int32.ofNat c1)), .val (.int (Int32.ofNat c2)), .val (.int (Int32.ofNat c3)), .unset, .unset, .unset, .unset, .unset, .unset, .unset, .unset, .unset, .unset, .unset, .unset, .unset, .unset, .unset, .unset, .unset, .unset, .unset] [.int (Int32.ofNat 1)])
    refine own_istore X B at_45 (L' := #[.val (.long p0), .second, .val (.long p1), .second, .val (.long p2), .second, .val (.long p3), .second, .val (.int x), .val (.int y), .val (.int (Int32.ofNat c0)), .val (.int (Int32.ofNat c1)), .val (.int (Int32.ofNat c2)), .val (.int (Int32.ofNat c3)), .val (.int (Int32.ofNat 1)), .unset, .unset, .unset, .unset, .unset, .unset, .unset, .unset, .unset, .unset, .unset, .unset, .unset, .unset, .unset, .unset, .unset, .unset]) rfl (pc' := 47) rfl ?_
    refine own_iconst X B at_47 (v := (4 : Int32)) rfl (pc' := 48) rfl ?_
    refine own_newB X B (hw _ (List.mem_of_getElem? (i := 0) rfl)) (n := 4) (cap := 4) rfl (by decide) (by decide) (by decide) (by decide) at_48 (pc' := 50) rfl fun T h mg g_mg X K z_mg => ?_
    refine own_astore X B at_50 rfl (L' := #[.val (.long p0), .second, .val (.long p1), .second, .val (.long p2), .second, .val (.long p3), .second, .val (.int x), .val (.int y), .val (.int (Int32.ofNat c0)), .val (.int (Int32.ofNat c1)), .val (.int (Int32.ofNat c2)), .val (.int (Int32.ofNat c3)), .val (.int (Int32.ofNat 1)), .val (.ref mg), .unset, .unset, .unset, .unset, .unset, .unset, .unset, .unset, .unset, .unset, .unset, .unset, .unset, .unset, .unset, .unset, .unset]) rfl (pc' := 52) rfl ?_
    refine own_newO X B (hw _ (List.mem_of_getElem? (i := 1) rfl)) (hw _ (List.mem_of_getElem? (i := 2) rfl)) (hw _ (List.mem_of_getElem? (i := 3) rfl)) (by decide) (by decide) at_52 (pc' := 55) rfl fun T h b1 g_b1 X K E_b1 D_b1 z_b1 => ?_
    have F_b1_starts : Fld Z h b1 "com/example/tightwire/tightwire/bits/BitRuns" "starts" "[J" .null := D_b1 (Or.inl (hw _ (List.mem_of_getElem? (i := 12) rfl))) (ty := (.array .long)) (by decide)
    have F_b1_places : Fld Z h b1 "com/example/tightwire/tightwire/bits/BitRuns" "places" "[J" .null := D_b1 (Or.inl (hw _ (List.mem_of_getElem? (i := 14) rfl))) (ty := (.array .long)) (by decide)
    have F_b1_message : Fld Z h b1 "com/example/tightwire/tightwire/bits/BitRuns" "message" "[B" .null := D_b1 (Or.inl (hw _ (List.mem_of_getElem? (i := 21) rfl))) (ty := (.array .byte)) (by decide)
    have F_b1_runs : Fld Z h b1 "com/example/tightwire/tightwire/bits/BitRuns" "runs" "I" (.int (0 : Int32)) := D_b1 (Or.inl (hw _ (List.mem_of_getElem? (i := 23) rfl))) (ty := .int) (by decide)
    have F_b1_length : Fld Z h b1 "com/example/tightwire/tightwire/bits/BitRuns" "length" "J" (.long (0 : Int64)) := D_b1 (Or.inl (hw _ (List.mem_of_getElem? (i := 25) rfl))) (ty := .long) (by decide)
    refine own_dup X B at_55 rfl (pc' := 56) rfl ?_
    have sz := own_sz X Z0
    have ltb := E_b1.lt
    refine own_callI X B (W := 1) rfl (hw _ (List.mem_of_getElem? (i := 4) rfl)) (hw _ (List.mem_of_getElem? (i := 5) rfl)) (hw _ (List.mem_of_getElem? (i := 6) rfl)) (hw _ (List.mem_of_getElem? (i := 3) rfl)) (by decide) (rm3 l Z a0 hw b1 h n0 (own_sz X Z0) (Nat.le_trans Z0 z_b1) E_b1 F_b1_starts F_b1_places F_b1_message F_b1_runs F_b1_length) (by decide) (by decide) (by decide) (by decide) rfl (argsL := []) pd_1 rfl rfl (st := [.ref b1]) rfl (Nat.le_refl _) at_56 (pc' := 59) rfl (allS (Or.inr z_b1) all0) ?_
    rintro v T h X K ⟨rfl, r, t, z_r, z_t, n_r_t, F_b1_starts, F_b1_places, F_b1_message, F_b1_runs, F_b1_length, A_r, A_t⟩
    replace E_b1 := E_b1.keep K
    show own_H _ _ _ _ _ _ _ _ T (mkF m 59 #[.val (.long p0), .second, .val (.long p1), .second, .val (.long p2), .second, .val (.long p3), .second, .val (.int x), .val (.int y), .val (.int (Int32.ofNat c0)), .val (.int (Int32.ofNat c1)), .val (.int (Int32.ofNat c2)), .val (.int (Int32.ofNat c3)), .val (.int (Int32.ofNat 1)), .val (.ref mg), .unset, .unset, .unset, .unset, .unset, .unset, .unset, .unset, .unset, .unset, .unset, .unset, .unset, .unset, .unset, .unset, .unset] [.ref b1])
    have n_b1_r : b1 ≠ r := Nat.ne_of_lt (Nat.lt_of_lt_of_le ltb z_r)
    have n_b1_t : b1 ≠ t := Nat.ne_of_lt (Nat.lt_of_lt_of_le ltb z_t)
    have g_r := Nat.le_trans sz z_r
    have g_t := Nat.le_trans sz z_t
    have hcp : own_cap 0 1 := by unfold own_cap; omega
    have hall : ∀ i, i < 0 → (fun _ => 0 : Nat → Int64) i = own_S c0 c1 c2 c3 i ∧ (fun _ => 0 : Nat → Int64) i = own_P p0 p1 p2 p3 i := fun i hi => absurd hi (Nat.not_lt_zero i)
    refine own_astore X B at_59 rfl (L' := #[.val (.long p0), .second, .val (.long p1), .second, .val (.long p2), .second, .val (.long p3), .second, .val (.int x), .val (.int y), .val (.int (Int32.ofNat c0)), .val (.int (Int32.ofNat c1)), .val (.int (Int32.ofNat c2)), .val (.int (Int32.ofNat c3)), .val (.int (Int32.ofNat 1)), .val (.ref mg), .val (.ref b1), .unset, .unset, .unset, .unset, .unset, .unset, .unset, .unset, .unset, .unset, .unset, .unset, .unset, .unset, .unset, .unset]) rfl (pc' := 61) rfl ?_
    refine own_aload X B at_61 rfl rfl (pc' := 63) rfl ?_
    refine own_aload X B at_63 rfl rfl (pc' := 65) rfl ?_
    refine own_lloadN X B at_65 rfl (pc' := 66) rfl ?_
    refine own_iload X B at_66 rfl (pc' := 68) rfl ?_
    refine own_i2l X B at_68 (pc' := 69) rfl ?_
    refine own_callV X B (W := 0) (hw _ (List.mem_of_getElem? (i := 15) rfl)) (hw _ (List.mem_of_getElem? (i := 16) rfl)) (hw _ (List.mem_of_getElem? (i := 18) rfl)) (hw _ (List.mem_of_getElem? (i := 17) rfl)) (hw _ (List.mem_of_getElem? (i := 19) rfl)) (hw _ (List.mem_of_getElem? (i := 3) rfl)) (by decide) E_b1 (rm4 l Z a0 hw b1 r t mg .null 0 1 (fun _ => 0) (fun _ => 0) (0 : Int64) p0 (Int32.ofNat c0).toInt64 h n0 (own_sz X Z0) (Nat.le_trans Z0 z_b1) g_r g_t n_b1_r n_b1_t n_r_t E_b1 F_b1_starts F_b1_places F_b1_message F_b1_runs F_b1_length A_r A_t (Or.inl rfl) hcp (by decide)) (by decide) (by decide) (by decide) (by decide) rfl (argsL := [.ref mg, .long p0, .long ((Int32.ofNat c0)).toInt64]) pd_3 rfl rfl (st := []) rfl (Nat.le_refl _) at_69 (pc' := 72) rfl (allS (Or.inr z_b1) (allS (Or.inr (Nat.le_trans Z1 g_r)) (allS (Or.inr (Nat.le_trans Z1 g_t)) all0))) ?_
    rintro v T h X K ⟨rfl, r, t, cp, gs1, gp1, g_r, g_t, n_b1_r, n_b1_t, n_r_t, hcp, F_b1_starts, F_b1_places, F_b1_message, F_b1_runs, F_b1_length, A_r, A_t, hgs⟩
    replace E_b1 := E_b1.keep K
    show own_H _ _ _ _ _ _ _ _ T (mkF m 72 #[.val (.long p0), .second, .val (.long p1), .second, .val (.long p2), .second, .val (.long p3), .second, .val (.int x), .val (.int y), .val (.int (Int32.ofNat c0)), .val (.int (Int32.ofNat c1)), .val (.int (Int32.ofNat c2)), .val (.int (Int32.ofNat c3)), .val (.int (Int32.ofNat 1)), .val (.ref mg), .val (.ref b1), .unset, .unset, .unset, .unset, .unset, .unset, .unset, .unset, .unset, .unset, .unset, .unset, .unset, .unset, .unset, .unset] [])
    replace hall : ∀ i, i < 1 → gs1 i = own_S c0 c1 c2 c3 i ∧ gp1 i = own_P p0 p1 p2 p3 i := own_all (n := 0) hall hgs rfl rfl
    rw [show (0 : Int64) + (Int32.ofNat c0).toInt64 = (own_S c0 c1 c2 c3 1) from own_add0 c0 (by omega)] at F_b1_length
    refine own_iload X B at_72 rfl (pc' := 74) rfl ?_
    refine own_iconst X B at_74 (v := (1 : Int32)) rfl (pc' := 75) rfl ?_
    refine own_icmpT X B at_75 (flt (by decide)).2.2.2 (pc' := 89) (by decide) (by decide) ?_
    refine own_iload X B at_89 rfl (pc' := 91) rfl ?_
    refine own_iconst X B at_91 (v := (2 : Int32)) rfl (pc' := 92) rfl ?_
    refine own_icmpT X B at_92 (flt (by decide)).2.2.2 (pc' := 107) (by decide) (by decide) ?_
    refine own_iload X B at_107 rfl (pc' := 109) rfl ?_
    refine own_iconst X B at_109 (v := (3 : Int32)) rfl (pc' := 110) rfl ?_
    refine own_icmpT X B at_110 (flt (by decide)).2.2.2 (pc' := 125) (by decide) (by decide) ?_
    refine own_iload X B at_125 rfl (pc' := 127) rfl ?_
    refine own_i2l X B at_127 (pc' := 128) rfl ?_
    rw [own_i2l_nat c0 (by omega)]
    show own_H _ _ _ _ _ _ _ _ T (mkF m 128 #[.val (.long p0), .second, .val (.long p1), .second, .val (.long p2), .second, .val (.long p3), .second, .val (.int x), .val (.int y), .val (.int (Int32.ofNat c0)), .val (.int (Int32.ofNat c1)), .val (.int (Int32.ofNat c2)), .val (.int (Int32.ofNat c3)), .val (.int (Int32.ofNat 1)), .val (.ref mg), .val (.ref b1), .unset, .unset, .unset, .unset, .unset, .unset, .unset, .unset, .unset, .unset, .unset, .unset, .unset, .unset, .unset, .unset] [.long (own_S c0 c1 c2 c3 1)])
    refine own_lstore X B at_128 (L' := #[.val (.long p0), .second, .val (.long p1), .second, .val (.long p2), .second, .val (.long p3), .second, .val (.int x), .val (.int y), .val (.int (Int32.ofNat c0)), .val (.int (Int32.ofNat c1)), .val (.int (Int32.ofNat c2)), .val (.int (Int32.ofNat c3)), .val (.int (Int32.ofNat 1)), .val (.ref mg), .val (.ref b1), .val (.long (own_S c0 c1 c2 c3 1)), .second, .unset, .unset, .unset, .unset, .unset, .unset, .unset, .unset, .unset, .unset, .unset, .unset, .unset, .unset]) rfl (pc' := 130) rfl ?_
    refine own_lload X B at_130 rfl (pc' := 132) rfl ?_
    refine own_iload X B at_132 rfl (pc' := 134) rfl ?_
    refine own_i2l X B at_134 (pc' := 135) rfl ?_
    refine own_ladd X B at_135 (pc' := 136) rfl ?_
    rw [show (own_S c0 c1 c2 c3 1) + (Int32.ofNat c1).toInt64 = (own_S c0 c1 c2 c3 2) from own_addL (own_sum c0 c1 c2 c3 1) c1 (own_sum_b c0 c1 c2 c3 1 hc0 hc1 hc2 hc3) (by omega)]
    refine own_lstore X B at_136 (L' := #[.val (.long p0), .second, .val (.long p1), .second, .val (.long p2), .second, .val (.long p3), .second, .val (.int x), .val (.int y), .val (.int (Int32.ofNat c0)), .val (.int (Int32.ofNat c1)), .val (.int (Int32.ofNat c2)), .val (.int (Int32.ofNat c3)), .val (.int (Int32.ofNat 1)), .val (.ref mg), .val (.ref b1), .val (.long (own_S c0 c1 c2 c3 1)), .second, .val (.long (own_S c0 c1 c2 c3 2)), .second, .unset, .unset, .unset, .unset, .unset, .unset, .unset, .unset, .unset, .unset, .unset, .unset]) rfl (pc' := 138) rfl ?_
    refine own_lload X B at_138 rfl (pc' := 140) rfl ?_
    refine own_iload X B at_140 rfl (pc' := 142) rfl ?_
    refine own_i2l X B at_142 (pc' := 143) rfl ?_
    refine own_ladd X B at_143 (pc' := 144) rfl ?_
    rw [show (own_S c0 c1 c2 c3 2) + (Int32.ofNat c2).toInt64 = (own_S c0 c1 c2 c3 3) from own_addL (own_sum c0 c1 c2 c3 2) c2 (own_sum_b c0 c1 c2 c3 2 hc0 hc1 hc2 hc3) (by omega)]
    refine own_lstore X B at_144 (L' := #[.val (.long p0), .second, .val (.long p1), .second, .val (.long p2), .second, .val (.long p3), .second, .val (.int x), .val (.int y), .val (.int (Int32.ofNat c0)), .val (.int (Int32.ofNat c1)), .val (.int (Int32.ofNat c2)), .val (.int (Int32.ofNat c3)), .val (.int (Int32.ofNat 1)), .val (.ref mg), .val (.ref b1), .val (.long (own_S c0 c1 c2 c3 1)), .second, .val (.long (own_S c0 c1 c2 c3 2)), .second, .val (.long (own_S c0 c1 c2 c3 3)), .second, .unset, .unset, .unset, .unset, .unset, .unset, .unset, .unset, .unset, .unset]) rfl (pc' := 146) rfl ?_
    refine own_iload X B at_146 rfl (pc' := 148) rfl ?_
    refine own_iconst X B at_148 (v := (1 : Int32)) rfl (pc' := 149) rfl ?_
    refine own_icmpF X B at_149 (teq rfl).2 (pc' := 152) rfl ?_
    refine own_lload X B at_152 rfl (pc' := 154) rfl ?_
    refine own_goto X B at_154 (pc' := 185) (by decide) (by decide) ?_
    refine own_lstore X B at_185 (L' := #[.val (.long p0), .second, .val (.long p1), .second, .val (.long p2), .second, .val (.long p3), .second, .val (.int x), .val (.int y), .val (.int (Int32.ofNat c0)), .val (.int (Int32.ofNat c1)), .val (.int (Int32.ofNat c2)), .val (.int (Int32.ofNat c3)), .val (.int (Int32.ofNat 1)), .val (.ref mg), .val (.ref b1), .val (.long (own_S c0 c1 c2 c3 1)), .second, .val (.long (own_S c0 c1 c2 c3 2)), .second, .val (.long (own_S c0 c1 c2 c3 3)), .second, .val (.long (own_S c0 c1 c2 c3 1)), .second, .unset, .unset, .unset, .unset, .unset, .unset, .unset, .unset]) rfl (pc' := 187) rfl ?_
    refine own_iload X B at_187 rfl (pc' := 189) rfl ?_
    refine own_lit X B (hw _ (List.mem_of_getElem? (i := 26) rfl)) at_189 (pc' := 191) rfl ?_
    refine own_iand X B at_191 (pc' := 192) rfl ?_
    refine own_lload X B at_192 rfl (pc' := 194) rfl ?_
    refine own_lconst X B at_194 (v := (1 : Int64)) rfl (pc' := 195) rfl ?_
    refine own_ladd X B at_195 (pc' := 196) rfl ?_
    refine own_l2i X B at_196 (pc' := 197) rfl ?_
    refine own_irem X B at_197 (own_nz _ (own_sum_le c0 c1 c2 c3 _ hc0 hc1 hc2 hc3)) (pc' := 198) rfl ?_
    refine own_i2l X B at_198 (pc' := 199) rfl ?_
    obtain ⟨bi, hbi⟩ : ∃ z : Int64, z = (((y &&& (2147483647 : Int32)) % (((own_S c0 c1 c2 c3 1) + (1 : Int64))).toInt32)).toInt64 := ⟨_, rfl⟩
    rw [← hbi]
    refine own_lstore X B at_199 (L' := #[.val (.long p0), .second, .val (.long p1), .second, .val (.long p2), .second, .val (.long p3), .second, .val (.int x), .val (.int y), .val (.int (Int32.ofNat c0)), .val (.int (Int32.ofNat c1)), .val (.int (Int32.ofNat c2)), .val (.int (Int32.ofNat c3)), .val (.int (Int32.ofNat 1)), .val (.ref mg), .val (.ref b1), .val (.long (own_S c0 c1 c2 c3 1)), .second, .val (.long (own_S c0 c1 c2 c3 2)), .second, .val (.long (own_S c0 c1 c2 c3 3)), .second, .val (.long (own_S c0 c1 c2 c3 1)), .second, .val (.long bi), .second, .unset, .unset, .unset, .unset, .unset, .unset]) rfl (pc' := 201) rfl ?_
    refine own_lconst X B at_201 (v := (0 : Int64)) rfl (pc' := 202) rfl ?_
    refine own_lstore X B at_202 (L' := #[.val (.long p0), .second, .val (.long p1), .second, .val (.long p2), .second, .val (.long p3), .second, .val (.int x), .val (.int y), .val (.int (Int32.ofNat c0)), .val (.int (Int32.ofNat c1)), .val (.int (Int32.ofNat c2)), .val (.int (Int32.ofNat c3)), .val (.int (Int32.ofNat 1)), .val (.ref mg), .val (.ref b1), .val (.long (own_S c0 c1 c2 c3 1)), .second, .val (.long (own_S c0 c1 c2 c3 2)), .second, .val (.long (own_S c0 c1 c2 c3 3)), .second, .val (.long (own_S c0 c1 c2 c3 1)), .second, .val (.long bi), .second, .val (.long (0 : Int64)), .second, .unset, .unset, .unset, .unset]) rfl (pc' := 204) rfl ?_
    refine own_lloadN X B at_204 rfl (pc' := 205) rfl ?_
    refine own_lstore X B at_205 (L' := #[.val (.long p0), .second, .val (.long p1), .second, .val (.long p2), .second, .val (.long p3), .second, .val (.int x), .val (.int y), .val (.int (Int32.ofNat c0)), .val (.int (Int32.ofNat c1)), .val (.int (Int32.ofNat c2)), .val (.int (Int32.ofNat c3)), .val (.int (Int32.ofNat 1)), .val (.ref mg), .val (.ref b1), .val (.long (own_S c0 c1 c2 c3 1)), .second, .val (.long (own_S c0 c1 c2 c3 2)), .second, .val (.long (own_S c0 c1 c2 c3 3)), .second, .val (.long (own_S c0 c1 c2 c3 1)), .second, .val (.long bi), .second, .val (.long (0 : Int64)), .second, .val (.long p0), .second, .unset, .unset]) rfl (pc' := 207) rfl ?_
    refine own_iload X B at_207 rfl (pc' := 209) rfl ?_
    refine own_iconst X B at_209 (v := (1 : Int32)) rfl (pc' := 210) rfl ?_
    have J272 : ∀ (T : State) (h : Heap) (st : Int64) (pl : Int64), own_St p l e room_1 s m #[.long p0, .long p1, .long p2, .long p3, .int x, .int y] below meth c n0 h0 [] T h 6 19 → Fld Z h b1 "com/example/tightwire/tightwire/bits/BitRuns" "starts" "[J" (.ref r) → Fld Z h b1 "com/example/tightwire/tightwire/bits/BitRuns" "places" "[J" (.ref t) → Fld Z h b1 "com/example/tightwire/tightwire/bits/BitRuns" "runs" "I" (.int (Int32.ofNat 1)) → Fld Z h b1 "com/example/tightwire/tightwire/bits/BitRuns" "length" "J" (.long (own_S c0 c1 c2 c3 1)) → own_AJ Z h r cp gs1 → own_AJ Z h t cp gp1 → Exa Z h b1 "com/example/tightwire/tightwire/bits/BitRuns" → (∃ k, k < 1 ∧ (k = 0 ∨ ¬ bi < own_S c0 c1 c2 c3 k) ∧ (∀ i, k < i → i < 1 → bi < own_S c0 c1 c2 c3 i) ∧ st = own_S c0 c1 c2 c3 k ∧ pl = own_P p0 p1 p2 p3 k) → own_G p e below s n0 h0 [] (fun v h => v = some (.int 1)) 24 128 T (mkF m 272 #[.val (.long p0), .second, .val (.long p1), .second, .val (.long p2), .second, .val (.long p3), .second, .val (.int x), .val (.int y), .val (.int (Int32.ofNat c0)), .val (.int (Int32.ofNat c1)), .val (.int (Int32.ofNat c2)), .val (.int (Int32.ofNat c3)), .val (.int (Int32.ofNat 1)), .val (.ref mg), .val (.ref b1), .val (.long (own_S c0 c1 c2 c3 1)), .second, .val (.long (own_S c0 c1 c2 c3 2)), .second, .val (.long (own_S c0 c1 c2 c3 3)), .second, .val (.long (own_S c0 c1 c2 c3 1)), .second, .val (.long bi), .second, .val (.long st), .second, .val (.long pl), .second, .unset, .unset] []) := by
      intro T h st pl X F_b1_starts F_b1_places F_b1_runs F_b1_length A_r A_t E_b1 hk
      refine own_lload X B at_272 rfl (pc' := 274) rfl ?_
      refine own_lload X B at_274 rfl (pc' := 276) rfl ?_
      refine own_ladd X B at_276 (pc' := 277) rfl ?_
      refine own_lload X B at_277 rfl (pc' := 279) rfl ?_
      refine own_lsub X B at_279 (pc' := 280) rfl ?_
      refine own_lstore X B at_280 (L' := #[.val (.long p0), .second, .val (.long p1), .second, .val (.long p2), .second, .val (.long p3), .second, .val (.int x), .val (.int y), .val (.int (Int32.ofNat c0)), .val (.int (Int32.ofNat c1)), .val (.int (Int32.ofNat c2)), .val (.int (Int32.ofNat c3)), .val (.int (Int32.ofNat 1)), .val (.ref mg), .val (.ref b1), .val (.long (own_S c0 c1 c2 c3 1)), .second, .val (.long (own_S c0 c1 c2 c3 2)), .second, .val (.long (own_S c0 c1 c2 c3 3)), .second, .val (.long (own_S c0 c1 c2 c3 1)), .second, .val (.long bi), .second, .val (.long st), .second, .val (.long pl), .second, .val (.long ((pl + bi) - st)), .second]) rfl (pc' := 282) rfl ?_
      refine own_aload X B at_282 rfl rfl (pc' := 284) rfl ?_
      refine own_callV X B (W := 0) (hw _ (List.mem_of_getElem? (i := 27) rfl)) (hw _ (List.mem_of_getElem? (i := 28) rfl)) (hw _ (List.mem_of_getElem? (i := 30) rfl)) (hw _ (List.mem_of_getElem? (i := 29) rfl)) (hw _ (List.mem_of_getElem? (i := 31) rfl)) (hw _ (List.mem_of_getElem? (i := 3) rfl)) (by decide) E_b1 (rm5 l Z a0 hw b1 (own_S c0 c1 c2 c3 1) h n0 (own_sz X Z0) F_b1_length) (by decide) (by decide) (by decide) (by decide) rfl (argsL := []) pd_4 rfl rfl (st := []) rfl (Nat.le_refl _) at_284 (pc' := 287) rfl all0 ?_
      rintro v T h X K rfl
      replace F_b1_starts := F_b1_starts.keep K nin0
      replace F_b1_places := F_b1_places.keep K nin0
      replace F_b1_runs := F_b1_runs.keep K nin0
      replace F_b1_length := F_b1_length.keep K nin0
      replace A_r := A_r.keep K nin0
      replace A_t := A_t.keep K nin0
      replace E_b1 := E_b1.keep K
      show own_H _ _ _ _ _ _ _ _ T (mkF m 287 #[.val (.long p0), .second, .val (.long p1), .second, .val (.long p2), .second, .val (.long p3), .second, .val (.int x), .val (.int y), .val (.int (Int32.ofNat c0)), .val (.int (Int32.ofNat c1)), .val (.int (Int32.ofNat c2)), .val (.int (Int32.ofNat c3)), .val (.int (Int32.ofNat 1)), .val (.ref mg), .val (.ref b1), .val (.long (own_S c0 c1 c2 c3 1)), .second, .val (.long (own_S c0 c1 c2 c3 2)), .second, .val (.long (own_S c0 c1 c2 c3 3)), .second, .val (.long (own_S c0 c1 c2 c3 1)), .second, .val (.long bi), .second, .val (.long st), .second, .val (.long pl), .second, .val (.long ((pl + bi) - st)), .second] [.long (own_S c0 c1 c2 c3 1)])
      refine own_lload X B at_287 rfl (pc' := 289) rfl ?_
      refine own_lcmp X B at_289 (pc' := 290) rfl ?_
      refine own_ifF X B at_290 (teq ((lw_eq _ _).mpr rfl)).2 (pc' := 293) rfl ?_
      refine own_aload X B at_293 rfl rfl (pc' := 295) rfl ?_
      refine own_lload X B at_295 rfl (pc' := 297) rfl ?_
      refine own_callV X B (W := 0) (hw _ (List.mem_of_getElem? (i := 32) rfl)) (hw _ (List.mem_of_getElem? (i := 33) rfl)) (hw _ (List.mem_of_getElem? (i := 35) rfl)) (hw _ (List.mem_of_getElem? (i := 34) rfl)) (hw _ (List.mem_of_getElem? (i := 36) rfl)) (hw _ (List.mem_of_getElem? (i := 3) rfl)) (by decide) E_b1 (rm6 l Z a0 hw b1 r t bi 1 cp gs1 gp1 h n0 (own_sz X Z0) F_b1_starts F_b1_places F_b1_runs A_r A_t (by decide) (by decide) (own_cap_le hcp) (own_sorted c0 c1 c2 c3 hc0 hc1 hc2 hc3 (by decide) hall)) (by decide) (by decide) (by decide) (by decide) rfl (argsL := [.long bi]) pd_5 rfl rfl (st := []) rfl (Nat.le_refl _) at_297 (pc' := 300) rfl all0 ?_
      rintro v T h X K ⟨k', hk1, hk2, hk3, rfl⟩
      replace F_b1_starts := F_b1_starts.keep K nin0
      replace F_b1_places := F_b1_places.keep K nin0
      replace F_b1_runs := F_b1_runs.keep K nin0
      replace F_b1_length := F_b1_length.keep K nin0
      replace A_r := A_r.keep K nin0
      replace A_t := A_t.keep K nin0
      replace E_b1 := E_b1.keep K
      show own_H _ _ _ _ _ _ _ _ T (mkF m 300 #[.val (.long p0), .second, .val (.long p1), .second, .val (.long p2), .second, .val (.long p3), .second, .val (.int x), .val (.int y), .val (.int (Int32.ofNat c0)), .val (.int (Int32.ofNat c1)), .val (.int (Int32.ofNat c2)), .val (.int (Int32.ofNat c3)), .val (.int (Int32.ofNat 1)), .val (.ref mg), .val (.ref b1), .val (.long (own_S c0 c1 c2 c3 1)), .second, .val (.long (own_S c0 c1 c2 c3 2)), .second, .val (.long (own_S c0 c1 c2 c3 3)), .second, .val (.long (own_S c0 c1 c2 c3 1)), .second, .val (.long bi), .second, .val (.long st), .second, .val (.long pl), .second, .val (.long ((pl + bi) - st)), .second] [.long (gp1 k' + bi - gs1 k')])
      refine own_lload X B at_300 rfl (pc' := 302) rfl ?_
      refine own_lcmp X B at_302 (pc' := 303) rfl ?_
      refine own_ifF X B at_303 (teq ((lw_eq _ _).mpr (own_same hall hk hk1 hk2 hk3))).2 (pc' := 306) rfl ?_
      refine own_iconst X B at_306 (v := (1 : Int32)) rfl (pc' := 307) rfl ?_
      refine own_goto X B at_307 (pc' := 311) (by decide) (by decide) ?_
      exact own_zret X B at_311 (by decide) (by decide) rfl rfl
    refine own_icmpT X B at_210 (flt (by decide)).2.2.2 (pc' := 228) (by decide) (by decide) ?_
    refine own_iload X B at_228 rfl (pc' := 230) rfl ?_
    refine own_iconst X B at_230 (v := (2 : Int32)) rfl (pc' := 231) rfl ?_
    refine own_icmpT X B at_231 (flt (by decide)).2.2.2 (pc' := 250) (by decide) (by decide) ?_
    refine own_iload X B at_250 rfl (pc' := 252) rfl ?_
    refine own_iconst X B at_252 (v := (3 : Int32)) rfl (pc' := 253) rfl ?_
    refine own_icmpT X B at_253 (flt (by decide)).2.2.2 (pc' := 272) (by decide) (by decide) ?_
    exact J272 _ _ _ _ X F_b1_starts F_b1_places F_b1_runs F_b1_length A_r A_t E_b1 ⟨0, by decide, Or.inl rfl, (fun i h1 h2 => by omega), rfl, rfl⟩
  · -- 2 runs
    show own_H _ _ _ _ _ _ _ _ T (mkF m 45 #[.val (.long p0), .second, .val (.long p1), .second, .val (.long p2), .second, .val (.long p3), .second, .val (.int x), .val (.int y), .val (.int (Int32.ofNat c0)), .val (.int (Int32.ofNat c1)), .val (.int (Int32.ofNat c2)), .val (.int (Int32.ofNat c3)), .unset, .unset, .unset, .unset, .unset, .unset, .unset, .unset, .unset, .unset, .unset, .unset, .unset, .unset, .unset, .unset, .unset, .unset, .unset] [.int (Int32.ofNat 2)])
    refine own_istore X B at_45 (L' := #[.val (.long p0), .second, .val (.long p1), .second, .val (.long p2), .second, .val (.long p3), .second, .val (.int x), .val (.int y), .val (.int (Int32.ofNat c0)), .val (.int (Int32.ofNat c1)), .val (.int (Int32.ofNat c2)), .val (.int (Int32.ofNat c3)), .val (.int (Int32.ofNat 2)), .unset, .unset, .unset, .unset, .unset, .unset, .unset, .unset, .unset, .unset, .unset, .unset, .unset, .unset, .unset, .unset, .unset, .unset]) rfl (pc' := 47) rfl ?_
    refine own_iconst X B at_47 (v := (4 : Int32)) rfl (pc' := 48) rfl ?_
    refine own_newB X B (hw _ (List.mem_of_getElem? (i := 0) rfl)) (n := 4) (cap := 4) rfl (by decide) (by decide) (by decide) (by decide) at_48 (pc' := 50) rfl fun T h mg g_mg X K z_mg => ?_
    refine own_astore X B at_50 rfl (L' := #[.val (.long p0), .second, .val (.long p1), .second, .val (.long p2), .second, .val (.long p3), .second, .val (.int x), .val (.int y), .val (.int (Int32.ofNat c0)), .val (.int (Int32.ofNat c1)), .val (.int (Int32.ofNat c2)), .val (.int (Int32.ofNat c3)), .val (.int (Int32.ofNat 2)), .val (.ref mg), .unset, .unset, .unset, .unset, .unset, .unset, .unset, .unset, .unset, .unset, .unset, .unset, .unset, .unset, .unset, .unset, .unset]) rfl (pc' := 52) rfl ?_
    refine own_newO X B (hw _ (List.mem_of_getElem? (i := 1) rfl)) (hw _ (List.mem_of_getElem? (i := 2) rfl)) (hw _ (List.mem_of_getElem? (i := 3) rfl)) (by decide) (by decide) at_52 (pc' := 55) rfl fun T h b1 g_b1 X K E_b1 D_b1 z_b1 => ?_
    have F_b1_starts : Fld Z h b1 "com/example/tightwire/tightwire/bits/BitRuns" "starts" "[J" .null := D_b1 (Or.inl (hw _ (List.mem_of_getElem? (i := 12) rfl))) (ty := (.array .long)) (by decide)
    have F_b1_places : Fld Z h b1 "com/example/tightwire/tightwire/bits/BitRuns" "places" "[J" .null := D_b1 (Or.inl (hw _ (List.mem_of_getElem? (i := 14) rfl))) (ty := (.array .long)) (by decide)
    have F_b1_message : Fld Z h b1 "com/example/tightwire/tightwire/bits/BitRuns" "message" "[B" .null := D_b1 (Or.inl (hw _ (List.mem_of_getElem? (i := 21) rfl))) (ty := (.array .byte)) (by decide)
    have F_b1_runs : Fld Z h b1 "com/example/tightwire/tightwire/bits/BitRuns" "runs" "I" (.int (0 : Int32)) := D_b1 (Or.inl (hw _ (List.mem_of_getElem? (i := 23) rfl))) (ty := .int) (by decide)
    have F_b1_length : Fld Z h b1 "com/example/tightwire/tightwire/bits/BitRuns" "length" "J" (.long (0 : Int64)) := D_b1 (Or.inl (hw _ (List.mem_of_getElem? (i := 25) rfl))) (ty := .long) (by decide)
    refine own_dup X B at_55 rfl (pc' := 56) rfl ?_
    have sz := own_sz X Z0
    have ltb := E_b1.lt
    refine own_callI X B (W := 1) rfl (hw _ (List.mem_of_getElem? (i := 4) rfl)) (hw _ (List.mem_of_getElem? (i := 5) rfl)) (hw _ (List.mem_of_getElem? (i := 6) rfl)) (hw _ (List.mem_of_getElem? (i := 3) rfl)) (by decide) (rm3 l Z a0 hw b1 h n0 (own_sz X Z0) (Nat.le_trans Z0 z_b1) E_b1 F_b1_starts F_b1_places F_b1_message F_b1_runs F_b1_length) (by decide) (by decide) (by decide) (by decide) rfl (argsL := []) pd_1 rfl rfl (st := [.ref b1]) rfl (Nat.le_refl _) at_56 (pc' := 59) rfl (allS (Or.inr z_b1) all0) ?_
    rintro v T h X K ⟨rfl, r, t, z_r, z_t, n_r_t, F_b1_starts, F_b1_places, F_b1_message, F_b1_runs, F_b1_length, A_r, A_t⟩
    replace E_b1 := E_b1.keep K
    show own_H _ _ _ _ _ _ _ _ T (mkF m 59 #[.val (.long p0), .second, .val (.long p1), .second, .val (.long p2), .second, .val (.long p3), .second, .val (.int x), .val (.int y), .val (.int (Int32.ofNat c0)), .val (.int (Int32.ofNat c1)), .val (.int (Int32.ofNat c2)), .val (.int (Int32.ofNat c3)), .val (.int (Int32.ofNat 2)), .val (.ref mg), .unset, .unset, .unset, .unset, .unset, .unset, .unset, .unset, .unset, .unset, .unset, .unset, .unset, .unset, .unset, .unset, .unset] [.ref b1])
    have n_b1_r : b1 ≠ r := Nat.ne_of_lt (Nat.lt_of_lt_of_le ltb z_r)
    have n_b1_t : b1 ≠ t := Nat.ne_of_lt (Nat.lt_of_lt_of_le ltb z_t)
    have g_r := Nat.le_trans sz z_r
    have g_t := Nat.le_trans sz z_t
    have hcp : own_cap 0 1 := by unfold own_cap; omega
    have hall : ∀ i, i < 0 → (fun _ => 0 : Nat → Int64) i = own_S c0 c1 c2 c3 i ∧ (fun _ => 0 : Nat → Int64) i = own_P p0 p1 p2 p3 i := fun i hi => absurd hi (Nat.not_lt_zero i)
    refine own_astore X B at_59 rfl (L' := #[.val (.long p0), .second, .val (.long p1), .second, .val (.long p2), .second, .val (.long p3), .second, .val (.int x), .val (.int y), .val (.int (Int32.ofNat c0)), .val (.int (Int32.ofNat c1)), .val (.int (Int32.ofNat c2)), .val (.int (Int32.ofNat c3)), .val (.int (Int32.ofNat 2)), .val (.ref mg), .val (.ref b1), .unset, .unset, .unset, .unset, .unset, .unset, .unset, .unset, .unset, .unset, .unset, .unset, .unset, .unset, .unset, .unset]) rfl (pc' := 61) rfl ?_
    refine own_aload X B at_61 rfl rfl (pc' := 63) rfl ?_
    refine own_aload X B at_63 rfl rfl (pc' := 65) rfl ?_
    refine own_lloadN X B at_65 rfl (pc' := 66) rfl ?_
    refine own_iload X B at_66 rfl (pc' := 68) rfl ?_
    refine own_i2l X B at_68 (pc' := 69) rfl ?_
    refine own_callV X B (W := 0) (hw _ (List.mem_of_getElem? (i := 15) rfl)) (hw _ (List.mem_of_getElem? (i := 16) rfl)) (hw _ (List.mem_of_getElem? (i := 18) rfl)) (hw _ (List.mem_of_getElem? (i := 17) rfl)) (hw _ (List.mem_of_getElem? (i := 19) rfl)) (hw _ (List.mem_of_getElem? (i := 3) rfl)) (by decide) E_b1 (rm4 l Z a0 hw b1 r t mg .null 0 1 (fun _ => 0) (fun _ => 0) (0 : Int64) p0 (Int32.ofNat c0).toInt64 h n0 (own_sz X Z0) (Nat.le_trans Z0 z_b1) g_r g_t n_b1_r n_b1_t n_r_t E_b1 F_b1_starts F_b1_places F_b1_message F_b1_runs F_b1_length A_r A_t (Or.inl rfl) hcp (by decide)) (by decide) (by decide) (by decide) (by decide) rfl (argsL := [.ref mg, .long p0, .long ((Int32.ofNat c0)).toInt64]) pd_3 rfl rfl (st := []) rfl (Nat.le_refl _) at_69 (pc' := 72) rfl (allS (Or.inr z_b1) (allS (Or.inr (Nat.le_trans Z1 g_r)) (allS (Or.inr (Nat.le_trans Z1 g_t)) all0))) ?_
    rintro v T h X K ⟨rfl, r, t, cp, gs1, gp1, g_r, g_t, n_b1_r, n_b1_t, n_r_t, hcp, F_b1_starts, F_b1_places, F_b1_message, F_b1_runs, F_b1_length, A_r, A_t, hgs⟩
    replace E_b1 := E_b1.keep K
    show own_H _ _ _ _ _ _ _ _ T (mkF m 72 #[.val (.long p0), .second, .val (.long p1), .second, .val (.long p2), .second, .val (.long p3), .second, .val (.int x), .val (.int y), .val (.int (Int32.ofNat c0)), .val (.int (Int32.ofNat c1)), .val (.int (Int32.ofNat c2)), .val (.int (Int32.ofNat c3)), .val (.int (Int32.ofNat 2)), .val (.ref mg), .val (.ref b1), .unset, .unset, .unset, .unset, .unset, .unset, .unset, .unset, .unset, .unset, .unset, .unset, .unset, .unset, .unset, .unset] [])
    replace hall : ∀ i, i < 1 → gs1 i = own_S c0 c1 c2 c3 i ∧ gp1 i = own_P p0 p1 p2 p3 i := own_all (n := 0) hall hgs rfl rfl
    rw [show (0 : Int64) + (Int32.ofNat c0).toInt64 = (own_S c0 c1 c2 c3 1) from own_add0 c0 (by omega)] at F_b1_length
    refine own_iload X B at_72 rfl (pc' := 74) rfl ?_
    refine own_iconst X B at_74 (v := (1 : Int32)) rfl (pc' := 75) rfl ?_
    refine own_icmpF X B at_75 (tlt (by decide)).2.2.2 (pc' := 78) rfl ?_
    refine own_aload X B at_78 rfl rfl (pc' := 80) rfl ?_
    refine own_aload X B at_80 rfl rfl (pc' := 82) rfl ?_
    refine own_lloadN X B at_82 rfl (pc' := 83) rfl ?_
    refine own_iload X B at_83 rfl (pc' := 85) rfl ?_
    refine own_i2l X B at_85 (pc' := 86) rfl ?_
    refine own_callV X B (W := 0) (hw _ (List.mem_of_getElem? (i := 15) rfl)) (hw _ (List.mem_of_getElem? (i := 16) rfl)) (hw _ (List.mem_of_getElem? (i := 18) rfl)) (hw _ (List.mem_of_getElem? (i := 17) rfl)) (hw _ (List.mem_of_getElem? (i := 19) rfl)) (hw _ (List.mem_of_getElem? (i := 3) rfl)) (by decide) E_b1 (rm4 l Z a0 hw b1 r t mg (.ref mg) 1 cp gs1 gp1 (own_S c0 c1 c2 c3 1) p1 (Int32.ofNat c1).toInt64 h n0 (own_sz X Z0) (Nat.le_trans Z0 z_b1) g_r g_t n_b1_r n_b1_t n_r_t E_b1 F_b1_starts F_b1_places F_b1_message F_b1_runs F_b1_length A_r A_t (Or.inr rfl) hcp (by decide)) (by decide) (by decide) (by decide) (by decide) rfl (argsL := [.ref mg, .long p1, .long ((Int32.ofNat c1)).toInt64]) pd_3 rfl rfl (st := []) rfl (Nat.le_refl _) at_86 (pc' := 89) rfl (allS (Or.inr z_b1) (allS (Or.inr (Nat.le_trans Z1 g_r)) (allS (Or.inr (Nat.le_trans Z1 g_t)) all0))) ?_
    rintro v T h X K ⟨rfl, r, t, cp, gs2, gp2, g_r, g_t, n_b1_r, n_b1_t, n_r_t, hcp, F_b1_starts, F_b1_places, F_b1_message, F_b1_runs, F_b1_length, A_r, A_t, hgs⟩
    replace E_b1 := E_b1.keep K
    show own_H _ _ _ _ _ _ _ _ T (mkF m 89 #[.val (.long p0), .second, .val (.long p1), .second, .val (.long p2), .second, .val (.long p3), .second, .val (.int x), .val (.int y), .val (.int (Int32.ofNat c0)), .val (.int (Int32.ofNat c1)), .val (.int (Int32.ofNat c2)), .val (.int (Int32.ofNat c3)), .val (.int (Int32.ofNat 2)), .val (.ref mg), .val (.ref b1), .unset, .unset, .unset, .unset, .unset, .unset, .unset, .unset, .unset, .unset, .unset, .unset, .unset, .unset, .unset, .unset] [])
    replace hall : ∀ i, i < 2 → gs2 i = own_S c0 c1 c2 c3 i ∧ gp2 i = own_P p0 p1 p2 p3 i := own_all (n := 1) hall hgs rfl rfl
    rw [show (own_S c0 c1 c2 c3 1) + (Int32.ofNat c1).toInt64 = (own_S c0 c1 c2 c3 2) from own_addL (own_sum c0 c1 c2 c3 1) c1 (own_sum_b c0 c1 c2 c3 1 hc0 hc1 hc2 hc3) (by omega)] at F_b1_length
    refine own_iload X B at_89 rfl (pc' := 91) rfl ?_
    refine own_iconst X B at_91 (v := (2 : Int32)) rfl (pc' := 92) rfl ?_
    refine own_icmpT X B at_92 (flt (by decide)).2.2.2 (pc' := 107) (by decide) (by decide) ?_
    refine own_iload X B at_107 rfl (pc' := 109) rfl ?_
    refine own_iconst X B at_109 (v := (3 : Int32)) rfl (pc' := 110) rfl ?_
    refine own_icmpT X B at_110 (flt (by decide)).2.2.2 (pc' := 125) (by decide) (by decide) ?_
    refine own_iload X B at_125 rfl (pc' := 127) rfl ?_
    refine own_i2l X B at_127 (pc' := 128) rfl ?_
    rw [own_i2l_nat c0 (by omega)]
    show own_H _ _ _ _ _ _ _ _ T (mkF m 128 #[.val (.long p0), .second, .val (.long p1), .second, .val (.long p2), .second, .val (.long p3), .second, .val (.int x), .val (.int y), .val (.int (Int32.ofNat c0)), .val (.int (Int32.ofNat c1)), .val (.int (Int32.ofNat c2)), .val (.int (Int32.ofNat c3)), .val (.int (Int32.ofNat 2)), .val (.ref mg), .val (.ref b1), .unset, .unset, .unset, .unset, .unset, .unset, .unset, .unset, .unset, .unset, .unset, .unset, .unset, .unset, .unset, .unset] [.long (own_S c0 c1 c2 c3 1)])
    refine own_lstore X B at_128 (L' := #[.val (.long p0), .second, .val (.long p1), .second, .val (.long p2), .second, .val (.long p3), .second, .val (.int x), .val (.int y), .val (.int (Int32.ofNat c0)), .val (.int (Int32.ofNat c1)), .val (.int (Int32.ofNat c2)), .val (.int (Int32.ofNat c3)), .val (.int (Int32.ofNat 2)), .val (.ref mg), .val (.ref b1), .val (.long (own_S c0 c1 c2 c3 1)), .second, .unset, .unset, .unset, .unset, .unset, .unset, .unset, .unset, .unset, .unset, .unset, .unset, .unset, .unset]) rfl (pc' := 130) rfl ?_
    refine own_lload X B at_130 rfl (pc' := 132) rfl ?_
    refine own_iload X B at_132 rfl (pc' := 134) rfl ?_
    refine own_i2l X B at_134 (pc' := 135) rfl ?_
    refine own_ladd X B at_135 (pc' := 136) rfl ?_
    rw [show (own_S c0 c1 c2 c3 1) + (Int32.ofNat c1).toInt64 = (own_S c0 c1 c2 c3 2) from own_addL (own_sum c0 c1 c2 c3 1) c1 (own_sum_b c0 c1 c2 c3 1 hc0 hc1 hc2 hc3) (by omega)]
    refine own_lstore X B at_136 (L' := #[.val (.long p0), .second, .val (.long p1), .second, .val (.long p2), .second, .val (.long p3), .second, .val (.int x), .val (.int y), .val (.int (Int32.ofNat c0)), .val (.int (Int32.ofNat c1)), .val (.int (Int32.ofNat c2)), .val (.int (Int32.ofNat c3)), .val (.int (Int32.ofNat 2)), .val (.ref mg), .val (.ref b1), .val (.long (own_S c0 c1 c2 c3 1)), .second, .val (.long (own_S c0 c1 c2 c3 2)), .second, .unset, .unset, .unset, .unset, .unset, .unset, .unset, .unset, .unset, .unset, .unset, .unset]) rfl (pc' := 138) rfl ?_
    refine own_lload X B at_138 rfl (pc' := 140) rfl ?_
    refine own_iload X B at_140 rfl (pc' := 142) rfl ?_
    refine own_i2l X B at_142 (pc' := 143) rfl ?_
    refine own_ladd X B at_143 (pc' := 144) rfl ?_
    rw [show (own_S c0 c1 c2 c3 2) + (Int32.ofNat c2).toInt64 = (own_S c0 c1 c2 c3 3) from own_addL (own_sum c0 c1 c2 c3 2) c2 (own_sum_b c0 c1 c2 c3 2 hc0 hc1 hc2 hc3) (by omega)]
    refine own_lstore X B at_144 (L' := #[.val (.long p0), .second, .val (.long p1), .second, .val (.long p2), .second, .val (.long p3), .second, .val (.int x), .val (.int y), .val (.int (Int32.ofNat c0)), .val (.int (Int32.ofNat c1)), .val (.int (Int32.ofNat c2)), .val (.int (Int32.ofNat c3)), .val (.int (Int32.ofNat 2)), .val (.ref mg), .val (.ref b1), .val (.long (own_S c0 c1 c2 c3 1)), .second, .val (.long (own_S c0 c1 c2 c3 2)), .second, .val (.long (own_S c0 c1 c2 c3 3)), .second, .unset, .unset, .unset, .unset, .unset, .unset, .unset, .unset, .unset, .unset]) rfl (pc' := 146) rfl ?_
    refine own_iload X B at_146 rfl (pc' := 148) rfl ?_
    refine own_iconst X B at_148 (v := (1 : Int32)) rfl (pc' := 149) rfl ?_
    refine own_icmpT X B at_149 (feq (by decide)).2 (pc' := 157) (by decide) (by decide) ?_
    refine own_iload X B at_157 rfl (pc' := 159) rfl ?_
    refine own_iconst X B at_159 (v := (2 : Int32)) rfl (pc' := 160) rfl ?_
    refine own_icmpF X B at_160 (teq rfl).2 (pc' := 163) rfl ?_
    refine own_lload X B at_163 rfl (pc' := 165) rfl ?_
    refine own_goto X B at_165 (pc' := 185) (by decide) (by decide) ?_
    refine own_lstore X B at_185 (L' := #[.val (.long p0), .second, .val (.long p1), .second, .val (.long p2), .second, .val (.long p3), .second, .val (.int x), .val (.int y), .val (.int (Int32.ofNat c0)), .val (.int (Int32.ofNat c1)), .val (.int (Int32.ofNat c2)), .val (.int (Int32.ofNat c3)), .val (.int (Int32.ofNat 2)), .val (.ref mg), .val (.ref b1), .val (.long (own_S c0 c1 c2 c3 1)), .second, .val (.long (own_S c0 c1 c2 c3 2)), .second, .val (.long (own_S c0 c1 c2 c3 3)), .second, .val (.long (own_S c0 c1 c2 c3 2)), .second, .unset, .unset, .unset, .unset, .unset, .unset, .unset, .unset]) rfl (pc' := 187) rfl ?_
    refine own_iload X B at_187 rfl (pc' := 189) rfl ?_
    refine own_lit X B (hw _ (List.mem_of_getElem? (i := 26) rfl)) at_189 (pc' := 191) rfl ?_
    refine own_iand X B at_191 (pc' := 192) rfl ?_
    refine own_lload X B at_192 rfl (pc' := 194) rfl ?_
    refine own_lconst X B at_194 (v := (1 : Int64)) rfl (pc' := 195) rfl ?_
    refine own_ladd X B at_195 (pc' := 196) rfl ?_
    refine own_l2i X B at_196 (pc' := 197) rfl ?_
    refine own_irem X B at_197 (own_nz _ (own_sum_le c0 c1 c2 c3 _ hc0 hc1 hc2 hc3)) (pc' := 198) rfl ?_
    refine own_i2l X B at_198 (pc' := 199) rfl ?_
    obtain ⟨bi, hbi⟩ : ∃ z : Int64, z = (((y &&& (2147483647 : Int32)) % (((own_S c0 c1 c2 c3 2) + (1 : Int64))).toInt32)).toInt64 := ⟨_, rfl⟩
    rw [← hbi]
    refine own_lstore X B at_199 (L' := #[.val (.long p0), .second, .val (.long p1), .second, .val (.long p2), .second, .val (.long p3), .second, .val (.int x), .val (.int y), .val (.int (Int32.ofNat c0)), .val (.int (Int32.ofNat c1)), .val (.int (Int32.ofNat c2)), .val (.int (Int32.ofNat c3)), .val (.int (Int32.ofNat 2)), .val (.ref mg), .val (.ref b1), .val (.long (own_S c0 c1 c2 c3 1)), .second, .val (.long (own_S c0 c1 c2 c3 2)), .second, .val (.long (own_S c0 c1 c2 c3 3)), .second, .val (.long (own_S c0 c1 c2 c3 2)), .second, .val (.long bi), .second, .unset, .unset, .unset, .unset, .unset, .unset]) rfl (pc' := 201) rfl ?_
    refine own_lconst X B at_201 (v := (0 : Int64)) rfl (pc' := 202) rfl ?_
    refine own_lstore X B at_202 (L' := #[.val (.long p0), .second, .val (.long p1), .second, .val (.long p2), .second, .val (.long p3), .second, .val (.int x), .val (.int y), .val (.int (Int32.ofNat c0)), .val (.int (Int32.ofNat c1)), .val (.int (Int32.ofNat c2)), .val (.int (Int32.ofNat c3)), .val (.int (Int32.ofNat 2)), .val (.ref mg), .val (.ref b1), .val (.long (own_S c0 c1 c2 c3 1)), .second, .val (.long (own_S c0 c1 c2 c3 2)), .second, .val (.long (own_S c0 c1 c2 c3 3)), .second, .val (.long (own_S c0 c1 c2 c3 2)), .second, .val (.long bi), .second, .val (.long (0 : Int64)), .second, .unset, .unset, .unset, .unset]) rfl (pc' := 204) rfl ?_
    refine own_lloadN X B at_204 rfl (pc' := 205) rfl ?_
    refine own_lstore X B at_205 (L' := #[.val (.long p0), .second, .val (.long p1), .second, .val (.long p2), .second, .val (.long p3), .second, .val (.int x), .val (.int y), .val (.int (Int32.ofNat c0)), .val (.int (Int32.ofNat c1)), .val (.int (Int32.ofNat c2)), .val (.int (Int32.ofNat c3)), .val (.int (Int32.ofNat 2)), .val (.ref mg), .val (.ref b1), .val (.long (own_S c0 c1 c2 c3 1)), .second, .val (.long (own_S c0 c1 c2 c3 2)), .second, .val (.long (own_S c0 c1 c2 c3 3)), .second, .val (.long (own_S c0 c1 c2 c3 2)), .second, .val (.long bi), .second, .val (.long (0 : Int64)), .second, .val (.long p0), .second, .unset, .unset]) rfl (pc' := 207) rfl ?_
    refine own_iload X B at_207 rfl (pc' := 209) rfl ?_
    refine own_iconst X B at_209 (v := (1 : Int32)) rfl (pc' := 210) rfl ?_
    have J272 : ∀ (T : State) (h : Heap) (st : Int64) (pl : Int64), own_St p l e room_1 s m #[.long p0, .long p1, .long p2, .long p3, .int x, .int y] below meth c n0 h0 [] T h 8 27 → Fld Z h b1 "com/example/tightwire/tightwire/bits/BitRuns" "starts" "[J" (.ref r) → Fld Z h b1 "com/example/tightwire/tightwire/bits/BitRuns" "places" "[J" (.ref t) → Fld Z h b1 "com/example/tightwire/tightwire/bits/BitRuns" "runs" "I" (.int (Int32.ofNat 2)) → Fld Z h b1 "com/example/tightwire/tightwire/bits/BitRuns" "length" "J" (.long (own_S c0 c1 c2 c3 2)) → own_AJ Z h r cp gs2 → own_AJ Z h t cp gp2 → Exa Z h b1 "com/example/tightwire/tightwire/bits/BitRuns" → (∃ k, k < 2 ∧ (k = 0 ∨ ¬ bi < own_S c0 c1 c2 c3 k) ∧ (∀ i, k < i → i < 2 → bi < own_S c0 c1 c2 c3 i) ∧ st = own_S c0 c1 c2 c3 k ∧ pl = own_P p0 p1 p2 p3 k) → own_G p e below s n0 h0 [] (fun v h => v = some (.int 1)) 24 128 T (mkF m 272 #[.val (.long p0), .second, .val (.long p1), .second, .val (.long p2), .second, .val (.long p3), .second, .val (.int x), .val (.int y), .val (.int (Int32.ofNat c0)), .val (.int (Int32.ofNat c1)), .val (.int (Int32.ofNat c2)), .val (.int (Int32.ofNat c3)), .val (.int (Int32.ofNat 2)), .val (.ref mg), .val (.ref b1), .val (.long (own_S c0 c1 c2 c3 1)), .second, .val (.long (own_S c0 c1 c2 c3 2)), .second, .val (.long (own_S c0 c1 c2 c3 3)), .second, .val (.long (own_S c0 c1 c2 c3 2)), .second, .val (.long bi), .second, .val (.long st), .second, .val (.long pl), .second, .unset, .unset] []) := by
      intro T h st pl X F_b1_starts F_b1_places F_b1_runs F_b1_length A_r A_t E_b1 hk
      refine own_lload X B at_272 rfl (pc' := 274) rfl ?_
      refine own_lload X B at_274 rfl (pc' := 276) rfl ?_
      refine own_ladd X B at_276 (pc' := 277) rfl ?_
      refine own_lload X B at_277 rfl (pc' := 279) rfl ?_
      refine own_lsub X B at_279 (pc' := 280) rfl ?_
      refine own_lstore X B at_280 (L' := #[.val (.long p0), .second, .val (.long p1), .second, .val (.long p2), .second, .val (.long p3), .second, .val (.int x), .val (.int y), .val (.int (Int32.ofNat c0)), .val (.int (Int32.ofNat c1)), .val (.int (Int32.ofNat c2)), .val (.int (Int32.ofNat c3)), .val (.int (Int32.ofNat 2)), .val (.ref mg), .val (.ref b1), .val (.long (own_S c0 c1 c2 c3 1)), .second, .val (.long (own_S c0 c1 c2 c3 2)), .second, .val (.long (own_S c0 c1 c2 c3 3)), .second, .val (.long (own_S c0 c1 c2 c3 2)), .second, .val (.long bi), .second, .val (.long st), .second, .val (.long pl), .second, .val (.long ((pl + bi) - st)), .second]) rfl (pc' := 282) rfl ?_
      refine own_aload X B at_282 rfl rfl (pc' := 284) rfl ?_
      refine own_callV X B (W := 0) (hw _ (List.mem_of_getElem? (i := 27) rfl)) (hw _ (List.mem_of_getElem? (i := 28) rfl)) (hw _ (List.mem_of_getElem? (i := 30) rfl)) (hw _ (List.mem_of_getElem? (i := 29) rfl)) (hw _ (List.mem_of_getElem? (i := 31) rfl)) (hw _ (List.mem_of_getElem? (i := 3) rfl)) (by decide) E_b1 (rm5 l Z a0 hw b1 (own_S c0 c1 c2 c3 2) h n0 (own_sz X Z0) F_b1_length) (by decide) (by decide) (by decide) (by decide) rfl (argsL := []) pd_4 rfl rfl (st := []) rfl (Nat.le_refl _) at_284 (pc' := 287) rfl all0 ?_
      rintro v T h X K rfl
      replace F_b1_starts := F_b1_starts.keep K nin0
      replace F_b1_places := F_b1_places.keep K nin0
      replace F_b1_runs := F_b1_runs.keep K nin0
      replace F_b1_length := F_b1_length.keep K nin0
      replace A_r := A_r.keep K nin0
      replace A_t := A_t.keep K nin0
      replace E_b1 := E_b1.keep K
      show own_H _ _ _ _ _ _ _ _ T (mkF m 287 #[.val (.long p0), .second, .val (.long p1), .second, .val (.long p2), .second, .val (.long p3), .second, .val (.int x), .val (.int y), .val (.int (Int32.ofNat c0)), .val (.int (Int32.ofNat c1)), .val (.int (Int32.ofNat c2)), .val (.int (Int32.ofNat c3)), .val (.int (Int32.ofNat 2)), .val (.ref mg), .val (.ref b1), .val (.long (own_S c0 c1 c2 c3 1)), .second, .val (.long (own_S c0 c1 c2 c3 2)), .second, .val (.long (own_S c0 c1 c2 c3 3)), .second, .val (.long (own_S c0 c1 c2 c3 2)), .second, .val (.long bi), .second, .val (.long st), .second, .val (.long pl), .second, .val (.long ((pl + bi) - st)), .second] [.long (own_S c0 c1 c2 c3 2)])
      refine own_lload X B at_287 rfl (pc' := 289) rfl ?_
      refine own_lcmp X B at_289 (pc' := 290) rfl ?_
      refine own_ifF X B at_290 (teq ((lw_eq _ _).mpr rfl)).2 (pc' := 293) rfl ?_
      refine own_aload X B at_293 rfl rfl (pc' := 295) rfl ?_
      refine own_lload X B at_295 rfl (pc' := 297) rfl ?_
      refine own_callV X B (W := 0) (hw _ (List.mem_of_getElem? (i := 32) rfl)) (hw _ (List.mem_of_getElem? (i := 33) rfl)) (hw _ (List.mem_of_getElem? (i := 35) rfl)) (hw _ (List.mem_of_getElem? (i := 34) rfl)) (hw _ (List.mem_of_getElem? (i := 36) rfl)) (hw _ (List.mem_of_getElem? (i := 3) rfl)) (by decide) E_b1 (rm6 l Z a0 hw b1 r t bi 2 cp gs2 gp2 h n0 (own_sz X Z0) F_b1_starts F_b1_places F_b1_runs A_r A_t (by decide) (by decide) (own_cap_le hcp) (own_sorted c0 c1 c2 c3 hc0 hc1 hc2 hc3 (by decide) hall)) (by decide) (by decide) (by decide) (by decide) rfl (argsL := [.long bi]) pd_5 rfl rfl (st := []) rfl (Nat.le_refl _) at_297 (pc' := 300) rfl all0 ?_
      rintro v T h X K ⟨k', hk1, hk2, hk3, rfl⟩
      replace F_b1_starts := F_b1_starts.keep K nin0
      replace F_b1_places := F_b1_places.keep K nin0
      replace F_b1_runs := F_b1_runs.keep K nin0
      replace F_b1_length := F_b1_length.keep K nin0
      replace A_r := A_r.keep K nin0
      replace A_t := A_t.keep K nin0
      replace E_b1 := E_b1.keep K
      show own_H _ _ _ _ _ _ _ _ T (mkF m 300 #[.val (.long p0), .second, .val (.long p1), .second, .val (.long p2), .second, .val (.long p3), .second, .val (.int x), .val (.int y), .val (.int (Int32.ofNat c0)), .val (.int (Int32.ofNat c1)), .val (.int (Int32.ofNat c2)), .val (.int (Int32.ofNat c3)), .val (.int (Int32.ofNat 2)), .val (.ref mg), .val (.ref b1), .val (.long (own_S c0 c1 c2 c3 1)), .second, .val (.long (own_S c0 c1 c2 c3 2)), .second, .val (.long (own_S c0 c1 c2 c3 3)), .second, .val (.long (own_S c0 c1 c2 c3 2)), .second, .val (.long bi), .second, .val (.long st), .second, .val (.long pl), .second, .val (.long ((pl + bi) - st)), .second] [.long (gp2 k' + bi - gs2 k')])
      refine own_lload X B at_300 rfl (pc' := 302) rfl ?_
      refine own_lcmp X B at_302 (pc' := 303) rfl ?_
      refine own_ifF X B at_303 (teq ((lw_eq _ _).mpr (own_same hall hk hk1 hk2 hk3))).2 (pc' := 306) rfl ?_
      refine own_iconst X B at_306 (v := (1 : Int32)) rfl (pc' := 307) rfl ?_
      refine own_goto X B at_307 (pc' := 311) (by decide) (by decide) ?_
      exact own_zret X B at_311 (by decide) (by decide) rfl rfl
    refine own_icmpF X B at_210 (tlt (by decide)).2.2.2 (pc' := 213) rfl ?_
    refine own_lload X B at_213 rfl (pc' := 215) rfl ?_
    refine own_lload X B at_215 rfl (pc' := 217) rfl ?_
    refine own_lcmp X B at_217 (pc' := 218) rfl ?_
    by_cases q1 : (0 : Int32) < (lcmpW (own_S c0 c1 c2 c3 1) bi)
    · -- q1
      refine own_ifT X B at_218 (tlt q1).2.2.1 (pc' := 228) (by decide) (by decide) ?_
      have t1 : bi < own_S c0 c1 c2 c3 1 := (lw_gt _ _).mp q1
      refine own_iload X B at_228 rfl (pc' := 230) rfl ?_
      refine own_iconst X B at_230 (v := (2 : Int32)) rfl (pc' := 231) rfl ?_
      refine own_icmpT X B at_231 (flt (by decide)).2.2.2 (pc' := 250) (by decide) (by decide) ?_
      refine own_iload X B at_250 rfl (pc' := 252) rfl ?_
      refine own_iconst X B at_252 (v := (3 : Int32)) rfl (pc' := 253) rfl ?_
      refine own_icmpT X B at_253 (flt (by decide)).2.2.2 (pc' := 272) (by decide) (by decide) ?_
      exact J272 _ _ _ _ X F_b1_starts F_b1_places F_b1_runs F_b1_length A_r A_t E_b1 ⟨0, by decide, Or.inl rfl, (fun i h1 h2 => by
        match i, h1, h2 with
        | 1, _, _ => exact t1), rfl, rfl⟩
    · -- not q1
      refine own_ifF X B at_218 (flt q1).2.2.1 (pc' := 221) rfl ?_
      have t1 : ¬ bi < own_S c0 c1 c2 c3 1 := fun q => q1 ((lw_gt _ _).mpr q)
      refine own_lload X B at_221 rfl (pc' := 223) rfl ?_
      refine own_lstore X B at_223 (L' := #[.val (.long p0), .second, .val (.long p1), .second, .val (.long p2), .second, .val (.long p3), .second, .val (.int x), .val (.int y), .val (.int (Int32.ofNat c0)), .val (.int (Int32.ofNat c1)), .val (.int (Int32.ofNat c2)), .val (.int (Int32.ofNat c3)), .val (.int (Int32.ofNat 2)), .val (.ref mg), .val (.ref b1), .val (.long (own_S c0 c1 c2 c3 1)), .second, .val (.long (own_S c0 c1 c2 c3 2)), .second, .val (.long (own_S c0 c1 c2 c3 3)), .second, .val (.long (own_S c0 c1 c2 c3 2)), .second, .val (.long bi), .second, .val (.long (own_S c0 c1 c2 c3 1)), .second, .val (.long p0), .second, .unset, .unset]) rfl (pc' := 225) rfl ?_
      refine own_lloadN X B at_225 rfl (pc' := 226) rfl ?_
      refine own_lstore X B at_226 (L' := #[.val (.long p0), .second, .val (.long p1), .second, .val (.long p2), .second, .val (.long p3), .second, .val (.int x), .val (.int y), .val (.int (Int32.ofNat c0)), .val (.int (Int32.ofNat c1)), .val (.int (Int32.ofNat c2)), .val (.int (Int32.ofNat c3)), .val (.int (Int32.ofNat 2)), .val (.ref mg), .val (.ref b1), .val (.long (own_S c0 c1 c2 c3 1)), .second, .val (.long (own_S c0 c1 c2 c3 2)), .second, .val (.long (own_S c0 c1 c2 c3 3)), .second, .val (.long (own_S c0 c1 c2 c3 2)), .second, .val (.long bi), .second, .val (.long (own_S c0 c1 c2 c3 1)), .second, .val (.long p1), .second, .unset, .unset]) rfl (pc' := 228) rfl ?_
      refine own_iload X B at_228 rfl (pc' := 230) rfl ?_
      refine own_iconst X B at_230 (v := (2 : Int32)) rfl (pc' := 231) rfl ?_
      refine own_icmpT X B at_231 (flt (by decide)).2.2.2 (pc' := 250) (by decide) (by decide) ?_
      refine own_iload X B at_250 rfl (pc' := 252) rfl ?_
      refine own_iconst X B at_252 (v := (3 : Int32)) rfl (pc' := 253) rfl ?_
      refine own_icmpT X B at_253 (flt (by decide)).2.2.2 (pc' := 272) (by decide) (by decide) ?_
      exact J272 _ _ _ _ X F_b1_starts F_b1_places F_b1_runs F_b1_length A_r A_t E_b1 ⟨1, by decide, Or.inr t1, (fun i h1 h2 => by omega), rfl, rfl⟩
  · -- 3 runs
    show own_H _ _ _ _ _ _ _ _ T (mkF m 45 #[.val (.long p0), .second, .val (.long p1), .second, .val (.long p2), .second, .val (.long p3), .second, .val (.int x), .val (.int y), .val (.int (Int32.ofNat c0)), .val (.int (Int32.ofNat c1)), .val (.int (Int32.ofNat c2)), .val (.int (Int32.ofNat c3)), .unset, .unset, .unset, .unset, .unset, .unset, .unset, .unset, .unset, .unset, .unset, .unset, .unset, .unset, .unset, .unset, .unset, .unset, .unset] [.int (Int32.ofNat 3)])
    refine own_istore X B at_45 (L' := #[.val (.long p0), .second, .val (.long p1), .second, .val (.long p2), .second, .val (.long p3), .second, .val (.int x), .val (.int y), .val (.int (Int32.ofNat c0)), .val (.int (Int32.ofNat c1)), .val (.int (Int32.ofNat c2)), .val (.int (Int32.ofNat c3)), .val (.int (Int32.ofNat 3)), .unset, .unset, .unset, .unset, .unset, .unset, .unset, .unset, .unset, .unset, .unset, .unset, .unset, .unset, .unset, .unset, .unset, .unset]) rfl (pc' := 47) rfl ?_
    refine own_iconst X B at_47 (v := (4 : Int32)) rfl (pc' := 48) rfl ?_
    refine own_newB X B (hw _ (List.mem_of_getElem? (i := 0) rfl)) (n := 4) (cap := 4) rfl (by decide) (by decide) (by decide) (by decide) at_48 (pc' := 50) rfl fun T h mg g_mg X K z_mg => ?_
    refine own_astore X B at_50 rfl (L' := #[.val (.long p0), .second, .val (.long p1), .second, .val (.long p2), .second, .val (.long p3), .second, .val (.int x), .val (.int y), .val (.int (Int32.ofNat c0)), .val (.int (Int32.ofNat c1)), .val (.int (Int32.ofNat c2)), .val (.int (Int32.ofNat c3)), .val (.int (Int32.ofNat 3)), .val (.ref mg), .unset, .unset, .unset, .unset, .unset, .unset, .unset, .unset, .unset, .unset, .unset, .unset, .unset, .unset, .unset, .unset, .unset]) rfl (pc' := 52) rfl ?_
    refine own_newO X B (hw _ (List.mem_of_getElem? (i := 1) rfl)) (hw _ (List.mem_of_getElem? (i := 2) rfl)) (hw _ (List.mem_of_getElem? (i := 3) rfl)) (by decide) (by decide) at_52 (pc' := 55) rfl fun T h b1 g_b1 X K E_b1 D_b1 z_b1 => ?_
    have F_b1_starts : Fld Z h b1 "com/example/tightwire/tightwire/bits/BitRuns" "starts" "[J" .null := D_b1 (Or.inl (hw _ (List.mem_of_getElem? (i := 12) rfl))) (ty := (.array .long)) (by decide)
    have F_b1_places : Fld Z h b1 "com/example/tightwire/tightwire/bits/BitRuns" "places" "[J" .null := D_b1 (Or.inl (hw _ (List.mem_of_getElem? (i := 14) rfl))) (ty := (.array .long)) (by decide)
    have F_b1_message : Fld Z h b1 "com/example/tightwire/tightwire/bits/BitRuns" "message" "[B" .null := D_b1 (Or.inl (hw _ (List.mem_of_getElem? (i := 21) rfl))) (ty := (.array .byte)) (by decide)
    have F_b1_runs : Fld Z h b1 "com/example/tightwire/tightwire/bits/BitRuns" "runs" "I" (.int (0 : Int32)) := D_b1 (Or.inl (hw _ (List.mem_of_getElem? (i := 23) rfl))) (ty := .int) (by decide)
    have F_b1_length : Fld Z h b1 "com/example/tightwire/tightwire/bits/BitRuns" "length" "J" (.long (0 : Int64)) := D_b1 (Or.inl (hw _ (List.mem_of_getElem? (i := 25) rfl))) (ty := .long) (by decide)
    refine own_dup X B at_55 rfl (pc' := 56) rfl ?_
    have sz := own_sz X Z0
    have ltb := E_b1.lt
    refine own_callI X B (W := 1) rfl (hw _ (List.mem_of_getElem? (i := 4) rfl)) (hw _ (List.mem_of_getElem? (i := 5) rfl)) (hw _ (List.mem_of_getElem? (i := 6) rfl)) (hw _ (List.mem_of_getElem? (i := 3) rfl)) (by decide) (rm3 l Z a0 hw b1 h n0 (own_sz X Z0) (Nat.le_trans Z0 z_b1) E_b1 F_b1_starts F_b1_places F_b1_message F_b1_runs F_b1_length) (by decide) (by decide) (by decide) (by decide) rfl (argsL := []) pd_1 rfl rfl (st := [.ref b1]) rfl (Nat.le_refl _) at_56 (pc' := 59) rfl (allS (Or.inr z_b1) all0) ?_
    rintro v T h X K ⟨rfl, r, t, z_r, z_t, n_r_t, F_b1_starts, F_b1_places, F_b1_message, F_b1_runs, F_b1_length, A_r, A_t⟩
    replace E_b1 := E_b1.keep K
    show own_H _ _ _ _ _ _ _ _ T (mkF m 59 #[.val (.long p0), .second, .val (.long p1), .second, .val (.long p2), .second, .val (.long p3), .second, .val (.int x), .val (.int y), .val (.int (Int32.ofNat c0)), .val (.int (Int32.ofNat c1)), .val (.int (Int32.ofNat c2)), .val (.int (Int32.ofNat c3)), .val (.int (Int32.ofNat 3)), .val (.ref mg), .unset, .unset, .unset, .unset, .unset, .unset, .unset, .unset, .unset, .unset, .unset, .unset, .unset, .unset, .unset, .unset, .unset] [.ref b1])
    have n_b1_r : b1 ≠ r := Nat.ne_of_lt (Nat.lt_of_lt_of_le ltb z_r)
    have n_b1_t : b1 ≠ t := Nat.ne_of_lt (Nat.lt_of_lt_of_le ltb z_t)
    have g_r := Nat.le_trans sz z_r
    have g_t := Nat.le_trans sz z_t
    have hcp : own_cap 0 1 := by unfold own_cap; omega
    have hall : ∀ i, i < 0 → (fun _ => 0 : Nat → Int64) i = own_S c0 c1 c2 c3 i ∧ (fun _ => 0 : Nat → Int64) i = own_P p0 p1 p2 p3 i := fun i hi => absurd hi (Nat.not_lt_zero i)
    refine own_astore X B at_59 rfl (L' := #[.val (.long p0), .second, .val (.long p1), .second, .val (.long p2), .second, .val (.long p3), .second, .val (.int x), .val (.int y), .val (.int (Int32.ofNat c0)), .val (.int (Int32.ofNat c1)), .val (.int (Int32.ofNat c2)), .val (.int (Int32.ofNat c3)), .val (.int (Int32.ofNat 3)), .val (.ref mg), .val (.ref b1), .unset, .unset, .unset, .unset, .unset, .unset, .unset, .unset, .unset, .unset, .unset, .unset, .unset, .unset, .unset, .unset]) rfl (pc' := 61) rfl ?_
    refine own_aload X B at_61 rfl rfl (pc' := 63) rfl ?_
    refine own_aload X B at_63 rfl rfl (pc' := 65) rfl ?_
    refine own_lloadN X B at_65 rfl (pc' := 66) rfl ?_
    refine own_iload X B at_66 rfl (pc' := 68) rfl ?_
    refine own_i2l X B at_68 (pc' := 69) rfl ?_
    refine own_callV X B (W := 0) (hw _ (List.mem_of_getElem? (i := 15) rfl)) (hw _ (List.mem_of_getElem? (i := 16) rfl)) (hw _ (List.mem_of_getElem? (i := 18) rfl)) (hw _ (List.mem_of_getElem? (i := 17) rfl)) (hw _ (List.mem_of_getElem? (i := 19) rfl)) (hw _ (List.mem_of_getElem? (i := 3) rfl)) (by decide) E_b1 (rm4 l Z a0 hw b1 r t mg .null 0 1 (fun _ => 0) (fun _ => 0) (0 : Int64) p0 (Int32.ofNat c0).toInt64 h n0 (own_sz X Z0) (Nat.le_trans Z0 z_b1) g_r g_t n_b1_r n_b1_t n_r_t E_b1 F_b1_starts F_b1_places F_b1_message F_b1_runs F_b1_length A_r A_t (Or.inl rfl) hcp (by decide)) (by decide) (by decide) (by decide) (by decide) rfl (argsL := [.ref mg, .long p0, .long ((Int32.ofNat c0)).toInt64]) pd_3 rfl rfl (st := []) rfl (Nat.le_refl _) at_69 (pc' := 72) rfl (allS (Or.inr z_b1) (allS (Or.inr (Nat.le_trans Z1 g_r)) (allS (Or.inr (Nat.le_trans Z1 g_t)) all0))) ?_
    rintro v T h X K ⟨rfl, r, t, cp, gs1, gp1, g_r, g_t, n_b1_r, n_b1_t, n_r_t, hcp, F_b1_starts, F_b1_places, F_b1_message, F_b1_runs, F_b1_length, A_r, A_t, hgs⟩
    replace E_b1 := E_b1.keep K
    show own_H _ _ _ _ _ _ _ _ T (mkF m 72 #[.val (.long p0), .second, .val (.long p1), .second, .val (.long p2), .second, .val (.long p3), .second, .val (.int x), .val (.int y), .val (.int (Int32.ofNat c0)), .val (.int (Int32.ofNat c1)), .val (.int (Int32.ofNat c2)), .val (.int (Int32.ofNat c3)), .val (.int (Int32.ofNat 3)), .val (.ref mg), .val (.ref b1), .unset, .unset, .unset, .unset, .unset, .unset, .unset, .unset, .unset, .unset, .unset, .unset, .unset, .unset, .unset, .unset] [])
    replace hall : ∀ i, i < 1 → gs1 i = own_S c0 c1 c2 c3 i ∧ gp1 i = own_P p0 p1 p2 p3 i := own_all (n := 0) hall hgs rfl rfl
    rw [show (0 : Int64) + (Int32.ofNat c0).toInt64 = (own_S c0 c1 c2 c3 1) from own_add0 c0 (by omega)] at F_b1_length
    refine own_iload X B at_72 rfl (pc' := 74) rfl ?_
    refine own_iconst X B at_74 (v := (1 : Int32)) rfl (pc' := 75) rfl ?_
    refine own_icmpF X B at_75 (tlt (by decide)).2.2.2 (pc' := 78) rfl ?_
    refine own_aload X B at_78 rfl rfl (pc' := 80) rfl ?_
    refine own_aload X B at_80 rfl rfl (pc' := 82) rfl ?_
    refine own_lloadN X B at_82 rfl (pc' := 83) rfl ?_
    refine own_iload X B at_83 rfl (pc' := 85) rfl ?_
    refine own_i2l X B at_85 (pc' := 86) rfl ?_
    refine own_callV X B (W := 0) (hw _ (List.mem_of_getElem? (i := 15) rfl)) (hw _ (List.mem_of_getElem? (i := 16) rfl)) (hw _ (List.mem_of_getElem? (i := 18) rfl)) (hw _ (List.mem_of_getElem? (i := 17) rfl)) (hw _ (List.mem_of_getElem? (i := 19) rfl)) (hw _ (List.mem_of_getElem? (i := 3) rfl)) (by decide) E_b1 (rm4 l Z a0 hw b1 r t mg (.ref mg) 1 cp gs1 gp1 (own_S c0 c1 c2 c3 1) p1 (Int32.ofNat c1).toInt64 h n0 (own_sz X Z0) (Nat.le_trans Z0 z_b1) g_r g_t n_b1_r n_b1_t n_r_t E_b1 F_b1_starts F_b1_places F_b1_message F_b1_runs F_b1_length A_r A_t (Or.inr rfl) hcp (by decide)) (by decide) (by decide) (by decide) (by decide) rfl (argsL := [.ref mg, .long p1, .long ((Int32.ofNat c1)).toInt64]) pd_3 rfl rfl (st := []) rfl (Nat.le_refl _) at_86 (pc' := 89) rfl (allS (Or.inr z_b1) (allS (Or.inr (Nat.le_trans Z1 g_r)) (allS (Or.inr (Nat.le_trans Z1 g_t)) all0))) ?_
    rintro v T h X K ⟨rfl, r, t, cp, gs2, gp2, g_r, g_t, n_b1_r, n_b1_t, n_r_t, hcp, F_b1_starts, F_b1_places, F_b1_message, F_b1_runs, F_b1_length, A_r, A_t, hgs⟩
    replace E_b1 := E_b1.keep K
    show own_H _ _ _ _ _ _ _ _ T (mkF m 89 #[.val (.long p0), .second, .val (.long p1), .second, .val (.long p2), .second, .val (.long p3), .second, .val (.int x), .val (.int y), .val (.int (Int32.ofNat c0)), .val (.int (Int32.ofNat c1)), .val (.int (Int32.ofNat c2)), .val (.int (Int32.ofNat c3)), .val (.int (Int32.ofNat 3)), .val (.ref mg), .val (.ref b1), .unset, .unset, .unset, .unset, .unset, .unset, .unset, .unset, .unset, .unset, .unset, .unset, .unset, .unset, .unset, .unset] [])
    replace hall : ∀ i, i < 2 → gs2 i = own_S c0 c1 c2 c3 i ∧ gp2 i = own_P p0 p1 p2 p3 i := own_all (n := 1) hall hgs rfl rfl
    rw [show (own_S c0 c1 c2 c3 1) + (Int32.ofNat c1).toInt64 = (own_S c0 c1 c2 c3 2) from own_addL (own_sum c0 c1 c2 c3 1) c1 (own_sum_b c0 c1 c2 c3 1 hc0 hc1 hc2 hc3) (by omega)] at F_b1_length
    refine own_iload X B at_89 rfl (pc' := 91) rfl ?_
    refine own_iconst X B at_91 (v := (2 : Int32)) rfl (pc' := 92) rfl ?_
    refine own_icmpF X B at_92 (tlt (by decide)).2.2.2 (pc' := 95) rfl ?_
    refine own_aload X B at_95 rfl rfl (pc' := 97) rfl ?_
    refine own_aload X B at_97 rfl rfl (pc' := 99) rfl ?_
    refine own_lload X B at_99 rfl (pc' := 101) rfl ?_
    refine own_iload X B at_101 rfl (pc' := 103) rfl ?_
    refine own_i2l X B at_103 (pc' := 104) rfl ?_
    refine own_callV X B (W := 0) (hw _ (List.mem_of_getElem? (i := 15) rfl)) (hw _ (List.mem_of_getElem? (i := 16) rfl)) (hw _ (List.mem_of_getElem? (i := 18) rfl)) (hw _ (List.mem_of_getElem? (i := 17) rfl)) (hw _ (List.mem_of_getElem? (i := 19) rfl)) (hw _ (List.mem_of_getElem? (i := 3) rfl)) (by decide) E_b1 (rm4 l Z a0 hw b1 r t mg (.ref mg) 2 cp gs2 gp2 (own_S c0 c1 c2 c3 2) p2 (Int32.ofNat c2).toInt64 h n0 (own_sz X Z0) (Nat.le_trans Z0 z_b1) g_r g_t n_b1_r n_b1_t n_r_t E_b1 F_b1_starts F_b1_places F_b1_message F_b1_runs F_b1_length A_r A_t (Or.inr rfl) hcp (by decide)) (by decide) (by decide) (by decide) (by decide) rfl (argsL := [.ref mg, .long p2, .long ((Int32.ofNat c2)).toInt64]) pd_3 rfl rfl (st := []) rfl (Nat.le_refl _) at_104 (pc' := 107) rfl (allS (Or.inr z_b1) (allS (Or.inr (Nat.le_trans Z1 g_r)) (allS (Or.inr (Nat.le_trans Z1 g_t)) all0))) ?_
    rintro v T h X K ⟨rfl, r, t, cp, gs3, gp3, g_r, g_t, n_b1_r, n_b1_t, n_r_t, hcp, F_b1_starts, F_b1_places, F_b1_message, F_b1_runs, F_b1_length, A_r, A_t, hgs⟩
    replace E_b1 := E_b1.keep K
    show own_H _ _ _ _ _ _ _ _ T (mkF m 107 #[.val (.long p0), .second, .val (.long p1), .second, .val (.long p2), .second, .val (.long p3), .second, .val (.int x), .val (.int y), .val (.int (Int32.ofNat c0)), .val (.int (Int32.ofNat c1)), .val (.int (Int32.ofNat c2)), .val (.int (Int32.ofNat c3)), .val (.int (Int32.ofNat 3)), .val (.ref mg), .val (.ref b1), .unset, .unset, .unset, .unset, .unset, .unset, .unset, .unset, .unset, .unset, .unset, .unset, .unset, .unset, .unset, .unset] [])
    replace hall : ∀ i, i < 3 → gs3 i = own_S c0 c1 c2 c3 i ∧ gp3 i = own_P p0 p1 p2 p3 i := own_all (n := 2) hall hgs rfl rfl
    rw [show (own_S c0 c1 c2 c3 2) + (Int32.ofNat c2).toInt64 = (own_S c0 c1 c2 c3 3) from own_addL (own_sum c0 c1 c2 c3 2) c2 (own_sum_b c0 c1 c2 c3 2 hc0 hc1 hc2 hc3) (by omega)] at F_b1_length
    refine own_iload X B at_107 rfl (pc' := 109) rfl ?_
    refine own_iconst X B at_109 (v := (3 : Int32)) rfl (pc' := 110) rfl ?_
    refine own_icmpT X B at_110 (flt (by decide)).2.2.2 (pc' := 125) (by decide) (by decide) ?_
    refine own_iload X B at_125 rfl (pc' := 127) rfl ?_
    refine own_i2l X B at_127 (pc' := 128) rfl ?_
    rw [own_i2l_nat c0 (by omega)]
    show own_H _ _ _ _ _ _ _ _ T (mkF m 128 #[.val (.long p0), .second, .val (.long p1), .second, .val (.long p2), .second, .val (.long p3), .second, .val (.int x), .val (.int y), .val (.int (Int32.ofNat c0)), .val (.int (Int32.ofNat c1)), .val (.int (Int32.ofNat c2)), .val (.int (Int32.ofNat c3)), .val (.int (Int32.ofNat 3)), .val (.ref mg), .val (.ref b1), .unset, .unset, .unset, .unset, .unset, .unset, .unset, .unset, .unset, .unset, .unset, .unset, .unset, .unset, .unset, .unset] [.long (own_S c0 c1 c2 c3 1)])
    refine own_lstore X B at_128 (L' := #[.val (.long p0), .second, .val (.long p1), .second, .val (.long p2), .second, .val (.long p3), .second, .val (.int x), .val (.int y), .val (.int (Int32.ofNat c0)), .val (.int (Int32.ofNat c1)), .val (.int (Int32.ofNat c2)), .val (.int (Int32.ofNat c3)), .val (.int (Int32.ofNat 3)), .val (.ref mg), .val (.ref b1), .val (.long (own_S c0 c1 c2 c3 1)), .second, .unset, .unset, .unset, .unset, .unset, .unset, .unset, .unset, .unset, .unset, .unset, .unset, .unset, .unset]) rfl (pc' := 130) rfl ?_
    refine own_lload X B at_130 rfl (pc' := 132) rfl ?_
    refine own_iload X B at_132 rfl (pc' := 134) rfl ?_
    refine own_i2l X B at_134 (pc' := 135) rfl ?_
    refine own_ladd X B at_135 (pc' := 136) rfl ?_
    rw [show (own_S c0 c1 c2 c3 1) + (Int32.ofNat c1).toInt64 = (own_S c0 c1 c2 c3 2) from own_addL (own_sum c0 c1 c2 c3 1) c1 (own_sum_b c0 c1 c2 c3 1 hc0 hc1 hc2 hc3) (by omega)]
    refine own_lstore X B at_136 (L' := #[.val (.long p0), .second, .val (.long p1), .second, .val (.long p2), .second, .val (.long p3), .second, .val (.int x), .val (.int y), .val (.int (Int32.ofNat c0)), .val (.int (Int32.ofNat c1)), .val (.int (Int32.ofNat c2)), .val (.int (Int32.ofNat c3)), .val (.int (Int32.ofNat 3)), .val (.ref mg), .val (.ref b1), .val (.long (own_S c0 c1 c2 c3 1)), .second, .val (.long (own_S c0 c1 c2 c3 2)), .second, .unset, .unset, .unset, .unset, .unset, .unset, .unset, .unset, .unset, .unset, .unset, .unset]) rfl (pc' := 138) rfl ?_
    refine own_lload X B at_138 rfl (pc' := 140) rfl ?_
    refine own_iload X B at_140 rfl (pc' := 142) rfl ?_
    refine own_i2l X B at_142 (pc' := 143) rfl ?_
    refine own_ladd X B at_143 (pc' := 144) rfl ?_
    rw [show (own_S c0 c1 c2 c3 2) + (Int32.ofNat c2).toInt64 = (own_S c0 c1 c2 c3 3) from own_addL (own_sum c0 c1 c2 c3 2) c2 (own_sum_b c0 c1 c2 c3 2 hc0 hc1 hc2 hc3) (by omega)]
    refine own_lstore X B at_144 (L' := #[.val (.long p0), .second, .val (.long p1), .second, .val (.long p2), .second, .val (.long p3), .second, .val (.int x), .val (.int y), .val (.int (Int32.ofNat c0)), .val (.int (Int32.ofNat c1)), .val (.int (Int32.ofNat c2)), .val (.int (Int32.ofNat c3)), .val (.int (Int32.ofNat 3)), .val (.ref mg), .val (.ref b1), .val (.long (own_S c0 c1 c2 c3 1)), .second, .val (.long (own_S c0 c1 c2 c3 2)), .second, .val (.long (own_S c0 c1 c2 c3 3)), .second, .unset, .unset, .unset, .unset, .unset, .unset, .unset, .unset, .unset, .unset]) rfl (pc' := 146) rfl ?_
    refine own_iload X B at_146 rfl (pc' := 148) rfl ?_
    refine own_iconst X B at_148 (v := (1 : Int32)) rfl (pc' := 149) rfl ?_
    refine own_icmpT X B at_149 (feq (by decide)).2 (pc' := 157) (by decide) (by decide) ?_
    refine own_iload X B at_157 rfl (pc' := 159) rfl ?_
    refine own_iconst X B at_159 (v := (2 : Int32)) rfl (pc' := 160) rfl ?_
    refine own_icmpT X B at_160 (feq (by decide)).2 (pc' := 168) (by decide) (by decide) ?_
    refine own_iload X B at_168 rfl (pc' := 170) rfl ?_
    refine own_iconst X B at_170 (v := (3 : Int32)) rfl (pc' := 171) rfl ?_
    refine own_icmpF X B at_171 (teq rfl).2 (pc' := 174) rfl ?_
    refine own_lload X B at_174 rfl (pc' := 176) rfl ?_
    refine own_goto X B at_176 (pc' := 185) (by decide) (by decide) ?_
    refine own_lstore X B at_185 (L' := #[.val (.long p0), .second, .val (.long p1), .second, .val (.long p2), .second, .val (.long p3), .second, .val (.int x), .val (.int y), .val (.int (Int32.ofNat c0)), .val (.int (Int32.ofNat c1)), .val (.int (Int32.ofNat c2)), .val (.int (Int32.ofNat c3)), .val (.int (Int32.ofNat 3)), .val (.ref mg), .val (.ref b1), .val (.long (own_S c0 c1 c2 c3 1)), .second, .val (.long (own_S c0 c1 c2 c3 2)), .second, .val (.long (own_S c0 c1 c2 c3 3)), .second, .val (.long (own_S c0 c1 c2 c3 3)), .second, .unset, .unset, .unset, .unset, .unset, .unset, .unset, .unset]) rfl (pc' := 187) rfl ?_
    refine own_iload X B at_187 rfl (pc' := 189) rfl ?_
    refine own_lit X B (hw _ (List.mem_of_getElem? (i := 26) rfl)) at_189 (pc' := 191) rfl ?_
    refine own_iand X B at_191 (pc' := 192) rfl ?_
    refine own_lload X B at_192 rfl (pc' := 194) rfl ?_
    refine own_lconst X B at_194 (v := (1 : Int64)) rfl (pc' := 195) rfl ?_
    refine own_ladd X B at_195 (pc' := 196) rfl ?_
    refine own_l2i X B at_196 (pc' := 197) rfl ?_
    refine own_irem X B at_197 (own_nz _ (own_sum_le c0 c1 c2 c3 _ hc0 hc1 hc2 hc3)) (pc' := 198) rfl ?_
    refine own_i2l X B at_198 (pc' := 199) rfl ?_
    obtain ⟨bi, hbi⟩ : ∃ z : Int64, z = (((y &&& (2147483647 : Int32)) % (((own_S c0 c1 c2 c3 3) + (1 : Int64))).toInt32)).toInt64 := ⟨_, rfl⟩
    rw [← hbi]
    refine own_lstore X B at_199 (L' := #[.val (.long p0), .second, .val (.long p1), .second, .val (.long p2), .second, .val (.long p3), .second, .val (.int x), .val (.int y), .val (.int (Int32.ofNat c0)), .val (.int (Int32.ofNat c1)), .val (.int (Int32.ofNat c2)), .val (.int (Int32.ofNat c3)), .val (.int (Int32.ofNat 3)), .val (.ref mg), .val (.ref b1), .val (.long (own_S c0 c1 c2 c3 1)), .second, .val (.long (own_S c0 c1 c2 c3 2)), .second, .val (.long (own_S c0 c1 c2 c3 3)), .second, .val (.long (own_S c0 c1 c2 c3 3)), .second, .val (.long bi), .second, .unset, .unset, .unset, .unset, .unset, .unset]) rfl (pc' := 201) rfl ?_
    refine own_lconst X B at_201 (v := (0 : Int64)) rfl (pc' := 202) rfl ?_
    refine own_lstore X B at_202 (L' := #[.val (.long p0), .second, .val (.long p1), .second, .val (.long p2), .second, .val (.long p3), .second, .val (.int x), .val (.int y), .val (.int (Int32.ofNat c0)), .val (.int (Int32.ofNat c1)), .val (.int (Int32.ofNat c2)), .val (.int (Int32.ofNat c3)), .val (.int (Int32.ofNat 3)), .val (.ref mg), .val (.ref b1), .val (.long (own_S c0 c1 c2 c3 1)), .second, .val (.long (own_S c0 c1 c2 c3 2)), .second, .val (.long (own_S c0 c1 c2 c3 3)), .second, .val (.long (own_S c0 c1 c2 c3 3)), .second, .val (.long bi), .second, .val (.long (0 : Int64)), .second, .unset, .unset, .unset, .unset]) rfl (pc' := 204) rfl ?_
    refine own_lloadN X B at_204 rfl (pc' := 205) rfl ?_
    refine own_lstore X B at_205 (L' := #[.val (.long p0), .second, .val (.long p1), .second, .val (.long p2), .second, .val (.long p3), .second, .val (.int x), .val (.int y), .val (.int (Int32.ofNat c0)), .val (.int (Int32.ofNat c1)), .val (.int (Int32.ofNat c2)), .val (.int (Int32.ofNat c3)), .val (.int (Int32.ofNat 3)), .val (.ref mg), .val (.ref b1), .val (.long (own_S c0 c1 c2 c3 1)), .second, .val (.long (own_S c0 c1 c2 c3 2)), .second, .val (.long (own_S c0 c1 c2 c3 3)), .second, .val (.long (own_S c0 c1 c2 c3 3)), .second, .val (.long bi), .second, .val (.long (0 : Int64)), .second, .val (.long p0), .second, .unset, .unset]) rfl (pc' := 207) rfl ?_
    refine own_iload X B at_207 rfl (pc' := 209) rfl ?_
    refine own_iconst X B at_209 (v := (1 : Int32)) rfl (pc' := 210) rfl ?_
    have J272 : ∀ (T : State) (h : Heap) (st : Int64) (pl : Int64), own_St p l e room_1 s m #[.long p0, .long p1, .long p2, .long p3, .int x, .int y] below meth c n0 h0 [] T h 10 35 → Fld Z h b1 "com/example/tightwire/tightwire/bits/BitRuns" "starts" "[J" (.ref r) → Fld Z h b1 "com/example/tightwire/tightwire/bits/BitRuns" "places" "[J" (.ref t) → Fld Z h b1 "com/example/tightwire/tightwire/bits/BitRuns" "runs" "I" (.int (Int32.ofNat 3)) → Fld Z h b1 "com/example/tightwire/tightwire/bits/BitRuns" "length" "J" (.long (own_S c0 c1 c2 c3 3)) → own_AJ Z h r cp gs3 → own_AJ Z h t cp gp3 → Exa Z h b1 "com/example/tightwire/tightwire/bits/BitRuns" → (∃ k, k < 3 ∧ (k = 0 ∨ ¬ bi < own_S c0 c1 c2 c3 k) ∧ (∀ i, k < i → i < 3 → bi < own_S c0 c1 c2 c3 i) ∧ st = own_S c0 c1 c2 c3 k ∧ pl = own_P p0 p1 p2 p3 k) → own_G p e below s n0 h0 [] (fun v h => v = some (.int 1)) 24 128 T (mkF m 272 #[.val (.long p0), .second, .val (.long p1), .second, .val (.long p2), .second, .val (.long p3), .second, .val (.int x), .val (.int y), .val (.int (Int32.ofNat c0)), .val (.int (Int32.ofNat c1)), .val (.int (Int32.ofNat c2)), .val (.int (Int32.ofNat c3)), .val (.int (Int32.ofNat 3)), .val (.ref mg), .val (.ref b1), .val (.long (own_S c0 c1 c2 c3 1)), .second, .val (.long (own_S c0 c1 c2 c3 2)), .second, .val (.long (own_S c0 c1 c2 c3 3)), .second, .val (.long (own_S c0 c1 c2 c3 3)), .second, .val (.long bi), .second, .val (.long st), .second, .val (.long pl), .second, .unset, .unset] []) := by
      intro T h st pl X F_b1_starts F_b1_places F_b1_runs F_b1_length A_r A_t E_b1 hk
      refine own_lload X B at_272 rfl (pc' := 274) rfl ?_
      refine own_lload X B at_274 rfl (pc' := 276) rfl ?_
      refine own_ladd X B at_276 (pc' := 277) rfl ?_
      refine own_lload X B at_277 rfl (pc' := 279) rfl ?_
      refine own_lsub X B at_279 (pc' := 280) rfl ?_
      refine own_lstore X B at_280 (L' := #[.val (.long p0), .second, .val (.long p1), .second, .val (.long p2), .second, .val (.long p3), .second, .val (.int x), .val (.int y), .val (.int (Int32.ofNat c0)), .val (.int (Int32.ofNat c1)), .val (.int (Int32.ofNat c2)), .val (.int (Int32.ofNat c3)), .val (.int (Int32.ofNat 3)), .val (.ref mg), .val (.ref b1), .val (.long (own_S c0 c1 c2 c3 1)), .second, .val (.long (own_S c0 c1 c2 c3 2)), .second, .val (.long (own_S c0 c1 c2 c3 3)), .second, .val (.long (own_S c0 c1 c2 c3 3)), .second, .val (.long bi), .second, .val (.long st), .second, .val (.long pl), .second, .val (.long ((pl + bi) - st)), .second]) rfl (pc' := 282) rfl ?_
      refine own_aload X B at_282 rfl rfl (pc' := 284) rfl ?_
      refine own_callV X B (W := 0) (hw _ (List.mem_of_getElem? (i := 27) rfl)) (hw _ (List.mem_of_getElem? (i := 28) rfl)) (hw _ (List.mem_of_getElem? (i := 30) rfl)) (hw _ (List.mem_of_getElem? (i := 29) rfl)) (hw _ (List.mem_of_getElem? (i := 31) rfl)) (hw _ (List.mem_of_getElem? (i := 3) rfl)) (by decide) E_b1 (rm5 l Z a0 hw b1 (own_S c0 c1 c2 c3 3) h n0 (own_sz X Z0) F_b1_length) (by decide) (by decide) (by decide) (by decide) rfl (argsL := []) pd_4 rfl rfl (st := []) rfl (Nat.le_refl _) at_284 (pc' := 287) rfl all0 ?_
      rintro v T h X K rfl
      replace F_b1_starts := F_b1_starts.keep K nin0
      replace F_b1_places := F_b1_places.keep K nin0
      replace F_b1_runs := F_b1_runs.keep K nin0
      replace F_b1_length := F_b1_length.keep K nin0
      replace A_r := A_r.keep K nin0
      replace A_t := A_t.keep K nin0
      replace E_b1 := E_b1.keep K
      show own_H _ _ _ _ _ _ _ _ T (mkF m 287 #[.val (.long p0), .second, .val (.long p1), .second, .val (.long p2), .second, .val (.long p3), .second, .val (.int x), .val (.int y), .val (.int (Int32.ofNat c0)), .val (.int (Int32.ofNat c1)), .val (.int (Int32.ofNat c2)), .val (.int (Int32.ofNat c3)), .val (.int (Int32.ofNat 3)), .val (.ref mg), .val (.ref b1), .val (.long (own_S c0 c1 c2 c3 1)), .second, .val (.long (own_S c0 c1 c2 c3 2)), .second, .val (.long (own_S c0 c1 c2 c3 3)), .second, .val (.long (own_S c0 c1 c2 c3 3)), .second, .val (.long bi), .second, .val (.long st), .second, .val (.long pl), .second, .val (.long ((pl + bi) - st)), .second] [.long (own_S c0 c1 c2 c3 3)])
      refine own_lload X B at_287 rfl (pc' := 289) rfl ?_
      refine own_lcmp X B at_289 (pc' := 290) rfl ?_
      refine own_ifF X B at_290 (teq ((lw_eq _ _).mpr rfl)).2 (pc' := 293) rfl ?_
      refine own_aload X B at_293 rfl rfl (pc' := 295) rfl ?_
      refine own_lload X B at_295 rfl (pc' := 297) rfl ?_
      refine own_callV X B (W := 0) (hw _ (List.mem_of_getElem? (i := 32) rfl)) (hw _ (List.mem_of_getElem? (i := 33) rfl)) (hw _ (List.mem_of_getElem? (i := 35) rfl)) (hw _ (List.mem_of_getElem? (i := 34) rfl)) (hw _ (List.mem_of_getElem? (i := 36) rfl)) (hw _ (List.mem_of_getElem? (i := 3) rfl)) (by decide) E_b1 (rm6 l Z a0 hw b1 r t bi 3 cp gs3 gp3 h n0 (own_sz X Z0) F_b1_starts F_b1_places F_b1_runs A_r A_t (by decide) (by decide) (own_cap_le hcp) (own_sorted c0 c1 c2 c3 hc0 hc1 hc2 hc3 (by decide) hall)) (by decide) (by decide) (by decide) (by decide) rfl (argsL := [.long bi]) pd_5 rfl rfl (st := []) rfl (Nat.le_refl _) at_297 (pc' := 300) rfl all0 ?_
      rintro v T h X K ⟨k', hk1, hk2, hk3, rfl⟩
      replace F_b1_starts := F_b1_starts.keep K nin0
      replace F_b1_places := F_b1_places.keep K nin0
      replace F_b1_runs := F_b1_runs.keep K nin0
      replace F_b1_length := F_b1_length.keep K nin0
      replace A_r := A_r.keep K nin0
      replace A_t := A_t.keep K nin0
      replace E_b1 := E_b1.keep K
      show own_H _ _ _ _ _ _ _ _ T (mkF m 300 #[.val (.long p0), .second, .val (.long p1), .second, .val (.long p2), .second, .val (.long p3), .second, .val (.int x), .val (.int y), .val (.int (Int32.ofNat c0)), .val (.int (Int32.ofNat c1)), .val (.int (Int32.ofNat c2)), .val (.int (Int32.ofNat c3)), .val (.int (Int32.ofNat 3)), .val (.ref mg), .val (.ref b1), .val (.long (own_S c0 c1 c2 c3 1)), .second, .val (.long (own_S c0 c1 c2 c3 2)), .second, .val (.long (own_S c0 c1 c2 c3 3)), .second, .val (.long (own_S c0 c1 c2 c3 3)), .second, .val (.long bi), .second, .val (.long st), .second, .val (.long pl), .second, .val (.long ((pl + bi) - st)), .second] [.long (gp3 k' + bi - gs3 k')])
      refine own_lload X B at_300 rfl (pc' := 302) rfl ?_
      refine own_lcmp X B at_302 (pc' := 303) rfl ?_
      refine own_ifF X B at_303 (teq ((lw_eq _ _).mpr (own_same hall hk hk1 hk2 hk3))).2 (pc' := 306) rfl ?_
      refine own_iconst X B at_306 (v := (1 : Int32)) rfl (pc' := 307) rfl ?_
      refine own_goto X B at_307 (pc' := 311) (by decide) (by decide) ?_
      exact own_zret X B at_311 (by decide) (by decide) rfl rfl
    refine own_icmpF X B at_210 (tlt (by decide)).2.2.2 (pc' := 213) rfl ?_
    refine own_lload X B at_213 rfl (pc' := 215) rfl ?_
    refine own_lload X B at_215 rfl (pc' := 217) rfl ?_
    refine own_lcmp X B at_217 (pc' := 218) rfl ?_
    by_cases q1 : (0 : Int32) < (lcmpW (own_S c0 c1 c2 c3 1) bi)
    · -- q1
      refine own_ifT X B at_218 (tlt q1).2.2.1 (pc' := 228) (by decide) (by decide) ?_
      have t1 : bi < own_S c0 c1 c2 c3 1 := (lw_gt _ _).mp q1
      refine own_iload X B at_228 rfl (pc' := 230) rfl ?_
      refine own_iconst X B at_230 (v := (2 : Int32)) rfl (pc' := 231) rfl ?_
      refine own_icmpF X B at_231 (tlt (by decide)).2.2.2 (pc' := 234) rfl ?_
      refine own_lload X B at_234 rfl (pc' := 236) rfl ?_
      refine own_lload X B at_236 rfl (pc' := 238) rfl ?_
      refine own_lcmp X B at_238 (pc' := 239) rfl ?_
      by_cases q2 : (0 : Int32) < (lcmpW (own_S c0 c1 c2 c3 2) bi)
      · -- q2
        refine own_ifT X B at_239 (tlt q2).2.2.1 (pc' := 250) (by decide) (by decide) ?_
        have t2 : bi < own_S c0 c1 c2 c3 2 := (lw_gt _ _).mp q2
        refine own_iload X B at_250 rfl (pc' := 252) rfl ?_
        refine own_iconst X B at_252 (v := (3 : Int32)) rfl (pc' := 253) rfl ?_
        refine own_icmpT X B at_253 (flt (by decide)).2.2.2 (pc' := 272) (by decide) (by decide) ?_
        exact J272 _ _ _ _ X F_b1_starts F_b1_places F_b1_runs F_b1_length A_r A_t E_b1 ⟨0, by decide, Or.inl rfl, (fun i h1 h2 => by
          match i, h1, h2 with
          | 1, _, _ => exact t1
          | 2, _, _ => exact t2), rfl, rfl⟩
      · -- not q2
        refine own_ifF X B at_239 (flt q2).2.2.1 (pc' := 242) rfl ?_
        have t2 : ¬ bi < own_S c0 c1 c2 c3 2 := fun q => q2 ((lw_gt _ _).mpr q)
        refine own_lload X B at_242 rfl (pc' := 244) rfl ?_
        refine own_lstore X B at_244 (L' := #[.val (.long p0), .second, .val (.long p1), .second, .val (.long p2), .second, .val (.long p3), .second, .val (.int x), .val (.int y), .val (.int (Int32.ofNat c0)), .val (.int (Int32.ofNat c1)), .val (.int (Int32.ofNat c2)), .val (.int (Int32.ofNat c3)), .val (.int (Int32.ofNat 3)), .val (.ref mg), .val (.ref b1), .val (.long (own_S c0 c1 c2 c3 1)), .second, .val (.long (own_S c0 c1 c2 c3 2)), .second, .val (.long (own_S c0 c1 c2 c3 3)), .second, .val (.long (own_S c0 c1 c2 c3 3)), .second, .val (.long bi), .second, .val (.long (own_S c0 c1 c2 c3 2)), .second, .val (.long p0), .second, .unset, .unset]) rfl (pc' := 246) rfl ?_
        refine own_lload X B at_246 rfl (pc' := 248) rfl ?_
        refine own_lstore X B at_248 (L' := #[.val (.long p0), .second, .val (.long p1), .second, .val (.long p2), .second, .val (.long p3), .second, .val (.int x), .val (.int y), .val (.int (Int32.ofNat c0)), .val (.int (Int32.ofNat c1)), .val (.int (Int32.ofNat c2)), .val (.int (Int32.ofNat c3)), .val (.int (Int32.ofNat 3)), .val (.ref mg), .val (.ref b1), .val (.long (own_S c0 c1 c2 c3 1)), .second, .val (.long (own_S c0 c1 c2 c3 2)), .second, .val (.long (own_S c0 c1 c2 c3 3)), .second, .val (.long (own_S c0 c1 c2 c3 3)), .second, .val (.long bi), .second, .val (.long (own_S c0 c1 c2 c3 2)), .second, .val (.long p2), .second, .unset, .unset]) rfl (pc' := 250) rfl ?_
        refine own_iload X B at_250 rfl (pc' := 252) rfl ?_
        refine own_iconst X B at_252 (v := (3 : Int32)) rfl (pc' := 253) rfl ?_
        refine own_icmpT X B at_253 (flt (by decide)).2.2.2 (pc' := 272) (by decide) (by decide) ?_
        exact J272 _ _ _ _ X F_b1_starts F_b1_places F_b1_runs F_b1_length A_r A_t E_b1 ⟨2, by decide, Or.inr t2, (fun i h1 h2 => by omega), rfl, rfl⟩
    · -- not q1
      refine own_ifF X B at_218 (flt q1).2.2.1 (pc' := 221) rfl ?_
      have t1 : ¬ bi < own_S c0 c1 c2 c3 1 := fun q => q1 ((lw_gt _ _).mpr q)
      refine own_lload X B at_221 rfl (pc' := 223) rfl ?_
      refine own_lstore X B at_223 (L' := #[.val (.long p0), .second, .val (.long p1), .second, .val (.long p2), .second, .val (.long p3), .second, .val (.int x), .val (.int y), .val (.int (Int32.ofNat c0)), .val (.int (Int32.ofNat c1)), .val (.int (Int32.ofNat c2)), .val (.int (Int32.ofNat c3)), .val (.int (Int32.ofNat 3)), .val (.ref mg), .val (.ref b1), .val (.long (own_S c0 c1 c2 c3 1)), .second, .val (.long (own_S c0 c1 c2 c3 2)), .second, .val (.long (own_S c0 c1 c2 c3 3)), .second, .val (.long (own_S c0 c1 c2 c3 3)), .second, .val (.long bi), .second, .val (.long (own_S c0 c1 c2 c3 1)), .second, .val (.long p0), .second, .unset, .unset]) rfl (pc' := 225) rfl ?_
      refine own_lloadN X B at_225 rfl (pc' := 226) rfl ?_
      refine own_lstore X B at_226 (L' := #[.val (.long p0), .second, .val (.long p1), .second, .val (.long p2), .second, .val (.long p3), .second, .val (.int x), .val (.int y), .val (.int (Int32.ofNat c0)), .val (.int (Int32.ofNat c1)), .val (.int (Int32.ofNat c2)), .val (.int (Int32.ofNat c3)), .val (.int (Int32.ofNat 3)), .val (.ref mg), .val (.ref b1), .val (.long (own_S c0 c1 c2 c3 1)), .second, .val (.long (own_S c0 c1 c2 c3 2)), .second, .val (.long (own_S c0 c1 c2 c3 3)), .second, .val (.long (own_S c0 c1 c2 c3 3)), .second, .val (.long bi), .second, .val (.long (own_S c0 c1 c2 c3 1)), .second, .val (.long p1), .second, .unset, .unset]) rfl (pc' := 228) rfl ?_
      refine own_iload X B at_228 rfl (pc' := 230) rfl ?_
      refine own_iconst X B at_230 (v := (2 : Int32)) rfl (pc' := 231) rfl ?_
      refine own_icmpF X B at_231 (tlt (by decide)).2.2.2 (pc' := 234) rfl ?_
      refine own_lload X B at_234 rfl (pc' := 236) rfl ?_
      refine own_lload X B at_236 rfl (pc' := 238) rfl ?_
      refine own_lcmp X B at_238 (pc' := 239) rfl ?_
      by_cases q2 : (0 : Int32) < (lcmpW (own_S c0 c1 c2 c3 2) bi)
      · -- q2
        refine own_ifT X B at_239 (tlt q2).2.2.1 (pc' := 250) (by decide) (by decide) ?_
        have t2 : bi < own_S c0 c1 c2 c3 2 := (lw_gt _ _).mp q2
        refine own_iload X B at_250 rfl (pc' := 252) rfl ?_
        refine own_iconst X B at_252 (v := (3 : Int32)) rfl (pc' := 253) rfl ?_
        refine own_icmpT X B at_253 (flt (by decide)).2.2.2 (pc' := 272) (by decide) (by decide) ?_
        exact J272 _ _ _ _ X F_b1_starts F_b1_places F_b1_runs F_b1_length A_r A_t E_b1 ⟨1, by decide, Or.inr t1, (fun i h1 h2 => by
          match i, h1, h2 with
          | 2, _, _ => exact t2), rfl, rfl⟩
      · -- not q2
        refine own_ifF X B at_239 (flt q2).2.2.1 (pc' := 242) rfl ?_
        have t2 : ¬ bi < own_S c0 c1 c2 c3 2 := fun q => q2 ((lw_gt _ _).mpr q)
        refine own_lload X B at_242 rfl (pc' := 244) rfl ?_
        refine own_lstore X B at_244 (L' := #[.val (.long p0), .second, .val (.long p1), .second, .val (.long p2), .second, .val (.long p3), .second, .val (.int x), .val (.int y), .val (.int (Int32.ofNat c0)), .val (.int (Int32.ofNat c1)), .val (.int (Int32.ofNat c2)), .val (.int (Int32.ofNat c3)), .val (.int (Int32.ofNat 3)), .val (.ref mg), .val (.ref b1), .val (.long (own_S c0 c1 c2 c3 1)), .second, .val (.long (own_S c0 c1 c2 c3 2)), .second, .val (.long (own_S c0 c1 c2 c3 3)), .second, .val (.long (own_S c0 c1 c2 c3 3)), .second, .val (.long bi), .second, .val (.long (own_S c0 c1 c2 c3 2)), .second, .val (.long p1), .second, .unset, .unset]) rfl (pc' := 246) rfl ?_
        refine own_lload X B at_246 rfl (pc' := 248) rfl ?_
        refine own_lstore X B at_248 (L' := #[.val (.long p0), .second, .val (.long p1), .second, .val (.long p2), .second, .val (.long p3), .second, .val (.int x), .val (.int y), .val (.int (Int32.ofNat c0)), .val (.int (Int32.ofNat c1)), .val (.int (Int32.ofNat c2)), .val (.int (Int32.ofNat c3)), .val (.int (Int32.ofNat 3)), .val (.ref mg), .val (.ref b1), .val (.long (own_S c0 c1 c2 c3 1)), .second, .val (.long (own_S c0 c1 c2 c3 2)), .second, .val (.long (own_S c0 c1 c2 c3 3)), .second, .val (.long (own_S c0 c1 c2 c3 3)), .second, .val (.long bi), .second, .val (.long (own_S c0 c1 c2 c3 2)), .second, .val (.long p2), .second, .unset, .unset]) rfl (pc' := 250) rfl ?_
        refine own_iload X B at_250 rfl (pc' := 252) rfl ?_
        refine own_iconst X B at_252 (v := (3 : Int32)) rfl (pc' := 253) rfl ?_
        refine own_icmpT X B at_253 (flt (by decide)).2.2.2 (pc' := 272) (by decide) (by decide) ?_
        exact J272 _ _ _ _ X F_b1_starts F_b1_places F_b1_runs F_b1_length A_r A_t E_b1 ⟨2, by decide, Or.inr t2, (fun i h1 h2 => by omega), rfl, rfl⟩
  · -- 4 runs
    show own_H _ _ _ _ _ _ _ _ T (mkF m 45 #[.val (.long p0), .second, .val (.long p1), .second, .val (.long p2), .second, .val (.long p3), .second, .val (.int x), .val (.int y), .val (.int (Int32.ofNat c0)), .val (.int (Int32.ofNat c1)), .val (.int (Int32.ofNat c2)), .val (.int (Int32.ofNat c3)), .unset, .unset, .unset, .unset, .unset, .unset, .unset, .unset, .unset, .unset, .unset, .unset, .unset, .unset, .unset, .unset, .unset, .unset, .unset] [.int (Int32.ofNat 4)])
    refine own_istore X B at_45 (L' := #[.val (.long p0), .second, .val (.long p1), .second, .val (.long p2), .second, .val (.long p3), .second, .val (.int x), .val (.int y), .val (.int (Int32.ofNat c0)), .val (.int (Int32.ofNat c1)), .val (.int (Int32.ofNat c2)), .val (.int (Int32.ofNat c3)), .val (.int (Int32.ofNat 4)), .unset, .unset, .unset, .unset, .unset, .unset, .unset, .unset, .unset, .unset, .unset, .unset, .unset, .unset, .unset, .unset, .unset, .unset]) rfl (pc' := 47) rfl ?_
    refine own_iconst X B at_47 (v := (4 : Int32)) rfl (pc' := 48) rfl ?_
    refine own_newB X B (hw _ (List.mem_of_getElem? (i := 0) rfl)) (n := 4) (cap := 4) rfl (by decide) (by decide) (by decide) (by decide) at_48 (pc' := 50) rfl fun T h mg g_mg X K z_mg => ?_
    refine own_astore X B at_50 rfl (L' := #[.val (.long p0), .second, .val (.long p1), .second, .val (.long p2), .second, .val (.long p3), .second, .val (.int x), .val (.int y), .val (.int (Int32.ofNat c0)), .val (.int (Int32.ofNat c1)), .val (.int (Int32.ofNat c2)), .val (.int (Int32.ofNat c3)), .val (.int (Int32.ofNat 4)), .val (.ref mg), .unset, .unset, .unset, .unset, .unset, .unset, .unset, .unset, .unset, .unset, .unset, .unset, .unset, .unset, .unset, .unset, .unset]) rfl (pc' := 52) rfl ?_
    refine own_newO X B (hw _ (List.mem_of_getElem? (i := 1) rfl)) (hw _ (List.mem_of_getElem? (i := 2) rfl)) (hw _ (List.mem_of_getElem? (i := 3) rfl)) (by decide) (by decide) at_52 (pc' := 55) rfl fun T h b1 g_b1 X K E_b1 D_b1 z_b1 => ?_
    have F_b1_starts : Fld Z h b1 "com/example/tightwire/tightwire/bits/BitRuns" "starts" "[J" .null := D_b1 (Or.inl (hw _ (List.mem_of_getElem? (i := 12) rfl))) (ty := (.array .long)) (by decide)
    have F_b1_places : Fld Z h b1 "com/example/tightwire/tightwire/bits/BitRuns" "places" "[J" .null := D_b1 (Or.inl (hw _ (List.mem_of_getElem? (i := 14) rfl))) (ty := (.array .long)) (by decide)
    have F_b1_message : Fld Z h b1 "com/example/tightwire/tightwire/bits/BitRuns" "message" "[B" .null := D_b1 (Or.inl (hw _ (List.mem_of_getElem? (i := 21) rfl))) (ty := (.array .byte)) (by decide)
    have F_b1_runs : Fld Z h b1 "com/example/tightwire/tightwire/bits/BitRuns" "runs" "I" (.int (0 : Int32)) := D_b1 (Or.inl (hw _ (List.mem_of_getElem? (i := 23) rfl))) (ty := .int) (by decide)
    have F_b1_length : Fld Z h b1 "com/example/tightwire/tightwire/bits/BitRuns" "length" "J" (.long (0 : Int64)) := D_b1 (Or.inl (hw _ (List.mem_of_getElem? (i := 25) rfl))) (ty := .long) (by decide)
    refine own_dup X B at_55 rfl (pc' := 56) rfl ?_
    have sz := own_sz X Z0
    have ltb := E_b1.lt
    refine own_callI X B (W := 1) rfl (hw _ (List.mem_of_getElem? (i := 4) rfl)) (hw _ (List.mem_of_getElem? (i := 5) rfl)) (hw _ (List.mem_of_getElem? (i := 6) rfl)) (hw _ (List.mem_of_getElem? (i := 3) rfl)) (by decide) (rm3 l Z a0 hw b1 h n0 (own_sz X Z0) (Nat.le_trans Z0 z_b1) E_b1 F_b1_starts F_b1_places F_b1_message F_b1_runs F_b1_length) (by decide) (by decide) (by decide) (by decide) rfl (argsL := []) pd_1 rfl rfl (st := [.ref b1]) rfl (Nat.le_refl _) at_56 (pc' := 59) rfl (allS (Or.inr z_b1) all0) ?_
    rintro v T h X K ⟨rfl, r, t, z_r, z_t, n_r_t, F_b1_starts, F_b1_places, F_b1_message, F_b1_runs, F_b1_length, A_r, A_t⟩
    replace E_b1 := E_b1.keep K
    show own_H _ _ _ _ _ _ _ _ T (mkF m 59 #[.val (.long p0), .second, .val (.long p1), .second, .val (.long p2), .second, .val (.long p3), .second, .val (.int x), .val (.int y), .val (.int (Int32.ofNat c0)), .val (.int (Int32.ofNat c1)), .val (.int (Int32.ofNat c2)), .val (.int (Int32.ofNat c3)), .val (.int (Int32.ofNat 4)), .val (.ref mg), .unset, .unset, .unset, .unset, .unset, .unset, .unset, .unset, .unset, .unset, .unset, .unset, .unset, .unset, .unset, .unset, .unset] [.ref b1])
    have n_b1_r : b1 ≠ r := Nat.ne_of_lt (Nat.lt_of_lt_of_le ltb z_r)
    have n_b1_t : b1 ≠ t := Nat.ne_of_lt (Nat.lt_of_lt_of_le ltb z_t)
    have g_r := Nat.le_trans sz z_r
    have g_t := Nat.le_trans sz z_t
    have hcp : own_cap 0 1 := by unfold own_cap; omega
    have hall : ∀ i, i < 0 → (fun _ => 0 : Nat → Int64) i = own_S c0 c1 c2 c3 i ∧ (fun _ => 0 : Nat → Int64) i = own_P p0 p1 p2 p3 i := fun i hi => absurd hi (Nat.not_lt_zero i)
    refine own_astore X B at_59 rfl (L' := #[.val (.long p0), .second, .val (.long p1), .second, .val (.long p2), .second, .val (.long p3), .second, .val (.int x), .val (.int y), .val (.int (Int32.ofNat c0)), .val (.int (Int32.ofNat c1)), .val (.int (Int32.ofNat c2)), .val (.int (Int32.ofNat c3)), .val (.int (Int32.ofNat 4)), .val (.ref mg), .val (.ref b1), .unset, .unset, .unset, .unset, .unset, .unset, .unset, .unset, .unset, .unset, .unset, .unset, .unset, .unset, .unset, .unset]) rfl (pc' := 61) rfl ?_
    refine own_aload X B at_61 rfl rfl (pc' := 63) rfl ?_
    refine own_aload X B at_63 rfl rfl (pc' := 65) rfl ?_
    refine own_lloadN X B at_65 rfl (pc' := 66) rfl ?_
    refine own_iload X B at_66 rfl (pc' := 68) rfl ?_
    refine own_i2l X B at_68 (pc' := 69) rfl ?_
    refine own_callV X B (W := 0) (hw _ (List.mem_of_getElem? (i := 15) rfl)) (hw _ (List.mem_of_getElem? (i := 16) rfl)) (hw _ (List.mem_of_getElem? (i := 18) rfl)) (hw _ (List.mem_of_getElem? (i := 17) rfl)) (hw _ (List.mem_of_getElem? (i := 19) rfl)) (hw _ (List.mem_of_getElem? (i := 3) rfl)) (by decide) E_b1 (rm4 l Z a0 hw b1 r t mg .null 0 1 (fun _ => 0) (fun _ => 0) (0 : Int64) p0 (Int32.ofNat c0).toInt64 h n0 (own_sz X Z0) (Nat.le_trans Z0 z_b1) g_r g_t n_b1_r n_b1_t n_r_t E_b1 F_b1_starts F_b1_places F_b1_message F_b1_runs F_b1_length A_r A_t (Or.inl rfl) hcp (by decide)) (by decide) (by decide) (by decide) (by decide) rfl (argsL := [.ref mg, .long p0, .long ((Int32.ofNat c0)).toInt64]) pd_3 rfl rfl (st := []) rfl (Nat.le_refl _) at_69 (pc' := 72) rfl (allS (Or.inr z_b1) (allS (Or.inr (Nat.le_trans Z1 g_r)) (allS (Or.inr (Nat.le_trans Z1 g_t)) all0))) ?_
    rintro v T h X K ⟨rfl, r, t, cp, gs1, gp1, g_r, g_t, n_b1_r, n_b1_t, n_r_t, hcp, F_b1_starts, F_b1_places, F_b1_message, F_b1_runs, F_b1_length, A_r, A_t, hgs⟩
    replace E_b1 := E_b1.keep K
    show own_H _ _ _ _ _ _ _ _ T (mkF m 72 #[.val (.long p0), .second, .val (.long p1), .second, .val (.long p2), .second, .val (.long p3), .second, .val (.int x), .val (.int y), .val (.int (Int32.ofNat c0)), .val (.int (Int32.ofNat c1)), .val (.int (Int32.ofNat c2)), .val (.int (Int32.ofNat c3)), .val (.int (Int32.ofNat 4)), .val (.ref mg), .val (.ref b1), .unset, .unset, .unset, .unset, .unset, .unset, .unset, .unset, .unset, .unset, .unset, .unset, .unset, .unset, .unset, .unset] [])
    replace hall : ∀ i, i < 1 → gs1 i = own_S c0 c1 c2 c3 i ∧ gp1 i = own_P p0 p1 p2 p3 i := own_all (n := 0) hall hgs rfl rfl
    rw [show (0 : Int64) + (Int32.ofNat c0).toInt64 = (own_S c0 c1 c2 c3 1) from own_add0 c0 (by omega)] at F_b1_length
    refine own_iload X B at_72 rfl (pc' := 74) rfl ?_
    refine own_iconst X B at_74 (v := (1 : Int32)) rfl (pc' := 75) rfl ?_
    refine own_icmpF X B at_75 (tlt (by decide)).2.2.2 (pc' := 78) rfl ?_
    refine own_aload X B at_78 rfl rfl (pc' := 80) rfl ?_
    refine own_aload X B at_80 rfl rfl (pc' := 82) rfl ?_
    refine own_lloadN X B at_82 rfl (pc' := 83) rfl ?_
    refine own_iload X B at_83 rfl (pc' := 85) rfl ?_
    refine own_i2l X B at_85 (pc' := 86) rfl ?_
    refine own_callV X B (W := 0) (hw _ (List.mem_of_getElem? (i := 15) rfl)) (hw _ (List.mem_of_getElem? (i := 16) rfl)) (hw _ (List.mem_of_getElem? (i := 18) rfl)) (hw _ (List.mem_of_getElem? (i := 17) rfl)) (hw _ (List.mem_of_getElem? (i := 19) rfl)) (hw _ (List.mem_of_getElem? (i := 3) rfl)) (by decide) E_b1 (rm4 l Z a0 hw b1 r t mg (.ref mg) 1 cp gs1 gp1 (own_S c0 c1 c2 c3 1) p1 (Int32.ofNat c1).toInt64 h n0 (own_sz X Z0) (Nat.le_trans Z0 z_b1) g_r g_t n_b1_r n_b1_t n_r_t E_b1 F_b1_starts F_b1_places F_b1_message F_b1_runs F_b1_length A_r A_t (Or.inr rfl) hcp (by decide)) (by decide) (by decide) (by decide) (by decide) rfl (argsL := [.ref mg, .long p1, .long ((Int32.ofNat c1)).toInt64]) pd_3 rfl rfl (st := []) rfl (Nat.le_refl _) at_86 (pc' := 89) rfl (allS (Or.inr z_b1) (allS (Or.inr (Nat.le_trans Z1 g_r)) (allS (Or.inr (Nat.le_trans Z1 g_t)) all0))) ?_
    rintro v T h X K ⟨rfl, r, t, cp, gs2, gp2, g_r, g_t, n_b1_r, n_b1_t, n_r_t, hcp, F_b1_starts, F_b1_places, F_b1_message, F_b1_runs, F_b1_length, A_r, A_t, hgs⟩
    replace E_b1 := E_b1.keep K
    show own_H _ _ _ _ _ _ _ _ T (mkF m 89 #[.val (.long p0), .second, .val (.long p1), .second, .val (.long p2), .second, .val (.long p3), .second, .val (.int x), .val (.int y), .val (.int (Int32.ofNat c0)), .val (.int (Int32.ofNat c1)), .val (.int (Int32.ofNat c2)), .val (.int (Int32.ofNat c3)), .val (.int (Int32.ofNat 4)), .val (.ref mg), .val (.ref b1), .unset, .unset, .unset, .unset, .unset, .unset, .unset, .unset, .unset, .unset, .unset, .unset, .unset, .unset, .unset, .unset] [])
    replace hall : ∀ i, i < 2 → gs2 i = own_S c0 c1 c2 c3 i ∧ gp2 i = own_P p0 p1 p2 p3 i := own_all (n := 1) hall hgs rfl rfl
    rw [show (own_S c0 c1 c2 c3 1) + (Int32.ofNat c1).toInt64 = (own_S c0 c1 c2 c3 2) from own_addL (own_sum c0 c1 c2 c3 1) c1 (own_sum_b c0 c1 c2 c3 1 hc0 hc1 hc2 hc3) (by omega)] at F_b1_length
    refine own_iload X B at_89 rfl (pc' := 91) rfl ?_
    refine own_iconst X B at_91 (v := (2 : Int32)) rfl (pc' := 92) rfl ?_
    refine own_icmpF X B at_92 (tlt (by decide)).2.2.2 (pc' := 95) rfl ?_
    refine own_aload X B at_95 rfl rfl (pc' := 97) rfl ?_
    refine own_aload X B at_97 rfl rfl (pc' := 99) rfl ?_
    refine own_lload X B at_99 rfl (pc' := 101) rfl ?_
    refine own_iload X B at_101 rfl (pc' := 103) rfl ?_
    refine own_i2l X B at_103 (pc' := 104) rfl ?_
    refine own_callV X B (W := 0) (hw _ (List.mem_of_getElem? (i := 15) rfl)) (hw _ (List.mem_of_getElem? (i := 16) rfl)) (hw _ (List.mem_of_getElem? (i := 18) rfl)) (hw _ (List.mem_of_getElem? (i := 17) rfl)) (hw _ (List.mem_of_getElem? (i := 19) rfl)) (hw _ (List.mem_of_getElem? (i := 3) rfl)) (by decide) E_b1 (rm4 l Z a0 hw b1 r t mg (.ref mg) 2 cp gs2 gp2 (own_S c0 c1 c2 c3 2) p2 (Int32.ofNat c2).toInt64 h n0 (own_sz X Z0) (Nat.le_trans Z0 z_b1) g_r g_t n_b1_r n_b1_t n_r_t E_b1 F_b1_starts F_b1_places F_b1_message F_b1_runs F_b1_length A_r A_t (Or.inr rfl) hcp (by decide)) (by decide) (by decide) (by decide) (by decide) rfl (argsL := [.ref mg, .long p2, .long ((Int32.ofNat c2)).toInt64]) pd_3 rfl rfl (st := []) rfl (Nat.le_refl _) at_104 (pc' := 107) rfl (allS (Or.inr z_b1) (allS (Or.inr (Nat.le_trans Z1 g_r)) (allS (Or.inr (Nat.le_trans Z1 g_t)) all0))) ?_
    rintro v T h X K ⟨rfl, r, t, cp, gs3, gp3, g_r, g_t, n_b1_r, n_b1_t, n_r_t, hcp, F_b1_starts, F_b1_places, F_b1_message, F_b1_runs, F_b1_length, A_r, A_t, hgs⟩
    replace E_b1 := E_b1.keep K
    show own_H _ _ _ _ _ _ _ _ T (mkF m 107 #[.val (.long p0), .second, .val (.long p1), .second, .val (.long p2), .second, .val (.long p3), .second, .val (.int x), .val (.int y), .val (.int (Int32.ofNat c0)), .val (.int (Int32.ofNat c1)), .val (.int (Int32.ofNat c2)), .val (.int (Int32.ofNat c3)), .val (.int (Int32.ofNat 4)), .val (.ref mg), .val (.ref b1), .unset, .unset, .unset, .unset, .unset, .unset, .unset, .unset, .unset, .unset, .unset, .unset, .unset, .unset, .unset, .unset] [])
    replace hall : ∀ i, i < 3 → gs3 i = own_S c0 c1 c2 c3 i ∧ gp3 i = own_P p0 p1 p2 p3 i := own_all (n := 2) hall hgs rfl rfl
    rw [show (own_S c0 c1 c2 c3 2) + (Int32.ofNat c2).toInt64 = (own_S c0 c1 c2 c3 3) from own_addL (own_sum c0 c1 c2 c3 2) c2 (own_sum_b c0 c1 c2 c3 2 hc0 hc1 hc2 hc3) (by omega)] at F_b1_length
    refine own_iload X B at_107 rfl (pc' := 109) rfl ?_
    refine own_iconst X B at_109 (v := (3 : Int32)) rfl (pc' := 110) rfl ?_
    refine own_icmpF X B at_110 (tlt (by decide)).2.2.2 (pc' := 113) rfl ?_
    refine own_aload X B at_113 rfl rfl (pc' := 115) rfl ?_
    refine own_aload X B at_115 rfl rfl (pc' := 117) rfl ?_
    refine own_lload X B at_117 rfl (pc' := 119) rfl ?_
    refine own_iload X B at_119 rfl (pc' := 121) rfl ?_
    refine own_i2l X B at_121 (pc' := 122) rfl ?_
    refine own_callV X B (W := 0) (hw _ (List.mem_of_getElem? (i := 15) rfl)) (hw _ (List.mem_of_getElem? (i := 16) rfl)) (hw _ (List.mem_of_getElem? (i := 18) rfl)) (hw _ (List.mem_of_getElem? (i := 17) rfl)) (hw _ (List.mem_of_getElem? (i := 19) rfl)) (hw _ (List.mem_of_getElem? (i := 3) rfl)) (by decide) E_b1 (rm4 l Z a0 hw b1 r t mg (.ref mg) 3 cp gs3 gp3 (own_S c0 c1 c2 c3 3) p3 (Int32.ofNat c3).toInt64 h n0 (own_sz X Z0) (Nat.le_trans Z0 z_b1) g_r g_t n_b1_r n_b1_t n_r_t E_b1 F_b1_starts F_b1_places F_b1_message F_b1_runs F_b1_length A_r A_t (Or.inr rfl) hcp (by decide)) (by decide) (by decide) (by decide) (by decide) rfl (argsL := [.ref mg, .long p3, .long ((Int32.ofNat c3)).toInt64]) pd_3 rfl rfl (st := []) rfl (Nat.le_refl _) at_122 (pc' := 125) rfl (allS (Or.inr z_b1) (allS (Or.inr (Nat.le_trans Z1 g_r)) (allS (Or.inr (Nat.le_trans Z1 g_t)) all0))) ?_
    rintro v T h X K ⟨rfl, r, t, cp, gs4, gp4, g_r, g_t, n_b1_r, n_b1_t, n_r_t, hcp, F_b1_starts, F_b1_places, F_b1_message, F_b1_runs, F_b1_length, A_r, A_t, hgs⟩
    replace E_b1 := E_b1.keep K
    show own_H _ _ _ _ _ _ _ _ T (mkF m 125 #[.val (.long p0), .second, .val (.long p1), .second, .val (.long p2), .second, .val (.long p3), .second, .val (.int x), .val (.int y), .val (.int (Int32.ofNat c0)), .val (.int (Int32.ofNat c1)), .val (.int (Int32.ofNat c2)), .val (.int (Int32.ofNat c3)), .val (.int (Int32.ofNat 4)), .val (.ref mg), .val (.ref b1), .unset, .unset, .unset, .unset, .unset, .unset, .unset, .unset, .unset, .unset, .unset, .unset, .unset, .unset, .unset, .unset] [])
    replace hall : ∀ i, i < 4 → gs4 i = own_S c0 c1 c2 c3 i ∧ gp4 i = own_P p0 p1 p2 p3 i := own_all (n := 3) hall hgs rfl rfl
    rw [show (own_S c0 c1 c2 c3 3) + (Int32.ofNat c3).toInt64 = (own_S c0 c1 c2 c3 4) from own_addL (own_sum c0 c1 c2 c3 3) c3 (own_sum_b c0 c1 c2 c3 3 hc0 hc1 hc2 hc3) (by omega)] at F_b1_length
    refine own_iload X B at_125 rfl (pc' := 127) rfl ?_
    refine own_i2l X B at_127 (pc' := 128) rfl ?_
    rw [own_i2l_nat c0 (by omega)]
    show own_H _ _ _ _ _ _ _ _ T (mkF m 128 #[.val (.long p0), .second, .val (.long p1), .second, .val (.long p2), .second, .val (.long p3), .second, .val (.int x), .val (.int y), .val (.int (Int32.ofNat c0)), .val (.int (Int32.ofNat c1)), .val (.int (Int32.ofNat c2)), .val (.int (Int32.ofNat c3)), .val (.int (Int32.ofNat 4)), .val (.ref mg), .val (.ref b1), .unset, .unset, .unset, .unset, .unset, .unset, .unset, .unset, .unset, .unset, .unset, .unset, .unset, .unset, .unset, .unset] [.long (own_S c0 c1 c2 c3 1)])
    refine own_lstore X B at_128 (L' := #[.val (.long p0), .second, .val (.long p1), .second, .val (.long p2), .second, .val (.long p3), .second, .val (.int x), .val (.int y), .val (.int (Int32.ofNat c0)), .val (.int (Int32.ofNat c1)), .val (.int (Int32.ofNat c2)), .val (.int (Int32.ofNat c3)), .val (.int (Int32.ofNat 4)), .val (.ref mg), .val (.ref b1), .val (.long (own_S c0 c1 c2 c3 1)), .second, .unset, .unset, .unset, .unset, .unset, .unset, .unset, .unset, .unset, .unset, .unset, .unset, .unset, .unset]) rfl (pc' := 130) rfl ?_
    refine own_lload X B at_130 rfl (pc' := 132) rfl ?_
    refine own_iload X B at_132 rfl (pc' := 134) rfl ?_
    refine own_i2l X B at_134 (pc' := 135) rfl ?_
    refine own_ladd X B at_135 (pc' := 136) rfl ?_
    rw [show (own_S c0 c1 c2 c3 1) + (Int32.ofNat c1).toInt64 = (own_S c0 c1 c2 c3 2) from own_addL (own_sum c0 c1 c2 c3 1) c1 (own_sum_b c0 c1 c2 c3 1 hc0 hc1 hc2 hc3) (by omega)]
    refine own_lstore X B at_136 (L' := #[.val (.long p0), .second, .val (.long p1), .second, .val (.long p2), .second, .val (.long p3), .second, .val (.int x), .val (.int y), .val (.int (Int32.ofNat c0)), .val (.int (Int32.ofNat c1)), .val (.int (Int32.ofNat c2)), .val (.int (Int32.ofNat c3)), .val (.int (Int32.ofNat 4)), .val (.ref mg), .val (.ref b1), .val (.long (own_S c0 c1 c2 c3 1)), .second, .val (.long (own_S c0 c1 c2 c3 2)), .second, .unset, .unset, .unset, .unset, .unset, .unset, .unset, .unset, .unset, .unset, .unset, .unset]) rfl (pc' := 138) rfl ?_
    refine own_lload X B at_138 rfl (pc' := 140) rfl ?_
    refine own_iload X B at_140 rfl (pc' := 142) rfl ?_
    refine own_i2l X B at_142 (pc' := 143) rfl ?_
    refine own_ladd X B at_143 (pc' := 144) rfl ?_
    rw [show (own_S c0 c1 c2 c3 2) + (Int32.ofNat c2).toInt64 = (own_S c0 c1 c2 c3 3) from own_addL (own_sum c0 c1 c2 c3 2) c2 (own_sum_b c0 c1 c2 c3 2 hc0 hc1 hc2 hc3) (by omega)]
    refine own_lstore X B at_144 (L' := #[.val (.long p0), .second, .val (.long p1), .second, .val (.long p2), .second, .val (.long p3), .second, .val (.int x), .val (.int y), .val (.int (Int32.ofNat c0)), .val (.int (Int32.ofNat c1)), .val (.int (Int32.ofNat c2)), .val (.int (Int32.ofNat c3)), .val (.int (Int32.ofNat 4)), .val (.ref mg), .val (.ref b1), .val (.long (own_S c0 c1 c2 c3 1)), .second, .val (.long (own_S c0 c1 c2 c3 2)), .second, .val (.long (own_S c0 c1 c2 c3 3)), .second, .unset, .unset, .unset, .unset, .unset, .unset, .unset, .unset, .unset, .unset]) rfl (pc' := 146) rfl ?_
    refine own_iload X B at_146 rfl (pc' := 148) rfl ?_
    refine own_iconst X B at_148 (v := (1 : Int32)) rfl (pc' := 149) rfl ?_
    refine own_icmpT X B at_149 (feq (by decide)).2 (pc' := 157) (by decide) (by decide) ?_
    refine own_iload X B at_157 rfl (pc' := 159) rfl ?_
    refine own_iconst X B at_159 (v := (2 : Int32)) rfl (pc' := 160) rfl ?_
    refine own_icmpT X B at_160 (feq (by decide)).2 (pc' := 168) (by decide) (by decide) ?_
    refine own_iload X B at_168 rfl (pc' := 170) rfl ?_
    refine own_iconst X B at_170 (v := (3 : Int32)) rfl (pc' := 171) rfl ?_
    refine own_icmpT X B at_171 (feq (by decide)).2 (pc' := 179) (by decide) (by decide) ?_
    refine own_lload X B at_179 rfl (pc' := 181) rfl ?_
    refine own_iload X B at_181 rfl (pc' := 183) rfl ?_
    refine own_i2l X B at_183 (pc' := 184) rfl ?_
    refine own_ladd X B at_184 (pc' := 185) rfl ?_
    rw [show (own_S c0 c1 c2 c3 3) + (Int32.ofNat c3).toInt64 = (own_S c0 c1 c2 c3 4) from own_addL (own_sum c0 c1 c2 c3 3) c3 (own_sum_b c0 c1 c2 c3 3 hc0 hc1 hc2 hc3) (by omega)]
    refine own_lstore X B at_185 (L' := #[.val (.long p0), .second, .val (.long p1), .second, .val (.long p2), .second, .val (.long p3), .second, .val (.int x), .val (.int y), .val (.int (Int32.ofNat c0)), .val (.int (Int32.ofNat c1)), .val (.int (Int32.ofNat c2)), .val (.int (Int32.ofNat c3)), .val (.int (Int32.ofNat 4)), .val (.ref mg), .val (.ref b1), .val (.long (own_S c0 c1 c2 c3 1)), .second, .val (.long (own_S c0 c1 c2 c3 2)), .second, .val (.long (own_S c0 c1 c2 c3 3)), .second, .val (.long (own_S c0 c1 c2 c3 4)), .second, .unset, .unset, .unset, .unset, .unset, .unset, .unset, .unset]) rfl (pc' := 187) rfl ?_
    refine own_iload X B at_187 rfl (pc' := 189) rfl ?_
    refine own_lit X B (hw _ (List.mem_of_getElem? (i := 26) rfl)) at_189 (pc' := 191) rfl ?_
    refine own_iand X B at_191 (pc' := 192) rfl ?_
    refine own_lload X B at_192 rfl (pc' := 194) rfl ?_
    refine own_lconst X B at_194 (v := (1 : Int64)) rfl (pc' := 195) rfl ?_
    refine own_ladd X B at_195 (pc' := 196) rfl ?_
    refine own_l2i X B at_196 (pc' := 197) rfl ?_
    refine own_irem X B at_197 (own_nz _ (own_sum_le c0 c1 c2 c3 _ hc0 hc1 hc2 hc3)) (pc' := 198) rfl ?_
    refine own_i2l X B at_198 (pc' := 199) rfl ?_
    obtain ⟨bi, hbi⟩ : ∃ z : Int64, z = (((y &&& (2147483647 : Int32)) % (((own_S c0 c1 c2 c3 4) + (1 : Int64))).toInt32)).toInt64 := ⟨_, rfl⟩
    rw [← hbi]
    refine own_lstore X B at_199 (L' := #[.val (.long p0), .second, .val (.long p1), .second, .val (.long p2), .second, .val (.long p3), .second, .val (.int x), .val (.int y), .val (.int (Int32.ofNat c0)), .val (.int (Int32.ofNat c1)), .val (.int (Int32.ofNat c2)), .val (.int (Int32.ofNat c3)), .val (.int (Int32.ofNat 4)), .val (.ref mg), .val (.ref b1), .val (.long (own_S c0 c1 c2 c3 1)), .second, .val (.long (own_S c0 c1 c2 c3 2)), .second, .val (.long (own_S c0 c1 c2 c3 3)), .second, .val (.long (own_S c0 c1 c2 c3 4)), .second, .val (.long bi), .second, .unset, .unset, .unset, .unset, .unset, .unset]) rfl (pc' := 201) rfl ?_
    refine own_lconst X B at_201 (v := (0 : Int64)) rfl (pc' := 202) rfl ?_
    refine own_lstore X B at_202 (L' := #[.val (.long p0), .second, .val (.long p1), .second, .val (.long p2), .second, .val (.long p3), .second, .val (.int x), .val (.int y), .val (.int (Int32.ofNat c0)), .val (.int (Int32.ofNat c1)), .val (.int (Int32.ofNat c2)), .val (.int (Int32.ofNat c3)), .val (.int (Int32.ofNat 4)), .val (.ref mg), .val (.ref b1), .val (.long (own_S c0 c1 c2 c3 1)), .second, .val (.long (own_S c0 c1 c2 c3 2)), .second, .val (.long (own_S c0 c1 c2 c3 3)), .second, .val (.long (own_S c0 c1 c2 c3 4)), .second, .val (.long bi), .second, .val (.long (0 : Int64)), .second, .unset, .unset, .unset, .unset]) rfl (pc' := 204) rfl ?_
    refine own_lloadN X B at_204 rfl (pc' := 205) rfl ?_
    refine own_lstore X B at_205 (L' := #[.val (.long p0), .second, .val (.long p1), .second, .val (.long p2), .second, .val (.long p3), .second, .val (.int x), .val (.int y), .val (.int (Int32.ofNat c0)), .val (.int (Int32.ofNat c1)), .val (.int (Int32.ofNat c2)), .val (.int (Int32.ofNat c3)), .val (.int (Int32.ofNat 4)), .val (.ref mg), .val (.ref b1), .val (.long (own_S c0 c1 c2 c3 1)), .second, .val (.long (own_S c0 c1 c2 c3 2)), .second, .val (.long (own_S c0 c1 c2 c3 3)), .second, .val (.long (own_S c0 c1 c2 c3 4)), .second, .val (.long bi), .second, .val (.long (0 : Int64)), .second, .val (.long p0), .second, .unset, .unset]) rfl (pc' := 207) rfl ?_
    refine own_iload X B at_207 rfl (pc' := 209) rfl ?_
    refine own_iconst X B at_209 (v := (1 : Int32)) rfl (pc' := 210) rfl ?_
    have J272 : ∀ (T : State) (h : Heap) (st : Int64) (pl : Int64), own_St p l e room_1 s m #[.long p0, .long p1, .long p2, .long p3, .int x, .int y] below meth c n0 h0 [] T h 12 43 → Fld Z h b1 "com/example/tightwire/tightwire/bits/BitRuns" "starts" "[J" (.ref r) → Fld Z h b1 "com/example/tightwire/tightwire/bits/BitRuns" "places" "[J" (.ref t) → Fld Z h b1 "com/example/tightwire/tightwire/bits/BitRuns" "runs" "I" (.int (Int32.ofNat 4)) → Fld Z h b1 "com/example/tightwire/tightwire/bits/BitRuns" "length" "J" (.long (own_S c0 c1 c2 c3 4)) → own_AJ Z h r cp gs4 → own_AJ Z h t cp gp4 → Exa Z h b1 "com/example/tightwire/tightwire/bits/BitRuns" → (∃ k, k < 4 ∧ (k = 0 ∨ ¬ bi < own_S c0 c1 c2 c3 k) ∧ (∀ i, k < i → i < 4 → bi < own_S c0 c1 c2 c3 i) ∧ st = own_S c0 c1 c2 c3 k ∧ pl = own_P p0 p1 p2 p3 k) → own_G p e below s n0 h0 [] (fun v h => v = some (.int 1)) 24 128 T (mkF m 272 #[.val (.long p0), .second, .val (.long p1), .second, .val (.long p2), .second, .val (.long p3), .second, .val (.int x), .val (.int y), .val (.int (Int32.ofNat c0)), .val (.int (Int32.ofNat c1)), .val (.int (Int32.ofNat c2)), .val (.int (Int32.ofNat c3)), .val (.int (Int32.ofNat 4)), .val (.ref mg), .val (.ref b1), .val (.long (own_S c0 c1 c2 c3 1)), .second, .val (.long (own_S c0 c1 c2 c3 2)), .second, .val (.long (own_S c0 c1 c2 c3 3)), .second, .val (.long (own_S c0 c1 c2 c3 4)), .second, .val (.long bi), .second, .val (.long st), .second, .val (.long pl), .second, .unset, .unset] []) := by
      intro T h st pl X F_b1_starts F_b1_places F_b1_runs F_b1_length A_r A_t E_b1 hk
      refine own_lload X B at_272 rfl (pc' := 274) rfl ?_
      refine own_lload X B at_274 rfl (pc' := 276) rfl ?_
      refine own_ladd X B at_276 (pc' := 277) rfl ?_
      refine own_lload X B at_277 rfl (pc' := 279) rfl ?_
      refine own_lsub X B at_279 (pc' := 280) rfl ?_
      refine own_lstore X B at_280 (L' := #[.val (.long p0), .second, .val (.long p1), .second, .val (.long p2), .second, .val (.long p3), .second, .val (.int x), .val (.int y), .val (.int (Int32.ofNat c0)), .val (.int (Int32.ofNat c1)), .val (.int (Int32.ofNat c2)), .val (.int (Int32.ofNat c3)), .val (.int (Int32.ofNat 4)), .val (.ref mg), .val (.ref b1), .val (.long (own_S c0 c1 c2 c3 1)), .second, .val (.long (own_S c0 c1 c2 c3 2)), .second, .val (.long (own_S c0 c1 c2 c3 3)), .second, .val (.long (own_S c0 c1 c2 c3 4)), .second, .val (.long bi), .second, .val (.long st), .second, .val (.long pl), .second, .val (.long ((pl + bi) - st)), .second]) rfl (pc' := 282) rfl ?_
      refine own_aload X B at_282 rfl rfl (pc' := 284) rfl ?_
      refine own_callV X B (W := 0) (hw _ (List.mem_of_getElem? (i := 27) rfl)) (hw _ (List.mem_of_getElem? (i := 28) rfl)) (hw _ (List.mem_of_getElem? (i := 30) rfl)) (hw _ (List.mem_of_getElem? (i := 29) rfl)) (hw _ (List.mem_of_getElem? (i := 31) rfl)) (hw _ (List.mem_of_getElem? (i := 3) rfl)) (by decide) E_b1 (rm5 l Z a0 hw b1 (own_S c0 c1 c2 c3 4) h n0 (own_sz X Z0) F_b1_length) (by decide) (by decide) (by decide) (by decide) rfl (argsL := []) pd_4 rfl rfl (st := []) rfl (Nat.le_refl _) at_284 (pc' := 287) rfl all0 ?_
      rintro v T h X K rfl
      replace F_b1_starts := F_b1_starts.keep K nin0
      replace F_b1_places := F_b1_places.keep K nin0
      replace F_b1_runs := F_b1_runs.keep K nin0
      replace F_b1_length := F_b1_length.keep K nin0
      replace A_r := A_r.keep K nin0
      replace A_t := A_t.keep K nin0
      replace E_b1 := E_b1.keep K
      show own_H _ _ _ _ _ _ _ _ T (mkF m 287 #[.val (.long p0), .second, .val (.long p1), .second, .val (.long p2), .second, .val (.long p3), .second, .val (.int x), .val (.int y), .val (.int (Int32.ofNat c0)), .val (.int (Int32.ofNat c1)), .val (.int (Int32.ofNat c2)), .val (.int (Int32.ofNat c3)), .val (.int (Int32.ofNat 4)), .val (.ref mg), .val (.ref b1), .val (.long (own_S c0 c1 c2 c3 1)), .second, .val (.long (own_S c0 c1 c2 c3 2)), .second, .val (.long (own_S c0 c1 c2 c3 3)), .second, .val (.long (own_S c0 c1 c2 c3 4)), .second, .val (.long bi), .second, .val (.long st), .second, .val (.long pl), .second, .val (.long ((pl + bi) - st)), .second] [.long (own_S c0 c1 c2 c3 4)])
      refine own_lload X B at_287 rfl (pc' := 289) rfl ?_
      refine own_lcmp X B at_289 (pc' := 290) rfl ?_
      refine own_ifF X B at_290 (teq ((lw_eq _ _).mpr rfl)).2 (pc' := 293) rfl ?_
      refine own_aload X B at_293 rfl rfl (pc' := 295) rfl ?_
      refine own_lload X B at_295 rfl (pc' := 297) rfl ?_
      refine own_callV X B (W := 0) (hw _ (List.mem_of_getElem? (i := 32) rfl)) (hw _ (List.mem_of_getElem? (i := 33) rfl)) (hw _ (List.mem_of_getElem? (i := 35) rfl)) (hw _ (List.mem_of_getElem? (i := 34) rfl)) (hw _ (List.mem_of_getElem? (i := 36) rfl)) (hw _ (List.mem_of_getElem? (i := 3) rfl)) (by decide) E_b1 (rm6 l Z a0 hw b1 r t bi 4 cp gs4 gp4 h n0 (own_sz X Z0) F_b1_starts F_b1_places F_b1_runs A_r A_t (by decide) (by decide) (own_cap_le hcp) (own_sorted c0 c1 c2 c3 hc0 hc1 hc2 hc3 (by decide) hall)) (by decide) (by decide) (by decide) (by decide) rfl (argsL := [.long bi]) pd_5 rfl rfl (st := []) rfl (Nat.le_refl _) at_297 (pc' := 300) rfl all0 ?_
      rintro v T h X K ⟨k', hk1, hk2, hk3, rfl⟩
      replace F_b1_starts := F_b1_starts.keep K nin0
      replace F_b1_places := F_b1_places.keep K nin0
      replace F_b1_runs := F_b1_runs.keep K nin0
      replace F_b1_length := F_b1_length.keep K nin0
      replace A_r := A_r.keep K nin0
      replace A_t := A_t.keep K nin0
      replace E_b1 := E_b1.keep K
      show own_H _ _ _ _ _ _ _ _ T (mkF m 300 #[.val (.long p0), .second, .val (.long p1), .second, .val (.long p2), .second, .val (.long p3), .second, .val (.int x), .val (.int y), .val (.int (Int32.ofNat c0)), .val (.int (Int32.ofNat c1)), .val (.int (Int32.ofNat c2)), .val (.int (Int32.ofNat c3)), .val (.int (Int32.ofNat 4)), .val (.ref mg), .val (.ref b1), .val (.long (own_S c0 c1 c2 c3 1)), .second, .val (.long (own_S c0 c1 c2 c3 2)), .second, .val (.long (own_S c0 c1 c2 c3 3)), .second, .val (.long (own_S c0 c1 c2 c3 4)), .second, .val (.long bi), .second, .val (.long st), .second, .val (.long pl), .second, .val (.long ((pl + bi) - st)), .second] [.long (gp4 k' + bi - gs4 k')])
      refine own_lload X B at_300 rfl (pc' := 302) rfl ?_
      refine own_lcmp X B at_302 (pc' := 303) rfl ?_
      refine own_ifF X B at_303 (teq ((lw_eq _ _).mpr (own_same hall hk hk1 hk2 hk3))).2 (pc' := 306) rfl ?_
      refine own_iconst X B at_306 (v := (1 : Int32)) rfl (pc' := 307) rfl ?_
      refine own_goto X B at_307 (pc' := 311) (by decide) (by decide) ?_
      exact own_zret X B at_311 (by decide) (by decide) rfl rfl
    refine own_icmpF X B at_210 (tlt (by decide)).2.2.2 (pc' := 213) rfl ?_
    refine own_lload X B at_213 rfl (pc' := 215) rfl ?_
    refine own_lload X B at_215 rfl (pc' := 217) rfl ?_
    refine own_lcmp X B at_217 (pc' := 218) rfl ?_
    by_cases q1 : (0 : Int32) < (lcmpW (own_S c0 c1 c2 c3 1) bi)
    · -- q1
      refine own_ifT X B at_218 (tlt q1).2.2.1 (pc' := 228) (by decide) (by decide) ?_
      have t1 : bi < own_S c0 c1 c2 c3 1 := (lw_gt _ _).mp q1
      refine own_iload X B at_228 rfl (pc' := 230) rfl ?_
      refine own_iconst X B at_230 (v := (2 : Int32)) rfl (pc' := 231) rfl ?_
      refine own_icmpF X B at_231 (tlt (by decide)).2.2.2 (pc' := 234) rfl ?_
      refine own_lload X B at_234 rfl (pc' := 236) rfl ?_
      refine own_lload X B at_236 rfl (pc' := 238) rfl ?_
      refine own_lcmp X B at_238 (pc' := 239) rfl ?_
      by_cases q2 : (0 : Int32) < (lcmpW (own_S c0 c1 c2 c3 2) bi)
      · -- q2
        refine own_ifT X B at_239 (tlt q2).2.2.1 (pc' := 250) (by decide) (by decide) ?_
        have t2 : bi < own_S c0 c1 c2 c3 2 := (lw_gt _ _).mp q2
        refine own_iload X B at_250 rfl (pc' := 252) rfl ?_
        refine own_iconst X B at_252 (v := (3 : Int32)) rfl (pc' := 253) rfl ?_
        refine own_icmpF X B at_253 (tlt (by decide)).2.2.2 (pc' := 256) rfl ?_
        refine own_lload X B at_256 rfl (pc' := 258) rfl ?_
        refine own_lload X B at_258 rfl (pc' := 260) rfl ?_
        refine own_lcmp X B at_260 (pc' := 261) rfl ?_
        by_cases q3 : (0 : Int32) < (lcmpW (own_S c0 c1 c2 c3 3) bi)
        · -- q3
          refine own_ifT X B at_261 (tlt q3).2.2.1 (pc' := 272) (by decide) (by decide) ?_
          have t3 : bi < own_S c0 c1 c2 c3 3 := (lw_gt _ _).mp q3
          exact J272 _ _ _ _ X F_b1_starts F_b1_places F_b1_runs F_b1_length A_r A_t E_b1 ⟨0, by decide, Or.inl rfl, (fun i h1 h2 => by
            match i, h1, h2 with
            | 1, _, _ => exact t1
            | 2, _, _ => exact t2
            | 3, _, _ => exact t3), rfl, rfl⟩
        · -- not q3
          refine own_ifF X B at_261 (flt q3).2.2.1 (pc' := 264) rfl ?_
          have t3 : ¬ bi < own_S c0 c1 c2 c3 3 := fun q => q3 ((lw_gt _ _).mpr q)
          refine own_lload X B at_264 rfl (pc' := 266) rfl ?_
          refine own_lstore X B at_266 (L' := #[.val (.long p0), .second, .val (.long p1), .second, .val (.long p2), .second, .val (.long p3), .second, .val (.int x), .val (.int y), .val (.int (Int32.ofNat c0)), .val (.int (Int32.ofNat c1)), .val (.int (Int32.ofNat c2)), .val (.int (Int32.ofNat c3)), .val (.int (Int32.ofNat 4)), .val (.ref mg), .val (.ref b1), .val (.long (own_S c0 c1 c2 c3 1)), .second, .val (.long (own_S c0 c1 c2 c3 2)), .second, .val (.long (own_S c0 c1 c2 c3 3)), .second, .val (.long (own_S c0 c1 c2 c3 4)), .second, .val (.long bi), .second, .val (.long (own_S c0 c1 c2 c3 3)), .second, .val (.long p0), .second, .unset, .unset]) rfl (pc' := 268) rfl ?_
          refine own_lload X B at_268 rfl (pc' := 270) rfl ?_
          refine own_lstore X B at_270 (L' := #[.val (.long p0), .second, .val (.long p1), .second, .val (.long p2), .second, .val (.long p3), .second, .val (.int x), .val (.int y), .val (.int (Int32.ofNat c0)), .val (.int (Int32.ofNat c1)), .val (.int (Int32.ofNat c2)), .val (.int (Int32.ofNat c3)), .val (.int (Int32.ofNat 4)), .val (.ref mg), .val (.ref b1), .val (.long (own_S c0 c1 c2 c3 1)), .second, .val (.long (own_S c0 c1 c2 c3 2)), .second, .val (.long (own_S c0 c1 c2 c3 3)), .second, .val (.long (own_S c0 c1 c2 c3 4)), .second, .val (.long bi), .second, .val (.long (own_S c0 c1 c2 c3 3)), .second, .val (.long p3), .second, .unset, .unset]) rfl (pc' := 272) rfl ?_
          exact J272 _ _ _ _ X F_b1_starts F_b1_places F_b1_runs F_b1_length A_r A_t E_b1 ⟨3, by decide, Or.inr t3, (fun i h1 h2 => by omega), rfl, rfl⟩
      · -- not q2
        refine own_ifF X B at_239 (flt q2).2.2.1 (pc' := 242) rfl ?_
        have t2 : ¬ bi < own_S c0 c1 c2 c3 2 := fun q => q2 ((lw_gt _ _).mpr q)
        refine own_lload X B at_242 rfl (pc' := 244) rfl ?_
        refine own_lstore X B at_244 (L' := #[.val (.long p0), .second, .val (.long p1), .second, .val (.long p2), .second, .val (.long p3), .second, .val (.int x), .val (.int y), .val (.int (Int32.ofNat c0)), .val (.int (Int32.ofNat c1)), .val (.int (Int32.ofNat c2)), .val (.int (Int32.ofNat c3)), .val (.int (Int32.ofNat 4)), .val (.ref mg), .val (.ref b1), .val (.long (own_S c0 c1 c2 c3 1)), .second, .val (.long (own_S c0 c1 c2 c3 2)), .second, .val (.long (own_S c0 c1 c2 c3 3)), .second, .val (.long (own_S c0 c1 c2 c3 4)), .second, .val (.long bi), .second, .val (.long (own_S c0 c1 c2 c3 2)), .second, .val (.long p0), .second, .unset, .unset]) rfl (pc' := 246) rfl ?_
        refine own_lload X B at_246 rfl (pc' := 248) rfl ?_
        refine own_lstore X B at_248 (L' := #[.val (.long p0), .second, .val (.long p1), .second, .val (.long p2), .second, .val (.long p3), .second, .val (.int x), .val (.int y), .val (.int (Int32.ofNat c0)), .val (.int (Int32.ofNat c1)), .val (.int (Int32.ofNat c2)), .val (.int (Int32.ofNat c3)), .val (.int (Int32.ofNat 4)), .val (.ref mg), .val (.ref b1), .val (.long (own_S c0 c1 c2 c3 1)), .second, .val (.long (own_S c0 c1 c2 c3 2)), .second, .val (.long (own_S c0 c1 c2 c3 3)), .second, .val (.long (own_S c0 c1 c2 c3 4)), .second, .val (.long bi), .second, .val (.long (own_S c0 c1 c2 c3 2)), .second, .val (.long p2), .second, .unset, .unset]) rfl (pc' := 250) rfl ?_
        refine own_iload X B at_250 rfl (pc' := 252) rfl ?_
        refine own_iconst X B at_252 (v := (3 : Int32)) rfl (pc' := 253) rfl ?_
        refine own_icmpF X B at_253 (tlt (by decide)).2.2.2 (pc' := 256) rfl ?_
        refine own_lload X B at_256 rfl (pc' := 258) rfl ?_
        refine own_lload X B at_258 rfl (pc' := 260) rfl ?_
        refine own_lcmp X B at_260 (pc' := 261) rfl ?_
        by_cases q3 : (0 : Int32) < (lcmpW (own_S c0 c1 c2 c3 3) bi)
        · -- q3
          refine own_ifT X B at_261 (tlt q3).2.2.1 (pc' := 272) (by decide) (by decide) ?_
          have t3 : bi < own_S c0 c1 c2 c3 3 := (lw_gt _ _).mp q3
          exact J272 _ _ _ _ X F_b1_starts F_b1_places F_b1_runs F_b1_length A_r A_t E_b1 ⟨2, by decide, Or.inr t2, (fun i h1 h2 => by
            match i, h1, h2 with
            | 3, _, _ => exact t3), rfl, rfl⟩
        · -- not q3
          refine own_ifF X B at_261 (flt q3).2.2.1 (pc' := 264) rfl ?_
          have t3 : ¬ bi < own_S c0 c1 c2 c3 3 := fun q => q3 ((lw_gt _ _).mpr q)
          refine own_lload X B at_264 rfl (pc' := 266) rfl ?_
          refine own_lstore X B at_266 (L' := #[.val (.long p0), .second, .val (.long p1), .second, .val (.long p2), .second, .val (.long p3), .second, .val (.int x), .val (.int y), .val (.int (Int32.ofNat c0)), .val (.int (Int32.ofNat c1)), .val (.int (Int32.ofNat c2)), .val (.int (Int32.ofNat c3)), .val (.int (Int32.ofNat 4)), .val (.ref mg), .val (.ref b1), .val (.long (own_S c0 c1 c2 c3 1)), .second, .val (.long (own_S c0 c1 c2 c3 2)), .second, .val (.long (own_S c0 c1 c2 c3 3)), .second, .val (.long (own_S c0 c1 c2 c3 4)), .second, .val (.long bi), .second, .val (.long (own_S c0 c1 c2 c3 3)), .second, .val (.long p2), .second, .unset, .unset]) rfl (pc' := 268) rfl ?_
          refine own_lload X B at_268 rfl (pc' := 270) rfl ?_
          refine own_lstore X B at_270 (L' := #[.val (.long p0), .second, .val (.long p1), .second, .val (.long p2), .second, .val (.long p3), .second, .val (.int x), .val (.int y), .val (.int (Int32.ofNat c0)), .val (.int (Int32.ofNat c1)), .val (.int (Int32.ofNat c2)), .val (.int (Int32.ofNat c3)), .val (.int (Int32.ofNat 4)), .val (.ref mg), .val (.ref b1), .val (.long (own_S c0 c1 c2 c3 1)), .second, .val (.long (own_S c0 c1 c2 c3 2)), .second, .val (.long (own_S c0 c1 c2 c3 3)), .second, .val (.long (own_S c0 c1 c2 c3 4)), .second, .val (.long bi), .second, .val (.long (own_S c0 c1 c2 c3 3)), .second, .val (.long p3), .second, .unset, .unset]) rfl (pc' := 272) rfl ?_
          exact J272 _ _ _ _ X F_b1_starts F_b1_places F_b1_runs F_b1_length A_r A_t E_b1 ⟨3, by decide, Or.inr t3, (fun i h1 h2 => by omega), rfl, rfl⟩
    · -- not q1
      refine own_ifF X B at_218 (flt q1).2.2.1 (pc' := 221) rfl ?_
      have t1 : ¬ bi < own_S c0 c1 c2 c3 1 := fun q => q1 ((lw_gt _ _).mpr q)
      refine own_lload X B at_221 rfl (pc' := 223) rfl ?_
      refine own_lstore X B at_223 (L' := #[.val (.long p0), .second, .val (.long p1), .second, .val (.long p2), .second, .val (.long p3), .second, .val (.int x), .val (.int y), .val (.int (Int32.ofNat c0)), .val (.int (Int32.ofNat c1)), .val (.int (Int32.ofNat c2)), .val (.int (Int32.ofNat c3)), .val (.int (Int32.ofNat 4)), .val (.ref mg), .val (.ref b1), .val (.long (own_S c0 c1 c2 c3 1)), .second, .val (.long (own_S c0 c1 c2 c3 2)), .second, .val (.long (own_S c0 c1 c2 c3 3)), .second, .val (.long (own_S c0 c1 c2 c3 4)), .second, .val (.long bi), .second, .val (.long (own_S c0 c1 c2 c3 1)), .second, .val (.long p0), .second, .unset, .unset]) rfl (pc' := 225) rfl ?_
      refine own_lloadN X B at_225 rfl (pc' := 226) rfl ?_
      refine own_lstore X B at_226 (L' := #[.val (.long p0), .second, .val (.long p1), .second, .val (.long p2), .second, .val (.long p3), .second, .val (.int x), .val (.int y), .val (.int (Int32.ofNat c0)), .val (.int (Int32.ofNat c1)), .val (.int (Int32.ofNat c2)), .val (.int (Int32.ofNat c3)), .val (.int (Int32.ofNat 4)), .val (.ref mg), .val (.ref b1), .val (.long (own_S c0 c1 c2 c3 1)), .second, .val (.long (own_S c0 c1 c2 c3 2)), .second, .val (.long (own_S c0 c1 c2 c3 3)), .second, .val (.long (own_S c0 c1 c2 c3 4)), .second, .val (.long bi), .second, .val (.long (own_S c0 c1 c2 c3 1)), .second, .val (.long p1), .second, .unset, .unset]) rfl (pc' := 228) rfl ?_
      refine own_iload X B at_228 rfl (pc' := 230) rfl ?_
      refine own_iconst X B at_230 (v := (2 : Int32)) rfl (pc' := 231) rfl ?_
      refine own_icmpF X B at_231 (tlt (by decide)).2.2.2 (pc' := 234) rfl ?_
      refine own_lload X B at_234 rfl (pc' := 236) rfl ?_
      refine own_lload X B at_236 rfl (pc' := 238) rfl ?_
      refine own_lcmp X B at_238 (pc' := 239) rfl ?_
      by_cases q2 : (0 : Int32) < (lcmpW (own_S c0 c1 c2 c3 2) bi)
      · -- q2
        refine own_ifT X B at_239 (tlt q2).2.2.1 (pc' := 250) (by decide) (by decide) ?_
        have t2 : bi < own_S c0 c1 c2 c3 2 := (lw_gt _ _).mp q2
        refine own_iload X B at_250 rfl (pc' := 252) rfl ?_
        refine own_iconst X B at_252 (v := (3 : Int32)) rfl (pc' := 253) rfl ?_
        refine own_icmpF X B at_253 (tlt (by decide)).2.2.2 (pc' := 256) rfl ?_
        refine own_lload X B at_256 rfl (pc' := 258) rfl ?_
        refine own_lload X B at_258 rfl (pc' := 260) rfl ?_
        refine own_lcmp X B at_260 (pc' := 261) rfl ?_
        by_cases q3 : (0 : Int32) < (lcmpW (own_S c0 c1 c2 c3 3) bi)
        · -- q3
          refine own_ifT X B at_261 (tlt q3).2.2.1 (pc' := 272) (by decide) (by decide) ?_
          have t3 : bi < own_S c0 c1 c2 c3 3 := (lw_gt _ _).mp q3
          exact J272 _ _ _ _ X F_b1_starts F_b1_places F_b1_runs F_b1_length A_r A_t E_b1 ⟨1, by decide, Or.inr t1, (fun i h1 h2 => by
            match i, h1, h2 with
            | 2, _, _ => exact t2
            | 3, _, _ => exact t3), rfl, rfl⟩
        · -- not q3
          refine own_ifF X B at_261 (flt q3).2.2.1 (pc' := 264) rfl ?_
          have t3 : ¬ bi < own_S c0 c1 c2 c3 3 := fun q => q3 ((lw_gt _ _).mpr q)
          refine own_lload X B at_264 rfl (pc' := 266) rfl ?_
          refine own_lstore X B at_266 (L' := #[.val (.long p0), .second, .val (.long p1), .second, .val (.long p2), .second, .val (.long p3), .second, .val (.int x), .val (.int y), .val (.int (Int32.ofNat c0)), .val (.int (Int32.ofNat c1)), .val (.int (Int32.ofNat c2)), .val (.int (Int32.ofNat c3)), .val (.int (Int32.ofNat 4)), .val (.ref mg), .val (.ref b1), .val (.long (own_S c0 c1 c2 c3 1)), .second, .val (.long (own_S c0 c1 c2 c3 2)), .second, .val (.long (own_S c0 c1 c2 c3 3)), .second, .val (.long (own_S c0 c1 c2 c3 4)), .second, .val (.long bi), .second, .val (.long (own_S c0 c1 c2 c3 3)), .second, .val (.long p1), .second, .unset, .unset]) rfl (pc' := 268) rfl ?_
          refine own_lload X B at_268 rfl (pc' := 270) rfl ?_
          refine own_lstore X B at_270 (L' := #[.val (.long p0), .second, .val (.long p1), .second, .val (.long p2), .second, .val (.long p3), .second, .val (.int x), .val (.int y), .val (.int (Int32.ofNat c0)), .val (.int (Int32.ofNat c1)), .val (.int (Int32.ofNat c2)), .val (.int (Int32.ofNat c3)), .val (.int (Int32.ofNat 4)), .val (.ref mg), .val (.ref b1), .val (.long (own_S c0 c1 c2 c3 1)), .second, .val (.long (own_S c0 c1 c2 c3 2)), .second, .val (.long (own_S c0 c1 c2 c3 3)), .second, .val (.long (own_S c0 c1 c2 c3 4)), .second, .val (.long bi), .second, .val (.long (own_S c0 c1 c2 c3 3)), .second, .val (.long p3), .second, .unset, .unset]) rfl (pc' := 272) rfl ?_
          exact J272 _ _ _ _ X F_b1_starts F_b1_places F_b1_runs F_b1_length A_r A_t E_b1 ⟨3, by decide, Or.inr t3, (fun i h1 h2 => by omega), rfl, rfl⟩
      · -- not q2
        refine own_ifF X B at_239 (flt q2).2.2.1 (pc' := 242) rfl ?_
        have t2 : ¬ bi < own_S c0 c1 c2 c3 2 := fun q => q2 ((lw_gt _ _).mpr q)
        refine own_lload X B at_242 rfl (pc' := 244) rfl ?_
        refine own_lstore X B at_244 (L' := #[.val (.long p0), .second, .val (.long p1), .second, .val (.long p2), .second, .val (.long p3), .second, .val (.int x), .val (.int y), .val (.int (Int32.ofNat c0)), .val (.int (Int32.ofNat c1)), .val (.int (Int32.ofNat c2)), .val (.int (Int32.ofNat c3)), .val (.int (Int32.ofNat 4)), .val (.ref mg), .val (.ref b1), .val (.long (own_S c0 c1 c2 c3 1)), .second, .val (.long (own_S c0 c1 c2 c3 2)), .second, .val (.long (own_S c0 c1 c2 c3 3)), .second, .val (.long (own_S c0 c1 c2 c3 4)), .second, .val (.long bi), .second, .val (.long (own_S c0 c1 c2 c3 2)), .second, .val (.long p1), .second, .unset, .unset]) rfl (pc' := 246) rfl ?_
        refine own_lload X B at_246 rfl (pc' := 248) rfl ?_
        refine own_lstore X B at_248 (L' := #[.val (.long p0), .second, .val (.long p1), .second, .val (.long p2), .second, .val (.long p3), .second, .val (.int x), .val (.int y), .val (.int (Int32.ofNat c0)), .val (.int (Int32.ofNat c1)), .val (.int (Int32.ofNat c2)), .val (.int (Int32.ofNat c3)), .val (.int (Int32.ofNat 4)), .val (.ref mg), .val (.ref b1), .val (.long (own_S c0 c1 c2 c3 1)), .second, .val (.long (own_S c0 c1 c2 c3 2)), .second, .val (.long (own_S c0 c1 c2 c3 3)), .second, .val (.long (own_S c0 c1 c2 c3 4)), .second, .val (.long bi), .second, .val (.long (own_S c0 c1 c2 c3 2)), .second, .val (.long p2), .second, .unset, .unset]) rfl (pc' := 250) rfl ?_
        refine own_iload X B at_250 rfl (pc' := 252) rfl ?_
        refine own_iconst X B at_252 (v := (3 : Int32)) rfl (pc' := 253) rfl ?_
        refine own_icmpF X B at_253 (tlt (by decide)).2.2.2 (pc' := 256) rfl ?_
        refine own_lload X B at_256 rfl (pc' := 258) rfl ?_
        refine own_lload X B at_258 rfl (pc' := 260) rfl ?_
        refine own_lcmp X B at_260 (pc' := 261) rfl ?_
        by_cases q3 : (0 : Int32) < (lcmpW (own_S c0 c1 c2 c3 3) bi)
        · -- q3
          refine own_ifT X B at_261 (tlt q3).2.2.1 (pc' := 272) (by decide) (by decide) ?_
          have t3 : bi < own_S c0 c1 c2 c3 3 := (lw_gt _ _).mp q3
          exact J272 _ _ _ _ X F_b1_starts F_b1_places F_b1_runs F_b1_length A_r A_t E_b1 ⟨2, by decide, Or.inr t2, (fun i h1 h2 => by
            match i, h1, h2 with
            | 3, _, _ => exact t3), rfl, rfl⟩
        · -- not q3
          refine own_ifF X B at_261 (flt q3).2.2.1 (pc' := 264) rfl ?_
          have t3 : ¬ bi < own_S c0 c1 c2 c3 3 := fun q => q3 ((lw_gt _ _).mpr q)
          refine own_lload X B at_264 rfl (pc' := 266) rfl ?_
          refine own_lstore X B at_266 (L' := #[.val (.long p0), .second, .val (.long p1), .second, .val (.long p2), .second, .val (.long p3), .second, .val (.int x), .val (.int y), .val (.int (Int32.ofNat c0)), .val (.int (Int32.ofNat c1)), .val (.int (Int32.ofNat c2)), .val (.int (Int32.ofNat c3)), .val (.int (Int32.ofNat 4)), .val (.ref mg), .val (.ref b1), .val (.long (own_S c0 c1 c2 c3 1)), .second, .val (.long (own_S c0 c1 c2 c3 2)), .second, .val (.long (own_S c0 c1 c2 c3 3)), .second, .val (.long (own_S c0 c1 c2 c3 4)), .second, .val (.long bi), .second, .val (.long (own_S c0 c1 c2 c3 3)), .second, .val (.long p2), .second, .unset, .unset]) rfl (pc' := 268) rfl ?_
          refine own_lload X B at_268 rfl (pc' := 270) rfl ?_
          refine own_lstore X B at_270 (L' := #[.val (.long p0), .second, .val (.long p1), .second, .val (.long p2), .second, .val (.long p3), .second, .val (.int x), .val (.int y), .val (.int (Int32.ofNat c0)), .val (.int (Int32.ofNat c1)), .val (.int (Int32.ofNat c2)), .val (.int (Int32.ofNat c3)), .val (.int (Int32.ofNat 4)), .val (.ref mg), .val (.ref b1), .val (.long (own_S c0 c1 c2 c3 1)), .second, .val (.long (own_S c0 c1 c2 c3 2)), .second, .val (.long (own_S c0 c1 c2 c3 3)), .second, .val (.long (own_S c0 c1 c2 c3 4)), .second, .val (.long bi), .second, .val (.long (own_S c0 c1 c2 c3 3)), .second, .val (.long p3), .second, .unset, .unset]) rfl (pc' := 272) rfl ?_
          exact J272 _ _ _ _ X F_b1_starts F_b1_places F_b1_runs F_b1_length A_r A_t E_b1 ⟨3, by decide, Or.inr t3, (fun i h1 h2 => by omega), rfl, rfl⟩
set_option maxRecDepth 65536 in
set_option maxHeartbeats 40000000 in
theorem comes_1 {Post : Tables → Env → Array Value → State → Outcome → State → Prop} (hpost : ∀ tb e args s v u, (limb_1_1.after args s (.returned v) u = true ∧ limb_1_2.after args s (.returned v) u = true ∧ True) → FrameEnd s (.returned v) u (Jvm.fieldLocs frame_1_writes args s ++ Jvm.arrayLocs frame_1_arrays args s ++ Jvm.staticLocs frame_1_statics s) 24 128 → Post tb e args s (.returned v) u) :
    ArmFor flags0 classFile x code maxLocals ret World_1 tables_1 room_1 Calls_1 rest_1 Pre_1 Post := by
  intro l hfl _ _ p e ha hc hk s m args below hf hA hF happ hP
  obtain ⟨hcalls, hrest, hpre⟩ := hP
  obtain ⟨-, -, -, hnamed, -, -, -, hat⟩ := (Spec.applies_iff hf).mp happ
  obtain ⟨hg, hn⟩ := and_e (Cond.before_iff.mp (show (Jvm.Cond.and given_1 narrow_1).before args s = true from hpre))
  obtain ⟨g1, g2⟩ := and_e hg
  obtain ⟨g3, g4⟩ := and_e g2
  obtain ⟨g5, g6⟩ := and_e g4
  obtain ⟨g7, g8⟩ := and_e g6
  obtain ⟨g9, g10⟩ := and_e g8
  obtain ⟨g11, g12⟩ := and_e g10
  obtain ⟨w0, w1, w2, w3, w4, w5, rfl⟩ : ∃ w0 w1 w2 w3 w4 w5 : Value, args = #[w0, w1, w2, w3, w4, w5] := by
    have hs : args.size = 6 := by simpa [Cond.value, given_1] using g1
    obtain ⟨L⟩ := args
    match L, hs with
    | [w0, w1, w2, w3, w4, w5], _ => exact ⟨w0, w1, w2, w3, w4, w5, rfl⟩
  have hw := fun d (hd : d ∈ tables_1) => atoms_spec (ws := Jvm.Cond.code x code maxLocals ret :: tables_1) hat d (List.mem_cons_of_mem _ hd)
  obtain ⟨i0, ei0⟩ := isL_v g3
  obtain rfl : w0 = (.long i0) := Option.some.inj ei0
  obtain ⟨i1, ei1⟩ := isL_v g5
  obtain rfl : w1 = (.long i1) := Option.some.inj ei1
  obtain ⟨i2, ei2⟩ := isL_v g7
  obtain rfl : w2 = (.long i2) := Option.some.inj ei2
  obtain ⟨i3, ei3⟩ := isL_v g9
  obtain rfl : w3 = (.long i3) := Option.some.inj ei3
  obtain ⟨i4, ei4⟩ := is_v g11
  obtain rfl : w4 = (.int i4) := Option.some.inj ei4
  obtain ⟨i5, ei5⟩ := is_v g12
  obtain rfl : w5 = (.int i5) := Option.some.inj ei5
  obtain ⟨n, o, h1, h2, h3, _, L, rfl, ⟨N, -, rfl⟩, hq⟩ := rm0 l s _ hw i0 i1 i2 i3 i4 i5 s.heap s.heap.size (Nat.le_refl _) (Nat.le_refl _) p e ha hc hk s m _ below hf ((Spec.applies_iff_loose hf).mp happ).1 ⟨rfl, State.Warmed39.refl s, rfl⟩ trivial
  refine ⟨n, _, h1, h2, h3, hpost _ _ _ _ _ _ ⟨Cond.after_iff.mpr rfl, Cond.after_iff.mpr (eq_i res_at (Term.int_eval (1)) rfl), trivial⟩ ⟨hq.1, hq.2.1, (hq.2.2.sift fun y hy => Or.inr (N y hy)).mono (by decide) (by decide)⟩⟩
theorem main_1_1 : Claimed_1_1 := comes_1 fun _ _ _ _ _ _ h hF => ⟨h.1, hF⟩
theorem main_1_2 : Claimed_1_2 := comes_1 fun _ _ _ _ _ _ h hF => ⟨h.2.1, hF⟩
end Jvm.Pilot.@@N@@
namespace Jvm.Pilot.@@N@@
open Jvm Jvm.ClassFile Sem Op Lib Jvm.Free Jvm.Stand Jvm.Pilot.@@N@@.Jvm.D
/-! MADE BY PROGRAM (witnessworld.py) out of the Statement's table words and the real class files: 14 classes; the members and pool entries that the words name. The judged class is class 1, her method 1. -/
namespace start1
open Jvm.ClassFile
def u (s : String) : CpInfo := .utf8 (stringToUtf16 s)
/-- a pool by its gaps: so many unusable entries, then the entry; so many at the end -/
def gap : Nat → List CpInfo → List CpInfo
  | 0, r => r
  | n + 1, r => .unusable :: gap n r
def poolList (es : List (Nat × CpInfo)) (last : Nat) : List CpInfo := es.foldr (fun e r => gap e.1 (e.2 :: r)) (gap last [])
def pool (es : List (Nat × CpInfo)) (last : Nat) : Array CpInfo := ⟨poolList es last⟩
def fileOf (pool : Array CpInfo) (this : Nat) (attrs : Array Attribute := #[]) (ms : Array MethodInfo := #[]) (fl : Nat := 33) (sup : Nat := 0) (ifs : Array Nat := #[]) (fds : Array FieldInfo := #[]) : ClassFile where
  minorVersion := 0
  majorVersion := 65
  constantPool := pool
  accessFlags := fl
  thisClass := this
  superClass := sup
  interfaces := ifs
  fields := fds
  methods := ms
  attributes := attrs
def plain (name : String) (sup : Option ClassId) : Class where
  name := name
  kind := .ordinary
  loader := none
  accessFlags := 33
  super := sup
  interfaces := #[]
  cf := none
  fields := #[]
  methods := #[]
  instanceTypes := #[]
  staticTypes := #[]
  resolved := #[]
  callSites := []
  init := .initialized
  statics := none
  mirror := none

def pool0 : Array CpInfo := pool [(5, u "<init>"), (0, u "()V"), (1, .class_ 10), (1, u "java/lang/Object")] 113

def k0c0 : Code := { maxStack := 0, maxLocals := 1, code := object_method_1_code, exceptionTable := #[], attributes := #[] }
def k0m0 : Method := { name := "<init>", desc := "()V", sig := { parameters := [], returnType := none }, accessFlags := 1, code := some k0c0 }
/-- java/lang/Object -/
def k0 : Class := { plain "java/lang/Object" none with
  accessFlags := 33
  interfaces := #[]
  cf := some (fileOf pool0 8 #[] #[{ accessFlags := 1, nameIndex := 5, descriptorIndex := 6, attributes := #[] }] 33 0 #[] #[])
  fields := #[]
  methods := #[k0m0]
  instanceTypes := #[]
  staticTypes := #[]
  resolved := Array.replicate 124 none
  statics := none }

def pool1 : Array CpInfo := pool [(2, .class_ 4), (0, .nameAndType 5 6), (0, u "java/lang/Object"), (0, u "<init>"), (0, u "()V"), (0, .class_ 8), (0, u "com/example/tightwire/tightwire/bits/BitRuns"), (0, .methodref 7 3), (0, .methodref 7 11), (0, .nameAndType 12 13), (0, u "add"), (0, u "([BJJ)V"), (0, .integer 2147483647), (0, .methodref 7 16), (0, .nameAndType 17 18), (0, u "bitLength"), (0, u "()J"), (0, .methodref 7 20), (0, .nameAndType 21 22), (0, u "position"), (0, u "(J)J"), (0, .class_ 24), (0, u "com/example/tightwire/tightwire/bits/BitRunsPositionPinLaw"), (2, u "law"), (0, u "(JJJJII)Z")] 5

def k1m0 : Method := { name := "<init>", desc := "()V", sig := { parameters := [], returnType := none }, accessFlags := 1, code := none }
def k1c1 : Code := { maxStack := 6, maxLocals := 33, code := code, exceptionTable := #[], attributes := #[] }
def k1m1 : Method := { name := "law", desc := "(JJJJII)Z", sig := { parameters := [.long, .long, .long, .long, .int, .int], returnType := some .boolean }, accessFlags := 9, code := some k1c1 }
/-- com/example/tightwire/tightwire/bits/BitRunsPositionPinLaw -/
def k1 : Class := { plain "com/example/tightwire/tightwire/bits/BitRunsPositionPinLaw" (some 0) with
  accessFlags := 49
  interfaces := #[]
  cf := some (fileOf pool1 23 #[] #[{ accessFlags := 1, nameIndex := 5, descriptorIndex := 6, attributes := #[] }, { accessFlags := 9, nameIndex := 27, descriptorIndex := 28, attributes := #[] }] 49 2 #[] #[])
  fields := #[]
  methods := #[k1m0, k1m1]
  instanceTypes := #[]
  staticTypes := #[]
  resolved := Array.replicate 34 none
  statics := none }

def pool2 : Array CpInfo := pool [(1, .methodref 2 3), (0, .class_ 4), (0, .nameAndType 5 6), (0, u "java/lang/Object"), (0, u "<init>"), (0, u "()V"), (0, .fieldref 8 9), (0, .class_ 10), (0, .nameAndType 11 12), (0, u "com/example/tightwire/tightwire/bits/BitRuns"), (0, u "starts"), (0, u "[J"), (0, .fieldref 8 14), (0, .nameAndType 15 12), (0, u "places"), (0, .fieldref 8 17), (0, .nameAndType 18 19), (0, u "message"), (0, u "[B"), (7, .fieldref 8 28), (0, .nameAndType 29 30), (0, u "runs"), (0, u "I"), (0, .methodref 32 33), (0, .class_ 34), (0, .nameAndType 35 36), (0, u "java/util/Arrays"), (0, u "copyOf"), (0, u "([JI)[J"), (0, .fieldref 8 38), (0, .nameAndType 39 40), (0, u "length"), (0, u "J"), (30, u "add"), (0, u "([BJJ)V"), (1, u "bitLength"), (0, u "()J"), (0, u "position"), (0, u "(J)J")] 22

def k2c0 : Code := { maxStack := 2, maxLocals := 1, code := prog_5_method_1_code, exceptionTable := #[], attributes := #[] }
def k2m0 : Method := { name := "<init>", desc := "()V", sig := { parameters := [], returnType := none }, accessFlags := 1, code := some k2c0 }
def k2c1 : Code := { maxStack := 5, maxLocals := 6, code := prog_5_method_2_code, exceptionTable := #[], attributes := #[] }
def k2m1 : Method := { name := "add", desc := "([BJJ)V", sig := { parameters := [(.array .byte), .long, .long], returnType := none }, accessFlags := 0, code := some k2c1 }
def k2c2 : Code := { maxStack := 2, maxLocals := 1, code := prog_5_method_3_code, exceptionTable := #[], attributes := #[] }
def k2m2 : Method := { name := "bitLength", desc := "()J", sig := { parameters := [], returnType := some .long }, accessFlags := 1, code := some k2c2 }
def k2c3 : Code := { maxStack := 4, maxLocals := 6, code := prog_5_method_4_code, exceptionTable := #[], attributes := #[] }
def k2m3 : Method := { name := "position", desc := "(J)J", sig := { parameters := [.long], returnType := some .long }, accessFlags := 1, code := some k2c3 }
/-- com/example/tightwire/tightwire/bits/BitRuns -/
def k2 : Class := { plain "com/example/tightwire/tightwire/bits/BitRuns" (some 0) with
  accessFlags := 49
  interfaces := #[]
  cf := some (fileOf pool2 8 #[] #[{ accessFlags := 1, nameIndex := 5, descriptorIndex := 6, attributes := #[] }, { accessFlags := 0, nameIndex := 71, descriptorIndex := 72, attributes := #[] }, { accessFlags := 1, nameIndex := 74, descriptorIndex := 75, attributes := #[] }, { accessFlags := 1, nameIndex := 76, descriptorIndex := 77, attributes := #[] }] 49 2 #[] #[{ accessFlags := 2, nameIndex := 18, descriptorIndex := 19, attributes := #[] }, { accessFlags := 2, nameIndex := 11, descriptorIndex := 12, attributes := #[] }, { accessFlags := 2, nameIndex := 15, descriptorIndex := 12, attributes := #[] }, { accessFlags := 2, nameIndex := 29, descriptorIndex := 30, attributes := #[] }, { accessFlags := 2, nameIndex := 39, descriptorIndex := 40, attributes := #[] }])
  fields := #[{ name := "message", type := (.array .byte), accessFlags := 2, slot := 0, constantValue := 0 }, { name := "starts", type := (.array .long), accessFlags := 2, slot := 1, constantValue := 0 }, { name := "places", type := (.array .long), accessFlags := 2, slot := 2, constantValue := 0 }, { name := "runs", type := .int, accessFlags := 2, slot := 3, constantValue := 0 }, { name := "length", type := .long, accessFlags := 2, slot := 4, constantValue := 0 }]
  methods := #[k2m0, k2m1, k2m2, k2m3]
  instanceTypes := #[(.array .byte), (.array .long), (.array .long), .int, .long]
  staticTypes := #[]
  resolved := Array.replicate 100 none
  statics := none }

def pool3 : Array CpInfo := pool [(2, .class_ 4), (1, u "java/lang/Object"), (0, u "<init>"), (0, u "()V"), (7, .class_ 16), (1, u "java/util/Arrays"), (57, .class_ 76), (1, u "java/util/Arrays$NaturalOrder"), (36, .class_ 115), (1, u "java/util/Arrays$LegacyMergeSort"), (1, u "Z"), (32, .methodref 151 152), (0, .class_ 153), (0, .nameAndType 154 155), (0, u "java/lang/System"), (0, u "arraycopy"), (0, u "(Ljava/lang/Object;ILjava/lang/Object;II)V"), (146, u "copyOf"), (1, .methodref 305 306), (0, .class_ 307), (0, .nameAndType 308 309), (0, u "java/lang/Math"), (0, u "min"), (0, u "(II)I"), (65, .class_ 376), (0, u "java/util/Arrays$ArrayList"), (68, u "$assertionsDisabled"), (269, u "MIN_ARRAY_SORT_GRAN"), (0, u "I"), (2, u "INSERTIONSORT_THRESHOLD"), (152, u "([JI)[J"), (102, .class_ 976), (0, u "java/util/Arrays$ArrayItr")] 52

def k3m0 : Method := { name := "<init>", desc := "()V", sig := { parameters := [], returnType := none }, accessFlags := 2, code := none }
def k3c1 : Code := { maxStack := 6, maxLocals := 3, code := jdk_65_method_124_code, exceptionTable := #[], attributes := #[] }
def k3m1 : Method := { name := "copyOf", desc := "([JI)[J", sig := { parameters := [(.array .long), .int], returnType := some (.array .long) }, accessFlags := 9, code := some k3c1 }
/-- java/util/Arrays -/
def k3 : Class := { plain "java/util/Arrays" (some 0) with
  accessFlags := 49
  interfaces := #[]
  cf := some (fileOf pool3 14 #[.nestMembers #[975, 375, 113, 74]] #[{ accessFlags := 2, nameIndex := 5, descriptorIndex := 6, attributes := #[] }, { accessFlags := 9, nameIndex := 302, descriptorIndex := 872, attributes := #[] }] 49 2 #[] #[{ accessFlags := 26, nameIndex := 715, descriptorIndex := 716, attributes := #[] }, { accessFlags := 26, nameIndex := 719, descriptorIndex := 716, attributes := #[] }, { accessFlags := 4120, nameIndex := 445, descriptorIndex := 117, attributes := #[] }])
  fields := #[{ name := "MIN_ARRAY_SORT_GRAN", type := .int, accessFlags := 26, slot := 0, constantValue := 0 }, { name := "INSERTIONSORT_THRESHOLD", type := .int, accessFlags := 26, slot := 1, constantValue := 0 }, { name := "$assertionsDisabled", type := .boolean, accessFlags := 4120, slot := 2, constantValue := 0 }]
  methods := #[k3m0, k3m1]
  instanceTypes := #[]
  staticTypes := #[.int, .int, .boolean]
  resolved := Array.replicate 1029 none
  statics := none }

def pool4 : Array CpInfo := pool [(1, .class_ 2), (0, u "java/lang/Math"), (1, .class_ 6), (1, u "java/lang/Object"), (0, u "<init>"), (0, u "()V"), (89, .class_ 100), (1, u "java/lang/Math$RandomNumberGeneratorHolder"), (71, u "negativeZeroFloatBits"), (0, u "J"), (2, u "negativeZeroDoubleBits"), (24, u "min"), (43, u "$assertionsDisabled"), (0, u "Z"), (88, u "(II)I"), (2, u "twoToTheDoubleScaleDown"), (0, u "D"), (4, u "twoToTheDoubleScaleUp"), (9, u "E"), (3, u "PI"), (2, u "TAU"), (2, u "DEGREES_TO_RADIANS"), (0, u "RADIANS_TO_DEGREES")] 94

def k4m0 : Method := { name := "<init>", desc := "()V", sig := { parameters := [], returnType := none }, accessFlags := 2, code := none }
def k4c1 : Code := { maxStack := 2, maxLocals := 2, code := jdk_29_method_69_code, exceptionTable := #[], attributes := #[] }
def k4m1 : Method := { name := "min", desc := "(II)I", sig := { parameters := [.int, .int], returnType := some .int }, accessFlags := 9, code := some k4c1 }
/-- java/lang/Math -/
def k4 : Class := { plain "java/lang/Math" (some 0) with
  accessFlags := 49
  interfaces := #[]
  cf := some (fileOf pool4 1 #[.nestMembers #[98]] #[{ accessFlags := 2, nameIndex := 7, descriptorIndex := 8, attributes := #[] }, { accessFlags := 9, nameIndex := 201, descriptorIndex := 335, attributes := #[] }] 49 4 #[] #[{ accessFlags := 25, nameIndex := 354, descriptorIndex := 339, attributes := #[] }, { accessFlags := 25, nameIndex := 358, descriptorIndex := 339, attributes := #[] }, { accessFlags := 25, nameIndex := 361, descriptorIndex := 339, attributes := #[] }, { accessFlags := 26, nameIndex := 364, descriptorIndex := 339, attributes := #[] }, { accessFlags := 26, nameIndex := 365, descriptorIndex := 339, attributes := #[] }, { accessFlags := 26, nameIndex := 172, descriptorIndex := 173, attributes := #[] }, { accessFlags := 26, nameIndex := 176, descriptorIndex := 173, attributes := #[] }, { accessFlags := 8, nameIndex := 344, descriptorIndex := 339, attributes := #[] }, { accessFlags := 8, nameIndex := 338, descriptorIndex := 339, attributes := #[] }, { accessFlags := 4120, nameIndex := 245, descriptorIndex := 246, attributes := #[] }])
  fields := #[{ name := "E", type := .double, accessFlags := 25, slot := 0, constantValue := 0 }, { name := "PI", type := .double, accessFlags := 25, slot := 1, constantValue := 0 }, { name := "TAU", type := .double, accessFlags := 25, slot := 2, constantValue := 0 }, { name := "DEGREES_TO_RADIANS", type := .double, accessFlags := 26, slot := 3, constantValue := 0 }, { name := "RADIANS_TO_DEGREES", type := .double, accessFlags := 26, slot := 4, constantValue := 0 }, { name := "negativeZeroFloatBits", type := .long, accessFlags := 26, slot := 5, constantValue := 0 }, { name := "negativeZeroDoubleBits", type := .long, accessFlags := 26, slot := 6, constantValue := 0 }, { name := "twoToTheDoubleScaleUp", type := .double, accessFlags := 8, slot := 7, constantValue := 0 }, { name := "twoToTheDoubleScaleDown", type := .double, accessFlags := 8, slot := 8, constantValue := 0 }, { name := "$assertionsDisabled", type := .boolean, accessFlags := 4120, slot := 9, constantValue := 0 }]
  methods := #[k4m0, k4m1]
  instanceTypes := #[]
  staticTypes := #[.double, .double, .double, .double, .double, .long, .long, .double, .double, .boolean]
  resolved := Array.replicate 460 none
  statics := none }

def pool5 : Array CpInfo := pool [(2, .class_ 4), (1, u "java/lang/Object"), (0, u "<init>"), (0, u "()V"), (1, .class_ 10), (1, u "java/lang/System"), (0, u "allowSecurityManager"), (0, u "I"), (16, u "cons"), (0, u "Ljava/io/Console;"), (77, .class_ 110), (1, u "java/lang/System$CallersHolder"), (43, u "initialErrStream"), (0, u "Ljava/io/PrintStream;"), (19, u "security"), (0, u "Ljava/lang/SecurityManager;"), (31, .class_ 209), (0, u "java/lang/System$1"), (7, u "props"), (0, u "Ljava/util/Properties;"), (2, u "lineSeparator"), (0, u "Ljava/lang/String;"), (96, .class_ 321), (1, u "java/lang/System$LoggerFinder"), (5, .class_ 328), (0, u "java/lang/System$Logger"), (67, u "err"), (2, u "out"), (91, u "notSupportedJnuEncoding"), (15, u "in"), (17, u "initialIn"), (0, u "Ljava/io/InputStream;"), (35, u "bootLayer"), (0, u "Ljava/lang/ModuleLayer;"), (99, .class_ 664), (0, u "java/lang/System$2"), (9, u "NEVER"), (2, u "MAYBE"), (49, u "arraycopy"), (0, u "(Ljava/lang/Object;ILjava/lang/Object;II)V"), (72, .class_ 802), (0, u "java/lang/System$Logger$Level")] 31

def k5m0 : Method := { name := "<init>", desc := "()V", sig := { parameters := [], returnType := none }, accessFlags := 2, code := none }
def k5m1 : Method := { name := "arraycopy", desc := "(Ljava/lang/Object;ILjava/lang/Object;II)V", sig := { parameters := [(.object "java/lang/Object"), .int, (.object "java/lang/Object"), .int, .int], returnType := none }, accessFlags := 265, code := none }
/-- java/lang/System -/
def k5 : Class := { plain "java/lang/System" (some 0) with
  accessFlags := 49
  interfaces := #[]
  cf := some (fileOf pool5 8 #[.nestMembers #[319, 327, 801, 108, 663, 208]] #[{ accessFlags := 2, nameIndex := 5, descriptorIndex := 6, attributes := #[] }, { accessFlags := 265, nameIndex := 727, descriptorIndex := 728, attributes := #[] }] 49 2 #[] #[{ accessFlags := 25, nameIndex := 507, descriptorIndex := 526, attributes := #[] }, { accessFlags := 25, nameIndex := 399, descriptorIndex := 155, attributes := #[] }, { accessFlags := 25, nameIndex := 396, descriptorIndex := 155, attributes := #[] }, { accessFlags := 10, nameIndex := 525, descriptorIndex := 526, attributes := #[] }, { accessFlags := 26, nameIndex := 674, descriptorIndex := 12, attributes := #[] }, { accessFlags := 26, nameIndex := 677, descriptorIndex := 12, attributes := #[] }, { accessFlags := 10, nameIndex := 11, descriptorIndex := 12, attributes := #[] }, { accessFlags := 74, nameIndex := 175, descriptorIndex := 176, attributes := #[] }, { accessFlags := 10, nameIndex := 491, descriptorIndex := 222, attributes := #[] }, { accessFlags := 74, nameIndex := 29, descriptorIndex := 30, attributes := #[] }, { accessFlags := 74, nameIndex := 154, descriptorIndex := 155, attributes := #[] }, { accessFlags := 10, nameIndex := 217, descriptorIndex := 218, attributes := #[] }, { accessFlags := 10, nameIndex := 221, descriptorIndex := 222, attributes := #[] }, { accessFlags := 8, nameIndex := 562, descriptorIndex := 563, attributes := #[] }])
  fields := #[{ name := "in", type := (.object "java/io/InputStream"), accessFlags := 25, slot := 0, constantValue := 0 }, { name := "out", type := (.object "java/io/PrintStream"), accessFlags := 25, slot := 1, constantValue := 0 }, { name := "err", type := (.object "java/io/PrintStream"), accessFlags := 25, slot := 2, constantValue := 0 }, { name := "initialIn", type := (.object "java/io/InputStream"), accessFlags := 10, slot := 3, constantValue := 0 }, { name := "NEVER", type := .int, accessFlags := 26, slot := 4, constantValue := 0 }, { name := "MAYBE", type := .int, accessFlags := 26, slot := 5, constantValue := 0 }, { name := "allowSecurityManager", type := .int, accessFlags := 10, slot := 6, constantValue := 0 }, { name := "security", type := (.object "java/lang/SecurityManager"), accessFlags := 74, slot := 7, constantValue := 0 }, { name := "notSupportedJnuEncoding", type := (.object "java/lang/String"), accessFlags := 10, slot := 8, constantValue := 0 }, { name := "cons", type := (.object "java/io/Console"), accessFlags := 74, slot := 9, constantValue := 0 }, { name := "initialErrStream", type := (.object "java/io/PrintStream"), accessFlags := 74, slot := 10, constantValue := 0 }, { name := "props", type := (.object "java/util/Properties"), accessFlags := 10, slot := 11, constantValue := 0 }, { name := "lineSeparator", type := (.object "java/lang/String"), accessFlags := 10, slot := 12, constantValue := 0 }, { name := "bootLayer", type := (.object "java/lang/ModuleLayer"), accessFlags := 8, slot := 13, constantValue := 0 }]
  methods := #[k5m0, k5m1]
  instanceTypes := #[]
  staticTypes := #[(.object "java/io/InputStream"), (.object "java/io/PrintStream"), (.object "java/io/PrintStream"), (.object "java/io/InputStream"), .int, .int, .int, (.object "java/lang/SecurityManager"), (.object "java/lang/String"), (.object "java/io/Console"), (.object "java/io/PrintStream"), (.object "java/util/Properties"), (.object "java/lang/String"), (.object "java/lang/ModuleLayer")]
  resolved := Array.replicate 834 none
  statics := none }

def pool6 : Array CpInfo := pool [(1, u "java/lang/Cloneable"), (0, .class_ 1), (0, u "java/lang/Object"), (0, .class_ 3)] 3

/-- java/lang/Cloneable -/
def k6 : Class := { plain "java/lang/Cloneable" (some 0) with
  accessFlags := 1537
  interfaces := #[]
  cf := some (fileOf pool6 2 #[] #[] 1537 4 #[] #[])
  fields := #[]
  methods := #[]
  instanceTypes := #[]
  staticTypes := #[]
  resolved := Array.replicate 8 none
  statics := none }

def pool7 : Array CpInfo := pool [(1, u "java/io/Serializable"), (0, .class_ 1), (0, u "java/lang/Object"), (0, .class_ 3)] 3

/-- java/io/Serializable -/
def k7 : Class := { plain "java/io/Serializable" (some 0) with
  accessFlags := 1537
  interfaces := #[]
  cf := some (fileOf pool7 2 #[] #[] 1537 4 #[] #[])
  fields := #[]
  methods := #[]
  instanceTypes := #[]
  staticTypes := #[]
  resolved := Array.replicate 8 none
  statics := none }

/-- the primitive byte -/
def k8 : Class := { plain "byte" none with kind := .primitive 'B', accessFlags := 0x411 }
/-- [B -/
def k9 : Class := { plain "[B" (some 0) with kind := .array 8 .byte, interfaces := #[6, 7], accessFlags := 1041 }

/-- the primitive int -/
def k10 : Class := { plain "int" none with kind := .primitive 'I', accessFlags := 0x411 }
/-- [I -/
def k11 : Class := { plain "[I" (some 0) with kind := .array 10 .int, interfaces := #[6, 7], accessFlags := 1041 }

/-- the primitive long -/
def k12 : Class := { plain "long" none with kind := .primitive 'J', accessFlags := 0x411 }
/-- [J -/
def k13 : Class := { plain "[J" (some 0) with kind := .array 12 .long, interfaces := #[6, 7], accessFlags := 1041 }

def heap : Heap := #[]
def classes : Array Class := #[k0, k1, k2, k3, k4, k5, k6, k7, k8, k9, k10, k11, k12, k13]
def interned : List (Array UInt16 × Addr) := []
def slotsUsed : Nat := 0
def theMethod : MethodId := ⟨1, 1⟩
def args0 : Array Value := #[.long 5, .long 1, .long 9, .long 2, .int 7, .int 1]
def aboutOver (below : List Frame) : State where
  vm := { classes := classes, interned := interned.toArray }
  heap := heap
  slotsUsed := slotsUsed
  threads := #[{ frames := .invoking theMethod args0 :: below }]
def below0 : List Frame := [.native { method := ⟨0, 0⟩, args := #[] }]
def about1 : State := aboutOver below0
def p0 : Program := .bare "" "" ""
def e0 : Env := launch0.env 0 0 0
theorem w_frames : about1.frames = Frame.invoking theMethod args0 :: below0 := rfl
set_option maxRecDepth 65536 in
theorem w_args : argsFit about1.vm theMethod args0 = true := by decide +kernel
set_option maxRecDepth 65536 in
theorem w_heap : heapFits about1 = true := by decide +kernel
set_option maxRecDepth 65536 in
theorem w_runnable : about1.curStatus? = some .runnable := by decide +kernel
set_option maxRecDepth 65536 in
theorem w_alone : about1.alone = true := by decide +kernel
set_option maxRecDepth 65536 in
theorem w_named : about1.methodNamed? x = some theMethod := by decide +kernel
set_option maxRecDepth 65536 in
theorem w_hears : about1.hears theMethod below0 = true := by decide +kernel
set_option maxRecDepth 65536 in
theorem w_ripe : about1.ripe theMethod args0 below0 = true := by decide +kernel
theorem w_running : about1.status = .running := rfl
set_option maxRecDepth 65536 in
theorem w_room : about1.hasRoom e0.platform room_1 = true :=
  launch0.hasRoom_least _ room_1 (by decide +kernel) (by decide +kernel) (by decide +kernel) (by decide +kernel) (by decide +kernel) (by decide +kernel)
theorem allAtoms_all (ts : List Jvm.Cond) (a : Array Jvm.Value) (st : Jvm.State) : (allAtoms ts).before a st = ts.all (fun c => c.before a st) := by
  induction ts with
  | nil => rfl
  | cons c t ih =>
    show (Jvm.Cond.and c (allAtoms t)).before a st = _
    rw [Jvm.Cond.before_and, ih, List.all_cons]
def words1 : List Jvm.Cond := Jvm.Cond.code x code maxLocals ret :: tables_1
/-- a 'code' word, met by the world's own term for the bytes: nothing is compared byte by byte -/
theorem code_word {y : MethodName} {bytes : ByteArray} {mx : Nat} {rt : Option FieldType} {a : Array Value} {s : State} {m : MethodId} {meth : Method} {c : Code} (h1 : s.methodNamed? y = some m) (h2 : s.vm.method? m = some meth) (h3 : meth.code = some c) (h4 : c.code = bytes)
    (h5 : (c.maxLocals == mx && c.exceptionTable.isEmpty && decide (c.maxStack ≤ mostOperands) && decide (meth.sig.returnType = rt) && !meth.locks && decide (parseMethodDescriptor y.desc = some meth.sig)) = true) : (Jvm.Cond.code y bytes mx rt).before a s = true := by
  simp only [Bool.and_eq_true, beq_iff_eq, Bool.not_eq_true', decide_eq_true_eq] at h5
  obtain ⟨⟨⟨⟨⟨g1, g2⟩, g3⟩, g4⟩, g5⟩, g6⟩ := h5
  simp [Cond.before, Cond.holds, Cond.value, h1, h2, h3, h4, g1, g2, g3, g4, g5, g6]
def isCode : Jvm.Cond → Bool
  | .code _ _ _ _ => true
  | _ => false
theorem all_split {L : List Jvm.Cond} {P : Jvm.Cond → Bool} (h1 : L.all (fun c => isCode c || P c) = true) (h2 : ∀ c ∈ L.filter isCode, P c = true) : L.all P = true := by
  refine List.all_eq_true.mpr fun c hc => ?_
  have h := List.all_eq_true.mp h1 c hc
  rcases Bool.eq_false_or_eq_true (isCode c) with hi | hi
  · exact h2 c (List.mem_filter.mpr ⟨hc, hi⟩)
  · simpa [hi] using h
set_option maxRecDepth 65536 in
theorem w_c0 : (Jvm.Cond.code x code maxLocals ret).before args0 about1 = true := code_word (m := ⟨1, 1⟩) (meth := k1m1) (c := k1c1) (by decide +kernel) rfl rfl rfl (by decide +kernel)
set_option maxRecDepth 65536 in
theorem w_c1 : (Jvm.Cond.code ({ cls := "com/example/tightwire/tightwire/bits/BitRuns", name := "<init>", desc := "()V" } : Jvm.MethodName) prog_5_method_1_code (1 : Nat) (Option.none : Option Jvm.ClassFile.FieldType)).before args0 about1 = true := code_word (m := ⟨2, 0⟩) (meth := k2m0) (c := k2c0) (by decide +kernel) rfl rfl rfl (by decide +kernel)
set_option maxRecDepth 65536 in
theorem w_c2 : (Jvm.Cond.code ({ cls := "java/lang/Object", name := "<init>", desc := "()V" } : Jvm.MethodName) object_method_1_code (1 : Nat) (Option.none : Option Jvm.ClassFile.FieldType)).before args0 about1 = true := code_word (m := ⟨0, 0⟩) (meth := k0m0) (c := k0c0) (by decide +kernel) rfl rfl rfl (by decide +kernel)
set_option maxRecDepth 65536 in
theorem w_c3 : (Jvm.Cond.code ({ cls := "com/example/tightwire/tightwire/bits/BitRuns", name := "add", desc := "([BJJ)V" } : Jvm.MethodName) prog_5_method_2_code (6 : Nat) (Option.none : Option Jvm.ClassFile.FieldType)).before args0 about1 = true := code_word (m := ⟨2, 1⟩) (meth := k2m1) (c := k2c1) (by decide +kernel) rfl rfl rfl (by decide +kernel)
set_option maxRecDepth 65536 in
theorem w_c4 : (Jvm.Cond.code ({ cls := "com/example/tightwire/tightwire/bits/BitRuns", name := "bitLength", desc := "()J" } : Jvm.MethodName) prog_5_method_3_code (1 : Nat) (Option.some Jvm.ClassFile.FieldType.long)).before args0 about1 = true := code_word (m := ⟨2, 2⟩) (meth := k2m2) (c := k2c2) (by decide +kernel) rfl rfl rfl (by decide +kernel)
set_option maxRecDepth 65536 in
theorem w_c5 : (Jvm.Cond.code ({ cls := "com/example/tightwire/tightwire/bits/BitRuns", name := "position", desc := "(J)J" } : Jvm.MethodName) prog_5_method_4_code (6 : Nat) (Option.some Jvm.ClassFile.FieldType.long)).before args0 about1 = true := code_word (m := ⟨2, 3⟩) (meth := k2m3) (c := k2c3) (by decide +kernel) rfl rfl rfl (by decide +kernel)
set_option maxRecDepth 65536 in
theorem w_c6 : (Jvm.Cond.code ({ cls := "java/util/Arrays", name := "copyOf", desc := "([JI)[J" } : Jvm.MethodName) jdk_65_method_124_code (3 : Nat) (Option.some (Jvm.ClassFile.FieldType.array Jvm.ClassFile.FieldType.long))).before args0 about1 = true := code_word (m := ⟨3, 1⟩) (meth := k3m1) (c := k3c1) (by decide +kernel) rfl rfl rfl (by decide +kernel)
set_option maxRecDepth 65536 in
theorem w_c7 : (Jvm.Cond.code ({ cls := "java/lang/Math", name := "min", desc := "(II)I" } : Jvm.MethodName) jdk_29_method_69_code (2 : Nat) (Option.some Jvm.ClassFile.FieldType.int)).before args0 about1 = true := code_word (m := ⟨4, 1⟩) (meth := k4m1) (c := k4c1) (by decide +kernel) rfl rfl rfl (by decide +kernel)
def codes1 : List Jvm.Cond := [Jvm.Cond.code x code maxLocals ret, Jvm.Cond.code ({ cls := "com/example/tightwire/tightwire/bits/BitRuns", name := "<init>", desc := "()V" } : Jvm.MethodName) prog_5_method_1_code (1 : Nat) (Option.none : Option Jvm.ClassFile.FieldType), Jvm.Cond.code ({ cls := "java/lang/Object", name := "<init>", desc := "()V" } : Jvm.MethodName) object_method_1_code (1 : Nat) (Option.none : Option Jvm.ClassFile.FieldType), Jvm.Cond.code ({ cls := "com/example/tightwire/tightwire/bits/BitRuns", name := "add", desc := "([BJJ)V" } : Jvm.MethodName) prog_5_method_2_code (6 : Nat) (Option.none : Option Jvm.ClassFile.FieldType), Jvm.Cond.code ({ cls := "com/example/tightwire/tightwire/bits/BitRuns", name := "bitLength", desc := "()J" } : Jvm.MethodName) prog_5_method_3_code (1 : Nat) (Option.some Jvm.ClassFile.FieldType.long), Jvm.Cond.code ({ cls := "com/example/tightwire/tightwire/bits/BitRuns", name := "position", desc := "(J)J" } : Jvm.MethodName) prog_5_method_4_code (6 : Nat) (Option.some Jvm.ClassFile.FieldType.long), Jvm.Cond.code ({ cls := "java/util/Arrays", name := "copyOf", desc := "([JI)[J" } : Jvm.MethodName) jdk_65_method_124_code (3 : Nat) (Option.some (Jvm.ClassFile.FieldType.array Jvm.ClassFile.FieldType.long)), Jvm.Cond.code ({ cls := "java/lang/Math", name := "min", desc := "(II)I" } : Jvm.MethodName) jdk_29_method_69_code (2 : Nat) (Option.some Jvm.ClassFile.FieldType.int)]
set_option maxRecDepth 65536 in
theorem codes_eq : words1.filter isCode = codes1 := rfl
theorem w_codes : ∀ c ∈ words1.filter isCode, c.before args0 about1 = true := by
  rw [codes_eq]
  intro c hc
  simp only [codes1, List.mem_cons, List.not_mem_nil, or_false] at hc
  rcases hc with rfl | rfl | rfl | rfl | rfl | rfl | rfl | rfl
  · exact w_c0
  · exact w_c1
  · exact w_c2
  · exact w_c3
  · exact w_c4
  · exact w_c5
  · exact w_c6
  · exact w_c7
set_option maxRecDepth 65536 in
theorem w_t1 : (words1.take 24).all (fun c => isCode c || c.before args0 about1) = true := by decide +kernel
set_option maxRecDepth 65536 in
theorem w_t2 : ((words1.drop 24).take 24).all (fun c => isCode c || c.before args0 about1) = true := by decide +kernel
set_option maxRecDepth 65536 in
theorem w_t3 : ((words1.drop 24).drop 24).all (fun c => isCode c || c.before args0 about1) = true := by decide +kernel
theorem w_tables : (allAtoms (Jvm.Cond.code x code maxLocals ret :: tables_1)).before args0 about1 = true := by
  rw [allAtoms_all]
  show words1.all (fun c => c.before args0 about1) = true
  refine all_split ?_ w_codes
  rw [← List.take_append_drop 24 words1, List.all_append, w_t1, ← List.take_append_drop 24 (words1.drop 24), List.all_append, w_t2, w_t3]
  rfl
set_option maxRecDepth 65536 in
theorem w_case : (Jvm.Cond.and given_1 narrow_1).before args0 about1 = true := by decide +kernel
theorem w_applies : (headSpec (Jvm.Cond.code x code maxLocals ret :: tables_1) room_1).applies x e0.platform about1 = true :=
  (Spec.applies_iff w_frames).mpr ⟨w_running, w_runnable, w_alone, w_named, w_hears, w_ripe, w_room, w_tables⟩
theorem atStart : AtStart classFile x code maxLocals ret World_1 tables_1 room_1 Calls_1 rest_1 Pre_1 launch0 p0 e0 about1 theMethod args0 below0 :=
  ⟨lists_1, trivial, launch0.admits_env _ _ _, launch0.least_env, fairChoices_fair.cas, fairChoices_fair.clock, w_frames, w_args, w_heap, w_applies, trivial, trivial, w_case⟩
end start1
theorem witness_1 : WitnessClaimed_1 := ⟨start1.p0, start1.e0, start1.about1, start1.theMethod, start1.args0, start1.below0, start1.atStart⟩
end Jvm.Pilot.@@N@@
