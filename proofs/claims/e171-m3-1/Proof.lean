import JvmDerived
import JvmDerived.Pilot.@@N@@Statement
import JvmDerived.Pilot.@@N@@Code
set_option linter.unusedVariables false
set_option linter.unusedSimpArgs false
namespace Jvm.Pilot.@@N@@
open Jvm Jvm.ClassFile Sem Op Lib Jvm.Free Jvm.Stand Jvm.LawKit Jvm.RoadKit Bundle Jvm.Pilot.@@N@@.Jvm.D
section OwnKit
variable {p : Program} {l : Launch} {e : Env} {R : Room} {s : State} {m : MethodId} {args : Array Value} {below : List Frame} {meth : Method} {c : Code} {n0 : Nat} {h0 h h' : Heap} {ws : List Addr} {T T' : State} {C S C' S' : Nat} {Q : Option Value → Heap → Prop} {En : Outcome → State → List Loc → Prop} {Z : State} {a0 : Array Value} {bytes : ByteArray} {maxL : Nat} {own nm : String} {rt : Option FieldType} {L L' : Array Slot} {st : List Value} {pc pc' : Nat}
/-- where the run stands: heap h, nothing old written but cells in ws -/
def own_St (p : Program) (l : Launch) (e : Env) (R : Room) (s : State) (m : MethodId) (args : Array Value) (below : List Frame) (meth : Method) (c : Code) (n0 : Nat) (h0 : Heap) (ws : List Addr) (T : State) (h : Heap) (C S : Nat) : Prop :=
  ∃ locs, Stand p l e R s m args below meth c T locs C S ∧ Fr n0 locs ∧ T.heap = h ∧ Keep h0 h ws
/-- from this frame the invocation ends, and Q holds of what it returns and of the heap -/
def own_H (p : Program) (e : Env) (below : List Frame) (En : Outcome → State → List Loc → Prop) (n0 : Nat) (h0 : Heap) (ws : List Addr) (Q : Option Value → Heap → Prop) (T : State) (f : JFrame) : Prop :=
  ∃ (s₂ : State) (o : Outcome), Steps p.tables e below (T.setTop f) s₂ ∧ s₂.status = .running ∧ Ended s₂ below o ∧ ∃ v L, o = .returned v ∧ (Fr n0 L ∧ Keep h0 s₂.heap ws ∧ Q v s₂.heap) ∧ En o s₂ L
def own_F (s : State) (C S : Nat) (o : Outcome) (t : State) (L : List Loc) : Prop := FrameEnd s o t L C S
abbrev own_G (p : Program) (e : Env) (below : List Frame) (s : State) (n0 : Nat) (h0 : Heap) (ws : List Addr) (Q : Option Value → Heap → Prop) (C S : Nat) (T : State) (f : JFrame) : Prop := own_H p e below (own_F s C S) n0 h0 ws Q T f
def own_B (Z : State) (p : Program) (s : State) (m : MethodId) (meth : Method) (c : Code) (bytes : ByteArray) (maxL : Nat) (own nm : String) (rt : Option FieldType) : Prop :=
  p.tables.exec = Jvm.exec ∧ Z.Warmed39 s.vm ∧ c.code = bytes ∧ c.maxLocals = maxL ∧ s.vm.findClass own = some m.cls ∧ meth.name = nm ∧ meth.sig.returnType = rt ∧ meth.locks = false
/-- a contract -/
def own_C (l : Launch) (Z : State) (y : MethodName) (bytes : ByteArray) (maxL : Nat) (rt : Option FieldType) (cws : List Jvm.Cond) (rm : Room) (as : Array Value) (h0 : Heap) (n0 : Nat) (ws : List Addr) (Q : Option Value → Heap → Prop) (C S : Nat) : Prop :=
  MetFree l y (head1 (Jvm.Cond.code y bytes maxL rt :: cws) rm) (fun a U => a = as ∧ Z.Warmed39 U.vm ∧ U.heap = h0) (fun _ _ _ _ _ => True) (fun _ U o U' => ∃ v L, o = .returned v ∧ (Fr n0 L ∧ Keep h0 U'.heap ws ∧ Q v U'.heap) ∧ FrameEnd U o U' L C S)
theorem own_enter {y : MethodName} {cws : List Jvm.Cond} {rm : Room} {as : Array Value} {L0 : Array Slot} (hpl : plainFor y = true) (hef : ∀ m, entryFrame m as maxL = mkF m 0 L0 [])
    (body : ∀ p e s m below meth c T, own_B Z p s m meth c bytes maxL y.cls y.name rt → own_St p l e rm s m as below meth c n0 h0 ws T h0 0 0 → own_G p e below s n0 h0 ws Q C S T (mkF m 0 L0 [])) :
    own_C l Z y bytes maxL rt cws rm as h0 n0 ws Q C S := by
  show MetFree l y _ _ _ _
  refine MetFree.of_bodySF hpl hisR ?_
  intro p e s m args below meth c s₁ Bd hml0 hP hK
  obtain ⟨rfl, hZ, hh⟩ := hP
  have X0 : Stand p l e rm s m _ below meth c s₁ [] 0 0 := Stand.of_body Bd
  have e0 : s₁.heap = h0 := by rw [← hh, Bd.state]; rfl
  obtain ⟨s₂, o, h1, h2, h3, h4⟩ := body p e s m below meth c s₁ ⟨Bd.exec, hZ, Bd.bytes, hml0, findClass_of_methodNamed Bd.named, (name_of_methodNamed Bd.named Bd.method).1, Bd.returns, Bd.notSynchronized⟩ ⟨[], X0, Fr.nil n0, e0, Keep.refl _ _⟩
  exact ⟨s₂, o, castTop (hef m) h1, h2, h3, h4⟩
theorem own_st (X : own_St p l e R s m args below meth c n0 h0 ws T h C S) {f f' : JFrame} (k : own_H p e below En n0 h0 ws Q T f') (hst : ∀ t, At T m c below → Steps p.tables e below (T.setTop f') t → Steps p.tables e below (T.setTop f) t) : own_H p e below En n0 h0 ws Q T f := by
  obtain ⟨s₂, o, h1, h2⟩ := k
  obtain ⟨locs, Y, -⟩ := X
  exact ⟨s₂, o, hst _ Y.here h1, h2⟩
theorem own_tr {f f' : JFrame} (hst : ∀ t, Steps p.tables e below (T'.setTop f') t → Steps p.tables e below (T.setTop f) t) (k : own_H p e below En n0 h0 ws Q T' f') : own_H p e below En n0 h0 ws Q T f := by
  obtain ⟨s₂, o, h1, h2⟩ := k
  exact ⟨s₂, o, hst _ h1, h2⟩
theorem own_ret (X : own_St p l e R s m args below meth c n0 h0 ws T h C S) (B : own_B Z p s m meth c bytes maxL own nm rt) (hc : C ≤ C') (hs : S ≤ S') {v : Option Value} {f : JFrame} (hv : rt = none → v = none)
    (hst : ∀ locs fs, Stand p l e R s m args below meth c T locs C S → (∀ (f : JFrame) (acts : List Action), f.method = m → f.locked = none → f.entered = [] → (doReturn e (T.setTop f) acts v).1 = T.setFrames fs) → Steps p.tables e below (T.setTop f) (T.setFrames fs)) (q : Q v h) : own_G p e below s n0 h0 ws Q C' S' T f := by
  obtain ⟨locs, Y, N, e, K⟩ := X
  obtain ⟨-, -, -, -, -, -, hret, hlk⟩ := B
  obtain ⟨fs, hr, hrun, hended, hW, hsame⟩ := Y.leave (v := v) (fun h => hv (hret.symm.trans h)) hlk
  subst e
  exact ⟨_, _, hst locs fs Y hr, hrun, hended, _, _, rfl, ⟨N, K, q⟩, ⟨_, rfl⟩, hW, hsame.mono hc hs⟩
theorem own_iloadN (X : own_St p l e R s m args below meth c n0 h0 ws T h C S) (B : own_B Z p s m meth c bytes maxL own nm rt) {i : Fin 4} {v : Int32} (hd : decode bytes pc = .ok (.iload_n i, 1)) (hl : L[i.val]? = some (.val (.int v))) (hp : pc + 1 = pc') (k : own_H p e below En n0 h0 ws Q T (mkF m pc' L (.int v :: st))) : own_H p e below En n0 h0 ws Q T (mkF m pc L st) := by
  subst hp
  exact own_st X k (fun t A q => XS.iloadN A B.1 rfl (hb B.2.2.1 hd) hl q)
theorem own_iload (X : own_St p l e R s m args below meth c n0 h0 ws T h C S) (B : own_B Z p s m meth c bytes maxL own nm rt) {i : Nat} {v : Int32} (hd : decode bytes pc = .ok (.iload i, 2)) (hl : L[i]? = some (.val (.int v))) (hp : pc + 2 = pc') (k : own_H p e below En n0 h0 ws Q T (mkF m pc' L (.int v :: st))) : own_H p e below En n0 h0 ws Q T (mkF m pc L st) := by
  subst hp
  exact own_st X k (fun t A q => XS.iload A B.1 rfl (hb B.2.2.1 hd) hl q)
theorem own_istoreN (X : own_St p l e R s m args below meth c n0 h0 ws T h C S) (B : own_B Z p s m meth c bytes maxL own nm rt) {i : Fin 4} {v : Int32} (hd : decode bytes pc = .ok (.istore_n i, 1)) (hl : storeLocals L i.val (.int v) = some L') (hp : pc + 1 = pc') (k : own_H p e below En n0 h0 ws Q T (mkF m pc' L' st)) : own_H p e below En n0 h0 ws Q T (mkF m pc L (.int v :: st)) := by
  subst hp
  exact own_st X k (fun t A q => XS.istoreN A B.1 rfl (hb B.2.2.1 hd) rfl hl q)
theorem own_istore (X : own_St p l e R s m args below meth c n0 h0 ws T h C S) (B : own_B Z p s m meth c bytes maxL own nm rt) {i : Nat} {v : Int32} (hd : decode bytes pc = .ok (.istore i, 2)) (hl : storeLocals L i (.int v) = some L') (hp : pc + 2 = pc') (k : own_H p e below En n0 h0 ws Q T (mkF m pc' L' st)) : own_H p e below En n0 h0 ws Q T (mkF m pc L (.int v :: st)) := by
  subst hp
  exact own_st X k (fun t A q => XS.istore A B.1 rfl (hb B.2.2.1 hd) rfl hl q)
theorem own_lloadN (X : own_St p l e R s m args below meth c n0 h0 ws T h C S) (B : own_B Z p s m meth c bytes maxL own nm rt) {i : Fin 4} {v : Int64} (hd : decode bytes pc = .ok (.lload_n i, 1)) (hl : L[i.val]? = some (.val (.long v))) (hp : pc + 1 = pc') (k : own_H p e below En n0 h0 ws Q T (mkF m pc' L (.long v :: st))) : own_H p e below En n0 h0 ws Q T (mkF m pc L st) := by
  subst hp
  exact own_st X k (fun t A q => XS.lloadN A B.1 rfl (hb B.2.2.1 hd) hl q)
theorem own_lload (X : own_St p l e R s m args below meth c n0 h0 ws T h C S) (B : own_B Z p s m meth c bytes maxL own nm rt) {i : Nat} {v : Int64} (hd : decode bytes pc = .ok (.lload i, 2)) (hl : L[i]? = some (.val (.long v))) (hp : pc + 2 = pc') (k : own_H p e below En n0 h0 ws Q T (mkF m pc' L (.long v :: st))) : own_H p e below En n0 h0 ws Q T (mkF m pc L st) := by
  subst hp
  exact own_st X k (fun t A q => XS.lload A B.1 rfl (hb B.2.2.1 hd) hl q)
theorem own_lstoreN (X : own_St p l e R s m args below meth c n0 h0 ws T h C S) (B : own_B Z p s m meth c bytes maxL own nm rt) {i : Fin 4} {v : Int64} (hd : decode bytes pc = .ok (.lstore_n i, 1)) (hl : storeLocals L i.val (.long v) = some L') (hp : pc + 1 = pc') (k : own_H p e below En n0 h0 ws Q T (mkF m pc' L' st)) : own_H p e below En n0 h0 ws Q T (mkF m pc L (.long v :: st)) := by
  subst hp
  exact own_st X k (fun t A q => XS.lstoreN A B.1 rfl (hb B.2.2.1 hd) rfl hl q)
theorem own_lstore (X : own_St p l e R s m args below meth c n0 h0 ws T h C S) (B : own_B Z p s m meth c bytes maxL own nm rt) {i : Nat} {v : Int64} (hd : decode bytes pc = .ok (.lstore i, 2)) (hl : storeLocals L i (.long v) = some L') (hp : pc + 2 = pc') (k : own_H p e below En n0 h0 ws Q T (mkF m pc' L' st)) : own_H p e below En n0 h0 ws Q T (mkF m pc L (.long v :: st)) := by
  subst hp
  exact own_st X k (fun t A q => XS.lstore A B.1 rfl (hb B.2.2.1 hd) rfl hl q)
theorem own_aloadN (X : own_St p l e R s m args below meth c n0 h0 ws T h C S) (B : own_B Z p s m meth c bytes maxL own nm rt) {i : Fin 4} {v : Value} (hd : decode bytes pc = .ok (.aload_n i, 1)) (hl : L[i.val]? = some (.val v)) (hv : v.isRef = true) (hp : pc + 1 = pc') (k : own_H p e below En n0 h0 ws Q T (mkF m pc' L (v :: st))) : own_H p e below En n0 h0 ws Q T (mkF m pc L st) := by
  subst hp
  exact own_st X k (fun t A q => XS.aloadN A B.1 rfl (hb B.2.2.1 hd) hl hv q)
theorem own_aload (X : own_St p l e R s m args below meth c n0 h0 ws T h C S) (B : own_B Z p s m meth c bytes maxL own nm rt) {i : Nat} {v : Value} (hd : decode bytes pc = .ok (.aload i, 2)) (hl : L[i]? = some (.val v)) (hv : v.isRef = true) (hp : pc + 2 = pc') (k : own_H p e below En n0 h0 ws Q T (mkF m pc' L (v :: st))) : own_H p e below En n0 h0 ws Q T (mkF m pc L st) := by
  subst hp
  exact own_st X k (fun t A q => XS.aload A B.1 rfl (hb B.2.2.1 hd) hl hv q)
theorem own_astoreN (X : own_St p l e R s m args below meth c n0 h0 ws T h C S) (B : own_B Z p s m meth c bytes maxL own nm rt) {i : Fin 4} {v : Value} (hd : decode bytes pc = .ok (.astore_n i, 1)) (hv : v.isRef = true) (hl : storeLocals L i.val v = some L') (hp : pc + 1 = pc') (k : own_H p e below En n0 h0 ws Q T (mkF m pc' L' st)) : own_H p e below En n0 h0 ws Q T (mkF m pc L (v :: st)) := by
  subst hp
  exact own_st X k (fun t A q => XS.astoreN A B.1 rfl (hb B.2.2.1 hd) rfl hv hl q)
theorem own_astore (X : own_St p l e R s m args below meth c n0 h0 ws T h C S) (B : own_B Z p s m meth c bytes maxL own nm rt) {i : Nat} {v : Value} (hd : decode bytes pc = .ok (.astore i, 2)) (hv : v.isRef = true) (hl : storeLocals L i v = some L') (hp : pc + 2 = pc') (k : own_H p e below En n0 h0 ws Q T (mkF m pc' L' st)) : own_H p e below En n0 h0 ws Q T (mkF m pc L (v :: st)) := by
  subst hp
  exact own_st X k (fun t A q => XS.astore A B.1 rfl (hb B.2.2.1 hd) rfl hv hl q)
theorem own_iconst (X : own_St p l e R s m args below meth c n0 h0 ws T h C S) (B : own_B Z p s m meth c bytes maxL own nm rt) {i : Int} {v : Int32} (hd : decode bytes pc = .ok (.iconst i, 1)) (hv : Int32.ofInt i = v) (hp : pc + 1 = pc') (k : own_H p e below En n0 h0 ws Q T (mkF m pc' L (.int v :: st))) : own_H p e below En n0 h0 ws Q T (mkF m pc L st) := by
  subst hp hv
  exact own_st X k (fun t A q => XS.iconst A B.1 rfl (hb B.2.2.1 hd)  q)
theorem own_bipush (X : own_St p l e R s m args below meth c n0 h0 ws T h C S) (B : own_B Z p s m meth c bytes maxL own nm rt) {i : Int} {v : Int32} (hd : decode bytes pc = .ok (.bipush i, 2)) (hv : (Int8.ofInt i).toInt32 = v) (hp : pc + 2 = pc') (k : own_H p e below En n0 h0 ws Q T (mkF m pc' L (.int v :: st))) : own_H p e below En n0 h0 ws Q T (mkF m pc L st) := by
  subst hp hv
  exact own_st X k (fun t A q => XS.bipush A B.1 rfl (hb B.2.2.1 hd)  q)
theorem own_sipush (X : own_St p l e R s m args below meth c n0 h0 ws T h C S) (B : own_B Z p s m meth c bytes maxL own nm rt) {i : Int} {v : Int32} (hd : decode bytes pc = .ok (.sipush i, 3)) (hv : (Int16.ofInt i).toInt32 = v) (hp : pc + 3 = pc') (k : own_H p e below En n0 h0 ws Q T (mkF m pc' L (.int v :: st))) : own_H p e below En n0 h0 ws Q T (mkF m pc L st) := by
  subst hp hv
  exact own_st X k (fun t A q => XS.sipush A B.1 rfl (hb B.2.2.1 hd)  q)
theorem own_lconst (X : own_St p l e R s m args below meth c n0 h0 ws T h C S) (B : own_B Z p s m meth c bytes maxL own nm rt) {i : Fin 2} {v : Int64} (hd : decode bytes pc = .ok (.lconst i, 1)) (hv : Int64.ofNat i = v) (hp : pc + 1 = pc') (k : own_H p e below En n0 h0 ws Q T (mkF m pc' L (.long v :: st))) : own_H p e below En n0 h0 ws Q T (mkF m pc L st) := by
  subst hp hv
  exact own_st X k (fun t A q => XS.lconst A B.1 rfl (hb B.2.2.1 hd)  q)
theorem own_aconst_null (X : own_St p l e R s m args below meth c n0 h0 ws T h C S) (B : own_B Z p s m meth c bytes maxL own nm rt)  (hd : decode bytes pc = .ok (.aconst_null, 1)) (hp : pc + 1 = pc') (k : own_H p e below En n0 h0 ws Q T (mkF m pc' L (.null :: st))) : own_H p e below En n0 h0 ws Q T (mkF m pc L st) := by
  subst hp
  exact own_st X k (fun t A q => XS.aconstNull A B.1 rfl (hb B.2.2.1 hd)  q)
theorem own_iadd (X : own_St p l e R s m args below meth c n0 h0 ws T h C S) (B : own_B Z p s m meth c bytes maxL own nm rt) {x y : Int32} (hd : decode bytes pc = .ok (.iadd, 1)) (hp : pc + 1 = pc') (k : own_H p e below En n0 h0 ws Q T (mkF m pc' L (.int (x + y) :: st))) : own_H p e below En n0 h0 ws Q T (mkF m pc L (.int y :: .int x :: st)) := by
  subst hp
  exact own_st X k (fun t A q => XS.iadd A B.1 rfl (hb B.2.2.1 hd) rfl q)
theorem own_ladd (X : own_St p l e R s m args below meth c n0 h0 ws T h C S) (B : own_B Z p s m meth c bytes maxL own nm rt) {x y : Int64} (hd : decode bytes pc = .ok (.ladd, 1)) (hp : pc + 1 = pc') (k : own_H p e below En n0 h0 ws Q T (mkF m pc' L (.long (x + y) :: st))) : own_H p e below En n0 h0 ws Q T (mkF m pc L (.long y :: .long x :: st)) := by
  subst hp
  exact own_st X k (fun t A q => XS.ladd A B.1 rfl (hb B.2.2.1 hd) rfl q)
theorem own_isub (X : own_St p l e R s m args below meth c n0 h0 ws T h C S) (B : own_B Z p s m meth c bytes maxL own nm rt) {x y : Int32} (hd : decode bytes pc = .ok (.isub, 1)) (hp : pc + 1 = pc') (k : own_H p e below En n0 h0 ws Q T (mkF m pc' L (.int (x - y) :: st))) : own_H p e below En n0 h0 ws Q T (mkF m pc L (.int y :: .int x :: st)) := by
  subst hp
  exact own_st X k (fun t A q => XS.isub A B.1 rfl (hb B.2.2.1 hd) rfl q)
theorem own_lsub (X : own_St p l e R s m args below meth c n0 h0 ws T h C S) (B : own_B Z p s m meth c bytes maxL own nm rt) {x y : Int64} (hd : decode bytes pc = .ok (.lsub, 1)) (hp : pc + 1 = pc') (k : own_H p e below En n0 h0 ws Q T (mkF m pc' L (.long (x - y) :: st))) : own_H p e below En n0 h0 ws Q T (mkF m pc L (.long y :: .long x :: st)) := by
  subst hp
  exact own_st X k (fun t A q => XS.lsub A B.1 rfl (hb B.2.2.1 hd) rfl q)
theorem own_imul (X : own_St p l e R s m args below meth c n0 h0 ws T h C S) (B : own_B Z p s m meth c bytes maxL own nm rt) {x y : Int32} (hd : decode bytes pc = .ok (.imul, 1)) (hp : pc + 1 = pc') (k : own_H p e below En n0 h0 ws Q T (mkF m pc' L (.int (x * y) :: st))) : own_H p e below En n0 h0 ws Q T (mkF m pc L (.int y :: .int x :: st)) := by
  subst hp
  exact own_st X k (fun t A q => XS.imul A B.1 rfl (hb B.2.2.1 hd) rfl q)
theorem own_lmul (X : own_St p l e R s m args below meth c n0 h0 ws T h C S) (B : own_B Z p s m meth c bytes maxL own nm rt) {x y : Int64} (hd : decode bytes pc = .ok (.lmul, 1)) (hp : pc + 1 = pc') (k : own_H p e below En n0 h0 ws Q T (mkF m pc' L (.long (x * y) :: st))) : own_H p e below En n0 h0 ws Q T (mkF m pc L (.long y :: .long x :: st)) := by
  subst hp
  exact own_st X k (fun t A q => XS.lmul A B.1 rfl (hb B.2.2.1 hd) rfl q)
theorem own_iand (X : own_St p l e R s m args below meth c n0 h0 ws T h C S) (B : own_B Z p s m meth c bytes maxL own nm rt) {x y : Int32} (hd : decode bytes pc = .ok (.iand, 1)) (hp : pc + 1 = pc') (k : own_H p e below En n0 h0 ws Q T (mkF m pc' L (.int (x &&& y) :: st))) : own_H p e below En n0 h0 ws Q T (mkF m pc L (.int y :: .int x :: st)) := by
  subst hp
  exact own_st X k (fun t A q => XS.iand A B.1 rfl (hb B.2.2.1 hd) rfl q)
theorem own_land (X : own_St p l e R s m args below meth c n0 h0 ws T h C S) (B : own_B Z p s m meth c bytes maxL own nm rt) {x y : Int64} (hd : decode bytes pc = .ok (.land, 1)) (hp : pc + 1 = pc') (k : own_H p e below En n0 h0 ws Q T (mkF m pc' L (.long (x &&& y) :: st))) : own_H p e below En n0 h0 ws Q T (mkF m pc L (.long y :: .long x :: st)) := by
  subst hp
  exact own_st X k (fun t A q => XS.land A B.1 rfl (hb B.2.2.1 hd) rfl q)
theorem own_ior (X : own_St p l e R s m args below meth c n0 h0 ws T h C S) (B : own_B Z p s m meth c bytes maxL own nm rt) {x y : Int32} (hd : decode bytes pc = .ok (.ior, 1)) (hp : pc + 1 = pc') (k : own_H p e below En n0 h0 ws Q T (mkF m pc' L (.int (x ||| y) :: st))) : own_H p e below En n0 h0 ws Q T (mkF m pc L (.int y :: .int x :: st)) := by
  subst hp
  exact own_st X k (fun t A q => XS.ior A B.1 rfl (hb B.2.2.1 hd) rfl q)
theorem own_lor (X : own_St p l e R s m args below meth c n0 h0 ws T h C S) (B : own_B Z p s m meth c bytes maxL own nm rt) {x y : Int64} (hd : decode bytes pc = .ok (.lor, 1)) (hp : pc + 1 = pc') (k : own_H p e below En n0 h0 ws Q T (mkF m pc' L (.long (x ||| y) :: st))) : own_H p e below En n0 h0 ws Q T (mkF m pc L (.long y :: .long x :: st)) := by
  subst hp
  exact own_st X k (fun t A q => XS.lor A B.1 rfl (hb B.2.2.1 hd) rfl q)
theorem own_ixor (X : own_St p l e R s m args below meth c n0 h0 ws T h C S) (B : own_B Z p s m meth c bytes maxL own nm rt) {x y : Int32} (hd : decode bytes pc = .ok (.ixor, 1)) (hp : pc + 1 = pc') (k : own_H p e below En n0 h0 ws Q T (mkF m pc' L (.int (x ^^^ y) :: st))) : own_H p e below En n0 h0 ws Q T (mkF m pc L (.int y :: .int x :: st)) := by
  subst hp
  exact own_st X k (fun t A q => XS.ixor A B.1 rfl (hb B.2.2.1 hd) rfl q)
theorem own_lxor (X : own_St p l e R s m args below meth c n0 h0 ws T h C S) (B : own_B Z p s m meth c bytes maxL own nm rt) {x y : Int64} (hd : decode bytes pc = .ok (.lxor, 1)) (hp : pc + 1 = pc') (k : own_H p e below En n0 h0 ws Q T (mkF m pc' L (.long (x ^^^ y) :: st))) : own_H p e below En n0 h0 ws Q T (mkF m pc L (.long y :: .long x :: st)) := by
  subst hp
  exact own_st X k (fun t A q => XS.lxor A B.1 rfl (hb B.2.2.1 hd) rfl q)
theorem own_ishl (X : own_St p l e R s m args below meth c n0 h0 ws T h C S) (B : own_B Z p s m meth c bytes maxL own nm rt) {x y : Int32} (hd : decode bytes pc = .ok (.ishl, 1)) (hp : pc + 1 = pc') (k : own_H p e below En n0 h0 ws Q T (mkF m pc' L (.int (x <<< (y &&& 31)) :: st))) : own_H p e below En n0 h0 ws Q T (mkF m pc L (.int y :: .int x :: st)) := by
  subst hp
  exact own_st X k (fun t A q => XS.ishl A B.1 rfl (hb B.2.2.1 hd) rfl q)
theorem own_ishr (X : own_St p l e R s m args below meth c n0 h0 ws T h C S) (B : own_B Z p s m meth c bytes maxL own nm rt) {x y : Int32} (hd : decode bytes pc = .ok (.ishr, 1)) (hp : pc + 1 = pc') (k : own_H p e below En n0 h0 ws Q T (mkF m pc' L (.int (x >>> (y &&& 31)) :: st))) : own_H p e below En n0 h0 ws Q T (mkF m pc L (.int y :: .int x :: st)) := by
  subst hp
  exact own_st X k (fun t A q => XS.ishr A B.1 rfl (hb B.2.2.1 hd) rfl q)
theorem own_iushr (X : own_St p l e R s m args below meth c n0 h0 ws T h C S) (B : own_B Z p s m meth c bytes maxL own nm rt) {x y : Int32} (hd : decode bytes pc = .ok (.iushr, 1)) (hp : pc + 1 = pc') (k : own_H p e below En n0 h0 ws Q T (mkF m pc' L (.int ((x.toUInt32 >>> (y &&& 31).toUInt32).toInt32) :: st))) : own_H p e below En n0 h0 ws Q T (mkF m pc L (.int y :: .int x :: st)) := by
  subst hp
  exact own_st X k (fun t A q => XS.iushr A B.1 rfl (hb B.2.2.1 hd) rfl q)
theorem own_lshl (X : own_St p l e R s m args below meth c n0 h0 ws T h C S) (B : own_B Z p s m meth c bytes maxL own nm rt) {x : Int64} {y : Int32} (hd : decode bytes pc = .ok (.lshl, 1)) (hp : pc + 1 = pc') (k : own_H p e below En n0 h0 ws Q T (mkF m pc' L (.long (x <<< (y &&& 0x3f).toInt64) :: st))) : own_H p e below En n0 h0 ws Q T (mkF m pc L (.int y :: .long x :: st)) := by
  subst hp
  exact own_st X k (fun t A q => XS.lshl A B.1 rfl (hb B.2.2.1 hd) rfl q)
theorem own_lshr (X : own_St p l e R s m args below meth c n0 h0 ws T h C S) (B : own_B Z p s m meth c bytes maxL own nm rt) {x : Int64} {y : Int32} (hd : decode bytes pc = .ok (.lshr, 1)) (hp : pc + 1 = pc') (k : own_H p e below En n0 h0 ws Q T (mkF m pc' L (.long (x >>> (y &&& 0x3f).toInt64) :: st))) : own_H p e below En n0 h0 ws Q T (mkF m pc L (.int y :: .long x :: st)) := by
  subst hp
  exact own_st X k (fun t A q => XS.lshr A B.1 rfl (hb B.2.2.1 hd) rfl q)
theorem own_lushr (X : own_St p l e R s m args below meth c n0 h0 ws T h C S) (B : own_B Z p s m meth c bytes maxL own nm rt) {x : Int64} {y : Int32} (hd : decode bytes pc = .ok (.lushr, 1)) (hp : pc + 1 = pc') (k : own_H p e below En n0 h0 ws Q T (mkF m pc' L (.long ((x.toUInt64 >>> (y &&& 0x3f).toInt64.toUInt64).toInt64) :: st))) : own_H p e below En n0 h0 ws Q T (mkF m pc L (.int y :: .long x :: st)) := by
  subst hp
  exact own_st X k (fun t A q => XS.lushr A B.1 rfl (hb B.2.2.1 hd) rfl q)
theorem own_idiv (X : own_St p l e R s m args below meth c n0 h0 ws T h C S) (B : own_B Z p s m meth c bytes maxL own nm rt) {x y : Int32} (hd : decode bytes pc = .ok (.idiv, 1)) (hy : y ≠ 0) (hp : pc + 1 = pc') (k : own_H p e below En n0 h0 ws Q T (mkF m pc' L (.int (x / y) :: st))) : own_H p e below En n0 h0 ws Q T (mkF m pc L (.int y :: .int x :: st)) := by
  subst hp
  exact own_st X k (fun t A q => XS.idiv A B.1 rfl (hb B.2.2.1 hd) rfl hy q)
theorem own_irem (X : own_St p l e R s m args below meth c n0 h0 ws T h C S) (B : own_B Z p s m meth c bytes maxL own nm rt) {x y : Int32} (hd : decode bytes pc = .ok (.irem, 1)) (hy : y ≠ 0) (hp : pc + 1 = pc') (k : own_H p e below En n0 h0 ws Q T (mkF m pc' L (.int (x % y) :: st))) : own_H p e below En n0 h0 ws Q T (mkF m pc L (.int y :: .int x :: st)) := by
  subst hp
  obtain ⟨locs, Y, -⟩ := X
  exact own_tr (fun t q => iremM Y B.1 (g := mkF m pc L (.int y :: .int x :: st)) rfl (hb B.2.2.1 hd) rfl hy q) k
theorem own_lrem (X : own_St p l e R s m args below meth c n0 h0 ws T h C S) (B : own_B Z p s m meth c bytes maxL own nm rt) {x y : Int64} (hd : decode bytes pc = .ok (.lrem, 1)) (hy : y ≠ 0) (hp : pc + 1 = pc') (k : own_H p e below En n0 h0 ws Q T (mkF m pc' L (.long (x % y) :: st))) : own_H p e below En n0 h0 ws Q T (mkF m pc L (.long y :: .long x :: st)) := by
  subst hp
  exact own_st X k (fun t A q => XS.lrem A B.1 rfl (hb B.2.2.1 hd) rfl hy (by rw [lrem_mod x y]; exact q))
theorem own_i2l (X : own_St p l e R s m args below meth c n0 h0 ws T h C S) (B : own_B Z p s m meth c bytes maxL own nm rt) {x : Int32} (hd : decode bytes pc = .ok (.i2l, 1)) (hp : pc + 1 = pc') (k : own_H p e below En n0 h0 ws Q T (mkF m pc' L (.long x.toInt64 :: st))) : own_H p e below En n0 h0 ws Q T (mkF m pc L (.int x :: st)) := by
  subst hp
  exact own_st X k (fun t A q => XS.i2l A B.1 rfl (hb B.2.2.1 hd) rfl q)
theorem own_l2i (X : own_St p l e R s m args below meth c n0 h0 ws T h C S) (B : own_B Z p s m meth c bytes maxL own nm rt) {x : Int64} (hd : decode bytes pc = .ok (.l2i, 1)) (hp : pc + 1 = pc') (k : own_H p e below En n0 h0 ws Q T (mkF m pc' L (.int x.toInt32 :: st))) : own_H p e below En n0 h0 ws Q T (mkF m pc L (.long x :: st)) := by
  subst hp
  exact own_st X k (fun t A q => XS.l2i A B.1 rfl (hb B.2.2.1 hd) rfl q)
theorem own_lcmp (X : own_St p l e R s m args below meth c n0 h0 ws T h C S) (B : own_B Z p s m meth c bytes maxL own nm rt) {x y : Int64} (hd : decode bytes pc = .ok (.lcmp, 1)) (hp : pc + 1 = pc') (k : own_H p e below En n0 h0 ws Q T (mkF m pc' L (.int (lcmpW x y) :: st))) : own_H p e below En n0 h0 ws Q T (mkF m pc L (.long y :: .long x :: st)) := by
  subst hp
  exact own_st X k (fun t A q => XS.lcmp A B.1 rfl (hb B.2.2.1 hd) rfl q)
theorem own_dup (X : own_St p l e R s m args below meth c n0 h0 ws T h C S) (B : own_B Z p s m meth c bytes maxL own nm rt) {v : Value} (hd : decode bytes pc = .ok (.dup, 1)) (hv : v.category = 1) (hp : pc + 1 = pc') (k : own_H p e below En n0 h0 ws Q T (mkF m pc' L (v :: v :: st))) : own_H p e below En n0 h0 ws Q T (mkF m pc L (v :: st)) := by
  subst hp
  exact own_st X k (fun t A q => XS.dup A B.1 rfl (hb B.2.2.1 hd) rfl hv q)
theorem own_pop (X : own_St p l e R s m args below meth c n0 h0 ws T h C S) (B : own_B Z p s m meth c bytes maxL own nm rt) {v : Value} (hd : decode bytes pc = .ok (.pop, 1)) (hv : v.category = 1) (hp : pc + 1 = pc') (k : own_H p e below En n0 h0 ws Q T (mkF m pc' L st)) : own_H p e below En n0 h0 ws Q T (mkF m pc L (v :: st)) := by
  subst hp
  exact own_st X k (fun t A q => XS.pop A B.1 rfl (hb B.2.2.1 hd) rfl hv q)
theorem own_dup2 (X : own_St p l e R s m args below meth c n0 h0 ws T h C S) (B : own_B Z p s m meth c bytes maxL own nm rt) {x y : Value} (hd : decode bytes pc = .ok (.dup2, 1)) (hx' : x.category = 1) (hy' : y.category = 1) (hp : pc + 1 = pc') (k : own_H p e below En n0 h0 ws Q T (mkF m pc' L (x :: y :: x :: y :: st))) : own_H p e below En n0 h0 ws Q T (mkF m pc L (x :: y :: st)) := by
  subst hp
  exact own_st X k (fun t A q => Jvm.Free.XT.dup2 A B.1 rfl (hb B.2.2.1 hd) rfl hx' hy' q)
theorem own_iinc (X : own_St p l e R s m args below meth c n0 h0 ws T h C S) (B : own_B Z p s m meth c bytes maxL own nm rt) {i : Nat} {cst : Int} {x : Int32} (hd : decode bytes pc = .ok (.iinc i cst, 3)) (hl : L[i]? = some (.val (.int x))) (hl' : storeLocals L i (.int (x + Int32.ofInt cst)) = some L') (hp : pc + 3 = pc') (k : own_H p e below En n0 h0 ws Q T (mkF m pc' L' st)) : own_H p e below En n0 h0 ws Q T (mkF m pc L st) := by
  subst hp
  exact own_st X k (fun t A q => XS.iinc A B.1 rfl (hb B.2.2.1 hd) hl hl' q)
theorem own_goto (X : own_St p l e R s m args below meth c n0 h0 ws T h C S) (B : own_B Z p s m meth c bytes maxL own nm rt) {o : Int} (hd : decode bytes pc = .ok (.goto o, 3)) (ho : 0 ≤ (pc : Int) + o) (hp : ((pc : Int) + o).toNat = pc') (k : own_H p e below En n0 h0 ws Q T (mkF m pc' L st)) : own_H p e below En n0 h0 ws Q T (mkF m pc L st) := own_st X k (fun t A q => XS.goto A B.1 rfl rfl (hb B.2.2.1 hd) ho hp q)
theorem own_icmpT (X : own_St p l e R s m args below meth c n0 h0 ws T h C S) (B : own_B Z p s m meth c bytes maxL own nm rt) {cd : ClassFile.Cond} {o : Int} {x y : Int32} (hd : decode bytes pc = .ok (.if_icmp cd o, 3)) (hc : if_icmp.holds cd x y = true) (ho : 0 ≤ (pc : Int) + o) (hp : ((pc : Int) + o).toNat = pc') (k : own_H p e below En n0 h0 ws Q T (mkF m pc' L st)) : own_H p e below En n0 h0 ws Q T (mkF m pc L (.int y :: .int x :: st)) := own_st X k (fun t A q => XS.icmpYes A B.1 rfl rfl (hb B.2.2.1 hd) rfl hc ho hp q)
theorem own_icmpF (X : own_St p l e R s m args below meth c n0 h0 ws T h C S) (B : own_B Z p s m meth c bytes maxL own nm rt) {cd : ClassFile.Cond} {o : Int} {x y : Int32} (hd : decode bytes pc = .ok (.if_icmp cd o, 3)) (hc : if_icmp.holds cd x y = false) (hp : pc + 3 = pc') (k : own_H p e below En n0 h0 ws Q T (mkF m pc' L st)) : own_H p e below En n0 h0 ws Q T (mkF m pc L (.int y :: .int x :: st)) := by
  subst hp
  exact own_st X k (fun t A q => XS.icmpNo A B.1 rfl (hb B.2.2.1 hd) rfl hc q)
theorem own_ifT (X : own_St p l e R s m args below meth c n0 h0 ws T h C S) (B : own_B Z p s m meth c bytes maxL own nm rt) {cd : ClassFile.Cond} {o : Int} {x : Int32} (hd : decode bytes pc = .ok (.ifCond cd o, 3)) (hc : if_icmp.holds cd x 0 = true) (ho : 0 ≤ (pc : Int) + o) (hp : ((pc : Int) + o).toNat = pc') (k : own_H p e below En n0 h0 ws Q T (mkF m pc' L st)) : own_H p e below En n0 h0 ws Q T (mkF m pc L (.int x :: st)) := own_st X k (fun t A q => XS.ifYes A B.1 rfl rfl (hb B.2.2.1 hd) rfl ((if0 _ _).trans hc) ho hp q)
theorem own_ifF (X : own_St p l e R s m args below meth c n0 h0 ws T h C S) (B : own_B Z p s m meth c bytes maxL own nm rt) {cd : ClassFile.Cond} {o : Int} {x : Int32} (hd : decode bytes pc = .ok (.ifCond cd o, 3)) (hc : if_icmp.holds cd x 0 = false) (hp : pc + 3 = pc') (k : own_H p e below En n0 h0 ws Q T (mkF m pc' L st)) : own_H p e below En n0 h0 ws Q T (mkF m pc L (.int x :: st)) := by
  subst hp
  exact own_st X k (fun t A q => XS.ifNo A B.1 rfl (hb B.2.2.1 hd) rfl ((if0 _ _).trans hc) q)
theorem own_ifnullT (X : own_St p l e R s m args below meth c n0 h0 ws T h C S) (B : own_B Z p s m meth c bytes maxL own nm rt) {o : Int} (hd : decode bytes pc = .ok (.ifnull o, 3)) (ho : 0 ≤ (pc : Int) + o) (hp : ((pc : Int) + o).toNat = pc') (k : own_H p e below En n0 h0 ws Q T (mkF m pc' L st)) : own_H p e below En n0 h0 ws Q T (mkF m pc L (.null :: st)) := own_st X k (fun t A q => XS.ifnullYes A B.1 rfl rfl (hb B.2.2.1 hd) rfl ho hp q)
theorem own_ifnullF (X : own_St p l e R s m args below meth c n0 h0 ws T h C S) (B : own_B Z p s m meth c bytes maxL own nm rt) {o : Int} {b : Addr} (hd : decode bytes pc = .ok (.ifnull o, 3)) (hp : pc + 3 = pc') (k : own_H p e below En n0 h0 ws Q T (mkF m pc' L st)) : own_H p e below En n0 h0 ws Q T (mkF m pc L (.ref b :: st)) := by
  subst hp
  exact own_st X k (fun t A q => XS.ifnullNo A B.1 rfl (hb B.2.2.1 hd) rfl q)
theorem own_ifnonnullT (X : own_St p l e R s m args below meth c n0 h0 ws T h C S) (B : own_B Z p s m meth c bytes maxL own nm rt) {o : Int} {b : Addr} (hd : decode bytes pc = .ok (.ifnonnull o, 3)) (ho : 0 ≤ (pc : Int) + o) (hp : ((pc : Int) + o).toNat = pc') (k : own_H p e below En n0 h0 ws Q T (mkF m pc' L st)) : own_H p e below En n0 h0 ws Q T (mkF m pc L (.ref b :: st)) := own_st X k (fun t A q => XS.ifnonnullYes A B.1 rfl rfl (hb B.2.2.1 hd) rfl ho hp q)
theorem own_ifnonnullF (X : own_St p l e R s m args below meth c n0 h0 ws T h C S) (B : own_B Z p s m meth c bytes maxL own nm rt) {o : Int} (hd : decode bytes pc = .ok (.ifnonnull o, 3)) (hp : pc + 3 = pc') (k : own_H p e below En n0 h0 ws Q T (mkF m pc' L st)) : own_H p e below En n0 h0 ws Q T (mkF m pc L (.null :: st)) := by
  subst hp
  exact own_st X k (fun t A q => XS.ifnonnullNo A B.1 rfl (hb B.2.2.1 hd) rfl q)
theorem own_acmpSame (X : own_St p l e R s m args below meth c n0 h0 ws T h C S) (B : own_B Z p s m meth c bytes maxL own nm rt) {o : Int} {a : Addr} (hd : decode bytes pc = .ok (.if_acmp .eq o, 3)) (ho : 0 ≤ (pc : Int) + o) (hp : ((pc : Int) + o).toNat = pc') (k : own_H p e below En n0 h0 ws Q T (mkF m pc' L st)) : own_H p e below En n0 h0 ws Q T (mkF m pc L (.ref a :: .ref a :: st)) := by
  obtain ⟨locs, Y, -⟩ := X
  exact own_tr (fun t q => Jvm.RoadKit.acmp (g := mkF m pc L (.ref a :: .ref a :: st)) Y B.1 rfl rfl rfl (pc0 := pc) (pc' := pc') (same := true) rfl (hb B.2.2.1 hd) rfl (decide_eq_true rfl) ho (hp.symm.trans (if_pos (show acV ACond.eq true = true from rfl)).symm) q) k
theorem own_iret (X : own_St p l e R s m args below meth c n0 h0 ws T h C S) (B : own_B Z p s m meth c bytes maxL own nm (some .int)) {x : Int32} (hd : decode bytes pc = .ok (.ireturn, 1)) (hc : C ≤ C') (hs : S ≤ S') (q : Q (some (.int x)) h) : own_G p e below s n0 h0 ws Q C' S' T (mkF m pc L (.int x :: st)) :=
  own_ret X B hc hs (v := some (.int x)) (fun h => by cases h) (fun locs fs Y hr => retOut Y B.1 B.2.2.2.2.2.2.1 rfl (Or.inl ⟨rfl, Or.inl rfl, _, rfl⟩) (hb B.2.2.1 hd) hr) q
theorem own_zret (X : own_St p l e R s m args below meth c n0 h0 ws T h C S) (B : own_B Z p s m meth c bytes maxL own nm (some .boolean)) {x : Int32} (hd : decode bytes pc = .ok (.ireturn, 1)) (hc : C ≤ C') (hs : S ≤ S') (hx : x &&& 1 = x) (q : Q (some (.int x)) h) : own_G p e below s n0 h0 ws Q C' S' T (mkF m pc L (.int x :: st)) :=
  own_ret X B hc hs (v := some (.int x)) (fun h => by cases h) (fun locs fs Y hr => retN Y B.1 (t := .boolean) B.2.2.2.2.2.2.1 (by simp) (hb B.2.2.1 hd) (by show ∀ (f : JFrame) (acts : List Action), f.method = m → f.locked = none → f.entered = [] → (doReturn e (T.setTop f) acts (some (.int (x &&& 1)))).1 = T.setFrames fs; rw [hx]; exact hr)) q
theorem own_lret (X : own_St p l e R s m args below meth c n0 h0 ws T h C S) (B : own_B Z p s m meth c bytes maxL own nm (some .long)) {x : Int64} (hd : decode bytes pc = .ok (.lreturn, 1)) (hc : C ≤ C') (hs : S ≤ S') (q : Q (some (.long x)) h) : own_G p e below s n0 h0 ws Q C' S' T (mkF m pc L (.long x :: st)) :=
  own_ret X B hc hs (v := some (.long x)) (fun h => by cases h) (fun locs fs Y hr => retOut Y B.1 B.2.2.2.2.2.2.1 rfl (Or.inr (Or.inl ⟨rfl, rfl, _, rfl⟩)) (hb B.2.2.1 hd) hr) q
theorem own_aret (X : own_St p l e R s m args below meth c n0 h0 ws T h C S) {ft : FieldType} (B : own_B Z p s m meth c bytes maxL own nm (some ft)) {x : Value} (hd : decode bytes pc = .ok (.areturn, 1)) (hft : ft.isReference = true) (hx : x.isRef = true) (hnx : narrow ft x = x) (hc : C ≤ C') (hs : S ≤ S') (q : Q (some x) h) : own_G p e below s n0 h0 ws Q C' S' T (mkF m pc L (x :: st)) :=
  own_ret X B hc hs (v := some x) (fun h => by cases h) (fun locs fs Y hr => retOut Y B.1 B.2.2.2.2.2.2.1 hnx (Or.inr (Or.inr (Or.inr (Or.inr ⟨rfl, hft, hx⟩)))) (hb B.2.2.1 hd) hr) q
theorem own_vret (X : own_St p l e R s m args below meth c n0 h0 ws T h C S) (B : own_B Z p s m meth c bytes maxL own nm none) (hd : decode bytes pc = .ok (.return_, 1)) (hc : C ≤ C') (hs : S ≤ S') (q : Q none h) : own_G p e below s n0 h0 ws Q C' S' T (mkF m pc L []) :=
  own_ret X B hc hs (v := none) (fun _ => rfl) (fun locs fs Y hr => Y.returnOut B.1 B.2.2.2.2.2.2.1 (hb B.2.2.1 hd) hr) q
/-! fields, objects -/
theorem own_lit (X : own_St p l e R s m args below meth c n0 h0 ws T h C S) (B : own_B Z p s m meth c bytes maxL own nm rt) {i : Nat} {v : Int32} (w : (Jvm.Cond.constant own i v).before a0 Z = true) (hd : decode bytes pc = .ok (.ldc i, 2)) (hp : pc + 2 = pc') (k : own_H p e below En n0 h0 ws Q T (mkF m pc' L (.int v :: st))) : own_H p e below En n0 h0 ws Q T (mkF m pc L st) := by
  subst hp
  obtain ⟨locs, Y, -⟩ := X
  exact own_tr (Y.ldcInt B.1 B.2.2.2.2.1 (mvT B.2.1 w) (g := mkF m pc L st) rfl (hb B.2.2.1 hd)) k
theorem own_litL (X : own_St p l e R s m args below meth c n0 h0 ws T h C S) (B : own_B Z p s m meth c bytes maxL own nm rt) {i : Nat} {v : Int64} (w : (Jvm.Cond.constantLong own i v).before a0 Z = true) (hd : decode bytes pc = .ok (.ldc2_w i, 3)) (hp : pc + 3 = pc') (k : own_H p e below En n0 h0 ws Q T (mkF m pc' L (.long v :: st))) : own_H p e below En n0 h0 ws Q T (mkF m pc L st) := by
  subst hp
  obtain ⟨locs, Y, -⟩ := X
  exact own_tr (Y.ldc2Long B.1 B.2.2.2.2.1 (mvT B.2.1 w) (g := mkF m pc L st) rfl (hb B.2.2.1 hd)) k
theorem own_getF (X : own_St p l e R s m args below meth c n0 h0 ws T h C S) (B : own_B Z p s m meth c bytes maxL own nm rt) {i : Nat} {O n d : String} (w : (Jvm.Cond.fieldLink own i O n d).before a0 Z = true) {a : Addr} {v : Value} (F : Fld Z h a O n d v) (hd : decode bytes pc = .ok (.getfield i, 3)) (hp : pc + 3 = pc')
    (k : ∀ T, own_St p l e R s m args below meth c n0 h0 ws T h C S → own_H p e below En n0 h0 ws Q T (mkF m pc' L (v :: st))) : own_H p e below En n0 h0 ws Q T (mkF m pc L (.ref a :: st)) := by
  subst hp
  obtain ⟨locs, Y, N, e, K⟩ := X
  obtain ⟨T1, Y1, e1, st1⟩ := getF Y B.1 B.2.1 B.2.2.2.2.1 (host := "") (Or.inl w) Via.refl e F (g := mkF m pc L (.ref a :: st)) rfl rfl (hb B.2.2.1 hd)
  exact own_tr st1 (k T1 ⟨locs, Y1, N, e1, K⟩)
theorem own_getN (X : own_St p l e R s m args below meth c n0 h0 ws T h C S) (B : own_B Z p s m meth c bytes maxL own nm rt) {i : Nat} {O n d host : String} (w : (Jvm.Cond.fieldLinkNest own i O n d host).before a0 Z = true) {a : Addr} {v : Value} (F : Fld Z h a O n d v) (hd : decode bytes pc = .ok (.getfield i, 3)) (hp : pc + 3 = pc')
    (k : ∀ T, own_St p l e R s m args below meth c n0 h0 ws T h C S → own_H p e below En n0 h0 ws Q T (mkF m pc' L (v :: st))) : own_H p e below En n0 h0 ws Q T (mkF m pc L (.ref a :: st)) := by
  subst hp
  obtain ⟨locs, Y, N, e, K⟩ := X
  obtain ⟨T1, Y1, e1, st1⟩ := getF Y B.1 B.2.1 B.2.2.2.2.1 (host := host) (Or.inr w) Via.refl e F (g := mkF m pc L (.ref a :: st)) rfl rfl (hb B.2.2.1 hd)
  exact own_tr st1 (k T1 ⟨locs, Y1, N, e1, K⟩)
theorem own_putF (X : own_St p l e R s m args below meth c n0 h0 ws T h C S) (B : own_B Z p s m meth c bytes maxL own nm rt) {i kk : Nat} {O n d K0 : String} (w : (Jvm.Cond.fieldLink own i O n d).before a0 Z = true) {a : Addr} {v old : Value} {ty : FieldType} (F : Fld Z h a O n d old) (E : Exa Z h a K0) (Lw : (Jvm.Cond.lays K0 O n d).before a0 Z = true ∨ ((Jvm.Cond.laysFinal K0 O n d).before a0 Z = true ∧ own = O ∧ nm = "<init>")) (wi : (Jvm.Cond.instantiable K0 kk).before a0 Z = true)
    (hty : parseFieldDescriptor d = some ty) (hn : narrow ty v = v) (hf : fits ty v = true) (hw1 : n0 ≤ a) (hw2 : a ∈ ws ∨ h0.size ≤ a) (hd : decode bytes pc = .ok (.putfield i, 3)) (hp : pc + 3 = pc')
    (k : ∀ T h', own_St p l e R s m args below meth c n0 h0 ws T h' C S → Wr h h' a (Jvm.RoadKit.slotOf Z O n d) v → Keep h h' [a] → Exa Z h' a K0 → Fld Z h' a O n d v → own_H p e below En n0 h0 ws Q T (mkF m pc' L st)) : own_H p e below En n0 h0 ws Q T (mkF m pc L (v :: .ref a :: st)) := by
  subst hp
  obtain ⟨locs, Y, N, e, K⟩ := X
  obtain ⟨T1, h1, Y1, e1, W1, st1⟩ := putF Y B.1 B.2.1 B.2.2.2.2.1 (host := "") (Or.inl w) Via.refl e F E (Lw.imp id (fun q => ⟨q.1, q.2.1, B.2.2.2.2.2.1.trans q.2.2⟩)) wi hty hn hf (g := mkF m pc L (v :: .ref a :: st)) rfl rfl (hb B.2.2.1 hd)
  exact own_tr st1 (k T1 h1 ⟨_, Y1, Fr.snoc Y1 N hw1, e1, K.wr W1 hw2⟩ W1 (Keep.of_wr W1) (E.wr W1) (F.same W1))
theorem own_putN (X : own_St p l e R s m args below meth c n0 h0 ws T h C S) (B : own_B Z p s m meth c bytes maxL own nm rt) {i kk : Nat} {O n d K0 host : String} (w : (Jvm.Cond.fieldLinkNest own i O n d host).before a0 Z = true) {a : Addr} {v old : Value} {ty : FieldType} (F : Fld Z h a O n d old) (E : Exa Z h a K0) (Lw : (Jvm.Cond.lays K0 O n d).before a0 Z = true ∨ ((Jvm.Cond.laysFinal K0 O n d).before a0 Z = true ∧ own = O ∧ nm = "<init>")) (wi : (Jvm.Cond.instantiable K0 kk).before a0 Z = true)
    (hty : parseFieldDescriptor d = some ty) (hn : narrow ty v = v) (hf : fits ty v = true) (hw1 : n0 ≤ a) (hw2 : a ∈ ws ∨ h0.size ≤ a) (hd : decode bytes pc = .ok (.putfield i, 3)) (hp : pc + 3 = pc')
    (k : ∀ T h', own_St p l e R s m args below meth c n0 h0 ws T h' C S → Wr h h' a (Jvm.RoadKit.slotOf Z O n d) v → Keep h h' [a] → Exa Z h' a K0 → Fld Z h' a O n d v → own_H p e below En n0 h0 ws Q T (mkF m pc' L st)) : own_H p e below En n0 h0 ws Q T (mkF m pc L (v :: .ref a :: st)) := by
  subst hp
  obtain ⟨locs, Y, N, e, K⟩ := X
  obtain ⟨T1, h1, Y1, e1, W1, st1⟩ := putF Y B.1 B.2.1 B.2.2.2.2.1 (host := host) (Or.inr w) Via.refl e F E (Lw.imp id (fun q => ⟨q.1, q.2.1, B.2.2.2.2.2.1.trans q.2.2⟩)) wi hty hn hf (g := mkF m pc L (v :: .ref a :: st)) rfl rfl (hb B.2.2.1 hd)
  exact own_tr st1 (k T1 h1 ⟨_, Y1, Fr.snoc Y1 N hw1, e1, K.wr W1 hw2⟩ W1 (Keep.of_wr W1) (E.wr W1) (F.same W1))
theorem own_newO (X : own_St p l e R s m args below meth c n0 h0 ws T h C S) (B : own_B Z p s m meth c bytes maxL own nm rt) {i n : Nat} {K0 : String} (w : (Jvm.Cond.classLink own i K0).before a0 Z = true) (wi : (Jvm.Cond.instantiable K0 n).before a0 Z = true) (wz : (Jvm.Cond.initialized K0).before a0 Z = true) (hc : C + 1 ≤ R.cells) (hs : S + n ≤ R.slots) (hd : decode bytes pc = .ok (.new i, 3)) (hp : pc + 3 = pc')
    (k : ∀ T h' a, a = h.size → own_St p l e R s m args below meth c n0 h0 ws T h' (C + 1) (S + n) → Keep h h' [] → Exa Z h' a K0 → (∀ {O nm d : String} {ty : FieldType}, Laid Z a0 K0 O nm d → parseFieldDescriptor d = some ty → Fld Z h' a O nm d (defaultValue ty)) → h0.size ≤ a → own_H p e below En n0 h0 ws Q T (mkF m pc' L (.ref a :: st))) : own_H p e below En n0 h0 ws Q T (mkF m pc L st) := by
  subst hp
  obtain ⟨locs, Y, N, e, K⟩ := X
  obtain ⟨T1, h1, Y1, e1, E1, A1, D1, -, st1⟩ := newO Y B.1 B.2.1 B.2.2.2.2.1 w wi wz e (g := mkF m pc L st) rfl (hb B.2.2.1 hd) hc hs
  exact own_tr st1 (k T1 h1 h.size rfl ⟨_, Y1, N, e1, K.ext E1⟩ ((Keep.refl h []).ext E1) A1 D1 K.1)
theorem own_initO (X : own_St p l e R s m args below meth c n0 h0 ws T h C S) (B : own_B Z p s m meth c bytes maxL own nm rt) {i : Nat} (w1 : (Jvm.Cond.methodLink own i Lib.objectInit).before a0 Z = true) (w2 : (Jvm.Cond.instanceMethod Lib.objectInit).before a0 Z = true) (w3 : (Jvm.Cond.code Lib.objectInit ⟨#[0xb1]⟩ 1 none).before a0 Z = true) (hL : L.size = maxL) {a : Addr} (hf : 1 ≤ R.frames) {W : Nat} (hW : (st.map fun v => v.category).sum ≤ W) (hl : W + 12 ≤ R.locals) (hd : decode bytes pc = .ok (.invokespecial i, 3)) (hp : pc + 3 = pc')
    (k : ∀ T, own_St p l e R s m args below meth c n0 h0 ws T h C S → own_H p e below En n0 h0 ws Q T (mkF m pc' L st)) : own_H p e below En n0 h0 ws Q T (mkF m pc L (.ref a :: st)) := by
  subst hp
  obtain ⟨locs, Y, N, e, K⟩ := X
  obtain ⟨T1, Y1, e1, st1⟩ := initO Y B.1 B.2.1 B.2.2.2.2.1 w1 w2 w3 e (g := mkF m pc L (.ref a :: st)) rfl (hL.trans B.2.2.2.1.symm) rfl (hb B.2.2.1 hd) hf (W := W) (by show 2 * 0 + _ ≤ _; omega) hl
  exact own_tr st1 (k T1 ⟨locs, Y1, N, e1, K⟩)
/-! calls by contract -/
theorem own_callS (X : own_St p l e R s m args below meth c n0 h0 ws T h C S) (B : own_B Z p s m meth c bytes maxL own nm rt) {i : Nat} {y : MethodName} {by2 : ByteArray} {ml2 : Nat} {rt2 : Option FieldType} {rm : Room} {as2 : Array Value} {ws2 : List Addr} {Q2 : Option Value → Heap → Prop} {W : Nat}
    (w1 : (Jvm.Cond.methodLink own i y).before a0 Z = true) (w2 : (Jvm.Cond.static y).before a0 Z = true) (w3 : (Jvm.Cond.initialized y.cls).before a0 Z = true) (w4 : (Jvm.Cond.code y by2 ml2 rt2).before a0 Z = true) (hy : y.cls ≠ "java/lang/invoke/MethodHandle" ∧ y.cls ≠ "java/lang/invoke/VarHandle")
    (M : own_C l Z y by2 ml2 rt2 [] rm as2 h n0 ws2 Q2 rm.cells rm.slots) (hf : rm.frames + 1 ≤ R.frames) (hl : W + (ml2 + 11) + rm.locals ≤ R.locals) (hc : C + rm.cells ≤ R.cells) (hs : S + rm.slots ≤ R.slots) (hL : L.size = maxL)
    {argsL : List Value} {ps : List FieldType} {r : Option FieldType} (hpd : parseMethodDescriptor y.desc = some ⟨ps, r⟩) (hlen : argsL.length = ps.length) (has : argsL.toArray = as2) {stk : List Value} (hstk : stk = argsL.reverse ++ st) (hW : (st.map fun v => v.category).sum ≤ W) (hd : decode bytes pc = .ok (.invokestatic i, 3)) (hp : pc + 3 = pc') (hws : ∀ x ∈ ws2, x ∈ ws ∨ h0.size ≤ x)
    (k : ∀ v T h', own_St p l e R s m args below meth c n0 h0 ws T h' (C + rm.cells) (S + rm.slots) → Keep h h' ws2 → Q2 v h' → own_H p e below En n0 h0 ws Q T (mkF m pc' L (v.toList ++ st))) : own_H p e below En n0 h0 ws Q T (mkF m pc L stk) := by
  subst hp hstk has
  obtain ⟨locs, Y, N, e, K⟩ := X
  obtain ⟨v, _, ⟨T1, L1, k1, n1⟩, -, Y1, ⟨Lc, hQ, l1, y1, z1⟩, st1⟩ := Jvm.LawKit.callS Y B.1 (y := y) B.2.2.2.2.1 (mvT B.2.1 w1) (mvT B.2.1 w2) (mvT B.2.1 w3) (mvT B.2.1 w4) hy (backOf (W := W) (Q := fun v h' L => Fr n0 L ∧ Keep h h' ws2 ∧ Q2 v h') M B.2.1 w4 w3 hf hl) (g := mkF m pc L (argsL.reverse ++ st)) rfl (hL.trans B.2.2.2.1.symm) (argsL := argsL) (rest := st) (lenOf hpd hlen) rfl (by show 2 * 0 + _ ≤ _; omega) (hb B.2.2.1 hd) (fun _ _ => ⟨rfl, e, hc, hs⟩)
  dsimp only [Pt.U, Pt.locs, Pt.cells, Pt.slots] at Y1 l1 y1 z1 st1 hQ
  subst l1 y1 z1
  obtain ⟨N2, K2, q2⟩ := hQ
  exact own_tr st1 (k v T1 _ ⟨_, Y1, Fr.app N N2, rfl, K.trans K2 hws⟩ K2 q2)
theorem own_callV (X : own_St p l e R s m args below meth c n0 h0 ws T h C S) (B : own_B Z p s m meth c bytes maxL own nm rt) {i : Nat} {y : MethodName} {by2 : ByteArray} {ml2 : Nat} {rt2 : Option FieldType} {rm : Room} {as2 : Array Value} {ws2 : List Addr} {Q2 : Option Value → Heap → Prop} {W : Nat} {K0 : String} {a : Addr}
    (w1 : (Jvm.Cond.methodLink own i y).before a0 Z = true) (w2 : (Jvm.Cond.declares y).before a0 Z = true) (w3 : (Jvm.Cond.selects K0 y y).before a0 Z = true) (w5 : (Jvm.Cond.instanceMethod y).before a0 Z = true) (w4 : (Jvm.Cond.code y by2 ml2 rt2).before a0 Z = true) (w6 : (Jvm.Cond.initialized y.cls).before a0 Z = true) (hy : y.cls ≠ "java/lang/invoke/MethodHandle" ∧ y.cls ≠ "java/lang/invoke/VarHandle") (E : Exa Z h a K0)
    (M : own_C l Z y by2 ml2 rt2 [] rm as2 h n0 ws2 Q2 rm.cells rm.slots) (hf : rm.frames + 1 ≤ R.frames) (hl : W + (ml2 + 11) + rm.locals ≤ R.locals) (hc : C + rm.cells ≤ R.cells) (hs : S + rm.slots ≤ R.slots) (hL : L.size = maxL)
    {argsL : List Value} {ps : List FieldType} {r : Option FieldType} (hpd : parseMethodDescriptor y.desc = some ⟨ps, r⟩) (hlen : argsL.length = ps.length) (has : (.ref a :: argsL).toArray = as2) {stk : List Value} (hstk : stk = argsL.reverse ++ .ref a :: st) (hW : (st.map fun v => v.category).sum ≤ W) (hd : decode bytes pc = .ok (.invokevirtual i, 3)) (hp : pc + 3 = pc') (hws : ∀ x ∈ ws2, x ∈ ws ∨ h0.size ≤ x)
    (k : ∀ v T h', own_St p l e R s m args below meth c n0 h0 ws T h' (C + rm.cells) (S + rm.slots) → Keep h h' ws2 → Q2 v h' → own_H p e below En n0 h0 ws Q T (mkF m pc' L (v.toList ++ st))) : own_H p e below En n0 h0 ws Q T (mkF m pc L stk) := by
  subst hp hstk has
  obtain ⟨locs, Y, N, e, K⟩ := X
  obtain ⟨cq, kq, qa, qb, qc⟩ := isOf (T := T) B.2.1 e E
  obtain ⟨v, _, ⟨T1, L1, k1, n1⟩, -, Y1, ⟨Lc, hQ, l1, y1, z1⟩, st1⟩ := Y.virtualBack B.1 (y := y) (z := y) B.2.2.2.2.1 (mvT B.2.1 w1) (mvT B.2.1 w2) (notFace_of_selects (args := #[]) (mvT B.2.1 w3)) (mvT B.2.1 w3) (mvT B.2.1 w5) hy (backOf (W := W) (Q := fun v h' L => Fr n0 L ∧ Keep h h' ws2 ∧ Q2 v h') M B.2.1 w4 w6 hf hl) qa qc (g := mkF m pc L (argsL.reverse ++ .ref a :: st)) rfl (hL.trans B.2.2.2.1.symm) (Steps.refl _) (argsL := argsL) (rest := st) (lenOf hpd hlen) rfl (by show 2 * 0 + _ ≤ _; omega) (hb B.2.2.1 hd) (fun _ _ => ⟨rfl, e, hc, hs⟩)
  dsimp only [Pt.U, Pt.locs, Pt.cells, Pt.slots] at Y1 l1 y1 z1 st1 hQ
  subst l1 y1 z1
  obtain ⟨N2, K2, q2⟩ := hQ
  exact own_tr (fun t q => st1.trans q) (k v T1 _ ⟨_, Y1, Fr.app N N2, rfl, K.trans K2 hws⟩ K2 q2)
theorem own_callI (X : own_St p l e R s m args below meth c n0 h0 ws T h C S) (B : own_B Z p s m meth c bytes maxL own nm rt) {i : Nat} {y : MethodName} {by2 : ByteArray} {ml2 : Nat} {rm : Room} {as2 : Array Value} {ws2 : List Addr} {Q2 : Option Value → Heap → Prop} {W : Nat} {a : Addr} (hy1 : y.name = "<init>")
    (w1 : (Jvm.Cond.methodLink own i y).before a0 Z = true) (w5 : (Jvm.Cond.instanceMethod y).before a0 Z = true) (w4 : (Jvm.Cond.code y by2 ml2 none).before a0 Z = true) (w6 : (Jvm.Cond.initialized y.cls).before a0 Z = true) (hy : y.cls ≠ "java/lang/invoke/MethodHandle" ∧ y.cls ≠ "java/lang/invoke/VarHandle")
    (M : own_C l Z y by2 ml2 none [] rm as2 h n0 ws2 Q2 rm.cells rm.slots) (hf : rm.frames + 1 ≤ R.frames) (hl : W + (ml2 + 11) + rm.locals ≤ R.locals) (hc : C + rm.cells ≤ R.cells) (hs : S + rm.slots ≤ R.slots) (hL : L.size = maxL)
    {argsL : List Value} {ps : List FieldType} {r : Option FieldType} (hpd : parseMethodDescriptor y.desc = some ⟨ps, r⟩) (hlen : argsL.length = ps.length) (has : (.ref a :: argsL).toArray = as2) {stk : List Value} (hstk : stk = argsL.reverse ++ .ref a :: st) (hW : (st.map fun v => v.category).sum ≤ W) (hd : decode bytes pc = .ok (.invokespecial i, 3)) (hp : pc + 3 = pc') (hws : ∀ x ∈ ws2, x ∈ ws ∨ h0.size ≤ x)
    (k : ∀ v T h', own_St p l e R s m args below meth c n0 h0 ws T h' (C + rm.cells) (S + rm.slots) → Keep h h' ws2 → Q2 v h' → own_H p e below En n0 h0 ws Q T (mkF m pc' L (v.toList ++ st))) : own_H p e below En n0 h0 ws Q T (mkF m pc L stk) := by
  subst hp hstk has
  obtain ⟨locs, Y, N, e, K⟩ := X
  obtain ⟨v, _, ⟨T1, L1, k1, n1⟩, -, Y1, ⟨Lc, hQ, l1, y1, z1⟩, st1⟩ := Y.specialBack B.1 (y := y) hy1 B.2.2.2.2.1 (mvT B.2.1 w1) (mvT B.2.1 w5) (mvT B.2.1 w4) hy (backOf (W := W) (Q := fun v h' L => Fr n0 L ∧ Keep h h' ws2 ∧ Q2 v h') M B.2.1 w4 w6 hf hl) (g := mkF m pc L (argsL.reverse ++ .ref a :: st)) rfl (hL.trans B.2.2.2.1.symm) (Steps.refl _) (a := a) (argsL := argsL) (rest := st) (lenOf hpd hlen) rfl (by show 2 * 0 + _ ≤ _; omega) (hb B.2.2.1 hd) (fun _ _ => ⟨rfl, e, hc, hs⟩)
  dsimp only [Pt.U, Pt.locs, Pt.cells, Pt.slots] at Y1 l1 y1 z1 st1 hQ
  subst l1 y1 z1
  obtain ⟨N2, K2, q2⟩ := hQ
  exact own_tr (fun t q => st1.trans q) (k v T1 _ ⟨_, Y1, Fr.app N N2, rfl, K.trans K2 hws⟩ K2 q2)
/-! arrays of ints and of longs, by a function of the place -/
theorem own_ix {j : Int32} {i n : Nat} (hj : j.toInt = (i : Int)) (hi : i < n) : ¬ (j < 0 ∨ n ≤ j.toNatClampNeg) ∧ j.toNatClampNeg = i := by
  have e : j.toNatClampNeg = i := by show j.toInt.toNat = i; omega
  refine ⟨?_, e⟩
  rw [e, Int32.lt_iff_toInt_lt]
  have : (0 : Int32).toInt = 0 := rfl
  omega
theorem own_ne {a b : Addr} (lt : a < h.size) (g : b = h.size) : a ≠ b := by
  rw [g]
  exact Nat.ne_of_lt lt
theorem own_up_same {α : Type} (f : Nat → α) (i : Nat) (x : α) : (fun k => if k = i then x else f k) i = x := by simp
def own_AJ (Z : State) (h : Heap) (a : Addr) (n : Nat) (f : Nat → Int64) : Prop := ∃ cl : Cell, Arr Z h a cl .long ∧ cl.slots.size = n ∧ n < 2147483648 ∧ ∀ i, i < n → cl.slots[i]? = some (.long (f i))
theorem own_AJ.lt {a : Addr} {n : Nat} {f : Nat → Int64} (A : own_AJ Z h a n f) : a < h.size := by
  obtain ⟨cl, A, -⟩ := A
  exact A.lt
theorem own_AJ.keep {a : Addr} {n : Nat} {f : Nat → Int64} (A : own_AJ Z h a n f) {w2 : List Addr} (K : Keep h h' w2) (q : a ∉ w2) : own_AJ Z h' a n f := by
  obtain ⟨cl, A, r⟩ := A
  exact ⟨cl, ⟨K.2.1 _ _ A.1 q, A.2⟩, r⟩
theorem own_AJ.congr {a : Addr} {n : Nat} {f g : Nat → Int64} (A : own_AJ Z h a n f) (q : ∀ i, i < n → f i = g i) : own_AJ Z h a n g := by
  obtain ⟨cl, A, r1, r2, r3⟩ := A
  exact ⟨cl, A, r1, r2, fun i hi => by rw [r3 i hi, q i hi]⟩
theorem own_newJ (X : own_St p l e R s m args below meth c n0 h0 ws T h C S) (B : own_B Z p s m meth c bytes maxL own nm rt) (w : (Jvm.Cond.arrayClass .long).before a0 Z = true) {j : Int32} {n cap : Nat} (hj : j.toInt = (n : Int)) (hcap : n ≤ cap) (hb8 : cap * 8 ≤ 536870912) (hc : C + 1 ≤ R.cells) (hs : S + cap ≤ R.slots) (hd : decode bytes pc = .ok (.newarray .long, 2)) (hp : pc + 2 = pc')
    (k : ∀ T h' a, a = h.size → own_St p l e R s m args below meth c n0 h0 ws T h' (C + 1) (S + cap) → Keep h h' [] → own_AJ Z h' a n (fun _ => 0) → h0.size ≤ a → own_H p e below En n0 h0 ws Q T (mkF m pc' L (.ref a :: st))) : own_H p e below En n0 h0 ws Q T (mkF m pc L (.int j :: st)) := by
  subst hp
  obtain ⟨locs, Y, N, e, K⟩ := X
  have hn : ¬ j < 0 := by rw [Int32.lt_iff_toInt_lt]; have : (0 : Int32).toInt = 0 := rfl; omega
  have hnn : j.toNatClampNeg = n := by show j.toInt.toNat = n; omega
  obtain ⟨T1, h1, cA, Y1, e1, E1, A1, st1⟩ := newP Y B.1 B.2.1 (aty := .long) w e (g := mkF m pc L (.int j :: st)) rfl (hb B.2.2.1 hd) rfl hn (cap := cap) (hnn ▸ hcap) hb8 hc hs
  refine own_tr st1 (k T1 h1 h.size rfl ⟨_, Y1, N, e1, K.ext E1⟩ ((Keep.refl h []).ext E1) ⟨_, A1, ?_, by omega, ?_⟩ K.1)
  · rw [sz_new, hnn]
  · intro i hi
    show (Array.replicate j.toNatClampNeg (defaultValue .long))[i]? = _
    rw [hnn, Array.getElem?_replicate, if_pos hi]
    rfl
theorem own_laload (X : own_St p l e R s m args below meth c n0 h0 ws T h C S) (B : own_B Z p s m meth c bytes maxL own nm rt) {a : Addr} {n i : Nat} {f : Nat → Int64} {j : Int32} (A : own_AJ Z h a n f) (hj : j.toInt = (i : Int)) (hi : i < n) (hd : decode bytes pc = .ok (.laload, 1)) (hp : pc + 1 = pc') (k : own_H p e below En n0 h0 ws Q T (mkF m pc' L (.long (f i) :: st))) : own_H p e below En n0 h0 ws Q T (mkF m pc L (.int j :: .ref a :: st)) := by
  subst hp
  obtain ⟨locs, Y, N, e, K⟩ := X
  obtain ⟨cl, A, r1, r2, r3⟩ := A
  obtain ⟨q1, q2⟩ := own_ix hj (r1.symm ▸ hi : i < cl.slots.size)
  exact own_tr (fun t q => Y.laload B.1 (j := j) (v := .long (f i)) (by rw [e]; exact A.1) (State.isArrayOf_alike B.2.1.alike A.2.1) A.2.2 q1 (by rw [q2]; exact r3 i hi) (g := mkF m pc L (.int j :: .ref a :: st)) rfl rfl (hb B.2.2.1 hd) t q) k
theorem own_lenJ (X : own_St p l e R s m args below meth c n0 h0 ws T h C S) (B : own_B Z p s m meth c bytes maxL own nm rt) {a : Addr} {n : Nat} {f : Nat → Int64} (A : own_AJ Z h a n f) (hd : decode bytes pc = .ok (.arraylength, 1)) (hp : pc + 1 = pc') (k : own_H p e below En n0 h0 ws Q T (mkF m pc' L (.int (Int32.ofNat n) :: st))) : own_H p e below En n0 h0 ws Q T (mkF m pc L (.ref a :: st)) := by
  subst hp
  obtain ⟨locs, Y, N, e, K⟩ := X
  obtain ⟨cl, A, r1, r2, r3⟩ := A
  subst r1
  exact own_tr (fun t q => Y.arraylength B.1 (by rw [e]; exact A.1) (State.isArrayOf_alike B.2.1.alike A.2.1) (g := mkF m pc L (.ref a :: st)) rfl rfl (hb B.2.2.1 hd) t q) k
theorem own_lastore (X : own_St p l e R s m args below meth c n0 h0 ws T h C S) (B : own_B Z p s m meth c bytes maxL own nm rt) {a : Addr} {n i : Nat} {f : Nat → Int64} {j : Int32} {x : Int64} (A : own_AJ Z h a n f) (hj : j.toInt = (i : Int)) (hi : i < n) (hw1 : n0 ≤ a) (hw2 : a ∈ ws ∨ h0.size ≤ a) (hd : decode bytes pc = .ok (.lastore, 1)) (hp : pc + 1 = pc')
    (k : ∀ T h', own_St p l e R s m args below meth c n0 h0 ws T h' C S → Keep h h' [a] → own_AJ Z h' a n (fun k => if k = i then x else f k) → own_H p e below En n0 h0 ws Q T (mkF m pc' L st)) : own_H p e below En n0 h0 ws Q T (mkF m pc L (.long x :: .int j :: .ref a :: st)) := by
  subst hp
  obtain ⟨locs, Y, N, e, K⟩ := X
  obtain ⟨cl, A, r1, r2, r3⟩ := A
  obtain ⟨q1, q2⟩ := own_ix hj (r1.symm ▸ hi : i < cl.slots.size)
  obtain ⟨T1, h1, Y1, e1, W1, st1⟩ := stJ Y B.1 B.2.1 e A (j := j) (x := x) q1 (g := mkF m pc L (.long x :: .int j :: .ref a :: st)) rfl rfl (hb B.2.2.1 hd)
  refine own_tr st1 (k T1 h1 ⟨_, Y1, Fr.snoc Y1 N hw1, e1, K.wr W1 hw2⟩ (Keep.of_wr W1) ⟨_, A.same W1, ?_, r2, ?_⟩)
  · rw [sz_set, r1]
  · intro u hu
    show (cl.slots.setIfInBounds j.toNatClampNeg (.long x))[u]? = some (.long (if u = i then x else f u))
    rw [q2, Array.getElem?_setIfInBounds]
    by_cases hui : u = i
    · subst hui; rw [if_pos rfl, if_pos (r1.symm ▸ hi), if_pos rfl]
    · rw [if_neg (fun q => hui q.symm), if_neg hui]; exact r3 u hu
def own_AI (Z : State) (h : Heap) (a : Addr) (n : Nat) (f : Nat → Int32) : Prop := ∃ cl : Cell, Arr Z h a cl .int ∧ cl.slots.size = n ∧ n < 2147483648 ∧ ∀ i, i < n → cl.slots[i]? = some (.int (f i))
theorem own_AI.lt {a : Addr} {n : Nat} {f : Nat → Int32} (A : own_AI Z h a n f) : a < h.size := by
  obtain ⟨cl, A, -⟩ := A
  exact A.lt
theorem own_AI.keep {a : Addr} {n : Nat} {f : Nat → Int32} (A : own_AI Z h a n f) {w2 : List Addr} (K : Keep h h' w2) (q : a ∉ w2) : own_AI Z h' a n f := by
  obtain ⟨cl, A, r⟩ := A
  exact ⟨cl, ⟨K.2.1 _ _ A.1 q, A.2⟩, r⟩
theorem own_AI.congr {a : Addr} {n : Nat} {f g : Nat → Int32} (A : own_AI Z h a n f) (q : ∀ i, i < n → f i = g i) : own_AI Z h a n g := by
  obtain ⟨cl, A, r1, r2, r3⟩ := A
  exact ⟨cl, A, r1, r2, fun i hi => by rw [r3 i hi, q i hi]⟩
theorem own_newI (X : own_St p l e R s m args below meth c n0 h0 ws T h C S) (B : own_B Z p s m meth c bytes maxL own nm rt) (w : (Jvm.Cond.arrayClass .int).before a0 Z = true) {j : Int32} {n cap : Nat} (hj : j.toInt = (n : Int)) (hcap : n ≤ cap) (hb8 : cap * 8 ≤ 536870912) (hc : C + 1 ≤ R.cells) (hs : S + cap ≤ R.slots) (hd : decode bytes pc = .ok (.newarray .int, 2)) (hp : pc + 2 = pc')
    (k : ∀ T h' a, a = h.size → own_St p l e R s m args below meth c n0 h0 ws T h' (C + 1) (S + cap) → Keep h h' [] → own_AI Z h' a n (fun _ => 0) → h0.size ≤ a → own_H p e below En n0 h0 ws Q T (mkF m pc' L (.ref a :: st))) : own_H p e below En n0 h0 ws Q T (mkF m pc L (.int j :: st)) := by
  subst hp
  obtain ⟨locs, Y, N, e, K⟩ := X
  have hn : ¬ j < 0 := by rw [Int32.lt_iff_toInt_lt]; have : (0 : Int32).toInt = 0 := rfl; omega
  have hnn : j.toNatClampNeg = n := by show j.toInt.toNat = n; omega
  obtain ⟨T1, h1, cA, Y1, e1, E1, A1, st1⟩ := newP Y B.1 B.2.1 (aty := .int) w e (g := mkF m pc L (.int j :: st)) rfl (hb B.2.2.1 hd) rfl hn (cap := cap) (hnn ▸ hcap) hb8 hc hs
  refine own_tr st1 (k T1 h1 h.size rfl ⟨_, Y1, N, e1, K.ext E1⟩ ((Keep.refl h []).ext E1) ⟨_, A1, ?_, by omega, ?_⟩ K.1)
  · rw [sz_new, hnn]
  · intro i hi
    show (Array.replicate j.toNatClampNeg (defaultValue .int))[i]? = _
    rw [hnn, Array.getElem?_replicate, if_pos hi]
    rfl
theorem own_iaload (X : own_St p l e R s m args below meth c n0 h0 ws T h C S) (B : own_B Z p s m meth c bytes maxL own nm rt) {a : Addr} {n i : Nat} {f : Nat → Int32} {j : Int32} (A : own_AI Z h a n f) (hj : j.toInt = (i : Int)) (hi : i < n) (hd : decode bytes pc = .ok (.iaload, 1)) (hp : pc + 1 = pc') (k : own_H p e below En n0 h0 ws Q T (mkF m pc' L (.int (f i) :: st))) : own_H p e below En n0 h0 ws Q T (mkF m pc L (.int j :: .ref a :: st)) := by
  subst hp
  obtain ⟨locs, Y, N, e, K⟩ := X
  obtain ⟨cl, A, r1, r2, r3⟩ := A
  obtain ⟨q1, q2⟩ := own_ix hj (r1.symm ▸ hi : i < cl.slots.size)
  exact own_tr (fun t q => Y.iaload B.1 (j := j) (v := .int (f i)) (by rw [e]; exact A.1) (State.isArrayOf_alike B.2.1.alike A.2.1) A.2.2 q1 (by rw [q2]; exact r3 i hi) (g := mkF m pc L (.int j :: .ref a :: st)) rfl rfl (hb B.2.2.1 hd) t q) k
theorem own_lenI (X : own_St p l e R s m args below meth c n0 h0 ws T h C S) (B : own_B Z p s m meth c bytes maxL own nm rt) {a : Addr} {n : Nat} {f : Nat → Int32} (A : own_AI Z h a n f) (hd : decode bytes pc = .ok (.arraylength, 1)) (hp : pc + 1 = pc') (k : own_H p e below En n0 h0 ws Q T (mkF m pc' L (.int (Int32.ofNat n) :: st))) : own_H p e below En n0 h0 ws Q T (mkF m pc L (.ref a :: st)) := by
  subst hp
  obtain ⟨locs, Y, N, e, K⟩ := X
  obtain ⟨cl, A, r1, r2, r3⟩ := A
  subst r1
  exact own_tr (fun t q => Y.arraylength B.1 (by rw [e]; exact A.1) (State.isArrayOf_alike B.2.1.alike A.2.1) (g := mkF m pc L (.ref a :: st)) rfl rfl (hb B.2.2.1 hd) t q) k
theorem own_iastore (X : own_St p l e R s m args below meth c n0 h0 ws T h C S) (B : own_B Z p s m meth c bytes maxL own nm rt) {a : Addr} {n i : Nat} {f : Nat → Int32} {j : Int32} {x : Int32} (A : own_AI Z h a n f) (hj : j.toInt = (i : Int)) (hi : i < n) (hw1 : n0 ≤ a) (hw2 : a ∈ ws ∨ h0.size ≤ a) (hd : decode bytes pc = .ok (.iastore, 1)) (hp : pc + 1 = pc')
    (k : ∀ T h', own_St p l e R s m args below meth c n0 h0 ws T h' C S → Keep h h' [a] → own_AI Z h' a n (fun k => if k = i then x else f k) → own_H p e below En n0 h0 ws Q T (mkF m pc' L st)) : own_H p e below En n0 h0 ws Q T (mkF m pc L (.int x :: .int j :: .ref a :: st)) := by
  subst hp
  obtain ⟨locs, Y, N, e, K⟩ := X
  obtain ⟨cl, A, r1, r2, r3⟩ := A
  obtain ⟨q1, q2⟩ := own_ix hj (r1.symm ▸ hi : i < cl.slots.size)
  obtain ⟨T1, h1, Y1, e1, W1, st1⟩ := stI Y B.1 B.2.1 e A (j := j) (x := x) q1 (g := mkF m pc L (.int x :: .int j :: .ref a :: st)) rfl rfl (hb B.2.2.1 hd)
  refine own_tr st1 (k T1 h1 ⟨_, Y1, Fr.snoc Y1 N hw1, e1, K.wr W1 hw2⟩ (Keep.of_wr W1) ⟨_, A.same W1, ?_, r2, ?_⟩)
  · rw [sz_set, r1]
  · intro u hu
    show (cl.slots.setIfInBounds j.toNatClampNeg (.int x))[u]? = some (.int (if u = i then x else f u))
    rw [q2, Array.getElem?_setIfInBounds]
    by_cases hui : u = i
    · subst hui; rw [if_pos rfl, if_pos (r1.symm ▸ hi), if_pos rfl]
    · rw [if_neg (fun q => hui q.symm), if_neg hui]; exact r3 u hu
end OwnKit
section OwnKit2
variable {p : Program} {l : Launch} {e : Env} {R : Room} {s : State} {m : MethodId} {args : Array Value} {below : List Frame} {meth : Method} {c : Code} {n0 : Nat} {h0 h h' : Heap} {ws : List Addr} {T T' : State} {C S C' S' : Nat} {Q : Option Value → Heap → Prop} {En : Outcome → State → List Loc → Prop} {Z : State} {a0 : Array Value} {bytes : ByteArray} {maxL : Nat} {own nm : String} {rt : Option FieldType} {L L' : Array Slot} {st : List Value} {pc pc' : Nat}
theorem own_newB (X : own_St p l e R s m args below meth c n0 h0 ws T h C S) (B : own_B Z p s m meth c bytes maxL own nm rt) (w : (Jvm.Cond.arrayClass .byte).before a0 Z = true) {j : Int32} {n cap : Nat} (hj : j.toInt = (n : Int)) (hcap : n ≤ cap) (hb8 : cap * 8 ≤ 536870912) (hc : C + 1 ≤ R.cells) (hs : S + cap ≤ R.slots) (hd : decode bytes pc = .ok (.newarray .byte, 2)) (hp : pc + 2 = pc')
    (k : ∀ T h' a, a = h.size → own_St p l e R s m args below meth c n0 h0 ws T h' (C + 1) (S + cap) → Keep h h' [] → h0.size ≤ a → own_H p e below En n0 h0 ws Q T (mkF m pc' L (.ref a :: st))) : own_H p e below En n0 h0 ws Q T (mkF m pc L (.int j :: st)) := by
  subst hp
  obtain ⟨locs, Y, N, e, K⟩ := X
  have hn : ¬ j < 0 := by rw [Int32.lt_iff_toInt_lt]; have : (0 : Int32).toInt = 0 := rfl; omega
  have hnn : j.toNatClampNeg = n := by show j.toInt.toNat = n; omega
  obtain ⟨T1, h1, cA, Y1, e1, E1, A1, st1⟩ := newP Y B.1 B.2.1 (aty := .byte) w e (g := mkF m pc L (.int j :: st)) rfl (hb B.2.2.1 hd) rfl hn (cap := cap) (hnn ▸ hcap) hb8 hc hs
  exact own_tr st1 (k T1 h1 h.size rfl ⟨_, Y1, N, e1, K.ext E1⟩ ((Keep.refl h []).ext E1) K.1)
theorem own_getD_range (f : Nat → Int64) (n i : Nat) (hi : i < n) : ((List.range n).map fun i => Value.long (f i)).getD i (.long 0) = .long (f i) := by
  rw [List.getD_eq_getElem?_getD, List.getElem?_map, List.getElem?_range hi]; rfl
theorem own_AJ.arv {a : Addr} {n : Nat} {f : Nat → Int64} (A : own_AJ Z h a n f) : ∃ k, Arv Z h a k .long (Int32.ofNat n) ((List.range n).map fun i => Value.long (f i)) (.long 0) := by
  obtain ⟨cl, A, r1, r2, r3⟩ := A
  have e1 : (Int32.ofNat n).toInt = (n : Int) := len_toInt (by omega)
  have e2 : (Int32.ofNat n).toNatClampNeg = n := by show (Int32.ofNat n).toInt.toNat = n; omega
  refine ⟨cl.cls, cl, A, rfl, r1.trans e2.symm, ?_, ?_, ?_⟩
  · rw [Int32.lt_iff_toInt_lt]; have : (0 : Int32).toInt = 0 := rfl; omega
  · intro i hi
    rw [r1] at hi
    rw [r3 i hi, own_getD_range f n i hi]
  · intro i hi
    rw [r1] at hi
    rw [own_getD_range f n i hi]; rfl
theorem own_AJ.of_arv {a : Addr} {n : Nat} {f : Nat → Int64} {k : ClassId} {vs : List Value} {d : Value} (hn : n < 2147483648) (A : Arv Z h a k .long (Int32.ofNat n) vs d) (q : ∀ i, i < n → vs.getD i d = .long (f i)) : own_AJ Z h a n f := by
  obtain ⟨cl, A, -, S, -, H, -⟩ := A
  have e1 : (Int32.ofNat n).toInt = (n : Int) := len_toInt (by omega)
  have e2 : (Int32.ofNat n).toNatClampNeg = n := by show (Int32.ofNat n).toInt.toNat = n; omega
  rw [e2] at S
  exact ⟨cl, A, S, hn, fun i hi => by rw [H i (by omega), q i hi]⟩
theorem own_acopy (X : own_St p l e R s m args below meth c n0 h0 ws T h C S) (B : own_B Z p s m meth c bytes maxL own nm rt) {i : Nat} (w1 : (Jvm.Cond.methodLink own i Jvm.Stand.acN).before a0 Z = true) (w2 : (Jvm.Cond.native Jvm.Stand.acN).before a0 Z = true) (w3 : (Jvm.Cond.static Jvm.Stand.acN).before a0 Z = true) (w4 : (Jvm.Cond.initialized "java/lang/System").before a0 Z = true)
    {a b : Addr} {n n2 cnt : Nat} {f g : Nat → Int64} (A : own_AJ Z h a n f) (D : own_AJ Z h b n2 g) (hc1 : cnt ≤ n) (hc2 : cnt ≤ n2) {nn : Int32} (hnn : nn.toInt = (cnt : Int)) (hw1 : n0 ≤ b) (hw2 : b ∈ ws ∨ h0.size ≤ b) (hL : L.size = maxL) (hf : 1 ≤ R.frames) {W : Nat} (hW : (st.map fun v => v.category).sum ≤ W) (hlo : W + 18 ≤ R.locals) (hd : decode bytes pc = .ok (.invokestatic i, 3)) (hp : pc + 3 = pc')
    (k : ∀ T h', own_St p l e R s m args below meth c n0 h0 ws T h' C S → Keep h h' [b] → own_AJ Z h' b n2 (fun k => if k < cnt then f k else g k) → own_H p e below En n0 h0 ws Q T (mkF m pc' L st)) : own_H p e below En n0 h0 ws Q T (mkF m pc L (.int nn :: .int (0 : Int32) :: .ref b :: .int (0 : Int32) :: .ref a :: st)) := by
  subst hp
  obtain ⟨locs, Y, N, e, K⟩ := X
  obtain ⟨k1, A1⟩ := A.arv
  obtain ⟨k2, D1⟩ := D.arv
  have hn1 : n < 2147483648 := A.choose_spec.2.2.1
  have hn2 : n2 < 2147483648 := D.choose_spec.2.2.1
  have en : nn.toNatClampNeg = cnt := by show nn.toInt.toNat = cnt; omega
  have ez : (0 : Int32).toNatClampNeg = 0 := rfl
  have e1 : (Int32.ofNat n).toInt = (n : Int) := len_toInt (by omega)
  have e2 : (Int32.ofNat n).toNatClampNeg = n := by show (Int32.ofNat n).toInt.toNat = n; omega
  have e3 : (Int32.ofNat n2).toInt = (n2 : Int) := len_toInt (by omega)
  have e4 : (Int32.ofNat n2).toNatClampNeg = n2 := by show (Int32.ofNat n2).toInt.toNat = n2; omega
  obtain ⟨T1, h1, L1, Y1, q1, N1, K1, V1, st1⟩ := cpA Y B.1 B.2.1 B.2.2.2.2.1 w1 w2 w3 w4 e A1 D1 (us := (List.range cnt).map fun i => Value.long (f i)) (Or.inl ⟨rfl, rfl⟩) (sp := 0) (dp := 0) (nn := nn) (by decide) (by decide) (by rw [Int32.lt_iff_toInt_lt]; have : (0 : Int32).toInt = 0 := rfl; omega)
    (by rw [ez, en, e2]; omega) (by rw [ez, en, e4]; omega) (by
      rw [en, ez]
      apply List.map_congr_left
      intro i hi
      rw [List.mem_range] at hi
      rw [Nat.zero_add, own_getD_range f n i (by omega)]) (by rw [ez, en, List.length_map, List.length_range]; omega) N hw1 (g := mkF m pc L (.int nn :: .int (0 : Int32) :: .ref b :: .int (0 : Int32) :: .ref a :: st)) rfl (hL.trans B.2.2.2.1.symm) rfl (hb B.2.2.1 hd) hf (W := W) (by show 2 * 0 + _ ≤ _; omega) hlo
  refine own_tr st1 (k T1 h1 ⟨L1, Y1, N1, q1, K.trans K1 (allS hw2 all0)⟩ K1 (own_AJ.of_arv hn2 V1 ?_))
  intro i hi
  rw [ez, en, Nat.zero_add, List.take_zero, List.nil_append, List.getD_eq_getElem?_getD]
  by_cases hic : i < cnt
  · rw [List.getElem?_append_left (by rw [List.length_map, List.length_range]; exact hic), List.getElem?_map, List.getElem?_range hic, if_pos hic]; rfl
  · rw [List.getElem?_append_right (by rw [List.length_map, List.length_range]; omega), List.length_map, List.length_range, List.getElem?_drop, show cnt + (i - cnt) = i by omega, List.getElem?_map, List.getElem?_range hi, if_neg hic]; rfl
end OwnKit2
section OwnKit3
variable {p : Program} {l : Launch} {e : Env} {R : Room} {s : State} {m : MethodId} {args : Array Value} {below : List Frame} {meth : Method} {c : Code} {n0 : Nat} {h0 h h' : Heap} {ws : List Addr} {T T' : State} {C S C' S' : Nat} {Q : Option Value → Heap → Prop} {En : Outcome → State → List Loc → Prop} {Z : State} {a0 : Array Value} {bytes : ByteArray} {maxL : Nat} {own nm : String} {rt : Option FieldType} {L L' : Array Slot} {st : List Value} {pc pc' : Nat}
theorem own_sel {U : State} {b0 b1 : Array Value} {y z : MethodName} (hc : y.cls = z.cls) (hy : y.cls ≠ "java/lang/invoke/MethodHandle" ∧ y.cls ≠ "java/lang/invoke/VarHandle") (w : (Jvm.Cond.selects z.cls z z).before b0 U = true) (wi : (Jvm.Cond.instanceMethod y).before b0 U = true) (wp : (Jvm.Cond.privateMethod y).before b0 U = true) : (Jvm.Cond.selects y.cls y y).before b1 U = true := by
  obtain ⟨my, methY, hn, hm, -, -⟩ := Cond.instanceMethod_spec wi
  obtain ⟨c1, r1, mz, -, -, q3, -, kz, q5, q6⟩ := Cond.selects_spec w
  have hfy := findClass_of_methodNamed hn
  have hfz := findClass_of_methodNamed q3
  rw [hc, hfz] at hfy
  have e1 : mz.cls = my.cls := Option.some.inj hfy
  have hfy' := findClass_of_methodNamed hn
  have hmf := State.methodFound?_of_named hn hy
  have hsel : selectMethod {} U.vm my.cls my = .method my := selectMethod_private hm (Cond.privateMethod_at wp my methY hn hm)
  rw [e1] at q5
  simp [Cond.before, Cond.holds, Cond.value, hfy', hmf, hn, hsel, q5, q6]
theorem own_callP (X : own_St p l e R s m args below meth c n0 h0 ws T h C S) (B : own_B Z p s m meth c bytes maxL own nm rt) {i : Nat} {y z : MethodName} {by2 : ByteArray} {ml2 : Nat} {rt2 : Option FieldType} {rm : Room} {as2 : Array Value} {ws2 : List Addr} {Q2 : Option Value → Heap → Prop} {W : Nat} {K0 : String} {a : Addr} (hyz : y.cls = z.cls)
    (w1 : (Jvm.Cond.methodLink own i y).before a0 Z = true) (w3 : (Jvm.Cond.selects z.cls z z).before a0 Z = true) (w5 : (Jvm.Cond.instanceMethod y).before a0 Z = true) (w7 : (Jvm.Cond.privateMethod y).before a0 Z = true) (w4 : (Jvm.Cond.code y by2 ml2 rt2).before a0 Z = true) (w6 : (Jvm.Cond.initialized y.cls).before a0 Z = true) (hy : y.cls ≠ "java/lang/invoke/MethodHandle" ∧ y.cls ≠ "java/lang/invoke/VarHandle") (E : Exa Z h a K0)
    (M : own_C l Z y by2 ml2 rt2 [] rm as2 h n0 ws2 Q2 rm.cells rm.slots) (hf : rm.frames + 1 ≤ R.frames) (hl : W + (ml2 + 11) + rm.locals ≤ R.locals) (hc : C + rm.cells ≤ R.cells) (hs : S + rm.slots ≤ R.slots) (hL : L.size = maxL)
    {argsL : List Value} {ps : List FieldType} {r : Option FieldType} (hpd : parseMethodDescriptor y.desc = some ⟨ps, r⟩) (hlen : argsL.length = ps.length) (has : (.ref a :: argsL).toArray = as2) {stk : List Value} (hstk : stk = argsL.reverse ++ .ref a :: st) (hW : (st.map fun v => v.category).sum ≤ W) (hd : decode bytes pc = .ok (.invokevirtual i, 3)) (hp : pc + 3 = pc') (hws : ∀ x ∈ ws2, x ∈ ws ∨ h0.size ≤ x)
    (k : ∀ v T h', own_St p l e R s m args below meth c n0 h0 ws T h' (C + rm.cells) (S + rm.slots) → Keep h h' ws2 → Q2 v h' → own_H p e below En n0 h0 ws Q T (mkF m pc' L (v.toList ++ st))) : own_H p e below En n0 h0 ws Q T (mkF m pc L stk) := by
  subst hp hstk has
  obtain ⟨locs, Y, N, e, K⟩ := X
  obtain ⟨cq, q1, q2⟩ := E.cell
  have hwp : (Jvm.Cond.privateMethod y).before args s = true := mvP B.2.1 w7
  have hwi : (Jvm.Cond.instanceMethod y).before args s = true := mvT B.2.1 w5
  obtain ⟨v, _, ⟨T1, L1, k1, n1⟩, -, Y1, ⟨Lc, hQ, l1, y1, z1⟩, st1⟩ := Y.privateBack B.1 (y := y) B.2.2.2.2.1 (mvT B.2.1 w1) hwi (own_sel hyz hy (mvT (args := args) B.2.1 w3) hwi hwp) (Cond.privateMethod_at hwp) (mvT B.2.1 w4) hy (backOf (W := W) (Q := fun v h' L => Fr n0 L ∧ Keep h h' ws2 ∧ Q2 v h') M B.2.1 w4 w6 hf hl) (g := mkF m pc L (argsL.reverse ++ .ref a :: st)) rfl (hL.trans B.2.2.2.1.symm) (Steps.refl _) (a := a) (by rw [e]; exact q1) q2 (argsL := argsL) (rest := st) (lenOf hpd hlen) rfl (by show 2 * 0 + _ ≤ _; omega) (hb B.2.2.1 hd) (fun _ _ => ⟨rfl, e, hc, hs⟩)
  dsimp only [Pt.U, Pt.locs, Pt.cells, Pt.slots] at Y1 l1 y1 z1 st1 hQ
  subst l1 y1 z1
  obtain ⟨N2, K2, q2⟩ := hQ
  exact own_tr (fun t q => st1.trans q) (k v T1 _ ⟨_, Y1, Fr.app N N2, rfl, K.trans K2 hws⟩ K2 q2)
def own_W (s : State) (C S : Nat) (o : Outcome) (t : State) (L : List Loc) : Prop := ReturnedEndW s o t L C S
theorem own_enterW {y : MethodName} {cws : List Jvm.Cond} {rm : Room} {as : Array Value} {L0 : Array Slot} (hpl : plainFor y = true) (hef : ∀ m, entryFrame m as maxL = mkF m 0 L0 [])
    (body : ∀ p e s m below meth c T, own_B Z p s m meth c bytes maxL y.cls y.name rt → own_St p l e rm s m as below meth c n0 h0 ws T h0 0 0 → own_H p e below (own_W s C S) n0 h0 ws Q T (mkF m 0 L0 [])) :
    MetFree l y (head1 (Jvm.Cond.code y bytes maxL rt :: cws) rm) (fun a U => a = as ∧ Z.Warmed39 U.vm ∧ U.heap = h0) (fun _ _ _ _ _ => True) (fun _ U o U' => ∃ v L, o = .returned v ∧ (Fr n0 L ∧ Keep h0 U'.heap ws ∧ Q v U'.heap) ∧ ReturnedEndW U o U' L C S) := by
  refine MetFree.of_bodySF hpl hisR ?_
  intro p e s m args below meth c s₁ Bd hml0 hP hK
  obtain ⟨rfl, hZ, hh⟩ := hP
  have X0 : Stand p l e rm s m _ below meth c s₁ [] 0 0 := Stand.of_body Bd
  have e0 : s₁.heap = h0 := by rw [← hh, Bd.state]; rfl
  obtain ⟨s₂, o, h1, h2, h3, h4⟩ := body p e s m below meth c s₁ ⟨Bd.exec, hZ, Bd.bytes, hml0, findClass_of_methodNamed Bd.named, (name_of_methodNamed Bd.named Bd.method).1, Bd.returns, Bd.notSynchronized⟩ ⟨[], X0, Fr.nil n0, e0, Keep.refl _ _⟩
  exact ⟨s₂, o, castTop (hef m) h1, h2, h3, h4⟩
/-- the goal behind the load: over the start with the tables at hand -/
theorem own_toW {s1 : State} {k1 : Nat} {f : JFrame} (hconv : ∀ (o : Outcome) (t : State) (L : List Loc) (C S : Nat), FrameEnd s1 o t L C S → k1 ≤ t.heap.size → ReturnedEndW s o t L C S) (k : own_H p e below (own_F s1 C S) n0 h0 ws (fun v h => Q v h ∧ k1 ≤ h.size) T f) : own_H p e below (own_W s C S) n0 h0 ws Q T f := by
  obtain ⟨s₂, o, h1, h2, h3, v, L, q, ⟨q1, q2, q3, q4⟩, q5⟩ := k
  exact ⟨s₂, o, h1, h2, h3, v, L, q, ⟨q1, q2, q3⟩, hconv _ _ _ _ _ q5 q4⟩
theorem own_ldcS (X : own_St p l e R s m args below meth c n0 h0 ws T h C S) (B : own_B Z p s m meth c bytes maxL own nm rt) {i n : Nat} {text : String} (w : (Jvm.Cond.stringLink own i text).before a0 Z = true) (wS : ∀ a ∈ Bundle.stringAtoms, a.before a0 Z = true) (hn : 4 * text.toList.length ≤ n) (hbig : n ≤ 536870912) (hc : C + 2 ≤ R.cells) (hs : S + (n + 4) ≤ R.slots) (hd : decode bytes pc = .ok (.ldc i, 2)) (hp : pc + 2 = pc')
    (k : ∀ s1 T h' a k1, (∀ (o : Outcome) (t : State) (L : List Loc) (C S : Nat), FrameEnd s1 o t L C S → k1 ≤ t.heap.size → ReturnedEndW s o t L C S) → k1 ≤ h'.size → own_B Z p s1 m meth c bytes maxL own nm rt → own_St p l e R s1 m args below meth c n0 h0 ws T h' (C + 2) (S + (n + 4)) → Keep h h' [] → own_H p e below En n0 h0 ws Q T (mkF m pc' L (.ref a :: st))) : own_H p e below En n0 h0 ws Q T (mkF m pc L st) := by
  subst hp
  obtain ⟨locs, Y, N, eT, K⟩ := X
  have Y0 : Stand p l e R (s.setVm s.vm) m args below meth c T locs C S := Y
  obtain ⟨a, T1, h1, k1, Y1, e1, E1, S1, hk1, hZ1, ho1, st1⟩ := ldcS Y0 B.1 B.2.1 B.2.2.2.2.1 w wS eT (k0 := 0) ((State.WarmedH.refl s).since 0) (Nat.zero_le _) (g := mkF m pc L st) rfl (hb B.2.2.1 hd) hn hbig hc hs
  refine own_tr st1 (k (s.setVm T1.vm) T1 h1 a k1 ?_ hk1 ⟨B.1, hZ1, B.2.2.1, B.2.2.2.1, ho1, B.2.2.2.2.2.1, B.2.2.2.2.2.2.1, B.2.2.2.2.2.2.2⟩ ⟨_, Y1, N, e1, K.ext E1⟩ ((Keep.refl h []).ext E1))
  intro o t L C S q hk
  obtain ⟨x, y, z⟩ := S1.ended (U := t) q.2.1 hk q.2.2
  exact ⟨q.1, x, y, z⟩
end OwnKit3
theorem own_sz {p : Program} {l : Launch} {e : Env} {R : Room} {s : State} {m : MethodId} {args : Array Value} {below : List Frame} {meth : Method} {c : Code} {n0 : Nat} {h0 h : Heap} {ws : List Addr} {T : State} {C S : Nat} (X : own_St p l e R s m args below meth c n0 h0 ws T h C S) (Z0 : n0 ≤ h0.size) : n0 ≤ h.size := by
  obtain ⟨_, _, _, _, K⟩ := X
  exact Nat.le_trans Z0 K.1
theorem own_nat {n : Nat} (h : n < 2147483648) : (Int32.ofNat n).toInt = (n : Int) := len_toInt (by omega)
theorem own_ltN {i n : Nat} (hi : i < 2147483648) (hn : n < 2147483648) : (Int32.ofNat i < Int32.ofNat n) ↔ i < n := by
  rw [Int32.lt_iff_toInt_lt, own_nat hi, own_nat hn]; omega
theorem own_eqN {i n : Nat} (hi : i < 2147483648) (hn : n < 2147483648) : (Int32.ofNat i = Int32.ofNat n) ↔ i = n := by
  rw [← Int32.toInt_inj, own_nat hi, own_nat hn]; omega
theorem own_succ (i : Nat) : Int32.ofNat i + (1 : Int32) = Int32.ofNat (i + 1) := by
  rw [← Int32.toBitVec_inj]; simp [Int32.ofNat_add]
theorem own_and3 (x : Int32) : ∃ n : Nat, n < 4 ∧ x &&& (3 : Int32) = Int32.ofNat n := by
  have h := c_mask x 3 2 (by decide) (by decide)
  have hp : ((2 ^ 2 : Nat) : Int) = 4 := rfl
  rw [hp] at h
  refine ⟨(x.toInt % 4).toNat, by omega, ?_⟩
  rw [← Int32.toInt_inj, own_nat (by omega), h]; omega
theorem own_add (a b : Nat) : Int32.ofNat a + Int32.ofNat b = Int32.ofNat (a + b) := by
  rw [← Int32.toBitVec_inj]; simp [Int32.ofNat_add]
theorem own_mul (a b : Nat) : Int32.ofNat a * Int32.ofNat b = Int32.ofNat (a * b) := by
  rw [← Int32.toBitVec_inj]; simp [Int32.ofNat_mul]
theorem own_sub {a b : Nat} (ha : a < 2147483648) (h : b ≤ a) : Int32.ofNat a - Int32.ofNat b = Int32.ofNat (a - b) := by
  have h1 := c_isub (Int32.ofNat a) (Int32.ofNat b)
  have h2 := rng32 (Int32.ofNat a - Int32.ofNat b)
  rw [own_nat ha, own_nat (by omega : b < 2147483648)] at h1
  rw [← Int32.toInt_inj, own_nat (by omega : a - b < 2147483648)]
  omega
theorem own_sub_neg {a b : Nat} (hb : b < 2147483648) (h : a < b) : Int32.ofNat a - Int32.ofNat b < 0 := by
  have h1 := c_isub (Int32.ofNat a) (Int32.ofNat b)
  have h2 := rng32 (Int32.ofNat a - Int32.ofNat b)
  rw [own_nat (by omega : a < 2147483648), own_nat hb] at h1
  rw [Int32.lt_iff_toInt_lt]
  have h0 : (0 : Int32).toInt = 0 := rfl
  omega
theorem own_nn {a : Nat} (ha : a < 2147483648) : ¬ Int32.ofNat a < 0 := by
  rw [Int32.lt_iff_toInt_lt, own_nat ha]
  have h0 : (0 : Int32).toInt = 0 := rfl
  omega
theorem own_pred (k : Nat) : Int32.ofNat (k + 1) - (1 : Int32) = Int32.ofNat k := by
  rw [← own_succ, ← Int32.toBitVec_inj]; simp
theorem own_dec (k : Nat) : Int32.ofNat k + (-1 : Int32) = Int32.ofNat k - (1 : Int32) := by
  rw [Int32.sub_eq_add_neg]
theorem own_mask (x m : Int32) (k : Nat) (hk : k ≤ 31) (hm : m.toBitVec.toNat = 2 ^ k - 1) : ∃ n : Nat, n < 2 ^ k ∧ x &&& m = Int32.ofNat n := by
  have h := c_mask x m k hk hm
  have h31 : 2 ^ k ≤ 2147483648 := Nat.le_trans (Nat.pow_le_pow_right (by decide) hk) (by decide)
  have hp : 0 < 2 ^ k := Nat.pow_pos (by decide)
  have hpos : (0 : Int) ≤ x.toInt % ((2 ^ k : Nat) : Int) := Int.emod_nonneg _ (by omega)
  have hlt : x.toInt % ((2 ^ k : Nat) : Int) < ((2 ^ k : Nat) : Int) := Int.emod_lt_of_pos _ (by omega)
  refine ⟨(x.toInt % ((2 ^ k : Nat) : Int)).toNat, by omega, ?_⟩
  rw [← Int32.toInt_inj, own_nat (by omega), h]; omega
def own_Bd (ln cn : Int64) : Prop := ¬ ln < cn ∧ 0 ≤ cn.toInt ∧ cn.toInt ≤ ln.toInt ∧ ln.toInt ≤ 4611686018427387896 ∧ ln.toInt % 8 = 0
theorem own_ln {k ln : Int64} (h : ln = (k &&& (4611686018427387896 : Int64))) : 0 ≤ ln.toInt ∧ ln.toInt ≤ 4611686018427387896 ∧ ln.toInt % 8 = 0 := by
  have h7 : ln &&& (7 : Int64) = 0 := by
    rw [h, Int64.and_assoc, show (4611686018427387896 : Int64) &&& 7 = 0 from by decide, Int64.and_zero]
  have h8 := c_maskL ln 7 3 (by decide) (by decide)
  rw [h7] at h8
  have hp : ((2 ^ 3 : Nat) : Int) = 8 := rfl
  have hz : (0 : Int64).toInt = 0 := rfl
  rw [hp, hz] at h8
  have hle : ln.toBitVec.toNat ≤ 4611686018427387896 := by
    rw [h, Int64.toBitVec_and, BitVec.toNat_and]
    exact Nat.and_le_right
  have e : ln.toInt = (ln.toBitVec.toNat : Int) := by
    show ln.toBitVec.toInt = _
    rw [BitVec.toInt_eq_toNat_cond, if_pos (by omega)]
  omega
theorem own_len1 {k ln : Int64} (h : ln = (k &&& (4611686018427387896 : Int64))) : ln + (1 : Int64) ≠ 0 := by
  have h1 := own_ln h
  intro q
  have h2 := c_ladd ln 1
  rw [q] at h2
  have hz : (0 : Int64).toInt = 0 := rfl
  have ho : (1 : Int64).toInt = 1 := rfl
  rw [hz, ho] at h2
  omega
theorem own_bounds {k k2 ln cn : Int64} (h : ln = (k &&& (4611686018427387896 : Int64))) (hc : cn = ((k2 &&& (9223372036854775807 : Int64)) % (ln + (1 : Int64)))) : own_Bd ln cn := by
  have h1 := own_ln h
  have h2 := c_ladd ln 1
  have h3 := rng64 (ln + 1)
  have ho : (1 : Int64).toInt = 1 := rfl
  rw [ho] at h2
  have e1 : (ln + 1).toInt = ln.toInt + 1 := by omega
  have h4 := c_maskL k2 9223372036854775807 63 (by decide) (by decide)
  have hp : ((2 ^ 63 : Nat) : Int) = 9223372036854775808 := rfl
  rw [hp] at h4
  have h5 := (c_lrem (k2 &&& 9223372036854775807) (ln + 1) (ln.toInt + 1) e1).1 (by omega)
  rw [lrem_mod, ← hc] at h5
  have h6 : 0 ≤ (k2 &&& (9223372036854775807 : Int64)).toInt % (ln.toInt + 1) := Int.emod_nonneg _ (by omega)
  have h7 : (k2 &&& (9223372036854775807 : Int64)).toInt % (ln.toInt + 1) < ln.toInt + 1 := Int.emod_lt_of_pos _ (by omega)
  refine ⟨?_, by omega, by omega, h1.2.1, h1.2.2⟩
  rw [Int64.lt_iff_toInt_lt]
  omega
theorem own_m8 (x : Int64) : x &&& (-8 : Int64) = x - (x &&& (7 : Int64)) := by
  rw [← Int64.toBitVec_inj, Int64.toBitVec_sub, Int64.toBitVec_and, Int64.toBitVec_and]
  show x.toBitVec &&& (~~~ (7#64)) = x.toBitVec - (x.toBitVec &&& 7#64)
  generalize x.toBitVec = y
  have h0 : (y &&& 7#64) &&& (y &&& ~~~ (7#64)) = 0#64 := by
    ext i hi
    simp only [BitVec.getElem_and, BitVec.getElem_not, BitVec.getElem_zero]
    cases y[i] <;> cases (7#64)[i] <;> rfl
  have h1 : (y &&& 7#64) + (y &&& ~~~ (7#64)) = y := by
    rw [BitVec.add_eq_or_of_and_eq_zero _ _ h0]
    ext i hi
    simp only [BitVec.getElem_or, BitVec.getElem_and, BitVec.getElem_not]
    cases y[i] <;> cases (7#64)[i] <;> rfl
  exact (BitVec.eq_sub_iff_add_eq.mpr (by rw [BitVec.add_comm]; exact h1))
theorem own_al_int {ln cn al : Int64} (hb : own_Bd ln cn) (hal : al = ((cn + (7 : Int64)) &&& (-8 : Int64))) : al.toInt = (cn.toInt + 7) - (cn.toInt + 7) % 8 := by
  obtain ⟨-, b1, b2, b3, b4⟩ := hb
  rw [own_m8] at hal
  have h1 := c_ladd cn 7
  have h2 := rng64 (cn + 7)
  have h7 : (7 : Int64).toInt = 7 := rfl
  rw [h7] at h1
  have h3 := c_maskL (cn + 7) 7 3 (by decide) (by decide)
  have hp : ((2 ^ 3 : Nat) : Int) = 8 := rfl
  rw [hp] at h3
  have h4 := c_lsub (cn + 7) ((cn + 7) &&& 7)
  have h5 := rng64 ((cn + 7) - ((cn + 7) &&& 7))
  rw [← hal] at h4 h5
  omega
theorem own_al_le {ln cn al : Int64} (hb : own_Bd ln cn) (hal : al = ((cn + (7 : Int64)) &&& (-8 : Int64))) : ¬ ln < al := by
  have h := own_al_int hb hal
  obtain ⟨-, b1, b2, b3, b4⟩ := hb
  rw [Int64.lt_iff_toInt_lt]
  omega
theorem own_al2 {ln cn al : Int64} (hb : own_Bd ln cn) (hal : al = ((cn + (7 : Int64)) &&& (-8 : Int64))) : ((al + (7 : Int64)) &&& (-8 : Int64)) = al := by
  have h := own_al_int hb hal
  have hl := own_al_le hb hal
  rw [Int64.lt_iff_toInt_lt] at hl
  have hb2 : own_Bd ln al := by
    obtain ⟨-, b1, b2, b3, b4⟩ := hb
    exact ⟨own_al_le ⟨by rw [Int64.lt_iff_toInt_lt]; omega, b1, b2, b3, b4⟩ hal, by omega, by omega, b3, b4⟩
  have h2 := own_al_int hb2 (rfl : ((al + (7 : Int64)) &&& (-8 : Int64)) = _)
  rw [← Int64.toInt_inj, h2]
  omega
theorem own_r0 {ln cn al : Int64} (hb : own_Bd ln cn) (hal : al = ((cn + (7 : Int64)) &&& (-8 : Int64))) (h0 : (cn &&& (7 : Int64)) = 0) : cn = al := by
  have h := own_al_int hb hal
  have h3 := c_maskL cn 7 3 (by decide) (by decide)
  have hp : ((2 ^ 3 : Nat) : Int) = 8 := rfl
  have hz : (0 : Int64).toInt = 0 := rfl
  rw [h0, hp, hz] at h3
  rw [← Int64.toInt_inj, h]
  omega
theorem own_r1 {ln cn al : Int64} (hb : own_Bd ln cn) (hal : al = ((cn + (7 : Int64)) &&& (-8 : Int64))) (h0 : ¬ (cn &&& (7 : Int64)) = 0) : ((cn - (cn &&& (7 : Int64))) + (8 : Int64)) = al := by
  have h := own_al_int hb hal
  obtain ⟨-, b1, b2, b3, b4⟩ := hb
  have h3 := c_maskL cn 7 3 (by decide) (by decide)
  have hp : ((2 ^ 3 : Nat) : Int) = 8 := rfl
  rw [hp] at h3
  have h4 := c_lsub cn (cn &&& 7)
  have h5 := rng64 (cn - (cn &&& 7))
  have h6 := c_ladd (cn - (cn &&& 7)) 8
  have h7 := rng64 (cn - (cn &&& 7) + 8)
  have h8 : (8 : Int64).toInt = 8 := rfl
  rw [h8] at h6
  have hne : (cn &&& (7 : Int64)).toInt ≠ 0 := fun q => h0 (Int64.toInt_inj.mp (q.trans (rfl : (0 : Int64).toInt = 0).symm))
  rw [← Int64.toInt_inj, h]
  omega
theorem pd_6 : parseMethodDescriptor "()V" = some ⟨[], none⟩ := by decide +kernel
theorem pd_5 : parseMethodDescriptor "()J" = some ⟨[], some .long⟩ := by decide +kernel
theorem pd_7 : parseMethodDescriptor "(I)J" = some ⟨[.int], some .long⟩ := by decide +kernel
theorem pd_8 : parseMethodDescriptor "(JJ)J" = some ⟨[.long, .long], some .long⟩ := by decide +kernel
theorem pd_9 : parseMethodDescriptor "([BJJ)V" = some ⟨[(.array .byte), .long, .long], none⟩ := by decide +kernel
theorem pd_1 : parseMethodDescriptor "([B[J[JJLjava/lang/String;)V" = some ⟨[(.array .byte), (.array .long), (.array .long), .long, (.object "java/lang/String")], none⟩ := by decide +kernel
theorem pd_3 : parseMethodDescriptor "()V" = some ⟨[], none⟩ := by decide +kernel
theorem pd_4 : parseMethodDescriptor "(JLcom/example/tightwire/tightwire/bits/BitRuns;)V" = some ⟨[.long, (.object "com/example/tightwire/tightwire/bits/BitRuns")], none⟩ := by decide +kernel
theorem pd_10 : parseMethodDescriptor "()V" = some ⟨[], none⟩ := by decide +kernel
theorem pd_11 : parseMethodDescriptor "()J" = some ⟨[], some .long⟩ := by decide +kernel
theorem da_0 : decode jdk_29_method_70_code 0 = .ok (.lload_n 0, 1) := by decide +kernel
theorem da_1 : decode jdk_29_method_70_code 1 = .ok (.lload_n 2, 1) := by decide +kernel
theorem da_2 : decode jdk_29_method_70_code 2 = .ok (.lcmp, 1) := by decide +kernel
theorem da_3 : decode jdk_29_method_70_code 3 = .ok (.ifCond .gt 7, 3) := by decide +kernel
theorem da_6 : decode jdk_29_method_70_code 6 = .ok (.lload_n 0, 1) := by decide +kernel
theorem da_7 : decode jdk_29_method_70_code 7 = .ok (.goto 4, 3) := by decide +kernel
theorem da_10 : decode jdk_29_method_70_code 10 = .ok (.lload_n 2, 1) := by decide +kernel
theorem da_11 : decode jdk_29_method_70_code 11 = .ok (.lreturn, 1) := by decide +kernel
set_option maxRecDepth 65536 in
set_option maxHeartbeats 40000000 in
theorem rm1 (l : Launch) (Z : State) (a0 : Array Value) (hw : ∀ d ∈ tables_1, d.before a0 Z = true) (u : Int64) (v : Int64) (h0 : Heap) (n0 : Nat) (Z0 : n0 ≤ h0.size) :
    own_C l Z (⟨"java/lang/Math", "min", "(JJ)J"⟩ : MethodName) jdk_29_method_70_code 4 (some .long) [] ({ frames := 0, cells := 0, slots := 0, locals := 0 } : Room) #[.long u, .long v] h0 n0 [] (fun r h => r = some (.long (if v < u then v else u))) 0 0 := by
  refine own_enter (L0 := #[.val (.long u), .second, .val (.long v), .second]) (Jvm.Free.JP.mathPlain rfl (by decide +kernel)) (fun m => by first | (simp [entryFrame, mkF, argsToLocals, Value.category]; done) | rfl) ?_
  intro p e s m below meth c T B X
  refine own_lloadN X B da_0 rfl (pc' := 1) rfl ?_
  refine own_lloadN X B da_1 rfl (pc' := 2) rfl ?_
  refine own_lcmp X B da_2 (pc' := 3) rfl ?_
  by_cases hc : (0 : Int32) < (lcmpW u v)
  · -- hc
    refine own_ifT X B da_3 (tlt hc).2.2.1 (pc' := 10) (by decide) (by decide) ?_
    refine own_lloadN X B da_10 rfl (pc' := 11) rfl ?_
    exact own_lret X B da_11 (by decide) (by decide) (by rw [if_pos ((lw_gt _ _).mp hc)])
  · -- not hc
    refine own_ifF X B da_3 (flt hc).2.2.1 (pc' := 6) rfl ?_
    refine own_lloadN X B da_6 rfl (pc' := 7) rfl ?_
    refine own_goto X B da_7 (pc' := 11) (by decide) (by decide) ?_
    exact own_lret X B da_11 (by decide) (by decide) (by rw [if_neg (fun q => hc ((lw_gt _ _).mpr q))])
theorem db_0 : decode prog_6_method_1_code 0 = .ok (.aload_n 0, 1) := by decide +kernel
theorem db_1 : decode prog_6_method_1_code 1 = .ok (.invokespecial 1, 3) := by decide +kernel
theorem db_4 : decode prog_6_method_1_code 4 = .ok (.aload_n 0, 1) := by decide +kernel
theorem db_5 : decode prog_6_method_1_code 5 = .ok (.iconst 1, 1) := by decide +kernel
theorem db_6 : decode prog_6_method_1_code 6 = .ok (.newarray .long, 2) := by decide +kernel
theorem db_8 : decode prog_6_method_1_code 8 = .ok (.putfield 7, 3) := by decide +kernel
theorem db_11 : decode prog_6_method_1_code 11 = .ok (.aload_n 0, 1) := by decide +kernel
theorem db_12 : decode prog_6_method_1_code 12 = .ok (.iconst 1, 1) := by decide +kernel
theorem db_13 : decode prog_6_method_1_code 13 = .ok (.newarray .long, 2) := by decide +kernel
theorem db_15 : decode prog_6_method_1_code 15 = .ok (.putfield 13, 3) := by decide +kernel
theorem db_18 : decode prog_6_method_1_code 18 = .ok (.return_, 1) := by decide +kernel
set_option maxRecDepth 65536 in
set_option maxHeartbeats 40000000 in
theorem rm2 (l : Launch) (Z : State) (a0 : Array Value) (hw : ∀ d ∈ tables_1, d.before a0 Z = true) (o : Addr) (h0 : Heap) (n0 : Nat) (Z0 : n0 ≤ h0.size) (g_o : n0 ≤ o) (E_o : Exa Z h0 o "com/example/tightwire/tightwire/bits/BitRuns") (F_o_message : Fld Z h0 o "com/example/tightwire/tightwire/bits/BitRuns" "message" "[B" .null) (F_o_starts : Fld Z h0 o "com/example/tightwire/tightwire/bits/BitRuns" "starts" "[J" .null) (F_o_places : Fld Z h0 o "com/example/tightwire/tightwire/bits/BitRuns" "places" "[J" .null) (F_o_runs : Fld Z h0 o "com/example/tightwire/tightwire/bits/BitRuns" "runs" "I" (.int (0 : Int32))) (F_o_length : Fld Z h0 o "com/example/tightwire/tightwire/bits/BitRuns" "length" "J" (.long (0 : Int64))) :
    own_C l Z (⟨"com/example/tightwire/tightwire/bits/BitRuns", "<init>", "()V"⟩ : MethodName) prog_6_method_1_code 1 none [] ({ frames := 1, cells := 2, slots := 2, locals := 12 } : Room) #[.ref o] h0 n0 [o] (fun v h => v = none ∧ ∃ r t : Addr, h0.size ≤ r ∧ h0.size ≤ t ∧ r ≠ t ∧ Fld Z h o "com/example/tightwire/tightwire/bits/BitRuns" "message" "[B" .null ∧ Fld Z h o "com/example/tightwire/tightwire/bits/BitRuns" "starts" "[J" (.ref r) ∧ Fld Z h o "com/example/tightwire/tightwire/bits/BitRuns" "places" "[J" (.ref t) ∧ Fld Z h o "com/example/tightwire/tightwire/bits/BitRuns" "runs" "I" (.int (0 : Int32)) ∧ Fld Z h o "com/example/tightwire/tightwire/bits/BitRuns" "length" "J" (.long (0 : Int64)) ∧ own_AJ Z h r 1 (fun _ => 0) ∧ own_AJ Z h t 1 (fun _ => 0)) 2 2 := by
  refine own_enter (L0 := #[.val (.ref o)]) (plainFor_of_name (by first | (simp [plainName, overriddenIn]; done) | decide +kernel)) (fun m => by first | (simp [entryFrame, mkF, argsToLocals, Value.category]; done) | rfl) ?_
  intro p e s m below meth c T B X
  refine own_aloadN X B db_0 rfl rfl (pc' := 1) rfl ?_
  refine own_initO X B (hw _ (List.mem_of_getElem? (i := 38) rfl)) (hw _ (List.mem_of_getElem? (i := 20) rfl)) (hw _ (List.mem_of_getElem? (i := 21) rfl)) rfl (by decide) (W := 0) (Nat.le_refl _) (by decide) db_1 (pc' := 4) rfl fun T X => ?_
  refine own_aloadN X B db_4 rfl rfl (pc' := 5) rfl ?_
  refine own_iconst X B db_5 (v := (1 : Int32)) rfl (pc' := 6) rfl ?_
  refine own_newJ X B (hw _ (List.mem_of_getElem? (i := 8) rfl)) (n := 1) (cap := 1) rfl (by decide) (by decide) (by decide) (by decide) db_6 (pc' := 8) rfl fun T h r g_r X K A_r z_r => ?_
  have n_o_r : o ≠ r := own_ne E_o.lt g_r
  replace E_o := E_o.keep K
  replace F_o_message := F_o_message.keep K nin0
  replace F_o_starts := F_o_starts.keep K nin0
  replace F_o_places := F_o_places.keep K nin0
  replace F_o_runs := F_o_runs.keep K nin0
  replace F_o_length := F_o_length.keep K nin0
  refine own_putF X B (hw _ (List.mem_of_getElem? (i := 39) rfl)) F_o_starts E_o (Or.inl (hw _ (List.mem_of_getElem? (i := 40) rfl))) (hw _ (List.mem_of_getElem? (i := 33) rfl)) (ty := (.array .long)) (by decide) rfl rfl g_o (Or.inl (List.mem_of_getElem? (i := 0) rfl)) db_8 (pc' := 11) rfl fun T h X Wr K E_o F_o_starts => ?_
  replace F_o_message := F_o_message.other Wr (Or.inr (slot_ne (Or.inl (hw _ (List.mem_of_getElem? (i := 75) rfl))) (Or.inl (hw _ (List.mem_of_getElem? (i := 40) rfl))) (by decide) (t := (.array .byte)) (t' := (.array .long)) (by decide) (by decide)))
  replace F_o_places := F_o_places.other Wr (Or.inr (slot_ne (Or.inl (hw _ (List.mem_of_getElem? (i := 42) rfl))) (Or.inl (hw _ (List.mem_of_getElem? (i := 40) rfl))) (by decide) (t := (.array .long)) (t' := (.array .long)) (by decide) (by decide)))
  replace F_o_runs := F_o_runs.other Wr (Or.inr (slot_ne (Or.inl (hw _ (List.mem_of_getElem? (i := 77) rfl))) (Or.inl (hw _ (List.mem_of_getElem? (i := 40) rfl))) (by decide) (t := .int) (t' := (.array .long)) (by decide) (by decide)))
  replace F_o_length := F_o_length.other Wr (Or.inr (slot_ne (Or.inl (hw _ (List.mem_of_getElem? (i := 79) rfl))) (Or.inl (hw _ (List.mem_of_getElem? (i := 40) rfl))) (by decide) (t := .long) (t' := (.array .long)) (by decide) (by decide)))
  replace A_r := A_r.keep K (ninS (Ne.symm n_o_r) nin0)
  refine own_aloadN X B db_11 rfl rfl (pc' := 12) rfl ?_
  refine own_iconst X B db_12 (v := (1 : Int32)) rfl (pc' := 13) rfl ?_
  refine own_newJ X B (hw _ (List.mem_of_getElem? (i := 8) rfl)) (n := 1) (cap := 1) rfl (by decide) (by decide) (by decide) (by decide) db_13 (pc' := 15) rfl fun T h t g_t X K A_t z_t => ?_
  have n_o_t : o ≠ t := own_ne E_o.lt g_t
  have n_r_t : r ≠ t := own_ne A_r.lt g_t
  replace E_o := E_o.keep K
  replace F_o_message := F_o_message.keep K nin0
  replace F_o_starts := F_o_starts.keep K nin0
  replace F_o_places := F_o_places.keep K nin0
  replace F_o_runs := F_o_runs.keep K nin0
  replace F_o_length := F_o_length.keep K nin0
  replace A_r := A_r.keep K nin0
  refine own_putF X B (hw _ (List.mem_of_getElem? (i := 41) rfl)) F_o_places E_o (Or.inl (hw _ (List.mem_of_getElem? (i := 42) rfl))) (hw _ (List.mem_of_getElem? (i := 33) rfl)) (ty := (.array .long)) (by decide) rfl rfl g_o (Or.inl (List.mem_of_getElem? (i := 0) rfl)) db_15 (pc' := 18) rfl fun T h X Wr K E_o F_o_places => ?_
  replace F_o_message := F_o_message.other Wr (Or.inr (slot_ne (Or.inl (hw _ (List.mem_of_getElem? (i := 75) rfl))) (Or.inl (hw _ (List.mem_of_getElem? (i := 42) rfl))) (by decide) (t := (.array .byte)) (t' := (.array .long)) (by decide) (by decide)))
  replace F_o_starts := F_o_starts.other Wr (Or.inr (slot_ne (Or.inl (hw _ (List.mem_of_getElem? (i := 40) rfl))) (Or.inl (hw _ (List.mem_of_getElem? (i := 42) rfl))) (by decide) (t := (.array .long)) (t' := (.array .long)) (by decide) (by decide)))
  replace F_o_runs := F_o_runs.other Wr (Or.inr (slot_ne (Or.inl (hw _ (List.mem_of_getElem? (i := 77) rfl))) (Or.inl (hw _ (List.mem_of_getElem? (i := 42) rfl))) (by decide) (t := .int) (t' := (.array .long)) (by decide) (by decide)))
  replace F_o_length := F_o_length.other Wr (Or.inr (slot_ne (Or.inl (hw _ (List.mem_of_getElem? (i := 79) rfl))) (Or.inl (hw _ (List.mem_of_getElem? (i := 42) rfl))) (by decide) (t := .long) (t' := (.array .long)) (by decide) (by decide)))
  replace A_r := A_r.keep K (ninS (Ne.symm n_o_r) nin0)
  replace A_t := A_t.keep K (ninS (Ne.symm n_o_t) nin0)
  exact own_vret X B db_18 (by decide) (by decide) ⟨rfl, r, t, z_r, z_t, n_r_t, F_o_message, F_o_starts, F_o_places, F_o_runs, F_o_length, A_r, A_t⟩
theorem dc_0 : decode prog_6_method_2_code 0 = .ok (.aload_n 0, 1) := by decide +kernel
theorem dc_1 : decode prog_6_method_2_code 1 = .ok (.getfield 16, 3) := by decide +kernel
theorem dc_4 : decode prog_6_method_2_code 4 = .ok (.ifnull 21, 3) := by decide +kernel
theorem dc_7 : decode prog_6_method_2_code 7 = .ok (.aload_n 0, 1) := by decide +kernel
theorem dc_8 : decode prog_6_method_2_code 8 = .ok (.getfield 16, 3) := by decide +kernel
theorem dc_11 : decode prog_6_method_2_code 11 = .ok (.aload_n 1, 1) := by decide +kernel
theorem dc_12 : decode prog_6_method_2_code 12 = .ok (.if_acmp .eq 13, 3) := by decide +kernel
theorem dc_15 : decode prog_6_method_2_code 15 = .ok (.new 20, 3) := by decide +kernel
theorem dc_18 : decode prog_6_method_2_code 18 = .ok (.dup, 1) := by decide +kernel
theorem dc_19 : decode prog_6_method_2_code 19 = .ok (.ldc 22, 2) := by decide +kernel
theorem dc_21 : decode prog_6_method_2_code 21 = .ok (.invokespecial 24, 3) := by decide +kernel
theorem dc_24 : decode prog_6_method_2_code 24 = .ok (.athrow, 1) := by decide +kernel
theorem dc_25 : decode prog_6_method_2_code 25 = .ok (.aload_n 0, 1) := by decide +kernel
theorem dc_26 : decode prog_6_method_2_code 26 = .ok (.aload_n 1, 1) := by decide +kernel
theorem dc_27 : decode prog_6_method_2_code 27 = .ok (.putfield 16, 3) := by decide +kernel
theorem dc_30 : decode prog_6_method_2_code 30 = .ok (.aload_n 0, 1) := by decide +kernel
theorem dc_31 : decode prog_6_method_2_code 31 = .ok (.getfield 27, 3) := by decide +kernel
theorem dc_34 : decode prog_6_method_2_code 34 = .ok (.aload_n 0, 1) := by decide +kernel
theorem dc_35 : decode prog_6_method_2_code 35 = .ok (.getfield 7, 3) := by decide +kernel
theorem dc_38 : decode prog_6_method_2_code 38 = .ok (.arraylength, 1) := by decide +kernel
theorem dc_39 : decode prog_6_method_2_code 39 = .ok (.if_icmp .ne 37, 3) := by decide +kernel
theorem dc_42 : decode prog_6_method_2_code 42 = .ok (.aload_n 0, 1) := by decide +kernel
theorem dc_43 : decode prog_6_method_2_code 43 = .ok (.aload_n 0, 1) := by decide +kernel
theorem dc_44 : decode prog_6_method_2_code 44 = .ok (.getfield 7, 3) := by decide +kernel
theorem dc_47 : decode prog_6_method_2_code 47 = .ok (.aload_n 0, 1) := by decide +kernel
theorem dc_48 : decode prog_6_method_2_code 48 = .ok (.getfield 27, 3) := by decide +kernel
theorem dc_51 : decode prog_6_method_2_code 51 = .ok (.iconst 2, 1) := by decide +kernel
theorem dc_52 : decode prog_6_method_2_code 52 = .ok (.imul, 1) := by decide +kernel
theorem dc_53 : decode prog_6_method_2_code 53 = .ok (.invokestatic 31, 3) := by decide +kernel
theorem dc_56 : decode prog_6_method_2_code 56 = .ok (.putfield 7, 3) := by decide +kernel
theorem dc_59 : decode prog_6_method_2_code 59 = .ok (.aload_n 0, 1) := by decide +kernel
theorem dc_60 : decode prog_6_method_2_code 60 = .ok (.aload_n 0, 1) := by decide +kernel
theorem dc_61 : decode prog_6_method_2_code 61 = .ok (.getfield 13, 3) := by decide +kernel
theorem dc_64 : decode prog_6_method_2_code 64 = .ok (.aload_n 0, 1) := by decide +kernel
theorem dc_65 : decode prog_6_method_2_code 65 = .ok (.getfield 27, 3) := by decide +kernel
theorem dc_68 : decode prog_6_method_2_code 68 = .ok (.iconst 2, 1) := by decide +kernel
theorem dc_69 : decode prog_6_method_2_code 69 = .ok (.imul, 1) := by decide +kernel
theorem dc_70 : decode prog_6_method_2_code 70 = .ok (.invokestatic 31, 3) := by decide +kernel
theorem dc_73 : decode prog_6_method_2_code 73 = .ok (.putfield 13, 3) := by decide +kernel
theorem dc_76 : decode prog_6_method_2_code 76 = .ok (.aload_n 0, 1) := by decide +kernel
theorem dc_77 : decode prog_6_method_2_code 77 = .ok (.getfield 7, 3) := by decide +kernel
theorem dc_80 : decode prog_6_method_2_code 80 = .ok (.aload_n 0, 1) := by decide +kernel
theorem dc_81 : decode prog_6_method_2_code 81 = .ok (.getfield 27, 3) := by decide +kernel
theorem dc_84 : decode prog_6_method_2_code 84 = .ok (.aload_n 0, 1) := by decide +kernel
theorem dc_85 : decode prog_6_method_2_code 85 = .ok (.getfield 37, 3) := by decide +kernel
theorem dc_88 : decode prog_6_method_2_code 88 = .ok (.lastore, 1) := by decide +kernel
theorem dc_89 : decode prog_6_method_2_code 89 = .ok (.aload_n 0, 1) := by decide +kernel
theorem dc_90 : decode prog_6_method_2_code 90 = .ok (.getfield 13, 3) := by decide +kernel
theorem dc_93 : decode prog_6_method_2_code 93 = .ok (.aload_n 0, 1) := by decide +kernel
theorem dc_94 : decode prog_6_method_2_code 94 = .ok (.getfield 27, 3) := by decide +kernel
theorem dc_97 : decode prog_6_method_2_code 97 = .ok (.lload_n 2, 1) := by decide +kernel
theorem dc_98 : decode prog_6_method_2_code 98 = .ok (.lastore, 1) := by decide +kernel
theorem dc_99 : decode prog_6_method_2_code 99 = .ok (.aload_n 0, 1) := by decide +kernel
theorem dc_100 : decode prog_6_method_2_code 100 = .ok (.dup, 1) := by decide +kernel
theorem dc_101 : decode prog_6_method_2_code 101 = .ok (.getfield 27, 3) := by decide +kernel
theorem dc_104 : decode prog_6_method_2_code 104 = .ok (.iconst 1, 1) := by decide +kernel
theorem dc_105 : decode prog_6_method_2_code 105 = .ok (.iadd, 1) := by decide +kernel
theorem dc_106 : decode prog_6_method_2_code 106 = .ok (.putfield 27, 3) := by decide +kernel
theorem dc_109 : decode prog_6_method_2_code 109 = .ok (.aload_n 0, 1) := by decide +kernel
theorem dc_110 : decode prog_6_method_2_code 110 = .ok (.dup, 1) := by decide +kernel
theorem dc_111 : decode prog_6_method_2_code 111 = .ok (.getfield 37, 3) := by decide +kernel
theorem dc_114 : decode prog_6_method_2_code 114 = .ok (.lload 4, 2) := by decide +kernel
theorem dc_116 : decode prog_6_method_2_code 116 = .ok (.ladd, 1) := by decide +kernel
theorem dc_117 : decode prog_6_method_2_code 117 = .ok (.putfield 37, 3) := by decide +kernel
theorem dc_120 : decode prog_6_method_2_code 120 = .ok (.return_, 1) := by decide +kernel
set_option maxRecDepth 65536 in
set_option maxHeartbeats 40000000 in
theorem rm3 (l : Launch) (Z : State) (a0 : Array Value) (hw : ∀ d ∈ tables_1, d.before a0 Z = true) (o : Addr) (r : Addr) (t : Addr) (mg : Addr) (gs : Nat → Int64) (gp : Nat → Int64) (pl : Int64) (ct : Int64) (h0 : Heap) (n0 : Nat) (Z0 : n0 ≤ h0.size) (g_o : n0 ≤ o) (g_r : n0 ≤ r) (g_t : n0 ≤ t) (n_o_r : o ≠ r) (n_o_t : o ≠ t) (n_r_t : r ≠ t) (E_o : Exa Z h0 o "com/example/tightwire/tightwire/bits/BitRuns") (F_o_message : Fld Z h0 o "com/example/tightwire/tightwire/bits/BitRuns" "message" "[B" .null) (F_o_starts : Fld Z h0 o "com/example/tightwire/tightwire/bits/BitRuns" "starts" "[J" (.ref r)) (F_o_places : Fld Z h0 o "com/example/tightwire/tightwire/bits/BitRuns" "places" "[J" (.ref t)) (F_o_runs : Fld Z h0 o "com/example/tightwire/tightwire/bits/BitRuns" "runs" "I" (.int (0 : Int32))) (F_o_length : Fld Z h0 o "com/example/tightwire/tightwire/bits/BitRuns" "length" "J" (.long (0 : Int64))) (A_r : own_AJ Z h0 r 1 gs) (A_t : own_AJ Z h0 t 1 gp) :
    own_C l Z (⟨"com/example/tightwire/tightwire/bits/BitRuns", "add", "([BJJ)V"⟩ : MethodName) prog_6_method_2_code 6 none [] ({ frames := 0, cells := 0, slots := 0, locals := 0 } : Room) #[.ref o, .ref mg, .long pl, .long ct] h0 n0 [o, r, t] (fun v h => v = none) 0 0 := by
  refine own_enter (L0 := #[.val (.ref o), .val (.ref mg), .val (.long pl), .second, .val (.long ct), .second]) (plainFor_of_name (by first | (simp [plainName, overriddenIn]; done) | decide +kernel)) (fun m => by first | (simp [entryFrame, mkF, argsToLocals, Value.category]; done) | rfl) ?_
  intro p e s m below meth c T B X
  refine own_aloadN X B dc_0 rfl rfl (pc' := 1) rfl ?_
  refine own_getF X B (hw _ (List.mem_of_getElem? (i := 74) rfl)) F_o_message dc_1 (pc' := 4) rfl fun T X => ?_
  refine own_ifnullT X B dc_4 (pc' := 25) (by decide) (by decide) ?_
  refine own_aloadN X B dc_25 rfl rfl (pc' := 26) rfl ?_
  refine own_aloadN X B dc_26 rfl rfl (pc' := 27) rfl ?_
  refine own_putF X B (hw _ (List.mem_of_getElem? (i := 74) rfl)) F_o_message E_o (Or.inl (hw _ (List.mem_of_getElem? (i := 75) rfl))) (hw _ (List.mem_of_getElem? (i := 33) rfl)) (ty := (.array .byte)) (by decide) rfl rfl g_o (Or.inl (List.mem_of_getElem? (i := 0) rfl)) dc_27 (pc' := 30) rfl fun T h X Wr K E_o F_o_message => ?_
  replace F_o_starts := F_o_starts.other Wr (Or.inr (slot_ne (Or.inl (hw _ (List.mem_of_getElem? (i := 40) rfl))) (Or.inl (hw _ (List.mem_of_getElem? (i := 75) rfl))) (by decide) (t := (.array .long)) (t' := (.array .byte)) (by decide) (by decide)))
  replace F_o_places := F_o_places.other Wr (Or.inr (slot_ne (Or.inl (hw _ (List.mem_of_getElem? (i := 42) rfl))) (Or.inl (hw _ (List.mem_of_getElem? (i := 75) rfl))) (by decide) (t := (.array .long)) (t' := (.array .byte)) (by decide) (by decide)))
  replace F_o_runs := F_o_runs.other Wr (Or.inr (slot_ne (Or.inl (hw _ (List.mem_of_getElem? (i := 77) rfl))) (Or.inl (hw _ (List.mem_of_getElem? (i := 75) rfl))) (by decide) (t := .int) (t' := (.array .byte)) (by decide) (by decide)))
  replace F_o_length := F_o_length.other Wr (Or.inr (slot_ne (Or.inl (hw _ (List.mem_of_getElem? (i := 79) rfl))) (Or.inl (hw _ (List.mem_of_getElem? (i := 75) rfl))) (by decide) (t := .long) (t' := (.array .byte)) (by decide) (by decide)))
  replace A_r := A_r.keep K (ninS (Ne.symm n_o_r) nin0)
  replace A_t := A_t.keep K (ninS (Ne.symm n_o_t) nin0)
  refine own_aloadN X B dc_30 rfl rfl (pc' := 31) rfl ?_
  refine own_getF X B (hw _ (List.mem_of_getElem? (i := 76) rfl)) F_o_runs dc_31 (pc' := 34) rfl fun T X => ?_
  refine own_aloadN X B dc_34 rfl rfl (pc' := 35) rfl ?_
  refine own_getF X B (hw _ (List.mem_of_getElem? (i := 39) rfl)) F_o_starts dc_35 (pc' := 38) rfl fun T X => ?_
  refine own_lenJ X B A_r dc_38 (pc' := 39) rfl ?_
  refine own_icmpT X B dc_39 (feq (by decide)).2 (pc' := 76) (by decide) (by decide) ?_
  refine own_aloadN X B dc_76 rfl rfl (pc' := 77) rfl ?_
  refine own_getF X B (hw _ (List.mem_of_getElem? (i := 39) rfl)) F_o_starts dc_77 (pc' := 80) rfl fun T X => ?_
  refine own_aloadN X B dc_80 rfl rfl (pc' := 81) rfl ?_
  refine own_getF X B (hw _ (List.mem_of_getElem? (i := 76) rfl)) F_o_runs dc_81 (pc' := 84) rfl fun T X => ?_
  refine own_aloadN X B dc_84 rfl rfl (pc' := 85) rfl ?_
  refine own_getF X B (hw _ (List.mem_of_getElem? (i := 78) rfl)) F_o_length dc_85 (pc' := 88) rfl fun T X => ?_
  refine own_lastore X B A_r (i := 0) rfl (by decide) g_r (Or.inl (List.mem_of_getElem? (i := 1) rfl)) dc_88 (pc' := 89) rfl fun T h X K A_r => ?_
  replace E_o := E_o.keep K
  replace F_o_message := F_o_message.keep K (ninS n_o_r nin0)
  replace F_o_starts := F_o_starts.keep K (ninS n_o_r nin0)
  replace F_o_places := F_o_places.keep K (ninS n_o_r nin0)
  replace F_o_runs := F_o_runs.keep K (ninS n_o_r nin0)
  replace F_o_length := F_o_length.keep K (ninS n_o_r nin0)
  replace A_t := A_t.keep K (ninS (Ne.symm n_r_t) nin0)
  refine own_aloadN X B dc_89 rfl rfl (pc' := 90) rfl ?_
  refine own_getF X B (hw _ (List.mem_of_getElem? (i := 41) rfl)) F_o_places dc_90 (pc' := 93) rfl fun T X => ?_
  refine own_aloadN X B dc_93 rfl rfl (pc' := 94) rfl ?_
  refine own_getF X B (hw _ (List.mem_of_getElem? (i := 76) rfl)) F_o_runs dc_94 (pc' := 97) rfl fun T X => ?_
  refine own_lloadN X B dc_97 rfl (pc' := 98) rfl ?_
  refine own_lastore X B A_t (i := 0) rfl (by decide) g_t (Or.inl (List.mem_of_getElem? (i := 2) rfl)) dc_98 (pc' := 99) rfl fun T h X K A_t => ?_
  replace E_o := E_o.keep K
  replace F_o_message := F_o_message.keep K (ninS n_o_t nin0)
  replace F_o_starts := F_o_starts.keep K (ninS n_o_t nin0)
  replace F_o_places := F_o_places.keep K (ninS n_o_t nin0)
  replace F_o_runs := F_o_runs.keep K (ninS n_o_t nin0)
  replace F_o_length := F_o_length.keep K (ninS n_o_t nin0)
  replace A_r := A_r.keep K (ninS n_r_t nin0)
  refine own_aloadN X B dc_99 rfl rfl (pc' := 100) rfl ?_
  refine own_dup X B dc_100 rfl (pc' := 101) rfl ?_
  refine own_getF X B (hw _ (List.mem_of_getElem? (i := 76) rfl)) F_o_runs dc_101 (pc' := 104) rfl fun T X => ?_
  refine own_iconst X B dc_104 (v := (1 : Int32)) rfl (pc' := 105) rfl ?_
  refine own_iadd X B dc_105 (pc' := 106) rfl ?_
  refine own_putF X B (hw _ (List.mem_of_getElem? (i := 76) rfl)) F_o_runs E_o (Or.inl (hw _ (List.mem_of_getElem? (i := 77) rfl))) (hw _ (List.mem_of_getElem? (i := 33) rfl)) (ty := .int) (by decide) rfl rfl g_o (Or.inl (List.mem_of_getElem? (i := 0) rfl)) dc_106 (pc' := 109) rfl fun T h X Wr K E_o F_o_runs => ?_
  replace F_o_message := F_o_message.other Wr (Or.inr (slot_ne (Or.inl (hw _ (List.mem_of_getElem? (i := 75) rfl))) (Or.inl (hw _ (List.mem_of_getElem? (i := 77) rfl))) (by decide) (t := (.array .byte)) (t' := .int) (by decide) (by decide)))
  replace F_o_starts := F_o_starts.other Wr (Or.inr (slot_ne (Or.inl (hw _ (List.mem_of_getElem? (i := 40) rfl))) (Or.inl (hw _ (List.mem_of_getElem? (i := 77) rfl))) (by decide) (t := (.array .long)) (t' := .int) (by decide) (by decide)))
  replace F_o_places := F_o_places.other Wr (Or.inr (slot_ne (Or.inl (hw _ (List.mem_of_getElem? (i := 42) rfl))) (Or.inl (hw _ (List.mem_of_getElem? (i := 77) rfl))) (by decide) (t := (.array .long)) (t' := .int) (by decide) (by decide)))
  replace F_o_length := F_o_length.other Wr (Or.inr (slot_ne (Or.inl (hw _ (List.mem_of_getElem? (i := 79) rfl))) (Or.inl (hw _ (List.mem_of_getElem? (i := 77) rfl))) (by decide) (t := .long) (t' := .int) (by decide) (by decide)))
  replace A_r := A_r.keep K (ninS (Ne.symm n_o_r) nin0)
  replace A_t := A_t.keep K (ninS (Ne.symm n_o_t) nin0)
  refine own_aloadN X B dc_109 rfl rfl (pc' := 110) rfl ?_
  refine own_dup X B dc_110 rfl (pc' := 111) rfl ?_
  refine own_getF X B (hw _ (List.mem_of_getElem? (i := 78) rfl)) F_o_length dc_111 (pc' := 114) rfl fun T X => ?_
  refine own_lload X B dc_114 rfl (pc' := 116) rfl ?_
  refine own_ladd X B dc_116 (pc' := 117) rfl ?_
  refine own_putF X B (hw _ (List.mem_of_getElem? (i := 78) rfl)) F_o_length E_o (Or.inl (hw _ (List.mem_of_getElem? (i := 79) rfl))) (hw _ (List.mem_of_getElem? (i := 33) rfl)) (ty := .long) (by decide) rfl rfl g_o (Or.inl (List.mem_of_getElem? (i := 0) rfl)) dc_117 (pc' := 120) rfl fun T h X Wr K E_o F_o_length => ?_
  replace F_o_message := F_o_message.other Wr (Or.inr (slot_ne (Or.inl (hw _ (List.mem_of_getElem? (i := 75) rfl))) (Or.inl (hw _ (List.mem_of_getElem? (i := 79) rfl))) (by decide) (t := (.array .byte)) (t' := .long) (by decide) (by decide)))
  replace F_o_starts := F_o_starts.other Wr (Or.inr (slot_ne (Or.inl (hw _ (List.mem_of_getElem? (i := 40) rfl))) (Or.inl (hw _ (List.mem_of_getElem? (i := 79) rfl))) (by decide) (t := (.array .long)) (t' := .long) (by decide) (by decide)))
  replace F_o_places := F_o_places.other Wr (Or.inr (slot_ne (Or.inl (hw _ (List.mem_of_getElem? (i := 42) rfl))) (Or.inl (hw _ (List.mem_of_getElem? (i := 79) rfl))) (by decide) (t := (.array .long)) (t' := .long) (by decide) (by decide)))
  replace F_o_runs := F_o_runs.other Wr (Or.inr (slot_ne (Or.inl (hw _ (List.mem_of_getElem? (i := 77) rfl))) (Or.inl (hw _ (List.mem_of_getElem? (i := 79) rfl))) (by decide) (t := .int) (t' := .long) (by decide) (by decide)))
  replace A_r := A_r.keep K (ninS (Ne.symm n_o_r) nin0)
  replace A_t := A_t.keep K (ninS (Ne.symm n_o_t) nin0)
  exact own_vret X B dc_120 (by decide) (by decide) rfl
theorem dd_0 : decode prog_4_method_2_code 0 = .ok (.aload_n 0, 1) := by decide +kernel
theorem dd_1 : decode prog_4_method_2_code 1 = .ok (.invokespecial 13, 3) := by decide +kernel
theorem dd_4 : decode prog_4_method_2_code 4 = .ok (.aload_n 0, 1) := by decide +kernel
theorem dd_5 : decode prog_4_method_2_code 5 = .ok (.aload_n 1, 1) := by decide +kernel
theorem dd_6 : decode prog_4_method_2_code 6 = .ok (.putfield 18, 3) := by decide +kernel
theorem dd_9 : decode prog_4_method_2_code 9 = .ok (.aload_n 0, 1) := by decide +kernel
theorem dd_10 : decode prog_4_method_2_code 10 = .ok (.aload_n 2, 1) := by decide +kernel
theorem dd_11 : decode prog_4_method_2_code 11 = .ok (.putfield 22, 3) := by decide +kernel
theorem dd_14 : decode prog_4_method_2_code 14 = .ok (.aload_n 0, 1) := by decide +kernel
theorem dd_15 : decode prog_4_method_2_code 15 = .ok (.aload_n 3, 1) := by decide +kernel
theorem dd_16 : decode prog_4_method_2_code 16 = .ok (.putfield 26, 3) := by decide +kernel
theorem dd_19 : decode prog_4_method_2_code 19 = .ok (.aload_n 0, 1) := by decide +kernel
theorem dd_20 : decode prog_4_method_2_code 20 = .ok (.lload 4, 2) := by decide +kernel
theorem dd_22 : decode prog_4_method_2_code 22 = .ok (.putfield 29, 3) := by decide +kernel
theorem dd_25 : decode prog_4_method_2_code 25 = .ok (.aload_n 0, 1) := by decide +kernel
theorem dd_26 : decode prog_4_method_2_code 26 = .ok (.aload 6, 2) := by decide +kernel
theorem dd_28 : decode prog_4_method_2_code 28 = .ok (.putfield 33, 3) := by decide +kernel
theorem dd_31 : decode prog_4_method_2_code 31 = .ok (.return_, 1) := by decide +kernel
set_option maxRecDepth 65536 in
set_option maxHeartbeats 40000000 in
theorem rm4 (l : Launch) (Z : State) (a0 : Array Value) (hw : ∀ d ∈ tables_1, d.before a0 Z = true) (o : Addr) (mg : Addr) (s' : Addr) (p' : Addr) (ln : Int64) (nm : Addr) (h0 : Heap) (n0 : Nat) (Z0 : n0 ≤ h0.size) (g_o : n0 ≤ o) (E_o : Exa Z h0 o "com/example/tightwire/tightwire/bits/BitReader") (F_o_message : Fld Z h0 o "com/example/tightwire/tightwire/bits/BitReader" "message" "[B" .null) (F_o_starts : Fld Z h0 o "com/example/tightwire/tightwire/bits/BitReader" "starts" "[J" .null) (F_o_places : Fld Z h0 o "com/example/tightwire/tightwire/bits/BitReader" "places" "[J" .null) (F_o_length : Fld Z h0 o "com/example/tightwire/tightwire/bits/BitReader" "length" "J" (.long (0 : Int64))) (F_o_name : Fld Z h0 o "com/example/tightwire/tightwire/bits/BitReader" "name" "Ljava/lang/String;" .null) (F_o_position : Fld Z h0 o "com/example/tightwire/tightwire/bits/BitReader" "position" "J" (.long (0 : Int64))) (F_o_run : Fld Z h0 o "com/example/tightwire/tightwire/bits/BitReader" "run" "I" (.int (0 : Int32))) :
    own_C l Z (⟨"com/example/tightwire/tightwire/bits/BitReader", "<init>", "([B[J[JJLjava/lang/String;)V"⟩ : MethodName) prog_4_method_2_code 7 none [] ({ frames := 1, cells := 0, slots := 0, locals := 12 } : Room) #[.ref o, .ref mg, .ref s', .ref p', .long ln, .ref nm] h0 n0 [o] (fun v h => v = none ∧ Fld Z h o "com/example/tightwire/tightwire/bits/BitReader" "message" "[B" (.ref mg) ∧ Fld Z h o "com/example/tightwire/tightwire/bits/BitReader" "starts" "[J" (.ref s') ∧ Fld Z h o "com/example/tightwire/tightwire/bits/BitReader" "places" "[J" (.ref p') ∧ Fld Z h o "com/example/tightwire/tightwire/bits/BitReader" "length" "J" (.long ln) ∧ Fld Z h o "com/example/tightwire/tightwire/bits/BitReader" "name" "Ljava/lang/String;" (.ref nm) ∧ Fld Z h o "com/example/tightwire/tightwire/bits/BitReader" "position" "J" (.long (0 : Int64)) ∧ Fld Z h o "com/example/tightwire/tightwire/bits/BitReader" "run" "I" (.int (0 : Int32))) 0 0 := by
  refine own_enter (L0 := #[.val (.ref o), .val (.ref mg), .val (.ref s'), .val (.ref p'), .val (.long ln), .second, .val (.ref nm)]) (plainFor_of_name (by first | (simp [plainName, overriddenIn]; done) | decide +kernel)) (fun m => by first | (simp [entryFrame, mkF, argsToLocals, Value.category]; done) | rfl) ?_
  intro p e s m below meth c T B X
  refine own_aloadN X B dd_0 rfl rfl (pc' := 1) rfl ?_
  refine own_initO X B (hw _ (List.mem_of_getElem? (i := 19) rfl)) (hw _ (List.mem_of_getElem? (i := 20) rfl)) (hw _ (List.mem_of_getElem? (i := 21) rfl)) rfl (by decide) (W := 0) (Nat.le_refl _) (by decide) dd_1 (pc' := 4) rfl fun T X => ?_
  refine own_aloadN X B dd_4 rfl rfl (pc' := 5) rfl ?_
  refine own_aloadN X B dd_5 rfl rfl (pc' := 6) rfl ?_
  refine own_putF X B (hw _ (List.mem_of_getElem? (i := 22) rfl)) F_o_message E_o (Or.inr ⟨(hw _ (List.mem_of_getElem? (i := 23) rfl)), rfl, rfl⟩) (hw _ (List.mem_of_getElem? (i := 5) rfl)) (ty := (.array .byte)) (by decide) rfl rfl g_o (Or.inl (List.mem_of_getElem? (i := 0) rfl)) dd_6 (pc' := 9) rfl fun T h X Wr K E_o F_o_message => ?_
  replace F_o_starts := F_o_starts.other Wr (Or.inr (slot_ne (Or.inr (hw _ (List.mem_of_getElem? (i := 25) rfl))) (Or.inr (hw _ (List.mem_of_getElem? (i := 23) rfl))) (by decide) (t := (.array .long)) (t' := (.array .byte)) (by decide) (by decide)))
  replace F_o_places := F_o_places.other Wr (Or.inr (slot_ne (Or.inr (hw _ (List.mem_of_getElem? (i := 27) rfl))) (Or.inr (hw _ (List.mem_of_getElem? (i := 23) rfl))) (by decide) (t := (.array .long)) (t' := (.array .byte)) (by decide) (by decide)))
  replace F_o_length := F_o_length.other Wr (Or.inr (slot_ne (Or.inr (hw _ (List.mem_of_getElem? (i := 29) rfl))) (Or.inr (hw _ (List.mem_of_getElem? (i := 23) rfl))) (by decide) (t := .long) (t' := (.array .byte)) (by decide) (by decide)))
  replace F_o_name := F_o_name.other Wr (Or.inr (slot_ne (Or.inr (hw _ (List.mem_of_getElem? (i := 31) rfl))) (Or.inr (hw _ (List.mem_of_getElem? (i := 23) rfl))) (by decide) (t := (.object "java/lang/String")) (t' := (.array .byte)) (by decide) (by decide)))
  replace F_o_position := F_o_position.other Wr (Or.inr (slot_ne (Or.inl (hw _ (List.mem_of_getElem? (i := 54) rfl))) (Or.inr (hw _ (List.mem_of_getElem? (i := 23) rfl))) (by decide) (t := .long) (t' := (.array .byte)) (by decide) (by decide)))
  replace F_o_run := F_o_run.other Wr (Or.inr (slot_ne (Or.inl (hw _ (List.mem_of_getElem? (i := 60) rfl))) (Or.inr (hw _ (List.mem_of_getElem? (i := 23) rfl))) (by decide) (t := .int) (t' := (.array .byte)) (by decide) (by decide)))
  refine own_aloadN X B dd_9 rfl rfl (pc' := 10) rfl ?_
  refine own_aloadN X B dd_10 rfl rfl (pc' := 11) rfl ?_
  refine own_putF X B (hw _ (List.mem_of_getElem? (i := 24) rfl)) F_o_starts E_o (Or.inr ⟨(hw _ (List.mem_of_getElem? (i := 25) rfl)), rfl, rfl⟩) (hw _ (List.mem_of_getElem? (i := 5) rfl)) (ty := (.array .long)) (by decide) rfl rfl g_o (Or.inl (List.mem_of_getElem? (i := 0) rfl)) dd_11 (pc' := 14) rfl fun T h X Wr K E_o F_o_starts => ?_
  replace F_o_message := F_o_message.other Wr (Or.inr (slot_ne (Or.inr (hw _ (List.mem_of_getElem? (i := 23) rfl))) (Or.inr (hw _ (List.mem_of_getElem? (i := 25) rfl))) (by decide) (t := (.array .byte)) (t' := (.array .long)) (by decide) (by decide)))
  replace F_o_places := F_o_places.other Wr (Or.inr (slot_ne (Or.inr (hw _ (List.mem_of_getElem? (i := 27) rfl))) (Or.inr (hw _ (List.mem_of_getElem? (i := 25) rfl))) (by decide) (t := (.array .long)) (t' := (.array .long)) (by decide) (by decide)))
  replace F_o_length := F_o_length.other Wr (Or.inr (slot_ne (Or.inr (hw _ (List.mem_of_getElem? (i := 29) rfl))) (Or.inr (hw _ (List.mem_of_getElem? (i := 25) rfl))) (by decide) (t := .long) (t' := (.array .long)) (by decide) (by decide)))
  replace F_o_name := F_o_name.other Wr (Or.inr (slot_ne (Or.inr (hw _ (List.mem_of_getElem? (i := 31) rfl))) (Or.inr (hw _ (List.mem_of_getElem? (i := 25) rfl))) (by decide) (t := (.object "java/lang/String")) (t' := (.array .long)) (by decide) (by decide)))
  replace F_o_position := F_o_position.other Wr (Or.inr (slot_ne (Or.inl (hw _ (List.mem_of_getElem? (i := 54) rfl))) (Or.inr (hw _ (List.mem_of_getElem? (i := 25) rfl))) (by decide) (t := .long) (t' := (.array .long)) (by decide) (by decide)))
  replace F_o_run := F_o_run.other Wr (Or.inr (slot_ne (Or.inl (hw _ (List.mem_of_getElem? (i := 60) rfl))) (Or.inr (hw _ (List.mem_of_getElem? (i := 25) rfl))) (by decide) (t := .int) (t' := (.array .long)) (by decide) (by decide)))
  refine own_aloadN X B dd_14 rfl rfl (pc' := 15) rfl ?_
  refine own_aloadN X B dd_15 rfl rfl (pc' := 16) rfl ?_
  refine own_putF X B (hw _ (List.mem_of_getElem? (i := 26) rfl)) F_o_places E_o (Or.inr ⟨(hw _ (List.mem_of_getElem? (i := 27) rfl)), rfl, rfl⟩) (hw _ (List.mem_of_getElem? (i := 5) rfl)) (ty := (.array .long)) (by decide) rfl rfl g_o (Or.inl (List.mem_of_getElem? (i := 0) rfl)) dd_16 (pc' := 19) rfl fun T h X Wr K E_o F_o_places => ?_
  replace F_o_message := F_o_message.other Wr (Or.inr (slot_ne (Or.inr (hw _ (List.mem_of_getElem? (i := 23) rfl))) (Or.inr (hw _ (List.mem_of_getElem? (i := 27) rfl))) (by decide) (t := (.array .byte)) (t' := (.array .long)) (by decide) (by decide)))
  replace F_o_starts := F_o_starts.other Wr (Or.inr (slot_ne (Or.inr (hw _ (List.mem_of_getElem? (i := 25) rfl))) (Or.inr (hw _ (List.mem_of_getElem? (i := 27) rfl))) (by decide) (t := (.array .long)) (t' := (.array .long)) (by decide) (by decide)))
  replace F_o_length := F_o_length.other Wr (Or.inr (slot_ne (Or.inr (hw _ (List.mem_of_getElem? (i := 29) rfl))) (Or.inr (hw _ (List.mem_of_getElem? (i := 27) rfl))) (by decide) (t := .long) (t' := (.array .long)) (by decide) (by decide)))
  replace F_o_name := F_o_name.other Wr (Or.inr (slot_ne (Or.inr (hw _ (List.mem_of_getElem? (i := 31) rfl))) (Or.inr (hw _ (List.mem_of_getElem? (i := 27) rfl))) (by decide) (t := (.object "java/lang/String")) (t' := (.array .long)) (by decide) (by decide)))
  replace F_o_position := F_o_position.other Wr (Or.inr (slot_ne (Or.inl (hw _ (List.mem_of_getElem? (i := 54) rfl))) (Or.inr (hw _ (List.mem_of_getElem? (i := 27) rfl))) (by decide) (t := .long) (t' := (.array .long)) (by decide) (by decide)))
  replace F_o_run := F_o_run.other Wr (Or.inr (slot_ne (Or.inl (hw _ (List.mem_of_getElem? (i := 60) rfl))) (Or.inr (hw _ (List.mem_of_getElem? (i := 27) rfl))) (by decide) (t := .int) (t' := (.array .long)) (by decide) (by decide)))
  refine own_aloadN X B dd_19 rfl rfl (pc' := 20) rfl ?_
  refine own_lload X B dd_20 rfl (pc' := 22) rfl ?_
  refine own_putF X B (hw _ (List.mem_of_getElem? (i := 28) rfl)) F_o_length E_o (Or.inr ⟨(hw _ (List.mem_of_getElem? (i := 29) rfl)), rfl, rfl⟩) (hw _ (List.mem_of_getElem? (i := 5) rfl)) (ty := .long) (by decide) rfl rfl g_o (Or.inl (List.mem_of_getElem? (i := 0) rfl)) dd_22 (pc' := 25) rfl fun T h X Wr K E_o F_o_length => ?_
  replace F_o_message := F_o_message.other Wr (Or.inr (slot_ne (Or.inr (hw _ (List.mem_of_getElem? (i := 23) rfl))) (Or.inr (hw _ (List.mem_of_getElem? (i := 29) rfl))) (by decide) (t := (.array .byte)) (t' := .long) (by decide) (by decide)))
  replace F_o_starts := F_o_starts.other Wr (Or.inr (slot_ne (Or.inr (hw _ (List.mem_of_getElem? (i := 25) rfl))) (Or.inr (hw _ (List.mem_of_getElem? (i := 29) rfl))) (by decide) (t := (.array .long)) (t' := .long) (by decide) (by decide)))
  replace F_o_places := F_o_places.other Wr (Or.inr (slot_ne (Or.inr (hw _ (List.mem_of_getElem? (i := 27) rfl))) (Or.inr (hw _ (List.mem_of_getElem? (i := 29) rfl))) (by decide) (t := (.array .long)) (t' := .long) (by decide) (by decide)))
  replace F_o_name := F_o_name.other Wr (Or.inr (slot_ne (Or.inr (hw _ (List.mem_of_getElem? (i := 31) rfl))) (Or.inr (hw _ (List.mem_of_getElem? (i := 29) rfl))) (by decide) (t := (.object "java/lang/String")) (t' := .long) (by decide) (by decide)))
  replace F_o_position := F_o_position.other Wr (Or.inr (slot_ne (Or.inl (hw _ (List.mem_of_getElem? (i := 54) rfl))) (Or.inr (hw _ (List.mem_of_getElem? (i := 29) rfl))) (by decide) (t := .long) (t' := .long) (by decide) (by decide)))
  replace F_o_run := F_o_run.other Wr (Or.inr (slot_ne (Or.inl (hw _ (List.mem_of_getElem? (i := 60) rfl))) (Or.inr (hw _ (List.mem_of_getElem? (i := 29) rfl))) (by decide) (t := .int) (t' := .long) (by decide) (by decide)))
  refine own_aloadN X B dd_25 rfl rfl (pc' := 26) rfl ?_
  refine own_aload X B dd_26 rfl rfl (pc' := 28) rfl ?_
  refine own_putF X B (hw _ (List.mem_of_getElem? (i := 30) rfl)) F_o_name E_o (Or.inr ⟨(hw _ (List.mem_of_getElem? (i := 31) rfl)), rfl, rfl⟩) (hw _ (List.mem_of_getElem? (i := 5) rfl)) (ty := (.object "java/lang/String")) (by decide) rfl rfl g_o (Or.inl (List.mem_of_getElem? (i := 0) rfl)) dd_28 (pc' := 31) rfl fun T h X Wr K E_o F_o_name => ?_
  replace F_o_message := F_o_message.other Wr (Or.inr (slot_ne (Or.inr (hw _ (List.mem_of_getElem? (i := 23) rfl))) (Or.inr (hw _ (List.mem_of_getElem? (i := 31) rfl))) (by decide) (t := (.array .byte)) (t' := (.object "java/lang/String")) (by decide) (by decide)))
  replace F_o_starts := F_o_starts.other Wr (Or.inr (slot_ne (Or.inr (hw _ (List.mem_of_getElem? (i := 25) rfl))) (Or.inr (hw _ (List.mem_of_getElem? (i := 31) rfl))) (by decide) (t := (.array .long)) (t' := (.object "java/lang/String")) (by decide) (by decide)))
  replace F_o_places := F_o_places.other Wr (Or.inr (slot_ne (Or.inr (hw _ (List.mem_of_getElem? (i := 27) rfl))) (Or.inr (hw _ (List.mem_of_getElem? (i := 31) rfl))) (by decide) (t := (.array .long)) (t' := (.object "java/lang/String")) (by decide) (by decide)))
  replace F_o_length := F_o_length.other Wr (Or.inr (slot_ne (Or.inr (hw _ (List.mem_of_getElem? (i := 29) rfl))) (Or.inr (hw _ (List.mem_of_getElem? (i := 31) rfl))) (by decide) (t := .long) (t' := (.object "java/lang/String")) (by decide) (by decide)))
  replace F_o_position := F_o_position.other Wr (Or.inr (slot_ne (Or.inl (hw _ (List.mem_of_getElem? (i := 54) rfl))) (Or.inr (hw _ (List.mem_of_getElem? (i := 31) rfl))) (by decide) (t := .long) (t' := (.object "java/lang/String")) (by decide) (by decide)))
  replace F_o_run := F_o_run.other Wr (Or.inr (slot_ne (Or.inl (hw _ (List.mem_of_getElem? (i := 60) rfl))) (Or.inr (hw _ (List.mem_of_getElem? (i := 31) rfl))) (by decide) (t := .int) (t' := (.object "java/lang/String")) (by decide) (by decide)))
  exact own_vret X B dd_31 (by decide) (by decide) ⟨rfl, F_o_message, F_o_starts, F_o_places, F_o_length, F_o_name, F_o_position, F_o_run⟩
theorem de_0 : decode prog_4_method_6_code 0 = .ok (.aload_n 0, 1) := by decide +kernel
theorem de_1 : decode prog_4_method_6_code 1 = .ok (.getfield 29, 3) := by decide +kernel
theorem de_4 : decode prog_4_method_6_code 4 = .ok (.aload_n 0, 1) := by decide +kernel
theorem de_5 : decode prog_4_method_6_code 5 = .ok (.getfield 67, 3) := by decide +kernel
theorem de_8 : decode prog_4_method_6_code 8 = .ok (.lsub, 1) := by decide +kernel
theorem de_9 : decode prog_4_method_6_code 9 = .ok (.lreturn, 1) := by decide +kernel
set_option maxRecDepth 65536 in
set_option maxHeartbeats 40000000 in
theorem rm5 (l : Launch) (Z : State) (a0 : Array Value) (hw : ∀ d ∈ tables_1, d.before a0 Z = true) (o : Addr) (ln : Int64) (ps : Int64) (h0 : Heap) (n0 : Nat) (Z0 : n0 ≤ h0.size) (F_o_length : Fld Z h0 o "com/example/tightwire/tightwire/bits/BitReader" "length" "J" (.long ln)) (F_o_position : Fld Z h0 o "com/example/tightwire/tightwire/bits/BitReader" "position" "J" (.long ps)) :
    own_C l Z (⟨"com/example/tightwire/tightwire/bits/BitReader", "remaining", "()J"⟩ : MethodName) prog_4_method_6_code 1 (some .long) [] ({ frames := 0, cells := 0, slots := 0, locals := 0 } : Room) #[.ref o] h0 n0 [] (fun v h => v = some (.long (ln - ps))) 0 0 := by
  refine own_enter (L0 := #[.val (.ref o)]) (plainFor_of_name (by first | (simp [plainName, overriddenIn]; done) | decide +kernel)) (fun m => by first | (simp [entryFrame, mkF, argsToLocals, Value.category]; done) | rfl) ?_
  intro p e s m below meth c T B X
  refine own_aloadN X B de_0 rfl rfl (pc' := 1) rfl ?_
  refine own_getF X B (hw _ (List.mem_of_getElem? (i := 28) rfl)) F_o_length de_1 (pc' := 4) rfl fun T X => ?_
  refine own_aloadN X B de_4 rfl rfl (pc' := 5) rfl ?_
  refine own_getF X B (hw _ (List.mem_of_getElem? (i := 53) rfl)) F_o_position de_5 (pc' := 8) rfl fun T X => ?_
  refine own_lsub X B de_8 (pc' := 9) rfl ?_
  exact own_lret X B de_9 (by decide) (by decide) rfl
theorem df_0 : decode prog_4_method_9_code 0 = .ok (.aload_n 0, 1) := by decide +kernel
theorem df_1 : decode prog_4_method_9_code 1 = .ok (.getfield 59, 3) := by decide +kernel
theorem df_4 : decode prog_4_method_9_code 4 = .ok (.iconst 1, 1) := by decide +kernel
theorem df_5 : decode prog_4_method_9_code 5 = .ok (.iadd, 1) := by decide +kernel
theorem df_6 : decode prog_4_method_9_code 6 = .ok (.aload_n 0, 1) := by decide +kernel
theorem df_7 : decode prog_4_method_9_code 7 = .ok (.getfield 22, 3) := by decide +kernel
theorem df_10 : decode prog_4_method_9_code 10 = .ok (.arraylength, 1) := by decide +kernel
theorem df_11 : decode prog_4_method_9_code 11 = .ok (.if_icmp .ge 35, 3) := by decide +kernel
theorem df_14 : decode prog_4_method_9_code 14 = .ok (.aload_n 0, 1) := by decide +kernel
theorem df_15 : decode prog_4_method_9_code 15 = .ok (.getfield 22, 3) := by decide +kernel
theorem df_18 : decode prog_4_method_9_code 18 = .ok (.aload_n 0, 1) := by decide +kernel
theorem df_19 : decode prog_4_method_9_code 19 = .ok (.getfield 59, 3) := by decide +kernel
theorem df_22 : decode prog_4_method_9_code 22 = .ok (.iconst 1, 1) := by decide +kernel
theorem df_23 : decode prog_4_method_9_code 23 = .ok (.iadd, 1) := by decide +kernel
theorem df_24 : decode prog_4_method_9_code 24 = .ok (.laload, 1) := by decide +kernel
theorem df_25 : decode prog_4_method_9_code 25 = .ok (.aload_n 0, 1) := by decide +kernel
theorem df_26 : decode prog_4_method_9_code 26 = .ok (.getfield 67, 3) := by decide +kernel
theorem df_29 : decode prog_4_method_9_code 29 = .ok (.lcmp, 1) := by decide +kernel
theorem df_30 : decode prog_4_method_9_code 30 = .ok (.ifCond .gt 16, 3) := by decide +kernel
theorem df_33 : decode prog_4_method_9_code 33 = .ok (.aload_n 0, 1) := by decide +kernel
theorem df_34 : decode prog_4_method_9_code 34 = .ok (.dup, 1) := by decide +kernel
theorem df_35 : decode prog_4_method_9_code 35 = .ok (.getfield 59, 3) := by decide +kernel
theorem df_38 : decode prog_4_method_9_code 38 = .ok (.iconst 1, 1) := by decide +kernel
theorem df_39 : decode prog_4_method_9_code 39 = .ok (.iadd, 1) := by decide +kernel
theorem df_40 : decode prog_4_method_9_code 40 = .ok (.putfield 59, 3) := by decide +kernel
theorem df_43 : decode prog_4_method_9_code 43 = .ok (.goto (-43), 3) := by decide +kernel
theorem df_46 : decode prog_4_method_9_code 46 = .ok (.return_, 1) := by decide +kernel
set_option maxRecDepth 65536 in
set_option maxHeartbeats 40000000 in
theorem rm6 (l : Launch) (Z : State) (a0 : Array Value) (hw : ∀ d ∈ tables_1, d.before a0 Z = true) (o : Addr) (s' : Addr) (f : Nat → Int64) (h0 : Heap) (n0 : Nat) (Z0 : n0 ≤ h0.size) (F_o_run : Fld Z h0 o "com/example/tightwire/tightwire/bits/BitReader" "run" "I" (.int (0 : Int32))) (F_o_starts : Fld Z h0 o "com/example/tightwire/tightwire/bits/BitReader" "starts" "[J" (.ref s')) (A_s' : own_AJ Z h0 s' 1 f) :
    own_C l Z (⟨"com/example/tightwire/tightwire/bits/BitReader", "advance", "()V"⟩ : MethodName) prog_4_method_9_code 1 none [] ({ frames := 0, cells := 0, slots := 0, locals := 0 } : Room) #[.ref o] h0 n0 [] (fun v h => v = none) 0 0 := by
  refine own_enter (L0 := #[.val (.ref o)]) (plainFor_of_name (by first | (simp [plainName, overriddenIn]; done) | decide +kernel)) (fun m => by first | (simp [entryFrame, mkF, argsToLocals, Value.category]; done) | rfl) ?_
  intro p e s m below meth c T B X
  refine own_aloadN X B df_0 rfl rfl (pc' := 1) rfl ?_
  refine own_getF X B (hw _ (List.mem_of_getElem? (i := 59) rfl)) F_o_run df_1 (pc' := 4) rfl fun T X => ?_
  refine own_iconst X B df_4 (v := (1 : Int32)) rfl (pc' := 5) rfl ?_
  refine own_iadd X B df_5 (pc' := 6) rfl ?_
  refine own_aloadN X B df_6 rfl rfl (pc' := 7) rfl ?_
  refine own_getF X B (hw _ (List.mem_of_getElem? (i := 24) rfl)) F_o_starts df_7 (pc' := 10) rfl fun T X => ?_
  refine own_lenJ X B A_s' df_10 (pc' := 11) rfl ?_
  refine own_icmpT X B df_11 (flt (by decide)).2.1 (pc' := 46) (by decide) (by decide) ?_
  exact own_vret X B df_46 (by decide) (by decide) rfl
theorem dg_0 : decode prog_4_method_10_code 0 = .ok (.iload_n 1, 1) := by decide +kernel
theorem dg_1 : decode prog_4_method_10_code 1 = .ok (.iconst 1, 1) := by decide +kernel
theorem dg_2 : decode prog_4_method_10_code 2 = .ok (.iadd, 1) := by decide +kernel
theorem dg_3 : decode prog_4_method_10_code 3 = .ok (.aload_n 0, 1) := by decide +kernel
theorem dg_4 : decode prog_4_method_10_code 4 = .ok (.getfield 22, 3) := by decide +kernel
theorem dg_7 : decode prog_4_method_10_code 7 = .ok (.arraylength, 1) := by decide +kernel
theorem dg_8 : decode prog_4_method_10_code 8 = .ok (.if_icmp .ge 14, 3) := by decide +kernel
theorem dg_11 : decode prog_4_method_10_code 11 = .ok (.aload_n 0, 1) := by decide +kernel
theorem dg_12 : decode prog_4_method_10_code 12 = .ok (.getfield 22, 3) := by decide +kernel
theorem dg_15 : decode prog_4_method_10_code 15 = .ok (.iload_n 1, 1) := by decide +kernel
theorem dg_16 : decode prog_4_method_10_code 16 = .ok (.iconst 1, 1) := by decide +kernel
theorem dg_17 : decode prog_4_method_10_code 17 = .ok (.iadd, 1) := by decide +kernel
theorem dg_18 : decode prog_4_method_10_code 18 = .ok (.laload, 1) := by decide +kernel
theorem dg_19 : decode prog_4_method_10_code 19 = .ok (.goto 7, 3) := by decide +kernel
theorem dg_22 : decode prog_4_method_10_code 22 = .ok (.aload_n 0, 1) := by decide +kernel
theorem dg_23 : decode prog_4_method_10_code 23 = .ok (.getfield 29, 3) := by decide +kernel
theorem dg_26 : decode prog_4_method_10_code 26 = .ok (.lreturn, 1) := by decide +kernel
set_option maxRecDepth 65536 in
set_option maxHeartbeats 40000000 in
theorem rm7 (l : Launch) (Z : State) (a0 : Array Value) (hw : ∀ d ∈ tables_1, d.before a0 Z = true) (o : Addr) (s' : Addr) (ln : Int64) (f : Nat → Int64) (h0 : Heap) (n0 : Nat) (Z0 : n0 ≤ h0.size) (F_o_starts : Fld Z h0 o "com/example/tightwire/tightwire/bits/BitReader" "starts" "[J" (.ref s')) (F_o_length : Fld Z h0 o "com/example/tightwire/tightwire/bits/BitReader" "length" "J" (.long ln)) (A_s' : own_AJ Z h0 s' 1 f) :
    own_C l Z (⟨"com/example/tightwire/tightwire/bits/BitReader", "end", "(I)J"⟩ : MethodName) prog_4_method_10_code 2 (some .long) [] ({ frames := 0, cells := 0, slots := 0, locals := 0 } : Room) #[.ref o, .int (0 : Int32)] h0 n0 [] (fun v h => v = some (.long ln)) 0 0 := by
  refine own_enter (L0 := #[.val (.ref o), .val (.int (0 : Int32))]) (plainFor_of_name (by first | (simp [plainName, overriddenIn]; done) | decide +kernel)) (fun m => by first | (simp [entryFrame, mkF, argsToLocals, Value.category]; done) | rfl) ?_
  intro p e s m below meth c T B X
  refine own_iloadN X B dg_0 rfl (pc' := 1) rfl ?_
  refine own_iconst X B dg_1 (v := (1 : Int32)) rfl (pc' := 2) rfl ?_
  refine own_iadd X B dg_2 (pc' := 3) rfl ?_
  refine own_aloadN X B dg_3 rfl rfl (pc' := 4) rfl ?_
  refine own_getF X B (hw _ (List.mem_of_getElem? (i := 24) rfl)) F_o_starts dg_4 (pc' := 7) rfl fun T X => ?_
  refine own_lenJ X B A_s' dg_7 (pc' := 8) rfl ?_
  refine own_icmpT X B dg_8 (flt (by decide)).2.1 (pc' := 22) (by decide) (by decide) ?_
  refine own_aloadN X B dg_22 rfl rfl (pc' := 23) rfl ?_
  refine own_getF X B (hw _ (List.mem_of_getElem? (i := 28) rfl)) F_o_length dg_23 (pc' := 26) rfl fun T X => ?_
  exact own_lret X B dg_26 (by decide) (by decide) rfl
theorem dh_0 : decode prog_4_method_5_code 0 = .ok (.aload_n 0, 1) := by decide +kernel
theorem dh_1 : decode prog_4_method_5_code 1 = .ok (.aload_n 0, 1) := by decide +kernel
theorem dh_2 : decode prog_4_method_5_code 2 = .ok (.getfield 67, 3) := by decide +kernel
theorem dh_5 : decode prog_4_method_5_code 5 = .ok (.ldc2_w 86, 3) := by decide +kernel
theorem dh_8 : decode prog_4_method_5_code 8 = .ok (.ladd, 1) := by decide +kernel
theorem dh_9 : decode prog_4_method_5_code 9 = .ok (.ldc2_w 88, 3) := by decide +kernel
theorem dh_12 : decode prog_4_method_5_code 12 = .ok (.land, 1) := by decide +kernel
theorem dh_13 : decode prog_4_method_5_code 13 = .ok (.putfield 67, 3) := by decide +kernel
theorem dh_16 : decode prog_4_method_5_code 16 = .ok (.return_, 1) := by decide +kernel
set_option maxRecDepth 65536 in
set_option maxHeartbeats 40000000 in
theorem rm8 (l : Launch) (Z : State) (a0 : Array Value) (hw : ∀ d ∈ tables_1, d.before a0 Z = true) (o : Addr) (mg : Addr) (s' : Addr) (p' : Addr) (ln : Int64) (nm : Addr) (ps : Int64) (h0 : Heap) (n0 : Nat) (Z0 : n0 ≤ h0.size) (g_o : n0 ≤ o) (E_o : Exa Z h0 o "com/example/tightwire/tightwire/bits/BitReader") (F_o_message : Fld Z h0 o "com/example/tightwire/tightwire/bits/BitReader" "message" "[B" (.ref mg)) (F_o_starts : Fld Z h0 o "com/example/tightwire/tightwire/bits/BitReader" "starts" "[J" (.ref s')) (F_o_places : Fld Z h0 o "com/example/tightwire/tightwire/bits/BitReader" "places" "[J" (.ref p')) (F_o_length : Fld Z h0 o "com/example/tightwire/tightwire/bits/BitReader" "length" "J" (.long ln)) (F_o_name : Fld Z h0 o "com/example/tightwire/tightwire/bits/BitReader" "name" "Ljava/lang/String;" (.ref nm)) (F_o_position : Fld Z h0 o "com/example/tightwire/tightwire/bits/BitReader" "position" "J" (.long ps)) (F_o_run : Fld Z h0 o "com/example/tightwire/tightwire/bits/BitReader" "run" "I" (.int (0 : Int32))) :
    own_C l Z (⟨"com/example/tightwire/tightwire/bits/BitReader", "align", "()V"⟩ : MethodName) prog_4_method_5_code 1 none [] ({ frames := 0, cells := 0, slots := 0, locals := 0 } : Room) #[.ref o] h0 n0 [o] (fun v h => v = none ∧ Fld Z h o "com/example/tightwire/tightwire/bits/BitReader" "message" "[B" (.ref mg) ∧ Fld Z h o "com/example/tightwire/tightwire/bits/BitReader" "starts" "[J" (.ref s') ∧ Fld Z h o "com/example/tightwire/tightwire/bits/BitReader" "places" "[J" (.ref p') ∧ Fld Z h o "com/example/tightwire/tightwire/bits/BitReader" "length" "J" (.long ln) ∧ Fld Z h o "com/example/tightwire/tightwire/bits/BitReader" "name" "Ljava/lang/String;" (.ref nm) ∧ Fld Z h o "com/example/tightwire/tightwire/bits/BitReader" "position" "J" (.long ((ps + (7 : Int64)) &&& (-8 : Int64))) ∧ Fld Z h o "com/example/tightwire/tightwire/bits/BitReader" "run" "I" (.int (0 : Int32))) 0 0 := by
  refine own_enter (L0 := #[.val (.ref o)]) (plainFor_of_name (by first | (simp [plainName, overriddenIn]; done) | decide +kernel)) (fun m => by first | (simp [entryFrame, mkF, argsToLocals, Value.category]; done) | rfl) ?_
  intro p e s m below meth c T B X
  refine own_aloadN X B dh_0 rfl rfl (pc' := 1) rfl ?_
  refine own_aloadN X B dh_1 rfl rfl (pc' := 2) rfl ?_
  refine own_getF X B (hw _ (List.mem_of_getElem? (i := 53) rfl)) F_o_position dh_2 (pc' := 5) rfl fun T X => ?_
  refine own_litL X B (hw _ (List.mem_of_getElem? (i := 85) rfl)) dh_5 (pc' := 8) rfl ?_
  refine own_ladd X B dh_8 (pc' := 9) rfl ?_
  refine own_litL X B (hw _ (List.mem_of_getElem? (i := 86) rfl)) dh_9 (pc' := 12) rfl ?_
  refine own_land X B dh_12 (pc' := 13) rfl ?_
  refine own_putF X B (hw _ (List.mem_of_getElem? (i := 53) rfl)) F_o_position E_o (Or.inl (hw _ (List.mem_of_getElem? (i := 54) rfl))) (hw _ (List.mem_of_getElem? (i := 5) rfl)) (ty := .long) (by decide) rfl rfl g_o (Or.inl (List.mem_of_getElem? (i := 0) rfl)) dh_13 (pc' := 16) rfl fun T h X Wr K E_o F_o_position => ?_
  replace F_o_message := F_o_message.other Wr (Or.inr (slot_ne (Or.inr (hw _ (List.mem_of_getElem? (i := 23) rfl))) (Or.inl (hw _ (List.mem_of_getElem? (i := 54) rfl))) (by decide) (t := (.array .byte)) (t' := .long) (by decide) (by decide)))
  replace F_o_starts := F_o_starts.other Wr (Or.inr (slot_ne (Or.inr (hw _ (List.mem_of_getElem? (i := 25) rfl))) (Or.inl (hw _ (List.mem_of_getElem? (i := 54) rfl))) (by decide) (t := (.array .long)) (t' := .long) (by decide) (by decide)))
  replace F_o_places := F_o_places.other Wr (Or.inr (slot_ne (Or.inr (hw _ (List.mem_of_getElem? (i := 27) rfl))) (Or.inl (hw _ (List.mem_of_getElem? (i := 54) rfl))) (by decide) (t := (.array .long)) (t' := .long) (by decide) (by decide)))
  replace F_o_length := F_o_length.other Wr (Or.inr (slot_ne (Or.inr (hw _ (List.mem_of_getElem? (i := 29) rfl))) (Or.inl (hw _ (List.mem_of_getElem? (i := 54) rfl))) (by decide) (t := .long) (t' := .long) (by decide) (by decide)))
  replace F_o_name := F_o_name.other Wr (Or.inr (slot_ne (Or.inr (hw _ (List.mem_of_getElem? (i := 31) rfl))) (Or.inl (hw _ (List.mem_of_getElem? (i := 54) rfl))) (by decide) (t := (.object "java/lang/String")) (t' := .long) (by decide) (by decide)))
  replace F_o_run := F_o_run.other Wr (Or.inr (slot_ne (Or.inl (hw _ (List.mem_of_getElem? (i := 60) rfl))) (Or.inl (hw _ (List.mem_of_getElem? (i := 54) rfl))) (by decide) (t := .int) (t' := .long) (by decide) (by decide)))
  exact own_vret X B dh_16 (by decide) (by decide) ⟨rfl, F_o_message, F_o_starts, F_o_places, F_o_length, F_o_name, F_o_position, F_o_run⟩
theorem di_0 : decode prog_4_method_7_code 0 = .ok (.aload_n 0, 1) := by decide +kernel
theorem di_1 : decode prog_4_method_7_code 1 = .ok (.invokevirtual 56, 3) := by decide +kernel
theorem di_4 : decode prog_4_method_7_code 4 = .ok (.aload_n 0, 1) := by decide +kernel
theorem di_5 : decode prog_4_method_7_code 5 = .ok (.getfield 26, 3) := by decide +kernel
theorem di_8 : decode prog_4_method_7_code 8 = .ok (.aload_n 0, 1) := by decide +kernel
theorem di_9 : decode prog_4_method_7_code 9 = .ok (.getfield 59, 3) := by decide +kernel
theorem di_12 : decode prog_4_method_7_code 12 = .ok (.laload, 1) := by decide +kernel
theorem di_13 : decode prog_4_method_7_code 13 = .ok (.aload_n 0, 1) := by decide +kernel
theorem di_14 : decode prog_4_method_7_code 14 = .ok (.getfield 67, 3) := by decide +kernel
theorem di_17 : decode prog_4_method_7_code 17 = .ok (.ladd, 1) := by decide +kernel
theorem di_18 : decode prog_4_method_7_code 18 = .ok (.aload_n 0, 1) := by decide +kernel
theorem di_19 : decode prog_4_method_7_code 19 = .ok (.getfield 22, 3) := by decide +kernel
theorem di_22 : decode prog_4_method_7_code 22 = .ok (.aload_n 0, 1) := by decide +kernel
theorem di_23 : decode prog_4_method_7_code 23 = .ok (.getfield 59, 3) := by decide +kernel
theorem di_26 : decode prog_4_method_7_code 26 = .ok (.laload, 1) := by decide +kernel
theorem di_27 : decode prog_4_method_7_code 27 = .ok (.lsub, 1) := by decide +kernel
theorem di_28 : decode prog_4_method_7_code 28 = .ok (.lreturn, 1) := by decide +kernel
set_option maxRecDepth 65536 in
set_option maxHeartbeats 40000000 in
theorem rm9 (l : Launch) (Z : State) (a0 : Array Value) (hw : ∀ d ∈ tables_1, d.before a0 Z = true) (o : Addr) (s' : Addr) (p' : Addr) (ps : Int64) (f : Nat → Int64) (g : Nat → Int64) (h0 : Heap) (n0 : Nat) (Z0 : n0 ≤ h0.size) (E_o : Exa Z h0 o "com/example/tightwire/tightwire/bits/BitReader") (F_o_run : Fld Z h0 o "com/example/tightwire/tightwire/bits/BitReader" "run" "I" (.int (0 : Int32))) (F_o_starts : Fld Z h0 o "com/example/tightwire/tightwire/bits/BitReader" "starts" "[J" (.ref s')) (F_o_places : Fld Z h0 o "com/example/tightwire/tightwire/bits/BitReader" "places" "[J" (.ref p')) (F_o_position : Fld Z h0 o "com/example/tightwire/tightwire/bits/BitReader" "position" "J" (.long ps)) (A_s' : own_AJ Z h0 s' 1 f) (A_p' : own_AJ Z h0 p' 1 g) :
    own_C l Z (⟨"com/example/tightwire/tightwire/bits/BitReader", "position", "()J"⟩ : MethodName) prog_4_method_7_code 1 (some .long) [] ({ frames := 1, cells := 0, slots := 0, locals := 13 } : Room) #[.ref o] h0 n0 [] (fun v h => v = some (.long (g 0 + ps - f 0))) 0 0 := by
  refine own_enter (L0 := #[.val (.ref o)]) (plainFor_of_name (by first | (simp [plainName, overriddenIn]; done) | decide +kernel)) (fun m => by first | (simp [entryFrame, mkF, argsToLocals, Value.category]; done) | rfl) ?_
  intro p e s m below meth c T B X
  refine own_aloadN X B di_0 rfl rfl (pc' := 1) rfl ?_
  refine own_callP X B (W := 0) (y := ({ cls := "com/example/tightwire/tightwire/bits/BitReader", name := "advance", desc := "()V" } : Jvm.MethodName)) (z := ({ cls := "com/example/tightwire/tightwire/bits/BitReader", name := "take", desc := "(JLcom/example/tightwire/tightwire/bits/BitRuns;)V" } : Jvm.MethodName)) rfl (hw _ (List.mem_of_getElem? (i := 55) rfl)) (hw _ (List.mem_of_getElem? (i := 46) rfl)) (hw _ (List.mem_of_getElem? (i := 56) rfl)) (hw _ (List.mem_of_getElem? (i := 57) rfl)) (hw _ (List.mem_of_getElem? (i := 58) rfl)) (hw _ (List.mem_of_getElem? (i := 6) rfl)) (by decide) E_o (rm6 l Z a0 hw o s' f h0 n0 (own_sz X Z0) F_o_run F_o_starts A_s') (by decide) (by decide) (by decide) (by decide) rfl (argsL := []) pd_6 rfl rfl (st := []) rfl (Nat.le_refl _) di_1 (pc' := 4) rfl all0 ?_
  rintro v T h X K rfl
  replace E_o := E_o.keep K
  replace F_o_run := F_o_run.keep K nin0
  replace F_o_starts := F_o_starts.keep K nin0
  replace F_o_places := F_o_places.keep K nin0
  replace F_o_position := F_o_position.keep K nin0
  replace A_s' := A_s'.keep K nin0
  replace A_p' := A_p'.keep K nin0
  show own_H _ _ _ _ _ _ _ _ T (mkF m 4 #[.val (.ref o)] [])
  refine own_aloadN X B di_4 rfl rfl (pc' := 5) rfl ?_
  refine own_getF X B (hw _ (List.mem_of_getElem? (i := 26) rfl)) F_o_places di_5 (pc' := 8) rfl fun T X => ?_
  refine own_aloadN X B di_8 rfl rfl (pc' := 9) rfl ?_
  refine own_getF X B (hw _ (List.mem_of_getElem? (i := 59) rfl)) F_o_run di_9 (pc' := 12) rfl fun T X => ?_
  refine own_laload X B A_p' (i := 0) rfl (by decide) di_12 (pc' := 13) rfl ?_
  show own_H _ _ _ _ _ _ _ _ T (mkF m 13 #[.val (.ref o)] [.long (g 0)])
  refine own_aloadN X B di_13 rfl rfl (pc' := 14) rfl ?_
  refine own_getF X B (hw _ (List.mem_of_getElem? (i := 53) rfl)) F_o_position di_14 (pc' := 17) rfl fun T X => ?_
  refine own_ladd X B di_17 (pc' := 18) rfl ?_
  refine own_aloadN X B di_18 rfl rfl (pc' := 19) rfl ?_
  refine own_getF X B (hw _ (List.mem_of_getElem? (i := 24) rfl)) F_o_starts di_19 (pc' := 22) rfl fun T X => ?_
  refine own_aloadN X B di_22 rfl rfl (pc' := 23) rfl ?_
  refine own_getF X B (hw _ (List.mem_of_getElem? (i := 59) rfl)) F_o_run di_23 (pc' := 26) rfl fun T X => ?_
  refine own_laload X B A_s' (i := 0) rfl (by decide) di_26 (pc' := 27) rfl ?_
  show own_H _ _ _ _ _ _ _ _ T (mkF m 27 #[.val (.ref o)] [.long (f 0), .long ((g 0) + ps)])
  refine own_lsub X B di_27 (pc' := 28) rfl ?_
  exact own_lret X B di_28 (by decide) (by decide) rfl
theorem dj_0 : decode prog_4_method_4_code 0 = .ok (.aload_n 0, 1) := by decide +kernel
theorem dj_1 : decode prog_4_method_4_code 1 = .ok (.invokevirtual 48, 3) := by decide +kernel
theorem dj_4 : decode prog_4_method_4_code 4 = .ok (.lstore 4, 2) := by decide +kernel
theorem dj_6 : decode prog_4_method_4_code 6 = .ok (.lload_n 1, 1) := by decide +kernel
theorem dj_7 : decode prog_4_method_4_code 7 = .ok (.lload 4, 2) := by decide +kernel
theorem dj_9 : decode prog_4_method_4_code 9 = .ok (.lcmp, 1) := by decide +kernel
theorem dj_10 : decode prog_4_method_4_code 10 = .ok (.ifCond .le 36, 3) := by decide +kernel
theorem dj_13 : decode prog_4_method_4_code 13 = .ok (.lload 4, 2) := by decide +kernel
theorem dj_15 : decode prog_4_method_4_code 15 = .ok (.ldc2_w 3, 3) := by decide +kernel
theorem dj_18 : decode prog_4_method_4_code 18 = .ok (.ldiv, 1) := by decide +kernel
theorem dj_19 : decode prog_4_method_4_code 19 = .ok (.ldc2_w 3, 3) := by decide +kernel
theorem dj_22 : decode prog_4_method_4_code 22 = .ok (.lmul, 1) := by decide +kernel
theorem dj_23 : decode prog_4_method_4_code 23 = .ok (.lstore 6, 2) := by decide +kernel
theorem dj_25 : decode prog_4_method_4_code 25 = .ok (.aload_n 0, 1) := by decide +kernel
theorem dj_26 : decode prog_4_method_4_code 26 = .ok (.ldc2_w 3, 3) := by decide +kernel
theorem dj_29 : decode prog_4_method_4_code 29 = .ok (.lload_n 1, 1) := by decide +kernel
theorem dj_30 : decode prog_4_method_4_code 30 = .ok (.lload 6, 2) := by decide +kernel
theorem dj_32 : decode prog_4_method_4_code 32 = .ok (.lsub, 1) := by decide +kernel
theorem dj_33 : decode prog_4_method_4_code 33 = .ok (.invokestatic 70, 3) := by decide +kernel
theorem dj_36 : decode prog_4_method_4_code 36 = .ok (.l2i, 1) := by decide +kernel
theorem dj_37 : decode prog_4_method_4_code 37 = .ok (.lload 4, 2) := by decide +kernel
theorem dj_39 : decode prog_4_method_4_code 39 = .ok (.lload 6, 2) := by decide +kernel
theorem dj_41 : decode prog_4_method_4_code 41 = .ok (.lsub, 1) := by decide +kernel
theorem dj_42 : decode prog_4_method_4_code 42 = .ok (.invokevirtual 52, 3) := by decide +kernel
theorem dj_45 : decode prog_4_method_4_code 45 = .ok (.athrow, 1) := by decide +kernel
theorem dj_46 : decode prog_4_method_4_code 46 = .ok (.lload_n 1, 1) := by decide +kernel
theorem dj_47 : decode prog_4_method_4_code 47 = .ok (.lstore 4, 2) := by decide +kernel
theorem dj_49 : decode prog_4_method_4_code 49 = .ok (.aload_n 0, 1) := by decide +kernel
theorem dj_50 : decode prog_4_method_4_code 50 = .ok (.invokevirtual 56, 3) := by decide +kernel
theorem dj_53 : decode prog_4_method_4_code 53 = .ok (.lload 4, 2) := by decide +kernel
theorem dj_55 : decode prog_4_method_4_code 55 = .ok (.aload_n 0, 1) := by decide +kernel
theorem dj_56 : decode prog_4_method_4_code 56 = .ok (.aload_n 0, 1) := by decide +kernel
theorem dj_57 : decode prog_4_method_4_code 57 = .ok (.getfield 59, 3) := by decide +kernel
theorem dj_60 : decode prog_4_method_4_code 60 = .ok (.invokevirtual 63, 3) := by decide +kernel
theorem dj_63 : decode prog_4_method_4_code 63 = .ok (.aload_n 0, 1) := by decide +kernel
theorem dj_64 : decode prog_4_method_4_code 64 = .ok (.getfield 67, 3) := by decide +kernel
theorem dj_67 : decode prog_4_method_4_code 67 = .ok (.lsub, 1) := by decide +kernel
theorem dj_68 : decode prog_4_method_4_code 68 = .ok (.invokestatic 70, 3) := by decide +kernel
theorem dj_71 : decode prog_4_method_4_code 71 = .ok (.lstore 6, 2) := by decide +kernel
theorem dj_73 : decode prog_4_method_4_code 73 = .ok (.aload_n 3, 1) := by decide +kernel
theorem dj_74 : decode prog_4_method_4_code 74 = .ok (.aload_n 0, 1) := by decide +kernel
theorem dj_75 : decode prog_4_method_4_code 75 = .ok (.getfield 18, 3) := by decide +kernel
theorem dj_78 : decode prog_4_method_4_code 78 = .ok (.aload_n 0, 1) := by decide +kernel
theorem dj_79 : decode prog_4_method_4_code 79 = .ok (.getfield 26, 3) := by decide +kernel
theorem dj_82 : decode prog_4_method_4_code 82 = .ok (.aload_n 0, 1) := by decide +kernel
theorem dj_83 : decode prog_4_method_4_code 83 = .ok (.getfield 59, 3) := by decide +kernel
theorem dj_86 : decode prog_4_method_4_code 86 = .ok (.laload, 1) := by decide +kernel
theorem dj_87 : decode prog_4_method_4_code 87 = .ok (.aload_n 0, 1) := by decide +kernel
theorem dj_88 : decode prog_4_method_4_code 88 = .ok (.getfield 67, 3) := by decide +kernel
theorem dj_91 : decode prog_4_method_4_code 91 = .ok (.ladd, 1) := by decide +kernel
theorem dj_92 : decode prog_4_method_4_code 92 = .ok (.aload_n 0, 1) := by decide +kernel
theorem dj_93 : decode prog_4_method_4_code 93 = .ok (.getfield 22, 3) := by decide +kernel
theorem dj_96 : decode prog_4_method_4_code 96 = .ok (.aload_n 0, 1) := by decide +kernel
theorem dj_97 : decode prog_4_method_4_code 97 = .ok (.getfield 59, 3) := by decide +kernel
theorem dj_100 : decode prog_4_method_4_code 100 = .ok (.laload, 1) := by decide +kernel
theorem dj_101 : decode prog_4_method_4_code 101 = .ok (.lsub, 1) := by decide +kernel
theorem dj_102 : decode prog_4_method_4_code 102 = .ok (.lload 6, 2) := by decide +kernel
theorem dj_104 : decode prog_4_method_4_code 104 = .ok (.invokevirtual 80, 3) := by decide +kernel
theorem dj_107 : decode prog_4_method_4_code 107 = .ok (.aload_n 0, 1) := by decide +kernel
theorem dj_108 : decode prog_4_method_4_code 108 = .ok (.dup, 1) := by decide +kernel
theorem dj_109 : decode prog_4_method_4_code 109 = .ok (.getfield 67, 3) := by decide +kernel
theorem dj_112 : decode prog_4_method_4_code 112 = .ok (.lload 6, 2) := by decide +kernel
theorem dj_114 : decode prog_4_method_4_code 114 = .ok (.ladd, 1) := by decide +kernel
theorem dj_115 : decode prog_4_method_4_code 115 = .ok (.putfield 67, 3) := by decide +kernel
theorem dj_118 : decode prog_4_method_4_code 118 = .ok (.lload 4, 2) := by decide +kernel
theorem dj_120 : decode prog_4_method_4_code 120 = .ok (.lload 6, 2) := by decide +kernel
theorem dj_122 : decode prog_4_method_4_code 122 = .ok (.lsub, 1) := by decide +kernel
theorem dj_123 : decode prog_4_method_4_code 123 = .ok (.lstore 4, 2) := by decide +kernel
theorem dj_125 : decode prog_4_method_4_code 125 = .ok (.lload 4, 2) := by decide +kernel
theorem dj_127 : decode prog_4_method_4_code 127 = .ok (.lconst 0, 1) := by decide +kernel
theorem dj_128 : decode prog_4_method_4_code 128 = .ok (.lcmp, 1) := by decide +kernel
theorem dj_129 : decode prog_4_method_4_code 129 = .ok (.ifCond .gt (-80), 3) := by decide +kernel
theorem dj_132 : decode prog_4_method_4_code 132 = .ok (.return_, 1) := by decide +kernel
set_option maxRecDepth 65536 in
set_option maxHeartbeats 40000000 in
theorem rm10 (l : Launch) (Z : State) (a0 : Array Value) (hw : ∀ d ∈ tables_1, d.before a0 Z = true) (o : Addr) (mg : Addr) (s' : Addr) (p' : Addr) (ln : Int64) (nm : Addr) (b : Addr) (r : Addr) (t : Addr) (f : Nat → Int64) (g : Nat → Int64) (gs : Nat → Int64) (gp : Nat → Int64) (cn : Int64) (h0 : Heap) (n0 : Nat) (Z0 : n0 ≤ h0.size) (g_o : n0 ≤ o) (g_b : n0 ≤ b) (g_r : n0 ≤ r) (g_t : n0 ≤ t) (n_o_s' : o ≠ s') (n_o_p' : o ≠ p') (n_o_b : o ≠ b) (n_o_r : o ≠ r) (n_o_t : o ≠ t) (n_s'_p' : s' ≠ p') (n_s'_b : s' ≠ b) (n_s'_r : s' ≠ r) (n_s'_t : s' ≠ t) (n_p'_b : p' ≠ b) (n_p'_r : p' ≠ r) (n_p'_t : p' ≠ t) (n_b_r : b ≠ r) (n_b_t : b ≠ t) (n_r_t : r ≠ t) (E_o : Exa Z h0 o "com/example/tightwire/tightwire/bits/BitReader") (F_o_message : Fld Z h0 o "com/example/tightwire/tightwire/bits/BitReader" "message" "[B" (.ref mg)) (F_o_starts : Fld Z h0 o "com/example/tightwire/tightwire/bits/BitReader" "starts" "[J" (.ref s')) (F_o_places : Fld Z h0 o "com/example/tightwire/tightwire/bits/BitReader" "places" "[J" (.ref p')) (F_o_length : Fld Z h0 o "com/example/tightwire/tightwire/bits/BitReader" "length" "J" (.long ln)) (F_o_name : Fld Z h0 o "com/example/tightwire/tightwire/bits/BitReader" "name" "Ljava/lang/String;" (.ref nm)) (F_o_position : Fld Z h0 o "com/example/tightwire/tightwire/bits/BitReader" "position" "J" (.long (0 : Int64))) (F_o_run : Fld Z h0 o "com/example/tightwire/tightwire/bits/BitReader" "run" "I" (.int (0 : Int32))) (A_s' : own_AJ Z h0 s' 1 f) (A_p' : own_AJ Z h0 p' 1 g) (E_b : Exa Z h0 b "com/example/tightwire/tightwire/bits/BitRuns") (F_b_message : Fld Z h0 b "com/example/tightwire/tightwire/bits/BitRuns" "message" "[B" .null) (F_b_starts : Fld Z h0 b "com/example/tightwire/tightwire/bits/BitRuns" "starts" "[J" (.ref r)) (F_b_places : Fld Z h0 b "com/example/tightwire/tightwire/bits/BitRuns" "places" "[J" (.ref t)) (F_b_runs : Fld Z h0 b "com/example/tightwire/tightwire/bits/BitRuns" "runs" "I" (.int (0 : Int32))) (F_b_length : Fld Z h0 b "com/example/tightwire/tightwire/bits/BitRuns" "length" "J" (.long (0 : Int64))) (A_r : own_AJ Z h0 r 1 gs) (A_t : own_AJ Z h0 t 1 gp) (hcn : ¬ ln < cn) :
    own_C l Z (⟨"com/example/tightwire/tightwire/bits/BitReader", "take", "(JLcom/example/tightwire/tightwire/bits/BitRuns;)V"⟩ : MethodName) prog_4_method_4_code 8 none [] ({ frames := 1, cells := 0, slots := 0, locals := 30 } : Room) #[.ref o, .long cn, .ref b] h0 n0 [o, b, r, t] (fun v h => v = none ∧ Fld Z h o "com/example/tightwire/tightwire/bits/BitReader" "message" "[B" (.ref mg) ∧ Fld Z h o "com/example/tightwire/tightwire/bits/BitReader" "starts" "[J" (.ref s') ∧ Fld Z h o "com/example/tightwire/tightwire/bits/BitReader" "places" "[J" (.ref p') ∧ Fld Z h o "com/example/tightwire/tightwire/bits/BitReader" "length" "J" (.long ln) ∧ Fld Z h o "com/example/tightwire/tightwire/bits/BitReader" "name" "Ljava/lang/String;" (.ref nm) ∧ Fld Z h o "com/example/tightwire/tightwire/bits/BitReader" "position" "J" (.long cn) ∧ Fld Z h o "com/example/tightwire/tightwire/bits/BitReader" "run" "I" (.int (0 : Int32))) 0 0 := by
  refine own_enter (L0 := #[.val (.ref o), .val (.long cn), .second, .val (.ref b), .unset, .unset, .unset, .unset]) (plainFor_of_name (by first | (simp [plainName, overriddenIn]; done) | decide +kernel)) (fun m => by first | (simp [entryFrame, mkF, argsToLocals, Value.category]; done) | rfl) ?_
  intro p e s m below meth c T B X
  have hln0 : ln - (0 : Int64) = ln := Int64.sub_zero ln
  refine own_aloadN X B dj_0 rfl rfl (pc' := 1) rfl ?_
  refine own_callV X B (W := 0) (hw _ (List.mem_of_getElem? (i := 48) rfl)) (hw _ (List.mem_of_getElem? (i := 49) rfl)) (hw _ (List.mem_of_getElem? (i := 51) rfl)) (hw _ (List.mem_of_getElem? (i := 50) rfl)) (hw _ (List.mem_of_getElem? (i := 52) rfl)) (hw _ (List.mem_of_getElem? (i := 6) rfl)) (by decide) E_o (rm5 l Z a0 hw o ln (0 : Int64) h0 n0 (own_sz X Z0) F_o_length F_o_position) (by decide) (by decide) (by decide) (by decide) rfl (argsL := []) pd_5 rfl rfl (st := []) rfl (Nat.le_refl _) dj_1 (pc' := 4) rfl all0 ?_
  rintro v T h X K rfl
  replace E_o := E_o.keep K
  replace F_o_message := F_o_message.keep K nin0
  replace F_o_starts := F_o_starts.keep K nin0
  replace F_o_places := F_o_places.keep K nin0
  replace F_o_length := F_o_length.keep K nin0
  replace F_o_name := F_o_name.keep K nin0
  replace F_o_position := F_o_position.keep K nin0
  replace F_o_run := F_o_run.keep K nin0
  replace A_s' := A_s'.keep K nin0
  replace A_p' := A_p'.keep K nin0
  replace E_b := E_b.keep K
  replace F_b_message := F_b_message.keep K nin0
  replace F_b_starts := F_b_starts.keep K nin0
  replace F_b_places := F_b_places.keep K nin0
  replace F_b_runs := F_b_runs.keep K nin0
  replace F_b_length := F_b_length.keep K nin0
  replace A_r := A_r.keep K nin0
  replace A_t := A_t.keep K nin0
  show own_H _ _ _ _ _ _ _ _ T (mkF m 4 #[.val (.ref o), .val (.long cn), .second, .val (.ref b), .unset, .unset, .unset, .unset] [.long (ln - (0 : Int64))])
  rw [hln0]
  refine own_lstore X B dj_4 (L' := #[.val (.ref o), .val (.long cn), .second, .val (.ref b), .val (.long ln), .second, .unset, .unset]) rfl (pc' := 6) rfl ?_
  refine own_lloadN X B dj_6 rfl (pc' := 7) rfl ?_
  refine own_lload X B dj_7 rfl (pc' := 9) rfl ?_
  refine own_lcmp X B dj_9 (pc' := 10) rfl ?_
  refine own_ifT X B dj_10 (flt (fun q => hcn ((lw_gt _ _).mp q))).2.2.2 (pc' := 46) (by decide) (by decide) ?_
  refine own_lloadN X B dj_46 rfl (pc' := 47) rfl ?_
  refine own_lstore X B dj_47 (L' := #[.val (.ref o), .val (.long cn), .second, .val (.ref b), .val (.long cn), .second, .unset, .unset]) rfl (pc' := 49) rfl ?_
  refine own_aloadN X B dj_49 rfl rfl (pc' := 50) rfl ?_
  refine own_callP X B (W := 0) (y := ({ cls := "com/example/tightwire/tightwire/bits/BitReader", name := "advance", desc := "()V" } : Jvm.MethodName)) (z := ({ cls := "com/example/tightwire/tightwire/bits/BitReader", name := "take", desc := "(JLcom/example/tightwire/tightwire/bits/BitRuns;)V" } : Jvm.MethodName)) rfl (hw _ (List.mem_of_getElem? (i := 55) rfl)) (hw _ (List.mem_of_getElem? (i := 46) rfl)) (hw _ (List.mem_of_getElem? (i := 56) rfl)) (hw _ (List.mem_of_getElem? (i := 57) rfl)) (hw _ (List.mem_of_getElem? (i := 58) rfl)) (hw _ (List.mem_of_getElem? (i := 6) rfl)) (by decide) E_o (rm6 l Z a0 hw o s' f h n0 (own_sz X Z0) F_o_run F_o_starts A_s') (by decide) (by decide) (by decide) (by decide) rfl (argsL := []) pd_6 rfl rfl (st := []) rfl (Nat.le_refl _) dj_50 (pc' := 53) rfl all0 ?_
  rintro v T h X K rfl
  replace E_o := E_o.keep K
  replace F_o_message := F_o_message.keep K nin0
  replace F_o_starts := F_o_starts.keep K nin0
  replace F_o_places := F_o_places.keep K nin0
  replace F_o_length := F_o_length.keep K nin0
  replace F_o_name := F_o_name.keep K nin0
  replace F_o_position := F_o_position.keep K nin0
  replace F_o_run := F_o_run.keep K nin0
  replace A_s' := A_s'.keep K nin0
  replace A_p' := A_p'.keep K nin0
  replace E_b := E_b.keep K
  replace F_b_message := F_b_message.keep K nin0
  replace F_b_starts := F_b_starts.keep K nin0
  replace F_b_places := F_b_places.keep K nin0
  replace F_b_runs := F_b_runs.keep K nin0
  replace F_b_length := F_b_length.keep K nin0
  replace A_r := A_r.keep K nin0
  replace A_t := A_t.keep K nin0
  show own_H _ _ _ _ _ _ _ _ T (mkF m 53 #[.val (.ref o), .val (.long cn), .second, .val (.ref b), .val (.long cn), .second, .unset, .unset] [])
  refine own_lload X B dj_53 rfl (pc' := 55) rfl ?_
  refine own_aloadN X B dj_55 rfl rfl (pc' := 56) rfl ?_
  refine own_aloadN X B dj_56 rfl rfl (pc' := 57) rfl ?_
  refine own_getF X B (hw _ (List.mem_of_getElem? (i := 59) rfl)) F_o_run dj_57 (pc' := 60) rfl fun T X => ?_
  refine own_callP X B (W := 2) (y := ({ cls := "com/example/tightwire/tightwire/bits/BitReader", name := "end", desc := "(I)J" } : Jvm.MethodName)) (z := ({ cls := "com/example/tightwire/tightwire/bits/BitReader", name := "take", desc := "(JLcom/example/tightwire/tightwire/bits/BitRuns;)V" } : Jvm.MethodName)) rfl (hw _ (List.mem_of_getElem? (i := 61) rfl)) (hw _ (List.mem_of_getElem? (i := 46) rfl)) (hw _ (List.mem_of_getElem? (i := 62) rfl)) (hw _ (List.mem_of_getElem? (i := 63) rfl)) (hw _ (List.mem_of_getElem? (i := 64) rfl)) (hw _ (List.mem_of_getElem? (i := 6) rfl)) (by decide) E_o (rm7 l Z a0 hw o s' ln f h n0 (own_sz X Z0) F_o_starts F_o_length A_s') (by decide) (by decide) (by decide) (by decide) rfl (argsL := [.int (0 : Int32)]) pd_7 rfl rfl (st := [.long cn]) rfl (Nat.le_refl _) dj_60 (pc' := 63) rfl all0 ?_
  rintro v T h X K rfl
  replace E_o := E_o.keep K
  replace F_o_message := F_o_message.keep K nin0
  replace F_o_starts := F_o_starts.keep K nin0
  replace F_o_places := F_o_places.keep K nin0
  replace F_o_length := F_o_length.keep K nin0
  replace F_o_name := F_o_name.keep K nin0
  replace F_o_position := F_o_position.keep K nin0
  replace F_o_run := F_o_run.keep K nin0
  replace A_s' := A_s'.keep K nin0
  replace A_p' := A_p'.keep K nin0
  replace E_b := E_b.keep K
  replace F_b_message := F_b_message.keep K nin0
  replace F_b_starts := F_b_starts.keep K nin0
  replace F_b_places := F_b_places.keep K nin0
  replace F_b_runs := F_b_runs.keep K nin0
  replace F_b_length := F_b_length.keep K nin0
  replace A_r := A_r.keep K nin0
  replace A_t := A_t.keep K nin0
  show own_H _ _ _ _ _ _ _ _ T (mkF m 63 #[.val (.ref o), .val (.long cn), .second, .val (.ref b), .val (.long cn), .second, .unset, .unset] [.long ln, .long cn])
  refine own_aloadN X B dj_63 rfl rfl (pc' := 64) rfl ?_
  refine own_getF X B (hw _ (List.mem_of_getElem? (i := 53) rfl)) F_o_position dj_64 (pc' := 67) rfl fun T X => ?_
  refine own_lsub X B dj_67 (pc' := 68) rfl ?_
  rw [hln0]
  refine own_callS X B (W := 0) (hw _ (List.mem_of_getElem? (i := 65) rfl)) (hw _ (List.mem_of_getElem? (i := 66) rfl)) (hw _ (List.mem_of_getElem? (i := 67) rfl)) (hw _ (List.mem_of_getElem? (i := 68) rfl)) (by decide) (rm1 l Z a0 hw cn ln h n0 (own_sz X Z0)) (by decide) (by decide) (by decide) (by decide) rfl (argsL := [.long cn, .long ln]) pd_8 rfl rfl (st := []) rfl (Nat.le_refl _) dj_68 (pc' := 71) rfl all0 ?_
  rintro v T h X K rfl
  replace E_o := E_o.keep K
  replace F_o_message := F_o_message.keep K nin0
  replace F_o_starts := F_o_starts.keep K nin0
  replace F_o_places := F_o_places.keep K nin0
  replace F_o_length := F_o_length.keep K nin0
  replace F_o_name := F_o_name.keep K nin0
  replace F_o_position := F_o_position.keep K nin0
  replace F_o_run := F_o_run.keep K nin0
  replace A_s' := A_s'.keep K nin0
  replace A_p' := A_p'.keep K nin0
  replace E_b := E_b.keep K
  replace F_b_message := F_b_message.keep K nin0
  replace F_b_starts := F_b_starts.keep K nin0
  replace F_b_places := F_b_places.keep K nin0
  replace F_b_runs := F_b_runs.keep K nin0
  replace F_b_length := F_b_length.keep K nin0
  replace A_r := A_r.keep K nin0
  replace A_t := A_t.keep K nin0
  show own_H _ _ _ _ _ _ _ _ T (mkF m 71 #[.val (.ref o), .val (.long cn), .second, .val (.ref b), .val (.long cn), .second, .unset, .unset] [.long (if ln < cn then ln else cn)])
  rw [if_neg hcn]
  refine own_lstore X B dj_71 (L' := #[.val (.ref o), .val (.long cn), .second, .val (.ref b), .val (.long cn), .second, .val (.long cn), .second]) rfl (pc' := 73) rfl ?_
  refine own_aloadN X B dj_73 rfl rfl (pc' := 74) rfl ?_
  refine own_aloadN X B dj_74 rfl rfl (pc' := 75) rfl ?_
  refine own_getF X B (hw _ (List.mem_of_getElem? (i := 22) rfl)) F_o_message dj_75 (pc' := 78) rfl fun T X => ?_
  refine own_aloadN X B dj_78 rfl rfl (pc' := 79) rfl ?_
  refine own_getF X B (hw _ (List.mem_of_getElem? (i := 26) rfl)) F_o_places dj_79 (pc' := 82) rfl fun T X => ?_
  refine own_aloadN X B dj_82 rfl rfl (pc' := 83) rfl ?_
  refine own_getF X B (hw _ (List.mem_of_getElem? (i := 59) rfl)) F_o_run dj_83 (pc' := 86) rfl fun T X => ?_
  refine own_laload X B A_p' (i := 0) rfl (by decide) dj_86 (pc' := 87) rfl ?_
  show own_H _ _ _ _ _ _ _ _ T (mkF m 87 #[.val (.ref o), .val (.long cn), .second, .val (.ref b), .val (.long cn), .second, .val (.long cn), .second] [.long (g 0), .ref mg, .ref b])
  refine own_aloadN X B dj_87 rfl rfl (pc' := 88) rfl ?_
  refine own_getF X B (hw _ (List.mem_of_getElem? (i := 53) rfl)) F_o_position dj_88 (pc' := 91) rfl fun T X => ?_
  refine own_ladd X B dj_91 (pc' := 92) rfl ?_
  refine own_aloadN X B dj_92 rfl rfl (pc' := 93) rfl ?_
  refine own_getF X B (hw _ (List.mem_of_getElem? (i := 24) rfl)) F_o_starts dj_93 (pc' := 96) rfl fun T X => ?_
  refine own_aloadN X B dj_96 rfl rfl (pc' := 97) rfl ?_
  refine own_getF X B (hw _ (List.mem_of_getElem? (i := 59) rfl)) F_o_run dj_97 (pc' := 100) rfl fun T X => ?_
  refine own_laload X B A_s' (i := 0) rfl (by decide) dj_100 (pc' := 101) rfl ?_
  show own_H _ _ _ _ _ _ _ _ T (mkF m 101 #[.val (.ref o), .val (.long cn), .second, .val (.ref b), .val (.long cn), .second, .val (.long cn), .second] [.long (f 0), .long ((g 0) + (0 : Int64)), .ref mg, .ref b])
  refine own_lsub X B dj_101 (pc' := 102) rfl ?_
  refine own_lload X B dj_102 rfl (pc' := 104) rfl ?_
  refine own_callV X B (W := 0) (hw _ (List.mem_of_getElem? (i := 69) rfl)) (hw _ (List.mem_of_getElem? (i := 70) rfl)) (hw _ (List.mem_of_getElem? (i := 72) rfl)) (hw _ (List.mem_of_getElem? (i := 71) rfl)) (hw _ (List.mem_of_getElem? (i := 73) rfl)) (hw _ (List.mem_of_getElem? (i := 34) rfl)) (by decide) E_b (rm3 l Z a0 hw b r t mg gs gp (((g 0) + (0 : Int64)) - (f 0)) cn h n0 (own_sz X Z0) g_b g_r g_t n_b_r n_b_t n_r_t E_b F_b_message F_b_starts F_b_places F_b_runs F_b_length A_r A_t) (by decide) (by decide) (by decide) (by decide) rfl (argsL := [.ref mg, .long (((g 0) + (0 : Int64)) - (f 0)), .long cn]) pd_9 rfl rfl (st := []) rfl (Nat.le_refl _) dj_104 (pc' := 107) rfl (allS (Or.inl (List.mem_of_getElem? (i := 1) rfl)) (allS (Or.inl (List.mem_of_getElem? (i := 2) rfl)) (allS (Or.inl (List.mem_of_getElem? (i := 3) rfl)) all0))) ?_
  rintro v T h X K rfl
  replace E_o := E_o.keep K
  replace F_o_message := F_o_message.keep K (ninS n_o_b (ninS n_o_r (ninS n_o_t nin0)))
  replace F_o_starts := F_o_starts.keep K (ninS n_o_b (ninS n_o_r (ninS n_o_t nin0)))
  replace F_o_places := F_o_places.keep K (ninS n_o_b (ninS n_o_r (ninS n_o_t nin0)))
  replace F_o_length := F_o_length.keep K (ninS n_o_b (ninS n_o_r (ninS n_o_t nin0)))
  replace F_o_name := F_o_name.keep K (ninS n_o_b (ninS n_o_r (ninS n_o_t nin0)))
  replace F_o_position := F_o_position.keep K (ninS n_o_b (ninS n_o_r (ninS n_o_t nin0)))
  replace F_o_run := F_o_run.keep K (ninS n_o_b (ninS n_o_r (ninS n_o_t nin0)))
  replace A_s' := A_s'.keep K (ninS n_s'_b (ninS n_s'_r (ninS n_s'_t nin0)))
  replace A_p' := A_p'.keep K (ninS n_p'_b (ninS n_p'_r (ninS n_p'_t nin0)))
  replace E_b := E_b.keep K
  show own_H _ _ _ _ _ _ _ _ T (mkF m 107 #[.val (.ref o), .val (.long cn), .second, .val (.ref b), .val (.long cn), .second, .val (.long cn), .second] [])
  refine own_aloadN X B dj_107 rfl rfl (pc' := 108) rfl ?_
  refine own_dup X B dj_108 rfl (pc' := 109) rfl ?_
  refine own_getF X B (hw _ (List.mem_of_getElem? (i := 53) rfl)) F_o_position dj_109 (pc' := 112) rfl fun T X => ?_
  refine own_lload X B dj_112 rfl (pc' := 114) rfl ?_
  refine own_ladd X B dj_114 (pc' := 115) rfl ?_
  rw [Int64.zero_add]
  refine own_putF X B (hw _ (List.mem_of_getElem? (i := 53) rfl)) F_o_position E_o (Or.inl (hw _ (List.mem_of_getElem? (i := 54) rfl))) (hw _ (List.mem_of_getElem? (i := 5) rfl)) (ty := .long) (by decide) rfl rfl g_o (Or.inl (List.mem_of_getElem? (i := 0) rfl)) dj_115 (pc' := 118) rfl fun T h X Wr K E_o F_o_position => ?_
  replace F_o_message := F_o_message.other Wr (Or.inr (slot_ne (Or.inr (hw _ (List.mem_of_getElem? (i := 23) rfl))) (Or.inl (hw _ (List.mem_of_getElem? (i := 54) rfl))) (by decide) (t := (.array .byte)) (t' := .long) (by decide) (by decide)))
  replace F_o_starts := F_o_starts.other Wr (Or.inr (slot_ne (Or.inr (hw _ (List.mem_of_getElem? (i := 25) rfl))) (Or.inl (hw _ (List.mem_of_getElem? (i := 54) rfl))) (by decide) (t := (.array .long)) (t' := .long) (by decide) (by decide)))
  replace F_o_places := F_o_places.other Wr (Or.inr (slot_ne (Or.inr (hw _ (List.mem_of_getElem? (i := 27) rfl))) (Or.inl (hw _ (List.mem_of_getElem? (i := 54) rfl))) (by decide) (t := (.array .long)) (t' := .long) (by decide) (by decide)))
  replace F_o_length := F_o_length.other Wr (Or.inr (slot_ne (Or.inr (hw _ (List.mem_of_getElem? (i := 29) rfl))) (Or.inl (hw _ (List.mem_of_getElem? (i := 54) rfl))) (by decide) (t := .long) (t' := .long) (by decide) (by decide)))
  replace F_o_name := F_o_name.other Wr (Or.inr (slot_ne (Or.inr (hw _ (List.mem_of_getElem? (i := 31) rfl))) (Or.inl (hw _ (List.mem_of_getElem? (i := 54) rfl))) (by decide) (t := (.object "java/lang/String")) (t' := .long) (by decide) (by decide)))
  replace F_o_run := F_o_run.other Wr (Or.inr (slot_ne (Or.inl (hw _ (List.mem_of_getElem? (i := 60) rfl))) (Or.inl (hw _ (List.mem_of_getElem? (i := 54) rfl))) (by decide) (t := .int) (t' := .long) (by decide) (by decide)))
  replace A_s' := A_s'.keep K (ninS (Ne.symm n_o_s') nin0)
  replace A_p' := A_p'.keep K (ninS (Ne.symm n_o_p') nin0)
  replace E_b := E_b.keep K
  refine own_lload X B dj_118 rfl (pc' := 120) rfl ?_
  refine own_lload X B dj_120 rfl (pc' := 122) rfl ?_
  refine own_lsub X B dj_122 (pc' := 123) rfl ?_
  refine own_lstore X B dj_123 (L' := #[.val (.ref o), .val (.long cn), .second, .val (.ref b), .val (.long (cn - cn)), .second, .val (.long cn), .second]) rfl (pc' := 125) rfl ?_
  refine own_lload X B dj_125 rfl (pc' := 127) rfl ?_
  refine own_lconst X B dj_127 (v := (0 : Int64)) rfl (pc' := 128) rfl ?_
  refine own_lcmp X B dj_128 (pc' := 129) rfl ?_
  refine own_ifF X B dj_129 (flt (fun q => by
    have q1 := (lw_gt _ _).mp q
    rw [Int64.sub_self] at q1
    exact Int64.lt_irrefl q1)).2.2.1 (pc' := 132) rfl ?_
  exact own_vret X B dj_132 (by decide) (by decide) ⟨rfl, F_o_message, F_o_starts, F_o_places, F_o_length, F_o_name, F_o_position, F_o_run⟩
set_option maxRecDepth 65536 in
set_option maxHeartbeats 40000000 in
theorem rm0 (l : Launch) (Z : State) (a0 : Array Value) (hw : ∀ d ∈ tables_1, d.before a0 Z = true) (k1 k2 k3 : Int64) (h0 : Heap) (n0 : Nat) (Z0 : n0 ≤ h0.size) (Z1 : h0.size ≤ n0) :
    MetFree l x (head1 (Jvm.Cond.code x code maxLocals ret :: tables_1) room_1) (fun a U => a = #[.long k1, .long k2, .long k3] ∧ Z.Warmed39 U.vm ∧ U.heap = h0) (fun _ _ _ _ _ => True) (fun _ U o U' => ∃ v L, o = .returned v ∧ (Fr n0 L ∧ Keep h0 U'.heap [] ∧ (fun v h => v = some (.int 1)) v U'.heap) ∧ ReturnedEndW U o U' L 24 1152) := by
  refine own_enterW (Q := fun v h => v = some (.int 1)) (L0 := #[.val (.long k1), .second, .val (.long k2), .second, .val (.long k3), .second, .unset, .unset, .unset, .unset, .unset, .unset, .unset, .unset, .unset, .unset, .unset, .unset, .unset, .unset, .unset]) (plainFor_of_name (by first | (simp [plainName, overriddenIn]; done) | decide +kernel)) (fun m => by first | (simp [entryFrame, mkF, argsToLocals, Value.category, maxLocals]; done) | rfl) ?_
  intro p e s m below meth c T B X
  refine own_lloadN X B at_0 rfl (pc' := 1) rfl ?_
  refine own_litL X B (hw _ (List.mem_of_getElem? (i := 0) rfl)) at_1 (pc' := 4) rfl ?_
  refine own_land X B at_4 (pc' := 5) rfl ?_
  obtain ⟨ln, hln⟩ : ∃ z : Int64, z = (k1 &&& (4611686018427387896 : Int64)) := ⟨_, rfl⟩
  rw [← hln]
  refine own_lstore X B at_5 (L' := #[.val (.long k1), .second, .val (.long k2), .second, .val (.long k3), .second, .val (.long ln), .second, .unset, .unset, .unset, .unset, .unset, .unset, .unset, .unset, .unset, .unset, .unset, .unset, .unset]) rfl (pc' := 7) rfl ?_
  refine own_lload X B at_7 rfl (pc' := 9) rfl ?_
  refine own_litL X B (hw _ (List.mem_of_getElem? (i := 1) rfl)) at_9 (pc' := 12) rfl ?_
  refine own_land X B at_12 (pc' := 13) rfl ?_
  obtain ⟨plc, hpl⟩ : ∃ z : Int64, z = (k3 &&& (4294967295 : Int64)) := ⟨_, rfl⟩
  rw [← hpl]
  refine own_lstore X B at_13 (L' := #[.val (.long k1), .second, .val (.long k2), .second, .val (.long k3), .second, .val (.long ln), .second, .val (.long plc), .second, .unset, .unset, .unset, .unset, .unset, .unset, .unset, .unset, .unset, .unset, .unset]) rfl (pc' := 15) rfl ?_
  refine own_lloadN X B at_15 rfl (pc' := 16) rfl ?_
  refine own_litL X B (hw _ (List.mem_of_getElem? (i := 2) rfl)) at_16 (pc' := 19) rfl ?_
  refine own_land X B at_19 (pc' := 20) rfl ?_
  refine own_lload X B at_20 rfl (pc' := 22) rfl ?_
  refine own_lconst X B at_22 (v := (1 : Int64)) rfl (pc' := 23) rfl ?_
  refine own_ladd X B at_23 (pc' := 24) rfl ?_
  refine own_lrem X B at_24 (own_len1 hln) (pc' := 25) rfl ?_
  obtain ⟨cn, hcn⟩ : ∃ z : Int64, z = ((k2 &&& (9223372036854775807 : Int64)) % (ln + (1 : Int64))) := ⟨_, rfl⟩
  rw [← hcn]
  have hb := own_bounds hln hcn
  refine own_lstore X B at_25 (L' := #[.val (.long k1), .second, .val (.long k2), .second, .val (.long k3), .second, .val (.long ln), .second, .val (.long plc), .second, .val (.long cn), .second, .unset, .unset, .unset, .unset, .unset, .unset, .unset, .unset, .unset]) rfl (pc' := 27) rfl ?_
  refine own_lload X B at_27 rfl (pc' := 29) rfl ?_
  refine own_litL X B (hw _ (List.mem_of_getElem? (i := 3) rfl)) at_29 (pc' := 32) rfl ?_
  refine own_land X B at_32 (pc' := 33) rfl ?_
  refine own_lstore X B at_33 (L' := #[.val (.long k1), .second, .val (.long k2), .second, .val (.long k3), .second, .val (.long ln), .second, .val (.long plc), .second, .val (.long cn), .second, .val (.long (cn &&& (7 : Int64))), .second, .unset, .unset, .unset, .unset, .unset, .unset, .unset]) rfl (pc' := 35) rfl ?_
  refine own_lload X B at_35 rfl (pc' := 37) rfl ?_
  refine own_lconst X B at_37 (v := (0 : Int64)) rfl (pc' := 38) rfl ?_
  refine own_lcmp X B at_38 (pc' := 39) rfl ?_
  obtain ⟨al, hal⟩ : ∃ z : Int64, z = ((cn + (7 : Int64)) &&& (-8 : Int64)) := ⟨_, rfl⟩
  have J58 : ∀ (T : State) (z : Int64), z = al → own_St p l e room_1 s m #[.long k1, .long k2, .long k3] below meth c n0 h0 [] T h0 0 0 → own_H p e below (own_W s 24 1152) n0 h0 [] (fun v h => v = some (.int 1)) T (mkF m 58 #[.val (.long k1), .second, .val (.long k2), .second, .val (.long k3), .second, .val (.long ln), .second, .val (.long plc), .second, .val (.long cn), .second, .val (.long (cn &&& (7 : Int64))), .second, .val (.long z), .second, .unset, .unset, .unset, .unset, .unset] []) := by
    intro T z hz X
    rw [hz]
    refine own_newO X B (hw _ (List.mem_of_getElem? (i := 4) rfl)) (hw _ (List.mem_of_getElem? (i := 5) rfl)) (hw _ (List.mem_of_getElem? (i := 6) rfl)) (by decide) (by decide) at_58 (pc' := 61) rfl fun T h b1 g_b1 X K E_b1 D_b1 z_b1 => ?_
    have F_b1_message : Fld Z h b1 "com/example/tightwire/tightwire/bits/BitReader" "message" "[B" .null := D_b1 (Or.inr (hw _ (List.mem_of_getElem? (i := 23) rfl))) (ty := (.array .byte)) (by decide)
    have F_b1_starts : Fld Z h b1 "com/example/tightwire/tightwire/bits/BitReader" "starts" "[J" .null := D_b1 (Or.inr (hw _ (List.mem_of_getElem? (i := 25) rfl))) (ty := (.array .long)) (by decide)
    have F_b1_places : Fld Z h b1 "com/example/tightwire/tightwire/bits/BitReader" "places" "[J" .null := D_b1 (Or.inr (hw _ (List.mem_of_getElem? (i := 27) rfl))) (ty := (.array .long)) (by decide)
    have F_b1_length : Fld Z h b1 "com/example/tightwire/tightwire/bits/BitReader" "length" "J" (.long (0 : Int64)) := D_b1 (Or.inr (hw _ (List.mem_of_getElem? (i := 29) rfl))) (ty := .long) (by decide)
    have F_b1_name : Fld Z h b1 "com/example/tightwire/tightwire/bits/BitReader" "name" "Ljava/lang/String;" .null := D_b1 (Or.inr (hw _ (List.mem_of_getElem? (i := 31) rfl))) (ty := (.object "java/lang/String")) (by decide)
    have F_b1_position : Fld Z h b1 "com/example/tightwire/tightwire/bits/BitReader" "position" "J" (.long (0 : Int64)) := D_b1 (Or.inl (hw _ (List.mem_of_getElem? (i := 54) rfl))) (ty := .long) (by decide)
    have F_b1_run : Fld Z h b1 "com/example/tightwire/tightwire/bits/BitReader" "run" "I" (.int (0 : Int32)) := D_b1 (Or.inl (hw _ (List.mem_of_getElem? (i := 60) rfl))) (ty := .int) (by decide)
    refine own_dup X B at_61 rfl (pc' := 62) rfl ?_
    refine own_iconst X B at_62 (v := (0 : Int32)) rfl (pc' := 63) rfl ?_
    refine own_newB X B (hw _ (List.mem_of_getElem? (i := 7) rfl)) (n := 0) (cap := 0) rfl (by decide) (by decide) (by decide) (by decide) at_63 (pc' := 65) rfl fun T h mg g_mg X K z_mg => ?_
    have n_b1_mg : b1 ≠ mg := own_ne E_b1.lt g_mg
    replace E_b1 := E_b1.keep K
    replace F_b1_message := F_b1_message.keep K nin0
    replace F_b1_starts := F_b1_starts.keep K nin0
    replace F_b1_places := F_b1_places.keep K nin0
    replace F_b1_length := F_b1_length.keep K nin0
    replace F_b1_name := F_b1_name.keep K nin0
    replace F_b1_position := F_b1_position.keep K nin0
    replace F_b1_run := F_b1_run.keep K nin0
    refine own_iconst X B at_65 (v := (1 : Int32)) rfl (pc' := 66) rfl ?_
    refine own_newJ X B (hw _ (List.mem_of_getElem? (i := 8) rfl)) (n := 1) (cap := 1) rfl (by decide) (by decide) (by decide) (by decide) at_66 (pc' := 68) rfl fun T h s' g_s' X K A_s' z_s' => ?_
    have n_b1_s' : b1 ≠ s' := own_ne E_b1.lt g_s'
    replace E_b1 := E_b1.keep K
    replace F_b1_message := F_b1_message.keep K nin0
    replace F_b1_starts := F_b1_starts.keep K nin0
    replace F_b1_places := F_b1_places.keep K nin0
    replace F_b1_length := F_b1_length.keep K nin0
    replace F_b1_name := F_b1_name.keep K nin0
    replace F_b1_position := F_b1_position.keep K nin0
    replace F_b1_run := F_b1_run.keep K nin0
    refine own_dup X B at_68 rfl (pc' := 69) rfl ?_
    refine own_iconst X B at_69 (v := (0 : Int32)) rfl (pc' := 70) rfl ?_
    refine own_lconst X B at_70 (v := (0 : Int64)) rfl (pc' := 71) rfl ?_
    refine own_lastore X B A_s' (i := 0) rfl (by decide) (Nat.le_trans Z0 z_s') (Or.inr z_s') at_71 (pc' := 72) rfl fun T h X K A_s' => ?_
    replace E_b1 := E_b1.keep K
    replace F_b1_message := F_b1_message.keep K (ninS n_b1_s' nin0)
    replace F_b1_starts := F_b1_starts.keep K (ninS n_b1_s' nin0)
    replace F_b1_places := F_b1_places.keep K (ninS n_b1_s' nin0)
    replace F_b1_length := F_b1_length.keep K (ninS n_b1_s' nin0)
    replace F_b1_name := F_b1_name.keep K (ninS n_b1_s' nin0)
    replace F_b1_position := F_b1_position.keep K (ninS n_b1_s' nin0)
    replace F_b1_run := F_b1_run.keep K (ninS n_b1_s' nin0)
    replace A_s' := A_s'.congr (g := (fun _ => 0)) (fun i hi => by simp)
    refine own_iconst X B at_72 (v := (1 : Int32)) rfl (pc' := 73) rfl ?_
    refine own_newJ X B (hw _ (List.mem_of_getElem? (i := 8) rfl)) (n := 1) (cap := 1) rfl (by decide) (by decide) (by decide) (by decide) at_73 (pc' := 75) rfl fun T h p' g_p' X K A_p' z_p' => ?_
    have n_b1_p' : b1 ≠ p' := own_ne E_b1.lt g_p'
    have n_s'_p' : s' ≠ p' := own_ne A_s'.lt g_p'
    replace E_b1 := E_b1.keep K
    replace F_b1_message := F_b1_message.keep K nin0
    replace F_b1_starts := F_b1_starts.keep K nin0
    replace F_b1_places := F_b1_places.keep K nin0
    replace F_b1_length := F_b1_length.keep K nin0
    replace F_b1_name := F_b1_name.keep K nin0
    replace F_b1_position := F_b1_position.keep K nin0
    replace F_b1_run := F_b1_run.keep K nin0
    replace A_s' := A_s'.keep K nin0
    refine own_dup X B at_75 rfl (pc' := 76) rfl ?_
    refine own_iconst X B at_76 (v := (0 : Int32)) rfl (pc' := 77) rfl ?_
    refine own_lload X B at_77 rfl (pc' := 79) rfl ?_
    refine own_lastore X B A_p' (i := 0) rfl (by decide) (Nat.le_trans Z0 z_p') (Or.inr z_p') at_79 (pc' := 80) rfl fun T h X K A_p' => ?_
    replace E_b1 := E_b1.keep K
    replace F_b1_message := F_b1_message.keep K (ninS n_b1_p' nin0)
    replace F_b1_starts := F_b1_starts.keep K (ninS n_b1_p' nin0)
    replace F_b1_places := F_b1_places.keep K (ninS n_b1_p' nin0)
    replace F_b1_length := F_b1_length.keep K (ninS n_b1_p' nin0)
    replace F_b1_name := F_b1_name.keep K (ninS n_b1_p' nin0)
    replace F_b1_position := F_b1_position.keep K (ninS n_b1_p' nin0)
    replace F_b1_run := F_b1_run.keep K (ninS n_b1_p' nin0)
    replace A_s' := A_s'.keep K (ninS n_s'_p' nin0)
    replace A_p' := A_p'.congr (g := (fun _ => plc)) (fun i hi => by rw [if_pos (by omega)])
    refine own_lload X B at_80 rfl (pc' := 82) rfl ?_
    have wS : ∀ a ∈ Bundle.stringAtoms, a.before a0 Z = true := by
      intro a ha
      simp only [Bundle.stringAtoms, List.mem_cons, List.not_mem_nil, or_false] at ha
      rcases ha with rfl | rfl | rfl | rfl | rfl | rfl | rfl
      · exact (hw _ (List.mem_of_getElem? (i := 10) rfl))
      · exact (hw _ (List.mem_of_getElem? (i := 11) rfl))
      · exact (hw _ (List.mem_of_getElem? (i := 7) rfl))
      · exact (hw _ (List.mem_of_getElem? (i := 12) rfl))
      · exact (hw _ (List.mem_of_getElem? (i := 13) rfl))
      · exact (hw _ (List.mem_of_getElem? (i := 14) rfl))
      · exact (hw _ (List.mem_of_getElem? (i := 15) rfl))
    refine own_ldcS X B (hw _ (List.mem_of_getElem? (i := 9) rfl)) wS (n := 4) (by decide) (by decide) (by decide) (by decide) at_82 (pc' := 84) rfl ?_
    intro s T h nm k1' hconv hk B X K
    refine own_toW hconv ?_
    replace E_b1 := E_b1.keep K
    replace F_b1_message := F_b1_message.keep K nin0
    replace F_b1_starts := F_b1_starts.keep K nin0
    replace F_b1_places := F_b1_places.keep K nin0
    replace F_b1_length := F_b1_length.keep K nin0
    replace F_b1_name := F_b1_name.keep K nin0
    replace F_b1_position := F_b1_position.keep K nin0
    replace F_b1_run := F_b1_run.keep K nin0
    replace A_s' := A_s'.keep K nin0
    replace A_p' := A_p'.keep K nin0
    refine own_callI X B (W := 1) rfl (hw _ (List.mem_of_getElem? (i := 16) rfl)) (hw _ (List.mem_of_getElem? (i := 17) rfl)) (hw _ (List.mem_of_getElem? (i := 18) rfl)) (hw _ (List.mem_of_getElem? (i := 6) rfl)) (by decide) (rm4 l Z a0 hw b1 mg s' p' ln nm h n0 (own_sz X Z0) (Nat.le_trans Z0 z_b1) E_b1 F_b1_message F_b1_starts F_b1_places F_b1_length F_b1_name F_b1_position F_b1_run) (by decide) (by decide) (by decide) (by decide) rfl (argsL := [.ref mg, .ref s', .ref p', .long ln, .ref nm]) pd_1 rfl rfl (st := [.ref b1]) rfl (Nat.le_refl _) at_84 (pc' := 87) rfl (allS (Or.inr z_b1) all0) ?_
    rintro v T h X K ⟨rfl, F_b1_message, F_b1_starts, F_b1_places, F_b1_length, F_b1_name, F_b1_position, F_b1_run⟩
    replace hk := Nat.le_trans hk K.1
    replace E_b1 := E_b1.keep K
    replace A_s' := A_s'.keep K (ninS (Ne.symm n_b1_s') nin0)
    replace A_p' := A_p'.keep K (ninS (Ne.symm n_b1_p') nin0)
    show own_H _ _ _ _ _ _ _ _ T (mkF m 87 #[.val (.long k1), .second, .val (.long k2), .second, .val (.long k3), .second, .val (.long ln), .second, .val (.long plc), .second, .val (.long cn), .second, .val (.long (cn &&& (7 : Int64))), .second, .val (.long al), .second, .unset, .unset, .unset, .unset, .unset] [.ref b1])
    refine own_astore X B at_87 rfl (L' := #[.val (.long k1), .second, .val (.long k2), .second, .val (.long k3), .second, .val (.long ln), .second, .val (.long plc), .second, .val (.long cn), .second, .val (.long (cn &&& (7 : Int64))), .second, .val (.long al), .second, .val (.ref b1), .unset, .unset, .unset, .unset]) rfl (pc' := 89) rfl ?_
    refine own_newO X B (hw _ (List.mem_of_getElem? (i := 32) rfl)) (hw _ (List.mem_of_getElem? (i := 33) rfl)) (hw _ (List.mem_of_getElem? (i := 34) rfl)) (by decide) (by decide) at_89 (pc' := 92) rfl fun T h b2 g_b2 X K E_b2 D_b2 z_b2 => ?_
    have n_b1_b2 : b1 ≠ b2 := own_ne E_b1.lt g_b2
    have n_p'_b2 : p' ≠ b2 := own_ne A_p'.lt g_b2
    have n_s'_b2 : s' ≠ b2 := own_ne A_s'.lt g_b2
    replace hk := Nat.le_trans hk K.1
    replace E_b1 := E_b1.keep K
    replace A_s' := A_s'.keep K nin0
    replace A_p' := A_p'.keep K nin0
    replace F_b1_message := F_b1_message.keep K nin0
    replace F_b1_starts := F_b1_starts.keep K nin0
    replace F_b1_places := F_b1_places.keep K nin0
    replace F_b1_length := F_b1_length.keep K nin0
    replace F_b1_name := F_b1_name.keep K nin0
    replace F_b1_position := F_b1_position.keep K nin0
    replace F_b1_run := F_b1_run.keep K nin0
    have F_b2_starts : Fld Z h b2 "com/example/tightwire/tightwire/bits/BitRuns" "starts" "[J" .null := D_b2 (Or.inl (hw _ (List.mem_of_getElem? (i := 40) rfl))) (ty := (.array .long)) (by decide)
    have F_b2_places : Fld Z h b2 "com/example/tightwire/tightwire/bits/BitRuns" "places" "[J" .null := D_b2 (Or.inl (hw _ (List.mem_of_getElem? (i := 42) rfl))) (ty := (.array .long)) (by decide)
    have F_b2_message : Fld Z h b2 "com/example/tightwire/tightwire/bits/BitRuns" "message" "[B" .null := D_b2 (Or.inl (hw _ (List.mem_of_getElem? (i := 75) rfl))) (ty := (.array .byte)) (by decide)
    have F_b2_runs : Fld Z h b2 "com/example/tightwire/tightwire/bits/BitRuns" "runs" "I" (.int (0 : Int32)) := D_b2 (Or.inl (hw _ (List.mem_of_getElem? (i := 77) rfl))) (ty := .int) (by decide)
    have F_b2_length : Fld Z h b2 "com/example/tightwire/tightwire/bits/BitRuns" "length" "J" (.long (0 : Int64)) := D_b2 (Or.inl (hw _ (List.mem_of_getElem? (i := 79) rfl))) (ty := .long) (by decide)
    refine own_dup X B at_92 rfl (pc' := 93) rfl ?_
    have sz := own_sz X Z0
    have lt_b1 := E_b1.lt
    have lt_s' := A_s'.lt
    have lt_p' := A_p'.lt
    have lt_b2 := E_b2.lt
    refine own_callI X B (W := 1) rfl (hw _ (List.mem_of_getElem? (i := 35) rfl)) (hw _ (List.mem_of_getElem? (i := 36) rfl)) (hw _ (List.mem_of_getElem? (i := 37) rfl)) (hw _ (List.mem_of_getElem? (i := 34) rfl)) (by decide) (rm2 l Z a0 hw b2 h n0 (own_sz X Z0) (Nat.le_trans Z0 z_b2) E_b2 F_b2_message F_b2_starts F_b2_places F_b2_runs F_b2_length) (by decide) (by decide) (by decide) (by decide) rfl (argsL := []) pd_3 rfl rfl (st := [.ref b2]) rfl (Nat.le_refl _) at_93 (pc' := 96) rfl (allS (Or.inr z_b2) all0) ?_
    rintro v T h X K ⟨rfl, r, t, z_r, z_t, n_r_t, F_b2_message, F_b2_starts, F_b2_places, F_b2_runs, F_b2_length, A_r, A_t⟩
    replace hk := Nat.le_trans hk K.1
    replace E_b1 := E_b1.keep K
    replace A_s' := A_s'.keep K (ninS n_s'_b2 nin0)
    replace A_p' := A_p'.keep K (ninS n_p'_b2 nin0)
    replace F_b1_message := F_b1_message.keep K (ninS n_b1_b2 nin0)
    replace F_b1_starts := F_b1_starts.keep K (ninS n_b1_b2 nin0)
    replace F_b1_places := F_b1_places.keep K (ninS n_b1_b2 nin0)
    replace F_b1_length := F_b1_length.keep K (ninS n_b1_b2 nin0)
    replace F_b1_name := F_b1_name.keep K (ninS n_b1_b2 nin0)
    replace F_b1_position := F_b1_position.keep K (ninS n_b1_b2 nin0)
    replace F_b1_run := F_b1_run.keep K (ninS n_b1_b2 nin0)
    replace E_b2 := E_b2.keep K
    show own_H _ _ _ _ _ _ _ _ T (mkF m 96 #[.val (.long k1), .second, .val (.long k2), .second, .val (.long k3), .second, .val (.long ln), .second, .val (.long plc), .second, .val (.long cn), .second, .val (.long (cn &&& (7 : Int64))), .second, .val (.long al), .second, .val (.ref b1), .unset, .unset, .unset, .unset] [.ref b2])
    have n_b1_r : b1 ≠ r := Nat.ne_of_lt (Nat.lt_of_lt_of_le lt_b1 z_r)
    have n_b1_t : b1 ≠ t := Nat.ne_of_lt (Nat.lt_of_lt_of_le lt_b1 z_t)
    have n_s'_r : s' ≠ r := Nat.ne_of_lt (Nat.lt_of_lt_of_le lt_s' z_r)
    have n_s'_t : s' ≠ t := Nat.ne_of_lt (Nat.lt_of_lt_of_le lt_s' z_t)
    have n_p'_r : p' ≠ r := Nat.ne_of_lt (Nat.lt_of_lt_of_le lt_p' z_r)
    have n_p'_t : p' ≠ t := Nat.ne_of_lt (Nat.lt_of_lt_of_le lt_p' z_t)
    have n_b2_r : b2 ≠ r := Nat.ne_of_lt (Nat.lt_of_lt_of_le lt_b2 z_r)
    have n_b2_t : b2 ≠ t := Nat.ne_of_lt (Nat.lt_of_lt_of_le lt_b2 z_t)
    have g_r := Nat.le_trans sz z_r
    have g_t := Nat.le_trans sz z_t
    refine own_astore X B at_96 rfl (L' := #[.val (.long k1), .second, .val (.long k2), .second, .val (.long k3), .second, .val (.long ln), .second, .val (.long plc), .second, .val (.long cn), .second, .val (.long (cn &&& (7 : Int64))), .second, .val (.long al), .second, .val (.ref b1), .val (.ref b2), .unset, .unset, .unset]) rfl (pc' := 98) rfl ?_
    refine own_aload X B at_98 rfl rfl (pc' := 100) rfl ?_
    refine own_lload X B at_100 rfl (pc' := 102) rfl ?_
    refine own_aload X B at_102 rfl rfl (pc' := 104) rfl ?_
    refine own_callV X B (W := 0) (hw _ (List.mem_of_getElem? (i := 43) rfl)) (hw _ (List.mem_of_getElem? (i := 44) rfl)) (hw _ (List.mem_of_getElem? (i := 46) rfl)) (hw _ (List.mem_of_getElem? (i := 45) rfl)) (hw _ (List.mem_of_getElem? (i := 47) rfl)) (hw _ (List.mem_of_getElem? (i := 6) rfl)) (by decide) E_b1 (rm10 l Z a0 hw b1 mg s' p' ln nm b2 r t (fun _ => 0) (fun _ => plc) (fun _ => 0) (fun _ => 0) cn h n0 (own_sz X Z0) (Nat.le_trans Z0 z_b1) (Nat.le_trans Z0 z_b2) g_r g_t n_b1_s' n_b1_p' n_b1_b2 n_b1_r n_b1_t n_s'_p' n_s'_b2 n_s'_r n_s'_t n_p'_b2 n_p'_r n_p'_t n_b2_r n_b2_t n_r_t E_b1 F_b1_message F_b1_starts F_b1_places F_b1_length F_b1_name F_b1_position F_b1_run A_s' A_p' E_b2 F_b2_message F_b2_starts F_b2_places F_b2_runs F_b2_length A_r A_t hb.1) (by decide) (by decide) (by decide) (by decide) rfl (argsL := [.long cn, .ref b2]) pd_4 rfl rfl (st := []) rfl (Nat.le_refl _) at_104 (pc' := 107) rfl (allS (Or.inr z_b1) (allS (Or.inr z_b2) (allS (Or.inr (Nat.le_trans Z1 g_r)) (allS (Or.inr (Nat.le_trans Z1 g_t)) all0)))) ?_
    rintro v T h X K ⟨rfl, F_b1_message, F_b1_starts, F_b1_places, F_b1_length, F_b1_name, F_b1_position, F_b1_run⟩
    replace hk := Nat.le_trans hk K.1
    replace E_b1 := E_b1.keep K
    replace A_s' := A_s'.keep K (ninS (Ne.symm n_b1_s') (ninS n_s'_b2 (ninS n_s'_r (ninS n_s'_t nin0))))
    replace A_p' := A_p'.keep K (ninS (Ne.symm n_b1_p') (ninS n_p'_b2 (ninS n_p'_r (ninS n_p'_t nin0))))
    replace E_b2 := E_b2.keep K
    show own_H _ _ _ _ _ _ _ _ T (mkF m 107 #[.val (.long k1), .second, .val (.long k2), .second, .val (.long k3), .second, .val (.long ln), .second, .val (.long plc), .second, .val (.long cn), .second, .val (.long (cn &&& (7 : Int64))), .second, .val (.long al), .second, .val (.ref b1), .val (.ref b2), .unset, .unset, .unset] [])
    refine own_aload X B at_107 rfl rfl (pc' := 109) rfl ?_
    refine own_callV X B (W := 0) (hw _ (List.mem_of_getElem? (i := 80) rfl)) (hw _ (List.mem_of_getElem? (i := 81) rfl)) (hw _ (List.mem_of_getElem? (i := 83) rfl)) (hw _ (List.mem_of_getElem? (i := 82) rfl)) (hw _ (List.mem_of_getElem? (i := 84) rfl)) (hw _ (List.mem_of_getElem? (i := 6) rfl)) (by decide) E_b1 (rm8 l Z a0 hw b1 mg s' p' ln nm cn h n0 (own_sz X Z0) (Nat.le_trans Z0 z_b1) E_b1 F_b1_message F_b1_starts F_b1_places F_b1_length F_b1_name F_b1_position F_b1_run) (by decide) (by decide) (by decide) (by decide) rfl (argsL := []) pd_10 rfl rfl (st := []) rfl (Nat.le_refl _) at_109 (pc' := 112) rfl (allS (Or.inr z_b1) all0) ?_
    rintro v T h X K ⟨rfl, F_b1_message, F_b1_starts, F_b1_places, F_b1_length, F_b1_name, F_b1_position, F_b1_run⟩
    replace hk := Nat.le_trans hk K.1
    replace E_b1 := E_b1.keep K
    replace A_s' := A_s'.keep K (ninS (Ne.symm n_b1_s') nin0)
    replace A_p' := A_p'.keep K (ninS (Ne.symm n_b1_p') nin0)
    replace E_b2 := E_b2.keep K
    show own_H _ _ _ _ _ _ _ _ T (mkF m 112 #[.val (.long k1), .second, .val (.long k2), .second, .val (.long k3), .second, .val (.long ln), .second, .val (.long plc), .second, .val (.long cn), .second, .val (.long (cn &&& (7 : Int64))), .second, .val (.long al), .second, .val (.ref b1), .val (.ref b2), .unset, .unset, .unset] [])
    rw [← hal] at F_b1_position
    refine own_aload X B at_112 rfl rfl (pc' := 114) rfl ?_
    refine own_callV X B (W := 0) (hw _ (List.mem_of_getElem? (i := 87) rfl)) (hw _ (List.mem_of_getElem? (i := 49) rfl)) (hw _ (List.mem_of_getElem? (i := 51) rfl)) (hw _ (List.mem_of_getElem? (i := 50) rfl)) (hw _ (List.mem_of_getElem? (i := 52) rfl)) (hw _ (List.mem_of_getElem? (i := 6) rfl)) (by decide) E_b1 (rm5 l Z a0 hw b1 ln al h n0 (own_sz X Z0) F_b1_length F_b1_position) (by decide) (by decide) (by decide) (by decide) rfl (argsL := []) pd_5 rfl rfl (st := []) rfl (Nat.le_refl _) at_114 (pc' := 117) rfl all0 ?_
    rintro v T h X K rfl
    replace hk := Nat.le_trans hk K.1
    replace E_b1 := E_b1.keep K
    replace A_s' := A_s'.keep K nin0
    replace A_p' := A_p'.keep K nin0
    replace E_b2 := E_b2.keep K
    replace F_b1_message := F_b1_message.keep K nin0
    replace F_b1_starts := F_b1_starts.keep K nin0
    replace F_b1_places := F_b1_places.keep K nin0
    replace F_b1_length := F_b1_length.keep K nin0
    replace F_b1_name := F_b1_name.keep K nin0
    replace F_b1_position := F_b1_position.keep K nin0
    replace F_b1_run := F_b1_run.keep K nin0
    show own_H _ _ _ _ _ _ _ _ T (mkF m 117 #[.val (.long k1), .second, .val (.long k2), .second, .val (.long k3), .second, .val (.long ln), .second, .val (.long plc), .second, .val (.long cn), .second, .val (.long (cn &&& (7 : Int64))), .second, .val (.long al), .second, .val (.ref b1), .val (.ref b2), .unset, .unset, .unset] [.long (ln - al)])
    refine own_lload X B at_117 rfl (pc' := 119) rfl ?_
    refine own_lload X B at_119 rfl (pc' := 121) rfl ?_
    refine own_lsub X B at_121 (pc' := 122) rfl ?_
    refine own_lcmp X B at_122 (pc' := 123) rfl ?_
    refine own_ifF X B at_123 (teq ((lw_eq _ _).mpr rfl)).2 (pc' := 126) rfl ?_
    refine own_iconst X B at_126 (v := (1 : Int32)) rfl (pc' := 127) rfl ?_
    refine own_goto X B at_127 (pc' := 131) (by decide) (by decide) ?_
    refine own_istore X B at_131 (L' := #[.val (.long k1), .second, .val (.long k2), .second, .val (.long k3), .second, .val (.long ln), .second, .val (.long plc), .second, .val (.long cn), .second, .val (.long (cn &&& (7 : Int64))), .second, .val (.long al), .second, .val (.ref b1), .val (.ref b2), .val (.int (1 : Int32)), .unset, .unset]) rfl (pc' := 133) rfl ?_
    refine own_aload X B at_133 rfl rfl (pc' := 135) rfl ?_
    refine own_callV X B (W := 0) (hw _ (List.mem_of_getElem? (i := 88) rfl)) (hw _ (List.mem_of_getElem? (i := 89) rfl)) (hw _ (List.mem_of_getElem? (i := 91) rfl)) (hw _ (List.mem_of_getElem? (i := 90) rfl)) (hw _ (List.mem_of_getElem? (i := 92) rfl)) (hw _ (List.mem_of_getElem? (i := 6) rfl)) (by decide) E_b1 (rm9 l Z a0 hw b1 s' p' al (fun _ => 0) (fun _ => plc) h n0 (own_sz X Z0) E_b1 F_b1_run F_b1_starts F_b1_places F_b1_position A_s' A_p') (by decide) (by decide) (by decide) (by decide) rfl (argsL := []) pd_11 rfl rfl (st := []) rfl (Nat.le_refl _) at_135 (pc' := 138) rfl all0 ?_
    rintro v T h X K rfl
    replace hk := Nat.le_trans hk K.1
    replace E_b1 := E_b1.keep K
    replace A_s' := A_s'.keep K nin0
    replace A_p' := A_p'.keep K nin0
    replace E_b2 := E_b2.keep K
    replace F_b1_message := F_b1_message.keep K nin0
    replace F_b1_starts := F_b1_starts.keep K nin0
    replace F_b1_places := F_b1_places.keep K nin0
    replace F_b1_length := F_b1_length.keep K nin0
    replace F_b1_name := F_b1_name.keep K nin0
    replace F_b1_position := F_b1_position.keep K nin0
    replace F_b1_run := F_b1_run.keep K nin0
    show own_H _ _ _ _ _ _ _ _ T (mkF m 138 #[.val (.long k1), .second, .val (.long k2), .second, .val (.long k3), .second, .val (.long ln), .second, .val (.long plc), .second, .val (.long cn), .second, .val (.long (cn &&& (7 : Int64))), .second, .val (.long al), .second, .val (.ref b1), .val (.ref b2), .val (.int (1 : Int32)), .unset, .unset] [.long (plc + al - (0 : Int64))])
    refine own_lload X B at_138 rfl (pc' := 140) rfl ?_
    refine own_lload X B at_140 rfl (pc' := 142) rfl ?_
    refine own_ladd X B at_142 (pc' := 143) rfl ?_
    refine own_lcmp X B at_143 (pc' := 144) rfl ?_
    refine own_ifF X B at_144 (teq ((lw_eq _ _).mpr (Int64.sub_zero _))).2 (pc' := 147) rfl ?_
    refine own_iconst X B at_147 (v := (1 : Int32)) rfl (pc' := 148) rfl ?_
    refine own_goto X B at_148 (pc' := 152) (by decide) (by decide) ?_
    refine own_istore X B at_152 (L' := #[.val (.long k1), .second, .val (.long k2), .second, .val (.long k3), .second, .val (.long ln), .second, .val (.long plc), .second, .val (.long cn), .second, .val (.long (cn &&& (7 : Int64))), .second, .val (.long al), .second, .val (.ref b1), .val (.ref b2), .val (.int (1 : Int32)), .val (.int (1 : Int32)), .unset]) rfl (pc' := 154) rfl ?_
    refine own_aload X B at_154 rfl rfl (pc' := 156) rfl ?_
    refine own_callV X B (W := 0) (hw _ (List.mem_of_getElem? (i := 80) rfl)) (hw _ (List.mem_of_getElem? (i := 81) rfl)) (hw _ (List.mem_of_getElem? (i := 83) rfl)) (hw _ (List.mem_of_getElem? (i := 82) rfl)) (hw _ (List.mem_of_getElem? (i := 84) rfl)) (hw _ (List.mem_of_getElem? (i := 6) rfl)) (by decide) E_b1 (rm8 l Z a0 hw b1 mg s' p' ln nm al h n0 (own_sz X Z0) (Nat.le_trans Z0 z_b1) E_b1 F_b1_message F_b1_starts F_b1_places F_b1_length F_b1_name F_b1_position F_b1_run) (by decide) (by decide) (by decide) (by decide) rfl (argsL := []) pd_10 rfl rfl (st := []) rfl (Nat.le_refl _) at_156 (pc' := 159) rfl (allS (Or.inr z_b1) all0) ?_
    rintro v T h X K ⟨rfl, F_b1_message, F_b1_starts, F_b1_places, F_b1_length, F_b1_name, F_b1_position, F_b1_run⟩
    replace hk := Nat.le_trans hk K.1
    replace E_b1 := E_b1.keep K
    replace A_s' := A_s'.keep K (ninS (Ne.symm n_b1_s') nin0)
    replace A_p' := A_p'.keep K (ninS (Ne.symm n_b1_p') nin0)
    replace E_b2 := E_b2.keep K
    show own_H _ _ _ _ _ _ _ _ T (mkF m 159 #[.val (.long k1), .second, .val (.long k2), .second, .val (.long k3), .second, .val (.long ln), .second, .val (.long plc), .second, .val (.long cn), .second, .val (.long (cn &&& (7 : Int64))), .second, .val (.long al), .second, .val (.ref b1), .val (.ref b2), .val (.int (1 : Int32)), .val (.int (1 : Int32)), .unset] [])
    rw [own_al2 hb hal] at F_b1_position
    refine own_aload X B at_159 rfl rfl (pc' := 161) rfl ?_
    refine own_callV X B (W := 0) (hw _ (List.mem_of_getElem? (i := 87) rfl)) (hw _ (List.mem_of_getElem? (i := 49) rfl)) (hw _ (List.mem_of_getElem? (i := 51) rfl)) (hw _ (List.mem_of_getElem? (i := 50) rfl)) (hw _ (List.mem_of_getElem? (i := 52) rfl)) (hw _ (List.mem_of_getElem? (i := 6) rfl)) (by decide) E_b1 (rm5 l Z a0 hw b1 ln al h n0 (own_sz X Z0) F_b1_length F_b1_position) (by decide) (by decide) (by decide) (by decide) rfl (argsL := []) pd_5 rfl rfl (st := []) rfl (Nat.le_refl _) at_161 (pc' := 164) rfl all0 ?_
    rintro v T h X K rfl
    replace hk := Nat.le_trans hk K.1
    replace E_b1 := E_b1.keep K
    replace A_s' := A_s'.keep K nin0
    replace A_p' := A_p'.keep K nin0
    replace E_b2 := E_b2.keep K
    replace F_b1_message := F_b1_message.keep K nin0
    replace F_b1_starts := F_b1_starts.keep K nin0
    replace F_b1_places := F_b1_places.keep K nin0
    replace F_b1_length := F_b1_length.keep K nin0
    replace F_b1_name := F_b1_name.keep K nin0
    replace F_b1_position := F_b1_position.keep K nin0
    replace F_b1_run := F_b1_run.keep K nin0
    show own_H _ _ _ _ _ _ _ _ T (mkF m 164 #[.val (.long k1), .second, .val (.long k2), .second, .val (.long k3), .second, .val (.long ln), .second, .val (.long plc), .second, .val (.long cn), .second, .val (.long (cn &&& (7 : Int64))), .second, .val (.long al), .second, .val (.ref b1), .val (.ref b2), .val (.int (1 : Int32)), .val (.int (1 : Int32)), .unset] [.long (ln - al)])
    refine own_lload X B at_164 rfl (pc' := 166) rfl ?_
    refine own_lload X B at_166 rfl (pc' := 168) rfl ?_
    refine own_lsub X B at_168 (pc' := 169) rfl ?_
    refine own_lcmp X B at_169 (pc' := 170) rfl ?_
    refine own_ifF X B at_170 (teq ((lw_eq _ _).mpr rfl)).2 (pc' := 173) rfl ?_
    refine own_iconst X B at_173 (v := (1 : Int32)) rfl (pc' := 174) rfl ?_
    refine own_goto X B at_174 (pc' := 178) (by decide) (by decide) ?_
    refine own_istore X B at_178 (L' := #[.val (.long k1), .second, .val (.long k2), .second, .val (.long k3), .second, .val (.long ln), .second, .val (.long plc), .second, .val (.long cn), .second, .val (.long (cn &&& (7 : Int64))), .second, .val (.long al), .second, .val (.ref b1), .val (.ref b2), .val (.int (1 : Int32)), .val (.int (1 : Int32)), .val (.int (1 : Int32))]) rfl (pc' := 180) rfl ?_
    refine own_iload X B at_180 rfl (pc' := 182) rfl ?_
    refine own_ifF X B at_182 (feq (by decide : ¬ (1 : Int32) = 0)).1 (pc' := 185) rfl ?_
    refine own_iload X B at_185 rfl (pc' := 187) rfl ?_
    refine own_ifF X B at_187 (feq (by decide : ¬ (1 : Int32) = 0)).1 (pc' := 190) rfl ?_
    refine own_iload X B at_190 rfl (pc' := 192) rfl ?_
    refine own_ifF X B at_192 (feq (by decide : ¬ (1 : Int32) = 0)).1 (pc' := 195) rfl ?_
    refine own_lload X B at_195 rfl (pc' := 197) rfl ?_
    refine own_lload X B at_197 rfl (pc' := 199) rfl ?_
    refine own_lcmp X B at_199 (pc' := 200) rfl ?_
    refine own_ifF X B at_200 (flt (fun q => own_al_le hb hal ((lw_gt _ _).mp q))).2.2.1 (pc' := 203) rfl ?_
    refine own_iconst X B at_203 (v := (1 : Int32)) rfl (pc' := 204) rfl ?_
    refine own_goto X B at_204 (pc' := 208) (by decide) (by decide) ?_
    exact own_zret X B at_208 (by decide) (by decide) rfl ⟨rfl, hk⟩
  by_cases hz : (lcmpW (cn &&& (7 : Int64)) (0 : Int64)) = (0 : Int32)
  · -- hz
    refine own_ifF X B at_39 (teq hz).2 (pc' := 42) rfl ?_
    refine own_lload X B at_42 rfl (pc' := 44) rfl ?_
    refine own_goto X B at_44 (pc' := 56) (by decide) (by decide) ?_
    refine own_lstore X B at_56 (L' := #[.val (.long k1), .second, .val (.long k2), .second, .val (.long k3), .second, .val (.long ln), .second, .val (.long plc), .second, .val (.long cn), .second, .val (.long (cn &&& (7 : Int64))), .second, .val (.long cn), .second, .unset, .unset, .unset, .unset, .unset]) rfl (pc' := 58) rfl ?_
    exact J58 T _ (own_r0 hb hal ((lw_eq _ _).mp hz)) X
  · -- not hz
    refine own_ifT X B at_39 (feq hz).2 (pc' := 47) (by decide) (by decide) ?_
    refine own_lload X B at_47 rfl (pc' := 49) rfl ?_
    refine own_lload X B at_49 rfl (pc' := 51) rfl ?_
    refine own_lsub X B at_51 (pc' := 52) rfl ?_
    refine own_litL X B (hw _ (List.mem_of_getElem? (i := 93) rfl)) at_52 (pc' := 55) rfl ?_
    refine own_ladd X B at_55 (pc' := 56) rfl ?_
    refine own_lstore X B at_56 (L' := #[.val (.long k1), .second, .val (.long k2), .second, .val (.long k3), .second, .val (.long ln), .second, .val (.long plc), .second, .val (.long cn), .second, .val (.long (cn &&& (7 : Int64))), .second, .val (.long ((cn - (cn &&& (7 : Int64))) + (8 : Int64))), .second, .unset, .unset, .unset, .unset, .unset]) rfl (pc' := 58) rfl ?_
    exact J58 T _ (own_r1 hb hal (fun q => hz ((lw_eq _ _).mpr q))) X
set_option maxRecDepth 65536 in
set_option maxHeartbeats 40000000 in
theorem comes_1 {Post : Tables → Env → Array Value → State → Outcome → State → Prop} (hpost : ∀ tb e args s v u, (limb_1_1.after args s (.returned v) u = true ∧ limb_1_2.after args s (.returned v) u = true ∧ True) → ReturnedEndW s (.returned v) u (Jvm.fieldLocs frame_1_writes args s ++ Jvm.arrayLocs frame_1_arrays args s ++ Jvm.staticLocs frame_1_statics s) 24 1152 → Post tb e args s (.returned v) u) :
    ArmFor flags0 classFile x code maxLocals ret World_1 tables_1 room_1 Calls_1 rest_1 Pre_1 Post := by
  intro l hfl _ _ p e ha hc hk s m args below hf hA hF happ hP
  obtain ⟨hcalls, hrest, hpre⟩ := hP
  obtain ⟨-, -, -, hnamed, -, -, -, hat⟩ := (Spec.applies_iff hf).mp happ
  obtain ⟨hg, hn⟩ := and_e (Cond.before_iff.mp (show (Jvm.Cond.and given_1 narrow_1).before args s = true from hpre))
  obtain ⟨g1, g2⟩ := and_e hg
  obtain ⟨g3, g4⟩ := and_e g2
  obtain ⟨g5, g6⟩ := and_e g4
  obtain ⟨w0, w1, w2, rfl⟩ : ∃ w0 w1 w2 : Value, args = #[w0, w1, w2] := by
    have hs : args.size = 3 := by simpa [Cond.value, given_1] using g1
    obtain ⟨L⟩ := args
    match L, hs with
    | [w0, w1, w2], _ => exact ⟨w0, w1, w2, rfl⟩
  have hw := fun d (hd : d ∈ tables_1) => atoms_spec (ws := Jvm.Cond.code x code maxLocals ret :: tables_1) hat d (List.mem_cons_of_mem _ hd)
  obtain ⟨i0, ei0⟩ := isL_v g3
  obtain rfl : w0 = (.long i0) := Option.some.inj ei0
  obtain ⟨i1, ei1⟩ := isL_v g5
  obtain rfl : w1 = (.long i1) := Option.some.inj ei1
  obtain ⟨i2, ei2⟩ := isL_v g6
  obtain rfl : w2 = (.long i2) := Option.some.inj ei2
  obtain ⟨n, o, h1, h2, h3, _, L, rfl, ⟨N, -, rfl⟩, hq⟩ := rm0 l s _ hw i0 i1 i2 s.heap s.heap.size (Nat.le_refl _) (Nat.le_refl _) p e ha hc hk s m _ below hf ((Spec.applies_iff_loose hf).mp happ).1 ⟨rfl, State.Warmed39.refl s, rfl⟩ trivial
  refine ⟨n, _, h1, h2, h3, hpost _ _ _ _ _ _ ⟨Cond.after_iff.mpr rfl, Cond.after_iff.mpr (eq_i res_at (Term.int_eval (1)) rfl), trivial⟩ ⟨hq.1, hq.2.1, hq.2.2.1, (hq.2.2.2.sift fun y hy => Or.inr (N y hy)).mono (by decide) (by decide)⟩⟩
theorem main_1_1 : Claimed_1_1 := comes_1 fun _ _ _ _ _ _ h hF => ⟨h.1, hF⟩
theorem main_1_2 : Claimed_1_2 := comes_1 fun _ _ _ _ _ _ h hF => ⟨h.2.1, hF⟩
end Jvm.Pilot.@@N@@
namespace Jvm.Pilot.@@N@@
open Jvm Jvm.ClassFile Sem Op Lib Jvm.Free Jvm.Stand Jvm.Pilot.@@N@@.Jvm.D
/-! MADE BY PROGRAM (witnessworld.py) out of the Statement's table words and the real class files: 18 classes; the members and pool entries that the words name. The judged class is class 1, her method 1. -/
namespace start1
open Jvm.ClassFile
def u (s : String) : CpInfo := .utf8 (stringToUtf16 s)
/-- a pool by its gaps: so many unusable entries, then the entry; so many at the end -/
def gap : Nat → List CpInfo → List CpInfo
  | 0, r => r
  | n + 1, r => .unusable :: gap n r
def poolList (es : List (Nat × CpInfo)) (last : Nat) : List CpInfo := es.foldr (fun e r => gap e.1 (e.2 :: r)) (gap last [])
def pool (es : List (Nat × CpInfo)) (last : Nat) : Array CpInfo := ⟨poolList es last⟩
def fileOf (pool : Array CpInfo) (this : Nat) (attrs : Array Attribute := #[]) (ms : Array MethodInfo := #[]) (fl : Nat := 33) (sup : Nat := 0) (ifs : Array Nat := #[]) (fds : Array FieldInfo := #[]) : ClassFile where
  minorVersion := 0
  majorVersion := 65
  constantPool := pool
  accessFlags := fl
  thisClass := this
  superClass := sup
  interfaces := ifs
  fields := fds
  methods := ms
  attributes := attrs
def plain (name : String) (sup : Option ClassId) : Class where
  name := name
  kind := .ordinary
  loader := none
  accessFlags := 33
  super := sup
  interfaces := #[]
  cf := none
  fields := #[]
  methods := #[]
  instanceTypes := #[]
  staticTypes := #[]
  resolved := #[]
  callSites := []
  init := .initialized
  statics := none
  mirror := none

def pool0 : Array CpInfo := pool [(5, u "<init>"), (0, u "()V"), (1, .class_ 10), (1, u "java/lang/Object")] 113

def k0c0 : Code := { maxStack := 0, maxLocals := 1, code := object_method_1_code, exceptionTable := #[], attributes := #[] }
def k0m0 : Method := { name := "<init>", desc := "()V", sig := { parameters := [], returnType := none }, accessFlags := 1, code := some k0c0 }
/-- java/lang/Object -/
def k0 : Class := { plain "java/lang/Object" none with
  accessFlags := 33
  interfaces := #[]
  cf := some (fileOf pool0 8 #[] #[{ accessFlags := 1, nameIndex := 5, descriptorIndex := 6, attributes := #[] }] 33 0 #[] #[])
  fields := #[]
  methods := #[k0m0]
  instanceTypes := #[]
  staticTypes := #[]
  resolved := Array.replicate 124 none
  statics := none }

def pool1 : Array CpInfo := pool [(2, .class_ 4), (0, .nameAndType 5 6), (0, u "java/lang/Object"), (0, u "<init>"), (0, u "()V"), (0, .long 4611686018427387896), (1, .long 4294967295), (3, .long 9223372036854775807), (1, .long 7), (1, .long 8), (1, .class_ 20), (0, u "com/example/tightwire/tightwire/bits/BitReader"), (0, .string 22), (0, u "x"), (0, .methodref 19 24), (0, .nameAndType 5 25), (0, u "([B[J[JJLjava/lang/String;)V"), (0, .class_ 27), (0, u "com/example/tightwire/tightwire/bits/BitRuns"), (0, .methodref 26 3), (0, .methodref 19 30), (0, .nameAndType 31 32), (0, u "take"), (0, u "(JLcom/example/tightwire/tightwire/bits/BitRuns;)V"), (0, .methodref 19 34), (0, .nameAndType 35 6), (0, u "align"), (0, .methodref 19 37), (0, .nameAndType 38 39), (0, u "remaining"), (0, u "()J"), (0, .methodref 19 41), (0, .nameAndType 42 39), (0, u "position"), (0, .class_ 44), (0, u "com/example/tightwire/tightwire/bits/BitReaderAlignPinLaw"), (2, u "law"), (0, u "(JJJ)Z")] 6

def k1m0 : Method := { name := "<init>", desc := "()V", sig := { parameters := [], returnType := none }, accessFlags := 1, code := none }
def k1c1 : Code := { maxStack := 9, maxLocals := 21, code := code, exceptionTable := #[], attributes := #[] }
def k1m1 : Method := { name := "law", desc := "(JJJ)Z", sig := { parameters := [.long, .long, .long], returnType := some .boolean }, accessFlags := 9, code := some k1c1 }
/-- com/example/tightwire/tightwire/bits/BitReaderAlignPinLaw -/
def k1 : Class := { plain "com/example/tightwire/tightwire/bits/BitReaderAlignPinLaw" (some 0) with
  accessFlags := 49
  interfaces := #[]
  cf := some (fileOf pool1 43 #[] #[{ accessFlags := 1, nameIndex := 5, descriptorIndex := 6, attributes := #[] }, { accessFlags := 9, nameIndex := 47, descriptorIndex := 48, attributes := #[] }] 49 2 #[] #[])
  fields := #[]
  methods := #[k1m0, k1m1]
  instanceTypes := #[]
  staticTypes := #[]
  resolved := Array.replicate 55 none
  statics := none }

def pool2 : Array CpInfo := pool [(8, .class_ 10), (1, u "com/example/tightwire/tightwire/bits/BitReader"), (0, u "<init>"), (0, u "([B[J[JJLjava/lang/String;)V"), (0, .methodref 14 15), (0, .class_ 16), (0, .nameAndType 11 17), (0, u "java/lang/Object"), (0, u "()V"), (0, .fieldref 8 19), (0, .nameAndType 20 21), (0, u "message"), (0, u "[B"), (0, .fieldref 8 23), (0, .nameAndType 24 25), (0, u "starts"), (0, u "[J"), (0, .fieldref 8 27), (0, .nameAndType 28 25), (0, u "places"), (0, .fieldref 8 30), (0, .nameAndType 31 32), (0, u "length"), (0, u "J"), (0, .fieldref 8 34), (0, .nameAndType 35 36), (0, u "name"), (0, u "Ljava/lang/String;"), (11, .methodref 8 49), (0, .nameAndType 50 51), (0, u "remaining"), (0, u "()J"), (4, .methodref 8 57), (0, .nameAndType 58 17), (0, u "advance"), (0, .fieldref 8 60), (0, .nameAndType 61 62), (0, u "run"), (0, u "I"), (0, .methodref 8 64), (0, .nameAndType 65 66), (0, u "end"), (0, u "(I)J"), (0, .fieldref 8 68), (0, .nameAndType 69 32), (0, u "position"), (0, .methodref 71 72), (0, .class_ 73), (0, .nameAndType 74 75), (0, u "java/lang/Math"), (0, u "min"), (0, u "(JJ)J"), (4, .methodref 81 82), (0, .class_ 83), (0, .nameAndType 84 85), (0, u "com/example/tightwire/tightwire/bits/BitRuns"), (0, u "add"), (0, u "([BJJ)V"), (0, .long 7), (1, .long 18446744073709551608), (26, u "take"), (0, u "(JLcom/example/tightwire/tightwire/bits/BitRuns;)V"), (0, u "align")] 23

def k2c0 : Code := { maxStack := 3, maxLocals := 7, code := prog_4_method_2_code, exceptionTable := #[], attributes := #[] }
def k2m0 : Method := { name := "<init>", desc := "([B[J[JJLjava/lang/String;)V", sig := { parameters := [(.array .byte), (.array .long), (.array .long), .long, (.object "java/lang/String")], returnType := none }, accessFlags := 0, code := some k2c0 }
def k2c1 : Code := { maxStack := 7, maxLocals := 8, code := prog_4_method_4_code, exceptionTable := #[], attributes := #[] }
def k2m1 : Method := { name := "take", desc := "(JLcom/example/tightwire/tightwire/bits/BitRuns;)V", sig := { parameters := [.long, (.object "com/example/tightwire/tightwire/bits/BitRuns")], returnType := none }, accessFlags := 1, code := some k2c1 }
def k2c2 : Code := { maxStack := 5, maxLocals := 1, code := prog_4_method_5_code, exceptionTable := #[], attributes := #[] }
def k2m2 : Method := { name := "align", desc := "()V", sig := { parameters := [], returnType := none }, accessFlags := 1, code := some k2c2 }
def k2c3 : Code := { maxStack := 4, maxLocals := 1, code := prog_4_method_6_code, exceptionTable := #[], attributes := #[] }
def k2m3 : Method := { name := "remaining", desc := "()J", sig := { parameters := [], returnType := some .long }, accessFlags := 1, code := some k2c3 }
def k2c4 : Code := { maxStack := 4, maxLocals := 1, code := prog_4_method_7_code, exceptionTable := #[], attributes := #[] }
def k2m4 : Method := { name := "position", desc := "()J", sig := { parameters := [], returnType := some .long }, accessFlags := 1, code := some k2c4 }
def k2c5 : Code := { maxStack := 4, maxLocals := 1, code := prog_4_method_9_code, exceptionTable := #[], attributes := #[] }
def k2m5 : Method := { name := "advance", desc := "()V", sig := { parameters := [], returnType := none }, accessFlags := 2, code := some k2c5 }
def k2c6 : Code := { maxStack := 3, maxLocals := 2, code := prog_4_method_10_code, exceptionTable := #[], attributes := #[] }
def k2m6 : Method := { name := "end", desc := "(I)J", sig := { parameters := [.int], returnType := some .long }, accessFlags := 2, code := some k2c6 }
/-- com/example/tightwire/tightwire/bits/BitReader -/
def k2 : Class := { plain "com/example/tightwire/tightwire/bits/BitReader" (some 0) with
  accessFlags := 49
  interfaces := #[]
  cf := some (fileOf pool2 8 #[] #[{ accessFlags := 0, nameIndex := 11, descriptorIndex := 12, attributes := #[] }, { accessFlags := 1, nameIndex := 115, descriptorIndex := 116, attributes := #[] }, { accessFlags := 1, nameIndex := 117, descriptorIndex := 17, attributes := #[] }, { accessFlags := 1, nameIndex := 50, descriptorIndex := 51, attributes := #[] }, { accessFlags := 1, nameIndex := 69, descriptorIndex := 51, attributes := #[] }, { accessFlags := 2, nameIndex := 58, descriptorIndex := 17, attributes := #[] }, { accessFlags := 2, nameIndex := 65, descriptorIndex := 66, attributes := #[] }] 49 14 #[] #[{ accessFlags := 18, nameIndex := 20, descriptorIndex := 21, attributes := #[] }, { accessFlags := 18, nameIndex := 24, descriptorIndex := 25, attributes := #[] }, { accessFlags := 18, nameIndex := 28, descriptorIndex := 25, attributes := #[] }, { accessFlags := 18, nameIndex := 31, descriptorIndex := 32, attributes := #[] }, { accessFlags := 18, nameIndex := 35, descriptorIndex := 36, attributes := #[] }, { accessFlags := 2, nameIndex := 69, descriptorIndex := 32, attributes := #[] }, { accessFlags := 2, nameIndex := 61, descriptorIndex := 62, attributes := #[] }])
  fields := #[{ name := "message", type := (.array .byte), accessFlags := 18, slot := 0, constantValue := 0 }, { name := "starts", type := (.array .long), accessFlags := 18, slot := 1, constantValue := 0 }, { name := "places", type := (.array .long), accessFlags := 18, slot := 2, constantValue := 0 }, { name := "length", type := .long, accessFlags := 18, slot := 3, constantValue := 0 }, { name := "name", type := (.object "java/lang/String"), accessFlags := 18, slot := 4, constantValue := 0 }, { name := "position", type := .long, accessFlags := 2, slot := 5, constantValue := 0 }, { name := "run", type := .int, accessFlags := 2, slot := 6, constantValue := 0 }]
  methods := #[k2m0, k2m1, k2m2, k2m3, k2m4, k2m5, k2m6]
  instanceTypes := #[(.array .byte), (.array .long), (.array .long), .long, (.object "java/lang/String"), .long, .int]
  staticTypes := #[]
  resolved := Array.replicate 141 none
  statics := none }

def pool3 : Array CpInfo := pool [(1, .class_ 2), (0, u "java/io/Serializable"), (0, .class_ 4), (0, u "java/lang/Object")] 2

/-- java/io/Serializable -/
def k3 : Class := { plain "java/io/Serializable" (some 0) with
  accessFlags := 1537
  interfaces := #[]
  cf := some (fileOf pool3 1 #[] #[] 1537 3 #[] #[])
  fields := #[]
  methods := #[]
  instanceTypes := #[]
  staticTypes := #[]
  resolved := Array.replicate 7 none
  statics := none }

def pool4 : Array CpInfo := pool [(1, .class_ 2), (0, u "java/lang/Comparable"), (0, .class_ 4), (0, u "java/lang/Object")] 7

/-- java/lang/Comparable -/
def k4 : Class := { plain "java/lang/Comparable" (some 0) with
  accessFlags := 1537
  interfaces := #[]
  cf := some (fileOf pool4 1 #[] #[] 1537 3 #[] #[])
  fields := #[]
  methods := #[]
  instanceTypes := #[]
  staticTypes := #[]
  resolved := Array.replicate 12 none
  statics := none }

def pool5 : Array CpInfo := pool [(2, .class_ 4), (1, u "java/lang/CharSequence"), (42, .class_ 48), (0, u "java/lang/CharSequence$1CodePointIterator"), (10, .class_ 60), (0, u "java/lang/CharSequence$1CharIterator"), (5, .class_ 67), (0, u "java/lang/Object")] 63

/-- java/lang/CharSequence -/
def k5 : Class := { plain "java/lang/CharSequence" (some 0) with
  accessFlags := 1537
  interfaces := #[]
  cf := some (fileOf pool5 2 #[.nestMembers #[47, 59]] #[] 1537 66 #[] #[])
  fields := #[]
  methods := #[]
  instanceTypes := #[]
  staticTypes := #[]
  resolved := Array.replicate 131 none
  statics := none }

def pool6 : Array CpInfo := pool [(1, .class_ 2), (0, u "java/lang/constant/Constable"), (0, .class_ 4), (0, u "java/lang/Object")] 6

/-- java/lang/constant/Constable -/
def k6 : Class := { plain "java/lang/constant/Constable" (some 0) with
  accessFlags := 1537
  interfaces := #[]
  cf := some (fileOf pool6 1 #[] #[] 1537 3 #[] #[])
  fields := #[]
  methods := #[]
  instanceTypes := #[]
  staticTypes := #[]
  resolved := Array.replicate 11 none
  statics := none }

def pool7 : Array CpInfo := pool [(1, .class_ 2), (0, u "java/lang/constant/ConstantDesc"), (0, .class_ 4), (0, u "java/lang/Object")] 32

/-- java/lang/constant/ConstantDesc -/
def k7 : Class := { plain "java/lang/constant/ConstantDesc" (some 0) with
  accessFlags := 1537
  interfaces := #[]
  cf := some (fileOf pool7 1 #[] #[] 1537 3 #[] #[])
  fields := #[]
  methods := #[]
  instanceTypes := #[]
  staticTypes := #[]
  resolved := Array.replicate 37 none
  statics := none }

def pool8 : Array CpInfo := pool [(2, .class_ 4), (1, u "java/lang/Object"), (0, u "<init>"), (0, u "()V"), (3, .class_ 12), (1, u "java/lang/String"), (0, u "value"), (0, u "[B"), (2, u "coder"), (0, u "B"), (2, u "hash"), (0, u "I"), (2, u "hashIsZero"), (0, u "Z"), (13, u "COMPACT_STRINGS"), (534, .class_ 576), (0, u "java/lang/CharSequence"), (22, u "CASE_INSENSITIVE_ORDER"), (0, u "Ljava/util/Comparator;"), (500, u "serialPersistentFields"), (0, u "[Ljava/io/ObjectStreamField;"), (0, .class_ 1104), (0, u "java/lang/String$CaseInsensitiveComparator"), (1, .class_ 1107), (0, u "java/io/Serializable"), (0, .class_ 1109), (0, u "java/lang/Comparable"), (0, .class_ 1111), (0, u "java/lang/constant/Constable"), (0, .class_ 1113), (0, u "java/lang/constant/ConstantDesc"), (2, u "serialVersionUID"), (0, u "J"), (3, u "REPL"), (0, u "C"), (2, u "LATIN1"), (1, u "UTF16")] 323

def k8m0 : Method := { name := "<init>", desc := "()V", sig := { parameters := [], returnType := none }, accessFlags := 1, code := none }
/-- java/lang/String -/
def k8 : Class := { plain "java/lang/String" (some 0) with
  accessFlags := 49
  interfaces := #[3, 4, 5, 6, 7]
  cf := some (fileOf pool8 10 #[.nestMembers #[1103]] #[{ accessFlags := 1, nameIndex := 5, descriptorIndex := 6, attributes := #[] }] 49 2 #[1106, 1108, 575, 1110, 1112] #[{ accessFlags := 18, nameIndex := 13, descriptorIndex := 14, attributes := #[] }, { accessFlags := 18, nameIndex := 17, descriptorIndex := 18, attributes := #[] }, { accessFlags := 2, nameIndex := 21, descriptorIndex := 22, attributes := #[] }, { accessFlags := 2, nameIndex := 25, descriptorIndex := 26, attributes := #[] }, { accessFlags := 26, nameIndex := 1116, descriptorIndex := 1117, attributes := #[] }, { accessFlags := 24, nameIndex := 40, descriptorIndex := 26, attributes := #[] }, { accessFlags := 26, nameIndex := 1101, descriptorIndex := 1102, attributes := #[] }, { accessFlags := 26, nameIndex := 1121, descriptorIndex := 1122, attributes := #[] }, { accessFlags := 25, nameIndex := 599, descriptorIndex := 600, attributes := #[] }, { accessFlags := 24, nameIndex := 1125, descriptorIndex := 18, attributes := #[] }, { accessFlags := 24, nameIndex := 1127, descriptorIndex := 18, attributes := #[] }])
  fields := #[{ name := "value", type := (.array .byte), accessFlags := 18, slot := 0, constantValue := 0 }, { name := "coder", type := .byte, accessFlags := 18, slot := 1, constantValue := 0 }, { name := "hash", type := .int, accessFlags := 2, slot := 2, constantValue := 0 }, { name := "hashIsZero", type := .boolean, accessFlags := 2, slot := 3, constantValue := 0 }, { name := "serialVersionUID", type := .long, accessFlags := 26, slot := 0, constantValue := 0 }, { name := "COMPACT_STRINGS", type := .boolean, accessFlags := 24, slot := 1, constantValue := 0 }, { name := "serialPersistentFields", type := (.array (.object "java/io/ObjectStreamField")), accessFlags := 26, slot := 2, constantValue := 0 }, { name := "REPL", type := .char, accessFlags := 26, slot := 3, constantValue := 0 }, { name := "CASE_INSENSITIVE_ORDER", type := (.object "java/util/Comparator"), accessFlags := 25, slot := 4, constantValue := 0 }, { name := "LATIN1", type := .byte, accessFlags := 24, slot := 5, constantValue := 0 }, { name := "UTF16", type := .byte, accessFlags := 24, slot := 6, constantValue := 0 }]
  methods := #[k8m0]
  instanceTypes := #[(.array .byte), .byte, .int, .boolean]
  staticTypes := #[.long, .boolean, (.array (.object "java/io/ObjectStreamField")), .char, (.object "java/util/Comparator"), .byte, .byte]
  resolved := Array.replicate 1451 none
  statics := none }

def pool9 : Array CpInfo := pool [(1, .methodref 2 3), (0, .class_ 4), (0, .nameAndType 5 6), (0, u "java/lang/Object"), (0, u "<init>"), (0, u "()V"), (0, .fieldref 8 9), (0, .class_ 10), (0, .nameAndType 11 12), (0, u "com/example/tightwire/tightwire/bits/BitRuns"), (0, u "starts"), (0, u "[J"), (0, .fieldref 8 14), (0, .nameAndType 15 12), (0, u "places"), (0, .fieldref 8 17), (0, .nameAndType 18 19), (0, u "message"), (0, u "[B"), (7, .fieldref 8 28), (0, .nameAndType 29 30), (0, u "runs"), (0, u "I"), (6, .fieldref 8 38), (0, .nameAndType 39 40), (0, u "length"), (0, u "J"), (30, u "add"), (0, u "([BJJ)V")] 27

def k9c0 : Code := { maxStack := 2, maxLocals := 1, code := prog_6_method_1_code, exceptionTable := #[], attributes := #[] }
def k9m0 : Method := { name := "<init>", desc := "()V", sig := { parameters := [], returnType := none }, accessFlags := 1, code := some k9c0 }
def k9c1 : Code := { maxStack := 5, maxLocals := 6, code := prog_6_method_2_code, exceptionTable := #[], attributes := #[] }
def k9m1 : Method := { name := "add", desc := "([BJJ)V", sig := { parameters := [(.array .byte), .long, .long], returnType := none }, accessFlags := 0, code := some k9c1 }
/-- com/example/tightwire/tightwire/bits/BitRuns -/
def k9 : Class := { plain "com/example/tightwire/tightwire/bits/BitRuns" (some 0) with
  accessFlags := 49
  interfaces := #[]
  cf := some (fileOf pool9 8 #[] #[{ accessFlags := 1, nameIndex := 5, descriptorIndex := 6, attributes := #[] }, { accessFlags := 0, nameIndex := 71, descriptorIndex := 72, attributes := #[] }] 49 2 #[] #[{ accessFlags := 2, nameIndex := 18, descriptorIndex := 19, attributes := #[] }, { accessFlags := 2, nameIndex := 11, descriptorIndex := 12, attributes := #[] }, { accessFlags := 2, nameIndex := 15, descriptorIndex := 12, attributes := #[] }, { accessFlags := 2, nameIndex := 29, descriptorIndex := 30, attributes := #[] }, { accessFlags := 2, nameIndex := 39, descriptorIndex := 40, attributes := #[] }])
  fields := #[{ name := "message", type := (.array .byte), accessFlags := 2, slot := 0, constantValue := 0 }, { name := "starts", type := (.array .long), accessFlags := 2, slot := 1, constantValue := 0 }, { name := "places", type := (.array .long), accessFlags := 2, slot := 2, constantValue := 0 }, { name := "runs", type := .int, accessFlags := 2, slot := 3, constantValue := 0 }, { name := "length", type := .long, accessFlags := 2, slot := 4, constantValue := 0 }]
  methods := #[k9m0, k9m1]
  instanceTypes := #[(.array .byte), (.array .long), (.array .long), .int, .long]
  staticTypes := #[]
  resolved := Array.replicate 100 none
  statics := none }

def pool10 : Array CpInfo := pool [(1, .class_ 2), (0, u "java/lang/Math"), (1, .class_ 6), (1, u "java/lang/Object"), (0, u "<init>"), (0, u "()V"), (89, .class_ 100), (1, u "java/lang/Math$RandomNumberGeneratorHolder"), (20, u "(JJ)J"), (50, u "negativeZeroFloatBits"), (0, u "J"), (2, u "negativeZeroDoubleBits"), (24, u "min"), (43, u "$assertionsDisabled"), (0, u "Z"), (91, u "twoToTheDoubleScaleDown"), (0, u "D"), (4, u "twoToTheDoubleScaleUp"), (9, u "E"), (3, u "PI"), (2, u "TAU"), (2, u "DEGREES_TO_RADIANS"), (0, u "RADIANS_TO_DEGREES")] 94

def k10m0 : Method := { name := "<init>", desc := "()V", sig := { parameters := [], returnType := none }, accessFlags := 2, code := none }
def k10c1 : Code := { maxStack := 4, maxLocals := 4, code := jdk_29_method_70_code, exceptionTable := #[], attributes := #[] }
def k10m1 : Method := { name := "min", desc := "(JJ)J", sig := { parameters := [.long, .long], returnType := some .long }, accessFlags := 9, code := some k10c1 }
/-- java/lang/Math -/
def k10 : Class := { plain "java/lang/Math" (some 0) with
  accessFlags := 49
  interfaces := #[]
  cf := some (fileOf pool10 1 #[.nestMembers #[98]] #[{ accessFlags := 2, nameIndex := 7, descriptorIndex := 8, attributes := #[] }, { accessFlags := 9, nameIndex := 201, descriptorIndex := 121, attributes := #[] }] 49 4 #[] #[{ accessFlags := 25, nameIndex := 354, descriptorIndex := 339, attributes := #[] }, { accessFlags := 25, nameIndex := 358, descriptorIndex := 339, attributes := #[] }, { accessFlags := 25, nameIndex := 361, descriptorIndex := 339, attributes := #[] }, { accessFlags := 26, nameIndex := 364, descriptorIndex := 339, attributes := #[] }, { accessFlags := 26, nameIndex := 365, descriptorIndex := 339, attributes := #[] }, { accessFlags := 26, nameIndex := 172, descriptorIndex := 173, attributes := #[] }, { accessFlags := 26, nameIndex := 176, descriptorIndex := 173, attributes := #[] }, { accessFlags := 8, nameIndex := 344, descriptorIndex := 339, attributes := #[] }, { accessFlags := 8, nameIndex := 338, descriptorIndex := 339, attributes := #[] }, { accessFlags := 4120, nameIndex := 245, descriptorIndex := 246, attributes := #[] }])
  fields := #[{ name := "E", type := .double, accessFlags := 25, slot := 0, constantValue := 0 }, { name := "PI", type := .double, accessFlags := 25, slot := 1, constantValue := 0 }, { name := "TAU", type := .double, accessFlags := 25, slot := 2, constantValue := 0 }, { name := "DEGREES_TO_RADIANS", type := .double, accessFlags := 26, slot := 3, constantValue := 0 }, { name := "RADIANS_TO_DEGREES", type := .double, accessFlags := 26, slot := 4, constantValue := 0 }, { name := "negativeZeroFloatBits", type := .long, accessFlags := 26, slot := 5, constantValue := 0 }, { name := "negativeZeroDoubleBits", type := .long, accessFlags := 26, slot := 6, constantValue := 0 }, { name := "twoToTheDoubleScaleUp", type := .double, accessFlags := 8, slot := 7, constantValue := 0 }, { name := "twoToTheDoubleScaleDown", type := .double, accessFlags := 8, slot := 8, constantValue := 0 }, { name := "$assertionsDisabled", type := .boolean, accessFlags := 4120, slot := 9, constantValue := 0 }]
  methods := #[k10m0, k10m1]
  instanceTypes := #[]
  staticTypes := #[.double, .double, .double, .double, .double, .long, .long, .double, .double, .boolean]
  resolved := Array.replicate 460 none
  statics := none }

def pool11 : Array CpInfo := pool [(1, u "java/lang/Cloneable"), (0, .class_ 1), (0, u "java/lang/Object"), (0, .class_ 3)] 3

/-- java/lang/Cloneable -/
def k11 : Class := { plain "java/lang/Cloneable" (some 0) with
  accessFlags := 1537
  interfaces := #[]
  cf := some (fileOf pool11 2 #[] #[] 1537 4 #[] #[])
  fields := #[]
  methods := #[]
  instanceTypes := #[]
  staticTypes := #[]
  resolved := Array.replicate 8 none
  statics := none }

/-- the primitive byte -/
def k12 : Class := { plain "byte" none with kind := .primitive 'B', accessFlags := 0x411 }
/-- [B -/
def k13 : Class := { plain "[B" (some 0) with kind := .array 12 .byte, interfaces := #[11, 3], accessFlags := 1041 }

/-- the primitive int -/
def k14 : Class := { plain "int" none with kind := .primitive 'I', accessFlags := 0x411 }
/-- [I -/
def k15 : Class := { plain "[I" (some 0) with kind := .array 14 .int, interfaces := #[11, 3], accessFlags := 1041 }

/-- the primitive long -/
def k16 : Class := { plain "long" none with kind := .primitive 'J', accessFlags := 0x411 }
/-- [J -/
def k17 : Class := { plain "[J" (some 0) with kind := .array 16 .long, interfaces := #[11, 3], accessFlags := 1041 }

def heap : Heap := #[]
def classes : Array Class := #[k0, k1, k2, k3, k4, k5, k6, k7, k8, k9, k10, k11, k12, k13, k14, k15, k16, k17]
def interned : List (Array UInt16 × Addr) := []
def slotsUsed : Nat := 0
def theMethod : MethodId := ⟨1, 1⟩
def args0 : Array Value := #[.long 5, .long 1, .long 9]
def aboutOver (below : List Frame) : State where
  vm := { classes := classes, interned := interned.toArray }
  heap := heap
  slotsUsed := slotsUsed
  threads := #[{ frames := .invoking theMethod args0 :: below }]
def below0 : List Frame := [.native { method := ⟨0, 0⟩, args := #[] }]
def about1 : State := aboutOver below0
def p0 : Program := .bare "" "" ""
def e0 : Env := launch0.env 0 0 0
theorem w_frames : about1.frames = Frame.invoking theMethod args0 :: below0 := rfl
set_option maxRecDepth 65536 in
theorem w_args : argsFit about1.vm theMethod args0 = true := by decide +kernel
set_option maxRecDepth 65536 in
theorem w_heap : heapFits about1 = true := by decide +kernel
set_option maxRecDepth 65536 in
theorem w_runnable : about1.curStatus? = some .runnable := by decide +kernel
set_option maxRecDepth 65536 in
theorem w_alone : about1.alone = true := by decide +kernel
set_option maxRecDepth 65536 in
theorem w_named : about1.methodNamed? x = some theMethod := by decide +kernel
set_option maxRecDepth 65536 in
theorem w_hears : about1.hears theMethod below0 = true := by decide +kernel
set_option maxRecDepth 65536 in
theorem w_ripe : about1.ripe theMethod args0 below0 = true := by decide +kernel
theorem w_running : about1.status = .running := rfl
set_option maxRecDepth 65536 in
theorem w_room : about1.hasRoom e0.platform room_1 = true :=
  launch0.hasRoom_least _ room_1 (by decide +kernel) (by decide +kernel) (by decide +kernel) (by decide +kernel) (by decide +kernel) (by decide +kernel)
theorem allAtoms_all (ts : List Jvm.Cond) (a : Array Jvm.Value) (st : Jvm.State) : (allAtoms ts).before a st = ts.all (fun c => c.before a st) := by
  induction ts with
  | nil => rfl
  | cons c t ih =>
    show (Jvm.Cond.and c (allAtoms t)).before a st = _
    rw [Jvm.Cond.before_and, ih, List.all_cons]
def words1 : List Jvm.Cond := Jvm.Cond.code x code maxLocals ret :: tables_1
/-- a 'code' word, met by the world's own term for the bytes: nothing is compared byte by byte -/
theorem code_word {y : MethodName} {bytes : ByteArray} {mx : Nat} {rt : Option FieldType} {a : Array Value} {s : State} {m : MethodId} {meth : Method} {c : Code} (h1 : s.methodNamed? y = some m) (h2 : s.vm.method? m = some meth) (h3 : meth.code = some c) (h4 : c.code = bytes)
    (h5 : (c.maxLocals == mx && c.exceptionTable.isEmpty && decide (c.maxStack ≤ mostOperands) && decide (meth.sig.returnType = rt) && !meth.locks && decide (parseMethodDescriptor y.desc = some meth.sig)) = true) : (Jvm.Cond.code y bytes mx rt).before a s = true := by
  simp only [Bool.and_eq_true, beq_iff_eq, Bool.not_eq_true', decide_eq_true_eq] at h5
  obtain ⟨⟨⟨⟨⟨g1, g2⟩, g3⟩, g4⟩, g5⟩, g6⟩ := h5
  simp [Cond.before, Cond.holds, Cond.value, h1, h2, h3, h4, g1, g2, g3, g4, g5, g6]
def isCode : Jvm.Cond → Bool
  | .code _ _ _ _ => true
  | _ => false
theorem all_split {L : List Jvm.Cond} {P : Jvm.Cond → Bool} (h1 : L.all (fun c => isCode c || P c) = true) (h2 : ∀ c ∈ L.filter isCode, P c = true) : L.all P = true := by
  refine List.all_eq_true.mpr fun c hc => ?_
  have h := List.all_eq_true.mp h1 c hc
  rcases Bool.eq_false_or_eq_true (isCode c) with hi | hi
  · exact h2 c (List.mem_filter.mpr ⟨hc, hi⟩)
  · simpa [hi] using h
set_option maxRecDepth 65536 in
theorem w_c0 : (Jvm.Cond.code x code maxLocals ret).before args0 about1 = true := code_word (m := ⟨1, 1⟩) (meth := k1m1) (c := k1c1) (by decide +kernel) rfl rfl rfl (by decide +kernel)
set_option maxRecDepth 65536 in
theorem w_c1 : (Jvm.Cond.code ({ cls := "com/example/tightwire/tightwire/bits/BitReader", name := "<init>", desc := "([B[J[JJLjava/lang/String;)V" } : Jvm.MethodName) prog_4_method_2_code (7 : Nat) (Option.none : Option Jvm.ClassFile.FieldType)).before args0 about1 = true := code_word (m := ⟨2, 0⟩) (meth := k2m0) (c := k2c0) (by decide +kernel) rfl rfl rfl (by decide +kernel)
set_option maxRecDepth 65536 in
theorem w_c2 : (Jvm.Cond.code ({ cls := "java/lang/Object", name := "<init>", desc := "()V" } : Jvm.MethodName) object_method_1_code (1 : Nat) (Option.none : Option Jvm.ClassFile.FieldType)).before args0 about1 = true := code_word (m := ⟨0, 0⟩) (meth := k0m0) (c := k0c0) (by decide +kernel) rfl rfl rfl (by decide +kernel)
set_option maxRecDepth 65536 in
theorem w_c3 : (Jvm.Cond.code ({ cls := "com/example/tightwire/tightwire/bits/BitRuns", name := "<init>", desc := "()V" } : Jvm.MethodName) prog_6_method_1_code (1 : Nat) (Option.none : Option Jvm.ClassFile.FieldType)).before args0 about1 = true := code_word (m := ⟨9, 0⟩) (meth := k9m0) (c := k9c0) (by decide +kernel) rfl rfl rfl (by decide +kernel)
set_option maxRecDepth 65536 in
theorem w_c4 : (Jvm.Cond.code ({ cls := "com/example/tightwire/tightwire/bits/BitReader", name := "take", desc := "(JLcom/example/tightwire/tightwire/bits/BitRuns;)V" } : Jvm.MethodName) prog_4_method_4_code (8 : Nat) (Option.none : Option Jvm.ClassFile.FieldType)).before args0 about1 = true := code_word (m := ⟨2, 1⟩) (meth := k2m1) (c := k2c1) (by decide +kernel) rfl rfl rfl (by decide +kernel)
set_option maxRecDepth 65536 in
theorem w_c5 : (Jvm.Cond.code ({ cls := "com/example/tightwire/tightwire/bits/BitReader", name := "remaining", desc := "()J" } : Jvm.MethodName) prog_4_method_6_code (1 : Nat) (Option.some Jvm.ClassFile.FieldType.long)).before args0 about1 = true := code_word (m := ⟨2, 3⟩) (meth := k2m3) (c := k2c3) (by decide +kernel) rfl rfl rfl (by decide +kernel)
set_option maxRecDepth 65536 in
theorem w_c6 : (Jvm.Cond.code ({ cls := "com/example/tightwire/tightwire/bits/BitReader", name := "advance", desc := "()V" } : Jvm.MethodName) prog_4_method_9_code (1 : Nat) (Option.none : Option Jvm.ClassFile.FieldType)).before args0 about1 = true := code_word (m := ⟨2, 5⟩) (meth := k2m5) (c := k2c5) (by decide +kernel) rfl rfl rfl (by decide +kernel)
set_option maxRecDepth 65536 in
theorem w_c7 : (Jvm.Cond.code ({ cls := "com/example/tightwire/tightwire/bits/BitReader", name := "end", desc := "(I)J" } : Jvm.MethodName) prog_4_method_10_code (2 : Nat) (Option.some Jvm.ClassFile.FieldType.long)).before args0 about1 = true := code_word (m := ⟨2, 6⟩) (meth := k2m6) (c := k2c6) (by decide +kernel) rfl rfl rfl (by decide +kernel)
set_option maxRecDepth 65536 in
theorem w_c8 : (Jvm.Cond.code ({ cls := "java/lang/Math", name := "min", desc := "(JJ)J" } : Jvm.MethodName) jdk_29_method_70_code (4 : Nat) (Option.some Jvm.ClassFile.FieldType.long)).before args0 about1 = true := code_word (m := ⟨10, 1⟩) (meth := k10m1) (c := k10c1) (by decide +kernel) rfl rfl rfl (by decide +kernel)
set_option maxRecDepth 65536 in
theorem w_c9 : (Jvm.Cond.code ({ cls := "com/example/tightwire/tightwire/bits/BitRuns", name := "add", desc := "([BJJ)V" } : Jvm.MethodName) prog_6_method_2_code (6 : Nat) (Option.none : Option Jvm.ClassFile.FieldType)).before args0 about1 = true := code_word (m := ⟨9, 1⟩) (meth := k9m1) (c := k9c1) (by decide +kernel) rfl rfl rfl (by decide +kernel)
set_option maxRecDepth 65536 in
theorem w_c10 : (Jvm.Cond.code ({ cls := "com/example/tightwire/tightwire/bits/BitReader", name := "align", desc := "()V" } : Jvm.MethodName) prog_4_method_5_code (1 : Nat) (Option.none : Option Jvm.ClassFile.FieldType)).before args0 about1 = true := code_word (m := ⟨2, 2⟩) (meth := k2m2) (c := k2c2) (by decide +kernel) rfl rfl rfl (by decide +kernel)
set_option maxRecDepth 65536 in
theorem w_c11 : (Jvm.Cond.code ({ cls := "com/example/tightwire/tightwire/bits/BitReader", name := "position", desc := "()J" } : Jvm.MethodName) prog_4_method_7_code (1 : Nat) (Option.some Jvm.ClassFile.FieldType.long)).before args0 about1 = true := code_word (m := ⟨2, 4⟩) (meth := k2m4) (c := k2c4) (by decide +kernel) rfl rfl rfl (by decide +kernel)
def codes1 : List Jvm.Cond := [Jvm.Cond.code x code maxLocals ret, Jvm.Cond.code ({ cls := "com/example/tightwire/tightwire/bits/BitReader", name := "<init>", desc := "([B[J[JJLjava/lang/String;)V" } : Jvm.MethodName) prog_4_method_2_code (7 : Nat) (Option.none : Option Jvm.ClassFile.FieldType), Jvm.Cond.code ({ cls := "java/lang/Object", name := "<init>", desc := "()V" } : Jvm.MethodName) object_method_1_code (1 : Nat) (Option.none : Option Jvm.ClassFile.FieldType), Jvm.Cond.code ({ cls := "com/example/tightwire/tightwire/bits/BitRuns", name := "<init>", desc := "()V" } : Jvm.MethodName) prog_6_method_1_code (1 : Nat) (Option.none : Option Jvm.ClassFile.FieldType), Jvm.Cond.code ({ cls := "com/example/tightwire/tightwire/bits/BitReader", name := "take", desc := "(JLcom/example/tightwire/tightwire/bits/BitRuns;)V" } : Jvm.MethodName) prog_4_method_4_code (8 : Nat) (Option.none : Option Jvm.ClassFile.FieldType), Jvm.Cond.code ({ cls := "com/example/tightwire/tightwire/bits/BitReader", name := "remaining", desc := "()J" } : Jvm.MethodName) prog_4_method_6_code (1 : Nat) (Option.some Jvm.ClassFile.FieldType.long), Jvm.Cond.code ({ cls := "com/example/tightwire/tightwire/bits/BitReader", name := "advance", desc := "()V" } : Jvm.MethodName) prog_4_method_9_code (1 : Nat) (Option.none : Option Jvm.ClassFile.FieldType), Jvm.Cond.code ({ cls := "com/example/tightwire/tightwire/bits/BitReader", name := "end", desc := "(I)J" } : Jvm.MethodName) prog_4_method_10_code (2 : Nat) (Option.some Jvm.ClassFile.FieldType.long), Jvm.Cond.code ({ cls := "java/lang/Math", name := "min", desc := "(JJ)J" } : Jvm.MethodName) jdk_29_method_70_code (4 : Nat) (Option.some Jvm.ClassFile.FieldType.long), Jvm.Cond.code ({ cls := "com/example/tightwire/tightwire/bits/BitRuns", name := "add", desc := "([BJJ)V" } : Jvm.MethodName) prog_6_method_2_code (6 : Nat) (Option.none : Option Jvm.ClassFile.FieldType), Jvm.Cond.code ({ cls := "com/example/tightwire/tightwire/bits/BitReader", name := "align", desc := "()V" } : Jvm.MethodName) prog_4_method_5_code (1 : Nat) (Option.none : Option Jvm.ClassFile.FieldType), Jvm.Cond.code ({ cls := "com/example/tightwire/tightwire/bits/BitReader", name := "position", desc := "()J" } : Jvm.MethodName) prog_4_method_7_code (1 : Nat) (Option.some Jvm.ClassFile.FieldType.long)]
set_option maxRecDepth 65536 in
theorem codes_eq : words1.filter isCode = codes1 := rfl
theorem w_codes : ∀ c ∈ words1.filter isCode, c.before args0 about1 = true := by
  rw [codes_eq]
  intro c hc
  simp only [codes1, List.mem_cons, List.not_mem_nil, or_false] at hc
  rcases hc with rfl | rfl | rfl | rfl | rfl | rfl | rfl | rfl | rfl | rfl | rfl | rfl
  · exact w_c0
  · exact w_c1
  · exact w_c2
  · exact w_c3
  · exact w_c4
  · exact w_c5
  · exact w_c6
  · exact w_c7
  · exact w_c8
  · exact w_c9
  · exact w_c10
  · exact w_c11
set_option maxRecDepth 65536 in
theorem w_t1 : (words1.take 24).all (fun c => isCode c || c.before args0 about1) = true := by decide +kernel
set_option maxRecDepth 65536 in
theorem w_t2 : ((words1.drop 24).take 24).all (fun c => isCode c || c.before args0 about1) = true := by decide +kernel
set_option maxRecDepth 65536 in
theorem w_t3 : (((words1.drop 24).drop 24).take 24).all (fun c => isCode c || c.before args0 about1) = true := by decide +kernel
set_option maxRecDepth 65536 in
theorem w_t4 : (((words1.drop 24).drop 24).drop 24).all (fun c => isCode c || c.before args0 about1) = true := by decide +kernel
theorem w_tables : (allAtoms (Jvm.Cond.code x code maxLocals ret :: tables_1)).before args0 about1 = true := by
  rw [allAtoms_all]
  show words1.all (fun c => c.before args0 about1) = true
  refine all_split ?_ w_codes
  rw [← List.take_append_drop 24 words1, List.all_append, w_t1, ← List.take_append_drop 24 (words1.drop 24), List.all_append, w_t2, ← List.take_append_drop 24 ((words1.drop 24).drop 24), List.all_append, w_t3, w_t4]
  rfl
set_option maxRecDepth 65536 in
theorem w_case : (Jvm.Cond.and given_1 narrow_1).before args0 about1 = true := by decide +kernel
theorem w_applies : (headSpec (Jvm.Cond.code x code maxLocals ret :: tables_1) room_1).applies x e0.platform about1 = true :=
  (Spec.applies_iff w_frames).mpr ⟨w_running, w_runnable, w_alone, w_named, w_hears, w_ripe, w_room, w_tables⟩
theorem atStart : AtStart classFile x code maxLocals ret World_1 tables_1 room_1 Calls_1 rest_1 Pre_1 launch0 p0 e0 about1 theMethod args0 below0 :=
  ⟨lists_1, trivial, launch0.admits_env _ _ _, launch0.least_env, fairChoices_fair.cas, fairChoices_fair.clock, w_frames, w_args, w_heap, w_applies, trivial, trivial, w_case⟩
end start1
theorem witness_1 : WitnessClaimed_1 := ⟨start1.p0, start1.e0, start1.about1, start1.theMethod, start1.args0, start1.below0, start1.atStart⟩
end Jvm.Pilot.@@N@@
