import JvmDerived
import JvmDerived.Pilot.@@N@@Statement
import JvmDerived.Pilot.@@N@@Code
set_option linter.unusedVariables false
set_option linter.unusedSimpArgs false
namespace Jvm.Pilot.@@N@@
open Jvm Jvm.ClassFile Sem Op Lib Jvm.Free Jvm.Stand Jvm.LawKit Jvm.RoadKit Bundle Jvm.Pilot.@@N@@.Jvm.D
section OwnKit
variable {p : Program} {l : Launch} {e : Env} {R : Room} {s : State} {m : MethodId} {args : Array Value} {below : List Frame} {meth : Method} {c : Code} {n0 : Nat} {h0 h h' : Heap} {ws : List Addr} {T T' : State} {C S C' S' : Nat} {Q : Option Value → Heap → Prop} {En : Outcome → State → List Loc → Prop} {Z : State} {a0 : Array Value} {bytes : ByteArray} {maxL : Nat} {own nm : String} {rt : Option FieldType} {L L' : Array Slot} {st : List Value} {pc pc' : Nat}
/-- where the run stands: heap h, nothing old written but cells in ws -/
def own_St (p : Program) (l : Launch) (e : Env) (R : Room) (s : State) (m : MethodId) (args : Array Value) (below : List Frame) (meth : Method) (c : Code) (n0 : Nat) (h0 : Heap) (ws : List Addr) (T : State) (h : Heap) (C S : Nat) : Prop :=
  ∃ locs, Stand p l e R s m args below meth c T locs C S ∧ Fr n0 locs ∧ T.heap = h ∧ Keep h0 h ws
/-- from this frame the invocation ends, and Q holds of what it returns and of the heap -/
def own_H (p : Program) (e : Env) (below : List Frame) (En : Outcome → State → List Loc → Prop) (n0 : Nat) (h0 : Heap) (ws : List Addr) (Q : Option Value → Heap → Prop) (T : State) (f : JFrame) : Prop :=
  ∃ (s₂ : State) (o : Outcome), Steps p.tables e below (T.setTop f) s₂ ∧ s₂.status = .running ∧ Ended s₂ below o ∧ ∃ v L, o = .returned v ∧ (Fr n0 L ∧ Keep h0 s₂.heap ws ∧ Q v s₂.heap) ∧ En o s₂ L
def own_F (s : State) (C S : Nat) (o : Outcome) (t : State) (L : List Loc) : Prop := FrameEnd s o t L C S
abbrev own_G (p : Program) (e : Env) (below : List Frame) (s : State) (n0 : Nat) (h0 : Heap) (ws : List Addr) (Q : Option Value → Heap → Prop) (C S : Nat) (T : State) (f : JFrame) : Prop := own_H p e below (own_F s C S) n0 h0 ws Q T f
def own_B (Z : State) (p : Program) (s : State) (m : MethodId) (meth : Method) (c : Code) (bytes : ByteArray) (maxL : Nat) (own nm : String) (rt : Option FieldType) : Prop :=
  p.tables.exec = Jvm.exec ∧ Z.Warmed39 s.vm ∧ c.code = bytes ∧ c.maxLocals = maxL ∧ s.vm.findClass own = some m.cls ∧ meth.name = nm ∧ meth.sig.returnType = rt ∧ meth.locks = false
/-- a contract -/
def own_C (l : Launch) (Z : State) (y : MethodName) (bytes : ByteArray) (maxL : Nat) (rt : Option FieldType) (cws : List Jvm.Cond) (rm : Room) (as : Array Value) (h0 : Heap) (n0 : Nat) (ws : List Addr) (Q : Option Value → Heap → Prop) (C S : Nat) : Prop :=
  MetFree l y (head1 (Jvm.Cond.code y bytes maxL rt :: cws) rm) (fun a U => a = as ∧ Z.Warmed39 U.vm ∧ U.heap = h0) (fun _ _ _ _ _ => True) (fun _ U o U' => ∃ v L, o = .returned v ∧ (Fr n0 L ∧ Keep h0 U'.heap ws ∧ Q v U'.heap) ∧ FrameEnd U o U' L C S)
theorem own_enter {y : MethodName} {cws : List Jvm.Cond} {rm : Room} {as : Array Value} {L0 : Array Slot} (hpl : plainFor y = true) (hef : ∀ m, entryFrame m as maxL = mkF m 0 L0 [])
    (body : ∀ p e s m below meth c T, own_B Z p s m meth c bytes maxL y.cls y.name rt → own_St p l e rm s m as below meth c n0 h0 ws T h0 0 0 → own_G p e below s n0 h0 ws Q C S T (mkF m 0 L0 [])) :
    own_C l Z y bytes maxL rt cws rm as h0 n0 ws Q C S := by
  show MetFree l y _ _ _ _
  refine MetFree.of_bodySF hpl hisR ?_
  intro p e s m args below meth c s₁ Bd hml0 hP hK
  obtain ⟨rfl, hZ, hh⟩ := hP
  have X0 : Stand p l e rm s m _ below meth c s₁ [] 0 0 := Stand.of_body Bd
  have e0 : s₁.heap = h0 := by rw [← hh, Bd.state]; rfl
  obtain ⟨s₂, o, h1, h2, h3, h4⟩ := body p e s m below meth c s₁ ⟨Bd.exec, hZ, Bd.bytes, hml0, findClass_of_methodNamed Bd.named, (name_of_methodNamed Bd.named Bd.method).1, Bd.returns, Bd.notSynchronized⟩ ⟨[], X0, Fr.nil n0, e0, Keep.refl _ _⟩
  exact ⟨s₂, o, castTop (hef m) h1, h2, h3, h4⟩
theorem own_st (X : own_St p l e R s m args below meth c n0 h0 ws T h C S) {f f' : JFrame} (k : own_H p e below En n0 h0 ws Q T f') (hst : ∀ t, At T m c below → Steps p.tables e below (T.setTop f') t → Steps p.tables e below (T.setTop f) t) : own_H p e below En n0 h0 ws Q T f := by
  obtain ⟨s₂, o, h1, h2⟩ := k
  obtain ⟨locs, Y, -⟩ := X
  exact ⟨s₂, o, hst _ Y.here h1, h2⟩
theorem own_tr {f f' : JFrame} (hst : ∀ t, Steps p.tables e below (T'.setTop f') t → Steps p.tables e below (T.setTop f) t) (k : own_H p e below En n0 h0 ws Q T' f') : own_H p e below En n0 h0 ws Q T f := by
  obtain ⟨s₂, o, h1, h2⟩ := k
  exact ⟨s₂, o, hst _ h1, h2⟩
theorem own_ret (X : own_St p l e R s m args below meth c n0 h0 ws T h C S) (B : own_B Z p s m meth c bytes maxL own nm rt) (hc : C ≤ C') (hs : S ≤ S') {v : Option Value} {f : JFrame} (hv : rt = none → v = none)
    (hst : ∀ locs fs, Stand p l e R s m args below meth c T locs C S → (∀ (f : JFrame) (acts : List Action), f.method = m → f.locked = none → f.entered = [] → (doReturn e (T.setTop f) acts v).1 = T.setFrames fs) → Steps p.tables e below (T.setTop f) (T.setFrames fs)) (q : Q v h) : own_G p e below s n0 h0 ws Q C' S' T f := by
  obtain ⟨locs, Y, N, e, K⟩ := X
  obtain ⟨-, -, -, -, -, -, hret, hlk⟩ := B
  obtain ⟨fs, hr, hrun, hended, hW, hsame⟩ := Y.leave (v := v) (fun h => hv (hret.symm.trans h)) hlk
  subst e
  exact ⟨_, _, hst locs fs Y hr, hrun, hended, _, _, rfl, ⟨N, K, q⟩, ⟨_, rfl⟩, hW, hsame.mono hc hs⟩
theorem own_iloadN (X : own_St p l e R s m args below meth c n0 h0 ws T h C S) (B : own_B Z p s m meth c bytes maxL own nm rt) {i : Fin 4} {v : Int32} (hd : decode bytes pc = .ok (.iload_n i, 1)) (hl : L[i.val]? = some (.val (.int v))) (hp : pc + 1 = pc') (k : own_H p e below En n0 h0 ws Q T (mkF m pc' L (.int v :: st))) : own_H p e below En n0 h0 ws Q T (mkF m pc L st) := by
  subst hp
  exact own_st X k (fun t A q => XS.iloadN A B.1 rfl (hb B.2.2.1 hd) hl q)
theorem own_iload (X : own_St p l e R s m args below meth c n0 h0 ws T h C S) (B : own_B Z p s m meth c bytes maxL own nm rt) {i : Nat} {v : Int32} (hd : decode bytes pc = .ok (.iload i, 2)) (hl : L[i]? = some (.val (.int v))) (hp : pc + 2 = pc') (k : own_H p e below En n0 h0 ws Q T (mkF m pc' L (.int v :: st))) : own_H p e below En n0 h0 ws Q T (mkF m pc L st) := by
  subst hp
  exact own_st X k (fun t A q => XS.iload A B.1 rfl (hb B.2.2.1 hd) hl q)
theorem own_istoreN (X : own_St p l e R s m args below meth c n0 h0 ws T h C S) (B : own_B Z p s m meth c bytes maxL own nm rt) {i : Fin 4} {v : Int32} (hd : decode bytes pc = .ok (.istore_n i, 1)) (hl : storeLocals L i.val (.int v) = some L') (hp : pc + 1 = pc') (k : own_H p e below En n0 h0 ws Q T (mkF m pc' L' st)) : own_H p e below En n0 h0 ws Q T (mkF m pc L (.int v :: st)) := by
  subst hp
  exact own_st X k (fun t A q => XS.istoreN A B.1 rfl (hb B.2.2.1 hd) rfl hl q)
theorem own_istore (X : own_St p l e R s m args below meth c n0 h0 ws T h C S) (B : own_B Z p s m meth c bytes maxL own nm rt) {i : Nat} {v : Int32} (hd : decode bytes pc = .ok (.istore i, 2)) (hl : storeLocals L i (.int v) = some L') (hp : pc + 2 = pc') (k : own_H p e below En n0 h0 ws Q T (mkF m pc' L' st)) : own_H p e below En n0 h0 ws Q T (mkF m pc L (.int v :: st)) := by
  subst hp
  exact own_st X k (fun t A q => XS.istore A B.1 rfl (hb B.2.2.1 hd) rfl hl q)
theorem own_lloadN (X : own_St p l e R s m args below meth c n0 h0 ws T h C S) (B : own_B Z p s m meth c bytes maxL own nm rt) {i : Fin 4} {v : Int64} (hd : decode bytes pc = .ok (.lload_n i, 1)) (hl : L[i.val]? = some (.val (.long v))) (hp : pc + 1 = pc') (k : own_H p e below En n0 h0 ws Q T (mkF m pc' L (.long v :: st))) : own_H p e below En n0 h0 ws Q T (mkF m pc L st) := by
  subst hp
  exact own_st X k (fun t A q => XS.lloadN A B.1 rfl (hb B.2.2.1 hd) hl q)
theorem own_lload (X : own_St p l e R s m args below meth c n0 h0 ws T h C S) (B : own_B Z p s m meth c bytes maxL own nm rt) {i : Nat} {v : Int64} (hd : decode bytes pc = .ok (.lload i, 2)) (hl : L[i]? = some (.val (.long v))) (hp : pc + 2 = pc') (k : own_H p e below En n0 h0 ws Q T (mkF m pc' L (.long v :: st))) : own_H p e below En n0 h0 ws Q T (mkF m pc L st) := by
  subst hp
  exact own_st X k (fun t A q => XS.lload A B.1 rfl (hb B.2.2.1 hd) hl q)
theorem own_lstoreN (X : own_St p l e R s m args below meth c n0 h0 ws T h C S) (B : own_B Z p s m meth c bytes maxL own nm rt) {i : Fin 4} {v : Int64} (hd : decode bytes pc = .ok (.lstore_n i, 1)) (hl : storeLocals L i.val (.long v) = some L') (hp : pc + 1 = pc') (k : own_H p e below En n0 h0 ws Q T (mkF m pc' L' st)) : own_H p e below En n0 h0 ws Q T (mkF m pc L (.long v :: st)) := by
  subst hp
  exact own_st X k (fun t A q => XS.lstoreN A B.1 rfl (hb B.2.2.1 hd) rfl hl q)
theorem own_lstore (X : own_St p l e R s m args below meth c n0 h0 ws T h C S) (B : own_B Z p s m meth c bytes maxL own nm rt) {i : Nat} {v : Int64} (hd : decode bytes pc = .ok (.lstore i, 2)) (hl : storeLocals L i (.long v) = some L') (hp : pc + 2 = pc') (k : own_H p e below En n0 h0 ws Q T (mkF m pc' L' st)) : own_H p e below En n0 h0 ws Q T (mkF m pc L (.long v :: st)) := by
  subst hp
  exact own_st X k (fun t A q => XS.lstore A B.1 rfl (hb B.2.2.1 hd) rfl hl q)
theorem own_aloadN (X : own_St p l e R s m args below meth c n0 h0 ws T h C S) (B : own_B Z p s m meth c bytes maxL own nm rt) {i : Fin 4} {v : Value} (hd : decode bytes pc = .ok (.aload_n i, 1)) (hl : L[i.val]? = some (.val v)) (hv : v.isRef = true) (hp : pc + 1 = pc') (k : own_H p e below En n0 h0 ws Q T (mkF m pc' L (v :: st))) : own_H p e below En n0 h0 ws Q T (mkF m pc L st) := by
  subst hp
  exact own_st X k (fun t A q => XS.aloadN A B.1 rfl (hb B.2.2.1 hd) hl hv q)
theorem own_aload (X : own_St p l e R s m args below meth c n0 h0 ws T h C S) (B : own_B Z p s m meth c bytes maxL own nm rt) {i : Nat} {v : Value} (hd : decode bytes pc = .ok (.aload i, 2)) (hl : L[i]? = some (.val v)) (hv : v.isRef = true) (hp : pc + 2 = pc') (k : own_H p e below En n0 h0 ws Q T (mkF m pc' L (v :: st))) : own_H p e below En n0 h0 ws Q T (mkF m pc L st) := by
  subst hp
  exact own_st X k (fun t A q => XS.aload A B.1 rfl (hb B.2.2.1 hd) hl hv q)
theorem own_astoreN (X : own_St p l e R s m args below meth c n0 h0 ws T h C S) (B : own_B Z p s m meth c bytes maxL own nm rt) {i : Fin 4} {v : Value} (hd : decode bytes pc = .ok (.astore_n i, 1)) (hv : v.isRef = true) (hl : storeLocals L i.val v = some L') (hp : pc + 1 = pc') (k : own_H p e below En n0 h0 ws Q T (mkF m pc' L' st)) : own_H p e below En n0 h0 ws Q T (mkF m pc L (v :: st)) := by
  subst hp
  exact own_st X k (fun t A q => XS.astoreN A B.1 rfl (hb B.2.2.1 hd) rfl hv hl q)
theorem own_astore (X : own_St p l e R s m args below meth c n0 h0 ws T h C S) (B : own_B Z p s m meth c bytes maxL own nm rt) {i : Nat} {v : Value} (hd : decode bytes pc = .ok (.astore i, 2)) (hv : v.isRef = true) (hl : storeLocals L i v = some L') (hp : pc + 2 = pc') (k : own_H p e below En n0 h0 ws Q T (mkF m pc' L' st)) : own_H p e below En n0 h0 ws Q T (mkF m pc L (v :: st)) := by
  subst hp
  exact own_st X k (fun t A q => XS.astore A B.1 rfl (hb B.2.2.1 hd) rfl hv hl q)
theorem own_iconst (X : own_St p l e R s m args below meth c n0 h0 ws T h C S) (B : own_B Z p s m meth c bytes maxL own nm rt) {i : Int} {v : Int32} (hd : decode bytes pc = .ok (.iconst i, 1)) (hv : Int32.ofInt i = v) (hp : pc + 1 = pc') (k : own_H p e below En n0 h0 ws Q T (mkF m pc' L (.int v :: st))) : own_H p e below En n0 h0 ws Q T (mkF m pc L st) := by
  subst hp hv
  exact own_st X k (fun t A q => XS.iconst A B.1 rfl (hb B.2.2.1 hd)  q)
theorem own_bipush (X : own_St p l e R s m args below meth c n0 h0 ws T h C S) (B : own_B Z p s m meth c bytes maxL own nm rt) {i : Int} {v : Int32} (hd : decode bytes pc = .ok (.bipush i, 2)) (hv : (Int8.ofInt i).toInt32 = v) (hp : pc + 2 = pc') (k : own_H p e below En n0 h0 ws Q T (mkF m pc' L (.int v :: st))) : own_H p e below En n0 h0 ws Q T (mkF m pc L st) := by
  subst hp hv
  exact own_st X k (fun t A q => XS.bipush A B.1 rfl (hb B.2.2.1 hd)  q)
theorem own_sipush (X : own_St p l e R s m args below meth c n0 h0 ws T h C S) (B : own_B Z p s m meth c bytes maxL own nm rt) {i : Int} {v : Int32} (hd : decode bytes pc = .ok (.sipush i, 3)) (hv : (Int16.ofInt i).toInt32 = v) (hp : pc + 3 = pc') (k : own_H p e below En n0 h0 ws Q T (mkF m pc' L (.int v :: st))) : own_H p e below En n0 h0 ws Q T (mkF m pc L st) := by
  subst hp hv
  exact own_st X k (fun t A q => XS.sipush A B.1 rfl (hb B.2.2.1 hd)  q)
theorem own_lconst (X : own_St p l e R s m args below meth c n0 h0 ws T h C S) (B : own_B Z p s m meth c bytes maxL own nm rt) {i : Fin 2} {v : Int64} (hd : decode bytes pc = .ok (.lconst i, 1)) (hv : Int64.ofNat i = v) (hp : pc + 1 = pc') (k : own_H p e below En n0 h0 ws Q T (mkF m pc' L (.long v :: st))) : own_H p e below En n0 h0 ws Q T (mkF m pc L st) := by
  subst hp hv
  exact own_st X k (fun t A q => XS.lconst A B.1 rfl (hb B.2.2.1 hd)  q)
theorem own_aconst_null (X : own_St p l e R s m args below meth c n0 h0 ws T h C S) (B : own_B Z p s m meth c bytes maxL own nm rt)  (hd : decode bytes pc = .ok (.aconst_null, 1)) (hp : pc + 1 = pc') (k : own_H p e below En n0 h0 ws Q T (mkF m pc' L (.null :: st))) : own_H p e below En n0 h0 ws Q T (mkF m pc L st) := by
  subst hp
  exact own_st X k (fun t A q => XS.aconstNull A B.1 rfl (hb B.2.2.1 hd)  q)
theorem own_iadd (X : own_St p l e R s m args below meth c n0 h0 ws T h C S) (B : own_B Z p s m meth c bytes maxL own nm rt) {x y : Int32} (hd : decode bytes pc = .ok (.iadd, 1)) (hp : pc + 1 = pc') (k : own_H p e below En n0 h0 ws Q T (mkF m pc' L (.int (x + y) :: st))) : own_H p e below En n0 h0 ws Q T (mkF m pc L (.int y :: .int x :: st)) := by
  subst hp
  exact own_st X k (fun t A q => XS.iadd A B.1 rfl (hb B.2.2.1 hd) rfl q)
theorem own_ladd (X : own_St p l e R s m args below meth c n0 h0 ws T h C S) (B : own_B Z p s m meth c bytes maxL own nm rt) {x y : Int64} (hd : decode bytes pc = .ok (.ladd, 1)) (hp : pc + 1 = pc') (k : own_H p e below En n0 h0 ws Q T (mkF m pc' L (.long (x + y) :: st))) : own_H p e below En n0 h0 ws Q T (mkF m pc L (.long y :: .long x :: st)) := by
  subst hp
  exact own_st X k (fun t A q => XS.ladd A B.1 rfl (hb B.2.2.1 hd) rfl q)
theorem own_isub (X : own_St p l e R s m args below meth c n0 h0 ws T h C S) (B : own_B Z p s m meth c bytes maxL own nm rt) {x y : Int32} (hd : decode bytes pc = .ok (.isub, 1)) (hp : pc + 1 = pc') (k : own_H p e below En n0 h0 ws Q T (mkF m pc' L (.int (x - y) :: st))) : own_H p e below En n0 h0 ws Q T (mkF m pc L (.int y :: .int x :: st)) := by
  subst hp
  exact own_st X k (fun t A q => XS.isub A B.1 rfl (hb B.2.2.1 hd) rfl q)
theorem own_lsub (X : own_St p l e R s m args below meth c n0 h0 ws T h C S) (B : own_B Z p s m meth c bytes maxL own nm rt) {x y : Int64} (hd : decode bytes pc = .ok (.lsub, 1)) (hp : pc + 1 = pc') (k : own_H p e below En n0 h0 ws Q T (mkF m pc' L (.long (x - y) :: st))) : own_H p e below En n0 h0 ws Q T (mkF m pc L (.long y :: .long x :: st)) := by
  subst hp
  exact own_st X k (fun t A q => XS.lsub A B.1 rfl (hb B.2.2.1 hd) rfl q)
theorem own_imul (X : own_St p l e R s m args below meth c n0 h0 ws T h C S) (B : own_B Z p s m meth c bytes maxL own nm rt) {x y : Int32} (hd : decode bytes pc = .ok (.imul, 1)) (hp : pc + 1 = pc') (k : own_H p e below En n0 h0 ws Q T (mkF m pc' L (.int (x * y) :: st))) : own_H p e below En n0 h0 ws Q T (mkF m pc L (.int y :: .int x :: st)) := by
  subst hp
  exact own_st X k (fun t A q => XS.imul A B.1 rfl (hb B.2.2.1 hd) rfl q)
theorem own_lmul (X : own_St p l e R s m args below meth c n0 h0 ws T h C S) (B : own_B Z p s m meth c bytes maxL own nm rt) {x y : Int64} (hd : decode bytes pc = .ok (.lmul, 1)) (hp : pc + 1 = pc') (k : own_H p e below En n0 h0 ws Q T (mkF m pc' L (.long (x * y) :: st))) : own_H p e below En n0 h0 ws Q T (mkF m pc L (.long y :: .long x :: st)) := by
  subst hp
  exact own_st X k (fun t A q => XS.lmul A B.1 rfl (hb B.2.2.1 hd) rfl q)
theorem own_iand (X : own_St p l e R s m args below meth c n0 h0 ws T h C S) (B : own_B Z p s m meth c bytes maxL own nm rt) {x y : Int32} (hd : decode bytes pc = .ok (.iand, 1)) (hp : pc + 1 = pc') (k : own_H p e below En n0 h0 ws Q T (mkF m pc' L (.int (x &&& y) :: st))) : own_H p e below En n0 h0 ws Q T (mkF m pc L (.int y :: .int x :: st)) := by
  subst hp
  exact own_st X k (fun t A q => XS.iand A B.1 rfl (hb B.2.2.1 hd) rfl q)
theorem own_land (X : own_St p l e R s m args below meth c n0 h0 ws T h C S) (B : own_B Z p s m meth c bytes maxL own nm rt) {x y : Int64} (hd : decode bytes pc = .ok (.land, 1)) (hp : pc + 1 = pc') (k : own_H p e below En n0 h0 ws Q T (mkF m pc' L (.long (x &&& y) :: st))) : own_H p e below En n0 h0 ws Q T (mkF m pc L (.long y :: .long x :: st)) := by
  subst hp
  exact own_st X k (fun t A q => XS.land A B.1 rfl (hb B.2.2.1 hd) rfl q)
theorem own_ior (X : own_St p l e R s m args below meth c n0 h0 ws T h C S) (B : own_B Z p s m meth c bytes maxL own nm rt) {x y : Int32} (hd : decode bytes pc = .ok (.ior, 1)) (hp : pc + 1 = pc') (k : own_H p e below En n0 h0 ws Q T (mkF m pc' L (.int (x ||| y) :: st))) : own_H p e below En n0 h0 ws Q T (mkF m pc L (.int y :: .int x :: st)) := by
  subst hp
  exact own_st X k (fun t A q => XS.ior A B.1 rfl (hb B.2.2.1 hd) rfl q)
theorem own_lor (X : own_St p l e R s m args below meth c n0 h0 ws T h C S) (B : own_B Z p s m meth c bytes maxL own nm rt) {x y : Int64} (hd : decode bytes pc = .ok (.lor, 1)) (hp : pc + 1 = pc') (k : own_H p e below En n0 h0 ws Q T (mkF m pc' L (.long (x ||| y) :: st))) : own_H p e below En n0 h0 ws Q T (mkF m pc L (.long y :: .long x :: st)) := by
  subst hp
  exact own_st X k (fun t A q => XS.lor A B.1 rfl (hb B.2.2.1 hd) rfl q)
theorem own_ixor (X : own_St p l e R s m args below meth c n0 h0 ws T h C S) (B : own_B Z p s m meth c bytes maxL own nm rt) {x y : Int32} (hd : decode bytes pc = .ok (.ixor, 1)) (hp : pc + 1 = pc') (k : own_H p e below En n0 h0 ws Q T (mkF m pc' L (.int (x ^^^ y) :: st))) : own_H p e below En n0 h0 ws Q T (mkF m pc L (.int y :: .int x :: st)) := by
  subst hp
  exact own_st X k (fun t A q => XS.ixor A B.1 rfl (hb B.2.2.1 hd) rfl q)
theorem own_lxor (X : own_St p l e R s m args below meth c n0 h0 ws T h C S) (B : own_B Z p s m meth c bytes maxL own nm rt) {x y : Int64} (hd : decode bytes pc = .ok (.lxor, 1)) (hp : pc + 1 = pc') (k : own_H p e below En n0 h0 ws Q T (mkF m pc' L (.long (x ^^^ y) :: st))) : own_H p e below En n0 h0 ws Q T (mkF m pc L (.long y :: .long x :: st)) := by
  subst hp
  exact own_st X k (fun t A q => XS.lxor A B.1 rfl (hb B.2.2.1 hd) rfl q)
theorem own_ishl (X : own_St p l e R s m args below meth c n0 h0 ws T h C S) (B : own_B Z p s m meth c bytes maxL own nm rt) {x y : Int32} (hd : decode bytes pc = .ok (.ishl, 1)) (hp : pc + 1 = pc') (k : own_H p e below En n0 h0 ws Q T (mkF m pc' L (.int (x <<< (y &&& 31)) :: st))) : own_H p e below En n0 h0 ws Q T (mkF m pc L (.int y :: .int x :: st)) := by
  subst hp
  exact own_st X k (fun t A q => XS.ishl A B.1 rfl (hb B.2.2.1 hd) rfl q)
theorem own_ishr (X : own_St p l e R s m args below meth c n0 h0 ws T h C S) (B : own_B Z p s m meth c bytes maxL own nm rt) {x y : Int32} (hd : decode bytes pc = .ok (.ishr, 1)) (hp : pc + 1 = pc') (k : own_H p e below En n0 h0 ws Q T (mkF m pc' L (.int (x >>> (y &&& 31)) :: st))) : own_H p e below En n0 h0 ws Q T (mkF m pc L (.int y :: .int x :: st)) := by
  subst hp
  exact own_st X k (fun t A q => XS.ishr A B.1 rfl (hb B.2.2.1 hd) rfl q)
theorem own_iushr (X : own_St p l e R s m args below meth c n0 h0 ws T h C S) (B : own_B Z p s m meth c bytes maxL own nm rt) {x y : Int32} (hd : decode bytes pc = .ok (.iushr, 1)) (hp : pc + 1 = pc') (k : own_H p e below En n0 h0 ws Q T (mkF m pc' L (.int ((x.toUInt32 >>> (y &&& 31).toUInt32).toInt32) :: st))) : own_H p e below En n0 h0 ws Q T (mkF m pc L (.int y :: .int x :: st)) := by
  subst hp
  exact own_st X k (fun t A q => XS.iushr A B.1 rfl (hb B.2.2.1 hd) rfl q)
theorem own_lshl (X : own_St p l e R s m args below meth c n0 h0 ws T h C S) (B : own_B Z p s m meth c bytes maxL own nm rt) {x : Int64} {y : Int32} (hd : decode bytes pc = .ok (.lshl, 1)) (hp : pc + 1 = pc') (k : own_H p e below En n0 h0 ws Q T (mkF m pc' L (.long (x <<< (y &&& 0x3f).toInt64) :: st))) : own_H p e below En n0 h0 ws Q T (mkF m pc L (.int y :: .long x :: st)) := by
  subst hp
  exact own_st X k (fun t A q => XS.lshl A B.1 rfl (hb B.2.2.1 hd) rfl q)
theorem own_lshr (X : own_St p l e R s m args below meth c n0 h0 ws T h C S) (B : own_B Z p s m meth c bytes maxL own nm rt) {x : Int64} {y : Int32} (hd : decode bytes pc = .ok (.lshr, 1)) (hp : pc + 1 = pc') (k : own_H p e below En n0 h0 ws Q T (mkF m pc' L (.long (x >>> (y &&& 0x3f).toInt64) :: st))) : own_H p e below En n0 h0 ws Q T (mkF m pc L (.int y :: .long x :: st)) := by
  subst hp
  exact own_st X k (fun t A q => XS.lshr A B.1 rfl (hb B.2.2.1 hd) rfl q)
theorem own_lushr (X : own_St p l e R s m args below meth c n0 h0 ws T h C S) (B : own_B Z p s m meth c bytes maxL own nm rt) {x : Int64} {y : Int32} (hd : decode bytes pc = .ok (.lushr, 1)) (hp : pc + 1 = pc') (k : own_H p e below En n0 h0 ws Q T (mkF m pc' L (.long ((x.toUInt64 >>> (y &&& 0x3f).toInt64.toUInt64).toInt64) :: st))) : own_H p e below En n0 h0 ws Q T (mkF m pc L (.int y :: .long x :: st)) := by
  subst hp
  exact own_st X k (fun t A q => XS.lushr A B.1 rfl (hb B.2.2.1 hd) rfl q)
theorem own_idiv (X : own_St p l e R s m args below meth c n0 h0 ws T h C S) (B : own_B Z p s m meth c bytes maxL own nm rt) {x y : Int32} (hd : decode bytes pc = .ok (.idiv, 1)) (hy : y ≠ 0) (hp : pc + 1 = pc') (k : own_H p e below En n0 h0 ws Q T (mkF m pc' L (.int (x / y) :: st))) : own_H p e below En n0 h0 ws Q T (mkF m pc L (.int y :: .int x :: st)) := by
  subst hp
  exact own_st X k (fun t A q => XS.idiv A B.1 rfl (hb B.2.2.1 hd) rfl hy q)
theorem own_irem (X : own_St p l e R s m args below meth c n0 h0 ws T h C S) (B : own_B Z p s m meth c bytes maxL own nm rt) {x y : Int32} (hd : decode bytes pc = .ok (.irem, 1)) (hy : y ≠ 0) (hp : pc + 1 = pc') (k : own_H p e below En n0 h0 ws Q T (mkF m pc' L (.int (x % y) :: st))) : own_H p e below En n0 h0 ws Q T (mkF m pc L (.int y :: .int x :: st)) := by
  subst hp
  obtain ⟨locs, Y, -⟩ := X
  exact own_tr (fun t q => iremM Y B.1 (g := mkF m pc L (.int y :: .int x :: st)) rfl (hb B.2.2.1 hd) rfl hy q) k
theorem own_lrem (X : own_St p l e R s m args below meth c n0 h0 ws T h C S) (B : own_B Z p s m meth c bytes maxL own nm rt) {x y : Int64} (hd : decode bytes pc = .ok (.lrem, 1)) (hy : y ≠ 0) (hp : pc + 1 = pc') (k : own_H p e below En n0 h0 ws Q T (mkF m pc' L (.long (x % y) :: st))) : own_H p e below En n0 h0 ws Q T (mkF m pc L (.long y :: .long x :: st)) := by
  subst hp
  exact own_st X k (fun t A q => XS.lrem A B.1 rfl (hb B.2.2.1 hd) rfl hy (by rw [lrem_mod x y]; exact q))
theorem own_i2l (X : own_St p l e R s m args below meth c n0 h0 ws T h C S) (B : own_B Z p s m meth c bytes maxL own nm rt) {x : Int32} (hd : decode bytes pc = .ok (.i2l, 1)) (hp : pc + 1 = pc') (k : own_H p e below En n0 h0 ws Q T (mkF m pc' L (.long x.toInt64 :: st))) : own_H p e below En n0 h0 ws Q T (mkF m pc L (.int x :: st)) := by
  subst hp
  exact own_st X k (fun t A q => XS.i2l A B.1 rfl (hb B.2.2.1 hd) rfl q)
theorem own_l2i (X : own_St p l e R s m args below meth c n0 h0 ws T h C S) (B : own_B Z p s m meth c bytes maxL own nm rt) {x : Int64} (hd : decode bytes pc = .ok (.l2i, 1)) (hp : pc + 1 = pc') (k : own_H p e below En n0 h0 ws Q T (mkF m pc' L (.int x.toInt32 :: st))) : own_H p e below En n0 h0 ws Q T (mkF m pc L (.long x :: st)) := by
  subst hp
  exact own_st X k (fun t A q => XS.l2i A B.1 rfl (hb B.2.2.1 hd) rfl q)
theorem own_lcmp (X : own_St p l e R s m args below meth c n0 h0 ws T h C S) (B : own_B Z p s m meth c bytes maxL own nm rt) {x y : Int64} (hd : decode bytes pc = .ok (.lcmp, 1)) (hp : pc + 1 = pc') (k : own_H p e below En n0 h0 ws Q T (mkF m pc' L (.int (lcmpW x y) :: st))) : own_H p e below En n0 h0 ws Q T (mkF m pc L (.long y :: .long x :: st)) := by
  subst hp
  exact own_st X k (fun t A q => XS.lcmp A B.1 rfl (hb B.2.2.1 hd) rfl q)
theorem own_dup (X : own_St p l e R s m args below meth c n0 h0 ws T h C S) (B : own_B Z p s m meth c bytes maxL own nm rt) {v : Value} (hd : decode bytes pc = .ok (.dup, 1)) (hv : v.category = 1) (hp : pc + 1 = pc') (k : own_H p e below En n0 h0 ws Q T (mkF m pc' L (v :: v :: st))) : own_H p e below En n0 h0 ws Q T (mkF m pc L (v :: st)) := by
  subst hp
  exact own_st X k (fun t A q => XS.dup A B.1 rfl (hb B.2.2.1 hd) rfl hv q)
theorem own_pop (X : own_St p l e R s m args below meth c n0 h0 ws T h C S) (B : own_B Z p s m meth c bytes maxL own nm rt) {v : Value} (hd : decode bytes pc = .ok (.pop, 1)) (hv : v.category = 1) (hp : pc + 1 = pc') (k : own_H p e below En n0 h0 ws Q T (mkF m pc' L st)) : own_H p e below En n0 h0 ws Q T (mkF m pc L (v :: st)) := by
  subst hp
  exact own_st X k (fun t A q => XS.pop A B.1 rfl (hb B.2.2.1 hd) rfl hv q)
theorem own_dup2 (X : own_St p l e R s m args below meth c n0 h0 ws T h C S) (B : own_B Z p s m meth c bytes maxL own nm rt) {x y : Value} (hd : decode bytes pc = .ok (.dup2, 1)) (hx' : x.category = 1) (hy' : y.category = 1) (hp : pc + 1 = pc') (k : own_H p e below En n0 h0 ws Q T (mkF m pc' L (x :: y :: x :: y :: st))) : own_H p e below En n0 h0 ws Q T (mkF m pc L (x :: y :: st)) := by
  subst hp
  exact own_st X k (fun t A q => Jvm.Free.XT.dup2 A B.1 rfl (hb B.2.2.1 hd) rfl hx' hy' q)
theorem own_iinc (X : own_St p l e R s m args below meth c n0 h0 ws T h C S) (B : own_B Z p s m meth c bytes maxL own nm rt) {i : Nat} {cst : Int} {x : Int32} (hd : decode bytes pc = .ok (.iinc i cst, 3)) (hl : L[i]? = some (.val (.int x))) (hl' : storeLocals L i (.int (x + Int32.ofInt cst)) = some L') (hp : pc + 3 = pc') (k : own_H p e below En n0 h0 ws Q T (mkF m pc' L' st)) : own_H p e below En n0 h0 ws Q T (mkF m pc L st) := by
  subst hp
  exact own_st X k (fun t A q => XS.iinc A B.1 rfl (hb B.2.2.1 hd) hl hl' q)
theorem own_goto (X : own_St p l e R s m args below meth c n0 h0 ws T h C S) (B : own_B Z p s m meth c bytes maxL own nm rt) {o : Int} (hd : decode bytes pc = .ok (.goto o, 3)) (ho : 0 ≤ (pc : Int) + o) (hp : ((pc : Int) + o).toNat = pc') (k : own_H p e below En n0 h0 ws Q T (mkF m pc' L st)) : own_H p e below En n0 h0 ws Q T (mkF m pc L st) := own_st X k (fun t A q => XS.goto A B.1 rfl rfl (hb B.2.2.1 hd) ho hp q)
theorem own_icmpT (X : own_St p l e R s m args below meth c n0 h0 ws T h C S) (B : own_B Z p s m meth c bytes maxL own nm rt) {cd : ClassFile.Cond} {o : Int} {x y : Int32} (hd : decode bytes pc = .ok (.if_icmp cd o, 3)) (hc : if_icmp.holds cd x y = true) (ho : 0 ≤ (pc : Int) + o) (hp : ((pc : Int) + o).toNat = pc') (k : own_H p e below En n0 h0 ws Q T (mkF m pc' L st)) : own_H p e below En n0 h0 ws Q T (mkF m pc L (.int y :: .int x :: st)) := own_st X k (fun t A q => XS.icmpYes A B.1 rfl rfl (hb B.2.2.1 hd) rfl hc ho hp q)
theorem own_icmpF (X : own_St p l e R s m args below meth c n0 h0 ws T h C S) (B : own_B Z p s m meth c bytes maxL own nm rt) {cd : ClassFile.Cond} {o : Int} {x y : Int32} (hd : decode bytes pc = .ok (.if_icmp cd o, 3)) (hc : if_icmp.holds cd x y = false) (hp : pc + 3 = pc') (k : own_H p e below En n0 h0 ws Q T (mkF m pc' L st)) : own_H p e below En n0 h0 ws Q T (mkF m pc L (.int y :: .int x :: st)) := by
  subst hp
  exact own_st X k (fun t A q => XS.icmpNo A B.1 rfl (hb B.2.2.1 hd) rfl hc q)
theorem own_ifT (X : own_St p l e R s m args below meth c n0 h0 ws T h C S) (B : own_B Z p s m meth c bytes maxL own nm rt) {cd : ClassFile.Cond} {o : Int} {x : Int32} (hd : decode bytes pc = .ok (.ifCond cd o, 3)) (hc : if_icmp.holds cd x 0 = true) (ho : 0 ≤ (pc : Int) + o) (hp : ((pc : Int) + o).toNat = pc') (k : own_H p e below En n0 h0 ws Q T (mkF m pc' L st)) : own_H p e below En n0 h0 ws Q T (mkF m pc L (.int x :: st)) := own_st X k (fun t A q => XS.ifYes A B.1 rfl rfl (hb B.2.2.1 hd) rfl ((if0 _ _).trans hc) ho hp q)
theorem own_ifF (X : own_St p l e R s m args below meth c n0 h0 ws T h C S) (B : own_B Z p s m meth c bytes maxL own nm rt) {cd : ClassFile.Cond} {o : Int} {x : Int32} (hd : decode bytes pc = .ok (.ifCond cd o, 3)) (hc : if_icmp.holds cd x 0 = false) (hp : pc + 3 = pc') (k : own_H p e below En n0 h0 ws Q T (mkF m pc' L st)) : own_H p e below En n0 h0 ws Q T (mkF m pc L (.int x :: st)) := by
  subst hp
  exact own_st X k (fun t A q => XS.ifNo A B.1 rfl (hb B.2.2.1 hd) rfl ((if0 _ _).trans hc) q)
theorem own_ifnullT (X : own_St p l e R s m args below meth c n0 h0 ws T h C S) (B : own_B Z p s m meth c bytes maxL own nm rt) {o : Int} (hd : decode bytes pc = .ok (.ifnull o, 3)) (ho : 0 ≤ (pc : Int) + o) (hp : ((pc : Int) + o).toNat = pc') (k : own_H p e below En n0 h0 ws Q T (mkF m pc' L st)) : own_H p e below En n0 h0 ws Q T (mkF m pc L (.null :: st)) := own_st X k (fun t A q => XS.ifnullYes A B.1 rfl rfl (hb B.2.2.1 hd) rfl ho hp q)
theorem own_ifnullF (X : own_St p l e R s m args below meth c n0 h0 ws T h C S) (B : own_B Z p s m meth c bytes maxL own nm rt) {o : Int} {b : Addr} (hd : decode bytes pc = .ok (.ifnull o, 3)) (hp : pc + 3 = pc') (k : own_H p e below En n0 h0 ws Q T (mkF m pc' L st)) : own_H p e below En n0 h0 ws Q T (mkF m pc L (.ref b :: st)) := by
  subst hp
  exact own_st X k (fun t A q => XS.ifnullNo A B.1 rfl (hb B.2.2.1 hd) rfl q)
theorem own_ifnonnullT (X : own_St p l e R s m args below meth c n0 h0 ws T h C S) (B : own_B Z p s m meth c bytes maxL own nm rt) {o : Int} {b : Addr} (hd : decode bytes pc = .ok (.ifnonnull o, 3)) (ho : 0 ≤ (pc : Int) + o) (hp : ((pc : Int) + o).toNat = pc') (k : own_H p e below En n0 h0 ws Q T (mkF m pc' L st)) : own_H p e below En n0 h0 ws Q T (mkF m pc L (.ref b :: st)) := own_st X k (fun t A q => XS.ifnonnullYes A B.1 rfl rfl (hb B.2.2.1 hd) rfl ho hp q)
theorem own_ifnonnullF (X : own_St p l e R s m args below meth c n0 h0 ws T h C S) (B : own_B Z p s m meth c bytes maxL own nm rt) {o : Int} (hd : decode bytes pc = .ok (.ifnonnull o, 3)) (hp : pc + 3 = pc') (k : own_H p e below En n0 h0 ws Q T (mkF m pc' L st)) : own_H p e below En n0 h0 ws Q T (mkF m pc L (.null :: st)) := by
  subst hp
  exact own_st X k (fun t A q => XS.ifnonnullNo A B.1 rfl (hb B.2.2.1 hd) rfl q)
theorem own_acmpSame (X : own_St p l e R s m args below meth c n0 h0 ws T h C S) (B : own_B Z p s m meth c bytes maxL own nm rt) {o : Int} {a : Addr} (hd : decode bytes pc = .ok (.if_acmp .eq o, 3)) (ho : 0 ≤ (pc : Int) + o) (hp : ((pc : Int) + o).toNat = pc') (k : own_H p e below En n0 h0 ws Q T (mkF m pc' L st)) : own_H p e below En n0 h0 ws Q T (mkF m pc L (.ref a :: .ref a :: st)) := by
  obtain ⟨locs, Y, -⟩ := X
  exact own_tr (fun t q => Jvm.RoadKit.acmp (g := mkF m pc L (.ref a :: .ref a :: st)) Y B.1 rfl rfl rfl (pc0 := pc) (pc' := pc') (same := true) rfl (hb B.2.2.1 hd) rfl (decide_eq_true rfl) ho (hp.symm.trans (if_pos (show acV ACond.eq true = true from rfl)).symm) q) k
theorem own_iret (X : own_St p l e R s m args below meth c n0 h0 ws T h C S) (B : own_B Z p s m meth c bytes maxL own nm (some .int)) {x : Int32} (hd : decode bytes pc = .ok (.ireturn, 1)) (hc : C ≤ C') (hs : S ≤ S') (q : Q (some (.int x)) h) : own_G p e below s n0 h0 ws Q C' S' T (mkF m pc L (.int x :: st)) :=
  own_ret X B hc hs (v := some (.int x)) (fun h => by cases h) (fun locs fs Y hr => retOut Y B.1 B.2.2.2.2.2.2.1 rfl (Or.inl ⟨rfl, Or.inl rfl, _, rfl⟩) (hb B.2.2.1 hd) hr) q
theorem own_zret (X : own_St p l e R s m args below meth c n0 h0 ws T h C S) (B : own_B Z p s m meth c bytes maxL own nm (some .boolean)) {x : Int32} (hd : decode bytes pc = .ok (.ireturn, 1)) (hc : C ≤ C') (hs : S ≤ S') (hx : x &&& 1 = x) (q : Q (some (.int x)) h) : own_G p e below s n0 h0 ws Q C' S' T (mkF m pc L (.int x :: st)) :=
  own_ret X B hc hs (v := some (.int x)) (fun h => by cases h) (fun locs fs Y hr => retN Y B.1 (t := .boolean) B.2.2.2.2.2.2.1 (by simp) (hb B.2.2.1 hd) (by show ∀ (f : JFrame) (acts : List Action), f.method = m → f.locked = none → f.entered = [] → (doReturn e (T.setTop f) acts (some (.int (x &&& 1)))).1 = T.setFrames fs; rw [hx]; exact hr)) q
theorem own_lret (X : own_St p l e R s m args below meth c n0 h0 ws T h C S) (B : own_B Z p s m meth c bytes maxL own nm (some .long)) {x : Int64} (hd : decode bytes pc = .ok (.lreturn, 1)) (hc : C ≤ C') (hs : S ≤ S') (q : Q (some (.long x)) h) : own_G p e below s n0 h0 ws Q C' S' T (mkF m pc L (.long x :: st)) :=
  own_ret X B hc hs (v := some (.long x)) (fun h => by cases h) (fun locs fs Y hr => retOut Y B.1 B.2.2.2.2.2.2.1 rfl (Or.inr (Or.inl ⟨rfl, rfl, _, rfl⟩)) (hb B.2.2.1 hd) hr) q
theorem own_aret (X : own_St p l e R s m args below meth c n0 h0 ws T h C S) {ft : FieldType} (B : own_B Z p s m meth c bytes maxL own nm (some ft)) {x : Value} (hd : decode bytes pc = .ok (.areturn, 1)) (hft : ft.isReference = true) (hx : x.isRef = true) (hnx : narrow ft x = x) (hc : C ≤ C') (hs : S ≤ S') (q : Q (some x) h) : own_G p e below s n0 h0 ws Q C' S' T (mkF m pc L (x :: st)) :=
  own_ret X B hc hs (v := some x) (fun h => by cases h) (fun locs fs Y hr => retOut Y B.1 B.2.2.2.2.2.2.1 hnx (Or.inr (Or.inr (Or.inr (Or.inr ⟨rfl, hft, hx⟩)))) (hb B.2.2.1 hd) hr) q
theorem own_vret (X : own_St p l e R s m args below meth c n0 h0 ws T h C S) (B : own_B Z p s m meth c bytes maxL own nm none) (hd : decode bytes pc = .ok (.return_, 1)) (hc : C ≤ C') (hs : S ≤ S') (q : Q none h) : own_G p e below s n0 h0 ws Q C' S' T (mkF m pc L []) :=
  own_ret X B hc hs (v := none) (fun _ => rfl) (fun locs fs Y hr => Y.returnOut B.1 B.2.2.2.2.2.2.1 (hb B.2.2.1 hd) hr) q
/-! fields, objects -/
theorem own_lit (X : own_St p l e R s m args below meth c n0 h0 ws T h C S) (B : own_B Z p s m meth c bytes maxL own nm rt) {i : Nat} {v : Int32} (w : (Jvm.Cond.constant own i v).before a0 Z = true) (hd : decode bytes pc = .ok (.ldc i, 2)) (hp : pc + 2 = pc') (k : own_H p e below En n0 h0 ws Q T (mkF m pc' L (.int v :: st))) : own_H p e below En n0 h0 ws Q T (mkF m pc L st) := by
  subst hp
  obtain ⟨locs, Y, -⟩ := X
  exact own_tr (Y.ldcInt B.1 B.2.2.2.2.1 (mvT B.2.1 w) (g := mkF m pc L st) rfl (hb B.2.2.1 hd)) k
theorem own_litL (X : own_St p l e R s m args below meth c n0 h0 ws T h C S) (B : own_B Z p s m meth c bytes maxL own nm rt) {i : Nat} {v : Int64} (w : (Jvm.Cond.constantLong own i v).before a0 Z = true) (hd : decode bytes pc = .ok (.ldc2_w i, 3)) (hp : pc + 3 = pc') (k : own_H p e below En n0 h0 ws Q T (mkF m pc' L (.long v :: st))) : own_H p e below En n0 h0 ws Q T (mkF m pc L st) := by
  subst hp
  obtain ⟨locs, Y, -⟩ := X
  exact own_tr (Y.ldc2Long B.1 B.2.2.2.2.1 (mvT B.2.1 w) (g := mkF m pc L st) rfl (hb B.2.2.1 hd)) k
theorem own_getF (X : own_St p l e R s m args below meth c n0 h0 ws T h C S) (B : own_B Z p s m meth c bytes maxL own nm rt) {i : Nat} {O n d : String} (w : (Jvm.Cond.fieldLink own i O n d).before a0 Z = true) {a : Addr} {v : Value} (F : Fld Z h a O n d v) (hd : decode bytes pc = .ok (.getfield i, 3)) (hp : pc + 3 = pc')
    (k : ∀ T, own_St p l e R s m args below meth c n0 h0 ws T h C S → own_H p e below En n0 h0 ws Q T (mkF m pc' L (v :: st))) : own_H p e below En n0 h0 ws Q T (mkF m pc L (.ref a :: st)) := by
  subst hp
  obtain ⟨locs, Y, N, e, K⟩ := X
  obtain ⟨T1, Y1, e1, st1⟩ := getF Y B.1 B.2.1 B.2.2.2.2.1 (host := "") (Or.inl w) Via.refl e F (g := mkF m pc L (.ref a :: st)) rfl rfl (hb B.2.2.1 hd)
  exact own_tr st1 (k T1 ⟨locs, Y1, N, e1, K⟩)
theorem own_getN (X : own_St p l e R s m args below meth c n0 h0 ws T h C S) (B : own_B Z p s m meth c bytes maxL own nm rt) {i : Nat} {O n d host : String} (w : (Jvm.Cond.fieldLinkNest own i O n d host).before a0 Z = true) {a : Addr} {v : Value} (F : Fld Z h a O n d v) (hd : decode bytes pc = .ok (.getfield i, 3)) (hp : pc + 3 = pc')
    (k : ∀ T, own_St p l e R s m args below meth c n0 h0 ws T h C S → own_H p e below En n0 h0 ws Q T (mkF m pc' L (v :: st))) : own_H p e below En n0 h0 ws Q T (mkF m pc L (.ref a :: st)) := by
  subst hp
  obtain ⟨locs, Y, N, e, K⟩ := X
  obtain ⟨T1, Y1, e1, st1⟩ := getF Y B.1 B.2.1 B.2.2.2.2.1 (host := host) (Or.inr w) Via.refl e F (g := mkF m pc L (.ref a :: st)) rfl rfl (hb B.2.2.1 hd)
  exact own_tr st1 (k T1 ⟨locs, Y1, N, e1, K⟩)
theorem own_putF (X : own_St p l e R s m args below meth c n0 h0 ws T h C S) (B : own_B Z p s m meth c bytes maxL own nm rt) {i kk : Nat} {O n d K0 : String} (w : (Jvm.Cond.fieldLink own i O n d).before a0 Z = true) {a : Addr} {v old : Value} {ty : FieldType} (F : Fld Z h a O n d old) (E : Exa Z h a K0) (Lw : (Jvm.Cond.lays K0 O n d).before a0 Z = true ∨ ((Jvm.Cond.laysFinal K0 O n d).before a0 Z = true ∧ own = O ∧ nm = "<init>")) (wi : (Jvm.Cond.instantiable K0 kk).before a0 Z = true)
    (hty : parseFieldDescriptor d = some ty) (hn : narrow ty v = v) (hf : fits ty v = true) (hw1 : n0 ≤ a) (hw2 : a ∈ ws ∨ h0.size ≤ a) (hd : decode bytes pc = .ok (.putfield i, 3)) (hp : pc + 3 = pc')
    (k : ∀ T h', own_St p l e R s m args below meth c n0 h0 ws T h' C S → Wr h h' a (Jvm.RoadKit.slotOf Z O n d) v → Keep h h' [a] → Exa Z h' a K0 → Fld Z h' a O n d v → own_H p e below En n0 h0 ws Q T (mkF m pc' L st)) : own_H p e below En n0 h0 ws Q T (mkF m pc L (v :: .ref a :: st)) := by
  subst hp
  obtain ⟨locs, Y, N, e, K⟩ := X
  obtain ⟨T1, h1, Y1, e1, W1, st1⟩ := putF Y B.1 B.2.1 B.2.2.2.2.1 (host := "") (Or.inl w) Via.refl e F E (Lw.imp id (fun q => ⟨q.1, q.2.1, B.2.2.2.2.2.1.trans q.2.2⟩)) wi hty hn hf (g := mkF m pc L (v :: .ref a :: st)) rfl rfl (hb B.2.2.1 hd)
  exact own_tr st1 (k T1 h1 ⟨_, Y1, Fr.snoc Y1 N hw1, e1, K.wr W1 hw2⟩ W1 (Keep.of_wr W1) (E.wr W1) (F.same W1))
theorem own_putN (X : own_St p l e R s m args below meth c n0 h0 ws T h C S) (B : own_B Z p s m meth c bytes maxL own nm rt) {i kk : Nat} {O n d K0 host : String} (w : (Jvm.Cond.fieldLinkNest own i O n d host).before a0 Z = true) {a : Addr} {v old : Value} {ty : FieldType} (F : Fld Z h a O n d old) (E : Exa Z h a K0) (Lw : (Jvm.Cond.lays K0 O n d).before a0 Z = true ∨ ((Jvm.Cond.laysFinal K0 O n d).before a0 Z = true ∧ own = O ∧ nm = "<init>")) (wi : (Jvm.Cond.instantiable K0 kk).before a0 Z = true)
    (hty : parseFieldDescriptor d = some ty) (hn : narrow ty v = v) (hf : fits ty v = true) (hw1 : n0 ≤ a) (hw2 : a ∈ ws ∨ h0.size ≤ a) (hd : decode bytes pc = .ok (.putfield i, 3)) (hp : pc + 3 = pc')
    (k : ∀ T h', own_St p l e R s m args below meth c n0 h0 ws T h' C S → Wr h h' a (Jvm.RoadKit.slotOf Z O n d) v → Keep h h' [a] → Exa Z h' a K0 → Fld Z h' a O n d v → own_H p e below En n0 h0 ws Q T (mkF m pc' L st)) : own_H p e below En n0 h0 ws Q T (mkF m pc L (v :: .ref a :: st)) := by
  subst hp
  obtain ⟨locs, Y, N, e, K⟩ := X
  obtain ⟨T1, h1, Y1, e1, W1, st1⟩ := putF Y B.1 B.2.1 B.2.2.2.2.1 (host := host) (Or.inr w) Via.refl e F E (Lw.imp id (fun q => ⟨q.1, q.2.1, B.2.2.2.2.2.1.trans q.2.2⟩)) wi hty hn hf (g := mkF m pc L (v :: .ref a :: st)) rfl rfl (hb B.2.2.1 hd)
  exact own_tr st1 (k T1 h1 ⟨_, Y1, Fr.snoc Y1 N hw1, e1, K.wr W1 hw2⟩ W1 (Keep.of_wr W1) (E.wr W1) (F.same W1))
theorem own_newO (X : own_St p l e R s m args below meth c n0 h0 ws T h C S) (B : own_B Z p s m meth c bytes maxL own nm rt) {i n : Nat} {K0 : String} (w : (Jvm.Cond.classLink own i K0).before a0 Z = true) (wi : (Jvm.Cond.instantiable K0 n).before a0 Z = true) (wz : (Jvm.Cond.initialized K0).before a0 Z = true) (hc : C + 1 ≤ R.cells) (hs : S + n ≤ R.slots) (hd : decode bytes pc = .ok (.new i, 3)) (hp : pc + 3 = pc')
    (k : ∀ T h' a, a = h.size → own_St p l e R s m args below meth c n0 h0 ws T h' (C + 1) (S + n) → Keep h h' [] → Exa Z h' a K0 → (∀ {O nm d : String} {ty : FieldType}, Laid Z a0 K0 O nm d → parseFieldDescriptor d = some ty → Fld Z h' a O nm d (defaultValue ty)) → h0.size ≤ a → own_H p e below En n0 h0 ws Q T (mkF m pc' L (.ref a :: st))) : own_H p e below En n0 h0 ws Q T (mkF m pc L st) := by
  subst hp
  obtain ⟨locs, Y, N, e, K⟩ := X
  obtain ⟨T1, h1, Y1, e1, E1, A1, D1, -, st1⟩ := newO Y B.1 B.2.1 B.2.2.2.2.1 w wi wz e (g := mkF m pc L st) rfl (hb B.2.2.1 hd) hc hs
  exact own_tr st1 (k T1 h1 h.size rfl ⟨_, Y1, N, e1, K.ext E1⟩ ((Keep.refl h []).ext E1) A1 D1 K.1)
theorem own_initO (X : own_St p l e R s m args below meth c n0 h0 ws T h C S) (B : own_B Z p s m meth c bytes maxL own nm rt) {i : Nat} (w1 : (Jvm.Cond.methodLink own i Lib.objectInit).before a0 Z = true) (w2 : (Jvm.Cond.instanceMethod Lib.objectInit).before a0 Z = true) (w3 : (Jvm.Cond.code Lib.objectInit ⟨#[0xb1]⟩ 1 none).before a0 Z = true) (hL : L.size = maxL) {a : Addr} (hf : 1 ≤ R.frames) {W : Nat} (hW : (st.map fun v => v.category).sum ≤ W) (hl : W + 12 ≤ R.locals) (hd : decode bytes pc = .ok (.invokespecial i, 3)) (hp : pc + 3 = pc')
    (k : ∀ T, own_St p l e R s m args below meth c n0 h0 ws T h C S → own_H p e below En n0 h0 ws Q T (mkF m pc' L st)) : own_H p e below En n0 h0 ws Q T (mkF m pc L (.ref a :: st)) := by
  subst hp
  obtain ⟨locs, Y, N, e, K⟩ := X
  obtain ⟨T1, Y1, e1, st1⟩ := initO Y B.1 B.2.1 B.2.2.2.2.1 w1 w2 w3 e (g := mkF m pc L (.ref a :: st)) rfl (hL.trans B.2.2.2.1.symm) rfl (hb B.2.2.1 hd) hf (W := W) (by show 2 * 0 + _ ≤ _; omega) hl
  exact own_tr st1 (k T1 ⟨locs, Y1, N, e1, K⟩)
/-! calls by contract -/
theorem own_callS (X : own_St p l e R s m args below meth c n0 h0 ws T h C S) (B : own_B Z p s m meth c bytes maxL own nm rt) {i : Nat} {y : MethodName} {by2 : ByteArray} {ml2 : Nat} {rt2 : Option FieldType} {rm : Room} {as2 : Array Value} {ws2 : List Addr} {Q2 : Option Value → Heap → Prop} {W : Nat}
    (w1 : (Jvm.Cond.methodLink own i y).before a0 Z = true) (w2 : (Jvm.Cond.static y).before a0 Z = true) (w3 : (Jvm.Cond.initialized y.cls).before a0 Z = true) (w4 : (Jvm.Cond.code y by2 ml2 rt2).before a0 Z = true) (hy : y.cls ≠ "java/lang/invoke/MethodHandle" ∧ y.cls ≠ "java/lang/invoke/VarHandle")
    (M : own_C l Z y by2 ml2 rt2 [] rm as2 h n0 ws2 Q2 rm.cells rm.slots) (hf : rm.frames + 1 ≤ R.frames) (hl : W + (ml2 + 11) + rm.locals ≤ R.locals) (hc : C + rm.cells ≤ R.cells) (hs : S + rm.slots ≤ R.slots) (hL : L.size = maxL)
    {argsL : List Value} {ps : List FieldType} {r : Option FieldType} (hpd : parseMethodDescriptor y.desc = some ⟨ps, r⟩) (hlen : argsL.length = ps.length) (has : argsL.toArray = as2) {stk : List Value} (hstk : stk = argsL.reverse ++ st) (hW : (st.map fun v => v.category).sum ≤ W) (hd : decode bytes pc = .ok (.invokestatic i, 3)) (hp : pc + 3 = pc') (hws : ∀ x ∈ ws2, x ∈ ws ∨ h0.size ≤ x)
    (k : ∀ v T h', own_St p l e R s m args below meth c n0 h0 ws T h' (C + rm.cells) (S + rm.slots) → Keep h h' ws2 → Q2 v h' → own_H p e below En n0 h0 ws Q T (mkF m pc' L (v.toList ++ st))) : own_H p e below En n0 h0 ws Q T (mkF m pc L stk) := by
  subst hp hstk has
  obtain ⟨locs, Y, N, e, K⟩ := X
  obtain ⟨v, _, ⟨T1, L1, k1, n1⟩, -, Y1, ⟨Lc, hQ, l1, y1, z1⟩, st1⟩ := Jvm.LawKit.callS Y B.1 (y := y) B.2.2.2.2.1 (mvT B.2.1 w1) (mvT B.2.1 w2) (mvT B.2.1 w3) (mvT B.2.1 w4) hy (backOf (W := W) (Q := fun v h' L => Fr n0 L ∧ Keep h h' ws2 ∧ Q2 v h') M B.2.1 w4 w3 hf hl) (g := mkF m pc L (argsL.reverse ++ st)) rfl (hL.trans B.2.2.2.1.symm) (argsL := argsL) (rest := st) (lenOf hpd hlen) rfl (by show 2 * 0 + _ ≤ _; omega) (hb B.2.2.1 hd) (fun _ _ => ⟨rfl, e, hc, hs⟩)
  dsimp only [Pt.U, Pt.locs, Pt.cells, Pt.slots] at Y1 l1 y1 z1 st1 hQ
  subst l1 y1 z1
  obtain ⟨N2, K2, q2⟩ := hQ
  exact own_tr st1 (k v T1 _ ⟨_, Y1, Fr.app N N2, rfl, K.trans K2 hws⟩ K2 q2)
theorem own_callV (X : own_St p l e R s m args below meth c n0 h0 ws T h C S) (B : own_B Z p s m meth c bytes maxL own nm rt) {i : Nat} {y : MethodName} {by2 : ByteArray} {ml2 : Nat} {rt2 : Option FieldType} {rm : Room} {as2 : Array Value} {ws2 : List Addr} {Q2 : Option Value → Heap → Prop} {W : Nat} {K0 : String} {a : Addr}
    (w1 : (Jvm.Cond.methodLink own i y).before a0 Z = true) (w2 : (Jvm.Cond.declares y).before a0 Z = true) (w3 : (Jvm.Cond.selects K0 y y).before a0 Z = true) (w5 : (Jvm.Cond.instanceMethod y).before a0 Z = true) (w4 : (Jvm.Cond.code y by2 ml2 rt2).before a0 Z = true) (w6 : (Jvm.Cond.initialized y.cls).before a0 Z = true) (hy : y.cls ≠ "java/lang/invoke/MethodHandle" ∧ y.cls ≠ "java/lang/invoke/VarHandle") (E : Exa Z h a K0)
    (M : own_C l Z y by2 ml2 rt2 [] rm as2 h n0 ws2 Q2 rm.cells rm.slots) (hf : rm.frames + 1 ≤ R.frames) (hl : W + (ml2 + 11) + rm.locals ≤ R.locals) (hc : C + rm.cells ≤ R.cells) (hs : S + rm.slots ≤ R.slots) (hL : L.size = maxL)
    {argsL : List Value} {ps : List FieldType} {r : Option FieldType} (hpd : parseMethodDescriptor y.desc = some ⟨ps, r⟩) (hlen : argsL.length = ps.length) (has : (.ref a :: argsL).toArray = as2) {stk : List Value} (hstk : stk = argsL.reverse ++ .ref a :: st) (hW : (st.map fun v => v.category).sum ≤ W) (hd : decode bytes pc = .ok (.invokevirtual i, 3)) (hp : pc + 3 = pc') (hws : ∀ x ∈ ws2, x ∈ ws ∨ h0.size ≤ x)
    (k : ∀ v T h', own_St p l e R s m args below meth c n0 h0 ws T h' (C + rm.cells) (S + rm.slots) → Keep h h' ws2 → Q2 v h' → own_H p e below En n0 h0 ws Q T (mkF m pc' L (v.toList ++ st))) : own_H p e below En n0 h0 ws Q T (mkF m pc L stk) := by
  subst hp hstk has
  obtain ⟨locs, Y, N, e, K⟩ := X
  obtain ⟨cq, kq, qa, qb, qc⟩ := isOf (T := T) B.2.1 e E
  obtain ⟨v, _, ⟨T1, L1, k1, n1⟩, -, Y1, ⟨Lc, hQ, l1, y1, z1⟩, st1⟩ := Y.virtualBack B.1 (y := y) (z := y) B.2.2.2.2.1 (mvT B.2.1 w1) (mvT B.2.1 w2) (notFace_of_selects (args := #[]) (mvT B.2.1 w3)) (mvT B.2.1 w3) (mvT B.2.1 w5) hy (backOf (W := W) (Q := fun v h' L => Fr n0 L ∧ Keep h h' ws2 ∧ Q2 v h') M B.2.1 w4 w6 hf hl) qa qc (g := mkF m pc L (argsL.reverse ++ .ref a :: st)) rfl (hL.trans B.2.2.2.1.symm) (Steps.refl _) (argsL := argsL) (rest := st) (lenOf hpd hlen) rfl (by show 2 * 0 + _ ≤ _; omega) (hb B.2.2.1 hd) (fun _ _ => ⟨rfl, e, hc, hs⟩)
  dsimp only [Pt.U, Pt.locs, Pt.cells, Pt.slots] at Y1 l1 y1 z1 st1 hQ
  subst l1 y1 z1
  obtain ⟨N2, K2, q2⟩ := hQ
  exact own_tr (fun t q => st1.trans q) (k v T1 _ ⟨_, Y1, Fr.app N N2, rfl, K.trans K2 hws⟩ K2 q2)
theorem own_callI (X : own_St p l e R s m args below meth c n0 h0 ws T h C S) (B : own_B Z p s m meth c bytes maxL own nm rt) {i : Nat} {y : MethodName} {by2 : ByteArray} {ml2 : Nat} {rm : Room} {as2 : Array Value} {ws2 : List Addr} {Q2 : Option Value → Heap → Prop} {W : Nat} {a : Addr} (hy1 : y.name = "<init>")
    (w1 : (Jvm.Cond.methodLink own i y).before a0 Z = true) (w5 : (Jvm.Cond.instanceMethod y).before a0 Z = true) (w4 : (Jvm.Cond.code y by2 ml2 none).before a0 Z = true) (w6 : (Jvm.Cond.initialized y.cls).before a0 Z = true) (hy : y.cls ≠ "java/lang/invoke/MethodHandle" ∧ y.cls ≠ "java/lang/invoke/VarHandle")
    (M : own_C l Z y by2 ml2 none [] rm as2 h n0 ws2 Q2 rm.cells rm.slots) (hf : rm.frames + 1 ≤ R.frames) (hl : W + (ml2 + 11) + rm.locals ≤ R.locals) (hc : C + rm.cells ≤ R.cells) (hs : S + rm.slots ≤ R.slots) (hL : L.size = maxL)
    {argsL : List Value} {ps : List FieldType} {r : Option FieldType} (hpd : parseMethodDescriptor y.desc = some ⟨ps, r⟩) (hlen : argsL.length = ps.length) (has : (.ref a :: argsL).toArray = as2) {stk : List Value} (hstk : stk = argsL.reverse ++ .ref a :: st) (hW : (st.map fun v => v.category).sum ≤ W) (hd : decode bytes pc = .ok (.invokespecial i, 3)) (hp : pc + 3 = pc') (hws : ∀ x ∈ ws2, x ∈ ws ∨ h0.size ≤ x)
    (k : ∀ v T h', own_St p l e R s m args below meth c n0 h0 ws T h' (C + rm.cells) (S + rm.slots) → Keep h h' ws2 → Q2 v h' → own_H p e below En n0 h0 ws Q T (mkF m pc' L (v.toList ++ st))) : own_H p e below En n0 h0 ws Q T (mkF m pc L stk) := by
  subst hp hstk has
  obtain ⟨locs, Y, N, e, K⟩ := X
  obtain ⟨v, _, ⟨T1, L1, k1, n1⟩, -, Y1, ⟨Lc, hQ, l1, y1, z1⟩, st1⟩ := Y.specialBack B.1 (y := y) hy1 B.2.2.2.2.1 (mvT B.2.1 w1) (mvT B.2.1 w5) (mvT B.2.1 w4) hy (backOf (W := W) (Q := fun v h' L => Fr n0 L ∧ Keep h h' ws2 ∧ Q2 v h') M B.2.1 w4 w6 hf hl) (g := mkF m pc L (argsL.reverse ++ .ref a :: st)) rfl (hL.trans B.2.2.2.1.symm) (Steps.refl _) (a := a) (argsL := argsL) (rest := st) (lenOf hpd hlen) rfl (by show 2 * 0 + _ ≤ _; omega) (hb B.2.2.1 hd) (fun _ _ => ⟨rfl, e, hc, hs⟩)
  dsimp only [Pt.U, Pt.locs, Pt.cells, Pt.slots] at Y1 l1 y1 z1 st1 hQ
  subst l1 y1 z1
  obtain ⟨N2, K2, q2⟩ := hQ
  exact own_tr (fun t q => st1.trans q) (k v T1 _ ⟨_, Y1, Fr.app N N2, rfl, K.trans K2 hws⟩ K2 q2)
/-! arrays of ints and of longs, by a function of the place -/
theorem own_ix {j : Int32} {i n : Nat} (hj : j.toInt = (i : Int)) (hi : i < n) : ¬ (j < 0 ∨ n ≤ j.toNatClampNeg) ∧ j.toNatClampNeg = i := by
  have e : j.toNatClampNeg = i := by show j.toInt.toNat = i; omega
  refine ⟨?_, e⟩
  rw [e, Int32.lt_iff_toInt_lt]
  have : (0 : Int32).toInt = 0 := rfl
  omega
theorem own_ne {a b : Addr} (lt : a < h.size) (g : b = h.size) : a ≠ b := by
  rw [g]
  exact Nat.ne_of_lt lt
theorem own_up_same {α : Type} (f : Nat → α) (i : Nat) (x : α) : (fun k => if k = i then x else f k) i = x := by simp
def own_AJ (Z : State) (h : Heap) (a : Addr) (n : Nat) (f : Nat → Int64) : Prop := ∃ cl : Cell, Arr Z h a cl .long ∧ cl.slots.size = n ∧ n < 2147483648 ∧ ∀ i, i < n → cl.slots[i]? = some (.long (f i))
theorem own_AJ.lt {a : Addr} {n : Nat} {f : Nat → Int64} (A : own_AJ Z h a n f) : a < h.size := by
  obtain ⟨cl, A, -⟩ := A
  exact A.lt
theorem own_AJ.keep {a : Addr} {n : Nat} {f : Nat → Int64} (A : own_AJ Z h a n f) {w2 : List Addr} (K : Keep h h' w2) (q : a ∉ w2) : own_AJ Z h' a n f := by
  obtain ⟨cl, A, r⟩ := A
  exact ⟨cl, ⟨K.2.1 _ _ A.1 q, A.2⟩, r⟩
theorem own_AJ.congr {a : Addr} {n : Nat} {f g : Nat → Int64} (A : own_AJ Z h a n f) (q : ∀ i, i < n → f i = g i) : own_AJ Z h a n g := by
  obtain ⟨cl, A, r1, r2, r3⟩ := A
  exact ⟨cl, A, r1, r2, fun i hi => by rw [r3 i hi, q i hi]⟩
theorem own_newJ (X : own_St p l e R s m args below meth c n0 h0 ws T h C S) (B : own_B Z p s m meth c bytes maxL own nm rt) (w : (Jvm.Cond.arrayClass .long).before a0 Z = true) {j : Int32} {n cap : Nat} (hj : j.toInt = (n : Int)) (hcap : n ≤ cap) (hb8 : cap * 8 ≤ 536870912) (hc : C + 1 ≤ R.cells) (hs : S + cap ≤ R.slots) (hd : decode bytes pc = .ok (.newarray .long, 2)) (hp : pc + 2 = pc')
    (k : ∀ T h' a, a = h.size → own_St p l e R s m args below meth c n0 h0 ws T h' (C + 1) (S + cap) → Keep h h' [] → own_AJ Z h' a n (fun _ => 0) → h0.size ≤ a → own_H p e below En n0 h0 ws Q T (mkF m pc' L (.ref a :: st))) : own_H p e below En n0 h0 ws Q T (mkF m pc L (.int j :: st)) := by
  subst hp
  obtain ⟨locs, Y, N, e, K⟩ := X
  have hn : ¬ j < 0 := by rw [Int32.lt_iff_toInt_lt]; have : (0 : Int32).toInt = 0 := rfl; omega
  have hnn : j.toNatClampNeg = n := by show j.toInt.toNat = n; omega
  obtain ⟨T1, h1, cA, Y1, e1, E1, A1, st1⟩ := newP Y B.1 B.2.1 (aty := .long) w e (g := mkF m pc L (.int j :: st)) rfl (hb B.2.2.1 hd) rfl hn (cap := cap) (hnn ▸ hcap) hb8 hc hs
  refine own_tr st1 (k T1 h1 h.size rfl ⟨_, Y1, N, e1, K.ext E1⟩ ((Keep.refl h []).ext E1) ⟨_, A1, ?_, by omega, ?_⟩ K.1)
  · rw [sz_new, hnn]
  · intro i hi
    show (Array.replicate j.toNatClampNeg (defaultValue .long))[i]? = _
    rw [hnn, Array.getElem?_replicate, if_pos hi]
    rfl
theorem own_laload (X : own_St p l e R s m args below meth c n0 h0 ws T h C S) (B : own_B Z p s m meth c bytes maxL own nm rt) {a : Addr} {n i : Nat} {f : Nat → Int64} {j : Int32} (A : own_AJ Z h a n f) (hj : j.toInt = (i : Int)) (hi : i < n) (hd : decode bytes pc = .ok (.laload, 1)) (hp : pc + 1 = pc') (k : own_H p e below En n0 h0 ws Q T (mkF m pc' L (.long (f i) :: st))) : own_H p e below En n0 h0 ws Q T (mkF m pc L (.int j :: .ref a :: st)) := by
  subst hp
  obtain ⟨locs, Y, N, e, K⟩ := X
  obtain ⟨cl, A, r1, r2, r3⟩ := A
  obtain ⟨q1, q2⟩ := own_ix hj (r1.symm ▸ hi : i < cl.slots.size)
  exact own_tr (fun t q => Y.laload B.1 (j := j) (v := .long (f i)) (by rw [e]; exact A.1) (State.isArrayOf_alike B.2.1.alike A.2.1) A.2.2 q1 (by rw [q2]; exact r3 i hi) (g := mkF m pc L (.int j :: .ref a :: st)) rfl rfl (hb B.2.2.1 hd) t q) k
theorem own_lenJ (X : own_St p l e R s m args below meth c n0 h0 ws T h C S) (B : own_B Z p s m meth c bytes maxL own nm rt) {a : Addr} {n : Nat} {f : Nat → Int64} (A : own_AJ Z h a n f) (hd : decode bytes pc = .ok (.arraylength, 1)) (hp : pc + 1 = pc') (k : own_H p e below En n0 h0 ws Q T (mkF m pc' L (.int (Int32.ofNat n) :: st))) : own_H p e below En n0 h0 ws Q T (mkF m pc L (.ref a :: st)) := by
  subst hp
  obtain ⟨locs, Y, N, e, K⟩ := X
  obtain ⟨cl, A, r1, r2, r3⟩ := A
  subst r1
  exact own_tr (fun t q => Y.arraylength B.1 (by rw [e]; exact A.1) (State.isArrayOf_alike B.2.1.alike A.2.1) (g := mkF m pc L (.ref a :: st)) rfl rfl (hb B.2.2.1 hd) t q) k
theorem own_lastore (X : own_St p l e R s m args below meth c n0 h0 ws T h C S) (B : own_B Z p s m meth c bytes maxL own nm rt) {a : Addr} {n i : Nat} {f : Nat → Int64} {j : Int32} {x : Int64} (A : own_AJ Z h a n f) (hj : j.toInt = (i : Int)) (hi : i < n) (hw1 : n0 ≤ a) (hw2 : a ∈ ws ∨ h0.size ≤ a) (hd : decode bytes pc = .ok (.lastore, 1)) (hp : pc + 1 = pc')
    (k : ∀ T h', own_St p l e R s m args below meth c n0 h0 ws T h' C S → Keep h h' [a] → own_AJ Z h' a n (fun k => if k = i then x else f k) → own_H p e below En n0 h0 ws Q T (mkF m pc' L st)) : own_H p e below En n0 h0 ws Q T (mkF m pc L (.long x :: .int j :: .ref a :: st)) := by
  subst hp
  obtain ⟨locs, Y, N, e, K⟩ := X
  obtain ⟨cl, A, r1, r2, r3⟩ := A
  obtain ⟨q1, q2⟩ := own_ix hj (r1.symm ▸ hi : i < cl.slots.size)
  obtain ⟨T1, h1, Y1, e1, W1, st1⟩ := stJ Y B.1 B.2.1 e A (j := j) (x := x) q1 (g := mkF m pc L (.long x :: .int j :: .ref a :: st)) rfl rfl (hb B.2.2.1 hd)
  refine own_tr st1 (k T1 h1 ⟨_, Y1, Fr.snoc Y1 N hw1, e1, K.wr W1 hw2⟩ (Keep.of_wr W1) ⟨_, A.same W1, ?_, r2, ?_⟩)
  · rw [sz_set, r1]
  · intro u hu
    show (cl.slots.setIfInBounds j.toNatClampNeg (.long x))[u]? = some (.long (if u = i then x else f u))
    rw [q2, Array.getElem?_setIfInBounds]
    by_cases hui : u = i
    · subst hui; rw [if_pos rfl, if_pos (r1.symm ▸ hi), if_pos rfl]
    · rw [if_neg (fun q => hui q.symm), if_neg hui]; exact r3 u hu
def own_AI (Z : State) (h : Heap) (a : Addr) (n : Nat) (f : Nat → Int32) : Prop := ∃ cl : Cell, Arr Z h a cl .int ∧ cl.slots.size = n ∧ n < 2147483648 ∧ ∀ i, i < n → cl.slots[i]? = some (.int (f i))
theorem own_AI.lt {a : Addr} {n : Nat} {f : Nat → Int32} (A : own_AI Z h a n f) : a < h.size := by
  obtain ⟨cl, A, -⟩ := A
  exact A.lt
theorem own_AI.keep {a : Addr} {n : Nat} {f : Nat → Int32} (A : own_AI Z h a n f) {w2 : List Addr} (K : Keep h h' w2) (q : a ∉ w2) : own_AI Z h' a n f := by
  obtain ⟨cl, A, r⟩ := A
  exact ⟨cl, ⟨K.2.1 _ _ A.1 q, A.2⟩, r⟩
theorem own_AI.congr {a : Addr} {n : Nat} {f g : Nat → Int32} (A : own_AI Z h a n f) (q : ∀ i, i < n → f i = g i) : own_AI Z h a n g := by
  obtain ⟨cl, A, r1, r2, r3⟩ := A
  exact ⟨cl, A, r1, r2, fun i hi => by rw [r3 i hi, q i hi]⟩
theorem own_newI (X : own_St p l e R s m args below meth c n0 h0 ws T h C S) (B : own_B Z p s m meth c bytes maxL own nm rt) (w : (Jvm.Cond.arrayClass .int).before a0 Z = true) {j : Int32} {n cap : Nat} (hj : j.toInt = (n : Int)) (hcap : n ≤ cap) (hb8 : cap * 8 ≤ 536870912) (hc : C + 1 ≤ R.cells) (hs : S + cap ≤ R.slots) (hd : decode bytes pc = .ok (.newarray .int, 2)) (hp : pc + 2 = pc')
    (k : ∀ T h' a, a = h.size → own_St p l e R s m args below meth c n0 h0 ws T h' (C + 1) (S + cap) → Keep h h' [] → own_AI Z h' a n (fun _ => 0) → h0.size ≤ a → own_H p e below En n0 h0 ws Q T (mkF m pc' L (.ref a :: st))) : own_H p e below En n0 h0 ws Q T (mkF m pc L (.int j :: st)) := by
  subst hp
  obtain ⟨locs, Y, N, e, K⟩ := X
  have hn : ¬ j < 0 := by rw [Int32.lt_iff_toInt_lt]; have : (0 : Int32).toInt = 0 := rfl; omega
  have hnn : j.toNatClampNeg = n := by show j.toInt.toNat = n; omega
  obtain ⟨T1, h1, cA, Y1, e1, E1, A1, st1⟩ := newP Y B.1 B.2.1 (aty := .int) w e (g := mkF m pc L (.int j :: st)) rfl (hb B.2.2.1 hd) rfl hn (cap := cap) (hnn ▸ hcap) hb8 hc hs
  refine own_tr st1 (k T1 h1 h.size rfl ⟨_, Y1, N, e1, K.ext E1⟩ ((Keep.refl h []).ext E1) ⟨_, A1, ?_, by omega, ?_⟩ K.1)
  · rw [sz_new, hnn]
  · intro i hi
    show (Array.replicate j.toNatClampNeg (defaultValue .int))[i]? = _
    rw [hnn, Array.getElem?_replicate, if_pos hi]
    rfl
theorem own_iaload (X : own_St p l e R s m args below meth c n0 h0 ws T h C S) (B : own_B Z p s m meth c bytes maxL own nm rt) {a : Addr} {n i : Nat} {f : Nat → Int32} {j : Int32} (A : own_AI Z h a n f) (hj : j.toInt = (i : Int)) (hi : i < n) (hd : decode bytes pc = .ok (.iaload, 1)) (hp : pc + 1 = pc') (k : own_H p e below En n0 h0 ws Q T (mkF m pc' L (.int (f i) :: st))) : own_H p e below En n0 h0 ws Q T (mkF m pc L (.int j :: .ref a :: st)) := by
  subst hp
  obtain ⟨locs, Y, N, e, K⟩ := X
  obtain ⟨cl, A, r1, r2, r3⟩ := A
  obtain ⟨q1, q2⟩ := own_ix hj (r1.symm ▸ hi : i < cl.slots.size)
  exact own_tr (fun t q => Y.iaload B.1 (j := j) (v := .int (f i)) (by rw [e]; exact A.1) (State.isArrayOf_alike B.2.1.alike A.2.1) A.2.2 q1 (by rw [q2]; exact r3 i hi) (g := mkF m pc L (.int j :: .ref a :: st)) rfl rfl (hb B.2.2.1 hd) t q) k
theorem own_lenI (X : own_St p l e R s m args below meth c n0 h0 ws T h C S) (B : own_B Z p s m meth c bytes maxL own nm rt) {a : Addr} {n : Nat} {f : Nat → Int32} (A : own_AI Z h a n f) (hd : decode bytes pc = .ok (.arraylength, 1)) (hp : pc + 1 = pc') (k : own_H p e below En n0 h0 ws Q T (mkF m pc' L (.int (Int32.ofNat n) :: st))) : own_H p e below En n0 h0 ws Q T (mkF m pc L (.ref a :: st)) := by
  subst hp
  obtain ⟨locs, Y, N, e, K⟩ := X
  obtain ⟨cl, A, r1, r2, r3⟩ := A
  subst r1
  exact own_tr (fun t q => Y.arraylength B.1 (by rw [e]; exact A.1) (State.isArrayOf_alike B.2.1.alike A.2.1) (g := mkF m pc L (.ref a :: st)) rfl rfl (hb B.2.2.1 hd) t q) k
theorem own_iastore (X : own_St p l e R s m args below meth c n0 h0 ws T h C S) (B : own_B Z p s m meth c bytes maxL own nm rt) {a : Addr} {n i : Nat} {f : Nat → Int32} {j : Int32} {x : Int32} (A : own_AI Z h a n f) (hj : j.toInt = (i : Int)) (hi : i < n) (hw1 : n0 ≤ a) (hw2 : a ∈ ws ∨ h0.size ≤ a) (hd : decode bytes pc = .ok (.iastore, 1)) (hp : pc + 1 = pc')
    (k : ∀ T h', own_St p l e R s m args below meth c n0 h0 ws T h' C S → Keep h h' [a] → own_AI Z h' a n (fun k => if k = i then x else f k) → own_H p e below En n0 h0 ws Q T (mkF m pc' L st)) : own_H p e below En n0 h0 ws Q T (mkF m pc L (.int x :: .int j :: .ref a :: st)) := by
  subst hp
  obtain ⟨locs, Y, N, e, K⟩ := X
  obtain ⟨cl, A, r1, r2, r3⟩ := A
  obtain ⟨q1, q2⟩ := own_ix hj (r1.symm ▸ hi : i < cl.slots.size)
  obtain ⟨T1, h1, Y1, e1, W1, st1⟩ := stI Y B.1 B.2.1 e A (j := j) (x := x) q1 (g := mkF m pc L (.int x :: .int j :: .ref a :: st)) rfl rfl (hb B.2.2.1 hd)
  refine own_tr st1 (k T1 h1 ⟨_, Y1, Fr.snoc Y1 N hw1, e1, K.wr W1 hw2⟩ (Keep.of_wr W1) ⟨_, A.same W1, ?_, r2, ?_⟩)
  · rw [sz_set, r1]
  · intro u hu
    show (cl.slots.setIfInBounds j.toNatClampNeg (.int x))[u]? = some (.int (if u = i then x else f u))
    rw [q2, Array.getElem?_setIfInBounds]
    by_cases hui : u = i
    · subst hui; rw [if_pos rfl, if_pos (r1.symm ▸ hi), if_pos rfl]
    · rw [if_neg (fun q => hui q.symm), if_neg hui]; exact r3 u hu
end OwnKit
theorem own_sz {p : Program} {l : Launch} {e : Env} {R : Room} {s : State} {m : MethodId} {args : Array Value} {below : List Frame} {meth : Method} {c : Code} {n0 : Nat} {h0 h : Heap} {ws : List Addr} {T : State} {C S : Nat} (X : own_St p l e R s m args below meth c n0 h0 ws T h C S) (Z0 : n0 ≤ h0.size) : n0 ≤ h.size := by
  obtain ⟨_, _, _, _, K⟩ := X
  exact Nat.le_trans Z0 K.1
theorem own_nat {n : Nat} (h : n < 2147483648) : (Int32.ofNat n).toInt = (n : Int) := len_toInt (by omega)
theorem own_ltN {i n : Nat} (hi : i < 2147483648) (hn : n < 2147483648) : (Int32.ofNat i < Int32.ofNat n) ↔ i < n := by
  rw [Int32.lt_iff_toInt_lt, own_nat hi, own_nat hn]; omega
theorem own_eqN {i n : Nat} (hi : i < 2147483648) (hn : n < 2147483648) : (Int32.ofNat i = Int32.ofNat n) ↔ i = n := by
  rw [← Int32.toInt_inj, own_nat hi, own_nat hn]; omega
theorem own_succ (i : Nat) : Int32.ofNat i + (1 : Int32) = Int32.ofNat (i + 1) := by
  rw [← Int32.toBitVec_inj]; simp [Int32.ofNat_add]
theorem own_and3 (x : Int32) : ∃ n : Nat, n < 4 ∧ x &&& (3 : Int32) = Int32.ofNat n := by
  have h := c_mask x 3 2 (by decide) (by decide)
  have hp : ((2 ^ 2 : Nat) : Int) = 4 := rfl
  rw [hp] at h
  refine ⟨(x.toInt % 4).toNat, by omega, ?_⟩
  rw [← Int32.toInt_inj, own_nat (by omega), h]; omega
theorem own_add (a b : Nat) : Int32.ofNat a + Int32.ofNat b = Int32.ofNat (a + b) := by
  rw [← Int32.toBitVec_inj]; simp [Int32.ofNat_add]
theorem own_mul (a b : Nat) : Int32.ofNat a * Int32.ofNat b = Int32.ofNat (a * b) := by
  rw [← Int32.toBitVec_inj]; simp [Int32.ofNat_mul]
theorem own_sub {a b : Nat} (ha : a < 2147483648) (h : b ≤ a) : Int32.ofNat a - Int32.ofNat b = Int32.ofNat (a - b) := by
  have h1 := c_isub (Int32.ofNat a) (Int32.ofNat b)
  have h2 := rng32 (Int32.ofNat a - Int32.ofNat b)
  rw [own_nat ha, own_nat (by omega : b < 2147483648)] at h1
  rw [← Int32.toInt_inj, own_nat (by omega : a - b < 2147483648)]
  omega
theorem own_sub_neg {a b : Nat} (hb : b < 2147483648) (h : a < b) : Int32.ofNat a - Int32.ofNat b < 0 := by
  have h1 := c_isub (Int32.ofNat a) (Int32.ofNat b)
  have h2 := rng32 (Int32.ofNat a - Int32.ofNat b)
  rw [own_nat (by omega : a < 2147483648), own_nat hb] at h1
  rw [Int32.lt_iff_toInt_lt]
  have h0 : (0 : Int32).toInt = 0 := rfl
  omega
theorem own_nn {a : Nat} (ha : a < 2147483648) : ¬ Int32.ofNat a < 0 := by
  rw [Int32.lt_iff_toInt_lt, own_nat ha]
  have h0 : (0 : Int32).toInt = 0 := rfl
  omega
theorem own_pred (k : Nat) : Int32.ofNat (k + 1) - (1 : Int32) = Int32.ofNat k := by
  rw [← own_succ, ← Int32.toBitVec_inj]; simp
theorem own_dec (k : Nat) : Int32.ofNat k + (-1 : Int32) = Int32.ofNat k - (1 : Int32) := by
  rw [Int32.sub_eq_add_neg]
theorem own_mask (x m : Int32) (k : Nat) (hk : k ≤ 31) (hm : m.toBitVec.toNat = 2 ^ k - 1) : ∃ n : Nat, n < 2 ^ k ∧ x &&& m = Int32.ofNat n := by
  have h := c_mask x m k hk hm
  have h31 : 2 ^ k ≤ 2147483648 := Nat.le_trans (Nat.pow_le_pow_right (by decide) hk) (by decide)
  have hp : 0 < 2 ^ k := Nat.pow_pos (by decide)
  have hpos : (0 : Int) ≤ x.toInt % ((2 ^ k : Nat) : Int) := Int.emod_nonneg _ (by omega)
  have hlt : x.toInt % ((2 ^ k : Nat) : Int) < ((2 ^ k : Nat) : Int) := Int.emod_lt_of_pos _ (by omega)
  refine ⟨(x.toInt % ((2 ^ k : Nat) : Int)).toNat, by omega, ?_⟩
  rw [← Int32.toInt_inj, own_nat (by omega), h]; omega
theorem own_ushr6 (p : Nat) (h : p < 2147483648) : ((Int32.ofNat p).toUInt32 >>> ((6 : Int32) &&& 31).toUInt32).toInt32 = Int32.ofNat (p / 64) := by
  have h1 := c_iushr (Int32.ofNat p) 6 6 (by decide) (by decide)
  rw [own_nat h] at h1
  rw [← Int32.toInt_inj, h1, own_nat (by omega)]
  have hp : ((2 ^ 6 : Nat) : Int) = 64 := rfl
  rw [hp]; omega
theorem own_idx (a b c d : Nat) (h : a + b * c + d < 2147483648) : (Int32.ofNat a + Int32.ofNat b * Int32.ofNat c + Int32.ofNat d).toInt = ((a + b * c + d : Nat) : Int) := by
  rw [own_mul, own_add, own_add, own_nat h]
def own_lin (b d : Int64) (k : Nat) : Int64 := b + d * (Int32.ofNat k).toInt64
theorem own_lin0 (b d : Int64) : b = own_lin b d 0 := by
  show b = b + d * (0 : Int64)
  rw [Int64.mul_zero, Int64.add_zero]
theorem own_lin1 (b d : Int64) : b + d = own_lin b d 1 := by
  show b + d = b + d * (1 : Int64)
  rw [Int64.mul_one]
def own_low (n : Nat) : Int64 := if n < 64 then ((1 : Int64) <<< (Int32.ofNat n &&& 0x3f).toInt64) - 1 else -1
def own_mk (a b : Nat) : Int64 := if a < b then own_low b &&& (own_low a ^^^ (-1 : Int64)) else 0
def own_cl (u : Int32) : Int32 := if (64 : Int32) < (if u < (0 : Int32) then (0 : Int32) else u) then (64 : Int32) else (if u < (0 : Int32) then (0 : Int32) else u)
theorem own_cl_nat (a k : Nat) (ha : a ≤ 256) (hk : k < 8) : own_cl (Int32.ofNat a - (64 : Int32) * Int32.ofNat k) = Int32.ofNat (min (a - 64 * k) 64) := by
  rw [show (64 : Int32) * Int32.ofNat k = Int32.ofNat (64 * k) from own_mul 64 k]
  unfold own_cl
  by_cases h : a < 64 * k
  · rw [if_pos (own_sub_neg (by omega) h), show min (a - 64 * k) 64 = 0 by omega]
    rfl
  · rw [own_sub (by omega) (by omega), if_neg (own_nn (by omega))]
    by_cases h2 : 64 < a - 64 * k
    · rw [if_pos (show (64 : Int32) < Int32.ofNat (a - 64 * k) from (own_ltN (i := 64) (by decide) (by omega)).mpr h2), show min (a - 64 * k) 64 = 64 by omega]
      rfl
    · rw [if_neg (show ¬ (64 : Int32) < Int32.ofNat (a - 64 * k) from mt (own_ltN (i := 64) (by decide) (by omega)).mp h2), show min (a - 64 * k) 64 = a - 64 * k by omega]
def own_orr (f g : Nat → Int64) (fr to lo hi j : Nat) : Int64 := if to ≤ j ∧ j < to + 4 then g j ||| (f (fr + (j - to)) &&& own_mk (min (lo - 64 * (j - to)) 64) (min (hi - 64 * (j - to)) 64)) else g j
theorem own_orr_out (f g : Nat → Int64) (fr : Nat) {to j : Nat} (lo hi : Nat) (h : ¬ (to ≤ j ∧ j < to + 4)) : own_orr f g fr to lo hi j = g j := if_neg h
theorem own_orr_in (f g : Nat → Int64) (fr : Nat) {to j : Nat} (lo hi : Nat) (h1 : to ≤ j) (h2 : j < to + 4) : own_orr f g fr to lo hi j = g j ||| (f (fr + (j - to)) &&& own_mk (min (lo - 64 * (j - to)) 64) (min (hi - 64 * (j - to)) 64)) := if_pos ⟨h1, h2⟩
def own_M (e cp : Nat) : Int64 := ((((1 : Int64) <<< (Int32.ofNat (2 ^ e) &&& 0x3f).toInt64) - (1 : Int64)) <<< ((Int32.ofNat (cp * 2 ^ e) &&& (63 : Int32)) &&& 0x3f).toInt64)
theorem own_tab5 : ∀ e : Fin 6, ∀ cp : Fin 256, (cp.1 + 1) * 2 ^ e.1 ≤ 256 → ∀ w : Fin 4, own_mk (min (cp.1 * 2 ^ e.1 - 64 * w.1) 64) (min (cp.1 * 2 ^ e.1 + 2 ^ e.1 - 64 * w.1) 64) = if w.1 = cp.1 * 2 ^ e.1 / 64 then own_M e.1 cp.1 else 0 := by decide +kernel
theorem own_tab6 : ∀ cp : Fin 4, ∀ w : Fin 4, own_mk (min (cp.1 * 2 ^ 6 - 64 * w.1) 64) (min (cp.1 * 2 ^ 6 + 2 ^ 6 - 64 * w.1) 64) = if w.1 = cp.1 then -1 else 0 := by decide +kernel
theorem own_tab7 : ∀ cp : Fin 2, ∀ w : Fin 4, own_mk (min (cp.1 * 2 ^ 7 - 64 * w.1) 64) (min (cp.1 * 2 ^ 7 + 2 ^ 7 - 64 * w.1) 64) = if w.1 = cp.1 * 2 ∨ w.1 = cp.1 * 2 + 1 then -1 else 0 := by decide +kernel
theorem own_or_and0 (a b : Int64) : a ||| (b &&& 0) = a := by
  rw [Int64.and_zero, Int64.or_zero]
theorem own_or_andm (a b : Int64) : a ||| (b &&& (-1 : Int64)) = a ||| b := by
  rw [Int64.and_neg_one]
theorem own_orr5 (f g : Nat → Int64) (fr to : Nat) {e cp : Nat} (he : e < 6) (hcp : (cp + 1) * 2 ^ e ≤ 256) (hb : cp * 2 ^ e < 256) (j : Nat) : (if j = to + cp * 2 ^ e / 64 then g (to + cp * 2 ^ e / 64) ||| (f (fr + cp * 2 ^ e / 64) &&& own_M e cp) else g j) = own_orr f g fr to (cp * 2 ^ e) (cp * 2 ^ e + 2 ^ e) j := by
  have hc : cp < 256 := by
    have hp : 0 < 2 ^ e := Nat.pow_pos (by decide)
    have := Nat.le_mul_of_pos_right (cp + 1) hp
    omega
  by_cases h : to ≤ j ∧ j < to + 4
  · rw [own_orr_in f g fr _ _ h.1 h.2]
    have t := own_tab5 ⟨e, he⟩ ⟨cp, hc⟩ hcp ⟨j - to, by omega⟩
    dsimp only at t
    rw [t]
    by_cases h2 : j = to + cp * 2 ^ e / 64
    · rw [if_pos h2, if_pos (by omega), ← h2, show j - to = cp * 2 ^ e / 64 by omega]
    · rw [if_neg h2, if_neg (by omega), own_or_and0]
  · rw [own_orr_out f g fr _ _ h, if_neg (by omega)]
theorem own_orr6 (f g : Nat → Int64) (fr to : Nat) {cp : Nat} (hcp : cp < 4) (j : Nat) : (if j = to + cp * 1 + 0 then g (to + cp * 1 + 0) ||| f (fr + cp * 1 + 0) else g j) = own_orr f g fr to (cp * 2 ^ 6) (cp * 2 ^ 6 + 2 ^ 6) j := by
  by_cases h : to ≤ j ∧ j < to + 4
  · rw [own_orr_in f g fr _ _ h.1 h.2]
    have t := own_tab6 ⟨cp, hcp⟩ ⟨j - to, by omega⟩
    dsimp only at t
    rw [t]
    by_cases h2 : j = to + cp * 1 + 0
    · rw [if_pos h2, if_pos (by omega), own_or_andm, ← h2, show fr + (j - to) = fr + cp * 1 + 0 by omega]
    · rw [if_neg h2, if_neg (by omega), own_or_and0]
  · rw [own_orr_out f g fr _ _ h, if_neg (by omega)]
theorem own_orr7 (f g : Nat → Int64) (fr to : Nat) {cp : Nat} (hcp : cp < 2) (j : Nat) : (if j = to + cp * 2 + 1 then (if to + cp * 2 + 1 = to + cp * 2 + 0 then g (to + cp * 2 + 0) ||| f (fr + cp * 2 + 0) else g (to + cp * 2 + 1)) ||| f (fr + cp * 2 + 1) else if j = to + cp * 2 + 0 then g (to + cp * 2 + 0) ||| f (fr + cp * 2 + 0) else g j) = own_orr f g fr to (cp * 2 ^ 7) (cp * 2 ^ 7 + 2 ^ 7) j := by
  rw [if_neg (by omega : ¬ to + cp * 2 + 1 = to + cp * 2 + 0)]
  by_cases h : to ≤ j ∧ j < to + 4
  · rw [own_orr_in f g fr _ _ h.1 h.2]
    have t := own_tab7 ⟨cp, hcp⟩ ⟨j - to, by omega⟩
    dsimp only at t
    rw [t]
    by_cases h2 : j = to + cp * 2 + 1
    · rw [if_pos h2, if_pos (by omega), own_or_andm, ← h2, show fr + (j - to) = fr + cp * 2 + 1 by omega]
    · rw [if_neg h2]
      by_cases h3 : j = to + cp * 2 + 0
      · rw [if_pos h3, if_pos (by omega), own_or_andm, ← h3, show fr + (j - to) = fr + cp * 2 + 0 by omega]
      · rw [if_neg h3, if_neg (by omega), own_or_and0]
  · rw [own_orr_out f g fr _ _ h, if_neg (by omega), if_neg (by omega)]
theorem own_pow0 : ∀ e : Fin 8, ((1 : Int32) <<< (Int32.ofNat e.1 &&& 31)) = Int32.ofNat (2 ^ e.1) ∧ Int32.ofNat (2 ^ e.1) ≠ 0 ∧ (256 : Int32) / Int32.ofNat (2 ^ e.1) = Int32.ofNat (256 / 2 ^ e.1) ∧ Int32.ofNat (256 / 2 ^ e.1) ≠ 0 ∧ 0 < 256 / 2 ^ e.1 ∧ 256 / 2 ^ e.1 ≤ 256 ∧ 256 / 2 ^ e.1 * 2 ^ e.1 = 256 := by decide +kernel
theorem own_pow (e : Nat) (h : e < 8) : ((1 : Int32) <<< (Int32.ofNat e &&& 31)) = Int32.ofNat (2 ^ e) := (own_pow0 ⟨e, h⟩).1
theorem own_pow_ne (e : Nat) (h : e < 8) : Int32.ofNat (2 ^ e) ≠ 0 := (own_pow0 ⟨e, h⟩).2.1
theorem own_div256 (e : Nat) (h : e < 8) : (256 : Int32) / Int32.ofNat (2 ^ e) = Int32.ofNat (256 / 2 ^ e) := (own_pow0 ⟨e, h⟩).2.2.1
theorem own_div_ne (e : Nat) (h : e < 8) : Int32.ofNat (256 / 2 ^ e) ≠ 0 := (own_pow0 ⟨e, h⟩).2.2.2.1
theorem own_fits {e cp : Nat} (h : e < 8) (hc : cp < 256 / 2 ^ e) : (cp + 1) * 2 ^ e ≤ 256 := by
  have h1 := (own_pow0 ⟨e, h⟩).2.2.2.2.2.2
  dsimp only at h1
  exact Nat.le_trans (Nat.mul_le_mul_right _ hc) (Nat.le_of_eq h1)
theorem own_modN (y : Int32) (e : Nat) (h : e < 8) : ∃ n : Nat, n < 256 / 2 ^ e ∧ ((y.toUInt32 >>> ((3 : Int32) &&& 31).toUInt32).toInt32) % Int32.ofNat (256 / 2 ^ e) = Int32.ofNat n := by
  have hd := (own_pow0 ⟨e, h⟩).2.2.2.2
  dsimp only at hd
  have h1 := c_iushr y 3 3 (by decide) (by decide)
  have hp : ((2 ^ 3 : Nat) : Int) = 8 := rfl
  rw [hp] at h1
  generalize ((y.toUInt32 >>> ((3 : Int32) &&& 31).toUInt32).toInt32) = x at h1
  generalize 256 / 2 ^ e = d at hd
  have h0 : 0 ≤ x.toInt := by omega
  have h2 := (c_irem x (Int32.ofNat d) d (own_nat (by omega))).1 h0
  have h3 : 0 ≤ x.toInt % (d : Int) := Int.emod_nonneg _ (by omega)
  have h4 : x.toInt % (d : Int) < d := Int.emod_lt_of_pos _ (by omega)
  refine ⟨(x.toInt % (d : Int)).toNat, by omega, ?_⟩
  rw [← Int32.toInt_inj, own_nat (by omega), h2]; omega
theorem pd_5 : parseMethodDescriptor "(II)I" = some ⟨[.int, .int], some .int⟩ := by decide +kernel
theorem pd_6 : parseMethodDescriptor "(II)I" = some ⟨[.int, .int], some .int⟩ := by decide +kernel
theorem pd_7 : parseMethodDescriptor "(I)J" = some ⟨[.int], some .long⟩ := by decide +kernel
theorem pd_4 : parseMethodDescriptor "(II)J" = some ⟨[.int, .int], some .long⟩ := by decide +kernel
theorem pd_1 : parseMethodDescriptor "(JJ)[J" = some ⟨[.long, .long], some (.array .long)⟩ := by decide +kernel
theorem pd_2 : parseMethodDescriptor "([JI[JIII)V" = some ⟨[(.array .long), .int, (.array .long), .int, .int, .int], none⟩ := by decide +kernel
theorem pd_3 : parseMethodDescriptor "([J[JIIIJJJJII)Z" = some ⟨[(.array .long), (.array .long), .int, .int, .int, .long, .long, .long, .long, .int, .int], some .boolean⟩ := by decide +kernel
theorem da_0 : decode method_3_code 0 = .ok (.bipush 8, 2) := by decide +kernel
theorem da_2 : decode method_3_code 2 = .ok (.newarray .long, 2) := by decide +kernel
theorem da_4 : decode method_3_code 4 = .ok (.dup, 1) := by decide +kernel
theorem da_5 : decode method_3_code 5 = .ok (.iconst 0, 1) := by decide +kernel
theorem da_6 : decode method_3_code 6 = .ok (.lload_n 0, 1) := by decide +kernel
theorem da_7 : decode method_3_code 7 = .ok (.lastore, 1) := by decide +kernel
theorem da_8 : decode method_3_code 8 = .ok (.dup, 1) := by decide +kernel
theorem da_9 : decode method_3_code 9 = .ok (.iconst 1, 1) := by decide +kernel
theorem da_10 : decode method_3_code 10 = .ok (.lload_n 0, 1) := by decide +kernel
theorem da_11 : decode method_3_code 11 = .ok (.lload_n 2, 1) := by decide +kernel
theorem da_12 : decode method_3_code 12 = .ok (.ladd, 1) := by decide +kernel
theorem da_13 : decode method_3_code 13 = .ok (.lastore, 1) := by decide +kernel
theorem da_14 : decode method_3_code 14 = .ok (.dup, 1) := by decide +kernel
theorem da_15 : decode method_3_code 15 = .ok (.iconst 2, 1) := by decide +kernel
theorem da_16 : decode method_3_code 16 = .ok (.lload_n 0, 1) := by decide +kernel
theorem da_17 : decode method_3_code 17 = .ok (.ldc2_w 23, 3) := by decide +kernel
theorem da_20 : decode method_3_code 20 = .ok (.lload_n 2, 1) := by decide +kernel
theorem da_21 : decode method_3_code 21 = .ok (.lmul, 1) := by decide +kernel
theorem da_22 : decode method_3_code 22 = .ok (.ladd, 1) := by decide +kernel
theorem da_23 : decode method_3_code 23 = .ok (.lastore, 1) := by decide +kernel
theorem da_24 : decode method_3_code 24 = .ok (.dup, 1) := by decide +kernel
theorem da_25 : decode method_3_code 25 = .ok (.iconst 3, 1) := by decide +kernel
theorem da_26 : decode method_3_code 26 = .ok (.lload_n 0, 1) := by decide +kernel
theorem da_27 : decode method_3_code 27 = .ok (.ldc2_w 25, 3) := by decide +kernel
theorem da_30 : decode method_3_code 30 = .ok (.lload_n 2, 1) := by decide +kernel
theorem da_31 : decode method_3_code 31 = .ok (.lmul, 1) := by decide +kernel
theorem da_32 : decode method_3_code 32 = .ok (.ladd, 1) := by decide +kernel
theorem da_33 : decode method_3_code 33 = .ok (.lastore, 1) := by decide +kernel
theorem da_34 : decode method_3_code 34 = .ok (.dup, 1) := by decide +kernel
theorem da_35 : decode method_3_code 35 = .ok (.iconst 4, 1) := by decide +kernel
theorem da_36 : decode method_3_code 36 = .ok (.lload_n 0, 1) := by decide +kernel
theorem da_37 : decode method_3_code 37 = .ok (.ldc2_w 27, 3) := by decide +kernel
theorem da_40 : decode method_3_code 40 = .ok (.lload_n 2, 1) := by decide +kernel
theorem da_41 : decode method_3_code 41 = .ok (.lmul, 1) := by decide +kernel
theorem da_42 : decode method_3_code 42 = .ok (.ladd, 1) := by decide +kernel
theorem da_43 : decode method_3_code 43 = .ok (.lastore, 1) := by decide +kernel
theorem da_44 : decode method_3_code 44 = .ok (.dup, 1) := by decide +kernel
theorem da_45 : decode method_3_code 45 = .ok (.iconst 5, 1) := by decide +kernel
theorem da_46 : decode method_3_code 46 = .ok (.lload_n 0, 1) := by decide +kernel
theorem da_47 : decode method_3_code 47 = .ok (.ldc2_w 29, 3) := by decide +kernel
theorem da_50 : decode method_3_code 50 = .ok (.lload_n 2, 1) := by decide +kernel
theorem da_51 : decode method_3_code 51 = .ok (.lmul, 1) := by decide +kernel
theorem da_52 : decode method_3_code 52 = .ok (.ladd, 1) := by decide +kernel
theorem da_53 : decode method_3_code 53 = .ok (.lastore, 1) := by decide +kernel
theorem da_54 : decode method_3_code 54 = .ok (.dup, 1) := by decide +kernel
theorem da_55 : decode method_3_code 55 = .ok (.bipush 6, 2) := by decide +kernel
theorem da_57 : decode method_3_code 57 = .ok (.lload_n 0, 1) := by decide +kernel
theorem da_58 : decode method_3_code 58 = .ok (.ldc2_w 31, 3) := by decide +kernel
theorem da_61 : decode method_3_code 61 = .ok (.lload_n 2, 1) := by decide +kernel
theorem da_62 : decode method_3_code 62 = .ok (.lmul, 1) := by decide +kernel
theorem da_63 : decode method_3_code 63 = .ok (.ladd, 1) := by decide +kernel
theorem da_64 : decode method_3_code 64 = .ok (.lastore, 1) := by decide +kernel
theorem da_65 : decode method_3_code 65 = .ok (.dup, 1) := by decide +kernel
theorem da_66 : decode method_3_code 66 = .ok (.bipush 7, 2) := by decide +kernel
theorem da_68 : decode method_3_code 68 = .ok (.lload_n 0, 1) := by decide +kernel
theorem da_69 : decode method_3_code 69 = .ok (.ldc2_w 33, 3) := by decide +kernel
theorem da_72 : decode method_3_code 72 = .ok (.lload_n 2, 1) := by decide +kernel
theorem da_73 : decode method_3_code 73 = .ok (.lmul, 1) := by decide +kernel
theorem da_74 : decode method_3_code 74 = .ok (.ladd, 1) := by decide +kernel
theorem da_75 : decode method_3_code 75 = .ok (.lastore, 1) := by decide +kernel
theorem da_76 : decode method_3_code 76 = .ok (.areturn, 1) := by decide +kernel
set_option maxRecDepth 65536 in
set_option maxHeartbeats 40000000 in
theorem rm1 (l : Launch) (Z : State) (a0 : Array Value) (hw : ∀ d ∈ tables_1, d.before a0 Z = true) (b : Int64) (d : Int64) (h0 : Heap) (n0 : Nat) (Z0 : n0 ≤ h0.size) :
    own_C l Z (⟨"com/example/ostrakon/ostrakon/text/BitVectorsOrCopyPinLaw", "fill", "(JJ)[J"⟩ : MethodName) method_3_code 4 (some (.array .long)) [] ({ frames := 0, cells := 1, slots := 8, locals := 0 } : Room) #[.long b, .long d] h0 n0 [] (fun v h => ∃ t : Addr, v = some (.ref t) ∧ h0.size ≤ t ∧ own_AJ Z h t 8 (own_lin b d)) 1 8 := by
  refine own_enter (L0 := #[.val (.long b), .second, .val (.long d), .second]) (plainFor_of_name (by first | (simp [plainName, overriddenIn]; done) | decide +kernel)) (fun m => by first | (simp [entryFrame, mkF, argsToLocals, Value.category]; done) | rfl) ?_
  intro p e s m below meth c T B X
  refine own_bipush X B da_0 (v := (8 : Int32)) rfl (pc' := 2) rfl ?_
  refine own_newJ X B (hw _ (List.mem_of_getElem? (i := 4) rfl)) (n := 8) (cap := 8) rfl (by decide) (by decide) (by decide) (by decide) da_2 (pc' := 4) rfl fun T h t g_t X K A_t z_t => ?_
  refine own_dup X B da_4 rfl (pc' := 5) rfl ?_
  refine own_iconst X B da_5 (v := (0 : Int32)) rfl (pc' := 6) rfl ?_
  refine own_lloadN X B da_6 rfl (pc' := 7) rfl ?_
  refine own_lastore X B A_t (i := 0) rfl (by decide) (Nat.le_trans Z0 z_t) (Or.inr z_t) da_7 (pc' := 8) rfl fun T h X K A_t => ?_
  refine own_dup X B da_8 rfl (pc' := 9) rfl ?_
  refine own_iconst X B da_9 (v := (1 : Int32)) rfl (pc' := 10) rfl ?_
  refine own_lloadN X B da_10 rfl (pc' := 11) rfl ?_
  refine own_lloadN X B da_11 rfl (pc' := 12) rfl ?_
  refine own_ladd X B da_12 (pc' := 13) rfl ?_
  refine own_lastore X B A_t (i := 1) rfl (by decide) (Nat.le_trans Z0 z_t) (Or.inr z_t) da_13 (pc' := 14) rfl fun T h X K A_t => ?_
  refine own_dup X B da_14 rfl (pc' := 15) rfl ?_
  refine own_iconst X B da_15 (v := (2 : Int32)) rfl (pc' := 16) rfl ?_
  refine own_lloadN X B da_16 rfl (pc' := 17) rfl ?_
  refine own_litL X B (hw _ (List.mem_of_getElem? (i := 5) rfl)) da_17 (pc' := 20) rfl ?_
  refine own_lloadN X B da_20 rfl (pc' := 21) rfl ?_
  refine own_lmul X B da_21 (pc' := 22) rfl ?_
  refine own_ladd X B da_22 (pc' := 23) rfl ?_
  refine own_lastore X B A_t (i := 2) rfl (by decide) (Nat.le_trans Z0 z_t) (Or.inr z_t) da_23 (pc' := 24) rfl fun T h X K A_t => ?_
  refine own_dup X B da_24 rfl (pc' := 25) rfl ?_
  refine own_iconst X B da_25 (v := (3 : Int32)) rfl (pc' := 26) rfl ?_
  refine own_lloadN X B da_26 rfl (pc' := 27) rfl ?_
  refine own_litL X B (hw _ (List.mem_of_getElem? (i := 6) rfl)) da_27 (pc' := 30) rfl ?_
  refine own_lloadN X B da_30 rfl (pc' := 31) rfl ?_
  refine own_lmul X B da_31 (pc' := 32) rfl ?_
  refine own_ladd X B da_32 (pc' := 33) rfl ?_
  refine own_lastore X B A_t (i := 3) rfl (by decide) (Nat.le_trans Z0 z_t) (Or.inr z_t) da_33 (pc' := 34) rfl fun T h X K A_t => ?_
  refine own_dup X B da_34 rfl (pc' := 35) rfl ?_
  refine own_iconst X B da_35 (v := (4 : Int32)) rfl (pc' := 36) rfl ?_
  refine own_lloadN X B da_36 rfl (pc' := 37) rfl ?_
  refine own_litL X B (hw _ (List.mem_of_getElem? (i := 7) rfl)) da_37 (pc' := 40) rfl ?_
  refine own_lloadN X B da_40 rfl (pc' := 41) rfl ?_
  refine own_lmul X B da_41 (pc' := 42) rfl ?_
  refine own_ladd X B da_42 (pc' := 43) rfl ?_
  refine own_lastore X B A_t (i := 4) rfl (by decide) (Nat.le_trans Z0 z_t) (Or.inr z_t) da_43 (pc' := 44) rfl fun T h X K A_t => ?_
  refine own_dup X B da_44 rfl (pc' := 45) rfl ?_
  refine own_iconst X B da_45 (v := (5 : Int32)) rfl (pc' := 46) rfl ?_
  refine own_lloadN X B da_46 rfl (pc' := 47) rfl ?_
  refine own_litL X B (hw _ (List.mem_of_getElem? (i := 8) rfl)) da_47 (pc' := 50) rfl ?_
  refine own_lloadN X B da_50 rfl (pc' := 51) rfl ?_
  refine own_lmul X B da_51 (pc' := 52) rfl ?_
  refine own_ladd X B da_52 (pc' := 53) rfl ?_
  refine own_lastore X B A_t (i := 5) rfl (by decide) (Nat.le_trans Z0 z_t) (Or.inr z_t) da_53 (pc' := 54) rfl fun T h X K A_t => ?_
  refine own_dup X B da_54 rfl (pc' := 55) rfl ?_
  refine own_bipush X B da_55 (v := (6 : Int32)) rfl (pc' := 57) rfl ?_
  refine own_lloadN X B da_57 rfl (pc' := 58) rfl ?_
  refine own_litL X B (hw _ (List.mem_of_getElem? (i := 9) rfl)) da_58 (pc' := 61) rfl ?_
  refine own_lloadN X B da_61 rfl (pc' := 62) rfl ?_
  refine own_lmul X B da_62 (pc' := 63) rfl ?_
  refine own_ladd X B da_63 (pc' := 64) rfl ?_
  refine own_lastore X B A_t (i := 6) rfl (by decide) (Nat.le_trans Z0 z_t) (Or.inr z_t) da_64 (pc' := 65) rfl fun T h X K A_t => ?_
  refine own_dup X B da_65 rfl (pc' := 66) rfl ?_
  refine own_bipush X B da_66 (v := (7 : Int32)) rfl (pc' := 68) rfl ?_
  refine own_lloadN X B da_68 rfl (pc' := 69) rfl ?_
  refine own_litL X B (hw _ (List.mem_of_getElem? (i := 10) rfl)) da_69 (pc' := 72) rfl ?_
  refine own_lloadN X B da_72 rfl (pc' := 73) rfl ?_
  refine own_lmul X B da_73 (pc' := 74) rfl ?_
  refine own_ladd X B da_74 (pc' := 75) rfl ?_
  refine own_lastore X B A_t (i := 7) rfl (by decide) (Nat.le_trans Z0 z_t) (Or.inr z_t) da_75 (pc' := 76) rfl fun T h X K A_t => ?_
  replace A_t := A_t.congr (g := own_lin b d) (fun i hi => by
    match i, hi with
    | 0, _ => exact own_lin0 b d
    | 1, _ => exact own_lin1 b d
    | 2, _ => exact congrArg (b + ·) (Int64.mul_comm _ _)
    | 3, _ => exact congrArg (b + ·) (Int64.mul_comm _ _)
    | 4, _ => exact congrArg (b + ·) (Int64.mul_comm _ _)
    | 5, _ => exact congrArg (b + ·) (Int64.mul_comm _ _)
    | 6, _ => exact congrArg (b + ·) (Int64.mul_comm _ _)
    | 7, _ => exact congrArg (b + ·) (Int64.mul_comm _ _))
  exact own_aret X B da_76 rfl rfl rfl (by decide) (by decide) ⟨t, rfl, z_t, A_t⟩
theorem db_0 : decode jdk_29_method_65_code 0 = .ok (.iload_n 0, 1) := by decide +kernel
theorem db_1 : decode jdk_29_method_65_code 1 = .ok (.iload_n 1, 1) := by decide +kernel
theorem db_2 : decode jdk_29_method_65_code 2 = .ok (.if_icmp .lt 7, 3) := by decide +kernel
theorem db_5 : decode jdk_29_method_65_code 5 = .ok (.iload_n 0, 1) := by decide +kernel
theorem db_6 : decode jdk_29_method_65_code 6 = .ok (.goto 4, 3) := by decide +kernel
theorem db_9 : decode jdk_29_method_65_code 9 = .ok (.iload_n 1, 1) := by decide +kernel
theorem db_10 : decode jdk_29_method_65_code 10 = .ok (.ireturn, 1) := by decide +kernel
set_option maxRecDepth 65536 in
set_option maxHeartbeats 40000000 in
theorem rm2 (l : Launch) (Z : State) (a0 : Array Value) (hw : ∀ d ∈ tables_1, d.before a0 Z = true) (u : Int32) (v : Int32) (h0 : Heap) (n0 : Nat) (Z0 : n0 ≤ h0.size) :
    own_C l Z (⟨"java/lang/Math", "max", "(II)I"⟩ : MethodName) jdk_29_method_65_code 2 (some .int) [] ({ frames := 0, cells := 0, slots := 0, locals := 0 } : Room) #[.int u, .int v] h0 n0 [] (fun r h => r = some (.int (if u < v then v else u))) 0 0 := by
  refine own_enter (L0 := #[.val (.int u), .val (.int v)]) (Jvm.Free.JP.mathPlain rfl (by decide +kernel)) (fun m => by first | (simp [entryFrame, mkF, argsToLocals, Value.category]; done) | rfl) ?_
  intro p e s m below meth c T B X
  refine own_iloadN X B db_0 rfl (pc' := 1) rfl ?_
  refine own_iloadN X B db_1 rfl (pc' := 2) rfl ?_
  by_cases hc : u < v
  · -- hc
    refine own_icmpT X B db_2 (tlt hc).1 (pc' := 9) (by decide) (by decide) ?_
    refine own_iloadN X B db_9 rfl (pc' := 10) rfl ?_
    exact own_iret X B db_10 (by decide) (by decide) (by rw [if_pos hc])
  · -- not hc
    refine own_icmpF X B db_2 (flt hc).1 (pc' := 5) rfl ?_
    refine own_iloadN X B db_5 rfl (pc' := 6) rfl ?_
    refine own_goto X B db_6 (pc' := 10) (by decide) (by decide) ?_
    exact own_iret X B db_10 (by decide) (by decide) (by rw [if_neg hc])
theorem dc_0 : decode jdk_29_method_69_code 0 = .ok (.iload_n 0, 1) := by decide +kernel
theorem dc_1 : decode jdk_29_method_69_code 1 = .ok (.iload_n 1, 1) := by decide +kernel
theorem dc_2 : decode jdk_29_method_69_code 2 = .ok (.if_icmp .gt 7, 3) := by decide +kernel
theorem dc_5 : decode jdk_29_method_69_code 5 = .ok (.iload_n 0, 1) := by decide +kernel
theorem dc_6 : decode jdk_29_method_69_code 6 = .ok (.goto 4, 3) := by decide +kernel
theorem dc_9 : decode jdk_29_method_69_code 9 = .ok (.iload_n 1, 1) := by decide +kernel
theorem dc_10 : decode jdk_29_method_69_code 10 = .ok (.ireturn, 1) := by decide +kernel
set_option maxRecDepth 65536 in
set_option maxHeartbeats 40000000 in
theorem rm3 (l : Launch) (Z : State) (a0 : Array Value) (hw : ∀ d ∈ tables_1, d.before a0 Z = true) (u : Int32) (v : Int32) (h0 : Heap) (n0 : Nat) (Z0 : n0 ≤ h0.size) :
    own_C l Z (⟨"java/lang/Math", "min", "(II)I"⟩ : MethodName) jdk_29_method_69_code 2 (some .int) [] ({ frames := 0, cells := 0, slots := 0, locals := 0 } : Room) #[.int u, .int v] h0 n0 [] (fun r h => r = some (.int (if v < u then v else u))) 0 0 := by
  refine own_enter (L0 := #[.val (.int u), .val (.int v)]) (Jvm.Free.JP.mathPlain rfl (by decide +kernel)) (fun m => by first | (simp [entryFrame, mkF, argsToLocals, Value.category]; done) | rfl) ?_
  intro p e s m below meth c T B X
  refine own_iloadN X B dc_0 rfl (pc' := 1) rfl ?_
  refine own_iloadN X B dc_1 rfl (pc' := 2) rfl ?_
  by_cases hc : v < u
  · -- hc
    refine own_icmpT X B dc_2 (tlt hc).2.2.1 (pc' := 9) (by decide) (by decide) ?_
    refine own_iloadN X B dc_9 rfl (pc' := 10) rfl ?_
    exact own_iret X B dc_10 (by decide) (by decide) (by rw [if_pos hc])
  · -- not hc
    refine own_icmpF X B dc_2 (flt hc).2.2.1 (pc' := 5) rfl ?_
    refine own_iloadN X B dc_5 rfl (pc' := 6) rfl ?_
    refine own_goto X B dc_6 (pc' := 10) (by decide) (by decide) ?_
    exact own_iret X B dc_10 (by decide) (by decide) (by rw [if_neg hc])
theorem dd_0 : decode method_6_code 0 = .ok (.iload_n 0, 1) := by decide +kernel
theorem dd_1 : decode method_6_code 1 = .ok (.bipush 64, 2) := by decide +kernel
theorem dd_3 : decode method_6_code 3 = .ok (.if_icmp .lt 9, 3) := by decide +kernel
theorem dd_6 : decode method_6_code 6 = .ok (.ldc2_w 52, 3) := by decide +kernel
theorem dd_9 : decode method_6_code 9 = .ok (.goto 8, 3) := by decide +kernel
theorem dd_12 : decode method_6_code 12 = .ok (.lconst 1, 1) := by decide +kernel
theorem dd_13 : decode method_6_code 13 = .ok (.iload_n 0, 1) := by decide +kernel
theorem dd_14 : decode method_6_code 14 = .ok (.lshl, 1) := by decide +kernel
theorem dd_15 : decode method_6_code 15 = .ok (.lconst 1, 1) := by decide +kernel
theorem dd_16 : decode method_6_code 16 = .ok (.lsub, 1) := by decide +kernel
theorem dd_17 : decode method_6_code 17 = .ok (.lreturn, 1) := by decide +kernel
set_option maxRecDepth 65536 in
set_option maxHeartbeats 40000000 in
theorem rm4 (l : Launch) (Z : State) (a0 : Array Value) (hw : ∀ d ∈ tables_1, d.before a0 Z = true) (n : Nat) (h0 : Heap) (n0 : Nat) (Z0 : n0 ≤ h0.size) (hn : n ≤ 64) :
    own_C l Z (⟨"com/example/ostrakon/ostrakon/text/BitVectorsOrCopyPinLaw", "low", "(I)J"⟩ : MethodName) method_6_code 1 (some .long) [] ({ frames := 0, cells := 0, slots := 0, locals := 0 } : Room) #[.int (Int32.ofNat n)] h0 n0 [] (fun r h => r = some (.long (own_low n))) 0 0 := by
  refine own_enter (L0 := #[.val (.int (Int32.ofNat n))]) (plainFor_of_name (by first | (simp [plainName, overriddenIn]; done) | decide +kernel)) (fun m => by first | (simp [entryFrame, mkF, argsToLocals, Value.category]; done) | rfl) ?_
  intro p e s m below meth c T B X
  refine own_iloadN X B dd_0 rfl (pc' := 1) rfl ?_
  refine own_bipush X B dd_1 (v := (64 : Int32)) rfl (pc' := 3) rfl ?_
  by_cases hc : n < 64
  · -- hc
    refine own_icmpT X B dd_3 (tlt ((own_ltN (n := 64) (by omega) (by decide)).mpr hc)).1 (pc' := 12) (by decide) (by decide) ?_
    refine own_lconst X B dd_12 (v := (1 : Int64)) rfl (pc' := 13) rfl ?_
    refine own_iloadN X B dd_13 rfl (pc' := 14) rfl ?_
    refine own_lshl X B dd_14 (pc' := 15) rfl ?_
    refine own_lconst X B dd_15 (v := (1 : Int64)) rfl (pc' := 16) rfl ?_
    refine own_lsub X B dd_16 (pc' := 17) rfl ?_
    exact own_lret X B dd_17 (by decide) (by decide) (by unfold own_low; rw [if_pos hc])
  · -- not hc
    refine own_icmpF X B dd_3 (flt (mt (own_ltN (n := 64) (by omega) (by decide)).mp hc)).1 (pc' := 6) rfl ?_
    refine own_litL X B (hw _ (List.mem_of_getElem? (i := 31) rfl)) dd_6 (pc' := 9) rfl ?_
    refine own_goto X B dd_9 (pc' := 17) (by decide) (by decide) ?_
    exact own_lret X B dd_17 (by decide) (by decide) (by unfold own_low; rw [if_neg hc])
theorem de_0 : decode method_5_code 0 = .ok (.iload_n 0, 1) := by decide +kernel
theorem de_1 : decode method_5_code 1 = .ok (.iconst 0, 1) := by decide +kernel
theorem de_2 : decode method_5_code 2 = .ok (.invokestatic 39, 3) := by decide +kernel
theorem de_5 : decode method_5_code 5 = .ok (.bipush 64, 2) := by decide +kernel
theorem de_7 : decode method_5_code 7 = .ok (.invokestatic 45, 3) := by decide +kernel
theorem de_10 : decode method_5_code 10 = .ok (.istore_n 2, 1) := by decide +kernel
theorem de_11 : decode method_5_code 11 = .ok (.iload_n 1, 1) := by decide +kernel
theorem de_12 : decode method_5_code 12 = .ok (.iconst 0, 1) := by decide +kernel
theorem de_13 : decode method_5_code 13 = .ok (.invokestatic 39, 3) := by decide +kernel
theorem de_16 : decode method_5_code 16 = .ok (.bipush 64, 2) := by decide +kernel
theorem de_18 : decode method_5_code 18 = .ok (.invokestatic 45, 3) := by decide +kernel
theorem de_21 : decode method_5_code 21 = .ok (.istore_n 3, 1) := by decide +kernel
theorem de_22 : decode method_5_code 22 = .ok (.iload_n 3, 1) := by decide +kernel
theorem de_23 : decode method_5_code 23 = .ok (.iload_n 2, 1) := by decide +kernel
theorem de_24 : decode method_5_code 24 = .ok (.if_icmp .gt 5, 3) := by decide +kernel
theorem de_27 : decode method_5_code 27 = .ok (.lconst 0, 1) := by decide +kernel
theorem de_28 : decode method_5_code 28 = .ok (.lreturn, 1) := by decide +kernel
theorem de_29 : decode method_5_code 29 = .ok (.iload_n 3, 1) := by decide +kernel
theorem de_30 : decode method_5_code 30 = .ok (.invokestatic 48, 3) := by decide +kernel
theorem de_33 : decode method_5_code 33 = .ok (.iload_n 2, 1) := by decide +kernel
theorem de_34 : decode method_5_code 34 = .ok (.invokestatic 48, 3) := by decide +kernel
theorem de_37 : decode method_5_code 37 = .ok (.ldc2_w 52, 3) := by decide +kernel
theorem de_40 : decode method_5_code 40 = .ok (.lxor, 1) := by decide +kernel
theorem de_41 : decode method_5_code 41 = .ok (.land, 1) := by decide +kernel
theorem de_42 : decode method_5_code 42 = .ok (.lreturn, 1) := by decide +kernel
set_option maxRecDepth 65536 in
set_option maxHeartbeats 40000000 in
theorem rm5 (l : Launch) (Z : State) (a0 : Array Value) (hw : ∀ d ∈ tables_1, d.before a0 Z = true) (u : Int32) (v : Int32) (a : Nat) (b : Nat) (h0 : Heap) (n0 : Nat) (Z0 : n0 ≤ h0.size) (hu : own_cl u = Int32.ofNat a) (hv : own_cl v = Int32.ofNat b) (ha : a ≤ 64) (hb : b ≤ 64) :
    own_C l Z (⟨"com/example/ostrakon/ostrakon/text/BitVectorsOrCopyPinLaw", "mask", "(II)J"⟩ : MethodName) method_5_code 4 (some .long) [] ({ frames := 1, cells := 0, slots := 0, locals := 14 } : Room) #[.int u, .int v] h0 n0 [] (fun r h => r = some (.long (own_mk a b))) 0 0 := by
  refine own_enter (L0 := #[.val (.int u), .val (.int v), .unset, .unset]) (plainFor_of_name (by first | (simp [plainName, overriddenIn]; done) | decide +kernel)) (fun m => by first | (simp [entryFrame, mkF, argsToLocals, Value.category]; done) | rfl) ?_
  intro p e s m below meth c T B X
  refine own_iloadN X B de_0 rfl (pc' := 1) rfl ?_
  refine own_iconst X B de_1 (v := (0 : Int32)) rfl (pc' := 2) rfl ?_
  refine own_callS X B (W := 0) (hw _ (List.mem_of_getElem? (i := 21) rfl)) (hw _ (List.mem_of_getElem? (i := 22) rfl)) (hw _ (List.mem_of_getElem? (i := 23) rfl)) (hw _ (List.mem_of_getElem? (i := 24) rfl)) (by decide) (rm2 l Z a0 hw u (0 : Int32) h0 n0 (own_sz X Z0)) (by decide) (by decide) (by decide) (by decide) rfl (argsL := [.int u, .int (0 : Int32)]) pd_5 rfl rfl (st := []) rfl (Nat.le_refl _) de_2 (pc' := 5) rfl all0 ?_
  rintro v T h X K rfl
  show own_H _ _ _ _ _ _ _ _ T (mkF m 5 #[.val (.int u), .val (.int v), .unset, .unset] [.int (if u < (0 : Int32) then (0 : Int32) else u)])
  refine own_bipush X B de_5 (v := (64 : Int32)) rfl (pc' := 7) rfl ?_
  refine own_callS X B (W := 0) (hw _ (List.mem_of_getElem? (i := 25) rfl)) (hw _ (List.mem_of_getElem? (i := 26) rfl)) (hw _ (List.mem_of_getElem? (i := 23) rfl)) (hw _ (List.mem_of_getElem? (i := 27) rfl)) (by decide) (rm3 l Z a0 hw (if u < (0 : Int32) then (0 : Int32) else u) (64 : Int32) h n0 (own_sz X Z0)) (by decide) (by decide) (by decide) (by decide) rfl (argsL := [.int (if u < (0 : Int32) then (0 : Int32) else u), .int (64 : Int32)]) pd_6 rfl rfl (st := []) rfl (Nat.le_refl _) de_7 (pc' := 10) rfl all0 ?_
  rintro v T h X K rfl
  show own_H _ _ _ _ _ _ _ _ T (mkF m 10 #[.val (.int u), .val (.int v), .unset, .unset] [.int (own_cl u)])
  rw [hu]
  refine own_istoreN X B de_10 (L' := #[.val (.int u), .val (.int v), .val (.int (Int32.ofNat a)), .unset]) rfl (pc' := 11) rfl ?_
  refine own_iloadN X B de_11 rfl (pc' := 12) rfl ?_
  refine own_iconst X B de_12 (v := (0 : Int32)) rfl (pc' := 13) rfl ?_
  refine own_callS X B (W := 0) (hw _ (List.mem_of_getElem? (i := 21) rfl)) (hw _ (List.mem_of_getElem? (i := 22) rfl)) (hw _ (List.mem_of_getElem? (i := 23) rfl)) (hw _ (List.mem_of_getElem? (i := 24) rfl)) (by decide) (rm2 l Z a0 hw v (0 : Int32) h n0 (own_sz X Z0)) (by decide) (by decide) (by decide) (by decide) rfl (argsL := [.int v, .int (0 : Int32)]) pd_5 rfl rfl (st := []) rfl (Nat.le_refl _) de_13 (pc' := 16) rfl all0 ?_
  rintro v T h X K rfl
  show own_H _ _ _ _ _ _ _ _ T (mkF m 16 #[.val (.int u), .val (.int v), .val (.int (Int32.ofNat a)), .unset] [.int (if v < (0 : Int32) then (0 : Int32) else v)])
  refine own_bipush X B de_16 (v := (64 : Int32)) rfl (pc' := 18) rfl ?_
  refine own_callS X B (W := 0) (hw _ (List.mem_of_getElem? (i := 25) rfl)) (hw _ (List.mem_of_getElem? (i := 26) rfl)) (hw _ (List.mem_of_getElem? (i := 23) rfl)) (hw _ (List.mem_of_getElem? (i := 27) rfl)) (by decide) (rm3 l Z a0 hw (if v < (0 : Int32) then (0 : Int32) else v) (64 : Int32) h n0 (own_sz X Z0)) (by decide) (by decide) (by decide) (by decide) rfl (argsL := [.int (if v < (0 : Int32) then (0 : Int32) else v), .int (64 : Int32)]) pd_6 rfl rfl (st := []) rfl (Nat.le_refl _) de_18 (pc' := 21) rfl all0 ?_
  rintro v T h X K rfl
  show own_H _ _ _ _ _ _ _ _ T (mkF m 21 #[.val (.int u), .val (.int v), .val (.int (Int32.ofNat a)), .unset] [.int (own_cl v)])
  rw [hv]
  refine own_istoreN X B de_21 (L' := #[.val (.int u), .val (.int v), .val (.int (Int32.ofNat a)), .val (.int (Int32.ofNat b))]) rfl (pc' := 22) rfl ?_
  refine own_iloadN X B de_22 rfl (pc' := 23) rfl ?_
  refine own_iloadN X B de_23 rfl (pc' := 24) rfl ?_
  by_cases hc : a < b
  · -- hc
    refine own_icmpT X B de_24 (tlt ((own_ltN (by omega) (by omega)).mpr hc)).2.2.1 (pc' := 29) (by decide) (by decide) ?_
    refine own_iloadN X B de_29 rfl (pc' := 30) rfl ?_
    refine own_callS X B (W := 0) (hw _ (List.mem_of_getElem? (i := 28) rfl)) (hw _ (List.mem_of_getElem? (i := 29) rfl)) (hw _ (List.mem_of_getElem? (i := 2) rfl)) (hw _ (List.mem_of_getElem? (i := 30) rfl)) (by decide) (rm4 l Z a0 hw b h n0 (own_sz X Z0) hb) (by decide) (by decide) (by decide) (by decide) rfl (argsL := [.int (Int32.ofNat b)]) pd_7 rfl rfl (st := []) rfl (Nat.le_refl _) de_30 (pc' := 33) rfl all0 ?_
    rintro v T h X K rfl
    show own_H _ _ _ _ _ _ _ _ T (mkF m 33 #[.val (.int u), .val (.int v), .val (.int (Int32.ofNat a)), .val (.int (Int32.ofNat b))] [.long (own_low b)])
    refine own_iloadN X B de_33 rfl (pc' := 34) rfl ?_
    refine own_callS X B (W := 2) (hw _ (List.mem_of_getElem? (i := 28) rfl)) (hw _ (List.mem_of_getElem? (i := 29) rfl)) (hw _ (List.mem_of_getElem? (i := 2) rfl)) (hw _ (List.mem_of_getElem? (i := 30) rfl)) (by decide) (rm4 l Z a0 hw a h n0 (own_sz X Z0) ha) (by decide) (by decide) (by decide) (by decide) rfl (argsL := [.int (Int32.ofNat a)]) pd_7 rfl rfl (st := [.long (own_low b)]) rfl (Nat.le_refl _) de_34 (pc' := 37) rfl all0 ?_
    rintro v T h X K rfl
    show own_H _ _ _ _ _ _ _ _ T (mkF m 37 #[.val (.int u), .val (.int v), .val (.int (Int32.ofNat a)), .val (.int (Int32.ofNat b))] [.long (own_low a), .long (own_low b)])
    refine own_litL X B (hw _ (List.mem_of_getElem? (i := 31) rfl)) de_37 (pc' := 40) rfl ?_
    refine own_lxor X B de_40 (pc' := 41) rfl ?_
    refine own_land X B de_41 (pc' := 42) rfl ?_
    exact own_lret X B de_42 (by decide) (by decide) (by unfold own_mk; rw [if_pos hc])
  · -- not hc
    refine own_icmpF X B de_24 (flt (mt (own_ltN (by omega) (by omega)).mp hc)).2.2.1 (pc' := 27) rfl ?_
    refine own_lconst X B de_27 (v := (0 : Int64)) rfl (pc' := 28) rfl ?_
    exact own_lret X B de_28 (by decide) (by decide) (by unfold own_mk; rw [if_neg hc])
theorem df_0 : decode method_4_code 0 = .ok (.aload_n 0, 1) := by decide +kernel
theorem df_1 : decode method_4_code 1 = .ok (.iload_n 2, 1) := by decide +kernel
theorem df_2 : decode method_4_code 2 = .ok (.laload, 1) := by decide +kernel
theorem df_3 : decode method_4_code 3 = .ok (.lload 5, 2) := by decide +kernel
theorem df_5 : decode method_4_code 5 = .ok (.lload 7, 2) := by decide +kernel
theorem df_7 : decode method_4_code 7 = .ok (.iload_n 2, 1) := by decide +kernel
theorem df_8 : decode method_4_code 8 = .ok (.i2l, 1) := by decide +kernel
theorem df_9 : decode method_4_code 9 = .ok (.lmul, 1) := by decide +kernel
theorem df_10 : decode method_4_code 10 = .ok (.ladd, 1) := by decide +kernel
theorem df_11 : decode method_4_code 11 = .ok (.lcmp, 1) := by decide +kernel
theorem df_12 : decode method_4_code 12 = .ok (.ifCond .eq 5, 3) := by decide +kernel
theorem df_15 : decode method_4_code 15 = .ok (.iconst 0, 1) := by decide +kernel
theorem df_16 : decode method_4_code 16 = .ok (.ireturn, 1) := by decide +kernel
theorem df_17 : decode method_4_code 17 = .ok (.lload 9, 2) := by decide +kernel
theorem df_19 : decode method_4_code 19 = .ok (.lload 11, 2) := by decide +kernel
theorem df_21 : decode method_4_code 21 = .ok (.iload_n 2, 1) := by decide +kernel
theorem df_22 : decode method_4_code 22 = .ok (.i2l, 1) := by decide +kernel
theorem df_23 : decode method_4_code 23 = .ok (.lmul, 1) := by decide +kernel
theorem df_24 : decode method_4_code 24 = .ok (.ladd, 1) := by decide +kernel
theorem df_25 : decode method_4_code 25 = .ok (.lstore 15, 2) := by decide +kernel
theorem df_27 : decode method_4_code 27 = .ok (.iload_n 2, 1) := by decide +kernel
theorem df_28 : decode method_4_code 28 = .ok (.iload 4, 2) := by decide +kernel
theorem df_30 : decode method_4_code 30 = .ok (.isub, 1) := by decide +kernel
theorem df_31 : decode method_4_code 31 = .ok (.istore 17, 2) := by decide +kernel
theorem df_33 : decode method_4_code 33 = .ok (.iload 17, 2) := by decide +kernel
theorem df_35 : decode method_4_code 35 = .ok (.ifCond .lt 45, 3) := by decide +kernel
theorem df_38 : decode method_4_code 38 = .ok (.iload 17, 2) := by decide +kernel
theorem df_40 : decode method_4_code 40 = .ok (.iconst 4, 1) := by decide +kernel
theorem df_41 : decode method_4_code 41 = .ok (.if_icmp .ge 39, 3) := by decide +kernel
theorem df_44 : decode method_4_code 44 = .ok (.lload 15, 2) := by decide +kernel
theorem df_46 : decode method_4_code 46 = .ok (.lload 5, 2) := by decide +kernel
theorem df_48 : decode method_4_code 48 = .ok (.lload 7, 2) := by decide +kernel
theorem df_50 : decode method_4_code 50 = .ok (.iload_n 3, 1) := by decide +kernel
theorem df_51 : decode method_4_code 51 = .ok (.iload 17, 2) := by decide +kernel
theorem df_53 : decode method_4_code 53 = .ok (.iadd, 1) := by decide +kernel
theorem df_54 : decode method_4_code 54 = .ok (.i2l, 1) := by decide +kernel
theorem df_55 : decode method_4_code 55 = .ok (.lmul, 1) := by decide +kernel
theorem df_56 : decode method_4_code 56 = .ok (.ladd, 1) := by decide +kernel
theorem df_57 : decode method_4_code 57 = .ok (.iload 13, 2) := by decide +kernel
theorem df_59 : decode method_4_code 59 = .ok (.bipush 64, 2) := by decide +kernel
theorem df_61 : decode method_4_code 61 = .ok (.iload 17, 2) := by decide +kernel
theorem df_63 : decode method_4_code 63 = .ok (.imul, 1) := by decide +kernel
theorem df_64 : decode method_4_code 64 = .ok (.isub, 1) := by decide +kernel
theorem df_65 : decode method_4_code 65 = .ok (.iload 14, 2) := by decide +kernel
theorem df_67 : decode method_4_code 67 = .ok (.bipush 64, 2) := by decide +kernel
theorem df_69 : decode method_4_code 69 = .ok (.iload 17, 2) := by decide +kernel
theorem df_71 : decode method_4_code 71 = .ok (.imul, 1) := by decide +kernel
theorem df_72 : decode method_4_code 72 = .ok (.isub, 1) := by decide +kernel
theorem df_73 : decode method_4_code 73 = .ok (.invokestatic 35, 3) := by decide +kernel
theorem df_76 : decode method_4_code 76 = .ok (.land, 1) := by decide +kernel
theorem df_77 : decode method_4_code 77 = .ok (.lor, 1) := by decide +kernel
theorem df_78 : decode method_4_code 78 = .ok (.lstore 15, 2) := by decide +kernel
theorem df_80 : decode method_4_code 80 = .ok (.aload_n 1, 1) := by decide +kernel
theorem df_81 : decode method_4_code 81 = .ok (.iload_n 2, 1) := by decide +kernel
theorem df_82 : decode method_4_code 82 = .ok (.laload, 1) := by decide +kernel
theorem df_83 : decode method_4_code 83 = .ok (.lload 15, 2) := by decide +kernel
theorem df_85 : decode method_4_code 85 = .ok (.lcmp, 1) := by decide +kernel
theorem df_86 : decode method_4_code 86 = .ok (.ifCond .ne 7, 3) := by decide +kernel
theorem df_89 : decode method_4_code 89 = .ok (.iconst 1, 1) := by decide +kernel
theorem df_90 : decode method_4_code 90 = .ok (.goto 4, 3) := by decide +kernel
theorem df_93 : decode method_4_code 93 = .ok (.iconst 0, 1) := by decide +kernel
theorem df_94 : decode method_4_code 94 = .ok (.ireturn, 1) := by decide +kernel
set_option maxRecDepth 65536 in
set_option maxHeartbeats 40000000 in
theorem rm6 (l : Launch) (Z : State) (a0 : Array Value) (hw : ∀ d ∈ tables_1, d.before a0 Z = true) (so : Addr) (tg : Addr) (i : Nat) (fr : Nat) (to : Nat) (k1 : Int64) (k2 : Int64) (k3 : Int64) (k4 : Int64) (lo : Nat) (hi : Nat) (h0 : Heap) (n0 : Nat) (Z0 : n0 ≤ h0.size) (A_so : own_AJ Z h0 so 8 (own_lin k1 k2)) (A_tg : own_AJ Z h0 tg 8 (own_orr (own_lin k1 k2) (own_lin k3 k4) fr to lo hi)) (hi8 : i < 8) (hfr : fr < 4) (hto : to < 4) (hlo : lo ≤ 256) (hhi : hi ≤ 256) :
    own_C l Z (⟨"com/example/ostrakon/ostrakon/text/BitVectorsOrCopyPinLaw", "ok", "([J[JIIIJJJJII)Z"⟩ : MethodName) method_4_code 18 (some .boolean) [] ({ frames := 2, cells := 0, slots := 0, locals := 33 } : Room) #[.ref so, .ref tg, .int (Int32.ofNat i), .int (Int32.ofNat fr), .int (Int32.ofNat to), .long k1, .long k2, .long k3, .long k4, .int (Int32.ofNat lo), .int (Int32.ofNat hi)] h0 n0 [] (fun r h => r = some (.int 1)) 0 0 := by
  refine own_enter (L0 := #[.val (.ref so), .val (.ref tg), .val (.int (Int32.ofNat i)), .val (.int (Int32.ofNat fr)), .val (.int (Int32.ofNat to)), .val (.long k1), .second, .val (.long k2), .second, .val (.long k3), .second, .val (.long k4), .second, .val (.int (Int32.ofNat lo)), .val (.int (Int32.ofNat hi)), .unset, .unset, .unset]) (plainFor_of_name (by first | (simp [plainName, overriddenIn]; done) | decide +kernel)) (fun m => by first | (simp [entryFrame, mkF, argsToLocals, Value.category]; done) | rfl) ?_
  intro p e s m below meth c T B X
  refine own_aloadN X B df_0 rfl rfl (pc' := 1) rfl ?_
  refine own_iloadN X B df_1 rfl (pc' := 2) rfl ?_
  refine own_laload X B A_so (i := i) (own_nat (by omega)) hi8 df_2 (pc' := 3) rfl ?_
  show own_H _ _ _ _ _ _ _ _ T (mkF m 3 #[.val (.ref so), .val (.ref tg), .val (.int (Int32.ofNat i)), .val (.int (Int32.ofNat fr)), .val (.int (Int32.ofNat to)), .val (.long k1), .second, .val (.long k2), .second, .val (.long k3), .second, .val (.long k4), .second, .val (.int (Int32.ofNat lo)), .val (.int (Int32.ofNat hi)), .unset, .unset, .unset] [.long (own_lin k1 k2 i)])
  refine own_lload X B df_3 rfl (pc' := 5) rfl ?_
  refine own_lload X B df_5 rfl (pc' := 7) rfl ?_
  refine own_iloadN X B df_7 rfl (pc' := 8) rfl ?_
  refine own_i2l X B df_8 (pc' := 9) rfl ?_
  refine own_lmul X B df_9 (pc' := 10) rfl ?_
  refine own_ladd X B df_10 (pc' := 11) rfl ?_
  refine own_lcmp X B df_11 (pc' := 12) rfl ?_
  refine own_ifT X B df_12 (teq ((lw_eq _ _).mpr rfl)).1 (pc' := 17) (by decide) (by decide) ?_
  refine own_lload X B df_17 rfl (pc' := 19) rfl ?_
  refine own_lload X B df_19 rfl (pc' := 21) rfl ?_
  refine own_iloadN X B df_21 rfl (pc' := 22) rfl ?_
  refine own_i2l X B df_22 (pc' := 23) rfl ?_
  refine own_lmul X B df_23 (pc' := 24) rfl ?_
  refine own_ladd X B df_24 (pc' := 25) rfl ?_
  refine own_lstore X B df_25 (L' := #[.val (.ref so), .val (.ref tg), .val (.int (Int32.ofNat i)), .val (.int (Int32.ofNat fr)), .val (.int (Int32.ofNat to)), .val (.long k1), .second, .val (.long k2), .second, .val (.long k3), .second, .val (.long k4), .second, .val (.int (Int32.ofNat lo)), .val (.int (Int32.ofNat hi)), .val (.long (k3 + (k4 * ((Int32.ofNat i)).toInt64))), .second, .unset]) rfl (pc' := 27) rfl ?_
  refine own_iloadN X B df_27 rfl (pc' := 28) rfl ?_
  refine own_iload X B df_28 rfl (pc' := 30) rfl ?_
  refine own_isub X B df_30 (pc' := 31) rfl ?_
  refine own_istore X B df_31 (L' := #[.val (.ref so), .val (.ref tg), .val (.int (Int32.ofNat i)), .val (.int (Int32.ofNat fr)), .val (.int (Int32.ofNat to)), .val (.long k1), .second, .val (.long k2), .second, .val (.long k3), .second, .val (.long k4), .second, .val (.int (Int32.ofNat lo)), .val (.int (Int32.ofNat hi)), .val (.long (k3 + (k4 * ((Int32.ofNat i)).toInt64))), .second, .val (.int ((Int32.ofNat i) - (Int32.ofNat to)))]) rfl (pc' := 33) rfl ?_
  refine own_iload X B df_33 rfl (pc' := 35) rfl ?_
  have J80 : ∀ (T : State) (h : Heap) (x : Int64) (w' : Int32), own_St p l e ({ frames := 2, cells := 0, slots := 0, locals := 33 } : Room) s m #[.ref so, .ref tg, .int (Int32.ofNat i), .int (Int32.ofNat fr), .int (Int32.ofNat to), .long k1, .long k2, .long k3, .long k4, .int (Int32.ofNat lo), .int (Int32.ofNat hi)] below meth c n0 h0 [] T h 0 0 → own_AJ Z h so 8 (own_lin k1 k2) → own_AJ Z h tg 8 (own_orr (own_lin k1 k2) (own_lin k3 k4) fr to lo hi) → (own_orr (own_lin k1 k2) (own_lin k3 k4) fr to lo hi i = x) → own_G p e below s n0 h0 [] (fun r h => r = some (.int 1)) 0 0 T (mkF m 80 #[.val (.ref so), .val (.ref tg), .val (.int (Int32.ofNat i)), .val (.int (Int32.ofNat fr)), .val (.int (Int32.ofNat to)), .val (.long k1), .second, .val (.long k2), .second, .val (.long k3), .second, .val (.long k4), .second, .val (.int (Int32.ofNat lo)), .val (.int (Int32.ofNat hi)), .val (.long x), .second, .val (.int w')] []) := by
    intro T h x w' X A_so A_tg hx
    refine own_aloadN X B df_80 rfl rfl (pc' := 81) rfl ?_
    refine own_iloadN X B df_81 rfl (pc' := 82) rfl ?_
    refine own_laload X B A_tg (i := i) (own_nat (by omega)) hi8 df_82 (pc' := 83) rfl ?_
    show own_H _ _ _ _ _ _ _ _ T (mkF m 83 #[.val (.ref so), .val (.ref tg), .val (.int (Int32.ofNat i)), .val (.int (Int32.ofNat fr)), .val (.int (Int32.ofNat to)), .val (.long k1), .second, .val (.long k2), .second, .val (.long k3), .second, .val (.long k4), .second, .val (.int (Int32.ofNat lo)), .val (.int (Int32.ofNat hi)), .val (.long x), .second, .val (.int w')] [.long (own_orr (own_lin k1 k2) (own_lin k3 k4) fr to lo hi i)])
    refine own_lload X B df_83 rfl (pc' := 85) rfl ?_
    refine own_lcmp X B df_85 (pc' := 86) rfl ?_
    refine own_ifF X B df_86 (teq ((lw_eq _ _).mpr hx)).2 (pc' := 89) rfl ?_
    refine own_iconst X B df_89 (v := (1 : Int32)) rfl (pc' := 90) rfl ?_
    refine own_goto X B df_90 (pc' := 94) (by decide) (by decide) ?_
    exact own_zret X B df_94 (by decide) (by decide) rfl rfl
  by_cases hc : i < to
  · -- hc
    refine own_ifT X B df_35 (tlt (own_sub_neg (by omega) hc)).1 (pc' := 80) (by decide) (by decide) ?_
    exact J80 _ _ _ _ X A_so A_tg (own_orr_out (own_lin k1 k2) (own_lin k3 k4) fr lo hi (by omega))
  · -- not hc
    refine own_ifF X B df_35 (flt (by rw [own_sub (by omega) (by omega)]; exact own_nn (by omega))).1 (pc' := 38) rfl ?_
    have ht : to ≤ i := by omega
    rw [own_sub (by omega) ht]
    refine own_iload X B df_38 rfl (pc' := 40) rfl ?_
    refine own_iconst X B df_40 (v := (4 : Int32)) rfl (pc' := 41) rfl ?_
    by_cases h4 : i - to < 4
    · -- h4
      refine own_icmpF X B df_41 (tlt ((own_ltN (n := 4) (by omega) (by decide)).mpr h4)).2.1 (pc' := 44) rfl ?_
      refine own_lload X B df_44 rfl (pc' := 46) rfl ?_
      refine own_lload X B df_46 rfl (pc' := 48) rfl ?_
      refine own_lload X B df_48 rfl (pc' := 50) rfl ?_
      refine own_iloadN X B df_50 rfl (pc' := 51) rfl ?_
      refine own_iload X B df_51 rfl (pc' := 53) rfl ?_
      refine own_iadd X B df_53 (pc' := 54) rfl ?_
      rw [own_add]
      refine own_i2l X B df_54 (pc' := 55) rfl ?_
      refine own_lmul X B df_55 (pc' := 56) rfl ?_
      refine own_ladd X B df_56 (pc' := 57) rfl ?_
      refine own_iload X B df_57 rfl (pc' := 59) rfl ?_
      refine own_bipush X B df_59 (v := (64 : Int32)) rfl (pc' := 61) rfl ?_
      refine own_iload X B df_61 rfl (pc' := 63) rfl ?_
      refine own_imul X B df_63 (pc' := 64) rfl ?_
      refine own_isub X B df_64 (pc' := 65) rfl ?_
      refine own_iload X B df_65 rfl (pc' := 67) rfl ?_
      refine own_bipush X B df_67 (v := (64 : Int32)) rfl (pc' := 69) rfl ?_
      refine own_iload X B df_69 rfl (pc' := 71) rfl ?_
      refine own_imul X B df_71 (pc' := 72) rfl ?_
      refine own_isub X B df_72 (pc' := 73) rfl ?_
      refine own_callS X B (W := 4) (hw _ (List.mem_of_getElem? (i := 18) rfl)) (hw _ (List.mem_of_getElem? (i := 19) rfl)) (hw _ (List.mem_of_getElem? (i := 2) rfl)) (hw _ (List.mem_of_getElem? (i := 20) rfl)) (by decide) (rm5 l Z a0 hw ((Int32.ofNat lo) - ((64 : Int32) * (Int32.ofNat (i - to)))) ((Int32.ofNat hi) - ((64 : Int32) * (Int32.ofNat (i - to)))) (min (lo - 64 * (i - to)) 64) (min (hi - 64 * (i - to)) 64) h0 n0 (own_sz X Z0) (own_cl_nat lo (i - to) (by omega) (by omega)) (own_cl_nat hi (i - to) (by omega) (by omega)) (Nat.min_le_right _ _) (Nat.min_le_right _ _)) (by decide) (by decide) (by decide) (by decide) rfl (argsL := [.int ((Int32.ofNat lo) - ((64 : Int32) * (Int32.ofNat (i - to)))), .int ((Int32.ofNat hi) - ((64 : Int32) * (Int32.ofNat (i - to))))]) pd_4 rfl rfl (st := [.long (k1 + (k2 * ((Int32.ofNat (fr + (i - to)))).toInt64)), .long (k3 + (k4 * ((Int32.ofNat i)).toInt64))]) rfl (Nat.le_refl _) df_73 (pc' := 76) rfl all0 ?_
      rintro v T h X K rfl
      replace A_so := A_so.keep K nin0
      replace A_tg := A_tg.keep K nin0
      show own_H _ _ _ _ _ _ _ _ T (mkF m 76 #[.val (.ref so), .val (.ref tg), .val (.int (Int32.ofNat i)), .val (.int (Int32.ofNat fr)), .val (.int (Int32.ofNat to)), .val (.long k1), .second, .val (.long k2), .second, .val (.long k3), .second, .val (.long k4), .second, .val (.int (Int32.ofNat lo)), .val (.int (Int32.ofNat hi)), .val (.long (k3 + (k4 * ((Int32.ofNat i)).toInt64))), .second, .val (.int (Int32.ofNat (i - to)))] [.long (own_mk (min (lo - 64 * (i - to)) 64) (min (hi - 64 * (i - to)) 64)), .long (k1 + (k2 * ((Int32.ofNat (fr + (i - to)))).toInt64)), .long (k3 + (k4 * ((Int32.ofNat i)).toInt64))])
      refine own_land X B df_76 (pc' := 77) rfl ?_
      refine own_lor X B df_77 (pc' := 78) rfl ?_
      refine own_lstore X B df_78 (L' := #[.val (.ref so), .val (.ref tg), .val (.int (Int32.ofNat i)), .val (.int (Int32.ofNat fr)), .val (.int (Int32.ofNat to)), .val (.long k1), .second, .val (.long k2), .second, .val (.long k3), .second, .val (.long k4), .second, .val (.int (Int32.ofNat lo)), .val (.int (Int32.ofNat hi)), .val (.long ((k3 + (k4 * ((Int32.ofNat i)).toInt64)) ||| ((k1 + (k2 * ((Int32.ofNat (fr + (i - to)))).toInt64)) &&& (own_mk (min (lo - 64 * (i - to)) 64) (min (hi - 64 * (i - to)) 64))))), .second, .val (.int (Int32.ofNat (i - to)))]) rfl (pc' := 80) rfl ?_
      exact J80 _ _ _ _ X A_so A_tg (own_orr_in (own_lin k1 k2) (own_lin k3 k4) fr lo hi ht (by omega))
    · -- not h4
      refine own_icmpT X B df_41 (flt (mt (own_ltN (n := 4) (by omega) (by decide)).mp h4)).2.1 (pc' := 80) (by decide) (by decide) ?_
      exact J80 _ _ _ _ X A_so A_tg (own_orr_out (own_lin k1 k2) (own_lin k3 k4) fr lo hi (by omega))
theorem dg_0 : decode prog_237_method_4_code 0 = .ok (.iload 5, 2) := by decide +kernel
theorem dg_2 : decode prog_237_method_4_code 2 = .ok (.bipush 64, 2) := by decide +kernel
theorem dg_4 : decode prog_237_method_4_code 4 = .ok (.if_icmp .lt 56, 3) := by decide +kernel
theorem dg_7 : decode prog_237_method_4_code 7 = .ok (.iload 5, 2) := by decide +kernel
theorem dg_9 : decode prog_237_method_4_code 9 = .ok (.bipush 6, 2) := by decide +kernel
theorem dg_11 : decode prog_237_method_4_code 11 = .ok (.iushr, 1) := by decide +kernel
theorem dg_12 : decode prog_237_method_4_code 12 = .ok (.istore 6, 2) := by decide +kernel
theorem dg_14 : decode prog_237_method_4_code 14 = .ok (.iconst 0, 1) := by decide +kernel
theorem dg_15 : decode prog_237_method_4_code 15 = .ok (.istore 7, 2) := by decide +kernel
theorem dg_17 : decode prog_237_method_4_code 17 = .ok (.iload 7, 2) := by decide +kernel
theorem dg_19 : decode prog_237_method_4_code 19 = .ok (.iload 6, 2) := by decide +kernel
theorem dg_21 : decode prog_237_method_4_code 21 = .ok (.if_icmp .ge 36, 3) := by decide +kernel
theorem dg_24 : decode prog_237_method_4_code 24 = .ok (.aload_n 2, 1) := by decide +kernel
theorem dg_25 : decode prog_237_method_4_code 25 = .ok (.iload_n 3, 1) := by decide +kernel
theorem dg_26 : decode prog_237_method_4_code 26 = .ok (.iload 4, 2) := by decide +kernel
theorem dg_28 : decode prog_237_method_4_code 28 = .ok (.iload 6, 2) := by decide +kernel
theorem dg_30 : decode prog_237_method_4_code 30 = .ok (.imul, 1) := by decide +kernel
theorem dg_31 : decode prog_237_method_4_code 31 = .ok (.iadd, 1) := by decide +kernel
theorem dg_32 : decode prog_237_method_4_code 32 = .ok (.iload 7, 2) := by decide +kernel
theorem dg_34 : decode prog_237_method_4_code 34 = .ok (.iadd, 1) := by decide +kernel
theorem dg_35 : decode prog_237_method_4_code 35 = .ok (.dup2, 1) := by decide +kernel
theorem dg_36 : decode prog_237_method_4_code 36 = .ok (.laload, 1) := by decide +kernel
theorem dg_37 : decode prog_237_method_4_code 37 = .ok (.aload_n 0, 1) := by decide +kernel
theorem dg_38 : decode prog_237_method_4_code 38 = .ok (.iload_n 1, 1) := by decide +kernel
theorem dg_39 : decode prog_237_method_4_code 39 = .ok (.iload 4, 2) := by decide +kernel
theorem dg_41 : decode prog_237_method_4_code 41 = .ok (.iload 6, 2) := by decide +kernel
theorem dg_43 : decode prog_237_method_4_code 43 = .ok (.imul, 1) := by decide +kernel
theorem dg_44 : decode prog_237_method_4_code 44 = .ok (.iadd, 1) := by decide +kernel
theorem dg_45 : decode prog_237_method_4_code 45 = .ok (.iload 7, 2) := by decide +kernel
theorem dg_47 : decode prog_237_method_4_code 47 = .ok (.iadd, 1) := by decide +kernel
theorem dg_48 : decode prog_237_method_4_code 48 = .ok (.laload, 1) := by decide +kernel
theorem dg_49 : decode prog_237_method_4_code 49 = .ok (.lor, 1) := by decide +kernel
theorem dg_50 : decode prog_237_method_4_code 50 = .ok (.lastore, 1) := by decide +kernel
theorem dg_51 : decode prog_237_method_4_code 51 = .ok (.iinc 7 1, 3) := by decide +kernel
theorem dg_54 : decode prog_237_method_4_code 54 = .ok (.goto (-37), 3) := by decide +kernel
theorem dg_57 : decode prog_237_method_4_code 57 = .ok (.goto 48, 3) := by decide +kernel
theorem dg_60 : decode prog_237_method_4_code 60 = .ok (.iload 4, 2) := by decide +kernel
theorem dg_62 : decode prog_237_method_4_code 62 = .ok (.iload 5, 2) := by decide +kernel
theorem dg_64 : decode prog_237_method_4_code 64 = .ok (.imul, 1) := by decide +kernel
theorem dg_65 : decode prog_237_method_4_code 65 = .ok (.istore 6, 2) := by decide +kernel
theorem dg_67 : decode prog_237_method_4_code 67 = .ok (.lconst 1, 1) := by decide +kernel
theorem dg_68 : decode prog_237_method_4_code 68 = .ok (.iload 5, 2) := by decide +kernel
theorem dg_70 : decode prog_237_method_4_code 70 = .ok (.lshl, 1) := by decide +kernel
theorem dg_71 : decode prog_237_method_4_code 71 = .ok (.lconst 1, 1) := by decide +kernel
theorem dg_72 : decode prog_237_method_4_code 72 = .ok (.lsub, 1) := by decide +kernel
theorem dg_73 : decode prog_237_method_4_code 73 = .ok (.iload 6, 2) := by decide +kernel
theorem dg_75 : decode prog_237_method_4_code 75 = .ok (.bipush 63, 2) := by decide +kernel
theorem dg_77 : decode prog_237_method_4_code 77 = .ok (.iand, 1) := by decide +kernel
theorem dg_78 : decode prog_237_method_4_code 78 = .ok (.lshl, 1) := by decide +kernel
theorem dg_79 : decode prog_237_method_4_code 79 = .ok (.lstore 7, 2) := by decide +kernel
theorem dg_81 : decode prog_237_method_4_code 81 = .ok (.aload_n 2, 1) := by decide +kernel
theorem dg_82 : decode prog_237_method_4_code 82 = .ok (.iload_n 3, 1) := by decide +kernel
theorem dg_83 : decode prog_237_method_4_code 83 = .ok (.iload 6, 2) := by decide +kernel
theorem dg_85 : decode prog_237_method_4_code 85 = .ok (.bipush 6, 2) := by decide +kernel
theorem dg_87 : decode prog_237_method_4_code 87 = .ok (.iushr, 1) := by decide +kernel
theorem dg_88 : decode prog_237_method_4_code 88 = .ok (.iadd, 1) := by decide +kernel
theorem dg_89 : decode prog_237_method_4_code 89 = .ok (.dup2, 1) := by decide +kernel
theorem dg_90 : decode prog_237_method_4_code 90 = .ok (.laload, 1) := by decide +kernel
theorem dg_91 : decode prog_237_method_4_code 91 = .ok (.aload_n 0, 1) := by decide +kernel
theorem dg_92 : decode prog_237_method_4_code 92 = .ok (.iload_n 1, 1) := by decide +kernel
theorem dg_93 : decode prog_237_method_4_code 93 = .ok (.iload 6, 2) := by decide +kernel
theorem dg_95 : decode prog_237_method_4_code 95 = .ok (.bipush 6, 2) := by decide +kernel
theorem dg_97 : decode prog_237_method_4_code 97 = .ok (.iushr, 1) := by decide +kernel
theorem dg_98 : decode prog_237_method_4_code 98 = .ok (.iadd, 1) := by decide +kernel
theorem dg_99 : decode prog_237_method_4_code 99 = .ok (.laload, 1) := by decide +kernel
theorem dg_100 : decode prog_237_method_4_code 100 = .ok (.lload 7, 2) := by decide +kernel
theorem dg_102 : decode prog_237_method_4_code 102 = .ok (.land, 1) := by decide +kernel
theorem dg_103 : decode prog_237_method_4_code 103 = .ok (.lor, 1) := by decide +kernel
theorem dg_104 : decode prog_237_method_4_code 104 = .ok (.lastore, 1) := by decide +kernel
theorem dg_105 : decode prog_237_method_4_code 105 = .ok (.return_, 1) := by decide +kernel
set_option maxRecDepth 65536 in
set_option maxHeartbeats 40000000 in
theorem rm7 (l : Launch) (Z : State) (a0 : Array Value) (hw : ∀ d ∈ tables_1, d.before a0 Z = true) (so : Addr) (tg : Addr) (fr : Nat) (to : Nat) (cp : Nat) (e' : Nat) (f : Nat → Int64) (g : Nat → Int64) (h0 : Heap) (n0 : Nat) (Z0 : n0 ≤ h0.size) (g_tg : n0 ≤ tg) (n_so_tg : so ≠ tg) (A_so : own_AJ Z h0 so 8 f) (A_tg : own_AJ Z h0 tg 8 g) (hfr : fr < 4) (hto : to < 4) (he : e' < 8) (hcp : (cp + 1) * 2 ^ e' ≤ 256) :
    own_C l Z (⟨"com/example/ostrakon/ostrakon/text/BitVectors", "orCopy", "([JI[JIII)V"⟩ : MethodName) prog_237_method_4_code 9 none [] ({ frames := 0, cells := 0, slots := 0, locals := 0 } : Room) #[.ref so, .int (Int32.ofNat fr), .ref tg, .int (Int32.ofNat to), .int (Int32.ofNat cp), .int (Int32.ofNat (2 ^ e'))] h0 n0 [tg] (fun v h => v = none ∧ own_AJ Z h tg 8 (own_orr f g fr to (cp * 2 ^ e') (cp * 2 ^ e' + 2 ^ e'))) 0 0 := by
  refine own_enter (L0 := #[.val (.ref so), .val (.int (Int32.ofNat fr)), .val (.ref tg), .val (.int (Int32.ofNat to)), .val (.int (Int32.ofNat cp)), .val (.int (Int32.ofNat (2 ^ e'))), .unset, .unset, .unset]) (plainFor_of_name (by first | (simp [plainName, overriddenIn]; done) | decide +kernel)) (fun m => by first | (simp [entryFrame, mkF, argsToLocals, Value.category]; done) | rfl) ?_
  intro p e s m below meth c T B X
  by_cases h6 : e' < 6
  · -- within a word
    have hpos : 0 < 2 ^ e' := Nat.pow_pos (by decide)
    have h64 : 2 ^ e' < 64 := Nat.pow_lt_pow_right (a := 2) (n := 6) (by decide) h6
    have hbit : cp * 2 ^ e' < 256 := by rw [Nat.add_mul, Nat.one_mul] at hcp; omega
    refine own_iload X B dg_0 rfl (pc' := 2) rfl ?_
    refine own_bipush X B dg_2 (v := (64 : Int32)) rfl (pc' := 4) rfl ?_
    refine own_icmpT X B dg_4 (tlt ((own_ltN (n := 64) (by omega) (by decide)).mpr h64)).1 (pc' := 60) (by decide) (by decide) ?_
    refine own_iload X B dg_60 rfl (pc' := 62) rfl ?_
    refine own_iload X B dg_62 rfl (pc' := 64) rfl ?_
    refine own_imul X B dg_64 (pc' := 65) rfl ?_
    rw [own_mul]
    refine own_istore X B dg_65 (L' := #[.val (.ref so), .val (.int (Int32.ofNat fr)), .val (.ref tg), .val (.int (Int32.ofNat to)), .val (.int (Int32.ofNat cp)), .val (.int (Int32.ofNat (2 ^ e'))), .val (.int (Int32.ofNat (cp * 2 ^ e'))), .unset, .unset]) rfl (pc' := 67) rfl ?_
    refine own_lconst X B dg_67 (v := (1 : Int64)) rfl (pc' := 68) rfl ?_
    refine own_iload X B dg_68 rfl (pc' := 70) rfl ?_
    refine own_lshl X B dg_70 (pc' := 71) rfl ?_
    refine own_lconst X B dg_71 (v := (1 : Int64)) rfl (pc' := 72) rfl ?_
    refine own_lsub X B dg_72 (pc' := 73) rfl ?_
    refine own_iload X B dg_73 rfl (pc' := 75) rfl ?_
    refine own_bipush X B dg_75 (v := (63 : Int32)) rfl (pc' := 77) rfl ?_
    refine own_iand X B dg_77 (pc' := 78) rfl ?_
    refine own_lshl X B dg_78 (pc' := 79) rfl ?_
    refine own_lstore X B dg_79 (L' := #[.val (.ref so), .val (.int (Int32.ofNat fr)), .val (.ref tg), .val (.int (Int32.ofNat to)), .val (.int (Int32.ofNat cp)), .val (.int (Int32.ofNat (2 ^ e'))), .val (.int (Int32.ofNat (cp * 2 ^ e'))), .val (.long ((((1 : Int64) <<< ((Int32.ofNat (2 ^ e')) &&& 0x3f).toInt64) - (1 : Int64)) <<< (((Int32.ofNat (cp * 2 ^ e')) &&& (63 : Int32)) &&& 0x3f).toInt64)), .second]) rfl (pc' := 81) rfl ?_
    refine own_aloadN X B dg_81 rfl rfl (pc' := 82) rfl ?_
    refine own_iloadN X B dg_82 rfl (pc' := 83) rfl ?_
    refine own_iload X B dg_83 rfl (pc' := 85) rfl ?_
    refine own_bipush X B dg_85 (v := (6 : Int32)) rfl (pc' := 87) rfl ?_
    refine own_iushr X B dg_87 (pc' := 88) rfl ?_
    rw [own_ushr6 _ (by omega)]
    refine own_iadd X B dg_88 (pc' := 89) rfl ?_
    rw [own_add]
    refine own_dup2 X B dg_89 rfl rfl (pc' := 90) rfl ?_
    refine own_laload X B A_tg (i := (to + cp * 2 ^ e' / 64)) (own_nat (by omega)) (by omega) dg_90 (pc' := 91) rfl ?_
    refine own_aloadN X B dg_91 rfl rfl (pc' := 92) rfl ?_
    refine own_iloadN X B dg_92 rfl (pc' := 93) rfl ?_
    refine own_iload X B dg_93 rfl (pc' := 95) rfl ?_
    refine own_bipush X B dg_95 (v := (6 : Int32)) rfl (pc' := 97) rfl ?_
    refine own_iushr X B dg_97 (pc' := 98) rfl ?_
    rw [own_ushr6 _ (by omega)]
    refine own_iadd X B dg_98 (pc' := 99) rfl ?_
    rw [own_add]
    refine own_laload X B A_so (i := (fr + cp * 2 ^ e' / 64)) (own_nat (by omega)) (by omega) dg_99 (pc' := 100) rfl ?_
    refine own_lload X B dg_100 rfl (pc' := 102) rfl ?_
    refine own_land X B dg_102 (pc' := 103) rfl ?_
    refine own_lor X B dg_103 (pc' := 104) rfl ?_
    refine own_lastore X B A_tg (i := (to + cp * 2 ^ e' / 64)) (own_nat (by omega)) (by omega) g_tg (Or.inl (List.mem_of_getElem? (i := 0) rfl)) dg_104 (pc' := 105) rfl fun T h X K A_tg => ?_
    replace A_so := A_so.keep K (ninS n_so_tg nin0)
    replace A_tg := A_tg.congr (g := (own_orr f g fr to (cp * 2 ^ e') (cp * 2 ^ e' + 2 ^ e'))) (fun j hj => own_orr5 f g fr to h6 hcp hbit j)
    exact own_vret X B dg_105 (by decide) (by decide) ⟨rfl, A_tg⟩
  · -- whole words
    obtain rfl | rfl : e' = 6 ∨ e' = 7 := by omega
    · -- 64
      have hcp4 : cp < 4 := by omega
      refine own_iload X B dg_0 rfl (pc' := 2) rfl ?_
      refine own_bipush X B dg_2 (v := (64 : Int32)) rfl (pc' := 4) rfl ?_
      refine own_icmpF X B dg_4 (flt (by decide)).1 (pc' := 7) rfl ?_
      refine own_iload X B dg_7 rfl (pc' := 9) rfl ?_
      refine own_bipush X B dg_9 (v := (6 : Int32)) rfl (pc' := 11) rfl ?_
      refine own_iushr X B dg_11 (pc' := 12) rfl ?_
      rw [show (((Int32.ofNat (2 ^ 6)).toUInt32 >>> ((6 : Int32) &&& 31).toUInt32).toInt32) = Int32.ofNat 1 from by decide]
      refine own_istore X B dg_12 (L' := #[.val (.ref so), .val (.int (Int32.ofNat fr)), .val (.ref tg), .val (.int (Int32.ofNat to)), .val (.int (Int32.ofNat cp)), .val (.int (Int32.ofNat (2 ^ 6))), .val (.int (Int32.ofNat 1)), .unset, .unset]) rfl (pc' := 14) rfl ?_
      refine own_iconst X B dg_14 (v := (0 : Int32)) rfl (pc' := 15) rfl ?_
      refine own_istore X B dg_15 (L' := #[.val (.ref so), .val (.int (Int32.ofNat fr)), .val (.ref tg), .val (.int (Int32.ofNat to)), .val (.int (Int32.ofNat cp)), .val (.int (Int32.ofNat (2 ^ 6))), .val (.int (Int32.ofNat 1)), .val (.int (0 : Int32)), .unset]) rfl (pc' := 17) rfl ?_
      refine own_iload X B dg_17 rfl (pc' := 19) rfl ?_
      refine own_iload X B dg_19 rfl (pc' := 21) rfl ?_
      refine own_icmpF X B dg_21 (tlt (by decide)).2.1 (pc' := 24) rfl ?_
      refine own_aloadN X B dg_24 rfl rfl (pc' := 25) rfl ?_
      refine own_iloadN X B dg_25 rfl (pc' := 26) rfl ?_
      refine own_iload X B dg_26 rfl (pc' := 28) rfl ?_
      refine own_iload X B dg_28 rfl (pc' := 30) rfl ?_
      refine own_imul X B dg_30 (pc' := 31) rfl ?_
      refine own_iadd X B dg_31 (pc' := 32) rfl ?_
      refine own_iload X B dg_32 rfl (pc' := 34) rfl ?_
      refine own_iadd X B dg_34 (pc' := 35) rfl ?_
      refine own_dup2 X B dg_35 rfl rfl (pc' := 36) rfl ?_
      refine own_laload X B A_tg (i := (to + cp * 1 + 0)) (own_idx to cp 1 0 (by omega)) (by omega) dg_36 (pc' := 37) rfl ?_
      refine own_aloadN X B dg_37 rfl rfl (pc' := 38) rfl ?_
      refine own_iloadN X B dg_38 rfl (pc' := 39) rfl ?_
      refine own_iload X B dg_39 rfl (pc' := 41) rfl ?_
      refine own_iload X B dg_41 rfl (pc' := 43) rfl ?_
      refine own_imul X B dg_43 (pc' := 44) rfl ?_
      refine own_iadd X B dg_44 (pc' := 45) rfl ?_
      refine own_iload X B dg_45 rfl (pc' := 47) rfl ?_
      refine own_iadd X B dg_47 (pc' := 48) rfl ?_
      refine own_laload X B A_so (i := (fr + cp * 1 + 0)) (own_idx fr cp 1 0 (by omega)) (by omega) dg_48 (pc' := 49) rfl ?_
      refine own_lor X B dg_49 (pc' := 50) rfl ?_
      refine own_lastore X B A_tg (i := (to + cp * 1 + 0)) (own_idx to cp 1 0 (by omega)) (by omega) g_tg (Or.inl (List.mem_of_getElem? (i := 0) rfl)) dg_50 (pc' := 51) rfl fun T h X K A_tg => ?_
      replace A_so := A_so.keep K (ninS n_so_tg nin0)
      replace A_tg := A_tg.congr (g := (own_orr f g fr to (cp * 2 ^ 6) (cp * 2 ^ 6 + 2 ^ 6))) (fun j hj => own_orr6 f g fr to hcp4 j)
      refine own_iinc X B dg_51 rfl (L' := #[.val (.ref so), .val (.int (Int32.ofNat fr)), .val (.ref tg), .val (.int (Int32.ofNat to)), .val (.int (Int32.ofNat cp)), .val (.int (Int32.ofNat (2 ^ 6))), .val (.int (Int32.ofNat 1)), .val (.int ((0 : Int32) + (1 : Int32))), .unset]) rfl (pc' := 54) rfl ?_
      refine own_goto X B dg_54 (pc' := 17) (by decide) (by decide) ?_
      refine own_iload X B dg_17 rfl (pc' := 19) rfl ?_
      refine own_iload X B dg_19 rfl (pc' := 21) rfl ?_
      refine own_icmpT X B dg_21 (flt (by decide)).2.1 (pc' := 57) (by decide) (by decide) ?_
      refine own_goto X B dg_57 (pc' := 105) (by decide) (by decide) ?_
      exact own_vret X B dg_105 (by decide) (by decide) ⟨rfl, A_tg⟩
    · -- 128
      have hcp4 : cp < 2 := by omega
      refine own_iload X B dg_0 rfl (pc' := 2) rfl ?_
      refine own_bipush X B dg_2 (v := (64 : Int32)) rfl (pc' := 4) rfl ?_
      refine own_icmpF X B dg_4 (flt (by decide)).1 (pc' := 7) rfl ?_
      refine own_iload X B dg_7 rfl (pc' := 9) rfl ?_
      refine own_bipush X B dg_9 (v := (6 : Int32)) rfl (pc' := 11) rfl ?_
      refine own_iushr X B dg_11 (pc' := 12) rfl ?_
      rw [show (((Int32.ofNat (2 ^ 7)).toUInt32 >>> ((6 : Int32) &&& 31).toUInt32).toInt32) = Int32.ofNat 2 from by decide]
      refine own_istore X B dg_12 (L' := #[.val (.ref so), .val (.int (Int32.ofNat fr)), .val (.ref tg), .val (.int (Int32.ofNat to)), .val (.int (Int32.ofNat cp)), .val (.int (Int32.ofNat (2 ^ 7))), .val (.int (Int32.ofNat 2)), .unset, .unset]) rfl (pc' := 14) rfl ?_
      refine own_iconst X B dg_14 (v := (0 : Int32)) rfl (pc' := 15) rfl ?_
      refine own_istore X B dg_15 (L' := #[.val (.ref so), .val (.int (Int32.ofNat fr)), .val (.ref tg), .val (.int (Int32.ofNat to)), .val (.int (Int32.ofNat cp)), .val (.int (Int32.ofNat (2 ^ 7))), .val (.int (Int32.ofNat 2)), .val (.int (0 : Int32)), .unset]) rfl (pc' := 17) rfl ?_
      refine own_iload X B dg_17 rfl (pc' := 19) rfl ?_
      refine own_iload X B dg_19 rfl (pc' := 21) rfl ?_
      refine own_icmpF X B dg_21 (tlt (by decide)).2.1 (pc' := 24) rfl ?_
      refine own_aloadN X B dg_24 rfl rfl (pc' := 25) rfl ?_
      refine own_iloadN X B dg_25 rfl (pc' := 26) rfl ?_
      refine own_iload X B dg_26 rfl (pc' := 28) rfl ?_
      refine own_iload X B dg_28 rfl (pc' := 30) rfl ?_
      refine own_imul X B dg_30 (pc' := 31) rfl ?_
      refine own_iadd X B dg_31 (pc' := 32) rfl ?_
      refine own_iload X B dg_32 rfl (pc' := 34) rfl ?_
      refine own_iadd X B dg_34 (pc' := 35) rfl ?_
      refine own_dup2 X B dg_35 rfl rfl (pc' := 36) rfl ?_
      refine own_laload X B A_tg (i := (to + cp * 2 + 0)) (own_idx to cp 2 0 (by omega)) (by omega) dg_36 (pc' := 37) rfl ?_
      refine own_aloadN X B dg_37 rfl rfl (pc' := 38) rfl ?_
      refine own_iloadN X B dg_38 rfl (pc' := 39) rfl ?_
      refine own_iload X B dg_39 rfl (pc' := 41) rfl ?_
      refine own_iload X B dg_41 rfl (pc' := 43) rfl ?_
      refine own_imul X B dg_43 (pc' := 44) rfl ?_
      refine own_iadd X B dg_44 (pc' := 45) rfl ?_
      refine own_iload X B dg_45 rfl (pc' := 47) rfl ?_
      refine own_iadd X B dg_47 (pc' := 48) rfl ?_
      refine own_laload X B A_so (i := (fr + cp * 2 + 0)) (own_idx fr cp 2 0 (by omega)) (by omega) dg_48 (pc' := 49) rfl ?_
      refine own_lor X B dg_49 (pc' := 50) rfl ?_
      refine own_lastore X B A_tg (i := (to + cp * 2 + 0)) (own_idx to cp 2 0 (by omega)) (by omega) g_tg (Or.inl (List.mem_of_getElem? (i := 0) rfl)) dg_50 (pc' := 51) rfl fun T h X K A_tg => ?_
      replace A_so := A_so.keep K (ninS n_so_tg nin0)
      refine own_iinc X B dg_51 rfl (L' := #[.val (.ref so), .val (.int (Int32.ofNat fr)), .val (.ref tg), .val (.int (Int32.ofNat to)), .val (.int (Int32.ofNat cp)), .val (.int (Int32.ofNat (2 ^ 7))), .val (.int (Int32.ofNat 2)), .val (.int ((0 : Int32) + (1 : Int32))), .unset]) rfl (pc' := 54) rfl ?_
      refine own_goto X B dg_54 (pc' := 17) (by decide) (by decide) ?_
      refine own_iload X B dg_17 rfl (pc' := 19) rfl ?_
      refine own_iload X B dg_19 rfl (pc' := 21) rfl ?_
      refine own_icmpF X B dg_21 (tlt (by decide)).2.1 (pc' := 24) rfl ?_
      refine own_aloadN X B dg_24 rfl rfl (pc' := 25) rfl ?_
      refine own_iloadN X B dg_25 rfl (pc' := 26) rfl ?_
      refine own_iload X B dg_26 rfl (pc' := 28) rfl ?_
      refine own_iload X B dg_28 rfl (pc' := 30) rfl ?_
      refine own_imul X B dg_30 (pc' := 31) rfl ?_
      refine own_iadd X B dg_31 (pc' := 32) rfl ?_
      refine own_iload X B dg_32 rfl (pc' := 34) rfl ?_
      refine own_iadd X B dg_34 (pc' := 35) rfl ?_
      refine own_dup2 X B dg_35 rfl rfl (pc' := 36) rfl ?_
      refine own_laload X B A_tg (i := (to + cp * 2 + 1)) (own_idx to cp 2 1 (by omega)) (by omega) dg_36 (pc' := 37) rfl ?_
      refine own_aloadN X B dg_37 rfl rfl (pc' := 38) rfl ?_
      refine own_iloadN X B dg_38 rfl (pc' := 39) rfl ?_
      refine own_iload X B dg_39 rfl (pc' := 41) rfl ?_
      refine own_iload X B dg_41 rfl (pc' := 43) rfl ?_
      refine own_imul X B dg_43 (pc' := 44) rfl ?_
      refine own_iadd X B dg_44 (pc' := 45) rfl ?_
      refine own_iload X B dg_45 rfl (pc' := 47) rfl ?_
      refine own_iadd X B dg_47 (pc' := 48) rfl ?_
      refine own_laload X B A_so (i := (fr + cp * 2 + 1)) (own_idx fr cp 2 1 (by omega)) (by omega) dg_48 (pc' := 49) rfl ?_
      refine own_lor X B dg_49 (pc' := 50) rfl ?_
      refine own_lastore X B A_tg (i := (to + cp * 2 + 1)) (own_idx to cp 2 1 (by omega)) (by omega) g_tg (Or.inl (List.mem_of_getElem? (i := 0) rfl)) dg_50 (pc' := 51) rfl fun T h X K A_tg => ?_
      replace A_so := A_so.keep K (ninS n_so_tg nin0)
      replace A_tg := A_tg.congr (g := (own_orr f g fr to (cp * 2 ^ 7) (cp * 2 ^ 7 + 2 ^ 7))) (fun j hj => own_orr7 f g fr to hcp4 j)
      refine own_iinc X B dg_51 rfl (L' := #[.val (.ref so), .val (.int (Int32.ofNat fr)), .val (.ref tg), .val (.int (Int32.ofNat to)), .val (.int (Int32.ofNat cp)), .val (.int (Int32.ofNat (2 ^ 7))), .val (.int (Int32.ofNat 2)), .val (.int (((0 : Int32) + (1 : Int32)) + (1 : Int32))), .unset]) rfl (pc' := 54) rfl ?_
      refine own_goto X B dg_54 (pc' := 17) (by decide) (by decide) ?_
      refine own_iload X B dg_17 rfl (pc' := 19) rfl ?_
      refine own_iload X B dg_19 rfl (pc' := 21) rfl ?_
      refine own_icmpT X B dg_21 (flt (by decide)).2.1 (pc' := 57) (by decide) (by decide) ?_
      refine own_goto X B dg_57 (pc' := 105) (by decide) (by decide) ?_
      exact own_vret X B dg_105 (by decide) (by decide) ⟨rfl, A_tg⟩
set_option maxRecDepth 65536 in
set_option maxHeartbeats 40000000 in
theorem rm0 (l : Launch) (Z : State) (a0 : Array Value) (hw : ∀ d ∈ tables_1, d.before a0 Z = true) (y : Int32) (x : Int32) (k1 : Int64) (k2 : Int64) (k3 : Int64) (k4 : Int64) (h0 : Heap) (n0 : Nat) (Z0 : n0 ≤ h0.size) (Z1 : h0.size ≤ n0) :
    own_C l Z Jvm.Pilot.@@N@@.x code maxLocals ret tables_1 room_1 #[.int y, .int x, .long k1, .long k2, .long k3, .long k4] h0 n0 [] (fun v h => v = some (.int 1)) 16 128 := by
  refine own_enter (L0 := #[.val (.int y), .val (.int x), .val (.long k1), .second, .val (.long k2), .second, .val (.long k3), .second, .val (.long k4), .second, .unset, .unset, .unset, .unset, .unset, .unset, .unset, .unset]) (plainFor_of_name (by first | (simp [plainName, overriddenIn]; done) | decide +kernel)) (fun m => by first | (simp [entryFrame, mkF, argsToLocals, Value.category, maxLocals]; done) | rfl) ?_
  intro p e s m below meth c T B X
  refine own_iconst X B at_0 (v := (1 : Int32)) rfl (pc' := 1) rfl ?_
  refine own_iloadN X B at_1 rfl (pc' := 2) rfl ?_
  refine own_bipush X B at_2 (v := (7 : Int32)) rfl (pc' := 4) rfl ?_
  refine own_iand X B at_4 (pc' := 5) rfl ?_
  obtain ⟨e', he', ee'⟩ := own_mask y (7 : Int32) 3 (by decide) (by decide)
  rw [ee']
  replace he' : e' < 8 := he'
  refine own_ishl X B at_5 (pc' := 6) rfl ?_
  rw [own_pow e' he']
  refine own_istore X B at_6 (L' := #[.val (.int y), .val (.int x), .val (.long k1), .second, .val (.long k2), .second, .val (.long k3), .second, .val (.long k4), .second, .val (.int (Int32.ofNat (2 ^ e'))), .unset, .unset, .unset, .unset, .unset, .unset, .unset]) rfl (pc' := 8) rfl ?_
  refine own_iloadN X B at_8 rfl (pc' := 9) rfl ?_
  refine own_iconst X B at_9 (v := (3 : Int32)) rfl (pc' := 10) rfl ?_
  refine own_iushr X B at_10 (pc' := 11) rfl ?_
  refine own_sipush X B at_11 (v := (256 : Int32)) rfl (pc' := 14) rfl ?_
  refine own_iload X B at_14 rfl (pc' := 16) rfl ?_
  refine own_idiv X B at_16 (own_pow_ne e' he') (pc' := 17) rfl ?_
  rw [own_div256 e' he']
  refine own_irem X B at_17 (own_div_ne e' he') (pc' := 18) rfl ?_
  obtain ⟨cp, hcp, ecp⟩ := own_modN y e' he'
  rw [ecp]
  have hcp1 : (cp + 1) * 2 ^ e' ≤ 256 := own_fits he' hcp
  refine own_istore X B at_18 (L' := #[.val (.int y), .val (.int x), .val (.long k1), .second, .val (.long k2), .second, .val (.long k3), .second, .val (.long k4), .second, .val (.int (Int32.ofNat (2 ^ e'))), .val (.int (Int32.ofNat cp)), .unset, .unset, .unset, .unset, .unset, .unset]) rfl (pc' := 20) rfl ?_
  refine own_iloadN X B at_20 rfl (pc' := 21) rfl ?_
  refine own_iconst X B at_21 (v := (3 : Int32)) rfl (pc' := 22) rfl ?_
  refine own_iand X B at_22 (pc' := 23) rfl ?_
  obtain ⟨fr, hfr, efr⟩ := own_mask x (3 : Int32) 2 (by decide) (by decide)
  rw [efr]
  replace hfr : fr < 4 := hfr
  refine own_istore X B at_23 (L' := #[.val (.int y), .val (.int x), .val (.long k1), .second, .val (.long k2), .second, .val (.long k3), .second, .val (.long k4), .second, .val (.int (Int32.ofNat (2 ^ e'))), .val (.int (Int32.ofNat cp)), .val (.int (Int32.ofNat fr)), .unset, .unset, .unset, .unset, .unset]) rfl (pc' := 25) rfl ?_
  refine own_iloadN X B at_25 rfl (pc' := 26) rfl ?_
  refine own_iconst X B at_26 (v := (2 : Int32)) rfl (pc' := 27) rfl ?_
  refine own_iushr X B at_27 (pc' := 28) rfl ?_
  refine own_iconst X B at_28 (v := (3 : Int32)) rfl (pc' := 29) rfl ?_
  refine own_iand X B at_29 (pc' := 30) rfl ?_
  obtain ⟨to, hto, eto⟩ := own_mask ((x.toUInt32 >>> ((2 : Int32) &&& 31).toUInt32).toInt32) (3 : Int32) 2 (by decide) (by decide)
  rw [eto]
  replace hto : to < 4 := hto
  refine own_istore X B at_30 (L' := #[.val (.int y), .val (.int x), .val (.long k1), .second, .val (.long k2), .second, .val (.long k3), .second, .val (.long k4), .second, .val (.int (Int32.ofNat (2 ^ e'))), .val (.int (Int32.ofNat cp)), .val (.int (Int32.ofNat fr)), .val (.int (Int32.ofNat to)), .unset, .unset, .unset, .unset]) rfl (pc' := 32) rfl ?_
  refine own_lloadN X B at_32 rfl (pc' := 33) rfl ?_
  refine own_lload X B at_33 rfl (pc' := 35) rfl ?_
  have sz := own_sz X Z0
  refine own_callS X B (W := 0) (hw _ (List.mem_of_getElem? (i := 0) rfl)) (hw _ (List.mem_of_getElem? (i := 1) rfl)) (hw _ (List.mem_of_getElem? (i := 2) rfl)) (hw _ (List.mem_of_getElem? (i := 3) rfl)) (by decide) (rm1 l Z a0 hw k1 k2 h0 n0 (own_sz X Z0)) (by decide) (by decide) (by decide) (by decide) rfl (argsL := [.long k1, .long k2]) pd_1 rfl rfl (st := []) rfl (Nat.le_refl _) at_35 (pc' := 38) rfl all0 ?_
  rintro v T h X K ⟨so, rfl, z_so, A_so⟩
  show own_H _ _ _ _ _ _ _ _ T (mkF m 38 #[.val (.int y), .val (.int x), .val (.long k1), .second, .val (.long k2), .second, .val (.long k3), .second, .val (.long k4), .second, .val (.int (Int32.ofNat (2 ^ e'))), .val (.int (Int32.ofNat cp)), .val (.int (Int32.ofNat fr)), .val (.int (Int32.ofNat to)), .unset, .unset, .unset, .unset] [.ref so])
  have g_so := Nat.le_trans sz z_so
  refine own_astore X B at_38 rfl (L' := #[.val (.int y), .val (.int x), .val (.long k1), .second, .val (.long k2), .second, .val (.long k3), .second, .val (.long k4), .second, .val (.int (Int32.ofNat (2 ^ e'))), .val (.int (Int32.ofNat cp)), .val (.int (Int32.ofNat fr)), .val (.int (Int32.ofNat to)), .val (.ref so), .unset, .unset, .unset]) rfl (pc' := 40) rfl ?_
  refine own_lload X B at_40 rfl (pc' := 42) rfl ?_
  refine own_lload X B at_42 rfl (pc' := 44) rfl ?_
  have sz := own_sz X Z0
  have lts := A_so.lt
  refine own_callS X B (W := 0) (hw _ (List.mem_of_getElem? (i := 0) rfl)) (hw _ (List.mem_of_getElem? (i := 1) rfl)) (hw _ (List.mem_of_getElem? (i := 2) rfl)) (hw _ (List.mem_of_getElem? (i := 3) rfl)) (by decide) (rm1 l Z a0 hw k3 k4 h n0 (own_sz X Z0)) (by decide) (by decide) (by decide) (by decide) rfl (argsL := [.long k3, .long k4]) pd_1 rfl rfl (st := []) rfl (Nat.le_refl _) at_44 (pc' := 47) rfl all0 ?_
  rintro v T h X K ⟨tg, rfl, z_tg, A_tg⟩
  replace A_so := A_so.keep K nin0
  show own_H _ _ _ _ _ _ _ _ T (mkF m 47 #[.val (.int y), .val (.int x), .val (.long k1), .second, .val (.long k2), .second, .val (.long k3), .second, .val (.long k4), .second, .val (.int (Int32.ofNat (2 ^ e'))), .val (.int (Int32.ofNat cp)), .val (.int (Int32.ofNat fr)), .val (.int (Int32.ofNat to)), .val (.ref so), .unset, .unset, .unset] [.ref tg])
  have g_tg := Nat.le_trans sz z_tg
  have n_so_tg : so ≠ tg := Nat.ne_of_lt (Nat.lt_of_lt_of_le lts z_tg)
  refine own_astore X B at_47 rfl (L' := #[.val (.int y), .val (.int x), .val (.long k1), .second, .val (.long k2), .second, .val (.long k3), .second, .val (.long k4), .second, .val (.int (Int32.ofNat (2 ^ e'))), .val (.int (Int32.ofNat cp)), .val (.int (Int32.ofNat fr)), .val (.int (Int32.ofNat to)), .val (.ref so), .val (.ref tg), .unset, .unset]) rfl (pc' := 49) rfl ?_
  refine own_aload X B at_49 rfl rfl (pc' := 51) rfl ?_
  refine own_iload X B at_51 rfl (pc' := 53) rfl ?_
  refine own_aload X B at_53 rfl rfl (pc' := 55) rfl ?_
  refine own_iload X B at_55 rfl (pc' := 57) rfl ?_
  refine own_iload X B at_57 rfl (pc' := 59) rfl ?_
  refine own_iload X B at_59 rfl (pc' := 61) rfl ?_
  refine own_callS X B (W := 0) (hw _ (List.mem_of_getElem? (i := 11) rfl)) (hw _ (List.mem_of_getElem? (i := 12) rfl)) (hw _ (List.mem_of_getElem? (i := 13) rfl)) (hw _ (List.mem_of_getElem? (i := 14) rfl)) (by decide) (rm7 l Z a0 hw so tg fr to cp e' (own_lin k1 k2) (own_lin k3 k4) h n0 (own_sz X Z0) g_tg n_so_tg A_so A_tg hfr hto he' hcp1) (by decide) (by decide) (by decide) (by decide) rfl (argsL := [.ref so, .int (Int32.ofNat fr), .ref tg, .int (Int32.ofNat to), .int (Int32.ofNat cp), .int (Int32.ofNat (2 ^ e'))]) pd_2 rfl rfl (st := []) rfl (Nat.le_refl _) at_61 (pc' := 64) rfl (allS (Or.inr (Nat.le_trans Z1 g_tg)) all0) ?_
  rintro v T h X K ⟨rfl, A_tg⟩
  replace A_so := A_so.keep K (ninS n_so_tg nin0)
  show own_H _ _ _ _ _ _ _ _ T (mkF m 64 #[.val (.int y), .val (.int x), .val (.long k1), .second, .val (.long k2), .second, .val (.long k3), .second, .val (.long k4), .second, .val (.int (Int32.ofNat (2 ^ e'))), .val (.int (Int32.ofNat cp)), .val (.int (Int32.ofNat fr)), .val (.int (Int32.ofNat to)), .val (.ref so), .val (.ref tg), .unset, .unset] [])
  refine own_iload X B at_64 rfl (pc' := 66) rfl ?_
  refine own_iload X B at_66 rfl (pc' := 68) rfl ?_
  refine own_imul X B at_68 (pc' := 69) rfl ?_
  rw [own_mul]
  refine own_istore X B at_69 (L' := #[.val (.int y), .val (.int x), .val (.long k1), .second, .val (.long k2), .second, .val (.long k3), .second, .val (.long k4), .second, .val (.int (Int32.ofNat (2 ^ e'))), .val (.int (Int32.ofNat cp)), .val (.int (Int32.ofNat fr)), .val (.int (Int32.ofNat to)), .val (.ref so), .val (.ref tg), .val (.int (Int32.ofNat (cp * 2 ^ e'))), .unset]) rfl (pc' := 71) rfl ?_
  refine own_iload X B at_71 rfl (pc' := 73) rfl ?_
  refine own_iload X B at_73 rfl (pc' := 75) rfl ?_
  refine own_iadd X B at_75 (pc' := 76) rfl ?_
  rw [own_add]
  have hlh : cp * 2 ^ e' + 2 ^ e' ≤ 256 := by rw [Nat.add_mul, Nat.one_mul] at hcp1; exact hcp1
  refine own_istore X B at_76 (L' := #[.val (.int y), .val (.int x), .val (.long k1), .second, .val (.long k2), .second, .val (.long k3), .second, .val (.long k4), .second, .val (.int (Int32.ofNat (2 ^ e'))), .val (.int (Int32.ofNat cp)), .val (.int (Int32.ofNat fr)), .val (.int (Int32.ofNat to)), .val (.ref so), .val (.ref tg), .val (.int (Int32.ofNat (cp * 2 ^ e'))), .val (.int (Int32.ofNat (cp * 2 ^ e' + 2 ^ e')))]) rfl (pc' := 78) rfl ?_
  refine own_aload X B at_78 rfl rfl (pc' := 80) rfl ?_
  refine own_aload X B at_80 rfl rfl (pc' := 82) rfl ?_
  refine own_iconst X B at_82 (v := (0 : Int32)) rfl (pc' := 83) rfl ?_
  refine own_iload X B at_83 rfl (pc' := 85) rfl ?_
  refine own_iload X B at_85 rfl (pc' := 87) rfl ?_
  refine own_lloadN X B at_87 rfl (pc' := 88) rfl ?_
  refine own_lload X B at_88 rfl (pc' := 90) rfl ?_
  refine own_lload X B at_90 rfl (pc' := 92) rfl ?_
  refine own_lload X B at_92 rfl (pc' := 94) rfl ?_
  refine own_iload X B at_94 rfl (pc' := 96) rfl ?_
  refine own_iload X B at_96 rfl (pc' := 98) rfl ?_
  refine own_callS X B (W := 0) (hw _ (List.mem_of_getElem? (i := 15) rfl)) (hw _ (List.mem_of_getElem? (i := 16) rfl)) (hw _ (List.mem_of_getElem? (i := 2) rfl)) (hw _ (List.mem_of_getElem? (i := 17) rfl)) (by decide) (rm6 l Z a0 hw so tg 0 fr to k1 k2 k3 k4 (cp * 2 ^ e') (cp * 2 ^ e' + 2 ^ e') h n0 (own_sz X Z0) A_so A_tg (by decide) hfr hto (Nat.le_trans (Nat.le_add_right _ _) hlh) hlh) (by decide) (by decide) (by decide) (by decide) rfl (argsL := [.ref so, .ref tg, .int (0 : Int32), .int (Int32.ofNat fr), .int (Int32.ofNat to), .long k1, .long k2, .long k3, .long k4, .int (Int32.ofNat (cp * 2 ^ e')), .int (Int32.ofNat (cp * 2 ^ e' + 2 ^ e'))]) pd_3 rfl rfl (st := []) rfl (Nat.le_refl _) at_98 (pc' := 101) rfl all0 ?_
  rintro v T h X K rfl
  replace A_so := A_so.keep K nin0
  replace A_tg := A_tg.keep K nin0
  show own_H _ _ _ _ _ _ _ _ T (mkF m 101 #[.val (.int y), .val (.int x), .val (.long k1), .second, .val (.long k2), .second, .val (.long k3), .second, .val (.long k4), .second, .val (.int (Int32.ofNat (2 ^ e'))), .val (.int (Int32.ofNat cp)), .val (.int (Int32.ofNat fr)), .val (.int (Int32.ofNat to)), .val (.ref so), .val (.ref tg), .val (.int (Int32.ofNat (cp * 2 ^ e'))), .val (.int (Int32.ofNat (cp * 2 ^ e' + 2 ^ e')))] [.int (1 : Int32)])
  refine own_ifF X B at_101 (feq (by decide : ¬ (1 : Int32) = 0)).1 (pc' := 104) rfl ?_
  refine own_aload X B at_104 rfl rfl (pc' := 106) rfl ?_
  refine own_aload X B at_106 rfl rfl (pc' := 108) rfl ?_
  refine own_iconst X B at_108 (v := (1 : Int32)) rfl (pc' := 109) rfl ?_
  refine own_iload X B at_109 rfl (pc' := 111) rfl ?_
  refine own_iload X B at_111 rfl (pc' := 113) rfl ?_
  refine own_lloadN X B at_113 rfl (pc' := 114) rfl ?_
  refine own_lload X B at_114 rfl (pc' := 116) rfl ?_
  refine own_lload X B at_116 rfl (pc' := 118) rfl ?_
  refine own_lload X B at_118 rfl (pc' := 120) rfl ?_
  refine own_iload X B at_120 rfl (pc' := 122) rfl ?_
  refine own_iload X B at_122 rfl (pc' := 124) rfl ?_
  refine own_callS X B (W := 0) (hw _ (List.mem_of_getElem? (i := 15) rfl)) (hw _ (List.mem_of_getElem? (i := 16) rfl)) (hw _ (List.mem_of_getElem? (i := 2) rfl)) (hw _ (List.mem_of_getElem? (i := 17) rfl)) (by decide) (rm6 l Z a0 hw so tg 1 fr to k1 k2 k3 k4 (cp * 2 ^ e') (cp * 2 ^ e' + 2 ^ e') h n0 (own_sz X Z0) A_so A_tg (by decide) hfr hto (Nat.le_trans (Nat.le_add_right _ _) hlh) hlh) (by decide) (by decide) (by decide) (by decide) rfl (argsL := [.ref so, .ref tg, .int (1 : Int32), .int (Int32.ofNat fr), .int (Int32.ofNat to), .long k1, .long k2, .long k3, .long k4, .int (Int32.ofNat (cp * 2 ^ e')), .int (Int32.ofNat (cp * 2 ^ e' + 2 ^ e'))]) pd_3 rfl rfl (st := []) rfl (Nat.le_refl _) at_124 (pc' := 127) rfl all0 ?_
  rintro v T h X K rfl
  replace A_so := A_so.keep K nin0
  replace A_tg := A_tg.keep K nin0
  show own_H _ _ _ _ _ _ _ _ T (mkF m 127 #[.val (.int y), .val (.int x), .val (.long k1), .second, .val (.long k2), .second, .val (.long k3), .second, .val (.long k4), .second, .val (.int (Int32.ofNat (2 ^ e'))), .val (.int (Int32.ofNat cp)), .val (.int (Int32.ofNat fr)), .val (.int (Int32.ofNat to)), .val (.ref so), .val (.ref tg), .val (.int (Int32.ofNat (cp * 2 ^ e'))), .val (.int (Int32.ofNat (cp * 2 ^ e' + 2 ^ e')))] [.int (1 : Int32)])
  refine own_ifF X B at_127 (feq (by decide : ¬ (1 : Int32) = 0)).1 (pc' := 130) rfl ?_
  refine own_aload X B at_130 rfl rfl (pc' := 132) rfl ?_
  refine own_aload X B at_132 rfl rfl (pc' := 134) rfl ?_
  refine own_iconst X B at_134 (v := (2 : Int32)) rfl (pc' := 135) rfl ?_
  refine own_iload X B at_135 rfl (pc' := 137) rfl ?_
  refine own_iload X B at_137 rfl (pc' := 139) rfl ?_
  refine own_lloadN X B at_139 rfl (pc' := 140) rfl ?_
  refine own_lload X B at_140 rfl (pc' := 142) rfl ?_
  refine own_lload X B at_142 rfl (pc' := 144) rfl ?_
  refine own_lload X B at_144 rfl (pc' := 146) rfl ?_
  refine own_iload X B at_146 rfl (pc' := 148) rfl ?_
  refine own_iload X B at_148 rfl (pc' := 150) rfl ?_
  refine own_callS X B (W := 0) (hw _ (List.mem_of_getElem? (i := 15) rfl)) (hw _ (List.mem_of_getElem? (i := 16) rfl)) (hw _ (List.mem_of_getElem? (i := 2) rfl)) (hw _ (List.mem_of_getElem? (i := 17) rfl)) (by decide) (rm6 l Z a0 hw so tg 2 fr to k1 k2 k3 k4 (cp * 2 ^ e') (cp * 2 ^ e' + 2 ^ e') h n0 (own_sz X Z0) A_so A_tg (by decide) hfr hto (Nat.le_trans (Nat.le_add_right _ _) hlh) hlh) (by decide) (by decide) (by decide) (by decide) rfl (argsL := [.ref so, .ref tg, .int (2 : Int32), .int (Int32.ofNat fr), .int (Int32.ofNat to), .long k1, .long k2, .long k3, .long k4, .int (Int32.ofNat (cp * 2 ^ e')), .int (Int32.ofNat (cp * 2 ^ e' + 2 ^ e'))]) pd_3 rfl rfl (st := []) rfl (Nat.le_refl _) at_150 (pc' := 153) rfl all0 ?_
  rintro v T h X K rfl
  replace A_so := A_so.keep K nin0
  replace A_tg := A_tg.keep K nin0
  show own_H _ _ _ _ _ _ _ _ T (mkF m 153 #[.val (.int y), .val (.int x), .val (.long k1), .second, .val (.long k2), .second, .val (.long k3), .second, .val (.long k4), .second, .val (.int (Int32.ofNat (2 ^ e'))), .val (.int (Int32.ofNat cp)), .val (.int (Int32.ofNat fr)), .val (.int (Int32.ofNat to)), .val (.ref so), .val (.ref tg), .val (.int (Int32.ofNat (cp * 2 ^ e'))), .val (.int (Int32.ofNat (cp * 2 ^ e' + 2 ^ e')))] [.int (1 : Int32)])
  refine own_ifF X B at_153 (feq (by decide : ¬ (1 : Int32) = 0)).1 (pc' := 156) rfl ?_
  refine own_aload X B at_156 rfl rfl (pc' := 158) rfl ?_
  refine own_aload X B at_158 rfl rfl (pc' := 160) rfl ?_
  refine own_iconst X B at_160 (v := (3 : Int32)) rfl (pc' := 161) rfl ?_
  refine own_iload X B at_161 rfl (pc' := 163) rfl ?_
  refine own_iload X B at_163 rfl (pc' := 165) rfl ?_
  refine own_lloadN X B at_165 rfl (pc' := 166) rfl ?_
  refine own_lload X B at_166 rfl (pc' := 168) rfl ?_
  refine own_lload X B at_168 rfl (pc' := 170) rfl ?_
  refine own_lload X B at_170 rfl (pc' := 172) rfl ?_
  refine own_iload X B at_172 rfl (pc' := 174) rfl ?_
  refine own_iload X B at_174 rfl (pc' := 176) rfl ?_
  refine own_callS X B (W := 0) (hw _ (List.mem_of_getElem? (i := 15) rfl)) (hw _ (List.mem_of_getElem? (i := 16) rfl)) (hw _ (List.mem_of_getElem? (i := 2) rfl)) (hw _ (List.mem_of_getElem? (i := 17) rfl)) (by decide) (rm6 l Z a0 hw so tg 3 fr to k1 k2 k3 k4 (cp * 2 ^ e') (cp * 2 ^ e' + 2 ^ e') h n0 (own_sz X Z0) A_so A_tg (by decide) hfr hto (Nat.le_trans (Nat.le_add_right _ _) hlh) hlh) (by decide) (by decide) (by decide) (by decide) rfl (argsL := [.ref so, .ref tg, .int (3 : Int32), .int (Int32.ofNat fr), .int (Int32.ofNat to), .long k1, .long k2, .long k3, .long k4, .int (Int32.ofNat (cp * 2 ^ e')), .int (Int32.ofNat (cp * 2 ^ e' + 2 ^ e'))]) pd_3 rfl rfl (st := []) rfl (Nat.le_refl _) at_176 (pc' := 179) rfl all0 ?_
  rintro v T h X K rfl
  replace A_so := A_so.keep K nin0
  replace A_tg := A_tg.keep K nin0
  show own_H _ _ _ _ _ _ _ _ T (mkF m 179 #[.val (.int y), .val (.int x), .val (.long k1), .second, .val (.long k2), .second, .val (.long k3), .second, .val (.long k4), .second, .val (.int (Int32.ofNat (2 ^ e'))), .val (.int (Int32.ofNat cp)), .val (.int (Int32.ofNat fr)), .val (.int (Int32.ofNat to)), .val (.ref so), .val (.ref tg), .val (.int (Int32.ofNat (cp * 2 ^ e'))), .val (.int (Int32.ofNat (cp * 2 ^ e' + 2 ^ e')))] [.int (1 : Int32)])
  refine own_ifF X B at_179 (feq (by decide : ¬ (1 : Int32) = 0)).1 (pc' := 182) rfl ?_
  refine own_aload X B at_182 rfl rfl (pc' := 184) rfl ?_
  refine own_aload X B at_184 rfl rfl (pc' := 186) rfl ?_
  refine own_iconst X B at_186 (v := (4 : Int32)) rfl (pc' := 187) rfl ?_
  refine own_iload X B at_187 rfl (pc' := 189) rfl ?_
  refine own_iload X B at_189 rfl (pc' := 191) rfl ?_
  refine own_lloadN X B at_191 rfl (pc' := 192) rfl ?_
  refine own_lload X B at_192 rfl (pc' := 194) rfl ?_
  refine own_lload X B at_194 rfl (pc' := 196) rfl ?_
  refine own_lload X B at_196 rfl (pc' := 198) rfl ?_
  refine own_iload X B at_198 rfl (pc' := 200) rfl ?_
  refine own_iload X B at_200 rfl (pc' := 202) rfl ?_
  refine own_callS X B (W := 0) (hw _ (List.mem_of_getElem? (i := 15) rfl)) (hw _ (List.mem_of_getElem? (i := 16) rfl)) (hw _ (List.mem_of_getElem? (i := 2) rfl)) (hw _ (List.mem_of_getElem? (i := 17) rfl)) (by decide) (rm6 l Z a0 hw so tg 4 fr to k1 k2 k3 k4 (cp * 2 ^ e') (cp * 2 ^ e' + 2 ^ e') h n0 (own_sz X Z0) A_so A_tg (by decide) hfr hto (Nat.le_trans (Nat.le_add_right _ _) hlh) hlh) (by decide) (by decide) (by decide) (by decide) rfl (argsL := [.ref so, .ref tg, .int (4 : Int32), .int (Int32.ofNat fr), .int (Int32.ofNat to), .long k1, .long k2, .long k3, .long k4, .int (Int32.ofNat (cp * 2 ^ e')), .int (Int32.ofNat (cp * 2 ^ e' + 2 ^ e'))]) pd_3 rfl rfl (st := []) rfl (Nat.le_refl _) at_202 (pc' := 205) rfl all0 ?_
  rintro v T h X K rfl
  replace A_so := A_so.keep K nin0
  replace A_tg := A_tg.keep K nin0
  show own_H _ _ _ _ _ _ _ _ T (mkF m 205 #[.val (.int y), .val (.int x), .val (.long k1), .second, .val (.long k2), .second, .val (.long k3), .second, .val (.long k4), .second, .val (.int (Int32.ofNat (2 ^ e'))), .val (.int (Int32.ofNat cp)), .val (.int (Int32.ofNat fr)), .val (.int (Int32.ofNat to)), .val (.ref so), .val (.ref tg), .val (.int (Int32.ofNat (cp * 2 ^ e'))), .val (.int (Int32.ofNat (cp * 2 ^ e' + 2 ^ e')))] [.int (1 : Int32)])
  refine own_ifF X B at_205 (feq (by decide : ¬ (1 : Int32) = 0)).1 (pc' := 208) rfl ?_
  refine own_aload X B at_208 rfl rfl (pc' := 210) rfl ?_
  refine own_aload X B at_210 rfl rfl (pc' := 212) rfl ?_
  refine own_iconst X B at_212 (v := (5 : Int32)) rfl (pc' := 213) rfl ?_
  refine own_iload X B at_213 rfl (pc' := 215) rfl ?_
  refine own_iload X B at_215 rfl (pc' := 217) rfl ?_
  refine own_lloadN X B at_217 rfl (pc' := 218) rfl ?_
  refine own_lload X B at_218 rfl (pc' := 220) rfl ?_
  refine own_lload X B at_220 rfl (pc' := 222) rfl ?_
  refine own_lload X B at_222 rfl (pc' := 224) rfl ?_
  refine own_iload X B at_224 rfl (pc' := 226) rfl ?_
  refine own_iload X B at_226 rfl (pc' := 228) rfl ?_
  refine own_callS X B (W := 0) (hw _ (List.mem_of_getElem? (i := 15) rfl)) (hw _ (List.mem_of_getElem? (i := 16) rfl)) (hw _ (List.mem_of_getElem? (i := 2) rfl)) (hw _ (List.mem_of_getElem? (i := 17) rfl)) (by decide) (rm6 l Z a0 hw so tg 5 fr to k1 k2 k3 k4 (cp * 2 ^ e') (cp * 2 ^ e' + 2 ^ e') h n0 (own_sz X Z0) A_so A_tg (by decide) hfr hto (Nat.le_trans (Nat.le_add_right _ _) hlh) hlh) (by decide) (by decide) (by decide) (by decide) rfl (argsL := [.ref so, .ref tg, .int (5 : Int32), .int (Int32.ofNat fr), .int (Int32.ofNat to), .long k1, .long k2, .long k3, .long k4, .int (Int32.ofNat (cp * 2 ^ e')), .int (Int32.ofNat (cp * 2 ^ e' + 2 ^ e'))]) pd_3 rfl rfl (st := []) rfl (Nat.le_refl _) at_228 (pc' := 231) rfl all0 ?_
  rintro v T h X K rfl
  replace A_so := A_so.keep K nin0
  replace A_tg := A_tg.keep K nin0
  show own_H _ _ _ _ _ _ _ _ T (mkF m 231 #[.val (.int y), .val (.int x), .val (.long k1), .second, .val (.long k2), .second, .val (.long k3), .second, .val (.long k4), .second, .val (.int (Int32.ofNat (2 ^ e'))), .val (.int (Int32.ofNat cp)), .val (.int (Int32.ofNat fr)), .val (.int (Int32.ofNat to)), .val (.ref so), .val (.ref tg), .val (.int (Int32.ofNat (cp * 2 ^ e'))), .val (.int (Int32.ofNat (cp * 2 ^ e' + 2 ^ e')))] [.int (1 : Int32)])
  refine own_ifF X B at_231 (feq (by decide : ¬ (1 : Int32) = 0)).1 (pc' := 234) rfl ?_
  refine own_aload X B at_234 rfl rfl (pc' := 236) rfl ?_
  refine own_aload X B at_236 rfl rfl (pc' := 238) rfl ?_
  refine own_bipush X B at_238 (v := (6 : Int32)) rfl (pc' := 240) rfl ?_
  refine own_iload X B at_240 rfl (pc' := 242) rfl ?_
  refine own_iload X B at_242 rfl (pc' := 244) rfl ?_
  refine own_lloadN X B at_244 rfl (pc' := 245) rfl ?_
  refine own_lload X B at_245 rfl (pc' := 247) rfl ?_
  refine own_lload X B at_247 rfl (pc' := 249) rfl ?_
  refine own_lload X B at_249 rfl (pc' := 251) rfl ?_
  refine own_iload X B at_251 rfl (pc' := 253) rfl ?_
  refine own_iload X B at_253 rfl (pc' := 255) rfl ?_
  refine own_callS X B (W := 0) (hw _ (List.mem_of_getElem? (i := 15) rfl)) (hw _ (List.mem_of_getElem? (i := 16) rfl)) (hw _ (List.mem_of_getElem? (i := 2) rfl)) (hw _ (List.mem_of_getElem? (i := 17) rfl)) (by decide) (rm6 l Z a0 hw so tg 6 fr to k1 k2 k3 k4 (cp * 2 ^ e') (cp * 2 ^ e' + 2 ^ e') h n0 (own_sz X Z0) A_so A_tg (by decide) hfr hto (Nat.le_trans (Nat.le_add_right _ _) hlh) hlh) (by decide) (by decide) (by decide) (by decide) rfl (argsL := [.ref so, .ref tg, .int (6 : Int32), .int (Int32.ofNat fr), .int (Int32.ofNat to), .long k1, .long k2, .long k3, .long k4, .int (Int32.ofNat (cp * 2 ^ e')), .int (Int32.ofNat (cp * 2 ^ e' + 2 ^ e'))]) pd_3 rfl rfl (st := []) rfl (Nat.le_refl _) at_255 (pc' := 258) rfl all0 ?_
  rintro v T h X K rfl
  replace A_so := A_so.keep K nin0
  replace A_tg := A_tg.keep K nin0
  show own_H _ _ _ _ _ _ _ _ T (mkF m 258 #[.val (.int y), .val (.int x), .val (.long k1), .second, .val (.long k2), .second, .val (.long k3), .second, .val (.long k4), .second, .val (.int (Int32.ofNat (2 ^ e'))), .val (.int (Int32.ofNat cp)), .val (.int (Int32.ofNat fr)), .val (.int (Int32.ofNat to)), .val (.ref so), .val (.ref tg), .val (.int (Int32.ofNat (cp * 2 ^ e'))), .val (.int (Int32.ofNat (cp * 2 ^ e' + 2 ^ e')))] [.int (1 : Int32)])
  refine own_ifF X B at_258 (feq (by decide : ¬ (1 : Int32) = 0)).1 (pc' := 261) rfl ?_
  refine own_aload X B at_261 rfl rfl (pc' := 263) rfl ?_
  refine own_aload X B at_263 rfl rfl (pc' := 265) rfl ?_
  refine own_bipush X B at_265 (v := (7 : Int32)) rfl (pc' := 267) rfl ?_
  refine own_iload X B at_267 rfl (pc' := 269) rfl ?_
  refine own_iload X B at_269 rfl (pc' := 271) rfl ?_
  refine own_lloadN X B at_271 rfl (pc' := 272) rfl ?_
  refine own_lload X B at_272 rfl (pc' := 274) rfl ?_
  refine own_lload X B at_274 rfl (pc' := 276) rfl ?_
  refine own_lload X B at_276 rfl (pc' := 278) rfl ?_
  refine own_iload X B at_278 rfl (pc' := 280) rfl ?_
  refine own_iload X B at_280 rfl (pc' := 282) rfl ?_
  refine own_callS X B (W := 0) (hw _ (List.mem_of_getElem? (i := 15) rfl)) (hw _ (List.mem_of_getElem? (i := 16) rfl)) (hw _ (List.mem_of_getElem? (i := 2) rfl)) (hw _ (List.mem_of_getElem? (i := 17) rfl)) (by decide) (rm6 l Z a0 hw so tg 7 fr to k1 k2 k3 k4 (cp * 2 ^ e') (cp * 2 ^ e' + 2 ^ e') h n0 (own_sz X Z0) A_so A_tg (by decide) hfr hto (Nat.le_trans (Nat.le_add_right _ _) hlh) hlh) (by decide) (by decide) (by decide) (by decide) rfl (argsL := [.ref so, .ref tg, .int (7 : Int32), .int (Int32.ofNat fr), .int (Int32.ofNat to), .long k1, .long k2, .long k3, .long k4, .int (Int32.ofNat (cp * 2 ^ e')), .int (Int32.ofNat (cp * 2 ^ e' + 2 ^ e'))]) pd_3 rfl rfl (st := []) rfl (Nat.le_refl _) at_282 (pc' := 285) rfl all0 ?_
  rintro v T h X K rfl
  replace A_so := A_so.keep K nin0
  replace A_tg := A_tg.keep K nin0
  show own_H _ _ _ _ _ _ _ _ T (mkF m 285 #[.val (.int y), .val (.int x), .val (.long k1), .second, .val (.long k2), .second, .val (.long k3), .second, .val (.long k4), .second, .val (.int (Int32.ofNat (2 ^ e'))), .val (.int (Int32.ofNat cp)), .val (.int (Int32.ofNat fr)), .val (.int (Int32.ofNat to)), .val (.ref so), .val (.ref tg), .val (.int (Int32.ofNat (cp * 2 ^ e'))), .val (.int (Int32.ofNat (cp * 2 ^ e' + 2 ^ e')))] [.int (1 : Int32)])
  refine own_ifF X B at_285 (feq (by decide : ¬ (1 : Int32) = 0)).1 (pc' := 288) rfl ?_
  refine own_iconst X B at_288 (v := (1 : Int32)) rfl (pc' := 289) rfl ?_
  refine own_goto X B at_289 (pc' := 293) (by decide) (by decide) ?_
  exact own_zret X B at_293 (by decide) (by decide) rfl rfl
set_option maxRecDepth 65536 in
set_option maxHeartbeats 40000000 in
theorem comes_1 {Post : Tables → Env → Array Value → State → Outcome → State → Prop} (hpost : ∀ tb e args s v u, (limb_1_1.after args s (.returned v) u = true ∧ limb_1_2.after args s (.returned v) u = true ∧ True) → FrameEnd s (.returned v) u (Jvm.fieldLocs frame_1_writes args s ++ Jvm.arrayLocs frame_1_arrays args s ++ Jvm.staticLocs frame_1_statics s) 16 128 → Post tb e args s (.returned v) u) :
    ArmFor flags0 classFile x code maxLocals ret World_1 tables_1 room_1 Calls_1 rest_1 Pre_1 Post := by
  intro l hfl _ _ p e ha hc hk s m args below hf hA hF happ hP
  obtain ⟨hcalls, hrest, hpre⟩ := hP
  obtain ⟨-, -, -, hnamed, -, -, -, hat⟩ := (Spec.applies_iff hf).mp happ
  obtain ⟨hg, hn⟩ := and_e (Cond.before_iff.mp (show (Jvm.Cond.and given_1 narrow_1).before args s = true from hpre))
  obtain ⟨g1, g2⟩ := and_e hg
  obtain ⟨g3, g4⟩ := and_e g2
  obtain ⟨g5, g6⟩ := and_e g4
  obtain ⟨g7, g8⟩ := and_e g6
  obtain ⟨g9, g10⟩ := and_e g8
  obtain ⟨g11, g12⟩ := and_e g10
  obtain ⟨w0, w1, w2, w3, w4, w5, rfl⟩ : ∃ w0 w1 w2 w3 w4 w5 : Value, args = #[w0, w1, w2, w3, w4, w5] := by
    have hs : args.size = 6 := by simpa [Cond.value, given_1] using g1
    obtain ⟨L⟩ := args
    match L, hs with
    | [w0, w1, w2, w3, w4, w5], _ => exact ⟨w0, w1, w2, w3, w4, w5, rfl⟩
  have hw := fun d (hd : d ∈ tables_1) => atoms_spec (ws := Jvm.Cond.code x code maxLocals ret :: tables_1) hat d (List.mem_cons_of_mem _ hd)
  obtain ⟨i0, ei0⟩ := is_v g3
  obtain rfl : w0 = (.int i0) := Option.some.inj ei0
  obtain ⟨i1, ei1⟩ := is_v g5
  obtain rfl : w1 = (.int i1) := Option.some.inj ei1
  obtain ⟨i2, ei2⟩ := isL_v g7
  obtain rfl : w2 = (.long i2) := Option.some.inj ei2
  obtain ⟨i3, ei3⟩ := isL_v g9
  obtain rfl : w3 = (.long i3) := Option.some.inj ei3
  obtain ⟨i4, ei4⟩ := isL_v g11
  obtain rfl : w4 = (.long i4) := Option.some.inj ei4
  obtain ⟨i5, ei5⟩ := isL_v g12
  obtain rfl : w5 = (.long i5) := Option.some.inj ei5
  obtain ⟨n, o, h1, h2, h3, _, L, rfl, ⟨N, -, rfl⟩, hq⟩ := rm0 l s _ hw i0 i1 i2 i3 i4 i5 s.heap s.heap.size (Nat.le_refl _) (Nat.le_refl _) p e ha hc hk s m _ below hf ((Spec.applies_iff_loose hf).mp happ).1 ⟨rfl, State.Warmed39.refl s, rfl⟩ trivial
  refine ⟨n, _, h1, h2, h3, hpost _ _ _ _ _ _ ⟨Cond.after_iff.mpr rfl, Cond.after_iff.mpr (eq_i res_at (Term.int_eval (1)) rfl), trivial⟩ ⟨hq.1, hq.2.1, (hq.2.2.sift fun y hy => Or.inr (N y hy)).mono (by decide) (by decide)⟩⟩
theorem main_1_1 : Claimed_1_1 := comes_1 fun _ _ _ _ _ _ h hF => ⟨h.1, hF⟩
theorem main_1_2 : Claimed_1_2 := comes_1 fun _ _ _ _ _ _ h hF => ⟨h.2.1, hF⟩
end Jvm.Pilot.@@N@@
namespace Jvm.Pilot.@@N@@
open Jvm Jvm.ClassFile Sem Op Lib Jvm.Free Jvm.Stand Jvm.Pilot.@@N@@.Jvm.D
/-! MADE BY PROGRAM (witnessworld.py) out of the Statement's table words and the real class files: 12 classes; the members and pool entries that the words name. The judged class is class 1, her method 1. -/
namespace start1
open Jvm.ClassFile
def u (s : String) : CpInfo := .utf8 (stringToUtf16 s)
/-- a pool by its gaps: so many unusable entries, then the entry; so many at the end -/
def gap : Nat → List CpInfo → List CpInfo
  | 0, r => r
  | n + 1, r => .unusable :: gap n r
def poolList (es : List (Nat × CpInfo)) (last : Nat) : List CpInfo := es.foldr (fun e r => gap e.1 (e.2 :: r)) (gap last [])
def pool (es : List (Nat × CpInfo)) (last : Nat) : Array CpInfo := ⟨poolList es last⟩
def fileOf (pool : Array CpInfo) (this : Nat) (attrs : Array Attribute := #[]) (ms : Array MethodInfo := #[]) (fl : Nat := 33) (sup : Nat := 0) (ifs : Array Nat := #[]) (fds : Array FieldInfo := #[]) : ClassFile where
  minorVersion := 0
  majorVersion := 65
  constantPool := pool
  accessFlags := fl
  thisClass := this
  superClass := sup
  interfaces := ifs
  fields := fds
  methods := ms
  attributes := attrs
def plain (name : String) (sup : Option ClassId) : Class where
  name := name
  kind := .ordinary
  loader := none
  accessFlags := 33
  super := sup
  interfaces := #[]
  cf := none
  fields := #[]
  methods := #[]
  instanceTypes := #[]
  staticTypes := #[]
  resolved := #[]
  callSites := []
  init := .initialized
  statics := none
  mirror := none

def pool0 : Array CpInfo := pool [(5, u "<init>"), (0, u "()V"), (1, .class_ 10), (1, u "java/lang/Object")] 113

def k0m0 : Method := { name := "<init>", desc := "()V", sig := { parameters := [], returnType := none }, accessFlags := 1, code := none }
/-- java/lang/Object -/
def k0 : Class := { plain "java/lang/Object" none with
  accessFlags := 33
  interfaces := #[]
  cf := some (fileOf pool0 8 #[] #[{ accessFlags := 1, nameIndex := 5, descriptorIndex := 6, attributes := #[] }] 33 0 #[] #[])
  fields := #[]
  methods := #[k0m0]
  instanceTypes := #[]
  staticTypes := #[]
  resolved := Array.replicate 124 none
  statics := none }

def pool1 : Array CpInfo := pool [(2, .class_ 4), (1, u "java/lang/Object"), (0, u "<init>"), (0, u "()V"), (0, .methodref 8 9), (0, .class_ 10), (0, .nameAndType 11 12), (0, u "com/example/ostrakon/ostrakon/text/BitVectorsOrCopyPinLaw"), (0, u "fill"), (0, u "(JJ)[J"), (0, .methodref 14 15), (0, .class_ 16), (0, .nameAndType 17 18), (0, u "com/example/ostrakon/ostrakon/text/BitVectors"), (0, u "orCopy"), (0, u "([JI[JIII)V"), (0, .methodref 8 20), (0, .nameAndType 21 22), (0, u "ok"), (0, u "([J[JIIIJJJJII)Z"), (0, .long 2), (1, .long 3), (1, .long 4), (1, .long 5), (1, .long 6), (1, .long 7), (1, .methodref 8 36), (0, .nameAndType 37 38), (0, u "mask"), (0, u "(II)J"), (0, .methodref 40 41), (0, .class_ 42), (0, .nameAndType 43 44), (0, u "java/lang/Math"), (0, u "max"), (0, u "(II)I"), (0, .methodref 40 46), (0, .nameAndType 47 44), (0, u "min"), (0, .methodref 8 49), (0, .nameAndType 50 51), (0, u "low"), (0, u "(I)J"), (0, .long 18446744073709551615), (3, u "law"), (0, u "(IIJJJJ)Z")] 5

def k1m0 : Method := { name := "<init>", desc := "()V", sig := { parameters := [], returnType := none }, accessFlags := 1, code := none }
def k1c1 : Code := { maxStack := 15, maxLocals := 18, code := code, exceptionTable := #[], attributes := #[] }
def k1m1 : Method := { name := "law", desc := "(IIJJJJ)Z", sig := { parameters := [.int, .int, .long, .long, .long, .long], returnType := some .boolean }, accessFlags := 9, code := some k1c1 }
def k1c2 : Code := { maxStack := 9, maxLocals := 4, code := method_3_code, exceptionTable := #[], attributes := #[] }
def k1m2 : Method := { name := "fill", desc := "(JJ)[J", sig := { parameters := [.long, .long], returnType := some (.array .long) }, accessFlags := 10, code := some k1c2 }
def k1c3 : Code := { maxStack := 8, maxLocals := 18, code := method_4_code, exceptionTable := #[], attributes := #[] }
def k1m3 : Method := { name := "ok", desc := "([J[JIIIJJJJII)Z", sig := { parameters := [(.array .long), (.array .long), .int, .int, .int, .long, .long, .long, .long, .int, .int], returnType := some .boolean }, accessFlags := 10, code := some k1c3 }
def k1c4 : Code := { maxStack := 6, maxLocals := 4, code := method_5_code, exceptionTable := #[], attributes := #[] }
def k1m4 : Method := { name := "mask", desc := "(II)J", sig := { parameters := [.int, .int], returnType := some .long }, accessFlags := 10, code := some k1c4 }
def k1c5 : Code := { maxStack := 4, maxLocals := 1, code := method_6_code, exceptionTable := #[], attributes := #[] }
def k1m5 : Method := { name := "low", desc := "(I)J", sig := { parameters := [.int], returnType := some .long }, accessFlags := 10, code := some k1c5 }
/-- com/example/ostrakon/ostrakon/text/BitVectorsOrCopyPinLaw -/
def k1 : Class := { plain "com/example/ostrakon/ostrakon/text/BitVectorsOrCopyPinLaw" (some 0) with
  accessFlags := 49
  interfaces := #[]
  cf := some (fileOf pool1 8 #[] #[{ accessFlags := 1, nameIndex := 5, descriptorIndex := 6, attributes := #[] }, { accessFlags := 9, nameIndex := 56, descriptorIndex := 57, attributes := #[] }, { accessFlags := 10, nameIndex := 11, descriptorIndex := 12, attributes := #[] }, { accessFlags := 10, nameIndex := 21, descriptorIndex := 22, attributes := #[] }, { accessFlags := 10, nameIndex := 37, descriptorIndex := 38, attributes := #[] }, { accessFlags := 10, nameIndex := 50, descriptorIndex := 51, attributes := #[] }] 49 2 #[] #[])
  fields := #[]
  methods := #[k1m0, k1m1, k1m2, k1m3, k1m4, k1m5]
  instanceTypes := #[]
  staticTypes := #[]
  resolved := Array.replicate 63 none
  statics := none }

def pool2 : Array CpInfo := pool [(2, .class_ 4), (1, u "java/lang/Object"), (0, u "<init>"), (0, u "()V"), (9, .class_ 18), (1, u "com/example/ostrakon/ostrakon/text/BitVectors"), (5, u "([JI[JIII)V"), (5, u "orCopy")] 11

def k2m0 : Method := { name := "<init>", desc := "()V", sig := { parameters := [], returnType := none }, accessFlags := 2, code := none }
def k2c1 : Code := { maxStack := 8, maxLocals := 9, code := prog_237_method_4_code, exceptionTable := #[], attributes := #[] }
def k2m1 : Method := { name := "orCopy", desc := "([JI[JIII)V", sig := { parameters := [(.array .long), .int, (.array .long), .int, .int, .int], returnType := none }, accessFlags := 8, code := some k2c1 }
/-- com/example/ostrakon/ostrakon/text/BitVectors -/
def k2 : Class := { plain "com/example/ostrakon/ostrakon/text/BitVectors" (some 0) with
  accessFlags := 48
  interfaces := #[]
  cf := some (fileOf pool2 16 #[] #[{ accessFlags := 2, nameIndex := 5, descriptorIndex := 6, attributes := #[] }, { accessFlags := 8, nameIndex := 30, descriptorIndex := 24, attributes := #[] }] 48 2 #[] #[])
  fields := #[]
  methods := #[k2m0, k2m1]
  instanceTypes := #[]
  staticTypes := #[]
  resolved := Array.replicate 42 none
  statics := none }

def pool3 : Array CpInfo := pool [(1, .class_ 2), (0, u "java/lang/Math"), (1, .class_ 6), (1, u "java/lang/Object"), (0, u "<init>"), (0, u "()V"), (89, .class_ 100), (1, u "java/lang/Math$RandomNumberGeneratorHolder"), (71, u "negativeZeroFloatBits"), (0, u "J"), (2, u "negativeZeroDoubleBits"), (21, u "max"), (2, u "min"), (43, u "$assertionsDisabled"), (0, u "Z"), (88, u "(II)I"), (2, u "twoToTheDoubleScaleDown"), (0, u "D"), (4, u "twoToTheDoubleScaleUp"), (9, u "E"), (3, u "PI"), (2, u "TAU"), (2, u "DEGREES_TO_RADIANS"), (0, u "RADIANS_TO_DEGREES")] 94

def k3m0 : Method := { name := "<init>", desc := "()V", sig := { parameters := [], returnType := none }, accessFlags := 2, code := none }
def k3c1 : Code := { maxStack := 2, maxLocals := 2, code := jdk_29_method_65_code, exceptionTable := #[], attributes := #[] }
def k3m1 : Method := { name := "max", desc := "(II)I", sig := { parameters := [.int, .int], returnType := some .int }, accessFlags := 9, code := some k3c1 }
def k3c2 : Code := { maxStack := 2, maxLocals := 2, code := jdk_29_method_69_code, exceptionTable := #[], attributes := #[] }
def k3m2 : Method := { name := "min", desc := "(II)I", sig := { parameters := [.int, .int], returnType := some .int }, accessFlags := 9, code := some k3c2 }
/-- java/lang/Math -/
def k3 : Class := { plain "java/lang/Math" (some 0) with
  accessFlags := 49
  interfaces := #[]
  cf := some (fileOf pool3 1 #[.nestMembers #[98]] #[{ accessFlags := 2, nameIndex := 7, descriptorIndex := 8, attributes := #[] }, { accessFlags := 9, nameIndex := 198, descriptorIndex := 335, attributes := #[] }, { accessFlags := 9, nameIndex := 201, descriptorIndex := 335, attributes := #[] }] 49 4 #[] #[{ accessFlags := 25, nameIndex := 354, descriptorIndex := 339, attributes := #[] }, { accessFlags := 25, nameIndex := 358, descriptorIndex := 339, attributes := #[] }, { accessFlags := 25, nameIndex := 361, descriptorIndex := 339, attributes := #[] }, { accessFlags := 26, nameIndex := 364, descriptorIndex := 339, attributes := #[] }, { accessFlags := 26, nameIndex := 365, descriptorIndex := 339, attributes := #[] }, { accessFlags := 26, nameIndex := 172, descriptorIndex := 173, attributes := #[] }, { accessFlags := 26, nameIndex := 176, descriptorIndex := 173, attributes := #[] }, { accessFlags := 8, nameIndex := 344, descriptorIndex := 339, attributes := #[] }, { accessFlags := 8, nameIndex := 338, descriptorIndex := 339, attributes := #[] }, { accessFlags := 4120, nameIndex := 245, descriptorIndex := 246, attributes := #[] }])
  fields := #[{ name := "E", type := .double, accessFlags := 25, slot := 0, constantValue := 0 }, { name := "PI", type := .double, accessFlags := 25, slot := 1, constantValue := 0 }, { name := "TAU", type := .double, accessFlags := 25, slot := 2, constantValue := 0 }, { name := "DEGREES_TO_RADIANS", type := .double, accessFlags := 26, slot := 3, constantValue := 0 }, { name := "RADIANS_TO_DEGREES", type := .double, accessFlags := 26, slot := 4, constantValue := 0 }, { name := "negativeZeroFloatBits", type := .long, accessFlags := 26, slot := 5, constantValue := 0 }, { name := "negativeZeroDoubleBits", type := .long, accessFlags := 26, slot := 6, constantValue := 0 }, { name := "twoToTheDoubleScaleUp", type := .double, accessFlags := 8, slot := 7, constantValue := 0 }, { name := "twoToTheDoubleScaleDown", type := .double, accessFlags := 8, slot := 8, constantValue := 0 }, { name := "$assertionsDisabled", type := .boolean, accessFlags := 4120, slot := 9, constantValue := 0 }]
  methods := #[k3m0, k3m1, k3m2]
  instanceTypes := #[]
  staticTypes := #[.double, .double, .double, .double, .double, .long, .long, .double, .double, .boolean]
  resolved := Array.replicate 460 none
  statics := none }

def pool4 : Array CpInfo := pool [(1, u "java/lang/Cloneable"), (0, .class_ 1), (0, u "java/lang/Object"), (0, .class_ 3)] 3

/-- java/lang/Cloneable -/
def k4 : Class := { plain "java/lang/Cloneable" (some 0) with
  accessFlags := 1537
  interfaces := #[]
  cf := some (fileOf pool4 2 #[] #[] 1537 4 #[] #[])
  fields := #[]
  methods := #[]
  instanceTypes := #[]
  staticTypes := #[]
  resolved := Array.replicate 8 none
  statics := none }

def pool5 : Array CpInfo := pool [(1, u "java/io/Serializable"), (0, .class_ 1), (0, u "java/lang/Object"), (0, .class_ 3)] 3

/-- java/io/Serializable -/
def k5 : Class := { plain "java/io/Serializable" (some 0) with
  accessFlags := 1537
  interfaces := #[]
  cf := some (fileOf pool5 2 #[] #[] 1537 4 #[] #[])
  fields := #[]
  methods := #[]
  instanceTypes := #[]
  staticTypes := #[]
  resolved := Array.replicate 8 none
  statics := none }

/-- the primitive byte -/
def k6 : Class := { plain "byte" none with kind := .primitive 'B', accessFlags := 0x411 }
/-- [B -/
def k7 : Class := { plain "[B" (some 0) with kind := .array 6 .byte, interfaces := #[4, 5], accessFlags := 1041 }

/-- the primitive int -/
def k8 : Class := { plain "int" none with kind := .primitive 'I', accessFlags := 0x411 }
/-- [I -/
def k9 : Class := { plain "[I" (some 0) with kind := .array 8 .int, interfaces := #[4, 5], accessFlags := 1041 }

/-- the primitive long -/
def k10 : Class := { plain "long" none with kind := .primitive 'J', accessFlags := 0x411 }
/-- [J -/
def k11 : Class := { plain "[J" (some 0) with kind := .array 10 .long, interfaces := #[4, 5], accessFlags := 1041 }

def heap : Heap := #[]
def classes : Array Class := #[k0, k1, k2, k3, k4, k5, k6, k7, k8, k9, k10, k11]
def interned : List (Array UInt16 × Addr) := []
def slotsUsed : Nat := 0
def theMethod : MethodId := ⟨1, 1⟩
def args0 : Array Value := #[.int 5, .int 1, .long 2, .long 3, .long 4, .long 5]
def aboutOver (below : List Frame) : State where
  vm := { classes := classes, interned := interned.toArray }
  heap := heap
  slotsUsed := slotsUsed
  threads := #[{ frames := .invoking theMethod args0 :: below }]
def below0 : List Frame := [.native { method := ⟨0, 0⟩, args := #[] }]
def about1 : State := aboutOver below0
def p0 : Program := .bare "" "" ""
def e0 : Env := launch0.env 0 0 0
theorem w_frames : about1.frames = Frame.invoking theMethod args0 :: below0 := rfl
set_option maxRecDepth 65536 in
theorem w_args : argsFit about1.vm theMethod args0 = true := by decide +kernel
set_option maxRecDepth 65536 in
theorem w_heap : heapFits about1 = true := by decide +kernel
set_option maxRecDepth 65536 in
theorem w_runnable : about1.curStatus? = some .runnable := by decide +kernel
set_option maxRecDepth 65536 in
theorem w_alone : about1.alone = true := by decide +kernel
set_option maxRecDepth 65536 in
theorem w_named : about1.methodNamed? x = some theMethod := by decide +kernel
set_option maxRecDepth 65536 in
theorem w_hears : about1.hears theMethod below0 = true := by decide +kernel
set_option maxRecDepth 65536 in
theorem w_ripe : about1.ripe theMethod args0 below0 = true := by decide +kernel
theorem w_running : about1.status = .running := rfl
set_option maxRecDepth 65536 in
theorem w_room : about1.hasRoom e0.platform room_1 = true :=
  launch0.hasRoom_least _ room_1 (by decide +kernel) (by decide +kernel) (by decide +kernel) (by decide +kernel) (by decide +kernel) (by decide +kernel)
theorem allAtoms_all (ts : List Jvm.Cond) (a : Array Jvm.Value) (st : Jvm.State) : (allAtoms ts).before a st = ts.all (fun c => c.before a st) := by
  induction ts with
  | nil => rfl
  | cons c t ih =>
    show (Jvm.Cond.and c (allAtoms t)).before a st = _
    rw [Jvm.Cond.before_and, ih, List.all_cons]
def words1 : List Jvm.Cond := Jvm.Cond.code x code maxLocals ret :: tables_1
/-- a 'code' word, met by the world's own term for the bytes: nothing is compared byte by byte -/
theorem code_word {y : MethodName} {bytes : ByteArray} {mx : Nat} {rt : Option FieldType} {a : Array Value} {s : State} {m : MethodId} {meth : Method} {c : Code} (h1 : s.methodNamed? y = some m) (h2 : s.vm.method? m = some meth) (h3 : meth.code = some c) (h4 : c.code = bytes)
    (h5 : (c.maxLocals == mx && c.exceptionTable.isEmpty && decide (c.maxStack ≤ mostOperands) && decide (meth.sig.returnType = rt) && !meth.locks && decide (parseMethodDescriptor y.desc = some meth.sig)) = true) : (Jvm.Cond.code y bytes mx rt).before a s = true := by
  simp only [Bool.and_eq_true, beq_iff_eq, Bool.not_eq_true', decide_eq_true_eq] at h5
  obtain ⟨⟨⟨⟨⟨g1, g2⟩, g3⟩, g4⟩, g5⟩, g6⟩ := h5
  simp [Cond.before, Cond.holds, Cond.value, h1, h2, h3, h4, g1, g2, g3, g4, g5, g6]
def isCode : Jvm.Cond → Bool
  | .code _ _ _ _ => true
  | _ => false
theorem all_split {L : List Jvm.Cond} {P : Jvm.Cond → Bool} (h1 : L.all (fun c => isCode c || P c) = true) (h2 : ∀ c ∈ L.filter isCode, P c = true) : L.all P = true := by
  refine List.all_eq_true.mpr fun c hc => ?_
  have h := List.all_eq_true.mp h1 c hc
  rcases Bool.eq_false_or_eq_true (isCode c) with hi | hi
  · exact h2 c (List.mem_filter.mpr ⟨hc, hi⟩)
  · simpa [hi] using h
set_option maxRecDepth 65536 in
theorem w_c0 : (Jvm.Cond.code x code maxLocals ret).before args0 about1 = true := code_word (m := ⟨1, 1⟩) (meth := k1m1) (c := k1c1) (by decide +kernel) rfl rfl rfl (by decide +kernel)
set_option maxRecDepth 65536 in
theorem w_c1 : (Jvm.Cond.code ({ cls := "com/example/ostrakon/ostrakon/text/BitVectorsOrCopyPinLaw", name := "fill", desc := "(JJ)[J" } : Jvm.MethodName) method_3_code (4 : Nat) (Option.some (Jvm.ClassFile.FieldType.array Jvm.ClassFile.FieldType.long))).before args0 about1 = true := code_word (m := ⟨1, 2⟩) (meth := k1m2) (c := k1c2) (by decide +kernel) rfl rfl rfl (by decide +kernel)
set_option maxRecDepth 65536 in
theorem w_c2 : (Jvm.Cond.code ({ cls := "com/example/ostrakon/ostrakon/text/BitVectors", name := "orCopy", desc := "([JI[JIII)V" } : Jvm.MethodName) prog_237_method_4_code (9 : Nat) (Option.none : Option Jvm.ClassFile.FieldType)).before args0 about1 = true := code_word (m := ⟨2, 1⟩) (meth := k2m1) (c := k2c1) (by decide +kernel) rfl rfl rfl (by decide +kernel)
set_option maxRecDepth 65536 in
theorem w_c3 : (Jvm.Cond.code ({ cls := "com/example/ostrakon/ostrakon/text/BitVectorsOrCopyPinLaw", name := "ok", desc := "([J[JIIIJJJJII)Z" } : Jvm.MethodName) method_4_code (18 : Nat) (Option.some Jvm.ClassFile.FieldType.boolean)).before args0 about1 = true := code_word (m := ⟨1, 3⟩) (meth := k1m3) (c := k1c3) (by decide +kernel) rfl rfl rfl (by decide +kernel)
set_option maxRecDepth 65536 in
theorem w_c4 : (Jvm.Cond.code ({ cls := "com/example/ostrakon/ostrakon/text/BitVectorsOrCopyPinLaw", name := "mask", desc := "(II)J" } : Jvm.MethodName) method_5_code (4 : Nat) (Option.some Jvm.ClassFile.FieldType.long)).before args0 about1 = true := code_word (m := ⟨1, 4⟩) (meth := k1m4) (c := k1c4) (by decide +kernel) rfl rfl rfl (by decide +kernel)
set_option maxRecDepth 65536 in
theorem w_c5 : (Jvm.Cond.code ({ cls := "java/lang/Math", name := "max", desc := "(II)I" } : Jvm.MethodName) jdk_29_method_65_code (2 : Nat) (Option.some Jvm.ClassFile.FieldType.int)).before args0 about1 = true := code_word (m := ⟨3, 1⟩) (meth := k3m1) (c := k3c1) (by decide +kernel) rfl rfl rfl (by decide +kernel)
set_option maxRecDepth 65536 in
theorem w_c6 : (Jvm.Cond.code ({ cls := "java/lang/Math", name := "min", desc := "(II)I" } : Jvm.MethodName) jdk_29_method_69_code (2 : Nat) (Option.some Jvm.ClassFile.FieldType.int)).before args0 about1 = true := code_word (m := ⟨3, 2⟩) (meth := k3m2) (c := k3c2) (by decide +kernel) rfl rfl rfl (by decide +kernel)
set_option maxRecDepth 65536 in
theorem w_c7 : (Jvm.Cond.code ({ cls := "com/example/ostrakon/ostrakon/text/BitVectorsOrCopyPinLaw", name := "low", desc := "(I)J" } : Jvm.MethodName) method_6_code (1 : Nat) (Option.some Jvm.ClassFile.FieldType.long)).before args0 about1 = true := code_word (m := ⟨1, 5⟩) (meth := k1m5) (c := k1c5) (by decide +kernel) rfl rfl rfl (by decide +kernel)
def codes1 : List Jvm.Cond := [Jvm.Cond.code x code maxLocals ret, Jvm.Cond.code ({ cls := "com/example/ostrakon/ostrakon/text/BitVectorsOrCopyPinLaw", name := "fill", desc := "(JJ)[J" } : Jvm.MethodName) method_3_code (4 : Nat) (Option.some (Jvm.ClassFile.FieldType.array Jvm.ClassFile.FieldType.long)), Jvm.Cond.code ({ cls := "com/example/ostrakon/ostrakon/text/BitVectors", name := "orCopy", desc := "([JI[JIII)V" } : Jvm.MethodName) prog_237_method_4_code (9 : Nat) (Option.none : Option Jvm.ClassFile.FieldType), Jvm.Cond.code ({ cls := "com/example/ostrakon/ostrakon/text/BitVectorsOrCopyPinLaw", name := "ok", desc := "([J[JIIIJJJJII)Z" } : Jvm.MethodName) method_4_code (18 : Nat) (Option.some Jvm.ClassFile.FieldType.boolean), Jvm.Cond.code ({ cls := "com/example/ostrakon/ostrakon/text/BitVectorsOrCopyPinLaw", name := "mask", desc := "(II)J" } : Jvm.MethodName) method_5_code (4 : Nat) (Option.some Jvm.ClassFile.FieldType.long), Jvm.Cond.code ({ cls := "java/lang/Math", name := "max", desc := "(II)I" } : Jvm.MethodName) jdk_29_method_65_code (2 : Nat) (Option.some Jvm.ClassFile.FieldType.int), Jvm.Cond.code ({ cls := "java/lang/Math", name := "min", desc := "(II)I" } : Jvm.MethodName) jdk_29_method_69_code (2 : Nat) (Option.some Jvm.ClassFile.FieldType.int), Jvm.Cond.code ({ cls := "com/example/ostrakon/ostrakon/text/BitVectorsOrCopyPinLaw", name := "low", desc := "(I)J" } : Jvm.MethodName) method_6_code (1 : Nat) (Option.some Jvm.ClassFile.FieldType.long)]
set_option maxRecDepth 65536 in
theorem codes_eq : words1.filter isCode = codes1 := rfl
theorem w_codes : ∀ c ∈ words1.filter isCode, c.before args0 about1 = true := by
  rw [codes_eq]
  intro c hc
  simp only [codes1, List.mem_cons, List.not_mem_nil, or_false] at hc
  rcases hc with rfl | rfl | rfl | rfl | rfl | rfl | rfl | rfl
  · exact w_c0
  · exact w_c1
  · exact w_c2
  · exact w_c3
  · exact w_c4
  · exact w_c5
  · exact w_c6
  · exact w_c7
set_option maxRecDepth 65536 in
theorem w_t1 : (words1.take 24).all (fun c => isCode c || c.before args0 about1) = true := by decide +kernel
set_option maxRecDepth 65536 in
theorem w_t2 : (words1.drop 24).all (fun c => isCode c || c.before args0 about1) = true := by decide +kernel
theorem w_tables : (allAtoms (Jvm.Cond.code x code maxLocals ret :: tables_1)).before args0 about1 = true := by
  rw [allAtoms_all]
  show words1.all (fun c => c.before args0 about1) = true
  refine all_split ?_ w_codes
  rw [← List.take_append_drop 24 words1, List.all_append, w_t1, w_t2]
  rfl
set_option maxRecDepth 65536 in
theorem w_case : (Jvm.Cond.and given_1 narrow_1).before args0 about1 = true := by decide +kernel
theorem w_applies : (headSpec (Jvm.Cond.code x code maxLocals ret :: tables_1) room_1).applies x e0.platform about1 = true :=
  (Spec.applies_iff w_frames).mpr ⟨w_running, w_runnable, w_alone, w_named, w_hears, w_ripe, w_room, w_tables⟩
theorem atStart : AtStart classFile x code maxLocals ret World_1 tables_1 room_1 Calls_1 rest_1 Pre_1 launch0 p0 e0 about1 theMethod args0 below0 :=
  ⟨lists_1, trivial, launch0.admits_env _ _ _, launch0.least_env, fairChoices_fair.cas, fairChoices_fair.clock, w_frames, w_args, w_heap, w_applies, trivial, trivial, w_case⟩
end start1
theorem witness_1 : WitnessClaimed_1 := ⟨start1.p0, start1.e0, start1.about1, start1.theMethod, start1.args0, start1.below0, start1.atStart⟩
end Jvm.Pilot.@@N@@
