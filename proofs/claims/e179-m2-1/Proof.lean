import JvmDerived
import JvmDerived.Pilot.@@N@@Statement
import JvmDerived.Pilot.@@N@@Code
set_option linter.unusedVariables false
set_option linter.unusedSimpArgs false
namespace Jvm.Pilot.@@N@@
open Jvm Jvm.ClassFile Sem Op Lib Jvm.Free Jvm.Stand Jvm.LawKit Jvm.RoadKit Bundle Jvm.Pilot.@@N@@.Jvm.D
section OwnKit
variable {p : Program} {l : Launch} {e : Env} {R : Room} {s : State} {m : MethodId} {args : Array Value} {below : List Frame} {meth : Method} {c : Code} {n0 : Nat} {h0 h h' : Heap} {ws : List Addr} {T T' : State} {C S C' S' : Nat} {Q : Option Value → Heap → Prop} {En : Outcome → State → List Loc → Prop} {Z : State} {a0 : Array Value} {bytes : ByteArray} {maxL : Nat} {own nm : String} {rt : Option FieldType} {L L' : Array Slot} {st : List Value} {pc pc' : Nat}
/-- where the run stands: heap h, nothing old written but cells in ws -/
def own_St (p : Program) (l : Launch) (e : Env) (R : Room) (s : State) (m : MethodId) (args : Array Value) (below : List Frame) (meth : Method) (c : Code) (n0 : Nat) (h0 : Heap) (ws : List Addr) (T : State) (h : Heap) (C S : Nat) : Prop :=
  ∃ locs, Stand p l e R s m args below meth c T locs C S ∧ Fr n0 locs ∧ T.heap = h ∧ Keep h0 h ws
/-- from this frame the invocation ends, and Q holds of what it returns and of the heap -/
def own_H (p : Program) (e : Env) (below : List Frame) (En : Outcome → State → List Loc → Prop) (n0 : Nat) (h0 : Heap) (ws : List Addr) (Q : Option Value → Heap → Prop) (T : State) (f : JFrame) : Prop :=
  ∃ (s₂ : State) (o : Outcome), Steps p.tables e below (T.setTop f) s₂ ∧ s₂.status = .running ∧ Ended s₂ below o ∧ ∃ v L, o = .returned v ∧ (Fr n0 L ∧ Keep h0 s₂.heap ws ∧ Q v s₂.heap) ∧ En o s₂ L
def own_F (s : State) (C S : Nat) (o : Outcome) (t : State) (L : List Loc) : Prop := FrameEnd s o t L C S
abbrev own_G (p : Program) (e : Env) (below : List Frame) (s : State) (n0 : Nat) (h0 : Heap) (ws : List Addr) (Q : Option Value → Heap → Prop) (C S : Nat) (T : State) (f : JFrame) : Prop := own_H p e below (own_F s C S) n0 h0 ws Q T f
def own_B (Z : State) (p : Program) (s : State) (m : MethodId) (meth : Method) (c : Code) (bytes : ByteArray) (maxL : Nat) (own nm : String) (rt : Option FieldType) : Prop :=
  p.tables.exec = Jvm.exec ∧ Z.Warmed39 s.vm ∧ c.code = bytes ∧ c.maxLocals = maxL ∧ s.vm.findClass own = some m.cls ∧ meth.name = nm ∧ meth.sig.returnType = rt ∧ meth.locks = false
/-- a contract -/
def own_C (l : Launch) (Z : State) (y : MethodName) (bytes : ByteArray) (maxL : Nat) (rt : Option FieldType) (cws : List Jvm.Cond) (rm : Room) (as : Array Value) (h0 : Heap) (n0 : Nat) (ws : List Addr) (Q : Option Value → Heap → Prop) (C S : Nat) : Prop :=
  MetFree l y (head1 (Jvm.Cond.code y bytes maxL rt :: cws) rm) (fun a U => a = as ∧ Z.Warmed39 U.vm ∧ U.heap = h0) (fun _ _ _ _ _ => True) (fun _ U o U' => ∃ v L, o = .returned v ∧ (Fr n0 L ∧ Keep h0 U'.heap ws ∧ Q v U'.heap) ∧ FrameEnd U o U' L C S)
theorem own_enter {y : MethodName} {cws : List Jvm.Cond} {rm : Room} {as : Array Value} {L0 : Array Slot} (hpl : plainFor y = true) (hef : ∀ m, entryFrame m as maxL = mkF m 0 L0 [])
    (body : ∀ p e s m below meth c T, own_B Z p s m meth c bytes maxL y.cls y.name rt → own_St p l e rm s m as below meth c n0 h0 ws T h0 0 0 → own_G p e below s n0 h0 ws Q C S T (mkF m 0 L0 [])) :
    own_C l Z y bytes maxL rt cws rm as h0 n0 ws Q C S := by
  show MetFree l y _ _ _ _
  refine MetFree.of_bodySF hpl hisR ?_
  intro p e s m args below meth c s₁ Bd hml0 hP hK
  obtain ⟨rfl, hZ, hh⟩ := hP
  have X0 : Stand p l e rm s m _ below meth c s₁ [] 0 0 := Stand.of_body Bd
  have e0 : s₁.heap = h0 := by rw [← hh, Bd.state]; rfl
  obtain ⟨s₂, o, h1, h2, h3, h4⟩ := body p e s m below meth c s₁ ⟨Bd.exec, hZ, Bd.bytes, hml0, findClass_of_methodNamed Bd.named, (name_of_methodNamed Bd.named Bd.method).1, Bd.returns, Bd.notSynchronized⟩ ⟨[], X0, Fr.nil n0, e0, Keep.refl _ _⟩
  exact ⟨s₂, o, castTop (hef m) h1, h2, h3, h4⟩
theorem own_st (X : own_St p l e R s m args below meth c n0 h0 ws T h C S) {f f' : JFrame} (k : own_H p e below En n0 h0 ws Q T f') (hst : ∀ t, At T m c below → Steps p.tables e below (T.setTop f') t → Steps p.tables e below (T.setTop f) t) : own_H p e below En n0 h0 ws Q T f := by
  obtain ⟨s₂, o, h1, h2⟩ := k
  obtain ⟨locs, Y, -⟩ := X
  exact ⟨s₂, o, hst _ Y.here h1, h2⟩
theorem own_tr {f f' : JFrame} (hst : ∀ t, Steps p.tables e below (T'.setTop f') t → Steps p.tables e below (T.setTop f) t) (k : own_H p e below En n0 h0 ws Q T' f') : own_H p e below En n0 h0 ws Q T f := by
  obtain ⟨s₂, o, h1, h2⟩ := k
  exact ⟨s₂, o, hst _ h1, h2⟩
theorem own_ret (X : own_St p l e R s m args below meth c n0 h0 ws T h C S) (B : own_B Z p s m meth c bytes maxL own nm rt) (hc : C ≤ C') (hs : S ≤ S') {v : Option Value} {f : JFrame} (hv : rt = none → v = none)
    (hst : ∀ locs fs, Stand p l e R s m args below meth c T locs C S → (∀ (f : JFrame) (acts : List Action), f.method = m → f.locked = none → f.entered = [] → (doReturn e (T.setTop f) acts v).1 = T.setFrames fs) → Steps p.tables e below (T.setTop f) (T.setFrames fs)) (q : Q v h) : own_G p e below s n0 h0 ws Q C' S' T f := by
  obtain ⟨locs, Y, N, e, K⟩ := X
  obtain ⟨-, -, -, -, -, -, hret, hlk⟩ := B
  obtain ⟨fs, hr, hrun, hended, hW, hsame⟩ := Y.leave (v := v) (fun h => hv (hret.symm.trans h)) hlk
  subst e
  exact ⟨_, _, hst locs fs Y hr, hrun, hended, _, _, rfl, ⟨N, K, q⟩, ⟨_, rfl⟩, hW, hsame.mono hc hs⟩
theorem own_iloadN (X : own_St p l e R s m args below meth c n0 h0 ws T h C S) (B : own_B Z p s m meth c bytes maxL own nm rt) {i : Fin 4} {v : Int32} (hd : decode bytes pc = .ok (.iload_n i, 1)) (hl : L[i.val]? = some (.val (.int v))) (hp : pc + 1 = pc') (k : own_H p e below En n0 h0 ws Q T (mkF m pc' L (.int v :: st))) : own_H p e below En n0 h0 ws Q T (mkF m pc L st) := by
  subst hp
  exact own_st X k (fun t A q => XS.iloadN A B.1 rfl (hb B.2.2.1 hd) hl q)
theorem own_iload (X : own_St p l e R s m args below meth c n0 h0 ws T h C S) (B : own_B Z p s m meth c bytes maxL own nm rt) {i : Nat} {v : Int32} (hd : decode bytes pc = .ok (.iload i, 2)) (hl : L[i]? = some (.val (.int v))) (hp : pc + 2 = pc') (k : own_H p e below En n0 h0 ws Q T (mkF m pc' L (.int v :: st))) : own_H p e below En n0 h0 ws Q T (mkF m pc L st) := by
  subst hp
  exact own_st X k (fun t A q => XS.iload A B.1 rfl (hb B.2.2.1 hd) hl q)
theorem own_istoreN (X : own_St p l e R s m args below meth c n0 h0 ws T h C S) (B : own_B Z p s m meth c bytes maxL own nm rt) {i : Fin 4} {v : Int32} (hd : decode bytes pc = .ok (.istore_n i, 1)) (hl : storeLocals L i.val (.int v) = some L') (hp : pc + 1 = pc') (k : own_H p e below En n0 h0 ws Q T (mkF m pc' L' st)) : own_H p e below En n0 h0 ws Q T (mkF m pc L (.int v :: st)) := by
  subst hp
  exact own_st X k (fun t A q => XS.istoreN A B.1 rfl (hb B.2.2.1 hd) rfl hl q)
theorem own_istore (X : own_St p l e R s m args below meth c n0 h0 ws T h C S) (B : own_B Z p s m meth c bytes maxL own nm rt) {i : Nat} {v : Int32} (hd : decode bytes pc = .ok (.istore i, 2)) (hl : storeLocals L i (.int v) = some L') (hp : pc + 2 = pc') (k : own_H p e below En n0 h0 ws Q T (mkF m pc' L' st)) : own_H p e below En n0 h0 ws Q T (mkF m pc L (.int v :: st)) := by
  subst hp
  exact own_st X k (fun t A q => XS.istore A B.1 rfl (hb B.2.2.1 hd) rfl hl q)
theorem own_lloadN (X : own_St p l e R s m args below meth c n0 h0 ws T h C S) (B : own_B Z p s m meth c bytes maxL own nm rt) {i : Fin 4} {v : Int64} (hd : decode bytes pc = .ok (.lload_n i, 1)) (hl : L[i.val]? = some (.val (.long v))) (hp : pc + 1 = pc') (k : own_H p e below En n0 h0 ws Q T (mkF m pc' L (.long v :: st))) : own_H p e below En n0 h0 ws Q T (mkF m pc L st) := by
  subst hp
  exact own_st X k (fun t A q => XS.lloadN A B.1 rfl (hb B.2.2.1 hd) hl q)
theorem own_lload (X : own_St p l e R s m args below meth c n0 h0 ws T h C S) (B : own_B Z p s m meth c bytes maxL own nm rt) {i : Nat} {v : Int64} (hd : decode bytes pc = .ok (.lload i, 2)) (hl : L[i]? = some (.val (.long v))) (hp : pc + 2 = pc') (k : own_H p e below En n0 h0 ws Q T (mkF m pc' L (.long v :: st))) : own_H p e below En n0 h0 ws Q T (mkF m pc L st) := by
  subst hp
  exact own_st X k (fun t A q => XS.lload A B.1 rfl (hb B.2.2.1 hd) hl q)
theorem own_lstoreN (X : own_St p l e R s m args below meth c n0 h0 ws T h C S) (B : own_B Z p s m meth c bytes maxL own nm rt) {i : Fin 4} {v : Int64} (hd : decode bytes pc = .ok (.lstore_n i, 1)) (hl : storeLocals L i.val (.long v) = some L') (hp : pc + 1 = pc') (k : own_H p e below En n0 h0 ws Q T (mkF m pc' L' st)) : own_H p e below En n0 h0 ws Q T (mkF m pc L (.long v :: st)) := by
  subst hp
  exact own_st X k (fun t A q => XS.lstoreN A B.1 rfl (hb B.2.2.1 hd) rfl hl q)
theorem own_lstore (X : own_St p l e R s m args below meth c n0 h0 ws T h C S) (B : own_B Z p s m meth c bytes maxL own nm rt) {i : Nat} {v : Int64} (hd : decode bytes pc = .ok (.lstore i, 2)) (hl : storeLocals L i (.long v) = some L') (hp : pc + 2 = pc') (k : own_H p e below En n0 h0 ws Q T (mkF m pc' L' st)) : own_H p e below En n0 h0 ws Q T (mkF m pc L (.long v :: st)) := by
  subst hp
  exact own_st X k (fun t A q => XS.lstore A B.1 rfl (hb B.2.2.1 hd) rfl hl q)
theorem own_aloadN (X : own_St p l e R s m args below meth c n0 h0 ws T h C S) (B : own_B Z p s m meth c bytes maxL own nm rt) {i : Fin 4} {v : Value} (hd : decode bytes pc = .ok (.aload_n i, 1)) (hl : L[i.val]? = some (.val v)) (hv : v.isRef = true) (hp : pc + 1 = pc') (k : own_H p e below En n0 h0 ws Q T (mkF m pc' L (v :: st))) : own_H p e below En n0 h0 ws Q T (mkF m pc L st) := by
  subst hp
  exact own_st X k (fun t A q => XS.aloadN A B.1 rfl (hb B.2.2.1 hd) hl hv q)
theorem own_aload (X : own_St p l e R s m args below meth c n0 h0 ws T h C S) (B : own_B Z p s m meth c bytes maxL own nm rt) {i : Nat} {v : Value} (hd : decode bytes pc = .ok (.aload i, 2)) (hl : L[i]? = some (.val v)) (hv : v.isRef = true) (hp : pc + 2 = pc') (k : own_H p e below En n0 h0 ws Q T (mkF m pc' L (v :: st))) : own_H p e below En n0 h0 ws Q T (mkF m pc L st) := by
  subst hp
  exact own_st X k (fun t A q => XS.aload A B.1 rfl (hb B.2.2.1 hd) hl hv q)
theorem own_astoreN (X : own_St p l e R s m args below meth c n0 h0 ws T h C S) (B : own_B Z p s m meth c bytes maxL own nm rt) {i : Fin 4} {v : Value} (hd : decode bytes pc = .ok (.astore_n i, 1)) (hv : v.isRef = true) (hl : storeLocals L i.val v = some L') (hp : pc + 1 = pc') (k : own_H p e below En n0 h0 ws Q T (mkF m pc' L' st)) : own_H p e below En n0 h0 ws Q T (mkF m pc L (v :: st)) := by
  subst hp
  exact own_st X k (fun t A q => XS.astoreN A B.1 rfl (hb B.2.2.1 hd) rfl hv hl q)
theorem own_astore (X : own_St p l e R s m args below meth c n0 h0 ws T h C S) (B : own_B Z p s m meth c bytes maxL own nm rt) {i : Nat} {v : Value} (hd : decode bytes pc = .ok (.astore i, 2)) (hv : v.isRef = true) (hl : storeLocals L i v = some L') (hp : pc + 2 = pc') (k : own_H p e below En n0 h0 ws Q T (mkF m pc' L' st)) : own_H p e below En n0 h0 ws Q T (mkF m pc L (v :: st)) := by
  subst hp
  exact own_st X k (fun t A q => XS.astore A B.1 rfl (hb B.2.2.1 hd) rfl hv hl q)
theorem own_iconst (X : own_St p l e R s m args below meth c n0 h0 ws T h C S) (B : own_B Z p s m meth c bytes maxL own nm rt) {i : Int} {v : Int32} (hd : decode bytes pc = .ok (.iconst i, 1)) (hv : Int32.ofInt i = v) (hp : pc + 1 = pc') (k : own_H p e below En n0 h0 ws Q T (mkF m pc' L (.int v :: st))) : own_H p e below En n0 h0 ws Q T (mkF m pc L st) := by
  subst hp hv
  exact own_st X k (fun t A q => XS.iconst A B.1 rfl (hb B.2.2.1 hd)  q)
theorem own_bipush (X : own_St p l e R s m args below meth c n0 h0 ws T h C S) (B : own_B Z p s m meth c bytes maxL own nm rt) {i : Int} {v : Int32} (hd : decode bytes pc = .ok (.bipush i, 2)) (hv : (Int8.ofInt i).toInt32 = v) (hp : pc + 2 = pc') (k : own_H p e below En n0 h0 ws Q T (mkF m pc' L (.int v :: st))) : own_H p e below En n0 h0 ws Q T (mkF m pc L st) := by
  subst hp hv
  exact own_st X k (fun t A q => XS.bipush A B.1 rfl (hb B.2.2.1 hd)  q)
theorem own_sipush (X : own_St p l e R s m args below meth c n0 h0 ws T h C S) (B : own_B Z p s m meth c bytes maxL own nm rt) {i : Int} {v : Int32} (hd : decode bytes pc = .ok (.sipush i, 3)) (hv : (Int16.ofInt i).toInt32 = v) (hp : pc + 3 = pc') (k : own_H p e below En n0 h0 ws Q T (mkF m pc' L (.int v :: st))) : own_H p e below En n0 h0 ws Q T (mkF m pc L st) := by
  subst hp hv
  exact own_st X k (fun t A q => XS.sipush A B.1 rfl (hb B.2.2.1 hd)  q)
theorem own_lconst (X : own_St p l e R s m args below meth c n0 h0 ws T h C S) (B : own_B Z p s m meth c bytes maxL own nm rt) {i : Fin 2} {v : Int64} (hd : decode bytes pc = .ok (.lconst i, 1)) (hv : Int64.ofNat i = v) (hp : pc + 1 = pc') (k : own_H p e below En n0 h0 ws Q T (mkF m pc' L (.long v :: st))) : own_H p e below En n0 h0 ws Q T (mkF m pc L st) := by
  subst hp hv
  exact own_st X k (fun t A q => XS.lconst A B.1 rfl (hb B.2.2.1 hd)  q)
theorem own_aconst_null (X : own_St p l e R s m args below meth c n0 h0 ws T h C S) (B : own_B Z p s m meth c bytes maxL own nm rt)  (hd : decode bytes pc = .ok (.aconst_null, 1)) (hp : pc + 1 = pc') (k : own_H p e below En n0 h0 ws Q T (mkF m pc' L (.null :: st))) : own_H p e below En n0 h0 ws Q T (mkF m pc L st) := by
  subst hp
  exact own_st X k (fun t A q => XS.aconstNull A B.1 rfl (hb B.2.2.1 hd)  q)
theorem own_iadd (X : own_St p l e R s m args below meth c n0 h0 ws T h C S) (B : own_B Z p s m meth c bytes maxL own nm rt) {x y : Int32} (hd : decode bytes pc = .ok (.iadd, 1)) (hp : pc + 1 = pc') (k : own_H p e below En n0 h0 ws Q T (mkF m pc' L (.int (x + y) :: st))) : own_H p e below En n0 h0 ws Q T (mkF m pc L (.int y :: .int x :: st)) := by
  subst hp
  exact own_st X k (fun t A q => XS.iadd A B.1 rfl (hb B.2.2.1 hd) rfl q)
theorem own_ladd (X : own_St p l e R s m args below meth c n0 h0 ws T h C S) (B : own_B Z p s m meth c bytes maxL own nm rt) {x y : Int64} (hd : decode bytes pc = .ok (.ladd, 1)) (hp : pc + 1 = pc') (k : own_H p e below En n0 h0 ws Q T (mkF m pc' L (.long (x + y) :: st))) : own_H p e below En n0 h0 ws Q T (mkF m pc L (.long y :: .long x :: st)) := by
  subst hp
  exact own_st X k (fun t A q => XS.ladd A B.1 rfl (hb B.2.2.1 hd) rfl q)
theorem own_isub (X : own_St p l e R s m args below meth c n0 h0 ws T h C S) (B : own_B Z p s m meth c bytes maxL own nm rt) {x y : Int32} (hd : decode bytes pc = .ok (.isub, 1)) (hp : pc + 1 = pc') (k : own_H p e below En n0 h0 ws Q T (mkF m pc' L (.int (x - y) :: st))) : own_H p e below En n0 h0 ws Q T (mkF m pc L (.int y :: .int x :: st)) := by
  subst hp
  exact own_st X k (fun t A q => XS.isub A B.1 rfl (hb B.2.2.1 hd) rfl q)
theorem own_lsub (X : own_St p l e R s m args below meth c n0 h0 ws T h C S) (B : own_B Z p s m meth c bytes maxL own nm rt) {x y : Int64} (hd : decode bytes pc = .ok (.lsub, 1)) (hp : pc + 1 = pc') (k : own_H p e below En n0 h0 ws Q T (mkF m pc' L (.long (x - y) :: st))) : own_H p e below En n0 h0 ws Q T (mkF m pc L (.long y :: .long x :: st)) := by
  subst hp
  exact own_st X k (fun t A q => XS.lsub A B.1 rfl (hb B.2.2.1 hd) rfl q)
theorem own_imul (X : own_St p l e R s m args below meth c n0 h0 ws T h C S) (B : own_B Z p s m meth c bytes maxL own nm rt) {x y : Int32} (hd : decode bytes pc = .ok (.imul, 1)) (hp : pc + 1 = pc') (k : own_H p e below En n0 h0 ws Q T (mkF m pc' L (.int (x * y) :: st))) : own_H p e below En n0 h0 ws Q T (mkF m pc L (.int y :: .int x :: st)) := by
  subst hp
  exact own_st X k (fun t A q => XS.imul A B.1 rfl (hb B.2.2.1 hd) rfl q)
theorem own_lmul (X : own_St p l e R s m args below meth c n0 h0 ws T h C S) (B : own_B Z p s m meth c bytes maxL own nm rt) {x y : Int64} (hd : decode bytes pc = .ok (.lmul, 1)) (hp : pc + 1 = pc') (k : own_H p e below En n0 h0 ws Q T (mkF m pc' L (.long (x * y) :: st))) : own_H p e below En n0 h0 ws Q T (mkF m pc L (.long y :: .long x :: st)) := by
  subst hp
  exact own_st X k (fun t A q => XS.lmul A B.1 rfl (hb B.2.2.1 hd) rfl q)
theorem own_iand (X : own_St p l e R s m args below meth c n0 h0 ws T h C S) (B : own_B Z p s m meth c bytes maxL own nm rt) {x y : Int32} (hd : decode bytes pc = .ok (.iand, 1)) (hp : pc + 1 = pc') (k : own_H p e below En n0 h0 ws Q T (mkF m pc' L (.int (x &&& y) :: st))) : own_H p e below En n0 h0 ws Q T (mkF m pc L (.int y :: .int x :: st)) := by
  subst hp
  exact own_st X k (fun t A q => XS.iand A B.1 rfl (hb B.2.2.1 hd) rfl q)
theorem own_land (X : own_St p l e R s m args below meth c n0 h0 ws T h C S) (B : own_B Z p s m meth c bytes maxL own nm rt) {x y : Int64} (hd : decode bytes pc = .ok (.land, 1)) (hp : pc + 1 = pc') (k : own_H p e below En n0 h0 ws Q T (mkF m pc' L (.long (x &&& y) :: st))) : own_H p e below En n0 h0 ws Q T (mkF m pc L (.long y :: .long x :: st)) := by
  subst hp
  exact own_st X k (fun t A q => XS.land A B.1 rfl (hb B.2.2.1 hd) rfl q)
theorem own_ior (X : own_St p l e R s m args below meth c n0 h0 ws T h C S) (B : own_B Z p s m meth c bytes maxL own nm rt) {x y : Int32} (hd : decode bytes pc = .ok (.ior, 1)) (hp : pc + 1 = pc') (k : own_H p e below En n0 h0 ws Q T (mkF m pc' L (.int (x ||| y) :: st))) : own_H p e below En n0 h0 ws Q T (mkF m pc L (.int y :: .int x :: st)) := by
  subst hp
  exact own_st X k (fun t A q => XS.ior A B.1 rfl (hb B.2.2.1 hd) rfl q)
theorem own_lor (X : own_St p l e R s m args below meth c n0 h0 ws T h C S) (B : own_B Z p s m meth c bytes maxL own nm rt) {x y : Int64} (hd : decode bytes pc = .ok (.lor, 1)) (hp : pc + 1 = pc') (k : own_H p e below En n0 h0 ws Q T (mkF m pc' L (.long (x ||| y) :: st))) : own_H p e below En n0 h0 ws Q T (mkF m pc L (.long y :: .long x :: st)) := by
  subst hp
  exact own_st X k (fun t A q => XS.lor A B.1 rfl (hb B.2.2.1 hd) rfl q)
theorem own_ixor (X : own_St p l e R s m args below meth c n0 h0 ws T h C S) (B : own_B Z p s m meth c bytes maxL own nm rt) {x y : Int32} (hd : decode bytes pc = .ok (.ixor, 1)) (hp : pc + 1 = pc') (k : own_H p e below En n0 h0 ws Q T (mkF m pc' L (.int (x ^^^ y) :: st))) : own_H p e below En n0 h0 ws Q T (mkF m pc L (.int y :: .int x :: st)) := by
  subst hp
  exact own_st X k (fun t A q => XS.ixor A B.1 rfl (hb B.2.2.1 hd) rfl q)
theorem own_lxor (X : own_St p l e R s m args below meth c n0 h0 ws T h C S) (B : own_B Z p s m meth c bytes maxL own nm rt) {x y : Int64} (hd : decode bytes pc = .ok (.lxor, 1)) (hp : pc + 1 = pc') (k : own_H p e below En n0 h0 ws Q T (mkF m pc' L (.long (x ^^^ y) :: st))) : own_H p e below En n0 h0 ws Q T (mkF m pc L (.long y :: .long x :: st)) := by
  subst hp
  exact own_st X k (fun t A q => XS.lxor A B.1 rfl (hb B.2.2.1 hd) rfl q)
theorem own_ishl (X : own_St p l e R s m args below meth c n0 h0 ws T h C S) (B : own_B Z p s m meth c bytes maxL own nm rt) {x y : Int32} (hd : decode bytes pc = .ok (.ishl, 1)) (hp : pc + 1 = pc') (k : own_H p e below En n0 h0 ws Q T (mkF m pc' L (.int (x <<< (y &&& 31)) :: st))) : own_H p e below En n0 h0 ws Q T (mkF m pc L (.int y :: .int x :: st)) := by
  subst hp
  exact own_st X k (fun t A q => XS.ishl A B.1 rfl (hb B.2.2.1 hd) rfl q)
theorem own_ishr (X : own_St p l e R s m args below meth c n0 h0 ws T h C S) (B : own_B Z p s m meth c bytes maxL own nm rt) {x y : Int32} (hd : decode bytes pc = .ok (.ishr, 1)) (hp : pc + 1 = pc') (k : own_H p e below En n0 h0 ws Q T (mkF m pc' L (.int (x >>> (y &&& 31)) :: st))) : own_H p e below En n0 h0 ws Q T (mkF m pc L (.int y :: .int x :: st)) := by
  subst hp
  exact own_st X k (fun t A q => XS.ishr A B.1 rfl (hb B.2.2.1 hd) rfl q)
theorem own_iushr (X : own_St p l e R s m args below meth c n0 h0 ws T h C S) (B : own_B Z p s m meth c bytes maxL own nm rt) {x y : Int32} (hd : decode bytes pc = .ok (.iushr, 1)) (hp : pc + 1 = pc') (k : own_H p e below En n0 h0 ws Q T (mkF m pc' L (.int ((x.toUInt32 >>> (y &&& 31).toUInt32).toInt32) :: st))) : own_H p e below En n0 h0 ws Q T (mkF m pc L (.int y :: .int x :: st)) := by
  subst hp
  exact own_st X k (fun t A q => XS.iushr A B.1 rfl (hb B.2.2.1 hd) rfl q)
theorem own_lshl (X : own_St p l e R s m args below meth c n0 h0 ws T h C S) (B : own_B Z p s m meth c bytes maxL own nm rt) {x : Int64} {y : Int32} (hd : decode bytes pc = .ok (.lshl, 1)) (hp : pc + 1 = pc') (k : own_H p e below En n0 h0 ws Q T (mkF m pc' L (.long (x <<< (y &&& 0x3f).toInt64) :: st))) : own_H p e below En n0 h0 ws Q T (mkF m pc L (.int y :: .long x :: st)) := by
  subst hp
  exact own_st X k (fun t A q => XS.lshl A B.1 rfl (hb B.2.2.1 hd) rfl q)
theorem own_lshr (X : own_St p l e R s m args below meth c n0 h0 ws T h C S) (B : own_B Z p s m meth c bytes maxL own nm rt) {x : Int64} {y : Int32} (hd : decode bytes pc = .ok (.lshr, 1)) (hp : pc + 1 = pc') (k : own_H p e below En n0 h0 ws Q T (mkF m pc' L (.long (x >>> (y &&& 0x3f).toInt64) :: st))) : own_H p e below En n0 h0 ws Q T (mkF m pc L (.int y :: .long x :: st)) := by
  subst hp
  exact own_st X k (fun t A q => XS.lshr A B.1 rfl (hb B.2.2.1 hd) rfl q)
theorem own_lushr (X : own_St p l e R s m args below meth c n0 h0 ws T h C S) (B : own_B Z p s m meth c bytes maxL own nm rt) {x : Int64} {y : Int32} (hd : decode bytes pc = .ok (.lushr, 1)) (hp : pc + 1 = pc') (k : own_H p e below En n0 h0 ws Q T (mkF m pc' L (.long ((x.toUInt64 >>> (y &&& 0x3f).toInt64.toUInt64).toInt64) :: st))) : own_H p e below En n0 h0 ws Q T (mkF m pc L (.int y :: .long x :: st)) := by
  subst hp
  exact own_st X k (fun t A q => XS.lushr A B.1 rfl (hb B.2.2.1 hd) rfl q)
theorem own_idiv (X : own_St p l e R s m args below meth c n0 h0 ws T h C S) (B : own_B Z p s m meth c bytes maxL own nm rt) {x y : Int32} (hd : decode bytes pc = .ok (.idiv, 1)) (hy : y ≠ 0) (hp : pc + 1 = pc') (k : own_H p e below En n0 h0 ws Q T (mkF m pc' L (.int (x / y) :: st))) : own_H p e below En n0 h0 ws Q T (mkF m pc L (.int y :: .int x :: st)) := by
  subst hp
  exact own_st X k (fun t A q => XS.idiv A B.1 rfl (hb B.2.2.1 hd) rfl hy q)
theorem own_irem (X : own_St p l e R s m args below meth c n0 h0 ws T h C S) (B : own_B Z p s m meth c bytes maxL own nm rt) {x y : Int32} (hd : decode bytes pc = .ok (.irem, 1)) (hy : y ≠ 0) (hp : pc + 1 = pc') (k : own_H p e below En n0 h0 ws Q T (mkF m pc' L (.int (x % y) :: st))) : own_H p e below En n0 h0 ws Q T (mkF m pc L (.int y :: .int x :: st)) := by
  subst hp
  obtain ⟨locs, Y, -⟩ := X
  exact own_tr (fun t q => iremM Y B.1 (g := mkF m pc L (.int y :: .int x :: st)) rfl (hb B.2.2.1 hd) rfl hy q) k
theorem own_lrem (X : own_St p l e R s m args below meth c n0 h0 ws T h C S) (B : own_B Z p s m meth c bytes maxL own nm rt) {x y : Int64} (hd : decode bytes pc = .ok (.lrem, 1)) (hy : y ≠ 0) (hp : pc + 1 = pc') (k : own_H p e below En n0 h0 ws Q T (mkF m pc' L (.long (x % y) :: st))) : own_H p e below En n0 h0 ws Q T (mkF m pc L (.long y :: .long x :: st)) := by
  subst hp
  exact own_st X k (fun t A q => XS.lrem A B.1 rfl (hb B.2.2.1 hd) rfl hy (by rw [lrem_mod x y]; exact q))
theorem own_i2l (X : own_St p l e R s m args below meth c n0 h0 ws T h C S) (B : own_B Z p s m meth c bytes maxL own nm rt) {x : Int32} (hd : decode bytes pc = .ok (.i2l, 1)) (hp : pc + 1 = pc') (k : own_H p e below En n0 h0 ws Q T (mkF m pc' L (.long x.toInt64 :: st))) : own_H p e below En n0 h0 ws Q T (mkF m pc L (.int x :: st)) := by
  subst hp
  exact own_st X k (fun t A q => XS.i2l A B.1 rfl (hb B.2.2.1 hd) rfl q)
theorem own_l2i (X : own_St p l e R s m args below meth c n0 h0 ws T h C S) (B : own_B Z p s m meth c bytes maxL own nm rt) {x : Int64} (hd : decode bytes pc = .ok (.l2i, 1)) (hp : pc + 1 = pc') (k : own_H p e below En n0 h0 ws Q T (mkF m pc' L (.int x.toInt32 :: st))) : own_H p e below En n0 h0 ws Q T (mkF m pc L (.long x :: st)) := by
  subst hp
  exact own_st X k (fun t A q => XS.l2i A B.1 rfl (hb B.2.2.1 hd) rfl q)
theorem own_lcmp (X : own_St p l e R s m args below meth c n0 h0 ws T h C S) (B : own_B Z p s m meth c bytes maxL own nm rt) {x y : Int64} (hd : decode bytes pc = .ok (.lcmp, 1)) (hp : pc + 1 = pc') (k : own_H p e below En n0 h0 ws Q T (mkF m pc' L (.int (lcmpW x y) :: st))) : own_H p e below En n0 h0 ws Q T (mkF m pc L (.long y :: .long x :: st)) := by
  subst hp
  exact own_st X k (fun t A q => XS.lcmp A B.1 rfl (hb B.2.2.1 hd) rfl q)
theorem own_dup (X : own_St p l e R s m args below meth c n0 h0 ws T h C S) (B : own_B Z p s m meth c bytes maxL own nm rt) {v : Value} (hd : decode bytes pc = .ok (.dup, 1)) (hv : v.category = 1) (hp : pc + 1 = pc') (k : own_H p e below En n0 h0 ws Q T (mkF m pc' L (v :: v :: st))) : own_H p e below En n0 h0 ws Q T (mkF m pc L (v :: st)) := by
  subst hp
  exact own_st X k (fun t A q => XS.dup A B.1 rfl (hb B.2.2.1 hd) rfl hv q)
theorem own_pop (X : own_St p l e R s m args below meth c n0 h0 ws T h C S) (B : own_B Z p s m meth c bytes maxL own nm rt) {v : Value} (hd : decode bytes pc = .ok (.pop, 1)) (hv : v.category = 1) (hp : pc + 1 = pc') (k : own_H p e below En n0 h0 ws Q T (mkF m pc' L st)) : own_H p e below En n0 h0 ws Q T (mkF m pc L (v :: st)) := by
  subst hp
  exact own_st X k (fun t A q => XS.pop A B.1 rfl (hb B.2.2.1 hd) rfl hv q)
theorem own_dup2 (X : own_St p l e R s m args below meth c n0 h0 ws T h C S) (B : own_B Z p s m meth c bytes maxL own nm rt) {x y : Value} (hd : decode bytes pc = .ok (.dup2, 1)) (hx' : x.category = 1) (hy' : y.category = 1) (hp : pc + 1 = pc') (k : own_H p e below En n0 h0 ws Q T (mkF m pc' L (x :: y :: x :: y :: st))) : own_H p e below En n0 h0 ws Q T (mkF m pc L (x :: y :: st)) := by
  subst hp
  exact own_st X k (fun t A q => Jvm.Free.XT.dup2 A B.1 rfl (hb B.2.2.1 hd) rfl hx' hy' q)
theorem own_iinc (X : own_St p l e R s m args below meth c n0 h0 ws T h C S) (B : own_B Z p s m meth c bytes maxL own nm rt) {i : Nat} {cst : Int} {x : Int32} (hd : decode bytes pc = .ok (.iinc i cst, 3)) (hl : L[i]? = some (.val (.int x))) (hl' : storeLocals L i (.int (x + Int32.ofInt cst)) = some L') (hp : pc + 3 = pc') (k : own_H p e below En n0 h0 ws Q T (mkF m pc' L' st)) : own_H p e below En n0 h0 ws Q T (mkF m pc L st) := by
  subst hp
  exact own_st X k (fun t A q => XS.iinc A B.1 rfl (hb B.2.2.1 hd) hl hl' q)
theorem own_goto (X : own_St p l e R s m args below meth c n0 h0 ws T h C S) (B : own_B Z p s m meth c bytes maxL own nm rt) {o : Int} (hd : decode bytes pc = .ok (.goto o, 3)) (ho : 0 ≤ (pc : Int) + o) (hp : ((pc : Int) + o).toNat = pc') (k : own_H p e below En n0 h0 ws Q T (mkF m pc' L st)) : own_H p e below En n0 h0 ws Q T (mkF m pc L st) := own_st X k (fun t A q => XS.goto A B.1 rfl rfl (hb B.2.2.1 hd) ho hp q)
theorem own_icmpT (X : own_St p l e R s m args below meth c n0 h0 ws T h C S) (B : own_B Z p s m meth c bytes maxL own nm rt) {cd : ClassFile.Cond} {o : Int} {x y : Int32} (hd : decode bytes pc = .ok (.if_icmp cd o, 3)) (hc : if_icmp.holds cd x y = true) (ho : 0 ≤ (pc : Int) + o) (hp : ((pc : Int) + o).toNat = pc') (k : own_H p e below En n0 h0 ws Q T (mkF m pc' L st)) : own_H p e below En n0 h0 ws Q T (mkF m pc L (.int y :: .int x :: st)) := own_st X k (fun t A q => XS.icmpYes A B.1 rfl rfl (hb B.2.2.1 hd) rfl hc ho hp q)
theorem own_icmpF (X : own_St p l e R s m args below meth c n0 h0 ws T h C S) (B : own_B Z p s m meth c bytes maxL own nm rt) {cd : ClassFile.Cond} {o : Int} {x y : Int32} (hd : decode bytes pc = .ok (.if_icmp cd o, 3)) (hc : if_icmp.holds cd x y = false) (hp : pc + 3 = pc') (k : own_H p e below En n0 h0 ws Q T (mkF m pc' L st)) : own_H p e below En n0 h0 ws Q T (mkF m pc L (.int y :: .int x :: st)) := by
  subst hp
  exact own_st X k (fun t A q => XS.icmpNo A B.1 rfl (hb B.2.2.1 hd) rfl hc q)
theorem own_ifT (X : own_St p l e R s m args below meth c n0 h0 ws T h C S) (B : own_B Z p s m meth c bytes maxL own nm rt) {cd : ClassFile.Cond} {o : Int} {x : Int32} (hd : decode bytes pc = .ok (.ifCond cd o, 3)) (hc : if_icmp.holds cd x 0 = true) (ho : 0 ≤ (pc : Int) + o) (hp : ((pc : Int) + o).toNat = pc') (k : own_H p e below En n0 h0 ws Q T (mkF m pc' L st)) : own_H p e below En n0 h0 ws Q T (mkF m pc L (.int x :: st)) := own_st X k (fun t A q => XS.ifYes A B.1 rfl rfl (hb B.2.2.1 hd) rfl ((if0 _ _).trans hc) ho hp q)
theorem own_ifF (X : own_St p l e R s m args below meth c n0 h0 ws T h C S) (B : own_B Z p s m meth c bytes maxL own nm rt) {cd : ClassFile.Cond} {o : Int} {x : Int32} (hd : decode bytes pc = .ok (.ifCond cd o, 3)) (hc : if_icmp.holds cd x 0 = false) (hp : pc + 3 = pc') (k : own_H p e below En n0 h0 ws Q T (mkF m pc' L st)) : own_H p e below En n0 h0 ws Q T (mkF m pc L (.int x :: st)) := by
  subst hp
  exact own_st X k (fun t A q => XS.ifNo A B.1 rfl (hb B.2.2.1 hd) rfl ((if0 _ _).trans hc) q)
theorem own_ifnullT (X : own_St p l e R s m args below meth c n0 h0 ws T h C S) (B : own_B Z p s m meth c bytes maxL own nm rt) {o : Int} (hd : decode bytes pc = .ok (.ifnull o, 3)) (ho : 0 ≤ (pc : Int) + o) (hp : ((pc : Int) + o).toNat = pc') (k : own_H p e below En n0 h0 ws Q T (mkF m pc' L st)) : own_H p e below En n0 h0 ws Q T (mkF m pc L (.null :: st)) := own_st X k (fun t A q => XS.ifnullYes A B.1 rfl rfl (hb B.2.2.1 hd) rfl ho hp q)
theorem own_ifnullF (X : own_St p l e R s m args below meth c n0 h0 ws T h C S) (B : own_B Z p s m meth c bytes maxL own nm rt) {o : Int} {b : Addr} (hd : decode bytes pc = .ok (.ifnull o, 3)) (hp : pc + 3 = pc') (k : own_H p e below En n0 h0 ws Q T (mkF m pc' L st)) : own_H p e below En n0 h0 ws Q T (mkF m pc L (.ref b :: st)) := by
  subst hp
  exact own_st X k (fun t A q => XS.ifnullNo A B.1 rfl (hb B.2.2.1 hd) rfl q)
theorem own_ifnonnullT (X : own_St p l e R s m args below meth c n0 h0 ws T h C S) (B : own_B Z p s m meth c bytes maxL own nm rt) {o : Int} {b : Addr} (hd : decode bytes pc = .ok (.ifnonnull o, 3)) (ho : 0 ≤ (pc : Int) + o) (hp : ((pc : Int) + o).toNat = pc') (k : own_H p e below En n0 h0 ws Q T (mkF m pc' L st)) : own_H p e below En n0 h0 ws Q T (mkF m pc L (.ref b :: st)) := own_st X k (fun t A q => XS.ifnonnullYes A B.1 rfl rfl (hb B.2.2.1 hd) rfl ho hp q)
theorem own_ifnonnullF (X : own_St p l e R s m args below meth c n0 h0 ws T h C S) (B : own_B Z p s m meth c bytes maxL own nm rt) {o : Int} (hd : decode bytes pc = .ok (.ifnonnull o, 3)) (hp : pc + 3 = pc') (k : own_H p e below En n0 h0 ws Q T (mkF m pc' L st)) : own_H p e below En n0 h0 ws Q T (mkF m pc L (.null :: st)) := by
  subst hp
  exact own_st X k (fun t A q => XS.ifnonnullNo A B.1 rfl (hb B.2.2.1 hd) rfl q)
theorem own_acmpSame (X : own_St p l e R s m args below meth c n0 h0 ws T h C S) (B : own_B Z p s m meth c bytes maxL own nm rt) {o : Int} {a : Addr} (hd : decode bytes pc = .ok (.if_acmp .eq o, 3)) (ho : 0 ≤ (pc : Int) + o) (hp : ((pc : Int) + o).toNat = pc') (k : own_H p e below En n0 h0 ws Q T (mkF m pc' L st)) : own_H p e below En n0 h0 ws Q T (mkF m pc L (.ref a :: .ref a :: st)) := by
  obtain ⟨locs, Y, -⟩ := X
  exact own_tr (fun t q => Jvm.RoadKit.acmp (g := mkF m pc L (.ref a :: .ref a :: st)) Y B.1 rfl rfl rfl (pc0 := pc) (pc' := pc') (same := true) rfl (hb B.2.2.1 hd) rfl (decide_eq_true rfl) ho (hp.symm.trans (if_pos (show acV ACond.eq true = true from rfl)).symm) q) k
theorem own_iret (X : own_St p l e R s m args below meth c n0 h0 ws T h C S) (B : own_B Z p s m meth c bytes maxL own nm (some .int)) {x : Int32} (hd : decode bytes pc = .ok (.ireturn, 1)) (hc : C ≤ C') (hs : S ≤ S') (q : Q (some (.int x)) h) : own_G p e below s n0 h0 ws Q C' S' T (mkF m pc L (.int x :: st)) :=
  own_ret X B hc hs (v := some (.int x)) (fun h => by cases h) (fun locs fs Y hr => retOut Y B.1 B.2.2.2.2.2.2.1 rfl (Or.inl ⟨rfl, Or.inl rfl, _, rfl⟩) (hb B.2.2.1 hd) hr) q
theorem own_zret (X : own_St p l e R s m args below meth c n0 h0 ws T h C S) (B : own_B Z p s m meth c bytes maxL own nm (some .boolean)) {x : Int32} (hd : decode bytes pc = .ok (.ireturn, 1)) (hc : C ≤ C') (hs : S ≤ S') (hx : x &&& 1 = x) (q : Q (some (.int x)) h) : own_G p e below s n0 h0 ws Q C' S' T (mkF m pc L (.int x :: st)) :=
  own_ret X B hc hs (v := some (.int x)) (fun h => by cases h) (fun locs fs Y hr => retN Y B.1 (t := .boolean) B.2.2.2.2.2.2.1 (by simp) (hb B.2.2.1 hd) (by show ∀ (f : JFrame) (acts : List Action), f.method = m → f.locked = none → f.entered = [] → (doReturn e (T.setTop f) acts (some (.int (x &&& 1)))).1 = T.setFrames fs; rw [hx]; exact hr)) q
theorem own_lret (X : own_St p l e R s m args below meth c n0 h0 ws T h C S) (B : own_B Z p s m meth c bytes maxL own nm (some .long)) {x : Int64} (hd : decode bytes pc = .ok (.lreturn, 1)) (hc : C ≤ C') (hs : S ≤ S') (q : Q (some (.long x)) h) : own_G p e below s n0 h0 ws Q C' S' T (mkF m pc L (.long x :: st)) :=
  own_ret X B hc hs (v := some (.long x)) (fun h => by cases h) (fun locs fs Y hr => retOut Y B.1 B.2.2.2.2.2.2.1 rfl (Or.inr (Or.inl ⟨rfl, rfl, _, rfl⟩)) (hb B.2.2.1 hd) hr) q
theorem own_aret (X : own_St p l e R s m args below meth c n0 h0 ws T h C S) {ft : FieldType} (B : own_B Z p s m meth c bytes maxL own nm (some ft)) {x : Value} (hd : decode bytes pc = .ok (.areturn, 1)) (hft : ft.isReference = true) (hx : x.isRef = true) (hnx : narrow ft x = x) (hc : C ≤ C') (hs : S ≤ S') (q : Q (some x) h) : own_G p e below s n0 h0 ws Q C' S' T (mkF m pc L (x :: st)) :=
  own_ret X B hc hs (v := some x) (fun h => by cases h) (fun locs fs Y hr => retOut Y B.1 B.2.2.2.2.2.2.1 hnx (Or.inr (Or.inr (Or.inr (Or.inr ⟨rfl, hft, hx⟩)))) (hb B.2.2.1 hd) hr) q
theorem own_vret (X : own_St p l e R s m args below meth c n0 h0 ws T h C S) (B : own_B Z p s m meth c bytes maxL own nm none) (hd : decode bytes pc = .ok (.return_, 1)) (hc : C ≤ C') (hs : S ≤ S') (q : Q none h) : own_G p e below s n0 h0 ws Q C' S' T (mkF m pc L []) :=
  own_ret X B hc hs (v := none) (fun _ => rfl) (fun locs fs Y hr => Y.returnOut B.1 B.2.2.2.2.2.2.1 (hb B.2.2.1 hd) hr) q
/-! fields, objects -/
theorem own_lit (X : own_St p l e R s m args below meth c n0 h0 ws T h C S) (B : own_B Z p s m meth c bytes maxL own nm rt) {i : Nat} {v : Int32} (w : (Jvm.Cond.constant own i v).before a0 Z = true) (hd : decode bytes pc = .ok (.ldc i, 2)) (hp : pc + 2 = pc') (k : own_H p e below En n0 h0 ws Q T (mkF m pc' L (.int v :: st))) : own_H p e below En n0 h0 ws Q T (mkF m pc L st) := by
  subst hp
  obtain ⟨locs, Y, -⟩ := X
  exact own_tr (Y.ldcInt B.1 B.2.2.2.2.1 (mvT B.2.1 w) (g := mkF m pc L st) rfl (hb B.2.2.1 hd)) k
theorem own_litL (X : own_St p l e R s m args below meth c n0 h0 ws T h C S) (B : own_B Z p s m meth c bytes maxL own nm rt) {i : Nat} {v : Int64} (w : (Jvm.Cond.constantLong own i v).before a0 Z = true) (hd : decode bytes pc = .ok (.ldc2_w i, 3)) (hp : pc + 3 = pc') (k : own_H p e below En n0 h0 ws Q T (mkF m pc' L (.long v :: st))) : own_H p e below En n0 h0 ws Q T (mkF m pc L st) := by
  subst hp
  obtain ⟨locs, Y, -⟩ := X
  exact own_tr (Y.ldc2Long B.1 B.2.2.2.2.1 (mvT B.2.1 w) (g := mkF m pc L st) rfl (hb B.2.2.1 hd)) k
theorem own_getF (X : own_St p l e R s m args below meth c n0 h0 ws T h C S) (B : own_B Z p s m meth c bytes maxL own nm rt) {i : Nat} {O n d : String} (w : (Jvm.Cond.fieldLink own i O n d).before a0 Z = true) {a : Addr} {v : Value} (F : Fld Z h a O n d v) (hd : decode bytes pc = .ok (.getfield i, 3)) (hp : pc + 3 = pc')
    (k : ∀ T, own_St p l e R s m args below meth c n0 h0 ws T h C S → own_H p e below En n0 h0 ws Q T (mkF m pc' L (v :: st))) : own_H p e below En n0 h0 ws Q T (mkF m pc L (.ref a :: st)) := by
  subst hp
  obtain ⟨locs, Y, N, e, K⟩ := X
  obtain ⟨T1, Y1, e1, st1⟩ := getF Y B.1 B.2.1 B.2.2.2.2.1 (host := "") (Or.inl w) Via.refl e F (g := mkF m pc L (.ref a :: st)) rfl rfl (hb B.2.2.1 hd)
  exact own_tr st1 (k T1 ⟨locs, Y1, N, e1, K⟩)
theorem own_getN (X : own_St p l e R s m args below meth c n0 h0 ws T h C S) (B : own_B Z p s m meth c bytes maxL own nm rt) {i : Nat} {O n d host : String} (w : (Jvm.Cond.fieldLinkNest own i O n d host).before a0 Z = true) {a : Addr} {v : Value} (F : Fld Z h a O n d v) (hd : decode bytes pc = .ok (.getfield i, 3)) (hp : pc + 3 = pc')
    (k : ∀ T, own_St p l e R s m args below meth c n0 h0 ws T h C S → own_H p e below En n0 h0 ws Q T (mkF m pc' L (v :: st))) : own_H p e below En n0 h0 ws Q T (mkF m pc L (.ref a :: st)) := by
  subst hp
  obtain ⟨locs, Y, N, e, K⟩ := X
  obtain ⟨T1, Y1, e1, st1⟩ := getF Y B.1 B.2.1 B.2.2.2.2.1 (host := host) (Or.inr w) Via.refl e F (g := mkF m pc L (.ref a :: st)) rfl rfl (hb B.2.2.1 hd)
  exact own_tr st1 (k T1 ⟨locs, Y1, N, e1, K⟩)
theorem own_putF (X : own_St p l e R s m args below meth c n0 h0 ws T h C S) (B : own_B Z p s m meth c bytes maxL own nm rt) {i kk : Nat} {O n d K0 : String} (w : (Jvm.Cond.fieldLink own i O n d).before a0 Z = true) {a : Addr} {v old : Value} {ty : FieldType} (F : Fld Z h a O n d old) (E : Exa Z h a K0) (Lw : (Jvm.Cond.lays K0 O n d).before a0 Z = true ∨ ((Jvm.Cond.laysFinal K0 O n d).before a0 Z = true ∧ own = O ∧ nm = "<init>")) (wi : (Jvm.Cond.instantiable K0 kk).before a0 Z = true)
    (hty : parseFieldDescriptor d = some ty) (hn : narrow ty v = v) (hf : fits ty v = true) (hw1 : n0 ≤ a) (hw2 : a ∈ ws ∨ h0.size ≤ a) (hd : decode bytes pc = .ok (.putfield i, 3)) (hp : pc + 3 = pc')
    (k : ∀ T h', own_St p l e R s m args below meth c n0 h0 ws T h' C S → Wr h h' a (Jvm.RoadKit.slotOf Z O n d) v → Keep h h' [a] → Exa Z h' a K0 → Fld Z h' a O n d v → own_H p e below En n0 h0 ws Q T (mkF m pc' L st)) : own_H p e below En n0 h0 ws Q T (mkF m pc L (v :: .ref a :: st)) := by
  subst hp
  obtain ⟨locs, Y, N, e, K⟩ := X
  obtain ⟨T1, h1, Y1, e1, W1, st1⟩ := putF Y B.1 B.2.1 B.2.2.2.2.1 (host := "") (Or.inl w) Via.refl e F E (Lw.imp id (fun q => ⟨q.1, q.2.1, B.2.2.2.2.2.1.trans q.2.2⟩)) wi hty hn hf (g := mkF m pc L (v :: .ref a :: st)) rfl rfl (hb B.2.2.1 hd)
  exact own_tr st1 (k T1 h1 ⟨_, Y1, Fr.snoc Y1 N hw1, e1, K.wr W1 hw2⟩ W1 (Keep.of_wr W1) (E.wr W1) (F.same W1))
theorem own_putN (X : own_St p l e R s m args below meth c n0 h0 ws T h C S) (B : own_B Z p s m meth c bytes maxL own nm rt) {i kk : Nat} {O n d K0 host : String} (w : (Jvm.Cond.fieldLinkNest own i O n d host).before a0 Z = true) {a : Addr} {v old : Value} {ty : FieldType} (F : Fld Z h a O n d old) (E : Exa Z h a K0) (Lw : (Jvm.Cond.lays K0 O n d).before a0 Z = true ∨ ((Jvm.Cond.laysFinal K0 O n d).before a0 Z = true ∧ own = O ∧ nm = "<init>")) (wi : (Jvm.Cond.instantiable K0 kk).before a0 Z = true)
    (hty : parseFieldDescriptor d = some ty) (hn : narrow ty v = v) (hf : fits ty v = true) (hw1 : n0 ≤ a) (hw2 : a ∈ ws ∨ h0.size ≤ a) (hd : decode bytes pc = .ok (.putfield i, 3)) (hp : pc + 3 = pc')
    (k : ∀ T h', own_St p l e R s m args below meth c n0 h0 ws T h' C S → Wr h h' a (Jvm.RoadKit.slotOf Z O n d) v → Keep h h' [a] → Exa Z h' a K0 → Fld Z h' a O n d v → own_H p e below En n0 h0 ws Q T (mkF m pc' L st)) : own_H p e below En n0 h0 ws Q T (mkF m pc L (v :: .ref a :: st)) := by
  subst hp
  obtain ⟨locs, Y, N, e, K⟩ := X
  obtain ⟨T1, h1, Y1, e1, W1, st1⟩ := putF Y B.1 B.2.1 B.2.2.2.2.1 (host := host) (Or.inr w) Via.refl e F E (Lw.imp id (fun q => ⟨q.1, q.2.1, B.2.2.2.2.2.1.trans q.2.2⟩)) wi hty hn hf (g := mkF m pc L (v :: .ref a :: st)) rfl rfl (hb B.2.2.1 hd)
  exact own_tr st1 (k T1 h1 ⟨_, Y1, Fr.snoc Y1 N hw1, e1, K.wr W1 hw2⟩ W1 (Keep.of_wr W1) (E.wr W1) (F.same W1))
theorem own_newO (X : own_St p l e R s m args below meth c n0 h0 ws T h C S) (B : own_B Z p s m meth c bytes maxL own nm rt) {i n : Nat} {K0 : String} (w : (Jvm.Cond.classLink own i K0).before a0 Z = true) (wi : (Jvm.Cond.instantiable K0 n).before a0 Z = true) (wz : (Jvm.Cond.initialized K0).before a0 Z = true) (hc : C + 1 ≤ R.cells) (hs : S + n ≤ R.slots) (hd : decode bytes pc = .ok (.new i, 3)) (hp : pc + 3 = pc')
    (k : ∀ T h' a, a = h.size → own_St p l e R s m args below meth c n0 h0 ws T h' (C + 1) (S + n) → Keep h h' [] → Exa Z h' a K0 → (∀ {O nm d : String} {ty : FieldType}, Laid Z a0 K0 O nm d → parseFieldDescriptor d = some ty → Fld Z h' a O nm d (defaultValue ty)) → h0.size ≤ a → own_H p e below En n0 h0 ws Q T (mkF m pc' L (.ref a :: st))) : own_H p e below En n0 h0 ws Q T (mkF m pc L st) := by
  subst hp
  obtain ⟨locs, Y, N, e, K⟩ := X
  obtain ⟨T1, h1, Y1, e1, E1, A1, D1, -, st1⟩ := newO Y B.1 B.2.1 B.2.2.2.2.1 w wi wz e (g := mkF m pc L st) rfl (hb B.2.2.1 hd) hc hs
  exact own_tr st1 (k T1 h1 h.size rfl ⟨_, Y1, N, e1, K.ext E1⟩ ((Keep.refl h []).ext E1) A1 D1 K.1)
theorem own_initO (X : own_St p l e R s m args below meth c n0 h0 ws T h C S) (B : own_B Z p s m meth c bytes maxL own nm rt) {i : Nat} (w1 : (Jvm.Cond.methodLink own i Lib.objectInit).before a0 Z = true) (w2 : (Jvm.Cond.instanceMethod Lib.objectInit).before a0 Z = true) (w3 : (Jvm.Cond.code Lib.objectInit ⟨#[0xb1]⟩ 1 none).before a0 Z = true) (hL : L.size = maxL) {a : Addr} (hf : 1 ≤ R.frames) {W : Nat} (hW : (st.map fun v => v.category).sum ≤ W) (hl : W + 12 ≤ R.locals) (hd : decode bytes pc = .ok (.invokespecial i, 3)) (hp : pc + 3 = pc')
    (k : ∀ T, own_St p l e R s m args below meth c n0 h0 ws T h C S → own_H p e below En n0 h0 ws Q T (mkF m pc' L st)) : own_H p e below En n0 h0 ws Q T (mkF m pc L (.ref a :: st)) := by
  subst hp
  obtain ⟨locs, Y, N, e, K⟩ := X
  obtain ⟨T1, Y1, e1, st1⟩ := initO Y B.1 B.2.1 B.2.2.2.2.1 w1 w2 w3 e (g := mkF m pc L (.ref a :: st)) rfl (hL.trans B.2.2.2.1.symm) rfl (hb B.2.2.1 hd) hf (W := W) (by show 2 * 0 + _ ≤ _; omega) hl
  exact own_tr st1 (k T1 ⟨locs, Y1, N, e1, K⟩)
/-! calls by contract -/
theorem own_callS (X : own_St p l e R s m args below meth c n0 h0 ws T h C S) (B : own_B Z p s m meth c bytes maxL own nm rt) {i : Nat} {y : MethodName} {by2 : ByteArray} {ml2 : Nat} {rt2 : Option FieldType} {rm : Room} {as2 : Array Value} {ws2 : List Addr} {Q2 : Option Value → Heap → Prop} {W : Nat}
    (w1 : (Jvm.Cond.methodLink own i y).before a0 Z = true) (w2 : (Jvm.Cond.static y).before a0 Z = true) (w3 : (Jvm.Cond.initialized y.cls).before a0 Z = true) (w4 : (Jvm.Cond.code y by2 ml2 rt2).before a0 Z = true) (hy : y.cls ≠ "java/lang/invoke/MethodHandle" ∧ y.cls ≠ "java/lang/invoke/VarHandle")
    (M : own_C l Z y by2 ml2 rt2 [] rm as2 h n0 ws2 Q2 rm.cells rm.slots) (hf : rm.frames + 1 ≤ R.frames) (hl : W + (ml2 + 11) + rm.locals ≤ R.locals) (hc : C + rm.cells ≤ R.cells) (hs : S + rm.slots ≤ R.slots) (hL : L.size = maxL)
    {argsL : List Value} {ps : List FieldType} {r : Option FieldType} (hpd : parseMethodDescriptor y.desc = some ⟨ps, r⟩) (hlen : argsL.length = ps.length) (has : argsL.toArray = as2) {stk : List Value} (hstk : stk = argsL.reverse ++ st) (hW : (st.map fun v => v.category).sum ≤ W) (hd : decode bytes pc = .ok (.invokestatic i, 3)) (hp : pc + 3 = pc') (hws : ∀ x ∈ ws2, x ∈ ws ∨ h0.size ≤ x)
    (k : ∀ v T h', own_St p l e R s m args below meth c n0 h0 ws T h' (C + rm.cells) (S + rm.slots) → Keep h h' ws2 → Q2 v h' → own_H p e below En n0 h0 ws Q T (mkF m pc' L (v.toList ++ st))) : own_H p e below En n0 h0 ws Q T (mkF m pc L stk) := by
  subst hp hstk has
  obtain ⟨locs, Y, N, e, K⟩ := X
  obtain ⟨v, _, ⟨T1, L1, k1, n1⟩, -, Y1, ⟨Lc, hQ, l1, y1, z1⟩, st1⟩ := Jvm.LawKit.callS Y B.1 (y := y) B.2.2.2.2.1 (mvT B.2.1 w1) (mvT B.2.1 w2) (mvT B.2.1 w3) (mvT B.2.1 w4) hy (backOf (W := W) (Q := fun v h' L => Fr n0 L ∧ Keep h h' ws2 ∧ Q2 v h') M B.2.1 w4 w3 hf hl) (g := mkF m pc L (argsL.reverse ++ st)) rfl (hL.trans B.2.2.2.1.symm) (argsL := argsL) (rest := st) (lenOf hpd hlen) rfl (by show 2 * 0 + _ ≤ _; omega) (hb B.2.2.1 hd) (fun _ _ => ⟨rfl, e, hc, hs⟩)
  dsimp only [Pt.U, Pt.locs, Pt.cells, Pt.slots] at Y1 l1 y1 z1 st1 hQ
  subst l1 y1 z1
  obtain ⟨N2, K2, q2⟩ := hQ
  exact own_tr st1 (k v T1 _ ⟨_, Y1, Fr.app N N2, rfl, K.trans K2 hws⟩ K2 q2)
theorem own_callV (X : own_St p l e R s m args below meth c n0 h0 ws T h C S) (B : own_B Z p s m meth c bytes maxL own nm rt) {i : Nat} {y : MethodName} {by2 : ByteArray} {ml2 : Nat} {rt2 : Option FieldType} {rm : Room} {as2 : Array Value} {ws2 : List Addr} {Q2 : Option Value → Heap → Prop} {W : Nat} {K0 : String} {a : Addr}
    (w1 : (Jvm.Cond.methodLink own i y).before a0 Z = true) (w2 : (Jvm.Cond.declares y).before a0 Z = true) (w3 : (Jvm.Cond.selects K0 y y).before a0 Z = true) (w5 : (Jvm.Cond.instanceMethod y).before a0 Z = true) (w4 : (Jvm.Cond.code y by2 ml2 rt2).before a0 Z = true) (w6 : (Jvm.Cond.initialized y.cls).before a0 Z = true) (hy : y.cls ≠ "java/lang/invoke/MethodHandle" ∧ y.cls ≠ "java/lang/invoke/VarHandle") (E : Exa Z h a K0)
    (M : own_C l Z y by2 ml2 rt2 [] rm as2 h n0 ws2 Q2 rm.cells rm.slots) (hf : rm.frames + 1 ≤ R.frames) (hl : W + (ml2 + 11) + rm.locals ≤ R.locals) (hc : C + rm.cells ≤ R.cells) (hs : S + rm.slots ≤ R.slots) (hL : L.size = maxL)
    {argsL : List Value} {ps : List FieldType} {r : Option FieldType} (hpd : parseMethodDescriptor y.desc = some ⟨ps, r⟩) (hlen : argsL.length = ps.length) (has : (.ref a :: argsL).toArray = as2) {stk : List Value} (hstk : stk = argsL.reverse ++ .ref a :: st) (hW : (st.map fun v => v.category).sum ≤ W) (hd : decode bytes pc = .ok (.invokevirtual i, 3)) (hp : pc + 3 = pc') (hws : ∀ x ∈ ws2, x ∈ ws ∨ h0.size ≤ x)
    (k : ∀ v T h', own_St p l e R s m args below meth c n0 h0 ws T h' (C + rm.cells) (S + rm.slots) → Keep h h' ws2 → Q2 v h' → own_H p e below En n0 h0 ws Q T (mkF m pc' L (v.toList ++ st))) : own_H p e below En n0 h0 ws Q T (mkF m pc L stk) := by
  subst hp hstk has
  obtain ⟨locs, Y, N, e, K⟩ := X
  obtain ⟨cq, kq, qa, qb, qc⟩ := isOf (T := T) B.2.1 e E
  obtain ⟨v, _, ⟨T1, L1, k1, n1⟩, -, Y1, ⟨Lc, hQ, l1, y1, z1⟩, st1⟩ := Y.virtualBack B.1 (y := y) (z := y) B.2.2.2.2.1 (mvT B.2.1 w1) (mvT B.2.1 w2) (notFace_of_selects (args := #[]) (mvT B.2.1 w3)) (mvT B.2.1 w3) (mvT B.2.1 w5) hy (backOf (W := W) (Q := fun v h' L => Fr n0 L ∧ Keep h h' ws2 ∧ Q2 v h') M B.2.1 w4 w6 hf hl) qa qc (g := mkF m pc L (argsL.reverse ++ .ref a :: st)) rfl (hL.trans B.2.2.2.1.symm) (Steps.refl _) (argsL := argsL) (rest := st) (lenOf hpd hlen) rfl (by show 2 * 0 + _ ≤ _; omega) (hb B.2.2.1 hd) (fun _ _ => ⟨rfl, e, hc, hs⟩)
  dsimp only [Pt.U, Pt.locs, Pt.cells, Pt.slots] at Y1 l1 y1 z1 st1 hQ
  subst l1 y1 z1
  obtain ⟨N2, K2, q2⟩ := hQ
  exact own_tr (fun t q => st1.trans q) (k v T1 _ ⟨_, Y1, Fr.app N N2, rfl, K.trans K2 hws⟩ K2 q2)
theorem own_callI (X : own_St p l e R s m args below meth c n0 h0 ws T h C S) (B : own_B Z p s m meth c bytes maxL own nm rt) {i : Nat} {y : MethodName} {by2 : ByteArray} {ml2 : Nat} {rm : Room} {as2 : Array Value} {ws2 : List Addr} {Q2 : Option Value → Heap → Prop} {W : Nat} {a : Addr} (hy1 : y.name = "<init>")
    (w1 : (Jvm.Cond.methodLink own i y).before a0 Z = true) (w5 : (Jvm.Cond.instanceMethod y).before a0 Z = true) (w4 : (Jvm.Cond.code y by2 ml2 none).before a0 Z = true) (w6 : (Jvm.Cond.initialized y.cls).before a0 Z = true) (hy : y.cls ≠ "java/lang/invoke/MethodHandle" ∧ y.cls ≠ "java/lang/invoke/VarHandle")
    (M : own_C l Z y by2 ml2 none [] rm as2 h n0 ws2 Q2 rm.cells rm.slots) (hf : rm.frames + 1 ≤ R.frames) (hl : W + (ml2 + 11) + rm.locals ≤ R.locals) (hc : C + rm.cells ≤ R.cells) (hs : S + rm.slots ≤ R.slots) (hL : L.size = maxL)
    {argsL : List Value} {ps : List FieldType} {r : Option FieldType} (hpd : parseMethodDescriptor y.desc = some ⟨ps, r⟩) (hlen : argsL.length = ps.length) (has : (.ref a :: argsL).toArray = as2) {stk : List Value} (hstk : stk = argsL.reverse ++ .ref a :: st) (hW : (st.map fun v => v.category).sum ≤ W) (hd : decode bytes pc = .ok (.invokespecial i, 3)) (hp : pc + 3 = pc') (hws : ∀ x ∈ ws2, x ∈ ws ∨ h0.size ≤ x)
    (k : ∀ v T h', own_St p l e R s m args below meth c n0 h0 ws T h' (C + rm.cells) (S + rm.slots) → Keep h h' ws2 → Q2 v h' → own_H p e below En n0 h0 ws Q T (mkF m pc' L (v.toList ++ st))) : own_H p e below En n0 h0 ws Q T (mkF m pc L stk) := by
  subst hp hstk has
  obtain ⟨locs, Y, N, e, K⟩ := X
  obtain ⟨v, _, ⟨T1, L1, k1, n1⟩, -, Y1, ⟨Lc, hQ, l1, y1, z1⟩, st1⟩ := Y.specialBack B.1 (y := y) hy1 B.2.2.2.2.1 (mvT B.2.1 w1) (mvT B.2.1 w5) (mvT B.2.1 w4) hy (backOf (W := W) (Q := fun v h' L => Fr n0 L ∧ Keep h h' ws2 ∧ Q2 v h') M B.2.1 w4 w6 hf hl) (g := mkF m pc L (argsL.reverse ++ .ref a :: st)) rfl (hL.trans B.2.2.2.1.symm) (Steps.refl _) (a := a) (argsL := argsL) (rest := st) (lenOf hpd hlen) rfl (by show 2 * 0 + _ ≤ _; omega) (hb B.2.2.1 hd) (fun _ _ => ⟨rfl, e, hc, hs⟩)
  dsimp only [Pt.U, Pt.locs, Pt.cells, Pt.slots] at Y1 l1 y1 z1 st1 hQ
  subst l1 y1 z1
  obtain ⟨N2, K2, q2⟩ := hQ
  exact own_tr (fun t q => st1.trans q) (k v T1 _ ⟨_, Y1, Fr.app N N2, rfl, K.trans K2 hws⟩ K2 q2)
/-! arrays of ints and of longs, by a function of the place -/
theorem own_ix {j : Int32} {i n : Nat} (hj : j.toInt = (i : Int)) (hi : i < n) : ¬ (j < 0 ∨ n ≤ j.toNatClampNeg) ∧ j.toNatClampNeg = i := by
  have e : j.toNatClampNeg = i := by show j.toInt.toNat = i; omega
  refine ⟨?_, e⟩
  rw [e, Int32.lt_iff_toInt_lt]
  have : (0 : Int32).toInt = 0 := rfl
  omega
theorem own_ne {a b : Addr} (lt : a < h.size) (g : b = h.size) : a ≠ b := by
  rw [g]
  exact Nat.ne_of_lt lt
theorem own_up_same {α : Type} (f : Nat → α) (i : Nat) (x : α) : (fun k => if k = i then x else f k) i = x := by simp
def own_AJ (Z : State) (h : Heap) (a : Addr) (n : Nat) (f : Nat → Int64) : Prop := ∃ cl : Cell, Arr Z h a cl .long ∧ cl.slots.size = n ∧ n < 2147483648 ∧ ∀ i, i < n → cl.slots[i]? = some (.long (f i))
theorem own_AJ.lt {a : Addr} {n : Nat} {f : Nat → Int64} (A : own_AJ Z h a n f) : a < h.size := by
  obtain ⟨cl, A, -⟩ := A
  exact A.lt
theorem own_AJ.keep {a : Addr} {n : Nat} {f : Nat → Int64} (A : own_AJ Z h a n f) {w2 : List Addr} (K : Keep h h' w2) (q : a ∉ w2) : own_AJ Z h' a n f := by
  obtain ⟨cl, A, r⟩ := A
  exact ⟨cl, ⟨K.2.1 _ _ A.1 q, A.2⟩, r⟩
theorem own_AJ.congr {a : Addr} {n : Nat} {f g : Nat → Int64} (A : own_AJ Z h a n f) (q : ∀ i, i < n → f i = g i) : own_AJ Z h a n g := by
  obtain ⟨cl, A, r1, r2, r3⟩ := A
  exact ⟨cl, A, r1, r2, fun i hi => by rw [r3 i hi, q i hi]⟩
theorem own_newJ (X : own_St p l e R s m args below meth c n0 h0 ws T h C S) (B : own_B Z p s m meth c bytes maxL own nm rt) (w : (Jvm.Cond.arrayClass .long).before a0 Z = true) {j : Int32} {n cap : Nat} (hj : j.toInt = (n : Int)) (hcap : n ≤ cap) (hb8 : cap * 8 ≤ 536870912) (hc : C + 1 ≤ R.cells) (hs : S + cap ≤ R.slots) (hd : decode bytes pc = .ok (.newarray .long, 2)) (hp : pc + 2 = pc')
    (k : ∀ T h' a, a = h.size → own_St p l e R s m args below meth c n0 h0 ws T h' (C + 1) (S + cap) → Keep h h' [] → own_AJ Z h' a n (fun _ => 0) → h0.size ≤ a → own_H p e below En n0 h0 ws Q T (mkF m pc' L (.ref a :: st))) : own_H p e below En n0 h0 ws Q T (mkF m pc L (.int j :: st)) := by
  subst hp
  obtain ⟨locs, Y, N, e, K⟩ := X
  have hn : ¬ j < 0 := by rw [Int32.lt_iff_toInt_lt]; have : (0 : Int32).toInt = 0 := rfl; omega
  have hnn : j.toNatClampNeg = n := by show j.toInt.toNat = n; omega
  obtain ⟨T1, h1, cA, Y1, e1, E1, A1, st1⟩ := newP Y B.1 B.2.1 (aty := .long) w e (g := mkF m pc L (.int j :: st)) rfl (hb B.2.2.1 hd) rfl hn (cap := cap) (hnn ▸ hcap) hb8 hc hs
  refine own_tr st1 (k T1 h1 h.size rfl ⟨_, Y1, N, e1, K.ext E1⟩ ((Keep.refl h []).ext E1) ⟨_, A1, ?_, by omega, ?_⟩ K.1)
  · rw [sz_new, hnn]
  · intro i hi
    show (Array.replicate j.toNatClampNeg (defaultValue .long))[i]? = _
    rw [hnn, Array.getElem?_replicate, if_pos hi]
    rfl
theorem own_laload (X : own_St p l e R s m args below meth c n0 h0 ws T h C S) (B : own_B Z p s m meth c bytes maxL own nm rt) {a : Addr} {n i : Nat} {f : Nat → Int64} {j : Int32} (A : own_AJ Z h a n f) (hj : j.toInt = (i : Int)) (hi : i < n) (hd : decode bytes pc = .ok (.laload, 1)) (hp : pc + 1 = pc') (k : own_H p e below En n0 h0 ws Q T (mkF m pc' L (.long (f i) :: st))) : own_H p e below En n0 h0 ws Q T (mkF m pc L (.int j :: .ref a :: st)) := by
  subst hp
  obtain ⟨locs, Y, N, e, K⟩ := X
  obtain ⟨cl, A, r1, r2, r3⟩ := A
  obtain ⟨q1, q2⟩ := own_ix hj (r1.symm ▸ hi : i < cl.slots.size)
  exact own_tr (fun t q => Y.laload B.1 (j := j) (v := .long (f i)) (by rw [e]; exact A.1) (State.isArrayOf_alike B.2.1.alike A.2.1) A.2.2 q1 (by rw [q2]; exact r3 i hi) (g := mkF m pc L (.int j :: .ref a :: st)) rfl rfl (hb B.2.2.1 hd) t q) k
theorem own_lenJ (X : own_St p l e R s m args below meth c n0 h0 ws T h C S) (B : own_B Z p s m meth c bytes maxL own nm rt) {a : Addr} {n : Nat} {f : Nat → Int64} (A : own_AJ Z h a n f) (hd : decode bytes pc = .ok (.arraylength, 1)) (hp : pc + 1 = pc') (k : own_H p e below En n0 h0 ws Q T (mkF m pc' L (.int (Int32.ofNat n) :: st))) : own_H p e below En n0 h0 ws Q T (mkF m pc L (.ref a :: st)) := by
  subst hp
  obtain ⟨locs, Y, N, e, K⟩ := X
  obtain ⟨cl, A, r1, r2, r3⟩ := A
  subst r1
  exact own_tr (fun t q => Y.arraylength B.1 (by rw [e]; exact A.1) (State.isArrayOf_alike B.2.1.alike A.2.1) (g := mkF m pc L (.ref a :: st)) rfl rfl (hb B.2.2.1 hd) t q) k
theorem own_lastore (X : own_St p l e R s m args below meth c n0 h0 ws T h C S) (B : own_B Z p s m meth c bytes maxL own nm rt) {a : Addr} {n i : Nat} {f : Nat → Int64} {j : Int32} {x : Int64} (A : own_AJ Z h a n f) (hj : j.toInt = (i : Int)) (hi : i < n) (hw1 : n0 ≤ a) (hw2 : a ∈ ws ∨ h0.size ≤ a) (hd : decode bytes pc = .ok (.lastore, 1)) (hp : pc + 1 = pc')
    (k : ∀ T h', own_St p l e R s m args below meth c n0 h0 ws T h' C S → Keep h h' [a] → own_AJ Z h' a n (fun k => if k = i then x else f k) → own_H p e below En n0 h0 ws Q T (mkF m pc' L st)) : own_H p e below En n0 h0 ws Q T (mkF m pc L (.long x :: .int j :: .ref a :: st)) := by
  subst hp
  obtain ⟨locs, Y, N, e, K⟩ := X
  obtain ⟨cl, A, r1, r2, r3⟩ := A
  obtain ⟨q1, q2⟩ := own_ix hj (r1.symm ▸ hi : i < cl.slots.size)
  obtain ⟨T1, h1, Y1, e1, W1, st1⟩ := stJ Y B.1 B.2.1 e A (j := j) (x := x) q1 (g := mkF m pc L (.long x :: .int j :: .ref a :: st)) rfl rfl (hb B.2.2.1 hd)
  refine own_tr st1 (k T1 h1 ⟨_, Y1, Fr.snoc Y1 N hw1, e1, K.wr W1 hw2⟩ (Keep.of_wr W1) ⟨_, A.same W1, ?_, r2, ?_⟩)
  · rw [sz_set, r1]
  · intro u hu
    show (cl.slots.setIfInBounds j.toNatClampNeg (.long x))[u]? = some (.long (if u = i then x else f u))
    rw [q2, Array.getElem?_setIfInBounds]
    by_cases hui : u = i
    · subst hui; rw [if_pos rfl, if_pos (r1.symm ▸ hi), if_pos rfl]
    · rw [if_neg (fun q => hui q.symm), if_neg hui]; exact r3 u hu
def own_AI (Z : State) (h : Heap) (a : Addr) (n : Nat) (f : Nat → Int32) : Prop := ∃ cl : Cell, Arr Z h a cl .int ∧ cl.slots.size = n ∧ n < 2147483648 ∧ ∀ i, i < n → cl.slots[i]? = some (.int (f i))
theorem own_AI.lt {a : Addr} {n : Nat} {f : Nat → Int32} (A : own_AI Z h a n f) : a < h.size := by
  obtain ⟨cl, A, -⟩ := A
  exact A.lt
theorem own_AI.keep {a : Addr} {n : Nat} {f : Nat → Int32} (A : own_AI Z h a n f) {w2 : List Addr} (K : Keep h h' w2) (q : a ∉ w2) : own_AI Z h' a n f := by
  obtain ⟨cl, A, r⟩ := A
  exact ⟨cl, ⟨K.2.1 _ _ A.1 q, A.2⟩, r⟩
theorem own_AI.congr {a : Addr} {n : Nat} {f g : Nat → Int32} (A : own_AI Z h a n f) (q : ∀ i, i < n → f i = g i) : own_AI Z h a n g := by
  obtain ⟨cl, A, r1, r2, r3⟩ := A
  exact ⟨cl, A, r1, r2, fun i hi => by rw [r3 i hi, q i hi]⟩
theorem own_newI (X : own_St p l e R s m args below meth c n0 h0 ws T h C S) (B : own_B Z p s m meth c bytes maxL own nm rt) (w : (Jvm.Cond.arrayClass .int).before a0 Z = true) {j : Int32} {n cap : Nat} (hj : j.toInt = (n : Int)) (hcap : n ≤ cap) (hb8 : cap * 8 ≤ 536870912) (hc : C + 1 ≤ R.cells) (hs : S + cap ≤ R.slots) (hd : decode bytes pc = .ok (.newarray .int, 2)) (hp : pc + 2 = pc')
    (k : ∀ T h' a, a = h.size → own_St p l e R s m args below meth c n0 h0 ws T h' (C + 1) (S + cap) → Keep h h' [] → own_AI Z h' a n (fun _ => 0) → h0.size ≤ a → own_H p e below En n0 h0 ws Q T (mkF m pc' L (.ref a :: st))) : own_H p e below En n0 h0 ws Q T (mkF m pc L (.int j :: st)) := by
  subst hp
  obtain ⟨locs, Y, N, e, K⟩ := X
  have hn : ¬ j < 0 := by rw [Int32.lt_iff_toInt_lt]; have : (0 : Int32).toInt = 0 := rfl; omega
  have hnn : j.toNatClampNeg = n := by show j.toInt.toNat = n; omega
  obtain ⟨T1, h1, cA, Y1, e1, E1, A1, st1⟩ := newP Y B.1 B.2.1 (aty := .int) w e (g := mkF m pc L (.int j :: st)) rfl (hb B.2.2.1 hd) rfl hn (cap := cap) (hnn ▸ hcap) hb8 hc hs
  refine own_tr st1 (k T1 h1 h.size rfl ⟨_, Y1, N, e1, K.ext E1⟩ ((Keep.refl h []).ext E1) ⟨_, A1, ?_, by omega, ?_⟩ K.1)
  · rw [sz_new, hnn]
  · intro i hi
    show (Array.replicate j.toNatClampNeg (defaultValue .int))[i]? = _
    rw [hnn, Array.getElem?_replicate, if_pos hi]
    rfl
theorem own_iaload (X : own_St p l e R s m args below meth c n0 h0 ws T h C S) (B : own_B Z p s m meth c bytes maxL own nm rt) {a : Addr} {n i : Nat} {f : Nat → Int32} {j : Int32} (A : own_AI Z h a n f) (hj : j.toInt = (i : Int)) (hi : i < n) (hd : decode bytes pc = .ok (.iaload, 1)) (hp : pc + 1 = pc') (k : own_H p e below En n0 h0 ws Q T (mkF m pc' L (.int (f i) :: st))) : own_H p e below En n0 h0 ws Q T (mkF m pc L (.int j :: .ref a :: st)) := by
  subst hp
  obtain ⟨locs, Y, N, e, K⟩ := X
  obtain ⟨cl, A, r1, r2, r3⟩ := A
  obtain ⟨q1, q2⟩ := own_ix hj (r1.symm ▸ hi : i < cl.slots.size)
  exact own_tr (fun t q => Y.iaload B.1 (j := j) (v := .int (f i)) (by rw [e]; exact A.1) (State.isArrayOf_alike B.2.1.alike A.2.1) A.2.2 q1 (by rw [q2]; exact r3 i hi) (g := mkF m pc L (.int j :: .ref a :: st)) rfl rfl (hb B.2.2.1 hd) t q) k
theorem own_lenI (X : own_St p l e R s m args below meth c n0 h0 ws T h C S) (B : own_B Z p s m meth c bytes maxL own nm rt) {a : Addr} {n : Nat} {f : Nat → Int32} (A : own_AI Z h a n f) (hd : decode bytes pc = .ok (.arraylength, 1)) (hp : pc + 1 = pc') (k : own_H p e below En n0 h0 ws Q T (mkF m pc' L (.int (Int32.ofNat n) :: st))) : own_H p e below En n0 h0 ws Q T (mkF m pc L (.ref a :: st)) := by
  subst hp
  obtain ⟨locs, Y, N, e, K⟩ := X
  obtain ⟨cl, A, r1, r2, r3⟩ := A
  subst r1
  exact own_tr (fun t q => Y.arraylength B.1 (by rw [e]; exact A.1) (State.isArrayOf_alike B.2.1.alike A.2.1) (g := mkF m pc L (.ref a :: st)) rfl rfl (hb B.2.2.1 hd) t q) k
theorem own_iastore (X : own_St p l e R s m args below meth c n0 h0 ws T h C S) (B : own_B Z p s m meth c bytes maxL own nm rt) {a : Addr} {n i : Nat} {f : Nat → Int32} {j : Int32} {x : Int32} (A : own_AI Z h a n f) (hj : j.toInt = (i : Int)) (hi : i < n) (hw1 : n0 ≤ a) (hw2 : a ∈ ws ∨ h0.size ≤ a) (hd : decode bytes pc = .ok (.iastore, 1)) (hp : pc + 1 = pc')
    (k : ∀ T h', own_St p l e R s m args below meth c n0 h0 ws T h' C S → Keep h h' [a] → own_AI Z h' a n (fun k => if k = i then x else f k) → own_H p e below En n0 h0 ws Q T (mkF m pc' L st)) : own_H p e below En n0 h0 ws Q T (mkF m pc L (.int x :: .int j :: .ref a :: st)) := by
  subst hp
  obtain ⟨locs, Y, N, e, K⟩ := X
  obtain ⟨cl, A, r1, r2, r3⟩ := A
  obtain ⟨q1, q2⟩ := own_ix hj (r1.symm ▸ hi : i < cl.slots.size)
  obtain ⟨T1, h1, Y1, e1, W1, st1⟩ := stI Y B.1 B.2.1 e A (j := j) (x := x) q1 (g := mkF m pc L (.int x :: .int j :: .ref a :: st)) rfl rfl (hb B.2.2.1 hd)
  refine own_tr st1 (k T1 h1 ⟨_, Y1, Fr.snoc Y1 N hw1, e1, K.wr W1 hw2⟩ (Keep.of_wr W1) ⟨_, A.same W1, ?_, r2, ?_⟩)
  · rw [sz_set, r1]
  · intro u hu
    show (cl.slots.setIfInBounds j.toNatClampNeg (.int x))[u]? = some (.int (if u = i then x else f u))
    rw [q2, Array.getElem?_setIfInBounds]
    by_cases hui : u = i
    · subst hui; rw [if_pos rfl, if_pos (r1.symm ▸ hi), if_pos rfl]
    · rw [if_neg (fun q => hui q.symm), if_neg hui]; exact r3 u hu
end OwnKit
theorem own_sz {p : Program} {l : Launch} {e : Env} {R : Room} {s : State} {m : MethodId} {args : Array Value} {below : List Frame} {meth : Method} {c : Code} {n0 : Nat} {h0 h : Heap} {ws : List Addr} {T : State} {C S : Nat} (X : own_St p l e R s m args below meth c n0 h0 ws T h C S) (Z0 : n0 ≤ h0.size) : n0 ≤ h.size := by
  obtain ⟨_, _, _, _, K⟩ := X
  exact Nat.le_trans Z0 K.1
theorem own_nat {n : Nat} (h : n < 2147483648) : (Int32.ofNat n).toInt = (n : Int) := len_toInt (by omega)
theorem own_ltN {i n : Nat} (hi : i < 2147483648) (hn : n < 2147483648) : (Int32.ofNat i < Int32.ofNat n) ↔ i < n := by
  rw [Int32.lt_iff_toInt_lt, own_nat hi, own_nat hn]; omega
theorem own_eqN {i n : Nat} (hi : i < 2147483648) (hn : n < 2147483648) : (Int32.ofNat i = Int32.ofNat n) ↔ i = n := by
  rw [← Int32.toInt_inj, own_nat hi, own_nat hn]; omega
theorem own_succ (i : Nat) : Int32.ofNat i + (1 : Int32) = Int32.ofNat (i + 1) := by
  rw [← Int32.toBitVec_inj]; simp [Int32.ofNat_add]
theorem own_and3 (x : Int32) : ∃ n : Nat, n < 4 ∧ x &&& (3 : Int32) = Int32.ofNat n := by
  have h := c_mask x 3 2 (by decide) (by decide)
  have hp : ((2 ^ 2 : Nat) : Int) = 4 := rfl
  rw [hp] at h
  refine ⟨(x.toInt % 4).toNat, by omega, ?_⟩
  rw [← Int32.toInt_inj, own_nat (by omega), h]; omega
theorem own_add (a b : Nat) : Int32.ofNat a + Int32.ofNat b = Int32.ofNat (a + b) := by
  rw [← Int32.toBitVec_inj]; simp [Int32.ofNat_add]
theorem own_mul (a b : Nat) : Int32.ofNat a * Int32.ofNat b = Int32.ofNat (a * b) := by
  rw [← Int32.toBitVec_inj]; simp [Int32.ofNat_mul]
theorem own_sub {a b : Nat} (ha : a < 2147483648) (h : b ≤ a) : Int32.ofNat a - Int32.ofNat b = Int32.ofNat (a - b) := by
  have h1 := c_isub (Int32.ofNat a) (Int32.ofNat b)
  have h2 := rng32 (Int32.ofNat a - Int32.ofNat b)
  rw [own_nat ha, own_nat (by omega : b < 2147483648)] at h1
  rw [← Int32.toInt_inj, own_nat (by omega : a - b < 2147483648)]
  omega
theorem own_sub_neg {a b : Nat} (hb : b < 2147483648) (h : a < b) : Int32.ofNat a - Int32.ofNat b < 0 := by
  have h1 := c_isub (Int32.ofNat a) (Int32.ofNat b)
  have h2 := rng32 (Int32.ofNat a - Int32.ofNat b)
  rw [own_nat (by omega : a < 2147483648), own_nat hb] at h1
  rw [Int32.lt_iff_toInt_lt]
  have h0 : (0 : Int32).toInt = 0 := rfl
  omega
theorem own_nn {a : Nat} (ha : a < 2147483648) : ¬ Int32.ofNat a < 0 := by
  rw [Int32.lt_iff_toInt_lt, own_nat ha]
  have h0 : (0 : Int32).toInt = 0 := rfl
  omega
theorem own_pred (k : Nat) : Int32.ofNat (k + 1) - (1 : Int32) = Int32.ofNat k := by
  rw [← own_succ, ← Int32.toBitVec_inj]; simp
theorem own_dec (k : Nat) : Int32.ofNat k + (-1 : Int32) = Int32.ofNat k - (1 : Int32) := by
  rw [Int32.sub_eq_add_neg]
theorem own_mask (x m : Int32) (k : Nat) (hk : k ≤ 31) (hm : m.toBitVec.toNat = 2 ^ k - 1) : ∃ n : Nat, n < 2 ^ k ∧ x &&& m = Int32.ofNat n := by
  have h := c_mask x m k hk hm
  have h31 : 2 ^ k ≤ 2147483648 := Nat.le_trans (Nat.pow_le_pow_right (by decide) hk) (by decide)
  have hp : 0 < 2 ^ k := Nat.pow_pos (by decide)
  have hpos : (0 : Int) ≤ x.toInt % ((2 ^ k : Nat) : Int) := Int.emod_nonneg _ (by omega)
  have hlt : x.toInt % ((2 ^ k : Nat) : Int) < ((2 ^ k : Nat) : Int) := Int.emod_lt_of_pos _ (by omega)
  refine ⟨(x.toInt % ((2 ^ k : Nat) : Int)).toNat, by omega, ?_⟩
  rw [← Int32.toInt_inj, own_nat (by omega), h]; omega
def own_bt (f : Nat → Int64) (p : Nat) : Int64 := if (f (p / 64)).toBitVec.getLsbD (p % 64) then 1 else 0
def own_src (a b c : Int64) (i : Nat) : Int64 := if i = 0 then a else if i = 1 then b else if i = 2 then c else if i = 3 then c ^^^ (-1 : Int64) else b ^^^ c
def own_tgt (a b c : Int64) (i : Nat) : Int64 := if i = 0 then a ^^^ (-1 : Int64) else if i = 1 then b ^^^ (-1 : Int64) else if i = 2 then c ^^^ (-1 : Int64) else if i = 3 then a ^^^ c else (a ^^^ b) ^^^ (-1 : Int64)
theorem own_ushr6 (p : Nat) (h : p < 2147483648) : ((Int32.ofNat p).toUInt32 >>> ((6 : Int32) &&& 31).toUInt32).toInt32 = Int32.ofNat (p / 64) := by
  have h1 := c_iushr (Int32.ofNat p) 6 6 (by decide) (by decide)
  rw [own_nat h] at h1
  rw [← Int32.toInt_inj, h1, own_nat (by omega)]
  have hp : ((2 ^ 6 : Nat) : Int) = 64 := rfl
  rw [hp]; omega
theorem own_and63 (p : Nat) (h : p < 2147483648) : Int32.ofNat p &&& (63 : Int32) = Int32.ofNat (p % 64) := by
  have h1 := c_mask (Int32.ofNat p) 63 6 (by decide) (by decide)
  rw [own_nat h] at h1
  rw [← Int32.toInt_inj, h1, own_nat (by omega)]
  have hp : ((2 ^ 6 : Nat) : Int) = 64 := rfl
  rw [hp]; omega
theorem own_pred1 {n : Nat} (h : 0 < n) : Int32.ofNat n - (1 : Int32) = Int32.ofNat (n - 1) := by
  obtain ⟨k, rfl⟩ : ∃ k, n = k + 1 := ⟨n - 1, by omega⟩
  exact own_pred k
theorem own_mod320 (x : Int32) : ∃ n : Nat, n < 320 ∧ (x &&& (2147483647 : Int32)) % (320 : Int32) = Int32.ofNat n := by
  have h := c_mask x 2147483647 31 (by decide) (by decide)
  have hp : ((2 ^ 31 : Nat) : Int) = 2147483648 := rfl
  rw [hp] at h
  have h2 := (c_irem (x &&& 2147483647) 320 320 rfl).1 (by omega)
  refine ⟨((x &&& (2147483647 : Int32)).toInt % 320).toNat, by omega, ?_⟩
  rw [← Int32.toInt_inj, own_nat (by omega), h2]; omega
/-! bits of a long under the shifts -/
theorem own_sh_u (s : Nat) (h : s < 64) : (Int32.ofNat s &&& 0x3f).toInt64.toUInt64.toBitVec = BitVec.ofNat 64 s := by
  have hk : (Int32.ofNat s).toBitVec.toNat % 64 = s := by
    show (BitVec.ofNat 32 s).toNat % 64 = s
    rw [BitVec.toNat_ofNat]; omega
  exact (sm64 (Int32.ofNat s) s hk).1
theorem own_sh_i (s : Nat) (h : s < 64) : (Int32.ofNat s &&& 0x3f).toInt64.toBitVec = BitVec.ofNat 64 s := own_sh_u s h
theorem own_bit_shr (x : Int64) (s i : Nat) (h : s < 64) : ((x.toUInt64 >>> (Int32.ofNat s &&& 0x3f).toInt64.toUInt64).toInt64).toBitVec.getLsbD i = x.toBitVec.getLsbD (s + i) := by
  show ((x.toUInt64 >>> (Int32.ofNat s &&& 0x3f).toInt64.toUInt64).toBitVec).getLsbD i = _
  rw [UInt64.toBitVec_shiftRight, own_sh_u s h]
  show (x.toBitVec >>> (BitVec.ofNat 64 s % 64)).getLsbD i = _
  have e : (BitVec.ofNat 64 s % (64 : BitVec 64)).toNat = s := by
    rw [BitVec.toNat_umod, BitVec.toNat_ofNat]
    show s % 2 ^ 64 % 64 = s
    omega
  rw [BitVec.ushiftRight_eq', e, BitVec.getLsbD_ushiftRight]
theorem own_bit_shl (x : Int64) (s i : Nat) (h : s < 64) (hi : i < 64) : (x <<< (Int32.ofNat s &&& 0x3f).toInt64).toBitVec.getLsbD i = (decide (s ≤ i) && x.toBitVec.getLsbD (i - s)) := by
  rw [Int64.toBitVec_shiftLeft, own_sh_i s h]
  have e : ((BitVec.ofNat 64 s).smod 64).toNat = s := smod64 s h
  rw [BitVec.shiftLeft_eq', e, BitVec.getLsbD_shiftLeft]
  by_cases hsi : s ≤ i
  · have : ¬ i < s := by omega
    simp [hi, hsi, this]
  · have : i < s := by omega
    simp [hi, hsi, this]
theorem own_bit1 (x : Int64) (s : Nat) (h : s < 64) : (x.toUInt64 >>> (Int32.ofNat s &&& 0x3f).toInt64.toUInt64).toInt64 &&& (1 : Int64) = if x.toBitVec.getLsbD s then 1 else 0 := by
  have hb := own_bit_shr x s 0 h
  rw [Nat.add_zero] at hb
  rw [← hb]
  generalize (x.toUInt64 >>> (Int32.ofNat s &&& 0x3f).toInt64.toUInt64).toInt64 = y
  rw [← Int64.toBitVec_inj, Int64.toBitVec_and]
  show y.toBitVec &&& 1#64 = _
  rw [BitVec.and_one_eq_setWidth_ofBool_getLsbD]
  cases y.toBitVec.getLsbD 0 <;> rfl
/-! one word of the shift, and the target when the words from k on are written -/
def own_word (f : Nat → Int64) (fr by' k : Nat) : Int64 :=
  if k < by' / 64 then 0
  else if by' % 64 = 0 ∨ k = by' / 64 then f (fr + (k - by' / 64)) <<< (Int32.ofNat (by' % 64) &&& 0x3f).toInt64
  else (f (fr + (k - by' / 64)) <<< (Int32.ofNat (by' % 64) &&& 0x3f).toInt64) ||| ((f (fr + (k - by' / 64) - 1)).toUInt64 >>> (((64 : Int32) - Int32.ofNat (by' % 64)) &&& 0x3f).toInt64.toUInt64).toInt64
theorem own_word_low (f : Nat → Int64) (fr : Nat) {by' k : Nat} (h : k < by' / 64) : own_word f fr by' k = 0 := if_pos h
theorem own_word_b0 (f : Nat → Int64) (fr : Nat) {by' k : Nat} (h : by' / 64 ≤ k) (h2 : by' % 64 = 0 ∨ k = by' / 64) : own_word f fr by' k = f (fr + (k - by' / 64)) <<< (Int32.ofNat (by' % 64) &&& 0x3f).toInt64 := by
  unfold own_word; rw [if_neg (by omega), if_pos h2]
theorem own_word_or (f : Nat → Int64) (fr : Nat) {by' k : Nat} (h : by' / 64 ≤ k) (h1 : ¬ by' % 64 = 0) (h2 : ¬ k = by' / 64) : own_word f fr by' k = (f (fr + (k - by' / 64)) <<< (Int32.ofNat (by' % 64) &&& 0x3f).toInt64) ||| ((f (fr + (k - by' / 64) - 1)).toUInt64 >>> (((64 : Int32) - Int32.ofNat (by' % 64)) &&& 0x3f).toInt64.toUInt64).toInt64 := by
  unfold own_word; rw [if_neg (by omega), if_neg (by omega)]
def own_res (f g : Nat → Int64) (fr to wd by' k j : Nat) : Int64 := if to + k ≤ j ∧ j < to + wd then own_word f fr by' (j - to) else g j
theorem own_res_all (f g : Nat → Int64) (fr to wd by' j : Nat) : own_res f g fr to wd by' wd j = g j := if_neg (by omega)
theorem own_res_succ (f g : Nat → Int64) {fr to wd by' k : Nat} {x : Int64} (hk : k < wd) (hx : x = own_word f fr by' k) (j : Nat) : (if j = to + k then x else own_res f g fr to wd by' (k + 1) j) = own_res f g fr to wd by' k j := by
  unfold own_res
  by_cases h : j = to + k
  · rw [if_pos h, if_pos (by omega), hx, show j - to = k by omega]
  · rw [if_neg h]
    by_cases h2 : to + (k + 1) ≤ j ∧ j < to + wd
    · rw [if_pos h2, if_pos (by omega)]
    · rw [if_neg h2, if_neg (by omega)]
/-- a bit of a word of the shift -/
theorem own_word_bit (f : Nat → Int64) (fr : Nat) {by' k i : Nat} (hi : i < 64) : (own_word f fr by' k).toBitVec.getLsbD i = if 64 * k + i < by' then false else (f ((fr * 64 + (64 * k + i) - by') / 64)).toBitVec.getLsbD ((fr * 64 + (64 * k + i) - by') % 64) := by
  have hm : by' % 64 < 64 := Nat.mod_lt _ (by decide)
  by_cases h0 : k < by' / 64
  · rw [own_word_low f fr h0, if_pos (by omega)]
    show (0#64).getLsbD i = false
    simp
  · have h0' : by' / 64 ≤ k := by omega
    by_cases h1 : by' % 64 = 0 ∨ k = by' / 64
    · rw [own_word_b0 f fr h0' h1, own_bit_shl _ _ _ hm hi]
      by_cases h2 : by' % 64 ≤ i
      · rw [if_neg (by omega), show (fr * 64 + (64 * k + i) - by') / 64 = fr + (k - by' / 64) by omega, show (fr * 64 + (64 * k + i) - by') % 64 = i - by' % 64 by omega]
        simp [h2]
      · rw [if_pos (by omega)]
        simp [h2]
    · have hs : (64 : Int32) - Int32.ofNat (by' % 64) = Int32.ofNat (64 - by' % 64) := own_sub (a := 64) (b := by' % 64) (by decide) (by omega)
      rw [own_word_or f fr h0' (fun q => h1 (Or.inl q)) (fun q => h1 (Or.inr q)), hs, Int64.toBitVec_or, BitVec.getLsbD_or, own_bit_shl _ _ _ hm hi, own_bit_shr _ (64 - by' % 64) i (by omega), if_neg (by omega)]
      by_cases h2 : by' % 64 ≤ i
      · have hz : (f (fr + (k - by' / 64) - 1)).toBitVec.getLsbD (64 - by' % 64 + i) = false := BitVec.getLsbD_of_ge _ _ (by omega)
        rw [show (fr * 64 + (64 * k + i) - by') / 64 = fr + (k - by' / 64) by omega, show (fr * 64 + (64 * k + i) - by') % 64 = i - by' % 64 by omega, hz]
        simp [h2]
      · rw [show (fr * 64 + (64 * k + i) - by') / 64 = fr + (k - by' / 64) - 1 by omega, show (fr * 64 + (64 * k + i) - by') % 64 = 64 - by' % 64 + i by omega]
        simp [h2]
theorem own_law_out (f g : Nat → Int64) {fr to wd : Nat} (by' : Nat) {p : Nat} (h : p < to * 64 ∨ ¬ p - to * 64 < wd * 64) : own_bt (own_res f g fr to wd by' 0) p = own_bt g p := by
  have e : own_res f g fr to wd by' 0 (p / 64) = g (p / 64) := if_neg (by omega)
  unfold own_bt
  rw [e]
theorem own_law_zero (f g : Nat → Int64) (fr : Nat) {to wd by' p : Nat} (h : to * 64 ≤ p) (h2 : p - to * 64 < wd * 64) (h3 : p - to * 64 < by') : own_bt (own_res f g fr to wd by' 0) p = 0 := by
  have e : own_res f g fr to wd by' 0 (p / 64) = own_word f fr by' (p / 64 - to) := if_pos (by omega)
  unfold own_bt
  rw [e, own_word_bit f fr (Nat.mod_lt _ (by decide)), if_pos (by omega : 64 * (p / 64 - to) + p % 64 < by')]
  rfl
theorem own_law_copy (f g : Nat → Int64) (fr : Nat) {to wd by' p : Nat} (h : to * 64 ≤ p) (h2 : p - to * 64 < wd * 64) (h3 : by' ≤ p - to * 64) : own_bt (own_res f g fr to wd by' 0) p = own_bt f (fr * 64 + (p - to * 64) - by') := by
  have e : own_res f g fr to wd by' 0 (p / 64) = own_word f fr by' (p / 64 - to) := if_pos (by omega)
  unfold own_bt
  rw [e, own_word_bit f fr (Nat.mod_lt _ (by decide)), if_neg (by omega : ¬ 64 * (p / 64 - to) + p % 64 < by'), show fr * 64 + (64 * (p / 64 - to) + p % 64) - by' = fr * 64 + (p - to * 64) - by' by omega]
theorem pd_1 : parseMethodDescriptor "([JI[JIII)V" = some ⟨[(.array .long), .int, (.array .long), .int, .int, .int], none⟩ := by decide +kernel
theorem pd_2 : parseMethodDescriptor "([JI)J" = some ⟨[(.array .long), .int], some .long⟩ := by decide +kernel
theorem da_0 : decode method_2_code 0 = .ok (.aload_n 0, 1) := by decide +kernel
theorem da_1 : decode method_2_code 1 = .ok (.iload_n 1, 1) := by decide +kernel
theorem da_2 : decode method_2_code 2 = .ok (.bipush 6, 2) := by decide +kernel
theorem da_4 : decode method_2_code 4 = .ok (.iushr, 1) := by decide +kernel
theorem da_5 : decode method_2_code 5 = .ok (.laload, 1) := by decide +kernel
theorem da_6 : decode method_2_code 6 = .ok (.iload_n 1, 1) := by decide +kernel
theorem da_7 : decode method_2_code 7 = .ok (.bipush 63, 2) := by decide +kernel
theorem da_9 : decode method_2_code 9 = .ok (.iand, 1) := by decide +kernel
theorem da_10 : decode method_2_code 10 = .ok (.lushr, 1) := by decide +kernel
theorem da_11 : decode method_2_code 11 = .ok (.lconst 1, 1) := by decide +kernel
theorem da_12 : decode method_2_code 12 = .ok (.land, 1) := by decide +kernel
theorem da_13 : decode method_2_code 13 = .ok (.lreturn, 1) := by decide +kernel
set_option maxRecDepth 65536 in
set_option maxHeartbeats 40000000 in
theorem rm1 (l : Launch) (Z : State) (a0 : Array Value) (hw : ∀ d ∈ tables_1, d.before a0 Z = true) (t : Addr) (p' : Nat) (f : Nat → Int64) (h0 : Heap) (n0 : Nat) (Z0 : n0 ≤ h0.size) (A_t : own_AJ Z h0 t 5 f) (hp : p' < 320) :
    own_C l Z (⟨"com/example/ostrakon/ostrakon/text/BitVectorsShiftUpPinLaw", "bit", "([JI)J"⟩ : MethodName) method_2_code 2 (some .long) [] ({ frames := 0, cells := 0, slots := 0, locals := 0 } : Room) #[.ref t, .int (Int32.ofNat p')] h0 n0 [] (fun v h => v = some (.long (own_bt f p'))) 0 0 := by
  refine own_enter (L0 := #[.val (.ref t), .val (.int (Int32.ofNat p'))]) (plainFor_of_name (by first | (simp [plainName, overriddenIn]; done) | decide +kernel)) (fun m => by first | (simp [entryFrame, mkF, argsToLocals, Value.category]; done) | rfl) ?_
  intro p e s m below meth c T B X
  refine own_aloadN X B da_0 rfl rfl (pc' := 1) rfl ?_
  refine own_iloadN X B da_1 rfl (pc' := 2) rfl ?_
  refine own_bipush X B da_2 (v := (6 : Int32)) rfl (pc' := 4) rfl ?_
  refine own_iushr X B da_4 (pc' := 5) rfl ?_
  rw [own_ushr6 p' (by omega)]
  refine own_laload X B A_t (i := (p' / 64)) (own_nat (by omega)) (by omega) da_5 (pc' := 6) rfl ?_
  refine own_iloadN X B da_6 rfl (pc' := 7) rfl ?_
  refine own_bipush X B da_7 (v := (63 : Int32)) rfl (pc' := 9) rfl ?_
  refine own_iand X B da_9 (pc' := 10) rfl ?_
  rw [own_and63 p' (by omega)]
  refine own_lushr X B da_10 (pc' := 11) rfl ?_
  refine own_lconst X B da_11 (v := (1 : Int64)) rfl (pc' := 12) rfl ?_
  refine own_land X B da_12 (pc' := 13) rfl ?_
  exact own_lret X B da_13 (by decide) (by decide) (by rw [own_bit1 (f (p' / 64)) (p' % 64) (by omega)]; rfl)
theorem db_0 : decode prog_237_method_2_code 0 = .ok (.iload 5, 2) := by decide +kernel
theorem db_2 : decode prog_237_method_2_code 2 = .ok (.bipush 6, 2) := by decide +kernel
theorem db_4 : decode prog_237_method_2_code 4 = .ok (.iushr, 1) := by decide +kernel
theorem db_5 : decode prog_237_method_2_code 5 = .ok (.istore 6, 2) := by decide +kernel
theorem db_7 : decode prog_237_method_2_code 7 = .ok (.iload 5, 2) := by decide +kernel
theorem db_9 : decode prog_237_method_2_code 9 = .ok (.bipush 63, 2) := by decide +kernel
theorem db_11 : decode prog_237_method_2_code 11 = .ok (.iand, 1) := by decide +kernel
theorem db_12 : decode prog_237_method_2_code 12 = .ok (.istore 7, 2) := by decide +kernel
theorem db_14 : decode prog_237_method_2_code 14 = .ok (.iload 4, 2) := by decide +kernel
theorem db_16 : decode prog_237_method_2_code 16 = .ok (.iconst 1, 1) := by decide +kernel
theorem db_17 : decode prog_237_method_2_code 17 = .ok (.isub, 1) := by decide +kernel
theorem db_18 : decode prog_237_method_2_code 18 = .ok (.istore 8, 2) := by decide +kernel
theorem db_20 : decode prog_237_method_2_code 20 = .ok (.iload 8, 2) := by decide +kernel
theorem db_22 : decode prog_237_method_2_code 22 = .ok (.ifCond .lt 73, 3) := by decide +kernel
theorem db_25 : decode prog_237_method_2_code 25 = .ok (.iload 8, 2) := by decide +kernel
theorem db_27 : decode prog_237_method_2_code 27 = .ok (.iload 6, 2) := by decide +kernel
theorem db_29 : decode prog_237_method_2_code 29 = .ok (.isub, 1) := by decide +kernel
theorem db_30 : decode prog_237_method_2_code 30 = .ok (.istore 9, 2) := by decide +kernel
theorem db_32 : decode prog_237_method_2_code 32 = .ok (.iload 9, 2) := by decide +kernel
theorem db_34 : decode prog_237_method_2_code 34 = .ok (.ifCond .lt 15, 3) := by decide +kernel
theorem db_37 : decode prog_237_method_2_code 37 = .ok (.aload_n 0, 1) := by decide +kernel
theorem db_38 : decode prog_237_method_2_code 38 = .ok (.iload_n 1, 1) := by decide +kernel
theorem db_39 : decode prog_237_method_2_code 39 = .ok (.iload 9, 2) := by decide +kernel
theorem db_41 : decode prog_237_method_2_code 41 = .ok (.iadd, 1) := by decide +kernel
theorem db_42 : decode prog_237_method_2_code 42 = .ok (.laload, 1) := by decide +kernel
theorem db_43 : decode prog_237_method_2_code 43 = .ok (.iload 7, 2) := by decide +kernel
theorem db_45 : decode prog_237_method_2_code 45 = .ok (.lshl, 1) := by decide +kernel
theorem db_46 : decode prog_237_method_2_code 46 = .ok (.goto 4, 3) := by decide +kernel
theorem db_49 : decode prog_237_method_2_code 49 = .ok (.lconst 0, 1) := by decide +kernel
theorem db_50 : decode prog_237_method_2_code 50 = .ok (.lstore 10, 2) := by decide +kernel
theorem db_52 : decode prog_237_method_2_code 52 = .ok (.iload 7, 2) := by decide +kernel
theorem db_54 : decode prog_237_method_2_code 54 = .ok (.ifCond .eq 27, 3) := by decide +kernel
theorem db_57 : decode prog_237_method_2_code 57 = .ok (.iload 9, 2) := by decide +kernel
theorem db_59 : decode prog_237_method_2_code 59 = .ok (.ifCond .le 22, 3) := by decide +kernel
theorem db_62 : decode prog_237_method_2_code 62 = .ok (.lload 10, 2) := by decide +kernel
theorem db_64 : decode prog_237_method_2_code 64 = .ok (.aload_n 0, 1) := by decide +kernel
theorem db_65 : decode prog_237_method_2_code 65 = .ok (.iload_n 1, 1) := by decide +kernel
theorem db_66 : decode prog_237_method_2_code 66 = .ok (.iload 9, 2) := by decide +kernel
theorem db_68 : decode prog_237_method_2_code 68 = .ok (.iadd, 1) := by decide +kernel
theorem db_69 : decode prog_237_method_2_code 69 = .ok (.iconst 1, 1) := by decide +kernel
theorem db_70 : decode prog_237_method_2_code 70 = .ok (.isub, 1) := by decide +kernel
theorem db_71 : decode prog_237_method_2_code 71 = .ok (.laload, 1) := by decide +kernel
theorem db_72 : decode prog_237_method_2_code 72 = .ok (.bipush 64, 2) := by decide +kernel
theorem db_74 : decode prog_237_method_2_code 74 = .ok (.iload 7, 2) := by decide +kernel
theorem db_76 : decode prog_237_method_2_code 76 = .ok (.isub, 1) := by decide +kernel
theorem db_77 : decode prog_237_method_2_code 77 = .ok (.lushr, 1) := by decide +kernel
theorem db_78 : decode prog_237_method_2_code 78 = .ok (.lor, 1) := by decide +kernel
theorem db_79 : decode prog_237_method_2_code 79 = .ok (.lstore 10, 2) := by decide +kernel
theorem db_81 : decode prog_237_method_2_code 81 = .ok (.aload_n 2, 1) := by decide +kernel
theorem db_82 : decode prog_237_method_2_code 82 = .ok (.iload_n 3, 1) := by decide +kernel
theorem db_83 : decode prog_237_method_2_code 83 = .ok (.iload 8, 2) := by decide +kernel
theorem db_85 : decode prog_237_method_2_code 85 = .ok (.iadd, 1) := by decide +kernel
theorem db_86 : decode prog_237_method_2_code 86 = .ok (.lload 10, 2) := by decide +kernel
theorem db_88 : decode prog_237_method_2_code 88 = .ok (.lastore, 1) := by decide +kernel
theorem db_89 : decode prog_237_method_2_code 89 = .ok (.iinc 8 (-1), 3) := by decide +kernel
theorem db_92 : decode prog_237_method_2_code 92 = .ok (.goto (-72), 3) := by decide +kernel
theorem db_95 : decode prog_237_method_2_code 95 = .ok (.return_, 1) := by decide +kernel
set_option maxRecDepth 65536 in
set_option maxHeartbeats 40000000 in
theorem rm2 (l : Launch) (Z : State) (a0 : Array Value) (hw : ∀ d ∈ tables_1, d.before a0 Z = true) (s' : Addr) (t : Addr) (fr : Nat) (to : Nat) (wd : Nat) (by' : Nat) (f : Nat → Int64) (g : Nat → Int64) (h0 : Heap) (n0 : Nat) (Z0 : n0 ≤ h0.size) (g_t : n0 ≤ t) (n_s_t : s' ≠ t) (A_s' : own_AJ Z h0 s' 5 f) (A_t : own_AJ Z h0 t 5 g) (hfr : fr < 2) (hto : to < 2) (hwd : wd < 4) (hby : by' < 256) :
    own_C l Z (⟨"com/example/ostrakon/ostrakon/text/BitVectors", "shiftUp", "([JI[JIII)V"⟩ : MethodName) prog_237_method_2_code 12 none [] ({ frames := 0, cells := 0, slots := 0, locals := 0 } : Room) #[.ref s', .int (Int32.ofNat fr), .ref t, .int (Int32.ofNat to), .int (Int32.ofNat wd), .int (Int32.ofNat by')] h0 n0 [t] (fun v h => v = none ∧ own_AJ Z h t 5 (own_res f g fr to wd by' 0)) 0 0 := by
  refine own_enter (L0 := #[.val (.ref s'), .val (.int (Int32.ofNat fr)), .val (.ref t), .val (.int (Int32.ofNat to)), .val (.int (Int32.ofNat wd)), .val (.int (Int32.ofNat by')), .unset, .unset, .unset, .unset, .unset, .unset]) (plainFor_of_name (by first | (simp [plainName, overriddenIn]; done) | decide +kernel)) (fun m => by first | (simp [entryFrame, mkF, argsToLocals, Value.category]; done) | rfl) ?_
  intro p e s m below meth c T B X
  refine own_iload X B db_0 rfl (pc' := 2) rfl ?_
  refine own_bipush X B db_2 (v := (6 : Int32)) rfl (pc' := 4) rfl ?_
  refine own_iushr X B db_4 (pc' := 5) rfl ?_
  rw [own_ushr6 by' (by omega)]
  refine own_istore X B db_5 (L' := #[.val (.ref s'), .val (.int (Int32.ofNat fr)), .val (.ref t), .val (.int (Int32.ofNat to)), .val (.int (Int32.ofNat wd)), .val (.int (Int32.ofNat by')), .val (.int (Int32.ofNat (by' / 64))), .unset, .unset, .unset, .unset, .unset]) rfl (pc' := 7) rfl ?_
  refine own_iload X B db_7 rfl (pc' := 9) rfl ?_
  refine own_bipush X B db_9 (v := (63 : Int32)) rfl (pc' := 11) rfl ?_
  refine own_iand X B db_11 (pc' := 12) rfl ?_
  rw [own_and63 by' (by omega)]
  refine own_istore X B db_12 (L' := #[.val (.ref s'), .val (.int (Int32.ofNat fr)), .val (.ref t), .val (.int (Int32.ofNat to)), .val (.int (Int32.ofNat wd)), .val (.int (Int32.ofNat by')), .val (.int (Int32.ofNat (by' / 64))), .val (.int (Int32.ofNat (by' % 64))), .unset, .unset, .unset, .unset]) rfl (pc' := 14) rfl ?_
  refine own_iload X B db_14 rfl (pc' := 16) rfl ?_
  refine own_iconst X B db_16 (v := (1 : Int32)) rfl (pc' := 17) rfl ?_
  refine own_isub X B db_17 (pc' := 18) rfl ?_
  refine own_istore X B db_18 (L' := #[.val (.ref s'), .val (.int (Int32.ofNat fr)), .val (.ref t), .val (.int (Int32.ofNat to)), .val (.int (Int32.ofNat wd)), .val (.int (Int32.ofNat by')), .val (.int (Int32.ofNat (by' / 64))), .val (.int (Int32.ofNat (by' % 64))), .val (.int ((Int32.ofNat wd) - (1 : Int32))), .unset, .unset, .unset]) rfl (pc' := 20) rfl ?_
  have loop : ∀ (k : Nat) (T : State) (h : Heap) (s9 s10 s11 : Slot), k ≤ wd → One s9 → ((s10 = .unset ∧ s11 = .unset) ∨ ∃ j, s10 = .val (.long j) ∧ s11 = .second) → own_St p l e ({ frames := 0, cells := 0, slots := 0, locals := 0 } : Room) s m #[.ref s', .int (Int32.ofNat fr), .ref t, .int (Int32.ofNat to), .int (Int32.ofNat wd), .int (Int32.ofNat by')] below meth c n0 h0 [t] T h 0 0 → own_AJ Z h s' 5 f → own_AJ Z h t 5 (own_res f g fr to wd by' k) → own_G p e below s n0 h0 [t] (fun v h => v = none ∧ own_AJ Z h t 5 (own_res f g fr to wd by' 0)) 0 0 T (mkF m 20 #[.val (.ref s'), .val (.int (Int32.ofNat fr)), .val (.ref t), .val (.int (Int32.ofNat to)), .val (.int (Int32.ofNat wd)), .val (.int (Int32.ofNat by')), .val (.int (Int32.ofNat (by' / 64))), .val (.int (Int32.ofNat (by' % 64))), .val (.int (Int32.ofNat k - (1 : Int32))), s9, s10, s11] []) := by
    intro k
    induction k with
    | zero =>
      intro T h s9 s10 s11 hk hs9 hs10 X A_s' A_t
      refine own_iload X B db_20 rfl (pc' := 22) rfl ?_
      refine own_ifT X B db_22 (tlt (by decide)).1 (pc' := 95) (by decide) (by decide) ?_
      exact own_vret X B db_95 (by decide) (by decide) ⟨rfl, A_t⟩
    | succ k ih =>
      intro T h s9 s10 s11 hk hs9 hs10 X A_s' A_t
      rw [own_pred]
      refine own_iload X B db_20 rfl (pc' := 22) rfl ?_
      refine own_ifF X B db_22 (flt (own_nn (by omega))).1 (pc' := 25) rfl ?_
      have J81 : ∀ (T : State) (h : Heap) (i9 : Int32) (x : Int64), own_St p l e ({ frames := 0, cells := 0, slots := 0, locals := 0 } : Room) s m #[.ref s', .int (Int32.ofNat fr), .ref t, .int (Int32.ofNat to), .int (Int32.ofNat wd), .int (Int32.ofNat by')] below meth c n0 h0 [t] T h 0 0 → own_AJ Z h s' 5 f → own_AJ Z h t 5 (own_res f g fr to wd by' (k + 1)) → (x = own_word f fr by' k) → own_G p e below s n0 h0 [t] (fun v h => v = none ∧ own_AJ Z h t 5 (own_res f g fr to wd by' 0)) 0 0 T (mkF m 81 #[.val (.ref s'), .val (.int (Int32.ofNat fr)), .val (.ref t), .val (.int (Int32.ofNat to)), .val (.int (Int32.ofNat wd)), .val (.int (Int32.ofNat by')), .val (.int (Int32.ofNat (by' / 64))), .val (.int (Int32.ofNat (by' % 64))), .val (.int (Int32.ofNat k)), .val (.int i9), .val (.long x), .second] []) := by
        intro T h i9 x X A_s' A_t hx
        refine own_aloadN X B db_81 rfl rfl (pc' := 82) rfl ?_
        refine own_iloadN X B db_82 rfl (pc' := 83) rfl ?_
        refine own_iload X B db_83 rfl (pc' := 85) rfl ?_
        refine own_iadd X B db_85 (pc' := 86) rfl ?_
        rw [own_add]
        refine own_lload X B db_86 rfl (pc' := 88) rfl ?_
        refine own_lastore X B A_t (i := (to + k)) (own_nat (by omega)) (by omega) g_t (Or.inl (List.mem_of_getElem? (i := 0) rfl)) db_88 (pc' := 89) rfl fun T h X K A_t => ?_
        replace A_s' := A_s'.keep K (ninS n_s_t nin0)
        replace A_t := A_t.congr (g := (own_res f g fr to wd by' k)) (fun z hz => own_res_succ f g (by omega) hx z)
        refine own_iinc X B db_89 rfl (L' := #[.val (.ref s'), .val (.int (Int32.ofNat fr)), .val (.ref t), .val (.int (Int32.ofNat to)), .val (.int (Int32.ofNat wd)), .val (.int (Int32.ofNat by')), .val (.int (Int32.ofNat (by' / 64))), .val (.int (Int32.ofNat (by' % 64))), .val (.int ((Int32.ofNat k) + (-1 : Int32))), .val (.int i9), .val (.long x), .second]) rfl (pc' := 92) rfl ?_
        refine own_goto X B db_92 (pc' := 20) (by decide) (by decide) ?_
        rw [own_dec]
        exact ih T h _ _ _ (by omega) (One.val rfl) (Or.inr ⟨_, rfl, rfl⟩) X A_s' A_t
      refine own_iload X B db_25 rfl (pc' := 27) rfl ?_
      refine own_iload X B db_27 rfl (pc' := 29) rfl ?_
      refine own_isub X B db_29 (pc' := 30) rfl ?_
      refine own_istore X B db_30 (L' := #[.val (.ref s'), .val (.int (Int32.ofNat fr)), .val (.ref t), .val (.int (Int32.ofNat to)), .val (.int (Int32.ofNat wd)), .val (.int (Int32.ofNat by')), .val (.int (Int32.ofNat (by' / 64))), .val (.int (Int32.ofNat (by' % 64))), .val (.int (Int32.ofNat k)), .val (.int ((Int32.ofNat k) - (Int32.ofNat (by' / 64)))), s10, s11]) (XS.store1 rfl hs9 rfl) (pc' := 32) rfl ?_
      refine own_iload X B db_32 rfl (pc' := 34) rfl ?_
      by_cases hq : k < by' / 64
      · -- hq
        refine own_ifT X B db_34 (tlt (own_sub_neg (by omega) hq)).1 (pc' := 49) (by decide) (by decide) ?_
        refine own_lconst X B db_49 (v := (0 : Int64)) rfl (pc' := 50) rfl ?_
        refine own_lstore X B db_50 (L' := #[.val (.ref s'), .val (.int (Int32.ofNat fr)), .val (.ref t), .val (.int (Int32.ofNat to)), .val (.int (Int32.ofNat wd)), .val (.int (Int32.ofNat by')), .val (.int (Int32.ofNat (by' / 64))), .val (.int (Int32.ofNat (by' % 64))), .val (.int (Int32.ofNat k)), .val (.int ((Int32.ofNat k) - (Int32.ofNat (by' / 64)))), .val (.long (0 : Int64)), .second]) (by rcases hs10 with ⟨rfl, rfl⟩ | ⟨j, rfl, rfl⟩ <;> rfl) (pc' := 52) rfl ?_
        refine own_iload X B db_52 rfl (pc' := 54) rfl ?_
        by_cases hb : by' % 64 = 0
        · -- hb
          refine own_ifT X B db_54 (teq (by rw [hb]; rfl)).1 (pc' := 81) (by decide) (by decide) ?_
          exact J81 _ _ _ _ X A_s' A_t (own_word_low f fr hq).symm
        · -- not hb
          refine own_ifF X B db_54 (feq (by rw [show (0 : Int32) = Int32.ofNat 0 from rfl, own_eqN (by omega) (by omega)]; exact hb)).1 (pc' := 57) rfl ?_
          refine own_iload X B db_57 rfl (pc' := 59) rfl ?_
          refine own_ifT X B db_59 (flt (by intro q; exact Int32.lt_irrefl (Int32.lt_trans q (own_sub_neg (by omega) hq)))).2.2.2 (pc' := 81) (by decide) (by decide) ?_
          exact J81 _ _ _ _ X A_s' A_t (own_word_low f fr hq).symm
      · -- not hq
        refine own_ifF X B db_34 (flt (by rw [own_sub (by omega) (by omega)]; exact own_nn (by omega))).1 (pc' := 37) rfl ?_
        have hq1 : by' / 64 ≤ k := by omega
        rw [own_sub (by omega) hq1]
        refine own_aloadN X B db_37 rfl rfl (pc' := 38) rfl ?_
        refine own_iloadN X B db_38 rfl (pc' := 39) rfl ?_
        refine own_iload X B db_39 rfl (pc' := 41) rfl ?_
        refine own_iadd X B db_41 (pc' := 42) rfl ?_
        rw [own_add]
        refine own_laload X B A_s' (i := (fr + (k - by' / 64))) (own_nat (by omega)) (by omega) db_42 (pc' := 43) rfl ?_
        refine own_iload X B db_43 rfl (pc' := 45) rfl ?_
        refine own_lshl X B db_45 (pc' := 46) rfl ?_
        refine own_goto X B db_46 (pc' := 50) (by decide) (by decide) ?_
        refine own_lstore X B db_50 (L' := #[.val (.ref s'), .val (.int (Int32.ofNat fr)), .val (.ref t), .val (.int (Int32.ofNat to)), .val (.int (Int32.ofNat wd)), .val (.int (Int32.ofNat by')), .val (.int (Int32.ofNat (by' / 64))), .val (.int (Int32.ofNat (by' % 64))), .val (.int (Int32.ofNat k)), .val (.int (Int32.ofNat (k - by' / 64))), .val (.long ((f (fr + (k - by' / 64))) <<< ((Int32.ofNat (by' % 64)) &&& 0x3f).toInt64)), .second]) (by rcases hs10 with ⟨rfl, rfl⟩ | ⟨j, rfl, rfl⟩ <;> rfl) (pc' := 52) rfl ?_
        refine own_iload X B db_52 rfl (pc' := 54) rfl ?_
        by_cases hb : by' % 64 = 0
        · -- hb
          refine own_ifT X B db_54 (teq (by rw [hb]; rfl)).1 (pc' := 81) (by decide) (by decide) ?_
          exact J81 _ _ _ _ X A_s' A_t (own_word_b0 f fr hq1 (Or.inl hb)).symm
        · -- not hb
          refine own_ifF X B db_54 (feq (by rw [show (0 : Int32) = Int32.ofNat 0 from rfl, own_eqN (by omega) (by omega)]; exact hb)).1 (pc' := 57) rfl ?_
          refine own_iload X B db_57 rfl (pc' := 59) rfl ?_
          by_cases hz : k = by' / 64
          · -- hz
            refine own_ifT X B db_59 (flt (by rw [hz, Nat.sub_self]; decide)).2.2.2 (pc' := 81) (by decide) (by decide) ?_
            exact J81 _ _ _ _ X A_s' A_t (own_word_b0 f fr hq1 (Or.inr hz)).symm
          · -- not hz
            refine own_ifF X B db_59 (tlt (by rw [show (0 : Int32) = Int32.ofNat 0 from rfl, own_ltN (by omega) (by omega)]; omega)).2.2.2 (pc' := 62) rfl ?_
            refine own_lload X B db_62 rfl (pc' := 64) rfl ?_
            refine own_aloadN X B db_64 rfl rfl (pc' := 65) rfl ?_
            refine own_iloadN X B db_65 rfl (pc' := 66) rfl ?_
            refine own_iload X B db_66 rfl (pc' := 68) rfl ?_
            refine own_iadd X B db_68 (pc' := 69) rfl ?_
            rw [own_add]
            refine own_iconst X B db_69 (v := (1 : Int32)) rfl (pc' := 70) rfl ?_
            refine own_isub X B db_70 (pc' := 71) rfl ?_
            rw [own_pred1 (show 0 < fr + (k - by' / 64) by omega)]
            refine own_laload X B A_s' (i := (fr + (k - by' / 64) - 1)) (own_nat (by omega)) (by omega) db_71 (pc' := 72) rfl ?_
            refine own_bipush X B db_72 (v := (64 : Int32)) rfl (pc' := 74) rfl ?_
            refine own_iload X B db_74 rfl (pc' := 76) rfl ?_
            refine own_isub X B db_76 (pc' := 77) rfl ?_
            refine own_lushr X B db_77 (pc' := 78) rfl ?_
            refine own_lor X B db_78 (pc' := 79) rfl ?_
            refine own_lstore X B db_79 (L' := #[.val (.ref s'), .val (.int (Int32.ofNat fr)), .val (.ref t), .val (.int (Int32.ofNat to)), .val (.int (Int32.ofNat wd)), .val (.int (Int32.ofNat by')), .val (.int (Int32.ofNat (by' / 64))), .val (.int (Int32.ofNat (by' % 64))), .val (.int (Int32.ofNat k)), .val (.int (Int32.ofNat (k - by' / 64))), .val (.long (((f (fr + (k - by' / 64))) <<< ((Int32.ofNat (by' % 64)) &&& 0x3f).toInt64) ||| (((f (fr + (k - by' / 64) - 1)).toUInt64 >>> (((64 : Int32) - (Int32.ofNat (by' % 64))) &&& 0x3f).toInt64.toUInt64).toInt64))), .second]) rfl (pc' := 81) rfl ?_
            exact J81 _ _ _ _ X A_s' A_t (own_word_or f fr hq1 hb hz).symm
  exact loop wd T h0 _ _ _ (Nat.le_refl _) One.u (Or.inl ⟨rfl, rfl⟩) X A_s' (A_t.congr fun z hz => (own_res_all f g fr to wd by' z).symm)
set_option maxRecDepth 65536 in
set_option maxHeartbeats 40000000 in
theorem rm0 (l : Launch) (Z : State) (a0 : Array Value) (hw : ∀ d ∈ tables_1, d.before a0 Z = true) (a : Int64) (b : Int64) (c' : Int64) (y : Int32) (x : Int32) (o : Int32) (h0 : Heap) (n0 : Nat) (Z0 : n0 ≤ h0.size) (Z1 : h0.size ≤ n0) :
    own_C l Z Jvm.Pilot.@@N@@.x code maxLocals ret tables_1 room_1 #[.long a, .long b, .long c', .int y, .int x, .int o] h0 n0 [] (fun v h => v = some (.int 1)) 16 128 := by
  refine own_enter (L0 := #[.val (.long a), .second, .val (.long b), .second, .val (.long c'), .second, .val (.int y), .val (.int x), .val (.int o), .unset, .unset, .unset, .unset, .unset, .unset, .unset, .unset, .unset, .unset, .unset, .unset, .unset, .unset]) (plainFor_of_name (by first | (simp [plainName, overriddenIn]; done) | decide +kernel)) (fun m => by first | (simp [entryFrame, mkF, argsToLocals, Value.category, maxLocals]; done) | rfl) ?_
  intro p e s m below meth c T B X
  refine own_iload X B at_0 rfl (pc' := 2) rfl ?_
  refine own_iconst X B at_2 (v := (1 : Int32)) rfl (pc' := 3) rfl ?_
  refine own_iand X B at_3 (pc' := 4) rfl ?_
  obtain ⟨fr, hfr, efr⟩ := own_mask o (1 : Int32) 1 (by decide) (by decide)
  rw [efr]
  replace hfr : fr < 2 := hfr
  refine own_istore X B at_4 (L' := #[.val (.long a), .second, .val (.long b), .second, .val (.long c'), .second, .val (.int y), .val (.int x), .val (.int o), .val (.int (Int32.ofNat fr)), .unset, .unset, .unset, .unset, .unset, .unset, .unset, .unset, .unset, .unset, .unset, .unset, .unset]) rfl (pc' := 6) rfl ?_
  refine own_iload X B at_6 rfl (pc' := 8) rfl ?_
  refine own_iconst X B at_8 (v := (1 : Int32)) rfl (pc' := 9) rfl ?_
  refine own_iushr X B at_9 (pc' := 10) rfl ?_
  refine own_iconst X B at_10 (v := (1 : Int32)) rfl (pc' := 11) rfl ?_
  refine own_iand X B at_11 (pc' := 12) rfl ?_
  obtain ⟨to, hto, eto⟩ := own_mask ((o.toUInt32 >>> ((1 : Int32) &&& 31).toUInt32).toInt32) (1 : Int32) 1 (by decide) (by decide)
  rw [eto]
  replace hto : to < 2 := hto
  refine own_istore X B at_12 (L' := #[.val (.long a), .second, .val (.long b), .second, .val (.long c'), .second, .val (.int y), .val (.int x), .val (.int o), .val (.int (Int32.ofNat fr)), .val (.int (Int32.ofNat to)), .unset, .unset, .unset, .unset, .unset, .unset, .unset, .unset, .unset, .unset, .unset, .unset]) rfl (pc' := 14) rfl ?_
  refine own_iload X B at_14 rfl (pc' := 16) rfl ?_
  refine own_iconst X B at_16 (v := (2 : Int32)) rfl (pc' := 17) rfl ?_
  refine own_iushr X B at_17 (pc' := 18) rfl ?_
  refine own_iconst X B at_18 (v := (3 : Int32)) rfl (pc' := 19) rfl ?_
  refine own_iand X B at_19 (pc' := 20) rfl ?_
  obtain ⟨wd, hwd, ewd⟩ := own_mask ((o.toUInt32 >>> ((2 : Int32) &&& 31).toUInt32).toInt32) (3 : Int32) 2 (by decide) (by decide)
  rw [ewd]
  replace hwd : wd < 4 := hwd
  refine own_istore X B at_20 (L' := #[.val (.long a), .second, .val (.long b), .second, .val (.long c'), .second, .val (.int y), .val (.int x), .val (.int o), .val (.int (Int32.ofNat fr)), .val (.int (Int32.ofNat to)), .val (.int (Int32.ofNat wd)), .unset, .unset, .unset, .unset, .unset, .unset, .unset, .unset, .unset, .unset, .unset]) rfl (pc' := 22) rfl ?_
  refine own_iload X B at_22 rfl (pc' := 24) rfl ?_
  refine own_sipush X B at_24 (v := (255 : Int32)) rfl (pc' := 27) rfl ?_
  refine own_iand X B at_27 (pc' := 28) rfl ?_
  obtain ⟨by', hby', eby'⟩ := own_mask y (255 : Int32) 8 (by decide) (by decide)
  rw [eby']
  replace hby' : by' < 256 := hby'
  refine own_istore X B at_28 (L' := #[.val (.long a), .second, .val (.long b), .second, .val (.long c'), .second, .val (.int y), .val (.int x), .val (.int o), .val (.int (Int32.ofNat fr)), .val (.int (Int32.ofNat to)), .val (.int (Int32.ofNat wd)), .val (.int (Int32.ofNat by')), .unset, .unset, .unset, .unset, .unset, .unset, .unset, .unset, .unset, .unset]) rfl (pc' := 30) rfl ?_
  refine own_iconst X B at_30 (v := (5 : Int32)) rfl (pc' := 31) rfl ?_
  refine own_newJ X B (hw _ (List.mem_of_getElem? (i := 0) rfl)) (n := 5) (cap := 5) rfl (by decide) (by decide) (by decide) (by decide) at_31 (pc' := 33) rfl fun T h sr g_sr X K A_sr z_sr => ?_
  refine own_dup X B at_33 rfl (pc' := 34) rfl ?_
  refine own_iconst X B at_34 (v := (0 : Int32)) rfl (pc' := 35) rfl ?_
  refine own_lloadN X B at_35 rfl (pc' := 36) rfl ?_
  refine own_lastore X B A_sr (i := 0) rfl (by decide) (Nat.le_trans Z0 z_sr) (Or.inr z_sr) at_36 (pc' := 37) rfl fun T h X K A_sr => ?_
  refine own_dup X B at_37 rfl (pc' := 38) rfl ?_
  refine own_iconst X B at_38 (v := (1 : Int32)) rfl (pc' := 39) rfl ?_
  refine own_lloadN X B at_39 rfl (pc' := 40) rfl ?_
  refine own_lastore X B A_sr (i := 1) rfl (by decide) (Nat.le_trans Z0 z_sr) (Or.inr z_sr) at_40 (pc' := 41) rfl fun T h X K A_sr => ?_
  refine own_dup X B at_41 rfl (pc' := 42) rfl ?_
  refine own_iconst X B at_42 (v := (2 : Int32)) rfl (pc' := 43) rfl ?_
  refine own_lload X B at_43 rfl (pc' := 45) rfl ?_
  refine own_lastore X B A_sr (i := 2) rfl (by decide) (Nat.le_trans Z0 z_sr) (Or.inr z_sr) at_45 (pc' := 46) rfl fun T h X K A_sr => ?_
  refine own_dup X B at_46 rfl (pc' := 47) rfl ?_
  refine own_iconst X B at_47 (v := (3 : Int32)) rfl (pc' := 48) rfl ?_
  refine own_lload X B at_48 rfl (pc' := 50) rfl ?_
  refine own_litL X B (hw _ (List.mem_of_getElem? (i := 1) rfl)) at_50 (pc' := 53) rfl ?_
  refine own_lxor X B at_53 (pc' := 54) rfl ?_
  refine own_lastore X B A_sr (i := 3) rfl (by decide) (Nat.le_trans Z0 z_sr) (Or.inr z_sr) at_54 (pc' := 55) rfl fun T h X K A_sr => ?_
  refine own_dup X B at_55 rfl (pc' := 56) rfl ?_
  refine own_iconst X B at_56 (v := (4 : Int32)) rfl (pc' := 57) rfl ?_
  refine own_lloadN X B at_57 rfl (pc' := 58) rfl ?_
  refine own_lload X B at_58 rfl (pc' := 60) rfl ?_
  refine own_lxor X B at_60 (pc' := 61) rfl ?_
  refine own_lastore X B A_sr (i := 4) rfl (by decide) (Nat.le_trans Z0 z_sr) (Or.inr z_sr) at_61 (pc' := 62) rfl fun T h X K A_sr => ?_
  replace A_sr := A_sr.congr (g := (own_src a b c')) (fun i hi => by
    match i, hi with
    | 0, _ => rfl
    | 1, _ => rfl
    | 2, _ => rfl
    | 3, _ => rfl
    | 4, _ => rfl)
  refine own_astore X B at_62 rfl (L' := #[.val (.long a), .second, .val (.long b), .second, .val (.long c'), .second, .val (.int y), .val (.int x), .val (.int o), .val (.int (Int32.ofNat fr)), .val (.int (Int32.ofNat to)), .val (.int (Int32.ofNat wd)), .val (.int (Int32.ofNat by')), .val (.ref sr), .unset, .unset, .unset, .unset, .unset, .unset, .unset, .unset, .unset]) rfl (pc' := 64) rfl ?_
  refine own_iconst X B at_64 (v := (5 : Int32)) rfl (pc' := 65) rfl ?_
  refine own_newJ X B (hw _ (List.mem_of_getElem? (i := 0) rfl)) (n := 5) (cap := 5) rfl (by decide) (by decide) (by decide) (by decide) at_65 (pc' := 67) rfl fun T h tg g_tg X K A_tg z_tg => ?_
  have n_sr_tg : sr ≠ tg := own_ne A_sr.lt g_tg
  replace A_sr := A_sr.keep K nin0
  refine own_dup X B at_67 rfl (pc' := 68) rfl ?_
  refine own_iconst X B at_68 (v := (0 : Int32)) rfl (pc' := 69) rfl ?_
  refine own_lloadN X B at_69 rfl (pc' := 70) rfl ?_
  refine own_litL X B (hw _ (List.mem_of_getElem? (i := 1) rfl)) at_70 (pc' := 73) rfl ?_
  refine own_lxor X B at_73 (pc' := 74) rfl ?_
  refine own_lastore X B A_tg (i := 0) rfl (by decide) (Nat.le_trans Z0 z_tg) (Or.inr z_tg) at_74 (pc' := 75) rfl fun T h X K A_tg => ?_
  replace A_sr := A_sr.keep K (ninS n_sr_tg nin0)
  refine own_dup X B at_75 rfl (pc' := 76) rfl ?_
  refine own_iconst X B at_76 (v := (1 : Int32)) rfl (pc' := 77) rfl ?_
  refine own_lloadN X B at_77 rfl (pc' := 78) rfl ?_
  refine own_litL X B (hw _ (List.mem_of_getElem? (i := 1) rfl)) at_78 (pc' := 81) rfl ?_
  refine own_lxor X B at_81 (pc' := 82) rfl ?_
  refine own_lastore X B A_tg (i := 1) rfl (by decide) (Nat.le_trans Z0 z_tg) (Or.inr z_tg) at_82 (pc' := 83) rfl fun T h X K A_tg => ?_
  replace A_sr := A_sr.keep K (ninS n_sr_tg nin0)
  refine own_dup X B at_83 rfl (pc' := 84) rfl ?_
  refine own_iconst X B at_84 (v := (2 : Int32)) rfl (pc' := 85) rfl ?_
  refine own_lload X B at_85 rfl (pc' := 87) rfl ?_
  refine own_litL X B (hw _ (List.mem_of_getElem? (i := 1) rfl)) at_87 (pc' := 90) rfl ?_
  refine own_lxor X B at_90 (pc' := 91) rfl ?_
  refine own_lastore X B A_tg (i := 2) rfl (by decide) (Nat.le_trans Z0 z_tg) (Or.inr z_tg) at_91 (pc' := 92) rfl fun T h X K A_tg => ?_
  replace A_sr := A_sr.keep K (ninS n_sr_tg nin0)
  refine own_dup X B at_92 rfl (pc' := 93) rfl ?_
  refine own_iconst X B at_93 (v := (3 : Int32)) rfl (pc' := 94) rfl ?_
  refine own_lloadN X B at_94 rfl (pc' := 95) rfl ?_
  refine own_lload X B at_95 rfl (pc' := 97) rfl ?_
  refine own_lxor X B at_97 (pc' := 98) rfl ?_
  refine own_lastore X B A_tg (i := 3) rfl (by decide) (Nat.le_trans Z0 z_tg) (Or.inr z_tg) at_98 (pc' := 99) rfl fun T h X K A_tg => ?_
  replace A_sr := A_sr.keep K (ninS n_sr_tg nin0)
  refine own_dup X B at_99 rfl (pc' := 100) rfl ?_
  refine own_iconst X B at_100 (v := (4 : Int32)) rfl (pc' := 101) rfl ?_
  refine own_lloadN X B at_101 rfl (pc' := 102) rfl ?_
  refine own_lloadN X B at_102 rfl (pc' := 103) rfl ?_
  refine own_lxor X B at_103 (pc' := 104) rfl ?_
  refine own_litL X B (hw _ (List.mem_of_getElem? (i := 1) rfl)) at_104 (pc' := 107) rfl ?_
  refine own_lxor X B at_107 (pc' := 108) rfl ?_
  refine own_lastore X B A_tg (i := 4) rfl (by decide) (Nat.le_trans Z0 z_tg) (Or.inr z_tg) at_108 (pc' := 109) rfl fun T h X K A_tg => ?_
  replace A_sr := A_sr.keep K (ninS n_sr_tg nin0)
  replace A_tg := A_tg.congr (g := (own_tgt a b c')) (fun i hi => by
    match i, hi with
    | 0, _ => rfl
    | 1, _ => rfl
    | 2, _ => rfl
    | 3, _ => rfl
    | 4, _ => rfl)
  refine own_astore X B at_109 rfl (L' := #[.val (.long a), .second, .val (.long b), .second, .val (.long c'), .second, .val (.int y), .val (.int x), .val (.int o), .val (.int (Int32.ofNat fr)), .val (.int (Int32.ofNat to)), .val (.int (Int32.ofNat wd)), .val (.int (Int32.ofNat by')), .val (.ref sr), .val (.ref tg), .unset, .unset, .unset, .unset, .unset, .unset, .unset, .unset]) rfl (pc' := 111) rfl ?_
  refine own_iconst X B at_111 (v := (5 : Int32)) rfl (pc' := 112) rfl ?_
  refine own_newJ X B (hw _ (List.mem_of_getElem? (i := 0) rfl)) (n := 5) (cap := 5) rfl (by decide) (by decide) (by decide) (by decide) at_112 (pc' := 114) rfl fun T h bf g_bf X K A_bf z_bf => ?_
  have n_sr_bf : sr ≠ bf := own_ne A_sr.lt g_bf
  have n_tg_bf : tg ≠ bf := own_ne A_tg.lt g_bf
  replace A_sr := A_sr.keep K nin0
  replace A_tg := A_tg.keep K nin0
  refine own_dup X B at_114 rfl (pc' := 115) rfl ?_
  refine own_iconst X B at_115 (v := (0 : Int32)) rfl (pc' := 116) rfl ?_
  refine own_lloadN X B at_116 rfl (pc' := 117) rfl ?_
  refine own_litL X B (hw _ (List.mem_of_getElem? (i := 1) rfl)) at_117 (pc' := 120) rfl ?_
  refine own_lxor X B at_120 (pc' := 121) rfl ?_
  refine own_lastore X B A_bf (i := 0) rfl (by decide) (Nat.le_trans Z0 z_bf) (Or.inr z_bf) at_121 (pc' := 122) rfl fun T h X K A_bf => ?_
  replace A_sr := A_sr.keep K (ninS n_sr_bf nin0)
  replace A_tg := A_tg.keep K (ninS n_tg_bf nin0)
  refine own_dup X B at_122 rfl (pc' := 123) rfl ?_
  refine own_iconst X B at_123 (v := (1 : Int32)) rfl (pc' := 124) rfl ?_
  refine own_lloadN X B at_124 rfl (pc' := 125) rfl ?_
  refine own_litL X B (hw _ (List.mem_of_getElem? (i := 1) rfl)) at_125 (pc' := 128) rfl ?_
  refine own_lxor X B at_128 (pc' := 129) rfl ?_
  refine own_lastore X B A_bf (i := 1) rfl (by decide) (Nat.le_trans Z0 z_bf) (Or.inr z_bf) at_129 (pc' := 130) rfl fun T h X K A_bf => ?_
  replace A_sr := A_sr.keep K (ninS n_sr_bf nin0)
  replace A_tg := A_tg.keep K (ninS n_tg_bf nin0)
  refine own_dup X B at_130 rfl (pc' := 131) rfl ?_
  refine own_iconst X B at_131 (v := (2 : Int32)) rfl (pc' := 132) rfl ?_
  refine own_lload X B at_132 rfl (pc' := 134) rfl ?_
  refine own_litL X B (hw _ (List.mem_of_getElem? (i := 1) rfl)) at_134 (pc' := 137) rfl ?_
  refine own_lxor X B at_137 (pc' := 138) rfl ?_
  refine own_lastore X B A_bf (i := 2) rfl (by decide) (Nat.le_trans Z0 z_bf) (Or.inr z_bf) at_138 (pc' := 139) rfl fun T h X K A_bf => ?_
  replace A_sr := A_sr.keep K (ninS n_sr_bf nin0)
  replace A_tg := A_tg.keep K (ninS n_tg_bf nin0)
  refine own_dup X B at_139 rfl (pc' := 140) rfl ?_
  refine own_iconst X B at_140 (v := (3 : Int32)) rfl (pc' := 141) rfl ?_
  refine own_lloadN X B at_141 rfl (pc' := 142) rfl ?_
  refine own_lload X B at_142 rfl (pc' := 144) rfl ?_
  refine own_lxor X B at_144 (pc' := 145) rfl ?_
  refine own_lastore X B A_bf (i := 3) rfl (by decide) (Nat.le_trans Z0 z_bf) (Or.inr z_bf) at_145 (pc' := 146) rfl fun T h X K A_bf => ?_
  replace A_sr := A_sr.keep K (ninS n_sr_bf nin0)
  replace A_tg := A_tg.keep K (ninS n_tg_bf nin0)
  refine own_dup X B at_146 rfl (pc' := 147) rfl ?_
  refine own_iconst X B at_147 (v := (4 : Int32)) rfl (pc' := 148) rfl ?_
  refine own_lloadN X B at_148 rfl (pc' := 149) rfl ?_
  refine own_lloadN X B at_149 rfl (pc' := 150) rfl ?_
  refine own_lxor X B at_150 (pc' := 151) rfl ?_
  refine own_litL X B (hw _ (List.mem_of_getElem? (i := 1) rfl)) at_151 (pc' := 154) rfl ?_
  refine own_lxor X B at_154 (pc' := 155) rfl ?_
  refine own_lastore X B A_bf (i := 4) rfl (by decide) (Nat.le_trans Z0 z_bf) (Or.inr z_bf) at_155 (pc' := 156) rfl fun T h X K A_bf => ?_
  replace A_sr := A_sr.keep K (ninS n_sr_bf nin0)
  replace A_tg := A_tg.keep K (ninS n_tg_bf nin0)
  replace A_bf := A_bf.congr (g := (own_tgt a b c')) (fun i hi => by
    match i, hi with
    | 0, _ => rfl
    | 1, _ => rfl
    | 2, _ => rfl
    | 3, _ => rfl
    | 4, _ => rfl)
  refine own_astore X B at_156 rfl (L' := #[.val (.long a), .second, .val (.long b), .second, .val (.long c'), .second, .val (.int y), .val (.int x), .val (.int o), .val (.int (Int32.ofNat fr)), .val (.int (Int32.ofNat to)), .val (.int (Int32.ofNat wd)), .val (.int (Int32.ofNat by')), .val (.ref sr), .val (.ref tg), .val (.ref bf), .unset, .unset, .unset, .unset, .unset, .unset, .unset]) rfl (pc' := 158) rfl ?_
  refine own_iconst X B at_158 (v := (5 : Int32)) rfl (pc' := 159) rfl ?_
  refine own_newJ X B (hw _ (List.mem_of_getElem? (i := 0) rfl)) (n := 5) (cap := 5) rfl (by decide) (by decide) (by decide) (by decide) at_159 (pc' := 161) rfl fun T h cp g_cp X K A_cp z_cp => ?_
  have n_bf_cp : bf ≠ cp := own_ne A_bf.lt g_cp
  have n_sr_cp : sr ≠ cp := own_ne A_sr.lt g_cp
  have n_tg_cp : tg ≠ cp := own_ne A_tg.lt g_cp
  replace A_sr := A_sr.keep K nin0
  replace A_tg := A_tg.keep K nin0
  replace A_bf := A_bf.keep K nin0
  refine own_dup X B at_161 rfl (pc' := 162) rfl ?_
  refine own_iconst X B at_162 (v := (0 : Int32)) rfl (pc' := 163) rfl ?_
  refine own_lloadN X B at_163 rfl (pc' := 164) rfl ?_
  refine own_lastore X B A_cp (i := 0) rfl (by decide) (Nat.le_trans Z0 z_cp) (Or.inr z_cp) at_164 (pc' := 165) rfl fun T h X K A_cp => ?_
  replace A_sr := A_sr.keep K (ninS n_sr_cp nin0)
  replace A_tg := A_tg.keep K (ninS n_tg_cp nin0)
  replace A_bf := A_bf.keep K (ninS n_bf_cp nin0)
  refine own_dup X B at_165 rfl (pc' := 166) rfl ?_
  refine own_iconst X B at_166 (v := (1 : Int32)) rfl (pc' := 167) rfl ?_
  refine own_lloadN X B at_167 rfl (pc' := 168) rfl ?_
  refine own_lastore X B A_cp (i := 1) rfl (by decide) (Nat.le_trans Z0 z_cp) (Or.inr z_cp) at_168 (pc' := 169) rfl fun T h X K A_cp => ?_
  replace A_sr := A_sr.keep K (ninS n_sr_cp nin0)
  replace A_tg := A_tg.keep K (ninS n_tg_cp nin0)
  replace A_bf := A_bf.keep K (ninS n_bf_cp nin0)
  refine own_dup X B at_169 rfl (pc' := 170) rfl ?_
  refine own_iconst X B at_170 (v := (2 : Int32)) rfl (pc' := 171) rfl ?_
  refine own_lload X B at_171 rfl (pc' := 173) rfl ?_
  refine own_lastore X B A_cp (i := 2) rfl (by decide) (Nat.le_trans Z0 z_cp) (Or.inr z_cp) at_173 (pc' := 174) rfl fun T h X K A_cp => ?_
  replace A_sr := A_sr.keep K (ninS n_sr_cp nin0)
  replace A_tg := A_tg.keep K (ninS n_tg_cp nin0)
  replace A_bf := A_bf.keep K (ninS n_bf_cp nin0)
  refine own_dup X B at_174 rfl (pc' := 175) rfl ?_
  refine own_iconst X B at_175 (v := (3 : Int32)) rfl (pc' := 176) rfl ?_
  refine own_lload X B at_176 rfl (pc' := 178) rfl ?_
  refine own_litL X B (hw _ (List.mem_of_getElem? (i := 1) rfl)) at_178 (pc' := 181) rfl ?_
  refine own_lxor X B at_181 (pc' := 182) rfl ?_
  refine own_lastore X B A_cp (i := 3) rfl (by decide) (Nat.le_trans Z0 z_cp) (Or.inr z_cp) at_182 (pc' := 183) rfl fun T h X K A_cp => ?_
  replace A_sr := A_sr.keep K (ninS n_sr_cp nin0)
  replace A_tg := A_tg.keep K (ninS n_tg_cp nin0)
  replace A_bf := A_bf.keep K (ninS n_bf_cp nin0)
  refine own_dup X B at_183 rfl (pc' := 184) rfl ?_
  refine own_iconst X B at_184 (v := (4 : Int32)) rfl (pc' := 185) rfl ?_
  refine own_lloadN X B at_185 rfl (pc' := 186) rfl ?_
  refine own_lload X B at_186 rfl (pc' := 188) rfl ?_
  refine own_lxor X B at_188 (pc' := 189) rfl ?_
  refine own_lastore X B A_cp (i := 4) rfl (by decide) (Nat.le_trans Z0 z_cp) (Or.inr z_cp) at_189 (pc' := 190) rfl fun T h X K A_cp => ?_
  replace A_sr := A_sr.keep K (ninS n_sr_cp nin0)
  replace A_tg := A_tg.keep K (ninS n_tg_cp nin0)
  replace A_bf := A_bf.keep K (ninS n_bf_cp nin0)
  replace A_cp := A_cp.congr (g := (own_src a b c')) (fun i hi => by
    match i, hi with
    | 0, _ => rfl
    | 1, _ => rfl
    | 2, _ => rfl
    | 3, _ => rfl
    | 4, _ => rfl)
  refine own_astore X B at_190 rfl (L' := #[.val (.long a), .second, .val (.long b), .second, .val (.long c'), .second, .val (.int y), .val (.int x), .val (.int o), .val (.int (Int32.ofNat fr)), .val (.int (Int32.ofNat to)), .val (.int (Int32.ofNat wd)), .val (.int (Int32.ofNat by')), .val (.ref sr), .val (.ref tg), .val (.ref bf), .val (.ref cp), .unset, .unset, .unset, .unset, .unset, .unset]) rfl (pc' := 192) rfl ?_
  refine own_aload X B at_192 rfl rfl (pc' := 194) rfl ?_
  refine own_iload X B at_194 rfl (pc' := 196) rfl ?_
  refine own_aload X B at_196 rfl rfl (pc' := 198) rfl ?_
  refine own_iload X B at_198 rfl (pc' := 200) rfl ?_
  refine own_iload X B at_200 rfl (pc' := 202) rfl ?_
  refine own_iload X B at_202 rfl (pc' := 204) rfl ?_
  refine own_callS X B (W := 0) (hw _ (List.mem_of_getElem? (i := 2) rfl)) (hw _ (List.mem_of_getElem? (i := 3) rfl)) (hw _ (List.mem_of_getElem? (i := 4) rfl)) (hw _ (List.mem_of_getElem? (i := 5) rfl)) (by decide) (rm2 l Z a0 hw sr tg fr to wd by' (own_src a b c') (own_tgt a b c') h n0 (own_sz X Z0) (Nat.le_trans Z0 z_tg) n_sr_tg A_sr A_tg hfr hto hwd hby') (by decide) (by decide) (by decide) (by decide) rfl (argsL := [.ref sr, .int (Int32.ofNat fr), .ref tg, .int (Int32.ofNat to), .int (Int32.ofNat wd), .int (Int32.ofNat by')]) pd_1 rfl rfl (st := []) rfl (Nat.le_refl _) at_204 (pc' := 207) rfl (allS (Or.inr z_tg) all0) ?_
  rintro v T h X K ⟨rfl, A_tg⟩
  replace A_sr := A_sr.keep K (ninS n_sr_tg nin0)
  replace A_bf := A_bf.keep K (ninS (Ne.symm n_tg_bf) nin0)
  replace A_cp := A_cp.keep K (ninS (Ne.symm n_tg_cp) nin0)
  show own_H _ _ _ _ _ _ _ _ T (mkF m 207 #[.val (.long a), .second, .val (.long b), .second, .val (.long c'), .second, .val (.int y), .val (.int x), .val (.int o), .val (.int (Int32.ofNat fr)), .val (.int (Int32.ofNat to)), .val (.int (Int32.ofNat wd)), .val (.int (Int32.ofNat by')), .val (.ref sr), .val (.ref tg), .val (.ref bf), .val (.ref cp), .unset, .unset, .unset, .unset, .unset, .unset] [])
  refine own_iload X B at_207 rfl (pc' := 209) rfl ?_
  refine own_lit X B (hw _ (List.mem_of_getElem? (i := 6) rfl)) at_209 (pc' := 211) rfl ?_
  refine own_iand X B at_211 (pc' := 212) rfl ?_
  refine own_sipush X B at_212 (v := (320 : Int32)) rfl (pc' := 215) rfl ?_
  refine own_irem X B at_215 (by decide) (pc' := 216) rfl ?_
  obtain ⟨p', hp', ep'⟩ := own_mod320 x
  rw [ep']
  refine own_istore X B at_216 (L' := #[.val (.long a), .second, .val (.long b), .second, .val (.long c'), .second, .val (.int y), .val (.int x), .val (.int o), .val (.int (Int32.ofNat fr)), .val (.int (Int32.ofNat to)), .val (.int (Int32.ofNat wd)), .val (.int (Int32.ofNat by')), .val (.ref sr), .val (.ref tg), .val (.ref bf), .val (.ref cp), .val (.int (Int32.ofNat p')), .unset, .unset, .unset, .unset, .unset]) rfl (pc' := 218) rfl ?_
  refine own_iload X B at_218 rfl (pc' := 220) rfl ?_
  refine own_iload X B at_220 rfl (pc' := 222) rfl ?_
  refine own_bipush X B at_222 (v := (64 : Int32)) rfl (pc' := 224) rfl ?_
  refine own_imul X B at_224 (pc' := 225) rfl ?_
  rw [show (64 : Int32) = Int32.ofNat 64 from rfl, own_mul]
  refine own_isub X B at_225 (pc' := 226) rfl ?_
  refine own_istore X B at_226 (L' := #[.val (.long a), .second, .val (.long b), .second, .val (.long c'), .second, .val (.int y), .val (.int x), .val (.int o), .val (.int (Int32.ofNat fr)), .val (.int (Int32.ofNat to)), .val (.int (Int32.ofNat wd)), .val (.int (Int32.ofNat by')), .val (.ref sr), .val (.ref tg), .val (.ref bf), .val (.ref cp), .val (.int (Int32.ofNat p')), .val (.int ((Int32.ofNat p') - (Int32.ofNat (to * 64)))), .unset, .unset, .unset, .unset]) rfl (pc' := 228) rfl ?_
  refine own_iload X B at_228 rfl (pc' := 230) rfl ?_
  have J286 : ∀ (T : State) (h : Heap) (r18 : Int32) (ex : Int64), own_St p l e room_1 s m #[.long a, .long b, .long c', .int y, .int x, .int o] below meth c n0 h0 [] T h 4 20 → own_AJ Z h sr 5 (own_src a b c') → own_AJ Z h tg 5 (own_res (own_src a b c') (own_tgt a b c') fr to wd by' 0) → own_AJ Z h bf 5 (own_tgt a b c') → own_AJ Z h cp 5 (own_src a b c') → (ex = own_bt (own_res (own_src a b c') (own_tgt a b c') fr to wd by' 0) p') → own_G p e below s n0 h0 [] (fun v h => v = some (.int 1)) 16 128 T (mkF m 286 #[.val (.long a), .second, .val (.long b), .second, .val (.long c'), .second, .val (.int y), .val (.int x), .val (.int o), .val (.int (Int32.ofNat fr)), .val (.int (Int32.ofNat to)), .val (.int (Int32.ofNat wd)), .val (.int (Int32.ofNat by')), .val (.ref sr), .val (.ref tg), .val (.ref bf), .val (.ref cp), .val (.int (Int32.ofNat p')), .val (.int r18), .val (.long ex), .second, .unset, .unset] []) := by
    intro T h r18 ex X A_sr A_tg A_bf A_cp hex
    refine own_iload X B at_286 rfl (pc' := 288) rfl ?_
    refine own_iconst X B at_288 (v := (1 : Int32)) rfl (pc' := 289) rfl ?_
    refine own_iushr X B at_289 (pc' := 290) rfl ?_
    refine own_lit X B (hw _ (List.mem_of_getElem? (i := 6) rfl)) at_290 (pc' := 292) rfl ?_
    refine own_iand X B at_292 (pc' := 293) rfl ?_
    refine own_sipush X B at_293 (v := (320 : Int32)) rfl (pc' := 296) rfl ?_
    refine own_irem X B at_296 (by decide) (pc' := 297) rfl ?_
    obtain ⟨sp, hsp, esp⟩ := own_mod320 ((x.toUInt32 >>> ((1 : Int32) &&& 31).toUInt32).toInt32)
    rw [esp]
    refine own_istore X B at_297 (L' := #[.val (.long a), .second, .val (.long b), .second, .val (.long c'), .second, .val (.int y), .val (.int x), .val (.int o), .val (.int (Int32.ofNat fr)), .val (.int (Int32.ofNat to)), .val (.int (Int32.ofNat wd)), .val (.int (Int32.ofNat by')), .val (.ref sr), .val (.ref tg), .val (.ref bf), .val (.ref cp), .val (.int (Int32.ofNat p')), .val (.int r18), .val (.long ex), .second, .val (.int (Int32.ofNat sp)), .unset]) rfl (pc' := 299) rfl ?_
    refine own_aload X B at_299 rfl rfl (pc' := 301) rfl ?_
    refine own_iload X B at_301 rfl (pc' := 303) rfl ?_
    refine own_callS X B (W := 0) (hw _ (List.mem_of_getElem? (i := 7) rfl)) (hw _ (List.mem_of_getElem? (i := 8) rfl)) (hw _ (List.mem_of_getElem? (i := 9) rfl)) (hw _ (List.mem_of_getElem? (i := 10) rfl)) (by decide) (rm1 l Z a0 hw sr sp (own_src a b c') h n0 (own_sz X Z0) A_sr hsp) (by decide) (by decide) (by decide) (by decide) rfl (argsL := [.ref sr, .int (Int32.ofNat sp)]) pd_2 rfl rfl (st := []) rfl (Nat.le_refl _) at_303 (pc' := 306) rfl all0 ?_
    rintro v T h X K rfl
    replace A_sr := A_sr.keep K nin0
    replace A_tg := A_tg.keep K nin0
    replace A_bf := A_bf.keep K nin0
    replace A_cp := A_cp.keep K nin0
    show own_H _ _ _ _ _ _ _ _ T (mkF m 306 #[.val (.long a), .second, .val (.long b), .second, .val (.long c'), .second, .val (.int y), .val (.int x), .val (.int o), .val (.int (Int32.ofNat fr)), .val (.int (Int32.ofNat to)), .val (.int (Int32.ofNat wd)), .val (.int (Int32.ofNat by')), .val (.ref sr), .val (.ref tg), .val (.ref bf), .val (.ref cp), .val (.int (Int32.ofNat p')), .val (.int r18), .val (.long ex), .second, .val (.int (Int32.ofNat sp)), .unset] [.long (own_bt (own_src a b c') sp)])
    refine own_aload X B at_306 rfl rfl (pc' := 308) rfl ?_
    refine own_iload X B at_308 rfl (pc' := 310) rfl ?_
    refine own_callS X B (W := 2) (hw _ (List.mem_of_getElem? (i := 7) rfl)) (hw _ (List.mem_of_getElem? (i := 8) rfl)) (hw _ (List.mem_of_getElem? (i := 9) rfl)) (hw _ (List.mem_of_getElem? (i := 10) rfl)) (by decide) (rm1 l Z a0 hw cp sp (own_src a b c') h n0 (own_sz X Z0) A_cp hsp) (by decide) (by decide) (by decide) (by decide) rfl (argsL := [.ref cp, .int (Int32.ofNat sp)]) pd_2 rfl rfl (st := [.long (own_bt (own_src a b c') sp)]) rfl (Nat.le_refl _) at_310 (pc' := 313) rfl all0 ?_
    rintro v T h X K rfl
    replace A_sr := A_sr.keep K nin0
    replace A_tg := A_tg.keep K nin0
    replace A_bf := A_bf.keep K nin0
    replace A_cp := A_cp.keep K nin0
    show own_H _ _ _ _ _ _ _ _ T (mkF m 313 #[.val (.long a), .second, .val (.long b), .second, .val (.long c'), .second, .val (.int y), .val (.int x), .val (.int o), .val (.int (Int32.ofNat fr)), .val (.int (Int32.ofNat to)), .val (.int (Int32.ofNat wd)), .val (.int (Int32.ofNat by')), .val (.ref sr), .val (.ref tg), .val (.ref bf), .val (.ref cp), .val (.int (Int32.ofNat p')), .val (.int r18), .val (.long ex), .second, .val (.int (Int32.ofNat sp)), .unset] [.long (own_bt (own_src a b c') sp), .long (own_bt (own_src a b c') sp)])
    refine own_lcmp X B at_313 (pc' := 314) rfl ?_
    refine own_ifF X B at_314 (teq ((lw_eq _ _).mpr rfl)).2 (pc' := 317) rfl ?_
    refine own_iconst X B at_317 (v := (1 : Int32)) rfl (pc' := 318) rfl ?_
    refine own_goto X B at_318 (pc' := 322) (by decide) (by decide) ?_
    refine own_istore X B at_322 (L' := #[.val (.long a), .second, .val (.long b), .second, .val (.long c'), .second, .val (.int y), .val (.int x), .val (.int o), .val (.int (Int32.ofNat fr)), .val (.int (Int32.ofNat to)), .val (.int (Int32.ofNat wd)), .val (.int (Int32.ofNat by')), .val (.ref sr), .val (.ref tg), .val (.ref bf), .val (.ref cp), .val (.int (Int32.ofNat p')), .val (.int r18), .val (.long ex), .second, .val (.int (Int32.ofNat sp)), .val (.int (1 : Int32))]) rfl (pc' := 324) rfl ?_
    refine own_aload X B at_324 rfl rfl (pc' := 326) rfl ?_
    refine own_iload X B at_326 rfl (pc' := 328) rfl ?_
    refine own_callS X B (W := 0) (hw _ (List.mem_of_getElem? (i := 7) rfl)) (hw _ (List.mem_of_getElem? (i := 8) rfl)) (hw _ (List.mem_of_getElem? (i := 9) rfl)) (hw _ (List.mem_of_getElem? (i := 10) rfl)) (by decide) (rm1 l Z a0 hw tg p' (own_res (own_src a b c') (own_tgt a b c') fr to wd by' 0) h n0 (own_sz X Z0) A_tg hp') (by decide) (by decide) (by decide) (by decide) rfl (argsL := [.ref tg, .int (Int32.ofNat p')]) pd_2 rfl rfl (st := []) rfl (Nat.le_refl _) at_328 (pc' := 331) rfl all0 ?_
    rintro v T h X K rfl
    replace A_sr := A_sr.keep K nin0
    replace A_tg := A_tg.keep K nin0
    replace A_bf := A_bf.keep K nin0
    replace A_cp := A_cp.keep K nin0
    show own_H _ _ _ _ _ _ _ _ T (mkF m 331 #[.val (.long a), .second, .val (.long b), .second, .val (.long c'), .second, .val (.int y), .val (.int x), .val (.int o), .val (.int (Int32.ofNat fr)), .val (.int (Int32.ofNat to)), .val (.int (Int32.ofNat wd)), .val (.int (Int32.ofNat by')), .val (.ref sr), .val (.ref tg), .val (.ref bf), .val (.ref cp), .val (.int (Int32.ofNat p')), .val (.int r18), .val (.long ex), .second, .val (.int (Int32.ofNat sp)), .val (.int (1 : Int32))] [.long (own_bt (own_res (own_src a b c') (own_tgt a b c') fr to wd by' 0) p')])
    refine own_lload X B at_331 rfl (pc' := 333) rfl ?_
    refine own_lcmp X B at_333 (pc' := 334) rfl ?_
    refine own_ifF X B at_334 (teq ((lw_eq _ _).mpr hex.symm)).2 (pc' := 337) rfl ?_
    refine own_iload X B at_337 rfl (pc' := 339) rfl ?_
    refine own_ifF X B at_339 (feq (by decide : ¬ (1 : Int32) = 0)).1 (pc' := 342) rfl ?_
    refine own_iconst X B at_342 (v := (1 : Int32)) rfl (pc' := 343) rfl ?_
    refine own_goto X B at_343 (pc' := 347) (by decide) (by decide) ?_
    exact own_zret X B at_347 (by decide) (by decide) rfl rfl
  by_cases h1 : p' < to * 64
  · -- h1
    refine own_ifT X B at_230 (tlt (own_sub_neg (by omega) h1)).1 (pc' := 243) (by decide) (by decide) ?_
    refine own_aload X B at_243 rfl rfl (pc' := 245) rfl ?_
    refine own_iload X B at_245 rfl (pc' := 247) rfl ?_
    refine own_callS X B (W := 0) (hw _ (List.mem_of_getElem? (i := 7) rfl)) (hw _ (List.mem_of_getElem? (i := 8) rfl)) (hw _ (List.mem_of_getElem? (i := 9) rfl)) (hw _ (List.mem_of_getElem? (i := 10) rfl)) (by decide) (rm1 l Z a0 hw bf p' (own_tgt a b c') h n0 (own_sz X Z0) A_bf hp') (by decide) (by decide) (by decide) (by decide) rfl (argsL := [.ref bf, .int (Int32.ofNat p')]) pd_2 rfl rfl (st := []) rfl (Nat.le_refl _) at_247 (pc' := 250) rfl all0 ?_
    rintro v T h X K rfl
    replace A_sr := A_sr.keep K nin0
    replace A_bf := A_bf.keep K nin0
    replace A_cp := A_cp.keep K nin0
    replace A_tg := A_tg.keep K nin0
    show own_H _ _ _ _ _ _ _ _ T (mkF m 250 #[.val (.long a), .second, .val (.long b), .second, .val (.long c'), .second, .val (.int y), .val (.int x), .val (.int o), .val (.int (Int32.ofNat fr)), .val (.int (Int32.ofNat to)), .val (.int (Int32.ofNat wd)), .val (.int (Int32.ofNat by')), .val (.ref sr), .val (.ref tg), .val (.ref bf), .val (.ref cp), .val (.int (Int32.ofNat p')), .val (.int ((Int32.ofNat p') - (Int32.ofNat (to * 64)))), .unset, .unset, .unset, .unset] [.long (own_bt (own_tgt a b c') p')])
    refine own_lstore X B at_250 (L' := #[.val (.long a), .second, .val (.long b), .second, .val (.long c'), .second, .val (.int y), .val (.int x), .val (.int o), .val (.int (Int32.ofNat fr)), .val (.int (Int32.ofNat to)), .val (.int (Int32.ofNat wd)), .val (.int (Int32.ofNat by')), .val (.ref sr), .val (.ref tg), .val (.ref bf), .val (.ref cp), .val (.int (Int32.ofNat p')), .val (.int ((Int32.ofNat p') - (Int32.ofNat (to * 64)))), .val (.long (own_bt (own_tgt a b c') p')), .second, .unset, .unset]) rfl (pc' := 252) rfl ?_
    refine own_goto X B at_252 (pc' := 286) (by decide) (by decide) ?_
    exact J286 _ _ _ _ X A_sr A_tg A_bf A_cp (own_law_out (own_src a b c') (own_tgt a b c') by' (by omega)).symm
  · -- not h1
    refine own_ifF X B at_230 (flt (by rw [own_sub (by omega) (by omega)]; exact own_nn (by omega))).1 (pc' := 233) rfl ?_
    have h0' : to * 64 ≤ p' := by omega
    rw [own_sub (by omega) h0']
    refine own_iload X B at_233 rfl (pc' := 235) rfl ?_
    refine own_iload X B at_235 rfl (pc' := 237) rfl ?_
    refine own_bipush X B at_237 (v := (64 : Int32)) rfl (pc' := 239) rfl ?_
    refine own_imul X B at_239 (pc' := 240) rfl ?_
    rw [show (64 : Int32) = Int32.ofNat 64 from rfl, own_mul]
    by_cases h2 : p' - to * 64 < wd * 64
    · -- h2
      refine own_icmpT X B at_240 (tlt ((own_ltN (by omega) (by omega)).mpr h2)).1 (pc' := 255) (by decide) (by decide) ?_
      refine own_iload X B at_255 rfl (pc' := 257) rfl ?_
      refine own_iload X B at_257 rfl (pc' := 259) rfl ?_
      by_cases h3 : p' - to * 64 < by'
      · -- h3
        refine own_icmpT X B at_259 (tlt ((own_ltN (by omega) (by omega)).mpr h3)).1 (pc' := 283) (by decide) (by decide) ?_
        refine own_lconst X B at_283 (v := (0 : Int64)) rfl (pc' := 284) rfl ?_
        refine own_lstore X B at_284 (L' := #[.val (.long a), .second, .val (.long b), .second, .val (.long c'), .second, .val (.int y), .val (.int x), .val (.int o), .val (.int (Int32.ofNat fr)), .val (.int (Int32.ofNat to)), .val (.int (Int32.ofNat wd)), .val (.int (Int32.ofNat by')), .val (.ref sr), .val (.ref tg), .val (.ref bf), .val (.ref cp), .val (.int (Int32.ofNat p')), .val (.int (Int32.ofNat (p' - to * 64))), .val (.long (0 : Int64)), .second, .unset, .unset]) rfl (pc' := 286) rfl ?_
        exact J286 _ _ _ _ X A_sr A_tg A_bf A_cp (own_law_zero (own_src a b c') (own_tgt a b c') fr h0' h2 h3).symm
      · -- not h3
        refine own_icmpF X B at_259 (flt (mt (own_ltN (by omega) (by omega)).mp h3)).1 (pc' := 262) rfl ?_
        refine own_aload X B at_262 rfl rfl (pc' := 264) rfl ?_
        refine own_iload X B at_264 rfl (pc' := 266) rfl ?_
        refine own_bipush X B at_266 (v := (64 : Int32)) rfl (pc' := 268) rfl ?_
        refine own_imul X B at_268 (pc' := 269) rfl ?_
        rw [show (64 : Int32) = Int32.ofNat 64 from rfl, own_mul]
        refine own_iload X B at_269 rfl (pc' := 271) rfl ?_
        refine own_iadd X B at_271 (pc' := 272) rfl ?_
        rw [own_add]
        refine own_iload X B at_272 rfl (pc' := 274) rfl ?_
        refine own_isub X B at_274 (pc' := 275) rfl ?_
        rw [own_sub (by omega) (by omega)]
        refine own_callS X B (W := 0) (hw _ (List.mem_of_getElem? (i := 7) rfl)) (hw _ (List.mem_of_getElem? (i := 8) rfl)) (hw _ (List.mem_of_getElem? (i := 9) rfl)) (hw _ (List.mem_of_getElem? (i := 10) rfl)) (by decide) (rm1 l Z a0 hw cp (fr * 64 + (p' - to * 64) - by') (own_src a b c') h n0 (own_sz X Z0) A_cp (by omega)) (by decide) (by decide) (by decide) (by decide) rfl (argsL := [.ref cp, .int (Int32.ofNat (fr * 64 + (p' - to * 64) - by'))]) pd_2 rfl rfl (st := []) rfl (Nat.le_refl _) at_275 (pc' := 278) rfl all0 ?_
        rintro v T h X K rfl
        replace A_sr := A_sr.keep K nin0
        replace A_bf := A_bf.keep K nin0
        replace A_cp := A_cp.keep K nin0
        replace A_tg := A_tg.keep K nin0
        show own_H _ _ _ _ _ _ _ _ T (mkF m 278 #[.val (.long a), .second, .val (.long b), .second, .val (.long c'), .second, .val (.int y), .val (.int x), .val (.int o), .val (.int (Int32.ofNat fr)), .val (.int (Int32.ofNat to)), .val (.int (Int32.ofNat wd)), .val (.int (Int32.ofNat by')), .val (.ref sr), .val (.ref tg), .val (.ref bf), .val (.ref cp), .val (.int (Int32.ofNat p')), .val (.int (Int32.ofNat (p' - to * 64))), .unset, .unset, .unset, .unset] [.long (own_bt (own_src a b c') (fr * 64 + (p' - to * 64) - by'))])
        refine own_lstore X B at_278 (L' := #[.val (.long a), .second, .val (.long b), .second, .val (.long c'), .second, .val (.int y), .val (.int x), .val (.int o), .val (.int (Int32.ofNat fr)), .val (.int (Int32.ofNat to)), .val (.int (Int32.ofNat wd)), .val (.int (Int32.ofNat by')), .val (.ref sr), .val (.ref tg), .val (.ref bf), .val (.ref cp), .val (.int (Int32.ofNat p')), .val (.int (Int32.ofNat (p' - to * 64))), .val (.long (own_bt (own_src a b c') (fr * 64 + (p' - to * 64) - by'))), .second, .unset, .unset]) rfl (pc' := 280) rfl ?_
        refine own_goto X B at_280 (pc' := 286) (by decide) (by decide) ?_
        exact J286 _ _ _ _ X A_sr A_tg A_bf A_cp (own_law_copy (own_src a b c') (own_tgt a b c') fr h0' h2 (by omega)).symm
    · -- not h2
      refine own_icmpF X B at_240 (flt (mt (own_ltN (by omega) (by omega)).mp h2)).1 (pc' := 243) rfl ?_
      refine own_aload X B at_243 rfl rfl (pc' := 245) rfl ?_
      refine own_iload X B at_245 rfl (pc' := 247) rfl ?_
      refine own_callS X B (W := 0) (hw _ (List.mem_of_getElem? (i := 7) rfl)) (hw _ (List.mem_of_getElem? (i := 8) rfl)) (hw _ (List.mem_of_getElem? (i := 9) rfl)) (hw _ (List.mem_of_getElem? (i := 10) rfl)) (by decide) (rm1 l Z a0 hw bf p' (own_tgt a b c') h n0 (own_sz X Z0) A_bf hp') (by decide) (by decide) (by decide) (by decide) rfl (argsL := [.ref bf, .int (Int32.ofNat p')]) pd_2 rfl rfl (st := []) rfl (Nat.le_refl _) at_247 (pc' := 250) rfl all0 ?_
      rintro v T h X K rfl
      replace A_sr := A_sr.keep K nin0
      replace A_bf := A_bf.keep K nin0
      replace A_cp := A_cp.keep K nin0
      replace A_tg := A_tg.keep K nin0
      show own_H _ _ _ _ _ _ _ _ T (mkF m 250 #[.val (.long a), .second, .val (.long b), .second, .val (.long c'), .second, .val (.int y), .val (.int x), .val (.int o), .val (.int (Int32.ofNat fr)), .val (.int (Int32.ofNat to)), .val (.int (Int32.ofNat wd)), .val (.int (Int32.ofNat by')), .val (.ref sr), .val (.ref tg), .val (.ref bf), .val (.ref cp), .val (.int (Int32.ofNat p')), .val (.int (Int32.ofNat (p' - to * 64))), .unset, .unset, .unset, .unset] [.long (own_bt (own_tgt a b c') p')])
      refine own_lstore X B at_250 (L' := #[.val (.long a), .second, .val (.long b), .second, .val (.long c'), .second, .val (.int y), .val (.int x), .val (.int o), .val (.int (Int32.ofNat fr)), .val (.int (Int32.ofNat to)), .val (.int (Int32.ofNat wd)), .val (.int (Int32.ofNat by')), .val (.ref sr), .val (.ref tg), .val (.ref bf), .val (.ref cp), .val (.int (Int32.ofNat p')), .val (.int (Int32.ofNat (p' - to * 64))), .val (.long (own_bt (own_tgt a b c') p')), .second, .unset, .unset]) rfl (pc' := 252) rfl ?_
      refine own_goto X B at_252 (pc' := 286) (by decide) (by decide) ?_
      exact J286 _ _ _ _ X A_sr A_tg A_bf A_cp (own_law_out (own_src a b c') (own_tgt a b c') by' (by omega)).symm
set_option maxRecDepth 65536 in
set_option maxHeartbeats 40000000 in
theorem comes_1 {Post : Tables → Env → Array Value → State → Outcome → State → Prop} (hpost : ∀ tb e args s v u, (limb_1_1.after args s (.returned v) u = true ∧ limb_1_2.after args s (.returned v) u = true ∧ True) → FrameEnd s (.returned v) u (Jvm.fieldLocs frame_1_writes args s ++ Jvm.arrayLocs frame_1_arrays args s ++ Jvm.staticLocs frame_1_statics s) 16 128 → Post tb e args s (.returned v) u) :
    ArmFor flags0 classFile x code maxLocals ret World_1 tables_1 room_1 Calls_1 rest_1 Pre_1 Post := by
  intro l hfl _ _ p e ha hc hk s m args below hf hA hF happ hP
  obtain ⟨hcalls, hrest, hpre⟩ := hP
  obtain ⟨-, -, -, hnamed, -, -, -, hat⟩ := (Spec.applies_iff hf).mp happ
  obtain ⟨hg, hn⟩ := and_e (Cond.before_iff.mp (show (Jvm.Cond.and given_1 narrow_1).before args s = true from hpre))
  obtain ⟨g1, g2⟩ := and_e hg
  obtain ⟨g3, g4⟩ := and_e g2
  obtain ⟨g5, g6⟩ := and_e g4
  obtain ⟨g7, g8⟩ := and_e g6
  obtain ⟨g9, g10⟩ := and_e g8
  obtain ⟨g11, g12⟩ := and_e g10
  obtain ⟨w0, w1, w2, w3, w4, w5, rfl⟩ : ∃ w0 w1 w2 w3 w4 w5 : Value, args = #[w0, w1, w2, w3, w4, w5] := by
    have hs : args.size = 6 := by simpa [Cond.value, given_1] using g1
    obtain ⟨L⟩ := args
    match L, hs with
    | [w0, w1, w2, w3, w4, w5], _ => exact ⟨w0, w1, w2, w3, w4, w5, rfl⟩
  have hw := fun d (hd : d ∈ tables_1) => atoms_spec (ws := Jvm.Cond.code x code maxLocals ret :: tables_1) hat d (List.mem_cons_of_mem _ hd)
  obtain ⟨i0, ei0⟩ := isL_v g3
  obtain rfl : w0 = (.long i0) := Option.some.inj ei0
  obtain ⟨i1, ei1⟩ := isL_v g5
  obtain rfl : w1 = (.long i1) := Option.some.inj ei1
  obtain ⟨i2, ei2⟩ := isL_v g7
  obtain rfl : w2 = (.long i2) := Option.some.inj ei2
  obtain ⟨i3, ei3⟩ := is_v g9
  obtain rfl : w3 = (.int i3) := Option.some.inj ei3
  obtain ⟨i4, ei4⟩ := is_v g11
  obtain rfl : w4 = (.int i4) := Option.some.inj ei4
  obtain ⟨i5, ei5⟩ := is_v g12
  obtain rfl : w5 = (.int i5) := Option.some.inj ei5
  obtain ⟨n, o, h1, h2, h3, _, L, rfl, ⟨N, -, rfl⟩, hq⟩ := rm0 l s _ hw i0 i1 i2 i3 i4 i5 s.heap s.heap.size (Nat.le_refl _) (Nat.le_refl _) p e ha hc hk s m _ below hf ((Spec.applies_iff_loose hf).mp happ).1 ⟨rfl, State.Warmed39.refl s, rfl⟩ trivial
  refine ⟨n, _, h1, h2, h3, hpost _ _ _ _ _ _ ⟨Cond.after_iff.mpr rfl, Cond.after_iff.mpr (eq_i res_at (Term.int_eval (1)) rfl), trivial⟩ ⟨hq.1, hq.2.1, (hq.2.2.sift fun y hy => Or.inr (N y hy)).mono (by decide) (by decide)⟩⟩
theorem main_1_1 : Claimed_1_1 := comes_1 fun _ _ _ _ _ _ h hF => ⟨h.1, hF⟩
theorem main_1_2 : Claimed_1_2 := comes_1 fun _ _ _ _ _ _ h hF => ⟨h.2.1, hF⟩
end Jvm.Pilot.@@N@@
namespace Jvm.Pilot.@@N@@
open Jvm Jvm.ClassFile Sem Op Lib Jvm.Free Jvm.Stand Jvm.Pilot.@@N@@.Jvm.D
/-! MADE BY PROGRAM (witnessworld.py) out of the Statement's table words and the real class files: 11 classes; the members and pool entries that the words name. The judged class is class 1, her method 2. -/
namespace start1
open Jvm.ClassFile
def u (s : String) : CpInfo := .utf8 (stringToUtf16 s)
/-- a pool by its gaps: so many unusable entries, then the entry; so many at the end -/
def gap : Nat → List CpInfo → List CpInfo
  | 0, r => r
  | n + 1, r => .unusable :: gap n r
def poolList (es : List (Nat × CpInfo)) (last : Nat) : List CpInfo := es.foldr (fun e r => gap e.1 (e.2 :: r)) (gap last [])
def pool (es : List (Nat × CpInfo)) (last : Nat) : Array CpInfo := ⟨poolList es last⟩
def fileOf (pool : Array CpInfo) (this : Nat) (attrs : Array Attribute := #[]) (ms : Array MethodInfo := #[]) (fl : Nat := 33) (sup : Nat := 0) (ifs : Array Nat := #[]) (fds : Array FieldInfo := #[]) : ClassFile where
  minorVersion := 0
  majorVersion := 65
  constantPool := pool
  accessFlags := fl
  thisClass := this
  superClass := sup
  interfaces := ifs
  fields := fds
  methods := ms
  attributes := attrs
def plain (name : String) (sup : Option ClassId) : Class where
  name := name
  kind := .ordinary
  loader := none
  accessFlags := 33
  super := sup
  interfaces := #[]
  cf := none
  fields := #[]
  methods := #[]
  instanceTypes := #[]
  staticTypes := #[]
  resolved := #[]
  callSites := []
  init := .initialized
  statics := none
  mirror := none

def pool0 : Array CpInfo := pool [(5, u "<init>"), (0, u "()V"), (1, .class_ 10), (1, u "java/lang/Object")] 113

def k0m0 : Method := { name := "<init>", desc := "()V", sig := { parameters := [], returnType := none }, accessFlags := 1, code := none }
/-- java/lang/Object -/
def k0 : Class := { plain "java/lang/Object" none with
  accessFlags := 33
  interfaces := #[]
  cf := some (fileOf pool0 8 #[] #[{ accessFlags := 1, nameIndex := 5, descriptorIndex := 6, attributes := #[] }] 33 0 #[] #[])
  fields := #[]
  methods := #[k0m0]
  instanceTypes := #[]
  staticTypes := #[]
  resolved := Array.replicate 124 none
  statics := none }

def pool1 : Array CpInfo := pool [(2, .class_ 4), (1, u "java/lang/Object"), (0, u "<init>"), (0, u "()V"), (0, .long 18446744073709551615), (1, .methodref 10 11), (0, .class_ 12), (0, .nameAndType 13 14), (0, u "com/example/ostrakon/ostrakon/text/BitVectors"), (0, u "shiftUp"), (0, u "([JI[JIII)V"), (0, .integer 2147483647), (0, .methodref 17 18), (0, .class_ 19), (0, .nameAndType 20 21), (0, u "com/example/ostrakon/ostrakon/text/BitVectorsShiftUpPinLaw"), (0, u "bit"), (0, u "([JI)J"), (2, u "law"), (0, u "(JJJIII)Z")] 5

def k1m0 : Method := { name := "<init>", desc := "()V", sig := { parameters := [], returnType := none }, accessFlags := 1, code := none }
def k1c1 : Code := { maxStack := 4, maxLocals := 2, code := method_2_code, exceptionTable := #[], attributes := #[] }
def k1m1 : Method := { name := "bit", desc := "([JI)J", sig := { parameters := [(.array .long), .int], returnType := some .long }, accessFlags := 10, code := some k1c1 }
def k1c2 : Code := { maxStack := 7, maxLocals := 23, code := code, exceptionTable := #[], attributes := #[] }
def k1m2 : Method := { name := "law", desc := "(JJJIII)Z", sig := { parameters := [.long, .long, .long, .int, .int, .int], returnType := some .boolean }, accessFlags := 9, code := some k1c2 }
/-- com/example/ostrakon/ostrakon/text/BitVectorsShiftUpPinLaw -/
def k1 : Class := { plain "com/example/ostrakon/ostrakon/text/BitVectorsShiftUpPinLaw" (some 0) with
  accessFlags := 49
  interfaces := #[]
  cf := some (fileOf pool1 17 #[] #[{ accessFlags := 1, nameIndex := 5, descriptorIndex := 6, attributes := #[] }, { accessFlags := 10, nameIndex := 20, descriptorIndex := 21, attributes := #[] }, { accessFlags := 9, nameIndex := 24, descriptorIndex := 25, attributes := #[] }] 49 2 #[] #[])
  fields := #[]
  methods := #[k1m0, k1m1, k1m2]
  instanceTypes := #[]
  staticTypes := #[]
  resolved := Array.replicate 31 none
  statics := none }

def pool2 : Array CpInfo := pool [(2, .class_ 4), (1, u "java/lang/Object"), (0, u "<init>"), (0, u "()V"), (9, .class_ 18), (1, u "com/example/ostrakon/ostrakon/text/BitVectors"), (4, u "shiftUp"), (0, u "([JI[JIII)V")] 17

def k2m0 : Method := { name := "<init>", desc := "()V", sig := { parameters := [], returnType := none }, accessFlags := 2, code := none }
def k2c1 : Code := { maxStack := 6, maxLocals := 12, code := prog_237_method_2_code, exceptionTable := #[], attributes := #[] }
def k2m1 : Method := { name := "shiftUp", desc := "([JI[JIII)V", sig := { parameters := [(.array .long), .int, (.array .long), .int, .int, .int], returnType := none }, accessFlags := 8, code := some k2c1 }
/-- com/example/ostrakon/ostrakon/text/BitVectors -/
def k2 : Class := { plain "com/example/ostrakon/ostrakon/text/BitVectors" (some 0) with
  accessFlags := 48
  interfaces := #[]
  cf := some (fileOf pool2 16 #[] #[{ accessFlags := 2, nameIndex := 5, descriptorIndex := 6, attributes := #[] }, { accessFlags := 8, nameIndex := 23, descriptorIndex := 24, attributes := #[] }] 48 2 #[] #[])
  fields := #[]
  methods := #[k2m0, k2m1]
  instanceTypes := #[]
  staticTypes := #[]
  resolved := Array.replicate 42 none
  statics := none }

def pool3 : Array CpInfo := pool [(1, u "java/lang/Cloneable"), (0, .class_ 1), (0, u "java/lang/Object"), (0, .class_ 3)] 3

/-- java/lang/Cloneable -/
def k3 : Class := { plain "java/lang/Cloneable" (some 0) with
  accessFlags := 1537
  interfaces := #[]
  cf := some (fileOf pool3 2 #[] #[] 1537 4 #[] #[])
  fields := #[]
  methods := #[]
  instanceTypes := #[]
  staticTypes := #[]
  resolved := Array.replicate 8 none
  statics := none }

def pool4 : Array CpInfo := pool [(1, u "java/io/Serializable"), (0, .class_ 1), (0, u "java/lang/Object"), (0, .class_ 3)] 3

/-- java/io/Serializable -/
def k4 : Class := { plain "java/io/Serializable" (some 0) with
  accessFlags := 1537
  interfaces := #[]
  cf := some (fileOf pool4 2 #[] #[] 1537 4 #[] #[])
  fields := #[]
  methods := #[]
  instanceTypes := #[]
  staticTypes := #[]
  resolved := Array.replicate 8 none
  statics := none }

/-- the primitive byte -/
def k5 : Class := { plain "byte" none with kind := .primitive 'B', accessFlags := 0x411 }
/-- [B -/
def k6 : Class := { plain "[B" (some 0) with kind := .array 5 .byte, interfaces := #[3, 4], accessFlags := 1041 }

/-- the primitive int -/
def k7 : Class := { plain "int" none with kind := .primitive 'I', accessFlags := 0x411 }
/-- [I -/
def k8 : Class := { plain "[I" (some 0) with kind := .array 7 .int, interfaces := #[3, 4], accessFlags := 1041 }

/-- the primitive long -/
def k9 : Class := { plain "long" none with kind := .primitive 'J', accessFlags := 0x411 }
/-- [J -/
def k10 : Class := { plain "[J" (some 0) with kind := .array 9 .long, interfaces := #[3, 4], accessFlags := 1041 }

def heap : Heap := #[]
def classes : Array Class := #[k0, k1, k2, k3, k4, k5, k6, k7, k8, k9, k10]
def interned : List (Array UInt16 × Addr) := []
def slotsUsed : Nat := 0
def theMethod : MethodId := ⟨1, 2⟩
def args0 : Array Value := #[.long 5, .long 1, .long 9, .int 7, .int 1, .int 3]
def aboutOver (below : List Frame) : State where
  vm := { classes := classes, interned := interned.toArray }
  heap := heap
  slotsUsed := slotsUsed
  threads := #[{ frames := .invoking theMethod args0 :: below }]
def below0 : List Frame := [.native { method := ⟨0, 0⟩, args := #[] }]
def about1 : State := aboutOver below0
def p0 : Program := .bare "" "" ""
def e0 : Env := launch0.env 0 0 0
theorem w_frames : about1.frames = Frame.invoking theMethod args0 :: below0 := rfl
set_option maxRecDepth 65536 in
theorem w_args : argsFit about1.vm theMethod args0 = true := by decide +kernel
set_option maxRecDepth 65536 in
theorem w_heap : heapFits about1 = true := by decide +kernel
set_option maxRecDepth 65536 in
theorem w_runnable : about1.curStatus? = some .runnable := by decide +kernel
set_option maxRecDepth 65536 in
theorem w_alone : about1.alone = true := by decide +kernel
set_option maxRecDepth 65536 in
theorem w_named : about1.methodNamed? x = some theMethod := by decide +kernel
set_option maxRecDepth 65536 in
theorem w_hears : about1.hears theMethod below0 = true := by decide +kernel
set_option maxRecDepth 65536 in
theorem w_ripe : about1.ripe theMethod args0 below0 = true := by decide +kernel
theorem w_running : about1.status = .running := rfl
set_option maxRecDepth 65536 in
theorem w_room : about1.hasRoom e0.platform room_1 = true :=
  launch0.hasRoom_least _ room_1 (by decide +kernel) (by decide +kernel) (by decide +kernel) (by decide +kernel) (by decide +kernel) (by decide +kernel)
theorem allAtoms_all (ts : List Jvm.Cond) (a : Array Jvm.Value) (st : Jvm.State) : (allAtoms ts).before a st = ts.all (fun c => c.before a st) := by
  induction ts with
  | nil => rfl
  | cons c t ih =>
    show (Jvm.Cond.and c (allAtoms t)).before a st = _
    rw [Jvm.Cond.before_and, ih, List.all_cons]
def words1 : List Jvm.Cond := Jvm.Cond.code x code maxLocals ret :: tables_1
/-- a 'code' word, met by the world's own term for the bytes: nothing is compared byte by byte -/
theorem code_word {y : MethodName} {bytes : ByteArray} {mx : Nat} {rt : Option FieldType} {a : Array Value} {s : State} {m : MethodId} {meth : Method} {c : Code} (h1 : s.methodNamed? y = some m) (h2 : s.vm.method? m = some meth) (h3 : meth.code = some c) (h4 : c.code = bytes)
    (h5 : (c.maxLocals == mx && c.exceptionTable.isEmpty && decide (c.maxStack ≤ mostOperands) && decide (meth.sig.returnType = rt) && !meth.locks && decide (parseMethodDescriptor y.desc = some meth.sig)) = true) : (Jvm.Cond.code y bytes mx rt).before a s = true := by
  simp only [Bool.and_eq_true, beq_iff_eq, Bool.not_eq_true', decide_eq_true_eq] at h5
  obtain ⟨⟨⟨⟨⟨g1, g2⟩, g3⟩, g4⟩, g5⟩, g6⟩ := h5
  simp [Cond.before, Cond.holds, Cond.value, h1, h2, h3, h4, g1, g2, g3, g4, g5, g6]
def isCode : Jvm.Cond → Bool
  | .code _ _ _ _ => true
  | _ => false
theorem all_split {L : List Jvm.Cond} {P : Jvm.Cond → Bool} (h1 : L.all (fun c => isCode c || P c) = true) (h2 : ∀ c ∈ L.filter isCode, P c = true) : L.all P = true := by
  refine List.all_eq_true.mpr fun c hc => ?_
  have h := List.all_eq_true.mp h1 c hc
  rcases Bool.eq_false_or_eq_true (isCode c) with hi | hi
  · exact h2 c (List.mem_filter.mpr ⟨hc, hi⟩)
  · simpa [hi] using h
set_option maxRecDepth 65536 in
theorem w_c0 : (Jvm.Cond.code x code maxLocals ret).before args0 about1 = true := code_word (m := ⟨1, 2⟩) (meth := k1m2) (c := k1c2) (by decide +kernel) rfl rfl rfl (by decide +kernel)
set_option maxRecDepth 65536 in
theorem w_c1 : (Jvm.Cond.code ({ cls := "com/example/ostrakon/ostrakon/text/BitVectors", name := "shiftUp", desc := "([JI[JIII)V" } : Jvm.MethodName) prog_237_method_2_code (12 : Nat) (Option.none : Option Jvm.ClassFile.FieldType)).before args0 about1 = true := code_word (m := ⟨2, 1⟩) (meth := k2m1) (c := k2c1) (by decide +kernel) rfl rfl rfl (by decide +kernel)
set_option maxRecDepth 65536 in
theorem w_c2 : (Jvm.Cond.code ({ cls := "com/example/ostrakon/ostrakon/text/BitVectorsShiftUpPinLaw", name := "bit", desc := "([JI)J" } : Jvm.MethodName) method_2_code (2 : Nat) (Option.some Jvm.ClassFile.FieldType.long)).before args0 about1 = true := code_word (m := ⟨1, 1⟩) (meth := k1m1) (c := k1c1) (by decide +kernel) rfl rfl rfl (by decide +kernel)
def codes1 : List Jvm.Cond := [Jvm.Cond.code x code maxLocals ret, Jvm.Cond.code ({ cls := "com/example/ostrakon/ostrakon/text/BitVectors", name := "shiftUp", desc := "([JI[JIII)V" } : Jvm.MethodName) prog_237_method_2_code (12 : Nat) (Option.none : Option Jvm.ClassFile.FieldType), Jvm.Cond.code ({ cls := "com/example/ostrakon/ostrakon/text/BitVectorsShiftUpPinLaw", name := "bit", desc := "([JI)J" } : Jvm.MethodName) method_2_code (2 : Nat) (Option.some Jvm.ClassFile.FieldType.long)]
set_option maxRecDepth 65536 in
theorem codes_eq : words1.filter isCode = codes1 := rfl
theorem w_codes : ∀ c ∈ words1.filter isCode, c.before args0 about1 = true := by
  rw [codes_eq]
  intro c hc
  simp only [codes1, List.mem_cons, List.not_mem_nil, or_false] at hc
  rcases hc with rfl | rfl | rfl
  · exact w_c0
  · exact w_c1
  · exact w_c2
set_option maxRecDepth 65536 in
theorem w_t1 : words1.all (fun c => isCode c || c.before args0 about1) = true := by decide +kernel
theorem w_tables : (allAtoms (Jvm.Cond.code x code maxLocals ret :: tables_1)).before args0 about1 = true := by
  rw [allAtoms_all]
  show words1.all (fun c => c.before args0 about1) = true
  refine all_split ?_ w_codes
  rw [w_t1]
set_option maxRecDepth 65536 in
theorem w_case : (Jvm.Cond.and given_1 narrow_1).before args0 about1 = true := by decide +kernel
theorem w_applies : (headSpec (Jvm.Cond.code x code maxLocals ret :: tables_1) room_1).applies x e0.platform about1 = true :=
  (Spec.applies_iff w_frames).mpr ⟨w_running, w_runnable, w_alone, w_named, w_hears, w_ripe, w_room, w_tables⟩
theorem atStart : AtStart classFile x code maxLocals ret World_1 tables_1 room_1 Calls_1 rest_1 Pre_1 launch0 p0 e0 about1 theMethod args0 below0 :=
  ⟨lists_1, trivial, launch0.admits_env _ _ _, launch0.least_env, fairChoices_fair.cas, fairChoices_fair.clock, w_frames, w_args, w_heap, w_applies, trivial, trivial, w_case⟩
end start1
theorem witness_1 : WitnessClaimed_1 := ⟨start1.p0, start1.e0, start1.about1, start1.theMethod, start1.args0, start1.below0, start1.atStart⟩
end Jvm.Pilot.@@N@@
