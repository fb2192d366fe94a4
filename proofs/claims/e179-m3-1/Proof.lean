import JvmDerived
import JvmDerived.Pilot.@@N@@Statement
import JvmDerived.Pilot.@@N@@Code
set_option linter.unusedVariables false
set_option linter.unusedSimpArgs false
namespace Jvm.Pilot.@@N@@
open Jvm Jvm.ClassFile Sem Op Lib Jvm.Free Jvm.Stand Jvm.LawKit Jvm.RoadKit Bundle Jvm.Pilot.@@N@@.Jvm.D
section OwnKit
variable {p : Program} {l : Launch} {e : Env} {R : Room} {s : State} {m : MethodId} {args : Array Value} {below : List Frame} {meth : Method} {c : Code} {n0 : Nat} {h0 h h' : Heap} {ws : List Addr} {T T' : State} {C S C' S' : Nat} {Q : Option Value → Heap → Prop} {En : Outcome → State → List Loc → Prop} {Z : State} {a0 : Array Value} {bytes : ByteArray} {maxL : Nat} {own nm : String} {rt : Option FieldType} {L L' : Array Slot} {st : List Value} {pc pc' : Nat}
/-- where the run stands: heap h, nothing old written but cells in ws -/
def own_St (p : Program) (l : Launch) (e : Env) (R : Room) (s : State) (m : MethodId) (args : Array Value) (below : List Frame) (meth : Method) (c : Code) (n0 : Nat) (h0 : Heap) (ws : List Addr) (T : State) (h : Heap) (C S : Nat) : Prop :=
  ∃ locs, Stand p l e R s m args below meth c T locs C S ∧ Fr n0 locs ∧ T.heap = h ∧ Keep h0 h ws
/-- from this frame the invocation ends, and Q holds of what it returns and of the heap -/
def own_H (p : Program) (e : Env) (below : List Frame) (En : Outcome → State → List Loc → Prop) (n0 : Nat) (h0 : Heap) (ws : List Addr) (Q : Option Value → Heap → Prop) (T : State) (f : JFrame) : Prop :=
  ∃ (s₂ : State) (o : Outcome), Steps p.tables e below (T.setTop f) s₂ ∧ s₂.status = .running ∧ Ended s₂ below o ∧ ∃ v L, o = .returned v ∧ (Fr n0 L ∧ Keep h0 s₂.heap ws ∧ Q v s₂.heap) ∧ En o s₂ L
def own_F (s : State) (C S : Nat) (o : Outcome) (t : State) (L : List Loc) : Prop := FrameEnd s o t L C S
abbrev own_G (p : Program) (e : Env) (below : List Frame) (s : State) (n0 : Nat) (h0 : Heap) (ws : List Addr) (Q : Option Value → Heap → Prop) (C S : Nat) (T : State) (f : JFrame) : Prop := own_H p e below (own_F s C S) n0 h0 ws Q T f
def own_B (Z : State) (p : Program) (s : State) (m : MethodId) (meth : Method) (c : Code) (bytes : ByteArray) (maxL : Nat) (own nm : String) (rt : Option FieldType) : Prop :=
  p.tables.exec = Jvm.exec ∧ Z.Warmed39 s.vm ∧ c.code = bytes ∧ c.maxLocals = maxL ∧ s.vm.findClass own = some m.cls ∧ meth.name = nm ∧ meth.sig.returnType = rt ∧ meth.locks = false
/-- a contract -/
def own_C (l : Launch) (Z : State) (y : MethodName) (bytes : ByteArray) (maxL : Nat) (rt : Option FieldType) (cws : List Jvm.Cond) (rm : Room) (as : Array Value) (h0 : Heap) (n0 : Nat) (ws : List Addr) (Q : Option Value → Heap → Prop) (C S : Nat) : Prop :=
  MetFree l y (head1 (Jvm.Cond.code y bytes maxL rt :: cws) rm) (fun a U => a = as ∧ Z.Warmed39 U.vm ∧ U.heap = h0) (fun _ _ _ _ _ => True) (fun _ U o U' => ∃ v L, o = .returned v ∧ (Fr n0 L ∧ Keep h0 U'.heap ws ∧ Q v U'.heap) ∧ FrameEnd U o U' L C S)
theorem own_enter {y : MethodName} {cws : List Jvm.Cond} {rm : Room} {as : Array Value} {L0 : Array Slot} (hpl : plainFor y = true) (hef : ∀ m, entryFrame m as maxL = mkF m 0 L0 [])
    (body : ∀ p e s m below meth c T, own_B Z p s m meth c bytes maxL y.cls y.name rt → own_St p l e rm s m as below meth c n0 h0 ws T h0 0 0 → own_G p e below s n0 h0 ws Q C S T (mkF m 0 L0 [])) :
    own_C l Z y bytes maxL rt cws rm as h0 n0 ws Q C S := by
  show MetFree l y _ _ _ _
  refine MetFree.of_bodySF hpl hisR ?_
  intro p e s m args below meth c s₁ Bd hml0 hP hK
  obtain ⟨rfl, hZ, hh⟩ := hP
  have X0 : Stand p l e rm s m _ below meth c s₁ [] 0 0 := Stand.of_body Bd
  have e0 : s₁.heap = h0 := by rw [← hh, Bd.state]; rfl
  obtain ⟨s₂, o, h1, h2, h3, h4⟩ := body p e s m below meth c s₁ ⟨Bd.exec, hZ, Bd.bytes, hml0, findClass_of_methodNamed Bd.named, (name_of_methodNamed Bd.named Bd.method).1, Bd.returns, Bd.notSynchronized⟩ ⟨[], X0, Fr.nil n0, e0, Keep.refl _ _⟩
  exact ⟨s₂, o, castTop (hef m) h1, h2, h3, h4⟩
theorem own_st (X : own_St p l e R s m args below meth c n0 h0 ws T h C S) {f f' : JFrame} (k : own_H p e below En n0 h0 ws Q T f') (hst : ∀ t, At T m c below → Steps p.tables e below (T.setTop f') t → Steps p.tables e below (T.setTop f) t) : own_H p e below En n0 h0 ws Q T f := by
  obtain ⟨s₂, o, h1, h2⟩ := k
  obtain ⟨locs, Y, -⟩ := X
  exact ⟨s₂, o, hst _ Y.here h1, h2⟩
theorem own_tr {f f' : JFrame} (hst : ∀ t, Steps p.tables e below (T'.setTop f') t → Steps p.tables e below (T.setTop f) t) (k : own_H p e below En n0 h0 ws Q T' f') : own_H p e below En n0 h0 ws Q T f := by
  obtain ⟨s₂, o, h1, h2⟩ := k
  exact ⟨s₂, o, hst _ h1, h2⟩
theorem own_ret (X : own_St p l e R s m args below meth c n0 h0 ws T h C S) (B : own_B Z p s m meth c bytes maxL own nm rt) (hc : C ≤ C') (hs : S ≤ S') {v : Option Value} {f : JFrame} (hv : rt = none → v = none)
    (hst : ∀ locs fs, Stand p l e R s m args below meth c T locs C S → (∀ (f : JFrame) (acts : List Action), f.method = m → f.locked = none → f.entered = [] → (doReturn e (T.setTop f) acts v).1 = T.setFrames fs) → Steps p.tables e below (T.setTop f) (T.setFrames fs)) (q : Q v h) : own_G p e below s n0 h0 ws Q C' S' T f := by
  obtain ⟨locs, Y, N, e, K⟩ := X
  obtain ⟨-, -, -, -, -, -, hret, hlk⟩ := B
  obtain ⟨fs, hr, hrun, hended, hW, hsame⟩ := Y.leave (v := v) (fun h => hv (hret.symm.trans h)) hlk
  subst e
  exact ⟨_, _, hst locs fs Y hr, hrun, hended, _, _, rfl, ⟨N, K, q⟩, ⟨_, rfl⟩, hW, hsame.mono hc hs⟩
theorem own_iloadN (X : own_St p l e R s m args below meth c n0 h0 ws T h C S) (B : own_B Z p s m meth c bytes maxL own nm rt) {i : Fin 4} {v : Int32} (hd : decode bytes pc = .ok (.iload_n i, 1)) (hl : L[i.val]? = some (.val (.int v))) (hp : pc + 1 = pc') (k : own_H p e below En n0 h0 ws Q T (mkF m pc' L (.int v :: st))) : own_H p e below En n0 h0 ws Q T (mkF m pc L st) := by
  subst hp
  exact own_st X k (fun t A q => XS.iloadN A B.1 rfl (hb B.2.2.1 hd) hl q)
theorem own_iload (X : own_St p l e R s m args below meth c n0 h0 ws T h C S) (B : own_B Z p s m meth c bytes maxL own nm rt) {i : Nat} {v : Int32} (hd : decode bytes pc = .ok (.iload i, 2)) (hl : L[i]? = some (.val (.int v))) (hp : pc + 2 = pc') (k : own_H p e below En n0 h0 ws Q T (mkF m pc' L (.int v :: st))) : own_H p e below En n0 h0 ws Q T (mkF m pc L st) := by
  subst hp
  exact own_st X k (fun t A q => XS.iload A B.1 rfl (hb B.2.2.1 hd) hl q)
theorem own_istoreN (X : own_St p l e R s m args below meth c n0 h0 ws T h C S) (B : own_B Z p s m meth c bytes maxL own nm rt) {i : Fin 4} {v : Int32} (hd : decode bytes pc = .ok (.istore_n i, 1)) (hl : storeLocals L i.val (.int v) = some L') (hp : pc + 1 = pc') (k : own_H p e below En n0 h0 ws Q T (mkF m pc' L' st)) : own_H p e below En n0 h0 ws Q T (mkF m pc L (.int v :: st)) := by
  subst hp
  exact own_st X k (fun t A q => XS.istoreN A B.1 rfl (hb B.2.2.1 hd) rfl hl q)
theorem own_istore (X : own_St p l e R s m args below meth c n0 h0 ws T h C S) (B : own_B Z p s m meth c bytes maxL own nm rt) {i : Nat} {v : Int32} (hd : decode bytes pc = .ok (.istore i, 2)) (hl : storeLocals L i (.int v) = some L') (hp : pc + 2 = pc') (k : own_H p e below En n0 h0 ws Q T (mkF m pc' L' st)) : own_H p e below En n0 h0 ws Q T (mkF m pc L (.int v :: st)) := by
  subst hp
  exact own_st X k (fun t A q => XS.istore A B.1 rfl (hb B.2.2.1 hd) rfl hl q)
theorem own_lloadN (X : own_St p l e R s m args below meth c n0 h0 ws T h C S) (B : own_B Z p s m meth c bytes maxL own nm rt) {i : Fin 4} {v : Int64} (hd : decode bytes pc = .ok (.lload_n i, 1)) (hl : L[i.val]? = some (.val (.long v))) (hp : pc + 1 = pc') (k : own_H p e below En n0 h0 ws Q T (mkF m pc' L (.long v :: st))) : own_H p e below En n0 h0 ws Q T (mkF m pc L st) := by
  subst hp
  exact own_st X k (fun t A q => XS.lloadN A B.1 rfl (hb B.2.2.1 hd) hl q)
theorem own_lload (X : own_St p l e R s m args below meth c n0 h0 ws T h C S) (B : own_B Z p s m meth c bytes maxL own nm rt) {i : Nat} {v : Int64} (hd : decode bytes pc = .ok (.lload i, 2)) (hl : L[i]? = some (.val (.long v))) (hp : pc + 2 = pc') (k : own_H p e below En n0 h0 ws Q T (mkF m pc' L (.long v :: st))) : own_H p e below En n0 h0 ws Q T (mkF m pc L st) := by
  subst hp
  exact own_st X k (fun t A q => XS.lload A B.1 rfl (hb B.2.2.1 hd) hl q)
theorem own_lstoreN (X : own_St p l e R s m args below meth c n0 h0 ws T h C S) (B : own_B Z p s m meth c bytes maxL own nm rt) {i : Fin 4} {v : Int64} (hd : decode bytes pc = .ok (.lstore_n i, 1)) (hl : storeLocals L i.val (.long v) = some L') (hp : pc + 1 = pc') (k : own_H p e below En n0 h0 ws Q T (mkF m pc' L' st)) : own_H p e below En n0 h0 ws Q T (mkF m pc L (.long v :: st)) := by
  subst hp
  exact own_st X k (fun t A q => XS.lstoreN A B.1 rfl (hb B.2.2.1 hd) rfl hl q)
theorem own_lstore (X : own_St p l e R s m args below meth c n0 h0 ws T h C S) (B : own_B Z p s m meth c bytes maxL own nm rt) {i : Nat} {v : Int64} (hd : decode bytes pc = .ok (.lstore i, 2)) (hl : storeLocals L i (.long v) = some L') (hp : pc + 2 = pc') (k : own_H p e below En n0 h0 ws Q T (mkF m pc' L' st)) : own_H p e below En n0 h0 ws Q T (mkF m pc L (.long v :: st)) := by
  subst hp
  exact own_st X k (fun t A q => XS.lstore A B.1 rfl (hb B.2.2.1 hd) rfl hl q)
theorem own_aloadN (X : own_St p l e R s m args below meth c n0 h0 ws T h C S) (B : own_B Z p s m meth c bytes maxL own nm rt) {i : Fin 4} {v : Value} (hd : decode bytes pc = .ok (.aload_n i, 1)) (hl : L[i.val]? = some (.val v)) (hv : v.isRef = true) (hp : pc + 1 = pc') (k : own_H p e below En n0 h0 ws Q T (mkF m pc' L (v :: st))) : own_H p e below En n0 h0 ws Q T (mkF m pc L st) := by
  subst hp
  exact own_st X k (fun t A q => XS.aloadN A B.1 rfl (hb B.2.2.1 hd) hl hv q)
theorem own_aload (X : own_St p l e R s m args below meth c n0 h0 ws T h C S) (B : own_B Z p s m meth c bytes maxL own nm rt) {i : Nat} {v : Value} (hd : decode bytes pc = .ok (.aload i, 2)) (hl : L[i]? = some (.val v)) (hv : v.isRef = true) (hp : pc + 2 = pc') (k : own_H p e below En n0 h0 ws Q T (mkF m pc' L (v :: st))) : own_H p e below En n0 h0 ws Q T (mkF m pc L st) := by
  subst hp
  exact own_st X k (fun t A q => XS.aload A B.1 rfl (hb B.2.2.1 hd) hl hv q)
theorem own_astoreN (X : own_St p l e R s m args below meth c n0 h0 ws T h C S) (B : own_B Z p s m meth c bytes maxL own nm rt) {i : Fin 4} {v : Value} (hd : decode bytes pc = .ok (.astore_n i, 1)) (hv : v.isRef = true) (hl : storeLocals L i.val v = some L') (hp : pc + 1 = pc') (k : own_H p e below En n0 h0 ws Q T (mkF m pc' L' st)) : own_H p e below En n0 h0 ws Q T (mkF m pc L (v :: st)) := by
  subst hp
  exact own_st X k (fun t A q => XS.astoreN A B.1 rfl (hb B.2.2.1 hd) rfl hv hl q)
theorem own_astore (X : own_St p l e R s m args below meth c n0 h0 ws T h C S) (B : own_B Z p s m meth c bytes maxL own nm rt) {i : Nat} {v : Value} (hd : decode bytes pc = .ok (.astore i, 2)) (hv : v.isRef = true) (hl : storeLocals L i v = some L') (hp : pc + 2 = pc') (k : own_H p e below En n0 h0 ws Q T (mkF m pc' L' st)) : own_H p e below En n0 h0 ws Q T (mkF m pc L (v :: st)) := by
  subst hp
  exact own_st X k (fun t A q => XS.astore A B.1 rfl (hb B.2.2.1 hd) rfl hv hl q)
theorem own_iconst (X : own_St p l e R s m args below meth c n0 h0 ws T h C S) (B : own_B Z p s m meth c bytes maxL own nm rt) {i : Int} {v : Int32} (hd : decode bytes pc = .ok (.iconst i, 1)) (hv : Int32.ofInt i = v) (hp : pc + 1 = pc') (k : own_H p e below En n0 h0 ws Q T (mkF m pc' L (.int v :: st))) : own_H p e below En n0 h0 ws Q T (mkF m pc L st) := by
  subst hp hv
  exact own_st X k (fun t A q => XS.iconst A B.1 rfl (hb B.2.2.1 hd)  q)
theorem own_bipush (X : own_St p l e R s m args below meth c n0 h0 ws T h C S) (B : own_B Z p s m meth c bytes maxL own nm rt) {i : Int} {v : Int32} (hd : decode bytes pc = .ok (.bipush i, 2)) (hv : (Int8.ofInt i).toInt32 = v) (hp : pc + 2 = pc') (k : own_H p e below En n0 h0 ws Q T (mkF m pc' L (.int v :: st))) : own_H p e below En n0 h0 ws Q T (mkF m pc L st) := by
  subst hp hv
  exact own_st X k (fun t A q => XS.bipush A B.1 rfl (hb B.2.2.1 hd)  q)
theorem own_sipush (X : own_St p l e R s m args below meth c n0 h0 ws T h C S) (B : own_B Z p s m meth c bytes maxL own nm rt) {i : Int} {v : Int32} (hd : decode bytes pc = .ok (.sipush i, 3)) (hv : (Int16.ofInt i).toInt32 = v) (hp : pc + 3 = pc') (k : own_H p e below En n0 h0 ws Q T (mkF m pc' L (.int v :: st))) : own_H p e below En n0 h0 ws Q T (mkF m pc L st) := by
  subst hp hv
  exact own_st X k (fun t A q => XS.sipush A B.1 rfl (hb B.2.2.1 hd)  q)
theorem own_lconst (X : own_St p l e R s m args below meth c n0 h0 ws T h C S) (B : own_B Z p s m meth c bytes maxL own nm rt) {i : Fin 2} {v : Int64} (hd : decode bytes pc = .ok (.lconst i, 1)) (hv : Int64.ofNat i = v) (hp : pc + 1 = pc') (k : own_H p e below En n0 h0 ws Q T (mkF m pc' L (.long v :: st))) : own_H p e below En n0 h0 ws Q T (mkF m pc L st) := by
  subst hp hv
  exact own_st X k (fun t A q => XS.lconst A B.1 rfl (hb B.2.2.1 hd)  q)
theorem own_aconst_null (X : own_St p l e R s m args below meth c n0 h0 ws T h C S) (B : own_B Z p s m meth c bytes maxL own nm rt)  (hd : decode bytes pc = .ok (.aconst_null, 1)) (hp : pc + 1 = pc') (k : own_H p e below En n0 h0 ws Q T (mkF m pc' L (.null :: st))) : own_H p e below En n0 h0 ws Q T (mkF m pc L st) := by
  subst hp
  exact own_st X k (fun t A q => XS.aconstNull A B.1 rfl (hb B.2.2.1 hd)  q)
theorem own_iadd (X : own_St p l e R s m args below meth c n0 h0 ws T h C S) (B : own_B Z p s m meth c bytes maxL own nm rt) {x y : Int32} (hd : decode bytes pc = .ok (.iadd, 1)) (hp : pc + 1 = pc') (k : own_H p e below En n0 h0 ws Q T (mkF m pc' L (.int (x + y) :: st))) : own_H p e below En n0 h0 ws Q T (mkF m pc L (.int y :: .int x :: st)) := by
  subst hp
  exact own_st X k (fun t A q => XS.iadd A B.1 rfl (hb B.2.2.1 hd) rfl q)
theorem own_ladd (X : own_St p l e R s m args below meth c n0 h0 ws T h C S) (B : own_B Z p s m meth c bytes maxL own nm rt) {x y : Int64} (hd : decode bytes pc = .ok (.ladd, 1)) (hp : pc + 1 = pc') (k : own_H p e below En n0 h0 ws Q T (mkF m pc' L (.long (x + y) :: st))) : own_H p e below En n0 h0 ws Q T (mkF m pc L (.long y :: .long x :: st)) := by
  subst hp
  exact own_st X k (fun t A q => XS.ladd A B.1 rfl (hb B.2.2.1 hd) rfl q)
theorem own_isub (X : own_St p l e R s m args below meth c n0 h0 ws T h C S) (B : own_B Z p s m meth c bytes maxL own nm rt) {x y : Int32} (hd : decode bytes pc = .ok (.isub, 1)) (hp : pc + 1 = pc') (k : own_H p e below En n0 h0 ws Q T (mkF m pc' L (.int (x - y) :: st))) : own_H p e below En n0 h0 ws Q T (mkF m pc L (.int y :: .int x :: st)) := by
  subst hp
  exact own_st X k (fun t A q => XS.isub A B.1 rfl (hb B.2.2.1 hd) rfl q)
theorem own_lsub (X : own_St p l e R s m args below meth c n0 h0 ws T h C S) (B : own_B Z p s m meth c bytes maxL own nm rt) {x y : Int64} (hd : decode bytes pc = .ok (.lsub, 1)) (hp : pc + 1 = pc') (k : own_H p e below En n0 h0 ws Q T (mkF m pc' L (.long (x - y) :: st))) : own_H p e below En n0 h0 ws Q T (mkF m pc L (.long y :: .long x :: st)) := by
  subst hp
  exact own_st X k (fun t A q => XS.lsub A B.1 rfl (hb B.2.2.1 hd) rfl q)
theorem own_imul (X : own_St p l e R s m args below meth c n0 h0 ws T h C S) (B : own_B Z p s m meth c bytes maxL own nm rt) {x y : Int32} (hd : decode bytes pc = .ok (.imul, 1)) (hp : pc + 1 = pc') (k : own_H p e below En n0 h0 ws Q T (mkF m pc' L (.int (x * y) :: st))) : own_H p e below En n0 h0 ws Q T (mkF m pc L (.int y :: .int x :: st)) := by
  subst hp
  exact own_st X k (fun t A q => XS.imul A B.1 rfl (hb B.2.2.1 hd) rfl q)
theorem own_lmul (X : own_St p l e R s m args below meth c n0 h0 ws T h C S) (B : own_B Z p s m meth c bytes maxL own nm rt) {x y : Int64} (hd : decode bytes pc = .ok (.lmul, 1)) (hp : pc + 1 = pc') (k : own_H p e below En n0 h0 ws Q T (mkF m pc' L (.long (x * y) :: st))) : own_H p e below En n0 h0 ws Q T (mkF m pc L (.long y :: .long x :: st)) := by
  subst hp
  exact own_st X k (fun t A q => XS.lmul A B.1 rfl (hb B.2.2.1 hd) rfl q)
theorem own_iand (X : own_St p l e R s m args below meth c n0 h0 ws T h C S) (B : own_B Z p s m meth c bytes maxL own nm rt) {x y : Int32} (hd : decode bytes pc = .ok (.iand, 1)) (hp : pc + 1 = pc') (k : own_H p e below En n0 h0 ws Q T (mkF m pc' L (.int (x &&& y) :: st))) : own_H p e below En n0 h0 ws Q T (mkF m pc L (.int y :: .int x :: st)) := by
  subst hp
  exact own_st X k (fun t A q => XS.iand A B.1 rfl (hb B.2.2.1 hd) rfl q)
theorem own_land (X : own_St p l e R s m args below meth c n0 h0 ws T h C S) (B : own_B Z p s m meth c bytes maxL own nm rt) {x y : Int64} (hd : decode bytes pc = .ok (.land, 1)) (hp : pc + 1 = pc') (k : own_H p e below En n0 h0 ws Q T (mkF m pc' L (.long (x &&& y) :: st))) : own_H p e below En n0 h0 ws Q T (mkF m pc L (.long y :: .long x :: st)) := by
  subst hp
  exact own_st X k (fun t A q => XS.land A B.1 rfl (hb B.2.2.1 hd) rfl q)
theorem own_ior (X : own_St p l e R s m args below meth c n0 h0 ws T h C S) (B : own_B Z p s m meth c bytes maxL own nm rt) {x y : Int32} (hd : decode bytes pc = .ok (.ior, 1)) (hp : pc + 1 = pc') (k : own_H p e below En n0 h0 ws Q T (mkF m pc' L (.int (x ||| y) :: st))) : own_H p e below En n0 h0 ws Q T (mkF m pc L (.int y :: .int x :: st)) := by
  subst hp
  exact own_st X k (fun t A q => XS.ior A B.1 rfl (hb B.2.2.1 hd) rfl q)
theorem own_lor (X : own_St p l e R s m args below meth c n0 h0 ws T h C S) (B : own_B Z p s m meth c bytes maxL own nm rt) {x y : Int64} (hd : decode bytes pc = .ok (.lor, 1)) (hp : pc + 1 = pc') (k : own_H p e below En n0 h0 ws Q T (mkF m pc' L (.long (x ||| y) :: st))) : own_H p e below En n0 h0 ws Q T (mkF m pc L (.long y :: .long x :: st)) := by
  subst hp
  exact own_st X k (fun t A q => XS.lor A B.1 rfl (hb B.2.2.1 hd) rfl q)
theorem own_ixor (X : own_St p l e R s m args below meth c n0 h0 ws T h C S) (B : own_B Z p s m meth c bytes maxL own nm rt) {x y : Int32} (hd : decode bytes pc = .ok (.ixor, 1)) (hp : pc + 1 = pc') (k : own_H p e below En n0 h0 ws Q T (mkF m pc' L (.int (x ^^^ y) :: st))) : own_H p e below En n0 h0 ws Q T (mkF m pc L (.int y :: .int x :: st)) := by
  subst hp
  exact own_st X k (fun t A q => XS.ixor A B.1 rfl (hb B.2.2.1 hd) rfl q)
theorem own_lxor (X : own_St p l e R s m args below meth c n0 h0 ws T h C S) (B : own_B Z p s m meth c bytes maxL own nm rt) {x y : Int64} (hd : decode bytes pc = .ok (.lxor, 1)) (hp : pc + 1 = pc') (k : own_H p e below En n0 h0 ws Q T (mkF m pc' L (.long (x ^^^ y) :: st))) : own_H p e below En n0 h0 ws Q T (mkF m pc L (.long y :: .long x :: st)) := by
  subst hp
  exact own_st X k (fun t A q => XS.lxor A B.1 rfl (hb B.2.2.1 hd) rfl q)
theorem own_ishl (X : own_St p l e R s m args below meth c n0 h0 ws T h C S) (B : own_B Z p s m meth c bytes maxL own nm rt) {x y : Int32} (hd : decode bytes pc = .ok (.ishl, 1)) (hp : pc + 1 = pc') (k : own_H p e below En n0 h0 ws Q T (mkF m pc' L (.int (x <<< (y &&& 31)) :: st))) : own_H p e below En n0 h0 ws Q T (mkF m pc L (.int y :: .int x :: st)) := by
  subst hp
  exact own_st X k (fun t A q => XS.ishl A B.1 rfl (hb B.2.2.1 hd) rfl q)
theorem own_ishr (X : own_St p l e R s m args below meth c n0 h0 ws T h C S) (B : own_B Z p s m meth c bytes maxL own nm rt) {x y : Int32} (hd : decode bytes pc = .ok (.ishr, 1)) (hp : pc + 1 = pc') (k : own_H p e below En n0 h0 ws Q T (mkF m pc' L (.int (x >>> (y &&& 31)) :: st))) : own_H p e below En n0 h0 ws Q T (mkF m pc L (.int y :: .int x :: st)) := by
  subst hp
  exact own_st X k (fun t A q => XS.ishr A B.1 rfl (hb B.2.2.1 hd) rfl q)
theorem own_iushr (X : own_St p l e R s m args below meth c n0 h0 ws T h C S) (B : own_B Z p s m meth c bytes maxL own nm rt) {x y : Int32} (hd : decode bytes pc = .ok (.iushr, 1)) (hp : pc + 1 = pc') (k : own_H p e below En n0 h0 ws Q T (mkF m pc' L (.int ((x.toUInt32 >>> (y &&& 31).toUInt32).toInt32) :: st))) : own_H p e below En n0 h0 ws Q T (mkF m pc L (.int y :: .int x :: st)) := by
  subst hp
  exact own_st X k (fun t A q => XS.iushr A B.1 rfl (hb B.2.2.1 hd) rfl q)
theorem own_lshl (X : own_St p l e R s m args below meth c n0 h0 ws T h C S) (B : own_B Z p s m meth c bytes maxL own nm rt) {x : Int64} {y : Int32} (hd : decode bytes pc = .ok (.lshl, 1)) (hp : pc + 1 = pc') (k : own_H p e below En n0 h0 ws Q T (mkF m pc' L (.long (x <<< (y &&& 0x3f).toInt64) :: st))) : own_H p e below En n0 h0 ws Q T (mkF m pc L (.int y :: .long x :: st)) := by
  subst hp
  exact own_st X k (fun t A q => XS.lshl A B.1 rfl (hb B.2.2.1 hd) rfl q)
theorem own_lshr (X : own_St p l e R s m args below meth c n0 h0 ws T h C S) (B : own_B Z p s m meth c bytes maxL own nm rt) {x : Int64} {y : Int32} (hd : decode bytes pc = .ok (.lshr, 1)) (hp : pc + 1 = pc') (k : own_H p e below En n0 h0 ws Q T (mkF m pc' L (.long (x >>> (y &&& 0x3f).toInt64) :: st))) : own_H p e below En n0 h0 ws Q T (mkF m pc L (.int y :: .long x :: st)) := by
  subst hp
  exact own_st X k (fun t A q => XS.lshr A B.1 rfl (hb B.2.2.1 hd) rfl q)
theorem own_lushr (X : own_St p l e R s m args below meth c n0 h0 ws T h C S) (B : own_B Z p s m meth c bytes maxL own nm rt) {x : Int64} {y : Int32} (hd : decode bytes pc = .ok (.lushr, 1)) (hp : pc + 1 = pc') (k : own_H p e below En n0 h0 ws Q T (mkF m pc' L (.long ((x.toUInt64 >>> (y &&& 0x3f).toInt64.toUInt64).toInt64) :: st))) : own_H p e below En n0 h0 ws Q T (mkF m pc L (.int y :: .long x :: st)) := by
  subst hp
  exact own_st X k (fun t A q => XS.lushr A B.1 rfl (hb B.2.2.1 hd) rfl q)
theorem own_idiv (X : own_St p l e R s m args below meth c n0 h0 ws T h C S) (B : own_B Z p s m meth c bytes maxL own nm rt) {x y : Int32} (hd : decode bytes pc = .ok (.idiv, 1)) (hy : y ≠ 0) (hp : pc + 1 = pc') (k : own_H p e below En n0 h0 ws Q T (mkF m pc' L (.int (x / y) :: st))) : own_H p e below En n0 h0 ws Q T (mkF m pc L (.int y :: .int x :: st)) := by
  subst hp
  exact own_st X k (fun t A q => XS.idiv A B.1 rfl (hb B.2.2.1 hd) rfl hy q)
theorem own_irem (X : own_St p l e R s m args below meth c n0 h0 ws T h C S) (B : own_B Z p s m meth c bytes maxL own nm rt) {x y : Int32} (hd : decode bytes pc = .ok (.irem, 1)) (hy : y ≠ 0) (hp : pc + 1 = pc') (k : own_H p e below En n0 h0 ws Q T (mkF m pc' L (.int (x % y) :: st))) : own_H p e below En n0 h0 ws Q T (mkF m pc L (.int y :: .int x :: st)) := by
  subst hp
  obtain ⟨locs, Y, -⟩ := X
  exact own_tr (fun t q => iremM Y B.1 (g := mkF m pc L (.int y :: .int x :: st)) rfl (hb B.2.2.1 hd) rfl hy q) k
theorem own_lrem (X : own_St p l e R s m args below meth c n0 h0 ws T h C S) (B : own_B Z p s m meth c bytes maxL own nm rt) {x y : Int64} (hd : decode bytes pc = .ok (.lrem, 1)) (hy : y ≠ 0) (hp : pc + 1 = pc') (k : own_H p e below En n0 h0 ws Q T (mkF m pc' L (.long (x % y) :: st))) : own_H p e below En n0 h0 ws Q T (mkF m pc L (.long y :: .long x :: st)) := by
  subst hp
  exact own_st X k (fun t A q => XS.lrem A B.1 rfl (hb B.2.2.1 hd) rfl hy (by rw [lrem_mod x y]; exact q))
theorem own_i2l (X : own_St p l e R s m args below meth c n0 h0 ws T h C S) (B : own_B Z p s m meth c bytes maxL own nm rt) {x : Int32} (hd : decode bytes pc = .ok (.i2l, 1)) (hp : pc + 1 = pc') (k : own_H p e below En n0 h0 ws Q T (mkF m pc' L (.long x.toInt64 :: st))) : own_H p e below En n0 h0 ws Q T (mkF m pc L (.int x :: st)) := by
  subst hp
  exact own_st X k (fun t A q => XS.i2l A B.1 rfl (hb B.2.2.1 hd) rfl q)
theorem own_l2i (X : own_St p l e R s m args below meth c n0 h0 ws T h C S) (B : own_B Z p s m meth c bytes maxL own nm rt) {x : Int64} (hd : decode bytes pc = .ok (.l2i, 1)) (hp : pc + 1 = pc') (k : own_H p e below En n0 h0 ws Q T (mkF m pc' L (.int x.toInt32 :: st))) : own_H p e below En n0 h0 ws Q T (mkF m pc L (.long x :: st)) := by
  subst hp
  exact own_st X k (fun t A q => XS.l2i A B.1 rfl (hb B.2.2.1 hd) rfl q)
theorem own_lcmp (X : own_St p l e R s m args below meth c n0 h0 ws T h C S) (B : own_B Z p s m meth c bytes maxL own nm rt) {x y : Int64} (hd : decode bytes pc = .ok (.lcmp, 1)) (hp : pc + 1 = pc') (k : own_H p e below En n0 h0 ws Q T (mkF m pc' L (.int (lcmpW x y) :: st))) : own_H p e below En n0 h0 ws Q T (mkF m pc L (.long y :: .long x :: st)) := by
  subst hp
  exact own_st X k (fun t A q => XS.lcmp A B.1 rfl (hb B.2.2.1 hd) rfl q)
theorem own_dup (X : own_St p l e R s m args below meth c n0 h0 ws T h C S) (B : own_B Z p s m meth c bytes maxL own nm rt) {v : Value} (hd : decode bytes pc = .ok (.dup, 1)) (hv : v.category = 1) (hp : pc + 1 = pc') (k : own_H p e below En n0 h0 ws Q T (mkF m pc' L (v :: v :: st))) : own_H p e below En n0 h0 ws Q T (mkF m pc L (v :: st)) := by
  subst hp
  exact own_st X k (fun t A q => XS.dup A B.1 rfl (hb B.2.2.1 hd) rfl hv q)
theorem own_pop (X : own_St p l e R s m args below meth c n0 h0 ws T h C S) (B : own_B Z p s m meth c bytes maxL own nm rt) {v : Value} (hd : decode bytes pc = .ok (.pop, 1)) (hv : v.category = 1) (hp : pc + 1 = pc') (k : own_H p e below En n0 h0 ws Q T (mkF m pc' L st)) : own_H p e below En n0 h0 ws Q T (mkF m pc L (v :: st)) := by
  subst hp
  exact own_st X k (fun t A q => XS.pop A B.1 rfl (hb B.2.2.1 hd) rfl hv q)
theorem own_dup2 (X : own_St p l e R s m args below meth c n0 h0 ws T h C S) (B : own_B Z p s m meth c bytes maxL own nm rt) {x y : Value} (hd : decode bytes pc = .ok (.dup2, 1)) (hx' : x.category = 1) (hy' : y.category = 1) (hp : pc + 1 = pc') (k : own_H p e below En n0 h0 ws Q T (mkF m pc' L (x :: y :: x :: y :: st))) : own_H p e below En n0 h0 ws Q T (mkF m pc L (x :: y :: st)) := by
  subst hp
  exact own_st X k (fun t A q => Jvm.Free.XT.dup2 A B.1 rfl (hb B.2.2.1 hd) rfl hx' hy' q)
theorem own_iinc (X : own_St p l e R s m args below meth c n0 h0 ws T h C S) (B : own_B Z p s m meth c bytes maxL own nm rt) {i : Nat} {cst : Int} {x : Int32} (hd : decode bytes pc = .ok (.iinc i cst, 3)) (hl : L[i]? = some (.val (.int x))) (hl' : storeLocals L i (.int (x + Int32.ofInt cst)) = some L') (hp : pc + 3 = pc') (k : own_H p e below En n0 h0 ws Q T (mkF m pc' L' st)) : own_H p e below En n0 h0 ws Q T (mkF m pc L st) := by
  subst hp
  exact own_st X k (fun t A q => XS.iinc A B.1 rfl (hb B.2.2.1 hd) hl hl' q)
theorem own_goto (X : own_St p l e R s m args below meth c n0 h0 ws T h C S) (B : own_B Z p s m meth c bytes maxL own nm rt) {o : Int} (hd : decode bytes pc = .ok (.goto o, 3)) (ho : 0 ≤ (pc : Int) + o) (hp : ((pc : Int) + o).toNat = pc') (k : own_H p e below En n0 h0 ws Q T (mkF m pc' L st)) : own_H p e below En n0 h0 ws Q T (mkF m pc L st) := own_st X k (fun t A q => XS.goto A B.1 rfl rfl (hb B.2.2.1 hd) ho hp q)
theorem own_icmpT (X : own_St p l e R s m args below meth c n0 h0 ws T h C S) (B : own_B Z p s m meth c bytes maxL own nm rt) {cd : ClassFile.Cond} {o : Int} {x y : Int32} (hd : decode bytes pc = .ok (.if_icmp cd o, 3)) (hc : if_icmp.holds cd x y = true) (ho : 0 ≤ (pc : Int) + o) (hp : ((pc : Int) + o).toNat = pc') (k : own_H p e below En n0 h0 ws Q T (mkF m pc' L st)) : own_H p e below En n0 h0 ws Q T (mkF m pc L (.int y :: .int x :: st)) := own_st X k (fun t A q => XS.icmpYes A B.1 rfl rfl (hb B.2.2.1 hd) rfl hc ho hp q)
theorem own_icmpF (X : own_St p l e R s m args below meth c n0 h0 ws T h C S) (B : own_B Z p s m meth c bytes maxL own nm rt) {cd : ClassFile.Cond} {o : Int} {x y : Int32} (hd : decode bytes pc = .ok (.if_icmp cd o, 3)) (hc : if_icmp.holds cd x y = false) (hp : pc + 3 = pc') (k : own_H p e below En n0 h0 ws Q T (mkF m pc' L st)) : own_H p e below En n0 h0 ws Q T (mkF m pc L (.int y :: .int x :: st)) := by
  subst hp
  exact own_st X k (fun t A q => XS.icmpNo A B.1 rfl (hb B.2.2.1 hd) rfl hc q)
theorem own_ifT (X : own_St p l e R s m args below meth c n0 h0 ws T h C S) (B : own_B Z p s m meth c bytes maxL own nm rt) {cd : ClassFile.Cond} {o : Int} {x : Int32} (hd : decode bytes pc = .ok (.ifCond cd o, 3)) (hc : if_icmp.holds cd x 0 = true) (ho : 0 ≤ (pc : Int) + o) (hp : ((pc : Int) + o).toNat = pc') (k : own_H p e below En n0 h0 ws Q T (mkF m pc' L st)) : own_H p e below En n0 h0 ws Q T (mkF m pc L (.int x :: st)) := own_st X k (fun t A q => XS.ifYes A B.1 rfl rfl (hb B.2.2.1 hd) rfl ((if0 _ _).trans hc) ho hp q)
theorem own_ifF (X : own_St p l e R s m args below meth c n0 h0 ws T h C S) (B : own_B Z p s m meth c bytes maxL own nm rt) {cd : ClassFile.Cond} {o : Int} {x : Int32} (hd : decode bytes pc = .ok (.ifCond cd o, 3)) (hc : if_icmp.holds cd x 0 = false) (hp : pc + 3 = pc') (k : own_H p e below En n0 h0 ws Q T (mkF m pc' L st)) : own_H p e below En n0 h0 ws Q T (mkF m pc L (.int x :: st)) := by
  subst hp
  exact own_st X k (fun t A q => XS.ifNo A B.1 rfl (hb B.2.2.1 hd) rfl ((if0 _ _).trans hc) q)
theorem own_ifnullT (X : own_St p l e R s m args below meth c n0 h0 ws T h C S) (B : own_B Z p s m meth c bytes maxL own nm rt) {o : Int} (hd : decode bytes pc = .ok (.ifnull o, 3)) (ho : 0 ≤ (pc : Int) + o) (hp : ((pc : Int) + o).toNat = pc') (k : own_H p e below En n0 h0 ws Q T (mkF m pc' L st)) : own_H p e below En n0 h0 ws Q T (mkF m pc L (.null :: st)) := own_st X k (fun t A q => XS.ifnullYes A B.1 rfl rfl (hb B.2.2.1 hd) rfl ho hp q)
theorem own_ifnullF (X : own_St p l e R s m args below meth c n0 h0 ws T h C S) (B : own_B Z p s m meth c bytes maxL own nm rt) {o : Int} {b : Addr} (hd : decode bytes pc = .ok (.ifnull o, 3)) (hp : pc + 3 = pc') (k : own_H p e below En n0 h0 ws Q T (mkF m pc' L st)) : own_H p e below En n0 h0 ws Q T (mkF m pc L (.ref b :: st)) := by
  subst hp
  exact own_st X k (fun t A q => XS.ifnullNo A B.1 rfl (hb B.2.2.1 hd) rfl q)
theorem own_ifnonnullT (X : own_St p l e R s m args below meth c n0 h0 ws T h C S) (B : own_B Z p s m meth c bytes maxL own nm rt) {o : Int} {b : Addr} (hd : decode bytes pc = .ok (.ifnonnull o, 3)) (ho : 0 ≤ (pc : Int) + o) (hp : ((pc : Int) + o).toNat = pc') (k : own_H p e below En n0 h0 ws Q T (mkF m pc' L st)) : own_H p e below En n0 h0 ws Q T (mkF m pc L (.ref b :: st)) := own_st X k (fun t A q => XS.ifnonnullYes A B.1 rfl rfl (hb B.2.2.1 hd) rfl ho hp q)
theorem own_ifnonnullF (X : own_St p l e R s m args below meth c n0 h0 ws T h C S) (B : own_B Z p s m meth c bytes maxL own nm rt) {o : Int} (hd : decode bytes pc = .ok (.ifnonnull o, 3)) (hp : pc + 3 = pc') (k : own_H p e below En n0 h0 ws Q T (mkF m pc' L st)) : own_H p e below En n0 h0 ws Q T (mkF m pc L (.null :: st)) := by
  subst hp
  exact own_st X k (fun t A q => XS.ifnonnullNo A B.1 rfl (hb B.2.2.1 hd) rfl q)
theorem own_acmpSame (X : own_St p l e R s m args below meth c n0 h0 ws T h C S) (B : own_B Z p s m meth c bytes maxL own nm rt) {o : Int} {a : Addr} (hd : decode bytes pc = .ok (.if_acmp .eq o, 3)) (ho : 0 ≤ (pc : Int) + o) (hp : ((pc : Int) + o).toNat = pc') (k : own_H p e below En n0 h0 ws Q T (mkF m pc' L st)) : own_H p e below En n0 h0 ws Q T (mkF m pc L (.ref a :: .ref a :: st)) := by
  obtain ⟨locs, Y, -⟩ := X
  exact own_tr (fun t q => Jvm.RoadKit.acmp (g := mkF m pc L (.ref a :: .ref a :: st)) Y B.1 rfl rfl rfl (pc0 := pc) (pc' := pc') (same := true) rfl (hb B.2.2.1 hd) rfl (decide_eq_true rfl) ho (hp.symm.trans (if_pos (show acV ACond.eq true = true from rfl)).symm) q) k
theorem own_iret (X : own_St p l e R s m args below meth c n0 h0 ws T h C S) (B : own_B Z p s m meth c bytes maxL own nm (some .int)) {x : Int32} (hd : decode bytes pc = .ok (.ireturn, 1)) (hc : C ≤ C') (hs : S ≤ S') (q : Q (some (.int x)) h) : own_G p e below s n0 h0 ws Q C' S' T (mkF m pc L (.int x :: st)) :=
  own_ret X B hc hs (v := some (.int x)) (fun h => by cases h) (fun locs fs Y hr => retOut Y B.1 B.2.2.2.2.2.2.1 rfl (Or.inl ⟨rfl, Or.inl rfl, _, rfl⟩) (hb B.2.2.1 hd) hr) q
theorem own_zret (X : own_St p l e R s m args below meth c n0 h0 ws T h C S) (B : own_B Z p s m meth c bytes maxL own nm (some .boolean)) {x : Int32} (hd : decode bytes pc = .ok (.ireturn, 1)) (hc : C ≤ C') (hs : S ≤ S') (hx : x &&& 1 = x) (q : Q (some (.int x)) h) : own_G p e below s n0 h0 ws Q C' S' T (mkF m pc L (.int x :: st)) :=
  own_ret X B hc hs (v := some (.int x)) (fun h => by cases h) (fun locs fs Y hr => retN Y B.1 (t := .boolean) B.2.2.2.2.2.2.1 (by simp) (hb B.2.2.1 hd) (by show ∀ (f : JFrame) (acts : List Action), f.method = m → f.locked = none → f.entered = [] → (doReturn e (T.setTop f) acts (some (.int (x &&& 1)))).1 = T.setFrames fs; rw [hx]; exact hr)) q
theorem own_lret (X : own_St p l e R s m args below meth c n0 h0 ws T h C S) (B : own_B Z p s m meth c bytes maxL own nm (some .long)) {x : Int64} (hd : decode bytes pc = .ok (.lreturn, 1)) (hc : C ≤ C') (hs : S ≤ S') (q : Q (some (.long x)) h) : own_G p e below s n0 h0 ws Q C' S' T (mkF m pc L (.long x :: st)) :=
  own_ret X B hc hs (v := some (.long x)) (fun h => by cases h) (fun locs fs Y hr => retOut Y B.1 B.2.2.2.2.2.2.1 rfl (Or.inr (Or.inl ⟨rfl, rfl, _, rfl⟩)) (hb B.2.2.1 hd) hr) q
theorem own_aret (X : own_St p l e R s m args below meth c n0 h0 ws T h C S) {ft : FieldType} (B : own_B Z p s m meth c bytes maxL own nm (some ft)) {x : Value} (hd : decode bytes pc = .ok (.areturn, 1)) (hft : ft.isReference = true) (hx : x.isRef = true) (hnx : narrow ft x = x) (hc : C ≤ C') (hs : S ≤ S') (q : Q (some x) h) : own_G p e below s n0 h0 ws Q C' S' T (mkF m pc L (x :: st)) :=
  own_ret X B hc hs (v := some x) (fun h => by cases h) (fun locs fs Y hr => retOut Y B.1 B.2.2.2.2.2.2.1 hnx (Or.inr (Or.inr (Or.inr (Or.inr ⟨rfl, hft, hx⟩)))) (hb B.2.2.1 hd) hr) q
theorem own_vret (X : own_St p l e R s m args below meth c n0 h0 ws T h C S) (B : own_B Z p s m meth c bytes maxL own nm none) (hd : decode bytes pc = .ok (.return_, 1)) (hc : C ≤ C') (hs : S ≤ S') (q : Q none h) : own_G p e below s n0 h0 ws Q C' S' T (mkF m pc L []) :=
  own_ret X B hc hs (v := none) (fun _ => rfl) (fun locs fs Y hr => Y.returnOut B.1 B.2.2.2.2.2.2.1 (hb B.2.2.1 hd) hr) q
/-! fields, objects -/
theorem own_lit (X : own_St p l e R s m args below meth c n0 h0 ws T h C S) (B : own_B Z p s m meth c bytes maxL own nm rt) {i : Nat} {v : Int32} (w : (Jvm.Cond.constant own i v).before a0 Z = true) (hd : decode bytes pc = .ok (.ldc i, 2)) (hp : pc + 2 = pc') (k : own_H p e below En n0 h0 ws Q T (mkF m pc' L (.int v :: st))) : own_H p e below En n0 h0 ws Q T (mkF m pc L st) := by
  subst hp
  obtain ⟨locs, Y, -⟩ := X
  exact own_tr (Y.ldcInt B.1 B.2.2.2.2.1 (mvT B.2.1 w) (g := mkF m pc L st) rfl (hb B.2.2.1 hd)) k
theorem own_litL (X : own_St p l e R s m args below meth c n0 h0 ws T h C S) (B : own_B Z p s m meth c bytes maxL own nm rt) {i : Nat} {v : Int64} (w : (Jvm.Cond.constantLong own i v).before a0 Z = true) (hd : decode bytes pc = .ok (.ldc2_w i, 3)) (hp : pc + 3 = pc') (k : own_H p e below En n0 h0 ws Q T (mkF m pc' L (.long v :: st))) : own_H p e below En n0 h0 ws Q T (mkF m pc L st) := by
  subst hp
  obtain ⟨locs, Y, -⟩ := X
  exact own_tr (Y.ldc2Long B.1 B.2.2.2.2.1 (mvT B.2.1 w) (g := mkF m pc L st) rfl (hb B.2.2.1 hd)) k
theorem own_getF (X : own_St p l e R s m args below meth c n0 h0 ws T h C S) (B : own_B Z p s m meth c bytes maxL own nm rt) {i : Nat} {O n d : String} (w : (Jvm.Cond.fieldLink own i O n d).before a0 Z = true) {a : Addr} {v : Value} (F : Fld Z h a O n d v) (hd : decode bytes pc = .ok (.getfield i, 3)) (hp : pc + 3 = pc')
    (k : ∀ T, own_St p l e R s m args below meth c n0 h0 ws T h C S → own_H p e below En n0 h0 ws Q T (mkF m pc' L (v :: st))) : own_H p e below En n0 h0 ws Q T (mkF m pc L (.ref a :: st)) := by
  subst hp
  obtain ⟨locs, Y, N, e, K⟩ := X
  obtain ⟨T1, Y1, e1, st1⟩ := getF Y B.1 B.2.1 B.2.2.2.2.1 (host := "") (Or.inl w) Via.refl e F (g := mkF m pc L (.ref a :: st)) rfl rfl (hb B.2.2.1 hd)
  exact own_tr st1 (k T1 ⟨locs, Y1, N, e1, K⟩)
theorem own_getN (X : own_St p l e R s m args below meth c n0 h0 ws T h C S) (B : own_B Z p s m meth c bytes maxL own nm rt) {i : Nat} {O n d host : String} (w : (Jvm.Cond.fieldLinkNest own i O n d host).before a0 Z = true) {a : Addr} {v : Value} (F : Fld Z h a O n d v) (hd : decode bytes pc = .ok (.getfield i, 3)) (hp : pc + 3 = pc')
    (k : ∀ T, own_St p l e R s m args below meth c n0 h0 ws T h C S → own_H p e below En n0 h0 ws Q T (mkF m pc' L (v :: st))) : own_H p e below En n0 h0 ws Q T (mkF m pc L (.ref a :: st)) := by
  subst hp
  obtain ⟨locs, Y, N, e, K⟩ := X
  obtain ⟨T1, Y1, e1, st1⟩ := getF Y B.1 B.2.1 B.2.2.2.2.1 (host := host) (Or.inr w) Via.refl e F (g := mkF m pc L (.ref a :: st)) rfl rfl (hb B.2.2.1 hd)
  exact own_tr st1 (k T1 ⟨locs, Y1, N, e1, K⟩)
theorem own_putF (X : own_St p l e R s m args below meth c n0 h0 ws T h C S) (B : own_B Z p s m meth c bytes maxL own nm rt) {i kk : Nat} {O n d K0 : String} (w : (Jvm.Cond.fieldLink own i O n d).before a0 Z = true) {a : Addr} {v old : Value} {ty : FieldType} (F : Fld Z h a O n d old) (E : Exa Z h a K0) (Lw : (Jvm.Cond.lays K0 O n d).before a0 Z = true ∨ ((Jvm.Cond.laysFinal K0 O n d).before a0 Z = true ∧ own = O ∧ nm = "<init>")) (wi : (Jvm.Cond.instantiable K0 kk).before a0 Z = true)
    (hty : parseFieldDescriptor d = some ty) (hn : narrow ty v = v) (hf : fits ty v = true) (hw1 : n0 ≤ a) (hw2 : a ∈ ws ∨ h0.size ≤ a) (hd : decode bytes pc = .ok (.putfield i, 3)) (hp : pc + 3 = pc')
    (k : ∀ T h', own_St p l e R s m args below meth c n0 h0 ws T h' C S → Wr h h' a (Jvm.RoadKit.slotOf Z O n d) v → Keep h h' [a] → Exa Z h' a K0 → Fld Z h' a O n d v → own_H p e below En n0 h0 ws Q T (mkF m pc' L st)) : own_H p e below En n0 h0 ws Q T (mkF m pc L (v :: .ref a :: st)) := by
  subst hp
  obtain ⟨locs, Y, N, e, K⟩ := X
  obtain ⟨T1, h1, Y1, e1, W1, st1⟩ := putF Y B.1 B.2.1 B.2.2.2.2.1 (host := "") (Or.inl w) Via.refl e F E (Lw.imp id (fun q => ⟨q.1, q.2.1, B.2.2.2.2.2.1.trans q.2.2⟩)) wi hty hn hf (g := mkF m pc L (v :: .ref a :: st)) rfl rfl (hb B.2.2.1 hd)
  exact own_tr st1 (k T1 h1 ⟨_, Y1, Fr.snoc Y1 N hw1, e1, K.wr W1 hw2⟩ W1 (Keep.of_wr W1) (E.wr W1) (F.same W1))
theorem own_putN (X : own_St p l e R s m args below meth c n0 h0 ws T h C S) (B : own_B Z p s m meth c bytes maxL own nm rt) {i kk : Nat} {O n d K0 host : String} (w : (Jvm.Cond.fieldLinkNest own i O n d host).before a0 Z = true) {a : Addr} {v old : Value} {ty : FieldType} (F : Fld Z h a O n d old) (E : Exa Z h a K0) (Lw : (Jvm.Cond.lays K0 O n d).before a0 Z = true ∨ ((Jvm.Cond.laysFinal K0 O n d).before a0 Z = true ∧ own = O ∧ nm = "<init>")) (wi : (Jvm.Cond.instantiable K0 kk).before a0 Z = true)
    (hty : parseFieldDescriptor d = some ty) (hn : narrow ty v = v) (hf : fits ty v = true) (hw1 : n0 ≤ a) (hw2 : a ∈ ws ∨ h0.size ≤ a) (hd : decode bytes pc = .ok (.putfield i, 3)) (hp : pc + 3 = pc')
    (k : ∀ T h', own_St p l e R s m args below meth c n0 h0 ws T h' C S → Wr h h' a (Jvm.RoadKit.slotOf Z O n d) v → Keep h h' [a] → Exa Z h' a K0 → Fld Z h' a O n d v → own_H p e below En n0 h0 ws Q T (mkF m pc' L st)) : own_H p e below En n0 h0 ws Q T (mkF m pc L (v :: .ref a :: st)) := by
  subst hp
  obtain ⟨locs, Y, N, e, K⟩ := X
  obtain ⟨T1, h1, Y1, e1, W1, st1⟩ := putF Y B.1 B.2.1 B.2.2.2.2.1 (host := host) (Or.inr w) Via.refl e F E (Lw.imp id (fun q => ⟨q.1, q.2.1, B.2.2.2.2.2.1.trans q.2.2⟩)) wi hty hn hf (g := mkF m pc L (v :: .ref a :: st)) rfl rfl (hb B.2.2.1 hd)
  exact own_tr st1 (k T1 h1 ⟨_, Y1, Fr.snoc Y1 N hw1, e1, K.wr W1 hw2⟩ W1 (Keep.of_wr W1) (E.wr W1) (F.same W1))
theorem own_newO (X : own_St p l e R s m args below meth c n0 h0 ws T h C S) (B : own_B Z p s m meth c bytes maxL own nm rt) {i n : Nat} {K0 : String} (w : (Jvm.Cond.classLink own i K0).before a0 Z = true) (wi : (Jvm.Cond.instantiable K0 n).before a0 Z = true) (wz : (Jvm.Cond.initialized K0).before a0 Z = true) (hc : C + 1 ≤ R.cells) (hs : S + n ≤ R.slots) (hd : decode bytes pc = .ok (.new i, 3)) (hp : pc + 3 = pc')
    (k : ∀ T h' a, a = h.size → own_St p l e R s m args below meth c n0 h0 ws T h' (C + 1) (S + n) → Keep h h' [] → Exa Z h' a K0 → (∀ {O nm d : String} {ty : FieldType}, Laid Z a0 K0 O nm d → parseFieldDescriptor d = some ty → Fld Z h' a O nm d (defaultValue ty)) → h0.size ≤ a → own_H p e below En n0 h0 ws Q T (mkF m pc' L (.ref a :: st))) : own_H p e below En n0 h0 ws Q T (mkF m pc L st) := by
  subst hp
  obtain ⟨locs, Y, N, e, K⟩ := X
  obtain ⟨T1, h1, Y1, e1, E1, A1, D1, -, st1⟩ := newO Y B.1 B.2.1 B.2.2.2.2.1 w wi wz e (g := mkF m pc L st) rfl (hb B.2.2.1 hd) hc hs
  exact own_tr st1 (k T1 h1 h.size rfl ⟨_, Y1, N, e1, K.ext E1⟩ ((Keep.refl h []).ext E1) A1 D1 K.1)
theorem own_initO (X : own_St p l e R s m args below meth c n0 h0 ws T h C S) (B : own_B Z p s m meth c bytes maxL own nm rt) {i : Nat} (w1 : (Jvm.Cond.methodLink own i Lib.objectInit).before a0 Z = true) (w2 : (Jvm.Cond.instanceMethod Lib.objectInit).before a0 Z = true) (w3 : (Jvm.Cond.code Lib.objectInit ⟨#[0xb1]⟩ 1 none).before a0 Z = true) (hL : L.size = maxL) {a : Addr} (hf : 1 ≤ R.frames) {W : Nat} (hW : (st.map fun v => v.category).sum ≤ W) (hl : W + 12 ≤ R.locals) (hd : decode bytes pc = .ok (.invokespecial i, 3)) (hp : pc + 3 = pc')
    (k : ∀ T, own_St p l e R s m args below meth c n0 h0 ws T h C S → own_H p e below En n0 h0 ws Q T (mkF m pc' L st)) : own_H p e below En n0 h0 ws Q T (mkF m pc L (.ref a :: st)) := by
  subst hp
  obtain ⟨locs, Y, N, e, K⟩ := X
  obtain ⟨T1, Y1, e1, st1⟩ := initO Y B.1 B.2.1 B.2.2.2.2.1 w1 w2 w3 e (g := mkF m pc L (.ref a :: st)) rfl (hL.trans B.2.2.2.1.symm) rfl (hb B.2.2.1 hd) hf (W := W) (by show 2 * 0 + _ ≤ _; omega) hl
  exact own_tr st1 (k T1 ⟨locs, Y1, N, e1, K⟩)
/-! calls by contract -/
theorem own_callS (X : own_St p l e R s m args below meth c n0 h0 ws T h C S) (B : own_B Z p s m meth c bytes maxL own nm rt) {i : Nat} {y : MethodName} {by2 : ByteArray} {ml2 : Nat} {rt2 : Option FieldType} {rm : Room} {as2 : Array Value} {ws2 : List Addr} {Q2 : Option Value → Heap → Prop} {W : Nat}
    (w1 : (Jvm.Cond.methodLink own i y).before a0 Z = true) (w2 : (Jvm.Cond.static y).before a0 Z = true) (w3 : (Jvm.Cond.initialized y.cls).before a0 Z = true) (w4 : (Jvm.Cond.code y by2 ml2 rt2).before a0 Z = true) (hy : y.cls ≠ "java/lang/invoke/MethodHandle" ∧ y.cls ≠ "java/lang/invoke/VarHandle")
    (M : own_C l Z y by2 ml2 rt2 [] rm as2 h n0 ws2 Q2 rm.cells rm.slots) (hf : rm.frames + 1 ≤ R.frames) (hl : W + (ml2 + 11) + rm.locals ≤ R.locals) (hc : C + rm.cells ≤ R.cells) (hs : S + rm.slots ≤ R.slots) (hL : L.size = maxL)
    {argsL : List Value} {ps : List FieldType} {r : Option FieldType} (hpd : parseMethodDescriptor y.desc = some ⟨ps, r⟩) (hlen : argsL.length = ps.length) (has : argsL.toArray = as2) {stk : List Value} (hstk : stk = argsL.reverse ++ st) (hW : (st.map fun v => v.category).sum ≤ W) (hd : decode bytes pc = .ok (.invokestatic i, 3)) (hp : pc + 3 = pc') (hws : ∀ x ∈ ws2, x ∈ ws ∨ h0.size ≤ x)
    (k : ∀ v T h', own_St p l e R s m args below meth c n0 h0 ws T h' (C + rm.cells) (S + rm.slots) → Keep h h' ws2 → Q2 v h' → own_H p e below En n0 h0 ws Q T (mkF m pc' L (v.toList ++ st))) : own_H p e below En n0 h0 ws Q T (mkF m pc L stk) := by
  subst hp hstk has
  obtain ⟨locs, Y, N, e, K⟩ := X
  obtain ⟨v, _, ⟨T1, L1, k1, n1⟩, -, Y1, ⟨Lc, hQ, l1, y1, z1⟩, st1⟩ := Jvm.LawKit.callS Y B.1 (y := y) B.2.2.2.2.1 (mvT B.2.1 w1) (mvT B.2.1 w2) (mvT B.2.1 w3) (mvT B.2.1 w4) hy (backOf (W := W) (Q := fun v h' L => Fr n0 L ∧ Keep h h' ws2 ∧ Q2 v h') M B.2.1 w4 w3 hf hl) (g := mkF m pc L (argsL.reverse ++ st)) rfl (hL.trans B.2.2.2.1.symm) (argsL := argsL) (rest := st) (lenOf hpd hlen) rfl (by show 2 * 0 + _ ≤ _; omega) (hb B.2.2.1 hd) (fun _ _ => ⟨rfl, e, hc, hs⟩)
  dsimp only [Pt.U, Pt.locs, Pt.cells, Pt.slots] at Y1 l1 y1 z1 st1 hQ
  subst l1 y1 z1
  obtain ⟨N2, K2, q2⟩ := hQ
  exact own_tr st1 (k v T1 _ ⟨_, Y1, Fr.app N N2, rfl, K.trans K2 hws⟩ K2 q2)
theorem own_callV (X : own_St p l e R s m args below meth c n0 h0 ws T h C S) (B : own_B Z p s m meth c bytes maxL own nm rt) {i : Nat} {y : MethodName} {by2 : ByteArray} {ml2 : Nat} {rt2 : Option FieldType} {rm : Room} {as2 : Array Value} {ws2 : List Addr} {Q2 : Option Value → Heap → Prop} {W : Nat} {K0 : String} {a : Addr}
    (w1 : (Jvm.Cond.methodLink own i y).before a0 Z = true) (w2 : (Jvm.Cond.declares y).before a0 Z = true) (w3 : (Jvm.Cond.selects K0 y y).before a0 Z = true) (w5 : (Jvm.Cond.instanceMethod y).before a0 Z = true) (w4 : (Jvm.Cond.code y by2 ml2 rt2).before a0 Z = true) (w6 : (Jvm.Cond.initialized y.cls).before a0 Z = true) (hy : y.cls ≠ "java/lang/invoke/MethodHandle" ∧ y.cls ≠ "java/lang/invoke/VarHandle") (E : Exa Z h a K0)
    (M : own_C l Z y by2 ml2 rt2 [] rm as2 h n0 ws2 Q2 rm.cells rm.slots) (hf : rm.frames + 1 ≤ R.frames) (hl : W + (ml2 + 11) + rm.locals ≤ R.locals) (hc : C + rm.cells ≤ R.cells) (hs : S + rm.slots ≤ R.slots) (hL : L.size = maxL)
    {argsL : List Value} {ps : List FieldType} {r : Option FieldType} (hpd : parseMethodDescriptor y.desc = some ⟨ps, r⟩) (hlen : argsL.length = ps.length) (has : (.ref a :: argsL).toArray = as2) {stk : List Value} (hstk : stk = argsL.reverse ++ .ref a :: st) (hW : (st.map fun v => v.category).sum ≤ W) (hd : decode bytes pc = .ok (.invokevirtual i, 3)) (hp : pc + 3 = pc') (hws : ∀ x ∈ ws2, x ∈ ws ∨ h0.size ≤ x)
    (k : ∀ v T h', own_St p l e R s m args below meth c n0 h0 ws T h' (C + rm.cells) (S + rm.slots) → Keep h h' ws2 → Q2 v h' → own_H p e below En n0 h0 ws Q T (mkF m pc' L (v.toList ++ st))) : own_H p e below En n0 h0 ws Q T (mkF m pc L stk) := by
  subst hp hstk has
  obtain ⟨locs, Y, N, e, K⟩ := X
  obtain ⟨cq, kq, qa, qb, qc⟩ := isOf (T := T) B.2.1 e E
  obtain ⟨v, _, ⟨T1, L1, k1, n1⟩, -, Y1, ⟨Lc, hQ, l1, y1, z1⟩, st1⟩ := Y.virtualBack B.1 (y := y) (z := y) B.2.2.2.2.1 (mvT B.2.1 w1) (mvT B.2.1 w2) (notFace_of_selects (args := #[]) (mvT B.2.1 w3)) (mvT B.2.1 w3) (mvT B.2.1 w5) hy (backOf (W := W) (Q := fun v h' L => Fr n0 L ∧ Keep h h' ws2 ∧ Q2 v h') M B.2.1 w4 w6 hf hl) qa qc (g := mkF m pc L (argsL.reverse ++ .ref a :: st)) rfl (hL.trans B.2.2.2.1.symm) (Steps.refl _) (argsL := argsL) (rest := st) (lenOf hpd hlen) rfl (by show 2 * 0 + _ ≤ _; omega) (hb B.2.2.1 hd) (fun _ _ => ⟨rfl, e, hc, hs⟩)
  dsimp only [Pt.U, Pt.locs, Pt.cells, Pt.slots] at Y1 l1 y1 z1 st1 hQ
  subst l1 y1 z1
  obtain ⟨N2, K2, q2⟩ := hQ
  exact own_tr (fun t q => st1.trans q) (k v T1 _ ⟨_, Y1, Fr.app N N2, rfl, K.trans K2 hws⟩ K2 q2)
theorem own_callI (X : own_St p l e R s m args below meth c n0 h0 ws T h C S) (B : own_B Z p s m meth c bytes maxL own nm rt) {i : Nat} {y : MethodName} {by2 : ByteArray} {ml2 : Nat} {rm : Room} {as2 : Array Value} {ws2 : List Addr} {Q2 : Option Value → Heap → Prop} {W : Nat} {a : Addr} (hy1 : y.name = "<init>")
    (w1 : (Jvm.Cond.methodLink own i y).before a0 Z = true) (w5 : (Jvm.Cond.instanceMethod y).before a0 Z = true) (w4 : (Jvm.Cond.code y by2 ml2 none).before a0 Z = true) (w6 : (Jvm.Cond.initialized y.cls).before a0 Z = true) (hy : y.cls ≠ "java/lang/invoke/MethodHandle" ∧ y.cls ≠ "java/lang/invoke/VarHandle")
    (M : own_C l Z y by2 ml2 none [] rm as2 h n0 ws2 Q2 rm.cells rm.slots) (hf : rm.frames + 1 ≤ R.frames) (hl : W + (ml2 + 11) + rm.locals ≤ R.locals) (hc : C + rm.cells ≤ R.cells) (hs : S + rm.slots ≤ R.slots) (hL : L.size = maxL)
    {argsL : List Value} {ps : List FieldType} {r : Option FieldType} (hpd : parseMethodDescriptor y.desc = some ⟨ps, r⟩) (hlen : argsL.length = ps.length) (has : (.ref a :: argsL).toArray = as2) {stk : List Value} (hstk : stk = argsL.reverse ++ .ref a :: st) (hW : (st.map fun v => v.category).sum ≤ W) (hd : decode bytes pc = .ok (.invokespecial i, 3)) (hp : pc + 3 = pc') (hws : ∀ x ∈ ws2, x ∈ ws ∨ h0.size ≤ x)
    (k : ∀ v T h', own_St p l e R s m args below meth c n0 h0 ws T h' (C + rm.cells) (S + rm.slots) → Keep h h' ws2 → Q2 v h' → own_H p e below En n0 h0 ws Q T (mkF m pc' L (v.toList ++ st))) : own_H p e below En n0 h0 ws Q T (mkF m pc L stk) := by
  subst hp hstk has
  obtain ⟨locs, Y, N, e, K⟩ := X
  obtain ⟨v, _, ⟨T1, L1, k1, n1⟩, -, Y1, ⟨Lc, hQ, l1, y1, z1⟩, st1⟩ := Y.specialBack B.1 (y := y) hy1 B.2.2.2.2.1 (mvT B.2.1 w1) (mvT B.2.1 w5) (mvT B.2.1 w4) hy (backOf (W := W) (Q := fun v h' L => Fr n0 L ∧ Keep h h' ws2 ∧ Q2 v h') M B.2.1 w4 w6 hf hl) (g := mkF m pc L (argsL.reverse ++ .ref a :: st)) rfl (hL.trans B.2.2.2.1.symm) (Steps.refl _) (a := a) (argsL := argsL) (rest := st) (lenOf hpd hlen) rfl (by show 2 * 0 + _ ≤ _; omega) (hb B.2.2.1 hd) (fun _ _ => ⟨rfl, e, hc, hs⟩)
  dsimp only [Pt.U, Pt.locs, Pt.cells, Pt.slots] at Y1 l1 y1 z1 st1 hQ
  subst l1 y1 z1
  obtain ⟨N2, K2, q2⟩ := hQ
  exact own_tr (fun t q => st1.trans q) (k v T1 _ ⟨_, Y1, Fr.app N N2, rfl, K.trans K2 hws⟩ K2 q2)
/-! arrays of ints and of longs, by a function of the place -/
theorem own_ix {j : Int32} {i n : Nat} (hj : j.toInt = (i : Int)) (hi : i < n) : ¬ (j < 0 ∨ n ≤ j.toNatClampNeg) ∧ j.toNatClampNeg = i := by
  have e : j.toNatClampNeg = i := by show j.toInt.toNat = i; omega
  refine ⟨?_, e⟩
  rw [e, Int32.lt_iff_toInt_lt]
  have : (0 : Int32).toInt = 0 := rfl
  omega
theorem own_ne {a b : Addr} (lt : a < h.size) (g : b = h.size) : a ≠ b := by
  rw [g]
  exact Nat.ne_of_lt lt
theorem own_up_same {α : Type} (f : Nat → α) (i : Nat) (x : α) : (fun k => if k = i then x else f k) i = x := by simp
def own_AJ (Z : State) (h : Heap) (a : Addr) (n : Nat) (f : Nat → Int64) : Prop := ∃ cl : Cell, Arr Z h a cl .long ∧ cl.slots.size = n ∧ n < 2147483648 ∧ ∀ i, i < n → cl.slots[i]? = some (.long (f i))
theorem own_AJ.lt {a : Addr} {n : Nat} {f : Nat → Int64} (A : own_AJ Z h a n f) : a < h.size := by
  obtain ⟨cl, A, -⟩ := A
  exact A.lt
theorem own_AJ.keep {a : Addr} {n : Nat} {f : Nat → Int64} (A : own_AJ Z h a n f) {w2 : List Addr} (K : Keep h h' w2) (q : a ∉ w2) : own_AJ Z h' a n f := by
  obtain ⟨cl, A, r⟩ := A
  exact ⟨cl, ⟨K.2.1 _ _ A.1 q, A.2⟩, r⟩
theorem own_AJ.congr {a : Addr} {n : Nat} {f g : Nat → Int64} (A : own_AJ Z h a n f) (q : ∀ i, i < n → f i = g i) : own_AJ Z h a n g := by
  obtain ⟨cl, A, r1, r2, r3⟩ := A
  exact ⟨cl, A, r1, r2, fun i hi => by rw [r3 i hi, q i hi]⟩
theorem own_newJ (X : own_St p l e R s m args below meth c n0 h0 ws T h C S) (B : own_B Z p s m meth c bytes maxL own nm rt) (w : (Jvm.Cond.arrayClass .long).before a0 Z = true) {j : Int32} {n cap : Nat} (hj : j.toInt = (n : Int)) (hcap : n ≤ cap) (hb8 : cap * 8 ≤ 536870912) (hc : C + 1 ≤ R.cells) (hs : S + cap ≤ R.slots) (hd : decode bytes pc = .ok (.newarray .long, 2)) (hp : pc + 2 = pc')
    (k : ∀ T h' a, a = h.size → own_St p l e R s m args below meth c n0 h0 ws T h' (C + 1) (S + cap) → Keep h h' [] → own_AJ Z h' a n (fun _ => 0) → h0.size ≤ a → own_H p e below En n0 h0 ws Q T (mkF m pc' L (.ref a :: st))) : own_H p e below En n0 h0 ws Q T (mkF m pc L (.int j :: st)) := by
  subst hp
  obtain ⟨locs, Y, N, e, K⟩ := X
  have hn : ¬ j < 0 := by rw [Int32.lt_iff_toInt_lt]; have : (0 : Int32).toInt = 0 := rfl; omega
  have hnn : j.toNatClampNeg = n := by show j.toInt.toNat = n; omega
  obtain ⟨T1, h1, cA, Y1, e1, E1, A1, st1⟩ := newP Y B.1 B.2.1 (aty := .long) w e (g := mkF m pc L (.int j :: st)) rfl (hb B.2.2.1 hd) rfl hn (cap := cap) (hnn ▸ hcap) hb8 hc hs
  refine own_tr st1 (k T1 h1 h.size rfl ⟨_, Y1, N, e1, K.ext E1⟩ ((Keep.refl h []).ext E1) ⟨_, A1, ?_, by omega, ?_⟩ K.1)
  · rw [sz_new, hnn]
  · intro i hi
    show (Array.replicate j.toNatClampNeg (defaultValue .long))[i]? = _
    rw [hnn, Array.getElem?_replicate, if_pos hi]
    rfl
theorem own_laload (X : own_St p l e R s m args below meth c n0 h0 ws T h C S) (B : own_B Z p s m meth c bytes maxL own nm rt) {a : Addr} {n i : Nat} {f : Nat → Int64} {j : Int32} (A : own_AJ Z h a n f) (hj : j.toInt = (i : Int)) (hi : i < n) (hd : decode bytes pc = .ok (.laload, 1)) (hp : pc + 1 = pc') (k : own_H p e below En n0 h0 ws Q T (mkF m pc' L (.long (f i) :: st))) : own_H p e below En n0 h0 ws Q T (mkF m pc L (.int j :: .ref a :: st)) := by
  subst hp
  obtain ⟨locs, Y, N, e, K⟩ := X
  obtain ⟨cl, A, r1, r2, r3⟩ := A
  obtain ⟨q1, q2⟩ := own_ix hj (r1.symm ▸ hi : i < cl.slots.size)
  exact own_tr (fun t q => Y.laload B.1 (j := j) (v := .long (f i)) (by rw [e]; exact A.1) (State.isArrayOf_alike B.2.1.alike A.2.1) A.2.2 q1 (by rw [q2]; exact r3 i hi) (g := mkF m pc L (.int j :: .ref a :: st)) rfl rfl (hb B.2.2.1 hd) t q) k
theorem own_lenJ (X : own_St p l e R s m args below meth c n0 h0 ws T h C S) (B : own_B Z p s m meth c bytes maxL own nm rt) {a : Addr} {n : Nat} {f : Nat → Int64} (A : own_AJ Z h a n f) (hd : decode bytes pc = .ok (.arraylength, 1)) (hp : pc + 1 = pc') (k : own_H p e below En n0 h0 ws Q T (mkF m pc' L (.int (Int32.ofNat n) :: st))) : own_H p e below En n0 h0 ws Q T (mkF m pc L (.ref a :: st)) := by
  subst hp
  obtain ⟨locs, Y, N, e, K⟩ := X
  obtain ⟨cl, A, r1, r2, r3⟩ := A
  subst r1
  exact own_tr (fun t q => Y.arraylength B.1 (by rw [e]; exact A.1) (State.isArrayOf_alike B.2.1.alike A.2.1) (g := mkF m pc L (.ref a :: st)) rfl rfl (hb B.2.2.1 hd) t q) k
theorem own_lastore (X : own_St p l e R s m args below meth c n0 h0 ws T h C S) (B : own_B Z p s m meth c bytes maxL own nm rt) {a : Addr} {n i : Nat} {f : Nat → Int64} {j : Int32} {x : Int64} (A : own_AJ Z h a n f) (hj : j.toInt = (i : Int)) (hi : i < n) (hw1 : n0 ≤ a) (hw2 : a ∈ ws ∨ h0.size ≤ a) (hd : decode bytes pc = .ok (.lastore, 1)) (hp : pc + 1 = pc')
    (k : ∀ T h', own_St p l e R s m args below meth c n0 h0 ws T h' C S → Keep h h' [a] → own_AJ Z h' a n (fun k => if k = i then x else f k) → own_H p e below En n0 h0 ws Q T (mkF m pc' L st)) : own_H p e below En n0 h0 ws Q T (mkF m pc L (.long x :: .int j :: .ref a :: st)) := by
  subst hp
  obtain ⟨locs, Y, N, e, K⟩ := X
  obtain ⟨cl, A, r1, r2, r3⟩ := A
  obtain ⟨q1, q2⟩ := own_ix hj (r1.symm ▸ hi : i < cl.slots.size)
  obtain ⟨T1, h1, Y1, e1, W1, st1⟩ := stJ Y B.1 B.2.1 e A (j := j) (x := x) q1 (g := mkF m pc L (.long x :: .int j :: .ref a :: st)) rfl rfl (hb B.2.2.1 hd)
  refine own_tr st1 (k T1 h1 ⟨_, Y1, Fr.snoc Y1 N hw1, e1, K.wr W1 hw2⟩ (Keep.of_wr W1) ⟨_, A.same W1, ?_, r2, ?_⟩)
  · rw [sz_set, r1]
  · intro u hu
    show (cl.slots.setIfInBounds j.toNatClampNeg (.long x))[u]? = some (.long (if u = i then x else f u))
    rw [q2, Array.getElem?_setIfInBounds]
    by_cases hui : u = i
    · subst hui; rw [if_pos rfl, if_pos (r1.symm ▸ hi), if_pos rfl]
    · rw [if_neg (fun q => hui q.symm), if_neg hui]; exact r3 u hu
def own_AI (Z : State) (h : Heap) (a : Addr) (n : Nat) (f : Nat → Int32) : Prop := ∃ cl : Cell, Arr Z h a cl .int ∧ cl.slots.size = n ∧ n < 2147483648 ∧ ∀ i, i < n → cl.slots[i]? = some (.int (f i))
theorem own_AI.lt {a : Addr} {n : Nat} {f : Nat → Int32} (A : own_AI Z h a n f) : a < h.size := by
  obtain ⟨cl, A, -⟩ := A
  exact A.lt
theorem own_AI.keep {a : Addr} {n : Nat} {f : Nat → Int32} (A : own_AI Z h a n f) {w2 : List Addr} (K : Keep h h' w2) (q : a ∉ w2) : own_AI Z h' a n f := by
  obtain ⟨cl, A, r⟩ := A
  exact ⟨cl, ⟨K.2.1 _ _ A.1 q, A.2⟩, r⟩
theorem own_AI.congr {a : Addr} {n : Nat} {f g : Nat → Int32} (A : own_AI Z h a n f) (q : ∀ i, i < n → f i = g i) : own_AI Z h a n g := by
  obtain ⟨cl, A, r1, r2, r3⟩ := A
  exact ⟨cl, A, r1, r2, fun i hi => by rw [r3 i hi, q i hi]⟩
theorem own_newI (X : own_St p l e R s m args below meth c n0 h0 ws T h C S) (B : own_B Z p s m meth c bytes maxL own nm rt) (w : (Jvm.Cond.arrayClass .int).before a0 Z = true) {j : Int32} {n cap : Nat} (hj : j.toInt = (n : Int)) (hcap : n ≤ cap) (hb8 : cap * 8 ≤ 536870912) (hc : C + 1 ≤ R.cells) (hs : S + cap ≤ R.slots) (hd : decode bytes pc = .ok (.newarray .int, 2)) (hp : pc + 2 = pc')
    (k : ∀ T h' a, a = h.size → own_St p l e R s m args below meth c n0 h0 ws T h' (C + 1) (S + cap) → Keep h h' [] → own_AI Z h' a n (fun _ => 0) → h0.size ≤ a → own_H p e below En n0 h0 ws Q T (mkF m pc' L (.ref a :: st))) : own_H p e below En n0 h0 ws Q T (mkF m pc L (.int j :: st)) := by
  subst hp
  obtain ⟨locs, Y, N, e, K⟩ := X
  have hn : ¬ j < 0 := by rw [Int32.lt_iff_toInt_lt]; have : (0 : Int32).toInt = 0 := rfl; omega
  have hnn : j.toNatClampNeg = n := by show j.toInt.toNat = n; omega
  obtain ⟨T1, h1, cA, Y1, e1, E1, A1, st1⟩ := newP Y B.1 B.2.1 (aty := .int) w e (g := mkF m pc L (.int j :: st)) rfl (hb B.2.2.1 hd) rfl hn (cap := cap) (hnn ▸ hcap) hb8 hc hs
  refine own_tr st1 (k T1 h1 h.size rfl ⟨_, Y1, N, e1, K.ext E1⟩ ((Keep.refl h []).ext E1) ⟨_, A1, ?_, by omega, ?_⟩ K.1)
  · rw [sz_new, hnn]
  · intro i hi
    show (Array.replicate j.toNatClampNeg (defaultValue .int))[i]? = _
    rw [hnn, Array.getElem?_replicate, if_pos hi]
    rfl
theorem own_iaload (X : own_St p l e R s m args below meth c n0 h0 ws T h C S) (B : own_B Z p s m meth c bytes maxL own nm rt) {a : Addr} {n i : Nat} {f : Nat → Int32} {j : Int32} (A : own_AI Z h a n f) (hj : j.toInt = (i : Int)) (hi : i < n) (hd : decode bytes pc = .ok (.iaload, 1)) (hp : pc + 1 = pc') (k : own_H p e below En n0 h0 ws Q T (mkF m pc' L (.int (f i) :: st))) : own_H p e below En n0 h0 ws Q T (mkF m pc L (.int j :: .ref a :: st)) := by
  subst hp
  obtain ⟨locs, Y, N, e, K⟩ := X
  obtain ⟨cl, A, r1, r2, r3⟩ := A
  obtain ⟨q1, q2⟩ := own_ix hj (r1.symm ▸ hi : i < cl.slots.size)
  exact own_tr (fun t q => Y.iaload B.1 (j := j) (v := .int (f i)) (by rw [e]; exact A.1) (State.isArrayOf_alike B.2.1.alike A.2.1) A.2.2 q1 (by rw [q2]; exact r3 i hi) (g := mkF m pc L (.int j :: .ref a :: st)) rfl rfl (hb B.2.2.1 hd) t q) k
theorem own_lenI (X : own_St p l e R s m args below meth c n0 h0 ws T h C S) (B : own_B Z p s m meth c bytes maxL own nm rt) {a : Addr} {n : Nat} {f : Nat → Int32} (A : own_AI Z h a n f) (hd : decode bytes pc = .ok (.arraylength, 1)) (hp : pc + 1 = pc') (k : own_H p e below En n0 h0 ws Q T (mkF m pc' L (.int (Int32.ofNat n) :: st))) : own_H p e below En n0 h0 ws Q T (mkF m pc L (.ref a :: st)) := by
  subst hp
  obtain ⟨locs, Y, N, e, K⟩ := X
  obtain ⟨cl, A, r1, r2, r3⟩ := A
  subst r1
  exact own_tr (fun t q => Y.arraylength B.1 (by rw [e]; exact A.1) (State.isArrayOf_alike B.2.1.alike A.2.1) (g := mkF m pc L (.ref a :: st)) rfl rfl (hb B.2.2.1 hd) t q) k
theorem own_iastore (X : own_St p l e R s m args below meth c n0 h0 ws T h C S) (B : own_B Z p s m meth c bytes maxL own nm rt) {a : Addr} {n i : Nat} {f : Nat → Int32} {j : Int32} {x : Int32} (A : own_AI Z h a n f) (hj : j.toInt = (i : Int)) (hi : i < n) (hw1 : n0 ≤ a) (hw2 : a ∈ ws ∨ h0.size ≤ a) (hd : decode bytes pc = .ok (.iastore, 1)) (hp : pc + 1 = pc')
    (k : ∀ T h', own_St p l e R s m args below meth c n0 h0 ws T h' C S → Keep h h' [a] → own_AI Z h' a n (fun k => if k = i then x else f k) → own_H p e below En n0 h0 ws Q T (mkF m pc' L st)) : own_H p e below En n0 h0 ws Q T (mkF m pc L (.int x :: .int j :: .ref a :: st)) := by
  subst hp
  obtain ⟨locs, Y, N, e, K⟩ := X
  obtain ⟨cl, A, r1, r2, r3⟩ := A
  obtain ⟨q1, q2⟩ := own_ix hj (r1.symm ▸ hi : i < cl.slots.size)
  obtain ⟨T1, h1, Y1, e1, W1, st1⟩ := stI Y B.1 B.2.1 e A (j := j) (x := x) q1 (g := mkF m pc L (.int x :: .int j :: .ref a :: st)) rfl rfl (hb B.2.2.1 hd)
  refine own_tr st1 (k T1 h1 ⟨_, Y1, Fr.snoc Y1 N hw1, e1, K.wr W1 hw2⟩ (Keep.of_wr W1) ⟨_, A.same W1, ?_, r2, ?_⟩)
  · rw [sz_set, r1]
  · intro u hu
    show (cl.slots.setIfInBounds j.toNatClampNeg (.int x))[u]? = some (.int (if u = i then x else f u))
    rw [q2, Array.getElem?_setIfInBounds]
    by_cases hui : u = i
    · subst hui; rw [if_pos rfl, if_pos (r1.symm ▸ hi), if_pos rfl]
    · rw [if_neg (fun q => hui q.symm), if_neg hui]; exact r3 u hu
end OwnKit
theorem own_sz {p : Program} {l : Launch} {e : Env} {R : Room} {s : State} {m : MethodId} {args : Array Value} {below : List Frame} {meth : Method} {c : Code} {n0 : Nat} {h0 h : Heap} {ws : List Addr} {T : State} {C S : Nat} (X : own_St p l e R s m args below meth c n0 h0 ws T h C S) (Z0 : n0 ≤ h0.size) : n0 ≤ h.size := by
  obtain ⟨_, _, _, _, K⟩ := X
  exact Nat.le_trans Z0 K.1
theorem own_nat {n : Nat} (h : n < 2147483648) : (Int32.ofNat n).toInt = (n : Int) := len_toInt (by omega)
theorem own_ltN {i n : Nat} (hi : i < 2147483648) (hn : n < 2147483648) : (Int32.ofNat i < Int32.ofNat n) ↔ i < n := by
  rw [Int32.lt_iff_toInt_lt, own_nat hi, own_nat hn]; omega
theorem own_eqN {i n : Nat} (hi : i < 2147483648) (hn : n < 2147483648) : (Int32.ofNat i = Int32.ofNat n) ↔ i = n := by
  rw [← Int32.toInt_inj, own_nat hi, own_nat hn]; omega
theorem own_succ (i : Nat) : Int32.ofNat i + (1 : Int32) = Int32.ofNat (i + 1) := by
  rw [← Int32.toBitVec_inj]; simp [Int32.ofNat_add]
theorem own_and3 (x : Int32) : ∃ n : Nat, n < 4 ∧ x &&& (3 : Int32) = Int32.ofNat n := by
  have h := c_mask x 3 2 (by decide) (by decide)
  have hp : ((2 ^ 2 : Nat) : Int) = 4 := rfl
  rw [hp] at h
  refine ⟨(x.toInt % 4).toNat, by omega, ?_⟩
  rw [← Int32.toInt_inj, own_nat (by omega), h]; omega
def own_clr (lo hi : Nat) (f : Nat → Int64) (k : Nat) : Int64 := if lo ≤ k ∧ k < hi then 0 else f k
def own_fill (b : Int64) (k : Nat) : Int64 := b + (Int32.ofNat k).toInt64
theorem own_clr_nil (lo : Nat) (f : Nat → Int64) (k : Nat) : own_clr lo lo f k = f k := if_neg (by omega)
theorem own_clr_succ {lo i : Nat} (h : lo ≤ i) (f : Nat → Int64) (k : Nat) : (if k = i then (0 : Int64) else own_clr lo i f k) = own_clr lo (i + 1) f k := by
  unfold own_clr
  by_cases h1 : k = i
  · rw [if_pos h1, if_pos (by omega)]
  · rw [if_neg h1]
    by_cases h2 : lo ≤ k ∧ k < i
    · rw [if_pos h2, if_pos (by omega)]
    · rw [if_neg h2, if_neg (by omega)]
theorem own_mod6 (x : Int32) : ∃ n : Nat, n < 6 ∧ (x &&& (7 : Int32)) % (6 : Int32) = Int32.ofNat n := by
  have h := c_mask x 7 3 (by decide) (by decide)
  have hp : ((2 ^ 3 : Nat) : Int) = 8 := rfl
  rw [hp] at h
  have h2 := (c_irem (x &&& 7) 6 6 rfl).1 (by omega)
  refine ⟨((x &&& (7 : Int32)).toInt % 6).toNat, by omega, ?_⟩
  rw [← Int32.toInt_inj, own_nat (by omega), h2]; omega
theorem own_pack0 : ∀ lo : Fin 6, ∀ hi : Fin 6, (((((Int32.ofNat lo.1).toInt64 <<< ((32 : Int32) &&& 0x3f).toInt64) ||| (Int32.ofNat hi.1).toInt64).toUInt64 >>> ((32 : Int32) &&& 0x3f).toInt64.toUInt64).toInt64).toInt32 = Int32.ofNat lo.1 ∧ (((Int32.ofNat lo.1).toInt64 <<< ((32 : Int32) &&& 0x3f).toInt64) ||| (Int32.ofNat hi.1).toInt64).toInt32 = Int32.ofNat hi.1 := by decide +kernel
theorem own_pack (lo hi : Nat) (h1 : lo < 6) (h2 : hi < 6) : (((((Int32.ofNat lo).toInt64 <<< ((32 : Int32) &&& 0x3f).toInt64) ||| (Int32.ofNat hi).toInt64).toUInt64 >>> ((32 : Int32) &&& 0x3f).toInt64.toUInt64).toInt64).toInt32 = Int32.ofNat lo ∧ (((Int32.ofNat lo).toInt64 <<< ((32 : Int32) &&& 0x3f).toInt64) ||| (Int32.ofNat hi).toInt64).toInt32 = Int32.ofNat hi := own_pack0 ⟨lo, h1⟩ ⟨hi, h2⟩
theorem pd_1 : parseMethodDescriptor "(II)I" = some ⟨[.int, .int], some .int⟩ := by decide +kernel
theorem pd_2 : parseMethodDescriptor "(II)I" = some ⟨[.int, .int], some .int⟩ := by decide +kernel
theorem pd_3 : parseMethodDescriptor "(I)V" = some ⟨[.int], none⟩ := by decide +kernel
theorem pd_5 : parseMethodDescriptor "()V" = some ⟨[], none⟩ := by decide +kernel
theorem pd_6 : parseMethodDescriptor "(Lcom/example/ostrakon/ostrakon/text/Run$Scratch;IIIJJ)Z" = some ⟨[(.object "com/example/ostrakon/ostrakon/text/Run$Scratch"), .int, .int, .int, .long, .long], some .boolean⟩ := by decide +kernel
theorem da_0 : decode jdk_29_method_69_code 0 = .ok (.iload_n 0, 1) := by decide +kernel
theorem da_1 : decode jdk_29_method_69_code 1 = .ok (.iload_n 1, 1) := by decide +kernel
theorem da_2 : decode jdk_29_method_69_code 2 = .ok (.if_icmp .gt 7, 3) := by decide +kernel
theorem da_5 : decode jdk_29_method_69_code 5 = .ok (.iload_n 0, 1) := by decide +kernel
theorem da_6 : decode jdk_29_method_69_code 6 = .ok (.goto 4, 3) := by decide +kernel
theorem da_9 : decode jdk_29_method_69_code 9 = .ok (.iload_n 1, 1) := by decide +kernel
theorem da_10 : decode jdk_29_method_69_code 10 = .ok (.ireturn, 1) := by decide +kernel
set_option maxRecDepth 65536 in
set_option maxHeartbeats 40000000 in
theorem rm1 (l : Launch) (Z : State) (a0 : Array Value) (hw : ∀ d ∈ tables_1, d.before a0 Z = true) (u : Nat) (v : Nat) (h0 : Heap) (n0 : Nat) (Z0 : n0 ≤ h0.size) (hu : u < 2147483648) (hv : v < 2147483648) :
    own_C l Z (⟨"java/lang/Math", "min", "(II)I"⟩ : MethodName) jdk_29_method_69_code 2 (some .int) [] ({ frames := 0, cells := 0, slots := 0, locals := 0 } : Room) #[.int (Int32.ofNat u), .int (Int32.ofNat v)] h0 n0 [] (fun r h => r = some (.int (Int32.ofNat (min u v)))) 0 0 := by
  refine own_enter (L0 := #[.val (.int (Int32.ofNat u)), .val (.int (Int32.ofNat v))]) (Jvm.Free.JP.mathPlain rfl (by decide +kernel)) (fun m => by first | (simp [entryFrame, mkF, argsToLocals, Value.category]; done) | rfl) ?_
  intro p e s m below meth c T B X
  refine own_iloadN X B da_0 rfl (pc' := 1) rfl ?_
  refine own_iloadN X B da_1 rfl (pc' := 2) rfl ?_
  by_cases hc : (Int32.ofNat v) < (Int32.ofNat u)
  · -- hc
    refine own_icmpT X B da_2 (tlt hc).2.2.1 (pc' := 9) (by decide) (by decide) ?_
    refine own_iloadN X B da_9 rfl (pc' := 10) rfl ?_
    have hd : min u v = v := by have := (own_ltN (by omega) (by omega)).mp hc; omega
    exact own_iret X B da_10 (by decide) (by decide) (by rw [hd])
  · -- not hc
    refine own_icmpF X B da_2 (flt hc).2.2.1 (pc' := 5) rfl ?_
    refine own_iloadN X B da_5 rfl (pc' := 6) rfl ?_
    refine own_goto X B da_6 (pc' := 10) (by decide) (by decide) ?_
    have hd : min u v = u := by have := mt (own_ltN (by omega) (by omega)).mpr hc; omega
    exact own_iret X B da_10 (by decide) (by decide) (by rw [hd])
theorem db_0 : decode jdk_29_method_65_code 0 = .ok (.iload_n 0, 1) := by decide +kernel
theorem db_1 : decode jdk_29_method_65_code 1 = .ok (.iload_n 1, 1) := by decide +kernel
theorem db_2 : decode jdk_29_method_65_code 2 = .ok (.if_icmp .lt 7, 3) := by decide +kernel
theorem db_5 : decode jdk_29_method_65_code 5 = .ok (.iload_n 0, 1) := by decide +kernel
theorem db_6 : decode jdk_29_method_65_code 6 = .ok (.goto 4, 3) := by decide +kernel
theorem db_9 : decode jdk_29_method_65_code 9 = .ok (.iload_n 1, 1) := by decide +kernel
theorem db_10 : decode jdk_29_method_65_code 10 = .ok (.ireturn, 1) := by decide +kernel
set_option maxRecDepth 65536 in
set_option maxHeartbeats 40000000 in
theorem rm2 (l : Launch) (Z : State) (a0 : Array Value) (hw : ∀ d ∈ tables_1, d.before a0 Z = true) (u : Nat) (v : Nat) (h0 : Heap) (n0 : Nat) (Z0 : n0 ≤ h0.size) (hu : u < 2147483648) (hv : v < 2147483648) :
    own_C l Z (⟨"java/lang/Math", "max", "(II)I"⟩ : MethodName) jdk_29_method_65_code 2 (some .int) [] ({ frames := 0, cells := 0, slots := 0, locals := 0 } : Room) #[.int (Int32.ofNat u), .int (Int32.ofNat v)] h0 n0 [] (fun r h => r = some (.int (Int32.ofNat (max u v)))) 0 0 := by
  refine own_enter (L0 := #[.val (.int (Int32.ofNat u)), .val (.int (Int32.ofNat v))]) (Jvm.Free.JP.mathPlain rfl (by decide +kernel)) (fun m => by first | (simp [entryFrame, mkF, argsToLocals, Value.category]; done) | rfl) ?_
  intro p e s m below meth c T B X
  refine own_iloadN X B db_0 rfl (pc' := 1) rfl ?_
  refine own_iloadN X B db_1 rfl (pc' := 2) rfl ?_
  by_cases hc : (Int32.ofNat u) < (Int32.ofNat v)
  · -- hc
    refine own_icmpT X B db_2 (tlt hc).1 (pc' := 9) (by decide) (by decide) ?_
    refine own_iloadN X B db_9 rfl (pc' := 10) rfl ?_
    have hd : max u v = v := by have := (own_ltN (by omega) (by omega)).mp hc; omega
    exact own_iret X B db_10 (by decide) (by decide) (by rw [hd])
  · -- not hc
    refine own_icmpF X B db_2 (flt hc).1 (pc' := 5) rfl ?_
    refine own_iloadN X B db_5 rfl (pc' := 6) rfl ?_
    refine own_goto X B db_6 (pc' := 10) (by decide) (by decide) ?_
    have hd : max u v = u := by have := mt (own_ltN (by omega) (by omega)).mpr hc; omega
    exact own_iret X B db_10 (by decide) (by decide) (by rw [hd])
theorem dc_0 : decode prog_262_method_1_code 0 = .ok (.aload_n 0, 1) := by decide +kernel
theorem dc_1 : decode prog_262_method_1_code 1 = .ok (.invokespecial 1, 3) := by decide +kernel
theorem dc_4 : decode prog_262_method_1_code 4 = .ok (.aload_n 0, 1) := by decide +kernel
theorem dc_5 : decode prog_262_method_1_code 5 = .ok (.iload_n 1, 1) := by decide +kernel
theorem dc_6 : decode prog_262_method_1_code 6 = .ok (.newarray .long, 2) := by decide +kernel
theorem dc_8 : decode prog_262_method_1_code 8 = .ok (.putfield 7, 3) := by decide +kernel
theorem dc_11 : decode prog_262_method_1_code 11 = .ok (.aload_n 0, 1) := by decide +kernel
theorem dc_12 : decode prog_262_method_1_code 12 = .ok (.iload_n 1, 1) := by decide +kernel
theorem dc_13 : decode prog_262_method_1_code 13 = .ok (.newarray .long, 2) := by decide +kernel
theorem dc_15 : decode prog_262_method_1_code 15 = .ok (.putfield 13, 3) := by decide +kernel
theorem dc_18 : decode prog_262_method_1_code 18 = .ok (.return_, 1) := by decide +kernel
set_option maxRecDepth 65536 in
set_option maxHeartbeats 40000000 in
theorem rm3 (l : Launch) (Z : State) (a0 : Array Value) (hw : ∀ d ∈ tables_1, d.before a0 Z = true) (a : Addr) (w : Int64) (h0 : Heap) (n0 : Nat) (Z0 : n0 ≤ h0.size) (g_a : n0 ≤ a) (E_a : Exa Z h0 a "com/example/ostrakon/ostrakon/text/Run$Scratch") (F_a_reached : Fld Z h0 a "com/example/ostrakon/ostrakon/text/Run$Scratch" "reached" "[J" .null) (F_a_entering : Fld Z h0 a "com/example/ostrakon/ostrakon/text/Run$Scratch" "entering" "[J" .null) (F_a_written : Fld Z h0 a "com/example/ostrakon/ostrakon/text/Run$Scratch" "written" "J" (.long w)) :
    own_C l Z (⟨"com/example/ostrakon/ostrakon/text/Run$Scratch", "<init>", "(I)V"⟩ : MethodName) prog_262_method_1_code 2 none [] ({ frames := 1, cells := 2, slots := 10, locals := 12 } : Room) #[.ref a, .int (5 : Int32)] h0 n0 [a] (fun v h => v = none ∧ ∃ r t : Addr, h0.size ≤ r ∧ h0.size ≤ t ∧ r ≠ t ∧ Fld Z h a "com/example/ostrakon/ostrakon/text/Run$Scratch" "reached" "[J" (.ref r) ∧ Fld Z h a "com/example/ostrakon/ostrakon/text/Run$Scratch" "entering" "[J" (.ref t) ∧ Fld Z h a "com/example/ostrakon/ostrakon/text/Run$Scratch" "written" "J" (.long w) ∧ own_AJ Z h r 5 (fun _ => 0) ∧ own_AJ Z h t 5 (fun _ => 0)) 2 10 := by
  refine own_enter (L0 := #[.val (.ref a), .val (.int (5 : Int32))]) (plainFor_of_name (by first | (simp [plainName, overriddenIn]; done) | decide +kernel)) (fun m => by first | (simp [entryFrame, mkF, argsToLocals, Value.category]; done) | rfl) ?_
  intro p e s m below meth c T B X
  refine own_aloadN X B dc_0 rfl rfl (pc' := 1) rfl ?_
  refine own_initO X B (hw _ (List.mem_of_getElem? (i := 13) rfl)) (hw _ (List.mem_of_getElem? (i := 14) rfl)) (hw _ (List.mem_of_getElem? (i := 15) rfl)) rfl (by decide) (W := 0) (Nat.le_refl _) (by decide) dc_1 (pc' := 4) rfl fun T X => ?_
  refine own_aloadN X B dc_4 rfl rfl (pc' := 5) rfl ?_
  refine own_iloadN X B dc_5 rfl (pc' := 6) rfl ?_
  refine own_newJ X B (hw _ (List.mem_of_getElem? (i := 16) rfl)) (n := 5) (cap := 5) rfl (by decide) (by decide) (by decide) (by decide) dc_6 (pc' := 8) rfl fun T h r g_r X K A_r z_r => ?_
  have n_a_r : a ≠ r := own_ne E_a.lt g_r
  replace E_a := E_a.keep K
  replace F_a_reached := F_a_reached.keep K nin0
  replace F_a_entering := F_a_entering.keep K nin0
  replace F_a_written := F_a_written.keep K nin0
  refine own_putF X B (hw _ (List.mem_of_getElem? (i := 17) rfl)) F_a_reached E_a (Or.inr ⟨(hw _ (List.mem_of_getElem? (i := 18) rfl)), rfl, rfl⟩) (hw _ (List.mem_of_getElem? (i := 8) rfl)) (ty := (.array .long)) (by decide) rfl rfl g_a (Or.inl (List.mem_of_getElem? (i := 0) rfl)) dc_8 (pc' := 11) rfl fun T h X Wr K E_a F_a_reached => ?_
  replace F_a_entering := F_a_entering.other Wr (Or.inr (slot_ne (Or.inr (hw _ (List.mem_of_getElem? (i := 20) rfl))) (Or.inr (hw _ (List.mem_of_getElem? (i := 18) rfl))) (by decide) (t := (.array .long)) (t' := (.array .long)) (by decide) (by decide)))
  replace F_a_written := F_a_written.other Wr (Or.inr (slot_ne (Or.inl (hw _ (List.mem_of_getElem? (i := 27) rfl))) (Or.inr (hw _ (List.mem_of_getElem? (i := 18) rfl))) (by decide) (t := .long) (t' := (.array .long)) (by decide) (by decide)))
  replace A_r := A_r.keep K (ninS (Ne.symm n_a_r) nin0)
  refine own_aloadN X B dc_11 rfl rfl (pc' := 12) rfl ?_
  refine own_iloadN X B dc_12 rfl (pc' := 13) rfl ?_
  refine own_newJ X B (hw _ (List.mem_of_getElem? (i := 16) rfl)) (n := 5) (cap := 5) rfl (by decide) (by decide) (by decide) (by decide) dc_13 (pc' := 15) rfl fun T h t g_t X K A_t z_t => ?_
  have n_a_t : a ≠ t := own_ne E_a.lt g_t
  have n_r_t : r ≠ t := own_ne A_r.lt g_t
  replace E_a := E_a.keep K
  replace F_a_reached := F_a_reached.keep K nin0
  replace F_a_entering := F_a_entering.keep K nin0
  replace F_a_written := F_a_written.keep K nin0
  replace A_r := A_r.keep K nin0
  refine own_putF X B (hw _ (List.mem_of_getElem? (i := 19) rfl)) F_a_entering E_a (Or.inr ⟨(hw _ (List.mem_of_getElem? (i := 20) rfl)), rfl, rfl⟩) (hw _ (List.mem_of_getElem? (i := 8) rfl)) (ty := (.array .long)) (by decide) rfl rfl g_a (Or.inl (List.mem_of_getElem? (i := 0) rfl)) dc_15 (pc' := 18) rfl fun T h X Wr K E_a F_a_entering => ?_
  replace F_a_reached := F_a_reached.other Wr (Or.inr (slot_ne (Or.inr (hw _ (List.mem_of_getElem? (i := 18) rfl))) (Or.inr (hw _ (List.mem_of_getElem? (i := 20) rfl))) (by decide) (t := (.array .long)) (t' := (.array .long)) (by decide) (by decide)))
  replace F_a_written := F_a_written.other Wr (Or.inr (slot_ne (Or.inl (hw _ (List.mem_of_getElem? (i := 27) rfl))) (Or.inr (hw _ (List.mem_of_getElem? (i := 20) rfl))) (by decide) (t := .long) (t' := (.array .long)) (by decide) (by decide)))
  replace A_r := A_r.keep K (ninS (Ne.symm n_a_r) nin0)
  replace A_t := A_t.keep K (ninS (Ne.symm n_a_t) nin0)
  exact own_vret X B dc_18 (by decide) (by decide) ⟨rfl, r, t, z_r, z_t, n_r_t, F_a_reached, F_a_entering, F_a_written, A_r, A_t⟩
theorem dd_0 : decode prog_262_method_2_code 0 = .ok (.aload_n 0, 1) := by decide +kernel
theorem dd_1 : decode prog_262_method_2_code 1 = .ok (.getfield 16, 3) := by decide +kernel
theorem dd_4 : decode prog_262_method_2_code 4 = .ok (.bipush 32, 2) := by decide +kernel
theorem dd_6 : decode prog_262_method_2_code 6 = .ok (.lushr, 1) := by decide +kernel
theorem dd_7 : decode prog_262_method_2_code 7 = .ok (.l2i, 1) := by decide +kernel
theorem dd_8 : decode prog_262_method_2_code 8 = .ok (.istore_n 1, 1) := by decide +kernel
theorem dd_9 : decode prog_262_method_2_code 9 = .ok (.aload_n 0, 1) := by decide +kernel
theorem dd_10 : decode prog_262_method_2_code 10 = .ok (.getfield 16, 3) := by decide +kernel
theorem dd_13 : decode prog_262_method_2_code 13 = .ok (.l2i, 1) := by decide +kernel
theorem dd_14 : decode prog_262_method_2_code 14 = .ok (.istore_n 2, 1) := by decide +kernel
theorem dd_15 : decode prog_262_method_2_code 15 = .ok (.iload_n 1, 1) := by decide +kernel
theorem dd_16 : decode prog_262_method_2_code 16 = .ok (.istore_n 3, 1) := by decide +kernel
theorem dd_17 : decode prog_262_method_2_code 17 = .ok (.iload_n 3, 1) := by decide +kernel
theorem dd_18 : decode prog_262_method_2_code 18 = .ok (.iload_n 2, 1) := by decide +kernel
theorem dd_19 : decode prog_262_method_2_code 19 = .ok (.if_icmp .ge 23, 3) := by decide +kernel
theorem dd_22 : decode prog_262_method_2_code 22 = .ok (.aload_n 0, 1) := by decide +kernel
theorem dd_23 : decode prog_262_method_2_code 23 = .ok (.getfield 7, 3) := by decide +kernel
theorem dd_26 : decode prog_262_method_2_code 26 = .ok (.iload_n 3, 1) := by decide +kernel
theorem dd_27 : decode prog_262_method_2_code 27 = .ok (.lconst 0, 1) := by decide +kernel
theorem dd_28 : decode prog_262_method_2_code 28 = .ok (.lastore, 1) := by decide +kernel
theorem dd_29 : decode prog_262_method_2_code 29 = .ok (.aload_n 0, 1) := by decide +kernel
theorem dd_30 : decode prog_262_method_2_code 30 = .ok (.getfield 13, 3) := by decide +kernel
theorem dd_33 : decode prog_262_method_2_code 33 = .ok (.iload_n 3, 1) := by decide +kernel
theorem dd_34 : decode prog_262_method_2_code 34 = .ok (.lconst 0, 1) := by decide +kernel
theorem dd_35 : decode prog_262_method_2_code 35 = .ok (.lastore, 1) := by decide +kernel
theorem dd_36 : decode prog_262_method_2_code 36 = .ok (.iinc 3 1, 3) := by decide +kernel
theorem dd_39 : decode prog_262_method_2_code 39 = .ok (.goto (-22), 3) := by decide +kernel
theorem dd_42 : decode prog_262_method_2_code 42 = .ok (.aload_n 0, 1) := by decide +kernel
theorem dd_43 : decode prog_262_method_2_code 43 = .ok (.lconst 0, 1) := by decide +kernel
theorem dd_44 : decode prog_262_method_2_code 44 = .ok (.putfield 16, 3) := by decide +kernel
theorem dd_47 : decode prog_262_method_2_code 47 = .ok (.return_, 1) := by decide +kernel
set_option maxRecDepth 65536 in
set_option maxHeartbeats 40000000 in
theorem rm4 (l : Launch) (Z : State) (a0 : Array Value) (hw : ∀ d ∈ tables_1, d.before a0 Z = true) (a : Addr) (r : Addr) (t : Addr) (w : Int64) (fr : Nat → Int64) (fe : Nat → Int64) (lo : Nat) (hi : Nat) (h0 : Heap) (n0 : Nat) (Z0 : n0 ≤ h0.size) (g_a : n0 ≤ a) (g_r : n0 ≤ r) (g_t : n0 ≤ t) (n_a_r : a ≠ r) (n_a_t : a ≠ t) (n_r_t : r ≠ t) (E_a : Exa Z h0 a "com/example/ostrakon/ostrakon/text/Run$Scratch") (F_a_reached : Fld Z h0 a "com/example/ostrakon/ostrakon/text/Run$Scratch" "reached" "[J" (.ref r)) (F_a_entering : Fld Z h0 a "com/example/ostrakon/ostrakon/text/Run$Scratch" "entering" "[J" (.ref t)) (F_a_written : Fld Z h0 a "com/example/ostrakon/ostrakon/text/Run$Scratch" "written" "J" (.long w)) (A_r : own_AJ Z h0 r 5 fr) (A_t : own_AJ Z h0 t 5 fe) (hlo : ((w.toUInt64 >>> ((32 : Int32) &&& 0x3f).toInt64.toUInt64).toInt64).toInt32 = Int32.ofNat lo) (hhi : w.toInt32 = Int32.ofNat hi) (h1 : lo ≤ hi) (h2 : hi ≤ 5) :
    own_C l Z (⟨"com/example/ostrakon/ostrakon/text/Run$Scratch", "clear", "()V"⟩ : MethodName) prog_262_method_2_code 4 none [] ({ frames := 0, cells := 0, slots := 0, locals := 0 } : Room) #[.ref a] h0 n0 [a, r, t] (fun v h => v = none ∧ Fld Z h a "com/example/ostrakon/ostrakon/text/Run$Scratch" "reached" "[J" (.ref r) ∧ Fld Z h a "com/example/ostrakon/ostrakon/text/Run$Scratch" "entering" "[J" (.ref t) ∧ Fld Z h a "com/example/ostrakon/ostrakon/text/Run$Scratch" "written" "J" (.long (0 : Int64)) ∧ own_AJ Z h r 5 (own_clr lo hi fr) ∧ own_AJ Z h t 5 (own_clr lo hi fe)) 0 0 := by
  refine own_enter (L0 := #[.val (.ref a), .unset, .unset, .unset]) (plainFor_of_name (by first | (simp [plainName, overriddenIn]; done) | decide +kernel)) (fun m => by first | (simp [entryFrame, mkF, argsToLocals, Value.category]; done) | rfl) ?_
  intro p e s m below meth c T B X
  have loop : ∀ (k i : Nat) (T : State) (h : Heap), i + k = hi → lo ≤ i → own_St p l e ({ frames := 0, cells := 0, slots := 0, locals := 0 } : Room) s m #[.ref a] below meth c n0 h0 [a, r, t] T h 0 0 → Exa Z h a "com/example/ostrakon/ostrakon/text/Run$Scratch" → Fld Z h a "com/example/ostrakon/ostrakon/text/Run$Scratch" "reached" "[J" (.ref r) → Fld Z h a "com/example/ostrakon/ostrakon/text/Run$Scratch" "entering" "[J" (.ref t) → Fld Z h a "com/example/ostrakon/ostrakon/text/Run$Scratch" "written" "J" (.long w) → own_AJ Z h r 5 (own_clr lo i fr) → own_AJ Z h t 5 (own_clr lo i fe) → own_G p e below s n0 h0 [a, r, t] (fun v h => v = none ∧ Fld Z h a "com/example/ostrakon/ostrakon/text/Run$Scratch" "reached" "[J" (.ref r) ∧ Fld Z h a "com/example/ostrakon/ostrakon/text/Run$Scratch" "entering" "[J" (.ref t) ∧ Fld Z h a "com/example/ostrakon/ostrakon/text/Run$Scratch" "written" "J" (.long (0 : Int64)) ∧ own_AJ Z h r 5 (own_clr lo hi fr) ∧ own_AJ Z h t 5 (own_clr lo hi fe)) 0 0 T (mkF m 17 #[.val (.ref a), .val (.int (Int32.ofNat lo)), .val (.int (Int32.ofNat hi)), .val (.int (Int32.ofNat i))] []) := by
    intro k
    induction k with
    | zero =>
      intro i T h hk hi1 X E_a F_a_reached F_a_entering F_a_written A_r A_t
      refine own_iloadN X B dd_17 rfl (pc' := 18) rfl ?_
      refine own_iloadN X B dd_18 rfl (pc' := 19) rfl ?_
      refine own_icmpT X B dd_19 (flt (by rw [own_ltN (by omega) (by omega)]; omega)).2.1 (pc' := 42) (by decide) (by decide) ?_
      have hk1 : i = hi := by omega
      subst hk1
      refine own_aloadN X B dd_42 rfl rfl (pc' := 43) rfl ?_
      refine own_lconst X B dd_43 (v := (0 : Int64)) rfl (pc' := 44) rfl ?_
      refine own_putF X B (hw _ (List.mem_of_getElem? (i := 33) rfl)) F_a_written E_a (Or.inl (hw _ (List.mem_of_getElem? (i := 27) rfl))) (hw _ (List.mem_of_getElem? (i := 8) rfl)) (ty := .long) (by decide) rfl rfl g_a (Or.inl (List.mem_of_getElem? (i := 0) rfl)) dd_44 (pc' := 47) rfl fun T h X Wr K E_a F_a_written => ?_
      replace F_a_reached := F_a_reached.other Wr (Or.inr (slot_ne (Or.inr (hw _ (List.mem_of_getElem? (i := 18) rfl))) (Or.inl (hw _ (List.mem_of_getElem? (i := 27) rfl))) (by decide) (t := (.array .long)) (t' := .long) (by decide) (by decide)))
      replace F_a_entering := F_a_entering.other Wr (Or.inr (slot_ne (Or.inr (hw _ (List.mem_of_getElem? (i := 20) rfl))) (Or.inl (hw _ (List.mem_of_getElem? (i := 27) rfl))) (by decide) (t := (.array .long)) (t' := .long) (by decide) (by decide)))
      replace A_r := A_r.keep K (ninS (Ne.symm n_a_r) nin0)
      replace A_t := A_t.keep K (ninS (Ne.symm n_a_t) nin0)
      exact own_vret X B dd_47 (by decide) (by decide) ⟨rfl, F_a_reached, F_a_entering, F_a_written, A_r, A_t⟩
    | succ k ih =>
      intro i T h hk hi1 X E_a F_a_reached F_a_entering F_a_written A_r A_t
      refine own_iloadN X B dd_17 rfl (pc' := 18) rfl ?_
      refine own_iloadN X B dd_18 rfl (pc' := 19) rfl ?_
      refine own_icmpF X B dd_19 (tlt (by rw [own_ltN (by omega) (by omega)]; omega)).2.1 (pc' := 22) rfl ?_
      refine own_aloadN X B dd_22 rfl rfl (pc' := 23) rfl ?_
      refine own_getF X B (hw _ (List.mem_of_getElem? (i := 17) rfl)) F_a_reached dd_23 (pc' := 26) rfl fun T X => ?_
      refine own_iloadN X B dd_26 rfl (pc' := 27) rfl ?_
      refine own_lconst X B dd_27 (v := (0 : Int64)) rfl (pc' := 28) rfl ?_
      refine own_lastore X B A_r (i := i) (own_nat (by omega)) (by omega) g_r (Or.inl (List.mem_of_getElem? (i := 1) rfl)) dd_28 (pc' := 29) rfl fun T h X K A_r => ?_
      replace E_a := E_a.keep K
      replace F_a_reached := F_a_reached.keep K (ninS n_a_r nin0)
      replace F_a_entering := F_a_entering.keep K (ninS n_a_r nin0)
      replace F_a_written := F_a_written.keep K (ninS n_a_r nin0)
      replace A_t := A_t.keep K (ninS (Ne.symm n_r_t) nin0)
      replace A_r := A_r.congr (g := (own_clr lo (i + 1) fr)) (fun k hk => own_clr_succ hi1 fr k)
      refine own_aloadN X B dd_29 rfl rfl (pc' := 30) rfl ?_
      refine own_getF X B (hw _ (List.mem_of_getElem? (i := 19) rfl)) F_a_entering dd_30 (pc' := 33) rfl fun T X => ?_
      refine own_iloadN X B dd_33 rfl (pc' := 34) rfl ?_
      refine own_lconst X B dd_34 (v := (0 : Int64)) rfl (pc' := 35) rfl ?_
      refine own_lastore X B A_t (i := i) (own_nat (by omega)) (by omega) g_t (Or.inl (List.mem_of_getElem? (i := 2) rfl)) dd_35 (pc' := 36) rfl fun T h X K A_t => ?_
      replace E_a := E_a.keep K
      replace F_a_reached := F_a_reached.keep K (ninS n_a_t nin0)
      replace F_a_entering := F_a_entering.keep K (ninS n_a_t nin0)
      replace F_a_written := F_a_written.keep K (ninS n_a_t nin0)
      replace A_r := A_r.keep K (ninS n_r_t nin0)
      replace A_t := A_t.congr (g := (own_clr lo (i + 1) fe)) (fun k hk => own_clr_succ hi1 fe k)
      refine own_iinc X B dd_36 rfl (L' := #[.val (.ref a), .val (.int (Int32.ofNat lo)), .val (.int (Int32.ofNat hi)), .val (.int ((Int32.ofNat i) + (1 : Int32)))]) rfl (pc' := 39) rfl ?_
      refine own_goto X B dd_39 (pc' := 17) (by decide) (by decide) ?_
      rw [own_succ]
      exact ih (i + 1) T h (by omega) (by omega) X E_a F_a_reached F_a_entering F_a_written A_r A_t
  refine own_aloadN X B dd_0 rfl rfl (pc' := 1) rfl ?_
  refine own_getF X B (hw _ (List.mem_of_getElem? (i := 33) rfl)) F_a_written dd_1 (pc' := 4) rfl fun T X => ?_
  refine own_bipush X B dd_4 (v := (32 : Int32)) rfl (pc' := 6) rfl ?_
  refine own_lushr X B dd_6 (pc' := 7) rfl ?_
  refine own_l2i X B dd_7 (pc' := 8) rfl ?_
  refine own_istoreN X B dd_8 (L' := #[.val (.ref a), .val (.int (((w.toUInt64 >>> ((32 : Int32) &&& 0x3f).toInt64.toUInt64).toInt64)).toInt32), .unset, .unset]) rfl (pc' := 9) rfl ?_
  rw [hlo]
  refine own_aloadN X B dd_9 rfl rfl (pc' := 10) rfl ?_
  refine own_getF X B (hw _ (List.mem_of_getElem? (i := 33) rfl)) F_a_written dd_10 (pc' := 13) rfl fun T X => ?_
  refine own_l2i X B dd_13 (pc' := 14) rfl ?_
  refine own_istoreN X B dd_14 (L' := #[.val (.ref a), .val (.int (Int32.ofNat lo)), .val (.int w.toInt32), .unset]) rfl (pc' := 15) rfl ?_
  rw [hhi]
  refine own_iloadN X B dd_15 rfl (pc' := 16) rfl ?_
  refine own_istoreN X B dd_16 (L' := #[.val (.ref a), .val (.int (Int32.ofNat lo)), .val (.int (Int32.ofNat hi)), .val (.int (Int32.ofNat lo))]) rfl (pc' := 17) rfl ?_
  exact loop (hi - lo) lo T h0 (by omega) (by omega) X E_a F_a_reached F_a_entering F_a_written (A_r.congr fun k hk => (own_clr_nil lo fr k).symm) (A_t.congr fun k hk => (own_clr_nil lo fe k).symm)
theorem de_0 : decode method_3_code 0 = .ok (.iload_n 2, 1) := by decide +kernel
theorem de_1 : decode method_3_code 1 = .ok (.iload_n 1, 1) := by decide +kernel
theorem de_2 : decode method_3_code 2 = .ok (.if_icmp .gt 12, 3) := by decide +kernel
theorem de_5 : decode method_3_code 5 = .ok (.iload_n 1, 1) := by decide +kernel
theorem de_6 : decode method_3_code 6 = .ok (.iload_n 3, 1) := by decide +kernel
theorem de_7 : decode method_3_code 7 = .ok (.if_icmp .ge 7, 3) := by decide +kernel
theorem de_10 : decode method_3_code 10 = .ok (.iconst 1, 1) := by decide +kernel
theorem de_11 : decode method_3_code 11 = .ok (.goto 4, 3) := by decide +kernel
theorem de_14 : decode method_3_code 14 = .ok (.iconst 0, 1) := by decide +kernel
theorem de_15 : decode method_3_code 15 = .ok (.istore 8, 2) := by decide +kernel
theorem de_17 : decode method_3_code 17 = .ok (.iload 8, 2) := by decide +kernel
theorem de_19 : decode method_3_code 19 = .ok (.ifCond .eq 7, 3) := by decide +kernel
theorem de_22 : decode method_3_code 22 = .ok (.lconst 0, 1) := by decide +kernel
theorem de_23 : decode method_3_code 23 = .ok (.goto 8, 3) := by decide +kernel
theorem de_26 : decode method_3_code 26 = .ok (.lload 4, 2) := by decide +kernel
theorem de_28 : decode method_3_code 28 = .ok (.iload_n 1, 1) := by decide +kernel
theorem de_29 : decode method_3_code 29 = .ok (.i2l, 1) := by decide +kernel
theorem de_30 : decode method_3_code 30 = .ok (.ladd, 1) := by decide +kernel
theorem de_31 : decode method_3_code 31 = .ok (.lstore 9, 2) := by decide +kernel
theorem de_33 : decode method_3_code 33 = .ok (.iload 8, 2) := by decide +kernel
theorem de_35 : decode method_3_code 35 = .ok (.ifCond .eq 7, 3) := by decide +kernel
theorem de_38 : decode method_3_code 38 = .ok (.lconst 0, 1) := by decide +kernel
theorem de_39 : decode method_3_code 39 = .ok (.goto 8, 3) := by decide +kernel
theorem de_42 : decode method_3_code 42 = .ok (.lload 6, 2) := by decide +kernel
theorem de_44 : decode method_3_code 44 = .ok (.iload_n 1, 1) := by decide +kernel
theorem de_45 : decode method_3_code 45 = .ok (.i2l, 1) := by decide +kernel
theorem de_46 : decode method_3_code 46 = .ok (.ladd, 1) := by decide +kernel
theorem de_47 : decode method_3_code 47 = .ok (.lstore 11, 2) := by decide +kernel
theorem de_49 : decode method_3_code 49 = .ok (.aload_n 0, 1) := by decide +kernel
theorem de_50 : decode method_3_code 50 = .ok (.getfield 21, 3) := by decide +kernel
theorem de_53 : decode method_3_code 53 = .ok (.iload_n 1, 1) := by decide +kernel
theorem de_54 : decode method_3_code 54 = .ok (.laload, 1) := by decide +kernel
theorem de_55 : decode method_3_code 55 = .ok (.lload 9, 2) := by decide +kernel
theorem de_57 : decode method_3_code 57 = .ok (.lcmp, 1) := by decide +kernel
theorem de_58 : decode method_3_code 58 = .ok (.ifCond .ne 19, 3) := by decide +kernel
theorem de_61 : decode method_3_code 61 = .ok (.aload_n 0, 1) := by decide +kernel
theorem de_62 : decode method_3_code 62 = .ok (.getfield 31, 3) := by decide +kernel
theorem de_65 : decode method_3_code 65 = .ok (.iload_n 1, 1) := by decide +kernel
theorem de_66 : decode method_3_code 66 = .ok (.laload, 1) := by decide +kernel
theorem de_67 : decode method_3_code 67 = .ok (.lload 11, 2) := by decide +kernel
theorem de_69 : decode method_3_code 69 = .ok (.lcmp, 1) := by decide +kernel
theorem de_70 : decode method_3_code 70 = .ok (.ifCond .ne 7, 3) := by decide +kernel
theorem de_73 : decode method_3_code 73 = .ok (.iconst 1, 1) := by decide +kernel
theorem de_74 : decode method_3_code 74 = .ok (.goto 4, 3) := by decide +kernel
theorem de_77 : decode method_3_code 77 = .ok (.iconst 0, 1) := by decide +kernel
theorem de_78 : decode method_3_code 78 = .ok (.ireturn, 1) := by decide +kernel
set_option maxRecDepth 65536 in
set_option maxHeartbeats 40000000 in
theorem rm5 (l : Launch) (Z : State) (a0 : Array Value) (hw : ∀ d ∈ tables_1, d.before a0 Z = true) (o : Addr) (r : Addr) (t : Addr) (i : Nat) (lo : Nat) (hi : Nat) (ka : Int64) (kb : Int64) (h0 : Heap) (n0 : Nat) (Z0 : n0 ≤ h0.size) (F_o_reached : Fld Z h0 o "com/example/ostrakon/ostrakon/text/Run$Scratch" "reached" "[J" (.ref r)) (F_o_entering : Fld Z h0 o "com/example/ostrakon/ostrakon/text/Run$Scratch" "entering" "[J" (.ref t)) (A_r : own_AJ Z h0 r 5 (own_clr lo hi (own_fill ka))) (A_t : own_AJ Z h0 t 5 (own_clr lo hi (own_fill kb))) (hi5 : i < 5) (hlo : lo < 6) (hhi : hi < 6) :
    own_C l Z (⟨"com/example/ostrakon/ostrakon/text/ScratchClearPinLaw", "kept", "(Lcom/example/ostrakon/ostrakon/text/Run$Scratch;IIIJJ)Z"⟩ : MethodName) method_3_code 13 (some .boolean) [] ({ frames := 0, cells := 0, slots := 0, locals := 0 } : Room) #[.ref o, .int (Int32.ofNat i), .int (Int32.ofNat lo), .int (Int32.ofNat hi), .long ka, .long kb] h0 n0 [] (fun r h => r = some (.int 1)) 0 0 := by
  refine own_enter (L0 := #[.val (.ref o), .val (.int (Int32.ofNat i)), .val (.int (Int32.ofNat lo)), .val (.int (Int32.ofNat hi)), .val (.long ka), .second, .val (.long kb), .second, .unset, .unset, .unset, .unset, .unset]) (plainFor_of_name (by first | (simp [plainName, overriddenIn]; done) | decide +kernel)) (fun m => by first | (simp [entryFrame, mkF, argsToLocals, Value.category]; done) | rfl) ?_
  intro p e s m below meth c T B X
  refine own_iloadN X B de_0 rfl (pc' := 1) rfl ?_
  refine own_iloadN X B de_1 rfl (pc' := 2) rfl ?_
  by_cases hc : (Int32.ofNat i) < (Int32.ofNat lo)
  · -- hc
    refine own_icmpT X B de_2 (tlt hc).2.2.1 (pc' := 14) (by decide) (by decide) ?_
    have qhc : i < lo := (own_ltN (by omega) (by omega)).mp hc
    have hin : ¬ (lo ≤ i ∧ i < hi) := by omega
    refine own_iconst X B de_14 (v := (0 : Int32)) rfl (pc' := 15) rfl ?_
    refine own_istore X B de_15 (L' := #[.val (.ref o), .val (.int (Int32.ofNat i)), .val (.int (Int32.ofNat lo)), .val (.int (Int32.ofNat hi)), .val (.long ka), .second, .val (.long kb), .second, .val (.int (0 : Int32)), .unset, .unset, .unset, .unset]) rfl (pc' := 17) rfl ?_
    refine own_iload X B de_17 rfl (pc' := 19) rfl ?_
    refine own_ifT X B de_19 (teq rfl).1 (pc' := 26) (by decide) (by decide) ?_
    refine own_lload X B de_26 rfl (pc' := 28) rfl ?_
    refine own_iloadN X B de_28 rfl (pc' := 29) rfl ?_
    refine own_i2l X B de_29 (pc' := 30) rfl ?_
    refine own_ladd X B de_30 (pc' := 31) rfl ?_
    refine own_lstore X B de_31 (L' := #[.val (.ref o), .val (.int (Int32.ofNat i)), .val (.int (Int32.ofNat lo)), .val (.int (Int32.ofNat hi)), .val (.long ka), .second, .val (.long kb), .second, .val (.int (0 : Int32)), .val (.long (ka + ((Int32.ofNat i)).toInt64)), .second, .unset, .unset]) rfl (pc' := 33) rfl ?_
    refine own_iload X B de_33 rfl (pc' := 35) rfl ?_
    refine own_ifT X B de_35 (teq rfl).1 (pc' := 42) (by decide) (by decide) ?_
    refine own_lload X B de_42 rfl (pc' := 44) rfl ?_
    refine own_iloadN X B de_44 rfl (pc' := 45) rfl ?_
    refine own_i2l X B de_45 (pc' := 46) rfl ?_
    refine own_ladd X B de_46 (pc' := 47) rfl ?_
    refine own_lstore X B de_47 (L' := #[.val (.ref o), .val (.int (Int32.ofNat i)), .val (.int (Int32.ofNat lo)), .val (.int (Int32.ofNat hi)), .val (.long ka), .second, .val (.long kb), .second, .val (.int (0 : Int32)), .val (.long (ka + ((Int32.ofNat i)).toInt64)), .second, .val (.long (kb + ((Int32.ofNat i)).toInt64)), .second]) rfl (pc' := 49) rfl ?_
    have e1 : own_clr lo hi (own_fill ka) i = (ka + (Int32.ofNat i).toInt64) := if_neg hin
    have e2 : own_clr lo hi (own_fill kb) i = (kb + (Int32.ofNat i).toInt64) := if_neg hin
    refine own_aloadN X B de_49 rfl rfl (pc' := 50) rfl ?_
    refine own_getF X B (hw _ (List.mem_of_getElem? (i := 21) rfl)) F_o_reached de_50 (pc' := 53) rfl fun T X => ?_
    refine own_iloadN X B de_53 rfl (pc' := 54) rfl ?_
    refine own_laload X B A_r (i := i) (own_nat (by omega)) hi5 de_54 (pc' := 55) rfl ?_
    refine own_lload X B de_55 rfl (pc' := 57) rfl ?_
    refine own_lcmp X B de_57 (pc' := 58) rfl ?_
    refine own_ifF X B de_58 (teq ((lw_eq _ _).mpr e1)).2 (pc' := 61) rfl ?_
    refine own_aloadN X B de_61 rfl rfl (pc' := 62) rfl ?_
    refine own_getF X B (hw _ (List.mem_of_getElem? (i := 25) rfl)) F_o_entering de_62 (pc' := 65) rfl fun T X => ?_
    refine own_iloadN X B de_65 rfl (pc' := 66) rfl ?_
    refine own_laload X B A_t (i := i) (own_nat (by omega)) hi5 de_66 (pc' := 67) rfl ?_
    refine own_lload X B de_67 rfl (pc' := 69) rfl ?_
    refine own_lcmp X B de_69 (pc' := 70) rfl ?_
    refine own_ifF X B de_70 (teq ((lw_eq _ _).mpr e2)).2 (pc' := 73) rfl ?_
    refine own_iconst X B de_73 (v := (1 : Int32)) rfl (pc' := 74) rfl ?_
    refine own_goto X B de_74 (pc' := 78) (by decide) (by decide) ?_
    exact own_zret X B de_78 (by decide) (by decide) rfl rfl
  · -- not hc
    refine own_icmpF X B de_2 (flt hc).2.2.1 (pc' := 5) rfl ?_
    have qhc : ¬ i < lo := mt (own_ltN (by omega) (by omega)).mpr hc
    refine own_iloadN X B de_5 rfl (pc' := 6) rfl ?_
    refine own_iloadN X B de_6 rfl (pc' := 7) rfl ?_
    by_cases hd : (Int32.ofNat i) < (Int32.ofNat hi)
    · -- hd
      refine own_icmpF X B de_7 (tlt hd).2.1 (pc' := 10) rfl ?_
      have qhd : i < hi := (own_ltN (by omega) (by omega)).mp hd
      have hin : lo ≤ i ∧ i < hi := by omega
      refine own_iconst X B de_10 (v := (1 : Int32)) rfl (pc' := 11) rfl ?_
      refine own_goto X B de_11 (pc' := 15) (by decide) (by decide) ?_
      refine own_istore X B de_15 (L' := #[.val (.ref o), .val (.int (Int32.ofNat i)), .val (.int (Int32.ofNat lo)), .val (.int (Int32.ofNat hi)), .val (.long ka), .second, .val (.long kb), .second, .val (.int (1 : Int32)), .unset, .unset, .unset, .unset]) rfl (pc' := 17) rfl ?_
      refine own_iload X B de_17 rfl (pc' := 19) rfl ?_
      refine own_ifF X B de_19 (feq (by decide : ¬ (1 : Int32) = 0)).1 (pc' := 22) rfl ?_
      refine own_lconst X B de_22 (v := (0 : Int64)) rfl (pc' := 23) rfl ?_
      refine own_goto X B de_23 (pc' := 31) (by decide) (by decide) ?_
      refine own_lstore X B de_31 (L' := #[.val (.ref o), .val (.int (Int32.ofNat i)), .val (.int (Int32.ofNat lo)), .val (.int (Int32.ofNat hi)), .val (.long ka), .second, .val (.long kb), .second, .val (.int (1 : Int32)), .val (.long (0 : Int64)), .second, .unset, .unset]) rfl (pc' := 33) rfl ?_
      refine own_iload X B de_33 rfl (pc' := 35) rfl ?_
      refine own_ifF X B de_35 (feq (by decide : ¬ (1 : Int32) = 0)).1 (pc' := 38) rfl ?_
      refine own_lconst X B de_38 (v := (0 : Int64)) rfl (pc' := 39) rfl ?_
      refine own_goto X B de_39 (pc' := 47) (by decide) (by decide) ?_
      refine own_lstore X B de_47 (L' := #[.val (.ref o), .val (.int (Int32.ofNat i)), .val (.int (Int32.ofNat lo)), .val (.int (Int32.ofNat hi)), .val (.long ka), .second, .val (.long kb), .second, .val (.int (1 : Int32)), .val (.long (0 : Int64)), .second, .val (.long (0 : Int64)), .second]) rfl (pc' := 49) rfl ?_
      have e1 : own_clr lo hi (own_fill ka) i = (0 : Int64) := if_pos hin
      have e2 : own_clr lo hi (own_fill kb) i = (0 : Int64) := if_pos hin
      refine own_aloadN X B de_49 rfl rfl (pc' := 50) rfl ?_
      refine own_getF X B (hw _ (List.mem_of_getElem? (i := 21) rfl)) F_o_reached de_50 (pc' := 53) rfl fun T X => ?_
      refine own_iloadN X B de_53 rfl (pc' := 54) rfl ?_
      refine own_laload X B A_r (i := i) (own_nat (by omega)) hi5 de_54 (pc' := 55) rfl ?_
      refine own_lload X B de_55 rfl (pc' := 57) rfl ?_
      refine own_lcmp X B de_57 (pc' := 58) rfl ?_
      refine own_ifF X B de_58 (teq ((lw_eq _ _).mpr e1)).2 (pc' := 61) rfl ?_
      refine own_aloadN X B de_61 rfl rfl (pc' := 62) rfl ?_
      refine own_getF X B (hw _ (List.mem_of_getElem? (i := 25) rfl)) F_o_entering de_62 (pc' := 65) rfl fun T X => ?_
      refine own_iloadN X B de_65 rfl (pc' := 66) rfl ?_
      refine own_laload X B A_t (i := i) (own_nat (by omega)) hi5 de_66 (pc' := 67) rfl ?_
      refine own_lload X B de_67 rfl (pc' := 69) rfl ?_
      refine own_lcmp X B de_69 (pc' := 70) rfl ?_
      refine own_ifF X B de_70 (teq ((lw_eq _ _).mpr e2)).2 (pc' := 73) rfl ?_
      refine own_iconst X B de_73 (v := (1 : Int32)) rfl (pc' := 74) rfl ?_
      refine own_goto X B de_74 (pc' := 78) (by decide) (by decide) ?_
      exact own_zret X B de_78 (by decide) (by decide) rfl rfl
    · -- not hd
      refine own_icmpT X B de_7 (flt hd).2.1 (pc' := 14) (by decide) (by decide) ?_
      have qhd : ¬ i < hi := mt (own_ltN (by omega) (by omega)).mpr hd
      have hin : ¬ (lo ≤ i ∧ i < hi) := by omega
      refine own_iconst X B de_14 (v := (0 : Int32)) rfl (pc' := 15) rfl ?_
      refine own_istore X B de_15 (L' := #[.val (.ref o), .val (.int (Int32.ofNat i)), .val (.int (Int32.ofNat lo)), .val (.int (Int32.ofNat hi)), .val (.long ka), .second, .val (.long kb), .second, .val (.int (0 : Int32)), .unset, .unset, .unset, .unset]) rfl (pc' := 17) rfl ?_
      refine own_iload X B de_17 rfl (pc' := 19) rfl ?_
      refine own_ifT X B de_19 (teq rfl).1 (pc' := 26) (by decide) (by decide) ?_
      refine own_lload X B de_26 rfl (pc' := 28) rfl ?_
      refine own_iloadN X B de_28 rfl (pc' := 29) rfl ?_
      refine own_i2l X B de_29 (pc' := 30) rfl ?_
      refine own_ladd X B de_30 (pc' := 31) rfl ?_
      refine own_lstore X B de_31 (L' := #[.val (.ref o), .val (.int (Int32.ofNat i)), .val (.int (Int32.ofNat lo)), .val (.int (Int32.ofNat hi)), .val (.long ka), .second, .val (.long kb), .second, .val (.int (0 : Int32)), .val (.long (ka + ((Int32.ofNat i)).toInt64)), .second, .unset, .unset]) rfl (pc' := 33) rfl ?_
      refine own_iload X B de_33 rfl (pc' := 35) rfl ?_
      refine own_ifT X B de_35 (teq rfl).1 (pc' := 42) (by decide) (by decide) ?_
      refine own_lload X B de_42 rfl (pc' := 44) rfl ?_
      refine own_iloadN X B de_44 rfl (pc' := 45) rfl ?_
      refine own_i2l X B de_45 (pc' := 46) rfl ?_
      refine own_ladd X B de_46 (pc' := 47) rfl ?_
      refine own_lstore X B de_47 (L' := #[.val (.ref o), .val (.int (Int32.ofNat i)), .val (.int (Int32.ofNat lo)), .val (.int (Int32.ofNat hi)), .val (.long ka), .second, .val (.long kb), .second, .val (.int (0 : Int32)), .val (.long (ka + ((Int32.ofNat i)).toInt64)), .second, .val (.long (kb + ((Int32.ofNat i)).toInt64)), .second]) rfl (pc' := 49) rfl ?_
      have e1 : own_clr lo hi (own_fill ka) i = (ka + (Int32.ofNat i).toInt64) := if_neg hin
      have e2 : own_clr lo hi (own_fill kb) i = (kb + (Int32.ofNat i).toInt64) := if_neg hin
      refine own_aloadN X B de_49 rfl rfl (pc' := 50) rfl ?_
      refine own_getF X B (hw _ (List.mem_of_getElem? (i := 21) rfl)) F_o_reached de_50 (pc' := 53) rfl fun T X => ?_
      refine own_iloadN X B de_53 rfl (pc' := 54) rfl ?_
      refine own_laload X B A_r (i := i) (own_nat (by omega)) hi5 de_54 (pc' := 55) rfl ?_
      refine own_lload X B de_55 rfl (pc' := 57) rfl ?_
      refine own_lcmp X B de_57 (pc' := 58) rfl ?_
      refine own_ifF X B de_58 (teq ((lw_eq _ _).mpr e1)).2 (pc' := 61) rfl ?_
      refine own_aloadN X B de_61 rfl rfl (pc' := 62) rfl ?_
      refine own_getF X B (hw _ (List.mem_of_getElem? (i := 25) rfl)) F_o_entering de_62 (pc' := 65) rfl fun T X => ?_
      refine own_iloadN X B de_65 rfl (pc' := 66) rfl ?_
      refine own_laload X B A_t (i := i) (own_nat (by omega)) hi5 de_66 (pc' := 67) rfl ?_
      refine own_lload X B de_67 rfl (pc' := 69) rfl ?_
      refine own_lcmp X B de_69 (pc' := 70) rfl ?_
      refine own_ifF X B de_70 (teq ((lw_eq _ _).mpr e2)).2 (pc' := 73) rfl ?_
      refine own_iconst X B de_73 (v := (1 : Int32)) rfl (pc' := 74) rfl ?_
      refine own_goto X B de_74 (pc' := 78) (by decide) (by decide) ?_
      exact own_zret X B de_78 (by decide) (by decide) rfl rfl
set_option maxRecDepth 65536 in
set_option maxHeartbeats 40000000 in
theorem rm0 (l : Launch) (Z : State) (a0 : Array Value) (hw : ∀ d ∈ tables_1, d.before a0 Z = true) (ka : Int64) (kb : Int64) (q : Int32) (h0 : Heap) (n0 : Nat) (Z0 : n0 ≤ h0.size) (Z1 : h0.size ≤ n0) :
    own_C l Z Jvm.Pilot.@@N@@.x code maxLocals ret tables_1 room_1 #[.long ka, .long kb, .int q] h0 n0 [] (fun v h => v = some (.int 1)) 16 128 := by
  refine own_enter (L0 := #[.val (.long ka), .second, .val (.long kb), .second, .val (.int q), .unset, .unset, .unset, .unset, .unset]) (plainFor_of_name (by first | (simp [plainName, overriddenIn]; done) | decide +kernel)) (fun m => by first | (simp [entryFrame, mkF, argsToLocals, Value.category, maxLocals]; done) | rfl) ?_
  intro p e s m below meth c T B X
  refine own_iload X B at_0 rfl (pc' := 2) rfl ?_
  refine own_bipush X B at_2 (v := (7 : Int32)) rfl (pc' := 4) rfl ?_
  refine own_iand X B at_4 (pc' := 5) rfl ?_
  refine own_bipush X B at_5 (v := (6 : Int32)) rfl (pc' := 7) rfl ?_
  refine own_irem X B at_7 (by decide) (pc' := 8) rfl ?_
  obtain ⟨u, hu, eu⟩ := own_mod6 q
  rw [eu]
  refine own_istore X B at_8 (L' := #[.val (.long ka), .second, .val (.long kb), .second, .val (.int q), .val (.int (Int32.ofNat u)), .unset, .unset, .unset, .unset]) rfl (pc' := 10) rfl ?_
  refine own_iload X B at_10 rfl (pc' := 12) rfl ?_
  refine own_iconst X B at_12 (v := (3 : Int32)) rfl (pc' := 13) rfl ?_
  refine own_iushr X B at_13 (pc' := 14) rfl ?_
  refine own_bipush X B at_14 (v := (7 : Int32)) rfl (pc' := 16) rfl ?_
  refine own_iand X B at_16 (pc' := 17) rfl ?_
  refine own_bipush X B at_17 (v := (6 : Int32)) rfl (pc' := 19) rfl ?_
  refine own_irem X B at_19 (by decide) (pc' := 20) rfl ?_
  obtain ⟨v, hv, ev⟩ := own_mod6 ((q.toUInt32 >>> ((3 : Int32) &&& 31).toUInt32).toInt32)
  rw [ev]
  refine own_istore X B at_20 (L' := #[.val (.long ka), .second, .val (.long kb), .second, .val (.int q), .val (.int (Int32.ofNat u)), .val (.int (Int32.ofNat v)), .unset, .unset, .unset]) rfl (pc' := 22) rfl ?_
  refine own_iload X B at_22 rfl (pc' := 24) rfl ?_
  refine own_iload X B at_24 rfl (pc' := 26) rfl ?_
  refine own_callS X B (W := 0) (hw _ (List.mem_of_getElem? (i := 0) rfl)) (hw _ (List.mem_of_getElem? (i := 1) rfl)) (hw _ (List.mem_of_getElem? (i := 2) rfl)) (hw _ (List.mem_of_getElem? (i := 3) rfl)) (by decide) (rm1 l Z a0 hw u v h0 n0 (own_sz X Z0) (by omega) (by omega)) (by decide) (by decide) (by decide) (by decide) rfl (argsL := [.int (Int32.ofNat u), .int (Int32.ofNat v)]) pd_1 rfl rfl (st := []) rfl (Nat.le_refl _) at_26 (pc' := 29) rfl all0 ?_
  rintro v T h X K rfl
  show own_H _ _ _ _ _ _ _ _ T (mkF m 29 #[.val (.long ka), .second, .val (.long kb), .second, .val (.int q), .val (.int (Int32.ofNat u)), .val (.int (Int32.ofNat v)), .unset, .unset, .unset] [.int (Int32.ofNat (min u v))])
  refine own_istore X B at_29 (L' := #[.val (.long ka), .second, .val (.long kb), .second, .val (.int q), .val (.int (Int32.ofNat u)), .val (.int (Int32.ofNat v)), .val (.int (Int32.ofNat (min u v))), .unset, .unset]) rfl (pc' := 31) rfl ?_
  refine own_iload X B at_31 rfl (pc' := 33) rfl ?_
  refine own_iload X B at_33 rfl (pc' := 35) rfl ?_
  refine own_callS X B (W := 0) (hw _ (List.mem_of_getElem? (i := 4) rfl)) (hw _ (List.mem_of_getElem? (i := 5) rfl)) (hw _ (List.mem_of_getElem? (i := 2) rfl)) (hw _ (List.mem_of_getElem? (i := 6) rfl)) (by decide) (rm2 l Z a0 hw u v h n0 (own_sz X Z0) (by omega) (by omega)) (by decide) (by decide) (by decide) (by decide) rfl (argsL := [.int (Int32.ofNat u), .int (Int32.ofNat v)]) pd_2 rfl rfl (st := []) rfl (Nat.le_refl _) at_35 (pc' := 38) rfl all0 ?_
  rintro v T h X K rfl
  show own_H _ _ _ _ _ _ _ _ T (mkF m 38 #[.val (.long ka), .second, .val (.long kb), .second, .val (.int q), .val (.int (Int32.ofNat u)), .val (.int (Int32.ofNat v)), .val (.int (Int32.ofNat (min u v))), .unset, .unset] [.int (Int32.ofNat (max u v))])
  obtain ⟨lo, hlo⟩ : ∃ z, z = min u v := ⟨_, rfl⟩
  obtain ⟨hi, hhi⟩ : ∃ z, z = max u v := ⟨_, rfl⟩
  rw [← hlo, ← hhi]
  have hlh : lo ≤ hi ∧ hi < 6 := by omega
  refine own_istore X B at_38 (L' := #[.val (.long ka), .second, .val (.long kb), .second, .val (.int q), .val (.int (Int32.ofNat u)), .val (.int (Int32.ofNat v)), .val (.int (Int32.ofNat lo)), .val (.int (Int32.ofNat hi)), .unset]) rfl (pc' := 40) rfl ?_
  refine own_newO X B (hw _ (List.mem_of_getElem? (i := 7) rfl)) (hw _ (List.mem_of_getElem? (i := 8) rfl)) (hw _ (List.mem_of_getElem? (i := 9) rfl)) (by decide) (by decide) at_40 (pc' := 43) rfl fun T h b1 g_b1 X K E_b1 D_b1 z_b1 => ?_
  have F_b1_reached : Fld Z h b1 "com/example/ostrakon/ostrakon/text/Run$Scratch" "reached" "[J" .null := D_b1 (Or.inr (hw _ (List.mem_of_getElem? (i := 18) rfl))) (ty := (.array .long)) (by decide)
  have F_b1_entering : Fld Z h b1 "com/example/ostrakon/ostrakon/text/Run$Scratch" "entering" "[J" .null := D_b1 (Or.inr (hw _ (List.mem_of_getElem? (i := 20) rfl))) (ty := (.array .long)) (by decide)
  have F_b1_written : Fld Z h b1 "com/example/ostrakon/ostrakon/text/Run$Scratch" "written" "J" (.long (0 : Int64)) := D_b1 (Or.inl (hw _ (List.mem_of_getElem? (i := 27) rfl))) (ty := .long) (by decide)
  refine own_dup X B at_43 rfl (pc' := 44) rfl ?_
  refine own_iconst X B at_44 (v := (5 : Int32)) rfl (pc' := 45) rfl ?_
  have sz := own_sz X Z0
  have ltb := E_b1.lt
  refine own_callI X B (W := 1) rfl (hw _ (List.mem_of_getElem? (i := 10) rfl)) (hw _ (List.mem_of_getElem? (i := 11) rfl)) (hw _ (List.mem_of_getElem? (i := 12) rfl)) (hw _ (List.mem_of_getElem? (i := 9) rfl)) (by decide) (rm3 l Z a0 hw b1 (0 : Int64) h n0 (own_sz X Z0) (Nat.le_trans Z0 z_b1) E_b1 F_b1_reached F_b1_entering F_b1_written) (by decide) (by decide) (by decide) (by decide) rfl (argsL := [.int (5 : Int32)]) pd_3 rfl rfl (st := [.ref b1]) rfl (Nat.le_refl _) at_45 (pc' := 48) rfl (allS (Or.inr z_b1) all0) ?_
  rintro v T h X K ⟨rfl, r, t, z_r, z_t, n_r_t, F_b1_reached, F_b1_entering, F_b1_written, A_r, A_t⟩
  replace E_b1 := E_b1.keep K
  show own_H _ _ _ _ _ _ _ _ T (mkF m 48 #[.val (.long ka), .second, .val (.long kb), .second, .val (.int q), .val (.int (Int32.ofNat u)), .val (.int (Int32.ofNat v)), .val (.int (Int32.ofNat lo)), .val (.int (Int32.ofNat hi)), .unset] [.ref b1])
  have n_b1_r : b1 ≠ r := Nat.ne_of_lt (Nat.lt_of_lt_of_le ltb z_r)
  have n_b1_t : b1 ≠ t := Nat.ne_of_lt (Nat.lt_of_lt_of_le ltb z_t)
  have g_r := Nat.le_trans sz z_r
  have g_t := Nat.le_trans sz z_t
  refine own_astore X B at_48 rfl (L' := #[.val (.long ka), .second, .val (.long kb), .second, .val (.int q), .val (.int (Int32.ofNat u)), .val (.int (Int32.ofNat v)), .val (.int (Int32.ofNat lo)), .val (.int (Int32.ofNat hi)), .val (.ref b1)]) rfl (pc' := 50) rfl ?_
  refine own_aload X B at_50 rfl rfl (pc' := 52) rfl ?_
  refine own_getF X B (hw _ (List.mem_of_getElem? (i := 21) rfl)) F_b1_reached at_52 (pc' := 55) rfl fun T X => ?_
  refine own_iconst X B at_55 (v := (0 : Int32)) rfl (pc' := 56) rfl ?_
  refine own_lloadN X B at_56 rfl (pc' := 57) rfl ?_
  refine own_lastore X B A_r (i := 0) rfl (by decide) g_r (Or.inr (Nat.le_trans Z1 g_r)) at_57 (pc' := 58) rfl fun T h X K A_r => ?_
  replace E_b1 := E_b1.keep K
  replace F_b1_reached := F_b1_reached.keep K (ninS n_b1_r nin0)
  replace F_b1_entering := F_b1_entering.keep K (ninS n_b1_r nin0)
  replace F_b1_written := F_b1_written.keep K (ninS n_b1_r nin0)
  replace A_t := A_t.keep K (ninS (Ne.symm n_r_t) nin0)
  refine own_aload X B at_58 rfl rfl (pc' := 60) rfl ?_
  refine own_getF X B (hw _ (List.mem_of_getElem? (i := 21) rfl)) F_b1_reached at_60 (pc' := 63) rfl fun T X => ?_
  refine own_iconst X B at_63 (v := (1 : Int32)) rfl (pc' := 64) rfl ?_
  refine own_lloadN X B at_64 rfl (pc' := 65) rfl ?_
  refine own_lconst X B at_65 (v := (1 : Int64)) rfl (pc' := 66) rfl ?_
  refine own_ladd X B at_66 (pc' := 67) rfl ?_
  refine own_lastore X B A_r (i := 1) rfl (by decide) g_r (Or.inr (Nat.le_trans Z1 g_r)) at_67 (pc' := 68) rfl fun T h X K A_r => ?_
  replace E_b1 := E_b1.keep K
  replace F_b1_reached := F_b1_reached.keep K (ninS n_b1_r nin0)
  replace F_b1_entering := F_b1_entering.keep K (ninS n_b1_r nin0)
  replace F_b1_written := F_b1_written.keep K (ninS n_b1_r nin0)
  replace A_t := A_t.keep K (ninS (Ne.symm n_r_t) nin0)
  refine own_aload X B at_68 rfl rfl (pc' := 70) rfl ?_
  refine own_getF X B (hw _ (List.mem_of_getElem? (i := 21) rfl)) F_b1_reached at_70 (pc' := 73) rfl fun T X => ?_
  refine own_iconst X B at_73 (v := (2 : Int32)) rfl (pc' := 74) rfl ?_
  refine own_lloadN X B at_74 rfl (pc' := 75) rfl ?_
  refine own_litL X B (hw _ (List.mem_of_getElem? (i := 22) rfl)) at_75 (pc' := 78) rfl ?_
  refine own_ladd X B at_78 (pc' := 79) rfl ?_
  refine own_lastore X B A_r (i := 2) rfl (by decide) g_r (Or.inr (Nat.le_trans Z1 g_r)) at_79 (pc' := 80) rfl fun T h X K A_r => ?_
  replace E_b1 := E_b1.keep K
  replace F_b1_reached := F_b1_reached.keep K (ninS n_b1_r nin0)
  replace F_b1_entering := F_b1_entering.keep K (ninS n_b1_r nin0)
  replace F_b1_written := F_b1_written.keep K (ninS n_b1_r nin0)
  replace A_t := A_t.keep K (ninS (Ne.symm n_r_t) nin0)
  refine own_aload X B at_80 rfl rfl (pc' := 82) rfl ?_
  refine own_getF X B (hw _ (List.mem_of_getElem? (i := 21) rfl)) F_b1_reached at_82 (pc' := 85) rfl fun T X => ?_
  refine own_iconst X B at_85 (v := (3 : Int32)) rfl (pc' := 86) rfl ?_
  refine own_lloadN X B at_86 rfl (pc' := 87) rfl ?_
  refine own_litL X B (hw _ (List.mem_of_getElem? (i := 23) rfl)) at_87 (pc' := 90) rfl ?_
  refine own_ladd X B at_90 (pc' := 91) rfl ?_
  refine own_lastore X B A_r (i := 3) rfl (by decide) g_r (Or.inr (Nat.le_trans Z1 g_r)) at_91 (pc' := 92) rfl fun T h X K A_r => ?_
  replace E_b1 := E_b1.keep K
  replace F_b1_reached := F_b1_reached.keep K (ninS n_b1_r nin0)
  replace F_b1_entering := F_b1_entering.keep K (ninS n_b1_r nin0)
  replace F_b1_written := F_b1_written.keep K (ninS n_b1_r nin0)
  replace A_t := A_t.keep K (ninS (Ne.symm n_r_t) nin0)
  refine own_aload X B at_92 rfl rfl (pc' := 94) rfl ?_
  refine own_getF X B (hw _ (List.mem_of_getElem? (i := 21) rfl)) F_b1_reached at_94 (pc' := 97) rfl fun T X => ?_
  refine own_iconst X B at_97 (v := (4 : Int32)) rfl (pc' := 98) rfl ?_
  refine own_lloadN X B at_98 rfl (pc' := 99) rfl ?_
  refine own_litL X B (hw _ (List.mem_of_getElem? (i := 24) rfl)) at_99 (pc' := 102) rfl ?_
  refine own_ladd X B at_102 (pc' := 103) rfl ?_
  refine own_lastore X B A_r (i := 4) rfl (by decide) g_r (Or.inr (Nat.le_trans Z1 g_r)) at_103 (pc' := 104) rfl fun T h X K A_r => ?_
  replace E_b1 := E_b1.keep K
  replace F_b1_reached := F_b1_reached.keep K (ninS n_b1_r nin0)
  replace F_b1_entering := F_b1_entering.keep K (ninS n_b1_r nin0)
  replace F_b1_written := F_b1_written.keep K (ninS n_b1_r nin0)
  replace A_t := A_t.keep K (ninS (Ne.symm n_r_t) nin0)
  replace A_r := A_r.congr (g := own_fill ka) (fun i hi => by
    match i, hi with
    | 0, _ => exact (Int64.add_zero _).symm
    | 1, _ => rfl
    | 2, _ => rfl
    | 3, _ => rfl
    | 4, _ => rfl)
  refine own_aload X B at_104 rfl rfl (pc' := 106) rfl ?_
  refine own_getF X B (hw _ (List.mem_of_getElem? (i := 25) rfl)) F_b1_entering at_106 (pc' := 109) rfl fun T X => ?_
  refine own_iconst X B at_109 (v := (0 : Int32)) rfl (pc' := 110) rfl ?_
  refine own_lloadN X B at_110 rfl (pc' := 111) rfl ?_
  refine own_lastore X B A_t (i := 0) rfl (by decide) g_t (Or.inr (Nat.le_trans Z1 g_t)) at_111 (pc' := 112) rfl fun T h X K A_t => ?_
  replace E_b1 := E_b1.keep K
  replace F_b1_reached := F_b1_reached.keep K (ninS n_b1_t nin0)
  replace F_b1_entering := F_b1_entering.keep K (ninS n_b1_t nin0)
  replace F_b1_written := F_b1_written.keep K (ninS n_b1_t nin0)
  replace A_r := A_r.keep K (ninS n_r_t nin0)
  refine own_aload X B at_112 rfl rfl (pc' := 114) rfl ?_
  refine own_getF X B (hw _ (List.mem_of_getElem? (i := 25) rfl)) F_b1_entering at_114 (pc' := 117) rfl fun T X => ?_
  refine own_iconst X B at_117 (v := (1 : Int32)) rfl (pc' := 118) rfl ?_
  refine own_lloadN X B at_118 rfl (pc' := 119) rfl ?_
  refine own_lconst X B at_119 (v := (1 : Int64)) rfl (pc' := 120) rfl ?_
  refine own_ladd X B at_120 (pc' := 121) rfl ?_
  refine own_lastore X B A_t (i := 1) rfl (by decide) g_t (Or.inr (Nat.le_trans Z1 g_t)) at_121 (pc' := 122) rfl fun T h X K A_t => ?_
  replace E_b1 := E_b1.keep K
  replace F_b1_reached := F_b1_reached.keep K (ninS n_b1_t nin0)
  replace F_b1_entering := F_b1_entering.keep K (ninS n_b1_t nin0)
  replace F_b1_written := F_b1_written.keep K (ninS n_b1_t nin0)
  replace A_r := A_r.keep K (ninS n_r_t nin0)
  refine own_aload X B at_122 rfl rfl (pc' := 124) rfl ?_
  refine own_getF X B (hw _ (List.mem_of_getElem? (i := 25) rfl)) F_b1_entering at_124 (pc' := 127) rfl fun T X => ?_
  refine own_iconst X B at_127 (v := (2 : Int32)) rfl (pc' := 128) rfl ?_
  refine own_lloadN X B at_128 rfl (pc' := 129) rfl ?_
  refine own_litL X B (hw _ (List.mem_of_getElem? (i := 22) rfl)) at_129 (pc' := 132) rfl ?_
  refine own_ladd X B at_132 (pc' := 133) rfl ?_
  refine own_lastore X B A_t (i := 2) rfl (by decide) g_t (Or.inr (Nat.le_trans Z1 g_t)) at_133 (pc' := 134) rfl fun T h X K A_t => ?_
  replace E_b1 := E_b1.keep K
  replace F_b1_reached := F_b1_reached.keep K (ninS n_b1_t nin0)
  replace F_b1_entering := F_b1_entering.keep K (ninS n_b1_t nin0)
  replace F_b1_written := F_b1_written.keep K (ninS n_b1_t nin0)
  replace A_r := A_r.keep K (ninS n_r_t nin0)
  refine own_aload X B at_134 rfl rfl (pc' := 136) rfl ?_
  refine own_getF X B (hw _ (List.mem_of_getElem? (i := 25) rfl)) F_b1_entering at_136 (pc' := 139) rfl fun T X => ?_
  refine own_iconst X B at_139 (v := (3 : Int32)) rfl (pc' := 140) rfl ?_
  refine own_lloadN X B at_140 rfl (pc' := 141) rfl ?_
  refine own_litL X B (hw _ (List.mem_of_getElem? (i := 23) rfl)) at_141 (pc' := 144) rfl ?_
  refine own_ladd X B at_144 (pc' := 145) rfl ?_
  refine own_lastore X B A_t (i := 3) rfl (by decide) g_t (Or.inr (Nat.le_trans Z1 g_t)) at_145 (pc' := 146) rfl fun T h X K A_t => ?_
  replace E_b1 := E_b1.keep K
  replace F_b1_reached := F_b1_reached.keep K (ninS n_b1_t nin0)
  replace F_b1_entering := F_b1_entering.keep K (ninS n_b1_t nin0)
  replace F_b1_written := F_b1_written.keep K (ninS n_b1_t nin0)
  replace A_r := A_r.keep K (ninS n_r_t nin0)
  refine own_aload X B at_146 rfl rfl (pc' := 148) rfl ?_
  refine own_getF X B (hw _ (List.mem_of_getElem? (i := 25) rfl)) F_b1_entering at_148 (pc' := 151) rfl fun T X => ?_
  refine own_iconst X B at_151 (v := (4 : Int32)) rfl (pc' := 152) rfl ?_
  refine own_lloadN X B at_152 rfl (pc' := 153) rfl ?_
  refine own_litL X B (hw _ (List.mem_of_getElem? (i := 24) rfl)) at_153 (pc' := 156) rfl ?_
  refine own_ladd X B at_156 (pc' := 157) rfl ?_
  refine own_lastore X B A_t (i := 4) rfl (by decide) g_t (Or.inr (Nat.le_trans Z1 g_t)) at_157 (pc' := 158) rfl fun T h X K A_t => ?_
  replace E_b1 := E_b1.keep K
  replace F_b1_reached := F_b1_reached.keep K (ninS n_b1_t nin0)
  replace F_b1_entering := F_b1_entering.keep K (ninS n_b1_t nin0)
  replace F_b1_written := F_b1_written.keep K (ninS n_b1_t nin0)
  replace A_r := A_r.keep K (ninS n_r_t nin0)
  replace A_t := A_t.congr (g := own_fill kb) (fun i hi => by
    match i, hi with
    | 0, _ => exact (Int64.add_zero _).symm
    | 1, _ => rfl
    | 2, _ => rfl
    | 3, _ => rfl
    | 4, _ => rfl)
  refine own_aload X B at_158 rfl rfl (pc' := 160) rfl ?_
  refine own_iload X B at_160 rfl (pc' := 162) rfl ?_
  refine own_i2l X B at_162 (pc' := 163) rfl ?_
  refine own_bipush X B at_163 (v := (32 : Int32)) rfl (pc' := 165) rfl ?_
  refine own_lshl X B at_165 (pc' := 166) rfl ?_
  refine own_iload X B at_166 rfl (pc' := 168) rfl ?_
  refine own_i2l X B at_168 (pc' := 169) rfl ?_
  refine own_lor X B at_169 (pc' := 170) rfl ?_
  refine own_putF X B (hw _ (List.mem_of_getElem? (i := 26) rfl)) F_b1_written E_b1 (Or.inl (hw _ (List.mem_of_getElem? (i := 27) rfl))) (hw _ (List.mem_of_getElem? (i := 8) rfl)) (ty := .long) (by decide) rfl rfl (Nat.le_trans Z0 z_b1) (Or.inr z_b1) at_170 (pc' := 173) rfl fun T h X Wr K E_b1 F_b1_written => ?_
  replace F_b1_reached := F_b1_reached.other Wr (Or.inr (slot_ne (Or.inr (hw _ (List.mem_of_getElem? (i := 18) rfl))) (Or.inl (hw _ (List.mem_of_getElem? (i := 27) rfl))) (by decide) (t := (.array .long)) (t' := .long) (by decide) (by decide)))
  replace F_b1_entering := F_b1_entering.other Wr (Or.inr (slot_ne (Or.inr (hw _ (List.mem_of_getElem? (i := 20) rfl))) (Or.inl (hw _ (List.mem_of_getElem? (i := 27) rfl))) (by decide) (t := (.array .long)) (t' := .long) (by decide) (by decide)))
  replace A_r := A_r.keep K (ninS (Ne.symm n_b1_r) nin0)
  replace A_t := A_t.keep K (ninS (Ne.symm n_b1_t) nin0)
  refine own_aload X B at_173 rfl rfl (pc' := 175) rfl ?_
  refine own_callV X B (W := 0) (hw _ (List.mem_of_getElem? (i := 28) rfl)) (hw _ (List.mem_of_getElem? (i := 29) rfl)) (hw _ (List.mem_of_getElem? (i := 31) rfl)) (hw _ (List.mem_of_getElem? (i := 30) rfl)) (hw _ (List.mem_of_getElem? (i := 32) rfl)) (hw _ (List.mem_of_getElem? (i := 9) rfl)) (by decide) E_b1 (rm4 l Z a0 hw b1 r t ((((Int32.ofNat lo)).toInt64 <<< ((32 : Int32) &&& 0x3f).toInt64) ||| ((Int32.ofNat hi)).toInt64) (own_fill ka) (own_fill kb) lo hi h n0 (own_sz X Z0) (Nat.le_trans Z0 z_b1) g_r g_t n_b1_r n_b1_t n_r_t E_b1 F_b1_reached F_b1_entering F_b1_written A_r A_t (own_pack lo hi (by omega) hlh.2).1 (own_pack lo hi (by omega) hlh.2).2 hlh.1 (by omega)) (by decide) (by decide) (by decide) (by decide) rfl (argsL := []) pd_5 rfl rfl (st := []) rfl (Nat.le_refl _) at_175 (pc' := 178) rfl (allS (Or.inr z_b1) (allS (Or.inr (Nat.le_trans Z1 g_r)) (allS (Or.inr (Nat.le_trans Z1 g_t)) all0))) ?_
  rintro v T h X K ⟨rfl, F_b1_reached, F_b1_entering, F_b1_written, A_r, A_t⟩
  replace E_b1 := E_b1.keep K
  show own_H _ _ _ _ _ _ _ _ T (mkF m 178 #[.val (.long ka), .second, .val (.long kb), .second, .val (.int q), .val (.int (Int32.ofNat u)), .val (.int (Int32.ofNat v)), .val (.int (Int32.ofNat lo)), .val (.int (Int32.ofNat hi)), .val (.ref b1)] [])
  refine own_aload X B at_178 rfl rfl (pc' := 180) rfl ?_
  refine own_getF X B (hw _ (List.mem_of_getElem? (i := 26) rfl)) F_b1_written at_180 (pc' := 183) rfl fun T X => ?_
  refine own_lconst X B at_183 (v := (0 : Int64)) rfl (pc' := 184) rfl ?_
  refine own_lcmp X B at_184 (pc' := 185) rfl ?_
  refine own_ifF X B at_185 (teq (by decide)).2 (pc' := 188) rfl ?_
  refine own_aload X B at_188 rfl rfl (pc' := 190) rfl ?_
  refine own_iconst X B at_190 (v := (0 : Int32)) rfl (pc' := 191) rfl ?_
  refine own_iload X B at_191 rfl (pc' := 193) rfl ?_
  refine own_iload X B at_193 rfl (pc' := 195) rfl ?_
  refine own_lloadN X B at_195 rfl (pc' := 196) rfl ?_
  refine own_lloadN X B at_196 rfl (pc' := 197) rfl ?_
  refine own_callS X B (W := 0) (hw _ (List.mem_of_getElem? (i := 34) rfl)) (hw _ (List.mem_of_getElem? (i := 35) rfl)) (hw _ (List.mem_of_getElem? (i := 36) rfl)) (hw _ (List.mem_of_getElem? (i := 37) rfl)) (by decide) (rm5 l Z a0 hw b1 r t 0 lo hi ka kb h n0 (own_sz X Z0) F_b1_reached F_b1_entering A_r A_t (by decide) (by omega) hlh.2) (by decide) (by decide) (by decide) (by decide) rfl (argsL := [.ref b1, .int (0 : Int32), .int (Int32.ofNat lo), .int (Int32.ofNat hi), .long ka, .long kb]) pd_6 rfl rfl (st := []) rfl (Nat.le_refl _) at_197 (pc' := 200) rfl all0 ?_
  rintro v T h X K rfl
  replace E_b1 := E_b1.keep K
  replace F_b1_reached := F_b1_reached.keep K nin0
  replace F_b1_entering := F_b1_entering.keep K nin0
  replace F_b1_written := F_b1_written.keep K nin0
  replace A_r := A_r.keep K nin0
  replace A_t := A_t.keep K nin0
  show own_H _ _ _ _ _ _ _ _ T (mkF m 200 #[.val (.long ka), .second, .val (.long kb), .second, .val (.int q), .val (.int (Int32.ofNat u)), .val (.int (Int32.ofNat v)), .val (.int (Int32.ofNat lo)), .val (.int (Int32.ofNat hi)), .val (.ref b1)] [.int (1 : Int32)])
  refine own_ifF X B at_200 (feq (by decide : ¬ (1 : Int32) = 0)).1 (pc' := 203) rfl ?_
  refine own_aload X B at_203 rfl rfl (pc' := 205) rfl ?_
  refine own_iconst X B at_205 (v := (1 : Int32)) rfl (pc' := 206) rfl ?_
  refine own_iload X B at_206 rfl (pc' := 208) rfl ?_
  refine own_iload X B at_208 rfl (pc' := 210) rfl ?_
  refine own_lloadN X B at_210 rfl (pc' := 211) rfl ?_
  refine own_lloadN X B at_211 rfl (pc' := 212) rfl ?_
  refine own_callS X B (W := 0) (hw _ (List.mem_of_getElem? (i := 34) rfl)) (hw _ (List.mem_of_getElem? (i := 35) rfl)) (hw _ (List.mem_of_getElem? (i := 36) rfl)) (hw _ (List.mem_of_getElem? (i := 37) rfl)) (by decide) (rm5 l Z a0 hw b1 r t 1 lo hi ka kb h n0 (own_sz X Z0) F_b1_reached F_b1_entering A_r A_t (by decide) (by omega) hlh.2) (by decide) (by decide) (by decide) (by decide) rfl (argsL := [.ref b1, .int (1 : Int32), .int (Int32.ofNat lo), .int (Int32.ofNat hi), .long ka, .long kb]) pd_6 rfl rfl (st := []) rfl (Nat.le_refl _) at_212 (pc' := 215) rfl all0 ?_
  rintro v T h X K rfl
  replace E_b1 := E_b1.keep K
  replace F_b1_reached := F_b1_reached.keep K nin0
  replace F_b1_entering := F_b1_entering.keep K nin0
  replace F_b1_written := F_b1_written.keep K nin0
  replace A_r := A_r.keep K nin0
  replace A_t := A_t.keep K nin0
  show own_H _ _ _ _ _ _ _ _ T (mkF m 215 #[.val (.long ka), .second, .val (.long kb), .second, .val (.int q), .val (.int (Int32.ofNat u)), .val (.int (Int32.ofNat v)), .val (.int (Int32.ofNat lo)), .val (.int (Int32.ofNat hi)), .val (.ref b1)] [.int (1 : Int32)])
  refine own_ifF X B at_215 (feq (by decide : ¬ (1 : Int32) = 0)).1 (pc' := 218) rfl ?_
  refine own_aload X B at_218 rfl rfl (pc' := 220) rfl ?_
  refine own_iconst X B at_220 (v := (2 : Int32)) rfl (pc' := 221) rfl ?_
  refine own_iload X B at_221 rfl (pc' := 223) rfl ?_
  refine own_iload X B at_223 rfl (pc' := 225) rfl ?_
  refine own_lloadN X B at_225 rfl (pc' := 226) rfl ?_
  refine own_lloadN X B at_226 rfl (pc' := 227) rfl ?_
  refine own_callS X B (W := 0) (hw _ (List.mem_of_getElem? (i := 34) rfl)) (hw _ (List.mem_of_getElem? (i := 35) rfl)) (hw _ (List.mem_of_getElem? (i := 36) rfl)) (hw _ (List.mem_of_getElem? (i := 37) rfl)) (by decide) (rm5 l Z a0 hw b1 r t 2 lo hi ka kb h n0 (own_sz X Z0) F_b1_reached F_b1_entering A_r A_t (by decide) (by omega) hlh.2) (by decide) (by decide) (by decide) (by decide) rfl (argsL := [.ref b1, .int (2 : Int32), .int (Int32.ofNat lo), .int (Int32.ofNat hi), .long ka, .long kb]) pd_6 rfl rfl (st := []) rfl (Nat.le_refl _) at_227 (pc' := 230) rfl all0 ?_
  rintro v T h X K rfl
  replace E_b1 := E_b1.keep K
  replace F_b1_reached := F_b1_reached.keep K nin0
  replace F_b1_entering := F_b1_entering.keep K nin0
  replace F_b1_written := F_b1_written.keep K nin0
  replace A_r := A_r.keep K nin0
  replace A_t := A_t.keep K nin0
  show own_H _ _ _ _ _ _ _ _ T (mkF m 230 #[.val (.long ka), .second, .val (.long kb), .second, .val (.int q), .val (.int (Int32.ofNat u)), .val (.int (Int32.ofNat v)), .val (.int (Int32.ofNat lo)), .val (.int (Int32.ofNat hi)), .val (.ref b1)] [.int (1 : Int32)])
  refine own_ifF X B at_230 (feq (by decide : ¬ (1 : Int32) = 0)).1 (pc' := 233) rfl ?_
  refine own_aload X B at_233 rfl rfl (pc' := 235) rfl ?_
  refine own_iconst X B at_235 (v := (3 : Int32)) rfl (pc' := 236) rfl ?_
  refine own_iload X B at_236 rfl (pc' := 238) rfl ?_
  refine own_iload X B at_238 rfl (pc' := 240) rfl ?_
  refine own_lloadN X B at_240 rfl (pc' := 241) rfl ?_
  refine own_lloadN X B at_241 rfl (pc' := 242) rfl ?_
  refine own_callS X B (W := 0) (hw _ (List.mem_of_getElem? (i := 34) rfl)) (hw _ (List.mem_of_getElem? (i := 35) rfl)) (hw _ (List.mem_of_getElem? (i := 36) rfl)) (hw _ (List.mem_of_getElem? (i := 37) rfl)) (by decide) (rm5 l Z a0 hw b1 r t 3 lo hi ka kb h n0 (own_sz X Z0) F_b1_reached F_b1_entering A_r A_t (by decide) (by omega) hlh.2) (by decide) (by decide) (by decide) (by decide) rfl (argsL := [.ref b1, .int (3 : Int32), .int (Int32.ofNat lo), .int (Int32.ofNat hi), .long ka, .long kb]) pd_6 rfl rfl (st := []) rfl (Nat.le_refl _) at_242 (pc' := 245) rfl all0 ?_
  rintro v T h X K rfl
  replace E_b1 := E_b1.keep K
  replace F_b1_reached := F_b1_reached.keep K nin0
  replace F_b1_entering := F_b1_entering.keep K nin0
  replace F_b1_written := F_b1_written.keep K nin0
  replace A_r := A_r.keep K nin0
  replace A_t := A_t.keep K nin0
  show own_H _ _ _ _ _ _ _ _ T (mkF m 245 #[.val (.long ka), .second, .val (.long kb), .second, .val (.int q), .val (.int (Int32.ofNat u)), .val (.int (Int32.ofNat v)), .val (.int (Int32.ofNat lo)), .val (.int (Int32.ofNat hi)), .val (.ref b1)] [.int (1 : Int32)])
  refine own_ifF X B at_245 (feq (by decide : ¬ (1 : Int32) = 0)).1 (pc' := 248) rfl ?_
  refine own_aload X B at_248 rfl rfl (pc' := 250) rfl ?_
  refine own_iconst X B at_250 (v := (4 : Int32)) rfl (pc' := 251) rfl ?_
  refine own_iload X B at_251 rfl (pc' := 253) rfl ?_
  refine own_iload X B at_253 rfl (pc' := 255) rfl ?_
  refine own_lloadN X B at_255 rfl (pc' := 256) rfl ?_
  refine own_lloadN X B at_256 rfl (pc' := 257) rfl ?_
  refine own_callS X B (W := 0) (hw _ (List.mem_of_getElem? (i := 34) rfl)) (hw _ (List.mem_of_getElem? (i := 35) rfl)) (hw _ (List.mem_of_getElem? (i := 36) rfl)) (hw _ (List.mem_of_getElem? (i := 37) rfl)) (by decide) (rm5 l Z a0 hw b1 r t 4 lo hi ka kb h n0 (own_sz X Z0) F_b1_reached F_b1_entering A_r A_t (by decide) (by omega) hlh.2) (by decide) (by decide) (by decide) (by decide) rfl (argsL := [.ref b1, .int (4 : Int32), .int (Int32.ofNat lo), .int (Int32.ofNat hi), .long ka, .long kb]) pd_6 rfl rfl (st := []) rfl (Nat.le_refl _) at_257 (pc' := 260) rfl all0 ?_
  rintro v T h X K rfl
  replace E_b1 := E_b1.keep K
  replace F_b1_reached := F_b1_reached.keep K nin0
  replace F_b1_entering := F_b1_entering.keep K nin0
  replace F_b1_written := F_b1_written.keep K nin0
  replace A_r := A_r.keep K nin0
  replace A_t := A_t.keep K nin0
  show own_H _ _ _ _ _ _ _ _ T (mkF m 260 #[.val (.long ka), .second, .val (.long kb), .second, .val (.int q), .val (.int (Int32.ofNat u)), .val (.int (Int32.ofNat v)), .val (.int (Int32.ofNat lo)), .val (.int (Int32.ofNat hi)), .val (.ref b1)] [.int (1 : Int32)])
  refine own_ifF X B at_260 (feq (by decide : ¬ (1 : Int32) = 0)).1 (pc' := 263) rfl ?_
  refine own_iconst X B at_263 (v := (1 : Int32)) rfl (pc' := 264) rfl ?_
  refine own_goto X B at_264 (pc' := 268) (by decide) (by decide) ?_
  exact own_zret X B at_268 (by decide) (by decide) rfl rfl
set_option maxRecDepth 65536 in
set_option maxHeartbeats 40000000 in
theorem comes_1 {Post : Tables → Env → Array Value → State → Outcome → State → Prop} (hpost : ∀ tb e args s v u, (limb_1_1.after args s (.returned v) u = true ∧ limb_1_2.after args s (.returned v) u = true ∧ True) → FrameEnd s (.returned v) u (Jvm.fieldLocs frame_1_writes args s ++ Jvm.arrayLocs frame_1_arrays args s ++ Jvm.staticLocs frame_1_statics s) 16 128 → Post tb e args s (.returned v) u) :
    ArmFor flags0 classFile x code maxLocals ret World_1 tables_1 room_1 Calls_1 rest_1 Pre_1 Post := by
  intro l hfl _ _ p e ha hc hk s m args below hf hA hF happ hP
  obtain ⟨hcalls, hrest, hpre⟩ := hP
  obtain ⟨-, -, -, hnamed, -, -, -, hat⟩ := (Spec.applies_iff hf).mp happ
  obtain ⟨hg, hn⟩ := and_e (Cond.before_iff.mp (show (Jvm.Cond.and given_1 narrow_1).before args s = true from hpre))
  obtain ⟨g1, g2⟩ := and_e hg
  obtain ⟨g3, g4⟩ := and_e g2
  obtain ⟨g5, g6⟩ := and_e g4
  obtain ⟨w0, w1, w2, rfl⟩ : ∃ w0 w1 w2 : Value, args = #[w0, w1, w2] := by
    have hs : args.size = 3 := by simpa [Cond.value, given_1] using g1
    obtain ⟨L⟩ := args
    match L, hs with
    | [w0, w1, w2], _ => exact ⟨w0, w1, w2, rfl⟩
  have hw := fun d (hd : d ∈ tables_1) => atoms_spec (ws := Jvm.Cond.code x code maxLocals ret :: tables_1) hat d (List.mem_cons_of_mem _ hd)
  obtain ⟨i0, ei0⟩ := isL_v g3
  obtain rfl : w0 = (.long i0) := Option.some.inj ei0
  obtain ⟨i1, ei1⟩ := isL_v g5
  obtain rfl : w1 = (.long i1) := Option.some.inj ei1
  obtain ⟨i2, ei2⟩ := is_v g6
  obtain rfl : w2 = (.int i2) := Option.some.inj ei2
  obtain ⟨n, o, h1, h2, h3, _, L, rfl, ⟨N, -, rfl⟩, hq⟩ := rm0 l s _ hw i0 i1 i2 s.heap s.heap.size (Nat.le_refl _) (Nat.le_refl _) p e ha hc hk s m _ below hf ((Spec.applies_iff_loose hf).mp happ).1 ⟨rfl, State.Warmed39.refl s, rfl⟩ trivial
  refine ⟨n, _, h1, h2, h3, hpost _ _ _ _ _ _ ⟨Cond.after_iff.mpr rfl, Cond.after_iff.mpr (eq_i res_at (Term.int_eval (1)) rfl), trivial⟩ ⟨hq.1, hq.2.1, (hq.2.2.sift fun y hy => Or.inr (N y hy)).mono (by decide) (by decide)⟩⟩
theorem main_1_1 : Claimed_1_1 := comes_1 fun _ _ _ _ _ _ h hF => ⟨h.1, hF⟩
theorem main_1_2 : Claimed_1_2 := comes_1 fun _ _ _ _ _ _ h hF => ⟨h.2.1, hF⟩
end Jvm.Pilot.@@N@@
namespace Jvm.Pilot.@@N@@
open Jvm Jvm.ClassFile Sem Op Lib Jvm.Free Jvm.Stand Jvm.Pilot.@@N@@.Jvm.D
/-! MADE BY PROGRAM (witnessworld.py) out of the Statement's table words and the real class files: 12 classes; the members and pool entries that the words name. The judged class is class 1, her method 1. -/
namespace start1
open Jvm.ClassFile
def u (s : String) : CpInfo := .utf8 (stringToUtf16 s)
/-- a pool by its gaps: so many unusable entries, then the entry; so many at the end -/
def gap : Nat → List CpInfo → List CpInfo
  | 0, r => r
  | n + 1, r => .unusable :: gap n r
def poolList (es : List (Nat × CpInfo)) (last : Nat) : List CpInfo := es.foldr (fun e r => gap e.1 (e.2 :: r)) (gap last [])
def pool (es : List (Nat × CpInfo)) (last : Nat) : Array CpInfo := ⟨poolList es last⟩
def fileOf (pool : Array CpInfo) (this : Nat) (attrs : Array Attribute := #[]) (ms : Array MethodInfo := #[]) (fl : Nat := 33) (sup : Nat := 0) (ifs : Array Nat := #[]) (fds : Array FieldInfo := #[]) : ClassFile where
  minorVersion := 0
  majorVersion := 65
  constantPool := pool
  accessFlags := fl
  thisClass := this
  superClass := sup
  interfaces := ifs
  fields := fds
  methods := ms
  attributes := attrs
def plain (name : String) (sup : Option ClassId) : Class where
  name := name
  kind := .ordinary
  loader := none
  accessFlags := 33
  super := sup
  interfaces := #[]
  cf := none
  fields := #[]
  methods := #[]
  instanceTypes := #[]
  staticTypes := #[]
  resolved := #[]
  callSites := []
  init := .initialized
  statics := none
  mirror := none

def pool0 : Array CpInfo := pool [(5, u "<init>"), (0, u "()V"), (1, .class_ 10), (1, u "java/lang/Object")] 113

def k0c0 : Code := { maxStack := 0, maxLocals := 1, code := object_method_1_code, exceptionTable := #[], attributes := #[] }
def k0m0 : Method := { name := "<init>", desc := "()V", sig := { parameters := [], returnType := none }, accessFlags := 1, code := some k0c0 }
/-- java/lang/Object -/
def k0 : Class := { plain "java/lang/Object" none with
  accessFlags := 33
  interfaces := #[]
  cf := some (fileOf pool0 8 #[] #[{ accessFlags := 1, nameIndex := 5, descriptorIndex := 6, attributes := #[] }] 33 0 #[] #[])
  fields := #[]
  methods := #[k0m0]
  instanceTypes := #[]
  staticTypes := #[]
  resolved := Array.replicate 124 none
  statics := none }

def pool1 : Array CpInfo := pool [(2, .class_ 4), (1, u "java/lang/Object"), (0, u "<init>"), (0, u "()V"), (0, .methodref 8 9), (0, .class_ 10), (0, .nameAndType 11 12), (0, u "java/lang/Math"), (0, u "min"), (0, u "(II)I"), (0, .methodref 8 14), (0, .nameAndType 15 12), (0, u "max"), (0, .class_ 17), (0, u "com/example/ostrakon/ostrakon/text/Run$Scratch"), (0, .methodref 16 19), (0, .nameAndType 5 20), (0, u "(I)V"), (0, .fieldref 16 22), (0, .nameAndType 23 24), (0, u "reached"), (0, u "[J"), (0, .long 2), (1, .long 3), (1, .long 4), (1, .fieldref 16 32), (0, .nameAndType 33 24), (0, u "entering"), (0, .fieldref 16 35), (0, .nameAndType 36 37), (0, u "written"), (0, u "J"), (0, .methodref 16 39), (0, .nameAndType 40 6), (0, u "clear"), (0, .methodref 42 43), (0, .class_ 44), (0, .nameAndType 45 46), (0, u "com/example/ostrakon/ostrakon/text/ScratchClearPinLaw"), (0, u "kept"), (0, u "(Lcom/example/ostrakon/ostrakon/text/Run$Scratch;IIIJJ)Z"), (2, u "law"), (0, u "(JJI)Z")] 7

def k1m0 : Method := { name := "<init>", desc := "()V", sig := { parameters := [], returnType := none }, accessFlags := 2, code := none }
def k1c1 : Code := { maxStack := 8, maxLocals := 10, code := code, exceptionTable := #[], attributes := #[] }
def k1m1 : Method := { name := "law", desc := "(JJI)Z", sig := { parameters := [.long, .long, .int], returnType := some .boolean }, accessFlags := 9, code := some k1c1 }
def k1c2 : Code := { maxStack := 4, maxLocals := 13, code := method_3_code, exceptionTable := #[], attributes := #[] }
def k1m2 : Method := { name := "kept", desc := "(Lcom/example/ostrakon/ostrakon/text/Run$Scratch;IIIJJ)Z", sig := { parameters := [(.object "com/example/ostrakon/ostrakon/text/Run$Scratch"), .int, .int, .int, .long, .long], returnType := some .boolean }, accessFlags := 10, code := some k1c2 }
/-- com/example/ostrakon/ostrakon/text/ScratchClearPinLaw -/
def k1 : Class := { plain "com/example/ostrakon/ostrakon/text/ScratchClearPinLaw" (some 0) with
  accessFlags := 49
  interfaces := #[]
  cf := some (fileOf pool1 42 #[] #[{ accessFlags := 2, nameIndex := 5, descriptorIndex := 6, attributes := #[] }, { accessFlags := 9, nameIndex := 49, descriptorIndex := 50, attributes := #[] }, { accessFlags := 10, nameIndex := 45, descriptorIndex := 46, attributes := #[] }] 49 2 #[] #[])
  fields := #[]
  methods := #[k1m0, k1m1, k1m2]
  instanceTypes := #[]
  staticTypes := #[]
  resolved := Array.replicate 58 none
  statics := none }

def pool2 : Array CpInfo := pool [(1, .class_ 2), (0, u "java/lang/Math"), (1, .class_ 6), (1, u "java/lang/Object"), (0, u "<init>"), (0, u "()V"), (89, .class_ 100), (1, u "java/lang/Math$RandomNumberGeneratorHolder"), (71, u "negativeZeroFloatBits"), (0, u "J"), (2, u "negativeZeroDoubleBits"), (21, u "max"), (2, u "min"), (43, u "$assertionsDisabled"), (0, u "Z"), (88, u "(II)I"), (2, u "twoToTheDoubleScaleDown"), (0, u "D"), (4, u "twoToTheDoubleScaleUp"), (9, u "E"), (3, u "PI"), (2, u "TAU"), (2, u "DEGREES_TO_RADIANS"), (0, u "RADIANS_TO_DEGREES")] 94

def k2m0 : Method := { name := "<init>", desc := "()V", sig := { parameters := [], returnType := none }, accessFlags := 2, code := none }
def k2c1 : Code := { maxStack := 2, maxLocals := 2, code := jdk_29_method_65_code, exceptionTable := #[], attributes := #[] }
def k2m1 : Method := { name := "max", desc := "(II)I", sig := { parameters := [.int, .int], returnType := some .int }, accessFlags := 9, code := some k2c1 }
def k2c2 : Code := { maxStack := 2, maxLocals := 2, code := jdk_29_method_69_code, exceptionTable := #[], attributes := #[] }
def k2m2 : Method := { name := "min", desc := "(II)I", sig := { parameters := [.int, .int], returnType := some .int }, accessFlags := 9, code := some k2c2 }
/-- java/lang/Math -/
def k2 : Class := { plain "java/lang/Math" (some 0) with
  accessFlags := 49
  interfaces := #[]
  cf := some (fileOf pool2 1 #[.nestMembers #[98]] #[{ accessFlags := 2, nameIndex := 7, descriptorIndex := 8, attributes := #[] }, { accessFlags := 9, nameIndex := 198, descriptorIndex := 335, attributes := #[] }, { accessFlags := 9, nameIndex := 201, descriptorIndex := 335, attributes := #[] }] 49 4 #[] #[{ accessFlags := 25, nameIndex := 354, descriptorIndex := 339, attributes := #[] }, { accessFlags := 25, nameIndex := 358, descriptorIndex := 339, attributes := #[] }, { accessFlags := 25, nameIndex := 361, descriptorIndex := 339, attributes := #[] }, { accessFlags := 26, nameIndex := 364, descriptorIndex := 339, attributes := #[] }, { accessFlags := 26, nameIndex := 365, descriptorIndex := 339, attributes := #[] }, { accessFlags := 26, nameIndex := 172, descriptorIndex := 173, attributes := #[] }, { accessFlags := 26, nameIndex := 176, descriptorIndex := 173, attributes := #[] }, { accessFlags := 8, nameIndex := 344, descriptorIndex := 339, attributes := #[] }, { accessFlags := 8, nameIndex := 338, descriptorIndex := 339, attributes := #[] }, { accessFlags := 4120, nameIndex := 245, descriptorIndex := 246, attributes := #[] }])
  fields := #[{ name := "E", type := .double, accessFlags := 25, slot := 0, constantValue := 0 }, { name := "PI", type := .double, accessFlags := 25, slot := 1, constantValue := 0 }, { name := "TAU", type := .double, accessFlags := 25, slot := 2, constantValue := 0 }, { name := "DEGREES_TO_RADIANS", type := .double, accessFlags := 26, slot := 3, constantValue := 0 }, { name := "RADIANS_TO_DEGREES", type := .double, accessFlags := 26, slot := 4, constantValue := 0 }, { name := "negativeZeroFloatBits", type := .long, accessFlags := 26, slot := 5, constantValue := 0 }, { name := "negativeZeroDoubleBits", type := .long, accessFlags := 26, slot := 6, constantValue := 0 }, { name := "twoToTheDoubleScaleUp", type := .double, accessFlags := 8, slot := 7, constantValue := 0 }, { name := "twoToTheDoubleScaleDown", type := .double, accessFlags := 8, slot := 8, constantValue := 0 }, { name := "$assertionsDisabled", type := .boolean, accessFlags := 4120, slot := 9, constantValue := 0 }]
  methods := #[k2m0, k2m1, k2m2]
  instanceTypes := #[]
  staticTypes := #[.double, .double, .double, .double, .double, .long, .long, .double, .double, .boolean]
  resolved := Array.replicate 460 none
  statics := none }

def pool3 : Array CpInfo := pool [(1, .methodref 2 3), (0, .class_ 4), (0, .nameAndType 5 6), (0, u "java/lang/Object"), (0, u "<init>"), (0, u "()V"), (0, .fieldref 8 9), (0, .class_ 10), (0, .nameAndType 11 12), (0, u "com/example/ostrakon/ostrakon/text/Run$Scratch"), (0, u "reached"), (0, u "[J"), (0, .fieldref 8 14), (0, .nameAndType 15 12), (0, u "entering"), (0, .fieldref 8 17), (0, .nameAndType 18 19), (0, u "written"), (0, u "J"), (1, .class_ 23), (1, u "com/example/ostrakon/ostrakon/text/Run"), (2, u "(I)V"), (2, u "clear")] 8

def k3c0 : Code := { maxStack := 2, maxLocals := 2, code := prog_262_method_1_code, exceptionTable := #[], attributes := #[] }
def k3m0 : Method := { name := "<init>", desc := "(I)V", sig := { parameters := [.int], returnType := none }, accessFlags := 0, code := some k3c0 }
def k3c1 : Code := { maxStack := 4, maxLocals := 4, code := prog_262_method_2_code, exceptionTable := #[], attributes := #[] }
def k3m1 : Method := { name := "clear", desc := "()V", sig := { parameters := [], returnType := none }, accessFlags := 0, code := some k3c1 }
/-- com/example/ostrakon/ostrakon/text/Run$Scratch -/
def k3 : Class := { plain "com/example/ostrakon/ostrakon/text/Run$Scratch" (some 0) with
  accessFlags := 48
  interfaces := #[]
  cf := some (fileOf pool3 8 #[.nestHost 21] #[{ accessFlags := 0, nameIndex := 5, descriptorIndex := 26, attributes := #[] }, { accessFlags := 0, nameIndex := 29, descriptorIndex := 6, attributes := #[] }] 48 2 #[] #[{ accessFlags := 16, nameIndex := 11, descriptorIndex := 12, attributes := #[] }, { accessFlags := 16, nameIndex := 15, descriptorIndex := 12, attributes := #[] }, { accessFlags := 0, nameIndex := 18, descriptorIndex := 19, attributes := #[] }])
  fields := #[{ name := "reached", type := (.array .long), accessFlags := 16, slot := 0, constantValue := 0 }, { name := "entering", type := (.array .long), accessFlags := 16, slot := 1, constantValue := 0 }, { name := "written", type := .long, accessFlags := 0, slot := 2, constantValue := 0 }]
  methods := #[k3m0, k3m1]
  instanceTypes := #[(.array .long), (.array .long), .long]
  staticTypes := #[]
  resolved := Array.replicate 38 none
  statics := none }

def pool4 : Array CpInfo := pool [(1, u "java/lang/Cloneable"), (0, .class_ 1), (0, u "java/lang/Object"), (0, .class_ 3)] 3

/-- java/lang/Cloneable -/
def k4 : Class := { plain "java/lang/Cloneable" (some 0) with
  accessFlags := 1537
  interfaces := #[]
  cf := some (fileOf pool4 2 #[] #[] 1537 4 #[] #[])
  fields := #[]
  methods := #[]
  instanceTypes := #[]
  staticTypes := #[]
  resolved := Array.replicate 8 none
  statics := none }

def pool5 : Array CpInfo := pool [(1, u "java/io/Serializable"), (0, .class_ 1), (0, u "java/lang/Object"), (0, .class_ 3)] 3

/-- java/io/Serializable -/
def k5 : Class := { plain "java/io/Serializable" (some 0) with
  accessFlags := 1537
  interfaces := #[]
  cf := some (fileOf pool5 2 #[] #[] 1537 4 #[] #[])
  fields := #[]
  methods := #[]
  instanceTypes := #[]
  staticTypes := #[]
  resolved := Array.replicate 8 none
  statics := none }

/-- the primitive byte -/
def k6 : Class := { plain "byte" none with kind := .primitive 'B', accessFlags := 0x411 }
/-- [B -/
def k7 : Class := { plain "[B" (some 0) with kind := .array 6 .byte, interfaces := #[4, 5], accessFlags := 1041 }

/-- the primitive int -/
def k8 : Class := { plain "int" none with kind := .primitive 'I', accessFlags := 0x411 }
/-- [I -/
def k9 : Class := { plain "[I" (some 0) with kind := .array 8 .int, interfaces := #[4, 5], accessFlags := 1041 }

/-- the primitive long -/
def k10 : Class := { plain "long" none with kind := .primitive 'J', accessFlags := 0x411 }
/-- [J -/
def k11 : Class := { plain "[J" (some 0) with kind := .array 10 .long, interfaces := #[4, 5], accessFlags := 1041 }

def heap : Heap := #[]
def classes : Array Class := #[k0, k1, k2, k3, k4, k5, k6, k7, k8, k9, k10, k11]
def interned : List (Array UInt16 × Addr) := []
def slotsUsed : Nat := 0
def theMethod : MethodId := ⟨1, 1⟩
def args0 : Array Value := #[.long 5, .long 1, .int 9]
def aboutOver (below : List Frame) : State where
  vm := { classes := classes, interned := interned.toArray }
  heap := heap
  slotsUsed := slotsUsed
  threads := #[{ frames := .invoking theMethod args0 :: below }]
def below0 : List Frame := [.native { method := ⟨0, 0⟩, args := #[] }]
def about1 : State := aboutOver below0
def p0 : Program := .bare "" "" ""
def e0 : Env := launch0.env 0 0 0
theorem w_frames : about1.frames = Frame.invoking theMethod args0 :: below0 := rfl
set_option maxRecDepth 65536 in
theorem w_args : argsFit about1.vm theMethod args0 = true := by decide +kernel
set_option maxRecDepth 65536 in
theorem w_heap : heapFits about1 = true := by decide +kernel
set_option maxRecDepth 65536 in
theorem w_runnable : about1.curStatus? = some .runnable := by decide +kernel
set_option maxRecDepth 65536 in
theorem w_alone : about1.alone = true := by decide +kernel
set_option maxRecDepth 65536 in
theorem w_named : about1.methodNamed? x = some theMethod := by decide +kernel
set_option maxRecDepth 65536 in
theorem w_hears : about1.hears theMethod below0 = true := by decide +kernel
set_option maxRecDepth 65536 in
theorem w_ripe : about1.ripe theMethod args0 below0 = true := by decide +kernel
theorem w_running : about1.status = .running := rfl
set_option maxRecDepth 65536 in
theorem w_room : about1.hasRoom e0.platform room_1 = true :=
  launch0.hasRoom_least _ room_1 (by decide +kernel) (by decide +kernel) (by decide +kernel) (by decide +kernel) (by decide +kernel) (by decide +kernel)
theorem allAtoms_all (ts : List Jvm.Cond) (a : Array Jvm.Value) (st : Jvm.State) : (allAtoms ts).before a st = ts.all (fun c => c.before a st) := by
  induction ts with
  | nil => rfl
  | cons c t ih =>
    show (Jvm.Cond.and c (allAtoms t)).before a st = _
    rw [Jvm.Cond.before_and, ih, List.all_cons]
def words1 : List Jvm.Cond := Jvm.Cond.code x code maxLocals ret :: tables_1
/-- a 'code' word, met by the world's own term for the bytes: nothing is compared byte by byte -/
theorem code_word {y : MethodName} {bytes : ByteArray} {mx : Nat} {rt : Option FieldType} {a : Array Value} {s : State} {m : MethodId} {meth : Method} {c : Code} (h1 : s.methodNamed? y = some m) (h2 : s.vm.method? m = some meth) (h3 : meth.code = some c) (h4 : c.code = bytes)
    (h5 : (c.maxLocals == mx && c.exceptionTable.isEmpty && decide (c.maxStack ≤ mostOperands) && decide (meth.sig.returnType = rt) && !meth.locks && decide (parseMethodDescriptor y.desc = some meth.sig)) = true) : (Jvm.Cond.code y bytes mx rt).before a s = true := by
  simp only [Bool.and_eq_true, beq_iff_eq, Bool.not_eq_true', decide_eq_true_eq] at h5
  obtain ⟨⟨⟨⟨⟨g1, g2⟩, g3⟩, g4⟩, g5⟩, g6⟩ := h5
  simp [Cond.before, Cond.holds, Cond.value, h1, h2, h3, h4, g1, g2, g3, g4, g5, g6]
def isCode : Jvm.Cond → Bool
  | .code _ _ _ _ => true
  | _ => false
theorem all_split {L : List Jvm.Cond} {P : Jvm.Cond → Bool} (h1 : L.all (fun c => isCode c || P c) = true) (h2 : ∀ c ∈ L.filter isCode, P c = true) : L.all P = true := by
  refine List.all_eq_true.mpr fun c hc => ?_
  have h := List.all_eq_true.mp h1 c hc
  rcases Bool.eq_false_or_eq_true (isCode c) with hi | hi
  · exact h2 c (List.mem_filter.mpr ⟨hc, hi⟩)
  · simpa [hi] using h
set_option maxRecDepth 65536 in
theorem w_c0 : (Jvm.Cond.code x code maxLocals ret).before args0 about1 = true := code_word (m := ⟨1, 1⟩) (meth := k1m1) (c := k1c1) (by decide +kernel) rfl rfl rfl (by decide +kernel)
set_option maxRecDepth 65536 in
theorem w_c1 : (Jvm.Cond.code ({ cls := "java/lang/Math", name := "min", desc := "(II)I" } : Jvm.MethodName) jdk_29_method_69_code (2 : Nat) (Option.some Jvm.ClassFile.FieldType.int)).before args0 about1 = true := code_word (m := ⟨2, 2⟩) (meth := k2m2) (c := k2c2) (by decide +kernel) rfl rfl rfl (by decide +kernel)
set_option maxRecDepth 65536 in
theorem w_c2 : (Jvm.Cond.code ({ cls := "java/lang/Math", name := "max", desc := "(II)I" } : Jvm.MethodName) jdk_29_method_65_code (2 : Nat) (Option.some Jvm.ClassFile.FieldType.int)).before args0 about1 = true := code_word (m := ⟨2, 1⟩) (meth := k2m1) (c := k2c1) (by decide +kernel) rfl rfl rfl (by decide +kernel)
set_option maxRecDepth 65536 in
theorem w_c3 : (Jvm.Cond.code ({ cls := "com/example/ostrakon/ostrakon/text/Run$Scratch", name := "<init>", desc := "(I)V" } : Jvm.MethodName) prog_262_method_1_code (2 : Nat) (Option.none : Option Jvm.ClassFile.FieldType)).before args0 about1 = true := code_word (m := ⟨3, 0⟩) (meth := k3m0) (c := k3c0) (by decide +kernel) rfl rfl rfl (by decide +kernel)
set_option maxRecDepth 65536 in
theorem w_c4 : (Jvm.Cond.code ({ cls := "java/lang/Object", name := "<init>", desc := "()V" } : Jvm.MethodName) object_method_1_code (1 : Nat) (Option.none : Option Jvm.ClassFile.FieldType)).before args0 about1 = true := code_word (m := ⟨0, 0⟩) (meth := k0m0) (c := k0c0) (by decide +kernel) rfl rfl rfl (by decide +kernel)
set_option maxRecDepth 65536 in
theorem w_c5 : (Jvm.Cond.code ({ cls := "com/example/ostrakon/ostrakon/text/Run$Scratch", name := "clear", desc := "()V" } : Jvm.MethodName) prog_262_method_2_code (4 : Nat) (Option.none : Option Jvm.ClassFile.FieldType)).before args0 about1 = true := code_word (m := ⟨3, 1⟩) (meth := k3m1) (c := k3c1) (by decide +kernel) rfl rfl rfl (by decide +kernel)
set_option maxRecDepth 65536 in
theorem w_c6 : (Jvm.Cond.code ({ cls := "com/example/ostrakon/ostrakon/text/ScratchClearPinLaw", name := "kept", desc := "(Lcom/example/ostrakon/ostrakon/text/Run$Scratch;IIIJJ)Z" } : Jvm.MethodName) method_3_code (13 : Nat) (Option.some Jvm.ClassFile.FieldType.boolean)).before args0 about1 = true := code_word (m := ⟨1, 2⟩) (meth := k1m2) (c := k1c2) (by decide +kernel) rfl rfl rfl (by decide +kernel)
def codes1 : List Jvm.Cond := [Jvm.Cond.code x code maxLocals ret, Jvm.Cond.code ({ cls := "java/lang/Math", name := "min", desc := "(II)I" } : Jvm.MethodName) jdk_29_method_69_code (2 : Nat) (Option.some Jvm.ClassFile.FieldType.int), Jvm.Cond.code ({ cls := "java/lang/Math", name := "max", desc := "(II)I" } : Jvm.MethodName) jdk_29_method_65_code (2 : Nat) (Option.some Jvm.ClassFile.FieldType.int), Jvm.Cond.code ({ cls := "com/example/ostrakon/ostrakon/text/Run$Scratch", name := "<init>", desc := "(I)V" } : Jvm.MethodName) prog_262_method_1_code (2 : Nat) (Option.none : Option Jvm.ClassFile.FieldType), Jvm.Cond.code ({ cls := "java/lang/Object", name := "<init>", desc := "()V" } : Jvm.MethodName) object_method_1_code (1 : Nat) (Option.none : Option Jvm.ClassFile.FieldType), Jvm.Cond.code ({ cls := "com/example/ostrakon/ostrakon/text/Run$Scratch", name := "clear", desc := "()V" } : Jvm.MethodName) prog_262_method_2_code (4 : Nat) (Option.none : Option Jvm.ClassFile.FieldType), Jvm.Cond.code ({ cls := "com/example/ostrakon/ostrakon/text/ScratchClearPinLaw", name := "kept", desc := "(Lcom/example/ostrakon/ostrakon/text/Run$Scratch;IIIJJ)Z" } : Jvm.MethodName) method_3_code (13 : Nat) (Option.some Jvm.ClassFile.FieldType.boolean)]
set_option maxRecDepth 65536 in
theorem codes_eq : words1.filter isCode = codes1 := rfl
theorem w_codes : ∀ c ∈ words1.filter isCode, c.before args0 about1 = true := by
  rw [codes_eq]
  intro c hc
  simp only [codes1, List.mem_cons, List.not_mem_nil, or_false] at hc
  rcases hc with rfl | rfl | rfl | rfl | rfl | rfl | rfl
  · exact w_c0
  · exact w_c1
  · exact w_c2
  · exact w_c3
  · exact w_c4
  · exact w_c5
  · exact w_c6
set_option maxRecDepth 65536 in
theorem w_t1 : (words1.take 24).all (fun c => isCode c || c.before args0 about1) = true := by decide +kernel
set_option maxRecDepth 65536 in
theorem w_t2 : (words1.drop 24).all (fun c => isCode c || c.before args0 about1) = true := by decide +kernel
theorem w_tables : (allAtoms (Jvm.Cond.code x code maxLocals ret :: tables_1)).before args0 about1 = true := by
  rw [allAtoms_all]
  show words1.all (fun c => c.before args0 about1) = true
  refine all_split ?_ w_codes
  rw [← List.take_append_drop 24 words1, List.all_append, w_t1, w_t2]
  rfl
set_option maxRecDepth 65536 in
theorem w_case : (Jvm.Cond.and given_1 narrow_1).before args0 about1 = true := by decide +kernel
theorem w_applies : (headSpec (Jvm.Cond.code x code maxLocals ret :: tables_1) room_1).applies x e0.platform about1 = true :=
  (Spec.applies_iff w_frames).mpr ⟨w_running, w_runnable, w_alone, w_named, w_hears, w_ripe, w_room, w_tables⟩
theorem atStart : AtStart classFile x code maxLocals ret World_1 tables_1 room_1 Calls_1 rest_1 Pre_1 launch0 p0 e0 about1 theMethod args0 below0 :=
  ⟨lists_1, trivial, launch0.admits_env _ _ _, launch0.least_env, fairChoices_fair.cas, fairChoices_fair.clock, w_frames, w_args, w_heap, w_applies, trivial, trivial, w_case⟩
end start1
theorem witness_1 : WitnessClaimed_1 := ⟨start1.p0, start1.e0, start1.about1, start1.theMethod, start1.args0, start1.below0, start1.atStart⟩
end Jvm.Pilot.@@N@@
