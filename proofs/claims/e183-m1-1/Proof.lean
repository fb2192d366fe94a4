import JvmDerived
import JvmDerived.Pilot.@@N@@Statement
import JvmDerived.Pilot.@@N@@Code
set_option linter.unusedVariables false
set_option linter.unusedSimpArgs false
namespace Jvm.Pilot.@@N@@
open Jvm Jvm.ClassFile Sem Op Lib Jvm.Free Jvm.Stand Jvm.LawKit Jvm.RoadKit Bundle Jvm.Pilot.@@N@@.Jvm.D
section OwnKit
variable {p : Program} {l : Launch} {e : Env} {R : Room} {s : State} {m : MethodId} {args : Array Value} {below : List Frame} {meth : Method} {c : Code} {n0 : Nat} {h0 h h' : Heap} {ws : List Addr} {T T' : State} {C S C' S' : Nat} {Q : Option Value → Heap → Prop} {En : Outcome → State → List Loc → Prop} {Z : State} {a0 : Array Value} {bytes : ByteArray} {maxL : Nat} {own nm : String} {rt : Option FieldType} {L L' : Array Slot} {st : List Value} {pc pc' : Nat}
/-- where the run stands: heap h, nothing old written but cells in ws -/
def own_St (p : Program) (l : Launch) (e : Env) (R : Room) (s : State) (m : MethodId) (args : Array Value) (below : List Frame) (meth : Method) (c : Code) (n0 : Nat) (h0 : Heap) (ws : List Addr) (T : State) (h : Heap) (C S : Nat) : Prop :=
  ∃ locs, Stand p l e R s m args below meth c T locs C S ∧ Fr n0 locs ∧ T.heap = h ∧ Keep h0 h ws
/-- from this frame the invocation ends, and Q holds of what it returns and of the heap -/
def own_H (p : Program) (e : Env) (below : List Frame) (En : Outcome → State → List Loc → Prop) (n0 : Nat) (h0 : Heap) (ws : List Addr) (Q : Option Value → Heap → Prop) (T : State) (f : JFrame) : Prop :=
  ∃ (s₂ : State) (o : Outcome), Steps p.tables e below (T.setTop f) s₂ ∧ s₂.status = .running ∧ Ended s₂ below o ∧ ∃ v L, o = .returned v ∧ (Fr n0 L ∧ Keep h0 s₂.heap ws ∧ Q v s₂.heap) ∧ En o s₂ L
def own_F (s : State) (C S : Nat) (o : Outcome) (t : State) (L : List Loc) : Prop := FrameEnd s o t L C S
abbrev own_G (p : Program) (e : Env) (below : List Frame) (s : State) (n0 : Nat) (h0 : Heap) (ws : List Addr) (Q : Option Value → Heap → Prop) (C S : Nat) (T : State) (f : JFrame) : Prop := own_H p e below (own_F s C S) n0 h0 ws Q T f
def own_B (Z : State) (p : Program) (s : State) (m : MethodId) (meth : Method) (c : Code) (bytes : ByteArray) (maxL : Nat) (own nm : String) (rt : Option FieldType) : Prop :=
  p.tables.exec = Jvm.exec ∧ Z.Warmed39 s.vm ∧ c.code = bytes ∧ c.maxLocals = maxL ∧ s.vm.findClass own = some m.cls ∧ meth.name = nm ∧ meth.sig.returnType = rt ∧ meth.locks = false
/-- a contract -/
def own_C (l : Launch) (Z : State) (y : MethodName) (bytes : ByteArray) (maxL : Nat) (rt : Option FieldType) (cws : List Jvm.Cond) (rm : Room) (as : Array Value) (h0 : Heap) (n0 : Nat) (ws : List Addr) (Q : Option Value → Heap → Prop) (C S : Nat) : Prop :=
  MetFree l y (head1 (Jvm.Cond.code y bytes maxL rt :: cws) rm) (fun a U => a = as ∧ Z.Warmed39 U.vm ∧ U.heap = h0) (fun _ _ _ _ _ => True) (fun _ U o U' => ∃ v L, o = .returned v ∧ (Fr n0 L ∧ Keep h0 U'.heap ws ∧ Q v U'.heap) ∧ FrameEnd U o U' L C S)
theorem own_enter {y : MethodName} {cws : List Jvm.Cond} {rm : Room} {as : Array Value} {L0 : Array Slot} (hpl : plainFor y = true) (hef : ∀ m, entryFrame m as maxL = mkF m 0 L0 [])
    (body : ∀ p e s m below meth c T, own_B Z p s m meth c bytes maxL y.cls y.name rt → own_St p l e rm s m as below meth c n0 h0 ws T h0 0 0 → own_G p e below s n0 h0 ws Q C S T (mkF m 0 L0 [])) :
    own_C l Z y bytes maxL rt cws rm as h0 n0 ws Q C S := by
  show MetFree l y _ _ _ _
  refine MetFree.of_bodySF hpl hisR ?_
  intro p e s m args below meth c s₁ Bd hml0 hP hK
  obtain ⟨rfl, hZ, hh⟩ := hP
  have X0 : Stand p l e rm s m _ below meth c s₁ [] 0 0 := Stand.of_body Bd
  have e0 : s₁.heap = h0 := by rw [← hh, Bd.state]; rfl
  obtain ⟨s₂, o, h1, h2, h3, h4⟩ := body p e s m below meth c s₁ ⟨Bd.exec, hZ, Bd.bytes, hml0, findClass_of_methodNamed Bd.named, (name_of_methodNamed Bd.named Bd.method).1, Bd.returns, Bd.notSynchronized⟩ ⟨[], X0, Fr.nil n0, e0, Keep.refl _ _⟩
  exact ⟨s₂, o, castTop (hef m) h1, h2, h3, h4⟩
theorem own_st (X : own_St p l e R s m args below meth c n0 h0 ws T h C S) {f f' : JFrame} (k : own_H p e below En n0 h0 ws Q T f') (hst : ∀ t, At T m c below → Steps p.tables e below (T.setTop f') t → Steps p.tables e below (T.setTop f) t) : own_H p e below En n0 h0 ws Q T f := by
  obtain ⟨s₂, o, h1, h2⟩ := k
  obtain ⟨locs, Y, -⟩ := X
  exact ⟨s₂, o, hst _ Y.here h1, h2⟩
theorem own_tr {f f' : JFrame} (hst : ∀ t, Steps p.tables e below (T'.setTop f') t → Steps p.tables e below (T.setTop f) t) (k : own_H p e below En n0 h0 ws Q T' f') : own_H p e below En n0 h0 ws Q T f := by
  obtain ⟨s₂, o, h1, h2⟩ := k
  exact ⟨s₂, o, hst _ h1, h2⟩
theorem own_ret (X : own_St p l e R s m args below meth c n0 h0 ws T h C S) (B : own_B Z p s m meth c bytes maxL own nm rt) (hc : C ≤ C') (hs : S ≤ S') {v : Option Value} {f : JFrame} (hv : rt = none → v = none)
    (hst : ∀ locs fs, Stand p l e R s m args below meth c T locs C S → (∀ (f : JFrame) (acts : List Action), f.method = m → f.locked = none → f.entered = [] → (doReturn e (T.setTop f) acts v).1 = T.setFrames fs) → Steps p.tables e below (T.setTop f) (T.setFrames fs)) (q : Q v h) : own_G p e below s n0 h0 ws Q C' S' T f := by
  obtain ⟨locs, Y, N, e, K⟩ := X
  obtain ⟨-, -, -, -, -, -, hret, hlk⟩ := B
  obtain ⟨fs, hr, hrun, hended, hW, hsame⟩ := Y.leave (v := v) (fun h => hv (hret.symm.trans h)) hlk
  subst e
  exact ⟨_, _, hst locs fs Y hr, hrun, hended, _, _, rfl, ⟨N, K, q⟩, ⟨_, rfl⟩, hW, hsame.mono hc hs⟩
theorem own_iloadN (X : own_St p l e R s m args below meth c n0 h0 ws T h C S) (B : own_B Z p s m meth c bytes maxL own nm rt) {i : Fin 4} {v : Int32} (hd : decode bytes pc = .ok (.iload_n i, 1)) (hl : L[i.val]? = some (.val (.int v))) (hp : pc + 1 = pc') (k : own_H p e below En n0 h0 ws Q T (mkF m pc' L (.int v :: st))) : own_H p e below En n0 h0 ws Q T (mkF m pc L st) := by
  subst hp
  exact own_st X k (fun t A q => XS.iloadN A B.1 rfl (hb B.2.2.1 hd) hl q)
theorem own_iload (X : own_St p l e R s m args below meth c n0 h0 ws T h C S) (B : own_B Z p s m meth c bytes maxL own nm rt) {i : Nat} {v : Int32} (hd : decode bytes pc = .ok (.iload i, 2)) (hl : L[i]? = some (.val (.int v))) (hp : pc + 2 = pc') (k : own_H p e below En n0 h0 ws Q T (mkF m pc' L (.int v :: st))) : own_H p e below En n0 h0 ws Q T (mkF m pc L st) := by
  subst hp
  exact own_st X k (fun t A q => XS.iload A B.1 rfl (hb B.2.2.1 hd) hl q)
theorem own_istoreN (X : own_St p l e R s m args below meth c n0 h0 ws T h C S) (B : own_B Z p s m meth c bytes maxL own nm rt) {i : Fin 4} {v : Int32} (hd : decode bytes pc = .ok (.istore_n i, 1)) (hl : storeLocals L i.val (.int v) = some L') (hp : pc + 1 = pc') (k : own_H p e below En n0 h0 ws Q T (mkF m pc' L' st)) : own_H p e below En n0 h0 ws Q T (mkF m pc L (.int v :: st)) := by
  subst hp
  exact own_st X k (fun t A q => XS.istoreN A B.1 rfl (hb B.2.2.1 hd) rfl hl q)
theorem own_istore (X : own_St p l e R s m args below meth c n0 h0 ws T h C S) (B : own_B Z p s m meth c bytes maxL own nm rt) {i : Nat} {v : Int32} (hd : decode bytes pc = .ok (.istore i, 2)) (hl : storeLocals L i (.int v) = some L') (hp : pc + 2 = pc') (k : own_H p e below En n0 h0 ws Q T (mkF m pc' L' st)) : own_H p e below En n0 h0 ws Q T (mkF m pc L (.int v :: st)) := by
  subst hp
  exact own_st X k (fun t A q => XS.istore A B.1 rfl (hb B.2.2.1 hd) rfl hl q)
theorem own_lloadN (X : own_St p l e R s m args below meth c n0 h0 ws T h C S) (B : own_B Z p s m meth c bytes maxL own nm rt) {i : Fin 4} {v : Int64} (hd : decode bytes pc = .ok (.lload_n i, 1)) (hl : L[i.val]? = some (.val (.long v))) (hp : pc + 1 = pc') (k : own_H p e below En n0 h0 ws Q T (mkF m pc' L (.long v :: st))) : own_H p e below En n0 h0 ws Q T (mkF m pc L st) := by
  subst hp
  exact own_st X k (fun t A q => XS.lloadN A B.1 rfl (hb B.2.2.1 hd) hl q)
theorem own_lload (X : own_St p l e R s m args below meth c n0 h0 ws T h C S) (B : own_B Z p s m meth c bytes maxL own nm rt) {i : Nat} {v : Int64} (hd : decode bytes pc = .ok (.lload i, 2)) (hl : L[i]? = some (.val (.long v))) (hp : pc + 2 = pc') (k : own_H p e below En n0 h0 ws Q T (mkF m pc' L (.long v :: st))) : own_H p e below En n0 h0 ws Q T (mkF m pc L st) := by
  subst hp
  exact own_st X k (fun t A q => XS.lload A B.1 rfl (hb B.2.2.1 hd) hl q)
theorem own_lstoreN (X : own_St p l e R s m args below meth c n0 h0 ws T h C S) (B : own_B Z p s m meth c bytes maxL own nm rt) {i : Fin 4} {v : Int64} (hd : decode bytes pc = .ok (.lstore_n i, 1)) (hl : storeLocals L i.val (.long v) = some L') (hp : pc + 1 = pc') (k : own_H p e below En n0 h0 ws Q T (mkF m pc' L' st)) : own_H p e below En n0 h0 ws Q T (mkF m pc L (.long v :: st)) := by
  subst hp
  exact own_st X k (fun t A q => XS.lstoreN A B.1 rfl (hb B.2.2.1 hd) rfl hl q)
theorem own_lstore (X : own_St p l e R s m args below meth c n0 h0 ws T h C S) (B : own_B Z p s m meth c bytes maxL own nm rt) {i : Nat} {v : Int64} (hd : decode bytes pc = .ok (.lstore i, 2)) (hl : storeLocals L i (.long v) = some L') (hp : pc + 2 = pc') (k : own_H p e below En n0 h0 ws Q T (mkF m pc' L' st)) : own_H p e below En n0 h0 ws Q T (mkF m pc L (.long v :: st)) := by
  subst hp
  exact own_st X k (fun t A q => XS.lstore A B.1 rfl (hb B.2.2.1 hd) rfl hl q)
theorem own_aloadN (X : own_St p l e R s m args below meth c n0 h0 ws T h C S) (B : own_B Z p s m meth c bytes maxL own nm rt) {i : Fin 4} {v : Value} (hd : decode bytes pc = .ok (.aload_n i, 1)) (hl : L[i.val]? = some (.val v)) (hv : v.isRef = true) (hp : pc + 1 = pc') (k : own_H p e below En n0 h0 ws Q T (mkF m pc' L (v :: st))) : own_H p e below En n0 h0 ws Q T (mkF m pc L st) := by
  subst hp
  exact own_st X k (fun t A q => XS.aloadN A B.1 rfl (hb B.2.2.1 hd) hl hv q)
theorem own_aload (X : own_St p l e R s m args below meth c n0 h0 ws T h C S) (B : own_B Z p s m meth c bytes maxL own nm rt) {i : Nat} {v : Value} (hd : decode bytes pc = .ok (.aload i, 2)) (hl : L[i]? = some (.val v)) (hv : v.isRef = true) (hp : pc + 2 = pc') (k : own_H p e below En n0 h0 ws Q T (mkF m pc' L (v :: st))) : own_H p e below En n0 h0 ws Q T (mkF m pc L st) := by
  subst hp
  exact own_st X k (fun t A q => XS.aload A B.1 rfl (hb B.2.2.1 hd) hl hv q)
theorem own_astoreN (X : own_St p l e R s m args below meth c n0 h0 ws T h C S) (B : own_B Z p s m meth c bytes maxL own nm rt) {i : Fin 4} {v : Value} (hd : decode bytes pc = .ok (.astore_n i, 1)) (hv : v.isRef = true) (hl : storeLocals L i.val v = some L') (hp : pc + 1 = pc') (k : own_H p e below En n0 h0 ws Q T (mkF m pc' L' st)) : own_H p e below En n0 h0 ws Q T (mkF m pc L (v :: st)) := by
  subst hp
  exact own_st X k (fun t A q => XS.astoreN A B.1 rfl (hb B.2.2.1 hd) rfl hv hl q)
theorem own_astore (X : own_St p l e R s m args below meth c n0 h0 ws T h C S) (B : own_B Z p s m meth c bytes maxL own nm rt) {i : Nat} {v : Value} (hd : decode bytes pc = .ok (.astore i, 2)) (hv : v.isRef = true) (hl : storeLocals L i v = some L') (hp : pc + 2 = pc') (k : own_H p e below En n0 h0 ws Q T (mkF m pc' L' st)) : own_H p e below En n0 h0 ws Q T (mkF m pc L (v :: st)) := by
  subst hp
  exact own_st X k (fun t A q => XS.astore A B.1 rfl (hb B.2.2.1 hd) rfl hv hl q)
theorem own_iconst (X : own_St p l e R s m args below meth c n0 h0 ws T h C S) (B : own_B Z p s m meth c bytes maxL own nm rt) {i : Int} {v : Int32} (hd : decode bytes pc = .ok (.iconst i, 1)) (hv : Int32.ofInt i = v) (hp : pc + 1 = pc') (k : own_H p e below En n0 h0 ws Q T (mkF m pc' L (.int v :: st))) : own_H p e below En n0 h0 ws Q T (mkF m pc L st) := by
  subst hp hv
  exact own_st X k (fun t A q => XS.iconst A B.1 rfl (hb B.2.2.1 hd)  q)
theorem own_bipush (X : own_St p l e R s m args below meth c n0 h0 ws T h C S) (B : own_B Z p s m meth c bytes maxL own nm rt) {i : Int} {v : Int32} (hd : decode bytes pc = .ok (.bipush i, 2)) (hv : (Int8.ofInt i).toInt32 = v) (hp : pc + 2 = pc') (k : own_H p e below En n0 h0 ws Q T (mkF m pc' L (.int v :: st))) : own_H p e below En n0 h0 ws Q T (mkF m pc L st) := by
  subst hp hv
  exact own_st X k (fun t A q => XS.bipush A B.1 rfl (hb B.2.2.1 hd)  q)
theorem own_sipush (X : own_St p l e R s m args below meth c n0 h0 ws T h C S) (B : own_B Z p s m meth c bytes maxL own nm rt) {i : Int} {v : Int32} (hd : decode bytes pc = .ok (.sipush i, 3)) (hv : (Int16.ofInt i).toInt32 = v) (hp : pc + 3 = pc') (k : own_H p e below En n0 h0 ws Q T (mkF m pc' L (.int v :: st))) : own_H p e below En n0 h0 ws Q T (mkF m pc L st) := by
  subst hp hv
  exact own_st X k (fun t A q => XS.sipush A B.1 rfl (hb B.2.2.1 hd)  q)
theorem own_lconst (X : own_St p l e R s m args below meth c n0 h0 ws T h C S) (B : own_B Z p s m meth c bytes maxL own nm rt) {i : Fin 2} {v : Int64} (hd : decode bytes pc = .ok (.lconst i, 1)) (hv : Int64.ofNat i = v) (hp : pc + 1 = pc') (k : own_H p e below En n0 h0 ws Q T (mkF m pc' L (.long v :: st))) : own_H p e below En n0 h0 ws Q T (mkF m pc L st) := by
  subst hp hv
  exact own_st X k (fun t A q => XS.lconst A B.1 rfl (hb B.2.2.1 hd)  q)
theorem own_aconst_null (X : own_St p l e R s m args below meth c n0 h0 ws T h C S) (B : own_B Z p s m meth c bytes maxL own nm rt)  (hd : decode bytes pc = .ok (.aconst_null, 1)) (hp : pc + 1 = pc') (k : own_H p e below En n0 h0 ws Q T (mkF m pc' L (.null :: st))) : own_H p e below En n0 h0 ws Q T (mkF m pc L st) := by
  subst hp
  exact own_st X k (fun t A q => XS.aconstNull A B.1 rfl (hb B.2.2.1 hd)  q)
theorem own_iadd (X : own_St p l e R s m args below meth c n0 h0 ws T h C S) (B : own_B Z p s m meth c bytes maxL own nm rt) {x y : Int32} (hd : decode bytes pc = .ok (.iadd, 1)) (hp : pc + 1 = pc') (k : own_H p e below En n0 h0 ws Q T (mkF m pc' L (.int (x + y) :: st))) : own_H p e below En n0 h0 ws Q T (mkF m pc L (.int y :: .int x :: st)) := by
  subst hp
  exact own_st X k (fun t A q => XS.iadd A B.1 rfl (hb B.2.2.1 hd) rfl q)
theorem own_ladd (X : own_St p l e R s m args below meth c n0 h0 ws T h C S) (B : own_B Z p s m meth c bytes maxL own nm rt) {x y : Int64} (hd : decode bytes pc = .ok (.ladd, 1)) (hp : pc + 1 = pc') (k : own_H p e below En n0 h0 ws Q T (mkF m pc' L (.long (x + y) :: st))) : own_H p e below En n0 h0 ws Q T (mkF m pc L (.long y :: .long x :: st)) := by
  subst hp
  exact own_st X k (fun t A q => XS.ladd A B.1 rfl (hb B.2.2.1 hd) rfl q)
theorem own_isub (X : own_St p l e R s m args below meth c n0 h0 ws T h C S) (B : own_B Z p s m meth c bytes maxL own nm rt) {x y : Int32} (hd : decode bytes pc = .ok (.isub, 1)) (hp : pc + 1 = pc') (k : own_H p e below En n0 h0 ws Q T (mkF m pc' L (.int (x - y) :: st))) : own_H p e below En n0 h0 ws Q T (mkF m pc L (.int y :: .int x :: st)) := by
  subst hp
  exact own_st X k (fun t A q => XS.isub A B.1 rfl (hb B.2.2.1 hd) rfl q)
theorem own_lsub (X : own_St p l e R s m args below meth c n0 h0 ws T h C S) (B : own_B Z p s m meth c bytes maxL own nm rt) {x y : Int64} (hd : decode bytes pc = .ok (.lsub, 1)) (hp : pc + 1 = pc') (k : own_H p e below En n0 h0 ws Q T (mkF m pc' L (.long (x - y) :: st))) : own_H p e below En n0 h0 ws Q T (mkF m pc L (.long y :: .long x :: st)) := by
  subst hp
  exact own_st X k (fun t A q => XS.lsub A B.1 rfl (hb B.2.2.1 hd) rfl q)
theorem own_imul (X : own_St p l e R s m args below meth c n0 h0 ws T h C S) (B : own_B Z p s m meth c bytes maxL own nm rt) {x y : Int32} (hd : decode bytes pc = .ok (.imul, 1)) (hp : pc + 1 = pc') (k : own_H p e below En n0 h0 ws Q T (mkF m pc' L (.int (x * y) :: st))) : own_H p e below En n0 h0 ws Q T (mkF m pc L (.int y :: .int x :: st)) := by
  subst hp
  exact own_st X k (fun t A q => XS.imul A B.1 rfl (hb B.2.2.1 hd) rfl q)
theorem own_lmul (X : own_St p l e R s m args below meth c n0 h0 ws T h C S) (B : own_B Z p s m meth c bytes maxL own nm rt) {x y : Int64} (hd : decode bytes pc = .ok (.lmul, 1)) (hp : pc + 1 = pc') (k : own_H p e below En n0 h0 ws Q T (mkF m pc' L (.long (x * y) :: st))) : own_H p e below En n0 h0 ws Q T (mkF m pc L (.long y :: .long x :: st)) := by
  subst hp
  exact own_st X k (fun t A q => XS.lmul A B.1 rfl (hb B.2.2.1 hd) rfl q)
theorem own_iand (X : own_St p l e R s m args below meth c n0 h0 ws T h C S) (B : own_B Z p s m meth c bytes maxL own nm rt) {x y : Int32} (hd : decode bytes pc = .ok (.iand, 1)) (hp : pc + 1 = pc') (k : own_H p e below En n0 h0 ws Q T (mkF m pc' L (.int (x &&& y) :: st))) : own_H p e below En n0 h0 ws Q T (mkF m pc L (.int y :: .int x :: st)) := by
  subst hp
  exact own_st X k (fun t A q => XS.iand A B.1 rfl (hb B.2.2.1 hd) rfl q)
theorem own_land (X : own_St p l e R s m args below meth c n0 h0 ws T h C S) (B : own_B Z p s m meth c bytes maxL own nm rt) {x y : Int64} (hd : decode bytes pc = .ok (.land, 1)) (hp : pc + 1 = pc') (k : own_H p e below En n0 h0 ws Q T (mkF m pc' L (.long (x &&& y) :: st))) : own_H p e below En n0 h0 ws Q T (mkF m pc L (.long y :: .long x :: st)) := by
  subst hp
  exact own_st X k (fun t A q => XS.land A B.1 rfl (hb B.2.2.1 hd) rfl q)
theorem own_ior (X : own_St p l e R s m args below meth c n0 h0 ws T h C S) (B : own_B Z p s m meth c bytes maxL own nm rt) {x y : Int32} (hd : decode bytes pc = .ok (.ior, 1)) (hp : pc + 1 = pc') (k : own_H p e below En n0 h0 ws Q T (mkF m pc' L (.int (x ||| y) :: st))) : own_H p e below En n0 h0 ws Q T (mkF m pc L (.int y :: .int x :: st)) := by
  subst hp
  exact own_st X k (fun t A q => XS.ior A B.1 rfl (hb B.2.2.1 hd) rfl q)
theorem own_lor (X : own_St p l e R s m args below meth c n0 h0 ws T h C S) (B : own_B Z p s m meth c bytes maxL own nm rt) {x y : Int64} (hd : decode bytes pc = .ok (.lor, 1)) (hp : pc + 1 = pc') (k : own_H p e below En n0 h0 ws Q T (mkF m pc' L (.long (x ||| y) :: st))) : own_H p e below En n0 h0 ws Q T (mkF m pc L (.long y :: .long x :: st)) := by
  subst hp
  exact own_st X k (fun t A q => XS.lor A B.1 rfl (hb B.2.2.1 hd) rfl q)
theorem own_ixor (X : own_St p l e R s m args below meth c n0 h0 ws T h C S) (B : own_B Z p s m meth c bytes maxL own nm rt) {x y : Int32} (hd : decode bytes pc = .ok (.ixor, 1)) (hp : pc + 1 = pc') (k : own_H p e below En n0 h0 ws Q T (mkF m pc' L (.int (x ^^^ y) :: st))) : own_H p e below En n0 h0 ws Q T (mkF m pc L (.int y :: .int x :: st)) := by
  subst hp
  exact own_st X k (fun t A q => XS.ixor A B.1 rfl (hb B.2.2.1 hd) rfl q)
theorem own_lxor (X : own_St p l e R s m args below meth c n0 h0 ws T h C S) (B : own_B Z p s m meth c bytes maxL own nm rt) {x y : Int64} (hd : decode bytes pc = .ok (.lxor, 1)) (hp : pc + 1 = pc') (k : own_H p e below En n0 h0 ws Q T (mkF m pc' L (.long (x ^^^ y) :: st))) : own_H p e below En n0 h0 ws Q T (mkF m pc L (.long y :: .long x :: st)) := by
  subst hp
  exact own_st X k (fun t A q => XS.lxor A B.1 rfl (hb B.2.2.1 hd) rfl q)
theorem own_ishl (X : own_St p l e R s m args below meth c n0 h0 ws T h C S) (B : own_B Z p s m meth c bytes maxL own nm rt) {x y : Int32} (hd : decode bytes pc = .ok (.ishl, 1)) (hp : pc + 1 = pc') (k : own_H p e below En n0 h0 ws Q T (mkF m pc' L (.int (x <<< (y &&& 31)) :: st))) : own_H p e below En n0 h0 ws Q T (mkF m pc L (.int y :: .int x :: st)) := by
  subst hp
  exact own_st X k (fun t A q => XS.ishl A B.1 rfl (hb B.2.2.1 hd) rfl q)
theorem own_ishr (X : own_St p l e R s m args below meth c n0 h0 ws T h C S) (B : own_B Z p s m meth c bytes maxL own nm rt) {x y : Int32} (hd : decode bytes pc = .ok (.ishr, 1)) (hp : pc + 1 = pc') (k : own_H p e below En n0 h0 ws Q T (mkF m pc' L (.int (x >>> (y &&& 31)) :: st))) : own_H p e below En n0 h0 ws Q T (mkF m pc L (.int y :: .int x :: st)) := by
  subst hp
  exact own_st X k (fun t A q => XS.ishr A B.1 rfl (hb B.2.2.1 hd) rfl q)
theorem own_iushr (X : own_St p l e R s m args below meth c n0 h0 ws T h C S) (B : own_B Z p s m meth c bytes maxL own nm rt) {x y : Int32} (hd : decode bytes pc = .ok (.iushr, 1)) (hp : pc + 1 = pc') (k : own_H p e below En n0 h0 ws Q T (mkF m pc' L (.int ((x.toUInt32 >>> (y &&& 31).toUInt32).toInt32) :: st))) : own_H p e below En n0 h0 ws Q T (mkF m pc L (.int y :: .int x :: st)) := by
  subst hp
  exact own_st X k (fun t A q => XS.iushr A B.1 rfl (hb B.2.2.1 hd) rfl q)
theorem own_lshl (X : own_St p l e R s m args below meth c n0 h0 ws T h C S) (B : own_B Z p s m meth c bytes maxL own nm rt) {x : Int64} {y : Int32} (hd : decode bytes pc = .ok (.lshl, 1)) (hp : pc + 1 = pc') (k : own_H p e below En n0 h0 ws Q T (mkF m pc' L (.long (x <<< (y &&& 0x3f).toInt64) :: st))) : own_H p e below En n0 h0 ws Q T (mkF m pc L (.int y :: .long x :: st)) := by
  subst hp
  exact own_st X k (fun t A q => XS.lshl A B.1 rfl (hb B.2.2.1 hd) rfl q)
theorem own_lshr (X : own_St p l e R s m args below meth c n0 h0 ws T h C S) (B : own_B Z p s m meth c bytes maxL own nm rt) {x : Int64} {y : Int32} (hd : decode bytes pc = .ok (.lshr, 1)) (hp : pc + 1 = pc') (k : own_H p e below En n0 h0 ws Q T (mkF m pc' L (.long (x >>> (y &&& 0x3f).toInt64) :: st))) : own_H p e below En n0 h0 ws Q T (mkF m pc L (.int y :: .long x :: st)) := by
  subst hp
  exact own_st X k (fun t A q => XS.lshr A B.1 rfl (hb B.2.2.1 hd) rfl q)
theorem own_lushr (X : own_St p l e R s m args below meth c n0 h0 ws T h C S) (B : own_B Z p s m meth c bytes maxL own nm rt) {x : Int64} {y : Int32} (hd : decode bytes pc = .ok (.lushr, 1)) (hp : pc + 1 = pc') (k : own_H p e below En n0 h0 ws Q T (mkF m pc' L (.long ((x.toUInt64 >>> (y &&& 0x3f).toInt64.toUInt64).toInt64) :: st))) : own_H p e below En n0 h0 ws Q T (mkF m pc L (.int y :: .long x :: st)) := by
  subst hp
  exact own_st X k (fun t A q => XS.lushr A B.1 rfl (hb B.2.2.1 hd) rfl q)
theorem own_idiv (X : own_St p l e R s m args below meth c n0 h0 ws T h C S) (B : own_B Z p s m meth c bytes maxL own nm rt) {x y : Int32} (hd : decode bytes pc = .ok (.idiv, 1)) (hy : y ≠ 0) (hp : pc + 1 = pc') (k : own_H p e below En n0 h0 ws Q T (mkF m pc' L (.int (x / y) :: st))) : own_H p e below En n0 h0 ws Q T (mkF m pc L (.int y :: .int x :: st)) := by
  subst hp
  exact own_st X k (fun t A q => XS.idiv A B.1 rfl (hb B.2.2.1 hd) rfl hy q)
theorem own_irem (X : own_St p l e R s m args below meth c n0 h0 ws T h C S) (B : own_B Z p s m meth c bytes maxL own nm rt) {x y : Int32} (hd : decode bytes pc = .ok (.irem, 1)) (hy : y ≠ 0) (hp : pc + 1 = pc') (k : own_H p e below En n0 h0 ws Q T (mkF m pc' L (.int (x % y) :: st))) : own_H p e below En n0 h0 ws Q T (mkF m pc L (.int y :: .int x :: st)) := by
  subst hp
  obtain ⟨locs, Y, -⟩ := X
  exact own_tr (fun t q => iremM Y B.1 (g := mkF m pc L (.int y :: .int x :: st)) rfl (hb B.2.2.1 hd) rfl hy q) k
theorem own_lrem (X : own_St p l e R s m args below meth c n0 h0 ws T h C S) (B : own_B Z p s m meth c bytes maxL own nm rt) {x y : Int64} (hd : decode bytes pc = .ok (.lrem, 1)) (hy : y ≠ 0) (hp : pc + 1 = pc') (k : own_H p e below En n0 h0 ws Q T (mkF m pc' L (.long (x % y) :: st))) : own_H p e below En n0 h0 ws Q T (mkF m pc L (.long y :: .long x :: st)) := by
  subst hp
  exact own_st X k (fun t A q => XS.lrem A B.1 rfl (hb B.2.2.1 hd) rfl hy (by rw [lrem_mod x y]; exact q))
theorem own_i2l (X : own_St p l e R s m args below meth c n0 h0 ws T h C S) (B : own_B Z p s m meth c bytes maxL own nm rt) {x : Int32} (hd : decode bytes pc = .ok (.i2l, 1)) (hp : pc + 1 = pc') (k : own_H p e below En n0 h0 ws Q T (mkF m pc' L (.long x.toInt64 :: st))) : own_H p e below En n0 h0 ws Q T (mkF m pc L (.int x :: st)) := by
  subst hp
  exact own_st X k (fun t A q => XS.i2l A B.1 rfl (hb B.2.2.1 hd) rfl q)
theorem own_l2i (X : own_St p l e R s m args below meth c n0 h0 ws T h C S) (B : own_B Z p s m meth c bytes maxL own nm rt) {x : Int64} (hd : decode bytes pc = .ok (.l2i, 1)) (hp : pc + 1 = pc') (k : own_H p e below En n0 h0 ws Q T (mkF m pc' L (.int x.toInt32 :: st))) : own_H p e below En n0 h0 ws Q T (mkF m pc L (.long x :: st)) := by
  subst hp
  exact own_st X k (fun t A q => XS.l2i A B.1 rfl (hb B.2.2.1 hd) rfl q)
theorem own_lcmp (X : own_St p l e R s m args below meth c n0 h0 ws T h C S) (B : own_B Z p s m meth c bytes maxL own nm rt) {x y : Int64} (hd : decode bytes pc = .ok (.lcmp, 1)) (hp : pc + 1 = pc') (k : own_H p e below En n0 h0 ws Q T (mkF m pc' L (.int (lcmpW x y) :: st))) : own_H p e below En n0 h0 ws Q T (mkF m pc L (.long y :: .long x :: st)) := by
  subst hp
  exact own_st X k (fun t A q => XS.lcmp A B.1 rfl (hb B.2.2.1 hd) rfl q)
theorem own_dup (X : own_St p l e R s m args below meth c n0 h0 ws T h C S) (B : own_B Z p s m meth c bytes maxL own nm rt) {v : Value} (hd : decode bytes pc = .ok (.dup, 1)) (hv : v.category = 1) (hp : pc + 1 = pc') (k : own_H p e below En n0 h0 ws Q T (mkF m pc' L (v :: v :: st))) : own_H p e below En n0 h0 ws Q T (mkF m pc L (v :: st)) := by
  subst hp
  exact own_st X k (fun t A q => XS.dup A B.1 rfl (hb B.2.2.1 hd) rfl hv q)
theorem own_pop (X : own_St p l e R s m args below meth c n0 h0 ws T h C S) (B : own_B Z p s m meth c bytes maxL own nm rt) {v : Value} (hd : decode bytes pc = .ok (.pop, 1)) (hv : v.category = 1) (hp : pc + 1 = pc') (k : own_H p e below En n0 h0 ws Q T (mkF m pc' L st)) : own_H p e below En n0 h0 ws Q T (mkF m pc L (v :: st)) := by
  subst hp
  exact own_st X k (fun t A q => XS.pop A B.1 rfl (hb B.2.2.1 hd) rfl hv q)
theorem own_dup2 (X : own_St p l e R s m args below meth c n0 h0 ws T h C S) (B : own_B Z p s m meth c bytes maxL own nm rt) {x y : Value} (hd : decode bytes pc = .ok (.dup2, 1)) (hx' : x.category = 1) (hy' : y.category = 1) (hp : pc + 1 = pc') (k : own_H p e below En n0 h0 ws Q T (mkF m pc' L (x :: y :: x :: y :: st))) : own_H p e below En n0 h0 ws Q T (mkF m pc L (x :: y :: st)) := by
  subst hp
  exact own_st X k (fun t A q => Jvm.Free.XT.dup2 A B.1 rfl (hb B.2.2.1 hd) rfl hx' hy' q)
theorem own_iinc (X : own_St p l e R s m args below meth c n0 h0 ws T h C S) (B : own_B Z p s m meth c bytes maxL own nm rt) {i : Nat} {cst : Int} {x : Int32} (hd : decode bytes pc = .ok (.iinc i cst, 3)) (hl : L[i]? = some (.val (.int x))) (hl' : storeLocals L i (.int (x + Int32.ofInt cst)) = some L') (hp : pc + 3 = pc') (k : own_H p e below En n0 h0 ws Q T (mkF m pc' L' st)) : own_H p e below En n0 h0 ws Q T (mkF m pc L st) := by
  subst hp
  exact own_st X k (fun t A q => XS.iinc A B.1 rfl (hb B.2.2.1 hd) hl hl' q)
theorem own_goto (X : own_St p l e R s m args below meth c n0 h0 ws T h C S) (B : own_B Z p s m meth c bytes maxL own nm rt) {o : Int} (hd : decode bytes pc = .ok (.goto o, 3)) (ho : 0 ≤ (pc : Int) + o) (hp : ((pc : Int) + o).toNat = pc') (k : own_H p e below En n0 h0 ws Q T (mkF m pc' L st)) : own_H p e below En n0 h0 ws Q T (mkF m pc L st) := own_st X k (fun t A q => XS.goto A B.1 rfl rfl (hb B.2.2.1 hd) ho hp q)
theorem own_icmpT (X : own_St p l e R s m args below meth c n0 h0 ws T h C S) (B : own_B Z p s m meth c bytes maxL own nm rt) {cd : ClassFile.Cond} {o : Int} {x y : Int32} (hd : decode bytes pc = .ok (.if_icmp cd o, 3)) (hc : if_icmp.holds cd x y = true) (ho : 0 ≤ (pc : Int) + o) (hp : ((pc : Int) + o).toNat = pc') (k : own_H p e below En n0 h0 ws Q T (mkF m pc' L st)) : own_H p e below En n0 h0 ws Q T (mkF m pc L (.int y :: .int x :: st)) := own_st X k (fun t A q => XS.icmpYes A B.1 rfl rfl (hb B.2.2.1 hd) rfl hc ho hp q)
theorem own_icmpF (X : own_St p l e R s m args below meth c n0 h0 ws T h C S) (B : own_B Z p s m meth c bytes maxL own nm rt) {cd : ClassFile.Cond} {o : Int} {x y : Int32} (hd : decode bytes pc = .ok (.if_icmp cd o, 3)) (hc : if_icmp.holds cd x y = false) (hp : pc + 3 = pc') (k : own_H p e below En n0 h0 ws Q T (mkF m pc' L st)) : own_H p e below En n0 h0 ws Q T (mkF m pc L (.int y :: .int x :: st)) := by
  subst hp
  exact own_st X k (fun t A q => XS.icmpNo A B.1 rfl (hb B.2.2.1 hd) rfl hc q)
theorem own_ifT (X : own_St p l e R s m args below meth c n0 h0 ws T h C S) (B : own_B Z p s m meth c bytes maxL own nm rt) {cd : ClassFile.Cond} {o : Int} {x : Int32} (hd : decode bytes pc = .ok (.ifCond cd o, 3)) (hc : if_icmp.holds cd x 0 = true) (ho : 0 ≤ (pc : Int) + o) (hp : ((pc : Int) + o).toNat = pc') (k : own_H p e below En n0 h0 ws Q T (mkF m pc' L st)) : own_H p e below En n0 h0 ws Q T (mkF m pc L (.int x :: st)) := own_st X k (fun t A q => XS.ifYes A B.1 rfl rfl (hb B.2.2.1 hd) rfl ((if0 _ _).trans hc) ho hp q)
theorem own_ifF (X : own_St p l e R s m args below meth c n0 h0 ws T h C S) (B : own_B Z p s m meth c bytes maxL own nm rt) {cd : ClassFile.Cond} {o : Int} {x : Int32} (hd : decode bytes pc = .ok (.ifCond cd o, 3)) (hc : if_icmp.holds cd x 0 = false) (hp : pc + 3 = pc') (k : own_H p e below En n0 h0 ws Q T (mkF m pc' L st)) : own_H p e below En n0 h0 ws Q T (mkF m pc L (.int x :: st)) := by
  subst hp
  exact own_st X k (fun t A q => XS.ifNo A B.1 rfl (hb B.2.2.1 hd) rfl ((if0 _ _).trans hc) q)
theorem own_ifnullT (X : own_St p l e R s m args below meth c n0 h0 ws T h C S) (B : own_B Z p s m meth c bytes maxL own nm rt) {o : Int} (hd : decode bytes pc = .ok (.ifnull o, 3)) (ho : 0 ≤ (pc : Int) + o) (hp : ((pc : Int) + o).toNat = pc') (k : own_H p e below En n0 h0 ws Q T (mkF m pc' L st)) : own_H p e below En n0 h0 ws Q T (mkF m pc L (.null :: st)) := own_st X k (fun t A q => XS.ifnullYes A B.1 rfl rfl (hb B.2.2.1 hd) rfl ho hp q)
theorem own_ifnullF (X : own_St p l e R s m args below meth c n0 h0 ws T h C S) (B : own_B Z p s m meth c bytes maxL own nm rt) {o : Int} {b : Addr} (hd : decode bytes pc = .ok (.ifnull o, 3)) (hp : pc + 3 = pc') (k : own_H p e below En n0 h0 ws Q T (mkF m pc' L st)) : own_H p e below En n0 h0 ws Q T (mkF m pc L (.ref b :: st)) := by
  subst hp
  exact own_st X k (fun t A q => XS.ifnullNo A B.1 rfl (hb B.2.2.1 hd) rfl q)
theorem own_ifnonnullT (X : own_St p l e R s m args below meth c n0 h0 ws T h C S) (B : own_B Z p s m meth c bytes maxL own nm rt) {o : Int} {b : Addr} (hd : decode bytes pc = .ok (.ifnonnull o, 3)) (ho : 0 ≤ (pc : Int) + o) (hp : ((pc : Int) + o).toNat = pc') (k : own_H p e below En n0 h0 ws Q T (mkF m pc' L st)) : own_H p e below En n0 h0 ws Q T (mkF m pc L (.ref b :: st)) := own_st X k (fun t A q => XS.ifnonnullYes A B.1 rfl rfl (hb B.2.2.1 hd) rfl ho hp q)
theorem own_ifnonnullF (X : own_St p l e R s m args below meth c n0 h0 ws T h C S) (B : own_B Z p s m meth c bytes maxL own nm rt) {o : Int} (hd : decode bytes pc = .ok (.ifnonnull o, 3)) (hp : pc + 3 = pc') (k : own_H p e below En n0 h0 ws Q T (mkF m pc' L st)) : own_H p e below En n0 h0 ws Q T (mkF m pc L (.null :: st)) := by
  subst hp
  exact own_st X k (fun t A q => XS.ifnonnullNo A B.1 rfl (hb B.2.2.1 hd) rfl q)
theorem own_acmpSame (X : own_St p l e R s m args below meth c n0 h0 ws T h C S) (B : own_B Z p s m meth c bytes maxL own nm rt) {o : Int} {a : Addr} (hd : decode bytes pc = .ok (.if_acmp .eq o, 3)) (ho : 0 ≤ (pc : Int) + o) (hp : ((pc : Int) + o).toNat = pc') (k : own_H p e below En n0 h0 ws Q T (mkF m pc' L st)) : own_H p e below En n0 h0 ws Q T (mkF m pc L (.ref a :: .ref a :: st)) := by
  obtain ⟨locs, Y, -⟩ := X
  exact own_tr (fun t q => Jvm.RoadKit.acmp (g := mkF m pc L (.ref a :: .ref a :: st)) Y B.1 rfl rfl rfl (pc0 := pc) (pc' := pc') (same := true) rfl (hb B.2.2.1 hd) rfl (decide_eq_true rfl) ho (hp.symm.trans (if_pos (show acV ACond.eq true = true from rfl)).symm) q) k
theorem own_iret (X : own_St p l e R s m args below meth c n0 h0 ws T h C S) (B : own_B Z p s m meth c bytes maxL own nm (some .int)) {x : Int32} (hd : decode bytes pc = .ok (.ireturn, 1)) (hc : C ≤ C') (hs : S ≤ S') (q : Q (some (.int x)) h) : own_G p e below s n0 h0 ws Q C' S' T (mkF m pc L (.int x :: st)) :=
  own_ret X B hc hs (v := some (.int x)) (fun h => by cases h) (fun locs fs Y hr => retOut Y B.1 B.2.2.2.2.2.2.1 rfl (Or.inl ⟨rfl, Or.inl rfl, _, rfl⟩) (hb B.2.2.1 hd) hr) q
theorem own_zret (X : own_St p l e R s m args below meth c n0 h0 ws T h C S) (B : own_B Z p s m meth c bytes maxL own nm (some .boolean)) {x : Int32} (hd : decode bytes pc = .ok (.ireturn, 1)) (hc : C ≤ C') (hs : S ≤ S') (hx : x &&& 1 = x) (q : Q (some (.int x)) h) : own_G p e below s n0 h0 ws Q C' S' T (mkF m pc L (.int x :: st)) :=
  own_ret X B hc hs (v := some (.int x)) (fun h => by cases h) (fun locs fs Y hr => retN Y B.1 (t := .boolean) B.2.2.2.2.2.2.1 (by simp) (hb B.2.2.1 hd) (by show ∀ (f : JFrame) (acts : List Action), f.method = m → f.locked = none → f.entered = [] → (doReturn e (T.setTop f) acts (some (.int (x &&& 1)))).1 = T.setFrames fs; rw [hx]; exact hr)) q
theorem own_lret (X : own_St p l e R s m args below meth c n0 h0 ws T h C S) (B : own_B Z p s m meth c bytes maxL own nm (some .long)) {x : Int64} (hd : decode bytes pc = .ok (.lreturn, 1)) (hc : C ≤ C') (hs : S ≤ S') (q : Q (some (.long x)) h) : own_G p e below s n0 h0 ws Q C' S' T (mkF m pc L (.long x :: st)) :=
  own_ret X B hc hs (v := some (.long x)) (fun h => by cases h) (fun locs fs Y hr => retOut Y B.1 B.2.2.2.2.2.2.1 rfl (Or.inr (Or.inl ⟨rfl, rfl, _, rfl⟩)) (hb B.2.2.1 hd) hr) q
theorem own_aret (X : own_St p l e R s m args below meth c n0 h0 ws T h C S) {ft : FieldType} (B : own_B Z p s m meth c bytes maxL own nm (some ft)) {x : Value} (hd : decode bytes pc = .ok (.areturn, 1)) (hft : ft.isReference = true) (hx : x.isRef = true) (hnx : narrow ft x = x) (hc : C ≤ C') (hs : S ≤ S') (q : Q (some x) h) : own_G p e below s n0 h0 ws Q C' S' T (mkF m pc L (x :: st)) :=
  own_ret X B hc hs (v := some x) (fun h => by cases h) (fun locs fs Y hr => retOut Y B.1 B.2.2.2.2.2.2.1 hnx (Or.inr (Or.inr (Or.inr (Or.inr ⟨rfl, hft, hx⟩)))) (hb B.2.2.1 hd) hr) q
theorem own_vret (X : own_St p l e R s m args below meth c n0 h0 ws T h C S) (B : own_B Z p s m meth c bytes maxL own nm none) (hd : decode bytes pc = .ok (.return_, 1)) (hc : C ≤ C') (hs : S ≤ S') (q : Q none h) : own_G p e below s n0 h0 ws Q C' S' T (mkF m pc L []) :=
  own_ret X B hc hs (v := none) (fun _ => rfl) (fun locs fs Y hr => Y.returnOut B.1 B.2.2.2.2.2.2.1 (hb B.2.2.1 hd) hr) q
/-! fields, objects -/
theorem own_lit (X : own_St p l e R s m args below meth c n0 h0 ws T h C S) (B : own_B Z p s m meth c bytes maxL own nm rt) {i : Nat} {v : Int32} (w : (Jvm.Cond.constant own i v).before a0 Z = true) (hd : decode bytes pc = .ok (.ldc i, 2)) (hp : pc + 2 = pc') (k : own_H p e below En n0 h0 ws Q T (mkF m pc' L (.int v :: st))) : own_H p e below En n0 h0 ws Q T (mkF m pc L st) := by
  subst hp
  obtain ⟨locs, Y, -⟩ := X
  exact own_tr (Y.ldcInt B.1 B.2.2.2.2.1 (mvT B.2.1 w) (g := mkF m pc L st) rfl (hb B.2.2.1 hd)) k
theorem own_litL (X : own_St p l e R s m args below meth c n0 h0 ws T h C S) (B : own_B Z p s m meth c bytes maxL own nm rt) {i : Nat} {v : Int64} (w : (Jvm.Cond.constantLong own i v).before a0 Z = true) (hd : decode bytes pc = .ok (.ldc2_w i, 3)) (hp : pc + 3 = pc') (k : own_H p e below En n0 h0 ws Q T (mkF m pc' L (.long v :: st))) : own_H p e below En n0 h0 ws Q T (mkF m pc L st) := by
  subst hp
  obtain ⟨locs, Y, -⟩ := X
  exact own_tr (Y.ldc2Long B.1 B.2.2.2.2.1 (mvT B.2.1 w) (g := mkF m pc L st) rfl (hb B.2.2.1 hd)) k
theorem own_getF (X : own_St p l e R s m args below meth c n0 h0 ws T h C S) (B : own_B Z p s m meth c bytes maxL own nm rt) {i : Nat} {O n d : String} (w : (Jvm.Cond.fieldLink own i O n d).before a0 Z = true) {a : Addr} {v : Value} (F : Fld Z h a O n d v) (hd : decode bytes pc = .ok (.getfield i, 3)) (hp : pc + 3 = pc')
    (k : ∀ T, own_St p l e R s m args below meth c n0 h0 ws T h C S → own_H p e below En n0 h0 ws Q T (mkF m pc' L (v :: st))) : own_H p e below En n0 h0 ws Q T (mkF m pc L (.ref a :: st)) := by
  subst hp
  obtain ⟨locs, Y, N, e, K⟩ := X
  obtain ⟨T1, Y1, e1, st1⟩ := getF Y B.1 B.2.1 B.2.2.2.2.1 (host := "") (Or.inl w) Via.refl e F (g := mkF m pc L (.ref a :: st)) rfl rfl (hb B.2.2.1 hd)
  exact own_tr st1 (k T1 ⟨locs, Y1, N, e1, K⟩)
theorem own_getN (X : own_St p l e R s m args below meth c n0 h0 ws T h C S) (B : own_B Z p s m meth c bytes maxL own nm rt) {i : Nat} {O n d host : String} (w : (Jvm.Cond.fieldLinkNest own i O n d host).before a0 Z = true) {a : Addr} {v : Value} (F : Fld Z h a O n d v) (hd : decode bytes pc = .ok (.getfield i, 3)) (hp : pc + 3 = pc')
    (k : ∀ T, own_St p l e R s m args below meth c n0 h0 ws T h C S → own_H p e below En n0 h0 ws Q T (mkF m pc' L (v :: st))) : own_H p e below En n0 h0 ws Q T (mkF m pc L (.ref a :: st)) := by
  subst hp
  obtain ⟨locs, Y, N, e, K⟩ := X
  obtain ⟨T1, Y1, e1, st1⟩ := getF Y B.1 B.2.1 B.2.2.2.2.1 (host := host) (Or.inr w) Via.refl e F (g := mkF m pc L (.ref a :: st)) rfl rfl (hb B.2.2.1 hd)
  exact own_tr st1 (k T1 ⟨locs, Y1, N, e1, K⟩)
theorem own_putF (X : own_St p l e R s m args below meth c n0 h0 ws T h C S) (B : own_B Z p s m meth c bytes maxL own nm rt) {i kk : Nat} {O n d K0 : String} (w : (Jvm.Cond.fieldLink own i O n d).before a0 Z = true) {a : Addr} {v old : Value} {ty : FieldType} (F : Fld Z h a O n d old) (E : Exa Z h a K0) (Lw : (Jvm.Cond.lays K0 O n d).before a0 Z = true ∨ ((Jvm.Cond.laysFinal K0 O n d).before a0 Z = true ∧ own = O ∧ nm = "<init>")) (wi : (Jvm.Cond.instantiable K0 kk).before a0 Z = true)
    (hty : parseFieldDescriptor d = some ty) (hn : narrow ty v = v) (hf : fits ty v = true) (hw1 : n0 ≤ a) (hw2 : a ∈ ws ∨ h0.size ≤ a) (hd : decode bytes pc = .ok (.putfield i, 3)) (hp : pc + 3 = pc')
    (k : ∀ T h', own_St p l e R s m args below meth c n0 h0 ws T h' C S → Wr h h' a (Jvm.RoadKit.slotOf Z O n d) v → Keep h h' [a] → Exa Z h' a K0 → Fld Z h' a O n d v → own_H p e below En n0 h0 ws Q T (mkF m pc' L st)) : own_H p e below En n0 h0 ws Q T (mkF m pc L (v :: .ref a :: st)) := by
  subst hp
  obtain ⟨locs, Y, N, e, K⟩ := X
  obtain ⟨T1, h1, Y1, e1, W1, st1⟩ := putF Y B.1 B.2.1 B.2.2.2.2.1 (host := "") (Or.inl w) Via.refl e F E (Lw.imp id (fun q => ⟨q.1, q.2.1, B.2.2.2.2.2.1.trans q.2.2⟩)) wi hty hn hf (g := mkF m pc L (v :: .ref a :: st)) rfl rfl (hb B.2.2.1 hd)
  exact own_tr st1 (k T1 h1 ⟨_, Y1, Fr.snoc Y1 N hw1, e1, K.wr W1 hw2⟩ W1 (Keep.of_wr W1) (E.wr W1) (F.same W1))
theorem own_putN (X : own_St p l e R s m args below meth c n0 h0 ws T h C S) (B : own_B Z p s m meth c bytes maxL own nm rt) {i kk : Nat} {O n d K0 host : String} (w : (Jvm.Cond.fieldLinkNest own i O n d host).before a0 Z = true) {a : Addr} {v old : Value} {ty : FieldType} (F : Fld Z h a O n d old) (E : Exa Z h a K0) (Lw : (Jvm.Cond.lays K0 O n d).before a0 Z = true ∨ ((Jvm.Cond.laysFinal K0 O n d).before a0 Z = true ∧ own = O ∧ nm = "<init>")) (wi : (Jvm.Cond.instantiable K0 kk).before a0 Z = true)
    (hty : parseFieldDescriptor d = some ty) (hn : narrow ty v = v) (hf : fits ty v = true) (hw1 : n0 ≤ a) (hw2 : a ∈ ws ∨ h0.size ≤ a) (hd : decode bytes pc = .ok (.putfield i, 3)) (hp : pc + 3 = pc')
    (k : ∀ T h', own_St p l e R s m args below meth c n0 h0 ws T h' C S → Wr h h' a (Jvm.RoadKit.slotOf Z O n d) v → Keep h h' [a] → Exa Z h' a K0 → Fld Z h' a O n d v → own_H p e below En n0 h0 ws Q T (mkF m pc' L st)) : own_H p e below En n0 h0 ws Q T (mkF m pc L (v :: .ref a :: st)) := by
  subst hp
  obtain ⟨locs, Y, N, e, K⟩ := X
  obtain ⟨T1, h1, Y1, e1, W1, st1⟩ := putF Y B.1 B.2.1 B.2.2.2.2.1 (host := host) (Or.inr w) Via.refl e F E (Lw.imp id (fun q => ⟨q.1, q.2.1, B.2.2.2.2.2.1.trans q.2.2⟩)) wi hty hn hf (g := mkF m pc L (v :: .ref a :: st)) rfl rfl (hb B.2.2.1 hd)
  exact own_tr st1 (k T1 h1 ⟨_, Y1, Fr.snoc Y1 N hw1, e1, K.wr W1 hw2⟩ W1 (Keep.of_wr W1) (E.wr W1) (F.same W1))
theorem own_newO (X : own_St p l e R s m args below meth c n0 h0 ws T h C S) (B : own_B Z p s m meth c bytes maxL own nm rt) {i n : Nat} {K0 : String} (w : (Jvm.Cond.classLink own i K0).before a0 Z = true) (wi : (Jvm.Cond.instantiable K0 n).before a0 Z = true) (wz : (Jvm.Cond.initialized K0).before a0 Z = true) (hc : C + 1 ≤ R.cells) (hs : S + n ≤ R.slots) (hd : decode bytes pc = .ok (.new i, 3)) (hp : pc + 3 = pc')
    (k : ∀ T h' a, a = h.size → own_St p l e R s m args below meth c n0 h0 ws T h' (C + 1) (S + n) → Keep h h' [] → Exa Z h' a K0 → (∀ {O nm d : String} {ty : FieldType}, Laid Z a0 K0 O nm d → parseFieldDescriptor d = some ty → Fld Z h' a O nm d (defaultValue ty)) → h0.size ≤ a → own_H p e below En n0 h0 ws Q T (mkF m pc' L (.ref a :: st))) : own_H p e below En n0 h0 ws Q T (mkF m pc L st) := by
  subst hp
  obtain ⟨locs, Y, N, e, K⟩ := X
  obtain ⟨T1, h1, Y1, e1, E1, A1, D1, -, st1⟩ := newO Y B.1 B.2.1 B.2.2.2.2.1 w wi wz e (g := mkF m pc L st) rfl (hb B.2.2.1 hd) hc hs
  exact own_tr st1 (k T1 h1 h.size rfl ⟨_, Y1, N, e1, K.ext E1⟩ ((Keep.refl h []).ext E1) A1 D1 K.1)
theorem own_initO (X : own_St p l e R s m args below meth c n0 h0 ws T h C S) (B : own_B Z p s m meth c bytes maxL own nm rt) {i : Nat} (w1 : (Jvm.Cond.methodLink own i Lib.objectInit).before a0 Z = true) (w2 : (Jvm.Cond.instanceMethod Lib.objectInit).before a0 Z = true) (w3 : (Jvm.Cond.code Lib.objectInit ⟨#[0xb1]⟩ 1 none).before a0 Z = true) (hL : L.size = maxL) {a : Addr} (hf : 1 ≤ R.frames) {W : Nat} (hW : (st.map fun v => v.category).sum ≤ W) (hl : W + 12 ≤ R.locals) (hd : decode bytes pc = .ok (.invokespecial i, 3)) (hp : pc + 3 = pc')
    (k : ∀ T, own_St p l e R s m args below meth c n0 h0 ws T h C S → own_H p e below En n0 h0 ws Q T (mkF m pc' L st)) : own_H p e below En n0 h0 ws Q T (mkF m pc L (.ref a :: st)) := by
  subst hp
  obtain ⟨locs, Y, N, e, K⟩ := X
  obtain ⟨T1, Y1, e1, st1⟩ := initO Y B.1 B.2.1 B.2.2.2.2.1 w1 w2 w3 e (g := mkF m pc L (.ref a :: st)) rfl (hL.trans B.2.2.2.1.symm) rfl (hb B.2.2.1 hd) hf (W := W) (by show 2 * 0 + _ ≤ _; omega) hl
  exact own_tr st1 (k T1 ⟨locs, Y1, N, e1, K⟩)
/-! calls by contract -/
theorem own_callS (X : own_St p l e R s m args below meth c n0 h0 ws T h C S) (B : own_B Z p s m meth c bytes maxL own nm rt) {i : Nat} {y : MethodName} {by2 : ByteArray} {ml2 : Nat} {rt2 : Option FieldType} {rm : Room} {as2 : Array Value} {ws2 : List Addr} {Q2 : Option Value → Heap → Prop} {W : Nat}
    (w1 : (Jvm.Cond.methodLink own i y).before a0 Z = true) (w2 : (Jvm.Cond.static y).before a0 Z = true) (w3 : (Jvm.Cond.initialized y.cls).before a0 Z = true) (w4 : (Jvm.Cond.code y by2 ml2 rt2).before a0 Z = true) (hy : y.cls ≠ "java/lang/invoke/MethodHandle" ∧ y.cls ≠ "java/lang/invoke/VarHandle")
    (M : own_C l Z y by2 ml2 rt2 [] rm as2 h n0 ws2 Q2 rm.cells rm.slots) (hf : rm.frames + 1 ≤ R.frames) (hl : W + (ml2 + 11) + rm.locals ≤ R.locals) (hc : C + rm.cells ≤ R.cells) (hs : S + rm.slots ≤ R.slots) (hL : L.size = maxL)
    {argsL : List Value} {ps : List FieldType} {r : Option FieldType} (hpd : parseMethodDescriptor y.desc = some ⟨ps, r⟩) (hlen : argsL.length = ps.length) (has : argsL.toArray = as2) {stk : List Value} (hstk : stk = argsL.reverse ++ st) (hW : (st.map fun v => v.category).sum ≤ W) (hd : decode bytes pc = .ok (.invokestatic i, 3)) (hp : pc + 3 = pc') (hws : ∀ x ∈ ws2, x ∈ ws ∨ h0.size ≤ x)
    (k : ∀ v T h', own_St p l e R s m args below meth c n0 h0 ws T h' (C + rm.cells) (S + rm.slots) → Keep h h' ws2 → Q2 v h' → own_H p e below En n0 h0 ws Q T (mkF m pc' L (v.toList ++ st))) : own_H p e below En n0 h0 ws Q T (mkF m pc L stk) := by
  subst hp hstk has
  obtain ⟨locs, Y, N, e, K⟩ := X
  obtain ⟨v, _, ⟨T1, L1, k1, n1⟩, -, Y1, ⟨Lc, hQ, l1, y1, z1⟩, st1⟩ := Jvm.LawKit.callS Y B.1 (y := y) B.2.2.2.2.1 (mvT B.2.1 w1) (mvT B.2.1 w2) (mvT B.2.1 w3) (mvT B.2.1 w4) hy (backOf (W := W) (Q := fun v h' L => Fr n0 L ∧ Keep h h' ws2 ∧ Q2 v h') M B.2.1 w4 w3 hf hl) (g := mkF m pc L (argsL.reverse ++ st)) rfl (hL.trans B.2.2.2.1.symm) (argsL := argsL) (rest := st) (lenOf hpd hlen) rfl (by show 2 * 0 + _ ≤ _; omega) (hb B.2.2.1 hd) (fun _ _ => ⟨rfl, e, hc, hs⟩)
  dsimp only [Pt.U, Pt.locs, Pt.cells, Pt.slots] at Y1 l1 y1 z1 st1 hQ
  subst l1 y1 z1
  obtain ⟨N2, K2, q2⟩ := hQ
  exact own_tr st1 (k v T1 _ ⟨_, Y1, Fr.app N N2, rfl, K.trans K2 hws⟩ K2 q2)
theorem own_callV (X : own_St p l e R s m args below meth c n0 h0 ws T h C S) (B : own_B Z p s m meth c bytes maxL own nm rt) {i : Nat} {y : MethodName} {by2 : ByteArray} {ml2 : Nat} {rt2 : Option FieldType} {rm : Room} {as2 : Array Value} {ws2 : List Addr} {Q2 : Option Value → Heap → Prop} {W : Nat} {K0 : String} {a : Addr}
    (w1 : (Jvm.Cond.methodLink own i y).before a0 Z = true) (w2 : (Jvm.Cond.declares y).before a0 Z = true) (w3 : (Jvm.Cond.selects K0 y y).before a0 Z = true) (w5 : (Jvm.Cond.instanceMethod y).before a0 Z = true) (w4 : (Jvm.Cond.code y by2 ml2 rt2).before a0 Z = true) (w6 : (Jvm.Cond.initialized y.cls).before a0 Z = true) (hy : y.cls ≠ "java/lang/invoke/MethodHandle" ∧ y.cls ≠ "java/lang/invoke/VarHandle") (E : Exa Z h a K0)
    (M : own_C l Z y by2 ml2 rt2 [] rm as2 h n0 ws2 Q2 rm.cells rm.slots) (hf : rm.frames + 1 ≤ R.frames) (hl : W + (ml2 + 11) + rm.locals ≤ R.locals) (hc : C + rm.cells ≤ R.cells) (hs : S + rm.slots ≤ R.slots) (hL : L.size = maxL)
    {argsL : List Value} {ps : List FieldType} {r : Option FieldType} (hpd : parseMethodDescriptor y.desc = some ⟨ps, r⟩) (hlen : argsL.length = ps.length) (has : (.ref a :: argsL).toArray = as2) {stk : List Value} (hstk : stk = argsL.reverse ++ .ref a :: st) (hW : (st.map fun v => v.category).sum ≤ W) (hd : decode bytes pc = .ok (.invokevirtual i, 3)) (hp : pc + 3 = pc') (hws : ∀ x ∈ ws2, x ∈ ws ∨ h0.size ≤ x)
    (k : ∀ v T h', own_St p l e R s m args below meth c n0 h0 ws T h' (C + rm.cells) (S + rm.slots) → Keep h h' ws2 → Q2 v h' → own_H p e below En n0 h0 ws Q T (mkF m pc' L (v.toList ++ st))) : own_H p e below En n0 h0 ws Q T (mkF m pc L stk) := by
  subst hp hstk has
  obtain ⟨locs, Y, N, e, K⟩ := X
  obtain ⟨cq, kq, qa, qb, qc⟩ := isOf (T := T) B.2.1 e E
  obtain ⟨v, _, ⟨T1, L1, k1, n1⟩, -, Y1, ⟨Lc, hQ, l1, y1, z1⟩, st1⟩ := Y.virtualBack B.1 (y := y) (z := y) B.2.2.2.2.1 (mvT B.2.1 w1) (mvT B.2.1 w2) (notFace_of_selects (args := #[]) (mvT B.2.1 w3)) (mvT B.2.1 w3) (mvT B.2.1 w5) hy (backOf (W := W) (Q := fun v h' L => Fr n0 L ∧ Keep h h' ws2 ∧ Q2 v h') M B.2.1 w4 w6 hf hl) qa qc (g := mkF m pc L (argsL.reverse ++ .ref a :: st)) rfl (hL.trans B.2.2.2.1.symm) (Steps.refl _) (argsL := argsL) (rest := st) (lenOf hpd hlen) rfl (by show 2 * 0 + _ ≤ _; omega) (hb B.2.2.1 hd) (fun _ _ => ⟨rfl, e, hc, hs⟩)
  dsimp only [Pt.U, Pt.locs, Pt.cells, Pt.slots] at Y1 l1 y1 z1 st1 hQ
  subst l1 y1 z1
  obtain ⟨N2, K2, q2⟩ := hQ
  exact own_tr (fun t q => st1.trans q) (k v T1 _ ⟨_, Y1, Fr.app N N2, rfl, K.trans K2 hws⟩ K2 q2)
theorem own_callI (X : own_St p l e R s m args below meth c n0 h0 ws T h C S) (B : own_B Z p s m meth c bytes maxL own nm rt) {i : Nat} {y : MethodName} {by2 : ByteArray} {ml2 : Nat} {rm : Room} {as2 : Array Value} {ws2 : List Addr} {Q2 : Option Value → Heap → Prop} {W : Nat} {a : Addr} (hy1 : y.name = "<init>")
    (w1 : (Jvm.Cond.methodLink own i y).before a0 Z = true) (w5 : (Jvm.Cond.instanceMethod y).before a0 Z = true) (w4 : (Jvm.Cond.code y by2 ml2 none).before a0 Z = true) (w6 : (Jvm.Cond.initialized y.cls).before a0 Z = true) (hy : y.cls ≠ "java/lang/invoke/MethodHandle" ∧ y.cls ≠ "java/lang/invoke/VarHandle")
    (M : own_C l Z y by2 ml2 none [] rm as2 h n0 ws2 Q2 rm.cells rm.slots) (hf : rm.frames + 1 ≤ R.frames) (hl : W + (ml2 + 11) + rm.locals ≤ R.locals) (hc : C + rm.cells ≤ R.cells) (hs : S + rm.slots ≤ R.slots) (hL : L.size = maxL)
    {argsL : List Value} {ps : List FieldType} {r : Option FieldType} (hpd : parseMethodDescriptor y.desc = some ⟨ps, r⟩) (hlen : argsL.length = ps.length) (has : (.ref a :: argsL).toArray = as2) {stk : List Value} (hstk : stk = argsL.reverse ++ .ref a :: st) (hW : (st.map fun v => v.category).sum ≤ W) (hd : decode bytes pc = .ok (.invokespecial i, 3)) (hp : pc + 3 = pc') (hws : ∀ x ∈ ws2, x ∈ ws ∨ h0.size ≤ x)
    (k : ∀ v T h', own_St p l e R s m args below meth c n0 h0 ws T h' (C + rm.cells) (S + rm.slots) → Keep h h' ws2 → Q2 v h' → own_H p e below En n0 h0 ws Q T (mkF m pc' L (v.toList ++ st))) : own_H p e below En n0 h0 ws Q T (mkF m pc L stk) := by
  subst hp hstk has
  obtain ⟨locs, Y, N, e, K⟩ := X
  obtain ⟨v, _, ⟨T1, L1, k1, n1⟩, -, Y1, ⟨Lc, hQ, l1, y1, z1⟩, st1⟩ := Y.specialBack B.1 (y := y) hy1 B.2.2.2.2.1 (mvT B.2.1 w1) (mvT B.2.1 w5) (mvT B.2.1 w4) hy (backOf (W := W) (Q := fun v h' L => Fr n0 L ∧ Keep h h' ws2 ∧ Q2 v h') M B.2.1 w4 w6 hf hl) (g := mkF m pc L (argsL.reverse ++ .ref a :: st)) rfl (hL.trans B.2.2.2.1.symm) (Steps.refl _) (a := a) (argsL := argsL) (rest := st) (lenOf hpd hlen) rfl (by show 2 * 0 + _ ≤ _; omega) (hb B.2.2.1 hd) (fun _ _ => ⟨rfl, e, hc, hs⟩)
  dsimp only [Pt.U, Pt.locs, Pt.cells, Pt.slots] at Y1 l1 y1 z1 st1 hQ
  subst l1 y1 z1
  obtain ⟨N2, K2, q2⟩ := hQ
  exact own_tr (fun t q => st1.trans q) (k v T1 _ ⟨_, Y1, Fr.app N N2, rfl, K.trans K2 hws⟩ K2 q2)
/-! arrays of ints and of longs, by a function of the place -/
theorem own_ix {j : Int32} {i n : Nat} (hj : j.toInt = (i : Int)) (hi : i < n) : ¬ (j < 0 ∨ n ≤ j.toNatClampNeg) ∧ j.toNatClampNeg = i := by
  have e : j.toNatClampNeg = i := by show j.toInt.toNat = i; omega
  refine ⟨?_, e⟩
  rw [e, Int32.lt_iff_toInt_lt]
  have : (0 : Int32).toInt = 0 := rfl
  omega
theorem own_ne {a b : Addr} (lt : a < h.size) (g : b = h.size) : a ≠ b := by
  rw [g]
  exact Nat.ne_of_lt lt
theorem own_up_same {α : Type} (f : Nat → α) (i : Nat) (x : α) : (fun k => if k = i then x else f k) i = x := by simp
def own_AJ (Z : State) (h : Heap) (a : Addr) (n : Nat) (f : Nat → Int64) : Prop := ∃ cl : Cell, Arr Z h a cl .long ∧ cl.slots.size = n ∧ n < 2147483648 ∧ ∀ i, i < n → cl.slots[i]? = some (.long (f i))
theorem own_AJ.lt {a : Addr} {n : Nat} {f : Nat → Int64} (A : own_AJ Z h a n f) : a < h.size := by
  obtain ⟨cl, A, -⟩ := A
  exact A.lt
theorem own_AJ.keep {a : Addr} {n : Nat} {f : Nat → Int64} (A : own_AJ Z h a n f) {w2 : List Addr} (K : Keep h h' w2) (q : a ∉ w2) : own_AJ Z h' a n f := by
  obtain ⟨cl, A, r⟩ := A
  exact ⟨cl, ⟨K.2.1 _ _ A.1 q, A.2⟩, r⟩
theorem own_AJ.congr {a : Addr} {n : Nat} {f g : Nat → Int64} (A : own_AJ Z h a n f) (q : ∀ i, i < n → f i = g i) : own_AJ Z h a n g := by
  obtain ⟨cl, A, r1, r2, r3⟩ := A
  exact ⟨cl, A, r1, r2, fun i hi => by rw [r3 i hi, q i hi]⟩
theorem own_newJ (X : own_St p l e R s m args below meth c n0 h0 ws T h C S) (B : own_B Z p s m meth c bytes maxL own nm rt) (w : (Jvm.Cond.arrayClass .long).before a0 Z = true) {j : Int32} {n cap : Nat} (hj : j.toInt = (n : Int)) (hcap : n ≤ cap) (hb8 : cap * 8 ≤ 536870912) (hc : C + 1 ≤ R.cells) (hs : S + cap ≤ R.slots) (hd : decode bytes pc = .ok (.newarray .long, 2)) (hp : pc + 2 = pc')
    (k : ∀ T h' a, a = h.size → own_St p l e R s m args below meth c n0 h0 ws T h' (C + 1) (S + cap) → Keep h h' [] → own_AJ Z h' a n (fun _ => 0) → h0.size ≤ a → own_H p e below En n0 h0 ws Q T (mkF m pc' L (.ref a :: st))) : own_H p e below En n0 h0 ws Q T (mkF m pc L (.int j :: st)) := by
  subst hp
  obtain ⟨locs, Y, N, e, K⟩ := X
  have hn : ¬ j < 0 := by rw [Int32.lt_iff_toInt_lt]; have : (0 : Int32).toInt = 0 := rfl; omega
  have hnn : j.toNatClampNeg = n := by show j.toInt.toNat = n; omega
  obtain ⟨T1, h1, cA, Y1, e1, E1, A1, st1⟩ := newP Y B.1 B.2.1 (aty := .long) w e (g := mkF m pc L (.int j :: st)) rfl (hb B.2.2.1 hd) rfl hn (cap := cap) (hnn ▸ hcap) hb8 hc hs
  refine own_tr st1 (k T1 h1 h.size rfl ⟨_, Y1, N, e1, K.ext E1⟩ ((Keep.refl h []).ext E1) ⟨_, A1, ?_, by omega, ?_⟩ K.1)
  · rw [sz_new, hnn]
  · intro i hi
    show (Array.replicate j.toNatClampNeg (defaultValue .long))[i]? = _
    rw [hnn, Array.getElem?_replicate, if_pos hi]
    rfl
theorem own_laload (X : own_St p l e R s m args below meth c n0 h0 ws T h C S) (B : own_B Z p s m meth c bytes maxL own nm rt) {a : Addr} {n i : Nat} {f : Nat → Int64} {j : Int32} (A : own_AJ Z h a n f) (hj : j.toInt = (i : Int)) (hi : i < n) (hd : decode bytes pc = .ok (.laload, 1)) (hp : pc + 1 = pc') (k : own_H p e below En n0 h0 ws Q T (mkF m pc' L (.long (f i) :: st))) : own_H p e below En n0 h0 ws Q T (mkF m pc L (.int j :: .ref a :: st)) := by
  subst hp
  obtain ⟨locs, Y, N, e, K⟩ := X
  obtain ⟨cl, A, r1, r2, r3⟩ := A
  obtain ⟨q1, q2⟩ := own_ix hj (r1.symm ▸ hi : i < cl.slots.size)
  exact own_tr (fun t q => Y.laload B.1 (j := j) (v := .long (f i)) (by rw [e]; exact A.1) (State.isArrayOf_alike B.2.1.alike A.2.1) A.2.2 q1 (by rw [q2]; exact r3 i hi) (g := mkF m pc L (.int j :: .ref a :: st)) rfl rfl (hb B.2.2.1 hd) t q) k
theorem own_lenJ (X : own_St p l e R s m args below meth c n0 h0 ws T h C S) (B : own_B Z p s m meth c bytes maxL own nm rt) {a : Addr} {n : Nat} {f : Nat → Int64} (A : own_AJ Z h a n f) (hd : decode bytes pc = .ok (.arraylength, 1)) (hp : pc + 1 = pc') (k : own_H p e below En n0 h0 ws Q T (mkF m pc' L (.int (Int32.ofNat n) :: st))) : own_H p e below En n0 h0 ws Q T (mkF m pc L (.ref a :: st)) := by
  subst hp
  obtain ⟨locs, Y, N, e, K⟩ := X
  obtain ⟨cl, A, r1, r2, r3⟩ := A
  subst r1
  exact own_tr (fun t q => Y.arraylength B.1 (by rw [e]; exact A.1) (State.isArrayOf_alike B.2.1.alike A.2.1) (g := mkF m pc L (.ref a :: st)) rfl rfl (hb B.2.2.1 hd) t q) k
theorem own_lastore (X : own_St p l e R s m args below meth c n0 h0 ws T h C S) (B : own_B Z p s m meth c bytes maxL own nm rt) {a : Addr} {n i : Nat} {f : Nat → Int64} {j : Int32} {x : Int64} (A : own_AJ Z h a n f) (hj : j.toInt = (i : Int)) (hi : i < n) (hw1 : n0 ≤ a) (hw2 : a ∈ ws ∨ h0.size ≤ a) (hd : decode bytes pc = .ok (.lastore, 1)) (hp : pc + 1 = pc')
    (k : ∀ T h', own_St p l e R s m args below meth c n0 h0 ws T h' C S → Keep h h' [a] → own_AJ Z h' a n (fun k => if k = i then x else f k) → own_H p e below En n0 h0 ws Q T (mkF m pc' L st)) : own_H p e below En n0 h0 ws Q T (mkF m pc L (.long x :: .int j :: .ref a :: st)) := by
  subst hp
  obtain ⟨locs, Y, N, e, K⟩ := X
  obtain ⟨cl, A, r1, r2, r3⟩ := A
  obtain ⟨q1, q2⟩ := own_ix hj (r1.symm ▸ hi : i < cl.slots.size)
  obtain ⟨T1, h1, Y1, e1, W1, st1⟩ := stJ Y B.1 B.2.1 e A (j := j) (x := x) q1 (g := mkF m pc L (.long x :: .int j :: .ref a :: st)) rfl rfl (hb B.2.2.1 hd)
  refine own_tr st1 (k T1 h1 ⟨_, Y1, Fr.snoc Y1 N hw1, e1, K.wr W1 hw2⟩ (Keep.of_wr W1) ⟨_, A.same W1, ?_, r2, ?_⟩)
  · rw [sz_set, r1]
  · intro u hu
    show (cl.slots.setIfInBounds j.toNatClampNeg (.long x))[u]? = some (.long (if u = i then x else f u))
    rw [q2, Array.getElem?_setIfInBounds]
    by_cases hui : u = i
    · subst hui; rw [if_pos rfl, if_pos (r1.symm ▸ hi), if_pos rfl]
    · rw [if_neg (fun q => hui q.symm), if_neg hui]; exact r3 u hu
def own_AI (Z : State) (h : Heap) (a : Addr) (n : Nat) (f : Nat → Int32) : Prop := ∃ cl : Cell, Arr Z h a cl .int ∧ cl.slots.size = n ∧ n < 2147483648 ∧ ∀ i, i < n → cl.slots[i]? = some (.int (f i))
theorem own_AI.lt {a : Addr} {n : Nat} {f : Nat → Int32} (A : own_AI Z h a n f) : a < h.size := by
  obtain ⟨cl, A, -⟩ := A
  exact A.lt
theorem own_AI.keep {a : Addr} {n : Nat} {f : Nat → Int32} (A : own_AI Z h a n f) {w2 : List Addr} (K : Keep h h' w2) (q : a ∉ w2) : own_AI Z h' a n f := by
  obtain ⟨cl, A, r⟩ := A
  exact ⟨cl, ⟨K.2.1 _ _ A.1 q, A.2⟩, r⟩
theorem own_AI.congr {a : Addr} {n : Nat} {f g : Nat → Int32} (A : own_AI Z h a n f) (q : ∀ i, i < n → f i = g i) : own_AI Z h a n g := by
  obtain ⟨cl, A, r1, r2, r3⟩ := A
  exact ⟨cl, A, r1, r2, fun i hi => by rw [r3 i hi, q i hi]⟩
theorem own_newI (X : own_St p l e R s m args below meth c n0 h0 ws T h C S) (B : own_B Z p s m meth c bytes maxL own nm rt) (w : (Jvm.Cond.arrayClass .int).before a0 Z = true) {j : Int32} {n cap : Nat} (hj : j.toInt = (n : Int)) (hcap : n ≤ cap) (hb8 : cap * 8 ≤ 536870912) (hc : C + 1 ≤ R.cells) (hs : S + cap ≤ R.slots) (hd : decode bytes pc = .ok (.newarray .int, 2)) (hp : pc + 2 = pc')
    (k : ∀ T h' a, a = h.size → own_St p l e R s m args below meth c n0 h0 ws T h' (C + 1) (S + cap) → Keep h h' [] → own_AI Z h' a n (fun _ => 0) → h0.size ≤ a → own_H p e below En n0 h0 ws Q T (mkF m pc' L (.ref a :: st))) : own_H p e below En n0 h0 ws Q T (mkF m pc L (.int j :: st)) := by
  subst hp
  obtain ⟨locs, Y, N, e, K⟩ := X
  have hn : ¬ j < 0 := by rw [Int32.lt_iff_toInt_lt]; have : (0 : Int32).toInt = 0 := rfl; omega
  have hnn : j.toNatClampNeg = n := by show j.toInt.toNat = n; omega
  obtain ⟨T1, h1, cA, Y1, e1, E1, A1, st1⟩ := newP Y B.1 B.2.1 (aty := .int) w e (g := mkF m pc L (.int j :: st)) rfl (hb B.2.2.1 hd) rfl hn (cap := cap) (hnn ▸ hcap) hb8 hc hs
  refine own_tr st1 (k T1 h1 h.size rfl ⟨_, Y1, N, e1, K.ext E1⟩ ((Keep.refl h []).ext E1) ⟨_, A1, ?_, by omega, ?_⟩ K.1)
  · rw [sz_new, hnn]
  · intro i hi
    show (Array.replicate j.toNatClampNeg (defaultValue .int))[i]? = _
    rw [hnn, Array.getElem?_replicate, if_pos hi]
    rfl
theorem own_iaload (X : own_St p l e R s m args below meth c n0 h0 ws T h C S) (B : own_B Z p s m meth c bytes maxL own nm rt) {a : Addr} {n i : Nat} {f : Nat → Int32} {j : Int32} (A : own_AI Z h a n f) (hj : j.toInt = (i : Int)) (hi : i < n) (hd : decode bytes pc = .ok (.iaload, 1)) (hp : pc + 1 = pc') (k : own_H p e below En n0 h0 ws Q T (mkF m pc' L (.int (f i) :: st))) : own_H p e below En n0 h0 ws Q T (mkF m pc L (.int j :: .ref a :: st)) := by
  subst hp
  obtain ⟨locs, Y, N, e, K⟩ := X
  obtain ⟨cl, A, r1, r2, r3⟩ := A
  obtain ⟨q1, q2⟩ := own_ix hj (r1.symm ▸ hi : i < cl.slots.size)
  exact own_tr (fun t q => Y.iaload B.1 (j := j) (v := .int (f i)) (by rw [e]; exact A.1) (State.isArrayOf_alike B.2.1.alike A.2.1) A.2.2 q1 (by rw [q2]; exact r3 i hi) (g := mkF m pc L (.int j :: .ref a :: st)) rfl rfl (hb B.2.2.1 hd) t q) k
theorem own_lenI (X : own_St p l e R s m args below meth c n0 h0 ws T h C S) (B : own_B Z p s m meth c bytes maxL own nm rt) {a : Addr} {n : Nat} {f : Nat → Int32} (A : own_AI Z h a n f) (hd : decode bytes pc = .ok (.arraylength, 1)) (hp : pc + 1 = pc') (k : own_H p e below En n0 h0 ws Q T (mkF m pc' L (.int (Int32.ofNat n) :: st))) : own_H p e below En n0 h0 ws Q T (mkF m pc L (.ref a :: st)) := by
  subst hp
  obtain ⟨locs, Y, N, e, K⟩ := X
  obtain ⟨cl, A, r1, r2, r3⟩ := A
  subst r1
  exact own_tr (fun t q => Y.arraylength B.1 (by rw [e]; exact A.1) (State.isArrayOf_alike B.2.1.alike A.2.1) (g := mkF m pc L (.ref a :: st)) rfl rfl (hb B.2.2.1 hd) t q) k
theorem own_iastore (X : own_St p l e R s m args below meth c n0 h0 ws T h C S) (B : own_B Z p s m meth c bytes maxL own nm rt) {a : Addr} {n i : Nat} {f : Nat → Int32} {j : Int32} {x : Int32} (A : own_AI Z h a n f) (hj : j.toInt = (i : Int)) (hi : i < n) (hw1 : n0 ≤ a) (hw2 : a ∈ ws ∨ h0.size ≤ a) (hd : decode bytes pc = .ok (.iastore, 1)) (hp : pc + 1 = pc')
    (k : ∀ T h', own_St p l e R s m args below meth c n0 h0 ws T h' C S → Keep h h' [a] → own_AI Z h' a n (fun k => if k = i then x else f k) → own_H p e below En n0 h0 ws Q T (mkF m pc' L st)) : own_H p e below En n0 h0 ws Q T (mkF m pc L (.int x :: .int j :: .ref a :: st)) := by
  subst hp
  obtain ⟨locs, Y, N, e, K⟩ := X
  obtain ⟨cl, A, r1, r2, r3⟩ := A
  obtain ⟨q1, q2⟩ := own_ix hj (r1.symm ▸ hi : i < cl.slots.size)
  obtain ⟨T1, h1, Y1, e1, W1, st1⟩ := stI Y B.1 B.2.1 e A (j := j) (x := x) q1 (g := mkF m pc L (.int x :: .int j :: .ref a :: st)) rfl rfl (hb B.2.2.1 hd)
  refine own_tr st1 (k T1 h1 ⟨_, Y1, Fr.snoc Y1 N hw1, e1, K.wr W1 hw2⟩ (Keep.of_wr W1) ⟨_, A.same W1, ?_, r2, ?_⟩)
  · rw [sz_set, r1]
  · intro u hu
    show (cl.slots.setIfInBounds j.toNatClampNeg (.int x))[u]? = some (.int (if u = i then x else f u))
    rw [q2, Array.getElem?_setIfInBounds]
    by_cases hui : u = i
    · subst hui; rw [if_pos rfl, if_pos (r1.symm ▸ hi), if_pos rfl]
    · rw [if_neg (fun q => hui q.symm), if_neg hui]; exact r3 u hu
end OwnKit
theorem own_sz {p : Program} {l : Launch} {e : Env} {R : Room} {s : State} {m : MethodId} {args : Array Value} {below : List Frame} {meth : Method} {c : Code} {n0 : Nat} {h0 h : Heap} {ws : List Addr} {T : State} {C S : Nat} (X : own_St p l e R s m args below meth c n0 h0 ws T h C S) (Z0 : n0 ≤ h0.size) : n0 ≤ h.size := by
  obtain ⟨_, _, _, _, K⟩ := X
  exact Nat.le_trans Z0 K.1
theorem own_nat {n : Nat} (h : n < 2147483648) : (Int32.ofNat n).toInt = (n : Int) := len_toInt (by omega)
theorem own_ltN {i n : Nat} (hi : i < 2147483648) (hn : n < 2147483648) : (Int32.ofNat i < Int32.ofNat n) ↔ i < n := by
  rw [Int32.lt_iff_toInt_lt, own_nat hi, own_nat hn]; omega
theorem own_eqN {i n : Nat} (hi : i < 2147483648) (hn : n < 2147483648) : (Int32.ofNat i = Int32.ofNat n) ↔ i = n := by
  rw [← Int32.toInt_inj, own_nat hi, own_nat hn]; omega
theorem own_succ (i : Nat) : Int32.ofNat i + (1 : Int32) = Int32.ofNat (i + 1) := by
  rw [← Int32.toBitVec_inj]; simp [Int32.ofNat_add]
theorem own_and3 (x : Int32) : ∃ n : Nat, n < 4 ∧ x &&& (3 : Int32) = Int32.ofNat n := by
  have h := c_mask x 3 2 (by decide) (by decide)
  have hp : ((2 ^ 2 : Nat) : Int) = 4 := rfl
  rw [hp] at h
  refine ⟨(x.toInt % 4).toNat, by omega, ?_⟩
  rw [← Int32.toInt_inj, own_nat (by omega), h]; omega
def own_set (f : Nat → Int64) (i : Nat) (x : Int64) : Nat → Int64 := fun k => if k = i then x else f k
def own_Mo (Z : State) (h : Heap) (a t : Addr) (vals : Nat → Int64) : Prop :=
  (Fld Z h a "com/example/referee/referee/engine/SlotNumbers" "ints" "[I" (.ref t) ∧ Fld Z h a "com/example/referee/referee/engine/SlotNumbers" "longs" "[J" .null ∧ ∃ f, own_AI Z h t 4 f ∧ ∀ i, i < 4 → (f i).toInt64 = vals i) ∨ (Fld Z h a "com/example/referee/referee/engine/SlotNumbers" "ints" "[I" .null ∧ Fld Z h a "com/example/referee/referee/engine/SlotNumbers" "longs" "[J" (.ref t) ∧ own_AJ Z h t 4 vals)
theorem own_Mo.keep {Z : State} {h h' : Heap} {a t : Addr} {vals : Nat → Int64} {w2 : List Addr} (M : own_Mo Z h a t vals) (K : Keep h h' w2) (q1 : a ∉ w2) (q2 : t ∉ w2) : own_Mo Z h' a t vals := by
  rcases M with ⟨F1, F2, f, A, hf⟩ | ⟨F1, F2, A⟩
  · exact Or.inl ⟨F1.keep K q1, F2.keep K q1, f, A.keep K q2, hf⟩
  · exact Or.inr ⟨F1.keep K q1, F2.keep K q1, A.keep K q2⟩
theorem own_set_w {f : Nat → Int32} {vals : Nat → Int64} {k : Nat} {x : Int64} (hf : ∀ i, i < 4 → (f i).toInt64 = vals i) (hx : x.toInt32.toInt64 = x) (i : Nat) (hi : i < 4) : (if i = k then x.toInt32 else f i).toInt64 = own_set vals k x i := by
  unfold own_set
  by_cases h : i = k
  · rw [if_pos h, if_pos h, hx]
  · rw [if_neg h, if_neg h, hf i hi]
theorem own_rc0 : ∀ i : Fin 4, (Int32.ofNat i.1 >>> ((1 : Int32) &&& 31)) * (2 : Int32) + (Int32.ofNat i.1 &&& (1 : Int32)) = Int32.ofNat i.1 := by decide +kernel
theorem own_rc (i : Nat) (h : i < 4) : (Int32.ofNat i >>> ((1 : Int32) &&& 31)) * (2 : Int32) + (Int32.ofNat i &&& (1 : Int32)) = Int32.ofNat i := own_rc0 ⟨i, h⟩
theorem pd_2 : parseMethodDescriptor "(IIZ)V" = some ⟨[.int, .int, .boolean], none⟩ := by decide +kernel
theorem pd_1 : parseMethodDescriptor "(II)V" = some ⟨[.int, .int], none⟩ := by decide +kernel
theorem pd_4 : parseMethodDescriptor "(IIJ)V" = some ⟨[.int, .int, .long], none⟩ := by decide +kernel
theorem pd_5 : parseMethodDescriptor "(II)J" = some ⟨[.int, .int], some .long⟩ := by decide +kernel
theorem pd_6 : parseMethodDescriptor "(IIJIJIJ)J" = some ⟨[.int, .int, .long, .int, .long, .int, .long], some .long⟩ := by decide +kernel
theorem da_0 : decode prog_119_method_2_code 0 = .ok (.aload_n 0, 1) := by decide +kernel
theorem da_1 : decode prog_119_method_2_code 1 = .ok (.invokespecial 7, 3) := by decide +kernel
theorem da_4 : decode prog_119_method_2_code 4 = .ok (.aload_n 0, 1) := by decide +kernel
theorem da_5 : decode prog_119_method_2_code 5 = .ok (.iload_n 2, 1) := by decide +kernel
theorem da_6 : decode prog_119_method_2_code 6 = .ok (.putfield 12, 3) := by decide +kernel
theorem da_9 : decode prog_119_method_2_code 9 = .ok (.iload_n 3, 1) := by decide +kernel
theorem da_10 : decode prog_119_method_2_code 10 = .ok (.ifCond .eq 15, 3) := by decide +kernel
theorem da_13 : decode prog_119_method_2_code 13 = .ok (.aload_n 0, 1) := by decide +kernel
theorem da_14 : decode prog_119_method_2_code 14 = .ok (.iload_n 1, 1) := by decide +kernel
theorem da_15 : decode prog_119_method_2_code 15 = .ok (.iload_n 2, 1) := by decide +kernel
theorem da_16 : decode prog_119_method_2_code 16 = .ok (.imul, 1) := by decide +kernel
theorem da_17 : decode prog_119_method_2_code 17 = .ok (.newarray .long, 2) := by decide +kernel
theorem da_19 : decode prog_119_method_2_code 19 = .ok (.putfield 16, 3) := by decide +kernel
theorem da_22 : decode prog_119_method_2_code 22 = .ok (.goto 12, 3) := by decide +kernel
theorem da_25 : decode prog_119_method_2_code 25 = .ok (.aload_n 0, 1) := by decide +kernel
theorem da_26 : decode prog_119_method_2_code 26 = .ok (.iload_n 1, 1) := by decide +kernel
theorem da_27 : decode prog_119_method_2_code 27 = .ok (.iload_n 2, 1) := by decide +kernel
theorem da_28 : decode prog_119_method_2_code 28 = .ok (.imul, 1) := by decide +kernel
theorem da_29 : decode prog_119_method_2_code 29 = .ok (.newarray .int, 2) := by decide +kernel
theorem da_31 : decode prog_119_method_2_code 31 = .ok (.putfield 20, 3) := by decide +kernel
theorem da_34 : decode prog_119_method_2_code 34 = .ok (.return_, 1) := by decide +kernel
set_option maxRecDepth 65536 in
set_option maxHeartbeats 40000000 in
theorem rm1 (l : Launch) (Z : State) (a0 : Array Value) (hw : ∀ d ∈ tables_1, d.before a0 Z = true) (a : Addr) (h0 : Heap) (n0 : Nat) (Z0 : n0 ≤ h0.size) (g_a : n0 ≤ a) (E_a : Exa Z h0 a "com/example/referee/referee/engine/SlotNumbers") (F_a_ints : Fld Z h0 a "com/example/referee/referee/engine/SlotNumbers" "ints" "[I" .null) (F_a_longs : Fld Z h0 a "com/example/referee/referee/engine/SlotNumbers" "longs" "[J" .null) (F_a_width : Fld Z h0 a "com/example/referee/referee/engine/SlotNumbers" "width" "I" (.int (0 : Int32))) :
    own_C l Z (⟨"com/example/referee/referee/engine/SlotNumbers", "<init>", "(IIZ)V"⟩ : MethodName) prog_119_method_2_code 4 none [] ({ frames := 1, cells := 1, slots := 4, locals := 12 } : Room) #[.ref a, .int (2 : Int32), .int (2 : Int32), .int (0 : Int32)] h0 n0 [a] (fun v h => v = none ∧ ∃ t : Addr, h0.size ≤ t ∧ a ≠ t ∧ Fld Z h a "com/example/referee/referee/engine/SlotNumbers" "ints" "[I" (.ref t) ∧ Fld Z h a "com/example/referee/referee/engine/SlotNumbers" "longs" "[J" .null ∧ Fld Z h a "com/example/referee/referee/engine/SlotNumbers" "width" "I" (.int (2 : Int32)) ∧ own_AI Z h t 4 (fun _ => 0)) 1 4 := by
  refine own_enter (L0 := #[.val (.ref a), .val (.int (2 : Int32)), .val (.int (2 : Int32)), .val (.int (0 : Int32))]) (plainFor_of_name (by first | (simp [plainName, overriddenIn]; done) | decide +kernel)) (fun m => by first | (simp [entryFrame, mkF, argsToLocals, Value.category]; done) | rfl) ?_
  intro p e s m below meth c T B X
  refine own_aloadN X B da_0 rfl rfl (pc' := 1) rfl ?_
  refine own_initO X B (hw _ (List.mem_of_getElem? (i := 9) rfl)) (hw _ (List.mem_of_getElem? (i := 10) rfl)) (hw _ (List.mem_of_getElem? (i := 11) rfl)) rfl (by decide) (W := 0) (Nat.le_refl _) (by decide) da_1 (pc' := 4) rfl fun T X => ?_
  refine own_aloadN X B da_4 rfl rfl (pc' := 5) rfl ?_
  refine own_iloadN X B da_5 rfl (pc' := 6) rfl ?_
  refine own_putF X B (hw _ (List.mem_of_getElem? (i := 12) rfl)) F_a_width E_a (Or.inr ⟨(hw _ (List.mem_of_getElem? (i := 13) rfl)), rfl, rfl⟩) (hw _ (List.mem_of_getElem? (i := 1) rfl)) (ty := .int) (by decide) rfl rfl g_a (Or.inl (List.mem_of_getElem? (i := 0) rfl)) da_6 (pc' := 9) rfl fun T h X Wr K E_a F_a_width => ?_
  replace F_a_ints := F_a_ints.other Wr (Or.inr (slot_ne (Or.inl (hw _ (List.mem_of_getElem? (i := 16) rfl))) (Or.inr (hw _ (List.mem_of_getElem? (i := 13) rfl))) (by decide) (t := (.array .int)) (t' := .int) (by decide) (by decide)))
  replace F_a_longs := F_a_longs.other Wr (Or.inr (slot_ne (Or.inl (hw _ (List.mem_of_getElem? (i := 24) rfl))) (Or.inr (hw _ (List.mem_of_getElem? (i := 13) rfl))) (by decide) (t := (.array .long)) (t' := .int) (by decide) (by decide)))
  refine own_iloadN X B da_9 rfl (pc' := 10) rfl ?_
  refine own_ifT X B da_10 (teq rfl).1 (pc' := 25) (by decide) (by decide) ?_
  refine own_aloadN X B da_25 rfl rfl (pc' := 26) rfl ?_
  refine own_iloadN X B da_26 rfl (pc' := 27) rfl ?_
  refine own_iloadN X B da_27 rfl (pc' := 28) rfl ?_
  refine own_imul X B da_28 (pc' := 29) rfl ?_
  refine own_newI X B (hw _ (List.mem_of_getElem? (i := 14) rfl)) (n := 4) (cap := 4) rfl (by decide) (by decide) (by decide) (by decide) da_29 (pc' := 31) rfl fun T h t g_t X K A_t z_t => ?_
  have n_a_t : a ≠ t := own_ne E_a.lt g_t
  replace E_a := E_a.keep K
  replace F_a_ints := F_a_ints.keep K nin0
  replace F_a_longs := F_a_longs.keep K nin0
  replace F_a_width := F_a_width.keep K nin0
  refine own_putF X B (hw _ (List.mem_of_getElem? (i := 15) rfl)) F_a_ints E_a (Or.inl (hw _ (List.mem_of_getElem? (i := 16) rfl))) (hw _ (List.mem_of_getElem? (i := 1) rfl)) (ty := (.array .int)) (by decide) rfl rfl g_a (Or.inl (List.mem_of_getElem? (i := 0) rfl)) da_31 (pc' := 34) rfl fun T h X Wr K E_a F_a_ints => ?_
  replace F_a_longs := F_a_longs.other Wr (Or.inr (slot_ne (Or.inl (hw _ (List.mem_of_getElem? (i := 24) rfl))) (Or.inl (hw _ (List.mem_of_getElem? (i := 16) rfl))) (by decide) (t := (.array .long)) (t' := (.array .int)) (by decide) (by decide)))
  replace F_a_width := F_a_width.other Wr (Or.inr (slot_ne (Or.inr (hw _ (List.mem_of_getElem? (i := 13) rfl))) (Or.inl (hw _ (List.mem_of_getElem? (i := 16) rfl))) (by decide) (t := .int) (t' := (.array .int)) (by decide) (by decide)))
  replace A_t := A_t.keep K (ninS (Ne.symm n_a_t) nin0)
  exact own_vret X B da_34 (by decide) (by decide) ⟨rfl, t, z_t, n_a_t, F_a_ints, F_a_longs, F_a_width, A_t⟩
theorem db_0 : decode prog_119_method_1_code 0 = .ok (.aload_n 0, 1) := by decide +kernel
theorem db_1 : decode prog_119_method_1_code 1 = .ok (.iload_n 1, 1) := by decide +kernel
theorem db_2 : decode prog_119_method_1_code 2 = .ok (.iload_n 2, 1) := by decide +kernel
theorem db_3 : decode prog_119_method_1_code 3 = .ok (.iconst 0, 1) := by decide +kernel
theorem db_4 : decode prog_119_method_1_code 4 = .ok (.invokespecial 1, 3) := by decide +kernel
theorem db_7 : decode prog_119_method_1_code 7 = .ok (.return_, 1) := by decide +kernel
set_option maxRecDepth 65536 in
set_option maxHeartbeats 40000000 in
theorem rm2 (l : Launch) (Z : State) (a0 : Array Value) (hw : ∀ d ∈ tables_1, d.before a0 Z = true) (a : Addr) (h0 : Heap) (n0 : Nat) (Z0 : n0 ≤ h0.size) (g_a : n0 ≤ a) (E_a : Exa Z h0 a "com/example/referee/referee/engine/SlotNumbers") (F_a_ints : Fld Z h0 a "com/example/referee/referee/engine/SlotNumbers" "ints" "[I" .null) (F_a_longs : Fld Z h0 a "com/example/referee/referee/engine/SlotNumbers" "longs" "[J" .null) (F_a_width : Fld Z h0 a "com/example/referee/referee/engine/SlotNumbers" "width" "I" (.int (0 : Int32))) :
    own_C l Z (⟨"com/example/referee/referee/engine/SlotNumbers", "<init>", "(II)V"⟩ : MethodName) prog_119_method_1_code 3 none [] ({ frames := 2, cells := 1, slots := 4, locals := 27 } : Room) #[.ref a, .int (2 : Int32), .int (2 : Int32)] h0 n0 [a] (fun v h => v = none ∧ ∃ t : Addr, h0.size ≤ t ∧ a ≠ t ∧ Fld Z h a "com/example/referee/referee/engine/SlotNumbers" "ints" "[I" (.ref t) ∧ Fld Z h a "com/example/referee/referee/engine/SlotNumbers" "longs" "[J" .null ∧ Fld Z h a "com/example/referee/referee/engine/SlotNumbers" "width" "I" (.int (2 : Int32)) ∧ own_AI Z h t 4 (fun _ => 0)) 1 4 := by
  refine own_enter (L0 := #[.val (.ref a), .val (.int (2 : Int32)), .val (.int (2 : Int32))]) (plainFor_of_name (by first | (simp [plainName, overriddenIn]; done) | decide +kernel)) (fun m => by first | (simp [entryFrame, mkF, argsToLocals, Value.category]; done) | rfl) ?_
  intro p e s m below meth c T B X
  refine own_aloadN X B db_0 rfl rfl (pc' := 1) rfl ?_
  refine own_iloadN X B db_1 rfl (pc' := 2) rfl ?_
  refine own_iloadN X B db_2 rfl (pc' := 3) rfl ?_
  refine own_iconst X B db_3 (v := (0 : Int32)) rfl (pc' := 4) rfl ?_
  refine own_callI X B (W := 0) rfl (hw _ (List.mem_of_getElem? (i := 6) rfl)) (hw _ (List.mem_of_getElem? (i := 7) rfl)) (hw _ (List.mem_of_getElem? (i := 8) rfl)) (hw _ (List.mem_of_getElem? (i := 2) rfl)) (by decide) (rm1 l Z a0 hw a h0 n0 (own_sz X Z0) g_a E_a F_a_ints F_a_longs F_a_width) (by decide) (by decide) (by decide) (by decide) rfl (argsL := [.int (2 : Int32), .int (2 : Int32), .int (0 : Int32)]) pd_2 rfl rfl (st := []) rfl (Nat.le_refl _) db_4 (pc' := 7) rfl (allS (Or.inl (List.mem_of_getElem? (i := 0) rfl)) all0) ?_
  rintro v T h X K ⟨rfl, t, z_t, n_a_t, F_a_ints, F_a_longs, F_a_width, A_t⟩
  replace E_a := E_a.keep K
  show own_H _ _ _ _ _ _ _ _ T (mkF m 7 #[.val (.ref a), .val (.int (2 : Int32)), .val (.int (2 : Int32))] [])
  exact own_vret X B db_7 (by decide) (by decide) ⟨rfl, t, z_t, n_a_t, F_a_ints, F_a_longs, F_a_width, A_t⟩
theorem dc_0 : decode prog_119_method_5_code 0 = .ok (.aload_n 0, 1) := by decide +kernel
theorem dc_1 : decode prog_119_method_5_code 1 = .ok (.getfield 20, 3) := by decide +kernel
theorem dc_4 : decode prog_119_method_5_code 4 = .ok (.ifnull 61, 3) := by decide +kernel
theorem dc_7 : decode prog_119_method_5_code 7 = .ok (.lload_n 3, 1) := by decide +kernel
theorem dc_8 : decode prog_119_method_5_code 8 = .ok (.l2i, 1) := by decide +kernel
theorem dc_9 : decode prog_119_method_5_code 9 = .ok (.i2l, 1) := by decide +kernel
theorem dc_10 : decode prog_119_method_5_code 10 = .ok (.lload_n 3, 1) := by decide +kernel
theorem dc_11 : decode prog_119_method_5_code 11 = .ok (.lcmp, 1) := by decide +kernel
theorem dc_12 : decode prog_119_method_5_code 12 = .ok (.ifCond .eq 53, 3) := by decide +kernel
theorem dc_15 : decode prog_119_method_5_code 15 = .ok (.aload_n 0, 1) := by decide +kernel
theorem dc_16 : decode prog_119_method_5_code 16 = .ok (.aload_n 0, 1) := by decide +kernel
theorem dc_17 : decode prog_119_method_5_code 17 = .ok (.getfield 20, 3) := by decide +kernel
theorem dc_20 : decode prog_119_method_5_code 20 = .ok (.arraylength, 1) := by decide +kernel
theorem dc_21 : decode prog_119_method_5_code 21 = .ok (.newarray .long, 2) := by decide +kernel
theorem dc_23 : decode prog_119_method_5_code 23 = .ok (.putfield 16, 3) := by decide +kernel
theorem dc_26 : decode prog_119_method_5_code 26 = .ok (.iconst 0, 1) := by decide +kernel
theorem dc_27 : decode prog_119_method_5_code 27 = .ok (.istore 5, 2) := by decide +kernel
theorem dc_29 : decode prog_119_method_5_code 29 = .ok (.iload 5, 2) := by decide +kernel
theorem dc_31 : decode prog_119_method_5_code 31 = .ok (.aload_n 0, 1) := by decide +kernel
theorem dc_32 : decode prog_119_method_5_code 32 = .ok (.getfield 20, 3) := by decide +kernel
theorem dc_35 : decode prog_119_method_5_code 35 = .ok (.arraylength, 1) := by decide +kernel
theorem dc_36 : decode prog_119_method_5_code 36 = .ok (.if_icmp .ge 24, 3) := by decide +kernel
theorem dc_39 : decode prog_119_method_5_code 39 = .ok (.aload_n 0, 1) := by decide +kernel
theorem dc_40 : decode prog_119_method_5_code 40 = .ok (.getfield 16, 3) := by decide +kernel
theorem dc_43 : decode prog_119_method_5_code 43 = .ok (.iload 5, 2) := by decide +kernel
theorem dc_45 : decode prog_119_method_5_code 45 = .ok (.aload_n 0, 1) := by decide +kernel
theorem dc_46 : decode prog_119_method_5_code 46 = .ok (.getfield 20, 3) := by decide +kernel
theorem dc_49 : decode prog_119_method_5_code 49 = .ok (.iload 5, 2) := by decide +kernel
theorem dc_51 : decode prog_119_method_5_code 51 = .ok (.iaload, 1) := by decide +kernel
theorem dc_52 : decode prog_119_method_5_code 52 = .ok (.i2l, 1) := by decide +kernel
theorem dc_53 : decode prog_119_method_5_code 53 = .ok (.lastore, 1) := by decide +kernel
theorem dc_54 : decode prog_119_method_5_code 54 = .ok (.iinc 5 1, 3) := by decide +kernel
theorem dc_57 : decode prog_119_method_5_code 57 = .ok (.goto (-28), 3) := by decide +kernel
theorem dc_60 : decode prog_119_method_5_code 60 = .ok (.aload_n 0, 1) := by decide +kernel
theorem dc_61 : decode prog_119_method_5_code 61 = .ok (.aconst_null, 1) := by decide +kernel
theorem dc_62 : decode prog_119_method_5_code 62 = .ok (.putfield 20, 3) := by decide +kernel
theorem dc_65 : decode prog_119_method_5_code 65 = .ok (.iload_n 1, 1) := by decide +kernel
theorem dc_66 : decode prog_119_method_5_code 66 = .ok (.aload_n 0, 1) := by decide +kernel
theorem dc_67 : decode prog_119_method_5_code 67 = .ok (.getfield 12, 3) := by decide +kernel
theorem dc_70 : decode prog_119_method_5_code 70 = .ok (.imul, 1) := by decide +kernel
theorem dc_71 : decode prog_119_method_5_code 71 = .ok (.iload_n 2, 1) := by decide +kernel
theorem dc_72 : decode prog_119_method_5_code 72 = .ok (.iadd, 1) := by decide +kernel
theorem dc_73 : decode prog_119_method_5_code 73 = .ok (.istore 5, 2) := by decide +kernel
theorem dc_75 : decode prog_119_method_5_code 75 = .ok (.aload_n 0, 1) := by decide +kernel
theorem dc_76 : decode prog_119_method_5_code 76 = .ok (.getfield 20, 3) := by decide +kernel
theorem dc_79 : decode prog_119_method_5_code 79 = .ok (.ifnull 15, 3) := by decide +kernel
theorem dc_82 : decode prog_119_method_5_code 82 = .ok (.aload_n 0, 1) := by decide +kernel
theorem dc_83 : decode prog_119_method_5_code 83 = .ok (.getfield 20, 3) := by decide +kernel
theorem dc_86 : decode prog_119_method_5_code 86 = .ok (.iload 5, 2) := by decide +kernel
theorem dc_88 : decode prog_119_method_5_code 88 = .ok (.lload_n 3, 1) := by decide +kernel
theorem dc_89 : decode prog_119_method_5_code 89 = .ok (.l2i, 1) := by decide +kernel
theorem dc_90 : decode prog_119_method_5_code 90 = .ok (.iastore, 1) := by decide +kernel
theorem dc_91 : decode prog_119_method_5_code 91 = .ok (.goto 11, 3) := by decide +kernel
theorem dc_94 : decode prog_119_method_5_code 94 = .ok (.aload_n 0, 1) := by decide +kernel
theorem dc_95 : decode prog_119_method_5_code 95 = .ok (.getfield 16, 3) := by decide +kernel
theorem dc_98 : decode prog_119_method_5_code 98 = .ok (.iload 5, 2) := by decide +kernel
theorem dc_100 : decode prog_119_method_5_code 100 = .ok (.lload_n 3, 1) := by decide +kernel
theorem dc_101 : decode prog_119_method_5_code 101 = .ok (.lastore, 1) := by decide +kernel
theorem dc_102 : decode prog_119_method_5_code 102 = .ok (.return_, 1) := by decide +kernel
set_option maxRecDepth 65536 in
set_option maxHeartbeats 40000000 in
theorem rm3 (l : Launch) (Z : State) (a0 : Array Value) (hw : ∀ d ∈ tables_1, d.before a0 Z = true) (a : Addr) (t : Addr) (r : Int32) (q : Int32) (x : Int64) (k : Nat) (vals : Nat → Int64) (h0 : Heap) (n0 : Nat) (Z0 : n0 ≤ h0.size) (g_a : n0 ≤ a) (g_t : n0 ≤ t) (n_a_t : a ≠ t) (E_a : Exa Z h0 a "com/example/referee/referee/engine/SlotNumbers") (F_a_width : Fld Z h0 a "com/example/referee/referee/engine/SlotNumbers" "width" "I" (.int (2 : Int32))) (M : own_Mo Z h0 a t vals) (hk : k < 4) (hrc : r * (2 : Int32) + q = Int32.ofNat k) :
    own_C l Z (⟨"com/example/referee/referee/engine/SlotNumbers", "set", "(IIJ)V"⟩ : MethodName) prog_119_method_5_code 6 none [] ({ frames := 0, cells := 1, slots := 4, locals := 0 } : Room) #[.ref a, .int r, .int q, .long x] h0 n0 [a, t] (fun v h => v = none ∧ ∃ t : Addr, n0 ≤ t ∧ a ≠ t ∧ own_Mo Z h a t (own_set vals k x) ∧ Fld Z h a "com/example/referee/referee/engine/SlotNumbers" "width" "I" (.int (2 : Int32))) 1 4 := by
  refine own_enter (L0 := #[.val (.ref a), .val (.int r), .val (.int q), .val (.long x), .second, .unset]) (plainFor_of_name (by first | (simp [plainName, overriddenIn]; done) | decide +kernel)) (fun m => by first | (simp [entryFrame, mkF, argsToLocals, Value.category]; done) | rfl) ?_
  intro p e s m below meth c T B X
  have J65L : ∀ (T : State) (h : Heap) (C : Nat) (S : Nat) (b : Addr) (s5 : Slot), own_St p l e ({ frames := 0, cells := 1, slots := 4, locals := 0 } : Room) s m #[.ref a, .int r, .int q, .long x] below meth c n0 h0 [a, t] T h C S → Exa Z h a "com/example/referee/referee/engine/SlotNumbers" → Fld Z h a "com/example/referee/referee/engine/SlotNumbers" "width" "I" (.int (2 : Int32)) → Fld Z h a "com/example/referee/referee/engine/SlotNumbers" "ints" "[I" .null → Fld Z h a "com/example/referee/referee/engine/SlotNumbers" "longs" "[J" (.ref b) → own_AJ Z h b 4 vals → (C ≤ 1) → (S ≤ 4) → (One s5) → (n0 ≤ b) → (b ∈ [a, t] ∨ h0.size ≤ b) → (a ≠ b) → own_G p e below s n0 h0 [a, t] (fun v h => v = none ∧ ∃ t : Addr, n0 ≤ t ∧ a ≠ t ∧ own_Mo Z h a t (own_set vals k x) ∧ Fld Z h a "com/example/referee/referee/engine/SlotNumbers" "width" "I" (.int (2 : Int32))) 1 4 T (mkF m 65 #[.val (.ref a), .val (.int r), .val (.int q), .val (.long x), .second, s5] []) := by
    intro T h C S b s5 X E_a F_a_width F_a_ints F_a_longs A_b hC hS hs5 g_b w_b n_a_b
    refine own_iloadN X B dc_65 rfl (pc' := 66) rfl ?_
    refine own_aloadN X B dc_66 rfl rfl (pc' := 67) rfl ?_
    refine own_getF X B (hw _ (List.mem_of_getElem? (i := 12) rfl)) F_a_width dc_67 (pc' := 70) rfl fun T X => ?_
    refine own_imul X B dc_70 (pc' := 71) rfl ?_
    refine own_iloadN X B dc_71 rfl (pc' := 72) rfl ?_
    refine own_iadd X B dc_72 (pc' := 73) rfl ?_
    rw [hrc]
    refine own_istore X B dc_73 (L' := #[.val (.ref a), .val (.int r), .val (.int q), .val (.long x), .second, .val (.int (Int32.ofNat k))]) (XS.store1 rfl hs5 rfl) (pc' := 75) rfl ?_
    refine own_aloadN X B dc_75 rfl rfl (pc' := 76) rfl ?_
    refine own_getF X B (hw _ (List.mem_of_getElem? (i := 15) rfl)) F_a_ints dc_76 (pc' := 79) rfl fun T X => ?_
    refine own_ifnullT X B dc_79 (pc' := 94) (by decide) (by decide) ?_
    refine own_aloadN X B dc_94 rfl rfl (pc' := 95) rfl ?_
    refine own_getF X B (hw _ (List.mem_of_getElem? (i := 23) rfl)) F_a_longs dc_95 (pc' := 98) rfl fun T X => ?_
    refine own_iload X B dc_98 rfl (pc' := 100) rfl ?_
    refine own_lloadN X B dc_100 rfl (pc' := 101) rfl ?_
    refine own_lastore X B A_b (i := k) (own_nat (by omega)) hk g_b w_b dc_101 (pc' := 102) rfl fun T h X K A_b => ?_
    replace E_a := E_a.keep K
    replace F_a_width := F_a_width.keep K (ninS n_a_b nin0)
    replace F_a_ints := F_a_ints.keep K (ninS n_a_b nin0)
    replace F_a_longs := F_a_longs.keep K (ninS n_a_b nin0)
    exact own_vret X B dc_102 hC hS ⟨rfl, b, g_b, n_a_b, Or.inr ⟨F_a_ints, F_a_longs, A_b⟩, F_a_width⟩
  rcases M with ⟨F_a_ints, F_a_longs, f, A_t, hf⟩ | ⟨F_a_ints, F_a_longs, A_t⟩
  · -- ints
    refine own_aloadN X B dc_0 rfl rfl (pc' := 1) rfl ?_
    refine own_getF X B (hw _ (List.mem_of_getElem? (i := 15) rfl)) F_a_ints dc_1 (pc' := 4) rfl fun T X => ?_
    refine own_ifnullF X B dc_4 (pc' := 7) rfl ?_
    refine own_lloadN X B dc_7 rfl (pc' := 8) rfl ?_
    refine own_l2i X B dc_8 (pc' := 9) rfl ?_
    refine own_i2l X B dc_9 (pc' := 10) rfl ?_
    refine own_lloadN X B dc_10 rfl (pc' := 11) rfl ?_
    refine own_lcmp X B dc_11 (pc' := 12) rfl ?_
    by_cases hc : (lcmpW (x.toInt32).toInt64 x) = (0 : Int32)
    · -- hc
      refine own_ifT X B dc_12 (teq hc).1 (pc' := 65) (by decide) (by decide) ?_
      have hx : x.toInt32.toInt64 = x := (lw_eq _ _).mp hc
      refine own_iloadN X B dc_65 rfl (pc' := 66) rfl ?_
      refine own_aloadN X B dc_66 rfl rfl (pc' := 67) rfl ?_
      refine own_getF X B (hw _ (List.mem_of_getElem? (i := 12) rfl)) F_a_width dc_67 (pc' := 70) rfl fun T X => ?_
      refine own_imul X B dc_70 (pc' := 71) rfl ?_
      refine own_iloadN X B dc_71 rfl (pc' := 72) rfl ?_
      refine own_iadd X B dc_72 (pc' := 73) rfl ?_
      rw [hrc]
      refine own_istore X B dc_73 (L' := #[.val (.ref a), .val (.int r), .val (.int q), .val (.long x), .second, .val (.int (Int32.ofNat k))]) rfl (pc' := 75) rfl ?_
      refine own_aloadN X B dc_75 rfl rfl (pc' := 76) rfl ?_
      refine own_getF X B (hw _ (List.mem_of_getElem? (i := 15) rfl)) F_a_ints dc_76 (pc' := 79) rfl fun T X => ?_
      refine own_ifnullF X B dc_79 (pc' := 82) rfl ?_
      refine own_aloadN X B dc_82 rfl rfl (pc' := 83) rfl ?_
      refine own_getF X B (hw _ (List.mem_of_getElem? (i := 15) rfl)) F_a_ints dc_83 (pc' := 86) rfl fun T X => ?_
      refine own_iload X B dc_86 rfl (pc' := 88) rfl ?_
      refine own_lloadN X B dc_88 rfl (pc' := 89) rfl ?_
      refine own_l2i X B dc_89 (pc' := 90) rfl ?_
      refine own_iastore X B A_t (i := k) (own_nat (by omega)) hk g_t (Or.inl (List.mem_of_getElem? (i := 1) rfl)) dc_90 (pc' := 91) rfl fun T h X K A_t => ?_
      replace E_a := E_a.keep K
      replace F_a_width := F_a_width.keep K (ninS n_a_t nin0)
      replace F_a_ints := F_a_ints.keep K (ninS n_a_t nin0)
      replace F_a_longs := F_a_longs.keep K (ninS n_a_t nin0)
      refine own_goto X B dc_91 (pc' := 102) (by decide) (by decide) ?_
      exact own_vret X B dc_102 (by decide) (by decide) ⟨rfl, t, g_t, n_a_t, Or.inl ⟨F_a_ints, F_a_longs, _, A_t, fun i hi => own_set_w hf hx i hi⟩, F_a_width⟩
    · -- not hc
      refine own_ifF X B dc_12 (feq hc).1 (pc' := 15) rfl ?_
      refine own_aloadN X B dc_15 rfl rfl (pc' := 16) rfl ?_
      refine own_aloadN X B dc_16 rfl rfl (pc' := 17) rfl ?_
      refine own_getF X B (hw _ (List.mem_of_getElem? (i := 15) rfl)) F_a_ints dc_17 (pc' := 20) rfl fun T X => ?_
      refine own_lenI X B A_t dc_20 (pc' := 21) rfl ?_
      refine own_newJ X B (hw _ (List.mem_of_getElem? (i := 22) rfl)) (n := 4) (cap := 4) rfl (by decide) (by decide) (by decide) (by decide) dc_21 (pc' := 23) rfl fun T h b g_b X K A_b z_b => ?_
      have n_a_b : a ≠ b := own_ne E_a.lt g_b
      have n_t_b : t ≠ b := own_ne A_t.lt g_b
      replace E_a := E_a.keep K
      replace F_a_width := F_a_width.keep K nin0
      replace F_a_ints := F_a_ints.keep K nin0
      replace F_a_longs := F_a_longs.keep K nin0
      replace A_t := A_t.keep K nin0
      refine own_putF X B (hw _ (List.mem_of_getElem? (i := 23) rfl)) F_a_longs E_a (Or.inl (hw _ (List.mem_of_getElem? (i := 24) rfl))) (hw _ (List.mem_of_getElem? (i := 1) rfl)) (ty := (.array .long)) (by decide) rfl rfl g_a (Or.inl (List.mem_of_getElem? (i := 0) rfl)) dc_23 (pc' := 26) rfl fun T h X Wr K E_a F_a_longs => ?_
      replace F_a_width := F_a_width.other Wr (Or.inr (slot_ne (Or.inr (hw _ (List.mem_of_getElem? (i := 13) rfl))) (Or.inl (hw _ (List.mem_of_getElem? (i := 24) rfl))) (by decide) (t := .int) (t' := (.array .long)) (by decide) (by decide)))
      replace F_a_ints := F_a_ints.other Wr (Or.inr (slot_ne (Or.inl (hw _ (List.mem_of_getElem? (i := 16) rfl))) (Or.inl (hw _ (List.mem_of_getElem? (i := 24) rfl))) (by decide) (t := (.array .int)) (t' := (.array .long)) (by decide) (by decide)))
      replace A_t := A_t.keep K (ninS (Ne.symm n_a_t) nin0)
      replace A_b := A_b.keep K (ninS (Ne.symm n_a_b) nin0)
      refine own_iconst X B dc_26 (v := (0 : Int32)) rfl (pc' := 27) rfl ?_
      refine own_istore X B dc_27 (L' := #[.val (.ref a), .val (.int r), .val (.int q), .val (.long x), .second, .val (.int (0 : Int32))]) rfl (pc' := 29) rfl ?_
      refine own_iload X B dc_29 rfl (pc' := 31) rfl ?_
      refine own_aloadN X B dc_31 rfl rfl (pc' := 32) rfl ?_
      refine own_getF X B (hw _ (List.mem_of_getElem? (i := 15) rfl)) F_a_ints dc_32 (pc' := 35) rfl fun T X => ?_
      refine own_lenI X B A_t dc_35 (pc' := 36) rfl ?_
      refine own_icmpF X B dc_36 (tlt (by decide)).2.1 (pc' := 39) rfl ?_
      refine own_aloadN X B dc_39 rfl rfl (pc' := 40) rfl ?_
      refine own_getF X B (hw _ (List.mem_of_getElem? (i := 23) rfl)) F_a_longs dc_40 (pc' := 43) rfl fun T X => ?_
      refine own_iload X B dc_43 rfl (pc' := 45) rfl ?_
      refine own_aloadN X B dc_45 rfl rfl (pc' := 46) rfl ?_
      refine own_getF X B (hw _ (List.mem_of_getElem? (i := 15) rfl)) F_a_ints dc_46 (pc' := 49) rfl fun T X => ?_
      refine own_iload X B dc_49 rfl (pc' := 51) rfl ?_
      refine own_iaload X B A_t (i := 0) rfl (by decide) dc_51 (pc' := 52) rfl ?_
      refine own_i2l X B dc_52 (pc' := 53) rfl ?_
      refine own_lastore X B A_b (i := 0) rfl (by decide) (Nat.le_trans Z0 z_b) (Or.inr z_b) dc_53 (pc' := 54) rfl fun T h X K A_b => ?_
      replace E_a := E_a.keep K
      replace F_a_width := F_a_width.keep K (ninS n_a_b nin0)
      replace F_a_ints := F_a_ints.keep K (ninS n_a_b nin0)
      replace F_a_longs := F_a_longs.keep K (ninS n_a_b nin0)
      replace A_t := A_t.keep K (ninS n_t_b nin0)
      refine own_iinc X B dc_54 rfl (L' := #[.val (.ref a), .val (.int r), .val (.int q), .val (.long x), .second, .val (.int ((0 : Int32) + (1 : Int32)))]) rfl (pc' := 57) rfl ?_
      refine own_goto X B dc_57 (pc' := 29) (by decide) (by decide) ?_
      refine own_iload X B dc_29 rfl (pc' := 31) rfl ?_
      refine own_aloadN X B dc_31 rfl rfl (pc' := 32) rfl ?_
      refine own_getF X B (hw _ (List.mem_of_getElem? (i := 15) rfl)) F_a_ints dc_32 (pc' := 35) rfl fun T X => ?_
      refine own_lenI X B A_t dc_35 (pc' := 36) rfl ?_
      refine own_icmpF X B dc_36 (tlt (by decide)).2.1 (pc' := 39) rfl ?_
      refine own_aloadN X B dc_39 rfl rfl (pc' := 40) rfl ?_
      refine own_getF X B (hw _ (List.mem_of_getElem? (i := 23) rfl)) F_a_longs dc_40 (pc' := 43) rfl fun T X => ?_
      refine own_iload X B dc_43 rfl (pc' := 45) rfl ?_
      refine own_aloadN X B dc_45 rfl rfl (pc' := 46) rfl ?_
      refine own_getF X B (hw _ (List.mem_of_getElem? (i := 15) rfl)) F_a_ints dc_46 (pc' := 49) rfl fun T X => ?_
      refine own_iload X B dc_49 rfl (pc' := 51) rfl ?_
      refine own_iaload X B A_t (i := 1) rfl (by decide) dc_51 (pc' := 52) rfl ?_
      refine own_i2l X B dc_52 (pc' := 53) rfl ?_
      refine own_lastore X B A_b (i := 1) rfl (by decide) (Nat.le_trans Z0 z_b) (Or.inr z_b) dc_53 (pc' := 54) rfl fun T h X K A_b => ?_
      replace E_a := E_a.keep K
      replace F_a_width := F_a_width.keep K (ninS n_a_b nin0)
      replace F_a_ints := F_a_ints.keep K (ninS n_a_b nin0)
      replace F_a_longs := F_a_longs.keep K (ninS n_a_b nin0)
      replace A_t := A_t.keep K (ninS n_t_b nin0)
      refine own_iinc X B dc_54 rfl (L' := #[.val (.ref a), .val (.int r), .val (.int q), .val (.long x), .second, .val (.int (((0 : Int32) + (1 : Int32)) + (1 : Int32)))]) rfl (pc' := 57) rfl ?_
      refine own_goto X B dc_57 (pc' := 29) (by decide) (by decide) ?_
      refine own_iload X B dc_29 rfl (pc' := 31) rfl ?_
      refine own_aloadN X B dc_31 rfl rfl (pc' := 32) rfl ?_
      refine own_getF X B (hw _ (List.mem_of_getElem? (i := 15) rfl)) F_a_ints dc_32 (pc' := 35) rfl fun T X => ?_
      refine own_lenI X B A_t dc_35 (pc' := 36) rfl ?_
      refine own_icmpF X B dc_36 (tlt (by decide)).2.1 (pc' := 39) rfl ?_
      refine own_aloadN X B dc_39 rfl rfl (pc' := 40) rfl ?_
      refine own_getF X B (hw _ (List.mem_of_getElem? (i := 23) rfl)) F_a_longs dc_40 (pc' := 43) rfl fun T X => ?_
      refine own_iload X B dc_43 rfl (pc' := 45) rfl ?_
      refine own_aloadN X B dc_45 rfl rfl (pc' := 46) rfl ?_
      refine own_getF X B (hw _ (List.mem_of_getElem? (i := 15) rfl)) F_a_ints dc_46 (pc' := 49) rfl fun T X => ?_
      refine own_iload X B dc_49 rfl (pc' := 51) rfl ?_
      refine own_iaload X B A_t (i := 2) rfl (by decide) dc_51 (pc' := 52) rfl ?_
      refine own_i2l X B dc_52 (pc' := 53) rfl ?_
      refine own_lastore X B A_b (i := 2) rfl (by decide) (Nat.le_trans Z0 z_b) (Or.inr z_b) dc_53 (pc' := 54) rfl fun T h X K A_b => ?_
      replace E_a := E_a.keep K
      replace F_a_width := F_a_width.keep K (ninS n_a_b nin0)
      replace F_a_ints := F_a_ints.keep K (ninS n_a_b nin0)
      replace F_a_longs := F_a_longs.keep K (ninS n_a_b nin0)
      replace A_t := A_t.keep K (ninS n_t_b nin0)
      refine own_iinc X B dc_54 rfl (L' := #[.val (.ref a), .val (.int r), .val (.int q), .val (.long x), .second, .val (.int ((((0 : Int32) + (1 : Int32)) + (1 : Int32)) + (1 : Int32)))]) rfl (pc' := 57) rfl ?_
      refine own_goto X B dc_57 (pc' := 29) (by decide) (by decide) ?_
      refine own_iload X B dc_29 rfl (pc' := 31) rfl ?_
      refine own_aloadN X B dc_31 rfl rfl (pc' := 32) rfl ?_
      refine own_getF X B (hw _ (List.mem_of_getElem? (i := 15) rfl)) F_a_ints dc_32 (pc' := 35) rfl fun T X => ?_
      refine own_lenI X B A_t dc_35 (pc' := 36) rfl ?_
      refine own_icmpF X B dc_36 (tlt (by decide)).2.1 (pc' := 39) rfl ?_
      refine own_aloadN X B dc_39 rfl rfl (pc' := 40) rfl ?_
      refine own_getF X B (hw _ (List.mem_of_getElem? (i := 23) rfl)) F_a_longs dc_40 (pc' := 43) rfl fun T X => ?_
      refine own_iload X B dc_43 rfl (pc' := 45) rfl ?_
      refine own_aloadN X B dc_45 rfl rfl (pc' := 46) rfl ?_
      refine own_getF X B (hw _ (List.mem_of_getElem? (i := 15) rfl)) F_a_ints dc_46 (pc' := 49) rfl fun T X => ?_
      refine own_iload X B dc_49 rfl (pc' := 51) rfl ?_
      refine own_iaload X B A_t (i := 3) rfl (by decide) dc_51 (pc' := 52) rfl ?_
      refine own_i2l X B dc_52 (pc' := 53) rfl ?_
      refine own_lastore X B A_b (i := 3) rfl (by decide) (Nat.le_trans Z0 z_b) (Or.inr z_b) dc_53 (pc' := 54) rfl fun T h X K A_b => ?_
      replace E_a := E_a.keep K
      replace F_a_width := F_a_width.keep K (ninS n_a_b nin0)
      replace F_a_ints := F_a_ints.keep K (ninS n_a_b nin0)
      replace F_a_longs := F_a_longs.keep K (ninS n_a_b nin0)
      replace A_t := A_t.keep K (ninS n_t_b nin0)
      refine own_iinc X B dc_54 rfl (L' := #[.val (.ref a), .val (.int r), .val (.int q), .val (.long x), .second, .val (.int (((((0 : Int32) + (1 : Int32)) + (1 : Int32)) + (1 : Int32)) + (1 : Int32)))]) rfl (pc' := 57) rfl ?_
      refine own_goto X B dc_57 (pc' := 29) (by decide) (by decide) ?_
      refine own_iload X B dc_29 rfl (pc' := 31) rfl ?_
      refine own_aloadN X B dc_31 rfl rfl (pc' := 32) rfl ?_
      refine own_getF X B (hw _ (List.mem_of_getElem? (i := 15) rfl)) F_a_ints dc_32 (pc' := 35) rfl fun T X => ?_
      refine own_lenI X B A_t dc_35 (pc' := 36) rfl ?_
      refine own_icmpT X B dc_36 (flt (by decide)).2.1 (pc' := 60) (by decide) (by decide) ?_
      refine own_aloadN X B dc_60 rfl rfl (pc' := 61) rfl ?_
      refine own_aconst_null X B dc_61 (pc' := 62) rfl ?_
      refine own_putF X B (hw _ (List.mem_of_getElem? (i := 15) rfl)) F_a_ints E_a (Or.inl (hw _ (List.mem_of_getElem? (i := 16) rfl))) (hw _ (List.mem_of_getElem? (i := 1) rfl)) (ty := (.array .int)) (by decide) rfl rfl g_a (Or.inl (List.mem_of_getElem? (i := 0) rfl)) dc_62 (pc' := 65) rfl fun T h X Wr K E_a F_a_ints => ?_
      replace F_a_width := F_a_width.other Wr (Or.inr (slot_ne (Or.inr (hw _ (List.mem_of_getElem? (i := 13) rfl))) (Or.inl (hw _ (List.mem_of_getElem? (i := 16) rfl))) (by decide) (t := .int) (t' := (.array .int)) (by decide) (by decide)))
      replace F_a_longs := F_a_longs.other Wr (Or.inr (slot_ne (Or.inl (hw _ (List.mem_of_getElem? (i := 24) rfl))) (Or.inl (hw _ (List.mem_of_getElem? (i := 16) rfl))) (by decide) (t := (.array .long)) (t' := (.array .int)) (by decide) (by decide)))
      replace A_t := A_t.keep K (ninS (Ne.symm n_a_t) nin0)
      replace A_b := A_b.keep K (ninS (Ne.symm n_a_b) nin0)
      replace A_b := A_b.congr (g := vals) (fun i hi => by
        match i, hi with
        | 0, _ => exact hf 0 (by decide)
        | 1, _ => exact hf 1 (by decide)
        | 2, _ => exact hf 2 (by decide)
        | 3, _ => exact hf 3 (by decide))
      exact J65L _ _ _ _ b _ X E_a F_a_width F_a_ints F_a_longs A_b (by decide) (by decide) (One.val rfl) (Nat.le_trans Z0 z_b) (Or.inr z_b) n_a_b
  · -- longs
    refine own_aloadN X B dc_0 rfl rfl (pc' := 1) rfl ?_
    refine own_getF X B (hw _ (List.mem_of_getElem? (i := 15) rfl)) F_a_ints dc_1 (pc' := 4) rfl fun T X => ?_
    refine own_ifnullT X B dc_4 (pc' := 65) (by decide) (by decide) ?_
    exact J65L _ _ _ _ t _ X E_a F_a_width F_a_ints F_a_longs A_t (by decide) (by decide) One.u g_t (Or.inl (List.mem_of_getElem? (i := 1) rfl)) n_a_t
theorem dd_0 : decode prog_119_method_4_code 0 = .ok (.iload_n 1, 1) := by decide +kernel
theorem dd_1 : decode prog_119_method_4_code 1 = .ok (.aload_n 0, 1) := by decide +kernel
theorem dd_2 : decode prog_119_method_4_code 2 = .ok (.getfield 12, 3) := by decide +kernel
theorem dd_5 : decode prog_119_method_4_code 5 = .ok (.imul, 1) := by decide +kernel
theorem dd_6 : decode prog_119_method_4_code 6 = .ok (.iload_n 2, 1) := by decide +kernel
theorem dd_7 : decode prog_119_method_4_code 7 = .ok (.iadd, 1) := by decide +kernel
theorem dd_8 : decode prog_119_method_4_code 8 = .ok (.istore_n 3, 1) := by decide +kernel
theorem dd_9 : decode prog_119_method_4_code 9 = .ok (.aload_n 0, 1) := by decide +kernel
theorem dd_10 : decode prog_119_method_4_code 10 = .ok (.getfield 20, 3) := by decide +kernel
theorem dd_13 : decode prog_119_method_4_code 13 = .ok (.ifnull 13, 3) := by decide +kernel
theorem dd_16 : decode prog_119_method_4_code 16 = .ok (.aload_n 0, 1) := by decide +kernel
theorem dd_17 : decode prog_119_method_4_code 17 = .ok (.getfield 20, 3) := by decide +kernel
theorem dd_20 : decode prog_119_method_4_code 20 = .ok (.iload_n 3, 1) := by decide +kernel
theorem dd_21 : decode prog_119_method_4_code 21 = .ok (.iaload, 1) := by decide +kernel
theorem dd_22 : decode prog_119_method_4_code 22 = .ok (.i2l, 1) := by decide +kernel
theorem dd_23 : decode prog_119_method_4_code 23 = .ok (.goto 9, 3) := by decide +kernel
theorem dd_26 : decode prog_119_method_4_code 26 = .ok (.aload_n 0, 1) := by decide +kernel
theorem dd_27 : decode prog_119_method_4_code 27 = .ok (.getfield 16, 3) := by decide +kernel
theorem dd_30 : decode prog_119_method_4_code 30 = .ok (.iload_n 3, 1) := by decide +kernel
theorem dd_31 : decode prog_119_method_4_code 31 = .ok (.laload, 1) := by decide +kernel
theorem dd_32 : decode prog_119_method_4_code 32 = .ok (.lreturn, 1) := by decide +kernel
set_option maxRecDepth 65536 in
set_option maxHeartbeats 40000000 in
theorem rm4 (l : Launch) (Z : State) (a0 : Array Value) (hw : ∀ d ∈ tables_1, d.before a0 Z = true) (a : Addr) (t : Addr) (r : Int32) (q : Int32) (k : Nat) (vals : Nat → Int64) (h0 : Heap) (n0 : Nat) (Z0 : n0 ≤ h0.size) (F_a_width : Fld Z h0 a "com/example/referee/referee/engine/SlotNumbers" "width" "I" (.int (2 : Int32))) (M : own_Mo Z h0 a t vals) (hk : k < 4) (hrc : r * (2 : Int32) + q = Int32.ofNat k) :
    own_C l Z (⟨"com/example/referee/referee/engine/SlotNumbers", "get", "(II)J"⟩ : MethodName) prog_119_method_4_code 4 (some .long) [] ({ frames := 0, cells := 0, slots := 0, locals := 0 } : Room) #[.ref a, .int r, .int q] h0 n0 [] (fun v h => v = some (.long (vals k))) 0 0 := by
  refine own_enter (L0 := #[.val (.ref a), .val (.int r), .val (.int q), .unset]) (plainFor_of_name (by first | (simp [plainName, overriddenIn]; done) | decide +kernel)) (fun m => by first | (simp [entryFrame, mkF, argsToLocals, Value.category]; done) | rfl) ?_
  intro p e s m below meth c T B X
  refine own_iloadN X B dd_0 rfl (pc' := 1) rfl ?_
  refine own_aloadN X B dd_1 rfl rfl (pc' := 2) rfl ?_
  refine own_getF X B (hw _ (List.mem_of_getElem? (i := 12) rfl)) F_a_width dd_2 (pc' := 5) rfl fun T X => ?_
  refine own_imul X B dd_5 (pc' := 6) rfl ?_
  refine own_iloadN X B dd_6 rfl (pc' := 7) rfl ?_
  refine own_iadd X B dd_7 (pc' := 8) rfl ?_
  rw [hrc]
  refine own_istoreN X B dd_8 (L' := #[.val (.ref a), .val (.int r), .val (.int q), .val (.int (Int32.ofNat k))]) rfl (pc' := 9) rfl ?_
  rcases M with ⟨F_a_ints, F_a_longs, f, A_t, hf⟩ | ⟨F_a_ints, F_a_longs, A_t⟩
  · -- ints
    refine own_aloadN X B dd_9 rfl rfl (pc' := 10) rfl ?_
    refine own_getF X B (hw _ (List.mem_of_getElem? (i := 15) rfl)) F_a_ints dd_10 (pc' := 13) rfl fun T X => ?_
    refine own_ifnullF X B dd_13 (pc' := 16) rfl ?_
    refine own_aloadN X B dd_16 rfl rfl (pc' := 17) rfl ?_
    refine own_getF X B (hw _ (List.mem_of_getElem? (i := 15) rfl)) F_a_ints dd_17 (pc' := 20) rfl fun T X => ?_
    refine own_iloadN X B dd_20 rfl (pc' := 21) rfl ?_
    refine own_iaload X B A_t (i := k) (own_nat (by omega)) hk dd_21 (pc' := 22) rfl ?_
    refine own_i2l X B dd_22 (pc' := 23) rfl ?_
    refine own_goto X B dd_23 (pc' := 32) (by decide) (by decide) ?_
    exact own_lret X B dd_32 (by decide) (by decide) (by rw [hf k hk])
  · -- longs
    refine own_aloadN X B dd_9 rfl rfl (pc' := 10) rfl ?_
    refine own_getF X B (hw _ (List.mem_of_getElem? (i := 15) rfl)) F_a_ints dd_10 (pc' := 13) rfl fun T X => ?_
    refine own_ifnullT X B dd_13 (pc' := 26) (by decide) (by decide) ?_
    refine own_aloadN X B dd_26 rfl rfl (pc' := 27) rfl ?_
    refine own_getF X B (hw _ (List.mem_of_getElem? (i := 23) rfl)) F_a_longs dd_27 (pc' := 30) rfl fun T X => ?_
    refine own_iloadN X B dd_30 rfl (pc' := 31) rfl ?_
    refine own_laload X B A_t (i := k) (own_nat (by omega)) hk dd_31 (pc' := 32) rfl ?_
    exact own_lret X B dd_32 (by decide) (by decide) rfl
theorem de_0 : decode method_2_code 0 = .ok (.iload_n 0, 1) := by decide +kernel
theorem de_1 : decode method_2_code 1 = .ok (.iload 7, 2) := by decide +kernel
theorem de_3 : decode method_2_code 3 = .ok (.if_icmp .ne 6, 3) := by decide +kernel
theorem de_6 : decode method_2_code 6 = .ok (.lload 8, 2) := by decide +kernel
theorem de_8 : decode method_2_code 8 = .ok (.lreturn, 1) := by decide +kernel
theorem de_9 : decode method_2_code 9 = .ok (.iload_n 0, 1) := by decide +kernel
theorem de_10 : decode method_2_code 10 = .ok (.iload 4, 2) := by decide +kernel
theorem de_12 : decode method_2_code 12 = .ok (.if_icmp .ne 6, 3) := by decide +kernel
theorem de_15 : decode method_2_code 15 = .ok (.lload 5, 2) := by decide +kernel
theorem de_17 : decode method_2_code 17 = .ok (.lreturn, 1) := by decide +kernel
theorem de_18 : decode method_2_code 18 = .ok (.iload_n 0, 1) := by decide +kernel
theorem de_19 : decode method_2_code 19 = .ok (.iload_n 1, 1) := by decide +kernel
theorem de_20 : decode method_2_code 20 = .ok (.if_icmp .ne 5, 3) := by decide +kernel
theorem de_23 : decode method_2_code 23 = .ok (.lload_n 2, 1) := by decide +kernel
theorem de_24 : decode method_2_code 24 = .ok (.lreturn, 1) := by decide +kernel
theorem de_25 : decode method_2_code 25 = .ok (.lconst 0, 1) := by decide +kernel
theorem de_26 : decode method_2_code 26 = .ok (.lreturn, 1) := by decide +kernel
set_option maxRecDepth 65536 in
set_option maxHeartbeats 40000000 in
theorem rm5 (l : Launch) (Z : State) (a0 : Array Value) (hw : ∀ d ∈ tables_1, d.before a0 Z = true) (n : Nat) (i : Nat) (x : Int64) (j : Nat) (y : Int64) (k : Nat) (z : Int64) (h0 : Heap) (n0 : Nat) (Z0 : n0 ≤ h0.size) (hn : n < 4) (hi : i < 4) (hj : j < 4) (hk : k < 4) :
    own_C l Z (⟨"com/example/referee/referee/engine/SlotNumbersSetPinLaw", "expect", "(IIJIJIJ)J"⟩ : MethodName) method_2_code 10 (some .long) [] ({ frames := 0, cells := 0, slots := 0, locals := 0 } : Room) #[.int (Int32.ofNat n), .int (Int32.ofNat i), .long x, .int (Int32.ofNat j), .long y, .int (Int32.ofNat k), .long z] h0 n0 [] (fun v h => v = some (.long (own_set (own_set (own_set (fun _ => 0) i x) j y) k z n))) 0 0 := by
  refine own_enter (L0 := #[.val (.int (Int32.ofNat n)), .val (.int (Int32.ofNat i)), .val (.long x), .second, .val (.int (Int32.ofNat j)), .val (.long y), .second, .val (.int (Int32.ofNat k)), .val (.long z), .second]) (plainFor_of_name (by first | (simp [plainName, overriddenIn]; done) | decide +kernel)) (fun m => by first | (simp [entryFrame, mkF, argsToLocals, Value.category]; done) | rfl) ?_
  intro p e s m below meth c T B X
  refine own_iloadN X B de_0 rfl (pc' := 1) rfl ?_
  refine own_iload X B de_1 rfl (pc' := 3) rfl ?_
  by_cases h1 : (Int32.ofNat n) = (Int32.ofNat k)
  · -- h1
    refine own_icmpF X B de_3 (teq h1).2 (pc' := 6) rfl ?_
    have qh1 : n = k := (own_eqN (by omega) (by omega)).mp h1
    refine own_lload X B de_6 rfl (pc' := 8) rfl ?_
    exact own_lret X B de_8 (by decide) (by decide) (by simp only [own_set]; rw [if_pos qh1])
  · -- not h1
    refine own_icmpT X B de_3 (feq h1).2 (pc' := 9) (by decide) (by decide) ?_
    have qh1 : ¬ n = k := mt (own_eqN (by omega) (by omega)).mpr h1
    refine own_iloadN X B de_9 rfl (pc' := 10) rfl ?_
    refine own_iload X B de_10 rfl (pc' := 12) rfl ?_
    by_cases h2 : (Int32.ofNat n) = (Int32.ofNat j)
    · -- h2
      refine own_icmpF X B de_12 (teq h2).2 (pc' := 15) rfl ?_
      have qh2 : n = j := (own_eqN (by omega) (by omega)).mp h2
      refine own_lload X B de_15 rfl (pc' := 17) rfl ?_
      exact own_lret X B de_17 (by decide) (by decide) (by simp only [own_set]; rw [if_neg qh1, if_pos qh2])
    · -- not h2
      refine own_icmpT X B de_12 (feq h2).2 (pc' := 18) (by decide) (by decide) ?_
      have qh2 : ¬ n = j := mt (own_eqN (by omega) (by omega)).mpr h2
      refine own_iloadN X B de_18 rfl (pc' := 19) rfl ?_
      refine own_iloadN X B de_19 rfl (pc' := 20) rfl ?_
      by_cases h3 : (Int32.ofNat n) = (Int32.ofNat i)
      · -- h3
        refine own_icmpF X B de_20 (teq h3).2 (pc' := 23) rfl ?_
        have qh3 : n = i := (own_eqN (by omega) (by omega)).mp h3
        refine own_lloadN X B de_23 rfl (pc' := 24) rfl ?_
        exact own_lret X B de_24 (by decide) (by decide) (by simp only [own_set]; rw [if_neg qh1, if_neg qh2, if_pos qh3])
      · -- not h3
        refine own_icmpT X B de_20 (feq h3).2 (pc' := 25) (by decide) (by decide) ?_
        have qh3 : ¬ n = i := mt (own_eqN (by omega) (by omega)).mpr h3
        refine own_lconst X B de_25 (v := (0 : Int64)) rfl (pc' := 26) rfl ?_
        exact own_lret X B de_26 (by decide) (by decide) (by simp only [own_set]; rw [if_neg qh1, if_neg qh2, if_neg qh3])
set_option maxRecDepth 65536 in
set_option maxHeartbeats 40000000 in
theorem rm0 (l : Launch) (Z : State) (a0 : Array Value) (hw : ∀ d ∈ tables_1, d.before a0 Z = true) (x : Int64) (y : Int64) (z : Int64) (q : Int32) (h0 : Heap) (n0 : Nat) (Z0 : n0 ≤ h0.size) (Z1 : h0.size ≤ n0) :
    own_C l Z Jvm.Pilot.@@N@@.x code maxLocals ret tables_1 room_1 #[.long x, .long y, .long z, .int q] h0 n0 [] (fun v h => v = some (.int 1)) 16 128 := by
  refine own_enter (L0 := #[.val (.long x), .second, .val (.long y), .second, .val (.long z), .second, .val (.int q), .unset, .unset, .unset, .unset, .unset]) (plainFor_of_name (by first | (simp [plainName, overriddenIn]; done) | decide +kernel)) (fun m => by first | (simp [entryFrame, mkF, argsToLocals, Value.category, maxLocals]; done) | rfl) ?_
  intro p e s m below meth c T B X
  refine own_iload X B at_0 rfl (pc' := 2) rfl ?_
  refine own_iconst X B at_2 (v := (3 : Int32)) rfl (pc' := 3) rfl ?_
  refine own_iand X B at_3 (pc' := 4) rfl ?_
  obtain ⟨i, hi, ei⟩ := own_and3 q
  rw [ei]
  refine own_istore X B at_4 (L' := #[.val (.long x), .second, .val (.long y), .second, .val (.long z), .second, .val (.int q), .val (.int (Int32.ofNat i)), .unset, .unset, .unset, .unset]) rfl (pc' := 6) rfl ?_
  refine own_iload X B at_6 rfl (pc' := 8) rfl ?_
  refine own_iconst X B at_8 (v := (2 : Int32)) rfl (pc' := 9) rfl ?_
  refine own_ishr X B at_9 (pc' := 10) rfl ?_
  refine own_iconst X B at_10 (v := (3 : Int32)) rfl (pc' := 11) rfl ?_
  refine own_iand X B at_11 (pc' := 12) rfl ?_
  obtain ⟨j, hj, ej⟩ := own_and3 (q >>> ((2 : Int32) &&& 31))
  rw [ej]
  refine own_istore X B at_12 (L' := #[.val (.long x), .second, .val (.long y), .second, .val (.long z), .second, .val (.int q), .val (.int (Int32.ofNat i)), .val (.int (Int32.ofNat j)), .unset, .unset, .unset]) rfl (pc' := 14) rfl ?_
  refine own_iload X B at_14 rfl (pc' := 16) rfl ?_
  refine own_iconst X B at_16 (v := (4 : Int32)) rfl (pc' := 17) rfl ?_
  refine own_ishr X B at_17 (pc' := 18) rfl ?_
  refine own_iconst X B at_18 (v := (3 : Int32)) rfl (pc' := 19) rfl ?_
  refine own_iand X B at_19 (pc' := 20) rfl ?_
  obtain ⟨k, hk, ek⟩ := own_and3 (q >>> ((4 : Int32) &&& 31))
  rw [ek]
  refine own_istore X B at_20 (L' := #[.val (.long x), .second, .val (.long y), .second, .val (.long z), .second, .val (.int q), .val (.int (Int32.ofNat i)), .val (.int (Int32.ofNat j)), .val (.int (Int32.ofNat k)), .unset, .unset]) rfl (pc' := 22) rfl ?_
  refine own_newO X B (hw _ (List.mem_of_getElem? (i := 0) rfl)) (hw _ (List.mem_of_getElem? (i := 1) rfl)) (hw _ (List.mem_of_getElem? (i := 2) rfl)) (by decide) (by decide) at_22 (pc' := 25) rfl fun T h b1 g_b1 X K E_b1 D_b1 z_b1 => ?_
  have F_b1_width : Fld Z h b1 "com/example/referee/referee/engine/SlotNumbers" "width" "I" (.int (0 : Int32)) := D_b1 (Or.inr (hw _ (List.mem_of_getElem? (i := 13) rfl))) (ty := .int) (by decide)
  have F_b1_ints : Fld Z h b1 "com/example/referee/referee/engine/SlotNumbers" "ints" "[I" .null := D_b1 (Or.inl (hw _ (List.mem_of_getElem? (i := 16) rfl))) (ty := (.array .int)) (by decide)
  have F_b1_longs : Fld Z h b1 "com/example/referee/referee/engine/SlotNumbers" "longs" "[J" .null := D_b1 (Or.inl (hw _ (List.mem_of_getElem? (i := 24) rfl))) (ty := (.array .long)) (by decide)
  refine own_dup X B at_25 rfl (pc' := 26) rfl ?_
  refine own_iconst X B at_26 (v := (2 : Int32)) rfl (pc' := 27) rfl ?_
  refine own_iconst X B at_27 (v := (2 : Int32)) rfl (pc' := 28) rfl ?_
  have sz := own_sz X Z0
  refine own_callI X B (W := 1) rfl (hw _ (List.mem_of_getElem? (i := 3) rfl)) (hw _ (List.mem_of_getElem? (i := 4) rfl)) (hw _ (List.mem_of_getElem? (i := 5) rfl)) (hw _ (List.mem_of_getElem? (i := 2) rfl)) (by decide) (rm2 l Z a0 hw b1 h n0 (own_sz X Z0) (Nat.le_trans Z0 z_b1) E_b1 F_b1_ints F_b1_longs F_b1_width) (by decide) (by decide) (by decide) (by decide) rfl (argsL := [.int (2 : Int32), .int (2 : Int32)]) pd_1 rfl rfl (st := [.ref b1]) rfl (Nat.le_refl _) at_28 (pc' := 31) rfl (allS (Or.inr z_b1) all0) ?_
  rintro v T h X K ⟨rfl, t, z_t, n_b1_t, F_b1_ints, F_b1_longs, F_b1_width, A_t⟩
  replace E_b1 := E_b1.keep K
  show own_H _ _ _ _ _ _ _ _ T (mkF m 31 #[.val (.long x), .second, .val (.long y), .second, .val (.long z), .second, .val (.int q), .val (.int (Int32.ofNat i)), .val (.int (Int32.ofNat j)), .val (.int (Int32.ofNat k)), .unset, .unset] [.ref b1])
  have g_t := Nat.le_trans sz z_t
  have M : own_Mo Z h b1 t (fun _ => 0) := Or.inl ⟨F_b1_ints, F_b1_longs, _, A_t, fun _ _ => rfl⟩
  refine own_astore X B at_31 rfl (L' := #[.val (.long x), .second, .val (.long y), .second, .val (.long z), .second, .val (.int q), .val (.int (Int32.ofNat i)), .val (.int (Int32.ofNat j)), .val (.int (Int32.ofNat k)), .val (.ref b1), .unset]) rfl (pc' := 33) rfl ?_
  refine own_aload X B at_33 rfl rfl (pc' := 35) rfl ?_
  refine own_iload X B at_35 rfl (pc' := 37) rfl ?_
  refine own_iconst X B at_37 (v := (1 : Int32)) rfl (pc' := 38) rfl ?_
  refine own_ishr X B at_38 (pc' := 39) rfl ?_
  refine own_iload X B at_39 rfl (pc' := 41) rfl ?_
  refine own_iconst X B at_41 (v := (1 : Int32)) rfl (pc' := 42) rfl ?_
  refine own_iand X B at_42 (pc' := 43) rfl ?_
  refine own_lloadN X B at_43 rfl (pc' := 44) rfl ?_
  refine own_callV X B (W := 0) (hw _ (List.mem_of_getElem? (i := 17) rfl)) (hw _ (List.mem_of_getElem? (i := 18) rfl)) (hw _ (List.mem_of_getElem? (i := 20) rfl)) (hw _ (List.mem_of_getElem? (i := 19) rfl)) (hw _ (List.mem_of_getElem? (i := 21) rfl)) (hw _ (List.mem_of_getElem? (i := 2) rfl)) (by decide) E_b1 (rm3 l Z a0 hw b1 t ((Int32.ofNat i) >>> ((1 : Int32) &&& 31)) ((Int32.ofNat i) &&& (1 : Int32)) x i (fun _ => 0) h n0 (own_sz X Z0) (Nat.le_trans Z0 z_b1) g_t n_b1_t E_b1 F_b1_width M hi (own_rc i hi)) (by decide) (by decide) (by decide) (by decide) rfl (argsL := [.int ((Int32.ofNat i) >>> ((1 : Int32) &&& 31)), .int ((Int32.ofNat i) &&& (1 : Int32)), .long x]) pd_4 rfl rfl (st := []) rfl (Nat.le_refl _) at_44 (pc' := 47) rfl (allS (Or.inr z_b1) (allS (Or.inr (Nat.le_trans Z1 g_t)) all0)) ?_
  rintro v T h X K ⟨rfl, t, g_t, n_b1_t, M, F_b1_width⟩
  replace E_b1 := E_b1.keep K
  show own_H _ _ _ _ _ _ _ _ T (mkF m 47 #[.val (.long x), .second, .val (.long y), .second, .val (.long z), .second, .val (.int q), .val (.int (Int32.ofNat i)), .val (.int (Int32.ofNat j)), .val (.int (Int32.ofNat k)), .val (.ref b1), .unset] [])
  refine own_aload X B at_47 rfl rfl (pc' := 49) rfl ?_
  refine own_iload X B at_49 rfl (pc' := 51) rfl ?_
  refine own_iconst X B at_51 (v := (1 : Int32)) rfl (pc' := 52) rfl ?_
  refine own_ishr X B at_52 (pc' := 53) rfl ?_
  refine own_iload X B at_53 rfl (pc' := 55) rfl ?_
  refine own_iconst X B at_55 (v := (1 : Int32)) rfl (pc' := 56) rfl ?_
  refine own_iand X B at_56 (pc' := 57) rfl ?_
  refine own_lloadN X B at_57 rfl (pc' := 58) rfl ?_
  refine own_callV X B (W := 0) (hw _ (List.mem_of_getElem? (i := 17) rfl)) (hw _ (List.mem_of_getElem? (i := 18) rfl)) (hw _ (List.mem_of_getElem? (i := 20) rfl)) (hw _ (List.mem_of_getElem? (i := 19) rfl)) (hw _ (List.mem_of_getElem? (i := 21) rfl)) (hw _ (List.mem_of_getElem? (i := 2) rfl)) (by decide) E_b1 (rm3 l Z a0 hw b1 t ((Int32.ofNat j) >>> ((1 : Int32) &&& 31)) ((Int32.ofNat j) &&& (1 : Int32)) y j (own_set (fun _ => 0) i x) h n0 (own_sz X Z0) (Nat.le_trans Z0 z_b1) g_t n_b1_t E_b1 F_b1_width M hj (own_rc j hj)) (by decide) (by decide) (by decide) (by decide) rfl (argsL := [.int ((Int32.ofNat j) >>> ((1 : Int32) &&& 31)), .int ((Int32.ofNat j) &&& (1 : Int32)), .long y]) pd_4 rfl rfl (st := []) rfl (Nat.le_refl _) at_58 (pc' := 61) rfl (allS (Or.inr z_b1) (allS (Or.inr (Nat.le_trans Z1 g_t)) all0)) ?_
  rintro v T h X K ⟨rfl, t, g_t, n_b1_t, M, F_b1_width⟩
  replace E_b1 := E_b1.keep K
  show own_H _ _ _ _ _ _ _ _ T (mkF m 61 #[.val (.long x), .second, .val (.long y), .second, .val (.long z), .second, .val (.int q), .val (.int (Int32.ofNat i)), .val (.int (Int32.ofNat j)), .val (.int (Int32.ofNat k)), .val (.ref b1), .unset] [])
  refine own_aload X B at_61 rfl rfl (pc' := 63) rfl ?_
  refine own_iload X B at_63 rfl (pc' := 65) rfl ?_
  refine own_iconst X B at_65 (v := (1 : Int32)) rfl (pc' := 66) rfl ?_
  refine own_ishr X B at_66 (pc' := 67) rfl ?_
  refine own_iload X B at_67 rfl (pc' := 69) rfl ?_
  refine own_iconst X B at_69 (v := (1 : Int32)) rfl (pc' := 70) rfl ?_
  refine own_iand X B at_70 (pc' := 71) rfl ?_
  refine own_lload X B at_71 rfl (pc' := 73) rfl ?_
  refine own_callV X B (W := 0) (hw _ (List.mem_of_getElem? (i := 17) rfl)) (hw _ (List.mem_of_getElem? (i := 18) rfl)) (hw _ (List.mem_of_getElem? (i := 20) rfl)) (hw _ (List.mem_of_getElem? (i := 19) rfl)) (hw _ (List.mem_of_getElem? (i := 21) rfl)) (hw _ (List.mem_of_getElem? (i := 2) rfl)) (by decide) E_b1 (rm3 l Z a0 hw b1 t ((Int32.ofNat k) >>> ((1 : Int32) &&& 31)) ((Int32.ofNat k) &&& (1 : Int32)) z k (own_set (own_set (fun _ => 0) i x) j y) h n0 (own_sz X Z0) (Nat.le_trans Z0 z_b1) g_t n_b1_t E_b1 F_b1_width M hk (own_rc k hk)) (by decide) (by decide) (by decide) (by decide) rfl (argsL := [.int ((Int32.ofNat k) >>> ((1 : Int32) &&& 31)), .int ((Int32.ofNat k) &&& (1 : Int32)), .long z]) pd_4 rfl rfl (st := []) rfl (Nat.le_refl _) at_73 (pc' := 76) rfl (allS (Or.inr z_b1) (allS (Or.inr (Nat.le_trans Z1 g_t)) all0)) ?_
  rintro v T h X K ⟨rfl, t, g_t, n_b1_t, M, F_b1_width⟩
  replace E_b1 := E_b1.keep K
  show own_H _ _ _ _ _ _ _ _ T (mkF m 76 #[.val (.long x), .second, .val (.long y), .second, .val (.long z), .second, .val (.int q), .val (.int (Int32.ofNat i)), .val (.int (Int32.ofNat j)), .val (.int (Int32.ofNat k)), .val (.ref b1), .unset] [])
  refine own_iconst X B at_76 (v := (1 : Int32)) rfl (pc' := 77) rfl ?_
  refine own_istore X B at_77 (L' := #[.val (.long x), .second, .val (.long y), .second, .val (.long z), .second, .val (.int q), .val (.int (Int32.ofNat i)), .val (.int (Int32.ofNat j)), .val (.int (Int32.ofNat k)), .val (.ref b1), .val (.int (1 : Int32))]) rfl (pc' := 79) rfl ?_
  refine own_iload X B at_79 rfl (pc' := 81) rfl ?_
  refine own_ifF X B at_81 (feq (by decide : ¬ (1 : Int32) = 0)).1 (pc' := 84) rfl ?_
  refine own_aload X B at_84 rfl rfl (pc' := 86) rfl ?_
  refine own_iconst X B at_86 (v := (0 : Int32)) rfl (pc' := 87) rfl ?_
  refine own_iconst X B at_87 (v := (0 : Int32)) rfl (pc' := 88) rfl ?_
  refine own_callV X B (W := 0) (hw _ (List.mem_of_getElem? (i := 25) rfl)) (hw _ (List.mem_of_getElem? (i := 26) rfl)) (hw _ (List.mem_of_getElem? (i := 28) rfl)) (hw _ (List.mem_of_getElem? (i := 27) rfl)) (hw _ (List.mem_of_getElem? (i := 29) rfl)) (hw _ (List.mem_of_getElem? (i := 2) rfl)) (by decide) E_b1 (rm4 l Z a0 hw b1 t (0 : Int32) (0 : Int32) 0 (own_set (own_set (own_set (fun _ => 0) i x) j y) k z) h n0 (own_sz X Z0) F_b1_width M (by decide) (by decide)) (by decide) (by decide) (by decide) (by decide) rfl (argsL := [.int (0 : Int32), .int (0 : Int32)]) pd_5 rfl rfl (st := []) rfl (Nat.le_refl _) at_88 (pc' := 91) rfl all0 ?_
  rintro v T h X K rfl
  replace E_b1 := E_b1.keep K
  replace F_b1_width := F_b1_width.keep K nin0
  show own_H _ _ _ _ _ _ _ _ T (mkF m 91 #[.val (.long x), .second, .val (.long y), .second, .val (.long z), .second, .val (.int q), .val (.int (Int32.ofNat i)), .val (.int (Int32.ofNat j)), .val (.int (Int32.ofNat k)), .val (.ref b1), .val (.int (1 : Int32))] [.long ((own_set (own_set (own_set (fun _ => 0) i x) j y) k z) 0)])
  replace M := M.keep K nin0 nin0
  refine own_iconst X B at_91 (v := (0 : Int32)) rfl (pc' := 92) rfl ?_
  refine own_iload X B at_92 rfl (pc' := 94) rfl ?_
  refine own_lloadN X B at_94 rfl (pc' := 95) rfl ?_
  refine own_iload X B at_95 rfl (pc' := 97) rfl ?_
  refine own_lloadN X B at_97 rfl (pc' := 98) rfl ?_
  refine own_iload X B at_98 rfl (pc' := 100) rfl ?_
  refine own_lload X B at_100 rfl (pc' := 102) rfl ?_
  refine own_callS X B (W := 2) (hw _ (List.mem_of_getElem? (i := 30) rfl)) (hw _ (List.mem_of_getElem? (i := 31) rfl)) (hw _ (List.mem_of_getElem? (i := 32) rfl)) (hw _ (List.mem_of_getElem? (i := 33) rfl)) (by decide) (rm5 l Z a0 hw 0 i x j y k z h n0 (own_sz X Z0) (by decide) hi hj hk) (by decide) (by decide) (by decide) (by decide) rfl (argsL := [.int (0 : Int32), .int (Int32.ofNat i), .long x, .int (Int32.ofNat j), .long y, .int (Int32.ofNat k), .long z]) pd_6 rfl rfl (st := [.long ((own_set (own_set (own_set (fun _ => 0) i x) j y) k z) 0)]) rfl (Nat.le_refl _) at_102 (pc' := 105) rfl all0 ?_
  rintro v T h X K rfl
  replace E_b1 := E_b1.keep K
  replace F_b1_width := F_b1_width.keep K nin0
  show own_H _ _ _ _ _ _ _ _ T (mkF m 105 #[.val (.long x), .second, .val (.long y), .second, .val (.long z), .second, .val (.int q), .val (.int (Int32.ofNat i)), .val (.int (Int32.ofNat j)), .val (.int (Int32.ofNat k)), .val (.ref b1), .val (.int (1 : Int32))] [.long ((own_set (own_set (own_set (fun _ => 0) i x) j y) k z) 0), .long ((own_set (own_set (own_set (fun _ => 0) i x) j y) k z) 0)])
  replace M := M.keep K nin0 nin0
  refine own_lcmp X B at_105 (pc' := 106) rfl ?_
  refine own_ifF X B at_106 (teq ((lw_eq _ _).mpr rfl)).2 (pc' := 109) rfl ?_
  refine own_iconst X B at_109 (v := (1 : Int32)) rfl (pc' := 110) rfl ?_
  refine own_goto X B at_110 (pc' := 114) (by decide) (by decide) ?_
  refine own_istore X B at_114 (L' := #[.val (.long x), .second, .val (.long y), .second, .val (.long z), .second, .val (.int q), .val (.int (Int32.ofNat i)), .val (.int (Int32.ofNat j)), .val (.int (Int32.ofNat k)), .val (.ref b1), .val (.int (1 : Int32))]) rfl (pc' := 116) rfl ?_
  refine own_iload X B at_116 rfl (pc' := 118) rfl ?_
  refine own_ifF X B at_118 (feq (by decide : ¬ (1 : Int32) = 0)).1 (pc' := 121) rfl ?_
  refine own_aload X B at_121 rfl rfl (pc' := 123) rfl ?_
  refine own_iconst X B at_123 (v := (0 : Int32)) rfl (pc' := 124) rfl ?_
  refine own_iconst X B at_124 (v := (1 : Int32)) rfl (pc' := 125) rfl ?_
  refine own_callV X B (W := 0) (hw _ (List.mem_of_getElem? (i := 25) rfl)) (hw _ (List.mem_of_getElem? (i := 26) rfl)) (hw _ (List.mem_of_getElem? (i := 28) rfl)) (hw _ (List.mem_of_getElem? (i := 27) rfl)) (hw _ (List.mem_of_getElem? (i := 29) rfl)) (hw _ (List.mem_of_getElem? (i := 2) rfl)) (by decide) E_b1 (rm4 l Z a0 hw b1 t (0 : Int32) (1 : Int32) 1 (own_set (own_set (own_set (fun _ => 0) i x) j y) k z) h n0 (own_sz X Z0) F_b1_width M (by decide) (by decide)) (by decide) (by decide) (by decide) (by decide) rfl (argsL := [.int (0 : Int32), .int (1 : Int32)]) pd_5 rfl rfl (st := []) rfl (Nat.le_refl _) at_125 (pc' := 128) rfl all0 ?_
  rintro v T h X K rfl
  replace E_b1 := E_b1.keep K
  replace F_b1_width := F_b1_width.keep K nin0
  show own_H _ _ _ _ _ _ _ _ T (mkF m 128 #[.val (.long x), .second, .val (.long y), .second, .val (.long z), .second, .val (.int q), .val (.int (Int32.ofNat i)), .val (.int (Int32.ofNat j)), .val (.int (Int32.ofNat k)), .val (.ref b1), .val (.int (1 : Int32))] [.long ((own_set (own_set (own_set (fun _ => 0) i x) j y) k z) 1)])
  replace M := M.keep K nin0 nin0
  refine own_iconst X B at_128 (v := (1 : Int32)) rfl (pc' := 129) rfl ?_
  refine own_iload X B at_129 rfl (pc' := 131) rfl ?_
  refine own_lloadN X B at_131 rfl (pc' := 132) rfl ?_
  refine own_iload X B at_132 rfl (pc' := 134) rfl ?_
  refine own_lloadN X B at_134 rfl (pc' := 135) rfl ?_
  refine own_iload X B at_135 rfl (pc' := 137) rfl ?_
  refine own_lload X B at_137 rfl (pc' := 139) rfl ?_
  refine own_callS X B (W := 2) (hw _ (List.mem_of_getElem? (i := 30) rfl)) (hw _ (List.mem_of_getElem? (i := 31) rfl)) (hw _ (List.mem_of_getElem? (i := 32) rfl)) (hw _ (List.mem_of_getElem? (i := 33) rfl)) (by decide) (rm5 l Z a0 hw 1 i x j y k z h n0 (own_sz X Z0) (by decide) hi hj hk) (by decide) (by decide) (by decide) (by decide) rfl (argsL := [.int (1 : Int32), .int (Int32.ofNat i), .long x, .int (Int32.ofNat j), .long y, .int (Int32.ofNat k), .long z]) pd_6 rfl rfl (st := [.long ((own_set (own_set (own_set (fun _ => 0) i x) j y) k z) 1)]) rfl (Nat.le_refl _) at_139 (pc' := 142) rfl all0 ?_
  rintro v T h X K rfl
  replace E_b1 := E_b1.keep K
  replace F_b1_width := F_b1_width.keep K nin0
  show own_H _ _ _ _ _ _ _ _ T (mkF m 142 #[.val (.long x), .second, .val (.long y), .second, .val (.long z), .second, .val (.int q), .val (.int (Int32.ofNat i)), .val (.int (Int32.ofNat j)), .val (.int (Int32.ofNat k)), .val (.ref b1), .val (.int (1 : Int32))] [.long ((own_set (own_set (own_set (fun _ => 0) i x) j y) k z) 1), .long ((own_set (own_set (own_set (fun _ => 0) i x) j y) k z) 1)])
  replace M := M.keep K nin0 nin0
  refine own_lcmp X B at_142 (pc' := 143) rfl ?_
  refine own_ifF X B at_143 (teq ((lw_eq _ _).mpr rfl)).2 (pc' := 146) rfl ?_
  refine own_iconst X B at_146 (v := (1 : Int32)) rfl (pc' := 147) rfl ?_
  refine own_goto X B at_147 (pc' := 151) (by decide) (by decide) ?_
  refine own_istore X B at_151 (L' := #[.val (.long x), .second, .val (.long y), .second, .val (.long z), .second, .val (.int q), .val (.int (Int32.ofNat i)), .val (.int (Int32.ofNat j)), .val (.int (Int32.ofNat k)), .val (.ref b1), .val (.int (1 : Int32))]) rfl (pc' := 153) rfl ?_
  refine own_iload X B at_153 rfl (pc' := 155) rfl ?_
  refine own_ifF X B at_155 (feq (by decide : ¬ (1 : Int32) = 0)).1 (pc' := 158) rfl ?_
  refine own_aload X B at_158 rfl rfl (pc' := 160) rfl ?_
  refine own_iconst X B at_160 (v := (1 : Int32)) rfl (pc' := 161) rfl ?_
  refine own_iconst X B at_161 (v := (0 : Int32)) rfl (pc' := 162) rfl ?_
  refine own_callV X B (W := 0) (hw _ (List.mem_of_getElem? (i := 25) rfl)) (hw _ (List.mem_of_getElem? (i := 26) rfl)) (hw _ (List.mem_of_getElem? (i := 28) rfl)) (hw _ (List.mem_of_getElem? (i := 27) rfl)) (hw _ (List.mem_of_getElem? (i := 29) rfl)) (hw _ (List.mem_of_getElem? (i := 2) rfl)) (by decide) E_b1 (rm4 l Z a0 hw b1 t (1 : Int32) (0 : Int32) 2 (own_set (own_set (own_set (fun _ => 0) i x) j y) k z) h n0 (own_sz X Z0) F_b1_width M (by decide) (by decide)) (by decide) (by decide) (by decide) (by decide) rfl (argsL := [.int (1 : Int32), .int (0 : Int32)]) pd_5 rfl rfl (st := []) rfl (Nat.le_refl _) at_162 (pc' := 165) rfl all0 ?_
  rintro v T h X K rfl
  replace E_b1 := E_b1.keep K
  replace F_b1_width := F_b1_width.keep K nin0
  show own_H _ _ _ _ _ _ _ _ T (mkF m 165 #[.val (.long x), .second, .val (.long y), .second, .val (.long z), .second, .val (.int q), .val (.int (Int32.ofNat i)), .val (.int (Int32.ofNat j)), .val (.int (Int32.ofNat k)), .val (.ref b1), .val (.int (1 : Int32))] [.long ((own_set (own_set (own_set (fun _ => 0) i x) j y) k z) 2)])
  replace M := M.keep K nin0 nin0
  refine own_iconst X B at_165 (v := (2 : Int32)) rfl (pc' := 166) rfl ?_
  refine own_iload X B at_166 rfl (pc' := 168) rfl ?_
  refine own_lloadN X B at_168 rfl (pc' := 169) rfl ?_
  refine own_iload X B at_169 rfl (pc' := 171) rfl ?_
  refine own_lloadN X B at_171 rfl (pc' := 172) rfl ?_
  refine own_iload X B at_172 rfl (pc' := 174) rfl ?_
  refine own_lload X B at_174 rfl (pc' := 176) rfl ?_
  refine own_callS X B (W := 2) (hw _ (List.mem_of_getElem? (i := 30) rfl)) (hw _ (List.mem_of_getElem? (i := 31) rfl)) (hw _ (List.mem_of_getElem? (i := 32) rfl)) (hw _ (List.mem_of_getElem? (i := 33) rfl)) (by decide) (rm5 l Z a0 hw 2 i x j y k z h n0 (own_sz X Z0) (by decide) hi hj hk) (by decide) (by decide) (by decide) (by decide) rfl (argsL := [.int (2 : Int32), .int (Int32.ofNat i), .long x, .int (Int32.ofNat j), .long y, .int (Int32.ofNat k), .long z]) pd_6 rfl rfl (st := [.long ((own_set (own_set (own_set (fun _ => 0) i x) j y) k z) 2)]) rfl (Nat.le_refl _) at_176 (pc' := 179) rfl all0 ?_
  rintro v T h X K rfl
  replace E_b1 := E_b1.keep K
  replace F_b1_width := F_b1_width.keep K nin0
  show own_H _ _ _ _ _ _ _ _ T (mkF m 179 #[.val (.long x), .second, .val (.long y), .second, .val (.long z), .second, .val (.int q), .val (.int (Int32.ofNat i)), .val (.int (Int32.ofNat j)), .val (.int (Int32.ofNat k)), .val (.ref b1), .val (.int (1 : Int32))] [.long ((own_set (own_set (own_set (fun _ => 0) i x) j y) k z) 2), .long ((own_set (own_set (own_set (fun _ => 0) i x) j y) k z) 2)])
  replace M := M.keep K nin0 nin0
  refine own_lcmp X B at_179 (pc' := 180) rfl ?_
  refine own_ifF X B at_180 (teq ((lw_eq _ _).mpr rfl)).2 (pc' := 183) rfl ?_
  refine own_iconst X B at_183 (v := (1 : Int32)) rfl (pc' := 184) rfl ?_
  refine own_goto X B at_184 (pc' := 188) (by decide) (by decide) ?_
  refine own_istore X B at_188 (L' := #[.val (.long x), .second, .val (.long y), .second, .val (.long z), .second, .val (.int q), .val (.int (Int32.ofNat i)), .val (.int (Int32.ofNat j)), .val (.int (Int32.ofNat k)), .val (.ref b1), .val (.int (1 : Int32))]) rfl (pc' := 190) rfl ?_
  refine own_iload X B at_190 rfl (pc' := 192) rfl ?_
  refine own_ifF X B at_192 (feq (by decide : ¬ (1 : Int32) = 0)).1 (pc' := 195) rfl ?_
  refine own_aload X B at_195 rfl rfl (pc' := 197) rfl ?_
  refine own_iconst X B at_197 (v := (1 : Int32)) rfl (pc' := 198) rfl ?_
  refine own_iconst X B at_198 (v := (1 : Int32)) rfl (pc' := 199) rfl ?_
  refine own_callV X B (W := 0) (hw _ (List.mem_of_getElem? (i := 25) rfl)) (hw _ (List.mem_of_getElem? (i := 26) rfl)) (hw _ (List.mem_of_getElem? (i := 28) rfl)) (hw _ (List.mem_of_getElem? (i := 27) rfl)) (hw _ (List.mem_of_getElem? (i := 29) rfl)) (hw _ (List.mem_of_getElem? (i := 2) rfl)) (by decide) E_b1 (rm4 l Z a0 hw b1 t (1 : Int32) (1 : Int32) 3 (own_set (own_set (own_set (fun _ => 0) i x) j y) k z) h n0 (own_sz X Z0) F_b1_width M (by decide) (by decide)) (by decide) (by decide) (by decide) (by decide) rfl (argsL := [.int (1 : Int32), .int (1 : Int32)]) pd_5 rfl rfl (st := []) rfl (Nat.le_refl _) at_199 (pc' := 202) rfl all0 ?_
  rintro v T h X K rfl
  replace E_b1 := E_b1.keep K
  replace F_b1_width := F_b1_width.keep K nin0
  show own_H _ _ _ _ _ _ _ _ T (mkF m 202 #[.val (.long x), .second, .val (.long y), .second, .val (.long z), .second, .val (.int q), .val (.int (Int32.ofNat i)), .val (.int (Int32.ofNat j)), .val (.int (Int32.ofNat k)), .val (.ref b1), .val (.int (1 : Int32))] [.long ((own_set (own_set (own_set (fun _ => 0) i x) j y) k z) 3)])
  replace M := M.keep K nin0 nin0
  refine own_iconst X B at_202 (v := (3 : Int32)) rfl (pc' := 203) rfl ?_
  refine own_iload X B at_203 rfl (pc' := 205) rfl ?_
  refine own_lloadN X B at_205 rfl (pc' := 206) rfl ?_
  refine own_iload X B at_206 rfl (pc' := 208) rfl ?_
  refine own_lloadN X B at_208 rfl (pc' := 209) rfl ?_
  refine own_iload X B at_209 rfl (pc' := 211) rfl ?_
  refine own_lload X B at_211 rfl (pc' := 213) rfl ?_
  refine own_callS X B (W := 2) (hw _ (List.mem_of_getElem? (i := 30) rfl)) (hw _ (List.mem_of_getElem? (i := 31) rfl)) (hw _ (List.mem_of_getElem? (i := 32) rfl)) (hw _ (List.mem_of_getElem? (i := 33) rfl)) (by decide) (rm5 l Z a0 hw 3 i x j y k z h n0 (own_sz X Z0) (by decide) hi hj hk) (by decide) (by decide) (by decide) (by decide) rfl (argsL := [.int (3 : Int32), .int (Int32.ofNat i), .long x, .int (Int32.ofNat j), .long y, .int (Int32.ofNat k), .long z]) pd_6 rfl rfl (st := [.long ((own_set (own_set (own_set (fun _ => 0) i x) j y) k z) 3)]) rfl (Nat.le_refl _) at_213 (pc' := 216) rfl all0 ?_
  rintro v T h X K rfl
  replace E_b1 := E_b1.keep K
  replace F_b1_width := F_b1_width.keep K nin0
  show own_H _ _ _ _ _ _ _ _ T (mkF m 216 #[.val (.long x), .second, .val (.long y), .second, .val (.long z), .second, .val (.int q), .val (.int (Int32.ofNat i)), .val (.int (Int32.ofNat j)), .val (.int (Int32.ofNat k)), .val (.ref b1), .val (.int (1 : Int32))] [.long ((own_set (own_set (own_set (fun _ => 0) i x) j y) k z) 3), .long ((own_set (own_set (own_set (fun _ => 0) i x) j y) k z) 3)])
  replace M := M.keep K nin0 nin0
  refine own_lcmp X B at_216 (pc' := 217) rfl ?_
  refine own_ifF X B at_217 (teq ((lw_eq _ _).mpr rfl)).2 (pc' := 220) rfl ?_
  refine own_iconst X B at_220 (v := (1 : Int32)) rfl (pc' := 221) rfl ?_
  refine own_goto X B at_221 (pc' := 225) (by decide) (by decide) ?_
  refine own_istore X B at_225 (L' := #[.val (.long x), .second, .val (.long y), .second, .val (.long z), .second, .val (.int q), .val (.int (Int32.ofNat i)), .val (.int (Int32.ofNat j)), .val (.int (Int32.ofNat k)), .val (.ref b1), .val (.int (1 : Int32))]) rfl (pc' := 227) rfl ?_
  refine own_iload X B at_227 rfl (pc' := 229) rfl ?_
  exact own_zret X B at_229 (by decide) (by decide) rfl rfl
set_option maxRecDepth 65536 in
set_option maxHeartbeats 40000000 in
theorem comes_1 {Post : Tables → Env → Array Value → State → Outcome → State → Prop} (hpost : ∀ tb e args s v u, (limb_1_1.after args s (.returned v) u = true ∧ limb_1_2.after args s (.returned v) u = true ∧ True) → FrameEnd s (.returned v) u (Jvm.fieldLocs frame_1_writes args s ++ Jvm.arrayLocs frame_1_arrays args s ++ Jvm.staticLocs frame_1_statics s) 16 128 → Post tb e args s (.returned v) u) :
    ArmFor flags0 classFile x code maxLocals ret World_1 tables_1 room_1 Calls_1 rest_1 Pre_1 Post := by
  intro l hfl _ _ p e ha hc hk s m args below hf hA hF happ hP
  obtain ⟨hcalls, hrest, hpre⟩ := hP
  obtain ⟨-, -, -, hnamed, -, -, -, hat⟩ := (Spec.applies_iff hf).mp happ
  obtain ⟨hg, hn⟩ := and_e (Cond.before_iff.mp (show (Jvm.Cond.and given_1 narrow_1).before args s = true from hpre))
  obtain ⟨g1, g2⟩ := and_e hg
  obtain ⟨g3, g4⟩ := and_e g2
  obtain ⟨g5, g6⟩ := and_e g4
  obtain ⟨g7, g8⟩ := and_e g6
  obtain ⟨w0, w1, w2, w3, rfl⟩ : ∃ w0 w1 w2 w3 : Value, args = #[w0, w1, w2, w3] := by
    have hs : args.size = 4 := by simpa [Cond.value, given_1] using g1
    obtain ⟨L⟩ := args
    match L, hs with
    | [w0, w1, w2, w3], _ => exact ⟨w0, w1, w2, w3, rfl⟩
  have hw := fun d (hd : d ∈ tables_1) => atoms_spec (ws := Jvm.Cond.code x code maxLocals ret :: tables_1) hat d (List.mem_cons_of_mem _ hd)
  obtain ⟨i0, ei0⟩ := isL_v g3
  obtain rfl : w0 = (.long i0) := Option.some.inj ei0
  obtain ⟨i1, ei1⟩ := isL_v g5
  obtain rfl : w1 = (.long i1) := Option.some.inj ei1
  obtain ⟨i2, ei2⟩ := isL_v g7
  obtain rfl : w2 = (.long i2) := Option.some.inj ei2
  obtain ⟨i3, ei3⟩ := is_v g8
  obtain rfl : w3 = (.int i3) := Option.some.inj ei3
  obtain ⟨n, o, h1, h2, h3, _, L, rfl, ⟨N, -, rfl⟩, hq⟩ := rm0 l s _ hw i0 i1 i2 i3 s.heap s.heap.size (Nat.le_refl _) (Nat.le_refl _) p e ha hc hk s m _ below hf ((Spec.applies_iff_loose hf).mp happ).1 ⟨rfl, State.Warmed39.refl s, rfl⟩ trivial
  refine ⟨n, _, h1, h2, h3, hpost _ _ _ _ _ _ ⟨Cond.after_iff.mpr rfl, Cond.after_iff.mpr (eq_i res_at (Term.int_eval (1)) rfl), trivial⟩ ⟨hq.1, hq.2.1, (hq.2.2.sift fun y hy => Or.inr (N y hy)).mono (by decide) (by decide)⟩⟩
theorem main_1_1 : Claimed_1_1 := comes_1 fun _ _ _ _ _ _ h hF => ⟨h.1, hF⟩
theorem main_1_2 : Claimed_1_2 := comes_1 fun _ _ _ _ _ _ h hF => ⟨h.2.1, hF⟩
end Jvm.Pilot.@@N@@
namespace Jvm.Pilot.@@N@@
open Jvm Jvm.ClassFile Sem Op Lib Jvm.Free Jvm.Stand Jvm.Pilot.@@N@@.Jvm.D
/-! MADE BY PROGRAM (witnessworld.py) out of the Statement's table words and the real class files: 11 classes; the members and pool entries that the words name. The judged class is class 1, her method 2. -/
namespace start1
open Jvm.ClassFile
def u (s : String) : CpInfo := .utf8 (stringToUtf16 s)
/-- a pool by its gaps: so many unusable entries, then the entry; so many at the end -/
def gap : Nat → List CpInfo → List CpInfo
  | 0, r => r
  | n + 1, r => .unusable :: gap n r
def poolList (es : List (Nat × CpInfo)) (last : Nat) : List CpInfo := es.foldr (fun e r => gap e.1 (e.2 :: r)) (gap last [])
def pool (es : List (Nat × CpInfo)) (last : Nat) : Array CpInfo := ⟨poolList es last⟩
def fileOf (pool : Array CpInfo) (this : Nat) (attrs : Array Attribute := #[]) (ms : Array MethodInfo := #[]) (fl : Nat := 33) (sup : Nat := 0) (ifs : Array Nat := #[]) (fds : Array FieldInfo := #[]) : ClassFile where
  minorVersion := 0
  majorVersion := 65
  constantPool := pool
  accessFlags := fl
  thisClass := this
  superClass := sup
  interfaces := ifs
  fields := fds
  methods := ms
  attributes := attrs
def plain (name : String) (sup : Option ClassId) : Class where
  name := name
  kind := .ordinary
  loader := none
  accessFlags := 33
  super := sup
  interfaces := #[]
  cf := none
  fields := #[]
  methods := #[]
  instanceTypes := #[]
  staticTypes := #[]
  resolved := #[]
  callSites := []
  init := .initialized
  statics := none
  mirror := none

def pool0 : Array CpInfo := pool [(5, u "<init>"), (0, u "()V"), (1, .class_ 10), (1, u "java/lang/Object")] 113

def k0c0 : Code := { maxStack := 0, maxLocals := 1, code := object_method_1_code, exceptionTable := #[], attributes := #[] }
def k0m0 : Method := { name := "<init>", desc := "()V", sig := { parameters := [], returnType := none }, accessFlags := 1, code := some k0c0 }
/-- java/lang/Object -/
def k0 : Class := { plain "java/lang/Object" none with
  accessFlags := 33
  interfaces := #[]
  cf := some (fileOf pool0 8 #[] #[{ accessFlags := 1, nameIndex := 5, descriptorIndex := 6, attributes := #[] }] 33 0 #[] #[])
  fields := #[]
  methods := #[k0m0]
  instanceTypes := #[]
  staticTypes := #[]
  resolved := Array.replicate 124 none
  statics := none }

def pool1 : Array CpInfo := pool [(2, .class_ 4), (1, u "java/lang/Object"), (0, u "<init>"), (0, u "()V"), (0, .class_ 8), (0, u "com/example/referee/referee/engine/SlotNumbers"), (0, .methodref 7 10), (0, .nameAndType 5 11), (0, u "(II)V"), (0, .methodref 7 13), (0, .nameAndType 14 15), (0, u "set"), (0, u "(IIJ)V"), (0, .methodref 7 17), (0, .nameAndType 18 19), (0, u "get"), (0, u "(II)J"), (0, .methodref 21 22), (0, .class_ 23), (0, .nameAndType 24 25), (0, u "com/example/referee/referee/engine/SlotNumbersSetPinLaw"), (0, u "expect"), (0, u "(IIJIJIJ)J"), (3, u "law"), (0, u "(JJJI)Z")] 2

def k1m0 : Method := { name := "<init>", desc := "()V", sig := { parameters := [], returnType := none }, accessFlags := 2, code := none }
def k1c1 : Code := { maxStack := 2, maxLocals := 10, code := method_2_code, exceptionTable := #[], attributes := #[] }
def k1m1 : Method := { name := "expect", desc := "(IIJIJIJ)J", sig := { parameters := [.int, .int, .long, .int, .long, .int, .long], returnType := some .long }, accessFlags := 10, code := some k1c1 }
def k1c2 : Code := { maxStack := 12, maxLocals := 12, code := code, exceptionTable := #[], attributes := #[] }
def k1m2 : Method := { name := "law", desc := "(JJJI)Z", sig := { parameters := [.long, .long, .long, .int], returnType := some .boolean }, accessFlags := 9, code := some k1c2 }
/-- com/example/referee/referee/engine/SlotNumbersSetPinLaw -/
def k1 : Class := { plain "com/example/referee/referee/engine/SlotNumbersSetPinLaw" (some 0) with
  accessFlags := 49
  interfaces := #[]
  cf := some (fileOf pool1 21 #[] #[{ accessFlags := 2, nameIndex := 5, descriptorIndex := 6, attributes := #[] }, { accessFlags := 10, nameIndex := 24, descriptorIndex := 25, attributes := #[] }, { accessFlags := 9, nameIndex := 29, descriptorIndex := 30, attributes := #[] }] 49 2 #[] #[])
  fields := #[]
  methods := #[k1m0, k1m1, k1m2]
  instanceTypes := #[]
  staticTypes := #[]
  resolved := Array.replicate 33 none
  statics := none }

def pool2 : Array CpInfo := pool [(1, .methodref 2 3), (0, .class_ 4), (0, .nameAndType 5 6), (0, u "com/example/referee/referee/engine/SlotNumbers"), (0, u "<init>"), (0, u "(IIZ)V"), (0, .methodref 8 9), (0, .class_ 10), (0, .nameAndType 5 11), (0, u "java/lang/Object"), (0, u "()V"), (0, .fieldref 2 13), (0, .nameAndType 14 15), (0, u "width"), (0, u "I"), (0, .fieldref 2 17), (0, .nameAndType 18 19), (0, u "longs"), (0, u "[J"), (0, .fieldref 2 21), (0, .nameAndType 22 23), (0, u "ints"), (0, u "[I"), (2, u "get"), (0, u "(II)J"), (2, u "set"), (0, u "(IIJ)V"), (0, u "(II)V")] 9

def k2c0 : Code := { maxStack := 4, maxLocals := 3, code := prog_119_method_1_code, exceptionTable := #[], attributes := #[] }
def k2m0 : Method := { name := "<init>", desc := "(II)V", sig := { parameters := [.int, .int], returnType := none }, accessFlags := 0, code := some k2c0 }
def k2c1 : Code := { maxStack := 3, maxLocals := 4, code := prog_119_method_2_code, exceptionTable := #[], attributes := #[] }
def k2m1 : Method := { name := "<init>", desc := "(IIZ)V", sig := { parameters := [.int, .int, .boolean], returnType := none }, accessFlags := 2, code := some k2c1 }
def k2c2 : Code := { maxStack := 2, maxLocals := 4, code := prog_119_method_4_code, exceptionTable := #[], attributes := #[] }
def k2m2 : Method := { name := "get", desc := "(II)J", sig := { parameters := [.int, .int], returnType := some .long }, accessFlags := 0, code := some k2c2 }
def k2c3 : Code := { maxStack := 4, maxLocals := 6, code := prog_119_method_5_code, exceptionTable := #[], attributes := #[] }
def k2m3 : Method := { name := "set", desc := "(IIJ)V", sig := { parameters := [.int, .int, .long], returnType := none }, accessFlags := 0, code := some k2c3 }
/-- com/example/referee/referee/engine/SlotNumbers -/
def k2 : Class := { plain "com/example/referee/referee/engine/SlotNumbers" (some 0) with
  accessFlags := 32
  interfaces := #[]
  cf := some (fileOf pool2 2 #[] #[{ accessFlags := 0, nameIndex := 5, descriptorIndex := 32, attributes := #[] }, { accessFlags := 2, nameIndex := 5, descriptorIndex := 6, attributes := #[] }, { accessFlags := 0, nameIndex := 26, descriptorIndex := 27, attributes := #[] }, { accessFlags := 0, nameIndex := 30, descriptorIndex := 31, attributes := #[] }] 32 8 #[] #[{ accessFlags := 18, nameIndex := 14, descriptorIndex := 15, attributes := #[] }, { accessFlags := 2, nameIndex := 22, descriptorIndex := 23, attributes := #[] }, { accessFlags := 2, nameIndex := 18, descriptorIndex := 19, attributes := #[] }])
  fields := #[{ name := "width", type := .int, accessFlags := 18, slot := 0, constantValue := 0 }, { name := "ints", type := (.array .int), accessFlags := 2, slot := 1, constantValue := 0 }, { name := "longs", type := (.array .long), accessFlags := 2, slot := 2, constantValue := 0 }]
  methods := #[k2m0, k2m1, k2m2, k2m3]
  instanceTypes := #[.int, (.array .int), (.array .long)]
  staticTypes := #[]
  resolved := Array.replicate 42 none
  statics := none }

def pool3 : Array CpInfo := pool [(1, u "java/lang/Cloneable"), (0, .class_ 1), (0, u "java/lang/Object"), (0, .class_ 3)] 3

/-- java/lang/Cloneable -/
def k3 : Class := { plain "java/lang/Cloneable" (some 0) with
  accessFlags := 1537
  interfaces := #[]
  cf := some (fileOf pool3 2 #[] #[] 1537 4 #[] #[])
  fields := #[]
  methods := #[]
  instanceTypes := #[]
  staticTypes := #[]
  resolved := Array.replicate 8 none
  statics := none }

def pool4 : Array CpInfo := pool [(1, u "java/io/Serializable"), (0, .class_ 1), (0, u "java/lang/Object"), (0, .class_ 3)] 3

/-- java/io/Serializable -/
def k4 : Class := { plain "java/io/Serializable" (some 0) with
  accessFlags := 1537
  interfaces := #[]
  cf := some (fileOf pool4 2 #[] #[] 1537 4 #[] #[])
  fields := #[]
  methods := #[]
  instanceTypes := #[]
  staticTypes := #[]
  resolved := Array.replicate 8 none
  statics := none }

/-- the primitive byte -/
def k5 : Class := { plain "byte" none with kind := .primitive 'B', accessFlags := 0x411 }
/-- [B -/
def k6 : Class := { plain "[B" (some 0) with kind := .array 5 .byte, interfaces := #[3, 4], accessFlags := 1041 }

/-- the primitive int -/
def k7 : Class := { plain "int" none with kind := .primitive 'I', accessFlags := 0x411 }
/-- [I -/
def k8 : Class := { plain "[I" (some 0) with kind := .array 7 .int, interfaces := #[3, 4], accessFlags := 1041 }

/-- the primitive long -/
def k9 : Class := { plain "long" none with kind := .primitive 'J', accessFlags := 0x411 }
/-- [J -/
def k10 : Class := { plain "[J" (some 0) with kind := .array 9 .long, interfaces := #[3, 4], accessFlags := 1041 }

def heap : Heap := #[]
def classes : Array Class := #[k0, k1, k2, k3, k4, k5, k6, k7, k8, k9, k10]
def interned : List (Array UInt16 × Addr) := []
def slotsUsed : Nat := 0
def theMethod : MethodId := ⟨1, 2⟩
def args0 : Array Value := #[.long 5, .long 1, .long 9, .int 7]
def aboutOver (below : List Frame) : State where
  vm := { classes := classes, interned := interned.toArray }
  heap := heap
  slotsUsed := slotsUsed
  threads := #[{ frames := .invoking theMethod args0 :: below }]
def below0 : List Frame := [.native { method := ⟨0, 0⟩, args := #[] }]
def about1 : State := aboutOver below0
def p0 : Program := .bare "" "" ""
def e0 : Env := launch0.env 0 0 0
theorem w_frames : about1.frames = Frame.invoking theMethod args0 :: below0 := rfl
set_option maxRecDepth 65536 in
theorem w_args : argsFit about1.vm theMethod args0 = true := by decide +kernel
set_option maxRecDepth 65536 in
theorem w_heap : heapFits about1 = true := by decide +kernel
set_option maxRecDepth 65536 in
theorem w_runnable : about1.curStatus? = some .runnable := by decide +kernel
set_option maxRecDepth 65536 in
theorem w_alone : about1.alone = true := by decide +kernel
set_option maxRecDepth 65536 in
theorem w_named : about1.methodNamed? x = some theMethod := by decide +kernel
set_option maxRecDepth 65536 in
theorem w_hears : about1.hears theMethod below0 = true := by decide +kernel
set_option maxRecDepth 65536 in
theorem w_ripe : about1.ripe theMethod args0 below0 = true := by decide +kernel
theorem w_running : about1.status = .running := rfl
set_option maxRecDepth 65536 in
theorem w_room : about1.hasRoom e0.platform room_1 = true :=
  launch0.hasRoom_least _ room_1 (by decide +kernel) (by decide +kernel) (by decide +kernel) (by decide +kernel) (by decide +kernel) (by decide +kernel)
theorem allAtoms_all (ts : List Jvm.Cond) (a : Array Jvm.Value) (st : Jvm.State) : (allAtoms ts).before a st = ts.all (fun c => c.before a st) := by
  induction ts with
  | nil => rfl
  | cons c t ih =>
    show (Jvm.Cond.and c (allAtoms t)).before a st = _
    rw [Jvm.Cond.before_and, ih, List.all_cons]
def words1 : List Jvm.Cond := Jvm.Cond.code x code maxLocals ret :: tables_1
/-- a 'code' word, met by the world's own term for the bytes: nothing is compared byte by byte -/
theorem code_word {y : MethodName} {bytes : ByteArray} {mx : Nat} {rt : Option FieldType} {a : Array Value} {s : State} {m : MethodId} {meth : Method} {c : Code} (h1 : s.methodNamed? y = some m) (h2 : s.vm.method? m = some meth) (h3 : meth.code = some c) (h4 : c.code = bytes)
    (h5 : (c.maxLocals == mx && c.exceptionTable.isEmpty && decide (c.maxStack ≤ mostOperands) && decide (meth.sig.returnType = rt) && !meth.locks && decide (parseMethodDescriptor y.desc = some meth.sig)) = true) : (Jvm.Cond.code y bytes mx rt).before a s = true := by
  simp only [Bool.and_eq_true, beq_iff_eq, Bool.not_eq_true', decide_eq_true_eq] at h5
  obtain ⟨⟨⟨⟨⟨g1, g2⟩, g3⟩, g4⟩, g5⟩, g6⟩ := h5
  simp [Cond.before, Cond.holds, Cond.value, h1, h2, h3, h4, g1, g2, g3, g4, g5, g6]
def isCode : Jvm.Cond → Bool
  | .code _ _ _ _ => true
  | _ => false
theorem all_split {L : List Jvm.Cond} {P : Jvm.Cond → Bool} (h1 : L.all (fun c => isCode c || P c) = true) (h2 : ∀ c ∈ L.filter isCode, P c = true) : L.all P = true := by
  refine List.all_eq_true.mpr fun c hc => ?_
  have h := List.all_eq_true.mp h1 c hc
  rcases Bool.eq_false_or_eq_true (isCode c) with hi | hi
  · exact h2 c (List.mem_filter.mpr ⟨hc, hi⟩)
  · simpa [hi] using h
set_option maxRecDepth 65536 in
theorem w_c0 : (Jvm.Cond.code x code maxLocals ret).before args0 about1 = true := code_word (m := ⟨1, 2⟩) (meth := k1m2) (c := k1c2) (by decide +kernel) rfl rfl rfl (by decide +kernel)
set_option maxRecDepth 65536 in
theorem w_c1 : (Jvm.Cond.code ({ cls := "com/example/referee/referee/engine/SlotNumbers", name := "<init>", desc := "(II)V" } : Jvm.MethodName) prog_119_method_1_code (3 : Nat) (Option.none : Option Jvm.ClassFile.FieldType)).before args0 about1 = true := code_word (m := ⟨2, 0⟩) (meth := k2m0) (c := k2c0) (by decide +kernel) rfl rfl rfl (by decide +kernel)
set_option maxRecDepth 65536 in
theorem w_c2 : (Jvm.Cond.code ({ cls := "com/example/referee/referee/engine/SlotNumbers", name := "<init>", desc := "(IIZ)V" } : Jvm.MethodName) prog_119_method_2_code (4 : Nat) (Option.none : Option Jvm.ClassFile.FieldType)).before args0 about1 = true := code_word (m := ⟨2, 1⟩) (meth := k2m1) (c := k2c1) (by decide +kernel) rfl rfl rfl (by decide +kernel)
set_option maxRecDepth 65536 in
theorem w_c3 : (Jvm.Cond.code ({ cls := "java/lang/Object", name := "<init>", desc := "()V" } : Jvm.MethodName) object_method_1_code (1 : Nat) (Option.none : Option Jvm.ClassFile.FieldType)).before args0 about1 = true := code_word (m := ⟨0, 0⟩) (meth := k0m0) (c := k0c0) (by decide +kernel) rfl rfl rfl (by decide +kernel)
set_option maxRecDepth 65536 in
theorem w_c4 : (Jvm.Cond.code ({ cls := "com/example/referee/referee/engine/SlotNumbers", name := "set", desc := "(IIJ)V" } : Jvm.MethodName) prog_119_method_5_code (6 : Nat) (Option.none : Option Jvm.ClassFile.FieldType)).before args0 about1 = true := code_word (m := ⟨2, 3⟩) (meth := k2m3) (c := k2c3) (by decide +kernel) rfl rfl rfl (by decide +kernel)
set_option maxRecDepth 65536 in
theorem w_c5 : (Jvm.Cond.code ({ cls := "com/example/referee/referee/engine/SlotNumbers", name := "get", desc := "(II)J" } : Jvm.MethodName) prog_119_method_4_code (4 : Nat) (Option.some Jvm.ClassFile.FieldType.long)).before args0 about1 = true := code_word (m := ⟨2, 2⟩) (meth := k2m2) (c := k2c2) (by decide +kernel) rfl rfl rfl (by decide +kernel)
set_option maxRecDepth 65536 in
theorem w_c6 : (Jvm.Cond.code ({ cls := "com/example/referee/referee/engine/SlotNumbersSetPinLaw", name := "expect", desc := "(IIJIJIJ)J" } : Jvm.MethodName) method_2_code (10 : Nat) (Option.some Jvm.ClassFile.FieldType.long)).before args0 about1 = true := code_word (m := ⟨1, 1⟩) (meth := k1m1) (c := k1c1) (by decide +kernel) rfl rfl rfl (by decide +kernel)
def codes1 : List Jvm.Cond := [Jvm.Cond.code x code maxLocals ret, Jvm.Cond.code ({ cls := "com/example/referee/referee/engine/SlotNumbers", name := "<init>", desc := "(II)V" } : Jvm.MethodName) prog_119_method_1_code (3 : Nat) (Option.none : Option Jvm.ClassFile.FieldType), Jvm.Cond.code ({ cls := "com/example/referee/referee/engine/SlotNumbers", name := "<init>", desc := "(IIZ)V" } : Jvm.MethodName) prog_119_method_2_code (4 : Nat) (Option.none : Option Jvm.ClassFile.FieldType), Jvm.Cond.code ({ cls := "java/lang/Object", name := "<init>", desc := "()V" } : Jvm.MethodName) object_method_1_code (1 : Nat) (Option.none : Option Jvm.ClassFile.FieldType), Jvm.Cond.code ({ cls := "com/example/referee/referee/engine/SlotNumbers", name := "set", desc := "(IIJ)V" } : Jvm.MethodName) prog_119_method_5_code (6 : Nat) (Option.none : Option Jvm.ClassFile.FieldType), Jvm.Cond.code ({ cls := "com/example/referee/referee/engine/SlotNumbers", name := "get", desc := "(II)J" } : Jvm.MethodName) prog_119_method_4_code (4 : Nat) (Option.some Jvm.ClassFile.FieldType.long), Jvm.Cond.code ({ cls := "com/example/referee/referee/engine/SlotNumbersSetPinLaw", name := "expect", desc := "(IIJIJIJ)J" } : Jvm.MethodName) method_2_code (10 : Nat) (Option.some Jvm.ClassFile.FieldType.long)]
set_option maxRecDepth 65536 in
theorem codes_eq : words1.filter isCode = codes1 := rfl
theorem w_codes : ∀ c ∈ words1.filter isCode, c.before args0 about1 = true := by
  rw [codes_eq]
  intro c hc
  simp only [codes1, List.mem_cons, List.not_mem_nil, or_false] at hc
  rcases hc with rfl | rfl | rfl | rfl | rfl | rfl | rfl
  · exact w_c0
  · exact w_c1
  · exact w_c2
  · exact w_c3
  · exact w_c4
  · exact w_c5
  · exact w_c6
set_option maxRecDepth 65536 in
theorem w_t1 : (words1.take 24).all (fun c => isCode c || c.before args0 about1) = true := by decide +kernel
set_option maxRecDepth 65536 in
theorem w_t2 : (words1.drop 24).all (fun c => isCode c || c.before args0 about1) = true := by decide +kernel
theorem w_tables : (allAtoms (Jvm.Cond.code x code maxLocals ret :: tables_1)).before args0 about1 = true := by
  rw [allAtoms_all]
  show words1.all (fun c => c.before args0 about1) = true
  refine all_split ?_ w_codes
  rw [← List.take_append_drop 24 words1, List.all_append, w_t1, w_t2]
  rfl
set_option maxRecDepth 65536 in
theorem w_case : (Jvm.Cond.and given_1 narrow_1).before args0 about1 = true := by decide +kernel
theorem w_applies : (headSpec (Jvm.Cond.code x code maxLocals ret :: tables_1) room_1).applies x e0.platform about1 = true :=
  (Spec.applies_iff w_frames).mpr ⟨w_running, w_runnable, w_alone, w_named, w_hears, w_ripe, w_room, w_tables⟩
theorem atStart : AtStart classFile x code maxLocals ret World_1 tables_1 room_1 Calls_1 rest_1 Pre_1 launch0 p0 e0 about1 theMethod args0 below0 :=
  ⟨lists_1, trivial, launch0.admits_env _ _ _, launch0.least_env, fairChoices_fair.cas, fairChoices_fair.clock, w_frames, w_args, w_heap, w_applies, trivial, trivial, w_case⟩
end start1
theorem witness_1 : WitnessClaimed_1 := ⟨start1.p0, start1.e0, start1.about1, start1.theMethod, start1.args0, start1.below0, start1.atStart⟩
end Jvm.Pilot.@@N@@
