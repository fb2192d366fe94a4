import JvmDerived
import JvmDerived.Pilot.@@N@@Statement
import JvmDerived.Pilot.@@N@@Code
set_option linter.unusedVariables false
set_option linter.unusedSimpArgs false
namespace Jvm.Pilot.@@N@@
open Jvm Jvm.ClassFile Sem Op Lib Jvm.Free Jvm.Stand Jvm.LawKit Jvm.RoadKit Bundle Jvm.Pilot.@@N@@.Jvm.D
section OwnKit
variable {p : Program} {l : Launch} {e : Env} {R : Room} {s : State} {m : MethodId} {args : Array Value} {below : List Frame} {meth : Method} {c : Code} {n0 : Nat} {h0 h h' : Heap} {ws : List Addr} {T T' : State} {C S C' S' : Nat} {Q : Option Value → Heap → Prop} {En : Outcome → State → List Loc → Prop} {Z : State} {a0 : Array Value} {bytes : ByteArray} {maxL : Nat} {own nm : String} {rt : Option FieldType} {L L' : Array Slot} {st : List Value} {pc pc' : Nat}
/-- where the run stands: heap h, nothing old written but cells in ws -/
def own_St (p : Program) (l : Launch) (e : Env) (R : Room) (s : State) (m : MethodId) (args : Array Value) (below : List Frame) (meth : Method) (c : Code) (n0 : Nat) (h0 : Heap) (ws : List Addr) (T : State) (h : Heap) (C S : Nat) : Prop :=
  ∃ locs, Stand p l e R s m args below meth c T locs C S ∧ Fr n0 locs ∧ T.heap = h ∧ Keep h0 h ws
/-- from this frame the invocation ends, and Q holds of what it returns and of the heap -/
def own_H (p : Program) (e : Env) (below : List Frame) (En : Outcome → State → List Loc → Prop) (n0 : Nat) (h0 : Heap) (ws : List Addr) (Q : Option Value → Heap → Prop) (T : State) (f : JFrame) : Prop :=
  ∃ (s₂ : State) (o : Outcome), Steps p.tables e below (T.setTop f) s₂ ∧ s₂.status = .running ∧ Ended s₂ below o ∧ ∃ v L, o = .returned v ∧ (Fr n0 L ∧ Keep h0 s₂.heap ws ∧ Q v s₂.heap) ∧ En o s₂ L
def own_F (s : State) (C S : Nat) (o : Outcome) (t : State) (L : List Loc) : Prop := FrameEnd s o t L C S
abbrev own_G (p : Program) (e : Env) (below : List Frame) (s : State) (n0 : Nat) (h0 : Heap) (ws : List Addr) (Q : Option Value → Heap → Prop) (C S : Nat) (T : State) (f : JFrame) : Prop := own_H p e below (own_F s C S) n0 h0 ws Q T f
def own_B (Z : State) (p : Program) (s : State) (m : MethodId) (meth : Method) (c : Code) (bytes : ByteArray) (maxL : Nat) (own nm : String) (rt : Option FieldType) : Prop :=
  p.tables.exec = Jvm.exec ∧ Z.Warmed39 s.vm ∧ c.code = bytes ∧ c.maxLocals = maxL ∧ s.vm.findClass own = some m.cls ∧ meth.name = nm ∧ meth.sig.returnType = rt ∧ meth.locks = false
/-- a contract -/
def own_C (l : Launch) (Z : State) (y : MethodName) (bytes : ByteArray) (maxL : Nat) (rt : Option FieldType) (cws : List Jvm.Cond) (rm : Room) (as : Array Value) (h0 : Heap) (n0 : Nat) (ws : List Addr) (Q : Option Value → Heap → Prop) (C S : Nat) : Prop :=
  MetFree l y (head1 (Jvm.Cond.code y bytes maxL rt :: cws) rm) (fun a U => a = as ∧ Z.Warmed39 U.vm ∧ U.heap = h0) (fun _ _ _ _ _ => True) (fun _ U o U' => ∃ v L, o = .returned v ∧ (Fr n0 L ∧ Keep h0 U'.heap ws ∧ Q v U'.heap) ∧ FrameEnd U o U' L C S)
theorem own_enter {y : MethodName} {cws : List Jvm.Cond} {rm : Room} {as : Array Value} {L0 : Array Slot} (hpl : plainFor y = true) (hef : ∀ m, entryFrame m as maxL = mkF m 0 L0 [])
    (body : ∀ p e s m below meth c T, own_B Z p s m meth c bytes maxL y.cls y.name rt → own_St p l e rm s m as below meth c n0 h0 ws T h0 0 0 → own_G p e below s n0 h0 ws Q C S T (mkF m 0 L0 [])) :
    own_C l Z y bytes maxL rt cws rm as h0 n0 ws Q C S := by
  show MetFree l y _ _ _ _
  refine MetFree.of_bodySF hpl hisR ?_
  intro p e s m args below meth c s₁ Bd hml0 hP hK
  obtain ⟨rfl, hZ, hh⟩ := hP
  have X0 : Stand p l e rm s m _ below meth c s₁ [] 0 0 := Stand.of_body Bd
  have e0 : s₁.heap = h0 := by rw [← hh, Bd.state]; rfl
  obtain ⟨s₂, o, h1, h2, h3, h4⟩ := body p e s m below meth c s₁ ⟨Bd.exec, hZ, Bd.bytes, hml0, findClass_of_methodNamed Bd.named, (name_of_methodNamed Bd.named Bd.method).1, Bd.returns, Bd.notSynchronized⟩ ⟨[], X0, Fr.nil n0, e0, Keep.refl _ _⟩
  exact ⟨s₂, o, castTop (hef m) h1, h2, h3, h4⟩
theorem own_st (X : own_St p l e R s m args below meth c n0 h0 ws T h C S) {f f' : JFrame} (k : own_H p e below En n0 h0 ws Q T f') (hst : ∀ t, At T m c below → Steps p.tables e below (T.setTop f') t → Steps p.tables e below (T.setTop f) t) : own_H p e below En n0 h0 ws Q T f := by
  obtain ⟨s₂, o, h1, h2⟩ := k
  obtain ⟨locs, Y, -⟩ := X
  exact ⟨s₂, o, hst _ Y.here h1, h2⟩
theorem own_tr {f f' : JFrame} (hst : ∀ t, Steps p.tables e below (T'.setTop f') t → Steps p.tables e below (T.setTop f) t) (k : own_H p e below En n0 h0 ws Q T' f') : own_H p e below En n0 h0 ws Q T f := by
  obtain ⟨s₂, o, h1, h2⟩ := k
  exact ⟨s₂, o, hst _ h1, h2⟩
theorem own_ret (X : own_St p l e R s m args below meth c n0 h0 ws T h C S) (B : own_B Z p s m meth c bytes maxL own nm rt) (hc : C ≤ C') (hs : S ≤ S') {v : Option Value} {f : JFrame} (hv : rt = none → v = none)
    (hst : ∀ locs fs, Stand p l e R s m args below meth c T locs C S → (∀ (f : JFrame) (acts : List Action), f.method = m → f.locked = none → f.entered = [] → (doReturn e (T.setTop f) acts v).1 = T.setFrames fs) → Steps p.tables e below (T.setTop f) (T.setFrames fs)) (q : Q v h) : own_G p e below s n0 h0 ws Q C' S' T f := by
  obtain ⟨locs, Y, N, e, K⟩ := X
  obtain ⟨-, -, -, -, -, -, hret, hlk⟩ := B
  obtain ⟨fs, hr, hrun, hended, hW, hsame⟩ := Y.leave (v := v) (fun h => hv (hret.symm.trans h)) hlk
  subst e
  exact ⟨_, _, hst locs fs Y hr, hrun, hended, _, _, rfl, ⟨N, K, q⟩, ⟨_, rfl⟩, hW, hsame.mono hc hs⟩
theorem own_iloadN (X : own_St p l e R s m args below meth c n0 h0 ws T h C S) (B : own_B Z p s m meth c bytes maxL own nm rt) {i : Fin 4} {v : Int32} (hd : decode bytes pc = .ok (.iload_n i, 1)) (hl : L[i.val]? = some (.val (.int v))) (hp : pc + 1 = pc') (k : own_H p e below En n0 h0 ws Q T (mkF m pc' L (.int v :: st))) : own_H p e below En n0 h0 ws Q T (mkF m pc L st) := by
  subst hp
  exact own_st X k (fun t A q => XS.iloadN A B.1 rfl (hb B.2.2.1 hd) hl q)
theorem own_iload (X : own_St p l e R s m args below meth c n0 h0 ws T h C S) (B : own_B Z p s m meth c bytes maxL own nm rt) {i : Nat} {v : Int32} (hd : decode bytes pc = .ok (.iload i, 2)) (hl : L[i]? = some (.val (.int v))) (hp : pc + 2 = pc') (k : own_H p e below En n0 h0 ws Q T (mkF m pc' L (.int v :: st))) : own_H p e below En n0 h0 ws Q T (mkF m pc L st) := by
  subst hp
  exact own_st X k (fun t A q => XS.iload A B.1 rfl (hb B.2.2.1 hd) hl q)
theorem own_istoreN (X : own_St p l e R s m args below meth c n0 h0 ws T h C S) (B : own_B Z p s m meth c bytes maxL own nm rt) {i : Fin 4} {v : Int32} (hd : decode bytes pc = .ok (.istore_n i, 1)) (hl : storeLocals L i.val (.int v) = some L') (hp : pc + 1 = pc') (k : own_H p e below En n0 h0 ws Q T (mkF m pc' L' st)) : own_H p e below En n0 h0 ws Q T (mkF m pc L (.int v :: st)) := by
  subst hp
  exact own_st X k (fun t A q => XS.istoreN A B.1 rfl (hb B.2.2.1 hd) rfl hl q)
theorem own_istore (X : own_St p l e R s m args below meth c n0 h0 ws T h C S) (B : own_B Z p s m meth c bytes maxL own nm rt) {i : Nat} {v : Int32} (hd : decode bytes pc = .ok (.istore i, 2)) (hl : storeLocals L i (.int v) = some L') (hp : pc + 2 = pc') (k : own_H p e below En n0 h0 ws Q T (mkF m pc' L' st)) : own_H p e below En n0 h0 ws Q T (mkF m pc L (.int v :: st)) := by
  subst hp
  exact own_st X k (fun t A q => XS.istore A B.1 rfl (hb B.2.2.1 hd) rfl hl q)
theorem own_lloadN (X : own_St p l e R s m args below meth c n0 h0 ws T h C S) (B : own_B Z p s m meth c bytes maxL own nm rt) {i : Fin 4} {v : Int64} (hd : decode bytes pc = .ok (.lload_n i, 1)) (hl : L[i.val]? = some (.val (.long v))) (hp : pc + 1 = pc') (k : own_H p e below En n0 h0 ws Q T (mkF m pc' L (.long v :: st))) : own_H p e below En n0 h0 ws Q T (mkF m pc L st) := by
  subst hp
  exact own_st X k (fun t A q => XS.lloadN A B.1 rfl (hb B.2.2.1 hd) hl q)
theorem own_lload (X : own_St p l e R s m args below meth c n0 h0 ws T h C S) (B : own_B Z p s m meth c bytes maxL own nm rt) {i : Nat} {v : Int64} (hd : decode bytes pc = .ok (.lload i, 2)) (hl : L[i]? = some (.val (.long v))) (hp : pc + 2 = pc') (k : own_H p e below En n0 h0 ws Q T (mkF m pc' L (.long v :: st))) : own_H p e below En n0 h0 ws Q T (mkF m pc L st) := by
  subst hp
  exact own_st X k (fun t A q => XS.lload A B.1 rfl (hb B.2.2.1 hd) hl q)
theorem own_lstoreN (X : own_St p l e R s m args below meth c n0 h0 ws T h C S) (B : own_B Z p s m meth c bytes maxL own nm rt) {i : Fin 4} {v : Int64} (hd : decode bytes pc = .ok (.lstore_n i, 1)) (hl : storeLocals L i.val (.long v) = some L') (hp : pc + 1 = pc') (k : own_H p e below En n0 h0 ws Q T (mkF m pc' L' st)) : own_H p e below En n0 h0 ws Q T (mkF m pc L (.long v :: st)) := by
  subst hp
  exact own_st X k (fun t A q => XS.lstoreN A B.1 rfl (hb B.2.2.1 hd) rfl hl q)
theorem own_lstore (X : own_St p l e R s m args below meth c n0 h0 ws T h C S) (B : own_B Z p s m meth c bytes maxL own nm rt) {i : Nat} {v : Int64} (hd : decode bytes pc = .ok (.lstore i, 2)) (hl : storeLocals L i (.long v) = some L') (hp : pc + 2 = pc') (k : own_H p e below En n0 h0 ws Q T (mkF m pc' L' st)) : own_H p e below En n0 h0 ws Q T (mkF m pc L (.long v :: st)) := by
  subst hp
  exact own_st X k (fun t A q => XS.lstore A B.1 rfl (hb B.2.2.1 hd) rfl hl q)
theorem own_aloadN (X : own_St p l e R s m args below meth c n0 h0 ws T h C S) (B : own_B Z p s m meth c bytes maxL own nm rt) {i : Fin 4} {v : Value} (hd : decode bytes pc = .ok (.aload_n i, 1)) (hl : L[i.val]? = some (.val v)) (hv : v.isRef = true) (hp : pc + 1 = pc') (k : own_H p e below En n0 h0 ws Q T (mkF m pc' L (v :: st))) : own_H p e below En n0 h0 ws Q T (mkF m pc L st) := by
  subst hp
  exact own_st X k (fun t A q => XS.aloadN A B.1 rfl (hb B.2.2.1 hd) hl hv q)
theorem own_aload (X : own_St p l e R s m args below meth c n0 h0 ws T h C S) (B : own_B Z p s m meth c bytes maxL own nm rt) {i : Nat} {v : Value} (hd : decode bytes pc = .ok (.aload i, 2)) (hl : L[i]? = some (.val v)) (hv : v.isRef = true) (hp : pc + 2 = pc') (k : own_H p e below En n0 h0 ws Q T (mkF m pc' L (v :: st))) : own_H p e below En n0 h0 ws Q T (mkF m pc L st) := by
  subst hp
  exact own_st X k (fun t A q => XS.aload A B.1 rfl (hb B.2.2.1 hd) hl hv q)
theorem own_astoreN (X : own_St p l e R s m args below meth c n0 h0 ws T h C S) (B : own_B Z p s m meth c bytes maxL own nm rt) {i : Fin 4} {v : Value} (hd : decode bytes pc = .ok (.astore_n i, 1)) (hv : v.isRef = true) (hl : storeLocals L i.val v = some L') (hp : pc + 1 = pc') (k : own_H p e below En n0 h0 ws Q T (mkF m pc' L' st)) : own_H p e below En n0 h0 ws Q T (mkF m pc L (v :: st)) := by
  subst hp
  exact own_st X k (fun t A q => XS.astoreN A B.1 rfl (hb B.2.2.1 hd) rfl hv hl q)
theorem own_astore (X : own_St p l e R s m args below meth c n0 h0 ws T h C S) (B : own_B Z p s m meth c bytes maxL own nm rt) {i : Nat} {v : Value} (hd : decode bytes pc = .ok (.astore i, 2)) (hv : v.isRef = true) (hl : storeLocals L i v = some L') (hp : pc + 2 = pc') (k : own_H p e below En n0 h0 ws Q T (mkF m pc' L' st)) : own_H p e below En n0 h0 ws Q T (mkF m pc L (v :: st)) := by
  subst hp
  exact own_st X k (fun t A q => XS.astore A B.1 rfl (hb B.2.2.1 hd) rfl hv hl q)
theorem own_iconst (X : own_St p l e R s m args below meth c n0 h0 ws T h C S) (B : own_B Z p s m meth c bytes maxL own nm rt) {i : Int} {v : Int32} (hd : decode bytes pc = .ok (.iconst i, 1)) (hv : Int32.ofInt i = v) (hp : pc + 1 = pc') (k : own_H p e below En n0 h0 ws Q T (mkF m pc' L (.int v :: st))) : own_H p e below En n0 h0 ws Q T (mkF m pc L st) := by
  subst hp hv
  exact own_st X k (fun t A q => XS.iconst A B.1 rfl (hb B.2.2.1 hd)  q)
theorem own_bipush (X : own_St p l e R s m args below meth c n0 h0 ws T h C S) (B : own_B Z p s m meth c bytes maxL own nm rt) {i : Int} {v : Int32} (hd : decode bytes pc = .ok (.bipush i, 2)) (hv : (Int8.ofInt i).toInt32 = v) (hp : pc + 2 = pc') (k : own_H p e below En n0 h0 ws Q T (mkF m pc' L (.int v :: st))) : own_H p e below En n0 h0 ws Q T (mkF m pc L st) := by
  subst hp hv
  exact own_st X k (fun t A q => XS.bipush A B.1 rfl (hb B.2.2.1 hd)  q)
theorem own_sipush (X : own_St p l e R s m args below meth c n0 h0 ws T h C S) (B : own_B Z p s m meth c bytes maxL own nm rt) {i : Int} {v : Int32} (hd : decode bytes pc = .ok (.sipush i, 3)) (hv : (Int16.ofInt i).toInt32 = v) (hp : pc + 3 = pc') (k : own_H p e below En n0 h0 ws Q T (mkF m pc' L (.int v :: st))) : own_H p e below En n0 h0 ws Q T (mkF m pc L st) := by
  subst hp hv
  exact own_st X k (fun t A q => XS.sipush A B.1 rfl (hb B.2.2.1 hd)  q)
theorem own_lconst (X : own_St p l e R s m args below meth c n0 h0 ws T h C S) (B : own_B Z p s m meth c bytes maxL own nm rt) {i : Fin 2} {v : Int64} (hd : decode bytes pc = .ok (.lconst i, 1)) (hv : Int64.ofNat i = v) (hp : pc + 1 = pc') (k : own_H p e below En n0 h0 ws Q T (mkF m pc' L (.long v :: st))) : own_H p e below En n0 h0 ws Q T (mkF m pc L st) := by
  subst hp hv
  exact own_st X k (fun t A q => XS.lconst A B.1 rfl (hb B.2.2.1 hd)  q)
theorem own_aconst_null (X : own_St p l e R s m args below meth c n0 h0 ws T h C S) (B : own_B Z p s m meth c bytes maxL own nm rt)  (hd : decode bytes pc = .ok (.aconst_null, 1)) (hp : pc + 1 = pc') (k : own_H p e below En n0 h0 ws Q T (mkF m pc' L (.null :: st))) : own_H p e below En n0 h0 ws Q T (mkF m pc L st) := by
  subst hp
  exact own_st X k (fun t A q => XS.aconstNull A B.1 rfl (hb B.2.2.1 hd)  q)
theorem own_iadd (X : own_St p l e R s m args below meth c n0 h0 ws T h C S) (B : own_B Z p s m meth c bytes maxL own nm rt) {x y : Int32} (hd : decode bytes pc = .ok (.iadd, 1)) (hp : pc + 1 = pc') (k : own_H p e below En n0 h0 ws Q T (mkF m pc' L (.int (x + y) :: st))) : own_H p e below En n0 h0 ws Q T (mkF m pc L (.int y :: .int x :: st)) := by
  subst hp
  exact own_st X k (fun t A q => XS.iadd A B.1 rfl (hb B.2.2.1 hd) rfl q)
theorem own_ladd (X : own_St p l e R s m args below meth c n0 h0 ws T h C S) (B : own_B Z p s m meth c bytes maxL own nm rt) {x y : Int64} (hd : decode bytes pc = .ok (.ladd, 1)) (hp : pc + 1 = pc') (k : own_H p e below En n0 h0 ws Q T (mkF m pc' L (.long (x + y) :: st))) : own_H p e below En n0 h0 ws Q T (mkF m pc L (.long y :: .long x :: st)) := by
  subst hp
  exact own_st X k (fun t A q => XS.ladd A B.1 rfl (hb B.2.2.1 hd) rfl q)
theorem own_isub (X : own_St p l e R s m args below meth c n0 h0 ws T h C S) (B : own_B Z p s m meth c bytes maxL own nm rt) {x y : Int32} (hd : decode bytes pc = .ok (.isub, 1)) (hp : pc + 1 = pc') (k : own_H p e below En n0 h0 ws Q T (mkF m pc' L (.int (x - y) :: st))) : own_H p e below En n0 h0 ws Q T (mkF m pc L (.int y :: .int x :: st)) := by
  subst hp
  exact own_st X k (fun t A q => XS.isub A B.1 rfl (hb B.2.2.1 hd) rfl q)
theorem own_lsub (X : own_St p l e R s m args below meth c n0 h0 ws T h C S) (B : own_B Z p s m meth c bytes maxL own nm rt) {x y : Int64} (hd : decode bytes pc = .ok (.lsub, 1)) (hp : pc + 1 = pc') (k : own_H p e below En n0 h0 ws Q T (mkF m pc' L (.long (x - y) :: st))) : own_H p e below En n0 h0 ws Q T (mkF m pc L (.long y :: .long x :: st)) := by
  subst hp
  exact own_st X k (fun t A q => XS.lsub A B.1 rfl (hb B.2.2.1 hd) rfl q)
theorem own_imul (X : own_St p l e R s m args below meth c n0 h0 ws T h C S) (B : own_B Z p s m meth c bytes maxL own nm rt) {x y : Int32} (hd : decode bytes pc = .ok (.imul, 1)) (hp : pc + 1 = pc') (k : own_H p e below En n0 h0 ws Q T (mkF m pc' L (.int (x * y) :: st))) : own_H p e below En n0 h0 ws Q T (mkF m pc L (.int y :: .int x :: st)) := by
  subst hp
  exact own_st X k (fun t A q => XS.imul A B.1 rfl (hb B.2.2.1 hd) rfl q)
theorem own_lmul (X : own_St p l e R s m args below meth c n0 h0 ws T h C S) (B : own_B Z p s m meth c bytes maxL own nm rt) {x y : Int64} (hd : decode bytes pc = .ok (.lmul, 1)) (hp : pc + 1 = pc') (k : own_H p e below En n0 h0 ws Q T (mkF m pc' L (.long (x * y) :: st))) : own_H p e below En n0 h0 ws Q T (mkF m pc L (.long y :: .long x :: st)) := by
  subst hp
  exact own_st X k (fun t A q => XS.lmul A B.1 rfl (hb B.2.2.1 hd) rfl q)
theorem own_iand (X : own_St p l e R s m args below meth c n0 h0 ws T h C S) (B : own_B Z p s m meth c bytes maxL own nm rt) {x y : Int32} (hd : decode bytes pc = .ok (.iand, 1)) (hp : pc + 1 = pc') (k : own_H p e below En n0 h0 ws Q T (mkF m pc' L (.int (x &&& y) :: st))) : own_H p e below En n0 h0 ws Q T (mkF m pc L (.int y :: .int x :: st)) := by
  subst hp
  exact own_st X k (fun t A q => XS.iand A B.1 rfl (hb B.2.2.1 hd) rfl q)
theorem own_land (X : own_St p l e R s m args below meth c n0 h0 ws T h C S) (B : own_B Z p s m meth c bytes maxL own nm rt) {x y : Int64} (hd : decode bytes pc = .ok (.land, 1)) (hp : pc + 1 = pc') (k : own_H p e below En n0 h0 ws Q T (mkF m pc' L (.long (x &&& y) :: st))) : own_H p e below En n0 h0 ws Q T (mkF m pc L (.long y :: .long x :: st)) := by
  subst hp
  exact own_st X k (fun t A q => XS.land A B.1 rfl (hb B.2.2.1 hd) rfl q)
theorem own_ior (X : own_St p l e R s m args below meth c n0 h0 ws T h C S) (B : own_B Z p s m meth c bytes maxL own nm rt) {x y : Int32} (hd : decode bytes pc = .ok (.ior, 1)) (hp : pc + 1 = pc') (k : own_H p e below En n0 h0 ws Q T (mkF m pc' L (.int (x ||| y) :: st))) : own_H p e below En n0 h0 ws Q T (mkF m pc L (.int y :: .int x :: st)) := by
  subst hp
  exact own_st X k (fun t A q => XS.ior A B.1 rfl (hb B.2.2.1 hd) rfl q)
theorem own_lor (X : own_St p l e R s m args below meth c n0 h0 ws T h C S) (B : own_B Z p s m meth c bytes maxL own nm rt) {x y : Int64} (hd : decode bytes pc = .ok (.lor, 1)) (hp : pc + 1 = pc') (k : own_H p e below En n0 h0 ws Q T (mkF m pc' L (.long (x ||| y) :: st))) : own_H p e below En n0 h0 ws Q T (mkF m pc L (.long y :: .long x :: st)) := by
  subst hp
  exact own_st X k (fun t A q => XS.lor A B.1 rfl (hb B.2.2.1 hd) rfl q)
theorem own_ixor (X : own_St p l e R s m args below meth c n0 h0 ws T h C S) (B : own_B Z p s m meth c bytes maxL own nm rt) {x y : Int32} (hd : decode bytes pc = .ok (.ixor, 1)) (hp : pc + 1 = pc') (k : own_H p e below En n0 h0 ws Q T (mkF m pc' L (.int (x ^^^ y) :: st))) : own_H p e below En n0 h0 ws Q T (mkF m pc L (.int y :: .int x :: st)) := by
  subst hp
  exact own_st X k (fun t A q => XS.ixor A B.1 rfl (hb B.2.2.1 hd) rfl q)
theorem own_lxor (X : own_St p l e R s m args below meth c n0 h0 ws T h C S) (B : own_B Z p s m meth c bytes maxL own nm rt) {x y : Int64} (hd : decode bytes pc = .ok (.lxor, 1)) (hp : pc + 1 = pc') (k : own_H p e below En n0 h0 ws Q T (mkF m pc' L (.long (x ^^^ y) :: st))) : own_H p e below En n0 h0 ws Q T (mkF m pc L (.long y :: .long x :: st)) := by
  subst hp
  exact own_st X k (fun t A q => XS.lxor A B.1 rfl (hb B.2.2.1 hd) rfl q)
theorem own_ishl (X : own_St p l e R s m args below meth c n0 h0 ws T h C S) (B : own_B Z p s m meth c bytes maxL own nm rt) {x y : Int32} (hd : decode bytes pc = .ok (.ishl, 1)) (hp : pc + 1 = pc') (k : own_H p e below En n0 h0 ws Q T (mkF m pc' L (.int (x <<< (y &&& 31)) :: st))) : own_H p e below En n0 h0 ws Q T (mkF m pc L (.int y :: .int x :: st)) := by
  subst hp
  exact own_st X k (fun t A q => XS.ishl A B.1 rfl (hb B.2.2.1 hd) rfl q)
theorem own_ishr (X : own_St p l e R s m args below meth c n0 h0 ws T h C S) (B : own_B Z p s m meth c bytes maxL own nm rt) {x y : Int32} (hd : decode bytes pc = .ok (.ishr, 1)) (hp : pc + 1 = pc') (k : own_H p e below En n0 h0 ws Q T (mkF m pc' L (.int (x >>> (y &&& 31)) :: st))) : own_H p e below En n0 h0 ws Q T (mkF m pc L (.int y :: .int x :: st)) := by
  subst hp
  exact own_st X k (fun t A q => XS.ishr A B.1 rfl (hb B.2.2.1 hd) rfl q)
theorem own_iushr (X : own_St p l e R s m args below meth c n0 h0 ws T h C S) (B : own_B Z p s m meth c bytes maxL own nm rt) {x y : Int32} (hd : decode bytes pc = .ok (.iushr, 1)) (hp : pc + 1 = pc') (k : own_H p e below En n0 h0 ws Q T (mkF m pc' L (.int ((x.toUInt32 >>> (y &&& 31).toUInt32).toInt32) :: st))) : own_H p e below En n0 h0 ws Q T (mkF m pc L (.int y :: .int x :: st)) := by
  subst hp
  exact own_st X k (fun t A q => XS.iushr A B.1 rfl (hb B.2.2.1 hd) rfl q)
theorem own_lshl (X : own_St p l e R s m args below meth c n0 h0 ws T h C S) (B : own_B Z p s m meth c bytes maxL own nm rt) {x : Int64} {y : Int32} (hd : decode bytes pc = .ok (.lshl, 1)) (hp : pc + 1 = pc') (k : own_H p e below En n0 h0 ws Q T (mkF m pc' L (.long (x <<< (y &&& 0x3f).toInt64) :: st))) : own_H p e below En n0 h0 ws Q T (mkF m pc L (.int y :: .long x :: st)) := by
  subst hp
  exact own_st X k (fun t A q => XS.lshl A B.1 rfl (hb B.2.2.1 hd) rfl q)
theorem own_lshr (X : own_St p l e R s m args below meth c n0 h0 ws T h C S) (B : own_B Z p s m meth c bytes maxL own nm rt) {x : Int64} {y : Int32} (hd : decode bytes pc = .ok (.lshr, 1)) (hp : pc + 1 = pc') (k : own_H p e below En n0 h0 ws Q T (mkF m pc' L (.long (x >>> (y &&& 0x3f).toInt64) :: st))) : own_H p e below En n0 h0 ws Q T (mkF m pc L (.int y :: .long x :: st)) := by
  subst hp
  exact own_st X k (fun t A q => XS.lshr A B.1 rfl (hb B.2.2.1 hd) rfl q)
theorem own_lushr (X : own_St p l e R s m args below meth c n0 h0 ws T h C S) (B : own_B Z p s m meth c bytes maxL own nm rt) {x : Int64} {y : Int32} (hd : decode bytes pc = .ok (.lushr, 1)) (hp : pc + 1 = pc') (k : own_H p e below En n0 h0 ws Q T (mkF m pc' L (.long ((x.toUInt64 >>> (y &&& 0x3f).toInt64.toUInt64).toInt64) :: st))) : own_H p e below En n0 h0 ws Q T (mkF m pc L (.int y :: .long x :: st)) := by
  subst hp
  exact own_st X k (fun t A q => XS.lushr A B.1 rfl (hb B.2.2.1 hd) rfl q)
theorem own_idiv (X : own_St p l e R s m args below meth c n0 h0 ws T h C S) (B : own_B Z p s m meth c bytes maxL own nm rt) {x y : Int32} (hd : decode bytes pc = .ok (.idiv, 1)) (hy : y ≠ 0) (hp : pc + 1 = pc') (k : own_H p e below En n0 h0 ws Q T (mkF m pc' L (.int (x / y) :: st))) : own_H p e below En n0 h0 ws Q T (mkF m pc L (.int y :: .int x :: st)) := by
  subst hp
  exact own_st X k (fun t A q => XS.idiv A B.1 rfl (hb B.2.2.1 hd) rfl hy q)
theorem own_irem (X : own_St p l e R s m args below meth c n0 h0 ws T h C S) (B : own_B Z p s m meth c bytes maxL own nm rt) {x y : Int32} (hd : decode bytes pc = .ok (.irem, 1)) (hy : y ≠ 0) (hp : pc + 1 = pc') (k : own_H p e below En n0 h0 ws Q T (mkF m pc' L (.int (x % y) :: st))) : own_H p e below En n0 h0 ws Q T (mkF m pc L (.int y :: .int x :: st)) := by
  subst hp
  obtain ⟨locs, Y, -⟩ := X
  exact own_tr (fun t q => iremM Y B.1 (g := mkF m pc L (.int y :: .int x :: st)) rfl (hb B.2.2.1 hd) rfl hy q) k
theorem own_lrem (X : own_St p l e R s m args below meth c n0 h0 ws T h C S) (B : own_B Z p s m meth c bytes maxL own nm rt) {x y : Int64} (hd : decode bytes pc = .ok (.lrem, 1)) (hy : y ≠ 0) (hp : pc + 1 = pc') (k : own_H p e below En n0 h0 ws Q T (mkF m pc' L (.long (x % y) :: st))) : own_H p e below En n0 h0 ws Q T (mkF m pc L (.long y :: .long x :: st)) := by
  subst hp
  exact own_st X k (fun t A q => XS.lrem A B.1 rfl (hb B.2.2.1 hd) rfl hy (by rw [lrem_mod x y]; exact q))
theorem own_i2l (X : own_St p l e R s m args below meth c n0 h0 ws T h C S) (B : own_B Z p s m meth c bytes maxL own nm rt) {x : Int32} (hd : decode bytes pc = .ok (.i2l, 1)) (hp : pc + 1 = pc') (k : own_H p e below En n0 h0 ws Q T (mkF m pc' L (.long x.toInt64 :: st))) : own_H p e below En n0 h0 ws Q T (mkF m pc L (.int x :: st)) := by
  subst hp
  exact own_st X k (fun t A q => XS.i2l A B.1 rfl (hb B.2.2.1 hd) rfl q)
theorem own_l2i (X : own_St p l e R s m args below meth c n0 h0 ws T h C S) (B : own_B Z p s m meth c bytes maxL own nm rt) {x : Int64} (hd : decode bytes pc = .ok (.l2i, 1)) (hp : pc + 1 = pc') (k : own_H p e below En n0 h0 ws Q T (mkF m pc' L (.int x.toInt32 :: st))) : own_H p e below En n0 h0 ws Q T (mkF m pc L (.long x :: st)) := by
  subst hp
  exact own_st X k (fun t A q => XS.l2i A B.1 rfl (hb B.2.2.1 hd) rfl q)
theorem own_lcmp (X : own_St p l e R s m args below meth c n0 h0 ws T h C S) (B : own_B Z p s m meth c bytes maxL own nm rt) {x y : Int64} (hd : decode bytes pc = .ok (.lcmp, 1)) (hp : pc + 1 = pc') (k : own_H p e below En n0 h0 ws Q T (mkF m pc' L (.int (lcmpW x y) :: st))) : own_H p e below En n0 h0 ws Q T (mkF m pc L (.long y :: .long x :: st)) := by
  subst hp
  exact own_st X k (fun t A q => XS.lcmp A B.1 rfl (hb B.2.2.1 hd) rfl q)
theorem own_dup (X : own_St p l e R s m args below meth c n0 h0 ws T h C S) (B : own_B Z p s m meth c bytes maxL own nm rt) {v : Value} (hd : decode bytes pc = .ok (.dup, 1)) (hv : v.category = 1) (hp : pc + 1 = pc') (k : own_H p e below En n0 h0 ws Q T (mkF m pc' L (v :: v :: st))) : own_H p e below En n0 h0 ws Q T (mkF m pc L (v :: st)) := by
  subst hp
  exact own_st X k (fun t A q => XS.dup A B.1 rfl (hb B.2.2.1 hd) rfl hv q)
theorem own_pop (X : own_St p l e R s m args below meth c n0 h0 ws T h C S) (B : own_B Z p s m meth c bytes maxL own nm rt) {v : Value} (hd : decode bytes pc = .ok (.pop, 1)) (hv : v.category = 1) (hp : pc + 1 = pc') (k : own_H p e below En n0 h0 ws Q T (mkF m pc' L st)) : own_H p e below En n0 h0 ws Q T (mkF m pc L (v :: st)) := by
  subst hp
  exact own_st X k (fun t A q => XS.pop A B.1 rfl (hb B.2.2.1 hd) rfl hv q)
theorem own_dup2 (X : own_St p l e R s m args below meth c n0 h0 ws T h C S) (B : own_B Z p s m meth c bytes maxL own nm rt) {x y : Value} (hd : decode bytes pc = .ok (.dup2, 1)) (hx' : x.category = 1) (hy' : y.category = 1) (hp : pc + 1 = pc') (k : own_H p e below En n0 h0 ws Q T (mkF m pc' L (x :: y :: x :: y :: st))) : own_H p e below En n0 h0 ws Q T (mkF m pc L (x :: y :: st)) := by
  subst hp
  exact own_st X k (fun t A q => Jvm.Free.XT.dup2 A B.1 rfl (hb B.2.2.1 hd) rfl hx' hy' q)
theorem own_iinc (X : own_St p l e R s m args below meth c n0 h0 ws T h C S) (B : own_B Z p s m meth c bytes maxL own nm rt) {i : Nat} {cst : Int} {x : Int32} (hd : decode bytes pc = .ok (.iinc i cst, 3)) (hl : L[i]? = some (.val (.int x))) (hl' : storeLocals L i (.int (x + Int32.ofInt cst)) = some L') (hp : pc + 3 = pc') (k : own_H p e below En n0 h0 ws Q T (mkF m pc' L' st)) : own_H p e below En n0 h0 ws Q T (mkF m pc L st) := by
  subst hp
  exact own_st X k (fun t A q => XS.iinc A B.1 rfl (hb B.2.2.1 hd) hl hl' q)
theorem own_goto (X : own_St p l e R s m args below meth c n0 h0 ws T h C S) (B : own_B Z p s m meth c bytes maxL own nm rt) {o : Int} (hd : decode bytes pc = .ok (.goto o, 3)) (ho : 0 ≤ (pc : Int) + o) (hp : ((pc : Int) + o).toNat = pc') (k : own_H p e below En n0 h0 ws Q T (mkF m pc' L st)) : own_H p e below En n0 h0 ws Q T (mkF m pc L st) := own_st X k (fun t A q => XS.goto A B.1 rfl rfl (hb B.2.2.1 hd) ho hp q)
theorem own_icmpT (X : own_St p l e R s m args below meth c n0 h0 ws T h C S) (B : own_B Z p s m meth c bytes maxL own nm rt) {cd : ClassFile.Cond} {o : Int} {x y : Int32} (hd : decode bytes pc = .ok (.if_icmp cd o, 3)) (hc : if_icmp.holds cd x y = true) (ho : 0 ≤ (pc : Int) + o) (hp : ((pc : Int) + o).toNat = pc') (k : own_H p e below En n0 h0 ws Q T (mkF m pc' L st)) : own_H p e below En n0 h0 ws Q T (mkF m pc L (.int y :: .int x :: st)) := own_st X k (fun t A q => XS.icmpYes A B.1 rfl rfl (hb B.2.2.1 hd) rfl hc ho hp q)
theorem own_icmpF (X : own_St p l e R s m args below meth c n0 h0 ws T h C S) (B : own_B Z p s m meth c bytes maxL own nm rt) {cd : ClassFile.Cond} {o : Int} {x y : Int32} (hd : decode bytes pc = .ok (.if_icmp cd o, 3)) (hc : if_icmp.holds cd x y = false) (hp : pc + 3 = pc') (k : own_H p e below En n0 h0 ws Q T (mkF m pc' L st)) : own_H p e below En n0 h0 ws Q T (mkF m pc L (.int y :: .int x :: st)) := by
  subst hp
  exact own_st X k (fun t A q => XS.icmpNo A B.1 rfl (hb B.2.2.1 hd) rfl hc q)
theorem own_ifT (X : own_St p l e R s m args below meth c n0 h0 ws T h C S) (B : own_B Z p s m meth c bytes maxL own nm rt) {cd : ClassFile.Cond} {o : Int} {x : Int32} (hd : decode bytes pc = .ok (.ifCond cd o, 3)) (hc : if_icmp.holds cd x 0 = true) (ho : 0 ≤ (pc : Int) + o) (hp : ((pc : Int) + o).toNat = pc') (k : own_H p e below En n0 h0 ws Q T (mkF m pc' L st)) : own_H p e below En n0 h0 ws Q T (mkF m pc L (.int x :: st)) := own_st X k (fun t A q => XS.ifYes A B.1 rfl rfl (hb B.2.2.1 hd) rfl ((if0 _ _).trans hc) ho hp q)
theorem own_ifF (X : own_St p l e R s m args below meth c n0 h0 ws T h C S) (B : own_B Z p s m meth c bytes maxL own nm rt) {cd : ClassFile.Cond} {o : Int} {x : Int32} (hd : decode bytes pc = .ok (.ifCond cd o, 3)) (hc : if_icmp.holds cd x 0 = false) (hp : pc + 3 = pc') (k : own_H p e below En n0 h0 ws Q T (mkF m pc' L st)) : own_H p e below En n0 h0 ws Q T (mkF m pc L (.int x :: st)) := by
  subst hp
  exact own_st X k (fun t A q => XS.ifNo A B.1 rfl (hb B.2.2.1 hd) rfl ((if0 _ _).trans hc) q)
theorem own_ifnullT (X : own_St p l e R s m args below meth c n0 h0 ws T h C S) (B : own_B Z p s m meth c bytes maxL own nm rt) {o : Int} (hd : decode bytes pc = .ok (.ifnull o, 3)) (ho : 0 ≤ (pc : Int) + o) (hp : ((pc : Int) + o).toNat = pc') (k : own_H p e below En n0 h0 ws Q T (mkF m pc' L st)) : own_H p e below En n0 h0 ws Q T (mkF m pc L (.null :: st)) := own_st X k (fun t A q => XS.ifnullYes A B.1 rfl rfl (hb B.2.2.1 hd) rfl ho hp q)
theorem own_ifnullF (X : own_St p l e R s m args below meth c n0 h0 ws T h C S) (B : own_B Z p s m meth c bytes maxL own nm rt) {o : Int} {b : Addr} (hd : decode bytes pc = .ok (.ifnull o, 3)) (hp : pc + 3 = pc') (k : own_H p e below En n0 h0 ws Q T (mkF m pc' L st)) : own_H p e below En n0 h0 ws Q T (mkF m pc L (.ref b :: st)) := by
  subst hp
  exact own_st X k (fun t A q => XS.ifnullNo A B.1 rfl (hb B.2.2.1 hd) rfl q)
theorem own_ifnonnullT (X : own_St p l e R s m args below meth c n0 h0 ws T h C S) (B : own_B Z p s m meth c bytes maxL own nm rt) {o : Int} {b : Addr} (hd : decode bytes pc = .ok (.ifnonnull o, 3)) (ho : 0 ≤ (pc : Int) + o) (hp : ((pc : Int) + o).toNat = pc') (k : own_H p e below En n0 h0 ws Q T (mkF m pc' L st)) : own_H p e below En n0 h0 ws Q T (mkF m pc L (.ref b :: st)) := own_st X k (fun t A q => XS.ifnonnullYes A B.1 rfl rfl (hb B.2.2.1 hd) rfl ho hp q)
theorem own_ifnonnullF (X : own_St p l e R s m args below meth c n0 h0 ws T h C S) (B : own_B Z p s m meth c bytes maxL own nm rt) {o : Int} (hd : decode bytes pc = .ok (.ifnonnull o, 3)) (hp : pc + 3 = pc') (k : own_H p e below En n0 h0 ws Q T (mkF m pc' L st)) : own_H p e below En n0 h0 ws Q T (mkF m pc L (.null :: st)) := by
  subst hp
  exact own_st X k (fun t A q => XS.ifnonnullNo A B.1 rfl (hb B.2.2.1 hd) rfl q)
theorem own_acmpSame (X : own_St p l e R s m args below meth c n0 h0 ws T h C S) (B : own_B Z p s m meth c bytes maxL own nm rt) {o : Int} {a : Addr} (hd : decode bytes pc = .ok (.if_acmp .eq o, 3)) (ho : 0 ≤ (pc : Int) + o) (hp : ((pc : Int) + o).toNat = pc') (k : own_H p e below En n0 h0 ws Q T (mkF m pc' L st)) : own_H p e below En n0 h0 ws Q T (mkF m pc L (.ref a :: .ref a :: st)) := by
  obtain ⟨locs, Y, -⟩ := X
  exact own_tr (fun t q => Jvm.RoadKit.acmp (g := mkF m pc L (.ref a :: .ref a :: st)) Y B.1 rfl rfl rfl (pc0 := pc) (pc' := pc') (same := true) rfl (hb B.2.2.1 hd) rfl (decide_eq_true rfl) ho (hp.symm.trans (if_pos (show acV ACond.eq true = true from rfl)).symm) q) k
theorem own_iret (X : own_St p l e R s m args below meth c n0 h0 ws T h C S) (B : own_B Z p s m meth c bytes maxL own nm (some .int)) {x : Int32} (hd : decode bytes pc = .ok (.ireturn, 1)) (hc : C ≤ C') (hs : S ≤ S') (q : Q (some (.int x)) h) : own_G p e below s n0 h0 ws Q C' S' T (mkF m pc L (.int x :: st)) :=
  own_ret X B hc hs (v := some (.int x)) (fun h => by cases h) (fun locs fs Y hr => retOut Y B.1 B.2.2.2.2.2.2.1 rfl (Or.inl ⟨rfl, Or.inl rfl, _, rfl⟩) (hb B.2.2.1 hd) hr) q
theorem own_zret (X : own_St p l e R s m args below meth c n0 h0 ws T h C S) (B : own_B Z p s m meth c bytes maxL own nm (some .boolean)) {x : Int32} (hd : decode bytes pc = .ok (.ireturn, 1)) (hc : C ≤ C') (hs : S ≤ S') (hx : x &&& 1 = x) (q : Q (some (.int x)) h) : own_G p e below s n0 h0 ws Q C' S' T (mkF m pc L (.int x :: st)) :=
  own_ret X B hc hs (v := some (.int x)) (fun h => by cases h) (fun locs fs Y hr => retN Y B.1 (t := .boolean) B.2.2.2.2.2.2.1 (by simp) (hb B.2.2.1 hd) (by show ∀ (f : JFrame) (acts : List Action), f.method = m → f.locked = none → f.entered = [] → (doReturn e (T.setTop f) acts (some (.int (x &&& 1)))).1 = T.setFrames fs; rw [hx]; exact hr)) q
theorem own_lret (X : own_St p l e R s m args below meth c n0 h0 ws T h C S) (B : own_B Z p s m meth c bytes maxL own nm (some .long)) {x : Int64} (hd : decode bytes pc = .ok (.lreturn, 1)) (hc : C ≤ C') (hs : S ≤ S') (q : Q (some (.long x)) h) : own_G p e below s n0 h0 ws Q C' S' T (mkF m pc L (.long x :: st)) :=
  own_ret X B hc hs (v := some (.long x)) (fun h => by cases h) (fun locs fs Y hr => retOut Y B.1 B.2.2.2.2.2.2.1 rfl (Or.inr (Or.inl ⟨rfl, rfl, _, rfl⟩)) (hb B.2.2.1 hd) hr) q
theorem own_aret (X : own_St p l e R s m args below meth c n0 h0 ws T h C S) {ft : FieldType} (B : own_B Z p s m meth c bytes maxL own nm (some ft)) {x : Value} (hd : decode bytes pc = .ok (.areturn, 1)) (hft : ft.isReference = true) (hx : x.isRef = true) (hnx : narrow ft x = x) (hc : C ≤ C') (hs : S ≤ S') (q : Q (some x) h) : own_G p e below s n0 h0 ws Q C' S' T (mkF m pc L (x :: st)) :=
  own_ret X B hc hs (v := some x) (fun h => by cases h) (fun locs fs Y hr => retOut Y B.1 B.2.2.2.2.2.2.1 hnx (Or.inr (Or.inr (Or.inr (Or.inr ⟨rfl, hft, hx⟩)))) (hb B.2.2.1 hd) hr) q
theorem own_vret (X : own_St p l e R s m args below meth c n0 h0 ws T h C S) (B : own_B Z p s m meth c bytes maxL own nm none) (hd : decode bytes pc = .ok (.return_, 1)) (hc : C ≤ C') (hs : S ≤ S') (q : Q none h) : own_G p e below s n0 h0 ws Q C' S' T (mkF m pc L []) :=
  own_ret X B hc hs (v := none) (fun _ => rfl) (fun locs fs Y hr => Y.returnOut B.1 B.2.2.2.2.2.2.1 (hb B.2.2.1 hd) hr) q
/-! fields, objects -/
theorem own_lit (X : own_St p l e R s m args below meth c n0 h0 ws T h C S) (B : own_B Z p s m meth c bytes maxL own nm rt) {i : Nat} {v : Int32} (w : (Jvm.Cond.constant own i v).before a0 Z = true) (hd : decode bytes pc = .ok (.ldc i, 2)) (hp : pc + 2 = pc') (k : own_H p e below En n0 h0 ws Q T (mkF m pc' L (.int v :: st))) : own_H p e below En n0 h0 ws Q T (mkF m pc L st) := by
  subst hp
  obtain ⟨locs, Y, -⟩ := X
  exact own_tr (Y.ldcInt B.1 B.2.2.2.2.1 (mvT B.2.1 w) (g := mkF m pc L st) rfl (hb B.2.2.1 hd)) k
theorem own_litL (X : own_St p l e R s m args below meth c n0 h0 ws T h C S) (B : own_B Z p s m meth c bytes maxL own nm rt) {i : Nat} {v : Int64} (w : (Jvm.Cond.constantLong own i v).before a0 Z = true) (hd : decode bytes pc = .ok (.ldc2_w i, 3)) (hp : pc + 3 = pc') (k : own_H p e below En n0 h0 ws Q T (mkF m pc' L (.long v :: st))) : own_H p e below En n0 h0 ws Q T (mkF m pc L st) := by
  subst hp
  obtain ⟨locs, Y, -⟩ := X
  exact own_tr (Y.ldc2Long B.1 B.2.2.2.2.1 (mvT B.2.1 w) (g := mkF m pc L st) rfl (hb B.2.2.1 hd)) k
theorem own_getF (X : own_St p l e R s m args below meth c n0 h0 ws T h C S) (B : own_B Z p s m meth c bytes maxL own nm rt) {i : Nat} {O n d : String} (w : (Jvm.Cond.fieldLink own i O n d).before a0 Z = true) {a : Addr} {v : Value} (F : Fld Z h a O n d v) (hd : decode bytes pc = .ok (.getfield i, 3)) (hp : pc + 3 = pc')
    (k : ∀ T, own_St p l e R s m args below meth c n0 h0 ws T h C S → own_H p e below En n0 h0 ws Q T (mkF m pc' L (v :: st))) : own_H p e below En n0 h0 ws Q T (mkF m pc L (.ref a :: st)) := by
  subst hp
  obtain ⟨locs, Y, N, e, K⟩ := X
  obtain ⟨T1, Y1, e1, st1⟩ := getF Y B.1 B.2.1 B.2.2.2.2.1 (host := "") (Or.inl w) Via.refl e F (g := mkF m pc L (.ref a :: st)) rfl rfl (hb B.2.2.1 hd)
  exact own_tr st1 (k T1 ⟨locs, Y1, N, e1, K⟩)
theorem own_getN (X : own_St p l e R s m args below meth c n0 h0 ws T h C S) (B : own_B Z p s m meth c bytes maxL own nm rt) {i : Nat} {O n d host : String} (w : (Jvm.Cond.fieldLinkNest own i O n d host).before a0 Z = true) {a : Addr} {v : Value} (F : Fld Z h a O n d v) (hd : decode bytes pc = .ok (.getfield i, 3)) (hp : pc + 3 = pc')
    (k : ∀ T, own_St p l e R s m args below meth c n0 h0 ws T h C S → own_H p e below En n0 h0 ws Q T (mkF m pc' L (v :: st))) : own_H p e below En n0 h0 ws Q T (mkF m pc L (.ref a :: st)) := by
  subst hp
  obtain ⟨locs, Y, N, e, K⟩ := X
  obtain ⟨T1, Y1, e1, st1⟩ := getF Y B.1 B.2.1 B.2.2.2.2.1 (host := host) (Or.inr w) Via.refl e F (g := mkF m pc L (.ref a :: st)) rfl rfl (hb B.2.2.1 hd)
  exact own_tr st1 (k T1 ⟨locs, Y1, N, e1, K⟩)
theorem own_putF (X : own_St p l e R s m args below meth c n0 h0 ws T h C S) (B : own_B Z p s m meth c bytes maxL own nm rt) {i kk : Nat} {O n d K0 : String} (w : (Jvm.Cond.fieldLink own i O n d).before a0 Z = true) {a : Addr} {v old : Value} {ty : FieldType} (F : Fld Z h a O n d old) (E : Exa Z h a K0) (Lw : (Jvm.Cond.lays K0 O n d).before a0 Z = true ∨ ((Jvm.Cond.laysFinal K0 O n d).before a0 Z = true ∧ own = O ∧ nm = "<init>")) (wi : (Jvm.Cond.instantiable K0 kk).before a0 Z = true)
    (hty : parseFieldDescriptor d = some ty) (hn : narrow ty v = v) (hf : fits ty v = true) (hw1 : n0 ≤ a) (hw2 : a ∈ ws ∨ h0.size ≤ a) (hd : decode bytes pc = .ok (.putfield i, 3)) (hp : pc + 3 = pc')
    (k : ∀ T h', own_St p l e R s m args below meth c n0 h0 ws T h' C S → Wr h h' a (Jvm.RoadKit.slotOf Z O n d) v → Keep h h' [a] → Exa Z h' a K0 → Fld Z h' a O n d v → own_H p e below En n0 h0 ws Q T (mkF m pc' L st)) : own_H p e below En n0 h0 ws Q T (mkF m pc L (v :: .ref a :: st)) := by
  subst hp
  obtain ⟨locs, Y, N, e, K⟩ := X
  obtain ⟨T1, h1, Y1, e1, W1, st1⟩ := putF Y B.1 B.2.1 B.2.2.2.2.1 (host := "") (Or.inl w) Via.refl e F E (Lw.imp id (fun q => ⟨q.1, q.2.1, B.2.2.2.2.2.1.trans q.2.2⟩)) wi hty hn hf (g := mkF m pc L (v :: .ref a :: st)) rfl rfl (hb B.2.2.1 hd)
  exact own_tr st1 (k T1 h1 ⟨_, Y1, Fr.snoc Y1 N hw1, e1, K.wr W1 hw2⟩ W1 (Keep.of_wr W1) (E.wr W1) (F.same W1))
theorem own_putN (X : own_St p l e R s m args below meth c n0 h0 ws T h C S) (B : own_B Z p s m meth c bytes maxL own nm rt) {i kk : Nat} {O n d K0 host : String} (w : (Jvm.Cond.fieldLinkNest own i O n d host).before a0 Z = true) {a : Addr} {v old : Value} {ty : FieldType} (F : Fld Z h a O n d old) (E : Exa Z h a K0) (Lw : (Jvm.Cond.lays K0 O n d).before a0 Z = true ∨ ((Jvm.Cond.laysFinal K0 O n d).before a0 Z = true ∧ own = O ∧ nm = "<init>")) (wi : (Jvm.Cond.instantiable K0 kk).before a0 Z = true)
    (hty : parseFieldDescriptor d = some ty) (hn : narrow ty v = v) (hf : fits ty v = true) (hw1 : n0 ≤ a) (hw2 : a ∈ ws ∨ h0.size ≤ a) (hd : decode bytes pc = .ok (.putfield i, 3)) (hp : pc + 3 = pc')
    (k : ∀ T h', own_St p l e R s m args below meth c n0 h0 ws T h' C S → Wr h h' a (Jvm.RoadKit.slotOf Z O n d) v → Keep h h' [a] → Exa Z h' a K0 → Fld Z h' a O n d v → own_H p e below En n0 h0 ws Q T (mkF m pc' L st)) : own_H p e below En n0 h0 ws Q T (mkF m pc L (v :: .ref a :: st)) := by
  subst hp
  obtain ⟨locs, Y, N, e, K⟩ := X
  obtain ⟨T1, h1, Y1, e1, W1, st1⟩ := putF Y B.1 B.2.1 B.2.2.2.2.1 (host := host) (Or.inr w) Via.refl e F E (Lw.imp id (fun q => ⟨q.1, q.2.1, B.2.2.2.2.2.1.trans q.2.2⟩)) wi hty hn hf (g := mkF m pc L (v :: .ref a :: st)) rfl rfl (hb B.2.2.1 hd)
  exact own_tr st1 (k T1 h1 ⟨_, Y1, Fr.snoc Y1 N hw1, e1, K.wr W1 hw2⟩ W1 (Keep.of_wr W1) (E.wr W1) (F.same W1))
theorem own_newO (X : own_St p l e R s m args below meth c n0 h0 ws T h C S) (B : own_B Z p s m meth c bytes maxL own nm rt) {i n : Nat} {K0 : String} (w : (Jvm.Cond.classLink own i K0).before a0 Z = true) (wi : (Jvm.Cond.instantiable K0 n).before a0 Z = true) (wz : (Jvm.Cond.initialized K0).before a0 Z = true) (hc : C + 1 ≤ R.cells) (hs : S + n ≤ R.slots) (hd : decode bytes pc = .ok (.new i, 3)) (hp : pc + 3 = pc')
    (k : ∀ T h' a, a = h.size → own_St p l e R s m args below meth c n0 h0 ws T h' (C + 1) (S + n) → Keep h h' [] → Exa Z h' a K0 → (∀ {O nm d : String} {ty : FieldType}, Laid Z a0 K0 O nm d → parseFieldDescriptor d = some ty → Fld Z h' a O nm d (defaultValue ty)) → h0.size ≤ a → own_H p e below En n0 h0 ws Q T (mkF m pc' L (.ref a :: st))) : own_H p e below En n0 h0 ws Q T (mkF m pc L st) := by
  subst hp
  obtain ⟨locs, Y, N, e, K⟩ := X
  obtain ⟨T1, h1, Y1, e1, E1, A1, D1, -, st1⟩ := newO Y B.1 B.2.1 B.2.2.2.2.1 w wi wz e (g := mkF m pc L st) rfl (hb B.2.2.1 hd) hc hs
  exact own_tr st1 (k T1 h1 h.size rfl ⟨_, Y1, N, e1, K.ext E1⟩ ((Keep.refl h []).ext E1) A1 D1 K.1)
theorem own_initO (X : own_St p l e R s m args below meth c n0 h0 ws T h C S) (B : own_B Z p s m meth c bytes maxL own nm rt) {i : Nat} (w1 : (Jvm.Cond.methodLink own i Lib.objectInit).before a0 Z = true) (w2 : (Jvm.Cond.instanceMethod Lib.objectInit).before a0 Z = true) (w3 : (Jvm.Cond.code Lib.objectInit ⟨#[0xb1]⟩ 1 none).before a0 Z = true) (hL : L.size = maxL) {a : Addr} (hf : 1 ≤ R.frames) {W : Nat} (hW : (st.map fun v => v.category).sum ≤ W) (hl : W + 12 ≤ R.locals) (hd : decode bytes pc = .ok (.invokespecial i, 3)) (hp : pc + 3 = pc')
    (k : ∀ T, own_St p l e R s m args below meth c n0 h0 ws T h C S → own_H p e below En n0 h0 ws Q T (mkF m pc' L st)) : own_H p e below En n0 h0 ws Q T (mkF m pc L (.ref a :: st)) := by
  subst hp
  obtain ⟨locs, Y, N, e, K⟩ := X
  obtain ⟨T1, Y1, e1, st1⟩ := initO Y B.1 B.2.1 B.2.2.2.2.1 w1 w2 w3 e (g := mkF m pc L (.ref a :: st)) rfl (hL.trans B.2.2.2.1.symm) rfl (hb B.2.2.1 hd) hf (W := W) (by show 2 * 0 + _ ≤ _; omega) hl
  exact own_tr st1 (k T1 ⟨locs, Y1, N, e1, K⟩)
/-! calls by contract -/
theorem own_callS (X : own_St p l e R s m args below meth c n0 h0 ws T h C S) (B : own_B Z p s m meth c bytes maxL own nm rt) {i : Nat} {y : MethodName} {by2 : ByteArray} {ml2 : Nat} {rt2 : Option FieldType} {rm : Room} {as2 : Array Value} {ws2 : List Addr} {Q2 : Option Value → Heap → Prop} {W : Nat}
    (w1 : (Jvm.Cond.methodLink own i y).before a0 Z = true) (w2 : (Jvm.Cond.static y).before a0 Z = true) (w3 : (Jvm.Cond.initialized y.cls).before a0 Z = true) (w4 : (Jvm.Cond.code y by2 ml2 rt2).before a0 Z = true) (hy : y.cls ≠ "java/lang/invoke/MethodHandle" ∧ y.cls ≠ "java/lang/invoke/VarHandle")
    (M : own_C l Z y by2 ml2 rt2 [] rm as2 h n0 ws2 Q2 rm.cells rm.slots) (hf : rm.frames + 1 ≤ R.frames) (hl : W + (ml2 + 11) + rm.locals ≤ R.locals) (hc : C + rm.cells ≤ R.cells) (hs : S + rm.slots ≤ R.slots) (hL : L.size = maxL)
    {argsL : List Value} {ps : List FieldType} {r : Option FieldType} (hpd : parseMethodDescriptor y.desc = some ⟨ps, r⟩) (hlen : argsL.length = ps.length) (has : argsL.toArray = as2) {stk : List Value} (hstk : stk = argsL.reverse ++ st) (hW : (st.map fun v => v.category).sum ≤ W) (hd : decode bytes pc = .ok (.invokestatic i, 3)) (hp : pc + 3 = pc') (hws : ∀ x ∈ ws2, x ∈ ws ∨ h0.size ≤ x)
    (k : ∀ v T h', own_St p l e R s m args below meth c n0 h0 ws T h' (C + rm.cells) (S + rm.slots) → Keep h h' ws2 → Q2 v h' → own_H p e below En n0 h0 ws Q T (mkF m pc' L (v.toList ++ st))) : own_H p e below En n0 h0 ws Q T (mkF m pc L stk) := by
  subst hp hstk has
  obtain ⟨locs, Y, N, e, K⟩ := X
  obtain ⟨v, _, ⟨T1, L1, k1, n1⟩, -, Y1, ⟨Lc, hQ, l1, y1, z1⟩, st1⟩ := Jvm.LawKit.callS Y B.1 (y := y) B.2.2.2.2.1 (mvT B.2.1 w1) (mvT B.2.1 w2) (mvT B.2.1 w3) (mvT B.2.1 w4) hy (backOf (W := W) (Q := fun v h' L => Fr n0 L ∧ Keep h h' ws2 ∧ Q2 v h') M B.2.1 w4 w3 hf hl) (g := mkF m pc L (argsL.reverse ++ st)) rfl (hL.trans B.2.2.2.1.symm) (argsL := argsL) (rest := st) (lenOf hpd hlen) rfl (by show 2 * 0 + _ ≤ _; omega) (hb B.2.2.1 hd) (fun _ _ => ⟨rfl, e, hc, hs⟩)
  dsimp only [Pt.U, Pt.locs, Pt.cells, Pt.slots] at Y1 l1 y1 z1 st1 hQ
  subst l1 y1 z1
  obtain ⟨N2, K2, q2⟩ := hQ
  exact own_tr st1 (k v T1 _ ⟨_, Y1, Fr.app N N2, rfl, K.trans K2 hws⟩ K2 q2)
theorem own_callV (X : own_St p l e R s m args below meth c n0 h0 ws T h C S) (B : own_B Z p s m meth c bytes maxL own nm rt) {i : Nat} {y : MethodName} {by2 : ByteArray} {ml2 : Nat} {rt2 : Option FieldType} {rm : Room} {as2 : Array Value} {ws2 : List Addr} {Q2 : Option Value → Heap → Prop} {W : Nat} {K0 : String} {a : Addr}
    (w1 : (Jvm.Cond.methodLink own i y).before a0 Z = true) (w2 : (Jvm.Cond.declares y).before a0 Z = true) (w3 : (Jvm.Cond.selects K0 y y).before a0 Z = true) (w5 : (Jvm.Cond.instanceMethod y).before a0 Z = true) (w4 : (Jvm.Cond.code y by2 ml2 rt2).before a0 Z = true) (w6 : (Jvm.Cond.initialized y.cls).before a0 Z = true) (hy : y.cls ≠ "java/lang/invoke/MethodHandle" ∧ y.cls ≠ "java/lang/invoke/VarHandle") (E : Exa Z h a K0)
    (M : own_C l Z y by2 ml2 rt2 [] rm as2 h n0 ws2 Q2 rm.cells rm.slots) (hf : rm.frames + 1 ≤ R.frames) (hl : W + (ml2 + 11) + rm.locals ≤ R.locals) (hc : C + rm.cells ≤ R.cells) (hs : S + rm.slots ≤ R.slots) (hL : L.size = maxL)
    {argsL : List Value} {ps : List FieldType} {r : Option FieldType} (hpd : parseMethodDescriptor y.desc = some ⟨ps, r⟩) (hlen : argsL.length = ps.length) (has : (.ref a :: argsL).toArray = as2) {stk : List Value} (hstk : stk = argsL.reverse ++ .ref a :: st) (hW : (st.map fun v => v.category).sum ≤ W) (hd : decode bytes pc = .ok (.invokevirtual i, 3)) (hp : pc + 3 = pc') (hws : ∀ x ∈ ws2, x ∈ ws ∨ h0.size ≤ x)
    (k : ∀ v T h', own_St p l e R s m args below meth c n0 h0 ws T h' (C + rm.cells) (S + rm.slots) → Keep h h' ws2 → Q2 v h' → own_H p e below En n0 h0 ws Q T (mkF m pc' L (v.toList ++ st))) : own_H p e below En n0 h0 ws Q T (mkF m pc L stk) := by
  subst hp hstk has
  obtain ⟨locs, Y, N, e, K⟩ := X
  obtain ⟨cq, kq, qa, qb, qc⟩ := isOf (T := T) B.2.1 e E
  obtain ⟨v, _, ⟨T1, L1, k1, n1⟩, -, Y1, ⟨Lc, hQ, l1, y1, z1⟩, st1⟩ := Y.virtualBack B.1 (y := y) (z := y) B.2.2.2.2.1 (mvT B.2.1 w1) (mvT B.2.1 w2) (notFace_of_selects (args := #[]) (mvT B.2.1 w3)) (mvT B.2.1 w3) (mvT B.2.1 w5) hy (backOf (W := W) (Q := fun v h' L => Fr n0 L ∧ Keep h h' ws2 ∧ Q2 v h') M B.2.1 w4 w6 hf hl) qa qc (g := mkF m pc L (argsL.reverse ++ .ref a :: st)) rfl (hL.trans B.2.2.2.1.symm) (Steps.refl _) (argsL := argsL) (rest := st) (lenOf hpd hlen) rfl (by show 2 * 0 + _ ≤ _; omega) (hb B.2.2.1 hd) (fun _ _ => ⟨rfl, e, hc, hs⟩)
  dsimp only [Pt.U, Pt.locs, Pt.cells, Pt.slots] at Y1 l1 y1 z1 st1 hQ
  subst l1 y1 z1
  obtain ⟨N2, K2, q2⟩ := hQ
  exact own_tr (fun t q => st1.trans q) (k v T1 _ ⟨_, Y1, Fr.app N N2, rfl, K.trans K2 hws⟩ K2 q2)
theorem own_callI (X : own_St p l e R s m args below meth c n0 h0 ws T h C S) (B : own_B Z p s m meth c bytes maxL own nm rt) {i : Nat} {y : MethodName} {by2 : ByteArray} {ml2 : Nat} {rm : Room} {as2 : Array Value} {ws2 : List Addr} {Q2 : Option Value → Heap → Prop} {W : Nat} {a : Addr} (hy1 : y.name = "<init>")
    (w1 : (Jvm.Cond.methodLink own i y).before a0 Z = true) (w5 : (Jvm.Cond.instanceMethod y).before a0 Z = true) (w4 : (Jvm.Cond.code y by2 ml2 none).before a0 Z = true) (w6 : (Jvm.Cond.initialized y.cls).before a0 Z = true) (hy : y.cls ≠ "java/lang/invoke/MethodHandle" ∧ y.cls ≠ "java/lang/invoke/VarHandle")
    (M : own_C l Z y by2 ml2 none [] rm as2 h n0 ws2 Q2 rm.cells rm.slots) (hf : rm.frames + 1 ≤ R.frames) (hl : W + (ml2 + 11) + rm.locals ≤ R.locals) (hc : C + rm.cells ≤ R.cells) (hs : S + rm.slots ≤ R.slots) (hL : L.size = maxL)
    {argsL : List Value} {ps : List FieldType} {r : Option FieldType} (hpd : parseMethodDescriptor y.desc = some ⟨ps, r⟩) (hlen : argsL.length = ps.length) (has : (.ref a :: argsL).toArray = as2) {stk : List Value} (hstk : stk = argsL.reverse ++ .ref a :: st) (hW : (st.map fun v => v.category).sum ≤ W) (hd : decode bytes pc = .ok (.invokespecial i, 3)) (hp : pc + 3 = pc') (hws : ∀ x ∈ ws2, x ∈ ws ∨ h0.size ≤ x)
    (k : ∀ v T h', own_St p l e R s m args below meth c n0 h0 ws T h' (C + rm.cells) (S + rm.slots) → Keep h h' ws2 → Q2 v h' → own_H p e below En n0 h0 ws Q T (mkF m pc' L (v.toList ++ st))) : own_H p e below En n0 h0 ws Q T (mkF m pc L stk) := by
  subst hp hstk has
  obtain ⟨locs, Y, N, e, K⟩ := X
  obtain ⟨v, _, ⟨T1, L1, k1, n1⟩, -, Y1, ⟨Lc, hQ, l1, y1, z1⟩, st1⟩ := Y.specialBack B.1 (y := y) hy1 B.2.2.2.2.1 (mvT B.2.1 w1) (mvT B.2.1 w5) (mvT B.2.1 w4) hy (backOf (W := W) (Q := fun v h' L => Fr n0 L ∧ Keep h h' ws2 ∧ Q2 v h') M B.2.1 w4 w6 hf hl) (g := mkF m pc L (argsL.reverse ++ .ref a :: st)) rfl (hL.trans B.2.2.2.1.symm) (Steps.refl _) (a := a) (argsL := argsL) (rest := st) (lenOf hpd hlen) rfl (by show 2 * 0 + _ ≤ _; omega) (hb B.2.2.1 hd) (fun _ _ => ⟨rfl, e, hc, hs⟩)
  dsimp only [Pt.U, Pt.locs, Pt.cells, Pt.slots] at Y1 l1 y1 z1 st1 hQ
  subst l1 y1 z1
  obtain ⟨N2, K2, q2⟩ := hQ
  exact own_tr (fun t q => st1.trans q) (k v T1 _ ⟨_, Y1, Fr.app N N2, rfl, K.trans K2 hws⟩ K2 q2)
/-! arrays of ints and of longs, by a function of the place -/
theorem own_ix {j : Int32} {i n : Nat} (hj : j.toInt = (i : Int)) (hi : i < n) : ¬ (j < 0 ∨ n ≤ j.toNatClampNeg) ∧ j.toNatClampNeg = i := by
  have e : j.toNatClampNeg = i := by show j.toInt.toNat = i; omega
  refine ⟨?_, e⟩
  rw [e, Int32.lt_iff_toInt_lt]
  have : (0 : Int32).toInt = 0 := rfl
  omega
theorem own_ne {a b : Addr} (lt : a < h.size) (g : b = h.size) : a ≠ b := by
  rw [g]
  exact Nat.ne_of_lt lt
theorem own_up_same {α : Type} (f : Nat → α) (i : Nat) (x : α) : (fun k => if k = i then x else f k) i = x := by simp
def own_AJ (Z : State) (h : Heap) (a : Addr) (n : Nat) (f : Nat → Int64) : Prop := ∃ cl : Cell, Arr Z h a cl .long ∧ cl.slots.size = n ∧ n < 2147483648 ∧ ∀ i, i < n → cl.slots[i]? = some (.long (f i))
theorem own_AJ.lt {a : Addr} {n : Nat} {f : Nat → Int64} (A : own_AJ Z h a n f) : a < h.size := by
  obtain ⟨cl, A, -⟩ := A
  exact A.lt
theorem own_AJ.keep {a : Addr} {n : Nat} {f : Nat → Int64} (A : own_AJ Z h a n f) {w2 : List Addr} (K : Keep h h' w2) (q : a ∉ w2) : own_AJ Z h' a n f := by
  obtain ⟨cl, A, r⟩ := A
  exact ⟨cl, ⟨K.2.1 _ _ A.1 q, A.2⟩, r⟩
theorem own_AJ.congr {a : Addr} {n : Nat} {f g : Nat → Int64} (A : own_AJ Z h a n f) (q : ∀ i, i < n → f i = g i) : own_AJ Z h a n g := by
  obtain ⟨cl, A, r1, r2, r3⟩ := A
  exact ⟨cl, A, r1, r2, fun i hi => by rw [r3 i hi, q i hi]⟩
theorem own_newJ (X : own_St p l e R s m args below meth c n0 h0 ws T h C S) (B : own_B Z p s m meth c bytes maxL own nm rt) (w : (Jvm.Cond.arrayClass .long).before a0 Z = true) {j : Int32} {n cap : Nat} (hj : j.toInt = (n : Int)) (hcap : n ≤ cap) (hb8 : cap * 8 ≤ 536870912) (hc : C + 1 ≤ R.cells) (hs : S + cap ≤ R.slots) (hd : decode bytes pc = .ok (.newarray .long, 2)) (hp : pc + 2 = pc')
    (k : ∀ T h' a, a = h.size → own_St p l e R s m args below meth c n0 h0 ws T h' (C + 1) (S + cap) → Keep h h' [] → own_AJ Z h' a n (fun _ => 0) → h0.size ≤ a → own_H p e below En n0 h0 ws Q T (mkF m pc' L (.ref a :: st))) : own_H p e below En n0 h0 ws Q T (mkF m pc L (.int j :: st)) := by
  subst hp
  obtain ⟨locs, Y, N, e, K⟩ := X
  have hn : ¬ j < 0 := by rw [Int32.lt_iff_toInt_lt]; have : (0 : Int32).toInt = 0 := rfl; omega
  have hnn : j.toNatClampNeg = n := by show j.toInt.toNat = n; omega
  obtain ⟨T1, h1, cA, Y1, e1, E1, A1, st1⟩ := newP Y B.1 B.2.1 (aty := .long) w e (g := mkF m pc L (.int j :: st)) rfl (hb B.2.2.1 hd) rfl hn (cap := cap) (hnn ▸ hcap) hb8 hc hs
  refine own_tr st1 (k T1 h1 h.size rfl ⟨_, Y1, N, e1, K.ext E1⟩ ((Keep.refl h []).ext E1) ⟨_, A1, ?_, by omega, ?_⟩ K.1)
  · rw [sz_new, hnn]
  · intro i hi
    show (Array.replicate j.toNatClampNeg (defaultValue .long))[i]? = _
    rw [hnn, Array.getElem?_replicate, if_pos hi]
    rfl
theorem own_laload (X : own_St p l e R s m args below meth c n0 h0 ws T h C S) (B : own_B Z p s m meth c bytes maxL own nm rt) {a : Addr} {n i : Nat} {f : Nat → Int64} {j : Int32} (A : own_AJ Z h a n f) (hj : j.toInt = (i : Int)) (hi : i < n) (hd : decode bytes pc = .ok (.laload, 1)) (hp : pc + 1 = pc') (k : own_H p e below En n0 h0 ws Q T (mkF m pc' L (.long (f i) :: st))) : own_H p e below En n0 h0 ws Q T (mkF m pc L (.int j :: .ref a :: st)) := by
  subst hp
  obtain ⟨locs, Y, N, e, K⟩ := X
  obtain ⟨cl, A, r1, r2, r3⟩ := A
  obtain ⟨q1, q2⟩ := own_ix hj (r1.symm ▸ hi : i < cl.slots.size)
  exact own_tr (fun t q => Y.laload B.1 (j := j) (v := .long (f i)) (by rw [e]; exact A.1) (State.isArrayOf_alike B.2.1.alike A.2.1) A.2.2 q1 (by rw [q2]; exact r3 i hi) (g := mkF m pc L (.int j :: .ref a :: st)) rfl rfl (hb B.2.2.1 hd) t q) k
theorem own_lenJ (X : own_St p l e R s m args below meth c n0 h0 ws T h C S) (B : own_B Z p s m meth c bytes maxL own nm rt) {a : Addr} {n : Nat} {f : Nat → Int64} (A : own_AJ Z h a n f) (hd : decode bytes pc = .ok (.arraylength, 1)) (hp : pc + 1 = pc') (k : own_H p e below En n0 h0 ws Q T (mkF m pc' L (.int (Int32.ofNat n) :: st))) : own_H p e below En n0 h0 ws Q T (mkF m pc L (.ref a :: st)) := by
  subst hp
  obtain ⟨locs, Y, N, e, K⟩ := X
  obtain ⟨cl, A, r1, r2, r3⟩ := A
  subst r1
  exact own_tr (fun t q => Y.arraylength B.1 (by rw [e]; exact A.1) (State.isArrayOf_alike B.2.1.alike A.2.1) (g := mkF m pc L (.ref a :: st)) rfl rfl (hb B.2.2.1 hd) t q) k
theorem own_lastore (X : own_St p l e R s m args below meth c n0 h0 ws T h C S) (B : own_B Z p s m meth c bytes maxL own nm rt) {a : Addr} {n i : Nat} {f : Nat → Int64} {j : Int32} {x : Int64} (A : own_AJ Z h a n f) (hj : j.toInt = (i : Int)) (hi : i < n) (hw1 : n0 ≤ a) (hw2 : a ∈ ws ∨ h0.size ≤ a) (hd : decode bytes pc = .ok (.lastore, 1)) (hp : pc + 1 = pc')
    (k : ∀ T h', own_St p l e R s m args below meth c n0 h0 ws T h' C S → Keep h h' [a] → own_AJ Z h' a n (fun k => if k = i then x else f k) → own_H p e below En n0 h0 ws Q T (mkF m pc' L st)) : own_H p e below En n0 h0 ws Q T (mkF m pc L (.long x :: .int j :: .ref a :: st)) := by
  subst hp
  obtain ⟨locs, Y, N, e, K⟩ := X
  obtain ⟨cl, A, r1, r2, r3⟩ := A
  obtain ⟨q1, q2⟩ := own_ix hj (r1.symm ▸ hi : i < cl.slots.size)
  obtain ⟨T1, h1, Y1, e1, W1, st1⟩ := stJ Y B.1 B.2.1 e A (j := j) (x := x) q1 (g := mkF m pc L (.long x :: .int j :: .ref a :: st)) rfl rfl (hb B.2.2.1 hd)
  refine own_tr st1 (k T1 h1 ⟨_, Y1, Fr.snoc Y1 N hw1, e1, K.wr W1 hw2⟩ (Keep.of_wr W1) ⟨_, A.same W1, ?_, r2, ?_⟩)
  · rw [sz_set, r1]
  · intro u hu
    show (cl.slots.setIfInBounds j.toNatClampNeg (.long x))[u]? = some (.long (if u = i then x else f u))
    rw [q2, Array.getElem?_setIfInBounds]
    by_cases hui : u = i
    · subst hui; rw [if_pos rfl, if_pos (r1.symm ▸ hi), if_pos rfl]
    · rw [if_neg (fun q => hui q.symm), if_neg hui]; exact r3 u hu
def own_AI (Z : State) (h : Heap) (a : Addr) (n : Nat) (f : Nat → Int32) : Prop := ∃ cl : Cell, Arr Z h a cl .int ∧ cl.slots.size = n ∧ n < 2147483648 ∧ ∀ i, i < n → cl.slots[i]? = some (.int (f i))
theorem own_AI.lt {a : Addr} {n : Nat} {f : Nat → Int32} (A : own_AI Z h a n f) : a < h.size := by
  obtain ⟨cl, A, -⟩ := A
  exact A.lt
theorem own_AI.keep {a : Addr} {n : Nat} {f : Nat → Int32} (A : own_AI Z h a n f) {w2 : List Addr} (K : Keep h h' w2) (q : a ∉ w2) : own_AI Z h' a n f := by
  obtain ⟨cl, A, r⟩ := A
  exact ⟨cl, ⟨K.2.1 _ _ A.1 q, A.2⟩, r⟩
theorem own_AI.congr {a : Addr} {n : Nat} {f g : Nat → Int32} (A : own_AI Z h a n f) (q : ∀ i, i < n → f i = g i) : own_AI Z h a n g := by
  obtain ⟨cl, A, r1, r2, r3⟩ := A
  exact ⟨cl, A, r1, r2, fun i hi => by rw [r3 i hi, q i hi]⟩
theorem own_newI (X : own_St p l e R s m args below meth c n0 h0 ws T h C S) (B : own_B Z p s m meth c bytes maxL own nm rt) (w : (Jvm.Cond.arrayClass .int).before a0 Z = true) {j : Int32} {n cap : Nat} (hj : j.toInt = (n : Int)) (hcap : n ≤ cap) (hb8 : cap * 8 ≤ 536870912) (hc : C + 1 ≤ R.cells) (hs : S + cap ≤ R.slots) (hd : decode bytes pc = .ok (.newarray .int, 2)) (hp : pc + 2 = pc')
    (k : ∀ T h' a, a = h.size → own_St p l e R s m args below meth c n0 h0 ws T h' (C + 1) (S + cap) → Keep h h' [] → own_AI Z h' a n (fun _ => 0) → h0.size ≤ a → own_H p e below En n0 h0 ws Q T (mkF m pc' L (.ref a :: st))) : own_H p e below En n0 h0 ws Q T (mkF m pc L (.int j :: st)) := by
  subst hp
  obtain ⟨locs, Y, N, e, K⟩ := X
  have hn : ¬ j < 0 := by rw [Int32.lt_iff_toInt_lt]; have : (0 : Int32).toInt = 0 := rfl; omega
  have hnn : j.toNatClampNeg = n := by show j.toInt.toNat = n; omega
  obtain ⟨T1, h1, cA, Y1, e1, E1, A1, st1⟩ := newP Y B.1 B.2.1 (aty := .int) w e (g := mkF m pc L (.int j :: st)) rfl (hb B.2.2.1 hd) rfl hn (cap := cap) (hnn ▸ hcap) hb8 hc hs
  refine own_tr st1 (k T1 h1 h.size rfl ⟨_, Y1, N, e1, K.ext E1⟩ ((Keep.refl h []).ext E1) ⟨_, A1, ?_, by omega, ?_⟩ K.1)
  · rw [sz_new, hnn]
  · intro i hi
    show (Array.replicate j.toNatClampNeg (defaultValue .int))[i]? = _
    rw [hnn, Array.getElem?_replicate, if_pos hi]
    rfl
theorem own_iaload (X : own_St p l e R s m args below meth c n0 h0 ws T h C S) (B : own_B Z p s m meth c bytes maxL own nm rt) {a : Addr} {n i : Nat} {f : Nat → Int32} {j : Int32} (A : own_AI Z h a n f) (hj : j.toInt = (i : Int)) (hi : i < n) (hd : decode bytes pc = .ok (.iaload, 1)) (hp : pc + 1 = pc') (k : own_H p e below En n0 h0 ws Q T (mkF m pc' L (.int (f i) :: st))) : own_H p e below En n0 h0 ws Q T (mkF m pc L (.int j :: .ref a :: st)) := by
  subst hp
  obtain ⟨locs, Y, N, e, K⟩ := X
  obtain ⟨cl, A, r1, r2, r3⟩ := A
  obtain ⟨q1, q2⟩ := own_ix hj (r1.symm ▸ hi : i < cl.slots.size)
  exact own_tr (fun t q => Y.iaload B.1 (j := j) (v := .int (f i)) (by rw [e]; exact A.1) (State.isArrayOf_alike B.2.1.alike A.2.1) A.2.2 q1 (by rw [q2]; exact r3 i hi) (g := mkF m pc L (.int j :: .ref a :: st)) rfl rfl (hb B.2.2.1 hd) t q) k
theorem own_lenI (X : own_St p l e R s m args below meth c n0 h0 ws T h C S) (B : own_B Z p s m meth c bytes maxL own nm rt) {a : Addr} {n : Nat} {f : Nat → Int32} (A : own_AI Z h a n f) (hd : decode bytes pc = .ok (.arraylength, 1)) (hp : pc + 1 = pc') (k : own_H p e below En n0 h0 ws Q T (mkF m pc' L (.int (Int32.ofNat n) :: st))) : own_H p e below En n0 h0 ws Q T (mkF m pc L (.ref a :: st)) := by
  subst hp
  obtain ⟨locs, Y, N, e, K⟩ := X
  obtain ⟨cl, A, r1, r2, r3⟩ := A
  subst r1
  exact own_tr (fun t q => Y.arraylength B.1 (by rw [e]; exact A.1) (State.isArrayOf_alike B.2.1.alike A.2.1) (g := mkF m pc L (.ref a :: st)) rfl rfl (hb B.2.2.1 hd) t q) k
theorem own_iastore (X : own_St p l e R s m args below meth c n0 h0 ws T h C S) (B : own_B Z p s m meth c bytes maxL own nm rt) {a : Addr} {n i : Nat} {f : Nat → Int32} {j : Int32} {x : Int32} (A : own_AI Z h a n f) (hj : j.toInt = (i : Int)) (hi : i < n) (hw1 : n0 ≤ a) (hw2 : a ∈ ws ∨ h0.size ≤ a) (hd : decode bytes pc = .ok (.iastore, 1)) (hp : pc + 1 = pc')
    (k : ∀ T h', own_St p l e R s m args below meth c n0 h0 ws T h' C S → Keep h h' [a] → own_AI Z h' a n (fun k => if k = i then x else f k) → own_H p e below En n0 h0 ws Q T (mkF m pc' L st)) : own_H p e below En n0 h0 ws Q T (mkF m pc L (.int x :: .int j :: .ref a :: st)) := by
  subst hp
  obtain ⟨locs, Y, N, e, K⟩ := X
  obtain ⟨cl, A, r1, r2, r3⟩ := A
  obtain ⟨q1, q2⟩ := own_ix hj (r1.symm ▸ hi : i < cl.slots.size)
  obtain ⟨T1, h1, Y1, e1, W1, st1⟩ := stI Y B.1 B.2.1 e A (j := j) (x := x) q1 (g := mkF m pc L (.int x :: .int j :: .ref a :: st)) rfl rfl (hb B.2.2.1 hd)
  refine own_tr st1 (k T1 h1 ⟨_, Y1, Fr.snoc Y1 N hw1, e1, K.wr W1 hw2⟩ (Keep.of_wr W1) ⟨_, A.same W1, ?_, r2, ?_⟩)
  · rw [sz_set, r1]
  · intro u hu
    show (cl.slots.setIfInBounds j.toNatClampNeg (.int x))[u]? = some (.int (if u = i then x else f u))
    rw [q2, Array.getElem?_setIfInBounds]
    by_cases hui : u = i
    · subst hui; rw [if_pos rfl, if_pos (r1.symm ▸ hi), if_pos rfl]
    · rw [if_neg (fun q => hui q.symm), if_neg hui]; exact r3 u hu
end OwnKit
theorem own_sz {p : Program} {l : Launch} {e : Env} {R : Room} {s : State} {m : MethodId} {args : Array Value} {below : List Frame} {meth : Method} {c : Code} {n0 : Nat} {h0 h : Heap} {ws : List Addr} {T : State} {C S : Nat} (X : own_St p l e R s m args below meth c n0 h0 ws T h C S) (Z0 : n0 ≤ h0.size) : n0 ≤ h.size := by
  obtain ⟨_, _, _, _, K⟩ := X
  exact Nat.le_trans Z0 K.1
theorem own_nat {n : Nat} (h : n < 2147483648) : (Int32.ofNat n).toInt = (n : Int) := len_toInt (by omega)
theorem own_ltN {i n : Nat} (hi : i < 2147483648) (hn : n < 2147483648) : (Int32.ofNat i < Int32.ofNat n) ↔ i < n := by
  rw [Int32.lt_iff_toInt_lt, own_nat hi, own_nat hn]; omega
theorem own_eqN {i n : Nat} (hi : i < 2147483648) (hn : n < 2147483648) : (Int32.ofNat i = Int32.ofNat n) ↔ i = n := by
  rw [← Int32.toInt_inj, own_nat hi, own_nat hn]; omega
theorem own_succ (i : Nat) : Int32.ofNat i + (1 : Int32) = Int32.ofNat (i + 1) := by
  rw [← Int32.toBitVec_inj]; simp [Int32.ofNat_add]
theorem own_and3 (x : Int32) : ∃ n : Nat, n < 4 ∧ x &&& (3 : Int32) = Int32.ofNat n := by
  have h := c_mask x 3 2 (by decide) (by decide)
  have hp : ((2 ^ 2 : Nat) : Int) = 4 := rfl
  rw [hp] at h
  refine ⟨(x.toInt % 4).toNat, by omega, ?_⟩
  rw [← Int32.toInt_inj, own_nat (by omega), h]; omega
def own_v4 (a b c d : Int32) (i : Nat) : Int32 := if i = 0 then a else if i = 1 then b else if i = 2 then c else d
def own_q (a b c d : Nat) (i : Nat) : Nat := if i = 0 then a else if i = 1 then b else if i = 2 then c else d
def own_part (g : Nat → Int32) (f : Nat → Nat) (i : Nat) (z : Nat) : Int32 := if z < i then g (f z) else 0
theorem own_part_nil (g : Nat → Int32) (f : Nat → Nat) (z : Nat) : own_part g f 0 z = 0 := if_neg (Nat.not_lt_zero z)
theorem own_part_at (g : Nat → Int32) (f : Nat → Nat) (i : Nat) : own_part g f (i + 1) i = g (f i) := if_pos (Nat.lt_succ_self i)
theorem own_part_all (g : Nat → Int32) (f : Nat → Nat) {n z : Nat} (h : z < n) : own_part g f n z = g (f z) := if_pos h
theorem own_part_succ (g : Nat → Int32) (f : Nat → Nat) (i z : Nat) : (if z = i then g (f i) else own_part g f i z) = own_part g f (i + 1) z := by
  unfold own_part
  by_cases h : z = i
  · subst h; rw [if_pos rfl, if_pos (Nat.lt_succ_self z)]
  · rw [if_neg h]
    by_cases h2 : z < i
    · rw [if_pos h2, if_pos (by omega)]
    · rw [if_neg h2, if_neg (by omega)]
theorem own_q_lt {a b c d : Nat} (ha : a < 4) (hb : b < 4) (hc : c < 4) (hd : d < 4) (i : Nat) : own_q a b c d i < 4 := by
  unfold own_q
  split
  · exact ha
  · split
    · exact hb
    · split
      · exact hc
      · exact hd
theorem own_mod5 (x : Int32) : ∃ n : Nat, n < 5 ∧ (x &&& (7 : Int32)) % (5 : Int32) = Int32.ofNat n := by
  have h := c_mask x 7 3 (by decide) (by decide)
  have hp : ((2 ^ 3 : Nat) : Int) = 8 := rfl
  rw [hp] at h
  have h2 := (c_irem (x &&& 7) 5 5 rfl).1 (by omega)
  refine ⟨((x &&& (7 : Int32)).toInt % 5).toNat, by omega, ?_⟩
  rw [← Int32.toInt_inj, own_nat (by omega), h2]; omega
theorem pd_1 : parseMethodDescriptor "([I[I)[I" = some ⟨[(.array .int), (.array .int)], some (.array .int)⟩ := by decide +kernel
theorem pd_2 : parseMethodDescriptor "(IIIII)I" = some ⟨[.int, .int, .int, .int, .int], some .int⟩ := by decide +kernel
theorem da_0 : decode prog_124_method_51_code 0 = .ok (.aload_n 0, 1) := by decide +kernel
theorem da_1 : decode prog_124_method_51_code 1 = .ok (.arraylength, 1) := by decide +kernel
theorem da_2 : decode prog_124_method_51_code 2 = .ok (.newarray .int, 2) := by decide +kernel
theorem da_4 : decode prog_124_method_51_code 4 = .ok (.astore_n 2, 1) := by decide +kernel
theorem da_5 : decode prog_124_method_51_code 5 = .ok (.iconst 0, 1) := by decide +kernel
theorem da_6 : decode prog_124_method_51_code 6 = .ok (.istore_n 3, 1) := by decide +kernel
theorem da_7 : decode prog_124_method_51_code 7 = .ok (.iload_n 3, 1) := by decide +kernel
theorem da_8 : decode prog_124_method_51_code 8 = .ok (.aload_n 0, 1) := by decide +kernel
theorem da_9 : decode prog_124_method_51_code 9 = .ok (.arraylength, 1) := by decide +kernel
theorem da_10 : decode prog_124_method_51_code 10 = .ok (.if_icmp .ge 25, 3) := by decide +kernel
theorem da_13 : decode prog_124_method_51_code 13 = .ok (.aload_n 2, 1) := by decide +kernel
theorem da_14 : decode prog_124_method_51_code 14 = .ok (.iload_n 3, 1) := by decide +kernel
theorem da_15 : decode prog_124_method_51_code 15 = .ok (.aload_n 1, 1) := by decide +kernel
theorem da_16 : decode prog_124_method_51_code 16 = .ok (.aload_n 0, 1) := by decide +kernel
theorem da_17 : decode prog_124_method_51_code 17 = .ok (.iload_n 3, 1) := by decide +kernel
theorem da_18 : decode prog_124_method_51_code 18 = .ok (.iaload, 1) := by decide +kernel
theorem da_19 : decode prog_124_method_51_code 19 = .ok (.iaload, 1) := by decide +kernel
theorem da_20 : decode prog_124_method_51_code 20 = .ok (.iastore, 1) := by decide +kernel
theorem da_21 : decode prog_124_method_51_code 21 = .ok (.aload_n 2, 1) := by decide +kernel
theorem da_22 : decode prog_124_method_51_code 22 = .ok (.iload_n 3, 1) := by decide +kernel
theorem da_23 : decode prog_124_method_51_code 23 = .ok (.iaload, 1) := by decide +kernel
theorem da_24 : decode prog_124_method_51_code 24 = .ok (.ifCond .ge 5, 3) := by decide +kernel
theorem da_27 : decode prog_124_method_51_code 27 = .ok (.aconst_null, 1) := by decide +kernel
theorem da_28 : decode prog_124_method_51_code 28 = .ok (.areturn, 1) := by decide +kernel
theorem da_29 : decode prog_124_method_51_code 29 = .ok (.iinc 3 1, 3) := by decide +kernel
theorem da_32 : decode prog_124_method_51_code 32 = .ok (.goto (-25), 3) := by decide +kernel
theorem da_35 : decode prog_124_method_51_code 35 = .ok (.aload_n 2, 1) := by decide +kernel
theorem da_36 : decode prog_124_method_51_code 36 = .ok (.areturn, 1) := by decide +kernel
set_option maxRecDepth 65536 in
set_option maxHeartbeats 40000000 in
theorem rm1 (l : Launch) (Z : State) (a0 : Array Value) (hw : ∀ d ∈ tables_1, d.before a0 Z = true) (t : Addr) (u : Addr) (n : Nat) (f : Nat → Nat) (g : Nat → Int32) (h0 : Heap) (n0 : Nat) (Z0 : n0 ≤ h0.size) (A_t : own_AI Z h0 t n (fun i => Int32.ofNat (f i))) (A_u : own_AI Z h0 u 4 g) (hn : n ≤ 4) (hf : ∀ i, i < n → f i < 4) :
    own_C l Z (⟨"com/example/referee/referee/engine/Table", "moved", "([I[I)[I"⟩ : MethodName) prog_124_method_51_code 4 (some (.array .int)) [] ({ frames := 0, cells := 1, slots := 4, locals := 0 } : Room) #[.ref t, .ref u] h0 n0 [] (fun v h => (v = some .null ∧ ∃ i, i < n ∧ g (f i) < 0) ∨ (∃ b : Addr, v = some (.ref b) ∧ n0 ≤ b ∧ own_AI Z h b n (fun i => g (f i)) ∧ ∀ i, i < n → ¬ g (f i) < 0)) 1 4 := by
  refine own_enter (L0 := #[.val (.ref t), .val (.ref u), .unset, .unset]) (plainFor_of_name (by first | (simp [plainName, overriddenIn]; done) | decide +kernel)) (fun m => by first | (simp [entryFrame, mkF, argsToLocals, Value.category]; done) | rfl) ?_
  intro p e s m below meth c T B X
  refine own_aloadN X B da_0 rfl rfl (pc' := 1) rfl ?_
  refine own_lenI X B A_t da_1 (pc' := 2) rfl ?_
  refine own_newI X B (hw _ (List.mem_of_getElem? (i := 0) rfl)) (n := n) (cap := 4) (own_nat (by omega)) hn (by decide) (by decide) (by decide) da_2 (pc' := 4) rfl fun T h r g_r X K A_r z_r => ?_
  have n_t_r : t ≠ r := own_ne A_t.lt g_r
  have n_u_r : u ≠ r := own_ne A_u.lt g_r
  replace A_t := A_t.keep K nin0
  replace A_u := A_u.keep K nin0
  refine own_astoreN X B da_4 rfl (L' := #[.val (.ref t), .val (.ref u), .val (.ref r), .unset]) rfl (pc' := 5) rfl ?_
  refine own_iconst X B da_5 (v := (0 : Int32)) rfl (pc' := 6) rfl ?_
  refine own_istoreN X B da_6 (L' := #[.val (.ref t), .val (.ref u), .val (.ref r), .val (.int (0 : Int32))]) rfl (pc' := 7) rfl ?_
  have loop : ∀ (k i : Nat) (T : State) (h : Heap), i + k = n → (∀ z, z < i → ¬ g (f z) < 0) → own_St p l e ({ frames := 0, cells := 1, slots := 4, locals := 0 } : Room) s m #[.ref t, .ref u] below meth c n0 h0 [] T h 1 4 → own_AI Z h t n (fun i => Int32.ofNat (f i)) → own_AI Z h u 4 g → own_AI Z h r n (own_part g f i) → own_G p e below s n0 h0 [] (fun v h => (v = some .null ∧ ∃ i, i < n ∧ g (f i) < 0) ∨ (∃ b : Addr, v = some (.ref b) ∧ n0 ≤ b ∧ own_AI Z h b n (fun i => g (f i)) ∧ ∀ i, i < n → ¬ g (f i) < 0)) 1 4 T (mkF m 7 #[.val (.ref t), .val (.ref u), .val (.ref r), .val (.int (Int32.ofNat i))] []) := by
    intro k
    induction k with
    | zero =>
      intro i T h hk hall X A_t A_u A_r
      have hk1 : i = n := by omega
      subst hk1
      refine own_iloadN X B da_7 rfl (pc' := 8) rfl ?_
      refine own_aloadN X B da_8 rfl rfl (pc' := 9) rfl ?_
      refine own_lenI X B A_t da_9 (pc' := 10) rfl ?_
      refine own_icmpT X B da_10 (flt (by rw [own_ltN (by omega) (by omega)]; omega)).2.1 (pc' := 35) (by decide) (by decide) ?_
      refine own_aloadN X B da_35 rfl rfl (pc' := 36) rfl ?_
      exact own_aret X B da_36 rfl rfl rfl (by decide) (by decide) (Or.inr ⟨r, rfl, Nat.le_trans Z0 z_r, A_r.congr (fun z hz => own_part_all g f hz), hall⟩)
    | succ k ih =>
      intro i T h hk hall X A_t A_u A_r
      have hi : i < n := by omega
      refine own_iloadN X B da_7 rfl (pc' := 8) rfl ?_
      refine own_aloadN X B da_8 rfl rfl (pc' := 9) rfl ?_
      refine own_lenI X B A_t da_9 (pc' := 10) rfl ?_
      refine own_icmpF X B da_10 (tlt (by rw [own_ltN (by omega) (by omega)]; omega)).2.1 (pc' := 13) rfl ?_
      refine own_aloadN X B da_13 rfl rfl (pc' := 14) rfl ?_
      refine own_iloadN X B da_14 rfl (pc' := 15) rfl ?_
      refine own_aloadN X B da_15 rfl rfl (pc' := 16) rfl ?_
      refine own_aloadN X B da_16 rfl rfl (pc' := 17) rfl ?_
      refine own_iloadN X B da_17 rfl (pc' := 18) rfl ?_
      refine own_iaload X B A_t (i := i) (own_nat (by omega)) hi da_18 (pc' := 19) rfl ?_
      show own_H _ _ _ _ _ _ _ _ T (mkF m 19 #[.val (.ref t), .val (.ref u), .val (.ref r), .val (.int (Int32.ofNat i))] [.int (Int32.ofNat (f i)), .ref u, .int (Int32.ofNat i), .ref r])
      refine own_iaload X B A_u (i := (f i)) (own_nat (by have := hf i hi; omega)) (hf i hi) da_19 (pc' := 20) rfl ?_
      show own_H _ _ _ _ _ _ _ _ T (mkF m 20 #[.val (.ref t), .val (.ref u), .val (.ref r), .val (.int (Int32.ofNat i))] [.int (g (f i)), .int (Int32.ofNat i), .ref r])
      refine own_iastore X B A_r (i := i) (own_nat (by omega)) hi (Nat.le_trans Z0 z_r) (Or.inr z_r) da_20 (pc' := 21) rfl fun T h X K A_r => ?_
      replace A_t := A_t.keep K (ninS n_t_r nin0)
      replace A_u := A_u.keep K (ninS n_u_r nin0)
      replace A_r := A_r.congr (g := (own_part g f (i + 1))) (fun z hz => own_part_succ g f i z)
      refine own_aloadN X B da_21 rfl rfl (pc' := 22) rfl ?_
      refine own_iloadN X B da_22 rfl (pc' := 23) rfl ?_
      refine own_iaload X B A_r (i := i) (own_nat (by omega)) hi da_23 (pc' := 24) rfl ?_
      rw [own_part_at g f i]
      by_cases hc : (g (f i)) < (0 : Int32)
      · -- hc
        refine own_ifF X B da_24 (tlt hc).2.1 (pc' := 27) rfl ?_
        refine own_aconst_null X B da_27 (pc' := 28) rfl ?_
        exact own_aret X B da_28 rfl rfl rfl (by decide) (by decide) (Or.inl ⟨rfl, i, hi, hc⟩)
      · -- not hc
        refine own_ifT X B da_24 (flt hc).2.1 (pc' := 29) (by decide) (by decide) ?_
        refine own_iinc X B da_29 rfl (L' := #[.val (.ref t), .val (.ref u), .val (.ref r), .val (.int ((Int32.ofNat i) + (1 : Int32)))]) rfl (pc' := 32) rfl ?_
        refine own_goto X B da_32 (pc' := 7) (by decide) (by decide) ?_
        rw [own_succ]
        exact ih (i + 1) T h (by omega) (fun z hz => by
          rcases Nat.lt_succ_iff_lt_or_eq.mp hz with q | q
          · exact hall z q
          · exact q ▸ hc) X A_t A_u A_r
  exact loop n 0 T h (by omega) (fun z hz => absurd hz (Nat.not_lt_zero z)) X A_t A_u (A_r.congr fun z hz => (own_part_nil g f z).symm)
theorem db_0 : decode method_3_code 0 = .ok (.iload_n 0, 1) := by decide +kernel
theorem db_1 : decode method_3_code 1 = .ok (.ifCond .ne 5, 3) := by decide +kernel
theorem db_4 : decode method_3_code 4 = .ok (.iload_n 1, 1) := by decide +kernel
theorem db_5 : decode method_3_code 5 = .ok (.ireturn, 1) := by decide +kernel
theorem db_6 : decode method_3_code 6 = .ok (.iload_n 0, 1) := by decide +kernel
theorem db_7 : decode method_3_code 7 = .ok (.iconst 1, 1) := by decide +kernel
theorem db_8 : decode method_3_code 8 = .ok (.if_icmp .ne 5, 3) := by decide +kernel
theorem db_11 : decode method_3_code 11 = .ok (.iload_n 2, 1) := by decide +kernel
theorem db_12 : decode method_3_code 12 = .ok (.ireturn, 1) := by decide +kernel
theorem db_13 : decode method_3_code 13 = .ok (.iload_n 0, 1) := by decide +kernel
theorem db_14 : decode method_3_code 14 = .ok (.iconst 2, 1) := by decide +kernel
theorem db_15 : decode method_3_code 15 = .ok (.if_icmp .ne 5, 3) := by decide +kernel
theorem db_18 : decode method_3_code 18 = .ok (.iload_n 3, 1) := by decide +kernel
theorem db_19 : decode method_3_code 19 = .ok (.ireturn, 1) := by decide +kernel
theorem db_20 : decode method_3_code 20 = .ok (.iload 4, 2) := by decide +kernel
theorem db_22 : decode method_3_code 22 = .ok (.ireturn, 1) := by decide +kernel
set_option maxRecDepth 65536 in
set_option maxHeartbeats 40000000 in
theorem rm2 (l : Launch) (Z : State) (a0 : Array Value) (hw : ∀ d ∈ tables_1, d.before a0 Z = true) (q : Nat) (x0 : Int32) (x1 : Int32) (x2 : Int32) (x3 : Int32) (h0 : Heap) (n0 : Nat) (Z0 : n0 ≤ h0.size) (hq : q < 4) :
    own_C l Z (⟨"com/example/referee/referee/engine/TableMovedPinLaw", "m", "(IIIII)I"⟩ : MethodName) method_3_code 5 (some .int) [] ({ frames := 0, cells := 0, slots := 0, locals := 0 } : Room) #[.int (Int32.ofNat q), .int x0, .int x1, .int x2, .int x3] h0 n0 [] (fun v h => v = some (.int (own_v4 x0 x1 x2 x3 q))) 0 0 := by
  refine own_enter (L0 := #[.val (.int (Int32.ofNat q)), .val (.int x0), .val (.int x1), .val (.int x2), .val (.int x3)]) (plainFor_of_name (by first | (simp [plainName, overriddenIn]; done) | decide +kernel)) (fun m => by first | (simp [entryFrame, mkF, argsToLocals, Value.category]; done) | rfl) ?_
  intro p e s m below meth c T B X
  refine own_iloadN X B db_0 rfl (pc' := 1) rfl ?_
  by_cases h0 : (Int32.ofNat q) = (0 : Int32)
  · -- h0
    refine own_ifF X B db_1 (teq h0).2 (pc' := 4) rfl ?_
    have qh0 : q = 0 := (own_eqN (n := 0) (by omega) (by omega)).mp h0
    refine own_iloadN X B db_4 rfl (pc' := 5) rfl ?_
    exact own_iret X B db_5 (by decide) (by decide) (by simp only [own_v4]; rw [if_pos qh0])
  · -- not h0
    refine own_ifT X B db_1 (feq h0).2 (pc' := 6) (by decide) (by decide) ?_
    have qh0 : ¬ q = 0 := mt (own_eqN (n := 0) (by omega) (by omega)).mpr h0
    refine own_iloadN X B db_6 rfl (pc' := 7) rfl ?_
    refine own_iconst X B db_7 (v := (1 : Int32)) rfl (pc' := 8) rfl ?_
    by_cases h1 : (Int32.ofNat q) = (1 : Int32)
    · -- h1
      refine own_icmpF X B db_8 (teq h1).2 (pc' := 11) rfl ?_
      have qh1 : q = 1 := (own_eqN (n := 1) (by omega) (by omega)).mp h1
      refine own_iloadN X B db_11 rfl (pc' := 12) rfl ?_
      exact own_iret X B db_12 (by decide) (by decide) (by simp only [own_v4]; rw [if_neg qh0, if_pos qh1])
    · -- not h1
      refine own_icmpT X B db_8 (feq h1).2 (pc' := 13) (by decide) (by decide) ?_
      have qh1 : ¬ q = 1 := mt (own_eqN (n := 1) (by omega) (by omega)).mpr h1
      refine own_iloadN X B db_13 rfl (pc' := 14) rfl ?_
      refine own_iconst X B db_14 (v := (2 : Int32)) rfl (pc' := 15) rfl ?_
      by_cases h2 : (Int32.ofNat q) = (2 : Int32)
      · -- h2
        refine own_icmpF X B db_15 (teq h2).2 (pc' := 18) rfl ?_
        have qh2 : q = 2 := (own_eqN (n := 2) (by omega) (by omega)).mp h2
        refine own_iloadN X B db_18 rfl (pc' := 19) rfl ?_
        exact own_iret X B db_19 (by decide) (by decide) (by simp only [own_v4]; rw [if_neg qh0, if_neg qh1, if_pos qh2])
      · -- not h2
        refine own_icmpT X B db_15 (feq h2).2 (pc' := 20) (by decide) (by decide) ?_
        have qh2 : ¬ q = 2 := mt (own_eqN (n := 2) (by omega) (by omega)).mpr h2
        refine own_iload X B db_20 rfl (pc' := 22) rfl ?_
        exact own_iret X B db_22 (by decide) (by decide) (by simp only [own_v4]; rw [if_neg qh0, if_neg qh1, if_neg qh2])
set_option maxRecDepth 65536 in
set_option maxHeartbeats 40000000 in
theorem rm0 (l : Launch) (Z : State) (a0 : Array Value) (hw : ∀ d ∈ tables_1, d.before a0 Z = true) (x : Int32) (x0 : Int32) (x1 : Int32) (x2 : Int32) (x3 : Int32) (h0 : Heap) (n0 : Nat) (Z0 : n0 ≤ h0.size) :
    own_C l Z Jvm.Pilot.@@N@@.x code maxLocals ret tables_1 room_1 #[.int x, .int x0, .int x1, .int x2, .int x3] h0 n0 [] (fun v h => v = some (.int 1)) 16 128 := by
  refine own_enter (L0 := #[.val (.int x), .val (.int x0), .val (.int x1), .val (.int x2), .val (.int x3), .unset, .unset, .unset, .unset, .unset, .unset, .unset, .unset, .unset, .unset]) (plainFor_of_name (by first | (simp [plainName, overriddenIn]; done) | decide +kernel)) (fun m => by first | (simp [entryFrame, mkF, argsToLocals, Value.category, maxLocals]; done) | rfl) ?_
  intro p e s m below meth c T B X
  refine own_iconst X B at_0 (v := (4 : Int32)) rfl (pc' := 1) rfl ?_
  refine own_newI X B (hw _ (List.mem_of_getElem? (i := 0) rfl)) (n := 4) (cap := 4) rfl (by decide) (by decide) (by decide) (by decide) at_1 (pc' := 3) rfl fun T h mv g_mv X K A_mv z_mv => ?_
  refine own_dup X B at_3 rfl (pc' := 4) rfl ?_
  refine own_iconst X B at_4 (v := (0 : Int32)) rfl (pc' := 5) rfl ?_
  refine own_iloadN X B at_5 rfl (pc' := 6) rfl ?_
  refine own_iastore X B A_mv (i := 0) rfl (by decide) (Nat.le_trans Z0 z_mv) (Or.inr z_mv) at_6 (pc' := 7) rfl fun T h X K A_mv => ?_
  refine own_dup X B at_7 rfl (pc' := 8) rfl ?_
  refine own_iconst X B at_8 (v := (1 : Int32)) rfl (pc' := 9) rfl ?_
  refine own_iloadN X B at_9 rfl (pc' := 10) rfl ?_
  refine own_iastore X B A_mv (i := 1) rfl (by decide) (Nat.le_trans Z0 z_mv) (Or.inr z_mv) at_10 (pc' := 11) rfl fun T h X K A_mv => ?_
  refine own_dup X B at_11 rfl (pc' := 12) rfl ?_
  refine own_iconst X B at_12 (v := (2 : Int32)) rfl (pc' := 13) rfl ?_
  refine own_iloadN X B at_13 rfl (pc' := 14) rfl ?_
  refine own_iastore X B A_mv (i := 2) rfl (by decide) (Nat.le_trans Z0 z_mv) (Or.inr z_mv) at_14 (pc' := 15) rfl fun T h X K A_mv => ?_
  refine own_dup X B at_15 rfl (pc' := 16) rfl ?_
  refine own_iconst X B at_16 (v := (3 : Int32)) rfl (pc' := 17) rfl ?_
  refine own_iload X B at_17 rfl (pc' := 19) rfl ?_
  refine own_iastore X B A_mv (i := 3) rfl (by decide) (Nat.le_trans Z0 z_mv) (Or.inr z_mv) at_19 (pc' := 20) rfl fun T h X K A_mv => ?_
  replace A_mv := A_mv.congr (g := (own_v4 x0 x1 x2 x3)) (fun i hi => by
    match i, hi with
    | 0, _ => rfl
    | 1, _ => rfl
    | 2, _ => rfl
    | 3, _ => rfl)
  refine own_astore X B at_20 rfl (L' := #[.val (.int x), .val (.int x0), .val (.int x1), .val (.int x2), .val (.int x3), .val (.ref mv), .unset, .unset, .unset, .unset, .unset, .unset, .unset, .unset, .unset]) rfl (pc' := 22) rfl ?_
  refine own_iloadN X B at_22 rfl (pc' := 23) rfl ?_
  refine own_bipush X B at_23 (v := (7 : Int32)) rfl (pc' := 25) rfl ?_
  refine own_iand X B at_25 (pc' := 26) rfl ?_
  refine own_iconst X B at_26 (v := (5 : Int32)) rfl (pc' := 27) rfl ?_
  refine own_irem X B at_27 (by decide) (pc' := 28) rfl ?_
  obtain ⟨n, hn, en⟩ := own_mod5 x
  rw [en]
  refine own_istore X B at_28 (L' := #[.val (.int x), .val (.int x0), .val (.int x1), .val (.int x2), .val (.int x3), .val (.ref mv), .val (.int (Int32.ofNat n)), .unset, .unset, .unset, .unset, .unset, .unset, .unset, .unset]) rfl (pc' := 30) rfl ?_
  refine own_iloadN X B at_30 rfl (pc' := 31) rfl ?_
  refine own_iconst X B at_31 (v := (3 : Int32)) rfl (pc' := 32) rfl ?_
  refine own_iushr X B at_32 (pc' := 33) rfl ?_
  refine own_iconst X B at_33 (v := (3 : Int32)) rfl (pc' := 34) rfl ?_
  refine own_iand X B at_34 (pc' := 35) rfl ?_
  obtain ⟨q0, hq0, eq0⟩ := own_and3 ((x.toUInt32 >>> ((3 : Int32) &&& 31).toUInt32).toInt32)
  rw [eq0]
  refine own_istore X B at_35 (L' := #[.val (.int x), .val (.int x0), .val (.int x1), .val (.int x2), .val (.int x3), .val (.ref mv), .val (.int (Int32.ofNat n)), .val (.int (Int32.ofNat q0)), .unset, .unset, .unset, .unset, .unset, .unset, .unset]) rfl (pc' := 37) rfl ?_
  refine own_iloadN X B at_37 rfl (pc' := 38) rfl ?_
  refine own_iconst X B at_38 (v := (5 : Int32)) rfl (pc' := 39) rfl ?_
  refine own_iushr X B at_39 (pc' := 40) rfl ?_
  refine own_iconst X B at_40 (v := (3 : Int32)) rfl (pc' := 41) rfl ?_
  refine own_iand X B at_41 (pc' := 42) rfl ?_
  obtain ⟨q1, hq1, eq1⟩ := own_and3 ((x.toUInt32 >>> ((5 : Int32) &&& 31).toUInt32).toInt32)
  rw [eq1]
  refine own_istore X B at_42 (L' := #[.val (.int x), .val (.int x0), .val (.int x1), .val (.int x2), .val (.int x3), .val (.ref mv), .val (.int (Int32.ofNat n)), .val (.int (Int32.ofNat q0)), .val (.int (Int32.ofNat q1)), .unset, .unset, .unset, .unset, .unset, .unset]) rfl (pc' := 44) rfl ?_
  refine own_iloadN X B at_44 rfl (pc' := 45) rfl ?_
  refine own_bipush X B at_45 (v := (7 : Int32)) rfl (pc' := 47) rfl ?_
  refine own_iushr X B at_47 (pc' := 48) rfl ?_
  refine own_iconst X B at_48 (v := (3 : Int32)) rfl (pc' := 49) rfl ?_
  refine own_iand X B at_49 (pc' := 50) rfl ?_
  obtain ⟨q2, hq2, eq2⟩ := own_and3 ((x.toUInt32 >>> ((7 : Int32) &&& 31).toUInt32).toInt32)
  rw [eq2]
  refine own_istore X B at_50 (L' := #[.val (.int x), .val (.int x0), .val (.int x1), .val (.int x2), .val (.int x3), .val (.ref mv), .val (.int (Int32.ofNat n)), .val (.int (Int32.ofNat q0)), .val (.int (Int32.ofNat q1)), .val (.int (Int32.ofNat q2)), .unset, .unset, .unset, .unset, .unset]) rfl (pc' := 52) rfl ?_
  refine own_iloadN X B at_52 rfl (pc' := 53) rfl ?_
  refine own_bipush X B at_53 (v := (9 : Int32)) rfl (pc' := 55) rfl ?_
  refine own_iushr X B at_55 (pc' := 56) rfl ?_
  refine own_iconst X B at_56 (v := (3 : Int32)) rfl (pc' := 57) rfl ?_
  refine own_iand X B at_57 (pc' := 58) rfl ?_
  obtain ⟨q3, hq3, eq3⟩ := own_and3 ((x.toUInt32 >>> ((9 : Int32) &&& 31).toUInt32).toInt32)
  rw [eq3]
  refine own_istore X B at_58 (L' := #[.val (.int x), .val (.int x0), .val (.int x1), .val (.int x2), .val (.int x3), .val (.ref mv), .val (.int (Int32.ofNat n)), .val (.int (Int32.ofNat q0)), .val (.int (Int32.ofNat q1)), .val (.int (Int32.ofNat q2)), .val (.int (Int32.ofNat q3)), .unset, .unset, .unset, .unset]) rfl (pc' := 60) rfl ?_
  refine own_iload X B at_60 rfl (pc' := 62) rfl ?_
  obtain rfl | rfl | rfl | rfl | rfl : n = 0 ∨ n = 1 ∨ n = 2 ∨ n = 3 ∨ n = 4 := by omega
  · -- n = 0
    refine own_newI X B (hw _ (List.mem_of_getElem? (i := 0) rfl)) (n := 0) (cap := 4) rfl (by decide) (by decide) (by decide) (by decide) at_62 (pc' := 64) rfl fun T h ps g_ps X K A_ps z_ps => ?_
    have n_mv_ps : mv ≠ ps := own_ne A_mv.lt g_ps
    replace A_mv := A_mv.keep K nin0
    refine own_astore X B at_64 rfl (L' := #[.val (.int x), .val (.int x0), .val (.int x1), .val (.int x2), .val (.int x3), .val (.ref mv), .val (.int (Int32.ofNat 0)), .val (.int (Int32.ofNat q0)), .val (.int (Int32.ofNat q1)), .val (.int (Int32.ofNat q2)), .val (.int (Int32.ofNat q3)), .val (.ref ps), .unset, .unset, .unset]) rfl (pc' := 66) rfl ?_
    refine own_iload X B at_66 rfl (pc' := 68) rfl ?_
    refine own_ifT X B at_68 (flt (by decide)).2.2.2 (pc' := 77) (by decide) (by decide) ?_
    refine own_iload X B at_77 rfl (pc' := 79) rfl ?_
    refine own_iconst X B at_79 (v := (1 : Int32)) rfl (pc' := 80) rfl ?_
    refine own_icmpT X B at_80 (flt (by decide)).2.2.2 (pc' := 89) (by decide) (by decide) ?_
    refine own_iload X B at_89 rfl (pc' := 91) rfl ?_
    refine own_iconst X B at_91 (v := (2 : Int32)) rfl (pc' := 92) rfl ?_
    refine own_icmpT X B at_92 (flt (by decide)).2.2.2 (pc' := 101) (by decide) (by decide) ?_
    refine own_iload X B at_101 rfl (pc' := 103) rfl ?_
    refine own_iconst X B at_103 (v := (3 : Int32)) rfl (pc' := 104) rfl ?_
    refine own_icmpT X B at_104 (flt (by decide)).2.2.2 (pc' := 113) (by decide) (by decide) ?_
    replace A_ps := A_ps.congr (g := (fun i => Int32.ofNat (own_q q0 q1 q2 q3 i))) (fun i hi => absurd hi (Nat.not_lt_zero i))
    have J173 : ∀ (T : State) (h : Heap) (ng : Int32), own_St p l e room_1 s m #[.int x, .int x0, .int x1, .int x2, .int x3] below meth c n0 h0 [] T h 2 8 → own_AI Z h mv 4 (own_v4 x0 x1 x2 x3) → own_AI Z h ps 0 (fun i => Int32.ofNat (own_q q0 q1 q2 q3 i)) → ((ng = 1 ∧  ∃ i, i < 0 ∧ own_v4 x0 x1 x2 x3 (own_q q0 q1 q2 q3 i) < 0) ∨ (ng = 0 ∧ ∀ i, i < 0 → ¬ own_v4 x0 x1 x2 x3 (own_q q0 q1 q2 q3 i) < 0)) → own_G p e below s n0 h0 [] (fun v h => v = some (.int 1)) 16 128 T (mkF m 173 #[.val (.int x), .val (.int x0), .val (.int x1), .val (.int x2), .val (.int x3), .val (.ref mv), .val (.int (Int32.ofNat 0)), .val (.int (Int32.ofNat q0)), .val (.int (Int32.ofNat q1)), .val (.int (Int32.ofNat q2)), .val (.int (Int32.ofNat q3)), .val (.ref ps), .unset, .unset, .unset] [.int ng]) := by
      intro T h ng X A_mv A_ps hng
      refine own_istore X B at_173 (L' := #[.val (.int x), .val (.int x0), .val (.int x1), .val (.int x2), .val (.int x3), .val (.ref mv), .val (.int (Int32.ofNat 0)), .val (.int (Int32.ofNat q0)), .val (.int (Int32.ofNat q1)), .val (.int (Int32.ofNat q2)), .val (.int (Int32.ofNat q3)), .val (.ref ps), .val (.int ng), .unset, .unset]) rfl (pc' := 175) rfl ?_
      refine own_aload X B at_175 rfl rfl (pc' := 177) rfl ?_
      refine own_aload X B at_177 rfl rfl (pc' := 179) rfl ?_
      refine own_callS X B (W := 0) (hw _ (List.mem_of_getElem? (i := 1) rfl)) (hw _ (List.mem_of_getElem? (i := 2) rfl)) (hw _ (List.mem_of_getElem? (i := 3) rfl)) (hw _ (List.mem_of_getElem? (i := 4) rfl)) (by decide) (rm1 l Z a0 hw ps mv 0 (own_q q0 q1 q2 q3) (own_v4 x0 x1 x2 x3) h n0 (own_sz X Z0) A_ps A_mv (by decide) (fun i hi => own_q_lt hq0 hq1 hq2 hq3 i)) (by decide) (by decide) (by decide) (by decide) rfl (argsL := [.ref ps, .ref mv]) pd_1 rfl rfl (st := []) rfl (Nat.le_refl _) at_179 (pc' := 182) rfl all0 ?_
      rintro v T h X K hq
      replace A_mv := A_mv.keep K nin0
      replace A_ps := A_ps.keep K nin0
      rcases hq with ⟨rfl, hq⟩ | ⟨r, rfl, g_r, A_r, hq⟩
      ·
        show own_H _ _ _ _ _ _ _ _ T (mkF m 182 #[.val (.int x), .val (.int x0), .val (.int x1), .val (.int x2), .val (.int x3), .val (.ref mv), .val (.int (Int32.ofNat 0)), .val (.int (Int32.ofNat q0)), .val (.int (Int32.ofNat q1)), .val (.int (Int32.ofNat q2)), .val (.int (Int32.ofNat q3)), .val (.ref ps), .val (.int ng), .unset, .unset] [.null])
        have hng1 : ng = 1 := by
          rcases hng with ⟨q, z⟩ | ⟨q, z⟩
          · exact q
          · obtain ⟨i, hi, hx⟩ := hq
            exact absurd hx (z i hi)
        subst hng1
        refine own_astore X B at_182 rfl (L' := #[.val (.int x), .val (.int x0), .val (.int x1), .val (.int x2), .val (.int x3), .val (.ref mv), .val (.int (Int32.ofNat 0)), .val (.int (Int32.ofNat q0)), .val (.int (Int32.ofNat q1)), .val (.int (Int32.ofNat q2)), .val (.int (Int32.ofNat q3)), .val (.ref ps), .val (.int (1 : Int32)), .val .null, .unset]) rfl (pc' := 184) rfl ?_
        refine own_aload X B at_184 rfl rfl (pc' := 186) rfl ?_
        refine own_iconst X B at_186 (v := (0 : Int32)) rfl (pc' := 187) rfl ?_
        refine own_iaload X B A_mv (i := 0) rfl (by decide) at_187 (pc' := 188) rfl ?_
        show own_H _ _ _ _ _ _ _ _ T (mkF m 188 #[.val (.int x), .val (.int x0), .val (.int x1), .val (.int x2), .val (.int x3), .val (.ref mv), .val (.int (Int32.ofNat 0)), .val (.int (Int32.ofNat q0)), .val (.int (Int32.ofNat q1)), .val (.int (Int32.ofNat q2)), .val (.int (Int32.ofNat q3)), .val (.ref ps), .val (.int (1 : Int32)), .val .null, .unset] [.int x0])
        refine own_iloadN X B at_188 rfl (pc' := 189) rfl ?_
        refine own_icmpF X B at_189 (teq rfl).2 (pc' := 192) rfl ?_
        refine own_aload X B at_192 rfl rfl (pc' := 194) rfl ?_
        refine own_iconst X B at_194 (v := (1 : Int32)) rfl (pc' := 195) rfl ?_
        refine own_iaload X B A_mv (i := 1) rfl (by decide) at_195 (pc' := 196) rfl ?_
        show own_H _ _ _ _ _ _ _ _ T (mkF m 196 #[.val (.int x), .val (.int x0), .val (.int x1), .val (.int x2), .val (.int x3), .val (.ref mv), .val (.int (Int32.ofNat 0)), .val (.int (Int32.ofNat q0)), .val (.int (Int32.ofNat q1)), .val (.int (Int32.ofNat q2)), .val (.int (Int32.ofNat q3)), .val (.ref ps), .val (.int (1 : Int32)), .val .null, .unset] [.int x1])
        refine own_iloadN X B at_196 rfl (pc' := 197) rfl ?_
        refine own_icmpF X B at_197 (teq rfl).2 (pc' := 200) rfl ?_
        refine own_aload X B at_200 rfl rfl (pc' := 202) rfl ?_
        refine own_iconst X B at_202 (v := (2 : Int32)) rfl (pc' := 203) rfl ?_
        refine own_iaload X B A_mv (i := 2) rfl (by decide) at_203 (pc' := 204) rfl ?_
        show own_H _ _ _ _ _ _ _ _ T (mkF m 204 #[.val (.int x), .val (.int x0), .val (.int x1), .val (.int x2), .val (.int x3), .val (.ref mv), .val (.int (Int32.ofNat 0)), .val (.int (Int32.ofNat q0)), .val (.int (Int32.ofNat q1)), .val (.int (Int32.ofNat q2)), .val (.int (Int32.ofNat q3)), .val (.ref ps), .val (.int (1 : Int32)), .val .null, .unset] [.int x2])
        refine own_iloadN X B at_204 rfl (pc' := 205) rfl ?_
        refine own_icmpF X B at_205 (teq rfl).2 (pc' := 208) rfl ?_
        refine own_aload X B at_208 rfl rfl (pc' := 210) rfl ?_
        refine own_iconst X B at_210 (v := (3 : Int32)) rfl (pc' := 211) rfl ?_
        refine own_iaload X B A_mv (i := 3) rfl (by decide) at_211 (pc' := 212) rfl ?_
        show own_H _ _ _ _ _ _ _ _ T (mkF m 212 #[.val (.int x), .val (.int x0), .val (.int x1), .val (.int x2), .val (.int x3), .val (.ref mv), .val (.int (Int32.ofNat 0)), .val (.int (Int32.ofNat q0)), .val (.int (Int32.ofNat q1)), .val (.int (Int32.ofNat q2)), .val (.int (Int32.ofNat q3)), .val (.ref ps), .val (.int (1 : Int32)), .val .null, .unset] [.int x3])
        refine own_iload X B at_212 rfl (pc' := 214) rfl ?_
        refine own_icmpF X B at_214 (teq rfl).2 (pc' := 217) rfl ?_
        refine own_aload X B at_217 rfl rfl (pc' := 219) rfl ?_
        refine own_lenI X B A_ps at_219 (pc' := 220) rfl ?_
        refine own_iload X B at_220 rfl (pc' := 222) rfl ?_
        refine own_icmpF X B at_222 (teq rfl).2 (pc' := 225) rfl ?_
        refine own_iload X B at_225 rfl (pc' := 227) rfl ?_
        refine own_ifT X B at_227 (flt (by decide)).2.2.2 (pc' := 239) (by decide) (by decide) ?_
        refine own_iload X B at_239 rfl (pc' := 241) rfl ?_
        refine own_iconst X B at_241 (v := (1 : Int32)) rfl (pc' := 242) rfl ?_
        refine own_icmpT X B at_242 (flt (by decide)).2.2.2 (pc' := 254) (by decide) (by decide) ?_
        refine own_iload X B at_254 rfl (pc' := 256) rfl ?_
        refine own_iconst X B at_256 (v := (2 : Int32)) rfl (pc' := 257) rfl ?_
        refine own_icmpT X B at_257 (flt (by decide)).2.2.2 (pc' := 269) (by decide) (by decide) ?_
        refine own_iload X B at_269 rfl (pc' := 271) rfl ?_
        refine own_iconst X B at_271 (v := (3 : Int32)) rfl (pc' := 272) rfl ?_
        refine own_icmpT X B at_272 (flt (by decide)).2.2.2 (pc' := 284) (by decide) (by decide) ?_
        refine own_iconst X B at_284 (v := (1 : Int32)) rfl (pc' := 285) rfl ?_
        refine own_goto X B at_285 (pc' := 289) (by decide) (by decide) ?_
        refine own_istore X B at_289 (L' := #[.val (.int x), .val (.int x0), .val (.int x1), .val (.int x2), .val (.int x3), .val (.ref mv), .val (.int (Int32.ofNat 0)), .val (.int (Int32.ofNat q0)), .val (.int (Int32.ofNat q1)), .val (.int (Int32.ofNat q2)), .val (.int (Int32.ofNat q3)), .val (.ref ps), .val (.int (1 : Int32)), .val .null, .val (.int (1 : Int32))]) rfl (pc' := 291) rfl ?_
        refine own_iload X B at_291 rfl (pc' := 293) rfl ?_
        refine own_ifT X B at_293 (feq (by decide : ¬ (1 : Int32) = 0)).2 (pc' := 298) (by decide) (by decide) ?_
        refine own_iload X B at_298 rfl (pc' := 300) rfl ?_
        refine own_ifF X B at_300 (feq (by decide : ¬ (1 : Int32) = 0)).1 (pc' := 303) rfl ?_
        refine own_aload X B at_303 rfl rfl (pc' := 305) rfl ?_
        refine own_ifnonnullF X B at_305 (pc' := 308) rfl ?_
        refine own_iconst X B at_308 (v := (1 : Int32)) rfl (pc' := 309) rfl ?_
        refine own_goto X B at_309 (pc' := 313) (by decide) (by decide) ?_
        exact own_zret X B at_313 (by decide) (by decide) rfl rfl
      ·
        show own_H _ _ _ _ _ _ _ _ T (mkF m 182 #[.val (.int x), .val (.int x0), .val (.int x1), .val (.int x2), .val (.int x3), .val (.ref mv), .val (.int (Int32.ofNat 0)), .val (.int (Int32.ofNat q0)), .val (.int (Int32.ofNat q1)), .val (.int (Int32.ofNat q2)), .val (.int (Int32.ofNat q3)), .val (.ref ps), .val (.int ng), .unset, .unset] [.ref r])
        have hng1 : ng = 0 := by
          rcases hng with ⟨q, z⟩ | ⟨q, z⟩
          · obtain ⟨i, hi, hx⟩ := z
            exact absurd hx (hq i hi)
          · exact q
        subst hng1
        refine own_astore X B at_182 rfl (L' := #[.val (.int x), .val (.int x0), .val (.int x1), .val (.int x2), .val (.int x3), .val (.ref mv), .val (.int (Int32.ofNat 0)), .val (.int (Int32.ofNat q0)), .val (.int (Int32.ofNat q1)), .val (.int (Int32.ofNat q2)), .val (.int (Int32.ofNat q3)), .val (.ref ps), .val (.int (0 : Int32)), .val (.ref r), .unset]) rfl (pc' := 184) rfl ?_
        refine own_aload X B at_184 rfl rfl (pc' := 186) rfl ?_
        refine own_iconst X B at_186 (v := (0 : Int32)) rfl (pc' := 187) rfl ?_
        refine own_iaload X B A_mv (i := 0) rfl (by decide) at_187 (pc' := 188) rfl ?_
        show own_H _ _ _ _ _ _ _ _ T (mkF m 188 #[.val (.int x), .val (.int x0), .val (.int x1), .val (.int x2), .val (.int x3), .val (.ref mv), .val (.int (Int32.ofNat 0)), .val (.int (Int32.ofNat q0)), .val (.int (Int32.ofNat q1)), .val (.int (Int32.ofNat q2)), .val (.int (Int32.ofNat q3)), .val (.ref ps), .val (.int (0 : Int32)), .val (.ref r), .unset] [.int x0])
        refine own_iloadN X B at_188 rfl (pc' := 189) rfl ?_
        refine own_icmpF X B at_189 (teq rfl).2 (pc' := 192) rfl ?_
        refine own_aload X B at_192 rfl rfl (pc' := 194) rfl ?_
        refine own_iconst X B at_194 (v := (1 : Int32)) rfl (pc' := 195) rfl ?_
        refine own_iaload X B A_mv (i := 1) rfl (by decide) at_195 (pc' := 196) rfl ?_
        show own_H _ _ _ _ _ _ _ _ T (mkF m 196 #[.val (.int x), .val (.int x0), .val (.int x1), .val (.int x2), .val (.int x3), .val (.ref mv), .val (.int (Int32.ofNat 0)), .val (.int (Int32.ofNat q0)), .val (.int (Int32.ofNat q1)), .val (.int (Int32.ofNat q2)), .val (.int (Int32.ofNat q3)), .val (.ref ps), .val (.int (0 : Int32)), .val (.ref r), .unset] [.int x1])
        refine own_iloadN X B at_196 rfl (pc' := 197) rfl ?_
        refine own_icmpF X B at_197 (teq rfl).2 (pc' := 200) rfl ?_
        refine own_aload X B at_200 rfl rfl (pc' := 202) rfl ?_
        refine own_iconst X B at_202 (v := (2 : Int32)) rfl (pc' := 203) rfl ?_
        refine own_iaload X B A_mv (i := 2) rfl (by decide) at_203 (pc' := 204) rfl ?_
        show own_H _ _ _ _ _ _ _ _ T (mkF m 204 #[.val (.int x), .val (.int x0), .val (.int x1), .val (.int x2), .val (.int x3), .val (.ref mv), .val (.int (Int32.ofNat 0)), .val (.int (Int32.ofNat q0)), .val (.int (Int32.ofNat q1)), .val (.int (Int32.ofNat q2)), .val (.int (Int32.ofNat q3)), .val (.ref ps), .val (.int (0 : Int32)), .val (.ref r), .unset] [.int x2])
        refine own_iloadN X B at_204 rfl (pc' := 205) rfl ?_
        refine own_icmpF X B at_205 (teq rfl).2 (pc' := 208) rfl ?_
        refine own_aload X B at_208 rfl rfl (pc' := 210) rfl ?_
        refine own_iconst X B at_210 (v := (3 : Int32)) rfl (pc' := 211) rfl ?_
        refine own_iaload X B A_mv (i := 3) rfl (by decide) at_211 (pc' := 212) rfl ?_
        show own_H _ _ _ _ _ _ _ _ T (mkF m 212 #[.val (.int x), .val (.int x0), .val (.int x1), .val (.int x2), .val (.int x3), .val (.ref mv), .val (.int (Int32.ofNat 0)), .val (.int (Int32.ofNat q0)), .val (.int (Int32.ofNat q1)), .val (.int (Int32.ofNat q2)), .val (.int (Int32.ofNat q3)), .val (.ref ps), .val (.int (0 : Int32)), .val (.ref r), .unset] [.int x3])
        refine own_iload X B at_212 rfl (pc' := 214) rfl ?_
        refine own_icmpF X B at_214 (teq rfl).2 (pc' := 217) rfl ?_
        refine own_aload X B at_217 rfl rfl (pc' := 219) rfl ?_
        refine own_lenI X B A_ps at_219 (pc' := 220) rfl ?_
        refine own_iload X B at_220 rfl (pc' := 222) rfl ?_
        refine own_icmpF X B at_222 (teq rfl).2 (pc' := 225) rfl ?_
        refine own_iload X B at_225 rfl (pc' := 227) rfl ?_
        refine own_ifT X B at_227 (flt (by decide)).2.2.2 (pc' := 239) (by decide) (by decide) ?_
        refine own_iload X B at_239 rfl (pc' := 241) rfl ?_
        refine own_iconst X B at_241 (v := (1 : Int32)) rfl (pc' := 242) rfl ?_
        refine own_icmpT X B at_242 (flt (by decide)).2.2.2 (pc' := 254) (by decide) (by decide) ?_
        refine own_iload X B at_254 rfl (pc' := 256) rfl ?_
        refine own_iconst X B at_256 (v := (2 : Int32)) rfl (pc' := 257) rfl ?_
        refine own_icmpT X B at_257 (flt (by decide)).2.2.2 (pc' := 269) (by decide) (by decide) ?_
        refine own_iload X B at_269 rfl (pc' := 271) rfl ?_
        refine own_iconst X B at_271 (v := (3 : Int32)) rfl (pc' := 272) rfl ?_
        refine own_icmpT X B at_272 (flt (by decide)).2.2.2 (pc' := 284) (by decide) (by decide) ?_
        refine own_iconst X B at_284 (v := (1 : Int32)) rfl (pc' := 285) rfl ?_
        refine own_goto X B at_285 (pc' := 289) (by decide) (by decide) ?_
        refine own_istore X B at_289 (L' := #[.val (.int x), .val (.int x0), .val (.int x1), .val (.int x2), .val (.int x3), .val (.ref mv), .val (.int (Int32.ofNat 0)), .val (.int (Int32.ofNat q0)), .val (.int (Int32.ofNat q1)), .val (.int (Int32.ofNat q2)), .val (.int (Int32.ofNat q3)), .val (.ref ps), .val (.int (0 : Int32)), .val (.ref r), .val (.int (1 : Int32))]) rfl (pc' := 291) rfl ?_
        refine own_iload X B at_291 rfl (pc' := 293) rfl ?_
        refine own_ifT X B at_293 (feq (by decide : ¬ (1 : Int32) = 0)).2 (pc' := 298) (by decide) (by decide) ?_
        refine own_iload X B at_298 rfl (pc' := 300) rfl ?_
        refine own_ifT X B at_300 (teq rfl).1 (pc' := 314) (by decide) (by decide) ?_
        refine own_aload X B at_314 rfl rfl (pc' := 316) rfl ?_
        refine own_ifnullF X B at_316 (pc' := 319) rfl ?_
        refine own_aload X B at_319 rfl rfl (pc' := 321) rfl ?_
        refine own_lenI X B A_r at_321 (pc' := 322) rfl ?_
        refine own_iload X B at_322 rfl (pc' := 324) rfl ?_
        refine own_icmpT X B at_324 (teq rfl).1 (pc' := 329) (by decide) (by decide) ?_
        refine own_iload X B at_329 rfl (pc' := 331) rfl ?_
        refine own_ifT X B at_331 (flt (by decide)).2.2.2 (pc' := 351) (by decide) (by decide) ?_
        refine own_iload X B at_351 rfl (pc' := 353) rfl ?_
        refine own_iconst X B at_353 (v := (1 : Int32)) rfl (pc' := 354) rfl ?_
        refine own_icmpT X B at_354 (flt (by decide)).2.2.2 (pc' := 374) (by decide) (by decide) ?_
        refine own_iload X B at_374 rfl (pc' := 376) rfl ?_
        refine own_iconst X B at_376 (v := (2 : Int32)) rfl (pc' := 377) rfl ?_
        refine own_icmpT X B at_377 (flt (by decide)).2.2.2 (pc' := 397) (by decide) (by decide) ?_
        refine own_iload X B at_397 rfl (pc' := 399) rfl ?_
        refine own_iconst X B at_399 (v := (3 : Int32)) rfl (pc' := 400) rfl ?_
        refine own_icmpT X B at_400 (flt (by decide)).2.2.2 (pc' := 420) (by decide) (by decide) ?_
        refine own_iconst X B at_420 (v := (1 : Int32)) rfl (pc' := 421) rfl ?_
        refine own_goto X B at_421 (pc' := 425) (by decide) (by decide) ?_
        exact own_zret X B at_425 (by decide) (by decide) rfl rfl
    refine own_iload X B at_113 rfl (pc' := 115) rfl ?_
    refine own_ifT X B at_115 (flt (by decide)).2.2.2 (pc' := 126) (by decide) (by decide) ?_
    refine own_iload X B at_126 rfl (pc' := 128) rfl ?_
    refine own_iconst X B at_128 (v := (1 : Int32)) rfl (pc' := 129) rfl ?_
    refine own_icmpT X B at_129 (flt (by decide)).2.2.2 (pc' := 140) (by decide) (by decide) ?_
    refine own_iload X B at_140 rfl (pc' := 142) rfl ?_
    refine own_iconst X B at_142 (v := (2 : Int32)) rfl (pc' := 143) rfl ?_
    refine own_icmpT X B at_143 (flt (by decide)).2.2.2 (pc' := 154) (by decide) (by decide) ?_
    refine own_iload X B at_154 rfl (pc' := 156) rfl ?_
    refine own_iconst X B at_156 (v := (3 : Int32)) rfl (pc' := 157) rfl ?_
    refine own_icmpT X B at_157 (flt (by decide)).2.2.2 (pc' := 172) (by decide) (by decide) ?_
    refine own_iconst X B at_172 (v := (0 : Int32)) rfl (pc' := 173) rfl ?_
    exact J173 _ _ _ X A_mv A_ps (Or.inr ⟨rfl, fun i hi => absurd hi (Nat.not_lt_zero i)⟩)
  · -- n = 1
    refine own_newI X B (hw _ (List.mem_of_getElem? (i := 0) rfl)) (n := 1) (cap := 4) rfl (by decide) (by decide) (by decide) (by decide) at_62 (pc' := 64) rfl fun T h ps g_ps X K A_ps z_ps => ?_
    have n_mv_ps : mv ≠ ps := own_ne A_mv.lt g_ps
    replace A_mv := A_mv.keep K nin0
    refine own_astore X B at_64 rfl (L' := #[.val (.int x), .val (.int x0), .val (.int x1), .val (.int x2), .val (.int x3), .val (.ref mv), .val (.int (Int32.ofNat 1)), .val (.int (Int32.ofNat q0)), .val (.int (Int32.ofNat q1)), .val (.int (Int32.ofNat q2)), .val (.int (Int32.ofNat q3)), .val (.ref ps), .unset, .unset, .unset]) rfl (pc' := 66) rfl ?_
    refine own_iload X B at_66 rfl (pc' := 68) rfl ?_
    refine own_ifF X B at_68 (tlt (by decide)).2.2.2 (pc' := 71) rfl ?_
    refine own_aload X B at_71 rfl rfl (pc' := 73) rfl ?_
    refine own_iconst X B at_73 (v := (0 : Int32)) rfl (pc' := 74) rfl ?_
    refine own_iload X B at_74 rfl (pc' := 76) rfl ?_
    refine own_iastore X B A_ps (i := 0) rfl (by decide) (Nat.le_trans Z0 z_ps) (Or.inr z_ps) at_76 (pc' := 77) rfl fun T h X K A_ps => ?_
    replace A_mv := A_mv.keep K (ninS n_mv_ps nin0)
    refine own_iload X B at_77 rfl (pc' := 79) rfl ?_
    refine own_iconst X B at_79 (v := (1 : Int32)) rfl (pc' := 80) rfl ?_
    refine own_icmpT X B at_80 (flt (by decide)).2.2.2 (pc' := 89) (by decide) (by decide) ?_
    refine own_iload X B at_89 rfl (pc' := 91) rfl ?_
    refine own_iconst X B at_91 (v := (2 : Int32)) rfl (pc' := 92) rfl ?_
    refine own_icmpT X B at_92 (flt (by decide)).2.2.2 (pc' := 101) (by decide) (by decide) ?_
    refine own_iload X B at_101 rfl (pc' := 103) rfl ?_
    refine own_iconst X B at_103 (v := (3 : Int32)) rfl (pc' := 104) rfl ?_
    refine own_icmpT X B at_104 (flt (by decide)).2.2.2 (pc' := 113) (by decide) (by decide) ?_
    replace A_ps := A_ps.congr (g := (fun i => Int32.ofNat (own_q q0 q1 q2 q3 i))) (fun i hi => by
      match i, hi with
      | 0, _ => rfl)
    have J173 : ∀ (T : State) (h : Heap) (ng : Int32), own_St p l e room_1 s m #[.int x, .int x0, .int x1, .int x2, .int x3] below meth c n0 h0 [] T h 2 8 → own_AI Z h mv 4 (own_v4 x0 x1 x2 x3) → own_AI Z h ps 1 (fun i => Int32.ofNat (own_q q0 q1 q2 q3 i)) → ((ng = 1 ∧  ∃ i, i < 1 ∧ own_v4 x0 x1 x2 x3 (own_q q0 q1 q2 q3 i) < 0) ∨ (ng = 0 ∧ ∀ i, i < 1 → ¬ own_v4 x0 x1 x2 x3 (own_q q0 q1 q2 q3 i) < 0)) → own_G p e below s n0 h0 [] (fun v h => v = some (.int 1)) 16 128 T (mkF m 173 #[.val (.int x), .val (.int x0), .val (.int x1), .val (.int x2), .val (.int x3), .val (.ref mv), .val (.int (Int32.ofNat 1)), .val (.int (Int32.ofNat q0)), .val (.int (Int32.ofNat q1)), .val (.int (Int32.ofNat q2)), .val (.int (Int32.ofNat q3)), .val (.ref ps), .unset, .unset, .unset] [.int ng]) := by
      intro T h ng X A_mv A_ps hng
      refine own_istore X B at_173 (L' := #[.val (.int x), .val (.int x0), .val (.int x1), .val (.int x2), .val (.int x3), .val (.ref mv), .val (.int (Int32.ofNat 1)), .val (.int (Int32.ofNat q0)), .val (.int (Int32.ofNat q1)), .val (.int (Int32.ofNat q2)), .val (.int (Int32.ofNat q3)), .val (.ref ps), .val (.int ng), .unset, .unset]) rfl (pc' := 175) rfl ?_
      refine own_aload X B at_175 rfl rfl (pc' := 177) rfl ?_
      refine own_aload X B at_177 rfl rfl (pc' := 179) rfl ?_
      refine own_callS X B (W := 0) (hw _ (List.mem_of_getElem? (i := 1) rfl)) (hw _ (List.mem_of_getElem? (i := 2) rfl)) (hw _ (List.mem_of_getElem? (i := 3) rfl)) (hw _ (List.mem_of_getElem? (i := 4) rfl)) (by decide) (rm1 l Z a0 hw ps mv 1 (own_q q0 q1 q2 q3) (own_v4 x0 x1 x2 x3) h n0 (own_sz X Z0) A_ps A_mv (by decide) (fun i hi => own_q_lt hq0 hq1 hq2 hq3 i)) (by decide) (by decide) (by decide) (by decide) rfl (argsL := [.ref ps, .ref mv]) pd_1 rfl rfl (st := []) rfl (Nat.le_refl _) at_179 (pc' := 182) rfl all0 ?_
      rintro v T h X K hq
      replace A_mv := A_mv.keep K nin0
      replace A_ps := A_ps.keep K nin0
      rcases hq with ⟨rfl, hq⟩ | ⟨r, rfl, g_r, A_r, hq⟩
      ·
        show own_H _ _ _ _ _ _ _ _ T (mkF m 182 #[.val (.int x), .val (.int x0), .val (.int x1), .val (.int x2), .val (.int x3), .val (.ref mv), .val (.int (Int32.ofNat 1)), .val (.int (Int32.ofNat q0)), .val (.int (Int32.ofNat q1)), .val (.int (Int32.ofNat q2)), .val (.int (Int32.ofNat q3)), .val (.ref ps), .val (.int ng), .unset, .unset] [.null])
        have hng1 : ng = 1 := by
          rcases hng with ⟨q, z⟩ | ⟨q, z⟩
          · exact q
          · obtain ⟨i, hi, hx⟩ := hq
            exact absurd hx (z i hi)
        subst hng1
        refine own_astore X B at_182 rfl (L' := #[.val (.int x), .val (.int x0), .val (.int x1), .val (.int x2), .val (.int x3), .val (.ref mv), .val (.int (Int32.ofNat 1)), .val (.int (Int32.ofNat q0)), .val (.int (Int32.ofNat q1)), .val (.int (Int32.ofNat q2)), .val (.int (Int32.ofNat q3)), .val (.ref ps), .val (.int (1 : Int32)), .val .null, .unset]) rfl (pc' := 184) rfl ?_
        refine own_aload X B at_184 rfl rfl (pc' := 186) rfl ?_
        refine own_iconst X B at_186 (v := (0 : Int32)) rfl (pc' := 187) rfl ?_
        refine own_iaload X B A_mv (i := 0) rfl (by decide) at_187 (pc' := 188) rfl ?_
        show own_H _ _ _ _ _ _ _ _ T (mkF m 188 #[.val (.int x), .val (.int x0), .val (.int x1), .val (.int x2), .val (.int x3), .val (.ref mv), .val (.int (Int32.ofNat 1)), .val (.int (Int32.ofNat q0)), .val (.int (Int32.ofNat q1)), .val (.int (Int32.ofNat q2)), .val (.int (Int32.ofNat q3)), .val (.ref ps), .val (.int (1 : Int32)), .val .null, .unset] [.int x0])
        refine own_iloadN X B at_188 rfl (pc' := 189) rfl ?_
        refine own_icmpF X B at_189 (teq rfl).2 (pc' := 192) rfl ?_
        refine own_aload X B at_192 rfl rfl (pc' := 194) rfl ?_
        refine own_iconst X B at_194 (v := (1 : Int32)) rfl (pc' := 195) rfl ?_
        refine own_iaload X B A_mv (i := 1) rfl (by decide) at_195 (pc' := 196) rfl ?_
        show own_H _ _ _ _ _ _ _ _ T (mkF m 196 #[.val (.int x), .val (.int x0), .val (.int x1), .val (.int x2), .val (.int x3), .val (.ref mv), .val (.int (Int32.ofNat 1)), .val (.int (Int32.ofNat q0)), .val (.int (Int32.ofNat q1)), .val (.int (Int32.ofNat q2)), .val (.int (Int32.ofNat q3)), .val (.ref ps), .val (.int (1 : Int32)), .val .null, .unset] [.int x1])
        refine own_iloadN X B at_196 rfl (pc' := 197) rfl ?_
        refine own_icmpF X B at_197 (teq rfl).2 (pc' := 200) rfl ?_
        refine own_aload X B at_200 rfl rfl (pc' := 202) rfl ?_
        refine own_iconst X B at_202 (v := (2 : Int32)) rfl (pc' := 203) rfl ?_
        refine own_iaload X B A_mv (i := 2) rfl (by decide) at_203 (pc' := 204) rfl ?_
        show own_H _ _ _ _ _ _ _ _ T (mkF m 204 #[.val (.int x), .val (.int x0), .val (.int x1), .val (.int x2), .val (.int x3), .val (.ref mv), .val (.int (Int32.ofNat 1)), .val (.int (Int32.ofNat q0)), .val (.int (Int32.ofNat q1)), .val (.int (Int32.ofNat q2)), .val (.int (Int32.ofNat q3)), .val (.ref ps), .val (.int (1 : Int32)), .val .null, .unset] [.int x2])
        refine own_iloadN X B at_204 rfl (pc' := 205) rfl ?_
        refine own_icmpF X B at_205 (teq rfl).2 (pc' := 208) rfl ?_
        refine own_aload X B at_208 rfl rfl (pc' := 210) rfl ?_
        refine own_iconst X B at_210 (v := (3 : Int32)) rfl (pc' := 211) rfl ?_
        refine own_iaload X B A_mv (i := 3) rfl (by decide) at_211 (pc' := 212) rfl ?_
        show own_H _ _ _ _ _ _ _ _ T (mkF m 212 #[.val (.int x), .val (.int x0), .val (.int x1), .val (.int x2), .val (.int x3), .val (.ref mv), .val (.int (Int32.ofNat 1)), .val (.int (Int32.ofNat q0)), .val (.int (Int32.ofNat q1)), .val (.int (Int32.ofNat q2)), .val (.int (Int32.ofNat q3)), .val (.ref ps), .val (.int (1 : Int32)), .val .null, .unset] [.int x3])
        refine own_iload X B at_212 rfl (pc' := 214) rfl ?_
        refine own_icmpF X B at_214 (teq rfl).2 (pc' := 217) rfl ?_
        refine own_aload X B at_217 rfl rfl (pc' := 219) rfl ?_
        refine own_lenI X B A_ps at_219 (pc' := 220) rfl ?_
        refine own_iload X B at_220 rfl (pc' := 222) rfl ?_
        refine own_icmpF X B at_222 (teq rfl).2 (pc' := 225) rfl ?_
        refine own_iload X B at_225 rfl (pc' := 227) rfl ?_
        refine own_ifF X B at_227 (tlt (by decide)).2.2.2 (pc' := 230) rfl ?_
        refine own_aload X B at_230 rfl rfl (pc' := 232) rfl ?_
        refine own_iconst X B at_232 (v := (0 : Int32)) rfl (pc' := 233) rfl ?_
        refine own_iaload X B A_ps (i := 0) rfl (by decide) at_233 (pc' := 234) rfl ?_
        show own_H _ _ _ _ _ _ _ _ T (mkF m 234 #[.val (.int x), .val (.int x0), .val (.int x1), .val (.int x2), .val (.int x3), .val (.ref mv), .val (.int (Int32.ofNat 1)), .val (.int (Int32.ofNat q0)), .val (.int (Int32.ofNat q1)), .val (.int (Int32.ofNat q2)), .val (.int (Int32.ofNat q3)), .val (.ref ps), .val (.int (1 : Int32)), .val .null, .unset] [.int (Int32.ofNat q0)])
        refine own_iload X B at_234 rfl (pc' := 236) rfl ?_
        refine own_icmpF X B at_236 (teq rfl).2 (pc' := 239) rfl ?_
        refine own_iload X B at_239 rfl (pc' := 241) rfl ?_
        refine own_iconst X B at_241 (v := (1 : Int32)) rfl (pc' := 242) rfl ?_
        refine own_icmpT X B at_242 (flt (by decide)).2.2.2 (pc' := 254) (by decide) (by decide) ?_
        refine own_iload X B at_254 rfl (pc' := 256) rfl ?_
        refine own_iconst X B at_256 (v := (2 : Int32)) rfl (pc' := 257) rfl ?_
        refine own_icmpT X B at_257 (flt (by decide)).2.2.2 (pc' := 269) (by decide) (by decide) ?_
        refine own_iload X B at_269 rfl (pc' := 271) rfl ?_
        refine own_iconst X B at_271 (v := (3 : Int32)) rfl (pc' := 272) rfl ?_
        refine own_icmpT X B at_272 (flt (by decide)).2.2.2 (pc' := 284) (by decide) (by decide) ?_
        refine own_iconst X B at_284 (v := (1 : Int32)) rfl (pc' := 285) rfl ?_
        refine own_goto X B at_285 (pc' := 289) (by decide) (by decide) ?_
        refine own_istore X B at_289 (L' := #[.val (.int x), .val (.int x0), .val (.int x1), .val (.int x2), .val (.int x3), .val (.ref mv), .val (.int (Int32.ofNat 1)), .val (.int (Int32.ofNat q0)), .val (.int (Int32.ofNat q1)), .val (.int (Int32.ofNat q2)), .val (.int (Int32.ofNat q3)), .val (.ref ps), .val (.int (1 : Int32)), .val .null, .val (.int (1 : Int32))]) rfl (pc' := 291) rfl ?_
        refine own_iload X B at_291 rfl (pc' := 293) rfl ?_
        refine own_ifT X B at_293 (feq (by decide : ¬ (1 : Int32) = 0)).2 (pc' := 298) (by decide) (by decide) ?_
        refine own_iload X B at_298 rfl (pc' := 300) rfl ?_
        refine own_ifF X B at_300 (feq (by decide : ¬ (1 : Int32) = 0)).1 (pc' := 303) rfl ?_
        refine own_aload X B at_303 rfl rfl (pc' := 305) rfl ?_
        refine own_ifnonnullF X B at_305 (pc' := 308) rfl ?_
        refine own_iconst X B at_308 (v := (1 : Int32)) rfl (pc' := 309) rfl ?_
        refine own_goto X B at_309 (pc' := 313) (by decide) (by decide) ?_
        exact own_zret X B at_313 (by decide) (by decide) rfl rfl
      ·
        show own_H _ _ _ _ _ _ _ _ T (mkF m 182 #[.val (.int x), .val (.int x0), .val (.int x1), .val (.int x2), .val (.int x3), .val (.ref mv), .val (.int (Int32.ofNat 1)), .val (.int (Int32.ofNat q0)), .val (.int (Int32.ofNat q1)), .val (.int (Int32.ofNat q2)), .val (.int (Int32.ofNat q3)), .val (.ref ps), .val (.int ng), .unset, .unset] [.ref r])
        have hng1 : ng = 0 := by
          rcases hng with ⟨q, z⟩ | ⟨q, z⟩
          · obtain ⟨i, hi, hx⟩ := z
            exact absurd hx (hq i hi)
          · exact q
        subst hng1
        refine own_astore X B at_182 rfl (L' := #[.val (.int x), .val (.int x0), .val (.int x1), .val (.int x2), .val (.int x3), .val (.ref mv), .val (.int (Int32.ofNat 1)), .val (.int (Int32.ofNat q0)), .val (.int (Int32.ofNat q1)), .val (.int (Int32.ofNat q2)), .val (.int (Int32.ofNat q3)), .val (.ref ps), .val (.int (0 : Int32)), .val (.ref r), .unset]) rfl (pc' := 184) rfl ?_
        refine own_aload X B at_184 rfl rfl (pc' := 186) rfl ?_
        refine own_iconst X B at_186 (v := (0 : Int32)) rfl (pc' := 187) rfl ?_
        refine own_iaload X B A_mv (i := 0) rfl (by decide) at_187 (pc' := 188) rfl ?_
        show own_H _ _ _ _ _ _ _ _ T (mkF m 188 #[.val (.int x), .val (.int x0), .val (.int x1), .val (.int x2), .val (.int x3), .val (.ref mv), .val (.int (Int32.ofNat 1)), .val (.int (Int32.ofNat q0)), .val (.int (Int32.ofNat q1)), .val (.int (Int32.ofNat q2)), .val (.int (Int32.ofNat q3)), .val (.ref ps), .val (.int (0 : Int32)), .val (.ref r), .unset] [.int x0])
        refine own_iloadN X B at_188 rfl (pc' := 189) rfl ?_
        refine own_icmpF X B at_189 (teq rfl).2 (pc' := 192) rfl ?_
        refine own_aload X B at_192 rfl rfl (pc' := 194) rfl ?_
        refine own_iconst X B at_194 (v := (1 : Int32)) rfl (pc' := 195) rfl ?_
        refine own_iaload X B A_mv (i := 1) rfl (by decide) at_195 (pc' := 196) rfl ?_
        show own_H _ _ _ _ _ _ _ _ T (mkF m 196 #[.val (.int x), .val (.int x0), .val (.int x1), .val (.int x2), .val (.int x3), .val (.ref mv), .val (.int (Int32.ofNat 1)), .val (.int (Int32.ofNat q0)), .val (.int (Int32.ofNat q1)), .val (.int (Int32.ofNat q2)), .val (.int (Int32.ofNat q3)), .val (.ref ps), .val (.int (0 : Int32)), .val (.ref r), .unset] [.int x1])
        refine own_iloadN X B at_196 rfl (pc' := 197) rfl ?_
        refine own_icmpF X B at_197 (teq rfl).2 (pc' := 200) rfl ?_
        refine own_aload X B at_200 rfl rfl (pc' := 202) rfl ?_
        refine own_iconst X B at_202 (v := (2 : Int32)) rfl (pc' := 203) rfl ?_
        refine own_iaload X B A_mv (i := 2) rfl (by decide) at_203 (pc' := 204) rfl ?_
        show own_H _ _ _ _ _ _ _ _ T (mkF m 204 #[.val (.int x), .val (.int x0), .val (.int x1), .val (.int x2), .val (.int x3), .val (.ref mv), .val (.int (Int32.ofNat 1)), .val (.int (Int32.ofNat q0)), .val (.int (Int32.ofNat q1)), .val (.int (Int32.ofNat q2)), .val (.int (Int32.ofNat q3)), .val (.ref ps), .val (.int (0 : Int32)), .val (.ref r), .unset] [.int x2])
        refine own_iloadN X B at_204 rfl (pc' := 205) rfl ?_
        refine own_icmpF X B at_205 (teq rfl).2 (pc' := 208) rfl ?_
        refine own_aload X B at_208 rfl rfl (pc' := 210) rfl ?_
        refine own_iconst X B at_210 (v := (3 : Int32)) rfl (pc' := 211) rfl ?_
        refine own_iaload X B A_mv (i := 3) rfl (by decide) at_211 (pc' := 212) rfl ?_
        show own_H _ _ _ _ _ _ _ _ T (mkF m 212 #[.val (.int x), .val (.int x0), .val (.int x1), .val (.int x2), .val (.int x3), .val (.ref mv), .val (.int (Int32.ofNat 1)), .val (.int (Int32.ofNat q0)), .val (.int (Int32.ofNat q1)), .val (.int (Int32.ofNat q2)), .val (.int (Int32.ofNat q3)), .val (.ref ps), .val (.int (0 : Int32)), .val (.ref r), .unset] [.int x3])
        refine own_iload X B at_212 rfl (pc' := 214) rfl ?_
        refine own_icmpF X B at_214 (teq rfl).2 (pc' := 217) rfl ?_
        refine own_aload X B at_217 rfl rfl (pc' := 219) rfl ?_
        refine own_lenI X B A_ps at_219 (pc' := 220) rfl ?_
        refine own_iload X B at_220 rfl (pc' := 222) rfl ?_
        refine own_icmpF X B at_222 (teq rfl).2 (pc' := 225) rfl ?_
        refine own_iload X B at_225 rfl (pc' := 227) rfl ?_
        refine own_ifF X B at_227 (tlt (by decide)).2.2.2 (pc' := 230) rfl ?_
        refine own_aload X B at_230 rfl rfl (pc' := 232) rfl ?_
        refine own_iconst X B at_232 (v := (0 : Int32)) rfl (pc' := 233) rfl ?_
        refine own_iaload X B A_ps (i := 0) rfl (by decide) at_233 (pc' := 234) rfl ?_
        show own_H _ _ _ _ _ _ _ _ T (mkF m 234 #[.val (.int x), .val (.int x0), .val (.int x1), .val (.int x2), .val (.int x3), .val (.ref mv), .val (.int (Int32.ofNat 1)), .val (.int (Int32.ofNat q0)), .val (.int (Int32.ofNat q1)), .val (.int (Int32.ofNat q2)), .val (.int (Int32.ofNat q3)), .val (.ref ps), .val (.int (0 : Int32)), .val (.ref r), .unset] [.int (Int32.ofNat q0)])
        refine own_iload X B at_234 rfl (pc' := 236) rfl ?_
        refine own_icmpF X B at_236 (teq rfl).2 (pc' := 239) rfl ?_
        refine own_iload X B at_239 rfl (pc' := 241) rfl ?_
        refine own_iconst X B at_241 (v := (1 : Int32)) rfl (pc' := 242) rfl ?_
        refine own_icmpT X B at_242 (flt (by decide)).2.2.2 (pc' := 254) (by decide) (by decide) ?_
        refine own_iload X B at_254 rfl (pc' := 256) rfl ?_
        refine own_iconst X B at_256 (v := (2 : Int32)) rfl (pc' := 257) rfl ?_
        refine own_icmpT X B at_257 (flt (by decide)).2.2.2 (pc' := 269) (by decide) (by decide) ?_
        refine own_iload X B at_269 rfl (pc' := 271) rfl ?_
        refine own_iconst X B at_271 (v := (3 : Int32)) rfl (pc' := 272) rfl ?_
        refine own_icmpT X B at_272 (flt (by decide)).2.2.2 (pc' := 284) (by decide) (by decide) ?_
        refine own_iconst X B at_284 (v := (1 : Int32)) rfl (pc' := 285) rfl ?_
        refine own_goto X B at_285 (pc' := 289) (by decide) (by decide) ?_
        refine own_istore X B at_289 (L' := #[.val (.int x), .val (.int x0), .val (.int x1), .val (.int x2), .val (.int x3), .val (.ref mv), .val (.int (Int32.ofNat 1)), .val (.int (Int32.ofNat q0)), .val (.int (Int32.ofNat q1)), .val (.int (Int32.ofNat q2)), .val (.int (Int32.ofNat q3)), .val (.ref ps), .val (.int (0 : Int32)), .val (.ref r), .val (.int (1 : Int32))]) rfl (pc' := 291) rfl ?_
        refine own_iload X B at_291 rfl (pc' := 293) rfl ?_
        refine own_ifT X B at_293 (feq (by decide : ¬ (1 : Int32) = 0)).2 (pc' := 298) (by decide) (by decide) ?_
        refine own_iload X B at_298 rfl (pc' := 300) rfl ?_
        refine own_ifT X B at_300 (teq rfl).1 (pc' := 314) (by decide) (by decide) ?_
        refine own_aload X B at_314 rfl rfl (pc' := 316) rfl ?_
        refine own_ifnullF X B at_316 (pc' := 319) rfl ?_
        refine own_aload X B at_319 rfl rfl (pc' := 321) rfl ?_
        refine own_lenI X B A_r at_321 (pc' := 322) rfl ?_
        refine own_iload X B at_322 rfl (pc' := 324) rfl ?_
        refine own_icmpT X B at_324 (teq rfl).1 (pc' := 329) (by decide) (by decide) ?_
        refine own_iload X B at_329 rfl (pc' := 331) rfl ?_
        refine own_ifF X B at_331 (tlt (by decide)).2.2.2 (pc' := 334) rfl ?_
        refine own_aload X B at_334 rfl rfl (pc' := 336) rfl ?_
        refine own_iconst X B at_336 (v := (0 : Int32)) rfl (pc' := 337) rfl ?_
        refine own_iaload X B A_r (i := 0) rfl (by decide) at_337 (pc' := 338) rfl ?_
        show own_H _ _ _ _ _ _ _ _ T (mkF m 338 #[.val (.int x), .val (.int x0), .val (.int x1), .val (.int x2), .val (.int x3), .val (.ref mv), .val (.int (Int32.ofNat 1)), .val (.int (Int32.ofNat q0)), .val (.int (Int32.ofNat q1)), .val (.int (Int32.ofNat q2)), .val (.int (Int32.ofNat q3)), .val (.ref ps), .val (.int (0 : Int32)), .val (.ref r), .val (.int (1 : Int32))] [.int (own_v4 x0 x1 x2 x3 q0)])
        refine own_iload X B at_338 rfl (pc' := 340) rfl ?_
        refine own_iloadN X B at_340 rfl (pc' := 341) rfl ?_
        refine own_iloadN X B at_341 rfl (pc' := 342) rfl ?_
        refine own_iloadN X B at_342 rfl (pc' := 343) rfl ?_
        refine own_iload X B at_343 rfl (pc' := 345) rfl ?_
        refine own_callS X B (W := 1) (hw _ (List.mem_of_getElem? (i := 5) rfl)) (hw _ (List.mem_of_getElem? (i := 6) rfl)) (hw _ (List.mem_of_getElem? (i := 7) rfl)) (hw _ (List.mem_of_getElem? (i := 8) rfl)) (by decide) (rm2 l Z a0 hw q0 x0 x1 x2 x3 h n0 (own_sz X Z0) hq0) (by decide) (by decide) (by decide) (by decide) rfl (argsL := [.int (Int32.ofNat q0), .int x0, .int x1, .int x2, .int x3]) pd_2 rfl rfl (st := [.int (own_v4 x0 x1 x2 x3 q0)]) rfl (Nat.le_refl _) at_345 (pc' := 348) rfl all0 ?_
        rintro v T h X K rfl
        replace A_mv := A_mv.keep K nin0
        replace A_ps := A_ps.keep K nin0
        replace A_r := A_r.keep K nin0
        show own_H _ _ _ _ _ _ _ _ T (mkF m 348 #[.val (.int x), .val (.int x0), .val (.int x1), .val (.int x2), .val (.int x3), .val (.ref mv), .val (.int (Int32.ofNat 1)), .val (.int (Int32.ofNat q0)), .val (.int (Int32.ofNat q1)), .val (.int (Int32.ofNat q2)), .val (.int (Int32.ofNat q3)), .val (.ref ps), .val (.int (0 : Int32)), .val (.ref r), .val (.int (1 : Int32))] [.int (own_v4 x0 x1 x2 x3 q0), .int (own_v4 x0 x1 x2 x3 q0)])
        refine own_icmpF X B at_348 (teq rfl).2 (pc' := 351) rfl ?_
        refine own_iload X B at_351 rfl (pc' := 353) rfl ?_
        refine own_iconst X B at_353 (v := (1 : Int32)) rfl (pc' := 354) rfl ?_
        refine own_icmpT X B at_354 (flt (by decide)).2.2.2 (pc' := 374) (by decide) (by decide) ?_
        refine own_iload X B at_374 rfl (pc' := 376) rfl ?_
        refine own_iconst X B at_376 (v := (2 : Int32)) rfl (pc' := 377) rfl ?_
        refine own_icmpT X B at_377 (flt (by decide)).2.2.2 (pc' := 397) (by decide) (by decide) ?_
        refine own_iload X B at_397 rfl (pc' := 399) rfl ?_
        refine own_iconst X B at_399 (v := (3 : Int32)) rfl (pc' := 400) rfl ?_
        refine own_icmpT X B at_400 (flt (by decide)).2.2.2 (pc' := 420) (by decide) (by decide) ?_
        refine own_iconst X B at_420 (v := (1 : Int32)) rfl (pc' := 421) rfl ?_
        refine own_goto X B at_421 (pc' := 425) (by decide) (by decide) ?_
        exact own_zret X B at_425 (by decide) (by decide) rfl rfl
    refine own_iload X B at_113 rfl (pc' := 115) rfl ?_
    refine own_ifF X B at_115 (tlt (by decide)).2.2.2 (pc' := 118) rfl ?_
    refine own_aload X B at_118 rfl rfl (pc' := 120) rfl ?_
    refine own_iload X B at_120 rfl (pc' := 122) rfl ?_
    refine own_iaload X B A_mv (i := q0) (own_nat (by omega)) hq0 at_122 (pc' := 123) rfl ?_
    show own_H _ _ _ _ _ _ _ _ T (mkF m 123 #[.val (.int x), .val (.int x0), .val (.int x1), .val (.int x2), .val (.int x3), .val (.ref mv), .val (.int (Int32.ofNat 1)), .val (.int (Int32.ofNat q0)), .val (.int (Int32.ofNat q1)), .val (.int (Int32.ofNat q2)), .val (.int (Int32.ofNat q3)), .val (.ref ps), .unset, .unset, .unset] [.int (own_v4 x0 x1 x2 x3 q0)])
    by_cases hc0 : (own_v4 x0 x1 x2 x3 q0) < (0 : Int32)
    · -- hc0
      refine own_ifT X B at_123 (tlt hc0).1 (pc' := 168) (by decide) (by decide) ?_
      refine own_iconst X B at_168 (v := (1 : Int32)) rfl (pc' := 169) rfl ?_
      refine own_goto X B at_169 (pc' := 173) (by decide) (by decide) ?_
      exact J173 _ _ _ X A_mv A_ps (Or.inl ⟨rfl, 0, by decide, hc0⟩)
    · -- not hc0
      refine own_ifF X B at_123 (flt hc0).1 (pc' := 126) rfl ?_
      refine own_iload X B at_126 rfl (pc' := 128) rfl ?_
      refine own_iconst X B at_128 (v := (1 : Int32)) rfl (pc' := 129) rfl ?_
      refine own_icmpT X B at_129 (flt (by decide)).2.2.2 (pc' := 140) (by decide) (by decide) ?_
      refine own_iload X B at_140 rfl (pc' := 142) rfl ?_
      refine own_iconst X B at_142 (v := (2 : Int32)) rfl (pc' := 143) rfl ?_
      refine own_icmpT X B at_143 (flt (by decide)).2.2.2 (pc' := 154) (by decide) (by decide) ?_
      refine own_iload X B at_154 rfl (pc' := 156) rfl ?_
      refine own_iconst X B at_156 (v := (3 : Int32)) rfl (pc' := 157) rfl ?_
      refine own_icmpT X B at_157 (flt (by decide)).2.2.2 (pc' := 172) (by decide) (by decide) ?_
      refine own_iconst X B at_172 (v := (0 : Int32)) rfl (pc' := 173) rfl ?_
      exact J173 _ _ _ X A_mv A_ps (Or.inr ⟨rfl, fun i hi => by
        match i, hi with
        | 0, _ => exact hc0⟩)
  · -- n = 2
    refine own_newI X B (hw _ (List.mem_of_getElem? (i := 0) rfl)) (n := 2) (cap := 4) rfl (by decide) (by decide) (by decide) (by decide) at_62 (pc' := 64) rfl fun T h ps g_ps X K A_ps z_ps => ?_
    have n_mv_ps : mv ≠ ps := own_ne A_mv.lt g_ps
    replace A_mv := A_mv.keep K nin0
    refine own_astore X B at_64 rfl (L' := #[.val (.int x), .val (.int x0), .val (.int x1), .val (.int x2), .val (.int x3), .val (.ref mv), .val (.int (Int32.ofNat 2)), .val (.int (Int32.ofNat q0)), .val (.int (Int32.ofNat q1)), .val (.int (Int32.ofNat q2)), .val (.int (Int32.ofNat q3)), .val (.ref ps), .unset, .unset, .unset]) rfl (pc' := 66) rfl ?_
    refine own_iload X B at_66 rfl (pc' := 68) rfl ?_
    refine own_ifF X B at_68 (tlt (by decide)).2.2.2 (pc' := 71) rfl ?_
    refine own_aload X B at_71 rfl rfl (pc' := 73) rfl ?_
    refine own_iconst X B at_73 (v := (0 : Int32)) rfl (pc' := 74) rfl ?_
    refine own_iload X B at_74 rfl (pc' := 76) rfl ?_
    refine own_iastore X B A_ps (i := 0) rfl (by decide) (Nat.le_trans Z0 z_ps) (Or.inr z_ps) at_76 (pc' := 77) rfl fun T h X K A_ps => ?_
    replace A_mv := A_mv.keep K (ninS n_mv_ps nin0)
    refine own_iload X B at_77 rfl (pc' := 79) rfl ?_
    refine own_iconst X B at_79 (v := (1 : Int32)) rfl (pc' := 80) rfl ?_
    refine own_icmpF X B at_80 (tlt (by decide)).2.2.2 (pc' := 83) rfl ?_
    refine own_aload X B at_83 rfl rfl (pc' := 85) rfl ?_
    refine own_iconst X B at_85 (v := (1 : Int32)) rfl (pc' := 86) rfl ?_
    refine own_iload X B at_86 rfl (pc' := 88) rfl ?_
    refine own_iastore X B A_ps (i := 1) rfl (by decide) (Nat.le_trans Z0 z_ps) (Or.inr z_ps) at_88 (pc' := 89) rfl fun T h X K A_ps => ?_
    replace A_mv := A_mv.keep K (ninS n_mv_ps nin0)
    refine own_iload X B at_89 rfl (pc' := 91) rfl ?_
    refine own_iconst X B at_91 (v := (2 : Int32)) rfl (pc' := 92) rfl ?_
    refine own_icmpT X B at_92 (flt (by decide)).2.2.2 (pc' := 101) (by decide) (by decide) ?_
    refine own_iload X B at_101 rfl (pc' := 103) rfl ?_
    refine own_iconst X B at_103 (v := (3 : Int32)) rfl (pc' := 104) rfl ?_
    refine own_icmpT X B at_104 (flt (by decide)).2.2.2 (pc' := 113) (by decide) (by decide) ?_
    replace A_ps := A_ps.congr (g := (fun i => Int32.ofNat (own_q q0 q1 q2 q3 i))) (fun i hi => by
      match i, hi with
      | 0, _ => rfl
      | 1, _ => rfl)
    have J173 : ∀ (T : State) (h : Heap) (ng : Int32), own_St p l e room_1 s m #[.int x, .int x0, .int x1, .int x2, .int x3] below meth c n0 h0 [] T h 2 8 → own_AI Z h mv 4 (own_v4 x0 x1 x2 x3) → own_AI Z h ps 2 (fun i => Int32.ofNat (own_q q0 q1 q2 q3 i)) → ((ng = 1 ∧  ∃ i, i < 2 ∧ own_v4 x0 x1 x2 x3 (own_q q0 q1 q2 q3 i) < 0) ∨ (ng = 0 ∧ ∀ i, i < 2 → ¬ own_v4 x0 x1 x2 x3 (own_q q0 q1 q2 q3 i) < 0)) → own_G p e below s n0 h0 [] (fun v h => v = some (.int 1)) 16 128 T (mkF m 173 #[.val (.int x), .val (.int x0), .val (.int x1), .val (.int x2), .val (.int x3), .val (.ref mv), .val (.int (Int32.ofNat 2)), .val (.int (Int32.ofNat q0)), .val (.int (Int32.ofNat q1)), .val (.int (Int32.ofNat q2)), .val (.int (Int32.ofNat q3)), .val (.ref ps), .unset, .unset, .unset] [.int ng]) := by
      intro T h ng X A_mv A_ps hng
      refine own_istore X B at_173 (L' := #[.val (.int x), .val (.int x0), .val (.int x1), .val (.int x2), .val (.int x3), .val (.ref mv), .val (.int (Int32.ofNat 2)), .val (.int (Int32.ofNat q0)), .val (.int (Int32.ofNat q1)), .val (.int (Int32.ofNat q2)), .val (.int (Int32.ofNat q3)), .val (.ref ps), .val (.int ng), .unset, .unset]) rfl (pc' := 175) rfl ?_
      refine own_aload X B at_175 rfl rfl (pc' := 177) rfl ?_
      refine own_aload X B at_177 rfl rfl (pc' := 179) rfl ?_
      refine own_callS X B (W := 0) (hw _ (List.mem_of_getElem? (i := 1) rfl)) (hw _ (List.mem_of_getElem? (i := 2) rfl)) (hw _ (List.mem_of_getElem? (i := 3) rfl)) (hw _ (List.mem_of_getElem? (i := 4) rfl)) (by decide) (rm1 l Z a0 hw ps mv 2 (own_q q0 q1 q2 q3) (own_v4 x0 x1 x2 x3) h n0 (own_sz X Z0) A_ps A_mv (by decide) (fun i hi => own_q_lt hq0 hq1 hq2 hq3 i)) (by decide) (by decide) (by decide) (by decide) rfl (argsL := [.ref ps, .ref mv]) pd_1 rfl rfl (st := []) rfl (Nat.le_refl _) at_179 (pc' := 182) rfl all0 ?_
      rintro v T h X K hq
      replace A_mv := A_mv.keep K nin0
      replace A_ps := A_ps.keep K nin0
      rcases hq with ⟨rfl, hq⟩ | ⟨r, rfl, g_r, A_r, hq⟩
      ·
        show own_H _ _ _ _ _ _ _ _ T (mkF m 182 #[.val (.int x), .val (.int x0), .val (.int x1), .val (.int x2), .val (.int x3), .val (.ref mv), .val (.int (Int32.ofNat 2)), .val (.int (Int32.ofNat q0)), .val (.int (Int32.ofNat q1)), .val (.int (Int32.ofNat q2)), .val (.int (Int32.ofNat q3)), .val (.ref ps), .val (.int ng), .unset, .unset] [.null])
        have hng1 : ng = 1 := by
          rcases hng with ⟨q, z⟩ | ⟨q, z⟩
          · exact q
          · obtain ⟨i, hi, hx⟩ := hq
            exact absurd hx (z i hi)
        subst hng1
        refine own_astore X B at_182 rfl (L' := #[.val (.int x), .val (.int x0), .val (.int x1), .val (.int x2), .val (.int x3), .val (.ref mv), .val (.int (Int32.ofNat 2)), .val (.int (Int32.ofNat q0)), .val (.int (Int32.ofNat q1)), .val (.int (Int32.ofNat q2)), .val (.int (Int32.ofNat q3)), .val (.ref ps), .val (.int (1 : Int32)), .val .null, .unset]) rfl (pc' := 184) rfl ?_
        refine own_aload X B at_184 rfl rfl (pc' := 186) rfl ?_
        refine own_iconst X B at_186 (v := (0 : Int32)) rfl (pc' := 187) rfl ?_
        refine own_iaload X B A_mv (i := 0) rfl (by decide) at_187 (pc' := 188) rfl ?_
        show own_H _ _ _ _ _ _ _ _ T (mkF m 188 #[.val (.int x), .val (.int x0), .val (.int x1), .val (.int x2), .val (.int x3), .val (.ref mv), .val (.int (Int32.ofNat 2)), .val (.int (Int32.ofNat q0)), .val (.int (Int32.ofNat q1)), .val (.int (Int32.ofNat q2)), .val (.int (Int32.ofNat q3)), .val (.ref ps), .val (.int (1 : Int32)), .val .null, .unset] [.int x0])
        refine own_iloadN X B at_188 rfl (pc' := 189) rfl ?_
        refine own_icmpF X B at_189 (teq rfl).2 (pc' := 192) rfl ?_
        refine own_aload X B at_192 rfl rfl (pc' := 194) rfl ?_
        refine own_iconst X B at_194 (v := (1 : Int32)) rfl (pc' := 195) rfl ?_
        refine own_iaload X B A_mv (i := 1) rfl (by decide) at_195 (pc' := 196) rfl ?_
        show own_H _ _ _ _ _ _ _ _ T (mkF m 196 #[.val (.int x), .val (.int x0), .val (.int x1), .val (.int x2), .val (.int x3), .val (.ref mv), .val (.int (Int32.ofNat 2)), .val (.int (Int32.ofNat q0)), .val (.int (Int32.ofNat q1)), .val (.int (Int32.ofNat q2)), .val (.int (Int32.ofNat q3)), .val (.ref ps), .val (.int (1 : Int32)), .val .null, .unset] [.int x1])
        refine own_iloadN X B at_196 rfl (pc' := 197) rfl ?_
        refine own_icmpF X B at_197 (teq rfl).2 (pc' := 200) rfl ?_
        refine own_aload X B at_200 rfl rfl (pc' := 202) rfl ?_
        refine own_iconst X B at_202 (v := (2 : Int32)) rfl (pc' := 203) rfl ?_
        refine own_iaload X B A_mv (i := 2) rfl (by decide) at_203 (pc' := 204) rfl ?_
        show own_H _ _ _ _ _ _ _ _ T (mkF m 204 #[.val (.int x), .val (.int x0), .val (.int x1), .val (.int x2), .val (.int x3), .val (.ref mv), .val (.int (Int32.ofNat 2)), .val (.int (Int32.ofNat q0)), .val (.int (Int32.ofNat q1)), .val (.int (Int32.ofNat q2)), .val (.int (Int32.ofNat q3)), .val (.ref ps), .val (.int (1 : Int32)), .val .null, .unset] [.int x2])
        refine own_iloadN X B at_204 rfl (pc' := 205) rfl ?_
        refine own_icmpF X B at_205 (teq rfl).2 (pc' := 208) rfl ?_
        refine own_aload X B at_208 rfl rfl (pc' := 210) rfl ?_
        refine own_iconst X B at_210 (v := (3 : Int32)) rfl (pc' := 211) rfl ?_
        refine own_iaload X B A_mv (i := 3) rfl (by decide) at_211 (pc' := 212) rfl ?_
        show own_H _ _ _ _ _ _ _ _ T (mkF m 212 #[.val (.int x), .val (.int x0), .val (.int x1), .val (.int x2), .val (.int x3), .val (.ref mv), .val (.int (Int32.ofNat 2)), .val (.int (Int32.ofNat q0)), .val (.int (Int32.ofNat q1)), .val (.int (Int32.ofNat q2)), .val (.int (Int32.ofNat q3)), .val (.ref ps), .val (.int (1 : Int32)), .val .null, .unset] [.int x3])
        refine own_iload X B at_212 rfl (pc' := 214) rfl ?_
        refine own_icmpF X B at_214 (teq rfl).2 (pc' := 217) rfl ?_
        refine own_aload X B at_217 rfl rfl (pc' := 219) rfl ?_
        refine own_lenI X B A_ps at_219 (pc' := 220) rfl ?_
        refine own_iload X B at_220 rfl (pc' := 222) rfl ?_
        refine own_icmpF X B at_222 (teq rfl).2 (pc' := 225) rfl ?_
        refine own_iload X B at_225 rfl (pc' := 227) rfl ?_
        refine own_ifF X B at_227 (tlt (by decide)).2.2.2 (pc' := 230) rfl ?_
        refine own_aload X B at_230 rfl rfl (pc' := 232) rfl ?_
        refine own_iconst X B at_232 (v := (0 : Int32)) rfl (pc' := 233) rfl ?_
        refine own_iaload X B A_ps (i := 0) rfl (by decide) at_233 (pc' := 234) rfl ?_
        show own_H _ _ _ _ _ _ _ _ T (mkF m 234 #[.val (.int x), .val (.int x0), .val (.int x1), .val (.int x2), .val (.int x3), .val (.ref mv), .val (.int (Int32.ofNat 2)), .val (.int (Int32.ofNat q0)), .val (.int (Int32.ofNat q1)), .val (.int (Int32.ofNat q2)), .val (.int (Int32.ofNat q3)), .val (.ref ps), .val (.int (1 : Int32)), .val .null, .unset] [.int (Int32.ofNat q0)])
        refine own_iload X B at_234 rfl (pc' := 236) rfl ?_
        refine own_icmpF X B at_236 (teq rfl).2 (pc' := 239) rfl ?_
        refine own_iload X B at_239 rfl (pc' := 241) rfl ?_
        refine own_iconst X B at_241 (v := (1 : Int32)) rfl (pc' := 242) rfl ?_
        refine own_icmpF X B at_242 (tlt (by decide)).2.2.2 (pc' := 245) rfl ?_
        refine own_aload X B at_245 rfl rfl (pc' := 247) rfl ?_
        refine own_iconst X B at_247 (v := (1 : Int32)) rfl (pc' := 248) rfl ?_
        refine own_iaload X B A_ps (i := 1) rfl (by decide) at_248 (pc' := 249) rfl ?_
        show own_H _ _ _ _ _ _ _ _ T (mkF m 249 #[.val (.int x), .val (.int x0), .val (.int x1), .val (.int x2), .val (.int x3), .val (.ref mv), .val (.int (Int32.ofNat 2)), .val (.int (Int32.ofNat q0)), .val (.int (Int32.ofNat q1)), .val (.int (Int32.ofNat q2)), .val (.int (Int32.ofNat q3)), .val (.ref ps), .val (.int (1 : Int32)), .val .null, .unset] [.int (Int32.ofNat q1)])
        refine own_iload X B at_249 rfl (pc' := 251) rfl ?_
        refine own_icmpF X B at_251 (teq rfl).2 (pc' := 254) rfl ?_
        refine own_iload X B at_254 rfl (pc' := 256) rfl ?_
        refine own_iconst X B at_256 (v := (2 : Int32)) rfl (pc' := 257) rfl ?_
        refine own_icmpT X B at_257 (flt (by decide)).2.2.2 (pc' := 269) (by decide) (by decide) ?_
        refine own_iload X B at_269 rfl (pc' := 271) rfl ?_
        refine own_iconst X B at_271 (v := (3 : Int32)) rfl (pc' := 272) rfl ?_
        refine own_icmpT X B at_272 (flt (by decide)).2.2.2 (pc' := 284) (by decide) (by decide) ?_
        refine own_iconst X B at_284 (v := (1 : Int32)) rfl (pc' := 285) rfl ?_
        refine own_goto X B at_285 (pc' := 289) (by decide) (by decide) ?_
        refine own_istore X B at_289 (L' := #[.val (.int x), .val (.int x0), .val (.int x1), .val (.int x2), .val (.int x3), .val (.ref mv), .val (.int (Int32.ofNat 2)), .val (.int (Int32.ofNat q0)), .val (.int (Int32.ofNat q1)), .val (.int (Int32.ofNat q2)), .val (.int (Int32.ofNat q3)), .val (.ref ps), .val (.int (1 : Int32)), .val .null, .val (.int (1 : Int32))]) rfl (pc' := 291) rfl ?_
        refine own_iload X B at_291 rfl (pc' := 293) rfl ?_
        refine own_ifT X B at_293 (feq (by decide : ¬ (1 : Int32) = 0)).2 (pc' := 298) (by decide) (by decide) ?_
        refine own_iload X B at_298 rfl (pc' := 300) rfl ?_
        refine own_ifF X B at_300 (feq (by decide : ¬ (1 : Int32) = 0)).1 (pc' := 303) rfl ?_
        refine own_aload X B at_303 rfl rfl (pc' := 305) rfl ?_
        refine own_ifnonnullF X B at_305 (pc' := 308) rfl ?_
        refine own_iconst X B at_308 (v := (1 : Int32)) rfl (pc' := 309) rfl ?_
        refine own_goto X B at_309 (pc' := 313) (by decide) (by decide) ?_
        exact own_zret X B at_313 (by decide) (by decide) rfl rfl
      ·
        show own_H _ _ _ _ _ _ _ _ T (mkF m 182 #[.val (.int x), .val (.int x0), .val (.int x1), .val (.int x2), .val (.int x3), .val (.ref mv), .val (.int (Int32.ofNat 2)), .val (.int (Int32.ofNat q0)), .val (.int (Int32.ofNat q1)), .val (.int (Int32.ofNat q2)), .val (.int (Int32.ofNat q3)), .val (.ref ps), .val (.int ng), .unset, .unset] [.ref r])
        have hng1 : ng = 0 := by
          rcases hng with ⟨q, z⟩ | ⟨q, z⟩
          · obtain ⟨i, hi, hx⟩ := z
            exact absurd hx (hq i hi)
          · exact q
        subst hng1
        refine own_astore X B at_182 rfl (L' := #[.val (.int x), .val (.int x0), .val (.int x1), .val (.int x2), .val (.int x3), .val (.ref mv), .val (.int (Int32.ofNat 2)), .val (.int (Int32.ofNat q0)), .val (.int (Int32.ofNat q1)), .val (.int (Int32.ofNat q2)), .val (.int (Int32.ofNat q3)), .val (.ref ps), .val (.int (0 : Int32)), .val (.ref r), .unset]) rfl (pc' := 184) rfl ?_
        refine own_aload X B at_184 rfl rfl (pc' := 186) rfl ?_
        refine own_iconst X B at_186 (v := (0 : Int32)) rfl (pc' := 187) rfl ?_
        refine own_iaload X B A_mv (i := 0) rfl (by decide) at_187 (pc' := 188) rfl ?_
        show own_H _ _ _ _ _ _ _ _ T (mkF m 188 #[.val (.int x), .val (.int x0), .val (.int x1), .val (.int x2), .val (.int x3), .val (.ref mv), .val (.int (Int32.ofNat 2)), .val (.int (Int32.ofNat q0)), .val (.int (Int32.ofNat q1)), .val (.int (Int32.ofNat q2)), .val (.int (Int32.ofNat q3)), .val (.ref ps), .val (.int (0 : Int32)), .val (.ref r), .unset] [.int x0])
        refine own_iloadN X B at_188 rfl (pc' := 189) rfl ?_
        refine own_icmpF X B at_189 (teq rfl).2 (pc' := 192) rfl ?_
        refine own_aload X B at_192 rfl rfl (pc' := 194) rfl ?_
        refine own_iconst X B at_194 (v := (1 : Int32)) rfl (pc' := 195) rfl ?_
        refine own_iaload X B A_mv (i := 1) rfl (by decide) at_195 (pc' := 196) rfl ?_
        show own_H _ _ _ _ _ _ _ _ T (mkF m 196 #[.val (.int x), .val (.int x0), .val (.int x1), .val (.int x2), .val (.int x3), .val (.ref mv), .val (.int (Int32.ofNat 2)), .val (.int (Int32.ofNat q0)), .val (.int (Int32.ofNat q1)), .val (.int (Int32.ofNat q2)), .val (.int (Int32.ofNat q3)), .val (.ref ps), .val (.int (0 : Int32)), .val (.ref r), .unset] [.int x1])
        refine own_iloadN X B at_196 rfl (pc' := 197) rfl ?_
        refine own_icmpF X B at_197 (teq rfl).2 (pc' := 200) rfl ?_
        refine own_aload X B at_200 rfl rfl (pc' := 202) rfl ?_
        refine own_iconst X B at_202 (v := (2 : Int32)) rfl (pc' := 203) rfl ?_
        refine own_iaload X B A_mv (i := 2) rfl (by decide) at_203 (pc' := 204) rfl ?_
        show own_H _ _ _ _ _ _ _ _ T (mkF m 204 #[.val (.int x), .val (.int x0), .val (.int x1), .val (.int x2), .val (.int x3), .val (.ref mv), .val (.int (Int32.ofNat 2)), .val (.int (Int32.ofNat q0)), .val (.int (Int32.ofNat q1)), .val (.int (Int32.ofNat q2)), .val (.int (Int32.ofNat q3)), .val (.ref ps), .val (.int (0 : Int32)), .val (.ref r), .unset] [.int x2])
        refine own_iloadN X B at_204 rfl (pc' := 205) rfl ?_
        refine own_icmpF X B at_205 (teq rfl).2 (pc' := 208) rfl ?_
        refine own_aload X B at_208 rfl rfl (pc' := 210) rfl ?_
        refine own_iconst X B at_210 (v := (3 : Int32)) rfl (pc' := 211) rfl ?_
        refine own_iaload X B A_mv (i := 3) rfl (by decide) at_211 (pc' := 212) rfl ?_
        show own_H _ _ _ _ _ _ _ _ T (mkF m 212 #[.val (.int x), .val (.int x0), .val (.int x1), .val (.int x2), .val (.int x3), .val (.ref mv), .val (.int (Int32.ofNat 2)), .val (.int (Int32.ofNat q0)), .val (.int (Int32.ofNat q1)), .val (.int (Int32.ofNat q2)), .val (.int (Int32.ofNat q3)), .val (.ref ps), .val (.int (0 : Int32)), .val (.ref r), .unset] [.int x3])
        refine own_iload X B at_212 rfl (pc' := 214) rfl ?_
        refine own_icmpF X B at_214 (teq rfl).2 (pc' := 217) rfl ?_
        refine own_aload X B at_217 rfl rfl (pc' := 219) rfl ?_
        refine own_lenI X B A_ps at_219 (pc' := 220) rfl ?_
        refine own_iload X B at_220 rfl (pc' := 222) rfl ?_
        refine own_icmpF X B at_222 (teq rfl).2 (pc' := 225) rfl ?_
        refine own_iload X B at_225 rfl (pc' := 227) rfl ?_
        refine own_ifF X B at_227 (tlt (by decide)).2.2.2 (pc' := 230) rfl ?_
        refine own_aload X B at_230 rfl rfl (pc' := 232) rfl ?_
        refine own_iconst X B at_232 (v := (0 : Int32)) rfl (pc' := 233) rfl ?_
        refine own_iaload X B A_ps (i := 0) rfl (by decide) at_233 (pc' := 234) rfl ?_
        show own_H _ _ _ _ _ _ _ _ T (mkF m 234 #[.val (.int x), .val (.int x0), .val (.int x1), .val (.int x2), .val (.int x3), .val (.ref mv), .val (.int (Int32.ofNat 2)), .val (.int (Int32.ofNat q0)), .val (.int (Int32.ofNat q1)), .val (.int (Int32.ofNat q2)), .val (.int (Int32.ofNat q3)), .val (.ref ps), .val (.int (0 : Int32)), .val (.ref r), .unset] [.int (Int32.ofNat q0)])
        refine own_iload X B at_234 rfl (pc' := 236) rfl ?_
        refine own_icmpF X B at_236 (teq rfl).2 (pc' := 239) rfl ?_
        refine own_iload X B at_239 rfl (pc' := 241) rfl ?_
        refine own_iconst X B at_241 (v := (1 : Int32)) rfl (pc' := 242) rfl ?_
        refine own_icmpF X B at_242 (tlt (by decide)).2.2.2 (pc' := 245) rfl ?_
        refine own_aload X B at_245 rfl rfl (pc' := 247) rfl ?_
        refine own_iconst X B at_247 (v := (1 : Int32)) rfl (pc' := 248) rfl ?_
        refine own_iaload X B A_ps (i := 1) rfl (by decide) at_248 (pc' := 249) rfl ?_
        show own_H _ _ _ _ _ _ _ _ T (mkF m 249 #[.val (.int x), .val (.int x0), .val (.int x1), .val (.int x2), .val (.int x3), .val (.ref mv), .val (.int (Int32.ofNat 2)), .val (.int (Int32.ofNat q0)), .val (.int (Int32.ofNat q1)), .val (.int (Int32.ofNat q2)), .val (.int (Int32.ofNat q3)), .val (.ref ps), .val (.int (0 : Int32)), .val (.ref r), .unset] [.int (Int32.ofNat q1)])
        refine own_iload X B at_249 rfl (pc' := 251) rfl ?_
        refine own_icmpF X B at_251 (teq rfl).2 (pc' := 254) rfl ?_
        refine own_iload X B at_254 rfl (pc' := 256) rfl ?_
        refine own_iconst X B at_256 (v := (2 : Int32)) rfl (pc' := 257) rfl ?_
        refine own_icmpT X B at_257 (flt (by decide)).2.2.2 (pc' := 269) (by decide) (by decide) ?_
        refine own_iload X B at_269 rfl (pc' := 271) rfl ?_
        refine own_iconst X B at_271 (v := (3 : Int32)) rfl (pc' := 272) rfl ?_
        refine own_icmpT X B at_272 (flt (by decide)).2.2.2 (pc' := 284) (by decide) (by decide) ?_
        refine own_iconst X B at_284 (v := (1 : Int32)) rfl (pc' := 285) rfl ?_
        refine own_goto X B at_285 (pc' := 289) (by decide) (by decide) ?_
        refine own_istore X B at_289 (L' := #[.val (.int x), .val (.int x0), .val (.int x1), .val (.int x2), .val (.int x3), .val (.ref mv), .val (.int (Int32.ofNat 2)), .val (.int (Int32.ofNat q0)), .val (.int (Int32.ofNat q1)), .val (.int (Int32.ofNat q2)), .val (.int (Int32.ofNat q3)), .val (.ref ps), .val (.int (0 : Int32)), .val (.ref r), .val (.int (1 : Int32))]) rfl (pc' := 291) rfl ?_
        refine own_iload X B at_291 rfl (pc' := 293) rfl ?_
        refine own_ifT X B at_293 (feq (by decide : ¬ (1 : Int32) = 0)).2 (pc' := 298) (by decide) (by decide) ?_
        refine own_iload X B at_298 rfl (pc' := 300) rfl ?_
        refine own_ifT X B at_300 (teq rfl).1 (pc' := 314) (by decide) (by decide) ?_
        refine own_aload X B at_314 rfl rfl (pc' := 316) rfl ?_
        refine own_ifnullF X B at_316 (pc' := 319) rfl ?_
        refine own_aload X B at_319 rfl rfl (pc' := 321) rfl ?_
        refine own_lenI X B A_r at_321 (pc' := 322) rfl ?_
        refine own_iload X B at_322 rfl (pc' := 324) rfl ?_
        refine own_icmpT X B at_324 (teq rfl).1 (pc' := 329) (by decide) (by decide) ?_
        refine own_iload X B at_329 rfl (pc' := 331) rfl ?_
        refine own_ifF X B at_331 (tlt (by decide)).2.2.2 (pc' := 334) rfl ?_
        refine own_aload X B at_334 rfl rfl (pc' := 336) rfl ?_
        refine own_iconst X B at_336 (v := (0 : Int32)) rfl (pc' := 337) rfl ?_
        refine own_iaload X B A_r (i := 0) rfl (by decide) at_337 (pc' := 338) rfl ?_
        show own_H _ _ _ _ _ _ _ _ T (mkF m 338 #[.val (.int x), .val (.int x0), .val (.int x1), .val (.int x2), .val (.int x3), .val (.ref mv), .val (.int (Int32.ofNat 2)), .val (.int (Int32.ofNat q0)), .val (.int (Int32.ofNat q1)), .val (.int (Int32.ofNat q2)), .val (.int (Int32.ofNat q3)), .val (.ref ps), .val (.int (0 : Int32)), .val (.ref r), .val (.int (1 : Int32))] [.int (own_v4 x0 x1 x2 x3 q0)])
        refine own_iload X B at_338 rfl (pc' := 340) rfl ?_
        refine own_iloadN X B at_340 rfl (pc' := 341) rfl ?_
        refine own_iloadN X B at_341 rfl (pc' := 342) rfl ?_
        refine own_iloadN X B at_342 rfl (pc' := 343) rfl ?_
        refine own_iload X B at_343 rfl (pc' := 345) rfl ?_
        refine own_callS X B (W := 1) (hw _ (List.mem_of_getElem? (i := 5) rfl)) (hw _ (List.mem_of_getElem? (i := 6) rfl)) (hw _ (List.mem_of_getElem? (i := 7) rfl)) (hw _ (List.mem_of_getElem? (i := 8) rfl)) (by decide) (rm2 l Z a0 hw q0 x0 x1 x2 x3 h n0 (own_sz X Z0) hq0) (by decide) (by decide) (by decide) (by decide) rfl (argsL := [.int (Int32.ofNat q0), .int x0, .int x1, .int x2, .int x3]) pd_2 rfl rfl (st := [.int (own_v4 x0 x1 x2 x3 q0)]) rfl (Nat.le_refl _) at_345 (pc' := 348) rfl all0 ?_
        rintro v T h X K rfl
        replace A_mv := A_mv.keep K nin0
        replace A_ps := A_ps.keep K nin0
        replace A_r := A_r.keep K nin0
        show own_H _ _ _ _ _ _ _ _ T (mkF m 348 #[.val (.int x), .val (.int x0), .val (.int x1), .val (.int x2), .val (.int x3), .val (.ref mv), .val (.int (Int32.ofNat 2)), .val (.int (Int32.ofNat q0)), .val (.int (Int32.ofNat q1)), .val (.int (Int32.ofNat q2)), .val (.int (Int32.ofNat q3)), .val (.ref ps), .val (.int (0 : Int32)), .val (.ref r), .val (.int (1 : Int32))] [.int (own_v4 x0 x1 x2 x3 q0), .int (own_v4 x0 x1 x2 x3 q0)])
        refine own_icmpF X B at_348 (teq rfl).2 (pc' := 351) rfl ?_
        refine own_iload X B at_351 rfl (pc' := 353) rfl ?_
        refine own_iconst X B at_353 (v := (1 : Int32)) rfl (pc' := 354) rfl ?_
        refine own_icmpF X B at_354 (tlt (by decide)).2.2.2 (pc' := 357) rfl ?_
        refine own_aload X B at_357 rfl rfl (pc' := 359) rfl ?_
        refine own_iconst X B at_359 (v := (1 : Int32)) rfl (pc' := 360) rfl ?_
        refine own_iaload X B A_r (i := 1) rfl (by decide) at_360 (pc' := 361) rfl ?_
        show own_H _ _ _ _ _ _ _ _ T (mkF m 361 #[.val (.int x), .val (.int x0), .val (.int x1), .val (.int x2), .val (.int x3), .val (.ref mv), .val (.int (Int32.ofNat 2)), .val (.int (Int32.ofNat q0)), .val (.int (Int32.ofNat q1)), .val (.int (Int32.ofNat q2)), .val (.int (Int32.ofNat q3)), .val (.ref ps), .val (.int (0 : Int32)), .val (.ref r), .val (.int (1 : Int32))] [.int (own_v4 x0 x1 x2 x3 q1)])
        refine own_iload X B at_361 rfl (pc' := 363) rfl ?_
        refine own_iloadN X B at_363 rfl (pc' := 364) rfl ?_
        refine own_iloadN X B at_364 rfl (pc' := 365) rfl ?_
        refine own_iloadN X B at_365 rfl (pc' := 366) rfl ?_
        refine own_iload X B at_366 rfl (pc' := 368) rfl ?_
        refine own_callS X B (W := 1) (hw _ (List.mem_of_getElem? (i := 5) rfl)) (hw _ (List.mem_of_getElem? (i := 6) rfl)) (hw _ (List.mem_of_getElem? (i := 7) rfl)) (hw _ (List.mem_of_getElem? (i := 8) rfl)) (by decide) (rm2 l Z a0 hw q1 x0 x1 x2 x3 h n0 (own_sz X Z0) hq1) (by decide) (by decide) (by decide) (by decide) rfl (argsL := [.int (Int32.ofNat q1), .int x0, .int x1, .int x2, .int x3]) pd_2 rfl rfl (st := [.int (own_v4 x0 x1 x2 x3 q1)]) rfl (Nat.le_refl _) at_368 (pc' := 371) rfl all0 ?_
        rintro v T h X K rfl
        replace A_mv := A_mv.keep K nin0
        replace A_ps := A_ps.keep K nin0
        replace A_r := A_r.keep K nin0
        show own_H _ _ _ _ _ _ _ _ T (mkF m 371 #[.val (.int x), .val (.int x0), .val (.int x1), .val (.int x2), .val (.int x3), .val (.ref mv), .val (.int (Int32.ofNat 2)), .val (.int (Int32.ofNat q0)), .val (.int (Int32.ofNat q1)), .val (.int (Int32.ofNat q2)), .val (.int (Int32.ofNat q3)), .val (.ref ps), .val (.int (0 : Int32)), .val (.ref r), .val (.int (1 : Int32))] [.int (own_v4 x0 x1 x2 x3 q1), .int (own_v4 x0 x1 x2 x3 q1)])
        refine own_icmpF X B at_371 (teq rfl).2 (pc' := 374) rfl ?_
        refine own_iload X B at_374 rfl (pc' := 376) rfl ?_
        refine own_iconst X B at_376 (v := (2 : Int32)) rfl (pc' := 377) rfl ?_
        refine own_icmpT X B at_377 (flt (by decide)).2.2.2 (pc' := 397) (by decide) (by decide) ?_
        refine own_iload X B at_397 rfl (pc' := 399) rfl ?_
        refine own_iconst X B at_399 (v := (3 : Int32)) rfl (pc' := 400) rfl ?_
        refine own_icmpT X B at_400 (flt (by decide)).2.2.2 (pc' := 420) (by decide) (by decide) ?_
        refine own_iconst X B at_420 (v := (1 : Int32)) rfl (pc' := 421) rfl ?_
        refine own_goto X B at_421 (pc' := 425) (by decide) (by decide) ?_
        exact own_zret X B at_425 (by decide) (by decide) rfl rfl
    refine own_iload X B at_113 rfl (pc' := 115) rfl ?_
    refine own_ifF X B at_115 (tlt (by decide)).2.2.2 (pc' := 118) rfl ?_
    refine own_aload X B at_118 rfl rfl (pc' := 120) rfl ?_
    refine own_iload X B at_120 rfl (pc' := 122) rfl ?_
    refine own_iaload X B A_mv (i := q0) (own_nat (by omega)) hq0 at_122 (pc' := 123) rfl ?_
    show own_H _ _ _ _ _ _ _ _ T (mkF m 123 #[.val (.int x), .val (.int x0), .val (.int x1), .val (.int x2), .val (.int x3), .val (.ref mv), .val (.int (Int32.ofNat 2)), .val (.int (Int32.ofNat q0)), .val (.int (Int32.ofNat q1)), .val (.int (Int32.ofNat q2)), .val (.int (Int32.ofNat q3)), .val (.ref ps), .unset, .unset, .unset] [.int (own_v4 x0 x1 x2 x3 q0)])
    by_cases hc0 : (own_v4 x0 x1 x2 x3 q0) < (0 : Int32)
    · -- hc0
      refine own_ifT X B at_123 (tlt hc0).1 (pc' := 168) (by decide) (by decide) ?_
      refine own_iconst X B at_168 (v := (1 : Int32)) rfl (pc' := 169) rfl ?_
      refine own_goto X B at_169 (pc' := 173) (by decide) (by decide) ?_
      exact J173 _ _ _ X A_mv A_ps (Or.inl ⟨rfl, 0, by decide, hc0⟩)
    · -- not hc0
      refine own_ifF X B at_123 (flt hc0).1 (pc' := 126) rfl ?_
      refine own_iload X B at_126 rfl (pc' := 128) rfl ?_
      refine own_iconst X B at_128 (v := (1 : Int32)) rfl (pc' := 129) rfl ?_
      refine own_icmpF X B at_129 (tlt (by decide)).2.2.2 (pc' := 132) rfl ?_
      refine own_aload X B at_132 rfl rfl (pc' := 134) rfl ?_
      refine own_iload X B at_134 rfl (pc' := 136) rfl ?_
      refine own_iaload X B A_mv (i := q1) (own_nat (by omega)) hq1 at_136 (pc' := 137) rfl ?_
      show own_H _ _ _ _ _ _ _ _ T (mkF m 137 #[.val (.int x), .val (.int x0), .val (.int x1), .val (.int x2), .val (.int x3), .val (.ref mv), .val (.int (Int32.ofNat 2)), .val (.int (Int32.ofNat q0)), .val (.int (Int32.ofNat q1)), .val (.int (Int32.ofNat q2)), .val (.int (Int32.ofNat q3)), .val (.ref ps), .unset, .unset, .unset] [.int (own_v4 x0 x1 x2 x3 q1)])
      by_cases hc1 : (own_v4 x0 x1 x2 x3 q1) < (0 : Int32)
      · -- hc1
        refine own_ifT X B at_137 (tlt hc1).1 (pc' := 168) (by decide) (by decide) ?_
        refine own_iconst X B at_168 (v := (1 : Int32)) rfl (pc' := 169) rfl ?_
        refine own_goto X B at_169 (pc' := 173) (by decide) (by decide) ?_
        exact J173 _ _ _ X A_mv A_ps (Or.inl ⟨rfl, 1, by decide, hc1⟩)
      · -- not hc1
        refine own_ifF X B at_137 (flt hc1).1 (pc' := 140) rfl ?_
        refine own_iload X B at_140 rfl (pc' := 142) rfl ?_
        refine own_iconst X B at_142 (v := (2 : Int32)) rfl (pc' := 143) rfl ?_
        refine own_icmpT X B at_143 (flt (by decide)).2.2.2 (pc' := 154) (by decide) (by decide) ?_
        refine own_iload X B at_154 rfl (pc' := 156) rfl ?_
        refine own_iconst X B at_156 (v := (3 : Int32)) rfl (pc' := 157) rfl ?_
        refine own_icmpT X B at_157 (flt (by decide)).2.2.2 (pc' := 172) (by decide) (by decide) ?_
        refine own_iconst X B at_172 (v := (0 : Int32)) rfl (pc' := 173) rfl ?_
        exact J173 _ _ _ X A_mv A_ps (Or.inr ⟨rfl, fun i hi => by
          match i, hi with
          | 0, _ => exact hc0
          | 1, _ => exact hc1⟩)
  · -- n = 3
    refine own_newI X B (hw _ (List.mem_of_getElem? (i := 0) rfl)) (n := 3) (cap := 4) rfl (by decide) (by decide) (by decide) (by decide) at_62 (pc' := 64) rfl fun T h ps g_ps X K A_ps z_ps => ?_
    have n_mv_ps : mv ≠ ps := own_ne A_mv.lt g_ps
    replace A_mv := A_mv.keep K nin0
    refine own_astore X B at_64 rfl (L' := #[.val (.int x), .val (.int x0), .val (.int x1), .val (.int x2), .val (.int x3), .val (.ref mv), .val (.int (Int32.ofNat 3)), .val (.int (Int32.ofNat q0)), .val (.int (Int32.ofNat q1)), .val (.int (Int32.ofNat q2)), .val (.int (Int32.ofNat q3)), .val (.ref ps), .unset, .unset, .unset]) rfl (pc' := 66) rfl ?_
    refine own_iload X B at_66 rfl (pc' := 68) rfl ?_
    refine own_ifF X B at_68 (tlt (by decide)).2.2.2 (pc' := 71) rfl ?_
    refine own_aload X B at_71 rfl rfl (pc' := 73) rfl ?_
    refine own_iconst X B at_73 (v := (0 : Int32)) rfl (pc' := 74) rfl ?_
    refine own_iload X B at_74 rfl (pc' := 76) rfl ?_
    refine own_iastore X B A_ps (i := 0) rfl (by decide) (Nat.le_trans Z0 z_ps) (Or.inr z_ps) at_76 (pc' := 77) rfl fun T h X K A_ps => ?_
    replace A_mv := A_mv.keep K (ninS n_mv_ps nin0)
    refine own_iload X B at_77 rfl (pc' := 79) rfl ?_
    refine own_iconst X B at_79 (v := (1 : Int32)) rfl (pc' := 80) rfl ?_
    refine own_icmpF X B at_80 (tlt (by decide)).2.2.2 (pc' := 83) rfl ?_
    refine own_aload X B at_83 rfl rfl (pc' := 85) rfl ?_
    refine own_iconst X B at_85 (v := (1 : Int32)) rfl (pc' := 86) rfl ?_
    refine own_iload X B at_86 rfl (pc' := 88) rfl ?_
    refine own_iastore X B A_ps (i := 1) rfl (by decide) (Nat.le_trans Z0 z_ps) (Or.inr z_ps) at_88 (pc' := 89) rfl fun T h X K A_ps => ?_
    replace A_mv := A_mv.keep K (ninS n_mv_ps nin0)
    refine own_iload X B at_89 rfl (pc' := 91) rfl ?_
    refine own_iconst X B at_91 (v := (2 : Int32)) rfl (pc' := 92) rfl ?_
    refine own_icmpF X B at_92 (tlt (by decide)).2.2.2 (pc' := 95) rfl ?_
    refine own_aload X B at_95 rfl rfl (pc' := 97) rfl ?_
    refine own_iconst X B at_97 (v := (2 : Int32)) rfl (pc' := 98) rfl ?_
    refine own_iload X B at_98 rfl (pc' := 100) rfl ?_
    refine own_iastore X B A_ps (i := 2) rfl (by decide) (Nat.le_trans Z0 z_ps) (Or.inr z_ps) at_100 (pc' := 101) rfl fun T h X K A_ps => ?_
    replace A_mv := A_mv.keep K (ninS n_mv_ps nin0)
    refine own_iload X B at_101 rfl (pc' := 103) rfl ?_
    refine own_iconst X B at_103 (v := (3 : Int32)) rfl (pc' := 104) rfl ?_
    refine own_icmpT X B at_104 (flt (by decide)).2.2.2 (pc' := 113) (by decide) (by decide) ?_
    replace A_ps := A_ps.congr (g := (fun i => Int32.ofNat (own_q q0 q1 q2 q3 i))) (fun i hi => by
      match i, hi with
      | 0, _ => rfl
      | 1, _ => rfl
      | 2, _ => rfl)
    have J173 : ∀ (T : State) (h : Heap) (ng : Int32), own_St p l e room_1 s m #[.int x, .int x0, .int x1, .int x2, .int x3] below meth c n0 h0 [] T h 2 8 → own_AI Z h mv 4 (own_v4 x0 x1 x2 x3) → own_AI Z h ps 3 (fun i => Int32.ofNat (own_q q0 q1 q2 q3 i)) → ((ng = 1 ∧  ∃ i, i < 3 ∧ own_v4 x0 x1 x2 x3 (own_q q0 q1 q2 q3 i) < 0) ∨ (ng = 0 ∧ ∀ i, i < 3 → ¬ own_v4 x0 x1 x2 x3 (own_q q0 q1 q2 q3 i) < 0)) → own_G p e below s n0 h0 [] (fun v h => v = some (.int 1)) 16 128 T (mkF m 173 #[.val (.int x), .val (.int x0), .val (.int x1), .val (.int x2), .val (.int x3), .val (.ref mv), .val (.int (Int32.ofNat 3)), .val (.int (Int32.ofNat q0)), .val (.int (Int32.ofNat q1)), .val (.int (Int32.ofNat q2)), .val (.int (Int32.ofNat q3)), .val (.ref ps), .unset, .unset, .unset] [.int ng]) := by
      intro T h ng X A_mv A_ps hng
      refine own_istore X B at_173 (L' := #[.val (.int x), .val (.int x0), .val (.int x1), .val (.int x2), .val (.int x3), .val (.ref mv), .val (.int (Int32.ofNat 3)), .val (.int (Int32.ofNat q0)), .val (.int (Int32.ofNat q1)), .val (.int (Int32.ofNat q2)), .val (.int (Int32.ofNat q3)), .val (.ref ps), .val (.int ng), .unset, .unset]) rfl (pc' := 175) rfl ?_
      refine own_aload X B at_175 rfl rfl (pc' := 177) rfl ?_
      refine own_aload X B at_177 rfl rfl (pc' := 179) rfl ?_
      refine own_callS X B (W := 0) (hw _ (List.mem_of_getElem? (i := 1) rfl)) (hw _ (List.mem_of_getElem? (i := 2) rfl)) (hw _ (List.mem_of_getElem? (i := 3) rfl)) (hw _ (List.mem_of_getElem? (i := 4) rfl)) (by decide) (rm1 l Z a0 hw ps mv 3 (own_q q0 q1 q2 q3) (own_v4 x0 x1 x2 x3) h n0 (own_sz X Z0) A_ps A_mv (by decide) (fun i hi => own_q_lt hq0 hq1 hq2 hq3 i)) (by decide) (by decide) (by decide) (by decide) rfl (argsL := [.ref ps, .ref mv]) pd_1 rfl rfl (st := []) rfl (Nat.le_refl _) at_179 (pc' := 182) rfl all0 ?_
      rintro v T h X K hq
      replace A_mv := A_mv.keep K nin0
      replace A_ps := A_ps.keep K nin0
      rcases hq with ⟨rfl, hq⟩ | ⟨r, rfl, g_r, A_r, hq⟩
      ·
        show own_H _ _ _ _ _ _ _ _ T (mkF m 182 #[.val (.int x), .val (.int x0), .val (.int x1), .val (.int x2), .val (.int x3), .val (.ref mv), .val (.int (Int32.ofNat 3)), .val (.int (Int32.ofNat q0)), .val (.int (Int32.ofNat q1)), .val (.int (Int32.ofNat q2)), .val (.int (Int32.ofNat q3)), .val (.ref ps), .val (.int ng), .unset, .unset] [.null])
        have hng1 : ng = 1 := by
          rcases hng with ⟨q, z⟩ | ⟨q, z⟩
          · exact q
          · obtain ⟨i, hi, hx⟩ := hq
            exact absurd hx (z i hi)
        subst hng1
        refine own_astore X B at_182 rfl (L' := #[.val (.int x), .val (.int x0), .val (.int x1), .val (.int x2), .val (.int x3), .val (.ref mv), .val (.int (Int32.ofNat 3)), .val (.int (Int32.ofNat q0)), .val (.int (Int32.ofNat q1)), .val (.int (Int32.ofNat q2)), .val (.int (Int32.ofNat q3)), .val (.ref ps), .val (.int (1 : Int32)), .val .null, .unset]) rfl (pc' := 184) rfl ?_
        refine own_aload X B at_184 rfl rfl (pc' := 186) rfl ?_
        refine own_iconst X B at_186 (v := (0 : Int32)) rfl (pc' := 187) rfl ?_
        refine own_iaload X B A_mv (i := 0) rfl (by decide) at_187 (pc' := 188) rfl ?_
        show own_H _ _ _ _ _ _ _ _ T (mkF m 188 #[.val (.int x), .val (.int x0), .val (.int x1), .val (.int x2), .val (.int x3), .val (.ref mv), .val (.int (Int32.ofNat 3)), .val (.int (Int32.ofNat q0)), .val (.int (Int32.ofNat q1)), .val (.int (Int32.ofNat q2)), .val (.int (Int32.ofNat q3)), .val (.ref ps), .val (.int (1 : Int32)), .val .null, .unset] [.int x0])
        refine own_iloadN X B at_188 rfl (pc' := 189) rfl ?_
        refine own_icmpF X B at_189 (teq rfl).2 (pc' := 192) rfl ?_
        refine own_aload X B at_192 rfl rfl (pc' := 194) rfl ?_
        refine own_iconst X B at_194 (v := (1 : Int32)) rfl (pc' := 195) rfl ?_
        refine own_iaload X B A_mv (i := 1) rfl (by decide) at_195 (pc' := 196) rfl ?_
        show own_H _ _ _ _ _ _ _ _ T (mkF m 196 #[.val (.int x), .val (.int x0), .val (.int x1), .val (.int x2), .val (.int x3), .val (.ref mv), .val (.int (Int32.ofNat 3)), .val (.int (Int32.ofNat q0)), .val (.int (Int32.ofNat q1)), .val (.int (Int32.ofNat q2)), .val (.int (Int32.ofNat q3)), .val (.ref ps), .val (.int (1 : Int32)), .val .null, .unset] [.int x1])
        refine own_iloadN X B at_196 rfl (pc' := 197) rfl ?_
        refine own_icmpF X B at_197 (teq rfl).2 (pc' := 200) rfl ?_
        refine own_aload X B at_200 rfl rfl (pc' := 202) rfl ?_
        refine own_iconst X B at_202 (v := (2 : Int32)) rfl (pc' := 203) rfl ?_
        refine own_iaload X B A_mv (i := 2) rfl (by decide) at_203 (pc' := 204) rfl ?_
        show own_H _ _ _ _ _ _ _ _ T (mkF m 204 #[.val (.int x), .val (.int x0), .val (.int x1), .val (.int x2), .val (.int x3), .val (.ref mv), .val (.int (Int32.ofNat 3)), .val (.int (Int32.ofNat q0)), .val (.int (Int32.ofNat q1)), .val (.int (Int32.ofNat q2)), .val (.int (Int32.ofNat q3)), .val (.ref ps), .val (.int (1 : Int32)), .val .null, .unset] [.int x2])
        refine own_iloadN X B at_204 rfl (pc' := 205) rfl ?_
        refine own_icmpF X B at_205 (teq rfl).2 (pc' := 208) rfl ?_
        refine own_aload X B at_208 rfl rfl (pc' := 210) rfl ?_
        refine own_iconst X B at_210 (v := (3 : Int32)) rfl (pc' := 211) rfl ?_
        refine own_iaload X B A_mv (i := 3) rfl (by decide) at_211 (pc' := 212) rfl ?_
        show own_H _ _ _ _ _ _ _ _ T (mkF m 212 #[.val (.int x), .val (.int x0), .val (.int x1), .val (.int x2), .val (.int x3), .val (.ref mv), .val (.int (Int32.ofNat 3)), .val (.int (Int32.ofNat q0)), .val (.int (Int32.ofNat q1)), .val (.int (Int32.ofNat q2)), .val (.int (Int32.ofNat q3)), .val (.ref ps), .val (.int (1 : Int32)), .val .null, .unset] [.int x3])
        refine own_iload X B at_212 rfl (pc' := 214) rfl ?_
        refine own_icmpF X B at_214 (teq rfl).2 (pc' := 217) rfl ?_
        refine own_aload X B at_217 rfl rfl (pc' := 219) rfl ?_
        refine own_lenI X B A_ps at_219 (pc' := 220) rfl ?_
        refine own_iload X B at_220 rfl (pc' := 222) rfl ?_
        refine own_icmpF X B at_222 (teq rfl).2 (pc' := 225) rfl ?_
        refine own_iload X B at_225 rfl (pc' := 227) rfl ?_
        refine own_ifF X B at_227 (tlt (by decide)).2.2.2 (pc' := 230) rfl ?_
        refine own_aload X B at_230 rfl rfl (pc' := 232) rfl ?_
        refine own_iconst X B at_232 (v := (0 : Int32)) rfl (pc' := 233) rfl ?_
        refine own_iaload X B A_ps (i := 0) rfl (by decide) at_233 (pc' := 234) rfl ?_
        show own_H _ _ _ _ _ _ _ _ T (mkF m 234 #[.val (.int x), .val (.int x0), .val (.int x1), .val (.int x2), .val (.int x3), .val (.ref mv), .val (.int (Int32.ofNat 3)), .val (.int (Int32.ofNat q0)), .val (.int (Int32.ofNat q1)), .val (.int (Int32.ofNat q2)), .val (.int (Int32.ofNat q3)), .val (.ref ps), .val (.int (1 : Int32)), .val .null, .unset] [.int (Int32.ofNat q0)])
        refine own_iload X B at_234 rfl (pc' := 236) rfl ?_
        refine own_icmpF X B at_236 (teq rfl).2 (pc' := 239) rfl ?_
        refine own_iload X B at_239 rfl (pc' := 241) rfl ?_
        refine own_iconst X B at_241 (v := (1 : Int32)) rfl (pc' := 242) rfl ?_
        refine own_icmpF X B at_242 (tlt (by decide)).2.2.2 (pc' := 245) rfl ?_
        refine own_aload X B at_245 rfl rfl (pc' := 247) rfl ?_
        refine own_iconst X B at_247 (v := (1 : Int32)) rfl (pc' := 248) rfl ?_
        refine own_iaload X B A_ps (i := 1) rfl (by decide) at_248 (pc' := 249) rfl ?_
        show own_H _ _ _ _ _ _ _ _ T (mkF m 249 #[.val (.int x), .val (.int x0), .val (.int x1), .val (.int x2), .val (.int x3), .val (.ref mv), .val (.int (Int32.ofNat 3)), .val (.int (Int32.ofNat q0)), .val (.int (Int32.ofNat q1)), .val (.int (Int32.ofNat q2)), .val (.int (Int32.ofNat q3)), .val (.ref ps), .val (.int (1 : Int32)), .val .null, .unset] [.int (Int32.ofNat q1)])
        refine own_iload X B at_249 rfl (pc' := 251) rfl ?_
        refine own_icmpF X B at_251 (teq rfl).2 (pc' := 254) rfl ?_
        refine own_iload X B at_254 rfl (pc' := 256) rfl ?_
        refine own_iconst X B at_256 (v := (2 : Int32)) rfl (pc' := 257) rfl ?_
        refine own_icmpF X B at_257 (tlt (by decide)).2.2.2 (pc' := 260) rfl ?_
        refine own_aload X B at_260 rfl rfl (pc' := 262) rfl ?_
        refine own_iconst X B at_262 (v := (2 : Int32)) rfl (pc' := 263) rfl ?_
        refine own_iaload X B A_ps (i := 2) rfl (by decide) at_263 (pc' := 264) rfl ?_
        show own_H _ _ _ _ _ _ _ _ T (mkF m 264 #[.val (.int x), .val (.int x0), .val (.int x1), .val (.int x2), .val (.int x3), .val (.ref mv), .val (.int (Int32.ofNat 3)), .val (.int (Int32.ofNat q0)), .val (.int (Int32.ofNat q1)), .val (.int (Int32.ofNat q2)), .val (.int (Int32.ofNat q3)), .val (.ref ps), .val (.int (1 : Int32)), .val .null, .unset] [.int (Int32.ofNat q2)])
        refine own_iload X B at_264 rfl (pc' := 266) rfl ?_
        refine own_icmpF X B at_266 (teq rfl).2 (pc' := 269) rfl ?_
        refine own_iload X B at_269 rfl (pc' := 271) rfl ?_
        refine own_iconst X B at_271 (v := (3 : Int32)) rfl (pc' := 272) rfl ?_
        refine own_icmpT X B at_272 (flt (by decide)).2.2.2 (pc' := 284) (by decide) (by decide) ?_
        refine own_iconst X B at_284 (v := (1 : Int32)) rfl (pc' := 285) rfl ?_
        refine own_goto X B at_285 (pc' := 289) (by decide) (by decide) ?_
        refine own_istore X B at_289 (L' := #[.val (.int x), .val (.int x0), .val (.int x1), .val (.int x2), .val (.int x3), .val (.ref mv), .val (.int (Int32.ofNat 3)), .val (.int (Int32.ofNat q0)), .val (.int (Int32.ofNat q1)), .val (.int (Int32.ofNat q2)), .val (.int (Int32.ofNat q3)), .val (.ref ps), .val (.int (1 : Int32)), .val .null, .val (.int (1 : Int32))]) rfl (pc' := 291) rfl ?_
        refine own_iload X B at_291 rfl (pc' := 293) rfl ?_
        refine own_ifT X B at_293 (feq (by decide : ¬ (1 : Int32) = 0)).2 (pc' := 298) (by decide) (by decide) ?_
        refine own_iload X B at_298 rfl (pc' := 300) rfl ?_
        refine own_ifF X B at_300 (feq (by decide : ¬ (1 : Int32) = 0)).1 (pc' := 303) rfl ?_
        refine own_aload X B at_303 rfl rfl (pc' := 305) rfl ?_
        refine own_ifnonnullF X B at_305 (pc' := 308) rfl ?_
        refine own_iconst X B at_308 (v := (1 : Int32)) rfl (pc' := 309) rfl ?_
        refine own_goto X B at_309 (pc' := 313) (by decide) (by decide) ?_
        exact own_zret X B at_313 (by decide) (by decide) rfl rfl
      ·
        show own_H _ _ _ _ _ _ _ _ T (mkF m 182 #[.val (.int x), .val (.int x0), .val (.int x1), .val (.int x2), .val (.int x3), .val (.ref mv), .val (.int (Int32.ofNat 3)), .val (.int (Int32.ofNat q0)), .val (.int (Int32.ofNat q1)), .val (.int (Int32.ofNat q2)), .val (.int (Int32.ofNat q3)), .val (.ref ps), .val (.int ng), .unset, .unset] [.ref r])
        have hng1 : ng = 0 := by
          rcases hng with ⟨q, z⟩ | ⟨q, z⟩
          · obtain ⟨i, hi, hx⟩ := z
            exact absurd hx (hq i hi)
          · exact q
        subst hng1
        refine own_astore X B at_182 rfl (L' := #[.val (.int x), .val (.int x0), .val (.int x1), .val (.int x2), .val (.int x3), .val (.ref mv), .val (.int (Int32.ofNat 3)), .val (.int (Int32.ofNat q0)), .val (.int (Int32.ofNat q1)), .val (.int (Int32.ofNat q2)), .val (.int (Int32.ofNat q3)), .val (.ref ps), .val (.int (0 : Int32)), .val (.ref r), .unset]) rfl (pc' := 184) rfl ?_
        refine own_aload X B at_184 rfl rfl (pc' := 186) rfl ?_
        refine own_iconst X B at_186 (v := (0 : Int32)) rfl (pc' := 187) rfl ?_
        refine own_iaload X B A_mv (i := 0) rfl (by decide) at_187 (pc' := 188) rfl ?_
        show own_H _ _ _ _ _ _ _ _ T (mkF m 188 #[.val (.int x), .val (.int x0), .val (.int x1), .val (.int x2), .val (.int x3), .val (.ref mv), .val (.int (Int32.ofNat 3)), .val (.int (Int32.ofNat q0)), .val (.int (Int32.ofNat q1)), .val (.int (Int32.ofNat q2)), .val (.int (Int32.ofNat q3)), .val (.ref ps), .val (.int (0 : Int32)), .val (.ref r), .unset] [.int x0])
        refine own_iloadN X B at_188 rfl (pc' := 189) rfl ?_
        refine own_icmpF X B at_189 (teq rfl).2 (pc' := 192) rfl ?_
        refine own_aload X B at_192 rfl rfl (pc' := 194) rfl ?_
        refine own_iconst X B at_194 (v := (1 : Int32)) rfl (pc' := 195) rfl ?_
        refine own_iaload X B A_mv (i := 1) rfl (by decide) at_195 (pc' := 196) rfl ?_
        show own_H _ _ _ _ _ _ _ _ T (mkF m 196 #[.val (.int x), .val (.int x0), .val (.int x1), .val (.int x2), .val (.int x3), .val (.ref mv), .val (.int (Int32.ofNat 3)), .val (.int (Int32.ofNat q0)), .val (.int (Int32.ofNat q1)), .val (.int (Int32.ofNat q2)), .val (.int (Int32.ofNat q3)), .val (.ref ps), .val (.int (0 : Int32)), .val (.ref r), .unset] [.int x1])
        refine own_iloadN X B at_196 rfl (pc' := 197) rfl ?_
        refine own_icmpF X B at_197 (teq rfl).2 (pc' := 200) rfl ?_
        refine own_aload X B at_200 rfl rfl (pc' := 202) rfl ?_
        refine own_iconst X B at_202 (v := (2 : Int32)) rfl (pc' := 203) rfl ?_
        refine own_iaload X B A_mv (i := 2) rfl (by decide) at_203 (pc' := 204) rfl ?_
        show own_H _ _ _ _ _ _ _ _ T (mkF m 204 #[.val (.int x), .val (.int x0), .val (.int x1), .val (.int x2), .val (.int x3), .val (.ref mv), .val (.int (Int32.ofNat 3)), .val (.int (Int32.ofNat q0)), .val (.int (Int32.ofNat q1)), .val (.int (Int32.ofNat q2)), .val (.int (Int32.ofNat q3)), .val (.ref ps), .val (.int (0 : Int32)), .val (.ref r), .unset] [.int x2])
        refine own_iloadN X B at_204 rfl (pc' := 205) rfl ?_
        refine own_icmpF X B at_205 (teq rfl).2 (pc' := 208) rfl ?_
        refine own_aload X B at_208 rfl rfl (pc' := 210) rfl ?_
        refine own_iconst X B at_210 (v := (3 : Int32)) rfl (pc' := 211) rfl ?_
        refine own_iaload X B A_mv (i := 3) rfl (by decide) at_211 (pc' := 212) rfl ?_
        show own_H _ _ _ _ _ _ _ _ T (mkF m 212 #[.val (.int x), .val (.int x0), .val (.int x1), .val (.int x2), .val (.int x3), .val (.ref mv), .val (.int (Int32.ofNat 3)), .val (.int (Int32.ofNat q0)), .val (.int (Int32.ofNat q1)), .val (.int (Int32.ofNat q2)), .val (.int (Int32.ofNat q3)), .val (.ref ps), .val (.int (0 : Int32)), .val (.ref r), .unset] [.int x3])
        refine own_iload X B at_212 rfl (pc' := 214) rfl ?_
        refine own_icmpF X B at_214 (teq rfl).2 (pc' := 217) rfl ?_
        refine own_aload X B at_217 rfl rfl (pc' := 219) rfl ?_
        refine own_lenI X B A_ps at_219 (pc' := 220) rfl ?_
        refine own_iload X B at_220 rfl (pc' := 222) rfl ?_
        refine own_icmpF X B at_222 (teq rfl).2 (pc' := 225) rfl ?_
        refine own_iload X B at_225 rfl (pc' := 227) rfl ?_
        refine own_ifF X B at_227 (tlt (by decide)).2.2.2 (pc' := 230) rfl ?_
        refine own_aload X B at_230 rfl rfl (pc' := 232) rfl ?_
        refine own_iconst X B at_232 (v := (0 : Int32)) rfl (pc' := 233) rfl ?_
        refine own_iaload X B A_ps (i := 0) rfl (by decide) at_233 (pc' := 234) rfl ?_
        show own_H _ _ _ _ _ _ _ _ T (mkF m 234 #[.val (.int x), .val (.int x0), .val (.int x1), .val (.int x2), .val (.int x3), .val (.ref mv), .val (.int (Int32.ofNat 3)), .val (.int (Int32.ofNat q0)), .val (.int (Int32.ofNat q1)), .val (.int (Int32.ofNat q2)), .val (.int (Int32.ofNat q3)), .val (.ref ps), .val (.int (0 : Int32)), .val (.ref r), .unset] [.int (Int32.ofNat q0)])
        refine own_iload X B at_234 rfl (pc' := 236) rfl ?_
        refine own_icmpF X B at_236 (teq rfl).2 (pc' := 239) rfl ?_
        refine own_iload X B at_239 rfl (pc' := 241) rfl ?_
        refine own_iconst X B at_241 (v := (1 : Int32)) rfl (pc' := 242) rfl ?_
        refine own_icmpF X B at_242 (tlt (by decide)).2.2.2 (pc' := 245) rfl ?_
        refine own_aload X B at_245 rfl rfl (pc' := 247) rfl ?_
        refine own_iconst X B at_247 (v := (1 : Int32)) rfl (pc' := 248) rfl ?_
        refine own_iaload X B A_ps (i := 1) rfl (by decide) at_248 (pc' := 249) rfl ?_
        show own_H _ _ _ _ _ _ _ _ T (mkF m 249 #[.val (.int x), .val (.int x0), .val (.int x1), .val (.int x2), .val (.int x3), .val (.ref mv), .val (.int (Int32.ofNat 3)), .val (.int (Int32.ofNat q0)), .val (.int (Int32.ofNat q1)), .val (.int (Int32.ofNat q2)), .val (.int (Int32.ofNat q3)), .val (.ref ps), .val (.int (0 : Int32)), .val (.ref r), .unset] [.int (Int32.ofNat q1)])
        refine own_iload X B at_249 rfl (pc' := 251) rfl ?_
        refine own_icmpF X B at_251 (teq rfl).2 (pc' := 254) rfl ?_
        refine own_iload X B at_254 rfl (pc' := 256) rfl ?_
        refine own_iconst X B at_256 (v := (2 : Int32)) rfl (pc' := 257) rfl ?_
        refine own_icmpF X B at_257 (tlt (by decide)).2.2.2 (pc' := 260) rfl ?_
        refine own_aload X B at_260 rfl rfl (pc' := 262) rfl ?_
        refine own_iconst X B at_262 (v := (2 : Int32)) rfl (pc' := 263) rfl ?_
        refine own_iaload X B A_ps (i := 2) rfl (by decide) at_263 (pc' := 264) rfl ?_
        show own_H _ _ _ _ _ _ _ _ T (mkF m 264 #[.val (.int x), .val (.int x0), .val (.int x1), .val (.int x2), .val (.int x3), .val (.ref mv), .val (.int (Int32.ofNat 3)), .val (.int (Int32.ofNat q0)), .val (.int (Int32.ofNat q1)), .val (.int (Int32.ofNat q2)), .val (.int (Int32.ofNat q3)), .val (.ref ps), .val (.int (0 : Int32)), .val (.ref r), .unset] [.int (Int32.ofNat q2)])
        refine own_iload X B at_264 rfl (pc' := 266) rfl ?_
        refine own_icmpF X B at_266 (teq rfl).2 (pc' := 269) rfl ?_
        refine own_iload X B at_269 rfl (pc' := 271) rfl ?_
        refine own_iconst X B at_271 (v := (3 : Int32)) rfl (pc' := 272) rfl ?_
        refine own_icmpT X B at_272 (flt (by decide)).2.2.2 (pc' := 284) (by decide) (by decide) ?_
        refine own_iconst X B at_284 (v := (1 : Int32)) rfl (pc' := 285) rfl ?_
        refine own_goto X B at_285 (pc' := 289) (by decide) (by decide) ?_
        refine own_istore X B at_289 (L' := #[.val (.int x), .val (.int x0), .val (.int x1), .val (.int x2), .val (.int x3), .val (.ref mv), .val (.int (Int32.ofNat 3)), .val (.int (Int32.ofNat q0)), .val (.int (Int32.ofNat q1)), .val (.int (Int32.ofNat q2)), .val (.int (Int32.ofNat q3)), .val (.ref ps), .val (.int (0 : Int32)), .val (.ref r), .val (.int (1 : Int32))]) rfl (pc' := 291) rfl ?_
        refine own_iload X B at_291 rfl (pc' := 293) rfl ?_
        refine own_ifT X B at_293 (feq (by decide : ¬ (1 : Int32) = 0)).2 (pc' := 298) (by decide) (by decide) ?_
        refine own_iload X B at_298 rfl (pc' := 300) rfl ?_
        refine own_ifT X B at_300 (teq rfl).1 (pc' := 314) (by decide) (by decide) ?_
        refine own_aload X B at_314 rfl rfl (pc' := 316) rfl ?_
        refine own_ifnullF X B at_316 (pc' := 319) rfl ?_
        refine own_aload X B at_319 rfl rfl (pc' := 321) rfl ?_
        refine own_lenI X B A_r at_321 (pc' := 322) rfl ?_
        refine own_iload X B at_322 rfl (pc' := 324) rfl ?_
        refine own_icmpT X B at_324 (teq rfl).1 (pc' := 329) (by decide) (by decide) ?_
        refine own_iload X B at_329 rfl (pc' := 331) rfl ?_
        refine own_ifF X B at_331 (tlt (by decide)).2.2.2 (pc' := 334) rfl ?_
        refine own_aload X B at_334 rfl rfl (pc' := 336) rfl ?_
        refine own_iconst X B at_336 (v := (0 : Int32)) rfl (pc' := 337) rfl ?_
        refine own_iaload X B A_r (i := 0) rfl (by decide) at_337 (pc' := 338) rfl ?_
        show own_H _ _ _ _ _ _ _ _ T (mkF m 338 #[.val (.int x), .val (.int x0), .val (.int x1), .val (.int x2), .val (.int x3), .val (.ref mv), .val (.int (Int32.ofNat 3)), .val (.int (Int32.ofNat q0)), .val (.int (Int32.ofNat q1)), .val (.int (Int32.ofNat q2)), .val (.int (Int32.ofNat q3)), .val (.ref ps), .val (.int (0 : Int32)), .val (.ref r), .val (.int (1 : Int32))] [.int (own_v4 x0 x1 x2 x3 q0)])
        refine own_iload X B at_338 rfl (pc' := 340) rfl ?_
        refine own_iloadN X B at_340 rfl (pc' := 341) rfl ?_
        refine own_iloadN X B at_341 rfl (pc' := 342) rfl ?_
        refine own_iloadN X B at_342 rfl (pc' := 343) rfl ?_
        refine own_iload X B at_343 rfl (pc' := 345) rfl ?_
        refine own_callS X B (W := 1) (hw _ (List.mem_of_getElem? (i := 5) rfl)) (hw _ (List.mem_of_getElem? (i := 6) rfl)) (hw _ (List.mem_of_getElem? (i := 7) rfl)) (hw _ (List.mem_of_getElem? (i := 8) rfl)) (by decide) (rm2 l Z a0 hw q0 x0 x1 x2 x3 h n0 (own_sz X Z0) hq0) (by decide) (by decide) (by decide) (by decide) rfl (argsL := [.int (Int32.ofNat q0), .int x0, .int x1, .int x2, .int x3]) pd_2 rfl rfl (st := [.int (own_v4 x0 x1 x2 x3 q0)]) rfl (Nat.le_refl _) at_345 (pc' := 348) rfl all0 ?_
        rintro v T h X K rfl
        replace A_mv := A_mv.keep K nin0
        replace A_ps := A_ps.keep K nin0
        replace A_r := A_r.keep K nin0
        show own_H _ _ _ _ _ _ _ _ T (mkF m 348 #[.val (.int x), .val (.int x0), .val (.int x1), .val (.int x2), .val (.int x3), .val (.ref mv), .val (.int (Int32.ofNat 3)), .val (.int (Int32.ofNat q0)), .val (.int (Int32.ofNat q1)), .val (.int (Int32.ofNat q2)), .val (.int (Int32.ofNat q3)), .val (.ref ps), .val (.int (0 : Int32)), .val (.ref r), .val (.int (1 : Int32))] [.int (own_v4 x0 x1 x2 x3 q0), .int (own_v4 x0 x1 x2 x3 q0)])
        refine own_icmpF X B at_348 (teq rfl).2 (pc' := 351) rfl ?_
        refine own_iload X B at_351 rfl (pc' := 353) rfl ?_
        refine own_iconst X B at_353 (v := (1 : Int32)) rfl (pc' := 354) rfl ?_
        refine own_icmpF X B at_354 (tlt (by decide)).2.2.2 (pc' := 357) rfl ?_
        refine own_aload X B at_357 rfl rfl (pc' := 359) rfl ?_
        refine own_iconst X B at_359 (v := (1 : Int32)) rfl (pc' := 360) rfl ?_
        refine own_iaload X B A_r (i := 1) rfl (by decide) at_360 (pc' := 361) rfl ?_
        show own_H _ _ _ _ _ _ _ _ T (mkF m 361 #[.val (.int x), .val (.int x0), .val (.int x1), .val (.int x2), .val (.int x3), .val (.ref mv), .val (.int (Int32.ofNat 3)), .val (.int (Int32.ofNat q0)), .val (.int (Int32.ofNat q1)), .val (.int (Int32.ofNat q2)), .val (.int (Int32.ofNat q3)), .val (.ref ps), .val (.int (0 : Int32)), .val (.ref r), .val (.int (1 : Int32))] [.int (own_v4 x0 x1 x2 x3 q1)])
        refine own_iload X B at_361 rfl (pc' := 363) rfl ?_
        refine own_iloadN X B at_363 rfl (pc' := 364) rfl ?_
        refine own_iloadN X B at_364 rfl (pc' := 365) rfl ?_
        refine own_iloadN X B at_365 rfl (pc' := 366) rfl ?_
        refine own_iload X B at_366 rfl (pc' := 368) rfl ?_
        refine own_callS X B (W := 1) (hw _ (List.mem_of_getElem? (i := 5) rfl)) (hw _ (List.mem_of_getElem? (i := 6) rfl)) (hw _ (List.mem_of_getElem? (i := 7) rfl)) (hw _ (List.mem_of_getElem? (i := 8) rfl)) (by decide) (rm2 l Z a0 hw q1 x0 x1 x2 x3 h n0 (own_sz X Z0) hq1) (by decide) (by decide) (by decide) (by decide) rfl (argsL := [.int (Int32.ofNat q1), .int x0, .int x1, .int x2, .int x3]) pd_2 rfl rfl (st := [.int (own_v4 x0 x1 x2 x3 q1)]) rfl (Nat.le_refl _) at_368 (pc' := 371) rfl all0 ?_
        rintro v T h X K rfl
        replace A_mv := A_mv.keep K nin0
        replace A_ps := A_ps.keep K nin0
        replace A_r := A_r.keep K nin0
        show own_H _ _ _ _ _ _ _ _ T (mkF m 371 #[.val (.int x), .val (.int x0), .val (.int x1), .val (.int x2), .val (.int x3), .val (.ref mv), .val (.int (Int32.ofNat 3)), .val (.int (Int32.ofNat q0)), .val (.int (Int32.ofNat q1)), .val (.int (Int32.ofNat q2)), .val (.int (Int32.ofNat q3)), .val (.ref ps), .val (.int (0 : Int32)), .val (.ref r), .val (.int (1 : Int32))] [.int (own_v4 x0 x1 x2 x3 q1), .int (own_v4 x0 x1 x2 x3 q1)])
        refine own_icmpF X B at_371 (teq rfl).2 (pc' := 374) rfl ?_
        refine own_iload X B at_374 rfl (pc' := 376) rfl ?_
        refine own_iconst X B at_376 (v := (2 : Int32)) rfl (pc' := 377) rfl ?_
        refine own_icmpF X B at_377 (tlt (by decide)).2.2.2 (pc' := 380) rfl ?_
        refine own_aload X B at_380 rfl rfl (pc' := 382) rfl ?_
        refine own_iconst X B at_382 (v := (2 : Int32)) rfl (pc' := 383) rfl ?_
        refine own_iaload X B A_r (i := 2) rfl (by decide) at_383 (pc' := 384) rfl ?_
        show own_H _ _ _ _ _ _ _ _ T (mkF m 384 #[.val (.int x), .val (.int x0), .val (.int x1), .val (.int x2), .val (.int x3), .val (.ref mv), .val (.int (Int32.ofNat 3)), .val (.int (Int32.ofNat q0)), .val (.int (Int32.ofNat q1)), .val (.int (Int32.ofNat q2)), .val (.int (Int32.ofNat q3)), .val (.ref ps), .val (.int (0 : Int32)), .val (.ref r), .val (.int (1 : Int32))] [.int (own_v4 x0 x1 x2 x3 q2)])
        refine own_iload X B at_384 rfl (pc' := 386) rfl ?_
        refine own_iloadN X B at_386 rfl (pc' := 387) rfl ?_
        refine own_iloadN X B at_387 rfl (pc' := 388) rfl ?_
        refine own_iloadN X B at_388 rfl (pc' := 389) rfl ?_
        refine own_iload X B at_389 rfl (pc' := 391) rfl ?_
        refine own_callS X B (W := 1) (hw _ (List.mem_of_getElem? (i := 5) rfl)) (hw _ (List.mem_of_getElem? (i := 6) rfl)) (hw _ (List.mem_of_getElem? (i := 7) rfl)) (hw _ (List.mem_of_getElem? (i := 8) rfl)) (by decide) (rm2 l Z a0 hw q2 x0 x1 x2 x3 h n0 (own_sz X Z0) hq2) (by decide) (by decide) (by decide) (by decide) rfl (argsL := [.int (Int32.ofNat q2), .int x0, .int x1, .int x2, .int x3]) pd_2 rfl rfl (st := [.int (own_v4 x0 x1 x2 x3 q2)]) rfl (Nat.le_refl _) at_391 (pc' := 394) rfl all0 ?_
        rintro v T h X K rfl
        replace A_mv := A_mv.keep K nin0
        replace A_ps := A_ps.keep K nin0
        replace A_r := A_r.keep K nin0
        show own_H _ _ _ _ _ _ _ _ T (mkF m 394 #[.val (.int x), .val (.int x0), .val (.int x1), .val (.int x2), .val (.int x3), .val (.ref mv), .val (.int (Int32.ofNat 3)), .val (.int (Int32.ofNat q0)), .val (.int (Int32.ofNat q1)), .val (.int (Int32.ofNat q2)), .val (.int (Int32.ofNat q3)), .val (.ref ps), .val (.int (0 : Int32)), .val (.ref r), .val (.int (1 : Int32))] [.int (own_v4 x0 x1 x2 x3 q2), .int (own_v4 x0 x1 x2 x3 q2)])
        refine own_icmpF X B at_394 (teq rfl).2 (pc' := 397) rfl ?_
        refine own_iload X B at_397 rfl (pc' := 399) rfl ?_
        refine own_iconst X B at_399 (v := (3 : Int32)) rfl (pc' := 400) rfl ?_
        refine own_icmpT X B at_400 (flt (by decide)).2.2.2 (pc' := 420) (by decide) (by decide) ?_
        refine own_iconst X B at_420 (v := (1 : Int32)) rfl (pc' := 421) rfl ?_
        refine own_goto X B at_421 (pc' := 425) (by decide) (by decide) ?_
        exact own_zret X B at_425 (by decide) (by decide) rfl rfl
    refine own_iload X B at_113 rfl (pc' := 115) rfl ?_
    refine own_ifF X B at_115 (tlt (by decide)).2.2.2 (pc' := 118) rfl ?_
    refine own_aload X B at_118 rfl rfl (pc' := 120) rfl ?_
    refine own_iload X B at_120 rfl (pc' := 122) rfl ?_
    refine own_iaload X B A_mv (i := q0) (own_nat (by omega)) hq0 at_122 (pc' := 123) rfl ?_
    show own_H _ _ _ _ _ _ _ _ T (mkF m 123 #[.val (.int x), .val (.int x0), .val (.int x1), .val (.int x2), .val (.int x3), .val (.ref mv), .val (.int (Int32.ofNat 3)), .val (.int (Int32.ofNat q0)), .val (.int (Int32.ofNat q1)), .val (.int (Int32.ofNat q2)), .val (.int (Int32.ofNat q3)), .val (.ref ps), .unset, .unset, .unset] [.int (own_v4 x0 x1 x2 x3 q0)])
    by_cases hc0 : (own_v4 x0 x1 x2 x3 q0) < (0 : Int32)
    · -- hc0
      refine own_ifT X B at_123 (tlt hc0).1 (pc' := 168) (by decide) (by decide) ?_
      refine own_iconst X B at_168 (v := (1 : Int32)) rfl (pc' := 169) rfl ?_
      refine own_goto X B at_169 (pc' := 173) (by decide) (by decide) ?_
      exact J173 _ _ _ X A_mv A_ps (Or.inl ⟨rfl, 0, by decide, hc0⟩)
    · -- not hc0
      refine own_ifF X B at_123 (flt hc0).1 (pc' := 126) rfl ?_
      refine own_iload X B at_126 rfl (pc' := 128) rfl ?_
      refine own_iconst X B at_128 (v := (1 : Int32)) rfl (pc' := 129) rfl ?_
      refine own_icmpF X B at_129 (tlt (by decide)).2.2.2 (pc' := 132) rfl ?_
      refine own_aload X B at_132 rfl rfl (pc' := 134) rfl ?_
      refine own_iload X B at_134 rfl (pc' := 136) rfl ?_
      refine own_iaload X B A_mv (i := q1) (own_nat (by omega)) hq1 at_136 (pc' := 137) rfl ?_
      show own_H _ _ _ _ _ _ _ _ T (mkF m 137 #[.val (.int x), .val (.int x0), .val (.int x1), .val (.int x2), .val (.int x3), .val (.ref mv), .val (.int (Int32.ofNat 3)), .val (.int (Int32.ofNat q0)), .val (.int (Int32.ofNat q1)), .val (.int (Int32.ofNat q2)), .val (.int (Int32.ofNat q3)), .val (.ref ps), .unset, .unset, .unset] [.int (own_v4 x0 x1 x2 x3 q1)])
      by_cases hc1 : (own_v4 x0 x1 x2 x3 q1) < (0 : Int32)
      · -- hc1
        refine own_ifT X B at_137 (tlt hc1).1 (pc' := 168) (by decide) (by decide) ?_
        refine own_iconst X B at_168 (v := (1 : Int32)) rfl (pc' := 169) rfl ?_
        refine own_goto X B at_169 (pc' := 173) (by decide) (by decide) ?_
        exact J173 _ _ _ X A_mv A_ps (Or.inl ⟨rfl, 1, by decide, hc1⟩)
      · -- not hc1
        refine own_ifF X B at_137 (flt hc1).1 (pc' := 140) rfl ?_
        refine own_iload X B at_140 rfl (pc' := 142) rfl ?_
        refine own_iconst X B at_142 (v := (2 : Int32)) rfl (pc' := 143) rfl ?_
        refine own_icmpF X B at_143 (tlt (by decide)).2.2.2 (pc' := 146) rfl ?_
        refine own_aload X B at_146 rfl rfl (pc' := 148) rfl ?_
        refine own_iload X B at_148 rfl (pc' := 150) rfl ?_
        refine own_iaload X B A_mv (i := q2) (own_nat (by omega)) hq2 at_150 (pc' := 151) rfl ?_
        show own_H _ _ _ _ _ _ _ _ T (mkF m 151 #[.val (.int x), .val (.int x0), .val (.int x1), .val (.int x2), .val (.int x3), .val (.ref mv), .val (.int (Int32.ofNat 3)), .val (.int (Int32.ofNat q0)), .val (.int (Int32.ofNat q1)), .val (.int (Int32.ofNat q2)), .val (.int (Int32.ofNat q3)), .val (.ref ps), .unset, .unset, .unset] [.int (own_v4 x0 x1 x2 x3 q2)])
        by_cases hc2 : (own_v4 x0 x1 x2 x3 q2) < (0 : Int32)
        · -- hc2
          refine own_ifT X B at_151 (tlt hc2).1 (pc' := 168) (by decide) (by decide) ?_
          refine own_iconst X B at_168 (v := (1 : Int32)) rfl (pc' := 169) rfl ?_
          refine own_goto X B at_169 (pc' := 173) (by decide) (by decide) ?_
          exact J173 _ _ _ X A_mv A_ps (Or.inl ⟨rfl, 2, by decide, hc2⟩)
        · -- not hc2
          refine own_ifF X B at_151 (flt hc2).1 (pc' := 154) rfl ?_
          refine own_iload X B at_154 rfl (pc' := 156) rfl ?_
          refine own_iconst X B at_156 (v := (3 : Int32)) rfl (pc' := 157) rfl ?_
          refine own_icmpT X B at_157 (flt (by decide)).2.2.2 (pc' := 172) (by decide) (by decide) ?_
          refine own_iconst X B at_172 (v := (0 : Int32)) rfl (pc' := 173) rfl ?_
          exact J173 _ _ _ X A_mv A_ps (Or.inr ⟨rfl, fun i hi => by
            match i, hi with
            | 0, _ => exact hc0
            | 1, _ => exact hc1
            | 2, _ => exact hc2⟩)
  · -- n = 4
    refine own_newI X B (hw _ (List.mem_of_getElem? (i := 0) rfl)) (n := 4) (cap := 4) rfl (by decide) (by decide) (by decide) (by decide) at_62 (pc' := 64) rfl fun T h ps g_ps X K A_ps z_ps => ?_
    have n_mv_ps : mv ≠ ps := own_ne A_mv.lt g_ps
    replace A_mv := A_mv.keep K nin0
    refine own_astore X B at_64 rfl (L' := #[.val (.int x), .val (.int x0), .val (.int x1), .val (.int x2), .val (.int x3), .val (.ref mv), .val (.int (Int32.ofNat 4)), .val (.int (Int32.ofNat q0)), .val (.int (Int32.ofNat q1)), .val (.int (Int32.ofNat q2)), .val (.int (Int32.ofNat q3)), .val (.ref ps), .unset, .unset, .unset]) rfl (pc' := 66) rfl ?_
    refine own_iload X B at_66 rfl (pc' := 68) rfl ?_
    refine own_ifF X B at_68 (tlt (by decide)).2.2.2 (pc' := 71) rfl ?_
    refine own_aload X B at_71 rfl rfl (pc' := 73) rfl ?_
    refine own_iconst X B at_73 (v := (0 : Int32)) rfl (pc' := 74) rfl ?_
    refine own_iload X B at_74 rfl (pc' := 76) rfl ?_
    refine own_iastore X B A_ps (i := 0) rfl (by decide) (Nat.le_trans Z0 z_ps) (Or.inr z_ps) at_76 (pc' := 77) rfl fun T h X K A_ps => ?_
    replace A_mv := A_mv.keep K (ninS n_mv_ps nin0)
    refine own_iload X B at_77 rfl (pc' := 79) rfl ?_
    refine own_iconst X B at_79 (v := (1 : Int32)) rfl (pc' := 80) rfl ?_
    refine own_icmpF X B at_80 (tlt (by decide)).2.2.2 (pc' := 83) rfl ?_
    refine own_aload X B at_83 rfl rfl (pc' := 85) rfl ?_
    refine own_iconst X B at_85 (v := (1 : Int32)) rfl (pc' := 86) rfl ?_
    refine own_iload X B at_86 rfl (pc' := 88) rfl ?_
    refine own_iastore X B A_ps (i := 1) rfl (by decide) (Nat.le_trans Z0 z_ps) (Or.inr z_ps) at_88 (pc' := 89) rfl fun T h X K A_ps => ?_
    replace A_mv := A_mv.keep K (ninS n_mv_ps nin0)
    refine own_iload X B at_89 rfl (pc' := 91) rfl ?_
    refine own_iconst X B at_91 (v := (2 : Int32)) rfl (pc' := 92) rfl ?_
    refine own_icmpF X B at_92 (tlt (by decide)).2.2.2 (pc' := 95) rfl ?_
    refine own_aload X B at_95 rfl rfl (pc' := 97) rfl ?_
    refine own_iconst X B at_97 (v := (2 : Int32)) rfl (pc' := 98) rfl ?_
    refine own_iload X B at_98 rfl (pc' := 100) rfl ?_
    refine own_iastore X B A_ps (i := 2) rfl (by decide) (Nat.le_trans Z0 z_ps) (Or.inr z_ps) at_100 (pc' := 101) rfl fun T h X K A_ps => ?_
    replace A_mv := A_mv.keep K (ninS n_mv_ps nin0)
    refine own_iload X B at_101 rfl (pc' := 103) rfl ?_
    refine own_iconst X B at_103 (v := (3 : Int32)) rfl (pc' := 104) rfl ?_
    refine own_icmpF X B at_104 (tlt (by decide)).2.2.2 (pc' := 107) rfl ?_
    refine own_aload X B at_107 rfl rfl (pc' := 109) rfl ?_
    refine own_iconst X B at_109 (v := (3 : Int32)) rfl (pc' := 110) rfl ?_
    refine own_iload X B at_110 rfl (pc' := 112) rfl ?_
    refine own_iastore X B A_ps (i := 3) rfl (by decide) (Nat.le_trans Z0 z_ps) (Or.inr z_ps) at_112 (pc' := 113) rfl fun T h X K A_ps => ?_
    replace A_mv := A_mv.keep K (ninS n_mv_ps nin0)
    replace A_ps := A_ps.congr (g := (fun i => Int32.ofNat (own_q q0 q1 q2 q3 i))) (fun i hi => by
      match i, hi with
      | 0, _ => rfl
      | 1, _ => rfl
      | 2, _ => rfl
      | 3, _ => rfl)
    have J173 : ∀ (T : State) (h : Heap) (ng : Int32), own_St p l e room_1 s m #[.int x, .int x0, .int x1, .int x2, .int x3] below meth c n0 h0 [] T h 2 8 → own_AI Z h mv 4 (own_v4 x0 x1 x2 x3) → own_AI Z h ps 4 (fun i => Int32.ofNat (own_q q0 q1 q2 q3 i)) → ((ng = 1 ∧  ∃ i, i < 4 ∧ own_v4 x0 x1 x2 x3 (own_q q0 q1 q2 q3 i) < 0) ∨ (ng = 0 ∧ ∀ i, i < 4 → ¬ own_v4 x0 x1 x2 x3 (own_q q0 q1 q2 q3 i) < 0)) → own_G p e below s n0 h0 [] (fun v h => v = some (.int 1)) 16 128 T (mkF m 173 #[.val (.int x), .val (.int x0), .val (.int x1), .val (.int x2), .val (.int x3), .val (.ref mv), .val (.int (Int32.ofNat 4)), .val (.int (Int32.ofNat q0)), .val (.int (Int32.ofNat q1)), .val (.int (Int32.ofNat q2)), .val (.int (Int32.ofNat q3)), .val (.ref ps), .unset, .unset, .unset] [.int ng]) := by
      intro T h ng X A_mv A_ps hng
      refine own_istore X B at_173 (L' := #[.val (.int x), .val (.int x0), .val (.int x1), .val (.int x2), .val (.int x3), .val (.ref mv), .val (.int (Int32.ofNat 4)), .val (.int (Int32.ofNat q0)), .val (.int (Int32.ofNat q1)), .val (.int (Int32.ofNat q2)), .val (.int (Int32.ofNat q3)), .val (.ref ps), .val (.int ng), .unset, .unset]) rfl (pc' := 175) rfl ?_
      refine own_aload X B at_175 rfl rfl (pc' := 177) rfl ?_
      refine own_aload X B at_177 rfl rfl (pc' := 179) rfl ?_
      refine own_callS X B (W := 0) (hw _ (List.mem_of_getElem? (i := 1) rfl)) (hw _ (List.mem_of_getElem? (i := 2) rfl)) (hw _ (List.mem_of_getElem? (i := 3) rfl)) (hw _ (List.mem_of_getElem? (i := 4) rfl)) (by decide) (rm1 l Z a0 hw ps mv 4 (own_q q0 q1 q2 q3) (own_v4 x0 x1 x2 x3) h n0 (own_sz X Z0) A_ps A_mv (by decide) (fun i hi => own_q_lt hq0 hq1 hq2 hq3 i)) (by decide) (by decide) (by decide) (by decide) rfl (argsL := [.ref ps, .ref mv]) pd_1 rfl rfl (st := []) rfl (Nat.le_refl _) at_179 (pc' := 182) rfl all0 ?_
      rintro v T h X K hq
      replace A_mv := A_mv.keep K nin0
      replace A_ps := A_ps.keep K nin0
      rcases hq with ⟨rfl, hq⟩ | ⟨r, rfl, g_r, A_r, hq⟩
      ·
        show own_H _ _ _ _ _ _ _ _ T (mkF m 182 #[.val (.int x), .val (.int x0), .val (.int x1), .val (.int x2), .val (.int x3), .val (.ref mv), .val (.int (Int32.ofNat 4)), .val (.int (Int32.ofNat q0)), .val (.int (Int32.ofNat q1)), .val (.int (Int32.ofNat q2)), .val (.int (Int32.ofNat q3)), .val (.ref ps), .val (.int ng), .unset, .unset] [.null])
        have hng1 : ng = 1 := by
          rcases hng with ⟨q, z⟩ | ⟨q, z⟩
          · exact q
          · obtain ⟨i, hi, hx⟩ := hq
            exact absurd hx (z i hi)
        subst hng1
        refine own_astore X B at_182 rfl (L' := #[.val (.int x), .val (.int x0), .val (.int x1), .val (.int x2), .val (.int x3), .val (.ref mv), .val (.int (Int32.ofNat 4)), .val (.int (Int32.ofNat q0)), .val (.int (Int32.ofNat q1)), .val (.int (Int32.ofNat q2)), .val (.int (Int32.ofNat q3)), .val (.ref ps), .val (.int (1 : Int32)), .val .null, .unset]) rfl (pc' := 184) rfl ?_
        refine own_aload X B at_184 rfl rfl (pc' := 186) rfl ?_
        refine own_iconst X B at_186 (v := (0 : Int32)) rfl (pc' := 187) rfl ?_
        refine own_iaload X B A_mv (i := 0) rfl (by decide) at_187 (pc' := 188) rfl ?_
        show own_H _ _ _ _ _ _ _ _ T (mkF m 188 #[.val (.int x), .val (.int x0), .val (.int x1), .val (.int x2), .val (.int x3), .val (.ref mv), .val (.int (Int32.ofNat 4)), .val (.int (Int32.ofNat q0)), .val (.int (Int32.ofNat q1)), .val (.int (Int32.ofNat q2)), .val (.int (Int32.ofNat q3)), .val (.ref ps), .val (.int (1 : Int32)), .val .null, .unset] [.int x0])
        refine own_iloadN X B at_188 rfl (pc' := 189) rfl ?_
        refine own_icmpF X B at_189 (teq rfl).2 (pc' := 192) rfl ?_
        refine own_aload X B at_192 rfl rfl (pc' := 194) rfl ?_
        refine own_iconst X B at_194 (v := (1 : Int32)) rfl (pc' := 195) rfl ?_
        refine own_iaload X B A_mv (i := 1) rfl (by decide) at_195 (pc' := 196) rfl ?_
        show own_H _ _ _ _ _ _ _ _ T (mkF m 196 #[.val (.int x), .val (.int x0), .val (.int x1), .val (.int x2), .val (.int x3), .val (.ref mv), .val (.int (Int32.ofNat 4)), .val (.int (Int32.ofNat q0)), .val (.int (Int32.ofNat q1)), .val (.int (Int32.ofNat q2)), .val (.int (Int32.ofNat q3)), .val (.ref ps), .val (.int (1 : Int32)), .val .null, .unset] [.int x1])
        refine own_iloadN X B at_196 rfl (pc' := 197) rfl ?_
        refine own_icmpF X B at_197 (teq rfl).2 (pc' := 200) rfl ?_
        refine own_aload X B at_200 rfl rfl (pc' := 202) rfl ?_
        refine own_iconst X B at_202 (v := (2 : Int32)) rfl (pc' := 203) rfl ?_
        refine own_iaload X B A_mv (i := 2) rfl (by decide) at_203 (pc' := 204) rfl ?_
        show own_H _ _ _ _ _ _ _ _ T (mkF m 204 #[.val (.int x), .val (.int x0), .val (.int x1), .val (.int x2), .val (.int x3), .val (.ref mv), .val (.int (Int32.ofNat 4)), .val (.int (Int32.ofNat q0)), .val (.int (Int32.ofNat q1)), .val (.int (Int32.ofNat q2)), .val (.int (Int32.ofNat q3)), .val (.ref ps), .val (.int (1 : Int32)), .val .null, .unset] [.int x2])
        refine own_iloadN X B at_204 rfl (pc' := 205) rfl ?_
        refine own_icmpF X B at_205 (teq rfl).2 (pc' := 208) rfl ?_
        refine own_aload X B at_208 rfl rfl (pc' := 210) rfl ?_
        refine own_iconst X B at_210 (v := (3 : Int32)) rfl (pc' := 211) rfl ?_
        refine own_iaload X B A_mv (i := 3) rfl (by decide) at_211 (pc' := 212) rfl ?_
        show own_H _ _ _ _ _ _ _ _ T (mkF m 212 #[.val (.int x), .val (.int x0), .val (.int x1), .val (.int x2), .val (.int x3), .val (.ref mv), .val (.int (Int32.ofNat 4)), .val (.int (Int32.ofNat q0)), .val (.int (Int32.ofNat q1)), .val (.int (Int32.ofNat q2)), .val (.int (Int32.ofNat q3)), .val (.ref ps), .val (.int (1 : Int32)), .val .null, .unset] [.int x3])
        refine own_iload X B at_212 rfl (pc' := 214) rfl ?_
        refine own_icmpF X B at_214 (teq rfl).2 (pc' := 217) rfl ?_
        refine own_aload X B at_217 rfl rfl (pc' := 219) rfl ?_
        refine own_lenI X B A_ps at_219 (pc' := 220) rfl ?_
        refine own_iload X B at_220 rfl (pc' := 222) rfl ?_
        refine own_icmpF X B at_222 (teq rfl).2 (pc' := 225) rfl ?_
        refine own_iload X B at_225 rfl (pc' := 227) rfl ?_
        refine own_ifF X B at_227 (tlt (by decide)).2.2.2 (pc' := 230) rfl ?_
        refine own_aload X B at_230 rfl rfl (pc' := 232) rfl ?_
        refine own_iconst X B at_232 (v := (0 : Int32)) rfl (pc' := 233) rfl ?_
        refine own_iaload X B A_ps (i := 0) rfl (by decide) at_233 (pc' := 234) rfl ?_
        show own_H _ _ _ _ _ _ _ _ T (mkF m 234 #[.val (.int x), .val (.int x0), .val (.int x1), .val (.int x2), .val (.int x3), .val (.ref mv), .val (.int (Int32.ofNat 4)), .val (.int (Int32.ofNat q0)), .val (.int (Int32.ofNat q1)), .val (.int (Int32.ofNat q2)), .val (.int (Int32.ofNat q3)), .val (.ref ps), .val (.int (1 : Int32)), .val .null, .unset] [.int (Int32.ofNat q0)])
        refine own_iload X B at_234 rfl (pc' := 236) rfl ?_
        refine own_icmpF X B at_236 (teq rfl).2 (pc' := 239) rfl ?_
        refine own_iload X B at_239 rfl (pc' := 241) rfl ?_
        refine own_iconst X B at_241 (v := (1 : Int32)) rfl (pc' := 242) rfl ?_
        refine own_icmpF X B at_242 (tlt (by decide)).2.2.2 (pc' := 245) rfl ?_
        refine own_aload X B at_245 rfl rfl (pc' := 247) rfl ?_
        refine own_iconst X B at_247 (v := (1 : Int32)) rfl (pc' := 248) rfl ?_
        refine own_iaload X B A_ps (i := 1) rfl (by decide) at_248 (pc' := 249) rfl ?_
        show own_H _ _ _ _ _ _ _ _ T (mkF m 249 #[.val (.int x), .val (.int x0), .val (.int x1), .val (.int x2), .val (.int x3), .val (.ref mv), .val (.int (Int32.ofNat 4)), .val (.int (Int32.ofNat q0)), .val (.int (Int32.ofNat q1)), .val (.int (Int32.ofNat q2)), .val (.int (Int32.ofNat q3)), .val (.ref ps), .val (.int (1 : Int32)), .val .null, .unset] [.int (Int32.ofNat q1)])
        refine own_iload X B at_249 rfl (pc' := 251) rfl ?_
        refine own_icmpF X B at_251 (teq rfl).2 (pc' := 254) rfl ?_
        refine own_iload X B at_254 rfl (pc' := 256) rfl ?_
        refine own_iconst X B at_256 (v := (2 : Int32)) rfl (pc' := 257) rfl ?_
        refine own_icmpF X B at_257 (tlt (by decide)).2.2.2 (pc' := 260) rfl ?_
        refine own_aload X B at_260 rfl rfl (pc' := 262) rfl ?_
        refine own_iconst X B at_262 (v := (2 : Int32)) rfl (pc' := 263) rfl ?_
        refine own_iaload X B A_ps (i := 2) rfl (by decide) at_263 (pc' := 264) rfl ?_
        show own_H _ _ _ _ _ _ _ _ T (mkF m 264 #[.val (.int x), .val (.int x0), .val (.int x1), .val (.int x2), .val (.int x3), .val (.ref mv), .val (.int (Int32.ofNat 4)), .val (.int (Int32.ofNat q0)), .val (.int (Int32.ofNat q1)), .val (.int (Int32.ofNat q2)), .val (.int (Int32.ofNat q3)), .val (.ref ps), .val (.int (1 : Int32)), .val .null, .unset] [.int (Int32.ofNat q2)])
        refine own_iload X B at_264 rfl (pc' := 266) rfl ?_
        refine own_icmpF X B at_266 (teq rfl).2 (pc' := 269) rfl ?_
        refine own_iload X B at_269 rfl (pc' := 271) rfl ?_
        refine own_iconst X B at_271 (v := (3 : Int32)) rfl (pc' := 272) rfl ?_
        refine own_icmpF X B at_272 (tlt (by decide)).2.2.2 (pc' := 275) rfl ?_
        refine own_aload X B at_275 rfl rfl (pc' := 277) rfl ?_
        refine own_iconst X B at_277 (v := (3 : Int32)) rfl (pc' := 278) rfl ?_
        refine own_iaload X B A_ps (i := 3) rfl (by decide) at_278 (pc' := 279) rfl ?_
        show own_H _ _ _ _ _ _ _ _ T (mkF m 279 #[.val (.int x), .val (.int x0), .val (.int x1), .val (.int x2), .val (.int x3), .val (.ref mv), .val (.int (Int32.ofNat 4)), .val (.int (Int32.ofNat q0)), .val (.int (Int32.ofNat q1)), .val (.int (Int32.ofNat q2)), .val (.int (Int32.ofNat q3)), .val (.ref ps), .val (.int (1 : Int32)), .val .null, .unset] [.int (Int32.ofNat q3)])
        refine own_iload X B at_279 rfl (pc' := 281) rfl ?_
        refine own_icmpF X B at_281 (teq rfl).2 (pc' := 284) rfl ?_
        refine own_iconst X B at_284 (v := (1 : Int32)) rfl (pc' := 285) rfl ?_
        refine own_goto X B at_285 (pc' := 289) (by decide) (by decide) ?_
        refine own_istore X B at_289 (L' := #[.val (.int x), .val (.int x0), .val (.int x1), .val (.int x2), .val (.int x3), .val (.ref mv), .val (.int (Int32.ofNat 4)), .val (.int (Int32.ofNat q0)), .val (.int (Int32.ofNat q1)), .val (.int (Int32.ofNat q2)), .val (.int (Int32.ofNat q3)), .val (.ref ps), .val (.int (1 : Int32)), .val .null, .val (.int (1 : Int32))]) rfl (pc' := 291) rfl ?_
        refine own_iload X B at_291 rfl (pc' := 293) rfl ?_
        refine own_ifT X B at_293 (feq (by decide : ¬ (1 : Int32) = 0)).2 (pc' := 298) (by decide) (by decide) ?_
        refine own_iload X B at_298 rfl (pc' := 300) rfl ?_
        refine own_ifF X B at_300 (feq (by decide : ¬ (1 : Int32) = 0)).1 (pc' := 303) rfl ?_
        refine own_aload X B at_303 rfl rfl (pc' := 305) rfl ?_
        refine own_ifnonnullF X B at_305 (pc' := 308) rfl ?_
        refine own_iconst X B at_308 (v := (1 : Int32)) rfl (pc' := 309) rfl ?_
        refine own_goto X B at_309 (pc' := 313) (by decide) (by decide) ?_
        exact own_zret X B at_313 (by decide) (by decide) rfl rfl
      ·
        show own_H _ _ _ _ _ _ _ _ T (mkF m 182 #[.val (.int x), .val (.int x0), .val (.int x1), .val (.int x2), .val (.int x3), .val (.ref mv), .val (.int (Int32.ofNat 4)), .val (.int (Int32.ofNat q0)), .val (.int (Int32.ofNat q1)), .val (.int (Int32.ofNat q2)), .val (.int (Int32.ofNat q3)), .val (.ref ps), .val (.int ng), .unset, .unset] [.ref r])
        have hng1 : ng = 0 := by
          rcases hng with ⟨q, z⟩ | ⟨q, z⟩
          · obtain ⟨i, hi, hx⟩ := z
            exact absurd hx (hq i hi)
          · exact q
        subst hng1
        refine own_astore X B at_182 rfl (L' := #[.val (.int x), .val (.int x0), .val (.int x1), .val (.int x2), .val (.int x3), .val (.ref mv), .val (.int (Int32.ofNat 4)), .val (.int (Int32.ofNat q0)), .val (.int (Int32.ofNat q1)), .val (.int (Int32.ofNat q2)), .val (.int (Int32.ofNat q3)), .val (.ref ps), .val (.int (0 : Int32)), .val (.ref r), .unset]) rfl (pc' := 184) rfl ?_
        refine own_aload X B at_184 rfl rfl (pc' := 186) rfl ?_
        refine own_iconst X B at_186 (v := (0 : Int32)) rfl (pc' := 187) rfl ?_
        refine own_iaload X B A_mv (i := 0) rfl (by decide) at_187 (pc' := 188) rfl ?_
        show own_H _ _ _ _ _ _ _ _ T (mkF m 188 #[.val (.int x), .val (.int x0), .val (.int x1), .val (.int x2), .val (.int x3), .val (.ref mv), .val (.int (Int32.ofNat 4)), .val (.int (Int32.ofNat q0)), .val (.int (Int32.ofNat q1)), .val (.int (Int32.ofNat q2)), .val (.int (Int32.ofNat q3)), .val (.ref ps), .val (.int (0 : Int32)), .val (.ref r), .unset] [.int x0])
        refine own_iloadN X B at_188 rfl (pc' := 189) rfl ?_
        refine own_icmpF X B at_189 (teq rfl).2 (pc' := 192) rfl ?_
        refine own_aload X B at_192 rfl rfl (pc' := 194) rfl ?_
        refine own_iconst X B at_194 (v := (1 : Int32)) rfl (pc' := 195) rfl ?_
        refine own_iaload X B A_mv (i := 1) rfl (by decide) at_195 (pc' := 196) rfl ?_
        show own_H _ _ _ _ _ _ _ _ T (mkF m 196 #[.val (.int x), .val (.int x0), .val (.int x1), .val (.int x2), .val (.int x3), .val (.ref mv), .val (.int (Int32.ofNat 4)), .val (.int (Int32.ofNat q0)), .val (.int (Int32.ofNat q1)), .val (.int (Int32.ofNat q2)), .val (.int (Int32.ofNat q3)), .val (.ref ps), .val (.int (0 : Int32)), .val (.ref r), .unset] [.int x1])
        refine own_iloadN X B at_196 rfl (pc' := 197) rfl ?_
        refine own_icmpF X B at_197 (teq rfl).2 (pc' := 200) rfl ?_
        refine own_aload X B at_200 rfl rfl (pc' := 202) rfl ?_
        refine own_iconst X B at_202 (v := (2 : Int32)) rfl (pc' := 203) rfl ?_
        refine own_iaload X B A_mv (i := 2) rfl (by decide) at_203 (pc' := 204) rfl ?_
        show own_H _ _ _ _ _ _ _ _ T (mkF m 204 #[.val (.int x), .val (.int x0), .val (.int x1), .val (.int x2), .val (.int x3), .val (.ref mv), .val (.int (Int32.ofNat 4)), .val (.int (Int32.ofNat q0)), .val (.int (Int32.ofNat q1)), .val (.int (Int32.ofNat q2)), .val (.int (Int32.ofNat q3)), .val (.ref ps), .val (.int (0 : Int32)), .val (.ref r), .unset] [.int x2])
        refine own_iloadN X B at_204 rfl (pc' := 205) rfl ?_
        refine own_icmpF X B at_205 (teq rfl).2 (pc' := 208) rfl ?_
        refine own_aload X B at_208 rfl rfl (pc' := 210) rfl ?_
        refine own_iconst X B at_210 (v := (3 : Int32)) rfl (pc' := 211) rfl ?_
        refine own_iaload X B A_mv (i := 3) rfl (by decide) at_211 (pc' := 212) rfl ?_
        show own_H _ _ _ _ _ _ _ _ T (mkF m 212 #[.val (.int x), .val (.int x0), .val (.int x1), .val (.int x2), .val (.int x3), .val (.ref mv), .val (.int (Int32.ofNat 4)), .val (.int (Int32.ofNat q0)), .val (.int (Int32.ofNat q1)), .val (.int (Int32.ofNat q2)), .val (.int (Int32.ofNat q3)), .val (.ref ps), .val (.int (0 : Int32)), .val (.ref r), .unset] [.int x3])
        refine own_iload X B at_212 rfl (pc' := 214) rfl ?_
        refine own_icmpF X B at_214 (teq rfl).2 (pc' := 217) rfl ?_
        refine own_aload X B at_217 rfl rfl (pc' := 219) rfl ?_
        refine own_lenI X B A_ps at_219 (pc' := 220) rfl ?_
        refine own_iload X B at_220 rfl (pc' := 222) rfl ?_
        refine own_icmpF X B at_222 (teq rfl).2 (pc' := 225) rfl ?_
        refine own_iload X B at_225 rfl (pc' := 227) rfl ?_
        refine own_ifF X B at_227 (tlt (by decide)).2.2.2 (pc' := 230) rfl ?_
        refine own_aload X B at_230 rfl rfl (pc' := 232) rfl ?_
        refine own_iconst X B at_232 (v := (0 : Int32)) rfl (pc' := 233) rfl ?_
        refine own_iaload X B A_ps (i := 0) rfl (by decide) at_233 (pc' := 234) rfl ?_
        show own_H _ _ _ _ _ _ _ _ T (mkF m 234 #[.val (.int x), .val (.int x0), .val (.int x1), .val (.int x2), .val (.int x3), .val (.ref mv), .val (.int (Int32.ofNat 4)), .val (.int (Int32.ofNat q0)), .val (.int (Int32.ofNat q1)), .val (.int (Int32.ofNat q2)), .val (.int (Int32.ofNat q3)), .val (.ref ps), .val (.int (0 : Int32)), .val (.ref r), .unset] [.int (Int32.ofNat q0)])
        refine own_iload X B at_234 rfl (pc' := 236) rfl ?_
        refine own_icmpF X B at_236 (teq rfl).2 (pc' := 239) rfl ?_
        refine own_iload X B at_239 rfl (pc' := 241) rfl ?_
        refine own_iconst X B at_241 (v := (1 : Int32)) rfl (pc' := 242) rfl ?_
        refine own_icmpF X B at_242 (tlt (by decide)).2.2.2 (pc' := 245) rfl ?_
        refine own_aload X B at_245 rfl rfl (pc' := 247) rfl ?_
        refine own_iconst X B at_247 (v := (1 : Int32)) rfl (pc' := 248) rfl ?_
        refine own_iaload X B A_ps (i := 1) rfl (by decide) at_248 (pc' := 249) rfl ?_
        show own_H _ _ _ _ _ _ _ _ T (mkF m 249 #[.val (.int x), .val (.int x0), .val (.int x1), .val (.int x2), .val (.int x3), .val (.ref mv), .val (.int (Int32.ofNat 4)), .val (.int (Int32.ofNat q0)), .val (.int (Int32.ofNat q1)), .val (.int (Int32.ofNat q2)), .val (.int (Int32.ofNat q3)), .val (.ref ps), .val (.int (0 : Int32)), .val (.ref r), .unset] [.int (Int32.ofNat q1)])
        refine own_iload X B at_249 rfl (pc' := 251) rfl ?_
        refine own_icmpF X B at_251 (teq rfl).2 (pc' := 254) rfl ?_
        refine own_iload X B at_254 rfl (pc' := 256) rfl ?_
        refine own_iconst X B at_256 (v := (2 : Int32)) rfl (pc' := 257) rfl ?_
        refine own_icmpF X B at_257 (tlt (by decide)).2.2.2 (pc' := 260) rfl ?_
        refine own_aload X B at_260 rfl rfl (pc' := 262) rfl ?_
        refine own_iconst X B at_262 (v := (2 : Int32)) rfl (pc' := 263) rfl ?_
        refine own_iaload X B A_ps (i := 2) rfl (by decide) at_263 (pc' := 264) rfl ?_
        show own_H _ _ _ _ _ _ _ _ T (mkF m 264 #[.val (.int x), .val (.int x0), .val (.int x1), .val (.int x2), .val (.int x3), .val (.ref mv), .val (.int (Int32.ofNat 4)), .val (.int (Int32.ofNat q0)), .val (.int (Int32.ofNat q1)), .val (.int (Int32.ofNat q2)), .val (.int (Int32.ofNat q3)), .val (.ref ps), .val (.int (0 : Int32)), .val (.ref r), .unset] [.int (Int32.ofNat q2)])
        refine own_iload X B at_264 rfl (pc' := 266) rfl ?_
        refine own_icmpF X B at_266 (teq rfl).2 (pc' := 269) rfl ?_
        refine own_iload X B at_269 rfl (pc' := 271) rfl ?_
        refine own_iconst X B at_271 (v := (3 : Int32)) rfl (pc' := 272) rfl ?_
        refine own_icmpF X B at_272 (tlt (by decide)).2.2.2 (pc' := 275) rfl ?_
        refine own_aload X B at_275 rfl rfl (pc' := 277) rfl ?_
        refine own_iconst X B at_277 (v := (3 : Int32)) rfl (pc' := 278) rfl ?_
        refine own_iaload X B A_ps (i := 3) rfl (by decide) at_278 (pc' := 279) rfl ?_
        show own_H _ _ _ _ _ _ _ _ T (mkF m 279 #[.val (.int x), .val (.int x0), .val (.int x1), .val (.int x2), .val (.int x3), .val (.ref mv), .val (.int (Int32.ofNat 4)), .val (.int (Int32.ofNat q0)), .val (.int (Int32.ofNat q1)), .val (.int (Int32.ofNat q2)), .val (.int (Int32.ofNat q3)), .val (.ref ps), .val (.int (0 : Int32)), .val (.ref r), .unset] [.int (Int32.ofNat q3)])
        refine own_iload X B at_279 rfl (pc' := 281) rfl ?_
        refine own_icmpF X B at_281 (teq rfl).2 (pc' := 284) rfl ?_
        refine own_iconst X B at_284 (v := (1 : Int32)) rfl (pc' := 285) rfl ?_
        refine own_goto X B at_285 (pc' := 289) (by decide) (by decide) ?_
        refine own_istore X B at_289 (L' := #[.val (.int x), .val (.int x0), .val (.int x1), .val (.int x2), .val (.int x3), .val (.ref mv), .val (.int (Int32.ofNat 4)), .val (.int (Int32.ofNat q0)), .val (.int (Int32.ofNat q1)), .val (.int (Int32.ofNat q2)), .val (.int (Int32.ofNat q3)), .val (.ref ps), .val (.int (0 : Int32)), .val (.ref r), .val (.int (1 : Int32))]) rfl (pc' := 291) rfl ?_
        refine own_iload X B at_291 rfl (pc' := 293) rfl ?_
        refine own_ifT X B at_293 (feq (by decide : ¬ (1 : Int32) = 0)).2 (pc' := 298) (by decide) (by decide) ?_
        refine own_iload X B at_298 rfl (pc' := 300) rfl ?_
        refine own_ifT X B at_300 (teq rfl).1 (pc' := 314) (by decide) (by decide) ?_
        refine own_aload X B at_314 rfl rfl (pc' := 316) rfl ?_
        refine own_ifnullF X B at_316 (pc' := 319) rfl ?_
        refine own_aload X B at_319 rfl rfl (pc' := 321) rfl ?_
        refine own_lenI X B A_r at_321 (pc' := 322) rfl ?_
        refine own_iload X B at_322 rfl (pc' := 324) rfl ?_
        refine own_icmpT X B at_324 (teq rfl).1 (pc' := 329) (by decide) (by decide) ?_
        refine own_iload X B at_329 rfl (pc' := 331) rfl ?_
        refine own_ifF X B at_331 (tlt (by decide)).2.2.2 (pc' := 334) rfl ?_
        refine own_aload X B at_334 rfl rfl (pc' := 336) rfl ?_
        refine own_iconst X B at_336 (v := (0 : Int32)) rfl (pc' := 337) rfl ?_
        refine own_iaload X B A_r (i := 0) rfl (by decide) at_337 (pc' := 338) rfl ?_
        show own_H _ _ _ _ _ _ _ _ T (mkF m 338 #[.val (.int x), .val (.int x0), .val (.int x1), .val (.int x2), .val (.int x3), .val (.ref mv), .val (.int (Int32.ofNat 4)), .val (.int (Int32.ofNat q0)), .val (.int (Int32.ofNat q1)), .val (.int (Int32.ofNat q2)), .val (.int (Int32.ofNat q3)), .val (.ref ps), .val (.int (0 : Int32)), .val (.ref r), .val (.int (1 : Int32))] [.int (own_v4 x0 x1 x2 x3 q0)])
        refine own_iload X B at_338 rfl (pc' := 340) rfl ?_
        refine own_iloadN X B at_340 rfl (pc' := 341) rfl ?_
        refine own_iloadN X B at_341 rfl (pc' := 342) rfl ?_
        refine own_iloadN X B at_342 rfl (pc' := 343) rfl ?_
        refine own_iload X B at_343 rfl (pc' := 345) rfl ?_
        refine own_callS X B (W := 1) (hw _ (List.mem_of_getElem? (i := 5) rfl)) (hw _ (List.mem_of_getElem? (i := 6) rfl)) (hw _ (List.mem_of_getElem? (i := 7) rfl)) (hw _ (List.mem_of_getElem? (i := 8) rfl)) (by decide) (rm2 l Z a0 hw q0 x0 x1 x2 x3 h n0 (own_sz X Z0) hq0) (by decide) (by decide) (by decide) (by decide) rfl (argsL := [.int (Int32.ofNat q0), .int x0, .int x1, .int x2, .int x3]) pd_2 rfl rfl (st := [.int (own_v4 x0 x1 x2 x3 q0)]) rfl (Nat.le_refl _) at_345 (pc' := 348) rfl all0 ?_
        rintro v T h X K rfl
        replace A_mv := A_mv.keep K nin0
        replace A_ps := A_ps.keep K nin0
        replace A_r := A_r.keep K nin0
        show own_H _ _ _ _ _ _ _ _ T (mkF m 348 #[.val (.int x), .val (.int x0), .val (.int x1), .val (.int x2), .val (.int x3), .val (.ref mv), .val (.int (Int32.ofNat 4)), .val (.int (Int32.ofNat q0)), .val (.int (Int32.ofNat q1)), .val (.int (Int32.ofNat q2)), .val (.int (Int32.ofNat q3)), .val (.ref ps), .val (.int (0 : Int32)), .val (.ref r), .val (.int (1 : Int32))] [.int (own_v4 x0 x1 x2 x3 q0), .int (own_v4 x0 x1 x2 x3 q0)])
        refine own_icmpF X B at_348 (teq rfl).2 (pc' := 351) rfl ?_
        refine own_iload X B at_351 rfl (pc' := 353) rfl ?_
        refine own_iconst X B at_353 (v := (1 : Int32)) rfl (pc' := 354) rfl ?_
        refine own_icmpF X B at_354 (tlt (by decide)).2.2.2 (pc' := 357) rfl ?_
        refine own_aload X B at_357 rfl rfl (pc' := 359) rfl ?_
        refine own_iconst X B at_359 (v := (1 : Int32)) rfl (pc' := 360) rfl ?_
        refine own_iaload X B A_r (i := 1) rfl (by decide) at_360 (pc' := 361) rfl ?_
        show own_H _ _ _ _ _ _ _ _ T (mkF m 361 #[.val (.int x), .val (.int x0), .val (.int x1), .val (.int x2), .val (.int x3), .val (.ref mv), .val (.int (Int32.ofNat 4)), .val (.int (Int32.ofNat q0)), .val (.int (Int32.ofNat q1)), .val (.int (Int32.ofNat q2)), .val (.int (Int32.ofNat q3)), .val (.ref ps), .val (.int (0 : Int32)), .val (.ref r), .val (.int (1 : Int32))] [.int (own_v4 x0 x1 x2 x3 q1)])
        refine own_iload X B at_361 rfl (pc' := 363) rfl ?_
        refine own_iloadN X B at_363 rfl (pc' := 364) rfl ?_
        refine own_iloadN X B at_364 rfl (pc' := 365) rfl ?_
        refine own_iloadN X B at_365 rfl (pc' := 366) rfl ?_
        refine own_iload X B at_366 rfl (pc' := 368) rfl ?_
        refine own_callS X B (W := 1) (hw _ (List.mem_of_getElem? (i := 5) rfl)) (hw _ (List.mem_of_getElem? (i := 6) rfl)) (hw _ (List.mem_of_getElem? (i := 7) rfl)) (hw _ (List.mem_of_getElem? (i := 8) rfl)) (by decide) (rm2 l Z a0 hw q1 x0 x1 x2 x3 h n0 (own_sz X Z0) hq1) (by decide) (by decide) (by decide) (by decide) rfl (argsL := [.int (Int32.ofNat q1), .int x0, .int x1, .int x2, .int x3]) pd_2 rfl rfl (st := [.int (own_v4 x0 x1 x2 x3 q1)]) rfl (Nat.le_refl _) at_368 (pc' := 371) rfl all0 ?_
        rintro v T h X K rfl
        replace A_mv := A_mv.keep K nin0
        replace A_ps := A_ps.keep K nin0
        replace A_r := A_r.keep K nin0
        show own_H _ _ _ _ _ _ _ _ T (mkF m 371 #[.val (.int x), .val (.int x0), .val (.int x1), .val (.int x2), .val (.int x3), .val (.ref mv), .val (.int (Int32.ofNat 4)), .val (.int (Int32.ofNat q0)), .val (.int (Int32.ofNat q1)), .val (.int (Int32.ofNat q2)), .val (.int (Int32.ofNat q3)), .val (.ref ps), .val (.int (0 : Int32)), .val (.ref r), .val (.int (1 : Int32))] [.int (own_v4 x0 x1 x2 x3 q1), .int (own_v4 x0 x1 x2 x3 q1)])
        refine own_icmpF X B at_371 (teq rfl).2 (pc' := 374) rfl ?_
        refine own_iload X B at_374 rfl (pc' := 376) rfl ?_
        refine own_iconst X B at_376 (v := (2 : Int32)) rfl (pc' := 377) rfl ?_
        refine own_icmpF X B at_377 (tlt (by decide)).2.2.2 (pc' := 380) rfl ?_
        refine own_aload X B at_380 rfl rfl (pc' := 382) rfl ?_
        refine own_iconst X B at_382 (v := (2 : Int32)) rfl (pc' := 383) rfl ?_
        refine own_iaload X B A_r (i := 2) rfl (by decide) at_383 (pc' := 384) rfl ?_
        show own_H _ _ _ _ _ _ _ _ T (mkF m 384 #[.val (.int x), .val (.int x0), .val (.int x1), .val (.int x2), .val (.int x3), .val (.ref mv), .val (.int (Int32.ofNat 4)), .val (.int (Int32.ofNat q0)), .val (.int (Int32.ofNat q1)), .val (.int (Int32.ofNat q2)), .val (.int (Int32.ofNat q3)), .val (.ref ps), .val (.int (0 : Int32)), .val (.ref r), .val (.int (1 : Int32))] [.int (own_v4 x0 x1 x2 x3 q2)])
        refine own_iload X B at_384 rfl (pc' := 386) rfl ?_
        refine own_iloadN X B at_386 rfl (pc' := 387) rfl ?_
        refine own_iloadN X B at_387 rfl (pc' := 388) rfl ?_
        refine own_iloadN X B at_388 rfl (pc' := 389) rfl ?_
        refine own_iload X B at_389 rfl (pc' := 391) rfl ?_
        refine own_callS X B (W := 1) (hw _ (List.mem_of_getElem? (i := 5) rfl)) (hw _ (List.mem_of_getElem? (i := 6) rfl)) (hw _ (List.mem_of_getElem? (i := 7) rfl)) (hw _ (List.mem_of_getElem? (i := 8) rfl)) (by decide) (rm2 l Z a0 hw q2 x0 x1 x2 x3 h n0 (own_sz X Z0) hq2) (by decide) (by decide) (by decide) (by decide) rfl (argsL := [.int (Int32.ofNat q2), .int x0, .int x1, .int x2, .int x3]) pd_2 rfl rfl (st := [.int (own_v4 x0 x1 x2 x3 q2)]) rfl (Nat.le_refl _) at_391 (pc' := 394) rfl all0 ?_
        rintro v T h X K rfl
        replace A_mv := A_mv.keep K nin0
        replace A_ps := A_ps.keep K nin0
        replace A_r := A_r.keep K nin0
        show own_H _ _ _ _ _ _ _ _ T (mkF m 394 #[.val (.int x), .val (.int x0), .val (.int x1), .val (.int x2), .val (.int x3), .val (.ref mv), .val (.int (Int32.ofNat 4)), .val (.int (Int32.ofNat q0)), .val (.int (Int32.ofNat q1)), .val (.int (Int32.ofNat q2)), .val (.int (Int32.ofNat q3)), .val (.ref ps), .val (.int (0 : Int32)), .val (.ref r), .val (.int (1 : Int32))] [.int (own_v4 x0 x1 x2 x3 q2), .int (own_v4 x0 x1 x2 x3 q2)])
        refine own_icmpF X B at_394 (teq rfl).2 (pc' := 397) rfl ?_
        refine own_iload X B at_397 rfl (pc' := 399) rfl ?_
        refine own_iconst X B at_399 (v := (3 : Int32)) rfl (pc' := 400) rfl ?_
        refine own_icmpF X B at_400 (tlt (by decide)).2.2.2 (pc' := 403) rfl ?_
        refine own_aload X B at_403 rfl rfl (pc' := 405) rfl ?_
        refine own_iconst X B at_405 (v := (3 : Int32)) rfl (pc' := 406) rfl ?_
        refine own_iaload X B A_r (i := 3) rfl (by decide) at_406 (pc' := 407) rfl ?_
        show own_H _ _ _ _ _ _ _ _ T (mkF m 407 #[.val (.int x), .val (.int x0), .val (.int x1), .val (.int x2), .val (.int x3), .val (.ref mv), .val (.int (Int32.ofNat 4)), .val (.int (Int32.ofNat q0)), .val (.int (Int32.ofNat q1)), .val (.int (Int32.ofNat q2)), .val (.int (Int32.ofNat q3)), .val (.ref ps), .val (.int (0 : Int32)), .val (.ref r), .val (.int (1 : Int32))] [.int (own_v4 x0 x1 x2 x3 q3)])
        refine own_iload X B at_407 rfl (pc' := 409) rfl ?_
        refine own_iloadN X B at_409 rfl (pc' := 410) rfl ?_
        refine own_iloadN X B at_410 rfl (pc' := 411) rfl ?_
        refine own_iloadN X B at_411 rfl (pc' := 412) rfl ?_
        refine own_iload X B at_412 rfl (pc' := 414) rfl ?_
        refine own_callS X B (W := 1) (hw _ (List.mem_of_getElem? (i := 5) rfl)) (hw _ (List.mem_of_getElem? (i := 6) rfl)) (hw _ (List.mem_of_getElem? (i := 7) rfl)) (hw _ (List.mem_of_getElem? (i := 8) rfl)) (by decide) (rm2 l Z a0 hw q3 x0 x1 x2 x3 h n0 (own_sz X Z0) hq3) (by decide) (by decide) (by decide) (by decide) rfl (argsL := [.int (Int32.ofNat q3), .int x0, .int x1, .int x2, .int x3]) pd_2 rfl rfl (st := [.int (own_v4 x0 x1 x2 x3 q3)]) rfl (Nat.le_refl _) at_414 (pc' := 417) rfl all0 ?_
        rintro v T h X K rfl
        replace A_mv := A_mv.keep K nin0
        replace A_ps := A_ps.keep K nin0
        replace A_r := A_r.keep K nin0
        show own_H _ _ _ _ _ _ _ _ T (mkF m 417 #[.val (.int x), .val (.int x0), .val (.int x1), .val (.int x2), .val (.int x3), .val (.ref mv), .val (.int (Int32.ofNat 4)), .val (.int (Int32.ofNat q0)), .val (.int (Int32.ofNat q1)), .val (.int (Int32.ofNat q2)), .val (.int (Int32.ofNat q3)), .val (.ref ps), .val (.int (0 : Int32)), .val (.ref r), .val (.int (1 : Int32))] [.int (own_v4 x0 x1 x2 x3 q3), .int (own_v4 x0 x1 x2 x3 q3)])
        refine own_icmpF X B at_417 (teq rfl).2 (pc' := 420) rfl ?_
        refine own_iconst X B at_420 (v := (1 : Int32)) rfl (pc' := 421) rfl ?_
        refine own_goto X B at_421 (pc' := 425) (by decide) (by decide) ?_
        exact own_zret X B at_425 (by decide) (by decide) rfl rfl
    refine own_iload X B at_113 rfl (pc' := 115) rfl ?_
    refine own_ifF X B at_115 (tlt (by decide)).2.2.2 (pc' := 118) rfl ?_
    refine own_aload X B at_118 rfl rfl (pc' := 120) rfl ?_
    refine own_iload X B at_120 rfl (pc' := 122) rfl ?_
    refine own_iaload X B A_mv (i := q0) (own_nat (by omega)) hq0 at_122 (pc' := 123) rfl ?_
    show own_H _ _ _ _ _ _ _ _ T (mkF m 123 #[.val (.int x), .val (.int x0), .val (.int x1), .val (.int x2), .val (.int x3), .val (.ref mv), .val (.int (Int32.ofNat 4)), .val (.int (Int32.ofNat q0)), .val (.int (Int32.ofNat q1)), .val (.int (Int32.ofNat q2)), .val (.int (Int32.ofNat q3)), .val (.ref ps), .unset, .unset, .unset] [.int (own_v4 x0 x1 x2 x3 q0)])
    by_cases hc0 : (own_v4 x0 x1 x2 x3 q0) < (0 : Int32)
    · -- hc0
      refine own_ifT X B at_123 (tlt hc0).1 (pc' := 168) (by decide) (by decide) ?_
      refine own_iconst X B at_168 (v := (1 : Int32)) rfl (pc' := 169) rfl ?_
      refine own_goto X B at_169 (pc' := 173) (by decide) (by decide) ?_
      exact J173 _ _ _ X A_mv A_ps (Or.inl ⟨rfl, 0, by decide, hc0⟩)
    · -- not hc0
      refine own_ifF X B at_123 (flt hc0).1 (pc' := 126) rfl ?_
      refine own_iload X B at_126 rfl (pc' := 128) rfl ?_
      refine own_iconst X B at_128 (v := (1 : Int32)) rfl (pc' := 129) rfl ?_
      refine own_icmpF X B at_129 (tlt (by decide)).2.2.2 (pc' := 132) rfl ?_
      refine own_aload X B at_132 rfl rfl (pc' := 134) rfl ?_
      refine own_iload X B at_134 rfl (pc' := 136) rfl ?_
      refine own_iaload X B A_mv (i := q1) (own_nat (by omega)) hq1 at_136 (pc' := 137) rfl ?_
      show own_H _ _ _ _ _ _ _ _ T (mkF m 137 #[.val (.int x), .val (.int x0), .val (.int x1), .val (.int x2), .val (.int x3), .val (.ref mv), .val (.int (Int32.ofNat 4)), .val (.int (Int32.ofNat q0)), .val (.int (Int32.ofNat q1)), .val (.int (Int32.ofNat q2)), .val (.int (Int32.ofNat q3)), .val (.ref ps), .unset, .unset, .unset] [.int (own_v4 x0 x1 x2 x3 q1)])
      by_cases hc1 : (own_v4 x0 x1 x2 x3 q1) < (0 : Int32)
      · -- hc1
        refine own_ifT X B at_137 (tlt hc1).1 (pc' := 168) (by decide) (by decide) ?_
        refine own_iconst X B at_168 (v := (1 : Int32)) rfl (pc' := 169) rfl ?_
        refine own_goto X B at_169 (pc' := 173) (by decide) (by decide) ?_
        exact J173 _ _ _ X A_mv A_ps (Or.inl ⟨rfl, 1, by decide, hc1⟩)
      · -- not hc1
        refine own_ifF X B at_137 (flt hc1).1 (pc' := 140) rfl ?_
        refine own_iload X B at_140 rfl (pc' := 142) rfl ?_
        refine own_iconst X B at_142 (v := (2 : Int32)) rfl (pc' := 143) rfl ?_
        refine own_icmpF X B at_143 (tlt (by decide)).2.2.2 (pc' := 146) rfl ?_
        refine own_aload X B at_146 rfl rfl (pc' := 148) rfl ?_
        refine own_iload X B at_148 rfl (pc' := 150) rfl ?_
        refine own_iaload X B A_mv (i := q2) (own_nat (by omega)) hq2 at_150 (pc' := 151) rfl ?_
        show own_H _ _ _ _ _ _ _ _ T (mkF m 151 #[.val (.int x), .val (.int x0), .val (.int x1), .val (.int x2), .val (.int x3), .val (.ref mv), .val (.int (Int32.ofNat 4)), .val (.int (Int32.ofNat q0)), .val (.int (Int32.ofNat q1)), .val (.int (Int32.ofNat q2)), .val (.int (Int32.ofNat q3)), .val (.ref ps), .unset, .unset, .unset] [.int (own_v4 x0 x1 x2 x3 q2)])
        by_cases hc2 : (own_v4 x0 x1 x2 x3 q2) < (0 : Int32)
        · -- hc2
          refine own_ifT X B at_151 (tlt hc2).1 (pc' := 168) (by decide) (by decide) ?_
          refine own_iconst X B at_168 (v := (1 : Int32)) rfl (pc' := 169) rfl ?_
          refine own_goto X B at_169 (pc' := 173) (by decide) (by decide) ?_
          exact J173 _ _ _ X A_mv A_ps (Or.inl ⟨rfl, 2, by decide, hc2⟩)
        · -- not hc2
          refine own_ifF X B at_151 (flt hc2).1 (pc' := 154) rfl ?_
          refine own_iload X B at_154 rfl (pc' := 156) rfl ?_
          refine own_iconst X B at_156 (v := (3 : Int32)) rfl (pc' := 157) rfl ?_
          refine own_icmpF X B at_157 (tlt (by decide)).2.2.2 (pc' := 160) rfl ?_
          refine own_aload X B at_160 rfl rfl (pc' := 162) rfl ?_
          refine own_iload X B at_162 rfl (pc' := 164) rfl ?_
          refine own_iaload X B A_mv (i := q3) (own_nat (by omega)) hq3 at_164 (pc' := 165) rfl ?_
          show own_H _ _ _ _ _ _ _ _ T (mkF m 165 #[.val (.int x), .val (.int x0), .val (.int x1), .val (.int x2), .val (.int x3), .val (.ref mv), .val (.int (Int32.ofNat 4)), .val (.int (Int32.ofNat q0)), .val (.int (Int32.ofNat q1)), .val (.int (Int32.ofNat q2)), .val (.int (Int32.ofNat q3)), .val (.ref ps), .unset, .unset, .unset] [.int (own_v4 x0 x1 x2 x3 q3)])
          by_cases hc3 : (own_v4 x0 x1 x2 x3 q3) < (0 : Int32)
          · -- hc3
            refine own_ifF X B at_165 (tlt hc3).2.1 (pc' := 168) rfl ?_
            refine own_iconst X B at_168 (v := (1 : Int32)) rfl (pc' := 169) rfl ?_
            refine own_goto X B at_169 (pc' := 173) (by decide) (by decide) ?_
            exact J173 _ _ _ X A_mv A_ps (Or.inl ⟨rfl, 3, by decide, hc3⟩)
          · -- not hc3
            refine own_ifT X B at_165 (flt hc3).2.1 (pc' := 172) (by decide) (by decide) ?_
            refine own_iconst X B at_172 (v := (0 : Int32)) rfl (pc' := 173) rfl ?_
            exact J173 _ _ _ X A_mv A_ps (Or.inr ⟨rfl, fun i hi => by
              match i, hi with
              | 0, _ => exact hc0
              | 1, _ => exact hc1
              | 2, _ => exact hc2
              | 3, _ => exact hc3⟩)
set_option maxRecDepth 65536 in
set_option maxHeartbeats 40000000 in
theorem comes_1 {Post : Tables → Env → Array Value → State → Outcome → State → Prop} (hpost : ∀ tb e args s v u, (limb_1_1.after args s (.returned v) u = true ∧ limb_1_2.after args s (.returned v) u = true ∧ True) → FrameEnd s (.returned v) u (Jvm.fieldLocs frame_1_writes args s ++ Jvm.arrayLocs frame_1_arrays args s ++ Jvm.staticLocs frame_1_statics s) 16 128 → Post tb e args s (.returned v) u) :
    ArmFor flags0 classFile x code maxLocals ret World_1 tables_1 room_1 Calls_1 rest_1 Pre_1 Post := by
  intro l hfl _ _ p e ha hc hk s m args below hf hA hF happ hP
  obtain ⟨hcalls, hrest, hpre⟩ := hP
  obtain ⟨-, -, -, hnamed, -, -, -, hat⟩ := (Spec.applies_iff hf).mp happ
  obtain ⟨hg, hn⟩ := and_e (Cond.before_iff.mp (show (Jvm.Cond.and given_1 narrow_1).before args s = true from hpre))
  obtain ⟨g1, g2⟩ := and_e hg
  obtain ⟨g3, g4⟩ := and_e g2
  obtain ⟨g5, g6⟩ := and_e g4
  obtain ⟨g7, g8⟩ := and_e g6
  obtain ⟨g9, g10⟩ := and_e g8
  obtain ⟨w0, w1, w2, w3, w4, rfl⟩ : ∃ w0 w1 w2 w3 w4 : Value, args = #[w0, w1, w2, w3, w4] := by
    have hs : args.size = 5 := by simpa [Cond.value, given_1] using g1
    obtain ⟨L⟩ := args
    match L, hs with
    | [w0, w1, w2, w3, w4], _ => exact ⟨w0, w1, w2, w3, w4, rfl⟩
  have hw := fun d (hd : d ∈ tables_1) => atoms_spec (ws := Jvm.Cond.code x code maxLocals ret :: tables_1) hat d (List.mem_cons_of_mem _ hd)
  obtain ⟨i0, ei0⟩ := is_v g3
  obtain rfl : w0 = (.int i0) := Option.some.inj ei0
  obtain ⟨i1, ei1⟩ := is_v g5
  obtain rfl : w1 = (.int i1) := Option.some.inj ei1
  obtain ⟨i2, ei2⟩ := is_v g7
  obtain rfl : w2 = (.int i2) := Option.some.inj ei2
  obtain ⟨i3, ei3⟩ := is_v g9
  obtain rfl : w3 = (.int i3) := Option.some.inj ei3
  obtain ⟨i4, ei4⟩ := is_v g10
  obtain rfl : w4 = (.int i4) := Option.some.inj ei4
  obtain ⟨n, o, h1, h2, h3, _, L, rfl, ⟨N, -, rfl⟩, hq⟩ := rm0 l s _ hw i0 i1 i2 i3 i4 s.heap s.heap.size (Nat.le_refl _) p e ha hc hk s m _ below hf ((Spec.applies_iff_loose hf).mp happ).1 ⟨rfl, State.Warmed39.refl s, rfl⟩ trivial
  refine ⟨n, _, h1, h2, h3, hpost _ _ _ _ _ _ ⟨Cond.after_iff.mpr rfl, Cond.after_iff.mpr (eq_i res_at (Term.int_eval (1)) rfl), trivial⟩ ⟨hq.1, hq.2.1, (hq.2.2.sift fun y hy => Or.inr (N y hy)).mono (by decide) (by decide)⟩⟩
theorem main_1_1 : Claimed_1_1 := comes_1 fun _ _ _ _ _ _ h hF => ⟨h.1, hF⟩
theorem main_1_2 : Claimed_1_2 := comes_1 fun _ _ _ _ _ _ h hF => ⟨h.2.1, hF⟩
end Jvm.Pilot.@@N@@
namespace Jvm.Pilot.@@N@@
open Jvm Jvm.ClassFile Sem Op Lib Jvm.Free Jvm.Stand Jvm.Pilot.@@N@@.Jvm.D
/-! MADE BY PROGRAM (witnessworld.py) out of the Statement's table words and the real class files: 10 classes; the members and pool entries that the words name. The judged class is class 1, her method 1. -/
namespace start1
open Jvm.ClassFile
def u (s : String) : CpInfo := .utf8 (stringToUtf16 s)
/-- a pool by its gaps: so many unusable entries, then the entry; so many at the end -/
def gap : Nat → List CpInfo → List CpInfo
  | 0, r => r
  | n + 1, r => .unusable :: gap n r
def poolList (es : List (Nat × CpInfo)) (last : Nat) : List CpInfo := es.foldr (fun e r => gap e.1 (e.2 :: r)) (gap last [])
def pool (es : List (Nat × CpInfo)) (last : Nat) : Array CpInfo := ⟨poolList es last⟩
def fileOf (pool : Array CpInfo) (this : Nat) (attrs : Array Attribute := #[]) (ms : Array MethodInfo := #[]) (fl : Nat := 33) (sup : Nat := 0) (ifs : Array Nat := #[]) (fds : Array FieldInfo := #[]) : ClassFile where
  minorVersion := 0
  majorVersion := 65
  constantPool := pool
  accessFlags := fl
  thisClass := this
  superClass := sup
  interfaces := ifs
  fields := fds
  methods := ms
  attributes := attrs
def plain (name : String) (sup : Option ClassId) : Class where
  name := name
  kind := .ordinary
  loader := none
  accessFlags := 33
  super := sup
  interfaces := #[]
  cf := none
  fields := #[]
  methods := #[]
  instanceTypes := #[]
  staticTypes := #[]
  resolved := #[]
  callSites := []
  init := .initialized
  statics := none
  mirror := none

def pool0 : Array CpInfo := pool [(5, u "<init>"), (0, u "()V"), (1, .class_ 10), (1, u "java/lang/Object")] 113

def k0m0 : Method := { name := "<init>", desc := "()V", sig := { parameters := [], returnType := none }, accessFlags := 1, code := none }
/-- java/lang/Object -/
def k0 : Class := { plain "java/lang/Object" none with
  accessFlags := 33
  interfaces := #[]
  cf := some (fileOf pool0 8 #[] #[{ accessFlags := 1, nameIndex := 5, descriptorIndex := 6, attributes := #[] }] 33 0 #[] #[])
  fields := #[]
  methods := #[k0m0]
  instanceTypes := #[]
  staticTypes := #[]
  resolved := Array.replicate 124 none
  statics := none }

def pool1 : Array CpInfo := pool [(2, .class_ 4), (1, u "java/lang/Object"), (0, u "<init>"), (0, u "()V"), (0, .methodref 8 9), (0, .class_ 10), (0, .nameAndType 11 12), (0, u "com/example/referee/referee/engine/Table"), (0, u "moved"), (0, u "([I[I)[I"), (0, .methodref 14 15), (0, .class_ 16), (0, .nameAndType 17 18), (0, u "com/example/referee/referee/engine/TableMovedPinLaw"), (0, u "m"), (0, u "(IIIII)I"), (2, u "law"), (0, u "(IIIII)Z")] 5

def k1m0 : Method := { name := "<init>", desc := "()V", sig := { parameters := [], returnType := none }, accessFlags := 2, code := none }
def k1c1 : Code := { maxStack := 6, maxLocals := 15, code := code, exceptionTable := #[], attributes := #[] }
def k1m1 : Method := { name := "law", desc := "(IIIII)Z", sig := { parameters := [.int, .int, .int, .int, .int], returnType := some .boolean }, accessFlags := 9, code := some k1c1 }
def k1c2 : Code := { maxStack := 2, maxLocals := 5, code := method_3_code, exceptionTable := #[], attributes := #[] }
def k1m2 : Method := { name := "m", desc := "(IIIII)I", sig := { parameters := [.int, .int, .int, .int, .int], returnType := some .int }, accessFlags := 10, code := some k1c2 }
/-- com/example/referee/referee/engine/TableMovedPinLaw -/
def k1 : Class := { plain "com/example/referee/referee/engine/TableMovedPinLaw" (some 0) with
  accessFlags := 49
  interfaces := #[]
  cf := some (fileOf pool1 14 #[] #[{ accessFlags := 2, nameIndex := 5, descriptorIndex := 6, attributes := #[] }, { accessFlags := 9, nameIndex := 21, descriptorIndex := 22, attributes := #[] }, { accessFlags := 10, nameIndex := 17, descriptorIndex := 18, attributes := #[] }] 49 2 #[] #[])
  fields := #[]
  methods := #[k1m0, k1m1, k1m2]
  instanceTypes := #[]
  staticTypes := #[]
  resolved := Array.replicate 28 none
  statics := none }

def pool2 : Array CpInfo := pool [(1, .class_ 2), (0, u "com/example/referee/referee/engine/Relation"), (0, .class_ 4), (0, u "java/lang/Object")] 14

/-- com/example/referee/referee/engine/Relation -/
def k2 : Class := { plain "com/example/referee/referee/engine/Relation" (some 0) with
  accessFlags := 1536
  interfaces := #[]
  cf := some (fileOf pool2 1 #[] #[] 1536 3 #[] #[])
  fields := #[]
  methods := #[]
  instanceTypes := #[]
  staticTypes := #[]
  resolved := Array.replicate 19 none
  statics := none }

def pool3 : Array CpInfo := pool [(2, .class_ 4), (1, u "java/lang/Object"), (6, .class_ 13), (1, u "com/example/referee/referee/engine/Table"), (0, u "rows"), (0, u "Lcom/example/referee/referee/engine/RowPages;"), (5, u "indexes"), (0, u "Ljava/util/List;"), (2, u "keys"), (2, u "foreignKeys"), (2, u "referencingKeys"), (2, u "namedIndexes"), (5, u "constraintNames"), (0, u "Ljava/util/Set;"), (2, u "name"), (0, u "Ljava/lang/String;"), (8, u "columns"), (7, u "format"), (0, u "Lcom/example/referee/referee/engine/RowFormat;"), (2, u "definitionVersion"), (0, u "J"), (88, .class_ 158), (1, u "com/example/referee/referee/engine/Table$NewValues"), (26, u "nextRowId"), (44, u "primaryKey"), (0, u "Lcom/example/referee/referee/engine/UniqueKey;"), (178, .class_ 411), (0, u "com/example/referee/referee/engine/Relation"), (82, u "moved"), (0, u "([I[I)[I")] 75

def k3c0 : Code := { maxStack := 5, maxLocals := 4, code := prog_124_method_51_code, exceptionTable := #[], attributes := #[] }
def k3m0 : Method := { name := "moved", desc := "([I[I)[I", sig := { parameters := [(.array .int), (.array .int)], returnType := some (.array .int) }, accessFlags := 8, code := some k3c0 }
/-- com/example/referee/referee/engine/Table -/
def k3 : Class := { plain "com/example/referee/referee/engine/Table" (some 0) with
  accessFlags := 32
  interfaces := #[2]
  cf := some (fileOf pool3 11 #[.nestMembers #[156]] #[{ accessFlags := 8, nameIndex := 494, descriptorIndex := 495, attributes := #[] }] 32 2 #[410] #[{ accessFlags := 18, nameIndex := 44, descriptorIndex := 45, attributes := #[] }, { accessFlags := 2, nameIndex := 54, descriptorIndex := 22, attributes := #[] }, { accessFlags := 18, nameIndex := 62, descriptorIndex := 63, attributes := #[] }, { accessFlags := 18, nameIndex := 14, descriptorIndex := 15, attributes := #[] }, { accessFlags := 18, nameIndex := 21, descriptorIndex := 22, attributes := #[] }, { accessFlags := 18, nameIndex := 25, descriptorIndex := 22, attributes := #[] }, { accessFlags := 18, nameIndex := 28, descriptorIndex := 22, attributes := #[] }, { accessFlags := 18, nameIndex := 31, descriptorIndex := 22, attributes := #[] }, { accessFlags := 18, nameIndex := 34, descriptorIndex := 22, attributes := #[] }, { accessFlags := 18, nameIndex := 40, descriptorIndex := 41, attributes := #[] }, { accessFlags := 2, nameIndex := 230, descriptorIndex := 231, attributes := #[] }, { accessFlags := 2, nameIndex := 185, descriptorIndex := 67, attributes := #[] }, { accessFlags := 2, nameIndex := 66, descriptorIndex := 67, attributes := #[] }])
  fields := #[{ name := "name", type := (.object "java/lang/String"), accessFlags := 18, slot := 0, constantValue := 0 }, { name := "columns", type := (.object "java/util/List"), accessFlags := 2, slot := 1, constantValue := 0 }, { name := "format", type := (.object "com/example/referee/referee/engine/RowFormat"), accessFlags := 18, slot := 2, constantValue := 0 }, { name := "rows", type := (.object "com/example/referee/referee/engine/RowPages"), accessFlags := 18, slot := 3, constantValue := 0 }, { name := "indexes", type := (.object "java/util/List"), accessFlags := 18, slot := 4, constantValue := 0 }, { name := "keys", type := (.object "java/util/List"), accessFlags := 18, slot := 5, constantValue := 0 }, { name := "foreignKeys", type := (.object "java/util/List"), accessFlags := 18, slot := 6, constantValue := 0 }, { name := "referencingKeys", type := (.object "java/util/List"), accessFlags := 18, slot := 7, constantValue := 0 }, { name := "namedIndexes", type := (.object "java/util/List"), accessFlags := 18, slot := 8, constantValue := 0 }, { name := "constraintNames", type := (.object "java/util/Set"), accessFlags := 18, slot := 9, constantValue := 0 }, { name := "primaryKey", type := (.object "com/example/referee/referee/engine/UniqueKey"), accessFlags := 2, slot := 10, constantValue := 0 }, { name := "nextRowId", type := .long, accessFlags := 2, slot := 11, constantValue := 0 }, { name := "definitionVersion", type := .long, accessFlags := 2, slot := 12, constantValue := 0 }]
  methods := #[k3m0]
  instanceTypes := #[(.object "java/lang/String"), (.object "java/util/List"), (.object "com/example/referee/referee/engine/RowFormat"), (.object "com/example/referee/referee/engine/RowPages"), (.object "java/util/List"), (.object "java/util/List"), (.object "java/util/List"), (.object "java/util/List"), (.object "java/util/List"), (.object "java/util/Set"), (.object "com/example/referee/referee/engine/UniqueKey"), .long, .long]
  staticTypes := #[]
  resolved := Array.replicate 571 none
  statics := none }

def pool4 : Array CpInfo := pool [(1, u "java/lang/Cloneable"), (0, .class_ 1), (0, u "java/lang/Object"), (0, .class_ 3)] 3

/-- java/lang/Cloneable -/
def k4 : Class := { plain "java/lang/Cloneable" (some 0) with
  accessFlags := 1537
  interfaces := #[]
  cf := some (fileOf pool4 2 #[] #[] 1537 4 #[] #[])
  fields := #[]
  methods := #[]
  instanceTypes := #[]
  staticTypes := #[]
  resolved := Array.replicate 8 none
  statics := none }

def pool5 : Array CpInfo := pool [(1, u "java/io/Serializable"), (0, .class_ 1), (0, u "java/lang/Object"), (0, .class_ 3)] 3

/-- java/io/Serializable -/
def k5 : Class := { plain "java/io/Serializable" (some 0) with
  accessFlags := 1537
  interfaces := #[]
  cf := some (fileOf pool5 2 #[] #[] 1537 4 #[] #[])
  fields := #[]
  methods := #[]
  instanceTypes := #[]
  staticTypes := #[]
  resolved := Array.replicate 8 none
  statics := none }

/-- the primitive byte -/
def k6 : Class := { plain "byte" none with kind := .primitive 'B', accessFlags := 0x411 }
/-- [B -/
def k7 : Class := { plain "[B" (some 0) with kind := .array 6 .byte, interfaces := #[4, 5], accessFlags := 1041 }

/-- the primitive int -/
def k8 : Class := { plain "int" none with kind := .primitive 'I', accessFlags := 0x411 }
/-- [I -/
def k9 : Class := { plain "[I" (some 0) with kind := .array 8 .int, interfaces := #[4, 5], accessFlags := 1041 }

def heap : Heap := #[]
def classes : Array Class := #[k0, k1, k2, k3, k4, k5, k6, k7, k8, k9]
def interned : List (Array UInt16 × Addr) := []
def slotsUsed : Nat := 0
def theMethod : MethodId := ⟨1, 1⟩
def args0 : Array Value := #[.int 5, .int 1, .int 2, .int 3, .int 4]
def aboutOver (below : List Frame) : State where
  vm := { classes := classes, interned := interned.toArray }
  heap := heap
  slotsUsed := slotsUsed
  threads := #[{ frames := .invoking theMethod args0 :: below }]
def below0 : List Frame := [.native { method := ⟨0, 0⟩, args := #[] }]
def about1 : State := aboutOver below0
def p0 : Program := .bare "" "" ""
def e0 : Env := launch0.env 0 0 0
theorem w_frames : about1.frames = Frame.invoking theMethod args0 :: below0 := rfl
set_option maxRecDepth 65536 in
theorem w_args : argsFit about1.vm theMethod args0 = true := by decide +kernel
set_option maxRecDepth 65536 in
theorem w_heap : heapFits about1 = true := by decide +kernel
set_option maxRecDepth 65536 in
theorem w_runnable : about1.curStatus? = some .runnable := by decide +kernel
set_option maxRecDepth 65536 in
theorem w_alone : about1.alone = true := by decide +kernel
set_option maxRecDepth 65536 in
theorem w_named : about1.methodNamed? x = some theMethod := by decide +kernel
set_option maxRecDepth 65536 in
theorem w_hears : about1.hears theMethod below0 = true := by decide +kernel
set_option maxRecDepth 65536 in
theorem w_ripe : about1.ripe theMethod args0 below0 = true := by decide +kernel
theorem w_running : about1.status = .running := rfl
set_option maxRecDepth 65536 in
theorem w_room : about1.hasRoom e0.platform room_1 = true :=
  launch0.hasRoom_least _ room_1 (by decide +kernel) (by decide +kernel) (by decide +kernel) (by decide +kernel) (by decide +kernel) (by decide +kernel)
theorem allAtoms_all (ts : List Jvm.Cond) (a : Array Jvm.Value) (st : Jvm.State) : (allAtoms ts).before a st = ts.all (fun c => c.before a st) := by
  induction ts with
  | nil => rfl
  | cons c t ih =>
    show (Jvm.Cond.and c (allAtoms t)).before a st = _
    rw [Jvm.Cond.before_and, ih, List.all_cons]
def words1 : List Jvm.Cond := Jvm.Cond.code x code maxLocals ret :: tables_1
/-- a 'code' word, met by the world's own term for the bytes: nothing is compared byte by byte -/
theorem code_word {y : MethodName} {bytes : ByteArray} {mx : Nat} {rt : Option FieldType} {a : Array Value} {s : State} {m : MethodId} {meth : Method} {c : Code} (h1 : s.methodNamed? y = some m) (h2 : s.vm.method? m = some meth) (h3 : meth.code = some c) (h4 : c.code = bytes)
    (h5 : (c.maxLocals == mx && c.exceptionTable.isEmpty && decide (c.maxStack ≤ mostOperands) && decide (meth.sig.returnType = rt) && !meth.locks && decide (parseMethodDescriptor y.desc = some meth.sig)) = true) : (Jvm.Cond.code y bytes mx rt).before a s = true := by
  simp only [Bool.and_eq_true, beq_iff_eq, Bool.not_eq_true', decide_eq_true_eq] at h5
  obtain ⟨⟨⟨⟨⟨g1, g2⟩, g3⟩, g4⟩, g5⟩, g6⟩ := h5
  simp [Cond.before, Cond.holds, Cond.value, h1, h2, h3, h4, g1, g2, g3, g4, g5, g6]
def isCode : Jvm.Cond → Bool
  | .code _ _ _ _ => true
  | _ => false
theorem all_split {L : List Jvm.Cond} {P : Jvm.Cond → Bool} (h1 : L.all (fun c => isCode c || P c) = true) (h2 : ∀ c ∈ L.filter isCode, P c = true) : L.all P = true := by
  refine List.all_eq_true.mpr fun c hc => ?_
  have h := List.all_eq_true.mp h1 c hc
  rcases Bool.eq_false_or_eq_true (isCode c) with hi | hi
  · exact h2 c (List.mem_filter.mpr ⟨hc, hi⟩)
  · simpa [hi] using h
set_option maxRecDepth 65536 in
theorem w_c0 : (Jvm.Cond.code x code maxLocals ret).before args0 about1 = true := code_word (m := ⟨1, 1⟩) (meth := k1m1) (c := k1c1) (by decide +kernel) rfl rfl rfl (by decide +kernel)
set_option maxRecDepth 65536 in
theorem w_c1 : (Jvm.Cond.code ({ cls := "com/example/referee/referee/engine/Table", name := "moved", desc := "([I[I)[I" } : Jvm.MethodName) prog_124_method_51_code (4 : Nat) (Option.some (Jvm.ClassFile.FieldType.array Jvm.ClassFile.FieldType.int))).before args0 about1 = true := code_word (m := ⟨3, 0⟩) (meth := k3m0) (c := k3c0) (by decide +kernel) rfl rfl rfl (by decide +kernel)
set_option maxRecDepth 65536 in
theorem w_c2 : (Jvm.Cond.code ({ cls := "com/example/referee/referee/engine/TableMovedPinLaw", name := "m", desc := "(IIIII)I" } : Jvm.MethodName) method_3_code (5 : Nat) (Option.some Jvm.ClassFile.FieldType.int)).before args0 about1 = true := code_word (m := ⟨1, 2⟩) (meth := k1m2) (c := k1c2) (by decide +kernel) rfl rfl rfl (by decide +kernel)
def codes1 : List Jvm.Cond := [Jvm.Cond.code x code maxLocals ret, Jvm.Cond.code ({ cls := "com/example/referee/referee/engine/Table", name := "moved", desc := "([I[I)[I" } : Jvm.MethodName) prog_124_method_51_code (4 : Nat) (Option.some (Jvm.ClassFile.FieldType.array Jvm.ClassFile.FieldType.int)), Jvm.Cond.code ({ cls := "com/example/referee/referee/engine/TableMovedPinLaw", name := "m", desc := "(IIIII)I" } : Jvm.MethodName) method_3_code (5 : Nat) (Option.some Jvm.ClassFile.FieldType.int)]
set_option maxRecDepth 65536 in
theorem codes_eq : words1.filter isCode = codes1 := rfl
theorem w_codes : ∀ c ∈ words1.filter isCode, c.before args0 about1 = true := by
  rw [codes_eq]
  intro c hc
  simp only [codes1, List.mem_cons, List.not_mem_nil, or_false] at hc
  rcases hc with rfl | rfl | rfl
  · exact w_c0
  · exact w_c1
  · exact w_c2
set_option maxRecDepth 65536 in
theorem w_t1 : words1.all (fun c => isCode c || c.before args0 about1) = true := by decide +kernel
theorem w_tables : (allAtoms (Jvm.Cond.code x code maxLocals ret :: tables_1)).before args0 about1 = true := by
  rw [allAtoms_all]
  show words1.all (fun c => c.before args0 about1) = true
  refine all_split ?_ w_codes
  rw [w_t1]
set_option maxRecDepth 65536 in
theorem w_case : (Jvm.Cond.and given_1 narrow_1).before args0 about1 = true := by decide +kernel
theorem w_applies : (headSpec (Jvm.Cond.code x code maxLocals ret :: tables_1) room_1).applies x e0.platform about1 = true :=
  (Spec.applies_iff w_frames).mpr ⟨w_running, w_runnable, w_alone, w_named, w_hears, w_ripe, w_room, w_tables⟩
theorem atStart : AtStart classFile x code maxLocals ret World_1 tables_1 room_1 Calls_1 rest_1 Pre_1 launch0 p0 e0 about1 theMethod args0 below0 :=
  ⟨lists_1, trivial, launch0.admits_env _ _ _, launch0.least_env, fairChoices_fair.cas, fairChoices_fair.clock, w_frames, w_args, w_heap, w_applies, trivial, trivial, w_case⟩
end start1
theorem witness_1 : WitnessClaimed_1 := ⟨start1.p0, start1.e0, start1.about1, start1.theMethod, start1.args0, start1.below0, start1.atStart⟩
end Jvm.Pilot.@@N@@
