import JvmDerived
import JvmDerived.Pilot.@@N@@Statement
import JvmDerived.Pilot.@@N@@Code
set_option linter.unusedVariables false
set_option linter.unusedSimpArgs false
namespace Jvm.Pilot.@@N@@
open Jvm Jvm.ClassFile Sem Op Lib Jvm.Free Jvm.Stand Jvm.LawKit Jvm.RoadKit Bundle Jvm.Pilot.@@N@@.Jvm.D
section OwnKit
variable {p : Program} {l : Launch} {e : Env} {R : Room} {s : State} {m : MethodId} {args : Array Value} {below : List Frame} {meth : Method} {c : Code} {n0 : Nat} {h0 h h' : Heap} {ws : List Addr} {T T' : State} {C S C' S' : Nat} {Q : Option Value → Heap → Prop} {En : Outcome → State → List Loc → Prop} {Z : State} {a0 : Array Value} {bytes : ByteArray} {maxL : Nat} {own nm : String} {rt : Option FieldType} {L L' : Array Slot} {st : List Value} {pc pc' : Nat}
/-- where the run stands: heap h, nothing old written but cells in ws -/
def own_St (p : Program) (l : Launch) (e : Env) (R : Room) (s : State) (m : MethodId) (args : Array Value) (below : List Frame) (meth : Method) (c : Code) (n0 : Nat) (h0 : Heap) (ws : List Addr) (T : State) (h : Heap) (C S : Nat) : Prop :=
  ∃ locs, Stand p l e R s m args below meth c T locs C S ∧ Fr n0 locs ∧ T.heap = h ∧ Keep h0 h ws
/-- from this frame the invocation ends, and Q holds of what it returns and of the heap -/
def own_H (p : Program) (e : Env) (below : List Frame) (En : Outcome → State → List Loc → Prop) (n0 : Nat) (h0 : Heap) (ws : List Addr) (Q : Option Value → Heap → Prop) (T : State) (f : JFrame) : Prop :=
  ∃ (s₂ : State) (o : Outcome), Steps p.tables e below (T.setTop f) s₂ ∧ s₂.status = .running ∧ Ended s₂ below o ∧ ∃ v L, o = .returned v ∧ (Fr n0 L ∧ Keep h0 s₂.heap ws ∧ Q v s₂.heap) ∧ En o s₂ L
def own_F (s : State) (C S : Nat) (o : Outcome) (t : State) (L : List Loc) : Prop := FrameEnd s o t L C S
abbrev own_G (p : Program) (e : Env) (below : List Frame) (s : State) (n0 : Nat) (h0 : Heap) (ws : List Addr) (Q : Option Value → Heap → Prop) (C S : Nat) (T : State) (f : JFrame) : Prop := own_H p e below (own_F s C S) n0 h0 ws Q T f
def own_B (Z : State) (p : Program) (s : State) (m : MethodId) (meth : Method) (c : Code) (bytes : ByteArray) (maxL : Nat) (own nm : String) (rt : Option FieldType) : Prop :=
  p.tables.exec = Jvm.exec ∧ Z.Warmed39 s.vm ∧ c.code = bytes ∧ c.maxLocals = maxL ∧ s.vm.findClass own = some m.cls ∧ meth.name = nm ∧ meth.sig.returnType = rt ∧ meth.locks = false
/-- a contract -/
def own_C (l : Launch) (Z : State) (y : MethodName) (bytes : ByteArray) (maxL : Nat) (rt : Option FieldType) (cws : List Jvm.Cond) (rm : Room) (as : Array Value) (h0 : Heap) (n0 : Nat) (ws : List Addr) (Q : Option Value → Heap → Prop) (C S : Nat) : Prop :=
  MetFree l y (head1 (Jvm.Cond.code y bytes maxL rt :: cws) rm) (fun a U => a = as ∧ Z.Warmed39 U.vm ∧ U.heap = h0) (fun _ _ _ _ _ => True) (fun _ U o U' => ∃ v L, o = .returned v ∧ (Fr n0 L ∧ Keep h0 U'.heap ws ∧ Q v U'.heap) ∧ FrameEnd U o U' L C S)
theorem own_enter {y : MethodName} {cws : List Jvm.Cond} {rm : Room} {as : Array Value} {L0 : Array Slot} (hpl : plainFor y = true) (hef : ∀ m, entryFrame m as maxL = mkF m 0 L0 [])
    (body : ∀ p e s m below meth c T, own_B Z p s m meth c bytes maxL y.cls y.name rt → own_St p l e rm s m as below meth c n0 h0 ws T h0 0 0 → own_G p e below s n0 h0 ws Q C S T (mkF m 0 L0 [])) :
    own_C l Z y bytes maxL rt cws rm as h0 n0 ws Q C S := by
  show MetFree l y _ _ _ _
  refine MetFree.of_bodySF hpl hisR ?_
  intro p e s m args below meth c s₁ Bd hml0 hP hK
  obtain ⟨rfl, hZ, hh⟩ := hP
  have X0 : Stand p l e rm s m _ below meth c s₁ [] 0 0 := Stand.of_body Bd
  have e0 : s₁.heap = h0 := by rw [← hh, Bd.state]; rfl
  obtain ⟨s₂, o, h1, h2, h3, h4⟩ := body p e s m below meth c s₁ ⟨Bd.exec, hZ, Bd.bytes, hml0, findClass_of_methodNamed Bd.named, (name_of_methodNamed Bd.named Bd.method).1, Bd.returns, Bd.notSynchronized⟩ ⟨[], X0, Fr.nil n0, e0, Keep.refl _ _⟩
  exact ⟨s₂, o, castTop (hef m) h1, h2, h3, h4⟩
theorem own_st (X : own_St p l e R s m args below meth c n0 h0 ws T h C S) {f f' : JFrame} (k : own_H p e below En n0 h0 ws Q T f') (hst : ∀ t, At T m c below → Steps p.tables e below (T.setTop f') t → Steps p.tables e below (T.setTop f) t) : own_H p e below En n0 h0 ws Q T f := by
  obtain ⟨s₂, o, h1, h2⟩ := k
  obtain ⟨locs, Y, -⟩ := X
  exact ⟨s₂, o, hst _ Y.here h1, h2⟩
theorem own_tr {f f' : JFrame} (hst : ∀ t, Steps p.tables e below (T'.setTop f') t → Steps p.tables e below (T.setTop f) t) (k : own_H p e below En n0 h0 ws Q T' f') : own_H p e below En n0 h0 ws Q T f := by
  obtain ⟨s₂, o, h1, h2⟩ := k
  exact ⟨s₂, o, hst _ h1, h2⟩
theorem own_ret (X : own_St p l e R s m args below meth c n0 h0 ws T h C S) (B : own_B Z p s m meth c bytes maxL own nm rt) (hc : C ≤ C') (hs : S ≤ S') {v : Option Value} {f : JFrame} (hv : rt = none → v = none)
    (hst : ∀ locs fs, Stand p l e R s m args below meth c T locs C S → (∀ (f : JFrame) (acts : List Action), f.method = m → f.locked = none → f.entered = [] → (doReturn e (T.setTop f) acts v).1 = T.setFrames fs) → Steps p.tables e below (T.setTop f) (T.setFrames fs)) (q : Q v h) : own_G p e below s n0 h0 ws Q C' S' T f := by
  obtain ⟨locs, Y, N, e, K⟩ := X
  obtain ⟨-, -, -, -, -, -, hret, hlk⟩ := B
  obtain ⟨fs, hr, hrun, hended, hW, hsame⟩ := Y.leave (v := v) (fun h => hv (hret.symm.trans h)) hlk
  subst e
  exact ⟨_, _, hst locs fs Y hr, hrun, hended, _, _, rfl, ⟨N, K, q⟩, ⟨_, rfl⟩, hW, hsame.mono hc hs⟩
theorem own_iloadN (X : own_St p l e R s m args below meth c n0 h0 ws T h C S) (B : own_B Z p s m meth c bytes maxL own nm rt) {i : Fin 4} {v : Int32} (hd : decode bytes pc = .ok (.iload_n i, 1)) (hl : L[i.val]? = some (.val (.int v))) (hp : pc + 1 = pc') (k : own_H p e below En n0 h0 ws Q T (mkF m pc' L (.int v :: st))) : own_H p e below En n0 h0 ws Q T (mkF m pc L st) := by
  subst hp
  exact own_st X k (fun t A q => XS.iloadN A B.1 rfl (hb B.2.2.1 hd) hl q)
theorem own_iload (X : own_St p l e R s m args below meth c n0 h0 ws T h C S) (B : own_B Z p s m meth c bytes maxL own nm rt) {i : Nat} {v : Int32} (hd : decode bytes pc = .ok (.iload i, 2)) (hl : L[i]? = some (.val (.int v))) (hp : pc + 2 = pc') (k : own_H p e below En n0 h0 ws Q T (mkF m pc' L (.int v :: st))) : own_H p e below En n0 h0 ws Q T (mkF m pc L st) := by
  subst hp
  exact own_st X k (fun t A q => XS.iload A B.1 rfl (hb B.2.2.1 hd) hl q)
theorem own_istoreN (X : own_St p l e R s m args below meth c n0 h0 ws T h C S) (B : own_B Z p s m meth c bytes maxL own nm rt) {i : Fin 4} {v : Int32} (hd : decode bytes pc = .ok (.istore_n i, 1)) (hl : storeLocals L i.val (.int v) = some L') (hp : pc + 1 = pc') (k : own_H p e below En n0 h0 ws Q T (mkF m pc' L' st)) : own_H p e below En n0 h0 ws Q T (mkF m pc L (.int v :: st)) := by
  subst hp
  exact own_st X k (fun t A q => XS.istoreN A B.1 rfl (hb B.2.2.1 hd) rfl hl q)
theorem own_istore (X : own_St p l e R s m args below meth c n0 h0 ws T h C S) (B : own_B Z p s m meth c bytes maxL own nm rt) {i : Nat} {v : Int32} (hd : decode bytes pc = .ok (.istore i, 2)) (hl : storeLocals L i (.int v) = some L') (hp : pc + 2 = pc') (k : own_H p e below En n0 h0 ws Q T (mkF m pc' L' st)) : own_H p e below En n0 h0 ws Q T (mkF m pc L (.int v :: st)) := by
  subst hp
  exact own_st X k (fun t A q => XS.istore A B.1 rfl (hb B.2.2.1 hd) rfl hl q)
theorem own_lloadN (X : own_St p l e R s m args below meth c n0 h0 ws T h C S) (B : own_B Z p s m meth c bytes maxL own nm rt) {i : Fin 4} {v : Int64} (hd : decode bytes pc = .ok (.lload_n i, 1)) (hl : L[i.val]? = some (.val (.long v))) (hp : pc + 1 = pc') (k : own_H p e below En n0 h0 ws Q T (mkF m pc' L (.long v :: st))) : own_H p e below En n0 h0 ws Q T (mkF m pc L st) := by
  subst hp
  exact own_st X k (fun t A q => XS.lloadN A B.1 rfl (hb B.2.2.1 hd) hl q)
theorem own_lload (X : own_St p l e R s m args below meth c n0 h0 ws T h C S) (B : own_B Z p s m meth c bytes maxL own nm rt) {i : Nat} {v : Int64} (hd : decode bytes pc = .ok (.lload i, 2)) (hl : L[i]? = some (.val (.long v))) (hp : pc + 2 = pc') (k : own_H p e below En n0 h0 ws Q T (mkF m pc' L (.long v :: st))) : own_H p e below En n0 h0 ws Q T (mkF m pc L st) := by
  subst hp
  exact own_st X k (fun t A q => XS.lload A B.1 rfl (hb B.2.2.1 hd) hl q)
theorem own_lstoreN (X : own_St p l e R s m args below meth c n0 h0 ws T h C S) (B : own_B Z p s m meth c bytes maxL own nm rt) {i : Fin 4} {v : Int64} (hd : decode bytes pc = .ok (.lstore_n i, 1)) (hl : storeLocals L i.val (.long v) = some L') (hp : pc + 1 = pc') (k : own_H p e below En n0 h0 ws Q T (mkF m pc' L' st)) : own_H p e below En n0 h0 ws Q T (mkF m pc L (.long v :: st)) := by
  subst hp
  exact own_st X k (fun t A q => XS.lstoreN A B.1 rfl (hb B.2.2.1 hd) rfl hl q)
theorem own_lstore (X : own_St p l e R s m args below meth c n0 h0 ws T h C S) (B : own_B Z p s m meth c bytes maxL own nm rt) {i : Nat} {v : Int64} (hd : decode bytes pc = .ok (.lstore i, 2)) (hl : storeLocals L i (.long v) = some L') (hp : pc + 2 = pc') (k : own_H p e below En n0 h0 ws Q T (mkF m pc' L' st)) : own_H p e below En n0 h0 ws Q T (mkF m pc L (.long v :: st)) := by
  subst hp
  exact own_st X k (fun t A q => XS.lstore A B.1 rfl (hb B.2.2.1 hd) rfl hl q)
theorem own_aloadN (X : own_St p l e R s m args below meth c n0 h0 ws T h C S) (B : own_B Z p s m meth c bytes maxL own nm rt) {i : Fin 4} {v : Value} (hd : decode bytes pc = .ok (.aload_n i, 1)) (hl : L[i.val]? = some (.val v)) (hv : v.isRef = true) (hp : pc + 1 = pc') (k : own_H p e below En n0 h0 ws Q T (mkF m pc' L (v :: st))) : own_H p e below En n0 h0 ws Q T (mkF m pc L st) := by
  subst hp
  exact own_st X k (fun t A q => XS.aloadN A B.1 rfl (hb B.2.2.1 hd) hl hv q)
theorem own_aload (X : own_St p l e R s m args below meth c n0 h0 ws T h C S) (B : own_B Z p s m meth c bytes maxL own nm rt) {i : Nat} {v : Value} (hd : decode bytes pc = .ok (.aload i, 2)) (hl : L[i]? = some (.val v)) (hv : v.isRef = true) (hp : pc + 2 = pc') (k : own_H p e below En n0 h0 ws Q T (mkF m pc' L (v :: st))) : own_H p e below En n0 h0 ws Q T (mkF m pc L st) := by
  subst hp
  exact own_st X k (fun t A q => XS.aload A B.1 rfl (hb B.2.2.1 hd) hl hv q)
theorem own_astoreN (X : own_St p l e R s m args below meth c n0 h0 ws T h C S) (B : own_B Z p s m meth c bytes maxL own nm rt) {i : Fin 4} {v : Value} (hd : decode bytes pc = .ok (.astore_n i, 1)) (hv : v.isRef = true) (hl : storeLocals L i.val v = some L') (hp : pc + 1 = pc') (k : own_H p e below En n0 h0 ws Q T (mkF m pc' L' st)) : own_H p e below En n0 h0 ws Q T (mkF m pc L (v :: st)) := by
  subst hp
  exact own_st X k (fun t A q => XS.astoreN A B.1 rfl (hb B.2.2.1 hd) rfl hv hl q)
theorem own_astore (X : own_St p l e R s m args below meth c n0 h0 ws T h C S) (B : own_B Z p s m meth c bytes maxL own nm rt) {i : Nat} {v : Value} (hd : decode bytes pc = .ok (.astore i, 2)) (hv : v.isRef = true) (hl : storeLocals L i v = some L') (hp : pc + 2 = pc') (k : own_H p e below En n0 h0 ws Q T (mkF m pc' L' st)) : own_H p e below En n0 h0 ws Q T (mkF m pc L (v :: st)) := by
  subst hp
  exact own_st X k (fun t A q => XS.astore A B.1 rfl (hb B.2.2.1 hd) rfl hv hl q)
theorem own_iconst (X : own_St p l e R s m args below meth c n0 h0 ws T h C S) (B : own_B Z p s m meth c bytes maxL own nm rt) {i : Int} {v : Int32} (hd : decode bytes pc = .ok (.iconst i, 1)) (hv : Int32.ofInt i = v) (hp : pc + 1 = pc') (k : own_H p e below En n0 h0 ws Q T (mkF m pc' L (.int v :: st))) : own_H p e below En n0 h0 ws Q T (mkF m pc L st) := by
  subst hp hv
  exact own_st X k (fun t A q => XS.iconst A B.1 rfl (hb B.2.2.1 hd)  q)
theorem own_bipush (X : own_St p l e R s m args below meth c n0 h0 ws T h C S) (B : own_B Z p s m meth c bytes maxL own nm rt) {i : Int} {v : Int32} (hd : decode bytes pc = .ok (.bipush i, 2)) (hv : (Int8.ofInt i).toInt32 = v) (hp : pc + 2 = pc') (k : own_H p e below En n0 h0 ws Q T (mkF m pc' L (.int v :: st))) : own_H p e below En n0 h0 ws Q T (mkF m pc L st) := by
  subst hp hv
  exact own_st X k (fun t A q => XS.bipush A B.1 rfl (hb B.2.2.1 hd)  q)
theorem own_sipush (X : own_St p l e R s m args below meth c n0 h0 ws T h C S) (B : own_B Z p s m meth c bytes maxL own nm rt) {i : Int} {v : Int32} (hd : decode bytes pc = .ok (.sipush i, 3)) (hv : (Int16.ofInt i).toInt32 = v) (hp : pc + 3 = pc') (k : own_H p e below En n0 h0 ws Q T (mkF m pc' L (.int v :: st))) : own_H p e below En n0 h0 ws Q T (mkF m pc L st) := by
  subst hp hv
  exact own_st X k (fun t A q => XS.sipush A B.1 rfl (hb B.2.2.1 hd)  q)
theorem own_lconst (X : own_St p l e R s m args below meth c n0 h0 ws T h C S) (B : own_B Z p s m meth c bytes maxL own nm rt) {i : Fin 2} {v : Int64} (hd : decode bytes pc = .ok (.lconst i, 1)) (hv : Int64.ofNat i = v) (hp : pc + 1 = pc') (k : own_H p e below En n0 h0 ws Q T (mkF m pc' L (.long v :: st))) : own_H p e below En n0 h0 ws Q T (mkF m pc L st) := by
  subst hp hv
  exact own_st X k (fun t A q => XS.lconst A B.1 rfl (hb B.2.2.1 hd)  q)
theorem own_aconst_null (X : own_St p l e R s m args below meth c n0 h0 ws T h C S) (B : own_B Z p s m meth c bytes maxL own nm rt)  (hd : decode bytes pc = .ok (.aconst_null, 1)) (hp : pc + 1 = pc') (k : own_H p e below En n0 h0 ws Q T (mkF m pc' L (.null :: st))) : own_H p e below En n0 h0 ws Q T (mkF m pc L st) := by
  subst hp
  exact own_st X k (fun t A q => XS.aconstNull A B.1 rfl (hb B.2.2.1 hd)  q)
theorem own_iadd (X : own_St p l e R s m args below meth c n0 h0 ws T h C S) (B : own_B Z p s m meth c bytes maxL own nm rt) {x y : Int32} (hd : decode bytes pc = .ok (.iadd, 1)) (hp : pc + 1 = pc') (k : own_H p e below En n0 h0 ws Q T (mkF m pc' L (.int (x + y) :: st))) : own_H p e below En n0 h0 ws Q T (mkF m pc L (.int y :: .int x :: st)) := by
  subst hp
  exact own_st X k (fun t A q => XS.iadd A B.1 rfl (hb B.2.2.1 hd) rfl q)
theorem own_ladd (X : own_St p l e R s m args below meth c n0 h0 ws T h C S) (B : own_B Z p s m meth c bytes maxL own nm rt) {x y : Int64} (hd : decode bytes pc = .ok (.ladd, 1)) (hp : pc + 1 = pc') (k : own_H p e below En n0 h0 ws Q T (mkF m pc' L (.long (x + y) :: st))) : own_H p e below En n0 h0 ws Q T (mkF m pc L (.long y :: .long x :: st)) := by
  subst hp
  exact own_st X k (fun t A q => XS.ladd A B.1 rfl (hb B.2.2.1 hd) rfl q)
theorem own_isub (X : own_St p l e R s m args below meth c n0 h0 ws T h C S) (B : own_B Z p s m meth c bytes maxL own nm rt) {x y : Int32} (hd : decode bytes pc = .ok (.isub, 1)) (hp : pc + 1 = pc') (k : own_H p e below En n0 h0 ws Q T (mkF m pc' L (.int (x - y) :: st))) : own_H p e below En n0 h0 ws Q T (mkF m pc L (.int y :: .int x :: st)) := by
  subst hp
  exact own_st X k (fun t A q => XS.isub A B.1 rfl (hb B.2.2.1 hd) rfl q)
theorem own_lsub (X : own_St p l e R s m args below meth c n0 h0 ws T h C S) (B : own_B Z p s m meth c bytes maxL own nm rt) {x y : Int64} (hd : decode bytes pc = .ok (.lsub, 1)) (hp : pc + 1 = pc') (k : own_H p e below En n0 h0 ws Q T (mkF m pc' L (.long (x - y) :: st))) : own_H p e below En n0 h0 ws Q T (mkF m pc L (.long y :: .long x :: st)) := by
  subst hp
  exact own_st X k (fun t A q => XS.lsub A B.1 rfl (hb B.2.2.1 hd) rfl q)
theorem own_imul (X : own_St p l e R s m args below meth c n0 h0 ws T h C S) (B : own_B Z p s m meth c bytes maxL own nm rt) {x y : Int32} (hd : decode bytes pc = .ok (.imul, 1)) (hp : pc + 1 = pc') (k : own_H p e below En n0 h0 ws Q T (mkF m pc' L (.int (x * y) :: st))) : own_H p e below En n0 h0 ws Q T (mkF m pc L (.int y :: .int x :: st)) := by
  subst hp
  exact own_st X k (fun t A q => XS.imul A B.1 rfl (hb B.2.2.1 hd) rfl q)
theorem own_lmul (X : own_St p l e R s m args below meth c n0 h0 ws T h C S) (B : own_B Z p s m meth c bytes maxL own nm rt) {x y : Int64} (hd : decode bytes pc = .ok (.lmul, 1)) (hp : pc + 1 = pc') (k : own_H p e below En n0 h0 ws Q T (mkF m pc' L (.long (x * y) :: st))) : own_H p e below En n0 h0 ws Q T (mkF m pc L (.long y :: .long x :: st)) := by
  subst hp
  exact own_st X k (fun t A q => XS.lmul A B.1 rfl (hb B.2.2.1 hd) rfl q)
theorem own_iand (X : own_St p l e R s m args below meth c n0 h0 ws T h C S) (B : own_B Z p s m meth c bytes maxL own nm rt) {x y : Int32} (hd : decode bytes pc = .ok (.iand, 1)) (hp : pc + 1 = pc') (k : own_H p e below En n0 h0 ws Q T (mkF m pc' L (.int (x &&& y) :: st))) : own_H p e below En n0 h0 ws Q T (mkF m pc L (.int y :: .int x :: st)) := by
  subst hp
  exact own_st X k (fun t A q => XS.iand A B.1 rfl (hb B.2.2.1 hd) rfl q)
theorem own_land (X : own_St p l e R s m args below meth c n0 h0 ws T h C S) (B : own_B Z p s m meth c bytes maxL own nm rt) {x y : Int64} (hd : decode bytes pc = .ok (.land, 1)) (hp : pc + 1 = pc') (k : own_H p e below En n0 h0 ws Q T (mkF m pc' L (.long (x &&& y) :: st))) : own_H p e below En n0 h0 ws Q T (mkF m pc L (.long y :: .long x :: st)) := by
  subst hp
  exact own_st X k (fun t A q => XS.land A B.1 rfl (hb B.2.2.1 hd) rfl q)
theorem own_ior (X : own_St p l e R s m args below meth c n0 h0 ws T h C S) (B : own_B Z p s m meth c bytes maxL own nm rt) {x y : Int32} (hd : decode bytes pc = .ok (.ior, 1)) (hp : pc + 1 = pc') (k : own_H p e below En n0 h0 ws Q T (mkF m pc' L (.int (x ||| y) :: st))) : own_H p e below En n0 h0 ws Q T (mkF m pc L (.int y :: .int x :: st)) := by
  subst hp
  exact own_st X k (fun t A q => XS.ior A B.1 rfl (hb B.2.2.1 hd) rfl q)
theorem own_lor (X : own_St p l e R s m args below meth c n0 h0 ws T h C S) (B : own_B Z p s m meth c bytes maxL own nm rt) {x y : Int64} (hd : decode bytes pc = .ok (.lor, 1)) (hp : pc + 1 = pc') (k : own_H p e below En n0 h0 ws Q T (mkF m pc' L (.long (x ||| y) :: st))) : own_H p e below En n0 h0 ws Q T (mkF m pc L (.long y :: .long x :: st)) := by
  subst hp
  exact own_st X k (fun t A q => XS.lor A B.1 rfl (hb B.2.2.1 hd) rfl q)
theorem own_ixor (X : own_St p l e R s m args below meth c n0 h0 ws T h C S) (B : own_B Z p s m meth c bytes maxL own nm rt) {x y : Int32} (hd : decode bytes pc = .ok (.ixor, 1)) (hp : pc + 1 = pc') (k : own_H p e below En n0 h0 ws Q T (mkF m pc' L (.int (x ^^^ y) :: st))) : own_H p e below En n0 h0 ws Q T (mkF m pc L (.int y :: .int x :: st)) := by
  subst hp
  exact own_st X k (fun t A q => XS.ixor A B.1 rfl (hb B.2.2.1 hd) rfl q)
theorem own_lxor (X : own_St p l e R s m args below meth c n0 h0 ws T h C S) (B : own_B Z p s m meth c bytes maxL own nm rt) {x y : Int64} (hd : decode bytes pc = .ok (.lxor, 1)) (hp : pc + 1 = pc') (k : own_H p e below En n0 h0 ws Q T (mkF m pc' L (.long (x ^^^ y) :: st))) : own_H p e below En n0 h0 ws Q T (mkF m pc L (.long y :: .long x :: st)) := by
  subst hp
  exact own_st X k (fun t A q => XS.lxor A B.1 rfl (hb B.2.2.1 hd) rfl q)
theorem own_ishl (X : own_St p l e R s m args below meth c n0 h0 ws T h C S) (B : own_B Z p s m meth c bytes maxL own nm rt) {x y : Int32} (hd : decode bytes pc = .ok (.ishl, 1)) (hp : pc + 1 = pc') (k : own_H p e below En n0 h0 ws Q T (mkF m pc' L (.int (x <<< (y &&& 31)) :: st))) : own_H p e below En n0 h0 ws Q T (mkF m pc L (.int y :: .int x :: st)) := by
  subst hp
  exact own_st X k (fun t A q => XS.ishl A B.1 rfl (hb B.2.2.1 hd) rfl q)
theorem own_ishr (X : own_St p l e R s m args below meth c n0 h0 ws T h C S) (B : own_B Z p s m meth c bytes maxL own nm rt) {x y : Int32} (hd : decode bytes pc = .ok (.ishr, 1)) (hp : pc + 1 = pc') (k : own_H p e below En n0 h0 ws Q T (mkF m pc' L (.int (x >>> (y &&& 31)) :: st))) : own_H p e below En n0 h0 ws Q T (mkF m pc L (.int y :: .int x :: st)) := by
  subst hp
  exact own_st X k (fun t A q => XS.ishr A B.1 rfl (hb B.2.2.1 hd) rfl q)
theorem own_iushr (X : own_St p l e R s m args below meth c n0 h0 ws T h C S) (B : own_B Z p s m meth c bytes maxL own nm rt) {x y : Int32} (hd : decode bytes pc = .ok (.iushr, 1)) (hp : pc + 1 = pc') (k : own_H p e below En n0 h0 ws Q T (mkF m pc' L (.int ((x.toUInt32 >>> (y &&& 31).toUInt32).toInt32) :: st))) : own_H p e below En n0 h0 ws Q T (mkF m pc L (.int y :: .int x :: st)) := by
  subst hp
  exact own_st X k (fun t A q => XS.iushr A B.1 rfl (hb B.2.2.1 hd) rfl q)
theorem own_lshl (X : own_St p l e R s m args below meth c n0 h0 ws T h C S) (B : own_B Z p s m meth c bytes maxL own nm rt) {x : Int64} {y : Int32} (hd : decode bytes pc = .ok (.lshl, 1)) (hp : pc + 1 = pc') (k : own_H p e below En n0 h0 ws Q T (mkF m pc' L (.long (x <<< (y &&& 0x3f).toInt64) :: st))) : own_H p e below En n0 h0 ws Q T (mkF m pc L (.int y :: .long x :: st)) := by
  subst hp
  exact own_st X k (fun t A q => XS.lshl A B.1 rfl (hb B.2.2.1 hd) rfl q)
theorem own_lshr (X : own_St p l e R s m args below meth c n0 h0 ws T h C S) (B : own_B Z p s m meth c bytes maxL own nm rt) {x : Int64} {y : Int32} (hd : decode bytes pc = .ok (.lshr, 1)) (hp : pc + 1 = pc') (k : own_H p e below En n0 h0 ws Q T (mkF m pc' L (.long (x >>> (y &&& 0x3f).toInt64) :: st))) : own_H p e below En n0 h0 ws Q T (mkF m pc L (.int y :: .long x :: st)) := by
  subst hp
  exact own_st X k (fun t A q => XS.lshr A B.1 rfl (hb B.2.2.1 hd) rfl q)
theorem own_lushr (X : own_St p l e R s m args below meth c n0 h0 ws T h C S) (B : own_B Z p s m meth c bytes maxL own nm rt) {x : Int64} {y : Int32} (hd : decode bytes pc = .ok (.lushr, 1)) (hp : pc + 1 = pc') (k : own_H p e below En n0 h0 ws Q T (mkF m pc' L (.long ((x.toUInt64 >>> (y &&& 0x3f).toInt64.toUInt64).toInt64) :: st))) : own_H p e below En n0 h0 ws Q T (mkF m pc L (.int y :: .long x :: st)) := by
  subst hp
  exact own_st X k (fun t A q => XS.lushr A B.1 rfl (hb B.2.2.1 hd) rfl q)
theorem own_idiv (X : own_St p l e R s m args below meth c n0 h0 ws T h C S) (B : own_B Z p s m meth c bytes maxL own nm rt) {x y : Int32} (hd : decode bytes pc = .ok (.idiv, 1)) (hy : y ≠ 0) (hp : pc + 1 = pc') (k : own_H p e below En n0 h0 ws Q T (mkF m pc' L (.int (x / y) :: st))) : own_H p e below En n0 h0 ws Q T (mkF m pc L (.int y :: .int x :: st)) := by
  subst hp
  exact own_st X k (fun t A q => XS.idiv A B.1 rfl (hb B.2.2.1 hd) rfl hy q)
theorem own_irem (X : own_St p l e R s m args below meth c n0 h0 ws T h C S) (B : own_B Z p s m meth c bytes maxL own nm rt) {x y : Int32} (hd : decode bytes pc = .ok (.irem, 1)) (hy : y ≠ 0) (hp : pc + 1 = pc') (k : own_H p e below En n0 h0 ws Q T (mkF m pc' L (.int (x % y) :: st))) : own_H p e below En n0 h0 ws Q T (mkF m pc L (.int y :: .int x :: st)) := by
  subst hp
  obtain ⟨locs, Y, -⟩ := X
  exact own_tr (fun t q => iremM Y B.1 (g := mkF m pc L (.int y :: .int x :: st)) rfl (hb B.2.2.1 hd) rfl hy q) k
theorem own_lrem (X : own_St p l e R s m args below meth c n0 h0 ws T h C S) (B : own_B Z p s m meth c bytes maxL own nm rt) {x y : Int64} (hd : decode bytes pc = .ok (.lrem, 1)) (hy : y ≠ 0) (hp : pc + 1 = pc') (k : own_H p e below En n0 h0 ws Q T (mkF m pc' L (.long (x % y) :: st))) : own_H p e below En n0 h0 ws Q T (mkF m pc L (.long y :: .long x :: st)) := by
  subst hp
  exact own_st X k (fun t A q => XS.lrem A B.1 rfl (hb B.2.2.1 hd) rfl hy (by rw [lrem_mod x y]; exact q))
theorem own_i2l (X : own_St p l e R s m args below meth c n0 h0 ws T h C S) (B : own_B Z p s m meth c bytes maxL own nm rt) {x : Int32} (hd : decode bytes pc = .ok (.i2l, 1)) (hp : pc + 1 = pc') (k : own_H p e below En n0 h0 ws Q T (mkF m pc' L (.long x.toInt64 :: st))) : own_H p e below En n0 h0 ws Q T (mkF m pc L (.int x :: st)) := by
  subst hp
  exact own_st X k (fun t A q => XS.i2l A B.1 rfl (hb B.2.2.1 hd) rfl q)
theorem own_l2i (X : own_St p l e R s m args below meth c n0 h0 ws T h C S) (B : own_B Z p s m meth c bytes maxL own nm rt) {x : Int64} (hd : decode bytes pc = .ok (.l2i, 1)) (hp : pc + 1 = pc') (k : own_H p e below En n0 h0 ws Q T (mkF m pc' L (.int x.toInt32 :: st))) : own_H p e below En n0 h0 ws Q T (mkF m pc L (.long x :: st)) := by
  subst hp
  exact own_st X k (fun t A q => XS.l2i A B.1 rfl (hb B.2.2.1 hd) rfl q)
theorem own_lcmp (X : own_St p l e R s m args below meth c n0 h0 ws T h C S) (B : own_B Z p s m meth c bytes maxL own nm rt) {x y : Int64} (hd : decode bytes pc = .ok (.lcmp, 1)) (hp : pc + 1 = pc') (k : own_H p e below En n0 h0 ws Q T (mkF m pc' L (.int (lcmpW x y) :: st))) : own_H p e below En n0 h0 ws Q T (mkF m pc L (.long y :: .long x :: st)) := by
  subst hp
  exact own_st X k (fun t A q => XS.lcmp A B.1 rfl (hb B.2.2.1 hd) rfl q)
theorem own_dup (X : own_St p l e R s m args below meth c n0 h0 ws T h C S) (B : own_B Z p s m meth c bytes maxL own nm rt) {v : Value} (hd : decode bytes pc = .ok (.dup, 1)) (hv : v.category = 1) (hp : pc + 1 = pc') (k : own_H p e below En n0 h0 ws Q T (mkF m pc' L (v :: v :: st))) : own_H p e below En n0 h0 ws Q T (mkF m pc L (v :: st)) := by
  subst hp
  exact own_st X k (fun t A q => XS.dup A B.1 rfl (hb B.2.2.1 hd) rfl hv q)
theorem own_pop (X : own_St p l e R s m args below meth c n0 h0 ws T h C S) (B : own_B Z p s m meth c bytes maxL own nm rt) {v : Value} (hd : decode bytes pc = .ok (.pop, 1)) (hv : v.category = 1) (hp : pc + 1 = pc') (k : own_H p e below En n0 h0 ws Q T (mkF m pc' L st)) : own_H p e below En n0 h0 ws Q T (mkF m pc L (v :: st)) := by
  subst hp
  exact own_st X k (fun t A q => XS.pop A B.1 rfl (hb B.2.2.1 hd) rfl hv q)
theorem own_dup2 (X : own_St p l e R s m args below meth c n0 h0 ws T h C S) (B : own_B Z p s m meth c bytes maxL own nm rt) {x y : Value} (hd : decode bytes pc = .ok (.dup2, 1)) (hx' : x.category = 1) (hy' : y.category = 1) (hp : pc + 1 = pc') (k : own_H p e below En n0 h0 ws Q T (mkF m pc' L (x :: y :: x :: y :: st))) : own_H p e below En n0 h0 ws Q T (mkF m pc L (x :: y :: st)) := by
  subst hp
  exact own_st X k (fun t A q => Jvm.Free.XT.dup2 A B.1 rfl (hb B.2.2.1 hd) rfl hx' hy' q)
theorem own_iinc (X : own_St p l e R s m args below meth c n0 h0 ws T h C S) (B : own_B Z p s m meth c bytes maxL own nm rt) {i : Nat} {cst : Int} {x : Int32} (hd : decode bytes pc = .ok (.iinc i cst, 3)) (hl : L[i]? = some (.val (.int x))) (hl' : storeLocals L i (.int (x + Int32.ofInt cst)) = some L') (hp : pc + 3 = pc') (k : own_H p e below En n0 h0 ws Q T (mkF m pc' L' st)) : own_H p e below En n0 h0 ws Q T (mkF m pc L st) := by
  subst hp
  exact own_st X k (fun t A q => XS.iinc A B.1 rfl (hb B.2.2.1 hd) hl hl' q)
theorem own_goto (X : own_St p l e R s m args below meth c n0 h0 ws T h C S) (B : own_B Z p s m meth c bytes maxL own nm rt) {o : Int} (hd : decode bytes pc = .ok (.goto o, 3)) (ho : 0 ≤ (pc : Int) + o) (hp : ((pc : Int) + o).toNat = pc') (k : own_H p e below En n0 h0 ws Q T (mkF m pc' L st)) : own_H p e below En n0 h0 ws Q T (mkF m pc L st) := own_st X k (fun t A q => XS.goto A B.1 rfl rfl (hb B.2.2.1 hd) ho hp q)
theorem own_icmpT (X : own_St p l e R s m args below meth c n0 h0 ws T h C S) (B : own_B Z p s m meth c bytes maxL own nm rt) {cd : ClassFile.Cond} {o : Int} {x y : Int32} (hd : decode bytes pc = .ok (.if_icmp cd o, 3)) (hc : if_icmp.holds cd x y = true) (ho : 0 ≤ (pc : Int) + o) (hp : ((pc : Int) + o).toNat = pc') (k : own_H p e below En n0 h0 ws Q T (mkF m pc' L st)) : own_H p e below En n0 h0 ws Q T (mkF m pc L (.int y :: .int x :: st)) := own_st X k (fun t A q => XS.icmpYes A B.1 rfl rfl (hb B.2.2.1 hd) rfl hc ho hp q)
theorem own_icmpF (X : own_St p l e R s m args below meth c n0 h0 ws T h C S) (B : own_B Z p s m meth c bytes maxL own nm rt) {cd : ClassFile.Cond} {o : Int} {x y : Int32} (hd : decode bytes pc = .ok (.if_icmp cd o, 3)) (hc : if_icmp.holds cd x y = false) (hp : pc + 3 = pc') (k : own_H p e below En n0 h0 ws Q T (mkF m pc' L st)) : own_H p e below En n0 h0 ws Q T (mkF m pc L (.int y :: .int x :: st)) := by
  subst hp
  exact own_st X k (fun t A q => XS.icmpNo A B.1 rfl (hb B.2.2.1 hd) rfl hc q)
theorem own_ifT (X : own_St p l e R s m args below meth c n0 h0 ws T h C S) (B : own_B Z p s m meth c bytes maxL own nm rt) {cd : ClassFile.Cond} {o : Int} {x : Int32} (hd : decode bytes pc = .ok (.ifCond cd o, 3)) (hc : if_icmp.holds cd x 0 = true) (ho : 0 ≤ (pc : Int) + o) (hp : ((pc : Int) + o).toNat = pc') (k : own_H p e below En n0 h0 ws Q T (mkF m pc' L st)) : own_H p e below En n0 h0 ws Q T (mkF m pc L (.int x :: st)) := own_st X k (fun t A q => XS.ifYes A B.1 rfl rfl (hb B.2.2.1 hd) rfl ((if0 _ _).trans hc) ho hp q)
theorem own_ifF (X : own_St p l e R s m args below meth c n0 h0 ws T h C S) (B : own_B Z p s m meth c bytes maxL own nm rt) {cd : ClassFile.Cond} {o : Int} {x : Int32} (hd : decode bytes pc = .ok (.ifCond cd o, 3)) (hc : if_icmp.holds cd x 0 = false) (hp : pc + 3 = pc') (k : own_H p e below En n0 h0 ws Q T (mkF m pc' L st)) : own_H p e below En n0 h0 ws Q T (mkF m pc L (.int x :: st)) := by
  subst hp
  exact own_st X k (fun t A q => XS.ifNo A B.1 rfl (hb B.2.2.1 hd) rfl ((if0 _ _).trans hc) q)
theorem own_ifnullT (X : own_St p l e R s m args below meth c n0 h0 ws T h C S) (B : own_B Z p s m meth c bytes maxL own nm rt) {o : Int} (hd : decode bytes pc = .ok (.ifnull o, 3)) (ho : 0 ≤ (pc : Int) + o) (hp : ((pc : Int) + o).toNat = pc') (k : own_H p e below En n0 h0 ws Q T (mkF m pc' L st)) : own_H p e below En n0 h0 ws Q T (mkF m pc L (.null :: st)) := own_st X k (fun t A q => XS.ifnullYes A B.1 rfl rfl (hb B.2.2.1 hd) rfl ho hp q)
theorem own_ifnullF (X : own_St p l e R s m args below meth c n0 h0 ws T h C S) (B : own_B Z p s m meth c bytes maxL own nm rt) {o : Int} {b : Addr} (hd : decode bytes pc = .ok (.ifnull o, 3)) (hp : pc + 3 = pc') (k : own_H p e below En n0 h0 ws Q T (mkF m pc' L st)) : own_H p e below En n0 h0 ws Q T (mkF m pc L (.ref b :: st)) := by
  subst hp
  exact own_st X k (fun t A q => XS.ifnullNo A B.1 rfl (hb B.2.2.1 hd) rfl q)
theorem own_ifnonnullT (X : own_St p l e R s m args below meth c n0 h0 ws T h C S) (B : own_B Z p s m meth c bytes maxL own nm rt) {o : Int} {b : Addr} (hd : decode bytes pc = .ok (.ifnonnull o, 3)) (ho : 0 ≤ (pc : Int) + o) (hp : ((pc : Int) + o).toNat = pc') (k : own_H p e below En n0 h0 ws Q T (mkF m pc' L st)) : own_H p e below En n0 h0 ws Q T (mkF m pc L (.ref b :: st)) := own_st X k (fun t A q => XS.ifnonnullYes A B.1 rfl rfl (hb B.2.2.1 hd) rfl ho hp q)
theorem own_ifnonnullF (X : own_St p l e R s m args below meth c n0 h0 ws T h C S) (B : own_B Z p s m meth c bytes maxL own nm rt) {o : Int} (hd : decode bytes pc = .ok (.ifnonnull o, 3)) (hp : pc + 3 = pc') (k : own_H p e below En n0 h0 ws Q T (mkF m pc' L st)) : own_H p e below En n0 h0 ws Q T (mkF m pc L (.null :: st)) := by
  subst hp
  exact own_st X k (fun t A q => XS.ifnonnullNo A B.1 rfl (hb B.2.2.1 hd) rfl q)
theorem own_acmpSame (X : own_St p l e R s m args below meth c n0 h0 ws T h C S) (B : own_B Z p s m meth c bytes maxL own nm rt) {o : Int} {a : Addr} (hd : decode bytes pc = .ok (.if_acmp .eq o, 3)) (ho : 0 ≤ (pc : Int) + o) (hp : ((pc : Int) + o).toNat = pc') (k : own_H p e below En n0 h0 ws Q T (mkF m pc' L st)) : own_H p e below En n0 h0 ws Q T (mkF m pc L (.ref a :: .ref a :: st)) := by
  obtain ⟨locs, Y, -⟩ := X
  exact own_tr (fun t q => Jvm.RoadKit.acmp (g := mkF m pc L (.ref a :: .ref a :: st)) Y B.1 rfl rfl rfl (pc0 := pc) (pc' := pc') (same := true) rfl (hb B.2.2.1 hd) rfl (decide_eq_true rfl) ho (hp.symm.trans (if_pos (show acV ACond.eq true = true from rfl)).symm) q) k
theorem own_iret (X : own_St p l e R s m args below meth c n0 h0 ws T h C S) (B : own_B Z p s m meth c bytes maxL own nm (some .int)) {x : Int32} (hd : decode bytes pc = .ok (.ireturn, 1)) (hc : C ≤ C') (hs : S ≤ S') (q : Q (some (.int x)) h) : own_G p e below s n0 h0 ws Q C' S' T (mkF m pc L (.int x :: st)) :=
  own_ret X B hc hs (v := some (.int x)) (fun h => by cases h) (fun locs fs Y hr => retOut Y B.1 B.2.2.2.2.2.2.1 rfl (Or.inl ⟨rfl, Or.inl rfl, _, rfl⟩) (hb B.2.2.1 hd) hr) q
theorem own_zret (X : own_St p l e R s m args below meth c n0 h0 ws T h C S) (B : own_B Z p s m meth c bytes maxL own nm (some .boolean)) {x : Int32} (hd : decode bytes pc = .ok (.ireturn, 1)) (hc : C ≤ C') (hs : S ≤ S') (hx : x &&& 1 = x) (q : Q (some (.int x)) h) : own_G p e below s n0 h0 ws Q C' S' T (mkF m pc L (.int x :: st)) :=
  own_ret X B hc hs (v := some (.int x)) (fun h => by cases h) (fun locs fs Y hr => retN Y B.1 (t := .boolean) B.2.2.2.2.2.2.1 (by simp) (hb B.2.2.1 hd) (by show ∀ (f : JFrame) (acts : List Action), f.method = m → f.locked = none → f.entered = [] → (doReturn e (T.setTop f) acts (some (.int (x &&& 1)))).1 = T.setFrames fs; rw [hx]; exact hr)) q
theorem own_lret (X : own_St p l e R s m args below meth c n0 h0 ws T h C S) (B : own_B Z p s m meth c bytes maxL own nm (some .long)) {x : Int64} (hd : decode bytes pc = .ok (.lreturn, 1)) (hc : C ≤ C') (hs : S ≤ S') (q : Q (some (.long x)) h) : own_G p e below s n0 h0 ws Q C' S' T (mkF m pc L (.long x :: st)) :=
  own_ret X B hc hs (v := some (.long x)) (fun h => by cases h) (fun locs fs Y hr => retOut Y B.1 B.2.2.2.2.2.2.1 rfl (Or.inr (Or.inl ⟨rfl, rfl, _, rfl⟩)) (hb B.2.2.1 hd) hr) q
theorem own_aret (X : own_St p l e R s m args below meth c n0 h0 ws T h C S) {ft : FieldType} (B : own_B Z p s m meth c bytes maxL own nm (some ft)) {x : Value} (hd : decode bytes pc = .ok (.areturn, 1)) (hft : ft.isReference = true) (hx : x.isRef = true) (hnx : narrow ft x = x) (hc : C ≤ C') (hs : S ≤ S') (q : Q (some x) h) : own_G p e below s n0 h0 ws Q C' S' T (mkF m pc L (x :: st)) :=
  own_ret X B hc hs (v := some x) (fun h => by cases h) (fun locs fs Y hr => retOut Y B.1 B.2.2.2.2.2.2.1 hnx (Or.inr (Or.inr (Or.inr (Or.inr ⟨rfl, hft, hx⟩)))) (hb B.2.2.1 hd) hr) q
theorem own_vret (X : own_St p l e R s m args below meth c n0 h0 ws T h C S) (B : own_B Z p s m meth c bytes maxL own nm none) (hd : decode bytes pc = .ok (.return_, 1)) (hc : C ≤ C') (hs : S ≤ S') (q : Q none h) : own_G p e below s n0 h0 ws Q C' S' T (mkF m pc L []) :=
  own_ret X B hc hs (v := none) (fun _ => rfl) (fun locs fs Y hr => Y.returnOut B.1 B.2.2.2.2.2.2.1 (hb B.2.2.1 hd) hr) q
/-! fields, objects -/
theorem own_lit (X : own_St p l e R s m args below meth c n0 h0 ws T h C S) (B : own_B Z p s m meth c bytes maxL own nm rt) {i : Nat} {v : Int32} (w : (Jvm.Cond.constant own i v).before a0 Z = true) (hd : decode bytes pc = .ok (.ldc i, 2)) (hp : pc + 2 = pc') (k : own_H p e below En n0 h0 ws Q T (mkF m pc' L (.int v :: st))) : own_H p e below En n0 h0 ws Q T (mkF m pc L st) := by
  subst hp
  obtain ⟨locs, Y, -⟩ := X
  exact own_tr (Y.ldcInt B.1 B.2.2.2.2.1 (mvT B.2.1 w) (g := mkF m pc L st) rfl (hb B.2.2.1 hd)) k
theorem own_litL (X : own_St p l e R s m args below meth c n0 h0 ws T h C S) (B : own_B Z p s m meth c bytes maxL own nm rt) {i : Nat} {v : Int64} (w : (Jvm.Cond.constantLong own i v).before a0 Z = true) (hd : decode bytes pc = .ok (.ldc2_w i, 3)) (hp : pc + 3 = pc') (k : own_H p e below En n0 h0 ws Q T (mkF m pc' L (.long v :: st))) : own_H p e below En n0 h0 ws Q T (mkF m pc L st) := by
  subst hp
  obtain ⟨locs, Y, -⟩ := X
  exact own_tr (Y.ldc2Long B.1 B.2.2.2.2.1 (mvT B.2.1 w) (g := mkF m pc L st) rfl (hb B.2.2.1 hd)) k
theorem own_getF (X : own_St p l e R s m args below meth c n0 h0 ws T h C S) (B : own_B Z p s m meth c bytes maxL own nm rt) {i : Nat} {O n d : String} (w : (Jvm.Cond.fieldLink own i O n d).before a0 Z = true) {a : Addr} {v : Value} (F : Fld Z h a O n d v) (hd : decode bytes pc = .ok (.getfield i, 3)) (hp : pc + 3 = pc')
    (k : ∀ T, own_St p l e R s m args below meth c n0 h0 ws T h C S → own_H p e below En n0 h0 ws Q T (mkF m pc' L (v :: st))) : own_H p e below En n0 h0 ws Q T (mkF m pc L (.ref a :: st)) := by
  subst hp
  obtain ⟨locs, Y, N, e, K⟩ := X
  obtain ⟨T1, Y1, e1, st1⟩ := getF Y B.1 B.2.1 B.2.2.2.2.1 (host := "") (Or.inl w) Via.refl e F (g := mkF m pc L (.ref a :: st)) rfl rfl (hb B.2.2.1 hd)
  exact own_tr st1 (k T1 ⟨locs, Y1, N, e1, K⟩)
theorem own_getN (X : own_St p l e R s m args below meth c n0 h0 ws T h C S) (B : own_B Z p s m meth c bytes maxL own nm rt) {i : Nat} {O n d host : String} (w : (Jvm.Cond.fieldLinkNest own i O n d host).before a0 Z = true) {a : Addr} {v : Value} (F : Fld Z h a O n d v) (hd : decode bytes pc = .ok (.getfield i, 3)) (hp : pc + 3 = pc')
    (k : ∀ T, own_St p l e R s m args below meth c n0 h0 ws T h C S → own_H p e below En n0 h0 ws Q T (mkF m pc' L (v :: st))) : own_H p e below En n0 h0 ws Q T (mkF m pc L (.ref a :: st)) := by
  subst hp
  obtain ⟨locs, Y, N, e, K⟩ := X
  obtain ⟨T1, Y1, e1, st1⟩ := getF Y B.1 B.2.1 B.2.2.2.2.1 (host := host) (Or.inr w) Via.refl e F (g := mkF m pc L (.ref a :: st)) rfl rfl (hb B.2.2.1 hd)
  exact own_tr st1 (k T1 ⟨locs, Y1, N, e1, K⟩)
theorem own_putF (X : own_St p l e R s m args below meth c n0 h0 ws T h C S) (B : own_B Z p s m meth c bytes maxL own nm rt) {i kk : Nat} {O n d K0 : String} (w : (Jvm.Cond.fieldLink own i O n d).before a0 Z = true) {a : Addr} {v old : Value} {ty : FieldType} (F : Fld Z h a O n d old) (E : Exa Z h a K0) (Lw : (Jvm.Cond.lays K0 O n d).before a0 Z = true ∨ ((Jvm.Cond.laysFinal K0 O n d).before a0 Z = true ∧ own = O ∧ nm = "<init>")) (wi : (Jvm.Cond.instantiable K0 kk).before a0 Z = true)
    (hty : parseFieldDescriptor d = some ty) (hn : narrow ty v = v) (hf : fits ty v = true) (hw1 : n0 ≤ a) (hw2 : a ∈ ws ∨ h0.size ≤ a) (hd : decode bytes pc = .ok (.putfield i, 3)) (hp : pc + 3 = pc')
    (k : ∀ T h', own_St p l e R s m args below meth c n0 h0 ws T h' C S → Wr h h' a (Jvm.RoadKit.slotOf Z O n d) v → Keep h h' [a] → Exa Z h' a K0 → Fld Z h' a O n d v → own_H p e below En n0 h0 ws Q T (mkF m pc' L st)) : own_H p e below En n0 h0 ws Q T (mkF m pc L (v :: .ref a :: st)) := by
  subst hp
  obtain ⟨locs, Y, N, e, K⟩ := X
  obtain ⟨T1, h1, Y1, e1, W1, st1⟩ := putF Y B.1 B.2.1 B.2.2.2.2.1 (host := "") (Or.inl w) Via.refl e F E (Lw.imp id (fun q => ⟨q.1, q.2.1, B.2.2.2.2.2.1.trans q.2.2⟩)) wi hty hn hf (g := mkF m pc L (v :: .ref a :: st)) rfl rfl (hb B.2.2.1 hd)
  exact own_tr st1 (k T1 h1 ⟨_, Y1, Fr.snoc Y1 N hw1, e1, K.wr W1 hw2⟩ W1 (Keep.of_wr W1) (E.wr W1) (F.same W1))
theorem own_putN (X : own_St p l e R s m args below meth c n0 h0 ws T h C S) (B : own_B Z p s m meth c bytes maxL own nm rt) {i kk : Nat} {O n d K0 host : String} (w : (Jvm.Cond.fieldLinkNest own i O n d host).before a0 Z = true) {a : Addr} {v old : Value} {ty : FieldType} (F : Fld Z h a O n d old) (E : Exa Z h a K0) (Lw : (Jvm.Cond.lays K0 O n d).before a0 Z = true ∨ ((Jvm.Cond.laysFinal K0 O n d).before a0 Z = true ∧ own = O ∧ nm = "<init>")) (wi : (Jvm.Cond.instantiable K0 kk).before a0 Z = true)
    (hty : parseFieldDescriptor d = some ty) (hn : narrow ty v = v) (hf : fits ty v = true) (hw1 : n0 ≤ a) (hw2 : a ∈ ws ∨ h0.size ≤ a) (hd : decode bytes pc = .ok (.putfield i, 3)) (hp : pc + 3 = pc')
    (k : ∀ T h', own_St p l e R s m args below meth c n0 h0 ws T h' C S → Wr h h' a (Jvm.RoadKit.slotOf Z O n d) v → Keep h h' [a] → Exa Z h' a K0 → Fld Z h' a O n d v → own_H p e below En n0 h0 ws Q T (mkF m pc' L st)) : own_H p e below En n0 h0 ws Q T (mkF m pc L (v :: .ref a :: st)) := by
  subst hp
  obtain ⟨locs, Y, N, e, K⟩ := X
  obtain ⟨T1, h1, Y1, e1, W1, st1⟩ := putF Y B.1 B.2.1 B.2.2.2.2.1 (host := host) (Or.inr w) Via.refl e F E (Lw.imp id (fun q => ⟨q.1, q.2.1, B.2.2.2.2.2.1.trans q.2.2⟩)) wi hty hn hf (g := mkF m pc L (v :: .ref a :: st)) rfl rfl (hb B.2.2.1 hd)
  exact own_tr st1 (k T1 h1 ⟨_, Y1, Fr.snoc Y1 N hw1, e1, K.wr W1 hw2⟩ W1 (Keep.of_wr W1) (E.wr W1) (F.same W1))
theorem own_newO (X : own_St p l e R s m args below meth c n0 h0 ws T h C S) (B : own_B Z p s m meth c bytes maxL own nm rt) {i n : Nat} {K0 : String} (w : (Jvm.Cond.classLink own i K0).before a0 Z = true) (wi : (Jvm.Cond.instantiable K0 n).before a0 Z = true) (wz : (Jvm.Cond.initialized K0).before a0 Z = true) (hc : C + 1 ≤ R.cells) (hs : S + n ≤ R.slots) (hd : decode bytes pc = .ok (.new i, 3)) (hp : pc + 3 = pc')
    (k : ∀ T h' a, a = h.size → own_St p l e R s m args below meth c n0 h0 ws T h' (C + 1) (S + n) → Keep h h' [] → Exa Z h' a K0 → (∀ {O nm d : String} {ty : FieldType}, Laid Z a0 K0 O nm d → parseFieldDescriptor d = some ty → Fld Z h' a O nm d (defaultValue ty)) → h0.size ≤ a → own_H p e below En n0 h0 ws Q T (mkF m pc' L (.ref a :: st))) : own_H p e below En n0 h0 ws Q T (mkF m pc L st) := by
  subst hp
  obtain ⟨locs, Y, N, e, K⟩ := X
  obtain ⟨T1, h1, Y1, e1, E1, A1, D1, -, st1⟩ := newO Y B.1 B.2.1 B.2.2.2.2.1 w wi wz e (g := mkF m pc L st) rfl (hb B.2.2.1 hd) hc hs
  exact own_tr st1 (k T1 h1 h.size rfl ⟨_, Y1, N, e1, K.ext E1⟩ ((Keep.refl h []).ext E1) A1 D1 K.1)
theorem own_initO (X : own_St p l e R s m args below meth c n0 h0 ws T h C S) (B : own_B Z p s m meth c bytes maxL own nm rt) {i : Nat} (w1 : (Jvm.Cond.methodLink own i Lib.objectInit).before a0 Z = true) (w2 : (Jvm.Cond.instanceMethod Lib.objectInit).before a0 Z = true) (w3 : (Jvm.Cond.code Lib.objectInit ⟨#[0xb1]⟩ 1 none).before a0 Z = true) (hL : L.size = maxL) {a : Addr} (hf : 1 ≤ R.frames) {W : Nat} (hW : (st.map fun v => v.category).sum ≤ W) (hl : W + 12 ≤ R.locals) (hd : decode bytes pc = .ok (.invokespecial i, 3)) (hp : pc + 3 = pc')
    (k : ∀ T, own_St p l e R s m args below meth c n0 h0 ws T h C S → own_H p e below En n0 h0 ws Q T (mkF m pc' L st)) : own_H p e below En n0 h0 ws Q T (mkF m pc L (.ref a :: st)) := by
  subst hp
  obtain ⟨locs, Y, N, e, K⟩ := X
  obtain ⟨T1, Y1, e1, st1⟩ := initO Y B.1 B.2.1 B.2.2.2.2.1 w1 w2 w3 e (g := mkF m pc L (.ref a :: st)) rfl (hL.trans B.2.2.2.1.symm) rfl (hb B.2.2.1 hd) hf (W := W) (by show 2 * 0 + _ ≤ _; omega) hl
  exact own_tr st1 (k T1 ⟨locs, Y1, N, e1, K⟩)
/-! calls by contract -/
theorem own_callS (X : own_St p l e R s m args below meth c n0 h0 ws T h C S) (B : own_B Z p s m meth c bytes maxL own nm rt) {i : Nat} {y : MethodName} {by2 : ByteArray} {ml2 : Nat} {rt2 : Option FieldType} {rm : Room} {as2 : Array Value} {ws2 : List Addr} {Q2 : Option Value → Heap → Prop} {W : Nat}
    (w1 : (Jvm.Cond.methodLink own i y).before a0 Z = true) (w2 : (Jvm.Cond.static y).before a0 Z = true) (w3 : (Jvm.Cond.initialized y.cls).before a0 Z = true) (w4 : (Jvm.Cond.code y by2 ml2 rt2).before a0 Z = true) (hy : y.cls ≠ "java/lang/invoke/MethodHandle" ∧ y.cls ≠ "java/lang/invoke/VarHandle")
    (M : own_C l Z y by2 ml2 rt2 [] rm as2 h n0 ws2 Q2 rm.cells rm.slots) (hf : rm.frames + 1 ≤ R.frames) (hl : W + (ml2 + 11) + rm.locals ≤ R.locals) (hc : C + rm.cells ≤ R.cells) (hs : S + rm.slots ≤ R.slots) (hL : L.size = maxL)
    {argsL : List Value} {ps : List FieldType} {r : Option FieldType} (hpd : parseMethodDescriptor y.desc = some ⟨ps, r⟩) (hlen : argsL.length = ps.length) (has : argsL.toArray = as2) {stk : List Value} (hstk : stk = argsL.reverse ++ st) (hW : (st.map fun v => v.category).sum ≤ W) (hd : decode bytes pc = .ok (.invokestatic i, 3)) (hp : pc + 3 = pc') (hws : ∀ x ∈ ws2, x ∈ ws ∨ h0.size ≤ x)
    (k : ∀ v T h', own_St p l e R s m args below meth c n0 h0 ws T h' (C + rm.cells) (S + rm.slots) → Keep h h' ws2 → Q2 v h' → own_H p e below En n0 h0 ws Q T (mkF m pc' L (v.toList ++ st))) : own_H p e below En n0 h0 ws Q T (mkF m pc L stk) := by
  subst hp hstk has
  obtain ⟨locs, Y, N, e, K⟩ := X
  obtain ⟨v, _, ⟨T1, L1, k1, n1⟩, -, Y1, ⟨Lc, hQ, l1, y1, z1⟩, st1⟩ := Jvm.LawKit.callS Y B.1 (y := y) B.2.2.2.2.1 (mvT B.2.1 w1) (mvT B.2.1 w2) (mvT B.2.1 w3) (mvT B.2.1 w4) hy (backOf (W := W) (Q := fun v h' L => Fr n0 L ∧ Keep h h' ws2 ∧ Q2 v h') M B.2.1 w4 w3 hf hl) (g := mkF m pc L (argsL.reverse ++ st)) rfl (hL.trans B.2.2.2.1.symm) (argsL := argsL) (rest := st) (lenOf hpd hlen) rfl (by show 2 * 0 + _ ≤ _; omega) (hb B.2.2.1 hd) (fun _ _ => ⟨rfl, e, hc, hs⟩)
  dsimp only [Pt.U, Pt.locs, Pt.cells, Pt.slots] at Y1 l1 y1 z1 st1 hQ
  subst l1 y1 z1
  obtain ⟨N2, K2, q2⟩ := hQ
  exact own_tr st1 (k v T1 _ ⟨_, Y1, Fr.app N N2, rfl, K.trans K2 hws⟩ K2 q2)
theorem own_callV (X : own_St p l e R s m args below meth c n0 h0 ws T h C S) (B : own_B Z p s m meth c bytes maxL own nm rt) {i : Nat} {y : MethodName} {by2 : ByteArray} {ml2 : Nat} {rt2 : Option FieldType} {rm : Room} {as2 : Array Value} {ws2 : List Addr} {Q2 : Option Value → Heap → Prop} {W : Nat} {K0 : String} {a : Addr}
    (w1 : (Jvm.Cond.methodLink own i y).before a0 Z = true) (w2 : (Jvm.Cond.declares y).before a0 Z = true) (w3 : (Jvm.Cond.selects K0 y y).before a0 Z = true) (w5 : (Jvm.Cond.instanceMethod y).before a0 Z = true) (w4 : (Jvm.Cond.code y by2 ml2 rt2).before a0 Z = true) (w6 : (Jvm.Cond.initialized y.cls).before a0 Z = true) (hy : y.cls ≠ "java/lang/invoke/MethodHandle" ∧ y.cls ≠ "java/lang/invoke/VarHandle") (E : Exa Z h a K0)
    (M : own_C l Z y by2 ml2 rt2 [] rm as2 h n0 ws2 Q2 rm.cells rm.slots) (hf : rm.frames + 1 ≤ R.frames) (hl : W + (ml2 + 11) + rm.locals ≤ R.locals) (hc : C + rm.cells ≤ R.cells) (hs : S + rm.slots ≤ R.slots) (hL : L.size = maxL)
    {argsL : List Value} {ps : List FieldType} {r : Option FieldType} (hpd : parseMethodDescriptor y.desc = some ⟨ps, r⟩) (hlen : argsL.length = ps.length) (has : (.ref a :: argsL).toArray = as2) {stk : List Value} (hstk : stk = argsL.reverse ++ .ref a :: st) (hW : (st.map fun v => v.category).sum ≤ W) (hd : decode bytes pc = .ok (.invokevirtual i, 3)) (hp : pc + 3 = pc') (hws : ∀ x ∈ ws2, x ∈ ws ∨ h0.size ≤ x)
    (k : ∀ v T h', own_St p l e R s m args below meth c n0 h0 ws T h' (C + rm.cells) (S + rm.slots) → Keep h h' ws2 → Q2 v h' → own_H p e below En n0 h0 ws Q T (mkF m pc' L (v.toList ++ st))) : own_H p e below En n0 h0 ws Q T (mkF m pc L stk) := by
  subst hp hstk has
  obtain ⟨locs, Y, N, e, K⟩ := X
  obtain ⟨cq, kq, qa, qb, qc⟩ := isOf (T := T) B.2.1 e E
  obtain ⟨v, _, ⟨T1, L1, k1, n1⟩, -, Y1, ⟨Lc, hQ, l1, y1, z1⟩, st1⟩ := Y.virtualBack B.1 (y := y) (z := y) B.2.2.2.2.1 (mvT B.2.1 w1) (mvT B.2.1 w2) (notFace_of_selects (args := #[]) (mvT B.2.1 w3)) (mvT B.2.1 w3) (mvT B.2.1 w5) hy (backOf (W := W) (Q := fun v h' L => Fr n0 L ∧ Keep h h' ws2 ∧ Q2 v h') M B.2.1 w4 w6 hf hl) qa qc (g := mkF m pc L (argsL.reverse ++ .ref a :: st)) rfl (hL.trans B.2.2.2.1.symm) (Steps.refl _) (argsL := argsL) (rest := st) (lenOf hpd hlen) rfl (by show 2 * 0 + _ ≤ _; omega) (hb B.2.2.1 hd) (fun _ _ => ⟨rfl, e, hc, hs⟩)
  dsimp only [Pt.U, Pt.locs, Pt.cells, Pt.slots] at Y1 l1 y1 z1 st1 hQ
  subst l1 y1 z1
  obtain ⟨N2, K2, q2⟩ := hQ
  exact own_tr (fun t q => st1.trans q) (k v T1 _ ⟨_, Y1, Fr.app N N2, rfl, K.trans K2 hws⟩ K2 q2)
theorem own_callI (X : own_St p l e R s m args below meth c n0 h0 ws T h C S) (B : own_B Z p s m meth c bytes maxL own nm rt) {i : Nat} {y : MethodName} {by2 : ByteArray} {ml2 : Nat} {rm : Room} {as2 : Array Value} {ws2 : List Addr} {Q2 : Option Value → Heap → Prop} {W : Nat} {a : Addr} (hy1 : y.name = "<init>")
    (w1 : (Jvm.Cond.methodLink own i y).before a0 Z = true) (w5 : (Jvm.Cond.instanceMethod y).before a0 Z = true) (w4 : (Jvm.Cond.code y by2 ml2 none).before a0 Z = true) (w6 : (Jvm.Cond.initialized y.cls).before a0 Z = true) (hy : y.cls ≠ "java/lang/invoke/MethodHandle" ∧ y.cls ≠ "java/lang/invoke/VarHandle")
    (M : own_C l Z y by2 ml2 none [] rm as2 h n0 ws2 Q2 rm.cells rm.slots) (hf : rm.frames + 1 ≤ R.frames) (hl : W + (ml2 + 11) + rm.locals ≤ R.locals) (hc : C + rm.cells ≤ R.cells) (hs : S + rm.slots ≤ R.slots) (hL : L.size = maxL)
    {argsL : List Value} {ps : List FieldType} {r : Option FieldType} (hpd : parseMethodDescriptor y.desc = some ⟨ps, r⟩) (hlen : argsL.length = ps.length) (has : (.ref a :: argsL).toArray = as2) {stk : List Value} (hstk : stk = argsL.reverse ++ .ref a :: st) (hW : (st.map fun v => v.category).sum ≤ W) (hd : decode bytes pc = .ok (.invokespecial i, 3)) (hp : pc + 3 = pc') (hws : ∀ x ∈ ws2, x ∈ ws ∨ h0.size ≤ x)
    (k : ∀ v T h', own_St p l e R s m args below meth c n0 h0 ws T h' (C + rm.cells) (S + rm.slots) → Keep h h' ws2 → Q2 v h' → own_H p e below En n0 h0 ws Q T (mkF m pc' L (v.toList ++ st))) : own_H p e below En n0 h0 ws Q T (mkF m pc L stk) := by
  subst hp hstk has
  obtain ⟨locs, Y, N, e, K⟩ := X
  obtain ⟨v, _, ⟨T1, L1, k1, n1⟩, -, Y1, ⟨Lc, hQ, l1, y1, z1⟩, st1⟩ := Y.specialBack B.1 (y := y) hy1 B.2.2.2.2.1 (mvT B.2.1 w1) (mvT B.2.1 w5) (mvT B.2.1 w4) hy (backOf (W := W) (Q := fun v h' L => Fr n0 L ∧ Keep h h' ws2 ∧ Q2 v h') M B.2.1 w4 w6 hf hl) (g := mkF m pc L (argsL.reverse ++ .ref a :: st)) rfl (hL.trans B.2.2.2.1.symm) (Steps.refl _) (a := a) (argsL := argsL) (rest := st) (lenOf hpd hlen) rfl (by show 2 * 0 + _ ≤ _; omega) (hb B.2.2.1 hd) (fun _ _ => ⟨rfl, e, hc, hs⟩)
  dsimp only [Pt.U, Pt.locs, Pt.cells, Pt.slots] at Y1 l1 y1 z1 st1 hQ
  subst l1 y1 z1
  obtain ⟨N2, K2, q2⟩ := hQ
  exact own_tr (fun t q => st1.trans q) (k v T1 _ ⟨_, Y1, Fr.app N N2, rfl, K.trans K2 hws⟩ K2 q2)
/-! arrays of ints and of longs, by a function of the place -/
theorem own_ix {j : Int32} {i n : Nat} (hj : j.toInt = (i : Int)) (hi : i < n) : ¬ (j < 0 ∨ n ≤ j.toNatClampNeg) ∧ j.toNatClampNeg = i := by
  have e : j.toNatClampNeg = i := by show j.toInt.toNat = i; omega
  refine ⟨?_, e⟩
  rw [e, Int32.lt_iff_toInt_lt]
  have : (0 : Int32).toInt = 0 := rfl
  omega
theorem own_ne {a b : Addr} (lt : a < h.size) (g : b = h.size) : a ≠ b := by
  rw [g]
  exact Nat.ne_of_lt lt
theorem own_up_same {α : Type} (f : Nat → α) (i : Nat) (x : α) : (fun k => if k = i then x else f k) i = x := by simp
def own_AJ (Z : State) (h : Heap) (a : Addr) (n : Nat) (f : Nat → Int64) : Prop := ∃ cl : Cell, Arr Z h a cl .long ∧ cl.slots.size = n ∧ n < 2147483648 ∧ ∀ i, i < n → cl.slots[i]? = some (.long (f i))
theorem own_AJ.lt {a : Addr} {n : Nat} {f : Nat → Int64} (A : own_AJ Z h a n f) : a < h.size := by
  obtain ⟨cl, A, -⟩ := A
  exact A.lt
theorem own_AJ.keep {a : Addr} {n : Nat} {f : Nat → Int64} (A : own_AJ Z h a n f) {w2 : List Addr} (K : Keep h h' w2) (q : a ∉ w2) : own_AJ Z h' a n f := by
  obtain ⟨cl, A, r⟩ := A
  exact ⟨cl, ⟨K.2.1 _ _ A.1 q, A.2⟩, r⟩
theorem own_AJ.congr {a : Addr} {n : Nat} {f g : Nat → Int64} (A : own_AJ Z h a n f) (q : ∀ i, i < n → f i = g i) : own_AJ Z h a n g := by
  obtain ⟨cl, A, r1, r2, r3⟩ := A
  exact ⟨cl, A, r1, r2, fun i hi => by rw [r3 i hi, q i hi]⟩
theorem own_newJ (X : own_St p l e R s m args below meth c n0 h0 ws T h C S) (B : own_B Z p s m meth c bytes maxL own nm rt) (w : (Jvm.Cond.arrayClass .long).before a0 Z = true) {j : Int32} {n cap : Nat} (hj : j.toInt = (n : Int)) (hcap : n ≤ cap) (hb8 : cap * 8 ≤ 536870912) (hc : C + 1 ≤ R.cells) (hs : S + cap ≤ R.slots) (hd : decode bytes pc = .ok (.newarray .long, 2)) (hp : pc + 2 = pc')
    (k : ∀ T h' a, a = h.size → own_St p l e R s m args below meth c n0 h0 ws T h' (C + 1) (S + cap) → Keep h h' [] → own_AJ Z h' a n (fun _ => 0) → h0.size ≤ a → own_H p e below En n0 h0 ws Q T (mkF m pc' L (.ref a :: st))) : own_H p e below En n0 h0 ws Q T (mkF m pc L (.int j :: st)) := by
  subst hp
  obtain ⟨locs, Y, N, e, K⟩ := X
  have hn : ¬ j < 0 := by rw [Int32.lt_iff_toInt_lt]; have : (0 : Int32).toInt = 0 := rfl; omega
  have hnn : j.toNatClampNeg = n := by show j.toInt.toNat = n; omega
  obtain ⟨T1, h1, cA, Y1, e1, E1, A1, st1⟩ := newP Y B.1 B.2.1 (aty := .long) w e (g := mkF m pc L (.int j :: st)) rfl (hb B.2.2.1 hd) rfl hn (cap := cap) (hnn ▸ hcap) hb8 hc hs
  refine own_tr st1 (k T1 h1 h.size rfl ⟨_, Y1, N, e1, K.ext E1⟩ ((Keep.refl h []).ext E1) ⟨_, A1, ?_, by omega, ?_⟩ K.1)
  · rw [sz_new, hnn]
  · intro i hi
    show (Array.replicate j.toNatClampNeg (defaultValue .long))[i]? = _
    rw [hnn, Array.getElem?_replicate, if_pos hi]
    rfl
theorem own_laload (X : own_St p l e R s m args below meth c n0 h0 ws T h C S) (B : own_B Z p s m meth c bytes maxL own nm rt) {a : Addr} {n i : Nat} {f : Nat → Int64} {j : Int32} (A : own_AJ Z h a n f) (hj : j.toInt = (i : Int)) (hi : i < n) (hd : decode bytes pc = .ok (.laload, 1)) (hp : pc + 1 = pc') (k : own_H p e below En n0 h0 ws Q T (mkF m pc' L (.long (f i) :: st))) : own_H p e below En n0 h0 ws Q T (mkF m pc L (.int j :: .ref a :: st)) := by
  subst hp
  obtain ⟨locs, Y, N, e, K⟩ := X
  obtain ⟨cl, A, r1, r2, r3⟩ := A
  obtain ⟨q1, q2⟩ := own_ix hj (r1.symm ▸ hi : i < cl.slots.size)
  exact own_tr (fun t q => Y.laload B.1 (j := j) (v := .long (f i)) (by rw [e]; exact A.1) (State.isArrayOf_alike B.2.1.alike A.2.1) A.2.2 q1 (by rw [q2]; exact r3 i hi) (g := mkF m pc L (.int j :: .ref a :: st)) rfl rfl (hb B.2.2.1 hd) t q) k
theorem own_lenJ (X : own_St p l e R s m args below meth c n0 h0 ws T h C S) (B : own_B Z p s m meth c bytes maxL own nm rt) {a : Addr} {n : Nat} {f : Nat → Int64} (A : own_AJ Z h a n f) (hd : decode bytes pc = .ok (.arraylength, 1)) (hp : pc + 1 = pc') (k : own_H p e below En n0 h0 ws Q T (mkF m pc' L (.int (Int32.ofNat n) :: st))) : own_H p e below En n0 h0 ws Q T (mkF m pc L (.ref a :: st)) := by
  subst hp
  obtain ⟨locs, Y, N, e, K⟩ := X
  obtain ⟨cl, A, r1, r2, r3⟩ := A
  subst r1
  exact own_tr (fun t q => Y.arraylength B.1 (by rw [e]; exact A.1) (State.isArrayOf_alike B.2.1.alike A.2.1) (g := mkF m pc L (.ref a :: st)) rfl rfl (hb B.2.2.1 hd) t q) k
theorem own_lastore (X : own_St p l e R s m args below meth c n0 h0 ws T h C S) (B : own_B Z p s m meth c bytes maxL own nm rt) {a : Addr} {n i : Nat} {f : Nat → Int64} {j : Int32} {x : Int64} (A : own_AJ Z h a n f) (hj : j.toInt = (i : Int)) (hi : i < n) (hw1 : n0 ≤ a) (hw2 : a ∈ ws ∨ h0.size ≤ a) (hd : decode bytes pc = .ok (.lastore, 1)) (hp : pc + 1 = pc')
    (k : ∀ T h', own_St p l e R s m args below meth c n0 h0 ws T h' C S → Keep h h' [a] → own_AJ Z h' a n (fun k => if k = i then x else f k) → own_H p e below En n0 h0 ws Q T (mkF m pc' L st)) : own_H p e below En n0 h0 ws Q T (mkF m pc L (.long x :: .int j :: .ref a :: st)) := by
  subst hp
  obtain ⟨locs, Y, N, e, K⟩ := X
  obtain ⟨cl, A, r1, r2, r3⟩ := A
  obtain ⟨q1, q2⟩ := own_ix hj (r1.symm ▸ hi : i < cl.slots.size)
  obtain ⟨T1, h1, Y1, e1, W1, st1⟩ := stJ Y B.1 B.2.1 e A (j := j) (x := x) q1 (g := mkF m pc L (.long x :: .int j :: .ref a :: st)) rfl rfl (hb B.2.2.1 hd)
  refine own_tr st1 (k T1 h1 ⟨_, Y1, Fr.snoc Y1 N hw1, e1, K.wr W1 hw2⟩ (Keep.of_wr W1) ⟨_, A.same W1, ?_, r2, ?_⟩)
  · rw [sz_set, r1]
  · intro u hu
    show (cl.slots.setIfInBounds j.toNatClampNeg (.long x))[u]? = some (.long (if u = i then x else f u))
    rw [q2, Array.getElem?_setIfInBounds]
    by_cases hui : u = i
    · subst hui; rw [if_pos rfl, if_pos (r1.symm ▸ hi), if_pos rfl]
    · rw [if_neg (fun q => hui q.symm), if_neg hui]; exact r3 u hu
def own_AI (Z : State) (h : Heap) (a : Addr) (n : Nat) (f : Nat → Int32) : Prop := ∃ cl : Cell, Arr Z h a cl .int ∧ cl.slots.size = n ∧ n < 2147483648 ∧ ∀ i, i < n → cl.slots[i]? = some (.int (f i))
theorem own_AI.lt {a : Addr} {n : Nat} {f : Nat → Int32} (A : own_AI Z h a n f) : a < h.size := by
  obtain ⟨cl, A, -⟩ := A
  exact A.lt
theorem own_AI.keep {a : Addr} {n : Nat} {f : Nat → Int32} (A : own_AI Z h a n f) {w2 : List Addr} (K : Keep h h' w2) (q : a ∉ w2) : own_AI Z h' a n f := by
  obtain ⟨cl, A, r⟩ := A
  exact ⟨cl, ⟨K.2.1 _ _ A.1 q, A.2⟩, r⟩
theorem own_AI.congr {a : Addr} {n : Nat} {f g : Nat → Int32} (A : own_AI Z h a n f) (q : ∀ i, i < n → f i = g i) : own_AI Z h a n g := by
  obtain ⟨cl, A, r1, r2, r3⟩ := A
  exact ⟨cl, A, r1, r2, fun i hi => by rw [r3 i hi, q i hi]⟩
theorem own_newI (X : own_St p l e R s m args below meth c n0 h0 ws T h C S) (B : own_B Z p s m meth c bytes maxL own nm rt) (w : (Jvm.Cond.arrayClass .int).before a0 Z = true) {j : Int32} {n cap : Nat} (hj : j.toInt = (n : Int)) (hcap : n ≤ cap) (hb8 : cap * 8 ≤ 536870912) (hc : C + 1 ≤ R.cells) (hs : S + cap ≤ R.slots) (hd : decode bytes pc = .ok (.newarray .int, 2)) (hp : pc + 2 = pc')
    (k : ∀ T h' a, a = h.size → own_St p l e R s m args below meth c n0 h0 ws T h' (C + 1) (S + cap) → Keep h h' [] → own_AI Z h' a n (fun _ => 0) → h0.size ≤ a → own_H p e below En n0 h0 ws Q T (mkF m pc' L (.ref a :: st))) : own_H p e below En n0 h0 ws Q T (mkF m pc L (.int j :: st)) := by
  subst hp
  obtain ⟨locs, Y, N, e, K⟩ := X
  have hn : ¬ j < 0 := by rw [Int32.lt_iff_toInt_lt]; have : (0 : Int32).toInt = 0 := rfl; omega
  have hnn : j.toNatClampNeg = n := by show j.toInt.toNat = n; omega
  obtain ⟨T1, h1, cA, Y1, e1, E1, A1, st1⟩ := newP Y B.1 B.2.1 (aty := .int) w e (g := mkF m pc L (.int j :: st)) rfl (hb B.2.2.1 hd) rfl hn (cap := cap) (hnn ▸ hcap) hb8 hc hs
  refine own_tr st1 (k T1 h1 h.size rfl ⟨_, Y1, N, e1, K.ext E1⟩ ((Keep.refl h []).ext E1) ⟨_, A1, ?_, by omega, ?_⟩ K.1)
  · rw [sz_new, hnn]
  · intro i hi
    show (Array.replicate j.toNatClampNeg (defaultValue .int))[i]? = _
    rw [hnn, Array.getElem?_replicate, if_pos hi]
    rfl
theorem own_iaload (X : own_St p l e R s m args below meth c n0 h0 ws T h C S) (B : own_B Z p s m meth c bytes maxL own nm rt) {a : Addr} {n i : Nat} {f : Nat → Int32} {j : Int32} (A : own_AI Z h a n f) (hj : j.toInt = (i : Int)) (hi : i < n) (hd : decode bytes pc = .ok (.iaload, 1)) (hp : pc + 1 = pc') (k : own_H p e below En n0 h0 ws Q T (mkF m pc' L (.int (f i) :: st))) : own_H p e below En n0 h0 ws Q T (mkF m pc L (.int j :: .ref a :: st)) := by
  subst hp
  obtain ⟨locs, Y, N, e, K⟩ := X
  obtain ⟨cl, A, r1, r2, r3⟩ := A
  obtain ⟨q1, q2⟩ := own_ix hj (r1.symm ▸ hi : i < cl.slots.size)
  exact own_tr (fun t q => Y.iaload B.1 (j := j) (v := .int (f i)) (by rw [e]; exact A.1) (State.isArrayOf_alike B.2.1.alike A.2.1) A.2.2 q1 (by rw [q2]; exact r3 i hi) (g := mkF m pc L (.int j :: .ref a :: st)) rfl rfl (hb B.2.2.1 hd) t q) k
theorem own_lenI (X : own_St p l e R s m args below meth c n0 h0 ws T h C S) (B : own_B Z p s m meth c bytes maxL own nm rt) {a : Addr} {n : Nat} {f : Nat → Int32} (A : own_AI Z h a n f) (hd : decode bytes pc = .ok (.arraylength, 1)) (hp : pc + 1 = pc') (k : own_H p e below En n0 h0 ws Q T (mkF m pc' L (.int (Int32.ofNat n) :: st))) : own_H p e below En n0 h0 ws Q T (mkF m pc L (.ref a :: st)) := by
  subst hp
  obtain ⟨locs, Y, N, e, K⟩ := X
  obtain ⟨cl, A, r1, r2, r3⟩ := A
  subst r1
  exact own_tr (fun t q => Y.arraylength B.1 (by rw [e]; exact A.1) (State.isArrayOf_alike B.2.1.alike A.2.1) (g := mkF m pc L (.ref a :: st)) rfl rfl (hb B.2.2.1 hd) t q) k
theorem own_iastore (X : own_St p l e R s m args below meth c n0 h0 ws T h C S) (B : own_B Z p s m meth c bytes maxL own nm rt) {a : Addr} {n i : Nat} {f : Nat → Int32} {j : Int32} {x : Int32} (A : own_AI Z h a n f) (hj : j.toInt = (i : Int)) (hi : i < n) (hw1 : n0 ≤ a) (hw2 : a ∈ ws ∨ h0.size ≤ a) (hd : decode bytes pc = .ok (.iastore, 1)) (hp : pc + 1 = pc')
    (k : ∀ T h', own_St p l e R s m args below meth c n0 h0 ws T h' C S → Keep h h' [a] → own_AI Z h' a n (fun k => if k = i then x else f k) → own_H p e below En n0 h0 ws Q T (mkF m pc' L st)) : own_H p e below En n0 h0 ws Q T (mkF m pc L (.int x :: .int j :: .ref a :: st)) := by
  subst hp
  obtain ⟨locs, Y, N, e, K⟩ := X
  obtain ⟨cl, A, r1, r2, r3⟩ := A
  obtain ⟨q1, q2⟩ := own_ix hj (r1.symm ▸ hi : i < cl.slots.size)
  obtain ⟨T1, h1, Y1, e1, W1, st1⟩ := stI Y B.1 B.2.1 e A (j := j) (x := x) q1 (g := mkF m pc L (.int x :: .int j :: .ref a :: st)) rfl rfl (hb B.2.2.1 hd)
  refine own_tr st1 (k T1 h1 ⟨_, Y1, Fr.snoc Y1 N hw1, e1, K.wr W1 hw2⟩ (Keep.of_wr W1) ⟨_, A.same W1, ?_, r2, ?_⟩)
  · rw [sz_set, r1]
  · intro u hu
    show (cl.slots.setIfInBounds j.toNatClampNeg (.int x))[u]? = some (.int (if u = i then x else f u))
    rw [q2, Array.getElem?_setIfInBounds]
    by_cases hui : u = i
    · subst hui; rw [if_pos rfl, if_pos (r1.symm ▸ hi), if_pos rfl]
    · rw [if_neg (fun q => hui q.symm), if_neg hui]; exact r3 u hu
end OwnKit
theorem own_sz {p : Program} {l : Launch} {e : Env} {R : Room} {s : State} {m : MethodId} {args : Array Value} {below : List Frame} {meth : Method} {c : Code} {n0 : Nat} {h0 h : Heap} {ws : List Addr} {T : State} {C S : Nat} (X : own_St p l e R s m args below meth c n0 h0 ws T h C S) (Z0 : n0 ≤ h0.size) : n0 ≤ h.size := by
  obtain ⟨_, _, _, _, K⟩ := X
  exact Nat.le_trans Z0 K.1
theorem own_nat {n : Nat} (h : n < 2147483648) : (Int32.ofNat n).toInt = (n : Int) := len_toInt (by omega)
theorem own_ltN {i n : Nat} (hi : i < 2147483648) (hn : n < 2147483648) : (Int32.ofNat i < Int32.ofNat n) ↔ i < n := by
  rw [Int32.lt_iff_toInt_lt, own_nat hi, own_nat hn]; omega
theorem own_eqN {i n : Nat} (hi : i < 2147483648) (hn : n < 2147483648) : (Int32.ofNat i = Int32.ofNat n) ↔ i = n := by
  rw [← Int32.toInt_inj, own_nat hi, own_nat hn]; omega
theorem own_succ (i : Nat) : Int32.ofNat i + (1 : Int32) = Int32.ofNat (i + 1) := by
  rw [← Int32.toBitVec_inj]; simp [Int32.ofNat_add]
theorem own_and3 (x : Int32) : ∃ n : Nat, n < 4 ∧ x &&& (3 : Int32) = Int32.ofNat n := by
  have h := c_mask x 3 2 (by decide) (by decide)
  have hp : ((2 ^ 2 : Nat) : Int) = 4 := rfl
  rw [hp] at h
  refine ⟨(x.toInt % 4).toNat, by omega, ?_⟩
  rw [← Int32.toInt_inj, own_nat (by omega), h]; omega
def own_v3 (a b c : Int32) (i : Nat) : Int32 := if i = 0 then a else if i = 1 then b else c
theorem pd_1 : parseMethodDescriptor "([II)Z" = some ⟨[(.array .int), .int], some .boolean⟩ := by decide +kernel
theorem da_0 : decode prog_124_method_52_code 0 = .ok (.aload_n 0, 1) := by decide +kernel
theorem da_1 : decode prog_124_method_52_code 1 = .ok (.astore_n 2, 1) := by decide +kernel
theorem da_2 : decode prog_124_method_52_code 2 = .ok (.aload_n 2, 1) := by decide +kernel
theorem da_3 : decode prog_124_method_52_code 3 = .ok (.arraylength, 1) := by decide +kernel
theorem da_4 : decode prog_124_method_52_code 4 = .ok (.istore_n 3, 1) := by decide +kernel
theorem da_5 : decode prog_124_method_52_code 5 = .ok (.iconst 0, 1) := by decide +kernel
theorem da_6 : decode prog_124_method_52_code 6 = .ok (.istore 4, 2) := by decide +kernel
theorem da_8 : decode prog_124_method_52_code 8 = .ok (.iload 4, 2) := by decide +kernel
theorem da_10 : decode prog_124_method_52_code 10 = .ok (.iload_n 3, 1) := by decide +kernel
theorem da_11 : decode prog_124_method_52_code 11 = .ok (.if_icmp .ge 23, 3) := by decide +kernel
theorem da_14 : decode prog_124_method_52_code 14 = .ok (.aload_n 2, 1) := by decide +kernel
theorem da_15 : decode prog_124_method_52_code 15 = .ok (.iload 4, 2) := by decide +kernel
theorem da_17 : decode prog_124_method_52_code 17 = .ok (.iaload, 1) := by decide +kernel
theorem da_18 : decode prog_124_method_52_code 18 = .ok (.istore 5, 2) := by decide +kernel
theorem da_20 : decode prog_124_method_52_code 20 = .ok (.iload 5, 2) := by decide +kernel
theorem da_22 : decode prog_124_method_52_code 22 = .ok (.iload_n 1, 1) := by decide +kernel
theorem da_23 : decode prog_124_method_52_code 23 = .ok (.if_icmp .ne 5, 3) := by decide +kernel
theorem da_26 : decode prog_124_method_52_code 26 = .ok (.iconst 1, 1) := by decide +kernel
theorem da_27 : decode prog_124_method_52_code 27 = .ok (.ireturn, 1) := by decide +kernel
theorem da_28 : decode prog_124_method_52_code 28 = .ok (.iinc 4 1, 3) := by decide +kernel
theorem da_31 : decode prog_124_method_52_code 31 = .ok (.goto (-23), 3) := by decide +kernel
theorem da_34 : decode prog_124_method_52_code 34 = .ok (.iconst 0, 1) := by decide +kernel
theorem da_35 : decode prog_124_method_52_code 35 = .ok (.ireturn, 1) := by decide +kernel
set_option maxRecDepth 65536 in
set_option maxHeartbeats 40000000 in
theorem rm1 (l : Launch) (Z : State) (a0 : Array Value) (hw : ∀ d ∈ tables_1, d.before a0 Z = true) (t : Addr) (x : Int32) (n : Nat) (f : Nat → Int32) (h0 : Heap) (n0 : Nat) (Z0 : n0 ≤ h0.size) (A_t : own_AI Z h0 t n f) :
    own_C l Z (⟨"com/example/referee/referee/engine/Table", "contains", "([II)Z"⟩ : MethodName) prog_124_method_52_code 6 (some .boolean) [] ({ frames := 0, cells := 0, slots := 0, locals := 0 } : Room) #[.ref t, .int x] h0 n0 [] (fun r h => (r = some (.int 1) ∧ ∃ i, i < n ∧ f i = x) ∨ (r = some (.int 0) ∧ ∀ i, i < n → ¬ f i = x)) 0 0 := by
  refine own_enter (L0 := #[.val (.ref t), .val (.int x), .unset, .unset, .unset, .unset]) (plainFor_of_name (by first | (simp [plainName, overriddenIn]; done) | decide +kernel)) (fun m => by first | (simp [entryFrame, mkF, argsToLocals, Value.category]; done) | rfl) ?_
  intro p e s m below meth c T B X
  have hn : n < 2147483648 := A_t.choose_spec.2.2.1
  have loop : ∀ (k i : Nat) (T : State) (s5 : Slot), i + k = n → (∀ u, u < i → ¬ f u = x) → One s5 → own_St p l e ({ frames := 0, cells := 0, slots := 0, locals := 0 } : Room) s m #[.ref t, .int x] below meth c n0 h0 [] T h0 0 0 → own_G p e below s n0 h0 [] (fun r h => (r = some (.int 1) ∧ ∃ i, i < n ∧ f i = x) ∨ (r = some (.int 0) ∧ ∀ i, i < n → ¬ f i = x)) 0 0 T (mkF m 8 #[.val (.ref t), .val (.int x), .val (.ref t), .val (.int (Int32.ofNat n)), .val (.int (Int32.ofNat i)), s5] []) := by
    intro k
    induction k with
    | zero =>
      intro i T s5 hk hall hs5 X
      refine own_iload X B da_8 rfl (pc' := 10) rfl ?_
      refine own_iloadN X B da_10 rfl (pc' := 11) rfl ?_
      refine own_icmpT X B da_11 (flt (by rw [own_ltN (by omega) hn]; omega)).2.1 (pc' := 34) (by decide) (by decide) ?_
      refine own_iconst X B da_34 (v := (0 : Int32)) rfl (pc' := 35) rfl ?_
      exact own_zret X B da_35 (by decide) (by decide) rfl (Or.inr ⟨rfl, fun j hj => hall j (by omega)⟩)
    | succ k ih =>
      intro i T s5 hk hall hs5 X
      refine own_iload X B da_8 rfl (pc' := 10) rfl ?_
      refine own_iloadN X B da_10 rfl (pc' := 11) rfl ?_
      refine own_icmpF X B da_11 (tlt (by rw [own_ltN (by omega) hn]; omega)).2.1 (pc' := 14) rfl ?_
      refine own_aloadN X B da_14 rfl rfl (pc' := 15) rfl ?_
      refine own_iload X B da_15 rfl (pc' := 17) rfl ?_
      refine own_iaload X B A_t (i := i) (own_nat (by omega)) (by omega) da_17 (pc' := 18) rfl ?_
      show own_H _ _ _ _ _ _ _ _ T (mkF m 18 #[.val (.ref t), .val (.int x), .val (.ref t), .val (.int (Int32.ofNat n)), .val (.int (Int32.ofNat i)), s5] [.int (f i)])
      refine own_istore X B da_18 (L' := #[.val (.ref t), .val (.int x), .val (.ref t), .val (.int (Int32.ofNat n)), .val (.int (Int32.ofNat i)), .val (.int (f i))]) (XS.store1 rfl hs5 rfl) (pc' := 20) rfl ?_
      refine own_iload X B da_20 rfl (pc' := 22) rfl ?_
      refine own_iloadN X B da_22 rfl (pc' := 23) rfl ?_
      by_cases hc : (f i) = x
      · -- hc
        refine own_icmpF X B da_23 (teq hc).2 (pc' := 26) rfl ?_
        refine own_iconst X B da_26 (v := (1 : Int32)) rfl (pc' := 27) rfl ?_
        exact own_zret X B da_27 (by decide) (by decide) rfl (Or.inl ⟨rfl, i, by omega, hc⟩)
      · -- not hc
        refine own_icmpT X B da_23 (feq hc).2 (pc' := 28) (by decide) (by decide) ?_
        refine own_iinc X B da_28 rfl (L' := #[.val (.ref t), .val (.int x), .val (.ref t), .val (.int (Int32.ofNat n)), .val (.int ((Int32.ofNat i) + (1 : Int32))), .val (.int (f i))]) rfl (pc' := 31) rfl ?_
        refine own_goto X B da_31 (pc' := 8) (by decide) (by decide) ?_
        rw [own_succ]
        exact ih (i + 1) T _ (by omega) (fun u hu => (Nat.lt_succ_iff_lt_or_eq.mp hu).elim (hall u) (fun q => by rw [q]; exact hc)) (One.val rfl) X
  refine own_aloadN X B da_0 rfl rfl (pc' := 1) rfl ?_
  refine own_astoreN X B da_1 rfl (L' := #[.val (.ref t), .val (.int x), .val (.ref t), .unset, .unset, .unset]) rfl (pc' := 2) rfl ?_
  refine own_aloadN X B da_2 rfl rfl (pc' := 3) rfl ?_
  refine own_lenI X B A_t da_3 (pc' := 4) rfl ?_
  refine own_istoreN X B da_4 (L' := #[.val (.ref t), .val (.int x), .val (.ref t), .val (.int (Int32.ofNat n)), .unset, .unset]) rfl (pc' := 5) rfl ?_
  refine own_iconst X B da_5 (v := (0 : Int32)) rfl (pc' := 6) rfl ?_
  refine own_istore X B da_6 (L' := #[.val (.ref t), .val (.int x), .val (.ref t), .val (.int (Int32.ofNat n)), .val (.int (0 : Int32)), .unset]) rfl (pc' := 8) rfl ?_
  exact loop n 0 T _ (by omega) (fun u hu => absurd hu (Nat.not_lt_zero u)) One.u X
set_option maxRecDepth 65536 in
set_option maxHeartbeats 40000000 in
theorem rm0 (l : Launch) (Z : State) (a0 : Array Value) (hw : ∀ d ∈ tables_1, d.before a0 Z = true) (q : Int32) (a : Int32) (b : Int32) (c' : Int32) (p' : Int32) (g : Int32) (h0 : Heap) (n0 : Nat) (Z0 : n0 ≤ h0.size) :
    own_C l Z Jvm.Pilot.@@N@@.x code maxLocals ret tables_1 room_1 #[.int q, .int a, .int b, .int c', .int p', .int g] h0 n0 [] (fun v h => v = some (.int 1)) 16 128 := by
  refine own_enter (L0 := #[.val (.int q), .val (.int a), .val (.int b), .val (.int c'), .val (.int p'), .val (.int g), .unset, .unset, .unset, .unset, .unset, .unset]) (plainFor_of_name (by first | (simp [plainName, overriddenIn]; done) | decide +kernel)) (fun m => by first | (simp [entryFrame, mkF, argsToLocals, Value.category, maxLocals]; done) | rfl) ?_
  intro p e s m below meth c T B X
  have J162 : ∀ (T : State) (h : Heap) (t : Addr) (n : Nat) (sl : Int32) (ps : Int32) (ex : Int32), own_St p l e room_1 s m #[.int q, .int a, .int b, .int c', .int p', .int g] below meth c n0 h0 [] T h 1 3 → own_AI Z h t n (own_v3 a b c') → (n < 4) → ((ex = 1 ∧ ∃ i, i < n ∧ own_v3 a b c' i = ps) ∨ (ex = 0 ∧ ∀ i, i < n → ¬ own_v3 a b c' i = ps)) → own_G p e below s n0 h0 [] (fun v h => v = some (.int 1)) 16 128 T (mkF m 162 #[.val (.int q), .val (.int a), .val (.int b), .val (.int c'), .val (.int p'), .val (.int g), .val (.int (Int32.ofNat n)), .val (.ref t), .val (.int sl), .val (.int ps), .val (.int ex), .unset] []) := by
    intro T h t n sl ps ex X A_t hn hex
    refine own_aload X B at_162 rfl rfl (pc' := 164) rfl ?_
    refine own_iload X B at_164 rfl (pc' := 166) rfl ?_
    refine own_callS X B (W := 0) (hw _ (List.mem_of_getElem? (i := 1) rfl)) (hw _ (List.mem_of_getElem? (i := 2) rfl)) (hw _ (List.mem_of_getElem? (i := 3) rfl)) (hw _ (List.mem_of_getElem? (i := 4) rfl)) (by decide) (rm1 l Z a0 hw t ps n (own_v3 a b c') h n0 (own_sz X Z0) A_t) (by decide) (by decide) (by decide) (by decide) rfl (argsL := [.ref t, .int ps]) pd_1 rfl rfl (st := []) rfl (Nat.le_refl _) at_166 (pc' := 169) rfl all0 ?_
    rintro v T h X K hq
    replace A_t := A_t.keep K nin0
    rcases hq with ⟨rfl, i, hi, hx⟩ | ⟨rfl, hno⟩
    ·
      show own_H _ _ _ _ _ _ _ _ T (mkF m 169 #[.val (.int q), .val (.int a), .val (.int b), .val (.int c'), .val (.int p'), .val (.int g), .val (.int (Int32.ofNat n)), .val (.ref t), .val (.int sl), .val (.int ps), .val (.int ex), .unset] [.int (1 : Int32)])
      have hex1 : ex = 1 := by
        rcases hex with ⟨q, -⟩ | ⟨-, q⟩
        · exact q
        · exact absurd hx (q i hi)
      subst hex1
      refine own_istore X B at_169 (L' := #[.val (.int q), .val (.int a), .val (.int b), .val (.int c'), .val (.int p'), .val (.int g), .val (.int (Int32.ofNat n)), .val (.ref t), .val (.int sl), .val (.int ps), .val (.int (1 : Int32)), .val (.int (1 : Int32))]) rfl (pc' := 171) rfl ?_
      refine own_iload X B at_171 rfl (pc' := 173) rfl ?_
      refine own_iload X B at_173 rfl (pc' := 175) rfl ?_
      refine own_icmpF X B at_175 (teq rfl).2 (pc' := 178) rfl ?_
      refine own_iconst X B at_178 (v := (1 : Int32)) rfl (pc' := 179) rfl ?_
      refine own_goto X B at_179 (pc' := 183) (by decide) (by decide) ?_
      exact own_zret X B at_183 (by decide) (by decide) rfl rfl
    ·
      show own_H _ _ _ _ _ _ _ _ T (mkF m 169 #[.val (.int q), .val (.int a), .val (.int b), .val (.int c'), .val (.int p'), .val (.int g), .val (.int (Int32.ofNat n)), .val (.ref t), .val (.int sl), .val (.int ps), .val (.int ex), .unset] [.int (0 : Int32)])
      have hex1 : ex = 0 := by
        rcases hex with ⟨-, i, hi, hx⟩ | ⟨q, -⟩
        · exact absurd hx (hno i hi)
        · exact q
      subst hex1
      refine own_istore X B at_169 (L' := #[.val (.int q), .val (.int a), .val (.int b), .val (.int c'), .val (.int p'), .val (.int g), .val (.int (Int32.ofNat n)), .val (.ref t), .val (.int sl), .val (.int ps), .val (.int (0 : Int32)), .val (.int (0 : Int32))]) rfl (pc' := 171) rfl ?_
      refine own_iload X B at_171 rfl (pc' := 173) rfl ?_
      refine own_iload X B at_173 rfl (pc' := 175) rfl ?_
      refine own_icmpF X B at_175 (teq rfl).2 (pc' := 178) rfl ?_
      refine own_iconst X B at_178 (v := (1 : Int32)) rfl (pc' := 179) rfl ?_
      refine own_goto X B at_179 (pc' := 183) (by decide) (by decide) ?_
      exact own_zret X B at_183 (by decide) (by decide) rfl rfl
  have J155 : ∀ (T : State) (h : Heap) (t : Addr) (n : Nat) (sl : Int32) (ps : Int32), own_St p l e room_1 s m #[.int q, .int a, .int b, .int c', .int p', .int g] below meth c n0 h0 [] T h 1 3 → own_AI Z h t n (own_v3 a b c') → (n < 4) → (∃ i, i < n ∧ own_v3 a b c' i = ps) → own_G p e below s n0 h0 [] (fun v h => v = some (.int 1)) 16 128 T (mkF m 155 #[.val (.int q), .val (.int a), .val (.int b), .val (.int c'), .val (.int p'), .val (.int g), .val (.int (Int32.ofNat n)), .val (.ref t), .val (.int sl), .val (.int ps), .unset, .unset] []) := by
    intro T h t n sl ps X A_t hn hx
    refine own_iconst X B at_155 (v := (1 : Int32)) rfl (pc' := 156) rfl ?_
    refine own_goto X B at_156 (pc' := 160) (by decide) (by decide) ?_
    refine own_istore X B at_160 (L' := #[.val (.int q), .val (.int a), .val (.int b), .val (.int c'), .val (.int p'), .val (.int g), .val (.int (Int32.ofNat n)), .val (.ref t), .val (.int sl), .val (.int ps), .val (.int (1 : Int32)), .unset]) rfl (pc' := 162) rfl ?_
    exact J162 _ _ _ _ _ _ _ X A_t hn (Or.inl ⟨rfl, hx⟩)
  have J159 : ∀ (T : State) (h : Heap) (t : Addr) (n : Nat) (sl : Int32) (ps : Int32), own_St p l e room_1 s m #[.int q, .int a, .int b, .int c', .int p', .int g] below meth c n0 h0 [] T h 1 3 → own_AI Z h t n (own_v3 a b c') → (n < 4) → (0 < n → ¬ a = ps) → (1 < n → ¬ b = ps) → (2 < n → ¬ c' = ps) → own_G p e below s n0 h0 [] (fun v h => v = some (.int 1)) 16 128 T (mkF m 159 #[.val (.int q), .val (.int a), .val (.int b), .val (.int c'), .val (.int p'), .val (.int g), .val (.int (Int32.ofNat n)), .val (.ref t), .val (.int sl), .val (.int ps), .unset, .unset] []) := by
    intro T h t n sl ps X A_t hn h0' h1' h2'
    refine own_iconst X B at_159 (v := (0 : Int32)) rfl (pc' := 160) rfl ?_
    refine own_istore X B at_160 (L' := #[.val (.int q), .val (.int a), .val (.int b), .val (.int c'), .val (.int p'), .val (.int g), .val (.int (Int32.ofNat n)), .val (.ref t), .val (.int sl), .val (.int ps), .val (.int (0 : Int32)), .unset]) rfl (pc' := 162) rfl ?_
    exact J162 _ _ _ _ _ _ _ X A_t hn (Or.inr ⟨rfl, fun i hi => by
        match i, hi with
        | 0, hi => exact h0' hi
        | 1, hi => exact h1' hi
        | 2, hi => exact h2' hi
        | k + 3, hi => omega⟩)
  have J143 : ∀ (T : State) (h : Heap) (t : Addr) (n : Nat) (sl : Int32) (ps : Int32), own_St p l e room_1 s m #[.int q, .int a, .int b, .int c', .int p', .int g] below meth c n0 h0 [] T h 1 3 → own_AI Z h t n (own_v3 a b c') → (n < 4) → (0 < n → ¬ a = ps) → (1 < n → ¬ b = ps) → own_G p e below s n0 h0 [] (fun v h => v = some (.int 1)) 16 128 T (mkF m 143 #[.val (.int q), .val (.int a), .val (.int b), .val (.int c'), .val (.int p'), .val (.int g), .val (.int (Int32.ofNat n)), .val (.ref t), .val (.int sl), .val (.int ps), .unset, .unset] []) := by
    intro T h t n sl ps X A_t hn h0' h1'
    refine own_iload X B at_143 rfl (pc' := 145) rfl ?_
    refine own_iconst X B at_145 (v := (2 : Int32)) rfl (pc' := 146) rfl ?_
    by_cases hc : (2 : Int32) < (Int32.ofNat n)
    · -- hc
      refine own_icmpF X B at_146 (tlt hc).2.2.2 (pc' := 149) rfl ?_
      have hk : 2 < n := (own_ltN (i := 2) (by omega) (by omega)).mp hc
      refine own_iloadN X B at_149 rfl (pc' := 150) rfl ?_
      refine own_iload X B at_150 rfl (pc' := 152) rfl ?_
      by_cases he : c' = ps
      · -- he
        refine own_icmpF X B at_152 (teq he).2 (pc' := 155) rfl ?_
        exact J155 _ _ _ _ _ _ X A_t hn ⟨2, hk, he⟩
      · -- not he
        refine own_icmpT X B at_152 (feq he).2 (pc' := 159) (by decide) (by decide) ?_
        exact J159 _ _ _ _ _ _ X A_t hn h0' h1' (fun _ => he)
    · -- not hc
      refine own_icmpT X B at_146 (flt hc).2.2.2 (pc' := 159) (by decide) (by decide) ?_
      exact J159 _ _ _ _ _ _ X A_t hn h0' h1' (fun q => absurd ((own_ltN (i := 2) (by omega) (by omega)).mpr q) hc)
  have J131 : ∀ (T : State) (h : Heap) (t : Addr) (n : Nat) (sl : Int32) (ps : Int32), own_St p l e room_1 s m #[.int q, .int a, .int b, .int c', .int p', .int g] below meth c n0 h0 [] T h 1 3 → own_AI Z h t n (own_v3 a b c') → (n < 4) → (0 < n → ¬ a = ps) → own_G p e below s n0 h0 [] (fun v h => v = some (.int 1)) 16 128 T (mkF m 131 #[.val (.int q), .val (.int a), .val (.int b), .val (.int c'), .val (.int p'), .val (.int g), .val (.int (Int32.ofNat n)), .val (.ref t), .val (.int sl), .val (.int ps), .unset, .unset] []) := by
    intro T h t n sl ps X A_t hn h0'
    refine own_iload X B at_131 rfl (pc' := 133) rfl ?_
    refine own_iconst X B at_133 (v := (1 : Int32)) rfl (pc' := 134) rfl ?_
    by_cases hc : (1 : Int32) < (Int32.ofNat n)
    · -- hc
      refine own_icmpF X B at_134 (tlt hc).2.2.2 (pc' := 137) rfl ?_
      have hk : 1 < n := (own_ltN (i := 1) (by omega) (by omega)).mp hc
      refine own_iloadN X B at_137 rfl (pc' := 138) rfl ?_
      refine own_iload X B at_138 rfl (pc' := 140) rfl ?_
      by_cases he : b = ps
      · -- he
        refine own_icmpT X B at_140 (teq he).1 (pc' := 155) (by decide) (by decide) ?_
        exact J155 _ _ _ _ _ _ X A_t hn ⟨1, hk, he⟩
      · -- not he
        refine own_icmpF X B at_140 (feq he).1 (pc' := 143) rfl ?_
        exact J143 _ _ _ _ _ _ X A_t hn h0' (fun _ => he)
    · -- not hc
      refine own_icmpT X B at_134 (flt hc).2.2.2 (pc' := 143) (by decide) (by decide) ?_
      exact J143 _ _ _ _ _ _ X A_t hn h0' (fun q => absurd ((own_ltN (i := 1) (by omega) (by omega)).mpr q) hc)
  have J120 : ∀ (T : State) (h : Heap) (t : Addr) (n : Nat) (sl : Int32) (ps : Int32), own_St p l e room_1 s m #[.int q, .int a, .int b, .int c', .int p', .int g] below meth c n0 h0 [] T h 1 3 → own_AI Z h t n (own_v3 a b c') → (n < 4) → own_G p e below s n0 h0 [] (fun v h => v = some (.int 1)) 16 128 T (mkF m 120 #[.val (.int q), .val (.int a), .val (.int b), .val (.int c'), .val (.int p'), .val (.int g), .val (.int (Int32.ofNat n)), .val (.ref t), .val (.int sl), .val (.int ps), .unset, .unset] []) := by
    intro T h t n sl ps X A_t hn
    refine own_iload X B at_120 rfl (pc' := 122) rfl ?_
    by_cases hc : (0 : Int32) < (Int32.ofNat n)
    · -- hc
      refine own_ifF X B at_122 (tlt hc).2.2.2 (pc' := 125) rfl ?_
      have hk : 0 < n := (own_ltN (i := 0) (by omega) (by omega)).mp hc
      refine own_iloadN X B at_125 rfl (pc' := 126) rfl ?_
      refine own_iload X B at_126 rfl (pc' := 128) rfl ?_
      by_cases he : a = ps
      · -- he
        refine own_icmpT X B at_128 (teq he).1 (pc' := 155) (by decide) (by decide) ?_
        exact J155 _ _ _ _ _ _ X A_t hn ⟨0, hk, he⟩
      · -- not he
        refine own_icmpF X B at_128 (feq he).1 (pc' := 131) rfl ?_
        exact J131 _ _ _ _ _ _ X A_t hn (fun _ => he)
    · -- not hc
      refine own_ifT X B at_122 (flt hc).2.2.2 (pc' := 131) (by decide) (by decide) ?_
      exact J131 _ _ _ _ _ _ X A_t hn (fun q => absurd ((own_ltN (i := 0) (by omega) (by omega)).mpr q) hc)
  have J75 : ∀ (T : State) (h : Heap) (t : Addr) (n : Nat), own_St p l e room_1 s m #[.int q, .int a, .int b, .int c', .int p', .int g] below meth c n0 h0 [] T h 1 3 → own_AI Z h t n (own_v3 a b c') → (n < 4) → own_G p e below s n0 h0 [] (fun v h => v = some (.int 1)) 16 128 T (mkF m 75 #[.val (.int q), .val (.int a), .val (.int b), .val (.int c'), .val (.int p'), .val (.int g), .val (.int (Int32.ofNat n)), .val (.ref t), .unset, .unset, .unset, .unset] []) := by
    intro T h t n X A_t hn
    refine own_iload X B at_75 rfl (pc' := 77) rfl ?_
    refine own_iconst X B at_77 (v := (3 : Int32)) rfl (pc' := 78) rfl ?_
    refine own_iand X B at_78 (pc' := 79) rfl ?_
    refine own_istore X B at_79 (L' := #[.val (.int q), .val (.int a), .val (.int b), .val (.int c'), .val (.int p'), .val (.int g), .val (.int (Int32.ofNat n)), .val (.ref t), .val (.int (g &&& (3 : Int32))), .unset, .unset, .unset]) rfl (pc' := 81) rfl ?_
    refine own_iload X B at_81 rfl (pc' := 83) rfl ?_
    by_cases hs0 : (g &&& (3 : Int32)) = (0 : Int32)
    · -- hs0
      refine own_ifF X B at_83 (teq hs0).2 (pc' := 86) rfl ?_
      refine own_iload X B at_86 rfl (pc' := 88) rfl ?_
      refine own_istore X B at_88 (L' := #[.val (.int q), .val (.int a), .val (.int b), .val (.int c'), .val (.int p'), .val (.int g), .val (.int (Int32.ofNat n)), .val (.ref t), .val (.int (g &&& (3 : Int32))), .val (.int p'), .unset, .unset]) rfl (pc' := 90) rfl ?_
      refine own_goto X B at_90 (pc' := 120) (by decide) (by decide) ?_
      exact J120 _ _ _ _ _ _ X A_t hn
    · -- not hs0
      refine own_ifT X B at_83 (feq hs0).2 (pc' := 93) (by decide) (by decide) ?_
      refine own_iload X B at_93 rfl (pc' := 95) rfl ?_
      refine own_iconst X B at_95 (v := (1 : Int32)) rfl (pc' := 96) rfl ?_
      by_cases hs1 : (g &&& (3 : Int32)) = (1 : Int32)
      · -- hs1
        refine own_icmpF X B at_96 (teq hs1).2 (pc' := 99) rfl ?_
        refine own_iloadN X B at_99 rfl (pc' := 100) rfl ?_
        refine own_istore X B at_100 (L' := #[.val (.int q), .val (.int a), .val (.int b), .val (.int c'), .val (.int p'), .val (.int g), .val (.int (Int32.ofNat n)), .val (.ref t), .val (.int (g &&& (3 : Int32))), .val (.int a), .unset, .unset]) rfl (pc' := 102) rfl ?_
        refine own_goto X B at_102 (pc' := 120) (by decide) (by decide) ?_
        exact J120 _ _ _ _ _ _ X A_t hn
      · -- not hs1
        refine own_icmpT X B at_96 (feq hs1).2 (pc' := 105) (by decide) (by decide) ?_
        refine own_iload X B at_105 rfl (pc' := 107) rfl ?_
        refine own_iconst X B at_107 (v := (2 : Int32)) rfl (pc' := 108) rfl ?_
        by_cases hs2 : (g &&& (3 : Int32)) = (2 : Int32)
        · -- hs2
          refine own_icmpF X B at_108 (teq hs2).2 (pc' := 111) rfl ?_
          refine own_iloadN X B at_111 rfl (pc' := 112) rfl ?_
          refine own_istore X B at_112 (L' := #[.val (.int q), .val (.int a), .val (.int b), .val (.int c'), .val (.int p'), .val (.int g), .val (.int (Int32.ofNat n)), .val (.ref t), .val (.int (g &&& (3 : Int32))), .val (.int b), .unset, .unset]) rfl (pc' := 114) rfl ?_
          refine own_goto X B at_114 (pc' := 120) (by decide) (by decide) ?_
          exact J120 _ _ _ _ _ _ X A_t hn
        · -- not hs2
          refine own_icmpT X B at_108 (feq hs2).2 (pc' := 117) (by decide) (by decide) ?_
          refine own_iloadN X B at_117 rfl (pc' := 118) rfl ?_
          refine own_istore X B at_118 (L' := #[.val (.int q), .val (.int a), .val (.int b), .val (.int c'), .val (.int p'), .val (.int g), .val (.int (Int32.ofNat n)), .val (.ref t), .val (.int (g &&& (3 : Int32))), .val (.int c'), .unset, .unset]) rfl (pc' := 120) rfl ?_
          exact J120 _ _ _ _ _ _ X A_t hn
  refine own_iloadN X B at_0 rfl (pc' := 1) rfl ?_
  refine own_iconst X B at_1 (v := (3 : Int32)) rfl (pc' := 2) rfl ?_
  refine own_iand X B at_2 (pc' := 3) rfl ?_
  refine own_istore X B at_3 (L' := #[.val (.int q), .val (.int a), .val (.int b), .val (.int c'), .val (.int p'), .val (.int g), .val (.int (q &&& (3 : Int32))), .unset, .unset, .unset, .unset, .unset]) rfl (pc' := 5) rfl ?_
  obtain ⟨n, hn, hq⟩ := own_and3 q
  rw [hq]
  refine own_iload X B at_5 rfl (pc' := 7) rfl ?_
  by_cases hl : (Int32.ofNat n) = (0 : Int32)
  · -- hl
    refine own_ifF X B at_7 (teq hl).2 (pc' := 10) rfl ?_
    have hn1 : n = 0 := (own_eqN (n := 0) (by omega) (by omega)).mp hl
    subst hn1
    refine own_iconst X B at_10 (v := (0 : Int32)) rfl (pc' := 11) rfl ?_
    refine own_newI X B (hw _ (List.mem_of_getElem? (i := 0) rfl)) (n := 0) (cap := 3) rfl (by decide) (by decide) (by decide) (by decide) at_11 (pc' := 13) rfl fun T h t g_t X K A_t z_t => ?_
    refine own_astore X B at_13 rfl (L' := #[.val (.int q), .val (.int a), .val (.int b), .val (.int c'), .val (.int p'), .val (.int g), .val (.int (Int32.ofNat 0)), .val (.ref t), .unset, .unset, .unset, .unset]) rfl (pc' := 15) rfl ?_
    refine own_goto X B at_15 (pc' := 75) (by decide) (by decide) ?_
    replace A_t := A_t.congr (g := own_v3 a b c') (fun i hi => absurd hi (Nat.not_lt_zero i))
    exact J75 _ _ _ _ X A_t (by decide)
  · -- not hl
    refine own_ifT X B at_7 (feq hl).2 (pc' := 18) (by decide) (by decide) ?_
    have hl0 := hl
    refine own_iload X B at_18 rfl (pc' := 20) rfl ?_
    refine own_iconst X B at_20 (v := (1 : Int32)) rfl (pc' := 21) rfl ?_
    by_cases hl : (Int32.ofNat n) = (1 : Int32)
    · -- hl
      refine own_icmpF X B at_21 (teq hl).2 (pc' := 24) rfl ?_
      have hn1 : n = 1 := (own_eqN (n := 1) (by omega) (by omega)).mp hl
      subst hn1
      refine own_iconst X B at_24 (v := (1 : Int32)) rfl (pc' := 25) rfl ?_
      refine own_newI X B (hw _ (List.mem_of_getElem? (i := 0) rfl)) (n := 1) (cap := 3) rfl (by decide) (by decide) (by decide) (by decide) at_25 (pc' := 27) rfl fun T h t g_t X K A_t z_t => ?_
      refine own_dup X B at_27 rfl (pc' := 28) rfl ?_
      refine own_iconst X B at_28 (v := (0 : Int32)) rfl (pc' := 29) rfl ?_
      refine own_iloadN X B at_29 rfl (pc' := 30) rfl ?_
      refine own_iastore X B A_t (i := 0) rfl (by decide) (Nat.le_trans Z0 z_t) (Or.inr z_t) at_30 (pc' := 31) rfl fun T h X K A_t => ?_
      refine own_astore X B at_31 rfl (L' := #[.val (.int q), .val (.int a), .val (.int b), .val (.int c'), .val (.int p'), .val (.int g), .val (.int (Int32.ofNat 1)), .val (.ref t), .unset, .unset, .unset, .unset]) rfl (pc' := 33) rfl ?_
      refine own_goto X B at_33 (pc' := 75) (by decide) (by decide) ?_
      replace A_t := A_t.congr (g := own_v3 a b c') (fun i hi => by
        match i, hi with
        | 0, hi => rfl)
      exact J75 _ _ _ _ X A_t (by decide)
    · -- not hl
      refine own_icmpT X B at_21 (feq hl).2 (pc' := 36) (by decide) (by decide) ?_
      have hl1 := hl
      refine own_iload X B at_36 rfl (pc' := 38) rfl ?_
      refine own_iconst X B at_38 (v := (2 : Int32)) rfl (pc' := 39) rfl ?_
      by_cases hl : (Int32.ofNat n) = (2 : Int32)
      · -- hl
        refine own_icmpF X B at_39 (teq hl).2 (pc' := 42) rfl ?_
        have hn1 : n = 2 := (own_eqN (n := 2) (by omega) (by omega)).mp hl
        subst hn1
        refine own_iconst X B at_42 (v := (2 : Int32)) rfl (pc' := 43) rfl ?_
        refine own_newI X B (hw _ (List.mem_of_getElem? (i := 0) rfl)) (n := 2) (cap := 3) rfl (by decide) (by decide) (by decide) (by decide) at_43 (pc' := 45) rfl fun T h t g_t X K A_t z_t => ?_
        refine own_dup X B at_45 rfl (pc' := 46) rfl ?_
        refine own_iconst X B at_46 (v := (0 : Int32)) rfl (pc' := 47) rfl ?_
        refine own_iloadN X B at_47 rfl (pc' := 48) rfl ?_
        refine own_iastore X B A_t (i := 0) rfl (by decide) (Nat.le_trans Z0 z_t) (Or.inr z_t) at_48 (pc' := 49) rfl fun T h X K A_t => ?_
        refine own_dup X B at_49 rfl (pc' := 50) rfl ?_
        refine own_iconst X B at_50 (v := (1 : Int32)) rfl (pc' := 51) rfl ?_
        refine own_iloadN X B at_51 rfl (pc' := 52) rfl ?_
        refine own_iastore X B A_t (i := 1) rfl (by decide) (Nat.le_trans Z0 z_t) (Or.inr z_t) at_52 (pc' := 53) rfl fun T h X K A_t => ?_
        refine own_astore X B at_53 rfl (L' := #[.val (.int q), .val (.int a), .val (.int b), .val (.int c'), .val (.int p'), .val (.int g), .val (.int (Int32.ofNat 2)), .val (.ref t), .unset, .unset, .unset, .unset]) rfl (pc' := 55) rfl ?_
        refine own_goto X B at_55 (pc' := 75) (by decide) (by decide) ?_
        replace A_t := A_t.congr (g := own_v3 a b c') (fun i hi => by
          match i, hi with
          | 0, hi => rfl
          | 1, hi => rfl)
        exact J75 _ _ _ _ X A_t (by decide)
      · -- not hl
        refine own_icmpT X B at_39 (feq hl).2 (pc' := 58) (by decide) (by decide) ?_
        have hn1 : n = 3 := by
          have d0 := mt (own_eqN (i := n) (n := 0) (by omega) (by omega)).mpr hl0
          have d1 := mt (own_eqN (i := n) (n := 1) (by omega) (by omega)).mpr hl1
          have d2 := mt (own_eqN (i := n) (n := 2) (by omega) (by omega)).mpr hl
          omega
        subst hn1
        refine own_iconst X B at_58 (v := (3 : Int32)) rfl (pc' := 59) rfl ?_
        refine own_newI X B (hw _ (List.mem_of_getElem? (i := 0) rfl)) (n := 3) (cap := 3) rfl (by decide) (by decide) (by decide) (by decide) at_59 (pc' := 61) rfl fun T h t g_t X K A_t z_t => ?_
        refine own_dup X B at_61 rfl (pc' := 62) rfl ?_
        refine own_iconst X B at_62 (v := (0 : Int32)) rfl (pc' := 63) rfl ?_
        refine own_iloadN X B at_63 rfl (pc' := 64) rfl ?_
        refine own_iastore X B A_t (i := 0) rfl (by decide) (Nat.le_trans Z0 z_t) (Or.inr z_t) at_64 (pc' := 65) rfl fun T h X K A_t => ?_
        refine own_dup X B at_65 rfl (pc' := 66) rfl ?_
        refine own_iconst X B at_66 (v := (1 : Int32)) rfl (pc' := 67) rfl ?_
        refine own_iloadN X B at_67 rfl (pc' := 68) rfl ?_
        refine own_iastore X B A_t (i := 1) rfl (by decide) (Nat.le_trans Z0 z_t) (Or.inr z_t) at_68 (pc' := 69) rfl fun T h X K A_t => ?_
        refine own_dup X B at_69 rfl (pc' := 70) rfl ?_
        refine own_iconst X B at_70 (v := (2 : Int32)) rfl (pc' := 71) rfl ?_
        refine own_iloadN X B at_71 rfl (pc' := 72) rfl ?_
        refine own_iastore X B A_t (i := 2) rfl (by decide) (Nat.le_trans Z0 z_t) (Or.inr z_t) at_72 (pc' := 73) rfl fun T h X K A_t => ?_
        refine own_astore X B at_73 rfl (L' := #[.val (.int q), .val (.int a), .val (.int b), .val (.int c'), .val (.int p'), .val (.int g), .val (.int (Int32.ofNat 3)), .val (.ref t), .unset, .unset, .unset, .unset]) rfl (pc' := 75) rfl ?_
        replace A_t := A_t.congr (g := own_v3 a b c') (fun i hi => by
          match i, hi with
          | 0, hi => rfl
          | 1, hi => rfl
          | 2, hi => rfl)
        exact J75 _ _ _ _ X A_t (by decide)
set_option maxRecDepth 65536 in
set_option maxHeartbeats 40000000 in
theorem comes_1 {Post : Tables → Env → Array Value → State → Outcome → State → Prop} (hpost : ∀ tb e args s v u, (limb_1_1.after args s (.returned v) u = true ∧ limb_1_2.after args s (.returned v) u = true ∧ True) → FrameEnd s (.returned v) u (Jvm.fieldLocs frame_1_writes args s ++ Jvm.arrayLocs frame_1_arrays args s ++ Jvm.staticLocs frame_1_statics s) 16 128 → Post tb e args s (.returned v) u) :
    ArmFor flags0 classFile x code maxLocals ret World_1 tables_1 room_1 Calls_1 rest_1 Pre_1 Post := by
  intro l hfl _ _ p e ha hc hk s m args below hf hA hF happ hP
  obtain ⟨hcalls, hrest, hpre⟩ := hP
  obtain ⟨-, -, -, hnamed, -, -, -, hat⟩ := (Spec.applies_iff hf).mp happ
  obtain ⟨hg, hn⟩ := and_e (Cond.before_iff.mp (show (Jvm.Cond.and given_1 narrow_1).before args s = true from hpre))
  obtain ⟨g1, g2⟩ := and_e hg
  obtain ⟨g3, g4⟩ := and_e g2
  obtain ⟨g5, g6⟩ := and_e g4
  obtain ⟨g7, g8⟩ := and_e g6
  obtain ⟨g9, g10⟩ := and_e g8
  obtain ⟨g11, g12⟩ := and_e g10
  obtain ⟨w0, w1, w2, w3, w4, w5, rfl⟩ : ∃ w0 w1 w2 w3 w4 w5 : Value, args = #[w0, w1, w2, w3, w4, w5] := by
    have hs : args.size = 6 := by simpa [Cond.value, given_1] using g1
    obtain ⟨L⟩ := args
    match L, hs with
    | [w0, w1, w2, w3, w4, w5], _ => exact ⟨w0, w1, w2, w3, w4, w5, rfl⟩
  have hw := fun d (hd : d ∈ tables_1) => atoms_spec (ws := Jvm.Cond.code x code maxLocals ret :: tables_1) hat d (List.mem_cons_of_mem _ hd)
  obtain ⟨i0, ei0⟩ := is_v g3
  obtain rfl : w0 = (.int i0) := Option.some.inj ei0
  obtain ⟨i1, ei1⟩ := is_v g5
  obtain rfl : w1 = (.int i1) := Option.some.inj ei1
  obtain ⟨i2, ei2⟩ := is_v g7
  obtain rfl : w2 = (.int i2) := Option.some.inj ei2
  obtain ⟨i3, ei3⟩ := is_v g9
  obtain rfl : w3 = (.int i3) := Option.some.inj ei3
  obtain ⟨i4, ei4⟩ := is_v g11
  obtain rfl : w4 = (.int i4) := Option.some.inj ei4
  obtain ⟨i5, ei5⟩ := is_v g12
  obtain rfl : w5 = (.int i5) := Option.some.inj ei5
  obtain ⟨n, o, h1, h2, h3, _, L, rfl, ⟨N, -, rfl⟩, hq⟩ := rm0 l s _ hw i0 i1 i2 i3 i4 i5 s.heap s.heap.size (Nat.le_refl _) p e ha hc hk s m _ below hf ((Spec.applies_iff_loose hf).mp happ).1 ⟨rfl, State.Warmed39.refl s, rfl⟩ trivial
  refine ⟨n, _, h1, h2, h3, hpost _ _ _ _ _ _ ⟨Cond.after_iff.mpr rfl, Cond.after_iff.mpr (eq_i res_at (Term.int_eval (1)) rfl), trivial⟩ ⟨hq.1, hq.2.1, (hq.2.2.sift fun y hy => Or.inr (N y hy)).mono (by decide) (by decide)⟩⟩
theorem main_1_1 : Claimed_1_1 := comes_1 fun _ _ _ _ _ _ h hF => ⟨h.1, hF⟩
theorem main_1_2 : Claimed_1_2 := comes_1 fun _ _ _ _ _ _ h hF => ⟨h.2.1, hF⟩
end Jvm.Pilot.@@N@@
namespace Jvm.Pilot.@@N@@
open Jvm Jvm.ClassFile Sem Op Lib Jvm.Free Jvm.Stand Jvm.Pilot.@@N@@.Jvm.D
/-! MADE BY PROGRAM (witnessworld.py) out of the Statement's table words and the real class files: 10 classes; the members and pool entries that the words name. The judged class is class 1, her method 1. -/
namespace start1
open Jvm.ClassFile
def u (s : String) : CpInfo := .utf8 (stringToUtf16 s)
/-- a pool by its gaps: so many unusable entries, then the entry; so many at the end -/
def gap : Nat → List CpInfo → List CpInfo
  | 0, r => r
  | n + 1, r => .unusable :: gap n r
def poolList (es : List (Nat × CpInfo)) (last : Nat) : List CpInfo := es.foldr (fun e r => gap e.1 (e.2 :: r)) (gap last [])
def pool (es : List (Nat × CpInfo)) (last : Nat) : Array CpInfo := ⟨poolList es last⟩
def fileOf (pool : Array CpInfo) (this : Nat) (attrs : Array Attribute := #[]) (ms : Array MethodInfo := #[]) (fl : Nat := 33) (sup : Nat := 0) (ifs : Array Nat := #[]) (fds : Array FieldInfo := #[]) : ClassFile where
  minorVersion := 0
  majorVersion := 65
  constantPool := pool
  accessFlags := fl
  thisClass := this
  superClass := sup
  interfaces := ifs
  fields := fds
  methods := ms
  attributes := attrs
def plain (name : String) (sup : Option ClassId) : Class where
  name := name
  kind := .ordinary
  loader := none
  accessFlags := 33
  super := sup
  interfaces := #[]
  cf := none
  fields := #[]
  methods := #[]
  instanceTypes := #[]
  staticTypes := #[]
  resolved := #[]
  callSites := []
  init := .initialized
  statics := none
  mirror := none

def pool0 : Array CpInfo := pool [(5, u "<init>"), (0, u "()V"), (1, .class_ 10), (1, u "java/lang/Object")] 113

def k0m0 : Method := { name := "<init>", desc := "()V", sig := { parameters := [], returnType := none }, accessFlags := 1, code := none }
/-- java/lang/Object -/
def k0 : Class := { plain "java/lang/Object" none with
  accessFlags := 33
  interfaces := #[]
  cf := some (fileOf pool0 8 #[] #[{ accessFlags := 1, nameIndex := 5, descriptorIndex := 6, attributes := #[] }] 33 0 #[] #[])
  fields := #[]
  methods := #[k0m0]
  instanceTypes := #[]
  staticTypes := #[]
  resolved := Array.replicate 124 none
  statics := none }

def pool1 : Array CpInfo := pool [(2, .class_ 4), (1, u "java/lang/Object"), (0, u "<init>"), (0, u "()V"), (0, .methodref 8 9), (0, .class_ 10), (0, .nameAndType 11 12), (0, u "com/example/referee/referee/engine/Table"), (0, u "contains"), (0, u "([II)Z"), (0, .class_ 14), (0, u "com/example/referee/referee/engine/TableContainsPinLaw"), (2, u "law"), (0, u "(IIIIII)Z")] 5

def k1m0 : Method := { name := "<init>", desc := "()V", sig := { parameters := [], returnType := none }, accessFlags := 2, code := none }
def k1c1 : Code := { maxStack := 4, maxLocals := 12, code := code, exceptionTable := #[], attributes := #[] }
def k1m1 : Method := { name := "law", desc := "(IIIIII)Z", sig := { parameters := [.int, .int, .int, .int, .int, .int], returnType := some .boolean }, accessFlags := 9, code := some k1c1 }
/-- com/example/referee/referee/engine/TableContainsPinLaw -/
def k1 : Class := { plain "com/example/referee/referee/engine/TableContainsPinLaw" (some 0) with
  accessFlags := 49
  interfaces := #[]
  cf := some (fileOf pool1 13 #[] #[{ accessFlags := 2, nameIndex := 5, descriptorIndex := 6, attributes := #[] }, { accessFlags := 9, nameIndex := 17, descriptorIndex := 18, attributes := #[] }] 49 2 #[] #[])
  fields := #[]
  methods := #[k1m0, k1m1]
  instanceTypes := #[]
  staticTypes := #[]
  resolved := Array.replicate 24 none
  statics := none }

def pool2 : Array CpInfo := pool [(1, .class_ 2), (0, u "com/example/referee/referee/engine/Relation"), (0, .class_ 4), (0, u "java/lang/Object")] 14

/-- com/example/referee/referee/engine/Relation -/
def k2 : Class := { plain "com/example/referee/referee/engine/Relation" (some 0) with
  accessFlags := 1536
  interfaces := #[]
  cf := some (fileOf pool2 1 #[] #[] 1536 3 #[] #[])
  fields := #[]
  methods := #[]
  instanceTypes := #[]
  staticTypes := #[]
  resolved := Array.replicate 19 none
  statics := none }

def pool3 : Array CpInfo := pool [(2, .class_ 4), (1, u "java/lang/Object"), (6, .class_ 13), (1, u "com/example/referee/referee/engine/Table"), (0, u "rows"), (0, u "Lcom/example/referee/referee/engine/RowPages;"), (5, u "indexes"), (0, u "Ljava/util/List;"), (2, u "keys"), (2, u "foreignKeys"), (2, u "referencingKeys"), (2, u "namedIndexes"), (5, u "constraintNames"), (0, u "Ljava/util/Set;"), (2, u "name"), (0, u "Ljava/lang/String;"), (8, u "columns"), (7, u "format"), (0, u "Lcom/example/referee/referee/engine/RowFormat;"), (2, u "definitionVersion"), (0, u "J"), (88, .class_ 158), (1, u "com/example/referee/referee/engine/Table$NewValues"), (26, u "nextRowId"), (44, u "primaryKey"), (0, u "Lcom/example/referee/referee/engine/UniqueKey;"), (31, u "contains"), (135, u "([II)Z"), (10, .class_ 411), (0, u "com/example/referee/referee/engine/Relation")] 159

def k3c0 : Code := { maxStack := 2, maxLocals := 6, code := prog_124_method_52_code, exceptionTable := #[], attributes := #[] }
def k3m0 : Method := { name := "contains", desc := "([II)Z", sig := { parameters := [(.array .int), .int], returnType := some .boolean }, accessFlags := 8, code := some k3c0 }
/-- com/example/referee/referee/engine/Table -/
def k3 : Class := { plain "com/example/referee/referee/engine/Table" (some 0) with
  accessFlags := 32
  interfaces := #[2]
  cf := some (fileOf pool3 11 #[.nestMembers #[156]] #[{ accessFlags := 8, nameIndex := 263, descriptorIndex := 399, attributes := #[] }] 32 2 #[410] #[{ accessFlags := 18, nameIndex := 44, descriptorIndex := 45, attributes := #[] }, { accessFlags := 2, nameIndex := 54, descriptorIndex := 22, attributes := #[] }, { accessFlags := 18, nameIndex := 62, descriptorIndex := 63, attributes := #[] }, { accessFlags := 18, nameIndex := 14, descriptorIndex := 15, attributes := #[] }, { accessFlags := 18, nameIndex := 21, descriptorIndex := 22, attributes := #[] }, { accessFlags := 18, nameIndex := 25, descriptorIndex := 22, attributes := #[] }, { accessFlags := 18, nameIndex := 28, descriptorIndex := 22, attributes := #[] }, { accessFlags := 18, nameIndex := 31, descriptorIndex := 22, attributes := #[] }, { accessFlags := 18, nameIndex := 34, descriptorIndex := 22, attributes := #[] }, { accessFlags := 18, nameIndex := 40, descriptorIndex := 41, attributes := #[] }, { accessFlags := 2, nameIndex := 230, descriptorIndex := 231, attributes := #[] }, { accessFlags := 2, nameIndex := 185, descriptorIndex := 67, attributes := #[] }, { accessFlags := 2, nameIndex := 66, descriptorIndex := 67, attributes := #[] }])
  fields := #[{ name := "name", type := (.object "java/lang/String"), accessFlags := 18, slot := 0, constantValue := 0 }, { name := "columns", type := (.object "java/util/List"), accessFlags := 2, slot := 1, constantValue := 0 }, { name := "format", type := (.object "com/example/referee/referee/engine/RowFormat"), accessFlags := 18, slot := 2, constantValue := 0 }, { name := "rows", type := (.object "com/example/referee/referee/engine/RowPages"), accessFlags := 18, slot := 3, constantValue := 0 }, { name := "indexes", type := (.object "java/util/List"), accessFlags := 18, slot := 4, constantValue := 0 }, { name := "keys", type := (.object "java/util/List"), accessFlags := 18, slot := 5, constantValue := 0 }, { name := "foreignKeys", type := (.object "java/util/List"), accessFlags := 18, slot := 6, constantValue := 0 }, { name := "referencingKeys", type := (.object "java/util/List"), accessFlags := 18, slot := 7, constantValue := 0 }, { name := "namedIndexes", type := (.object "java/util/List"), accessFlags := 18, slot := 8, constantValue := 0 }, { name := "constraintNames", type := (.object "java/util/Set"), accessFlags := 18, slot := 9, constantValue := 0 }, { name := "primaryKey", type := (.object "com/example/referee/referee/engine/UniqueKey"), accessFlags := 2, slot := 10, constantValue := 0 }, { name := "nextRowId", type := .long, accessFlags := 2, slot := 11, constantValue := 0 }, { name := "definitionVersion", type := .long, accessFlags := 2, slot := 12, constantValue := 0 }]
  methods := #[k3m0]
  instanceTypes := #[(.object "java/lang/String"), (.object "java/util/List"), (.object "com/example/referee/referee/engine/RowFormat"), (.object "com/example/referee/referee/engine/RowPages"), (.object "java/util/List"), (.object "java/util/List"), (.object "java/util/List"), (.object "java/util/List"), (.object "java/util/List"), (.object "java/util/Set"), (.object "com/example/referee/referee/engine/UniqueKey"), .long, .long]
  staticTypes := #[]
  resolved := Array.replicate 571 none
  statics := none }

def pool4 : Array CpInfo := pool [(1, u "java/lang/Cloneable"), (0, .class_ 1), (0, u "java/lang/Object"), (0, .class_ 3)] 3

/-- java/lang/Cloneable -/
def k4 : Class := { plain "java/lang/Cloneable" (some 0) with
  accessFlags := 1537
  interfaces := #[]
  cf := some (fileOf pool4 2 #[] #[] 1537 4 #[] #[])
  fields := #[]
  methods := #[]
  instanceTypes := #[]
  staticTypes := #[]
  resolved := Array.replicate 8 none
  statics := none }

def pool5 : Array CpInfo := pool [(1, u "java/io/Serializable"), (0, .class_ 1), (0, u "java/lang/Object"), (0, .class_ 3)] 3

/-- java/io/Serializable -/
def k5 : Class := { plain "java/io/Serializable" (some 0) with
  accessFlags := 1537
  interfaces := #[]
  cf := some (fileOf pool5 2 #[] #[] 1537 4 #[] #[])
  fields := #[]
  methods := #[]
  instanceTypes := #[]
  staticTypes := #[]
  resolved := Array.replicate 8 none
  statics := none }

/-- the primitive byte -/
def k6 : Class := { plain "byte" none with kind := .primitive 'B', accessFlags := 0x411 }
/-- [B -/
def k7 : Class := { plain "[B" (some 0) with kind := .array 6 .byte, interfaces := #[4, 5], accessFlags := 1041 }

/-- the primitive int -/
def k8 : Class := { plain "int" none with kind := .primitive 'I', accessFlags := 0x411 }
/-- [I -/
def k9 : Class := { plain "[I" (some 0) with kind := .array 8 .int, interfaces := #[4, 5], accessFlags := 1041 }

def heap : Heap := #[]
def classes : Array Class := #[k0, k1, k2, k3, k4, k5, k6, k7, k8, k9]
def interned : List (Array UInt16 × Addr) := []
def slotsUsed : Nat := 0
def theMethod : MethodId := ⟨1, 1⟩
def args0 : Array Value := #[.int 5, .int 1, .int 2, .int 3, .int 4, .int 5]
def aboutOver (below : List Frame) : State where
  vm := { classes := classes, interned := interned.toArray }
  heap := heap
  slotsUsed := slotsUsed
  threads := #[{ frames := .invoking theMethod args0 :: below }]
def below0 : List Frame := [.native { method := ⟨0, 0⟩, args := #[] }]
def about1 : State := aboutOver below0
def p0 : Program := .bare "" "" ""
def e0 : Env := launch0.env 0 0 0
theorem w_frames : about1.frames = Frame.invoking theMethod args0 :: below0 := rfl
set_option maxRecDepth 65536 in
theorem w_args : argsFit about1.vm theMethod args0 = true := by decide +kernel
set_option maxRecDepth 65536 in
theorem w_heap : heapFits about1 = true := by decide +kernel
set_option maxRecDepth 65536 in
theorem w_runnable : about1.curStatus? = some .runnable := by decide +kernel
set_option maxRecDepth 65536 in
theorem w_alone : about1.alone = true := by decide +kernel
set_option maxRecDepth 65536 in
theorem w_named : about1.methodNamed? x = some theMethod := by decide +kernel
set_option maxRecDepth 65536 in
theorem w_hears : about1.hears theMethod below0 = true := by decide +kernel
set_option maxRecDepth 65536 in
theorem w_ripe : about1.ripe theMethod args0 below0 = true := by decide +kernel
theorem w_running : about1.status = .running := rfl
set_option maxRecDepth 65536 in
theorem w_room : about1.hasRoom e0.platform room_1 = true :=
  launch0.hasRoom_least _ room_1 (by decide +kernel) (by decide +kernel) (by decide +kernel) (by decide +kernel) (by decide +kernel) (by decide +kernel)
theorem allAtoms_all (ts : List Jvm.Cond) (a : Array Jvm.Value) (st : Jvm.State) : (allAtoms ts).before a st = ts.all (fun c => c.before a st) := by
  induction ts with
  | nil => rfl
  | cons c t ih =>
    show (Jvm.Cond.and c (allAtoms t)).before a st = _
    rw [Jvm.Cond.before_and, ih, List.all_cons]
def words1 : List Jvm.Cond := Jvm.Cond.code x code maxLocals ret :: tables_1
/-- a 'code' word, met by the world's own term for the bytes: nothing is compared byte by byte -/
theorem code_word {y : MethodName} {bytes : ByteArray} {mx : Nat} {rt : Option FieldType} {a : Array Value} {s : State} {m : MethodId} {meth : Method} {c : Code} (h1 : s.methodNamed? y = some m) (h2 : s.vm.method? m = some meth) (h3 : meth.code = some c) (h4 : c.code = bytes)
    (h5 : (c.maxLocals == mx && c.exceptionTable.isEmpty && decide (c.maxStack ≤ mostOperands) && decide (meth.sig.returnType = rt) && !meth.locks && decide (parseMethodDescriptor y.desc = some meth.sig)) = true) : (Jvm.Cond.code y bytes mx rt).before a s = true := by
  simp only [Bool.and_eq_true, beq_iff_eq, Bool.not_eq_true', decide_eq_true_eq] at h5
  obtain ⟨⟨⟨⟨⟨g1, g2⟩, g3⟩, g4⟩, g5⟩, g6⟩ := h5
  simp [Cond.before, Cond.holds, Cond.value, h1, h2, h3, h4, g1, g2, g3, g4, g5, g6]
def isCode : Jvm.Cond → Bool
  | .code _ _ _ _ => true
  | _ => false
theorem all_split {L : List Jvm.Cond} {P : Jvm.Cond → Bool} (h1 : L.all (fun c => isCode c || P c) = true) (h2 : ∀ c ∈ L.filter isCode, P c = true) : L.all P = true := by
  refine List.all_eq_true.mpr fun c hc => ?_
  have h := List.all_eq_true.mp h1 c hc
  rcases Bool.eq_false_or_eq_true (isCode c) with hi | hi
  · exact h2 c (List.mem_filter.mpr ⟨hc, hi⟩)
  · simpa [hi] using h
set_option maxRecDepth 65536 in
theorem w_c0 : (Jvm.Cond.code x code maxLocals ret).before args0 about1 = true := code_word (m := ⟨1, 1⟩) (meth := k1m1) (c := k1c1) (by decide +kernel) rfl rfl rfl (by decide +kernel)
set_option maxRecDepth 65536 in
theorem w_c1 : (Jvm.Cond.code ({ cls := "com/example/referee/referee/engine/Table", name := "contains", desc := "([II)Z" } : Jvm.MethodName) prog_124_method_52_code (6 : Nat) (Option.some Jvm.ClassFile.FieldType.boolean)).before args0 about1 = true := code_word (m := ⟨3, 0⟩) (meth := k3m0) (c := k3c0) (by decide +kernel) rfl rfl rfl (by decide +kernel)
def codes1 : List Jvm.Cond := [Jvm.Cond.code x code maxLocals ret, Jvm.Cond.code ({ cls := "com/example/referee/referee/engine/Table", name := "contains", desc := "([II)Z" } : Jvm.MethodName) prog_124_method_52_code (6 : Nat) (Option.some Jvm.ClassFile.FieldType.boolean)]
set_option maxRecDepth 65536 in
theorem codes_eq : words1.filter isCode = codes1 := rfl
theorem w_codes : ∀ c ∈ words1.filter isCode, c.before args0 about1 = true := by
  rw [codes_eq]
  intro c hc
  simp only [codes1, List.mem_cons, List.not_mem_nil, or_false] at hc
  rcases hc with rfl | rfl
  · exact w_c0
  · exact w_c1
set_option maxRecDepth 65536 in
theorem w_t1 : words1.all (fun c => isCode c || c.before args0 about1) = true := by decide +kernel
theorem w_tables : (allAtoms (Jvm.Cond.code x code maxLocals ret :: tables_1)).before args0 about1 = true := by
  rw [allAtoms_all]
  show words1.all (fun c => c.before args0 about1) = true
  refine all_split ?_ w_codes
  rw [w_t1]
set_option maxRecDepth 65536 in
theorem w_case : (Jvm.Cond.and given_1 narrow_1).before args0 about1 = true := by decide +kernel
theorem w_applies : (headSpec (Jvm.Cond.code x code maxLocals ret :: tables_1) room_1).applies x e0.platform about1 = true :=
  (Spec.applies_iff w_frames).mpr ⟨w_running, w_runnable, w_alone, w_named, w_hears, w_ripe, w_room, w_tables⟩
theorem atStart : AtStart classFile x code maxLocals ret World_1 tables_1 room_1 Calls_1 rest_1 Pre_1 launch0 p0 e0 about1 theMethod args0 below0 :=
  ⟨lists_1, trivial, launch0.admits_env _ _ _, launch0.least_env, fairChoices_fair.cas, fairChoices_fair.clock, w_frames, w_args, w_heap, w_applies, trivial, trivial, w_case⟩
end start1
theorem witness_1 : WitnessClaimed_1 := ⟨start1.p0, start1.e0, start1.about1, start1.theMethod, start1.args0, start1.below0, start1.atStart⟩
end Jvm.Pilot.@@N@@
