import JvmDerived
import JvmDerived.Pilot.@@N@@Statement
import JvmDerived.Pilot.@@N@@Code
set_option linter.unusedVariables false
set_option linter.unusedSimpArgs false
@@BLOCK:TracedD.lean.txt@@
namespace Jvm.Pilot.@@N@@
open Jvm Jvm.ClassFile Sem Op Lib Jvm.Free Jvm.Stand Jvm.LawKit Jvm.RoadKit Bundle Jvm.Pilot.@@N@@.Jvm.D
/-- from the state S the run comes to an end of which Q holds -/
def Own (p : Program) (e : Env) (below : List Frame) (Q : State → Outcome → Prop) (S : State) : Prop := ∃ s₂ o, Steps p.tables e below S s₂ ∧ s₂.status = .running ∧ Ended s₂ below o ∧ Q s₂ o
theorem ogo {p : Program} {e : Env} {below : List Frame} {Q : State → Outcome → Prop} {S S' : State} (h : ∀ t, Steps p.tables e below S' t → Steps p.tables e below S t) (k : Own p e below Q S') : Own p e below Q S := by
  obtain ⟨t, o, k1, k2⟩ := k; exact ⟨t, o, h _ k1, k2⟩
theorem otr {p : Program} {e : Env} {below : List Frame} {Q : State → Outcome → Prop} {S S' : State} (h : Steps p.tables e below S S') (k : Own p e below Q S') : Own p e below Q S := by
  obtain ⟨t, o, k1, k2⟩ := k; exact ⟨t, o, h.trans k1, k2⟩
/-- what a contract says of the end: q of what is returned, of the heap and of the places written; the frame -/
abbrev oPost (q : Option Value → Heap → List Loc → Prop) (s : State) (cc ss : Nat) : State → Outcome → Prop := fun s₂ o => ∃ v L, o = .returned v ∧ q v s₂.heap L ∧ FrameEnd s o s₂ L cc ss
abbrev oMet (l : Launch) (Z : State) (y : MethodName) (code : ByteArray) (maxL : Nat) (ret : Option FieldType) (ws : List Jvm.Cond) (rm : Room) (cc ss : Nat) (as' : Array Value) (h0 : Heap) (q : Option Value → Heap → List Loc → Prop) : Prop :=
  MetFree l y (head1 (Jvm.Cond.code y code maxL ret :: ws) rm) (fun a U => a = as' ∧ Z.Warmed39 U.vm ∧ U.heap = h0) (fun _ _ _ _ _ => True) (fun _ U o U' => ∃ v L, o = .returned v ∧ q v U'.heap L ∧ FrameEnd U o U' L cc ss)
theorem oenter {l : Launch} {Z : State} {y : MethodName} {code : ByteArray} {maxL : Nat} {ret : Option FieldType} {ws : List Jvm.Cond} {rm : Room} {cc ss : Nat} {as' : Array Value} {h0 : Heap} {q : Option Value → Heap → List Loc → Prop} (pn : plainName y.cls = true) (Ls : Array Slot) (ef : ∀ m, entryFrame m as' maxL = mkF m 0 Ls [])
    (body : ∀ (p : Program) (e : Env) (s : State) (m : MethodId) (below : List Frame) (meth : Method) (c : Code) (s₁ : State), Stand p l e rm s m as' below meth c s₁ [] 0 0 → p.tables.exec = Jvm.exec → Z.Warmed39 s.vm → c.code = code → c.maxLocals = maxL → meth.sig.returnType = ret → s.vm.findClass y.cls = some m.cls → meth.name = y.name → meth.locks = false → s₁.heap = h0 → Own p e below (oPost q s cc ss) (s₁.setTop (mkF m 0 Ls []))) : oMet l Z y code maxL ret ws rm cc ss as' h0 q := by
  refine MetFree.of_bodySF (plainFor_of_name pn) hisR ?_
  intro p e s m args below meth c s₁ Bd hml0 hP hK
  obtain ⟨rfl, hZ, hh⟩ := hP
  have e0 : s₁.heap = h0 := by rw [← hh, Bd.state]; rfl
  obtain ⟨t, o, h1, h2⟩ := body p e s m below meth c s₁ (Stand.of_body Bd) Bd.exec hZ Bd.bytes hml0 Bd.returns (findClass_of_methodNamed Bd.named) (name_of_methodNamed Bd.named Bd.method).1 (BodyLoose.notSynchronized Bd) e0
  exact ⟨t, o, castTop (ef m) h1, h2⟩
def own_ushr (x y : Int32) : Int32 := (x.toUInt32 >>> (y &&& 31).toUInt32).toInt32
def own_ushrL (x : Int64) (y : Int32) : Int64 := (x.toUInt64 >>> (y &&& 0x3f).toInt64.toUInt64).toInt64
section Steps
variable {p : Program} {l : Launch} {e : Env} {R : Room} {s : State} {m : MethodId} {args : Array Value} {below : List Frame} {meth : Method} {c : Code} {T : State} {locs : List Loc} {cells slots : Nat} {Q : State → Outcome → Prop}
theorem oend {v : Option Value} {q : Option Value → Heap → List Loc → Prop} {cc ss : Nat} {S : State} (X : Stand p l e R s m args below meth c T locs cells slots) (hlk : meth.locks = false) (hv : meth.sig.returnType = none → v = none)
    (st : ∀ fs, (∀ (f : JFrame) (acts : List Action), f.method = m → f.locked = none → f.entered = [] → (doReturn e (T.setTop f) acts v).1 = T.setFrames fs) → Steps p.tables e below S (T.setFrames fs)) (hc : cells ≤ cc) (hs : slots ≤ ss) (hq : q v T.heap locs) : Own p e below (oPost q s cc ss) S := by
  obtain ⟨fs, hr, hrun, hended, hW, hsame⟩ := X.leave (v := v) hv hlk
  exact ⟨_, _, st fs hr, hrun, hended, _, _, rfl, hq, ⟨_, rfl⟩, hW, hsame.mono hc hs⟩
theorem o_aloadN (X : Stand p l e R s m args below meth c T locs cells slots) (hx : p.tables.exec = Jvm.exec) {pc : Nat} {L : Array Slot} {S : List Value} {i : Fin 4} {v : Value} (hd : decode c.code pc = .ok (.aload_n i, 1)) (hl : L[i.val]? = some (.val v)) (hv : v.isRef = true) (k : Own p e below Q (T.setTop (mkF m (pc + 1) L (v :: S)))) : Own p e below Q (T.setTop (mkF m pc L S)) :=
  ogo (fun _ k => XS.aloadN X.here hx rfl hd hl hv k) k
theorem o_aload (X : Stand p l e R s m args below meth c T locs cells slots) (hx : p.tables.exec = Jvm.exec) {pc : Nat} {L : Array Slot} {S : List Value} {i : Nat} {v : Value} (hd : decode c.code pc = .ok (.aload i, 2)) (hl : L[i]? = some (.val v)) (hv : v.isRef = true) (k : Own p e below Q (T.setTop (mkF m (pc + 2) L (v :: S)))) : Own p e below Q (T.setTop (mkF m pc L S)) :=
  ogo (fun _ k => XS.aload X.here hx rfl hd hl hv k) k
theorem o_iloadN (X : Stand p l e R s m args below meth c T locs cells slots) (hx : p.tables.exec = Jvm.exec) {pc : Nat} {L : Array Slot} {S : List Value} {i : Fin 4} {v : Int32} (hd : decode c.code pc = .ok (.iload_n i, 1)) (hl : L[i.val]? = some (.val (.int v))) (k : Own p e below Q (T.setTop (mkF m (pc + 1) L ((.int v) :: S)))) : Own p e below Q (T.setTop (mkF m pc L S)) :=
  ogo (fun _ k => XS.iloadN X.here hx rfl hd hl k) k
theorem o_iload (X : Stand p l e R s m args below meth c T locs cells slots) (hx : p.tables.exec = Jvm.exec) {pc : Nat} {L : Array Slot} {S : List Value} {i : Nat} {v : Int32} (hd : decode c.code pc = .ok (.iload i, 2)) (hl : L[i]? = some (.val (.int v))) (k : Own p e below Q (T.setTop (mkF m (pc + 2) L ((.int v) :: S)))) : Own p e below Q (T.setTop (mkF m pc L S)) :=
  ogo (fun _ k => XS.iload X.here hx rfl hd hl k) k
theorem o_lloadN (X : Stand p l e R s m args below meth c T locs cells slots) (hx : p.tables.exec = Jvm.exec) {pc : Nat} {L : Array Slot} {S : List Value} {i : Fin 4} {v : Int64} (hd : decode c.code pc = .ok (.lload_n i, 1)) (hl : L[i.val]? = some (.val (.long v))) (k : Own p e below Q (T.setTop (mkF m (pc + 1) L ((.long v) :: S)))) : Own p e below Q (T.setTop (mkF m pc L S)) :=
  ogo (fun _ k => XS.lloadN X.here hx rfl hd hl k) k
theorem o_lload (X : Stand p l e R s m args below meth c T locs cells slots) (hx : p.tables.exec = Jvm.exec) {pc : Nat} {L : Array Slot} {S : List Value} {i : Nat} {v : Int64} (hd : decode c.code pc = .ok (.lload i, 2)) (hl : L[i]? = some (.val (.long v))) (k : Own p e below Q (T.setTop (mkF m (pc + 2) L ((.long v) :: S)))) : Own p e below Q (T.setTop (mkF m pc L S)) :=
  ogo (fun _ k => XS.lload X.here hx rfl hd hl k) k
theorem o_astoreN (X : Stand p l e R s m args below meth c T locs cells slots) (hx : p.tables.exec = Jvm.exec) {pc : Nat} {L : Array Slot} {S : List Value} {i : Fin 4} {v : Value} {l' : Array Slot} (hd : decode c.code pc = .ok (.astore_n i, 1)) (hv : v.isRef = true) (hl : storeLocals L i.val v = some l') (k : Own p e below Q (T.setTop (mkF m (pc + 1) l' S))) : Own p e below Q (T.setTop (mkF m pc L (v :: S))) :=
  ogo (fun _ k => XS.astoreN X.here hx rfl hd rfl hv hl k) k
theorem o_astore (X : Stand p l e R s m args below meth c T locs cells slots) (hx : p.tables.exec = Jvm.exec) {pc : Nat} {L : Array Slot} {S : List Value} {i : Nat} {v : Value} {l' : Array Slot} (hd : decode c.code pc = .ok (.astore i, 2)) (hv : v.isRef = true) (hl : storeLocals L i v = some l') (k : Own p e below Q (T.setTop (mkF m (pc + 2) l' S))) : Own p e below Q (T.setTop (mkF m pc L (v :: S))) :=
  ogo (fun _ k => XS.astore X.here hx rfl hd rfl hv hl k) k
theorem o_istoreN (X : Stand p l e R s m args below meth c T locs cells slots) (hx : p.tables.exec = Jvm.exec) {pc : Nat} {L : Array Slot} {S : List Value} {i : Fin 4} {v : Int32} {l' : Array Slot} (hd : decode c.code pc = .ok (.istore_n i, 1)) (hl : storeLocals L i.val (.int v) = some l') (k : Own p e below Q (T.setTop (mkF m (pc + 1) l' S))) : Own p e below Q (T.setTop (mkF m pc L ((.int v) :: S))) :=
  ogo (fun _ k => XS.istoreN X.here hx rfl hd rfl hl k) k
theorem o_istore (X : Stand p l e R s m args below meth c T locs cells slots) (hx : p.tables.exec = Jvm.exec) {pc : Nat} {L : Array Slot} {S : List Value} {i : Nat} {v : Int32} {l' : Array Slot} (hd : decode c.code pc = .ok (.istore i, 2)) (hl : storeLocals L i (.int v) = some l') (k : Own p e below Q (T.setTop (mkF m (pc + 2) l' S))) : Own p e below Q (T.setTop (mkF m pc L ((.int v) :: S))) :=
  ogo (fun _ k => XS.istore X.here hx rfl hd rfl hl k) k
theorem o_lstoreN (X : Stand p l e R s m args below meth c T locs cells slots) (hx : p.tables.exec = Jvm.exec) {pc : Nat} {L : Array Slot} {S : List Value} {i : Fin 4} {v : Int64} {l' : Array Slot} (hd : decode c.code pc = .ok (.lstore_n i, 1)) (hl : storeLocals L i.val (.long v) = some l') (k : Own p e below Q (T.setTop (mkF m (pc + 1) l' S))) : Own p e below Q (T.setTop (mkF m pc L ((.long v) :: S))) :=
  ogo (fun _ k => XS.lstoreN X.here hx rfl hd rfl hl k) k
theorem o_lstore (X : Stand p l e R s m args below meth c T locs cells slots) (hx : p.tables.exec = Jvm.exec) {pc : Nat} {L : Array Slot} {S : List Value} {i : Nat} {v : Int64} {l' : Array Slot} (hd : decode c.code pc = .ok (.lstore i, 2)) (hl : storeLocals L i (.long v) = some l') (k : Own p e below Q (T.setTop (mkF m (pc + 2) l' S))) : Own p e below Q (T.setTop (mkF m pc L ((.long v) :: S))) :=
  ogo (fun _ k => XS.lstore X.here hx rfl hd rfl hl k) k
theorem o_iconst (X : Stand p l e R s m args below meth c T locs cells slots) (hx : p.tables.exec = Jvm.exec) {pc : Nat} {L : Array Slot} {S : List Value} {i : Int} (v : Int32) (hd : decode c.code pc = .ok (.iconst i, 1)) (hv : Int32.ofInt i = v) (k : Own p e below Q (T.setTop (mkF m (pc + 1) L (.int v :: S)))) : Own p e below Q (T.setTop (mkF m pc L S)) := by
  subst hv; exact ogo (fun _ k => XS.iconst X.here hx rfl hd k) k
theorem o_bipush (X : Stand p l e R s m args below meth c T locs cells slots) (hx : p.tables.exec = Jvm.exec) {pc : Nat} {L : Array Slot} {S : List Value} {i : Int} (v : Int32) (hd : decode c.code pc = .ok (.bipush i, 2)) (hv : (Int8.ofInt i).toInt32 = v) (k : Own p e below Q (T.setTop (mkF m (pc + 2) L (.int v :: S)))) : Own p e below Q (T.setTop (mkF m pc L S)) := by
  subst hv; exact ogo (fun _ k => XS.bipush X.here hx rfl hd k) k
theorem o_sipush (X : Stand p l e R s m args below meth c T locs cells slots) (hx : p.tables.exec = Jvm.exec) {pc : Nat} {L : Array Slot} {S : List Value} {i : Int} (v : Int32) (hd : decode c.code pc = .ok (.sipush i, 3)) (hv : (Int16.ofInt i).toInt32 = v) (k : Own p e below Q (T.setTop (mkF m (pc + 3) L (.int v :: S)))) : Own p e below Q (T.setTop (mkF m pc L S)) := by
  subst hv; exact ogo (fun _ k => XS.sipush X.here hx rfl hd k) k
theorem o_lconst (X : Stand p l e R s m args below meth c T locs cells slots) (hx : p.tables.exec = Jvm.exec) {pc : Nat} {L : Array Slot} {S : List Value} {i : Fin 2} (v : Int64) (hd : decode c.code pc = .ok (.lconst i, 1)) (hv : Int64.ofNat i = v) (k : Own p e below Q (T.setTop (mkF m (pc + 1) L (.long v :: S)))) : Own p e below Q (T.setTop (mkF m pc L S)) := by
  subst hv; exact ogo (fun _ k => XS.lconst X.here hx rfl hd k) k
theorem o_aconst_null (X : Stand p l e R s m args below meth c T locs cells slots) (hx : p.tables.exec = Jvm.exec) {pc : Nat} {L : Array Slot} {S : List Value} (hd : decode c.code pc = .ok (.aconst_null, 1)) (k : Own p e below Q (T.setTop (mkF m (pc + 1) L (.null :: S)))) : Own p e below Q (T.setTop (mkF m pc L S)) :=
  ogo (fun _ k => XS.aconstNull X.here hx rfl hd k) k
theorem o_iadd (X : Stand p l e R s m args below meth c T locs cells slots) (hx : p.tables.exec = Jvm.exec) {pc : Nat} {L : Array Slot} {S : List Value} {x y : Int32} (hd : decode c.code pc = .ok (.iadd, 1)) (k : Own p e below Q (T.setTop (mkF m (pc + 1) L (.int (x + y) :: S)))) : Own p e below Q (T.setTop (mkF m pc L (.int y :: .int x :: S))) :=
  ogo (fun _ k => XS.iadd X.here hx rfl hd rfl k) k
theorem o_isub (X : Stand p l e R s m args below meth c T locs cells slots) (hx : p.tables.exec = Jvm.exec) {pc : Nat} {L : Array Slot} {S : List Value} {x y : Int32} (hd : decode c.code pc = .ok (.isub, 1)) (k : Own p e below Q (T.setTop (mkF m (pc + 1) L (.int (x - y) :: S)))) : Own p e below Q (T.setTop (mkF m pc L (.int y :: .int x :: S))) :=
  ogo (fun _ k => XS.isub X.here hx rfl hd rfl k) k
theorem o_imul (X : Stand p l e R s m args below meth c T locs cells slots) (hx : p.tables.exec = Jvm.exec) {pc : Nat} {L : Array Slot} {S : List Value} {x y : Int32} (hd : decode c.code pc = .ok (.imul, 1)) (k : Own p e below Q (T.setTop (mkF m (pc + 1) L (.int (x * y) :: S)))) : Own p e below Q (T.setTop (mkF m pc L (.int y :: .int x :: S))) :=
  ogo (fun _ k => XS.imul X.here hx rfl hd rfl k) k
theorem o_iand (X : Stand p l e R s m args below meth c T locs cells slots) (hx : p.tables.exec = Jvm.exec) {pc : Nat} {L : Array Slot} {S : List Value} {x y : Int32} (hd : decode c.code pc = .ok (.iand, 1)) (k : Own p e below Q (T.setTop (mkF m (pc + 1) L (.int (x &&& y) :: S)))) : Own p e below Q (T.setTop (mkF m pc L (.int y :: .int x :: S))) :=
  ogo (fun _ k => XS.iand X.here hx rfl hd rfl k) k
theorem o_ior (X : Stand p l e R s m args below meth c T locs cells slots) (hx : p.tables.exec = Jvm.exec) {pc : Nat} {L : Array Slot} {S : List Value} {x y : Int32} (hd : decode c.code pc = .ok (.ior, 1)) (k : Own p e below Q (T.setTop (mkF m (pc + 1) L (.int (x ||| y) :: S)))) : Own p e below Q (T.setTop (mkF m pc L (.int y :: .int x :: S))) :=
  ogo (fun _ k => XS.ior X.here hx rfl hd rfl k) k
theorem o_ixor (X : Stand p l e R s m args below meth c T locs cells slots) (hx : p.tables.exec = Jvm.exec) {pc : Nat} {L : Array Slot} {S : List Value} {x y : Int32} (hd : decode c.code pc = .ok (.ixor, 1)) (k : Own p e below Q (T.setTop (mkF m (pc + 1) L (.int (x ^^^ y) :: S)))) : Own p e below Q (T.setTop (mkF m pc L (.int y :: .int x :: S))) :=
  ogo (fun _ k => XS.ixor X.here hx rfl hd rfl k) k
theorem o_ladd (X : Stand p l e R s m args below meth c T locs cells slots) (hx : p.tables.exec = Jvm.exec) {pc : Nat} {L : Array Slot} {S : List Value} {x y : Int64} (hd : decode c.code pc = .ok (.ladd, 1)) (k : Own p e below Q (T.setTop (mkF m (pc + 1) L (.long (x + y) :: S)))) : Own p e below Q (T.setTop (mkF m pc L (.long y :: .long x :: S))) :=
  ogo (fun _ k => XS.ladd X.here hx rfl hd rfl k) k
theorem o_lsub (X : Stand p l e R s m args below meth c T locs cells slots) (hx : p.tables.exec = Jvm.exec) {pc : Nat} {L : Array Slot} {S : List Value} {x y : Int64} (hd : decode c.code pc = .ok (.lsub, 1)) (k : Own p e below Q (T.setTop (mkF m (pc + 1) L (.long (x - y) :: S)))) : Own p e below Q (T.setTop (mkF m pc L (.long y :: .long x :: S))) :=
  ogo (fun _ k => XS.lsub X.here hx rfl hd rfl k) k
theorem o_lmul (X : Stand p l e R s m args below meth c T locs cells slots) (hx : p.tables.exec = Jvm.exec) {pc : Nat} {L : Array Slot} {S : List Value} {x y : Int64} (hd : decode c.code pc = .ok (.lmul, 1)) (k : Own p e below Q (T.setTop (mkF m (pc + 1) L (.long (x * y) :: S)))) : Own p e below Q (T.setTop (mkF m pc L (.long y :: .long x :: S))) :=
  ogo (fun _ k => XS.lmul X.here hx rfl hd rfl k) k
theorem o_land (X : Stand p l e R s m args below meth c T locs cells slots) (hx : p.tables.exec = Jvm.exec) {pc : Nat} {L : Array Slot} {S : List Value} {x y : Int64} (hd : decode c.code pc = .ok (.land, 1)) (k : Own p e below Q (T.setTop (mkF m (pc + 1) L (.long (x &&& y) :: S)))) : Own p e below Q (T.setTop (mkF m pc L (.long y :: .long x :: S))) :=
  ogo (fun _ k => XS.land X.here hx rfl hd rfl k) k
theorem o_lor (X : Stand p l e R s m args below meth c T locs cells slots) (hx : p.tables.exec = Jvm.exec) {pc : Nat} {L : Array Slot} {S : List Value} {x y : Int64} (hd : decode c.code pc = .ok (.lor, 1)) (k : Own p e below Q (T.setTop (mkF m (pc + 1) L (.long (x ||| y) :: S)))) : Own p e below Q (T.setTop (mkF m pc L (.long y :: .long x :: S))) :=
  ogo (fun _ k => XS.lor X.here hx rfl hd rfl k) k
theorem o_lxor (X : Stand p l e R s m args below meth c T locs cells slots) (hx : p.tables.exec = Jvm.exec) {pc : Nat} {L : Array Slot} {S : List Value} {x y : Int64} (hd : decode c.code pc = .ok (.lxor, 1)) (k : Own p e below Q (T.setTop (mkF m (pc + 1) L (.long (x ^^^ y) :: S)))) : Own p e below Q (T.setTop (mkF m pc L (.long y :: .long x :: S))) :=
  ogo (fun _ k => XS.lxor X.here hx rfl hd rfl k) k
theorem o_ishl (X : Stand p l e R s m args below meth c T locs cells slots) (hx : p.tables.exec = Jvm.exec) {pc : Nat} {L : Array Slot} {S : List Value} {x : Int32} {y : Int32} (hd : decode c.code pc = .ok (.ishl, 1)) (k : Own p e below Q (T.setTop (mkF m (pc + 1) L (.int (x <<< (y &&& 31)) :: S)))) : Own p e below Q (T.setTop (mkF m pc L (.int y :: .int x :: S))) :=
  ogo (fun _ k => XS.ishl X.here hx rfl hd rfl k) k
theorem o_ishr (X : Stand p l e R s m args below meth c T locs cells slots) (hx : p.tables.exec = Jvm.exec) {pc : Nat} {L : Array Slot} {S : List Value} {x : Int32} {y : Int32} (hd : decode c.code pc = .ok (.ishr, 1)) (k : Own p e below Q (T.setTop (mkF m (pc + 1) L (.int (x >>> (y &&& 31)) :: S)))) : Own p e below Q (T.setTop (mkF m pc L (.int y :: .int x :: S))) :=
  ogo (fun _ k => XS.ishr X.here hx rfl hd rfl k) k
theorem o_iushr (X : Stand p l e R s m args below meth c T locs cells slots) (hx : p.tables.exec = Jvm.exec) {pc : Nat} {L : Array Slot} {S : List Value} {x : Int32} {y : Int32} (hd : decode c.code pc = .ok (.iushr, 1)) (k : Own p e below Q (T.setTop (mkF m (pc + 1) L (.int (own_ushr x y) :: S)))) : Own p e below Q (T.setTop (mkF m pc L (.int y :: .int x :: S))) :=
  ogo (fun _ k => XS.iushr X.here hx rfl hd rfl k) k
theorem o_lshl (X : Stand p l e R s m args below meth c T locs cells slots) (hx : p.tables.exec = Jvm.exec) {pc : Nat} {L : Array Slot} {S : List Value} {x : Int64} {y : Int32} (hd : decode c.code pc = .ok (.lshl, 1)) (k : Own p e below Q (T.setTop (mkF m (pc + 1) L (.long (x <<< (y &&& 0x3f).toInt64) :: S)))) : Own p e below Q (T.setTop (mkF m pc L (.int y :: .long x :: S))) :=
  ogo (fun _ k => XS.lshl X.here hx rfl hd rfl k) k
theorem o_lshr (X : Stand p l e R s m args below meth c T locs cells slots) (hx : p.tables.exec = Jvm.exec) {pc : Nat} {L : Array Slot} {S : List Value} {x : Int64} {y : Int32} (hd : decode c.code pc = .ok (.lshr, 1)) (k : Own p e below Q (T.setTop (mkF m (pc + 1) L (.long (x >>> (y &&& 0x3f).toInt64) :: S)))) : Own p e below Q (T.setTop (mkF m pc L (.int y :: .long x :: S))) :=
  ogo (fun _ k => XS.lshr X.here hx rfl hd rfl k) k
theorem o_lushr (X : Stand p l e R s m args below meth c T locs cells slots) (hx : p.tables.exec = Jvm.exec) {pc : Nat} {L : Array Slot} {S : List Value} {x : Int64} {y : Int32} (hd : decode c.code pc = .ok (.lushr, 1)) (k : Own p e below Q (T.setTop (mkF m (pc + 1) L (.long (own_ushrL x y) :: S)))) : Own p e below Q (T.setTop (mkF m pc L (.int y :: .long x :: S))) :=
  ogo (fun _ k => XS.lushr X.here hx rfl hd rfl k) k
theorem o_ineg (X : Stand p l e R s m args below meth c T locs cells slots) (hx : p.tables.exec = Jvm.exec) {pc : Nat} {L : Array Slot} {S : List Value} {x : Int32} (hd : decode c.code pc = .ok (.ineg, 1)) (k : Own p e below Q (T.setTop (mkF m (pc + 1) L (.int (-x) :: S)))) : Own p e below Q (T.setTop (mkF m pc L (.int x :: S))) :=
  ogo (fun _ k => XS.ineg X.here hx rfl hd rfl k) k
theorem o_lneg (X : Stand p l e R s m args below meth c T locs cells slots) (hx : p.tables.exec = Jvm.exec) {pc : Nat} {L : Array Slot} {S : List Value} {x : Int64} (hd : decode c.code pc = .ok (.lneg, 1)) (k : Own p e below Q (T.setTop (mkF m (pc + 1) L (.long (-x) :: S)))) : Own p e below Q (T.setTop (mkF m pc L (.long x :: S))) :=
  ogo (fun _ k => XS.lneg X.here hx rfl hd rfl k) k
theorem o_i2l (X : Stand p l e R s m args below meth c T locs cells slots) (hx : p.tables.exec = Jvm.exec) {pc : Nat} {L : Array Slot} {S : List Value} {x : Int32} (hd : decode c.code pc = .ok (.i2l, 1)) (k : Own p e below Q (T.setTop (mkF m (pc + 1) L (.long (x.toInt64) :: S)))) : Own p e below Q (T.setTop (mkF m pc L (.int x :: S))) :=
  ogo (fun _ k => XS.i2l X.here hx rfl hd rfl k) k
theorem o_l2i (X : Stand p l e R s m args below meth c T locs cells slots) (hx : p.tables.exec = Jvm.exec) {pc : Nat} {L : Array Slot} {S : List Value} {x : Int64} (hd : decode c.code pc = .ok (.l2i, 1)) (k : Own p e below Q (T.setTop (mkF m (pc + 1) L (.int (x.toInt32) :: S)))) : Own p e below Q (T.setTop (mkF m pc L (.long x :: S))) :=
  ogo (fun _ k => XS.l2i X.here hx rfl hd rfl k) k
theorem o_i2b (X : Stand p l e R s m args below meth c T locs cells slots) (hx : p.tables.exec = Jvm.exec) {pc : Nat} {L : Array Slot} {S : List Value} {x : Int32} (hd : decode c.code pc = .ok (.i2b, 1)) (k : Own p e below Q (T.setTop (mkF m (pc + 1) L (.int (x.toInt8.toInt32) :: S)))) : Own p e below Q (T.setTop (mkF m pc L (.int x :: S))) :=
  ogo (fun _ k => XS.i2b X.here hx rfl hd rfl k) k
theorem o_i2s (X : Stand p l e R s m args below meth c T locs cells slots) (hx : p.tables.exec = Jvm.exec) {pc : Nat} {L : Array Slot} {S : List Value} {x : Int32} (hd : decode c.code pc = .ok (.i2s, 1)) (k : Own p e below Q (T.setTop (mkF m (pc + 1) L (.int (x.toInt16.toInt32) :: S)))) : Own p e below Q (T.setTop (mkF m pc L (.int x :: S))) :=
  ogo (fun _ k => XS.i2s X.here hx rfl hd rfl k) k
theorem o_i2c (X : Stand p l e R s m args below meth c T locs cells slots) (hx : p.tables.exec = Jvm.exec) {pc : Nat} {L : Array Slot} {S : List Value} {x : Int32} (hd : decode c.code pc = .ok (.i2c, 1)) (k : Own p e below Q (T.setTop (mkF m (pc + 1) L (.int (nar .char x) :: S)))) : Own p e below Q (T.setTop (mkF m pc L (.int x :: S))) :=
  ogo (fun _ k => XS.i2c X.here hx rfl hd rfl k) k
theorem o_lcmp (X : Stand p l e R s m args below meth c T locs cells slots) (hx : p.tables.exec = Jvm.exec) {pc : Nat} {L : Array Slot} {S : List Value} {x y : Int64} (hd : decode c.code pc = .ok (.lcmp, 1)) (k : Own p e below Q (T.setTop (mkF m (pc + 1) L (.int (lcmpW x y) :: S)))) : Own p e below Q (T.setTop (mkF m pc L (.long y :: .long x :: S))) :=
  ogo (fun _ k => XS.lcmp X.here hx rfl hd rfl k) k
theorem o_idiv (X : Stand p l e R s m args below meth c T locs cells slots) (hx : p.tables.exec = Jvm.exec) {pc : Nat} {L : Array Slot} {S : List Value} {x y : Int32} (hd : decode c.code pc = .ok (.idiv, 1)) (hy : y ≠ 0) (k : Own p e below Q (T.setTop (mkF m (pc + 1) L (.int (x / y) :: S)))) : Own p e below Q (T.setTop (mkF m pc L (.int y :: .int x :: S))) :=
  ogo (fun _ k => XS.idiv X.here hx rfl hd rfl hy k) k
theorem o_ldiv (X : Stand p l e R s m args below meth c T locs cells slots) (hx : p.tables.exec = Jvm.exec) {pc : Nat} {L : Array Slot} {S : List Value} {x y : Int64} (hd : decode c.code pc = .ok (.ldiv, 1)) (hy : y ≠ 0) (k : Own p e below Q (T.setTop (mkF m (pc + 1) L (.long (x / y) :: S)))) : Own p e below Q (T.setTop (mkF m pc L (.long y :: .long x :: S))) :=
  ogo (fun _ k => XS.ldiv X.here hx rfl hd rfl hy k) k
theorem o_lrem (X : Stand p l e R s m args below meth c T locs cells slots) (hx : p.tables.exec = Jvm.exec) {pc : Nat} {L : Array Slot} {S : List Value} {x y : Int64} (hd : decode c.code pc = .ok (.lrem, 1)) (hy : y ≠ 0) (k : Own p e below Q (T.setTop (mkF m (pc + 1) L (.long (x - (x / y) * y) :: S)))) : Own p e below Q (T.setTop (mkF m pc L (.long y :: .long x :: S))) :=
  ogo (fun _ k => XS.lrem X.here hx rfl hd rfl hy k) k
theorem o_irem (X : Stand p l e R s m args below meth c T locs cells slots) (hx : p.tables.exec = Jvm.exec) {pc : Nat} {L : Array Slot} {S : List Value} {x y : Int32} (hd : decode c.code pc = .ok (.irem, 1)) (hy : y ≠ 0) (k : Own p e below Q (T.setTop (mkF m (pc + 1) L (.int (x % y) :: S)))) : Own p e below Q (T.setTop (mkF m pc L (.int y :: .int x :: S))) :=
  ogo (fun _ k => iremM X hx rfl hd rfl hy k) k
theorem o_iinc (X : Stand p l e R s m args below meth c T locs cells slots) (hx : p.tables.exec = Jvm.exec) {pc : Nat} {L : Array Slot} {S : List Value} {i : Nat} {n : Int} {x : Int32} {l' : Array Slot} (hd : decode c.code pc = .ok (.iinc i n, 3)) (hl : L[i]? = some (.val (.int x))) (hl' : storeLocals L i (.int (x + Int32.ofInt n)) = some l') (k : Own p e below Q (T.setTop (mkF m (pc + 3) l' S))) : Own p e below Q (T.setTop (mkF m pc L S)) :=
  ogo (fun _ k => XS.iinc X.here hx rfl hd hl hl' k) k
theorem o_dup (X : Stand p l e R s m args below meth c T locs cells slots) (hx : p.tables.exec = Jvm.exec) {pc : Nat} {L : Array Slot} {S : List Value} {v : Value} (hd : decode c.code pc = .ok (.dup, 1)) (hc : v.category = 1) (k : Own p e below Q (T.setTop (mkF m (pc + 1) L (v :: v :: S)))) : Own p e below Q (T.setTop (mkF m pc L (v :: S))) :=
  ogo (fun _ k => XS.dup X.here hx rfl hd rfl hc k) k
theorem o_dup_x1 (X : Stand p l e R s m args below meth c T locs cells slots) (hx : p.tables.exec = Jvm.exec) {pc : Nat} {L : Array Slot} {S : List Value} {v w : Value} (hd : decode c.code pc = .ok (.dup_x1, 1)) (hc : v.category = 1) (hc' : w.category = 1) (k : Own p e below Q (T.setTop (mkF m (pc + 1) L (v :: w :: v :: S)))) : Own p e below Q (T.setTop (mkF m pc L (v :: w :: S))) :=
  ogo (fun _ k => XS.dupX1 X.here hx rfl hd rfl hc hc' k) k
theorem o_pop (X : Stand p l e R s m args below meth c T locs cells slots) (hx : p.tables.exec = Jvm.exec) {pc : Nat} {L : Array Slot} {S : List Value} {v : Value} (hd : decode c.code pc = .ok (.pop, 1)) (hc : v.category = 1) (k : Own p e below Q (T.setTop (mkF m (pc + 1) L S))) : Own p e below Q (T.setTop (mkF m pc L (v :: S))) :=
  ogo (fun _ k => XS.pop X.here hx rfl hd rfl hc k) k
theorem o_goto (X : Stand p l e R s m args below meth c T locs cells slots) (hx : p.tables.exec = Jvm.exec) {pc : Nat} {L : Array Slot} {S : List Value} {o : Int} (pc' : Nat) (hd : decode c.code pc = .ok (.goto o, 3)) (ho : 0 ≤ (pc : Int) + o) (hp : ((pc : Int) + o).toNat = pc') (k : Own p e below Q (T.setTop (mkF m (pc') L S))) : Own p e below Q (T.setTop (mkF m pc L S)) :=
  ogo (fun _ k => XS.goto X.here hx rfl rfl hd ho hp k) k
theorem o_ifYes (X : Stand p l e R s m args below meth c T locs cells slots) (hx : p.tables.exec = Jvm.exec) {pc : Nat} {L : Array Slot} {S : List Value} {cd : ClassFile.Cond} {x : Int32} {o : Int} (pc' : Nat) (hd : decode c.code pc = .ok (.ifCond cd o, 3)) (hc : if_icmp.holds cd x 0 = true) (ho : 0 ≤ (pc : Int) + o) (hp : ((pc : Int) + o).toNat = pc') (k : Own p e below Q (T.setTop (mkF m (pc') L S))) : Own p e below Q (T.setTop (mkF m pc L (.int x :: S))) :=
  ogo (fun _ k => XS.ifYes X.here hx rfl rfl hd rfl ((if0 _ _).trans hc) ho hp k) k
theorem o_ifNo (X : Stand p l e R s m args below meth c T locs cells slots) (hx : p.tables.exec = Jvm.exec) {pc : Nat} {L : Array Slot} {S : List Value} {cd : ClassFile.Cond} {x : Int32} {o : Int} (hd : decode c.code pc = .ok (.ifCond cd o, 3)) (hc : if_icmp.holds cd x 0 = false) (k : Own p e below Q (T.setTop (mkF m (pc + 3) L S))) : Own p e below Q (T.setTop (mkF m pc L (.int x :: S))) :=
  ogo (fun _ k => XS.ifNo X.here hx rfl hd rfl ((if0 _ _).trans hc) k) k
theorem o_icmpYes (X : Stand p l e R s m args below meth c T locs cells slots) (hx : p.tables.exec = Jvm.exec) {pc : Nat} {L : Array Slot} {S : List Value} {cd : ClassFile.Cond} {x y : Int32} {o : Int} (pc' : Nat) (hd : decode c.code pc = .ok (.if_icmp cd o, 3)) (hc : if_icmp.holds cd x y = true) (ho : 0 ≤ (pc : Int) + o) (hp : ((pc : Int) + o).toNat = pc') (k : Own p e below Q (T.setTop (mkF m (pc') L S))) : Own p e below Q (T.setTop (mkF m pc L (.int y :: .int x :: S))) :=
  ogo (fun _ k => XS.icmpYes X.here hx rfl rfl hd rfl hc ho hp k) k
theorem o_icmpNo (X : Stand p l e R s m args below meth c T locs cells slots) (hx : p.tables.exec = Jvm.exec) {pc : Nat} {L : Array Slot} {S : List Value} {cd : ClassFile.Cond} {x y : Int32} {o : Int} (hd : decode c.code pc = .ok (.if_icmp cd o, 3)) (hc : if_icmp.holds cd x y = false) (k : Own p e below Q (T.setTop (mkF m (pc + 3) L S))) : Own p e below Q (T.setTop (mkF m pc L (.int y :: .int x :: S))) :=
  ogo (fun _ k => XS.icmpNo X.here hx rfl hd rfl hc k) k
theorem o_ifnullYes (X : Stand p l e R s m args below meth c T locs cells slots) (hx : p.tables.exec = Jvm.exec) {pc : Nat} {L : Array Slot} {S : List Value} {o : Int} (pc' : Nat) (hd : decode c.code pc = .ok (.ifnull o, 3)) (ho : 0 ≤ (pc : Int) + o) (hp : ((pc : Int) + o).toNat = pc') (k : Own p e below Q (T.setTop (mkF m (pc') L S))) : Own p e below Q (T.setTop (mkF m pc L (.null :: S))) :=
  ogo (fun _ k => XS.ifnullYes X.here hx rfl rfl hd rfl ho hp k) k
theorem o_ifnullNo (X : Stand p l e R s m args below meth c T locs cells slots) (hx : p.tables.exec = Jvm.exec) {pc : Nat} {L : Array Slot} {S : List Value} {o : Int} {b : Addr} (hd : decode c.code pc = .ok (.ifnull o, 3)) (k : Own p e below Q (T.setTop (mkF m (pc + 3) L S))) : Own p e below Q (T.setTop (mkF m pc L (.ref b :: S))) :=
  ogo (fun _ k => XS.ifnullNo X.here hx rfl hd rfl k) k
theorem o_ifnonnullYes (X : Stand p l e R s m args below meth c T locs cells slots) (hx : p.tables.exec = Jvm.exec) {pc : Nat} {L : Array Slot} {S : List Value} {o : Int} {b : Addr} (pc' : Nat) (hd : decode c.code pc = .ok (.ifnonnull o, 3)) (ho : 0 ≤ (pc : Int) + o) (hp : ((pc : Int) + o).toNat = pc') (k : Own p e below Q (T.setTop (mkF m (pc') L S))) : Own p e below Q (T.setTop (mkF m pc L (.ref b :: S))) :=
  ogo (fun _ k => XS.ifnonnullYes X.here hx rfl rfl hd rfl ho hp k) k
theorem o_ifnonnullNo (X : Stand p l e R s m args below meth c T locs cells slots) (hx : p.tables.exec = Jvm.exec) {pc : Nat} {L : Array Slot} {S : List Value} {o : Int} (hd : decode c.code pc = .ok (.ifnonnull o, 3)) (k : Own p e below Q (T.setTop (mkF m (pc + 3) L S))) : Own p e below Q (T.setTop (mkF m pc L (.null :: S))) :=
  ogo (fun _ k => XS.ifnonnullNo X.here hx rfl hd rfl k) k
theorem o_acmp (X : Stand p l e R s m args below meth c T locs cells slots) (hx : p.tables.exec = Jvm.exec) {pc : Nat} {L : Array Slot} {S : List Value} {cd : ClassFile.ACond} {x y : Value} {o : Int} (pc' : Nat) (same : Bool) (h1 : x.isRef = true) (h2 : y.isRef = true) (hd : decode c.code pc = .ok (.if_acmp cd o, 3)) (hq : decide (x = y) = same) (ho : 0 ≤ (pc : Int) + o) (hp : pc' = if acV cd same = true then ((pc : Int) + o).toNat else pc + 3) (k : Own p e below Q (T.setTop (mkF m (pc') L S))) : Own p e below Q (T.setTop (mkF m pc L (y :: x :: S))) :=
  ogo (fun _ k => Jvm.RoadKit.acmp X hx rfl h1 h2 rfl hd rfl hq ho hp k) k
theorem o_tswIn (X : Stand p l e R s m args below meth c T locs cells slots) (hx : p.tables.exec = Jvm.exec) {pc : Nat} {L : Array Slot} {S : List Value} {d lo hi : Int} {offs : Array Int} {len : Nat} {o : Int} {i : Int32} (pc' : Nat) (hd : decode c.code pc = .ok (.tableswitch d lo hi offs, len)) (hin : ¬ (i.toInt < lo ∨ i.toInt > hi)) (hoff : offs[(i.toInt - lo).toNat]? = some o) (ho : 0 ≤ (pc : Int) + o) (hp : ((pc : Int) + o).toNat = pc') (k : Own p e below Q (T.setTop (mkF m (pc') L S))) : Own p e below Q (T.setTop (mkF m pc L (.int i :: S))) :=
  ogo (fun _ k => XS.tswIn X.here hx rfl rfl hd rfl hin hoff ho hp k) k
theorem o_tswOut (X : Stand p l e R s m args below meth c T locs cells slots) (hx : p.tables.exec = Jvm.exec) {pc : Nat} {L : Array Slot} {S : List Value} {d lo hi : Int} {offs : Array Int} {len : Nat} {i : Int32} (pc' : Nat) (hd : decode c.code pc = .ok (.tableswitch d lo hi offs, len)) (hout : i.toInt < lo ∨ i.toInt > hi) (ho : 0 ≤ (pc : Int) + d) (hp : ((pc : Int) + d).toNat = pc') (k : Own p e below Q (T.setTop (mkF m (pc') L S))) : Own p e below Q (T.setTop (mkF m pc L (.int i :: S))) :=
  ogo (fun _ k => XS.tswOut X.here hx rfl rfl hd rfl hout ho hp k) k
end Steps

theorem own_cat {v : Value} (h : v.isRef = true) : v.category = 1 := by cases v <;> simp_all [Value.isRef, Value.category]
theorem own_nar {C : String} {v : Value} (h : v.isRef = true) : narrow (.object C) v = v := by cases v <;> first | rfl | cases h
theorem own_fits {C : String} {v : Value} (h : v.isRef = true) : fits (.object C) v = true := by cases v <;> first | rfl | cases h
theorem own_narc (x : Int32) : nar .char (nar .char x) = nar .char x := by
  have h := c_i2c x
  have h' := c_i2c (nar .char x)
  refine Int32.toInt_inj.mp ?_
  show (nar .char x).toUInt32.toUInt16.toUInt32.toInt32.toInt = (nar .char x).toInt
  have e : (nar .char x).toInt = x.toUInt32.toUInt16.toUInt32.toInt32.toInt := rfl
  omega
theorem own_narb (x : Int32) : nar .byte x.toInt8.toInt32 = x.toInt8.toInt32 := by
  have h := c_i2b x
  have h' := c_i2b x.toInt8.toInt32
  refine Int32.toInt_inj.mp ?_
  show x.toInt8.toInt32.toInt8.toInt32.toInt = x.toInt8.toInt32.toInt
  omega
theorem own_eqref {args : Array Value} {s : State} {a b : Term} {z : Addr} (h : (Jvm.Cond.eq a b).value args s none s [] = some true) (hb : b.eval args s none [] s = some (.ref z)) : a.eval args s none [] s = some (.ref z) := by
  obtain ⟨x, y, h1, h2, k1, k2⟩ := cmp_v (Or.inl h)
  cases hb.symm.trans h2
  have q := gotT (eq_R h1 h2 k2.2 rfl) h
  rw [← q]; exact h1
theorem own_char {c : Int32} (h0 : ¬ (c < (0 : Int32))) (h1 : ¬ ((255 : Int32) < c)) : nar .char (c.toInt8.toInt32 &&& (255 : Int32)) = c := by
  rw [Int32.lt_iff_toInt_lt] at h0 h1
  have e0 : (0 : Int32).toInt = 0 := rfl
  have e1 : (255 : Int32).toInt = 255 := rfl
  have a := c_i2b c
  have b := c_mask c.toInt8.toInt32 (255 : Int32) 8 (by decide) (by decide)
  have d := c_i2c (c.toInt8.toInt32 &&& (255 : Int32))
  refine Int32.toInt_inj.mp ?_
  show (c.toInt8.toInt32 &&& (255 : Int32)).toUInt32.toUInt16.toUInt32.toInt32.toInt = c.toInt
  simp only [Nat.reducePow] at b
  omega
theorem own_narsm {c : Int32} (h0 : ¬ (c < (0 : Int32))) (h1 : ¬ ((255 : Int32) < c)) : nar .char c = c := by
  rw [Int32.lt_iff_toInt_lt] at h0 h1
  have e0 : (0 : Int32).toInt = 0 := rfl
  have e1 : (255 : Int32).toInt = 255 := rfl
  have d := c_i2c c
  refine Int32.toInt_inj.mp ?_
  show c.toUInt32.toUInt16.toUInt32.toInt32.toInt = c.toInt
  omega
abbrev oMetK (l : Launch) (Z : State) (y : MethodName) (code : ByteArray) (maxL : Nat) (ret : Option FieldType) (ws : List Jvm.Cond) (rm : Room) (cc ss : Nat) (as' : Array Value) (h0 : Heap) (q : Option Value → Heap → List Loc → Prop) : Prop :=
  MetFree l y (head1 (Jvm.Cond.code y code maxL ret :: ws) rm) (fun a U => a = as' ∧ Z.Warmed39 U.vm ∧ U.heap = h0) (fun _ _ bl s _ => s.vm.MethodsKnown ∧ s.vm.FramesKnown bl) (fun _ U o U' => ∃ v L, o = .returned v ∧ q v U'.heap L ∧ FrameEnd U o U' L cc ss)
theorem oenterK {l : Launch} {Z : State} {y : MethodName} {code : ByteArray} {maxL : Nat} {ret : Option FieldType} {ws : List Jvm.Cond} {rm : Room} {cc ss : Nat} {as' : Array Value} {h0 : Heap} {q : Option Value → Heap → List Loc → Prop} (pn : plainName y.cls = true) (Ls : Array Slot) (ef : ∀ m, entryFrame m as' maxL = mkF m 0 Ls [])
    (body : ∀ (p : Program) (e : Env) (s : State) (m : MethodId) (below : List Frame) (meth : Method) (c : Code) (s₁ : State), Stand p l e rm s m as' below meth c s₁ [] 0 0 → p.tables.exec = Jvm.exec → Z.Warmed39 s.vm → c.code = code → c.maxLocals = maxL → meth.sig.returnType = ret → s.vm.findClass y.cls = some m.cls → meth.name = y.name → meth.locks = false → s₁.heap = h0 → s.heap = h0 → s.vm.MethodsKnown → s.vm.FramesKnown below → Own p e below (oPost q s cc ss) (s₁.setTop (mkF m 0 Ls []))) : oMetK l Z y code maxL ret ws rm cc ss as' h0 q := by
  refine MetFree.of_bodySF (plainFor_of_name pn) hisR ?_
  intro p e s m args below meth c s₁ Bd hml0 hP hK
  obtain ⟨rfl, hZ, hh⟩ := hP
  have e0 : s₁.heap = h0 := by rw [← hh, Bd.state]; rfl
  obtain ⟨t, o, h1, h2⟩ := body p e s m below meth c s₁ (Stand.of_body Bd) Bd.exec hZ Bd.bytes hml0 Bd.returns (findClass_of_methodNamed Bd.named) (name_of_methodNamed Bd.named Bd.method).1 (BodyLoose.notSynchronized Bd) e0 hh hK.1 hK.2
  exact ⟨t, o, castTop (ef m) h1, h2⟩
theorem own_mk255 (y : Int32) : ¬ ((255 : Int32) < nar .char (y &&& (255 : Int32))) := by
  have a := c_and y (255 : Int32) (by decide)
  have d := c_i2c (y &&& (255 : Int32))
  have e : (255 : Int32).toInt = 255 := rfl
  have q : (nar .char (y &&& (255 : Int32))).toInt = (y &&& (255 : Int32)).toUInt32.toUInt16.toUInt32.toInt32.toInt := rfl
  rw [Int32.lt_iff_toInt_lt]; omega
abbrev own_UE : String := "com/example/reliquary/reliquary/UserException"
section Thr
open Jvm.Free.Exc Jvm.Lib.Cold LibCode.Throwable Jvm.Free.Str
variable {p : Program} {l : Launch} {e : Env} {R : Room} {s : State} {m : MethodId} {args : Array Value} {below : List Frame} {meth : Method} {c : Code} {T : State} {locs : List Loc} {cells slots : Nat} {Z : State} {a0 : Array Value}
/-- what is needed of java.lang.Throwable's table, out of this sheet's words -/
theorem own_thr {pl : Platform} (howns : pl.frameOwnsMonitors = true) (hfin : pl.finalization = false) (hpl : pl.magicAccessors = ({} : Platform).magicAccessors) (a : ∀ d ∈ tables_1, xOk d = true → d.holds args s none s [] = true) :
    ∃ V : ThrowableC, V.Links pl s ∧ s.vm.findClass tN = some V.cT ∧ s.methodNamed? tFill = some V.fill ∧ s.methodNamed? tFill0 = some V.fill0 ∧ s.fieldFound? tN "stackTrace" steD = some (V.cT, V.kT, V.i17, V.fStack) ∧
      s.fieldFound? tN "UNASSIGNED_STACK" steD = some (V.cT, V.kT, V.i13, V.fUnassigned) ∧ V.fStack.name = "stackTrace" ∧ V.fStack.type = .array (.object "java/lang/StackTraceElement") := by
  obtain ⟨⟨ct, i0⟩, n0, b1, b2, b3, b4, b5, b6⟩ := Cond.native_spec (a (.native tFill0) (List.mem_of_getElem? (i := 66) rfl) (by decide))
  have hc : s.vm.findClass tN = some ct := findClass_of_methodNamed b1
  obtain ⟨kt, hk, hnm⟩ := Vm.findClass_spec hc
  obtain ⟨_, kq, _, _, hkq, _, _, hord, _, hni⟩ := Cond.superclass_spec hc (a (.superclass tN "java/lang/Object") (List.mem_of_getElem? (i := 63) rfl) (by decide))
  cases hk.symm.trans hkq
  -- the two fillInStackTrace
  obtain ⟨iF, mF, f1, f2, f3, f4, f5, -, -⟩ := Cond.ownMethod (x := tFill) hc hk (a (.instanceMethod tFill) (List.mem_of_getElem? (i := 58) rfl) (by decide))
  obtain ⟨mF', cF, g1, g2, g3, g4, g5, g6, -, g8⟩ := Cond.codeSync_spec f1 (a (.codeSync tFill Fill.code 1 (some (.object tN))) (List.mem_of_getElem? (i := 64) rfl) (by decide))
  cases f2.symm.trans g1
  obtain ⟨i0', n0', z1, z2, z3, z4, z5, z6, z7⟩ := Cond.ownMethod (x := tFill0) hc hk (a (.instanceMethod tFill0) (List.mem_of_getElem? (i := 65) rfl) (by decide))
  obtain rfl : i0 = i0' := by have q := Option.some.inj (b1.symm.trans z1); simpa using q
  cases b2.symm.trans z2
  -- Object's constructor
  obtain ⟨mO, nO, o1, o2, o3, o4⟩ := Cond.instanceMethod_spec (a (.instanceMethod oInit) (List.mem_of_getElem? (i := 12) rfl) (by decide))
  obtain ⟨nO', cO, r1, r2, r3, r4, -, r6, -, r8⟩ := Cond.code_spec o1 (a (.code oInit ⟨#[0xb1]⟩ 1 none) (List.mem_of_getElem? (i := 13) rfl) (by decide))
  cases o2.symm.trans r1
  obtain ⟨kO, hkO, hnO⟩ := Vm.findClass_spec (findClass_of_methodNamed o1)
  obtain ⟨nmO, dsO⟩ := name_of_methodNamed o1 o2
  -- the links
  obtain ⟨c1, n1, cf, l1, l1', hcf, l1p⟩ := Cond.linkedMethod hc hk o1 (a (.methodLink tN 1 oInit) (List.mem_of_getElem? (i := 47) rfl) (by decide)) pl hpl
  obtain ⟨c27, n27, cf', l27, l27', hcf', l27p⟩ := Cond.linkedMethod hc hk f1 (a (.methodLink tN 27 tFill) (List.mem_of_getElem? (i := 56) rfl) (by decide)) pl hpl
  cases hcf.symm.trans hcf'
  obtain ⟨c202, n202, cf', l202, l202', hcf', l202p⟩ := Cond.linkedMethod hc hk b1 (a (.methodLink tN 202 tFill0) (List.mem_of_getElem? (i := 69) rfl) (by decide)) pl hpl
  cases hcf.symm.trans hcf'
  have wS := a (.lays own_UE tN "stackTrace" steD) (List.mem_of_getElem? (i := 52) rfl) (by decide)
  have wP := a (.lays own_UE tN "suppressedExceptions" listD) (List.mem_of_getElem? (i := 55) rfl) (by decide)
  have wM := a (.lays own_UE tN "detailMessage" "Ljava/lang/String;") (List.mem_of_getElem? (i := 79) rfl) (by decide)
  obtain ⟨c7, i7, F7, k71, k72, k73, k74, k75, k76, k77, k78⟩ := Cond.ownField (t := .object tN) hc hk (by decide +kernel) (a (.fieldLink tN 7 tN "cause" "Ljava/lang/Throwable;") (List.mem_of_getElem? (i := 48) rfl) (by decide)) (a (.lays own_UE tN "cause" "Ljava/lang/Throwable;") (List.mem_of_getElem? (i := 49) rfl) (by decide)) pl hpl
  obtain ⟨c17, i17, F17, s1, s2, s3, s4, s5, s6, s7, s8⟩ := Cond.ownField (t := .array (.object "java/lang/StackTraceElement")) hc hk (by decide +kernel) (a (.fieldLink tN 17 tN "stackTrace" steD) (List.mem_of_getElem? (i := 51) rfl) (by decide)) wS pl hpl
  obtain ⟨c24, i24, F24, p1, p2, p3, p4, p5, p6, p7, p8⟩ := Cond.ownField (t := .object "java/util/List") hc hk (by decide +kernel) (a (.fieldLink tN 24 tN "suppressedExceptions" listD) (List.mem_of_getElem? (i := 54) rfl) (by decide)) wP pl hpl
  obtain ⟨c13, i13, F13, aS, cellS, u1, u2, u3, u4, -, -, u7, u8, u9, -, -, u12⟩ := Cond.ownStatic (t := .array (.object "java/lang/StackTraceElement")) hc hk (by decide +kernel) (a (.fieldLink tN 13 tN "UNASSIGNED_STACK" steD) (List.mem_of_getElem? (i := 50) rfl) (by decide)) (a (.laysStatic tN "UNASSIGNED_STACK" steD) (List.mem_of_getElem? (i := 76) rfl) (by decide)) pl hpl
  obtain ⟨c20, i20, F20, _, _, v1, v2, v3, v4, -, -, -, -, -, -, -, v12⟩ := Cond.ownStatic (t := .object "java/util/List") hc hk (by decide +kernel) (a (.fieldLink tN 20 tN "SUPPRESSED_SENTINEL" listD) (List.mem_of_getElem? (i := 53) rfl) (by decide)) (a (.laysStatic tN "SUPPRESSED_SENTINEL" listD) (List.mem_of_getElem? (i := 77) rfl) (by decide)) pl hpl
  obtain ⟨cU, kU, _, _, _, FM, hcU, hkU, _, m4, m5, _⟩ := Cond.lays_spec wM
  have apart : F17.slot ≠ F24.slot := by
    obtain ⟨-, d, d1, d2⟩ := Cond.laysAt hcU hkU s8 wS
    obtain ⟨-, d', d3, d4⟩ := Cond.laysAt hcU hkU p8 wP
    exact Cond.laysApart d1 d3 d2 d4 (by rw [s6, p6]; decide)
  have pF : mF.sig.parameters = [] := by
    have q : (parseMethodDescriptor tFill.desc).map (·.parameters) = some [] := by decide +kernel
    rw [g8] at q; simpa using q
  have p0 : n0.sig.parameters = [.int] := by
    have q : (parseMethodDescriptor tFill0.desc).map (·.parameters) = some [.int] := by decide +kernel
    rw [b6] at q; simpa using q
  have pO : nO.sig.parameters.length = 0 := by
    have q : (parseMethodDescriptor oInit.desc).map (·.parameters) = some [] := by decide +kernel
    rw [r8] at q
    have q' : nO.sig.parameters = [] := by simpa using q
    rw [q']; rfl
  exact ⟨{ cT := ct, kT := kt, cO := ct, aS := aS, fillIdx := iF, fill0Idx := i0, initSIdx := iF, obj := mO, kObj := kO, methFill := mF, methFill0 := n0, methInitS := mF, methObj := nO, codeFill := cF, codeInitS := cF, codeObj := cO, fBack := F7, fDepth := F7, fStack := F17, fCause := F7, fSupp := F24, fMsg := FM, fUnassigned := F13, fSentinel := F20, cfT := cf, ci1 := c1, n1 := n1, ci27 := c27, n27 := n27, ci202 := c202, n202 := n202, ci7 := c7, i7 := i7, ci13 := c13, i13 := i13, ci17 := c17, i17 := i17, ci20 := c20, i20 := i20, ci24 := c24, i24 := i24 },
    { owns := howns, noFinalization := hfin, cls := hk, name := hnm, boot := Vm.findClass_boot hc hk, notInterface := hni, initialized := Cond.initialized_spec hc hk (a (.initialized tN) (List.mem_of_getElem? (i := 45) rfl) (by decide)), statics := u7, fillAt := f3, fillCode := g2, fillBytes := g3, fillLocals := g4, fillLocks := g6, fillStatic := f4, fillAbstract := f5, fillReturns := g5, fillParams := pF, fill0At := z3, fill0Name := z6, fill0Desc := z7, fill0Params := p0, fill0Static := z4, fill0Native := b3, fill0Code := b4, fill0Locks := b5, fill0Abstract := z5, stackInstance := s4, stackNotFinal := s5, unassignedStatic := u4, objClass := hkO, objClassName := hnO, objMethod := o2, objName := nmO, objStatic := o3, objAbstract := o4, objFound := by rw [dsO]; exact lookupSpecial_of_named o1 o2 o3, objParams := pO, objCode := r2, objBytes := r3, objLocks := r6, causeInstance := k74, causeNotFinal := k75, sentinelStatic := v4, suppInstance := p4, suppNotFinal := p5, msgInstance := m4, msgNotFinal := m5, stackApartSupp := apart, file := hcf, mlink1 := l1, mright1 := l1', pool1 := l1p, mlink27 := l27, mright27 := l27', pool27 := l27p, mlink202 := l202, mright202 := l202', pool202 := l202p, link7 := k71, right7 := k72, at7 := k73, link13 := u1, right13 := u2, at13 := u3, link17 := s1, right17 := s2, at17 := s3, link20 := v1, right20 := v2, at20 := v3, link24 := p1, right24 := p2, at24 := p3 },
    hc, f1, b1, s8, u12, s6, s7⟩
/-- fillInStackTrace on the object a that the walk has made: what is left as it was -/
def own_Qf (Z : State) (h : Heap) (a : Addr) (v : Option Value) (h' : Heap) (L : List Loc) : Prop :=
  v = some (.ref a) ∧ (∀ k, k ≤ a → Fr k L) ∧ Keep h h' [a] ∧ Exa Z h' a own_UE ∧ ∀ (C n d : String) (w : Value), RoadKit.slotOf Z C n d ≠ RoadKit.slotOf Z tN "backtrace" obD → RoadKit.slotOf Z C n d ≠ RoadKit.slotOf Z tN "depth" "I" → RoadKit.slotOf Z C n d ≠ RoadKit.slotOf Z tN "stackTrace" steD → Fld Z h a C n d w → Fld Z h' a C n d w
theorem own_fillBack (X : Stand p l e R s m args below meth c T locs cells slots) (hx : p.tables.exec = Jvm.exec) (hl : l.stackTraces = true) (hZ : Z.Warmed39 s.vm) (hw : ∀ d ∈ tables_1, d.before a0 Z = true) (hT0 : ThS Z s.heap) (hTK : s.vm.MethodsKnown) (hBelow : s.vm.FramesKnown below)
    {h : Heap} {a b : Addr} (E : Exa Z h a own_UE) (N : Unt h a) (F1 : Fld Z h a tN "backtrace" obD .null) (F2 : Fld Z h a tN "stackTrace" steD (.ref b)) (S : Sta Z h tN "UNASSIGNED_STACK" steD (.ref b)) {W : Nat} (hf : 2 < R.frames) (hlo : W + 42 ≤ R.locals) :
    Back l R p e below s args tFill 3 W (fun A as' => as' = #[.ref a] ∧ A.U.heap = h ∧ A.cells + 1 ≤ R.cells ∧ A.slots + 2752 ≤ R.slots)
      (fun A _ v B => ∃ L, own_Qf Z h a v B.U.heap L ∧ B.locs = A.locs ++ L ∧ B.cells = A.cells + 1 ∧ B.slots = A.slots + 2752) := by
  have htr : e.platform.stackTraces = true := by rw [X.admits.platform]; exact hl
  have hpl : e.platform.magicAccessors = ({} : Platform).magicAccessors := by rw [X.admits.platform]
  have at' : ∀ d ∈ tables_1, xOk d = true → d.holds args s none s [] = true := fun d hd ok => mvX (args := args) hT0 hZ ok (hw d hd)
  obtain ⟨V, L, vc, vF, vF0, vS, vU, vn, vt⟩ := own_thr (args := args) (s := s) (by rw [X.admits.platform]) (by rw [X.admits.platform]) hpl at'
  -- the object
  obtain ⟨cell, kc, h1, h2, h3, h4, h5⟩ := id E
  obtain ⟨c', u1, u2, u3⟩ := id N
  cases h1.symm.trans u1
  obtain ⟨_, kI, i1, i2, i3, -⟩ := Cond.instantiable_spec (hw (.instantiable own_UE 7) (List.mem_of_getElem? (i := 31) rfl))
  cases h2.symm.trans i1
  cases h3.symm.trans i2
  have hsz := h5 i3
  obtain ⟨kX, hkX, heX⟩ := hZ.alike.2.2 _ _ h3
  have hfound : s.vm.findClass own_UE = some cell.cls := by rw [hZ.alike.findClass]; exact h2
  have hord : kX.kind = .ordinary := by rw [heX]; exact i3
  have hsz' : cell.slots.size = kX.instanceTypes.size := by rw [heX]; exact hsz
  have tk : ∀ {f : Field} {v : Value}, kX.instanceTypes[f.slot]? = some f.type → fits f.type v = true → Jvm.Takes s cell f v := fun {f v} q1 q2 => by
    obtain ⟨r1, r2⟩ := Takes.of_laid (v := v) hkX hord q1 q2
    exact ⟨by rw [hsz']; simpa using r1, by rw [u2]; exact r2⟩
  have hsel0 : selectMethod e.platform s.vm cell.cls V.fill0 = .method V.fill0 := by
    obtain ⟨c2, r2, m2, q1, q2, q3, q4, -⟩ := Cond.selects_spec (at' (.selects own_UE tFill0 tFill0) (List.mem_of_getElem? (i := 78) rfl) (by decide))
    cases Option.some.inj (q1.symm.trans hfound)
    cases Option.some.inj (q2.symm.trans (State.methodFound?_of_named vF0 (by decide)))
    cases Option.some.inj (q3.symm.trans vF0)
    rw [Launch.admits_selectMethod X.admits]; exact q4
  -- the statics' cell
  obtain ⟨cfU, iU, kU, fU, aU, cellS, s1, s2, s3, s4, s5, s6, s7⟩ := S
  obtain ⟨kU', s1', seU⟩ := State.fieldFound?_setVm (s := Z) hZ.alike s1
  cases (show some _ = some _ from vU.symm.trans s1')
  have hst : V.kT.statics = some aU := by rw [seU]; exact s4
  cases Option.some.inj (L.statics.symm.trans hst)
  have hneS : V.aS ≠ a := fun q => by
    rw [q] at s5; cases h1.symm.trans s5; rw [s6] at h4; cases h4
  have hknS : cellS.vm ≠ .unknown := fun q => by rw [q] at s6; cases s6
  -- the fields
  have slotZ : ∀ {C n d : String} {cf : ClassId} {k : Class} {i : Nat} {f : Field}, Z.fieldFound? C n d = some (cf, k, i, f) → RoadKit.slotOf Z C n d = f.slot := fun q => by simp [RoadKit.slotOf, q]
  obtain ⟨cB, cfB, kB, iB, fB, b1, b2, b3, -, -, -, b7⟩ := F1
  cases h1.symm.trans b1
  obtain ⟨cS, cfS, kS, iS, fS, t1, t2, t3, -, -, -, t7⟩ := F2
  cases h1.symm.trans t1
  obtain ⟨kB', b2', -⟩ := State.fieldFound?_setVm (s := Z) hZ.alike b2
  obtain ⟨kS', t2', -⟩ := State.fieldFound?_setVm (s := Z) hZ.alike t2
  cases (show some _ = some _ from vS.symm.trans t2')
  obtain ⟨ci198, i198, fB', q1, q2, q3, q4, -, q6, q7, q8⟩ := Cond.ownField (t := .object "java/lang/Object") vc L.cls (by decide +kernel) (at' (.fieldLink tN 198 tN "backtrace" obD) (List.mem_of_getElem? (i := 74) rfl) (by decide)) (at' (.lays tN tN "backtrace" obD) (List.mem_of_getElem? (i := 75) rfl) (by decide)) e.platform hpl
  cases (show some _ = some _ from q8.symm.trans b2')
  have wD := at' (.lays own_UE tN "depth" "I") (List.mem_of_getElem? (i := 81) rfl) (by decide)
  obtain ⟨_, _, cD, kD, iD, fD, -, -, d3, d4, -, -, -, -⟩ := Cond.lays_spec wD
  cases Option.some.inj ((Cond.lays_declared wD d3).symm.trans vc)
  obtain ⟨d5, d6⟩ := State.fieldFound?_spec d3
  cases Option.some.inj (d5.symm.trans L.cls)
  obtain ⟨d7, d8⟩ := State.fieldFound?_type d3 (t := .int) (by decide +kernel)
  obtain ⟨cD', kD', iD', d9⟩ := Jvm.Free.BdW.found_ride (U := s) (U' := Z) hZ.alike.symm ⟨_, _, _, d3⟩
  have hfb := Cond.soleField_find vc L.cls (at' (.soleField tN "backtrace") (List.mem_of_getElem? (i := 61) rfl) (by decide)) q3 q6 q4
  have hfd := Cond.soleField_find vc L.cls (at' (.soleField tN "depth") (List.mem_of_getElem? (i := 62) rfl) (by decide)) d6 d7 d4
  obtain ⟨comp, cO, kO, -, -, hkO, hkindO, hO⟩ := Cond.arrayOver_spec (at' (.arrayOver (.object "java/lang/Object")) (List.mem_of_getElem? (i := 60) rfl) (by decide))
  obtain ⟨tyS, -⟩ := Cond.laysAt hfound hkX vS (at' (.lays own_UE tN "stackTrace" steD) (List.mem_of_getElem? (i := 52) rfl) (by decide))
  obtain ⟨tyB, -⟩ := Cond.laysAt hfound hkX q8 (at' (.lays own_UE tN "backtrace" obD) (List.mem_of_getElem? (i := 80) rfl) (by decide))
  obtain ⟨tyD, -⟩ := Cond.laysAt hfound hkX d3 wD
  intro m2 meth2 c2 A g ig mk as' X2 hg hsize hdg hWd hmk hPre
  obtain ⟨rfl, hA, hcA, hsA⟩ := hPre
  obtain ⟨v, B, X3, ⟨hv, vm', lines, hlines, -, hU, hL, hcB, hsB⟩, st⟩ := fillPays (l := l) (R := R) (len := 3) (W := W) (sargs := args) hx htr V L vF (u0 := ⟨.ref b, rfl⟩) (by simp) (self := a) (cell := cell) (cellS := cellS) (fun _ => by rw [u2]; simp) (by rw [u2]; simp) (by rw [u3]) (by rw [u3]) t7 hsel0 hneS hknS s7
    (tk tyS (by rw [vt]; rfl)) ⟨{ ci198 := ci198, i198 := iB, fBack := fB }, ⟨q1, q2, q3, q4⟩, b7⟩ hTK hBelow vc hO hkO hkindO hfb hfd (fun x => tk tyB (by rw [q7]; rfl)) (fun x => tk tyD (by rw [d8]; rfl)) hf hlo
    m2 meth2 c2 A g ig mk #[.ref a] X2 hg hsize hdg hWd hmk ⟨rfl, hcA, hsA, by rw [hA]; exact h1, by rw [hA]; exact s5⟩
  have hn : (traceHolder cO lines).slots.size ≤ 2752 := traceHolder_size_le cO hlines
  have hlt : a < h.size := (Array.getElem?_eq_some_iff.mp h1).1
  have hB : B.U.heap = (h.push (traceHolder cO lines)).setIfInBounds a (filledOn V.toThrowableT fB fD cell ⟨.ref b, rfl⟩ h.size lines.length.toInt32) := by
    rw [hU, ← hA]; rfl
  have self' : B.U.heap[a]? = some (filledOn V.toThrowableT fB fD cell ⟨.ref b, rfl⟩ h.size lines.length.toInt32) := by
    rw [hB, Array.getElem?_setIfInBounds_self_of_lt (by rw [Array.size_push]; exact Nat.lt_succ_of_lt hlt)]
  have other : ∀ (x : Addr) (cx : Cell), h[x]? = some cx → x ≠ a → B.U.heap[x]? = some cx := fun x cx q ne => by
    rw [hB, Array.getElem?_setIfInBounds_ne (Ne.symm ne), Array.getElem?_push_lt (Array.getElem?_eq_some_iff.mp q).1]
    simpa [Array.getElem?_eq_getElem (Array.getElem?_eq_some_iff.mp q).1] using q
  refine ⟨v, ⟨B.U, B.locs, B.cells, A.slots + 2752⟩, X3.more (Nat.le_refl _) (by rw [hsB]; exact Nat.add_le_add_left hn _), ⟨_, ⟨hv, fun k hk y hy => ?_, ⟨?_, fun x cx q ne => other x cx q (by simpa using ne), fun x cx q => ?_⟩, ?_, fun C n d w n1 n2 n3 F => ?_⟩, hL, hcB, rfl⟩, st⟩
  · simp only [List.mem_cons, List.not_mem_nil, or_false] at hy
    rcases hy with rfl | rfl | rfl <;> exact hk
  · rw [hB]; simp
  · by_cases z : x = a
    · subst z; cases h1.symm.trans q
      exact ⟨_, self', rfl, rfl, by simp [filledOn, Cell.setSlot]⟩
    · exact ⟨cx, other x cx q z, rfl, rfl, rfl⟩
  · exact ⟨_, kc, self', h2, h3, h4, fun q => by simpa [filledOn, Cell.setSlot] using h5 q⟩
  · obtain ⟨cl, cf, k, i, f, w1, w2, w3, w4, w5, w6, w7⟩ := F
    cases h1.symm.trans w1
    rw [slotZ w2] at n1 n2 n3
    rw [slotZ b2] at n1
    rw [slotZ d9] at n2
    rw [slotZ t2] at n3
    refine ⟨_, cf, k, i, f, self', w2, w3, w4, w5, w6, ?_⟩
    simpa [filledOn, Cell.setSlot, Array.getElem?_setIfInBounds, n1, n2, n3, Ne.symm n1, Ne.symm n2, Ne.symm n3] using w7
end Thr
def own_Start (Z : State) (z_CS : Int32) (v_FMT : Value) (s_US : Addr) (s_SS : Addr) : Prop := (Sta Z Z.heap "java/lang/String" "COMPACT_STRINGS" "Z" (.int z_CS)) ∧ (¬ (z_CS = (0 : Int32))) ∧ (Sta Z Z.heap "java/lang/Throwable" "$assertionsDisabled" "Z" (.int (1 : Int32))) ∧ (Sta Z Z.heap "jdk/internal/util/Preconditions" "SIOOBE_FORMATTER" "Ljava/util/function/BiFunction;" v_FMT) ∧ (v_FMT.isRef = true) ∧ (Sta Z Z.heap "java/lang/Throwable" "UNASSIGNED_STACK" "[Ljava/lang/StackTraceElement;" (.ref s_US)) ∧ (Sta Z Z.heap "java/lang/Throwable" "SUPPRESSED_SENTINEL" "Ljava/util/List;" (.ref s_SS))
theorem d1_0 : decode jdk_52_method_21_code 0 = .ok (.iconst 0, 1) := by decide +kernel
theorem d1_1 : decode jdk_52_method_21_code 1 = .ok (.istore 5, 2) := by decide +kernel
theorem d1_3 : decode jdk_52_method_21_code 3 = .ok (.iload 5, 2) := by decide +kernel
theorem d1_5 : decode jdk_52_method_21_code 5 = .ok (.iload 4, 2) := by decide +kernel
theorem d1_7 : decode jdk_52_method_21_code 7 = .ok (.if_icmp .ge 37, 3) := by decide +kernel
theorem d1_10 : decode jdk_52_method_21_code 10 = .ok (.aload_n 0, 1) := by decide +kernel
theorem d1_11 : decode jdk_52_method_21_code 11 = .ok (.iload_n 1, 1) := by decide +kernel
theorem d1_12 : decode jdk_52_method_21_code 12 = .ok (.caload, 1) := by decide +kernel
theorem d1_13 : decode jdk_52_method_21_code 13 = .ok (.istore 6, 2) := by decide +kernel
theorem d1_15 : decode jdk_52_method_21_code 15 = .ok (.iload 6, 2) := by decide +kernel
theorem d1_17 : decode jdk_52_method_21_code 17 = .ok (.sipush 255, 3) := by decide +kernel
theorem d1_20 : decode jdk_52_method_21_code 20 = .ok (.if_icmp .le 6, 3) := by decide +kernel
theorem d1_26 : decode jdk_52_method_21_code 26 = .ok (.aload_n 2, 1) := by decide +kernel
theorem d1_27 : decode jdk_52_method_21_code 27 = .ok (.iload_n 3, 1) := by decide +kernel
theorem d1_28 : decode jdk_52_method_21_code 28 = .ok (.iload 6, 2) := by decide +kernel
theorem d1_30 : decode jdk_52_method_21_code 30 = .ok (.i2b, 1) := by decide +kernel
theorem d1_31 : decode jdk_52_method_21_code 31 = .ok (.bastore, 1) := by decide +kernel
theorem d1_32 : decode jdk_52_method_21_code 32 = .ok (.iinc 1 1, 3) := by decide +kernel
theorem d1_35 : decode jdk_52_method_21_code 35 = .ok (.iinc 3 1, 3) := by decide +kernel
theorem d1_38 : decode jdk_52_method_21_code 38 = .ok (.iinc 5 1, 3) := by decide +kernel
theorem d1_41 : decode jdk_52_method_21_code 41 = .ok (.goto (-38), 3) := by decide +kernel
theorem d1_44 : decode jdk_52_method_21_code 44 = .ok (.iload 4, 2) := by decide +kernel
theorem d1_46 : decode jdk_52_method_21_code 46 = .ok (.ireturn, 1) := by decide +kernel
theorem own_pn0 : plainName "java/lang/StringUTF16" = true := by first | (simp [plainName, overriddenIn]; done) | decide +kernel
def own_Q_cmp5_2 (Z : State)  (ca_ : Addr) (kc_ : ClassId) (ba_ : Addr) (kb_ : ClassId) (c0_ : Int32) (c1_ : Int32) (h0 : Heap) (n0 : Nat) (v : Option Value) (h : Heap) (L : List Loc) : Prop := (v = some (.int (2 : Int32))) ∧ (Fr n0 L) ∧ (Keep h0 h [ba_]) ∧ (Arv Z h ba_ kb_ .byte (2 : Int32) [(.int c0_.toInt8.toInt32), (.int c1_.toInt8.toInt32)] (.int 0))
abbrev yM0 : MethodName := ⟨"java/lang/StringUTF16", "compress", "([CI[BII)I"⟩
set_option maxRecDepth 65536 in
set_option maxHeartbeats 40000000 in
theorem rm_cmp5_2 (l : Launch) (Z : State) (a0 : Array Value) (hw : ∀ d ∈ tables_1, d.before a0 Z = true) (ws : List Jvm.Cond)  (ca_ : Addr) (kc_ : ClassId) (ba_ : Addr) (kb_ : ClassId) (c0_ : Int32) (c1_ : Int32) (h0 : Heap) (n0 : Nat) (O0 : Old Z n0 h0) (pr0 : Arv Z h0 ca_ kc_ .char (2 : Int32) [(.int c0_), (.int c1_)] (.int 0)) (pr1 : Arv Z h0 ba_ kb_ .byte (2 : Int32) [(.int 0), (.int 0)] (.int 0)) (pr2 : ca_ ≠ ba_) (pr3 : n0 ≤ ba_) (pr4 : ¬ ((255 : Int32) < c0_)) (pr5 : ¬ ((255 : Int32) < c1_)) :
    oMet l Z yM0 jdk_52_method_21_code 7 (some .int) ws ({ frames := 0, cells := 0, slots := 0, locals := 0 } : Room) 0 0 #[(.ref ca_), (.int (0 : Int32)), (.ref ba_), (.int (0 : Int32)), (.int (2 : Int32))] h0 (own_Q_cmp5_2 Z  ca_ kc_ ba_ kb_ c0_ c1_ h0 n0) := by
  refine oenter own_pn0 #[.val (.ref ca_), .val (.int (0 : Int32)), .val (.ref ba_), .val (.int (0 : Int32)), .val (.int (2 : Int32)), .unset, .unset] (fun m => by first | (simp [entryFrame, mkF, argsToLocals, Value.category]; done) | rfl) ?_
  intro p e s m below meth c s₁ X0 hx hZ hby hml hret hown0 hnm hlk e0
  have hown : s.vm.findClass "java/lang/StringUTF16" = some m.cls := hown0
  have N0 := Fr.nil n0
  refine o_iconst X0 hx (0 : Int32) (hb hby d1_0) rfl ?_
  refine o_istore X0 hx (l' := #[.val (.ref ca_), .val (.int (0 : Int32)), .val (.ref ba_), .val (.int (0 : Int32)), .val (.int (2 : Int32)), .val (.int (0 : Int32)), .unset]) (hb hby d1_1) rfl ?_
  refine o_iload X0 hx (hb hby d1_3) rfl ?_
  refine o_iload X0 hx (hb hby d1_5) rfl ?_
  refine o_icmpNo X0 hx (hb hby d1_7) (tlt (by decide : (0 : Int32) < (2 : Int32))).2.1 ?_
  refine o_aloadN X0 hx (hb hby d1_10) rfl rfl ?_
  refine o_iloadN X0 hx (hb hby d1_11) rfl ?_
  obtain ⟨cl1, Ar1, q1, S1, N1z, H1, G1⟩ := (id pr0)
  have hi1 := inb_of (j := (0 : Int32)) S1 ⟨by decide, by decide⟩
  have ha1 := Has.at (v := (.int c0_)) H1 hi1 rfl
  refine ogo (S' := s₁.setTop (mkF m 13 #[.val (.ref ca_), .val (.int (0 : Int32)), .val (.ref ba_), .val (.int (0 : Int32)), .val (.int (2 : Int32)), .val (.int (0 : Int32)), .unset] [(.int c0_)])) (X0.caload hx (j := (0 : Int32)) (v := (.int c0_)) (by rw [e0]; exact Ar1.1) (State.isArrayOf_alike hZ.alike Ar1.2.1) Ar1.2.2 hi1 ha1 (g := (mkF m 12 #[.val (.ref ca_), .val (.int (0 : Int32)), .val (.ref ba_), .val (.int (0 : Int32)), .val (.int (2 : Int32)), .val (.int (0 : Int32)), .unset] [(.int (0 : Int32)), (.ref ca_)])) rfl rfl (hb hby d1_12)) ?_
  refine o_istore X0 hx (l' := #[.val (.ref ca_), .val (.int (0 : Int32)), .val (.ref ba_), .val (.int (0 : Int32)), .val (.int (2 : Int32)), .val (.int (0 : Int32)), .val (.int c0_)]) (hb hby d1_13) rfl ?_
  refine o_iload X0 hx (hb hby d1_15) rfl ?_
  refine o_sipush X0 hx (255 : Int32) (hb hby d1_17) rfl ?_
  refine o_icmpYes X0 hx 26 (hb hby d1_20) (flt pr4).2.2.2 (by decide) (by decide) ?_
  refine o_aloadN X0 hx (hb hby d1_26) rfl rfl ?_
  refine o_iloadN X0 hx (hb hby d1_27) rfl ?_
  refine o_iload X0 hx (hb hby d1_28) rfl ?_
  refine o_i2b X0 hx (hb hby d1_30) ?_
  obtain ⟨cl2, Ar2, q2, S2, N2z, H2, G2⟩ := (id pr1)
  obtain ⟨T2, _, X2, rfl, W2, st2⟩ := stB X0 hx hZ e0 Ar2 (j := (0 : Int32)) (inb_of S2 ⟨by decide, by decide⟩) (g := (mkF m 31 #[.val (.ref ca_), .val (.int (0 : Int32)), .val (.ref ba_), .val (.int (0 : Int32)), .val (.int (2 : Int32)), .val (.int (0 : Int32)), .val (.int c0_)] [(.int c0_.toInt8.toInt32), (.int (0 : Int32)), (.ref ba_)])) rfl rfl (hb hby d1_31)
  rw [own_narb] at W2
  have V2 : Arv Z T2.heap ba_ kb_ .byte (2 : Int32) [(.int c0_.toInt8.toInt32), (.int 0)] (.int 0) := Arv.set Ar2 q2 S2 N2z H2 G2 (fits_nar_byte _) W2 0 rfl (Nat.le_of_ble_eq_true rfl)
  have N2 := Fr.snoc X2 N0 pr3
  refine ogo (S' := T2.setTop (mkF m 32 #[.val (.ref ca_), .val (.int (0 : Int32)), .val (.ref ba_), .val (.int (0 : Int32)), .val (.int (2 : Int32)), .val (.int (0 : Int32)), .val (.int c0_)] [])) st2 ?_
  refine o_iinc X2 hx (l' := #[.val (.ref ca_), .val (.int (1 : Int32)), .val (.ref ba_), .val (.int (0 : Int32)), .val (.int (2 : Int32)), .val (.int (0 : Int32)), .val (.int c0_)]) (hb hby d1_32) rfl rfl ?_
  refine o_iinc X2 hx (l' := #[.val (.ref ca_), .val (.int (1 : Int32)), .val (.ref ba_), .val (.int (1 : Int32)), .val (.int (2 : Int32)), .val (.int (0 : Int32)), .val (.int c0_)]) (hb hby d1_35) rfl rfl ?_
  refine o_iinc X2 hx (l' := #[.val (.ref ca_), .val (.int (1 : Int32)), .val (.ref ba_), .val (.int (1 : Int32)), .val (.int (2 : Int32)), .val (.int (1 : Int32)), .val (.int c0_)]) (hb hby d1_38) rfl rfl ?_
  refine o_goto X2 hx 3 (hb hby d1_41) (by decide) (by decide) ?_
  refine o_iload X2 hx (hb hby d1_3) rfl ?_
  refine o_iload X2 hx (hb hby d1_5) rfl ?_
  refine o_icmpNo X2 hx (hb hby d1_7) (tlt (by decide : (1 : Int32) < (2 : Int32))).2.1 ?_
  refine o_aloadN X2 hx (hb hby d1_10) rfl rfl ?_
  refine o_iloadN X2 hx (hb hby d1_11) rfl ?_
  obtain ⟨cl3, Ar3, q3, S3, N3z, H3, G3⟩ := (id (pr0.other W2 pr2))
  have hi3 := inb_of (j := (1 : Int32)) S3 ⟨by decide, by decide⟩
  have ha3 := Has.at (v := (.int c1_)) H3 hi3 rfl
  refine ogo (S' := T2.setTop (mkF m 13 #[.val (.ref ca_), .val (.int (1 : Int32)), .val (.ref ba_), .val (.int (1 : Int32)), .val (.int (2 : Int32)), .val (.int (1 : Int32)), .val (.int c0_)] [(.int c1_)])) (X2.caload hx (j := (1 : Int32)) (v := (.int c1_)) Ar3.1 (State.isArrayOf_alike hZ.alike Ar3.2.1) Ar3.2.2 hi3 ha3 (g := (mkF m 12 #[.val (.ref ca_), .val (.int (1 : Int32)), .val (.ref ba_), .val (.int (1 : Int32)), .val (.int (2 : Int32)), .val (.int (1 : Int32)), .val (.int c0_)] [(.int (1 : Int32)), (.ref ca_)])) rfl rfl (hb hby d1_12)) ?_
  refine o_istore X2 hx (l' := #[.val (.ref ca_), .val (.int (1 : Int32)), .val (.ref ba_), .val (.int (1 : Int32)), .val (.int (2 : Int32)), .val (.int (1 : Int32)), .val (.int c1_)]) (hb hby d1_13) rfl ?_
  refine o_iload X2 hx (hb hby d1_15) rfl ?_
  refine o_sipush X2 hx (255 : Int32) (hb hby d1_17) rfl ?_
  refine o_icmpYes X2 hx 26 (hb hby d1_20) (flt pr5).2.2.2 (by decide) (by decide) ?_
  refine o_aloadN X2 hx (hb hby d1_26) rfl rfl ?_
  refine o_iloadN X2 hx (hb hby d1_27) rfl ?_
  refine o_iload X2 hx (hb hby d1_28) rfl ?_
  refine o_i2b X2 hx (hb hby d1_30) ?_
  obtain ⟨cl4, Ar4, q4, S4, N4z, H4, G4⟩ := (id V2)
  obtain ⟨T4, _, X4, rfl, W4, st4⟩ := stB X2 hx hZ rfl Ar4 (j := (1 : Int32)) (inb_of S4 ⟨by decide, by decide⟩) (g := (mkF m 31 #[.val (.ref ca_), .val (.int (1 : Int32)), .val (.ref ba_), .val (.int (1 : Int32)), .val (.int (2 : Int32)), .val (.int (1 : Int32)), .val (.int c1_)] [(.int c1_.toInt8.toInt32), (.int (1 : Int32)), (.ref ba_)])) rfl rfl (hb hby d1_31)
  rw [own_narb] at W4
  have V4 : Arv Z T4.heap ba_ kb_ .byte (2 : Int32) [(.int c0_.toInt8.toInt32), (.int c1_.toInt8.toInt32)] (.int 0) := Arv.set Ar4 q4 S4 N4z H4 G4 (fits_nar_byte _) W4 1 rfl (Nat.le_of_ble_eq_true rfl)
  have N4 := Fr.snoc X4 N2 pr3
  refine ogo (S' := T4.setTop (mkF m 32 #[.val (.ref ca_), .val (.int (1 : Int32)), .val (.ref ba_), .val (.int (1 : Int32)), .val (.int (2 : Int32)), .val (.int (1 : Int32)), .val (.int c1_)] [])) st4 ?_
  refine o_iinc X4 hx (l' := #[.val (.ref ca_), .val (.int (2 : Int32)), .val (.ref ba_), .val (.int (1 : Int32)), .val (.int (2 : Int32)), .val (.int (1 : Int32)), .val (.int c1_)]) (hb hby d1_32) rfl rfl ?_
  refine o_iinc X4 hx (l' := #[.val (.ref ca_), .val (.int (2 : Int32)), .val (.ref ba_), .val (.int (2 : Int32)), .val (.int (2 : Int32)), .val (.int (1 : Int32)), .val (.int c1_)]) (hb hby d1_35) rfl rfl ?_
  refine o_iinc X4 hx (l' := #[.val (.ref ca_), .val (.int (2 : Int32)), .val (.ref ba_), .val (.int (2 : Int32)), .val (.int (2 : Int32)), .val (.int (2 : Int32)), .val (.int c1_)]) (hb hby d1_38) rfl rfl ?_
  refine o_goto X4 hx 3 (hb hby d1_41) (by decide) (by decide) ?_
  refine o_iload X4 hx (hb hby d1_3) rfl ?_
  refine o_iload X4 hx (hb hby d1_5) rfl ?_
  refine o_icmpYes X4 hx 44 (hb hby d1_7) (flt (by decide : ¬ ((2 : Int32) < (2 : Int32)))).2.1 (by decide) (by decide) ?_
  refine o_iload X4 hx (hb hby d1_44) rfl ?_
  refine oend X4 hlk (v := some (.int (2 : Int32))) (fun h => by rw [hret] at h; cases h) (fun fs hr => retOut X4 hx (t := .int) (i := .ireturn) hret rfl (Or.inl ⟨rfl, Or.inl rfl, _, rfl⟩) (hb hby d1_46) hr) (by decide) (by decide) ?_
  show own_Q_cmp5_2 Z _ _ _ _ _ _ h0 n0 _ T4.heap _
  exact ⟨rfl, N4, (((Keep.refl h0 [ba_]).wr W2 (Or.inl (List.mem_of_getElem? (i := 0) rfl))).wr W4 (Or.inl (List.mem_of_getElem? (i := 0) rfl))), V4⟩
theorem own_pd0 : parseMethodDescriptor "([CI[BII)I" = some ⟨[(.array .char), .int, (.array .byte), .int, .int], some .int⟩ := by decide +kernel
theorem d2_0 : decode jdk_52_method_16_code 0 = .ok (.iload_n 2, 1) := by decide +kernel
theorem d2_1 : decode jdk_52_method_16_code 1 = .ok (.newarray .byte, 2) := by decide +kernel
theorem d2_3 : decode jdk_52_method_16_code 3 = .ok (.astore_n 3, 1) := by decide +kernel
theorem d2_4 : decode jdk_52_method_16_code 4 = .ok (.aload_n 0, 1) := by decide +kernel
theorem d2_5 : decode jdk_52_method_16_code 5 = .ok (.iload_n 1, 1) := by decide +kernel
theorem d2_6 : decode jdk_52_method_16_code 6 = .ok (.aload_n 3, 1) := by decide +kernel
theorem d2_7 : decode jdk_52_method_16_code 7 = .ok (.iconst 0, 1) := by decide +kernel
theorem d2_8 : decode jdk_52_method_16_code 8 = .ok (.iload_n 2, 1) := by decide +kernel
theorem d2_9 : decode jdk_52_method_16_code 9 = .ok (.invokestatic 115, 3) := by decide +kernel
theorem d2_12 : decode jdk_52_method_16_code 12 = .ok (.istore 4, 2) := by decide +kernel
theorem d2_14 : decode jdk_52_method_16_code 14 = .ok (.iload 4, 2) := by decide +kernel
theorem d2_16 : decode jdk_52_method_16_code 16 = .ok (.iload_n 2, 1) := by decide +kernel
theorem d2_17 : decode jdk_52_method_16_code 17 = .ok (.if_icmp .eq 40, 3) := by decide +kernel
theorem d2_57 : decode jdk_52_method_16_code 57 = .ok (.aload_n 3, 1) := by decide +kernel
theorem d2_58 : decode jdk_52_method_16_code 58 = .ok (.areturn, 1) := by decide +kernel
def own_Q_cmp3_2 (Z : State)  (ca_ : Addr) (kc_ : ClassId) (c0_ : Int32) (c1_ : Int32) (h0 : Heap) (n0 : Nat) (v : Option Value) (h : Heap) (L : List Loc) : Prop := ∃ ba_ : Addr, ∃ kb_ : ClassId, (v = some (.ref ba_)) ∧ (Fr n0 L) ∧ (Keep h0 h []) ∧ (h0.size ≤ ba_) ∧ (Arv Z h ba_ kb_ .byte (2 : Int32) [(.int c0_.toInt8.toInt32), (.int c1_.toInt8.toInt32)] (.int 0))
abbrev yM1 : MethodName := ⟨"java/lang/StringUTF16", "compress", "([CII)[B"⟩
set_option maxRecDepth 65536 in
set_option maxHeartbeats 40000000 in
theorem rm_cmp3_2 (l : Launch) (Z : State) (a0 : Array Value) (hw : ∀ d ∈ tables_1, d.before a0 Z = true) (ws : List Jvm.Cond)  (ca_ : Addr) (kc_ : ClassId) (c0_ : Int32) (c1_ : Int32) (h0 : Heap) (n0 : Nat) (O0 : Old Z n0 h0) (pr0 : Arv Z h0 ca_ kc_ .char (2 : Int32) [(.int c0_), (.int c1_)] (.int 0)) (pr1 : ¬ ((255 : Int32) < c0_)) (pr2 : ¬ ((255 : Int32) < c1_)) :
    oMet l Z yM1 jdk_52_method_16_code 6 (some (.array .byte)) ws ({ frames := 1, cells := 1, slots := 2, locals := 18 } : Room) 1 2 #[(.ref ca_), (.int (0 : Int32)), (.int (2 : Int32))] h0 (own_Q_cmp3_2 Z  ca_ kc_ c0_ c1_ h0 n0) := by
  refine oenter own_pn0 #[.val (.ref ca_), .val (.int (0 : Int32)), .val (.int (2 : Int32)), .unset, .unset, .unset] (fun m => by first | (simp [entryFrame, mkF, argsToLocals, Value.category]; done) | rfl) ?_
  intro p e s m below meth c s₁ X0 hx hZ hby hml hret hown0 hnm hlk e0
  have hown : s.vm.findClass "java/lang/StringUTF16" = some m.cls := hown0
  have N0 := Fr.nil n0
  have w17 := hw _ (List.mem_of_getElem? (i := 17) rfl)
  have w19 := hw _ (List.mem_of_getElem? (i := 19) rfl)
  have w20 := hw _ (List.mem_of_getElem? (i := 20) rfl)
  have w21 := hw _ (List.mem_of_getElem? (i := 21) rfl)
  have w22 := hw _ (List.mem_of_getElem? (i := 22) rfl)
  refine o_iloadN X0 hx (hb hby d2_0) rfl ?_
  obtain ⟨T1, _, k1, X1, rfl, E1, A1, Ex1, st1⟩ := newPE (aty := .byte) X0 hx hZ w19 e0 (g := (mkF m 1 #[.val (.ref ca_), .val (.int (0 : Int32)), .val (.int (2 : Int32)), .unset, .unset, .unset] [(.int (2 : Int32))])) rfl (hb hby d2_1) rfl (by decide) (cap := 2) (by decide) (by decide) (by decide) (by decide) (ad := "[B") rfl
  obtain ⟨b1, g1⟩ : ∃ z, z = h0.size := ⟨_, rfl⟩
  rw [← g1] at A1 Ex1 st1
  have n0_b1 : n0 ≤ b1 := Nat.le_trans (Nat.le_trans (Nat.le_of_eq O0.1.symm) O0.2.1) (Nat.le_trans (Nat.le_refl _) (Nat.le_of_eq g1.symm))
  have V1 : Arv Z T1.heap b1 k1 .byte (2 : Int32) [(.int 0), (.int 0)] (.int 0) := (Arv.new A1 (by decide)).pad (pad_rep [] (.int 0) 2)
  refine ogo (S' := T1.setTop (mkF m 3 #[.val (.ref ca_), .val (.int (0 : Int32)), .val (.int (2 : Int32)), .unset, .unset, .unset] [(.ref b1)])) st1 ?_
  refine o_astoreN X1 hx (l' := #[.val (.ref ca_), .val (.int (0 : Int32)), .val (.int (2 : Int32)), .val (.ref b1), .unset, .unset]) (hb hby d2_3) rfl rfl ?_
  refine o_aloadN X1 hx (hb hby d2_4) rfl rfl ?_
  refine o_iloadN X1 hx (hb hby d2_5) rfl ?_
  refine o_aloadN X1 hx (hb hby d2_6) rfl rfl ?_
  refine o_iconst X1 hx (0 : Int32) (hb hby d2_7) rfl ?_
  refine o_iloadN X1 hx (hb hby d2_8) rfl ?_
  obtain ⟨_, _, ⟨T2, L2, kc2, n2⟩, -, X2, ⟨Lc2, hQ2, l2, y2, z2⟩, st2⟩ := Jvm.LawKit.callS X1 hx (y := yM0) hown (mvT hZ w20) (mvT hZ w21) (mvT hZ w17) (mvT hZ w22) (by decide) (backOf (W := 0) (rm_cmp5_2 l Z a0 hw []  ca_ kc_ b1 k1 c0_ c1_ T1.heap n0 (O0.ext E1) (pr0.ext E1) V1 (Nat.ne_of_lt (Nat.lt_of_lt_of_le (Nat.lt_of_lt_of_le pr0.lt (Nat.le_refl _)) (Nat.le_of_eq g1.symm))) n0_b1 pr1 pr2) hZ w22 w17 (by decide) (by decide)) (g := (mkF m 9 #[.val (.ref ca_), .val (.int (0 : Int32)), .val (.int (2 : Int32)), .val (.ref b1), .unset, .unset] [(.int (2 : Int32)), (.int (0 : Int32)), (.ref b1), (.int (0 : Int32)), (.ref ca_)])) rfl (by rw [hml]; rfl) (argsL := [(.ref ca_), (.int (0 : Int32)), (.ref b1), (.int (0 : Int32)), (.int (2 : Int32))]) (rest := []) (lenOf own_pd0 rfl) rfl (by show 2 * 0 + _ ≤ _; exact Nat.le_of_eq rfl) (hb hby d2_9) (fun _ _ => ⟨rfl, rfl, (by decide : 1 + 0 ≤ _), (by decide : 2 + 0 ≤ _)⟩)
  dsimp only [Pt.U, Pt.locs, Pt.cells, Pt.slots] at X2 l2 y2 z2 st2 hQ2
  subst l2 y2 z2
  obtain ⟨rfl, Nq2, K2, p2_0⟩ := hQ2
  have N2 := Fr.app N0 Nq2
  refine ogo (S' := T2.setTop (mkF m 12 #[.val (.ref ca_), .val (.int (0 : Int32)), .val (.int (2 : Int32)), .val (.ref b1), .unset, .unset] [(.int (2 : Int32))])) st2 ?_
  refine o_istore X2 hx (l' := #[.val (.ref ca_), .val (.int (0 : Int32)), .val (.int (2 : Int32)), .val (.ref b1), .val (.int (2 : Int32)), .unset]) (hb hby d2_12) rfl ?_
  refine o_iload X2 hx (hb hby d2_14) rfl ?_
  refine o_iloadN X2 hx (hb hby d2_16) rfl ?_
  refine o_icmpYes X2 hx 57 (hb hby d2_17) (teq (by decide : (2 : Int32) = (2 : Int32))).1 (by decide) (by decide) ?_
  refine o_aloadN X2 hx (hb hby d2_57) rfl rfl ?_
  refine oend X2 hlk (v := some (.ref b1)) (fun h => by rw [hret] at h; cases h) (fun fs hr => retOut X2 hx (t := (.array .byte)) (i := .areturn) hret rfl (Or.inr (Or.inr (Or.inr (Or.inr ⟨rfl, rfl, rfl⟩)))) (hb hby d2_58) hr) (by decide) (by decide) ?_
  show own_Q_cmp3_2 Z _ _ _ _ h0 n0 _ T2.heap _
  exact ⟨b1, k1, rfl, N2, (((Keep.refl h0 []).ext E1).trans K2 (allS (Or.inr (Nat.le_trans (Nat.le_refl _) (Nat.le_of_eq g1.symm))) all0)), (Nat.le_trans (Nat.le_refl _) (Nat.le_of_eq g1.symm)), p2_0⟩
theorem d3_0 : decode jdk_52_method_15_code 0 = .ok (.iload_n 1, 1) := by decide +kernel
theorem d3_1 : decode jdk_52_method_15_code 1 = .ok (.aload_n 0, 1) := by decide +kernel
theorem d3_2 : decode jdk_52_method_15_code 2 = .ok (.arraylength, 1) := by decide +kernel
theorem d3_3 : decode jdk_52_method_15_code 3 = .ok (.isub, 1) := by decide +kernel
theorem d3_4 : decode jdk_52_method_15_code 4 = .ok (.bipush 31, 2) := by decide +kernel
theorem d3_6 : decode jdk_52_method_15_code 6 = .ok (.iushr, 1) := by decide +kernel
theorem d3_7 : decode jdk_52_method_15_code 7 = .ok (.i2b, 1) := by decide +kernel
theorem d3_8 : decode jdk_52_method_15_code 8 = .ok (.ireturn, 1) := by decide +kernel
def own_Q_codl_2 (Z : State)  (ba_ : Addr) (kb_ : ClassId) (vs_ : List Value) (h0 : Heap) (n0 : Nat) (v : Option Value) (h : Heap) (L : List Loc) : Prop := (v = some (.int (0 : Int32))) ∧ (Fr n0 L) ∧ (h = h0)
abbrev yM2 : MethodName := ⟨"java/lang/StringUTF16", "coderFromArrayLen", "([BI)B"⟩
set_option maxRecDepth 65536 in
set_option maxHeartbeats 40000000 in
theorem rm_codl_2 (l : Launch) (Z : State) (a0 : Array Value) (hw : ∀ d ∈ tables_1, d.before a0 Z = true) (ws : List Jvm.Cond)  (ba_ : Addr) (kb_ : ClassId) (vs_ : List Value) (h0 : Heap) (n0 : Nat) (O0 : Old Z n0 h0) (pr0 : Arv Z h0 ba_ kb_ .byte (2 : Int32) vs_ (.int 0)) :
    oMet l Z yM2 jdk_52_method_15_code 2 (some .byte) ws ({ frames := 0, cells := 0, slots := 0, locals := 0 } : Room) 0 0 #[(.ref ba_), (.int (2 : Int32))] h0 (own_Q_codl_2 Z  ba_ kb_ vs_ h0 n0) := by
  refine oenter own_pn0 #[.val (.ref ba_), .val (.int (2 : Int32))] (fun m => by first | (simp [entryFrame, mkF, argsToLocals, Value.category]; done) | rfl) ?_
  intro p e s m below meth c s₁ X0 hx hZ hby hml hret hown0 hnm hlk e0
  have hown : s.vm.findClass "java/lang/StringUTF16" = some m.cls := hown0
  have N0 := Fr.nil n0
  refine o_iloadN X0 hx (hb hby d3_0) rfl ?_
  refine o_aloadN X0 hx (hb hby d3_1) rfl rfl ?_
  obtain ⟨cl1, Ar1, -, S1, N1z, -, -⟩ := (id pr0)
  refine ogo (S' := s₁.setTop (mkF m 3 #[.val (.ref ba_), .val (.int (2 : Int32))] [(.int (2 : Int32)), (.int (2 : Int32))])) (fun _ kt_ => X0.arraylength hx (by rw [e0]; exact Ar1.1) (State.isArrayOf_alike hZ.alike Ar1.2.1) (g := (mkF m 2 #[.val (.ref ba_), .val (.int (2 : Int32))] [(.ref ba_), (.int (2 : Int32))])) rfl rfl (hb hby d3_2) _ (by rw [len_of S1 N1z]; exact kt_)) ?_
  refine o_isub X0 hx (hb hby d3_3) ?_
  refine o_bipush X0 hx (31 : Int32) (hb hby d3_4) rfl ?_
  refine o_iushr X0 hx (hb hby d3_6) ?_
  refine o_i2b X0 hx (hb hby d3_7) ?_
  refine oend X0 hlk (v := some (.int (0 : Int32))) (fun h => by rw [hret] at h; cases h) (fun fs hr => retN X0 hx (t := .byte) hret (by simp) (hb hby d3_8) hr) (by decide) (by decide) ?_
  show own_Q_codl_2 Z _ _ _ h0 n0 _ s₁.heap _
  rw [e0]
  exact ⟨rfl, N0, rfl⟩
theorem own_pd1 : parseMethodDescriptor "([CII)[B" = some ⟨[(.array .char), .int, .int], some (.array .byte)⟩ := by decide +kernel
theorem own_pd2 : parseMethodDescriptor "([BI)B" = some ⟨[(.array .byte), .int], some .byte⟩ := by decide +kernel
theorem d4_0 : decode jdk_42_method_149_code 0 = .ok (.aload_n 0, 1) := by decide +kernel
theorem d4_1 : decode jdk_42_method_149_code 1 = .ok (.invokespecial 1, 3) := by decide +kernel
theorem d4_4 : decode jdk_42_method_149_code 4 = .ok (.iload_n 3, 1) := by decide +kernel
theorem d4_5 : decode jdk_42_method_149_code 5 = .ok (.ifCond .ne 22, 3) := by decide +kernel
theorem d4_27 : decode jdk_42_method_149_code 27 = .ok (.getstatic 38, 3) := by decide +kernel
theorem d4_30 : decode jdk_42_method_149_code 30 = .ok (.ifCond .eq 28, 3) := by decide +kernel
theorem d4_33 : decode jdk_42_method_149_code 33 = .ok (.aload_n 1, 1) := by decide +kernel
theorem d4_34 : decode jdk_42_method_149_code 34 = .ok (.iload_n 2, 1) := by decide +kernel
theorem d4_35 : decode jdk_42_method_149_code 35 = .ok (.iload_n 3, 1) := by decide +kernel
theorem d4_36 : decode jdk_42_method_149_code 36 = .ok (.invokestatic 177, 3) := by decide +kernel
theorem d4_39 : decode jdk_42_method_149_code 39 = .ok (.astore 5, 2) := by decide +kernel
theorem d4_41 : decode jdk_42_method_149_code 41 = .ok (.aload_n 0, 1) := by decide +kernel
theorem d4_42 : decode jdk_42_method_149_code 42 = .ok (.aload 5, 2) := by decide +kernel
theorem d4_44 : decode jdk_42_method_149_code 44 = .ok (.iload_n 3, 1) := by decide +kernel
theorem d4_45 : decode jdk_42_method_149_code 45 = .ok (.invokestatic 47, 3) := by decide +kernel
theorem d4_48 : decode jdk_42_method_149_code 48 = .ok (.putfield 15, 3) := by decide +kernel
theorem d4_51 : decode jdk_42_method_149_code 51 = .ok (.aload_n 0, 1) := by decide +kernel
theorem d4_52 : decode jdk_42_method_149_code 52 = .ok (.aload 5, 2) := by decide +kernel
theorem d4_54 : decode jdk_42_method_149_code 54 = .ok (.putfield 9, 3) := by decide +kernel
theorem d4_57 : decode jdk_42_method_149_code 57 = .ok (.return_, 1) := by decide +kernel
theorem own_pn1 : plainName "java/lang/String" = true := by first | (simp [plainName, overriddenIn]; done) | decide +kernel
def own_Q_new4_2 (Z : State) (z_CS : Int32) (v_FMT : Value) (s_US : Addr) (s_SS : Addr) (x_ : Addr) (ca_ : Addr) (kc_ : ClassId) (c0_ : Int32) (c1_ : Int32) (h0 : Heap) (n0 : Nat) (v : Option Value) (h : Heap) (L : List Loc) : Prop := ∃ ba_ : Addr, ∃ kb_ : ClassId, (v = none) ∧ (Fr n0 L) ∧ (Keep h0 h [x_]) ∧ (h0.size ≤ ba_) ∧ (Arv Z h ba_ kb_ .byte (2 : Int32) [(.int c0_.toInt8.toInt32), (.int c1_.toInt8.toInt32)] (.int 0)) ∧ (Exa Z h x_ "java/lang/String") ∧ (Fld Z h x_ "java/lang/String" "value" "[B" (.ref ba_)) ∧ (Fld Z h x_ "java/lang/String" "coder" "B" (.int (0 : Int32)))
abbrev yM3 : MethodName := ⟨"java/lang/String", "<init>", "([CIILjava/lang/Void;)V"⟩
set_option maxRecDepth 65536 in
set_option maxHeartbeats 40000000 in
theorem rm_new4_2 (l : Launch) (Z : State) (a0 : Array Value) (hw : ∀ d ∈ tables_1, d.before a0 Z = true) (ws : List Jvm.Cond) (z_CS : Int32) (v_FMT : Value) (s_US : Addr) (s_SS : Addr) (x_ : Addr) (ca_ : Addr) (kc_ : ClassId) (c0_ : Int32) (c1_ : Int32) (h0 : Heap) (n0 : Nat) (SB : own_Start Z z_CS v_FMT s_US s_SS) (O0 : Old Z n0 h0) (pr0 : Exa Z h0 x_ "java/lang/String") (pr1 : Fld Z h0 x_ "java/lang/String" "value" "[B" .null) (pr2 : Fld Z h0 x_ "java/lang/String" "coder" "B" (.int (0 : Int32))) (pr3 : Arv Z h0 ca_ kc_ .char (2 : Int32) [(.int c0_), (.int c1_)] (.int 0)) (pr4 : n0 ≤ x_) (pr5 : ¬ ((255 : Int32) < c0_)) (pr6 : ¬ ((255 : Int32) < c1_)) :
    oMet l Z yM3 jdk_42_method_149_code 6 none ws ({ frames := 2, cells := 1, slots := 2, locals := 35 } : Room) 1 2 #[(.ref x_), (.ref ca_), (.int (0 : Int32)), (.int (2 : Int32)), .null] h0 (own_Q_new4_2 Z z_CS v_FMT s_US s_SS x_ ca_ kc_ c0_ c1_ h0 n0) := by
  refine oenter own_pn1 #[.val (.ref x_), .val (.ref ca_), .val (.int (0 : Int32)), .val (.int (2 : Int32)), .val .null, .unset] (fun m => by first | (simp [entryFrame, mkF, argsToLocals, Value.category]; done) | rfl) ?_
  intro p e s m below meth c s₁ X0 hx hZ hby hml hret hown0 hnm hlk e0
  have hown : s.vm.findClass "java/lang/String" = some m.cls := hown0
  have N0 := Fr.nil n0
  obtain ⟨S_CS, H_CS, S__assertionsDisabled, S_FMT, R_FMT, S_s_US, S_s_SS⟩ := (id SB)
  have w2 := hw _ (List.mem_of_getElem? (i := 2) rfl)
  have w11 := hw _ (List.mem_of_getElem? (i := 11) rfl)
  have w12 := hw _ (List.mem_of_getElem? (i := 12) rfl)
  have w13 := hw _ (List.mem_of_getElem? (i := 13) rfl)
  have w14 := hw _ (List.mem_of_getElem? (i := 14) rfl)
  have w15 := hw _ (List.mem_of_getElem? (i := 15) rfl)
  have w16 := hw _ (List.mem_of_getElem? (i := 16) rfl)
  have w17 := hw _ (List.mem_of_getElem? (i := 17) rfl)
  have w18 := hw _ (List.mem_of_getElem? (i := 18) rfl)
  have w23 := hw _ (List.mem_of_getElem? (i := 23) rfl)
  have w24 := hw _ (List.mem_of_getElem? (i := 24) rfl)
  have w25 := hw _ (List.mem_of_getElem? (i := 25) rfl)
  have w26 := hw _ (List.mem_of_getElem? (i := 26) rfl)
  have w27 := hw _ (List.mem_of_getElem? (i := 27) rfl)
  have w28 := hw _ (List.mem_of_getElem? (i := 28) rfl)
  have w29 := hw _ (List.mem_of_getElem? (i := 29) rfl)
  refine o_aloadN X0 hx (hb hby d4_0) rfl rfl ?_
  obtain ⟨T1, X1, e1, st1⟩ := initO X0 hx hZ hown w11 w12 w13 e0 (g := (mkF m 1 #[.val (.ref x_), .val (.ref ca_), .val (.int (0 : Int32)), .val (.int (2 : Int32)), .val .null, .unset] [(.ref x_)])) rfl (by rw [hml]; rfl) rfl (hb hby d4_1) (by decide) (W := 0) (by show 2 * 0 + _ ≤ _; exact Nat.le_of_eq rfl) (by decide)
  refine ogo (S' := T1.setTop (mkF m 4 #[.val (.ref x_), .val (.ref ca_), .val (.int (0 : Int32)), .val (.int (2 : Int32)), .val .null, .unset] [])) st1 ?_
  refine o_iloadN X1 hx (hb hby d4_4) rfl ?_
  refine o_ifYes X1 hx 27 (hb hby d4_5) (feq (by decide : ¬ ((2 : Int32) = (0 : Int32)))).2 (by decide) (by decide) ?_
  obtain ⟨T2, X2, e2, st2⟩ := getS2 X1 hx hZ hown (host := "") (Or.inl w14) Via.refl e1 (Sta.ext O0.2 S_CS) (g := (mkF m 27 #[.val (.ref x_), .val (.ref ca_), .val (.int (0 : Int32)), .val (.int (2 : Int32)), .val .null, .unset] [])) rfl (hb hby d4_27)
  refine ogo (S' := T2.setTop (mkF m 30 #[.val (.ref x_), .val (.ref ca_), .val (.int (0 : Int32)), .val (.int (2 : Int32)), .val .null, .unset] [(.int z_CS)])) st2 ?_
  refine o_ifNo X2 hx (hb hby d4_30) (feq H_CS).1 ?_
  refine o_aloadN X2 hx (hb hby d4_33) rfl rfl ?_
  refine o_iloadN X2 hx (hb hby d4_34) rfl ?_
  refine o_iloadN X2 hx (hb hby d4_35) rfl ?_
  obtain ⟨_, _, ⟨T3, L3, kc3, n3⟩, -, X3, ⟨Lc3, hQ3, l3, y3, z3⟩, st3⟩ := Jvm.LawKit.callS X2 hx (y := yM1) hown (mvT hZ w15) (mvT hZ w16) (mvT hZ w17) (mvT hZ w18) (by decide) (backOf (W := 0) (rm_cmp3_2 l Z a0 hw []  ca_ kc_ c0_ c1_ h0 n0 O0 pr3 pr5 pr6) hZ w18 w17 (by decide) (by decide)) (g := (mkF m 36 #[.val (.ref x_), .val (.ref ca_), .val (.int (0 : Int32)), .val (.int (2 : Int32)), .val .null, .unset] [(.int (2 : Int32)), (.int (0 : Int32)), (.ref ca_)])) rfl (by rw [hml]; rfl) (argsL := [(.ref ca_), (.int (0 : Int32)), (.int (2 : Int32))]) (rest := []) (lenOf own_pd1 rfl) rfl (by show 2 * 0 + _ ≤ _; exact Nat.le_of_eq rfl) (hb hby d4_36) (fun _ _ => ⟨rfl, e2, (by decide : 0 + 1 ≤ _), (by decide : 0 + 2 ≤ _)⟩)
  dsimp only [Pt.U, Pt.locs, Pt.cells, Pt.slots] at X3 l3 y3 z3 st3 hQ3
  subst l3 y3 z3
  obtain ⟨ba_3, kb_3, rfl, Nq3, K3, p3_0, p3_1⟩ := hQ3
  have N3 := Fr.app N0 Nq3
  have n0_ba_3 : n0 ≤ ba_3 := Nat.le_trans (Nat.le_trans (Nat.le_of_eq O0.1.symm) O0.2.1) (Nat.le_trans (Nat.le_refl _) p3_0)
  refine ogo (S' := T3.setTop (mkF m 39 #[.val (.ref x_), .val (.ref ca_), .val (.int (0 : Int32)), .val (.int (2 : Int32)), .val .null, .unset] [(.ref ba_3)])) st3 ?_
  refine o_astore X3 hx (l' := #[.val (.ref x_), .val (.ref ca_), .val (.int (0 : Int32)), .val (.int (2 : Int32)), .val .null, .val (.ref ba_3)]) (hb hby d4_39) rfl rfl ?_
  refine o_aloadN X3 hx (hb hby d4_41) rfl rfl ?_
  refine o_aload X3 hx (hb hby d4_42) rfl rfl ?_
  refine o_iloadN X3 hx (hb hby d4_44) rfl ?_
  obtain ⟨_, _, ⟨T4, L4, kc4, n4⟩, -, X4, ⟨Lc4, hQ4, l4, y4, z4⟩, st4⟩ := Jvm.LawKit.callS X3 hx (y := yM2) hown (mvT hZ w23) (mvT hZ w24) (mvT hZ w17) (mvT hZ w25) (by decide) (backOf (W := 1) (rm_codl_2 l Z a0 hw []  ba_3 kb_3 [(.int c0_.toInt8.toInt32), (.int c1_.toInt8.toInt32)] T3.heap n0 (O0.keep K3 all0) p3_1) hZ w25 w17 (by decide) (by decide)) (g := (mkF m 45 #[.val (.ref x_), .val (.ref ca_), .val (.int (0 : Int32)), .val (.int (2 : Int32)), .val .null, .val (.ref ba_3)] [(.int (2 : Int32)), (.ref ba_3), (.ref x_)])) rfl (by rw [hml]; rfl) (argsL := [(.ref ba_3), (.int (2 : Int32))]) (rest := [(.ref x_)]) (lenOf own_pd2 rfl) rfl (by show 2 * 0 + _ ≤ _; exact Nat.le_of_eq rfl) (hb hby d4_45) (fun _ _ => ⟨rfl, rfl, (by decide : 1 + 0 ≤ _), (by decide : 2 + 0 ≤ _)⟩)
  dsimp only [Pt.U, Pt.locs, Pt.cells, Pt.slots] at X4 l4 y4 z4 st4 hQ4
  subst l4 y4 z4
  obtain ⟨rfl, Nq4, e4⟩ := hQ4
  have N4 := Fr.app N3 Nq4
  refine ogo (S' := T4.setTop (mkF m 48 #[.val (.ref x_), .val (.ref ca_), .val (.int (0 : Int32)), .val (.int (2 : Int32)), .val .null, .val (.ref ba_3)] [(.int (0 : Int32)), (.ref x_)])) st4 ?_
  obtain ⟨T5, _, X5, rfl, W5, st5⟩ := putFN X4 hx hZ hown w26 Via.refl e4 (pr2.keep K3 nin0) (pr0.keep K3) (Or.inr ⟨w27, rfl, hnm⟩) w2 (ty := .byte) (v' := (.int (0 : Int32))) (by decide) rfl (by decide) (g := (mkF m 48 #[.val (.ref x_), .val (.ref ca_), .val (.int (0 : Int32)), .val (.int (2 : Int32)), .val .null, .val (.ref ba_3)] [(.int (0 : Int32)), (.ref x_)])) rfl rfl (hb hby d4_48)
  have N5 := Fr.snoc X5 N4 pr4
  have F5 := Fld.same W5 (pr2.keep K3 nin0)
  refine ogo (S' := T5.setTop (mkF m 51 #[.val (.ref x_), .val (.ref ca_), .val (.int (0 : Int32)), .val (.int (2 : Int32)), .val .null, .val (.ref ba_3)] [])) st5 ?_
  refine o_aloadN X5 hx (hb hby d4_51) rfl rfl ?_
  refine o_aload X5 hx (hb hby d4_52) rfl rfl ?_
  have c7 := (Fld.other W5 (pr1.keep K3 nin0) (Or.inr (slot_ne (Or.inr w29) (Or.inr w27) (by decide) (t := (.array .byte)) (t' := .byte) (by decide) (by decide))))
  obtain ⟨T6, _, X6, rfl, W6, st6⟩ := putF X5 hx hZ hown (host := "") (Or.inl w28) Via.refl rfl c7 (Exa.wr W5 (pr0.keep K3)) (Or.inr ⟨w29, rfl, hnm⟩) w2 (ty := (.array .byte)) (by decide) rfl rfl (g := (mkF m 54 #[.val (.ref x_), .val (.ref ca_), .val (.int (0 : Int32)), .val (.int (2 : Int32)), .val .null, .val (.ref ba_3)] [(.ref ba_3), (.ref x_)])) rfl rfl (hb hby d4_54)
  have N6 := Fr.snoc X6 N5 pr4
  have F6 := Fld.same W6 c7
  refine ogo (S' := T6.setTop (mkF m 57 #[.val (.ref x_), .val (.ref ca_), .val (.int (0 : Int32)), .val (.int (2 : Int32)), .val .null, .val (.ref ba_3)] [])) st6 ?_
  have c8 := ((p3_1.other W5 (Nat.ne_of_gt (Nat.lt_of_lt_of_le (Nat.lt_of_lt_of_le pr0.lt (Nat.le_refl _)) p3_0))).other W6 (Nat.ne_of_gt (Nat.lt_of_lt_of_le (Nat.lt_of_lt_of_le pr0.lt (Nat.le_refl _)) p3_0)))
  have c9 := (Fld.other W6 F5 (Or.inr (slot_ne (Or.inr w27) (Or.inr w29) (by decide) (t := .byte) (t' := (.array .byte)) (by decide) (by decide))))
  refine oend X6 hlk (v := none) (fun _ => rfl) (fun fs hr => X6.returnOut hx hret (hb hby d4_57) hr) (by decide) (by decide) ?_
  show own_Q_new4_2 Z _ _ _ _ _ _ _ _ _ h0 n0 _ T6.heap _
  exact ⟨ba_3, kb_3, rfl, N6, ((((Keep.refl h0 [x_]).trans K3 all0).wr W5 (Or.inl (List.mem_of_getElem? (i := 0) rfl))).wr W6 (Or.inl (List.mem_of_getElem? (i := 0) rfl))), (Nat.le_trans (Nat.le_refl _) p3_0), c8, (Exa.wr W6 (Exa.wr W5 (pr0.keep K3))), F6, c9⟩
theorem own_pd3 : parseMethodDescriptor "([CIILjava/lang/Void;)V" = some ⟨[(.array .char), .int, .int, (.object "java/lang/Void")], none⟩ := by decide +kernel
theorem d5_0 : decode jdk_42_method_3_code 0 = .ok (.aload_n 0, 1) := by decide +kernel
theorem d5_1 : decode jdk_42_method_3_code 1 = .ok (.aload_n 1, 1) := by decide +kernel
theorem d5_2 : decode jdk_42_method_3_code 2 = .ok (.iconst 0, 1) := by decide +kernel
theorem d5_3 : decode jdk_42_method_3_code 3 = .ok (.aload_n 1, 1) := by decide +kernel
theorem d5_4 : decode jdk_42_method_3_code 4 = .ok (.arraylength, 1) := by decide +kernel
theorem d5_5 : decode jdk_42_method_3_code 5 = .ok (.aconst_null, 1) := by decide +kernel
theorem d5_6 : decode jdk_42_method_3_code 6 = .ok (.invokespecial 27, 3) := by decide +kernel
theorem d5_9 : decode jdk_42_method_3_code 9 = .ok (.return_, 1) := by decide +kernel
def own_Q_new1_2 (Z : State) (z_CS : Int32) (v_FMT : Value) (s_US : Addr) (s_SS : Addr) (x_ : Addr) (ca_ : Addr) (kc_ : ClassId) (c0_ : Int32) (c1_ : Int32) (h0 : Heap) (n0 : Nat) (v : Option Value) (h : Heap) (L : List Loc) : Prop := ∃ ba_ : Addr, ∃ kb_ : ClassId, (v = none) ∧ (Fr n0 L) ∧ (Keep h0 h [x_]) ∧ (h0.size ≤ ba_) ∧ (Arv Z h ba_ kb_ .byte (2 : Int32) [(.int c0_.toInt8.toInt32), (.int c1_.toInt8.toInt32)] (.int 0)) ∧ (Exa Z h x_ "java/lang/String") ∧ (Fld Z h x_ "java/lang/String" "value" "[B" (.ref ba_)) ∧ (Fld Z h x_ "java/lang/String" "coder" "B" (.int (0 : Int32)))
abbrev yM4 : MethodName := ⟨"java/lang/String", "<init>", "([C)V"⟩
set_option maxRecDepth 65536 in
set_option maxHeartbeats 40000000 in
theorem rm_new1_2 (l : Launch) (Z : State) (a0 : Array Value) (hw : ∀ d ∈ tables_1, d.before a0 Z = true) (ws : List Jvm.Cond) (z_CS : Int32) (v_FMT : Value) (s_US : Addr) (s_SS : Addr) (x_ : Addr) (ca_ : Addr) (kc_ : ClassId) (c0_ : Int32) (c1_ : Int32) (h0 : Heap) (n0 : Nat) (SB : own_Start Z z_CS v_FMT s_US s_SS) (O0 : Old Z n0 h0) (pr0 : Exa Z h0 x_ "java/lang/String") (pr1 : Fld Z h0 x_ "java/lang/String" "value" "[B" .null) (pr2 : Fld Z h0 x_ "java/lang/String" "coder" "B" (.int (0 : Int32))) (pr3 : Arv Z h0 ca_ kc_ .char (2 : Int32) [(.int c0_), (.int c1_)] (.int 0)) (pr4 : n0 ≤ x_) (pr5 : ¬ ((255 : Int32) < c0_)) (pr6 : ¬ ((255 : Int32) < c1_)) :
    oMet l Z yM4 jdk_42_method_3_code 2 none ws ({ frames := 3, cells := 1, slots := 2, locals := 52 } : Room) 1 2 #[(.ref x_), (.ref ca_)] h0 (own_Q_new1_2 Z z_CS v_FMT s_US s_SS x_ ca_ kc_ c0_ c1_ h0 n0) := by
  refine oenter own_pn1 #[.val (.ref x_), .val (.ref ca_)] (fun m => by first | (simp [entryFrame, mkF, argsToLocals, Value.category]; done) | rfl) ?_
  intro p e s m below meth c s₁ X0 hx hZ hby hml hret hown0 hnm hlk e0
  have hown : s.vm.findClass "java/lang/String" = some m.cls := hown0
  have N0 := Fr.nil n0
  obtain ⟨S_CS, H_CS, S__assertionsDisabled, S_FMT, R_FMT, S_s_US, S_s_SS⟩ := (id SB)
  have w3 := hw _ (List.mem_of_getElem? (i := 3) rfl)
  have w7 := hw _ (List.mem_of_getElem? (i := 7) rfl)
  have w8 := hw _ (List.mem_of_getElem? (i := 8) rfl)
  have w10 := hw _ (List.mem_of_getElem? (i := 10) rfl)
  refine o_aloadN X0 hx (hb hby d5_0) rfl rfl ?_
  refine o_aloadN X0 hx (hb hby d5_1) rfl rfl ?_
  refine o_iconst X0 hx (0 : Int32) (hb hby d5_2) rfl ?_
  refine o_aloadN X0 hx (hb hby d5_3) rfl rfl ?_
  obtain ⟨cl1, Ar1, -, S1, N1z, -, -⟩ := (id pr3)
  refine ogo (S' := s₁.setTop (mkF m 5 #[.val (.ref x_), .val (.ref ca_)] [(.int (2 : Int32)), (.int (0 : Int32)), (.ref ca_), (.ref x_)])) (fun _ kt_ => X0.arraylength hx (by rw [e0]; exact Ar1.1) (State.isArrayOf_alike hZ.alike Ar1.2.1) (g := (mkF m 4 #[.val (.ref x_), .val (.ref ca_)] [(.ref ca_), (.int (0 : Int32)), (.ref ca_), (.ref x_)])) rfl rfl (hb hby d5_4) _ (by rw [len_of S1 N1z]; exact kt_)) ?_
  refine o_aconst_null X0 hx (hb hby d5_5) ?_
  obtain ⟨_, _, ⟨T2, L2, kc2, n2⟩, -, X2, ⟨Lc2, hQ2, l2, y2, z2⟩, st2⟩ := X0.specialBack hx (y := yM3) rfl hown (mvT hZ w7) (mvT hZ w8) (mvT hZ w10) (by decide) (backOf (W := 0) (rm_new4_2 l Z a0 hw [] z_CS v_FMT s_US s_SS x_ ca_ kc_ c0_ c1_ h0 n0 SB O0 pr0 pr1 pr2 pr3 pr4 pr5 pr6) hZ w10 w3 (by decide) (by decide)) (g := (mkF m 6 #[.val (.ref x_), .val (.ref ca_)] [.null, (.int (2 : Int32)), (.int (0 : Int32)), (.ref ca_), (.ref x_)])) rfl (by rw [hml]; rfl) (Steps.refl _) (a := x_) (argsL := [(.ref ca_), (.int (0 : Int32)), (.int (2 : Int32)), .null]) (rest := []) (lenOf own_pd3 rfl) rfl (by show 2 * 0 + _ ≤ _; exact Nat.le_of_eq rfl) (hb hby d5_6) (fun _ _ => ⟨rfl, e0, (by decide : 0 + 1 ≤ _), (by decide : 0 + 2 ≤ _)⟩)
  dsimp only [Pt.U, Pt.locs, Pt.cells, Pt.slots] at X2 l2 y2 z2 st2 hQ2
  subst l2 y2 z2
  obtain ⟨ba_2, kb_2, rfl, Nq2, K2, p2_0, p2_1, p2_2, p2_3, p2_4⟩ := hQ2
  have N2 := Fr.app N0 Nq2
  have n0_ba_2 : n0 ≤ ba_2 := Nat.le_trans (Nat.le_trans (Nat.le_of_eq O0.1.symm) O0.2.1) (Nat.le_trans (Nat.le_refl _) p2_0)
  refine otr (S' := T2.setTop (mkF m 9 #[.val (.ref x_), .val (.ref ca_)] [])) st2 ?_
  refine oend X2 hlk (v := none) (fun _ => rfl) (fun fs hr => X2.returnOut hx hret (hb hby d5_9) hr) (by decide) (by decide) ?_
  show own_Q_new1_2 Z _ _ _ _ _ _ _ _ _ h0 n0 _ T2.heap _
  exact ⟨ba_2, kb_2, rfl, N2, ((Keep.refl h0 [x_]).trans K2 (allS (Or.inl (List.mem_of_getElem? (i := 0) rfl)) all0)), (Nat.le_trans (Nat.le_refl _) p2_0), p2_1, p2_2, p2_3, p2_4⟩
theorem own_pd4 : parseMethodDescriptor "()Ljava/lang/Throwable;" = some ⟨[], some (.object "java/lang/Throwable")⟩ := by decide +kernel
abbrev yM5 : MethodName := ⟨"java/lang/Throwable", "fillInStackTrace", "()Ljava/lang/Throwable;"⟩
theorem d6_0 : decode jdk_78_method_2_code 0 = .ok (.aload_n 0, 1) := by decide +kernel
theorem d6_1 : decode jdk_78_method_2_code 1 = .ok (.invokespecial 1, 3) := by decide +kernel
theorem d6_4 : decode jdk_78_method_2_code 4 = .ok (.aload_n 0, 1) := by decide +kernel
theorem d6_5 : decode jdk_78_method_2_code 5 = .ok (.aload_n 0, 1) := by decide +kernel
theorem d6_6 : decode jdk_78_method_2_code 6 = .ok (.putfield 7, 3) := by decide +kernel
theorem d6_9 : decode jdk_78_method_2_code 9 = .ok (.aload_n 0, 1) := by decide +kernel
theorem d6_10 : decode jdk_78_method_2_code 10 = .ok (.getstatic 13, 3) := by decide +kernel
theorem d6_13 : decode jdk_78_method_2_code 13 = .ok (.putfield 17, 3) := by decide +kernel
theorem d6_16 : decode jdk_78_method_2_code 16 = .ok (.aload_n 0, 1) := by decide +kernel
theorem d6_17 : decode jdk_78_method_2_code 17 = .ok (.getstatic 20, 3) := by decide +kernel
theorem d6_20 : decode jdk_78_method_2_code 20 = .ok (.putfield 24, 3) := by decide +kernel
theorem d6_23 : decode jdk_78_method_2_code 23 = .ok (.aload_n 0, 1) := by decide +kernel
theorem d6_24 : decode jdk_78_method_2_code 24 = .ok (.invokevirtual 27, 3) := by decide +kernel
theorem d6_27 : decode jdk_78_method_2_code 27 = .ok (.pop, 1) := by decide +kernel
theorem d6_28 : decode jdk_78_method_2_code 28 = .ok (.aload_n 0, 1) := by decide +kernel
theorem d6_29 : decode jdk_78_method_2_code 29 = .ok (.aload_n 1, 1) := by decide +kernel
theorem d6_30 : decode jdk_78_method_2_code 30 = .ok (.putfield 31, 3) := by decide +kernel
theorem d6_33 : decode jdk_78_method_2_code 33 = .ok (.return_, 1) := by decide +kernel
theorem own_pn2 : plainName "java/lang/Throwable" = true := by first | (simp [plainName, overriddenIn]; done) | decide +kernel
def own_Q_thr (Z : State) (z_CS : Int32) (v_FMT : Value) (s_US : Addr) (s_SS : Addr) (x_ : Addr) (m_ : Value) (h0 : Heap) (n0 : Nat) (v : Option Value) (h : Heap) (L : List Loc) : Prop := (v = none) ∧ (Fr n0 L) ∧ (Keep h0 h [x_]) ∧ (Exa Z h x_ "com/example/reliquary/reliquary/UserException") ∧ (Fld Z h x_ "java/lang/Throwable" "detailMessage" "Ljava/lang/String;" m_) ∧ (Fld Z h x_ "com/example/reliquary/reliquary/UserException" "userMessage" "Ljava/lang/String;" .null)
abbrev yM6 : MethodName := ⟨"java/lang/Throwable", "<init>", "(Ljava/lang/String;)V"⟩
set_option maxRecDepth 65536 in
set_option maxHeartbeats 40000000 in
theorem rm_thr (l : Launch) (Z : State) (a0 : Array Value) (hw : ∀ d ∈ tables_1, d.before a0 Z = true) (ws : List Jvm.Cond) (z_CS : Int32) (v_FMT : Value) (s_US : Addr) (s_SS : Addr) (x_ : Addr) (m_ : Value) (h0 : Heap) (n0 : Nat) (SB : own_Start Z z_CS v_FMT s_US s_SS) (O0 : Old Z n0 h0) (pr0 : Exa Z h0 x_ "com/example/reliquary/reliquary/UserException") (pr1 : Fld Z h0 x_ "java/lang/Throwable" "cause" "Ljava/lang/Throwable;" .null) (pr2 : Fld Z h0 x_ "java/lang/Throwable" "stackTrace" "[Ljava/lang/StackTraceElement;" .null) (pr3 : Fld Z h0 x_ "java/lang/Throwable" "suppressedExceptions" "Ljava/util/List;" .null) (pr4 : Fld Z h0 x_ "java/lang/Throwable" "backtrace" "Ljava/lang/Object;" .null) (pr5 : Fld Z h0 x_ "java/lang/Throwable" "detailMessage" "Ljava/lang/String;" .null) (pr6 : Fld Z h0 x_ "com/example/reliquary/reliquary/UserException" "userMessage" "Ljava/lang/String;" .null) (pr7 : n0 ≤ x_) (pr8 : Unt h0 x_) (pr9 : l.stackTraces = true) (pr10 : m_.isRef = true) (pr11 : m_.category = 1) :
    oMetK l Z yM6 jdk_78_method_2_code 2 none ws ({ frames := 3, cells := 1, slots := 2752, locals := 42 } : Room) 1 2752 #[(.ref x_), m_] h0 (own_Q_thr Z z_CS v_FMT s_US s_SS x_ m_ h0 n0) := by
  refine oenterK own_pn2 #[.val (.ref x_), .val m_] (fun m => by first | (simp [entryFrame, mkF, argsToLocals, Value.category, pr11]; done) | rfl | (cases m_ <;> first | (cases pr10; done) | rfl)) ?_
  intro p e s m below meth c s₁ X0 hx hZ hby hml hret hown0 hnm hlk e0 hs0 hTK hBelow
  have hown : s.vm.findClass "java/lang/Throwable" = some m.cls := hown0
  have N0 := Fr.nil n0
  obtain ⟨S_CS, H_CS, S__assertionsDisabled, S_FMT, R_FMT, S_s_US, S_s_SS⟩ := (id SB)
  have w12 := hw _ (List.mem_of_getElem? (i := 12) rfl)
  have w13 := hw _ (List.mem_of_getElem? (i := 13) rfl)
  have w31 := hw _ (List.mem_of_getElem? (i := 31) rfl)
  have w47 := hw _ (List.mem_of_getElem? (i := 47) rfl)
  have w48 := hw _ (List.mem_of_getElem? (i := 48) rfl)
  have w49 := hw _ (List.mem_of_getElem? (i := 49) rfl)
  have w50 := hw _ (List.mem_of_getElem? (i := 50) rfl)
  have w51 := hw _ (List.mem_of_getElem? (i := 51) rfl)
  have w52 := hw _ (List.mem_of_getElem? (i := 52) rfl)
  have w53 := hw _ (List.mem_of_getElem? (i := 53) rfl)
  have w54 := hw _ (List.mem_of_getElem? (i := 54) rfl)
  have w55 := hw _ (List.mem_of_getElem? (i := 55) rfl)
  have w56 := hw _ (List.mem_of_getElem? (i := 56) rfl)
  have w57 := hw _ (List.mem_of_getElem? (i := 57) rfl)
  have w58 := hw _ (List.mem_of_getElem? (i := 58) rfl)
  have w59 := hw _ (List.mem_of_getElem? (i := 59) rfl)
  have w79 := hw _ (List.mem_of_getElem? (i := 79) rfl)
  have w80 := hw _ (List.mem_of_getElem? (i := 80) rfl)
  have w81 := hw _ (List.mem_of_getElem? (i := 81) rfl)
  have w83 := hw _ (List.mem_of_getElem? (i := 83) rfl)
  have w85 := hw _ (List.mem_of_getElem? (i := 85) rfl)
  refine o_aloadN X0 hx (hb hby d6_0) rfl rfl ?_
  obtain ⟨T1, X1, e1, st1⟩ := initO X0 hx hZ hown w47 w12 w13 e0 (g := (mkF m 1 #[.val (.ref x_), .val m_] [(.ref x_)])) rfl (by rw [hml]; rfl) rfl (hb hby d6_1) (by decide) (W := 0) (by show 2 * 0 + _ ≤ _; exact Nat.le_of_eq rfl) (by decide)
  refine ogo (S' := T1.setTop (mkF m 4 #[.val (.ref x_), .val m_] [])) st1 ?_
  refine o_aloadN X1 hx (hb hby d6_4) rfl rfl ?_
  refine o_aloadN X1 hx (hb hby d6_5) rfl rfl ?_
  obtain ⟨T2, _, X2, rfl, W2, st2⟩ := putF X1 hx hZ hown (host := "") (Or.inl w48) Via.refl e1 pr1 pr0 (Or.inl w49) w31 (ty := (.object "java/lang/Throwable")) (by decide) rfl rfl (g := (mkF m 6 #[.val (.ref x_), .val m_] [(.ref x_), (.ref x_)])) rfl rfl (hb hby d6_6)
  have N2 := Fr.snoc X2 N0 pr7
  have F2 := Fld.same W2 pr1
  refine ogo (S' := T2.setTop (mkF m 9 #[.val (.ref x_), .val m_] [])) st2 ?_
  refine o_aloadN X2 hx (hb hby d6_9) rfl rfl ?_
  obtain ⟨T3, X3, e3, st3⟩ := getS2 X2 hx hZ hown (host := "") (Or.inl w50) Via.refl rfl (Sta.ext (O0.wr W2 pr7).2 S_s_US) (g := (mkF m 10 #[.val (.ref x_), .val m_] [(.ref x_)])) rfl (hb hby d6_10)
  refine ogo (S' := T3.setTop (mkF m 13 #[.val (.ref x_), .val m_] [(.ref s_US), (.ref x_)])) st3 ?_
  have c5 := (Fld.other W2 pr2 (Or.inr (slot_ne (Or.inl w52) (Or.inl w49) (by decide) (t := (.array (.object "java/lang/StackTraceElement"))) (t' := (.object "java/lang/Throwable")) (by decide) (by decide))))
  obtain ⟨T4, _, X4, rfl, W4, st4⟩ := putF X3 hx hZ hown (host := "") (Or.inl w51) Via.refl e3 c5 (Exa.wr W2 pr0) (Or.inl w52) w31 (ty := (.array (.object "java/lang/StackTraceElement"))) (by decide) rfl rfl (g := (mkF m 13 #[.val (.ref x_), .val m_] [(.ref s_US), (.ref x_)])) rfl rfl (hb hby d6_13)
  have N4 := Fr.snoc X4 N2 pr7
  have F4 := Fld.same W4 c5
  refine ogo (S' := T4.setTop (mkF m 16 #[.val (.ref x_), .val m_] [])) st4 ?_
  refine o_aloadN X4 hx (hb hby d6_16) rfl rfl ?_
  obtain ⟨T6, X6, e6, st6⟩ := getS2 X4 hx hZ hown (host := "") (Or.inl w53) Via.refl rfl (Sta.ext ((O0.wr W2 pr7).wr W4 pr7).2 S_s_SS) (g := (mkF m 17 #[.val (.ref x_), .val m_] [(.ref x_)])) rfl (hb hby d6_17)
  refine ogo (S' := T6.setTop (mkF m 20 #[.val (.ref x_), .val m_] [(.ref s_SS), (.ref x_)])) st6 ?_
  have c8 := (Fld.other W4 (Fld.other W2 pr3 (Or.inr (slot_ne (Or.inl w55) (Or.inl w49) (by decide) (t := (.object "java/util/List")) (t' := (.object "java/lang/Throwable")) (by decide) (by decide)))) (Or.inr (slot_ne (Or.inl w55) (Or.inl w52) (by decide) (t := (.object "java/util/List")) (t' := (.array (.object "java/lang/StackTraceElement"))) (by decide) (by decide))))
  obtain ⟨T7, _, X7, rfl, W7, st7⟩ := putF X6 hx hZ hown (host := "") (Or.inl w54) Via.refl e6 c8 (Exa.wr W4 (Exa.wr W2 pr0)) (Or.inl w55) w31 (ty := (.object "java/util/List")) (by decide) rfl rfl (g := (mkF m 20 #[.val (.ref x_), .val m_] [(.ref s_SS), (.ref x_)])) rfl rfl (hb hby d6_20)
  have N7 := Fr.snoc X7 N4 pr7
  have F7 := Fld.same W7 c8
  refine ogo (S' := T7.setTop (mkF m 23 #[.val (.ref x_), .val m_] [])) st7 ?_
  refine o_aloadN X7 hx (hb hby d6_23) rfl rfl ?_
  have c10 := (Fld.other W7 (Fld.other W4 (Fld.other W2 pr4 (Or.inr (slot_ne (Or.inl w80) (Or.inl w49) (by decide) (t := (.object "java/lang/Object")) (t' := (.object "java/lang/Throwable")) (by decide) (by decide)))) (Or.inr (slot_ne (Or.inl w80) (Or.inl w52) (by decide) (t := (.object "java/lang/Object")) (t' := (.array (.object "java/lang/StackTraceElement"))) (by decide) (by decide)))) (Or.inr (slot_ne (Or.inl w80) (Or.inl w55) (by decide) (t := (.object "java/lang/Object")) (t' := (.object "java/util/List")) (by decide) (by decide))))
  have c11 := (Fld.other W7 F4 (Or.inr (slot_ne (Or.inl w52) (Or.inl w55) (by decide) (t := (.array (.object "java/lang/StackTraceElement"))) (t' := (.object "java/util/List")) (by decide) (by decide))))
  have c12 := (Fld.other W7 (Fld.other W4 (Fld.other W2 pr5 (Or.inr (slot_ne (Or.inl w79) (Or.inl w49) (by decide) (t := (.object "java/lang/String")) (t' := (.object "java/lang/Throwable")) (by decide) (by decide)))) (Or.inr (slot_ne (Or.inl w79) (Or.inl w52) (by decide) (t := (.object "java/lang/String")) (t' := (.array (.object "java/lang/StackTraceElement"))) (by decide) (by decide)))) (Or.inr (slot_ne (Or.inl w79) (Or.inl w55) (by decide) (t := (.object "java/lang/String")) (t' := (.object "java/util/List")) (by decide) (by decide))))
  have c13 := (Fld.other W7 (Fld.other W4 (Fld.other W2 pr6 (Or.inr (slot_ne (Or.inr w85) (Or.inl w49) (by decide) (t := (.object "java/lang/String")) (t' := (.object "java/lang/Throwable")) (by decide) (by decide)))) (Or.inr (slot_ne (Or.inr w85) (Or.inl w52) (by decide) (t := (.object "java/lang/String")) (t' := (.array (.object "java/lang/StackTraceElement"))) (by decide) (by decide)))) (Or.inr (slot_ne (Or.inr w85) (Or.inl w55) (by decide) (t := (.object "java/lang/String")) (t' := (.object "java/util/List")) (by decide) (by decide))))
  obtain ⟨cq9, kq9, q9a, q9b, q9c⟩ := isOf hZ rfl (Exa.wr W7 (Exa.wr W4 (Exa.wr W2 pr0)))
  obtain ⟨_, _, ⟨T9, L9, kc9, n9⟩, -, X9, ⟨Lc9, hQ9, l9, y9, z9⟩, st9⟩ := X7.virtualBack hx (y := yM5) (z := yM5) hown (mvT hZ w56) (mvT hZ w57) (notFace_of_selects (args := #[]) (mvT hZ w59)) (mvT hZ w59) (mvT hZ w58) (by decide) (own_fillBack X7 hx pr9 hZ hw (by rw [hs0]; exact ThS.ext O0.2 ThS.start) hTK hBelow (Exa.wr W7 (Exa.wr W4 (Exa.wr W2 pr0))) (Unt.wr W7 (Unt.wr W4 (Unt.wr W2 pr8))) c10 c11 (Sta.ext (((O0.wr W2 pr7).wr W4 pr7).wr W7 pr7).2 S_s_US) (W := 0) (by decide) (by decide)) q9a q9c (g := (mkF m 24 #[.val (.ref x_), .val m_] [(.ref x_)])) rfl (by rw [hml]; rfl) (Steps.refl _) (argsL := []) (rest := []) (lenOf own_pd4 rfl) rfl (by show 2 * 0 + _ ≤ _; exact Nat.le_of_eq rfl) (hb hby d6_24) (fun _ _ => ⟨rfl, rfl, (by decide : 0 + 1 ≤ _), (by decide : 0 + 2752 ≤ _)⟩)
  dsimp only [Pt.U, Pt.locs, Pt.cells, Pt.slots] at X9 l9 y9 z9 st9 hQ9
  subst l9 y9 z9
  obtain ⟨rfl, Nf9, K9, Ex9, Fl9⟩ := hQ9
  have N9 := Fr.app N7 (Nf9 n0 pr7)
  have G9_detailMessage := Fl9 _ _ _ _ (slot_ne (Or.inl w79) (Or.inl w80) (by decide) (t := (.object "java/lang/String")) (t' := (.object "java/lang/Object")) (by decide) (by decide)) (slot_ne (Or.inl w79) (Or.inl w81) (by decide) (t := (.object "java/lang/String")) (t' := .int) (by decide) (by decide)) (slot_ne (Or.inl w79) (Or.inl w52) (by decide) (t := (.object "java/lang/String")) (t' := (.array (.object "java/lang/StackTraceElement"))) (by decide) (by decide)) c12
  have G9_userMessage := Fl9 _ _ _ _ (slot_ne (Or.inr w85) (Or.inl w80) (by decide) (t := (.object "java/lang/String")) (t' := (.object "java/lang/Object")) (by decide) (by decide)) (slot_ne (Or.inr w85) (Or.inl w81) (by decide) (t := (.object "java/lang/String")) (t' := .int) (by decide) (by decide)) (slot_ne (Or.inr w85) (Or.inl w52) (by decide) (t := (.object "java/lang/String")) (t' := (.array (.object "java/lang/StackTraceElement"))) (by decide) (by decide)) c13
  refine otr (S' := T9.setTop (mkF m 27 #[.val (.ref x_), .val m_] [(.ref x_)])) st9 ?_
  refine o_pop X9 hx (hb hby d6_27) rfl ?_
  refine o_aloadN X9 hx (hb hby d6_28) rfl rfl ?_
  refine o_aloadN X9 hx (hb hby d6_29) rfl pr10 ?_
  obtain ⟨T14, _, X14, rfl, W14, st14⟩ := putF X9 hx hZ hown (host := "") (Or.inl w83) Via.refl rfl G9_detailMessage Ex9 (Or.inl w79) w31 (ty := (.object "java/lang/String")) (by decide) (own_nar pr10) (own_fits pr10) (g := (mkF m 30 #[.val (.ref x_), .val m_] [m_, (.ref x_)])) rfl rfl (hb hby d6_30)
  have N14 := Fr.snoc X14 N9 pr7
  have F14 := Fld.same W14 G9_detailMessage
  refine ogo (S' := T14.setTop (mkF m 33 #[.val (.ref x_), .val m_] [])) st14 ?_
  have c15 := (Fld.other W14 G9_userMessage (Or.inr (slot_ne (Or.inr w85) (Or.inl w79) (by decide) (t := (.object "java/lang/String")) (t' := (.object "java/lang/String")) (by decide) (by decide))))
  refine oend X14 hlk (v := none) (fun _ => rfl) (fun fs hr => X14.returnOut hx hret (hb hby d6_33) hr) (by decide) (by decide) ?_
  show own_Q_thr Z _ _ _ _ _ _ h0 n0 _ T14.heap _
  exact ⟨rfl, N14, ((((((Keep.refl h0 [x_]).wr W2 (Or.inl (List.mem_of_getElem? (i := 0) rfl))).wr W4 (Or.inl (List.mem_of_getElem? (i := 0) rfl))).wr W7 (Or.inl (List.mem_of_getElem? (i := 0) rfl))).trans K9 (allS (Or.inl (List.mem_of_getElem? (i := 0) rfl)) all0)).wr W14 (Or.inl (List.mem_of_getElem? (i := 0) rfl))), (Exa.wr W14 Ex9), F14, c15⟩
theorem own_pd5 : parseMethodDescriptor "(Ljava/lang/String;)V" = some ⟨[(.object "java/lang/String")], none⟩ := by decide +kernel
theorem d7_0 : decode jdk_59_method_2_code 0 = .ok (.aload_n 0, 1) := by decide +kernel
theorem d7_1 : decode jdk_59_method_2_code 1 = .ok (.aload_n 1, 1) := by decide +kernel
theorem d7_2 : decode jdk_59_method_2_code 2 = .ok (.invokespecial 7, 3) := by decide +kernel
theorem d7_5 : decode jdk_59_method_2_code 5 = .ok (.return_, 1) := by decide +kernel
theorem own_pn3 : plainName "java/lang/Exception" = true := by first | (simp [plainName, overriddenIn]; done) | decide +kernel
def own_Q_exc (Z : State) (z_CS : Int32) (v_FMT : Value) (s_US : Addr) (s_SS : Addr) (x_ : Addr) (m_ : Value) (h0 : Heap) (n0 : Nat) (v : Option Value) (h : Heap) (L : List Loc) : Prop := (v = none) ∧ (Fr n0 L) ∧ (Keep h0 h [x_]) ∧ (Exa Z h x_ "com/example/reliquary/reliquary/UserException") ∧ (Fld Z h x_ "java/lang/Throwable" "detailMessage" "Ljava/lang/String;" m_) ∧ (Fld Z h x_ "com/example/reliquary/reliquary/UserException" "userMessage" "Ljava/lang/String;" .null)
abbrev yM7 : MethodName := ⟨"java/lang/Exception", "<init>", "(Ljava/lang/String;)V"⟩
set_option maxRecDepth 65536 in
set_option maxHeartbeats 40000000 in
theorem rm_exc (l : Launch) (Z : State) (a0 : Array Value) (hw : ∀ d ∈ tables_1, d.before a0 Z = true) (ws : List Jvm.Cond) (z_CS : Int32) (v_FMT : Value) (s_US : Addr) (s_SS : Addr) (x_ : Addr) (m_ : Value) (h0 : Heap) (n0 : Nat) (SB : own_Start Z z_CS v_FMT s_US s_SS) (O0 : Old Z n0 h0) (pr0 : Exa Z h0 x_ "com/example/reliquary/reliquary/UserException") (pr1 : Fld Z h0 x_ "java/lang/Throwable" "cause" "Ljava/lang/Throwable;" .null) (pr2 : Fld Z h0 x_ "java/lang/Throwable" "stackTrace" "[Ljava/lang/StackTraceElement;" .null) (pr3 : Fld Z h0 x_ "java/lang/Throwable" "suppressedExceptions" "Ljava/util/List;" .null) (pr4 : Fld Z h0 x_ "java/lang/Throwable" "backtrace" "Ljava/lang/Object;" .null) (pr5 : Fld Z h0 x_ "java/lang/Throwable" "detailMessage" "Ljava/lang/String;" .null) (pr6 : Fld Z h0 x_ "com/example/reliquary/reliquary/UserException" "userMessage" "Ljava/lang/String;" .null) (pr7 : n0 ≤ x_) (pr8 : Unt h0 x_) (pr9 : l.stackTraces = true) (pr10 : m_.isRef = true) (pr11 : m_.category = 1) :
    oMetK l Z yM7 jdk_59_method_2_code 2 none ws ({ frames := 4, cells := 1, slots := 2752, locals := 55 } : Room) 1 2752 #[(.ref x_), m_] h0 (own_Q_exc Z z_CS v_FMT s_US s_SS x_ m_ h0 n0) := by
  refine oenterK own_pn3 #[.val (.ref x_), .val m_] (fun m => by first | (simp [entryFrame, mkF, argsToLocals, Value.category, pr11]; done) | rfl | (cases m_ <;> first | (cases pr10; done) | rfl)) ?_
  intro p e s m below meth c s₁ X0 hx hZ hby hml hret hown0 hnm hlk e0 hs0 hTK hBelow
  have hown : s.vm.findClass "java/lang/Exception" = some m.cls := hown0
  have N0 := Fr.nil n0
  obtain ⟨S_CS, H_CS, S__assertionsDisabled, S_FMT, R_FMT, S_s_US, S_s_SS⟩ := (id SB)
  have w41 := hw _ (List.mem_of_getElem? (i := 41) rfl)
  have w42 := hw _ (List.mem_of_getElem? (i := 42) rfl)
  have w45 := hw _ (List.mem_of_getElem? (i := 45) rfl)
  have w46 := hw _ (List.mem_of_getElem? (i := 46) rfl)
  refine o_aloadN X0 hx (hb hby d7_0) rfl rfl ?_
  refine o_aloadN X0 hx (hb hby d7_1) rfl pr10 ?_
  obtain ⟨_, _, ⟨T1, L1, kc1, n1⟩, -, X1, ⟨Lc1, hQ1, l1, y1, z1⟩, st1⟩ := X0.specialBack hx (y := yM6) rfl hown (mvT hZ w41) (mvT hZ w42) (mvT hZ w46) (by decide) (backOfKL (W := 0) (rm_thr l Z a0 hw [] z_CS v_FMT s_US s_SS x_ m_ h0 n0 SB O0 pr0 pr1 pr2 pr3 pr4 pr5 pr6 pr7 pr8 pr9 pr10 pr11) hZ w46 w45 (by decide) (by decide) hTK hBelow) (g := (mkF m 2 #[.val (.ref x_), .val m_] [m_, (.ref x_)])) rfl (by rw [hml]; rfl) (Steps.refl _) (a := x_) (argsL := [m_]) (rest := []) (lenOf own_pd5 rfl) rfl (by show 2 * 0 + _ ≤ _; exact Nat.le_of_eq rfl) (hb hby d7_2) (fun _ _ => ⟨rfl, e0, (by decide : 0 + 1 ≤ _), (by decide : 0 + 2752 ≤ _)⟩)
  dsimp only [Pt.U, Pt.locs, Pt.cells, Pt.slots] at X1 l1 y1 z1 st1 hQ1
  subst l1 y1 z1
  obtain ⟨rfl, Nq1, K1, p1_0, p1_1, p1_2⟩ := hQ1
  have N1 := Fr.app N0 Nq1
  refine otr (S' := T1.setTop (mkF m 5 #[.val (.ref x_), .val m_] [])) st1 ?_
  refine oend X1 hlk (v := none) (fun _ => rfl) (fun fs hr => X1.returnOut hx hret (hb hby d7_5) hr) (by decide) (by decide) ?_
  show own_Q_exc Z _ _ _ _ _ _ h0 n0 _ T1.heap _
  exact ⟨rfl, N1, ((Keep.refl h0 [x_]).trans K1 (allS (Or.inl (List.mem_of_getElem? (i := 0) rfl)) all0)), p1_0, p1_1, p1_2⟩
theorem d8_0 : decode prog_12_method_1_code 0 = .ok (.aload_n 0, 1) := by decide +kernel
theorem d8_1 : decode prog_12_method_1_code 1 = .ok (.aload_n 1, 1) := by decide +kernel
theorem d8_2 : decode prog_12_method_1_code 2 = .ok (.invokespecial 1, 3) := by decide +kernel
theorem d8_5 : decode prog_12_method_1_code 5 = .ok (.aload_n 0, 1) := by decide +kernel
theorem d8_6 : decode prog_12_method_1_code 6 = .ok (.aconst_null, 1) := by decide +kernel
theorem d8_7 : decode prog_12_method_1_code 7 = .ok (.putfield 7, 3) := by decide +kernel
theorem d8_10 : decode prog_12_method_1_code 10 = .ok (.return_, 1) := by decide +kernel
theorem own_pn4 : plainName "com/example/reliquary/reliquary/UserException" = true := by first | (simp [plainName, overriddenIn]; done) | decide +kernel
def own_Q_ue1 (Z : State) (z_CS : Int32) (v_FMT : Value) (s_US : Addr) (s_SS : Addr) (x_ : Addr) (m_ : Value) (h0 : Heap) (n0 : Nat) (v : Option Value) (h : Heap) (L : List Loc) : Prop := (v = none) ∧ (Fr n0 L) ∧ (Keep h0 h [x_]) ∧ (Exa Z h x_ "com/example/reliquary/reliquary/UserException") ∧ (Fld Z h x_ "java/lang/Throwable" "detailMessage" "Ljava/lang/String;" m_) ∧ (Fld Z h x_ "com/example/reliquary/reliquary/UserException" "userMessage" "Ljava/lang/String;" .null)
abbrev yM8 : MethodName := ⟨"com/example/reliquary/reliquary/UserException", "<init>", "(Ljava/lang/String;)V"⟩
set_option maxRecDepth 65536 in
set_option maxHeartbeats 40000000 in
theorem rm_ue1 (l : Launch) (Z : State) (a0 : Array Value) (hw : ∀ d ∈ tables_1, d.before a0 Z = true) (ws : List Jvm.Cond) (z_CS : Int32) (v_FMT : Value) (s_US : Addr) (s_SS : Addr) (x_ : Addr) (m_ : Value) (h0 : Heap) (n0 : Nat) (SB : own_Start Z z_CS v_FMT s_US s_SS) (O0 : Old Z n0 h0) (pr0 : Exa Z h0 x_ "com/example/reliquary/reliquary/UserException") (pr1 : Fld Z h0 x_ "java/lang/Throwable" "cause" "Ljava/lang/Throwable;" .null) (pr2 : Fld Z h0 x_ "java/lang/Throwable" "stackTrace" "[Ljava/lang/StackTraceElement;" .null) (pr3 : Fld Z h0 x_ "java/lang/Throwable" "suppressedExceptions" "Ljava/util/List;" .null) (pr4 : Fld Z h0 x_ "java/lang/Throwable" "backtrace" "Ljava/lang/Object;" .null) (pr5 : Fld Z h0 x_ "java/lang/Throwable" "detailMessage" "Ljava/lang/String;" .null) (pr6 : Fld Z h0 x_ "com/example/reliquary/reliquary/UserException" "userMessage" "Ljava/lang/String;" .null) (pr7 : n0 ≤ x_) (pr8 : Unt h0 x_) (pr9 : l.stackTraces = true) (pr10 : m_.isRef = true) (pr11 : m_.category = 1) :
    oMetK l Z yM8 prog_12_method_1_code 2 none ws ({ frames := 5, cells := 1, slots := 2752, locals := 68 } : Room) 1 2752 #[(.ref x_), m_] h0 (own_Q_ue1 Z z_CS v_FMT s_US s_SS x_ m_ h0 n0) := by
  refine oenterK own_pn4 #[.val (.ref x_), .val m_] (fun m => by first | (simp [entryFrame, mkF, argsToLocals, Value.category, pr11]; done) | rfl | (cases m_ <;> first | (cases pr10; done) | rfl)) ?_
  intro p e s m below meth c s₁ X0 hx hZ hby hml hret hown0 hnm hlk e0 hs0 hTK hBelow
  have hown : s.vm.findClass "com/example/reliquary/reliquary/UserException" = some m.cls := hown0
  have N0 := Fr.nil n0
  obtain ⟨S_CS, H_CS, S__assertionsDisabled, S_FMT, R_FMT, S_s_US, S_s_SS⟩ := (id SB)
  have w31 := hw _ (List.mem_of_getElem? (i := 31) rfl)
  have w36 := hw _ (List.mem_of_getElem? (i := 36) rfl)
  have w37 := hw _ (List.mem_of_getElem? (i := 37) rfl)
  have w39 := hw _ (List.mem_of_getElem? (i := 39) rfl)
  have w40 := hw _ (List.mem_of_getElem? (i := 40) rfl)
  have w79 := hw _ (List.mem_of_getElem? (i := 79) rfl)
  have w84 := hw _ (List.mem_of_getElem? (i := 84) rfl)
  have w85 := hw _ (List.mem_of_getElem? (i := 85) rfl)
  refine o_aloadN X0 hx (hb hby d8_0) rfl rfl ?_
  refine o_aloadN X0 hx (hb hby d8_1) rfl pr10 ?_
  obtain ⟨_, _, ⟨T1, L1, kc1, n1⟩, -, X1, ⟨Lc1, hQ1, l1, y1, z1⟩, st1⟩ := X0.specialBack hx (y := yM7) rfl hown (mvT hZ w36) (mvT hZ w37) (mvT hZ w40) (by decide) (backOfKL (W := 0) (rm_exc l Z a0 hw [] z_CS v_FMT s_US s_SS x_ m_ h0 n0 SB O0 pr0 pr1 pr2 pr3 pr4 pr5 pr6 pr7 pr8 pr9 pr10 pr11) hZ w40 w39 (by decide) (by decide) hTK hBelow) (g := (mkF m 2 #[.val (.ref x_), .val m_] [m_, (.ref x_)])) rfl (by rw [hml]; rfl) (Steps.refl _) (a := x_) (argsL := [m_]) (rest := []) (lenOf own_pd5 rfl) rfl (by show 2 * 0 + _ ≤ _; exact Nat.le_of_eq rfl) (hb hby d8_2) (fun _ _ => ⟨rfl, e0, (by decide : 0 + 1 ≤ _), (by decide : 0 + 2752 ≤ _)⟩)
  dsimp only [Pt.U, Pt.locs, Pt.cells, Pt.slots] at X1 l1 y1 z1 st1 hQ1
  subst l1 y1 z1
  obtain ⟨rfl, Nq1, K1, p1_0, p1_1, p1_2⟩ := hQ1
  have N1 := Fr.app N0 Nq1
  refine otr (S' := T1.setTop (mkF m 5 #[.val (.ref x_), .val m_] [])) st1 ?_
  refine o_aloadN X1 hx (hb hby d8_5) rfl rfl ?_
  refine o_aconst_null X1 hx (hb hby d8_6) ?_
  obtain ⟨T2, _, X2, rfl, W2, st2⟩ := putF X1 hx hZ hown (host := "") (Or.inl w84) Via.refl rfl p1_2 p1_0 (Or.inr ⟨w85, rfl, hnm⟩) w31 (ty := (.object "java/lang/String")) (by decide) rfl rfl (g := (mkF m 7 #[.val (.ref x_), .val m_] [.null, (.ref x_)])) rfl rfl (hb hby d8_7)
  have N2 := Fr.snoc X2 N1 pr7
  have F2 := Fld.same W2 p1_2
  refine ogo (S' := T2.setTop (mkF m 10 #[.val (.ref x_), .val m_] [])) st2 ?_
  have c3 := (Fld.other W2 p1_1 (Or.inr (slot_ne (Or.inl w79) (Or.inr w85) (by decide) (t := (.object "java/lang/String")) (t' := (.object "java/lang/String")) (by decide) (by decide))))
  refine oend X2 hlk (v := none) (fun _ => rfl) (fun fs hr => X2.returnOut hx hret (hb hby d8_10) hr) (by decide) (by decide) ?_
  show own_Q_ue1 Z _ _ _ _ _ _ h0 n0 _ T2.heap _
  exact ⟨rfl, N2, (((Keep.refl h0 [x_]).trans K1 (allS (Or.inl (List.mem_of_getElem? (i := 0) rfl)) all0)).wr W2 (Or.inl (List.mem_of_getElem? (i := 0) rfl))), (Exa.wr W2 p1_0), c3, F2⟩
theorem d9_0 : decode prog_12_method_2_code 0 = .ok (.aload_n 0, 1) := by decide +kernel
theorem d9_1 : decode prog_12_method_2_code 1 = .ok (.aload_n 1, 1) := by decide +kernel
theorem d9_2 : decode prog_12_method_2_code 2 = .ok (.invokespecial 1, 3) := by decide +kernel
theorem d9_5 : decode prog_12_method_2_code 5 = .ok (.aload_n 0, 1) := by decide +kernel
theorem d9_6 : decode prog_12_method_2_code 6 = .ok (.aload_n 2, 1) := by decide +kernel
theorem d9_7 : decode prog_12_method_2_code 7 = .ok (.putfield 7, 3) := by decide +kernel
theorem d9_10 : decode prog_12_method_2_code 10 = .ok (.return_, 1) := by decide +kernel
def own_Q_ue2 (Z : State) (z_CS : Int32) (v_FMT : Value) (s_US : Addr) (s_SS : Addr) (x_ : Addr) (m_ : Value) (u_ : Value) (h0 : Heap) (n0 : Nat) (v : Option Value) (h : Heap) (L : List Loc) : Prop := (v = none) ∧ (Fr n0 L) ∧ (Keep h0 h [x_]) ∧ (Exa Z h x_ "com/example/reliquary/reliquary/UserException") ∧ (Fld Z h x_ "java/lang/Throwable" "detailMessage" "Ljava/lang/String;" m_) ∧ (Fld Z h x_ "com/example/reliquary/reliquary/UserException" "userMessage" "Ljava/lang/String;" u_)
abbrev yM9 : MethodName := ⟨"com/example/reliquary/reliquary/UserException", "<init>", "(Ljava/lang/String;Ljava/lang/String;)V"⟩
set_option maxRecDepth 65536 in
set_option maxHeartbeats 40000000 in
theorem rm_ue2 (l : Launch) (Z : State) (a0 : Array Value) (hw : ∀ d ∈ tables_1, d.before a0 Z = true) (ws : List Jvm.Cond) (z_CS : Int32) (v_FMT : Value) (s_US : Addr) (s_SS : Addr) (x_ : Addr) (m_ : Value) (u_ : Value) (h0 : Heap) (n0 : Nat) (SB : own_Start Z z_CS v_FMT s_US s_SS) (O0 : Old Z n0 h0) (pr0 : Exa Z h0 x_ "com/example/reliquary/reliquary/UserException") (pr1 : Fld Z h0 x_ "java/lang/Throwable" "cause" "Ljava/lang/Throwable;" .null) (pr2 : Fld Z h0 x_ "java/lang/Throwable" "stackTrace" "[Ljava/lang/StackTraceElement;" .null) (pr3 : Fld Z h0 x_ "java/lang/Throwable" "suppressedExceptions" "Ljava/util/List;" .null) (pr4 : Fld Z h0 x_ "java/lang/Throwable" "backtrace" "Ljava/lang/Object;" .null) (pr5 : Fld Z h0 x_ "java/lang/Throwable" "detailMessage" "Ljava/lang/String;" .null) (pr6 : Fld Z h0 x_ "com/example/reliquary/reliquary/UserException" "userMessage" "Ljava/lang/String;" .null) (pr7 : n0 ≤ x_) (pr8 : Unt h0 x_) (pr9 : l.stackTraces = true) (pr10 : m_.isRef = true) (pr11 : u_.isRef = true) (pr12 : m_.category = 1) (pr13 : u_.category = 1) :
    oMetK l Z yM9 prog_12_method_2_code 3 none ws ({ frames := 5, cells := 1, slots := 2752, locals := 68 } : Room) 1 2752 #[(.ref x_), m_, u_] h0 (own_Q_ue2 Z z_CS v_FMT s_US s_SS x_ m_ u_ h0 n0) := by
  refine oenterK own_pn4 #[.val (.ref x_), .val m_, .val u_] (fun m => by first | (simp [entryFrame, mkF, argsToLocals, Value.category, pr12, pr13]; done) | rfl | (cases u_ <;> first | (cases pr11; done) | (cases m_ <;> first | (cases pr10; done) | rfl))) ?_
  intro p e s m below meth c s₁ X0 hx hZ hby hml hret hown0 hnm hlk e0 hs0 hTK hBelow
  have hown : s.vm.findClass "com/example/reliquary/reliquary/UserException" = some m.cls := hown0
  have N0 := Fr.nil n0
  obtain ⟨S_CS, H_CS, S__assertionsDisabled, S_FMT, R_FMT, S_s_US, S_s_SS⟩ := (id SB)
  have w31 := hw _ (List.mem_of_getElem? (i := 31) rfl)
  have w36 := hw _ (List.mem_of_getElem? (i := 36) rfl)
  have w37 := hw _ (List.mem_of_getElem? (i := 37) rfl)
  have w39 := hw _ (List.mem_of_getElem? (i := 39) rfl)
  have w40 := hw _ (List.mem_of_getElem? (i := 40) rfl)
  have w79 := hw _ (List.mem_of_getElem? (i := 79) rfl)
  have w84 := hw _ (List.mem_of_getElem? (i := 84) rfl)
  have w85 := hw _ (List.mem_of_getElem? (i := 85) rfl)
  refine o_aloadN X0 hx (hb hby d9_0) rfl rfl ?_
  refine o_aloadN X0 hx (hb hby d9_1) rfl pr10 ?_
  obtain ⟨_, _, ⟨T1, L1, kc1, n1⟩, -, X1, ⟨Lc1, hQ1, l1, y1, z1⟩, st1⟩ := X0.specialBack hx (y := yM7) rfl hown (mvT hZ w36) (mvT hZ w37) (mvT hZ w40) (by decide) (backOfKL (W := 0) (rm_exc l Z a0 hw [] z_CS v_FMT s_US s_SS x_ m_ h0 n0 SB O0 pr0 pr1 pr2 pr3 pr4 pr5 pr6 pr7 pr8 pr9 pr10 pr12) hZ w40 w39 (by decide) (by decide) hTK hBelow) (g := (mkF m 2 #[.val (.ref x_), .val m_, .val u_] [m_, (.ref x_)])) rfl (by rw [hml]; rfl) (Steps.refl _) (a := x_) (argsL := [m_]) (rest := []) (lenOf own_pd5 rfl) rfl (by show 2 * 0 + _ ≤ _; exact Nat.le_of_eq rfl) (hb hby d9_2) (fun _ _ => ⟨rfl, e0, (by decide : 0 + 1 ≤ _), (by decide : 0 + 2752 ≤ _)⟩)
  dsimp only [Pt.U, Pt.locs, Pt.cells, Pt.slots] at X1 l1 y1 z1 st1 hQ1
  subst l1 y1 z1
  obtain ⟨rfl, Nq1, K1, p1_0, p1_1, p1_2⟩ := hQ1
  have N1 := Fr.app N0 Nq1
  refine otr (S' := T1.setTop (mkF m 5 #[.val (.ref x_), .val m_, .val u_] [])) st1 ?_
  refine o_aloadN X1 hx (hb hby d9_5) rfl rfl ?_
  refine o_aloadN X1 hx (hb hby d9_6) rfl pr11 ?_
  obtain ⟨T2, _, X2, rfl, W2, st2⟩ := putF X1 hx hZ hown (host := "") (Or.inl w84) Via.refl rfl p1_2 p1_0 (Or.inr ⟨w85, rfl, hnm⟩) w31 (ty := (.object "java/lang/String")) (by decide) (own_nar pr11) (own_fits pr11) (g := (mkF m 7 #[.val (.ref x_), .val m_, .val u_] [u_, (.ref x_)])) rfl rfl (hb hby d9_7)
  have N2 := Fr.snoc X2 N1 pr7
  have F2 := Fld.same W2 p1_2
  refine ogo (S' := T2.setTop (mkF m 10 #[.val (.ref x_), .val m_, .val u_] [])) st2 ?_
  have c3 := (Fld.other W2 p1_1 (Or.inr (slot_ne (Or.inl w79) (Or.inr w85) (by decide) (t := (.object "java/lang/String")) (t' := (.object "java/lang/String")) (by decide) (by decide))))
  refine oend X2 hlk (v := none) (fun _ => rfl) (fun fs hr => X2.returnOut hx hret (hb hby d9_10) hr) (by decide) (by decide) ?_
  show own_Q_ue2 Z _ _ _ _ _ _ _ h0 n0 _ T2.heap _
  exact ⟨rfl, N2, (((Keep.refl h0 [x_]).trans K1 (allS (Or.inl (List.mem_of_getElem? (i := 0) rfl)) all0)).wr W2 (Or.inl (List.mem_of_getElem? (i := 0) rfl))), (Exa.wr W2 p1_0), c3, F2⟩
theorem d10_0 : decode jdk_78_method_6_code 0 = .ok (.aload_n 0, 1) := by decide +kernel
theorem d10_1 : decode jdk_78_method_6_code 1 = .ok (.getfield 31, 3) := by decide +kernel
theorem d10_4 : decode jdk_78_method_6_code 4 = .ok (.areturn, 1) := by decide +kernel
def own_Q_gm (Z : State)  (x_ : Addr) (m_ : Value) (h0 : Heap) (n0 : Nat) (v : Option Value) (h : Heap) (L : List Loc) : Prop := (v = some m_) ∧ (Fr n0 L) ∧ (h = h0)
abbrev yM10 : MethodName := ⟨"java/lang/Throwable", "getMessage", "()Ljava/lang/String;"⟩
set_option maxRecDepth 65536 in
set_option maxHeartbeats 40000000 in
theorem rm_gm (l : Launch) (Z : State) (a0 : Array Value) (hw : ∀ d ∈ tables_1, d.before a0 Z = true) (ws : List Jvm.Cond)  (x_ : Addr) (m_ : Value) (h0 : Heap) (n0 : Nat) (O0 : Old Z n0 h0) (pr0 : Fld Z h0 x_ "java/lang/Throwable" "detailMessage" "Ljava/lang/String;" m_) (pr1 : m_.isRef = true) :
    oMet l Z yM10 jdk_78_method_6_code 1 (some (.object "java/lang/String")) ws ({ frames := 0, cells := 0, slots := 0, locals := 0 } : Room) 0 0 #[(.ref x_)] h0 (own_Q_gm Z  x_ m_ h0 n0) := by
  refine oenter own_pn2 #[.val (.ref x_)] (fun m => by first | (simp [entryFrame, mkF, argsToLocals, Value.category]; done) | rfl) ?_
  intro p e s m below meth c s₁ X0 hx hZ hby hml hret hown0 hnm hlk e0
  have hown : s.vm.findClass "java/lang/Throwable" = some m.cls := hown0
  have N0 := Fr.nil n0
  have w83 := hw _ (List.mem_of_getElem? (i := 83) rfl)
  refine o_aloadN X0 hx (hb hby d10_0) rfl rfl ?_
  obtain ⟨T1, X1, e1, st1⟩ := getF X0 hx hZ hown (host := "") (Or.inl w83) Via.refl e0 pr0 (g := (mkF m 1 #[.val (.ref x_)] [(.ref x_)])) rfl rfl (hb hby d10_1)
  refine ogo (S' := T1.setTop (mkF m 4 #[.val (.ref x_)] [m_])) st1 ?_
  refine oend X1 hlk (v := some m_) (fun h => by rw [hret] at h; cases h) (fun fs hr => retOut X1 hx (t := (.object "java/lang/String")) (i := .areturn) hret (by cases m_ <;> rfl) (Or.inr (Or.inr (Or.inr (Or.inr ⟨rfl, rfl, pr1⟩)))) (hb hby d10_4) hr) (by decide) (by decide) ?_
  show own_Q_gm Z _ _ h0 n0 _ T1.heap _
  rw [e1]
  exact ⟨rfl, N0, rfl⟩
theorem own_pd6 : parseMethodDescriptor "()Ljava/lang/String;" = some ⟨[], some (.object "java/lang/String")⟩ := by decide +kernel
abbrev yM11 : MethodName := ⟨"com/example/reliquary/reliquary/UserException", "getMessage", "()Ljava/lang/String;"⟩
theorem d11_0 : decode prog_12_method_3_code 0 = .ok (.aload_n 0, 1) := by decide +kernel
theorem d11_1 : decode prog_12_method_3_code 1 = .ok (.getfield 7, 3) := by decide +kernel
theorem d11_4 : decode prog_12_method_3_code 4 = .ok (.ifnonnull 10, 3) := by decide +kernel
theorem d11_7 : decode prog_12_method_3_code 7 = .ok (.aload_n 0, 1) := by decide +kernel
theorem d11_8 : decode prog_12_method_3_code 8 = .ok (.invokevirtual 13, 3) := by decide +kernel
theorem d11_11 : decode prog_12_method_3_code 11 = .ok (.goto 7, 3) := by decide +kernel
theorem d11_18 : decode prog_12_method_3_code 18 = .ok (.areturn, 1) := by decide +kernel
def own_Q_umN (Z : State)  (x_ : Addr) (m_ : Value) (h0 : Heap) (n0 : Nat) (v : Option Value) (h : Heap) (L : List Loc) : Prop := (v = some m_) ∧ (Fr n0 L) ∧ (h = h0)
abbrev yM12 : MethodName := ⟨"com/example/reliquary/reliquary/UserException", "userMessage", "()Ljava/lang/String;"⟩
set_option maxRecDepth 65536 in
set_option maxHeartbeats 40000000 in
theorem rm_umN (l : Launch) (Z : State) (a0 : Array Value) (hw : ∀ d ∈ tables_1, d.before a0 Z = true) (ws : List Jvm.Cond)  (x_ : Addr) (m_ : Value) (h0 : Heap) (n0 : Nat) (O0 : Old Z n0 h0) (pr0 : Exa Z h0 x_ "com/example/reliquary/reliquary/UserException") (pr1 : Fld Z h0 x_ "java/lang/Throwable" "detailMessage" "Ljava/lang/String;" m_) (pr2 : m_.isRef = true) (pr3 : Fld Z h0 x_ "com/example/reliquary/reliquary/UserException" "userMessage" "Ljava/lang/String;" .null) :
    oMet l Z yM12 prog_12_method_3_code 1 (some (.object "java/lang/String")) ws ({ frames := 1, cells := 0, slots := 0, locals := 12 } : Room) 0 0 #[(.ref x_)] h0 (own_Q_umN Z  x_ m_ h0 n0) := by
  refine oenter own_pn4 #[.val (.ref x_)] (fun m => by first | (simp [entryFrame, mkF, argsToLocals, Value.category]; done) | rfl) ?_
  intro p e s m below meth c s₁ X0 hx hZ hby hml hret hown0 hnm hlk e0
  have hown : s.vm.findClass "com/example/reliquary/reliquary/UserException" = some m.cls := hown0
  have N0 := Fr.nil n0
  have w45 := hw _ (List.mem_of_getElem? (i := 45) rfl)
  have w84 := hw _ (List.mem_of_getElem? (i := 84) rfl)
  have w91 := hw _ (List.mem_of_getElem? (i := 91) rfl)
  have w92 := hw _ (List.mem_of_getElem? (i := 92) rfl)
  have w93 := hw _ (List.mem_of_getElem? (i := 93) rfl)
  have w94 := hw _ (List.mem_of_getElem? (i := 94) rfl)
  have w95 := hw _ (List.mem_of_getElem? (i := 95) rfl)
  have w96 := hw _ (List.mem_of_getElem? (i := 96) rfl)
  refine o_aloadN X0 hx (hb hby d11_0) rfl rfl ?_
  obtain ⟨T1, X1, e1, st1⟩ := getF X0 hx hZ hown (host := "") (Or.inl w84) Via.refl e0 pr3 (g := (mkF m 1 #[.val (.ref x_)] [(.ref x_)])) rfl rfl (hb hby d11_1)
  refine ogo (S' := T1.setTop (mkF m 4 #[.val (.ref x_)] [.null])) st1 ?_
  refine o_ifnonnullNo X1 hx (hb hby d11_4) ?_
  refine o_aloadN X1 hx (hb hby d11_7) rfl rfl ?_
  obtain ⟨cq2, kq2, q2a, q2b, q2c⟩ := isOf hZ e1 pr0
  obtain ⟨_, _, ⟨T2, L2, kc2, n2⟩, -, X2, ⟨Lc2, hQ2, l2, y2, z2⟩, st2⟩ := X1.virtualBackUp hx (x := yM11) (y := yM10) (owner := "java/lang/Throwable") hown (mvT hZ w91) (mvT hZ w92) (mvT hZ w93) (by decide) (mvT hZ w95) (mvT hZ w94) (backOf (W := 0) (rm_gm l Z a0 hw []  x_ m_ h0 n0 O0 pr1 pr2) hZ w96 w45 (by decide) (by decide)) q2a q2c (g := (mkF m 8 #[.val (.ref x_)] [(.ref x_)])) rfl (by rw [hml]; rfl) (Steps.refl _) (argsL := []) (rest := []) (lenOf own_pd6 rfl) rfl (by show 2 * 0 + _ ≤ _; exact Nat.le_of_eq rfl) (hb hby d11_8) (fun _ _ => ⟨rfl, e1, (by decide : 0 + 0 ≤ _), (by decide : 0 + 0 ≤ _)⟩)
  dsimp only [Pt.U, Pt.locs, Pt.cells, Pt.slots] at X2 l2 y2 z2 st2 hQ2
  subst l2 y2 z2
  obtain ⟨rfl, Nq2, e2⟩ := hQ2
  have N2 := Fr.app N0 Nq2
  refine otr (S' := T2.setTop (mkF m 11 #[.val (.ref x_)] [m_])) st2 ?_
  refine o_goto X2 hx 18 (hb hby d11_11) (by decide) (by decide) ?_
  refine oend X2 hlk (v := some m_) (fun h => by rw [hret] at h; cases h) (fun fs hr => retOut X2 hx (t := (.object "java/lang/String")) (i := .areturn) hret (by cases m_ <;> rfl) (Or.inr (Or.inr (Or.inr (Or.inr ⟨rfl, rfl, pr2⟩)))) (hb hby d11_18) hr) (by decide) (by decide) ?_
  show own_Q_umN Z _ _ h0 n0 _ T2.heap _
  rw [e2]
  exact ⟨rfl, N2, rfl⟩
theorem d11_14 : decode prog_12_method_3_code 14 = .ok (.aload_n 0, 1) := by decide +kernel
theorem d11_15 : decode prog_12_method_3_code 15 = .ok (.getfield 7, 3) := by decide +kernel
def own_Q_umR (Z : State)  (x_ : Addr) (u_ : Addr) (h0 : Heap) (n0 : Nat) (v : Option Value) (h : Heap) (L : List Loc) : Prop := (v = some (.ref u_)) ∧ (Fr n0 L) ∧ (h = h0)
set_option maxRecDepth 65536 in
set_option maxHeartbeats 40000000 in
theorem rm_umR (l : Launch) (Z : State) (a0 : Array Value) (hw : ∀ d ∈ tables_1, d.before a0 Z = true) (ws : List Jvm.Cond)  (x_ : Addr) (u_ : Addr) (h0 : Heap) (n0 : Nat) (O0 : Old Z n0 h0) (pr0 : Fld Z h0 x_ "com/example/reliquary/reliquary/UserException" "userMessage" "Ljava/lang/String;" (.ref u_)) :
    oMet l Z yM12 prog_12_method_3_code 1 (some (.object "java/lang/String")) ws ({ frames := 0, cells := 0, slots := 0, locals := 0 } : Room) 0 0 #[(.ref x_)] h0 (own_Q_umR Z  x_ u_ h0 n0) := by
  refine oenter own_pn4 #[.val (.ref x_)] (fun m => by first | (simp [entryFrame, mkF, argsToLocals, Value.category]; done) | rfl) ?_
  intro p e s m below meth c s₁ X0 hx hZ hby hml hret hown0 hnm hlk e0
  have hown : s.vm.findClass "com/example/reliquary/reliquary/UserException" = some m.cls := hown0
  have N0 := Fr.nil n0
  have w84 := hw _ (List.mem_of_getElem? (i := 84) rfl)
  refine o_aloadN X0 hx (hb hby d11_0) rfl rfl ?_
  obtain ⟨T1, X1, e1, st1⟩ := getF X0 hx hZ hown (host := "") (Or.inl w84) Via.refl e0 pr0 (g := (mkF m 1 #[.val (.ref x_)] [(.ref x_)])) rfl rfl (hb hby d11_1)
  refine ogo (S' := T1.setTop (mkF m 4 #[.val (.ref x_)] [(.ref u_)])) st1 ?_
  refine o_ifnonnullYes X1 hx 14 (hb hby d11_4) (by decide) (by decide) ?_
  refine o_aloadN X1 hx (hb hby d11_14) rfl rfl ?_
  obtain ⟨T2, X2, e2, st2⟩ := getF X1 hx hZ hown (host := "") (Or.inl w84) Via.refl e1 pr0 (g := (mkF m 15 #[.val (.ref x_)] [(.ref x_)])) rfl rfl (hb hby d11_15)
  refine ogo (S' := T2.setTop (mkF m 18 #[.val (.ref x_)] [(.ref u_)])) st2 ?_
  refine oend X2 hlk (v := some (.ref u_)) (fun h => by rw [hret] at h; cases h) (fun fs hr => retOut X2 hx (t := (.object "java/lang/String")) (i := .areturn) hret rfl (Or.inr (Or.inr (Or.inr (Or.inr ⟨rfl, rfl, rfl⟩)))) (hb hby d11_18) hr) (by decide) (by decide) ?_
  show own_Q_umR Z _ _ h0 n0 _ T2.heap _
  rw [e2]
  exact ⟨rfl, N0, rfl⟩
theorem own_pd7 : parseMethodDescriptor "([C)V" = some ⟨[(.array .char)], none⟩ := by decide +kernel
theorem own_pd8 : parseMethodDescriptor "(Ljava/lang/String;Ljava/lang/String;)V" = some ⟨[(.object "java/lang/String"), (.object "java/lang/String")], none⟩ := by decide +kernel
theorem own_pn5 : plainName "com/example/reliquary/reliquary/UserExceptionUserMessagePinLaw" = true := by first | (simp [plainName, overriddenIn]; done) | decide +kernel
def own_Q_law (Z : State) (z_CS : Int32) (v_FMT : Value) (s_US : Addr) (s_SS : Addr) (i_ : Int32) (j_ : Int32) (k_ : Int32) (h0 : Heap) (n0 : Nat) (v : Option Value) (h : Heap) (L : List Loc) : Prop := (v = some (.int (1 : Int32))) ∧ (Fr n0 L) ∧ (Keep h0 h [])
set_option maxRecDepth 65536 in
set_option maxHeartbeats 40000000 in
theorem rm_law (l : Launch) (Z : State) (a0 : Array Value) (hw : ∀ d ∈ tables_1, d.before a0 Z = true) (ws : List Jvm.Cond) (z_CS : Int32) (v_FMT : Value) (s_US : Addr) (s_SS : Addr) (i_ : Int32) (j_ : Int32) (k_ : Int32) (h0 : Heap) (n0 : Nat) (SB : own_Start Z z_CS v_FMT s_US s_SS) (O0 : Old Z n0 h0) (pr0 : l.stackTraces = true) :
    oMetK l Z x code maxLocals ret ws room_1 24 5632 #[(.int i_), (.int j_), (.int k_)] h0 (own_Q_law Z z_CS v_FMT s_US s_SS i_ j_ k_ h0 n0) := by
  refine oenterK own_pn5 #[.val (.int i_), .val (.int j_), .val (.int k_), .unset, .unset, .unset, .unset, .unset, .unset, .unset, .unset] (fun m => by first | (simp [entryFrame, mkF, argsToLocals, Value.category, maxLocals]; done) | rfl) ?_
  intro p e s m below meth c s₁ X0 hx hZ hby hml hret hown0 hnm hlk e0 hs0 hTK hBelow
  have hown : s.vm.findClass "com/example/reliquary/reliquary/UserExceptionUserMessagePinLaw" = some m.cls := hown0
  have N0 := Fr.nil n0
  obtain ⟨S_CS, H_CS, S__assertionsDisabled, S_FMT, R_FMT, S_s_US, S_s_SS⟩ := (id SB)
  have w0 := hw _ (List.mem_of_getElem? (i := 0) rfl)
  have w1 := hw _ (List.mem_of_getElem? (i := 1) rfl)
  have w2 := hw _ (List.mem_of_getElem? (i := 2) rfl)
  have w3 := hw _ (List.mem_of_getElem? (i := 3) rfl)
  have w4 := hw _ (List.mem_of_getElem? (i := 4) rfl)
  have w5 := hw _ (List.mem_of_getElem? (i := 5) rfl)
  have w6 := hw _ (List.mem_of_getElem? (i := 6) rfl)
  have w27 := hw _ (List.mem_of_getElem? (i := 27) rfl)
  have w29 := hw _ (List.mem_of_getElem? (i := 29) rfl)
  have w30 := hw _ (List.mem_of_getElem? (i := 30) rfl)
  have w31 := hw _ (List.mem_of_getElem? (i := 31) rfl)
  have w32 := hw _ (List.mem_of_getElem? (i := 32) rfl)
  have w33 := hw _ (List.mem_of_getElem? (i := 33) rfl)
  have w34 := hw _ (List.mem_of_getElem? (i := 34) rfl)
  have w35 := hw _ (List.mem_of_getElem? (i := 35) rfl)
  have w45 := hw _ (List.mem_of_getElem? (i := 45) rfl)
  have w49 := hw _ (List.mem_of_getElem? (i := 49) rfl)
  have w52 := hw _ (List.mem_of_getElem? (i := 52) rfl)
  have w55 := hw _ (List.mem_of_getElem? (i := 55) rfl)
  have w79 := hw _ (List.mem_of_getElem? (i := 79) rfl)
  have w80 := hw _ (List.mem_of_getElem? (i := 80) rfl)
  have w81 := hw _ (List.mem_of_getElem? (i := 81) rfl)
  have w85 := hw _ (List.mem_of_getElem? (i := 85) rfl)
  have w86 := hw _ (List.mem_of_getElem? (i := 86) rfl)
  have w87 := hw _ (List.mem_of_getElem? (i := 87) rfl)
  have w88 := hw _ (List.mem_of_getElem? (i := 88) rfl)
  have w89 := hw _ (List.mem_of_getElem? (i := 89) rfl)
  have w90 := hw _ (List.mem_of_getElem? (i := 90) rfl)
  have w92 := hw _ (List.mem_of_getElem? (i := 92) rfl)
  have w93 := hw _ (List.mem_of_getElem? (i := 93) rfl)
  have w94 := hw _ (List.mem_of_getElem? (i := 94) rfl)
  have w95 := hw _ (List.mem_of_getElem? (i := 95) rfl)
  have w96 := hw _ (List.mem_of_getElem? (i := 96) rfl)
  have w97 := hw _ (List.mem_of_getElem? (i := 97) rfl)
  have w98 := hw _ (List.mem_of_getElem? (i := 98) rfl)
  have w99 := hw _ (List.mem_of_getElem? (i := 99) rfl)
  have w100 := hw _ (List.mem_of_getElem? (i := 100) rfl)
  refine o_iconst X0 hx (2 : Int32) (hb hby at_0) rfl ?_
  obtain ⟨T1, _, k1, X1, rfl, E1, A1, Ex1, st1⟩ := newPE (aty := .char) X0 hx hZ w0 e0 (g := (mkF m 1 #[.val (.int i_), .val (.int j_), .val (.int k_), .unset, .unset, .unset, .unset, .unset, .unset, .unset, .unset] [(.int (2 : Int32))])) rfl (hb hby at_1) rfl (by decide) (cap := 2) (by decide) (by decide) (by decide) (by decide) (ad := "[C") rfl
  obtain ⟨b1, g1⟩ : ∃ z, z = h0.size := ⟨_, rfl⟩
  rw [← g1] at A1 Ex1 st1
  have n0_b1 : n0 ≤ b1 := Nat.le_trans (Nat.le_trans (Nat.le_of_eq O0.1.symm) O0.2.1) (Nat.le_trans (Nat.le_refl _) (Nat.le_of_eq g1.symm))
  have V1 : Arv Z T1.heap b1 k1 .char (2 : Int32) [(.int 0), (.int 0)] (.int 0) := (Arv.new A1 (by decide)).pad (pad_rep [] (.int 0) 2)
  refine ogo (S' := T1.setTop (mkF m 3 #[.val (.int i_), .val (.int j_), .val (.int k_), .unset, .unset, .unset, .unset, .unset, .unset, .unset, .unset] [(.ref b1)])) st1 ?_
  refine o_dup X1 hx (hb hby at_3) rfl ?_
  refine o_iconst X1 hx (0 : Int32) (hb hby at_4) rfl ?_
  refine o_iloadN X1 hx (hb hby at_5) rfl ?_
  refine o_sipush X1 hx (255 : Int32) (hb hby at_6) rfl ?_
  refine o_iand X1 hx (hb hby at_9) ?_
  refine o_i2c X1 hx (hb hby at_10) ?_
  obtain ⟨cl2, Ar2, q2, S2, N2z, H2, G2⟩ := (id V1)
  obtain ⟨T2, _, X2, rfl, W2, st2⟩ := stC X1 hx hZ rfl Ar2 (j := (0 : Int32)) (inb_of S2 ⟨by decide, by decide⟩) (g := (mkF m 11 #[.val (.int i_), .val (.int j_), .val (.int k_), .unset, .unset, .unset, .unset, .unset, .unset, .unset, .unset] [(.int (nar .char (i_ &&& (255 : Int32)))), (.int (0 : Int32)), (.ref b1), (.ref b1)])) rfl rfl (hb hby at_11)
  rw [own_narc] at W2
  have V2 : Arv Z T2.heap b1 k1 .char (2 : Int32) [(.int (nar .char (i_ &&& (255 : Int32)))), (.int 0)] (.int 0) := Arv.set Ar2 q2 S2 N2z H2 G2 (fits_nar_char _) W2 0 rfl (Nat.le_of_ble_eq_true rfl)
  have N2 := Fr.snoc X2 N0 n0_b1
  refine ogo (S' := T2.setTop (mkF m 12 #[.val (.int i_), .val (.int j_), .val (.int k_), .unset, .unset, .unset, .unset, .unset, .unset, .unset, .unset] [(.ref b1)])) st2 ?_
  refine o_dup X2 hx (hb hby at_12) rfl ?_
  refine o_iconst X2 hx (1 : Int32) (hb hby at_13) rfl ?_
  refine o_iloadN X2 hx (hb hby at_14) rfl ?_
  refine o_bipush X2 hx (8 : Int32) (hb hby at_15) rfl ?_
  refine o_iushr X2 hx (hb hby at_17) ?_
  refine o_sipush X2 hx (255 : Int32) (hb hby at_18) rfl ?_
  refine o_iand X2 hx (hb hby at_21) ?_
  refine o_i2c X2 hx (hb hby at_22) ?_
  obtain ⟨cl3, Ar3, q3, S3, N3z, H3, G3⟩ := (id V2)
  obtain ⟨T3, _, X3, rfl, W3, st3⟩ := stC X2 hx hZ rfl Ar3 (j := (1 : Int32)) (inb_of S3 ⟨by decide, by decide⟩) (g := (mkF m 23 #[.val (.int i_), .val (.int j_), .val (.int k_), .unset, .unset, .unset, .unset, .unset, .unset, .unset, .unset] [(.int (nar .char ((own_ushr i_ (8 : Int32)) &&& (255 : Int32)))), (.int (1 : Int32)), (.ref b1), (.ref b1)])) rfl rfl (hb hby at_23)
  rw [own_narc] at W3
  have V3 : Arv Z T3.heap b1 k1 .char (2 : Int32) [(.int (nar .char (i_ &&& (255 : Int32)))), (.int (nar .char ((own_ushr i_ (8 : Int32)) &&& (255 : Int32))))] (.int 0) := Arv.set Ar3 q3 S3 N3z H3 G3 (fits_nar_char _) W3 1 rfl (Nat.le_of_ble_eq_true rfl)
  have N3 := Fr.snoc X3 N2 n0_b1
  refine ogo (S' := T3.setTop (mkF m 24 #[.val (.int i_), .val (.int j_), .val (.int k_), .unset, .unset, .unset, .unset, .unset, .unset, .unset, .unset] [(.ref b1)])) st3 ?_
  refine o_astoreN X3 hx (l' := #[.val (.int i_), .val (.int j_), .val (.int k_), .val (.ref b1), .unset, .unset, .unset, .unset, .unset, .unset, .unset]) (hb hby at_24) rfl rfl ?_
  refine o_iconst X3 hx (2 : Int32) (hb hby at_25) rfl ?_
  obtain ⟨T4, _, k4, X4, rfl, E4, A4, Ex4, st4⟩ := newPE (aty := .char) X3 hx hZ w0 rfl (g := (mkF m 26 #[.val (.int i_), .val (.int j_), .val (.int k_), .val (.ref b1), .unset, .unset, .unset, .unset, .unset, .unset, .unset] [(.int (2 : Int32))])) rfl (hb hby at_26) rfl (by decide) (cap := 2) (by decide) (by decide) (by decide) (by decide) (ad := "[C") rfl
  obtain ⟨b4, g4⟩ : ∃ z, z = T3.heap.size := ⟨_, rfl⟩
  rw [← g4] at A4 Ex4 st4
  have n0_b4 : n0 ≤ b4 := Nat.le_trans (Nat.le_trans (Nat.le_of_eq O0.1.symm) O0.2.1) (Nat.le_trans (Nat.le_trans (Nat.le_trans E1.1 (Keep.of_wr W2).1) (Keep.of_wr W3).1) (Nat.le_of_eq g4.symm))
  have V4 : Arv Z T4.heap b4 k4 .char (2 : Int32) [(.int 0), (.int 0)] (.int 0) := (Arv.new A4 (by decide)).pad (pad_rep [] (.int 0) 2)
  refine ogo (S' := T4.setTop (mkF m 28 #[.val (.int i_), .val (.int j_), .val (.int k_), .val (.ref b1), .unset, .unset, .unset, .unset, .unset, .unset, .unset] [(.ref b4)])) st4 ?_
  refine o_dup X4 hx (hb hby at_28) rfl ?_
  refine o_iconst X4 hx (0 : Int32) (hb hby at_29) rfl ?_
  refine o_iloadN X4 hx (hb hby at_30) rfl ?_
  refine o_sipush X4 hx (255 : Int32) (hb hby at_31) rfl ?_
  refine o_iand X4 hx (hb hby at_34) ?_
  refine o_i2c X4 hx (hb hby at_35) ?_
  obtain ⟨cl5, Ar5, q5, S5, N5z, H5, G5⟩ := (id V4)
  obtain ⟨T5, _, X5, rfl, W5, st5⟩ := stC X4 hx hZ rfl Ar5 (j := (0 : Int32)) (inb_of S5 ⟨by decide, by decide⟩) (g := (mkF m 36 #[.val (.int i_), .val (.int j_), .val (.int k_), .val (.ref b1), .unset, .unset, .unset, .unset, .unset, .unset, .unset] [(.int (nar .char (j_ &&& (255 : Int32)))), (.int (0 : Int32)), (.ref b4), (.ref b4)])) rfl rfl (hb hby at_36)
  rw [own_narc] at W5
  have V5 : Arv Z T5.heap b4 k4 .char (2 : Int32) [(.int (nar .char (j_ &&& (255 : Int32)))), (.int 0)] (.int 0) := Arv.set Ar5 q5 S5 N5z H5 G5 (fits_nar_char _) W5 0 rfl (Nat.le_of_ble_eq_true rfl)
  have N5 := Fr.snoc X5 N3 n0_b4
  refine ogo (S' := T5.setTop (mkF m 37 #[.val (.int i_), .val (.int j_), .val (.int k_), .val (.ref b1), .unset, .unset, .unset, .unset, .unset, .unset, .unset] [(.ref b4)])) st5 ?_
  refine o_dup X5 hx (hb hby at_37) rfl ?_
  refine o_iconst X5 hx (1 : Int32) (hb hby at_38) rfl ?_
  refine o_iloadN X5 hx (hb hby at_39) rfl ?_
  refine o_bipush X5 hx (8 : Int32) (hb hby at_40) rfl ?_
  refine o_iushr X5 hx (hb hby at_42) ?_
  refine o_sipush X5 hx (255 : Int32) (hb hby at_43) rfl ?_
  refine o_iand X5 hx (hb hby at_46) ?_
  refine o_i2c X5 hx (hb hby at_47) ?_
  obtain ⟨cl6, Ar6, q6, S6, N6z, H6, G6⟩ := (id V5)
  obtain ⟨T6, _, X6, rfl, W6, st6⟩ := stC X5 hx hZ rfl Ar6 (j := (1 : Int32)) (inb_of S6 ⟨by decide, by decide⟩) (g := (mkF m 48 #[.val (.int i_), .val (.int j_), .val (.int k_), .val (.ref b1), .unset, .unset, .unset, .unset, .unset, .unset, .unset] [(.int (nar .char ((own_ushr j_ (8 : Int32)) &&& (255 : Int32)))), (.int (1 : Int32)), (.ref b4), (.ref b4)])) rfl rfl (hb hby at_48)
  rw [own_narc] at W6
  have V6 : Arv Z T6.heap b4 k4 .char (2 : Int32) [(.int (nar .char (j_ &&& (255 : Int32)))), (.int (nar .char ((own_ushr j_ (8 : Int32)) &&& (255 : Int32))))] (.int 0) := Arv.set Ar6 q6 S6 N6z H6 G6 (fits_nar_char _) W6 1 rfl (Nat.le_of_ble_eq_true rfl)
  have N6 := Fr.snoc X6 N5 n0_b4
  refine ogo (S' := T6.setTop (mkF m 49 #[.val (.int i_), .val (.int j_), .val (.int k_), .val (.ref b1), .unset, .unset, .unset, .unset, .unset, .unset, .unset] [(.ref b4)])) st6 ?_
  refine o_astore X6 hx (l' := #[.val (.int i_), .val (.int j_), .val (.int k_), .val (.ref b1), .val (.ref b4), .unset, .unset, .unset, .unset, .unset, .unset]) (hb hby at_49) rfl rfl ?_
  refine o_iloadN X6 hx (hb hby at_51) rfl ?_
  refine o_iconst X6 hx (2 : Int32) (hb hby at_52) rfl ?_
  refine o_iand X6 hx (hb hby at_53) ?_
  by_cases hc7 : (k_ &&& (2 : Int32)) = (0 : Int32)
  · refine o_ifYes X6 hx 61 (hb hby at_54) (teq hc7).1 (by decide) (by decide) ?_
    obtain ⟨T8, _, X8, rfl, E8, A8, D8, U8, st8⟩ := newO X6 hx hZ hown w1 w2 w3 rfl (g := (mkF m 61 #[.val (.int i_), .val (.int j_), .val (.int k_), .val (.ref b1), .val (.ref b4), .unset, .unset, .unset, .unset, .unset, .unset] [])) rfl (hb hby at_61) (by decide) (by decide)
    obtain ⟨b8, g8⟩ : ∃ z, z = T6.heap.size := ⟨_, rfl⟩
    rw [← g8] at A8 D8 U8 st8
    have n0_b8 : n0 ≤ b8 := Nat.le_trans (Nat.le_trans (Nat.le_of_eq O0.1.symm) O0.2.1) (Nat.le_trans (Nat.le_trans (Nat.le_trans (Nat.le_trans (Nat.le_trans (Nat.le_trans E1.1 (Keep.of_wr W2).1) (Keep.of_wr W3).1) E4.1) (Keep.of_wr W5).1) (Keep.of_wr W6).1) (Nat.le_of_eq g8.symm))
    have UN8 : Unt T8.heap b8 := U8
    have F8_coder : Fld Z T8.heap b8 "java/lang/String" "coder" "B" (.int (0 : Int32)) := D8 (Or.inr w27) (ty := .byte) (by decide)
    have F8_value : Fld Z T8.heap b8 "java/lang/String" "value" "[B" .null := D8 (Or.inr w29) (ty := (.array .byte)) (by decide)
    refine ogo (S' := T8.setTop (mkF m 64 #[.val (.int i_), .val (.int j_), .val (.int k_), .val (.ref b1), .val (.ref b4), .unset, .unset, .unset, .unset, .unset, .unset] [(.ref b8)])) st8 ?_
    refine o_dup X8 hx (hb hby at_64) rfl ?_
    refine o_aloadN X8 hx (hb hby at_65) rfl rfl ?_
    have c10 := (((((((O0.ext E1).wr W2 n0_b1).wr W3 n0_b1).ext E4).wr W5 n0_b4).wr W6 n0_b4).ext E8)
    have c11 := ((((V3.ext E4).other W5 (Nat.ne_of_lt (Nat.lt_of_lt_of_le (Nat.lt_of_lt_of_le V1.lt (Nat.le_trans (Keep.of_wr W2).1 (Keep.of_wr W3).1)) (Nat.le_of_eq g4.symm)))).other W6 (Nat.ne_of_lt (Nat.lt_of_lt_of_le (Nat.lt_of_lt_of_le V1.lt (Nat.le_trans (Keep.of_wr W2).1 (Keep.of_wr W3).1)) (Nat.le_of_eq g4.symm)))).ext E8)
    obtain ⟨_, _, ⟨T9, L9, kc9, n9⟩, -, X9, ⟨Lc9, hQ9, l9, y9, z9⟩, st9⟩ := X8.specialBack hx (y := yM4) rfl hown (mvT hZ w4) (mvT hZ w5) (mvT hZ w6) (by decide) (backOf (W := 1) (rm_new1_2 l Z a0 hw [] z_CS v_FMT s_US s_SS b8 b1 k1 (nar .char (i_ &&& (255 : Int32))) (nar .char ((own_ushr i_ (8 : Int32)) &&& (255 : Int32))) T8.heap n0 SB c10 A8 F8_value F8_coder c11 n0_b8 (own_mk255 _) (own_mk255 _)) hZ w6 w3 (by decide) (by decide)) (g := (mkF m 66 #[.val (.int i_), .val (.int j_), .val (.int k_), .val (.ref b1), .val (.ref b4), .unset, .unset, .unset, .unset, .unset, .unset] [(.ref b1), (.ref b8), (.ref b8)])) rfl (by rw [hml]; rfl) (Steps.refl _) (a := b8) (argsL := [(.ref b1)]) (rest := [(.ref b8)]) (lenOf own_pd7 rfl) rfl (by show 2 * 0 + _ ≤ _; exact Nat.le_of_eq rfl) (hb hby at_66) (fun _ _ => ⟨rfl, rfl, (by decide : 3 + 1 ≤ _), (by decide : 8 + 2 ≤ _)⟩)
    dsimp only [Pt.U, Pt.locs, Pt.cells, Pt.slots] at X9 l9 y9 z9 st9 hQ9
    subst l9 y9 z9
    obtain ⟨ba_9, kb_9, rfl, Nq9, K9, p9_0, p9_1, p9_2, p9_3, p9_4⟩ := hQ9
    have N9 := Fr.app N6 Nq9
    have n0_ba_9 : n0 ≤ ba_9 := Nat.le_trans (Nat.le_trans (Nat.le_of_eq O0.1.symm) O0.2.1) (Nat.le_trans (Nat.le_trans (Nat.le_trans (Nat.le_trans (Nat.le_trans (Nat.le_trans (Nat.le_trans E1.1 (Keep.of_wr W2).1) (Keep.of_wr W3).1) E4.1) (Keep.of_wr W5).1) (Keep.of_wr W6).1) E8.1) p9_0)
    refine otr (S' := T9.setTop (mkF m 69 #[.val (.int i_), .val (.int j_), .val (.int k_), .val (.ref b1), .val (.ref b4), .unset, .unset, .unset, .unset, .unset, .unset] [(.ref b8)])) st9 ?_
    refine o_astore X9 hx (l' := #[.val (.int i_), .val (.int j_), .val (.int k_), .val (.ref b1), .val (.ref b4), .val (.ref b8), .unset, .unset, .unset, .unset, .unset]) (hb hby at_69) rfl rfl ?_
    refine o_iloadN X9 hx (hb hby at_71) rfl ?_
    refine o_iconst X9 hx (4 : Int32) (hb hby at_72) rfl ?_
    refine o_iand X9 hx (hb hby at_73) ?_
    by_cases hc12 : (k_ &&& (4 : Int32)) = (0 : Int32)
    · refine o_ifYes X9 hx 81 (hb hby at_74) (teq hc12).1 (by decide) (by decide) ?_
      obtain ⟨T13, _, X13, rfl, E13, A13, D13, U13, st13⟩ := newO X9 hx hZ hown w1 w2 w3 rfl (g := (mkF m 81 #[.val (.int i_), .val (.int j_), .val (.int k_), .val (.ref b1), .val (.ref b4), .val (.ref b8), .unset, .unset, .unset, .unset, .unset] [])) rfl (hb hby at_81) (by decide) (by decide)
      obtain ⟨b13, g13⟩ : ∃ z, z = T9.heap.size := ⟨_, rfl⟩
      rw [← g13] at A13 D13 U13 st13
      have n0_b13 : n0 ≤ b13 := Nat.le_trans (Nat.le_trans (Nat.le_of_eq O0.1.symm) O0.2.1) (Nat.le_trans (Nat.le_trans (Nat.le_trans (Nat.le_trans (Nat.le_trans (Nat.le_trans (Nat.le_trans (Nat.le_trans E1.1 (Keep.of_wr W2).1) (Keep.of_wr W3).1) E4.1) (Keep.of_wr W5).1) (Keep.of_wr W6).1) E8.1) K9.1) (Nat.le_of_eq g13.symm))
      have UN13 : Unt T13.heap b13 := U13
      have F13_coder : Fld Z T13.heap b13 "java/lang/String" "coder" "B" (.int (0 : Int32)) := D13 (Or.inr w27) (ty := .byte) (by decide)
      have F13_value : Fld Z T13.heap b13 "java/lang/String" "value" "[B" .null := D13 (Or.inr w29) (ty := (.array .byte)) (by decide)
      refine ogo (S' := T13.setTop (mkF m 84 #[.val (.int i_), .val (.int j_), .val (.int k_), .val (.ref b1), .val (.ref b4), .val (.ref b8), .unset, .unset, .unset, .unset, .unset] [(.ref b13)])) st13 ?_
      refine o_dup X13 hx (hb hby at_84) rfl ?_
      refine o_aload X13 hx (hb hby at_85) rfl rfl ?_
      have c15 := (((V6.ext E8).keep K9 (ninS (Nat.ne_of_lt (Nat.lt_of_lt_of_le (Nat.lt_of_lt_of_le V4.lt (Nat.le_trans (Keep.of_wr W5).1 (Keep.of_wr W6).1)) (Nat.le_of_eq g8.symm))) nin0)).ext E13)
      obtain ⟨_, _, ⟨T14, L14, kc14, n14⟩, -, X14, ⟨Lc14, hQ14, l14, y14, z14⟩, st14⟩ := X13.specialBack hx (y := yM4) rfl hown (mvT hZ w4) (mvT hZ w5) (mvT hZ w6) (by decide) (backOf (W := 1) (rm_new1_2 l Z a0 hw [] z_CS v_FMT s_US s_SS b13 b4 k4 (nar .char (j_ &&& (255 : Int32))) (nar .char ((own_ushr j_ (8 : Int32)) &&& (255 : Int32))) T13.heap n0 SB ((c10.keep K9 (allS n0_b8 all0)).ext E13) A13 F13_value F13_coder c15 n0_b13 (own_mk255 _) (own_mk255 _)) hZ w6 w3 (by decide) (by decide)) (g := (mkF m 87 #[.val (.int i_), .val (.int j_), .val (.int k_), .val (.ref b1), .val (.ref b4), .val (.ref b8), .unset, .unset, .unset, .unset, .unset] [(.ref b4), (.ref b13), (.ref b13)])) rfl (by rw [hml]; rfl) (Steps.refl _) (a := b13) (argsL := [(.ref b4)]) (rest := [(.ref b13)]) (lenOf own_pd7 rfl) rfl (by show 2 * 0 + _ ≤ _; exact Nat.le_of_eq rfl) (hb hby at_87) (fun _ _ => ⟨rfl, rfl, (by decide : 5 + 1 ≤ _), (by decide : 14 + 2 ≤ _)⟩)
      dsimp only [Pt.U, Pt.locs, Pt.cells, Pt.slots] at X14 l14 y14 z14 st14 hQ14
      subst l14 y14 z14
      obtain ⟨ba_14, kb_14, rfl, Nq14, K14, p14_0, p14_1, p14_2, p14_3, p14_4⟩ := hQ14
      have N14 := Fr.app N9 Nq14
      have n0_ba_14 : n0 ≤ ba_14 := Nat.le_trans (Nat.le_trans (Nat.le_of_eq O0.1.symm) O0.2.1) (Nat.le_trans (Nat.le_trans (Nat.le_trans (Nat.le_trans (Nat.le_trans (Nat.le_trans (Nat.le_trans (Nat.le_trans (Nat.le_trans E1.1 (Keep.of_wr W2).1) (Keep.of_wr W3).1) E4.1) (Keep.of_wr W5).1) (Keep.of_wr W6).1) E8.1) K9.1) E13.1) p14_0)
      refine otr (S' := T14.setTop (mkF m 90 #[.val (.int i_), .val (.int j_), .val (.int k_), .val (.ref b1), .val (.ref b4), .val (.ref b8), .unset, .unset, .unset, .unset, .unset] [(.ref b13)])) st14 ?_
      refine o_astore X14 hx (l' := #[.val (.int i_), .val (.int j_), .val (.int k_), .val (.ref b1), .val (.ref b4), .val (.ref b8), .val (.ref b13), .unset, .unset, .unset, .unset]) (hb hby at_90) rfl rfl ?_
      refine o_iloadN X14 hx (hb hby at_92) rfl ?_
      refine o_iconst X14 hx (1 : Int32) (hb hby at_93) rfl ?_
      refine o_iand X14 hx (hb hby at_94) ?_
      by_cases hc16 : (k_ &&& (1 : Int32)) = (0 : Int32)
      · refine o_ifYes X14 hx 102 (hb hby at_95) (teq hc16).1 (by decide) (by decide) ?_
        refine o_iconst X14 hx (0 : Int32) (hb hby at_102) rfl ?_
        refine o_istore X14 hx (l' := #[.val (.int i_), .val (.int j_), .val (.int k_), .val (.ref b1), .val (.ref b4), .val (.ref b8), .val (.ref b13), .val (.int (0 : Int32)), .unset, .unset, .unset]) (hb hby at_103) rfl ?_
        refine o_iload X14 hx (hb hby at_105) rfl ?_
        refine o_ifYes X14 hx 124 (hb hby at_107) (teq (by decide : (0 : Int32) = (0 : Int32))).1 (by decide) (by decide) ?_
        obtain ⟨T17, _, X17, rfl, E17, A17, D17, U17, st17⟩ := newO X14 hx hZ hown w30 w31 w32 rfl (g := (mkF m 124 #[.val (.int i_), .val (.int j_), .val (.int k_), .val (.ref b1), .val (.ref b4), .val (.ref b8), .val (.ref b13), .val (.int (0 : Int32)), .unset, .unset, .unset] [])) rfl (hb hby at_124) (by decide) (by decide)
        obtain ⟨b17, g17⟩ : ∃ z, z = T14.heap.size := ⟨_, rfl⟩
        rw [← g17] at A17 D17 U17 st17
        have n0_b17 : n0 ≤ b17 := Nat.le_trans (Nat.le_trans (Nat.le_of_eq O0.1.symm) O0.2.1) (Nat.le_trans (Nat.le_trans (Nat.le_trans (Nat.le_trans (Nat.le_trans (Nat.le_trans (Nat.le_trans (Nat.le_trans (Nat.le_trans (Nat.le_trans E1.1 (Keep.of_wr W2).1) (Keep.of_wr W3).1) E4.1) (Keep.of_wr W5).1) (Keep.of_wr W6).1) E8.1) K9.1) E13.1) K14.1) (Nat.le_of_eq g17.symm))
        have UN17 : Unt T17.heap b17 := U17
        have F17_cause : Fld Z T17.heap b17 "java/lang/Throwable" "cause" "Ljava/lang/Throwable;" .null := D17 (Or.inl w49) (ty := (.object "java/lang/Throwable")) (by decide)
        have F17_stackTrace : Fld Z T17.heap b17 "java/lang/Throwable" "stackTrace" "[Ljava/lang/StackTraceElement;" .null := D17 (Or.inl w52) (ty := (.array (.object "java/lang/StackTraceElement"))) (by decide)
        have F17_suppressedExceptions : Fld Z T17.heap b17 "java/lang/Throwable" "suppressedExceptions" "Ljava/util/List;" .null := D17 (Or.inl w55) (ty := (.object "java/util/List")) (by decide)
        have F17_detailMessage : Fld Z T17.heap b17 "java/lang/Throwable" "detailMessage" "Ljava/lang/String;" .null := D17 (Or.inl w79) (ty := (.object "java/lang/String")) (by decide)
        have F17_backtrace : Fld Z T17.heap b17 "java/lang/Throwable" "backtrace" "Ljava/lang/Object;" .null := D17 (Or.inl w80) (ty := (.object "java/lang/Object")) (by decide)
        have F17_depth : Fld Z T17.heap b17 "java/lang/Throwable" "depth" "I" (.int (0 : Int32)) := D17 (Or.inl w81) (ty := .int) (by decide)
        have F17_userMessage : Fld Z T17.heap b17 "com/example/reliquary/reliquary/UserException" "userMessage" "Ljava/lang/String;" .null := D17 (Or.inr w85) (ty := (.object "java/lang/String")) (by decide)
        refine ogo (S' := T17.setTop (mkF m 127 #[.val (.int i_), .val (.int j_), .val (.int k_), .val (.ref b1), .val (.ref b4), .val (.ref b8), .val (.ref b13), .val (.int (0 : Int32)), .unset, .unset, .unset] [(.ref b17)])) st17 ?_
        refine o_dup X17 hx (hb hby at_127) rfl ?_
        refine o_aload X17 hx (hb hby at_128) rfl rfl ?_
        have c19 := ((((c10.keep K9 (allS n0_b8 all0)).ext E13).keep K14 (allS n0_b13 all0)).ext E17)
        obtain ⟨_, _, ⟨T18, L18, kc18, n18⟩, -, X18, ⟨Lc18, hQ18, l18, y18, z18⟩, st18⟩ := X17.specialBack hx (y := yM8) rfl hown (mvT hZ w33) (mvT hZ w34) (mvT hZ w35) (by decide) (backOfKL (W := 1) (rm_ue1 l Z a0 hw [] z_CS v_FMT s_US s_SS b17 (.ref b8) T17.heap n0 SB c19 A17 F17_cause F17_stackTrace F17_suppressedExceptions F17_backtrace F17_detailMessage F17_userMessage n0_b17 UN17 pr0 (by first | rfl | assumption | decide | omega) (by first | rfl | assumption | decide | omega)) hZ w35 w32 (by decide) (by decide) hTK hBelow) (g := (mkF m 130 #[.val (.int i_), .val (.int j_), .val (.int k_), .val (.ref b1), .val (.ref b4), .val (.ref b8), .val (.ref b13), .val (.int (0 : Int32)), .unset, .unset, .unset] [(.ref b8), (.ref b17), (.ref b17)])) rfl (by rw [hml]; rfl) (Steps.refl _) (a := b17) (argsL := [(.ref b8)]) (rest := [(.ref b17)]) (lenOf own_pd5 rfl) rfl (by show 2 * 0 + _ ≤ _; exact Nat.le_of_eq rfl) (hb hby at_130) (fun _ _ => ⟨rfl, rfl, (by decide : 7 + 1 ≤ _), (by decide : 23 + 2752 ≤ _)⟩)
        dsimp only [Pt.U, Pt.locs, Pt.cells, Pt.slots] at X18 l18 y18 z18 st18 hQ18
        subst l18 y18 z18
        obtain ⟨rfl, Nq18, K18, p18_0, p18_1, p18_2⟩ := hQ18
        have N18 := Fr.app N14 Nq18
        refine otr (S' := T18.setTop (mkF m 133 #[.val (.int i_), .val (.int j_), .val (.int k_), .val (.ref b1), .val (.ref b4), .val (.ref b8), .val (.ref b13), .val (.int (0 : Int32)), .unset, .unset, .unset] [(.ref b17)])) st18 ?_
        refine o_astore X18 hx (l' := #[.val (.int i_), .val (.int j_), .val (.int k_), .val (.ref b1), .val (.ref b4), .val (.ref b8), .val (.ref b13), .val (.int (0 : Int32)), .val (.ref b17), .unset, .unset]) (hb hby at_133) rfl rfl ?_
        refine o_iload X18 hx (hb hby at_135) rfl ?_
        refine o_ifYes X18 hx 150 (hb hby at_137) (teq (by decide : (0 : Int32) = (0 : Int32))).1 (by decide) (by decide) ?_
        refine o_aload X18 hx (hb hby at_150) rfl rfl ?_
        refine o_astore X18 hx (l' := #[.val (.int i_), .val (.int j_), .val (.int k_), .val (.ref b1), .val (.ref b4), .val (.ref b8), .val (.ref b13), .val (.int (0 : Int32)), .val (.ref b17), .val (.ref b8), .unset]) (hb hby at_152) rfl rfl ?_
        refine o_aload X18 hx (hb hby at_154) rfl rfl ?_
        obtain ⟨cq20, kq20, q20a, q20b, q20c⟩ := isOf hZ rfl p18_0
        obtain ⟨_, _, ⟨T20, L20, kc20, n20⟩, -, X20, ⟨Lc20, hQ20, l20, y20, z20⟩, st20⟩ := X18.virtualBack hx (y := yM12) (z := yM12) hown (mvT hZ w86) (mvT hZ w87) (notFace_of_selects (args := #[]) (mvT hZ w89)) (mvT hZ w89) (mvT hZ w88) (by decide) (backOf (W := 0) (rm_umN l Z a0 hw []  b17 (.ref b8) T18.heap n0 (c19.keep K18 (allS n0_b17 all0)) p18_0 p18_1 (by first | rfl | assumption | decide | omega) p18_2) hZ w90 w32 (by decide) (by decide)) q20a q20c (g := (mkF m 156 #[.val (.int i_), .val (.int j_), .val (.int k_), .val (.ref b1), .val (.ref b4), .val (.ref b8), .val (.ref b13), .val (.int (0 : Int32)), .val (.ref b17), .val (.ref b8), .unset] [(.ref b17)])) rfl (by rw [hml]; rfl) (Steps.refl _) (argsL := []) (rest := []) (lenOf own_pd6 rfl) rfl (by show 2 * 0 + _ ≤ _; exact Nat.le_of_eq rfl) (hb hby at_156) (fun _ _ => ⟨rfl, rfl, (by decide : 8 + 0 ≤ _), (by decide : 2775 + 0 ≤ _)⟩)
        dsimp only [Pt.U, Pt.locs, Pt.cells, Pt.slots] at X20 l20 y20 z20 st20 hQ20
        subst l20 y20 z20
        obtain ⟨rfl, Nq20, e20⟩ := hQ20
        have N20 := Fr.app N18 Nq20
        refine otr (S' := T20.setTop (mkF m 159 #[.val (.int i_), .val (.int j_), .val (.int k_), .val (.ref b1), .val (.ref b4), .val (.ref b8), .val (.ref b13), .val (.int (0 : Int32)), .val (.ref b17), .val (.ref b8), .unset] [(.ref b8)])) st20 ?_
        refine o_astore X20 hx (l' := #[.val (.int i_), .val (.int j_), .val (.int k_), .val (.ref b1), .val (.ref b4), .val (.ref b8), .val (.ref b13), .val (.int (0 : Int32)), .val (.ref b17), .val (.ref b8), .val (.ref b8)]) (hb hby at_159) rfl rfl ?_
        refine o_aload X20 hx (hb hby at_161) rfl rfl ?_
        refine o_aload X20 hx (hb hby at_163) rfl rfl ?_
        refine o_acmp X20 hx 168 true rfl rfl (hb hby at_165) (decide_eq_true rfl) (by decide) (by decide) ?_
        refine o_aload X20 hx (hb hby at_168) rfl rfl ?_
        obtain ⟨cq21, kq21, q21a, q21b, q21c⟩ := isOf hZ e20 p18_0
        obtain ⟨_, _, ⟨T21, L21, kc21, n21⟩, -, X21, ⟨Lc21, hQ21, l21, y21, z21⟩, st21⟩ := X20.virtualBackUp hx (x := yM11) (y := yM10) (owner := "java/lang/Throwable") hown (mvT hZ w97) (mvT hZ w92) (mvT hZ w93) (by decide) (mvT hZ w95) (mvT hZ w94) (backOf (W := 0) (rm_gm l Z a0 hw []  b17 (.ref b8) T18.heap n0 (c19.keep K18 (allS n0_b17 all0)) p18_1 (by first | rfl | assumption | decide | omega)) hZ w96 w45 (by decide) (by decide)) q21a q21c (g := (mkF m 170 #[.val (.int i_), .val (.int j_), .val (.int k_), .val (.ref b1), .val (.ref b4), .val (.ref b8), .val (.ref b13), .val (.int (0 : Int32)), .val (.ref b17), .val (.ref b8), .val (.ref b8)] [(.ref b17)])) rfl (by rw [hml]; rfl) (Steps.refl _) (argsL := []) (rest := []) (lenOf own_pd6 rfl) rfl (by show 2 * 0 + _ ≤ _; exact Nat.le_of_eq rfl) (hb hby at_170) (fun _ _ => ⟨rfl, e20, (by decide : 8 + 0 ≤ _), (by decide : 2775 + 0 ≤ _)⟩)
        dsimp only [Pt.U, Pt.locs, Pt.cells, Pt.slots] at X21 l21 y21 z21 st21 hQ21
        subst l21 y21 z21
        obtain ⟨rfl, Nq21, e21⟩ := hQ21
        have N21 := Fr.app N20 Nq21
        refine otr (S' := T21.setTop (mkF m 173 #[.val (.int i_), .val (.int j_), .val (.int k_), .val (.ref b1), .val (.ref b4), .val (.ref b8), .val (.ref b13), .val (.int (0 : Int32)), .val (.ref b17), .val (.ref b8), .val (.ref b8)] [(.ref b8)])) st21 ?_
        refine o_aload X21 hx (hb hby at_173) rfl rfl ?_
        refine o_acmp X21 hx 178 true rfl rfl (hb hby at_175) (decide_eq_true rfl) (by decide) (by decide) ?_
        refine o_iconst X21 hx (1 : Int32) (hb hby at_178) rfl ?_
        refine o_goto X21 hx 183 (hb hby at_179) (by decide) (by decide) ?_
        refine oend X21 hlk (v := some (.int (1 : Int32))) (fun h => by rw [hret] at h; cases h) (fun fs hr => retN X21 hx (t := .boolean) hret (by simp) (hb hby at_183) hr) (by decide) (by decide) ?_
        show own_Q_law Z _ _ _ _ _ _ _ h0 n0 _ T21.heap _
        rw [e21]
        exact ⟨rfl, N21, (((((((((((((Keep.refl h0 []).ext E1).wr W2 (Or.inr (Nat.le_trans (Nat.le_refl _) (Nat.le_of_eq g1.symm)))).wr W3 (Or.inr (Nat.le_trans (Nat.le_refl _) (Nat.le_of_eq g1.symm)))).ext E4).wr W5 (Or.inr (Nat.le_trans (Nat.le_trans (Nat.le_trans E1.1 (Keep.of_wr W2).1) (Keep.of_wr W3).1) (Nat.le_of_eq g4.symm)))).wr W6 (Or.inr (Nat.le_trans (Nat.le_trans (Nat.le_trans E1.1 (Keep.of_wr W2).1) (Keep.of_wr W3).1) (Nat.le_of_eq g4.symm)))).ext E8).trans K9 (allS (Or.inr (Nat.le_trans (Nat.le_trans (Nat.le_trans (Nat.le_trans (Nat.le_trans (Nat.le_trans E1.1 (Keep.of_wr W2).1) (Keep.of_wr W3).1) E4.1) (Keep.of_wr W5).1) (Keep.of_wr W6).1) (Nat.le_of_eq g8.symm))) all0)).ext E13).trans K14 (allS (Or.inr (Nat.le_trans (Nat.le_trans (Nat.le_trans (Nat.le_trans (Nat.le_trans (Nat.le_trans (Nat.le_trans (Nat.le_trans E1.1 (Keep.of_wr W2).1) (Keep.of_wr W3).1) E4.1) (Keep.of_wr W5).1) (Keep.of_wr W6).1) E8.1) K9.1) (Nat.le_of_eq g13.symm))) all0)).ext E17).trans K18 (allS (Or.inr (Nat.le_trans (Nat.le_trans (Nat.le_trans (Nat.le_trans (Nat.le_trans (Nat.le_trans (Nat.le_trans (Nat.le_trans (Nat.le_trans (Nat.le_trans E1.1 (Keep.of_wr W2).1) (Keep.of_wr W3).1) E4.1) (Keep.of_wr W5).1) (Keep.of_wr W6).1) E8.1) K9.1) E13.1) K14.1) (Nat.le_of_eq g17.symm))) all0))⟩
      · refine o_ifNo X14 hx (hb hby at_95) (feq hc16).1 ?_
        refine o_iconst X14 hx (1 : Int32) (hb hby at_98) rfl ?_
        refine o_goto X14 hx 103 (hb hby at_99) (by decide) (by decide) ?_
        refine o_istore X14 hx (l' := #[.val (.int i_), .val (.int j_), .val (.int k_), .val (.ref b1), .val (.ref b4), .val (.ref b8), .val (.ref b13), .val (.int (1 : Int32)), .unset, .unset, .unset]) (hb hby at_103) rfl ?_
        refine o_iload X14 hx (hb hby at_105) rfl ?_
        refine o_ifNo X14 hx (hb hby at_107) (feq (by decide : ¬ ((1 : Int32) = (0 : Int32)))).1 ?_
        obtain ⟨T22, _, X22, rfl, E22, A22, D22, U22, st22⟩ := newO X14 hx hZ hown w30 w31 w32 rfl (g := (mkF m 110 #[.val (.int i_), .val (.int j_), .val (.int k_), .val (.ref b1), .val (.ref b4), .val (.ref b8), .val (.ref b13), .val (.int (1 : Int32)), .unset, .unset, .unset] [])) rfl (hb hby at_110) (by decide) (by decide)
        obtain ⟨b22, g22⟩ : ∃ z, z = T14.heap.size := ⟨_, rfl⟩
        rw [← g22] at A22 D22 U22 st22
        have n0_b22 : n0 ≤ b22 := Nat.le_trans (Nat.le_trans (Nat.le_of_eq O0.1.symm) O0.2.1) (Nat.le_trans (Nat.le_trans (Nat.le_trans (Nat.le_trans (Nat.le_trans (Nat.le_trans (Nat.le_trans (Nat.le_trans (Nat.le_trans (Nat.le_trans E1.1 (Keep.of_wr W2).1) (Keep.of_wr W3).1) E4.1) (Keep.of_wr W5).1) (Keep.of_wr W6).1) E8.1) K9.1) E13.1) K14.1) (Nat.le_of_eq g22.symm))
        have UN22 : Unt T22.heap b22 := U22
        have F22_cause : Fld Z T22.heap b22 "java/lang/Throwable" "cause" "Ljava/lang/Throwable;" .null := D22 (Or.inl w49) (ty := (.object "java/lang/Throwable")) (by decide)
        have F22_stackTrace : Fld Z T22.heap b22 "java/lang/Throwable" "stackTrace" "[Ljava/lang/StackTraceElement;" .null := D22 (Or.inl w52) (ty := (.array (.object "java/lang/StackTraceElement"))) (by decide)
        have F22_suppressedExceptions : Fld Z T22.heap b22 "java/lang/Throwable" "suppressedExceptions" "Ljava/util/List;" .null := D22 (Or.inl w55) (ty := (.object "java/util/List")) (by decide)
        have F22_detailMessage : Fld Z T22.heap b22 "java/lang/Throwable" "detailMessage" "Ljava/lang/String;" .null := D22 (Or.inl w79) (ty := (.object "java/lang/String")) (by decide)
        have F22_backtrace : Fld Z T22.heap b22 "java/lang/Throwable" "backtrace" "Ljava/lang/Object;" .null := D22 (Or.inl w80) (ty := (.object "java/lang/Object")) (by decide)
        have F22_depth : Fld Z T22.heap b22 "java/lang/Throwable" "depth" "I" (.int (0 : Int32)) := D22 (Or.inl w81) (ty := .int) (by decide)
        have F22_userMessage : Fld Z T22.heap b22 "com/example/reliquary/reliquary/UserException" "userMessage" "Ljava/lang/String;" .null := D22 (Or.inr w85) (ty := (.object "java/lang/String")) (by decide)
        refine ogo (S' := T22.setTop (mkF m 113 #[.val (.int i_), .val (.int j_), .val (.int k_), .val (.ref b1), .val (.ref b4), .val (.ref b8), .val (.ref b13), .val (.int (1 : Int32)), .unset, .unset, .unset] [(.ref b22)])) st22 ?_
        refine o_dup X22 hx (hb hby at_113) rfl ?_
        refine o_aload X22 hx (hb hby at_114) rfl rfl ?_
        refine o_aload X22 hx (hb hby at_116) rfl rfl ?_
        have c24 := ((((c10.keep K9 (allS n0_b8 all0)).ext E13).keep K14 (allS n0_b13 all0)).ext E22)
        obtain ⟨_, _, ⟨T23, L23, kc23, n23⟩, -, X23, ⟨Lc23, hQ23, l23, y23, z23⟩, st23⟩ := X22.specialBack hx (y := yM9) rfl hown (mvT hZ w98) (mvT hZ w99) (mvT hZ w100) (by decide) (backOfKL (W := 1) (rm_ue2 l Z a0 hw [] z_CS v_FMT s_US s_SS b22 (.ref b8) (.ref b13) T22.heap n0 SB c24 A22 F22_cause F22_stackTrace F22_suppressedExceptions F22_backtrace F22_detailMessage F22_userMessage n0_b22 UN22 pr0 (by first | rfl | assumption | decide | omega) (by first | rfl | assumption | decide | omega) (by first | rfl | assumption | decide | omega) (by first | rfl | assumption | decide | omega)) hZ w100 w32 (by decide) (by decide) hTK hBelow) (g := (mkF m 118 #[.val (.int i_), .val (.int j_), .val (.int k_), .val (.ref b1), .val (.ref b4), .val (.ref b8), .val (.ref b13), .val (.int (1 : Int32)), .unset, .unset, .unset] [(.ref b13), (.ref b8), (.ref b22), (.ref b22)])) rfl (by rw [hml]; rfl) (Steps.refl _) (a := b22) (argsL := [(.ref b8), (.ref b13)]) (rest := [(.ref b22)]) (lenOf own_pd8 rfl) rfl (by show 2 * 0 + _ ≤ _; exact Nat.le_of_eq rfl) (hb hby at_118) (fun _ _ => ⟨rfl, rfl, (by decide : 7 + 1 ≤ _), (by decide : 23 + 2752 ≤ _)⟩)
        dsimp only [Pt.U, Pt.locs, Pt.cells, Pt.slots] at X23 l23 y23 z23 st23 hQ23
        subst l23 y23 z23
        obtain ⟨rfl, Nq23, K23, p23_0, p23_1, p23_2⟩ := hQ23
        have N23 := Fr.app N14 Nq23
        refine otr (S' := T23.setTop (mkF m 121 #[.val (.int i_), .val (.int j_), .val (.int k_), .val (.ref b1), .val (.ref b4), .val (.ref b8), .val (.ref b13), .val (.int (1 : Int32)), .unset, .unset, .unset] [(.ref b22)])) st23 ?_
        refine o_goto X23 hx 133 (hb hby at_121) (by decide) (by decide) ?_
        refine o_astore X23 hx (l' := #[.val (.int i_), .val (.int j_), .val (.int k_), .val (.ref b1), .val (.ref b4), .val (.ref b8), .val (.ref b13), .val (.int (1 : Int32)), .val (.ref b22), .unset, .unset]) (hb hby at_133) rfl rfl ?_
        refine o_iload X23 hx (hb hby at_135) rfl ?_
        refine o_ifNo X23 hx (hb hby at_137) (feq (by decide : ¬ ((1 : Int32) = (0 : Int32)))).1 ?_
        refine o_aload X23 hx (hb hby at_140) rfl rfl ?_
        refine o_ifnullNo X23 hx (hb hby at_142) ?_
        refine o_aload X23 hx (hb hby at_145) rfl rfl ?_
        refine o_goto X23 hx 152 (hb hby at_147) (by decide) (by decide) ?_
        refine o_astore X23 hx (l' := #[.val (.int i_), .val (.int j_), .val (.int k_), .val (.ref b1), .val (.ref b4), .val (.ref b8), .val (.ref b13), .val (.int (1 : Int32)), .val (.ref b22), .val (.ref b13), .unset]) (hb hby at_152) rfl rfl ?_
        refine o_aload X23 hx (hb hby at_154) rfl rfl ?_
        obtain ⟨cq25, kq25, q25a, q25b, q25c⟩ := isOf hZ rfl p23_0
        obtain ⟨_, _, ⟨T25, L25, kc25, n25⟩, -, X25, ⟨Lc25, hQ25, l25, y25, z25⟩, st25⟩ := X23.virtualBack hx (y := yM12) (z := yM12) hown (mvT hZ w86) (mvT hZ w87) (notFace_of_selects (args := #[]) (mvT hZ w89)) (mvT hZ w89) (mvT hZ w88) (by decide) (backOf (W := 0) (rm_umR l Z a0 hw []  b22 b13 T23.heap n0 (c24.keep K23 (allS n0_b22 all0)) p23_2) hZ w90 w32 (by decide) (by decide)) q25a q25c (g := (mkF m 156 #[.val (.int i_), .val (.int j_), .val (.int k_), .val (.ref b1), .val (.ref b4), .val (.ref b8), .val (.ref b13), .val (.int (1 : Int32)), .val (.ref b22), .val (.ref b13), .unset] [(.ref b22)])) rfl (by rw [hml]; rfl) (Steps.refl _) (argsL := []) (rest := []) (lenOf own_pd6 rfl) rfl (by show 2 * 0 + _ ≤ _; exact Nat.le_of_eq rfl) (hb hby at_156) (fun _ _ => ⟨rfl, rfl, (by decide : 8 + 0 ≤ _), (by decide : 2775 + 0 ≤ _)⟩)
        dsimp only [Pt.U, Pt.locs, Pt.cells, Pt.slots] at X25 l25 y25 z25 st25 hQ25
        subst l25 y25 z25
        obtain ⟨rfl, Nq25, e25⟩ := hQ25
        have N25 := Fr.app N23 Nq25
        refine otr (S' := T25.setTop (mkF m 159 #[.val (.int i_), .val (.int j_), .val (.int k_), .val (.ref b1), .val (.ref b4), .val (.ref b8), .val (.ref b13), .val (.int (1 : Int32)), .val (.ref b22), .val (.ref b13), .unset] [(.ref b13)])) st25 ?_
        refine o_astore X25 hx (l' := #[.val (.int i_), .val (.int j_), .val (.int k_), .val (.ref b1), .val (.ref b4), .val (.ref b8), .val (.ref b13), .val (.int (1 : Int32)), .val (.ref b22), .val (.ref b13), .val (.ref b13)]) (hb hby at_159) rfl rfl ?_
        refine o_aload X25 hx (hb hby at_161) rfl rfl ?_
        refine o_aload X25 hx (hb hby at_163) rfl rfl ?_
        refine o_acmp X25 hx 168 true rfl rfl (hb hby at_165) (decide_eq_true rfl) (by decide) (by decide) ?_
        refine o_aload X25 hx (hb hby at_168) rfl rfl ?_
        obtain ⟨cq26, kq26, q26a, q26b, q26c⟩ := isOf hZ e25 p23_0
        obtain ⟨_, _, ⟨T26, L26, kc26, n26⟩, -, X26, ⟨Lc26, hQ26, l26, y26, z26⟩, st26⟩ := X25.virtualBackUp hx (x := yM11) (y := yM10) (owner := "java/lang/Throwable") hown (mvT hZ w97) (mvT hZ w92) (mvT hZ w93) (by decide) (mvT hZ w95) (mvT hZ w94) (backOf (W := 0) (rm_gm l Z a0 hw []  b22 (.ref b8) T23.heap n0 (c24.keep K23 (allS n0_b22 all0)) p23_1 (by first | rfl | assumption | decide | omega)) hZ w96 w45 (by decide) (by decide)) q26a q26c (g := (mkF m 170 #[.val (.int i_), .val (.int j_), .val (.int k_), .val (.ref b1), .val (.ref b4), .val (.ref b8), .val (.ref b13), .val (.int (1 : Int32)), .val (.ref b22), .val (.ref b13), .val (.ref b13)] [(.ref b22)])) rfl (by rw [hml]; rfl) (Steps.refl _) (argsL := []) (rest := []) (lenOf own_pd6 rfl) rfl (by show 2 * 0 + _ ≤ _; exact Nat.le_of_eq rfl) (hb hby at_170) (fun _ _ => ⟨rfl, e25, (by decide : 8 + 0 ≤ _), (by decide : 2775 + 0 ≤ _)⟩)
        dsimp only [Pt.U, Pt.locs, Pt.cells, Pt.slots] at X26 l26 y26 z26 st26 hQ26
        subst l26 y26 z26
        obtain ⟨rfl, Nq26, e26⟩ := hQ26
        have N26 := Fr.app N25 Nq26
        refine otr (S' := T26.setTop (mkF m 173 #[.val (.int i_), .val (.int j_), .val (.int k_), .val (.ref b1), .val (.ref b4), .val (.ref b8), .val (.ref b13), .val (.int (1 : Int32)), .val (.ref b22), .val (.ref b13), .val (.ref b13)] [(.ref b8)])) st26 ?_
        refine o_aload X26 hx (hb hby at_173) rfl rfl ?_
        refine o_acmp X26 hx 178 true rfl rfl (hb hby at_175) (decide_eq_true rfl) (by decide) (by decide) ?_
        refine o_iconst X26 hx (1 : Int32) (hb hby at_178) rfl ?_
        refine o_goto X26 hx 183 (hb hby at_179) (by decide) (by decide) ?_
        refine oend X26 hlk (v := some (.int (1 : Int32))) (fun h => by rw [hret] at h; cases h) (fun fs hr => retN X26 hx (t := .boolean) hret (by simp) (hb hby at_183) hr) (by decide) (by decide) ?_
        show own_Q_law Z _ _ _ _ _ _ _ h0 n0 _ T26.heap _
        rw [e26]
        exact ⟨rfl, N26, (((((((((((((Keep.refl h0 []).ext E1).wr W2 (Or.inr (Nat.le_trans (Nat.le_refl _) (Nat.le_of_eq g1.symm)))).wr W3 (Or.inr (Nat.le_trans (Nat.le_refl _) (Nat.le_of_eq g1.symm)))).ext E4).wr W5 (Or.inr (Nat.le_trans (Nat.le_trans (Nat.le_trans E1.1 (Keep.of_wr W2).1) (Keep.of_wr W3).1) (Nat.le_of_eq g4.symm)))).wr W6 (Or.inr (Nat.le_trans (Nat.le_trans (Nat.le_trans E1.1 (Keep.of_wr W2).1) (Keep.of_wr W3).1) (Nat.le_of_eq g4.symm)))).ext E8).trans K9 (allS (Or.inr (Nat.le_trans (Nat.le_trans (Nat.le_trans (Nat.le_trans (Nat.le_trans (Nat.le_trans E1.1 (Keep.of_wr W2).1) (Keep.of_wr W3).1) E4.1) (Keep.of_wr W5).1) (Keep.of_wr W6).1) (Nat.le_of_eq g8.symm))) all0)).ext E13).trans K14 (allS (Or.inr (Nat.le_trans (Nat.le_trans (Nat.le_trans (Nat.le_trans (Nat.le_trans (Nat.le_trans (Nat.le_trans (Nat.le_trans E1.1 (Keep.of_wr W2).1) (Keep.of_wr W3).1) E4.1) (Keep.of_wr W5).1) (Keep.of_wr W6).1) E8.1) K9.1) (Nat.le_of_eq g13.symm))) all0)).ext E22).trans K23 (allS (Or.inr (Nat.le_trans (Nat.le_trans (Nat.le_trans (Nat.le_trans (Nat.le_trans (Nat.le_trans (Nat.le_trans (Nat.le_trans (Nat.le_trans (Nat.le_trans E1.1 (Keep.of_wr W2).1) (Keep.of_wr W3).1) E4.1) (Keep.of_wr W5).1) (Keep.of_wr W6).1) E8.1) K9.1) E13.1) K14.1) (Nat.le_of_eq g22.symm))) all0))⟩
    · refine o_ifNo X9 hx (hb hby at_74) (feq hc12).1 ?_
      refine o_aconst_null X9 hx (hb hby at_77) ?_
      refine o_goto X9 hx 90 (hb hby at_78) (by decide) (by decide) ?_
      refine o_astore X9 hx (l' := #[.val (.int i_), .val (.int j_), .val (.int k_), .val (.ref b1), .val (.ref b4), .val (.ref b8), .val .null, .unset, .unset, .unset, .unset]) (hb hby at_90) rfl rfl ?_
      refine o_iloadN X9 hx (hb hby at_92) rfl ?_
      refine o_iconst X9 hx (1 : Int32) (hb hby at_93) rfl ?_
      refine o_iand X9 hx (hb hby at_94) ?_
      by_cases hc27 : (k_ &&& (1 : Int32)) = (0 : Int32)
      · refine o_ifYes X9 hx 102 (hb hby at_95) (teq hc27).1 (by decide) (by decide) ?_
        refine o_iconst X9 hx (0 : Int32) (hb hby at_102) rfl ?_
        refine o_istore X9 hx (l' := #[.val (.int i_), .val (.int j_), .val (.int k_), .val (.ref b1), .val (.ref b4), .val (.ref b8), .val .null, .val (.int (0 : Int32)), .unset, .unset, .unset]) (hb hby at_103) rfl ?_
        refine o_iload X9 hx (hb hby at_105) rfl ?_
        refine o_ifYes X9 hx 124 (hb hby at_107) (teq (by decide : (0 : Int32) = (0 : Int32))).1 (by decide) (by decide) ?_
        obtain ⟨T28, _, X28, rfl, E28, A28, D28, U28, st28⟩ := newO X9 hx hZ hown w30 w31 w32 rfl (g := (mkF m 124 #[.val (.int i_), .val (.int j_), .val (.int k_), .val (.ref b1), .val (.ref b4), .val (.ref b8), .val .null, .val (.int (0 : Int32)), .unset, .unset, .unset] [])) rfl (hb hby at_124) (by decide) (by decide)
        obtain ⟨b28, g28⟩ : ∃ z, z = T9.heap.size := ⟨_, rfl⟩
        rw [← g28] at A28 D28 U28 st28
        have n0_b28 : n0 ≤ b28 := Nat.le_trans (Nat.le_trans (Nat.le_of_eq O0.1.symm) O0.2.1) (Nat.le_trans (Nat.le_trans (Nat.le_trans (Nat.le_trans (Nat.le_trans (Nat.le_trans (Nat.le_trans (Nat.le_trans E1.1 (Keep.of_wr W2).1) (Keep.of_wr W3).1) E4.1) (Keep.of_wr W5).1) (Keep.of_wr W6).1) E8.1) K9.1) (Nat.le_of_eq g28.symm))
        have UN28 : Unt T28.heap b28 := U28
        have F28_cause : Fld Z T28.heap b28 "java/lang/Throwable" "cause" "Ljava/lang/Throwable;" .null := D28 (Or.inl w49) (ty := (.object "java/lang/Throwable")) (by decide)
        have F28_stackTrace : Fld Z T28.heap b28 "java/lang/Throwable" "stackTrace" "[Ljava/lang/StackTraceElement;" .null := D28 (Or.inl w52) (ty := (.array (.object "java/lang/StackTraceElement"))) (by decide)
        have F28_suppressedExceptions : Fld Z T28.heap b28 "java/lang/Throwable" "suppressedExceptions" "Ljava/util/List;" .null := D28 (Or.inl w55) (ty := (.object "java/util/List")) (by decide)
        have F28_detailMessage : Fld Z T28.heap b28 "java/lang/Throwable" "detailMessage" "Ljava/lang/String;" .null := D28 (Or.inl w79) (ty := (.object "java/lang/String")) (by decide)
        have F28_backtrace : Fld Z T28.heap b28 "java/lang/Throwable" "backtrace" "Ljava/lang/Object;" .null := D28 (Or.inl w80) (ty := (.object "java/lang/Object")) (by decide)
        have F28_depth : Fld Z T28.heap b28 "java/lang/Throwable" "depth" "I" (.int (0 : Int32)) := D28 (Or.inl w81) (ty := .int) (by decide)
        have F28_userMessage : Fld Z T28.heap b28 "com/example/reliquary/reliquary/UserException" "userMessage" "Ljava/lang/String;" .null := D28 (Or.inr w85) (ty := (.object "java/lang/String")) (by decide)
        refine ogo (S' := T28.setTop (mkF m 127 #[.val (.int i_), .val (.int j_), .val (.int k_), .val (.ref b1), .val (.ref b4), .val (.ref b8), .val .null, .val (.int (0 : Int32)), .unset, .unset, .unset] [(.ref b28)])) st28 ?_
        refine o_dup X28 hx (hb hby at_127) rfl ?_
        refine o_aload X28 hx (hb hby at_128) rfl rfl ?_
        obtain ⟨_, _, ⟨T29, L29, kc29, n29⟩, -, X29, ⟨Lc29, hQ29, l29, y29, z29⟩, st29⟩ := X28.specialBack hx (y := yM8) rfl hown (mvT hZ w33) (mvT hZ w34) (mvT hZ w35) (by decide) (backOfKL (W := 1) (rm_ue1 l Z a0 hw [] z_CS v_FMT s_US s_SS b28 (.ref b8) T28.heap n0 SB ((c10.keep K9 (allS n0_b8 all0)).ext E28) A28 F28_cause F28_stackTrace F28_suppressedExceptions F28_backtrace F28_detailMessage F28_userMessage n0_b28 UN28 pr0 (by first | rfl | assumption | decide | omega) (by first | rfl | assumption | decide | omega)) hZ w35 w32 (by decide) (by decide) hTK hBelow) (g := (mkF m 130 #[.val (.int i_), .val (.int j_), .val (.int k_), .val (.ref b1), .val (.ref b4), .val (.ref b8), .val .null, .val (.int (0 : Int32)), .unset, .unset, .unset] [(.ref b8), (.ref b28), (.ref b28)])) rfl (by rw [hml]; rfl) (Steps.refl _) (a := b28) (argsL := [(.ref b8)]) (rest := [(.ref b28)]) (lenOf own_pd5 rfl) rfl (by show 2 * 0 + _ ≤ _; exact Nat.le_of_eq rfl) (hb hby at_130) (fun _ _ => ⟨rfl, rfl, (by decide : 5 + 1 ≤ _), (by decide : 17 + 2752 ≤ _)⟩)
        dsimp only [Pt.U, Pt.locs, Pt.cells, Pt.slots] at X29 l29 y29 z29 st29 hQ29
        subst l29 y29 z29
        obtain ⟨rfl, Nq29, K29, p29_0, p29_1, p29_2⟩ := hQ29
        have N29 := Fr.app N9 Nq29
        refine otr (S' := T29.setTop (mkF m 133 #[.val (.int i_), .val (.int j_), .val (.int k_), .val (.ref b1), .val (.ref b4), .val (.ref b8), .val .null, .val (.int (0 : Int32)), .unset, .unset, .unset] [(.ref b28)])) st29 ?_
        refine o_astore X29 hx (l' := #[.val (.int i_), .val (.int j_), .val (.int k_), .val (.ref b1), .val (.ref b4), .val (.ref b8), .val .null, .val (.int (0 : Int32)), .val (.ref b28), .unset, .unset]) (hb hby at_133) rfl rfl ?_
        refine o_iload X29 hx (hb hby at_135) rfl ?_
        refine o_ifYes X29 hx 150 (hb hby at_137) (teq (by decide : (0 : Int32) = (0 : Int32))).1 (by decide) (by decide) ?_
        refine o_aload X29 hx (hb hby at_150) rfl rfl ?_
        refine o_astore X29 hx (l' := #[.val (.int i_), .val (.int j_), .val (.int k_), .val (.ref b1), .val (.ref b4), .val (.ref b8), .val .null, .val (.int (0 : Int32)), .val (.ref b28), .val (.ref b8), .unset]) (hb hby at_152) rfl rfl ?_
        refine o_aload X29 hx (hb hby at_154) rfl rfl ?_
        have c31 := (((c10.keep K9 (allS n0_b8 all0)).ext E28).keep K29 (allS n0_b28 all0))
        obtain ⟨cq30, kq30, q30a, q30b, q30c⟩ := isOf hZ rfl p29_0
        obtain ⟨_, _, ⟨T30, L30, kc30, n30⟩, -, X30, ⟨Lc30, hQ30, l30, y30, z30⟩, st30⟩ := X29.virtualBack hx (y := yM12) (z := yM12) hown (mvT hZ w86) (mvT hZ w87) (notFace_of_selects (args := #[]) (mvT hZ w89)) (mvT hZ w89) (mvT hZ w88) (by decide) (backOf (W := 0) (rm_umN l Z a0 hw []  b28 (.ref b8) T29.heap n0 c31 p29_0 p29_1 (by first | rfl | assumption | decide | omega) p29_2) hZ w90 w32 (by decide) (by decide)) q30a q30c (g := (mkF m 156 #[.val (.int i_), .val (.int j_), .val (.int k_), .val (.ref b1), .val (.ref b4), .val (.ref b8), .val .null, .val (.int (0 : Int32)), .val (.ref b28), .val (.ref b8), .unset] [(.ref b28)])) rfl (by rw [hml]; rfl) (Steps.refl _) (argsL := []) (rest := []) (lenOf own_pd6 rfl) rfl (by show 2 * 0 + _ ≤ _; exact Nat.le_of_eq rfl) (hb hby at_156) (fun _ _ => ⟨rfl, rfl, (by decide : 6 + 0 ≤ _), (by decide : 2769 + 0 ≤ _)⟩)
        dsimp only [Pt.U, Pt.locs, Pt.cells, Pt.slots] at X30 l30 y30 z30 st30 hQ30
        subst l30 y30 z30
        obtain ⟨rfl, Nq30, e30⟩ := hQ30
        have N30 := Fr.app N29 Nq30
        refine otr (S' := T30.setTop (mkF m 159 #[.val (.int i_), .val (.int j_), .val (.int k_), .val (.ref b1), .val (.ref b4), .val (.ref b8), .val .null, .val (.int (0 : Int32)), .val (.ref b28), .val (.ref b8), .unset] [(.ref b8)])) st30 ?_
        refine o_astore X30 hx (l' := #[.val (.int i_), .val (.int j_), .val (.int k_), .val (.ref b1), .val (.ref b4), .val (.ref b8), .val .null, .val (.int (0 : Int32)), .val (.ref b28), .val (.ref b8), .val (.ref b8)]) (hb hby at_159) rfl rfl ?_
        refine o_aload X30 hx (hb hby at_161) rfl rfl ?_
        refine o_aload X30 hx (hb hby at_163) rfl rfl ?_
        refine o_acmp X30 hx 168 true rfl rfl (hb hby at_165) (decide_eq_true rfl) (by decide) (by decide) ?_
        refine o_aload X30 hx (hb hby at_168) rfl rfl ?_
        obtain ⟨cq32, kq32, q32a, q32b, q32c⟩ := isOf hZ e30 p29_0
        obtain ⟨_, _, ⟨T32, L32, kc32, n32⟩, -, X32, ⟨Lc32, hQ32, l32, y32, z32⟩, st32⟩ := X30.virtualBackUp hx (x := yM11) (y := yM10) (owner := "java/lang/Throwable") hown (mvT hZ w97) (mvT hZ w92) (mvT hZ w93) (by decide) (mvT hZ w95) (mvT hZ w94) (backOf (W := 0) (rm_gm l Z a0 hw []  b28 (.ref b8) T29.heap n0 c31 p29_1 (by first | rfl | assumption | decide | omega)) hZ w96 w45 (by decide) (by decide)) q32a q32c (g := (mkF m 170 #[.val (.int i_), .val (.int j_), .val (.int k_), .val (.ref b1), .val (.ref b4), .val (.ref b8), .val .null, .val (.int (0 : Int32)), .val (.ref b28), .val (.ref b8), .val (.ref b8)] [(.ref b28)])) rfl (by rw [hml]; rfl) (Steps.refl _) (argsL := []) (rest := []) (lenOf own_pd6 rfl) rfl (by show 2 * 0 + _ ≤ _; exact Nat.le_of_eq rfl) (hb hby at_170) (fun _ _ => ⟨rfl, e30, (by decide : 6 + 0 ≤ _), (by decide : 2769 + 0 ≤ _)⟩)
        dsimp only [Pt.U, Pt.locs, Pt.cells, Pt.slots] at X32 l32 y32 z32 st32 hQ32
        subst l32 y32 z32
        obtain ⟨rfl, Nq32, e32⟩ := hQ32
        have N32 := Fr.app N30 Nq32
        refine otr (S' := T32.setTop (mkF m 173 #[.val (.int i_), .val (.int j_), .val (.int k_), .val (.ref b1), .val (.ref b4), .val (.ref b8), .val .null, .val (.int (0 : Int32)), .val (.ref b28), .val (.ref b8), .val (.ref b8)] [(.ref b8)])) st32 ?_
        refine o_aload X32 hx (hb hby at_173) rfl rfl ?_
        refine o_acmp X32 hx 178 true rfl rfl (hb hby at_175) (decide_eq_true rfl) (by decide) (by decide) ?_
        refine o_iconst X32 hx (1 : Int32) (hb hby at_178) rfl ?_
        refine o_goto X32 hx 183 (hb hby at_179) (by decide) (by decide) ?_
        refine oend X32 hlk (v := some (.int (1 : Int32))) (fun h => by rw [hret] at h; cases h) (fun fs hr => retN X32 hx (t := .boolean) hret (by simp) (hb hby at_183) hr) (by decide) (by decide) ?_
        show own_Q_law Z _ _ _ _ _ _ _ h0 n0 _ T32.heap _
        rw [e32]
        exact ⟨rfl, N32, (((((((((((Keep.refl h0 []).ext E1).wr W2 (Or.inr (Nat.le_trans (Nat.le_refl _) (Nat.le_of_eq g1.symm)))).wr W3 (Or.inr (Nat.le_trans (Nat.le_refl _) (Nat.le_of_eq g1.symm)))).ext E4).wr W5 (Or.inr (Nat.le_trans (Nat.le_trans (Nat.le_trans E1.1 (Keep.of_wr W2).1) (Keep.of_wr W3).1) (Nat.le_of_eq g4.symm)))).wr W6 (Or.inr (Nat.le_trans (Nat.le_trans (Nat.le_trans E1.1 (Keep.of_wr W2).1) (Keep.of_wr W3).1) (Nat.le_of_eq g4.symm)))).ext E8).trans K9 (allS (Or.inr (Nat.le_trans (Nat.le_trans (Nat.le_trans (Nat.le_trans (Nat.le_trans (Nat.le_trans E1.1 (Keep.of_wr W2).1) (Keep.of_wr W3).1) E4.1) (Keep.of_wr W5).1) (Keep.of_wr W6).1) (Nat.le_of_eq g8.symm))) all0)).ext E28).trans K29 (allS (Or.inr (Nat.le_trans (Nat.le_trans (Nat.le_trans (Nat.le_trans (Nat.le_trans (Nat.le_trans (Nat.le_trans (Nat.le_trans E1.1 (Keep.of_wr W2).1) (Keep.of_wr W3).1) E4.1) (Keep.of_wr W5).1) (Keep.of_wr W6).1) E8.1) K9.1) (Nat.le_of_eq g28.symm))) all0))⟩
      · refine o_ifNo X9 hx (hb hby at_95) (feq hc27).1 ?_
        refine o_iconst X9 hx (1 : Int32) (hb hby at_98) rfl ?_
        refine o_goto X9 hx 103 (hb hby at_99) (by decide) (by decide) ?_
        refine o_istore X9 hx (l' := #[.val (.int i_), .val (.int j_), .val (.int k_), .val (.ref b1), .val (.ref b4), .val (.ref b8), .val .null, .val (.int (1 : Int32)), .unset, .unset, .unset]) (hb hby at_103) rfl ?_
        refine o_iload X9 hx (hb hby at_105) rfl ?_
        refine o_ifNo X9 hx (hb hby at_107) (feq (by decide : ¬ ((1 : Int32) = (0 : Int32)))).1 ?_
        obtain ⟨T33, _, X33, rfl, E33, A33, D33, U33, st33⟩ := newO X9 hx hZ hown w30 w31 w32 rfl (g := (mkF m 110 #[.val (.int i_), .val (.int j_), .val (.int k_), .val (.ref b1), .val (.ref b4), .val (.ref b8), .val .null, .val (.int (1 : Int32)), .unset, .unset, .unset] [])) rfl (hb hby at_110) (by decide) (by decide)
        obtain ⟨b33, g33⟩ : ∃ z, z = T9.heap.size := ⟨_, rfl⟩
        rw [← g33] at A33 D33 U33 st33
        have n0_b33 : n0 ≤ b33 := Nat.le_trans (Nat.le_trans (Nat.le_of_eq O0.1.symm) O0.2.1) (Nat.le_trans (Nat.le_trans (Nat.le_trans (Nat.le_trans (Nat.le_trans (Nat.le_trans (Nat.le_trans (Nat.le_trans E1.1 (Keep.of_wr W2).1) (Keep.of_wr W3).1) E4.1) (Keep.of_wr W5).1) (Keep.of_wr W6).1) E8.1) K9.1) (Nat.le_of_eq g33.symm))
        have UN33 : Unt T33.heap b33 := U33
        have F33_cause : Fld Z T33.heap b33 "java/lang/Throwable" "cause" "Ljava/lang/Throwable;" .null := D33 (Or.inl w49) (ty := (.object "java/lang/Throwable")) (by decide)
        have F33_stackTrace : Fld Z T33.heap b33 "java/lang/Throwable" "stackTrace" "[Ljava/lang/StackTraceElement;" .null := D33 (Or.inl w52) (ty := (.array (.object "java/lang/StackTraceElement"))) (by decide)
        have F33_suppressedExceptions : Fld Z T33.heap b33 "java/lang/Throwable" "suppressedExceptions" "Ljava/util/List;" .null := D33 (Or.inl w55) (ty := (.object "java/util/List")) (by decide)
        have F33_detailMessage : Fld Z T33.heap b33 "java/lang/Throwable" "detailMessage" "Ljava/lang/String;" .null := D33 (Or.inl w79) (ty := (.object "java/lang/String")) (by decide)
        have F33_backtrace : Fld Z T33.heap b33 "java/lang/Throwable" "backtrace" "Ljava/lang/Object;" .null := D33 (Or.inl w80) (ty := (.object "java/lang/Object")) (by decide)
        have F33_depth : Fld Z T33.heap b33 "java/lang/Throwable" "depth" "I" (.int (0 : Int32)) := D33 (Or.inl w81) (ty := .int) (by decide)
        have F33_userMessage : Fld Z T33.heap b33 "com/example/reliquary/reliquary/UserException" "userMessage" "Ljava/lang/String;" .null := D33 (Or.inr w85) (ty := (.object "java/lang/String")) (by decide)
        refine ogo (S' := T33.setTop (mkF m 113 #[.val (.int i_), .val (.int j_), .val (.int k_), .val (.ref b1), .val (.ref b4), .val (.ref b8), .val .null, .val (.int (1 : Int32)), .unset, .unset, .unset] [(.ref b33)])) st33 ?_
        refine o_dup X33 hx (hb hby at_113) rfl ?_
        refine o_aload X33 hx (hb hby at_114) rfl rfl ?_
        refine o_aload X33 hx (hb hby at_116) rfl rfl ?_
        obtain ⟨_, _, ⟨T34, L34, kc34, n34⟩, -, X34, ⟨Lc34, hQ34, l34, y34, z34⟩, st34⟩ := X33.specialBack hx (y := yM9) rfl hown (mvT hZ w98) (mvT hZ w99) (mvT hZ w100) (by decide) (backOfKL (W := 1) (rm_ue2 l Z a0 hw [] z_CS v_FMT s_US s_SS b33 (.ref b8) .null T33.heap n0 SB ((c10.keep K9 (allS n0_b8 all0)).ext E33) A33 F33_cause F33_stackTrace F33_suppressedExceptions F33_backtrace F33_detailMessage F33_userMessage n0_b33 UN33 pr0 (by first | rfl | assumption | decide | omega) (by first | rfl | assumption | decide | omega) (by first | rfl | assumption | decide | omega) (by first | rfl | assumption | decide | omega)) hZ w100 w32 (by decide) (by decide) hTK hBelow) (g := (mkF m 118 #[.val (.int i_), .val (.int j_), .val (.int k_), .val (.ref b1), .val (.ref b4), .val (.ref b8), .val .null, .val (.int (1 : Int32)), .unset, .unset, .unset] [.null, (.ref b8), (.ref b33), (.ref b33)])) rfl (by rw [hml]; rfl) (Steps.refl _) (a := b33) (argsL := [(.ref b8), .null]) (rest := [(.ref b33)]) (lenOf own_pd8 rfl) rfl (by show 2 * 0 + _ ≤ _; exact Nat.le_of_eq rfl) (hb hby at_118) (fun _ _ => ⟨rfl, rfl, (by decide : 5 + 1 ≤ _), (by decide : 17 + 2752 ≤ _)⟩)
        dsimp only [Pt.U, Pt.locs, Pt.cells, Pt.slots] at X34 l34 y34 z34 st34 hQ34
        subst l34 y34 z34
        obtain ⟨rfl, Nq34, K34, p34_0, p34_1, p34_2⟩ := hQ34
        have N34 := Fr.app N9 Nq34
        refine otr (S' := T34.setTop (mkF m 121 #[.val (.int i_), .val (.int j_), .val (.int k_), .val (.ref b1), .val (.ref b4), .val (.ref b8), .val .null, .val (.int (1 : Int32)), .unset, .unset, .unset] [(.ref b33)])) st34 ?_
        refine o_goto X34 hx 133 (hb hby at_121) (by decide) (by decide) ?_
        refine o_astore X34 hx (l' := #[.val (.int i_), .val (.int j_), .val (.int k_), .val (.ref b1), .val (.ref b4), .val (.ref b8), .val .null, .val (.int (1 : Int32)), .val (.ref b33), .unset, .unset]) (hb hby at_133) rfl rfl ?_
        refine o_iload X34 hx (hb hby at_135) rfl ?_
        refine o_ifNo X34 hx (hb hby at_137) (feq (by decide : ¬ ((1 : Int32) = (0 : Int32)))).1 ?_
        refine o_aload X34 hx (hb hby at_140) rfl rfl ?_
        refine o_ifnullYes X34 hx 150 (hb hby at_142) (by decide) (by decide) ?_
        refine o_aload X34 hx (hb hby at_150) rfl rfl ?_
        refine o_astore X34 hx (l' := #[.val (.int i_), .val (.int j_), .val (.int k_), .val (.ref b1), .val (.ref b4), .val (.ref b8), .val .null, .val (.int (1 : Int32)), .val (.ref b33), .val (.ref b8), .unset]) (hb hby at_152) rfl rfl ?_
        refine o_aload X34 hx (hb hby at_154) rfl rfl ?_
        have c36 := (((c10.keep K9 (allS n0_b8 all0)).ext E33).keep K34 (allS n0_b33 all0))
        obtain ⟨cq35, kq35, q35a, q35b, q35c⟩ := isOf hZ rfl p34_0
        obtain ⟨_, _, ⟨T35, L35, kc35, n35⟩, -, X35, ⟨Lc35, hQ35, l35, y35, z35⟩, st35⟩ := X34.virtualBack hx (y := yM12) (z := yM12) hown (mvT hZ w86) (mvT hZ w87) (notFace_of_selects (args := #[]) (mvT hZ w89)) (mvT hZ w89) (mvT hZ w88) (by decide) (backOf (W := 0) (rm_umN l Z a0 hw []  b33 (.ref b8) T34.heap n0 c36 p34_0 p34_1 (by first | rfl | assumption | decide | omega) p34_2) hZ w90 w32 (by decide) (by decide)) q35a q35c (g := (mkF m 156 #[.val (.int i_), .val (.int j_), .val (.int k_), .val (.ref b1), .val (.ref b4), .val (.ref b8), .val .null, .val (.int (1 : Int32)), .val (.ref b33), .val (.ref b8), .unset] [(.ref b33)])) rfl (by rw [hml]; rfl) (Steps.refl _) (argsL := []) (rest := []) (lenOf own_pd6 rfl) rfl (by show 2 * 0 + _ ≤ _; exact Nat.le_of_eq rfl) (hb hby at_156) (fun _ _ => ⟨rfl, rfl, (by decide : 6 + 0 ≤ _), (by decide : 2769 + 0 ≤ _)⟩)
        dsimp only [Pt.U, Pt.locs, Pt.cells, Pt.slots] at X35 l35 y35 z35 st35 hQ35
        subst l35 y35 z35
        obtain ⟨rfl, Nq35, e35⟩ := hQ35
        have N35 := Fr.app N34 Nq35
        refine otr (S' := T35.setTop (mkF m 159 #[.val (.int i_), .val (.int j_), .val (.int k_), .val (.ref b1), .val (.ref b4), .val (.ref b8), .val .null, .val (.int (1 : Int32)), .val (.ref b33), .val (.ref b8), .unset] [(.ref b8)])) st35 ?_
        refine o_astore X35 hx (l' := #[.val (.int i_), .val (.int j_), .val (.int k_), .val (.ref b1), .val (.ref b4), .val (.ref b8), .val .null, .val (.int (1 : Int32)), .val (.ref b33), .val (.ref b8), .val (.ref b8)]) (hb hby at_159) rfl rfl ?_
        refine o_aload X35 hx (hb hby at_161) rfl rfl ?_
        refine o_aload X35 hx (hb hby at_163) rfl rfl ?_
        refine o_acmp X35 hx 168 true rfl rfl (hb hby at_165) (decide_eq_true rfl) (by decide) (by decide) ?_
        refine o_aload X35 hx (hb hby at_168) rfl rfl ?_
        obtain ⟨cq37, kq37, q37a, q37b, q37c⟩ := isOf hZ e35 p34_0
        obtain ⟨_, _, ⟨T37, L37, kc37, n37⟩, -, X37, ⟨Lc37, hQ37, l37, y37, z37⟩, st37⟩ := X35.virtualBackUp hx (x := yM11) (y := yM10) (owner := "java/lang/Throwable") hown (mvT hZ w97) (mvT hZ w92) (mvT hZ w93) (by decide) (mvT hZ w95) (mvT hZ w94) (backOf (W := 0) (rm_gm l Z a0 hw []  b33 (.ref b8) T34.heap n0 c36 p34_1 (by first | rfl | assumption | decide | omega)) hZ w96 w45 (by decide) (by decide)) q37a q37c (g := (mkF m 170 #[.val (.int i_), .val (.int j_), .val (.int k_), .val (.ref b1), .val (.ref b4), .val (.ref b8), .val .null, .val (.int (1 : Int32)), .val (.ref b33), .val (.ref b8), .val (.ref b8)] [(.ref b33)])) rfl (by rw [hml]; rfl) (Steps.refl _) (argsL := []) (rest := []) (lenOf own_pd6 rfl) rfl (by show 2 * 0 + _ ≤ _; exact Nat.le_of_eq rfl) (hb hby at_170) (fun _ _ => ⟨rfl, e35, (by decide : 6 + 0 ≤ _), (by decide : 2769 + 0 ≤ _)⟩)
        dsimp only [Pt.U, Pt.locs, Pt.cells, Pt.slots] at X37 l37 y37 z37 st37 hQ37
        subst l37 y37 z37
        obtain ⟨rfl, Nq37, e37⟩ := hQ37
        have N37 := Fr.app N35 Nq37
        refine otr (S' := T37.setTop (mkF m 173 #[.val (.int i_), .val (.int j_), .val (.int k_), .val (.ref b1), .val (.ref b4), .val (.ref b8), .val .null, .val (.int (1 : Int32)), .val (.ref b33), .val (.ref b8), .val (.ref b8)] [(.ref b8)])) st37 ?_
        refine o_aload X37 hx (hb hby at_173) rfl rfl ?_
        refine o_acmp X37 hx 178 true rfl rfl (hb hby at_175) (decide_eq_true rfl) (by decide) (by decide) ?_
        refine o_iconst X37 hx (1 : Int32) (hb hby at_178) rfl ?_
        refine o_goto X37 hx 183 (hb hby at_179) (by decide) (by decide) ?_
        refine oend X37 hlk (v := some (.int (1 : Int32))) (fun h => by rw [hret] at h; cases h) (fun fs hr => retN X37 hx (t := .boolean) hret (by simp) (hb hby at_183) hr) (by decide) (by decide) ?_
        show own_Q_law Z _ _ _ _ _ _ _ h0 n0 _ T37.heap _
        rw [e37]
        exact ⟨rfl, N37, (((((((((((Keep.refl h0 []).ext E1).wr W2 (Or.inr (Nat.le_trans (Nat.le_refl _) (Nat.le_of_eq g1.symm)))).wr W3 (Or.inr (Nat.le_trans (Nat.le_refl _) (Nat.le_of_eq g1.symm)))).ext E4).wr W5 (Or.inr (Nat.le_trans (Nat.le_trans (Nat.le_trans E1.1 (Keep.of_wr W2).1) (Keep.of_wr W3).1) (Nat.le_of_eq g4.symm)))).wr W6 (Or.inr (Nat.le_trans (Nat.le_trans (Nat.le_trans E1.1 (Keep.of_wr W2).1) (Keep.of_wr W3).1) (Nat.le_of_eq g4.symm)))).ext E8).trans K9 (allS (Or.inr (Nat.le_trans (Nat.le_trans (Nat.le_trans (Nat.le_trans (Nat.le_trans (Nat.le_trans E1.1 (Keep.of_wr W2).1) (Keep.of_wr W3).1) E4.1) (Keep.of_wr W5).1) (Keep.of_wr W6).1) (Nat.le_of_eq g8.symm))) all0)).ext E33).trans K34 (allS (Or.inr (Nat.le_trans (Nat.le_trans (Nat.le_trans (Nat.le_trans (Nat.le_trans (Nat.le_trans (Nat.le_trans (Nat.le_trans E1.1 (Keep.of_wr W2).1) (Keep.of_wr W3).1) E4.1) (Keep.of_wr W5).1) (Keep.of_wr W6).1) E8.1) K9.1) (Nat.le_of_eq g33.symm))) all0))⟩
  · refine o_ifNo X6 hx (hb hby at_54) (feq hc7).1 ?_
    refine o_aconst_null X6 hx (hb hby at_57) ?_
    refine o_goto X6 hx 69 (hb hby at_58) (by decide) (by decide) ?_
    refine o_astore X6 hx (l' := #[.val (.int i_), .val (.int j_), .val (.int k_), .val (.ref b1), .val (.ref b4), .val .null, .unset, .unset, .unset, .unset, .unset]) (hb hby at_69) rfl rfl ?_
    refine o_iloadN X6 hx (hb hby at_71) rfl ?_
    refine o_iconst X6 hx (4 : Int32) (hb hby at_72) rfl ?_
    refine o_iand X6 hx (hb hby at_73) ?_
    by_cases hc38 : (k_ &&& (4 : Int32)) = (0 : Int32)
    · refine o_ifYes X6 hx 81 (hb hby at_74) (teq hc38).1 (by decide) (by decide) ?_
      obtain ⟨T39, _, X39, rfl, E39, A39, D39, U39, st39⟩ := newO X6 hx hZ hown w1 w2 w3 rfl (g := (mkF m 81 #[.val (.int i_), .val (.int j_), .val (.int k_), .val (.ref b1), .val (.ref b4), .val .null, .unset, .unset, .unset, .unset, .unset] [])) rfl (hb hby at_81) (by decide) (by decide)
      obtain ⟨b39, g39⟩ : ∃ z, z = T6.heap.size := ⟨_, rfl⟩
      rw [← g39] at A39 D39 U39 st39
      have n0_b39 : n0 ≤ b39 := Nat.le_trans (Nat.le_trans (Nat.le_of_eq O0.1.symm) O0.2.1) (Nat.le_trans (Nat.le_trans (Nat.le_trans (Nat.le_trans (Nat.le_trans (Nat.le_trans E1.1 (Keep.of_wr W2).1) (Keep.of_wr W3).1) E4.1) (Keep.of_wr W5).1) (Keep.of_wr W6).1) (Nat.le_of_eq g39.symm))
      have UN39 : Unt T39.heap b39 := U39
      have F39_coder : Fld Z T39.heap b39 "java/lang/String" "coder" "B" (.int (0 : Int32)) := D39 (Or.inr w27) (ty := .byte) (by decide)
      have F39_value : Fld Z T39.heap b39 "java/lang/String" "value" "[B" .null := D39 (Or.inr w29) (ty := (.array .byte)) (by decide)
      refine ogo (S' := T39.setTop (mkF m 84 #[.val (.int i_), .val (.int j_), .val (.int k_), .val (.ref b1), .val (.ref b4), .val .null, .unset, .unset, .unset, .unset, .unset] [(.ref b39)])) st39 ?_
      refine o_dup X39 hx (hb hby at_84) rfl ?_
      refine o_aload X39 hx (hb hby at_85) rfl rfl ?_
      have c41 := (((((((O0.ext E1).wr W2 n0_b1).wr W3 n0_b1).ext E4).wr W5 n0_b4).wr W6 n0_b4).ext E39)
      obtain ⟨_, _, ⟨T40, L40, kc40, n40⟩, -, X40, ⟨Lc40, hQ40, l40, y40, z40⟩, st40⟩ := X39.specialBack hx (y := yM4) rfl hown (mvT hZ w4) (mvT hZ w5) (mvT hZ w6) (by decide) (backOf (W := 1) (rm_new1_2 l Z a0 hw [] z_CS v_FMT s_US s_SS b39 b4 k4 (nar .char (j_ &&& (255 : Int32))) (nar .char ((own_ushr j_ (8 : Int32)) &&& (255 : Int32))) T39.heap n0 SB c41 A39 F39_value F39_coder (V6.ext E39) n0_b39 (own_mk255 _) (own_mk255 _)) hZ w6 w3 (by decide) (by decide)) (g := (mkF m 87 #[.val (.int i_), .val (.int j_), .val (.int k_), .val (.ref b1), .val (.ref b4), .val .null, .unset, .unset, .unset, .unset, .unset] [(.ref b4), (.ref b39), (.ref b39)])) rfl (by rw [hml]; rfl) (Steps.refl _) (a := b39) (argsL := [(.ref b4)]) (rest := [(.ref b39)]) (lenOf own_pd7 rfl) rfl (by show 2 * 0 + _ ≤ _; exact Nat.le_of_eq rfl) (hb hby at_87) (fun _ _ => ⟨rfl, rfl, (by decide : 3 + 1 ≤ _), (by decide : 8 + 2 ≤ _)⟩)
      dsimp only [Pt.U, Pt.locs, Pt.cells, Pt.slots] at X40 l40 y40 z40 st40 hQ40
      subst l40 y40 z40
      obtain ⟨ba_40, kb_40, rfl, Nq40, K40, p40_0, p40_1, p40_2, p40_3, p40_4⟩ := hQ40
      have N40 := Fr.app N6 Nq40
      have n0_ba_40 : n0 ≤ ba_40 := Nat.le_trans (Nat.le_trans (Nat.le_of_eq O0.1.symm) O0.2.1) (Nat.le_trans (Nat.le_trans (Nat.le_trans (Nat.le_trans (Nat.le_trans (Nat.le_trans (Nat.le_trans E1.1 (Keep.of_wr W2).1) (Keep.of_wr W3).1) E4.1) (Keep.of_wr W5).1) (Keep.of_wr W6).1) E39.1) p40_0)
      refine otr (S' := T40.setTop (mkF m 90 #[.val (.int i_), .val (.int j_), .val (.int k_), .val (.ref b1), .val (.ref b4), .val .null, .unset, .unset, .unset, .unset, .unset] [(.ref b39)])) st40 ?_
      refine o_astore X40 hx (l' := #[.val (.int i_), .val (.int j_), .val (.int k_), .val (.ref b1), .val (.ref b4), .val .null, .val (.ref b39), .unset, .unset, .unset, .unset]) (hb hby at_90) rfl rfl ?_
      refine o_iloadN X40 hx (hb hby at_92) rfl ?_
      refine o_iconst X40 hx (1 : Int32) (hb hby at_93) rfl ?_
      refine o_iand X40 hx (hb hby at_94) ?_
      by_cases hc42 : (k_ &&& (1 : Int32)) = (0 : Int32)
      · refine o_ifYes X40 hx 102 (hb hby at_95) (teq hc42).1 (by decide) (by decide) ?_
        refine o_iconst X40 hx (0 : Int32) (hb hby at_102) rfl ?_
        refine o_istore X40 hx (l' := #[.val (.int i_), .val (.int j_), .val (.int k_), .val (.ref b1), .val (.ref b4), .val .null, .val (.ref b39), .val (.int (0 : Int32)), .unset, .unset, .unset]) (hb hby at_103) rfl ?_
        refine o_iload X40 hx (hb hby at_105) rfl ?_
        refine o_ifYes X40 hx 124 (hb hby at_107) (teq (by decide : (0 : Int32) = (0 : Int32))).1 (by decide) (by decide) ?_
        obtain ⟨T43, _, X43, rfl, E43, A43, D43, U43, st43⟩ := newO X40 hx hZ hown w30 w31 w32 rfl (g := (mkF m 124 #[.val (.int i_), .val (.int j_), .val (.int k_), .val (.ref b1), .val (.ref b4), .val .null, .val (.ref b39), .val (.int (0 : Int32)), .unset, .unset, .unset] [])) rfl (hb hby at_124) (by decide) (by decide)
        obtain ⟨b43, g43⟩ : ∃ z, z = T40.heap.size := ⟨_, rfl⟩
        rw [← g43] at A43 D43 U43 st43
        have n0_b43 : n0 ≤ b43 := Nat.le_trans (Nat.le_trans (Nat.le_of_eq O0.1.symm) O0.2.1) (Nat.le_trans (Nat.le_trans (Nat.le_trans (Nat.le_trans (Nat.le_trans (Nat.le_trans (Nat.le_trans (Nat.le_trans E1.1 (Keep.of_wr W2).1) (Keep.of_wr W3).1) E4.1) (Keep.of_wr W5).1) (Keep.of_wr W6).1) E39.1) K40.1) (Nat.le_of_eq g43.symm))
        have UN43 : Unt T43.heap b43 := U43
        have F43_cause : Fld Z T43.heap b43 "java/lang/Throwable" "cause" "Ljava/lang/Throwable;" .null := D43 (Or.inl w49) (ty := (.object "java/lang/Throwable")) (by decide)
        have F43_stackTrace : Fld Z T43.heap b43 "java/lang/Throwable" "stackTrace" "[Ljava/lang/StackTraceElement;" .null := D43 (Or.inl w52) (ty := (.array (.object "java/lang/StackTraceElement"))) (by decide)
        have F43_suppressedExceptions : Fld Z T43.heap b43 "java/lang/Throwable" "suppressedExceptions" "Ljava/util/List;" .null := D43 (Or.inl w55) (ty := (.object "java/util/List")) (by decide)
        have F43_detailMessage : Fld Z T43.heap b43 "java/lang/Throwable" "detailMessage" "Ljava/lang/String;" .null := D43 (Or.inl w79) (ty := (.object "java/lang/String")) (by decide)
        have F43_backtrace : Fld Z T43.heap b43 "java/lang/Throwable" "backtrace" "Ljava/lang/Object;" .null := D43 (Or.inl w80) (ty := (.object "java/lang/Object")) (by decide)
        have F43_depth : Fld Z T43.heap b43 "java/lang/Throwable" "depth" "I" (.int (0 : Int32)) := D43 (Or.inl w81) (ty := .int) (by decide)
        have F43_userMessage : Fld Z T43.heap b43 "com/example/reliquary/reliquary/UserException" "userMessage" "Ljava/lang/String;" .null := D43 (Or.inr w85) (ty := (.object "java/lang/String")) (by decide)
        refine ogo (S' := T43.setTop (mkF m 127 #[.val (.int i_), .val (.int j_), .val (.int k_), .val (.ref b1), .val (.ref b4), .val .null, .val (.ref b39), .val (.int (0 : Int32)), .unset, .unset, .unset] [(.ref b43)])) st43 ?_
        refine o_dup X43 hx (hb hby at_127) rfl ?_
        refine o_aload X43 hx (hb hby at_128) rfl rfl ?_
        obtain ⟨_, _, ⟨T44, L44, kc44, n44⟩, -, X44, ⟨Lc44, hQ44, l44, y44, z44⟩, st44⟩ := X43.specialBack hx (y := yM8) rfl hown (mvT hZ w33) (mvT hZ w34) (mvT hZ w35) (by decide) (backOfKL (W := 1) (rm_ue1 l Z a0 hw [] z_CS v_FMT s_US s_SS b43 .null T43.heap n0 SB ((c41.keep K40 (allS n0_b39 all0)).ext E43) A43 F43_cause F43_stackTrace F43_suppressedExceptions F43_backtrace F43_detailMessage F43_userMessage n0_b43 UN43 pr0 (by first | rfl | assumption | decide | omega) (by first | rfl | assumption | decide | omega)) hZ w35 w32 (by decide) (by decide) hTK hBelow) (g := (mkF m 130 #[.val (.int i_), .val (.int j_), .val (.int k_), .val (.ref b1), .val (.ref b4), .val .null, .val (.ref b39), .val (.int (0 : Int32)), .unset, .unset, .unset] [.null, (.ref b43), (.ref b43)])) rfl (by rw [hml]; rfl) (Steps.refl _) (a := b43) (argsL := [.null]) (rest := [(.ref b43)]) (lenOf own_pd5 rfl) rfl (by show 2 * 0 + _ ≤ _; exact Nat.le_of_eq rfl) (hb hby at_130) (fun _ _ => ⟨rfl, rfl, (by decide : 5 + 1 ≤ _), (by decide : 17 + 2752 ≤ _)⟩)
        dsimp only [Pt.U, Pt.locs, Pt.cells, Pt.slots] at X44 l44 y44 z44 st44 hQ44
        subst l44 y44 z44
        obtain ⟨rfl, Nq44, K44, p44_0, p44_1, p44_2⟩ := hQ44
        have N44 := Fr.app N40 Nq44
        refine otr (S' := T44.setTop (mkF m 133 #[.val (.int i_), .val (.int j_), .val (.int k_), .val (.ref b1), .val (.ref b4), .val .null, .val (.ref b39), .val (.int (0 : Int32)), .unset, .unset, .unset] [(.ref b43)])) st44 ?_
        refine o_astore X44 hx (l' := #[.val (.int i_), .val (.int j_), .val (.int k_), .val (.ref b1), .val (.ref b4), .val .null, .val (.ref b39), .val (.int (0 : Int32)), .val (.ref b43), .unset, .unset]) (hb hby at_133) rfl rfl ?_
        refine o_iload X44 hx (hb hby at_135) rfl ?_
        refine o_ifYes X44 hx 150 (hb hby at_137) (teq (by decide : (0 : Int32) = (0 : Int32))).1 (by decide) (by decide) ?_
        refine o_aload X44 hx (hb hby at_150) rfl rfl ?_
        refine o_astore X44 hx (l' := #[.val (.int i_), .val (.int j_), .val (.int k_), .val (.ref b1), .val (.ref b4), .val .null, .val (.ref b39), .val (.int (0 : Int32)), .val (.ref b43), .val .null, .unset]) (hb hby at_152) rfl rfl ?_
        refine o_aload X44 hx (hb hby at_154) rfl rfl ?_
        have c46 := (((c41.keep K40 (allS n0_b39 all0)).ext E43).keep K44 (allS n0_b43 all0))
        obtain ⟨cq45, kq45, q45a, q45b, q45c⟩ := isOf hZ rfl p44_0
        obtain ⟨_, _, ⟨T45, L45, kc45, n45⟩, -, X45, ⟨Lc45, hQ45, l45, y45, z45⟩, st45⟩ := X44.virtualBack hx (y := yM12) (z := yM12) hown (mvT hZ w86) (mvT hZ w87) (notFace_of_selects (args := #[]) (mvT hZ w89)) (mvT hZ w89) (mvT hZ w88) (by decide) (backOf (W := 0) (rm_umN l Z a0 hw []  b43 .null T44.heap n0 c46 p44_0 p44_1 (by first | rfl | assumption | decide | omega) p44_2) hZ w90 w32 (by decide) (by decide)) q45a q45c (g := (mkF m 156 #[.val (.int i_), .val (.int j_), .val (.int k_), .val (.ref b1), .val (.ref b4), .val .null, .val (.ref b39), .val (.int (0 : Int32)), .val (.ref b43), .val .null, .unset] [(.ref b43)])) rfl (by rw [hml]; rfl) (Steps.refl _) (argsL := []) (rest := []) (lenOf own_pd6 rfl) rfl (by show 2 * 0 + _ ≤ _; exact Nat.le_of_eq rfl) (hb hby at_156) (fun _ _ => ⟨rfl, rfl, (by decide : 6 + 0 ≤ _), (by decide : 2769 + 0 ≤ _)⟩)
        dsimp only [Pt.U, Pt.locs, Pt.cells, Pt.slots] at X45 l45 y45 z45 st45 hQ45
        subst l45 y45 z45
        obtain ⟨rfl, Nq45, e45⟩ := hQ45
        have N45 := Fr.app N44 Nq45
        refine otr (S' := T45.setTop (mkF m 159 #[.val (.int i_), .val (.int j_), .val (.int k_), .val (.ref b1), .val (.ref b4), .val .null, .val (.ref b39), .val (.int (0 : Int32)), .val (.ref b43), .val .null, .unset] [.null])) st45 ?_
        refine o_astore X45 hx (l' := #[.val (.int i_), .val (.int j_), .val (.int k_), .val (.ref b1), .val (.ref b4), .val .null, .val (.ref b39), .val (.int (0 : Int32)), .val (.ref b43), .val .null, .val .null]) (hb hby at_159) rfl rfl ?_
        refine o_aload X45 hx (hb hby at_161) rfl rfl ?_
        refine o_aload X45 hx (hb hby at_163) rfl rfl ?_
        refine o_acmp X45 hx 168 true rfl rfl (hb hby at_165) (decide_eq_true rfl) (by decide) (by decide) ?_
        refine o_aload X45 hx (hb hby at_168) rfl rfl ?_
        obtain ⟨cq47, kq47, q47a, q47b, q47c⟩ := isOf hZ e45 p44_0
        obtain ⟨_, _, ⟨T47, L47, kc47, n47⟩, -, X47, ⟨Lc47, hQ47, l47, y47, z47⟩, st47⟩ := X45.virtualBackUp hx (x := yM11) (y := yM10) (owner := "java/lang/Throwable") hown (mvT hZ w97) (mvT hZ w92) (mvT hZ w93) (by decide) (mvT hZ w95) (mvT hZ w94) (backOf (W := 0) (rm_gm l Z a0 hw []  b43 .null T44.heap n0 c46 p44_1 (by first | rfl | assumption | decide | omega)) hZ w96 w45 (by decide) (by decide)) q47a q47c (g := (mkF m 170 #[.val (.int i_), .val (.int j_), .val (.int k_), .val (.ref b1), .val (.ref b4), .val .null, .val (.ref b39), .val (.int (0 : Int32)), .val (.ref b43), .val .null, .val .null] [(.ref b43)])) rfl (by rw [hml]; rfl) (Steps.refl _) (argsL := []) (rest := []) (lenOf own_pd6 rfl) rfl (by show 2 * 0 + _ ≤ _; exact Nat.le_of_eq rfl) (hb hby at_170) (fun _ _ => ⟨rfl, e45, (by decide : 6 + 0 ≤ _), (by decide : 2769 + 0 ≤ _)⟩)
        dsimp only [Pt.U, Pt.locs, Pt.cells, Pt.slots] at X47 l47 y47 z47 st47 hQ47
        subst l47 y47 z47
        obtain ⟨rfl, Nq47, e47⟩ := hQ47
        have N47 := Fr.app N45 Nq47
        refine otr (S' := T47.setTop (mkF m 173 #[.val (.int i_), .val (.int j_), .val (.int k_), .val (.ref b1), .val (.ref b4), .val .null, .val (.ref b39), .val (.int (0 : Int32)), .val (.ref b43), .val .null, .val .null] [.null])) st47 ?_
        refine o_aload X47 hx (hb hby at_173) rfl rfl ?_
        refine o_acmp X47 hx 178 true rfl rfl (hb hby at_175) (decide_eq_true rfl) (by decide) (by decide) ?_
        refine o_iconst X47 hx (1 : Int32) (hb hby at_178) rfl ?_
        refine o_goto X47 hx 183 (hb hby at_179) (by decide) (by decide) ?_
        refine oend X47 hlk (v := some (.int (1 : Int32))) (fun h => by rw [hret] at h; cases h) (fun fs hr => retN X47 hx (t := .boolean) hret (by simp) (hb hby at_183) hr) (by decide) (by decide) ?_
        show own_Q_law Z _ _ _ _ _ _ _ h0 n0 _ T47.heap _
        rw [e47]
        exact ⟨rfl, N47, (((((((((((Keep.refl h0 []).ext E1).wr W2 (Or.inr (Nat.le_trans (Nat.le_refl _) (Nat.le_of_eq g1.symm)))).wr W3 (Or.inr (Nat.le_trans (Nat.le_refl _) (Nat.le_of_eq g1.symm)))).ext E4).wr W5 (Or.inr (Nat.le_trans (Nat.le_trans (Nat.le_trans E1.1 (Keep.of_wr W2).1) (Keep.of_wr W3).1) (Nat.le_of_eq g4.symm)))).wr W6 (Or.inr (Nat.le_trans (Nat.le_trans (Nat.le_trans E1.1 (Keep.of_wr W2).1) (Keep.of_wr W3).1) (Nat.le_of_eq g4.symm)))).ext E39).trans K40 (allS (Or.inr (Nat.le_trans (Nat.le_trans (Nat.le_trans (Nat.le_trans (Nat.le_trans (Nat.le_trans E1.1 (Keep.of_wr W2).1) (Keep.of_wr W3).1) E4.1) (Keep.of_wr W5).1) (Keep.of_wr W6).1) (Nat.le_of_eq g39.symm))) all0)).ext E43).trans K44 (allS (Or.inr (Nat.le_trans (Nat.le_trans (Nat.le_trans (Nat.le_trans (Nat.le_trans (Nat.le_trans (Nat.le_trans (Nat.le_trans E1.1 (Keep.of_wr W2).1) (Keep.of_wr W3).1) E4.1) (Keep.of_wr W5).1) (Keep.of_wr W6).1) E39.1) K40.1) (Nat.le_of_eq g43.symm))) all0))⟩
      · refine o_ifNo X40 hx (hb hby at_95) (feq hc42).1 ?_
        refine o_iconst X40 hx (1 : Int32) (hb hby at_98) rfl ?_
        refine o_goto X40 hx 103 (hb hby at_99) (by decide) (by decide) ?_
        refine o_istore X40 hx (l' := #[.val (.int i_), .val (.int j_), .val (.int k_), .val (.ref b1), .val (.ref b4), .val .null, .val (.ref b39), .val (.int (1 : Int32)), .unset, .unset, .unset]) (hb hby at_103) rfl ?_
        refine o_iload X40 hx (hb hby at_105) rfl ?_
        refine o_ifNo X40 hx (hb hby at_107) (feq (by decide : ¬ ((1 : Int32) = (0 : Int32)))).1 ?_
        obtain ⟨T48, _, X48, rfl, E48, A48, D48, U48, st48⟩ := newO X40 hx hZ hown w30 w31 w32 rfl (g := (mkF m 110 #[.val (.int i_), .val (.int j_), .val (.int k_), .val (.ref b1), .val (.ref b4), .val .null, .val (.ref b39), .val (.int (1 : Int32)), .unset, .unset, .unset] [])) rfl (hb hby at_110) (by decide) (by decide)
        obtain ⟨b48, g48⟩ : ∃ z, z = T40.heap.size := ⟨_, rfl⟩
        rw [← g48] at A48 D48 U48 st48
        have n0_b48 : n0 ≤ b48 := Nat.le_trans (Nat.le_trans (Nat.le_of_eq O0.1.symm) O0.2.1) (Nat.le_trans (Nat.le_trans (Nat.le_trans (Nat.le_trans (Nat.le_trans (Nat.le_trans (Nat.le_trans (Nat.le_trans E1.1 (Keep.of_wr W2).1) (Keep.of_wr W3).1) E4.1) (Keep.of_wr W5).1) (Keep.of_wr W6).1) E39.1) K40.1) (Nat.le_of_eq g48.symm))
        have UN48 : Unt T48.heap b48 := U48
        have F48_cause : Fld Z T48.heap b48 "java/lang/Throwable" "cause" "Ljava/lang/Throwable;" .null := D48 (Or.inl w49) (ty := (.object "java/lang/Throwable")) (by decide)
        have F48_stackTrace : Fld Z T48.heap b48 "java/lang/Throwable" "stackTrace" "[Ljava/lang/StackTraceElement;" .null := D48 (Or.inl w52) (ty := (.array (.object "java/lang/StackTraceElement"))) (by decide)
        have F48_suppressedExceptions : Fld Z T48.heap b48 "java/lang/Throwable" "suppressedExceptions" "Ljava/util/List;" .null := D48 (Or.inl w55) (ty := (.object "java/util/List")) (by decide)
        have F48_detailMessage : Fld Z T48.heap b48 "java/lang/Throwable" "detailMessage" "Ljava/lang/String;" .null := D48 (Or.inl w79) (ty := (.object "java/lang/String")) (by decide)
        have F48_backtrace : Fld Z T48.heap b48 "java/lang/Throwable" "backtrace" "Ljava/lang/Object;" .null := D48 (Or.inl w80) (ty := (.object "java/lang/Object")) (by decide)
        have F48_depth : Fld Z T48.heap b48 "java/lang/Throwable" "depth" "I" (.int (0 : Int32)) := D48 (Or.inl w81) (ty := .int) (by decide)
        have F48_userMessage : Fld Z T48.heap b48 "com/example/reliquary/reliquary/UserException" "userMessage" "Ljava/lang/String;" .null := D48 (Or.inr w85) (ty := (.object "java/lang/String")) (by decide)
        refine ogo (S' := T48.setTop (mkF m 113 #[.val (.int i_), .val (.int j_), .val (.int k_), .val (.ref b1), .val (.ref b4), .val .null, .val (.ref b39), .val (.int (1 : Int32)), .unset, .unset, .unset] [(.ref b48)])) st48 ?_
        refine o_dup X48 hx (hb hby at_113) rfl ?_
        refine o_aload X48 hx (hb hby at_114) rfl rfl ?_
        refine o_aload X48 hx (hb hby at_116) rfl rfl ?_
        obtain ⟨_, _, ⟨T49, L49, kc49, n49⟩, -, X49, ⟨Lc49, hQ49, l49, y49, z49⟩, st49⟩ := X48.specialBack hx (y := yM9) rfl hown (mvT hZ w98) (mvT hZ w99) (mvT hZ w100) (by decide) (backOfKL (W := 1) (rm_ue2 l Z a0 hw [] z_CS v_FMT s_US s_SS b48 .null (.ref b39) T48.heap n0 SB ((c41.keep K40 (allS n0_b39 all0)).ext E48) A48 F48_cause F48_stackTrace F48_suppressedExceptions F48_backtrace F48_detailMessage F48_userMessage n0_b48 UN48 pr0 (by first | rfl | assumption | decide | omega) (by first | rfl | assumption | decide | omega) (by first | rfl | assumption | decide | omega) (by first | rfl | assumption | decide | omega)) hZ w100 w32 (by decide) (by decide) hTK hBelow) (g := (mkF m 118 #[.val (.int i_), .val (.int j_), .val (.int k_), .val (.ref b1), .val (.ref b4), .val .null, .val (.ref b39), .val (.int (1 : Int32)), .unset, .unset, .unset] [(.ref b39), .null, (.ref b48), (.ref b48)])) rfl (by rw [hml]; rfl) (Steps.refl _) (a := b48) (argsL := [.null, (.ref b39)]) (rest := [(.ref b48)]) (lenOf own_pd8 rfl) rfl (by show 2 * 0 + _ ≤ _; exact Nat.le_of_eq rfl) (hb hby at_118) (fun _ _ => ⟨rfl, rfl, (by decide : 5 + 1 ≤ _), (by decide : 17 + 2752 ≤ _)⟩)
        dsimp only [Pt.U, Pt.locs, Pt.cells, Pt.slots] at X49 l49 y49 z49 st49 hQ49
        subst l49 y49 z49
        obtain ⟨rfl, Nq49, K49, p49_0, p49_1, p49_2⟩ := hQ49
        have N49 := Fr.app N40 Nq49
        refine otr (S' := T49.setTop (mkF m 121 #[.val (.int i_), .val (.int j_), .val (.int k_), .val (.ref b1), .val (.ref b4), .val .null, .val (.ref b39), .val (.int (1 : Int32)), .unset, .unset, .unset] [(.ref b48)])) st49 ?_
        refine o_goto X49 hx 133 (hb hby at_121) (by decide) (by decide) ?_
        refine o_astore X49 hx (l' := #[.val (.int i_), .val (.int j_), .val (.int k_), .val (.ref b1), .val (.ref b4), .val .null, .val (.ref b39), .val (.int (1 : Int32)), .val (.ref b48), .unset, .unset]) (hb hby at_133) rfl rfl ?_
        refine o_iload X49 hx (hb hby at_135) rfl ?_
        refine o_ifNo X49 hx (hb hby at_137) (feq (by decide : ¬ ((1 : Int32) = (0 : Int32)))).1 ?_
        refine o_aload X49 hx (hb hby at_140) rfl rfl ?_
        refine o_ifnullNo X49 hx (hb hby at_142) ?_
        refine o_aload X49 hx (hb hby at_145) rfl rfl ?_
        refine o_goto X49 hx 152 (hb hby at_147) (by decide) (by decide) ?_
        refine o_astore X49 hx (l' := #[.val (.int i_), .val (.int j_), .val (.int k_), .val (.ref b1), .val (.ref b4), .val .null, .val (.ref b39), .val (.int (1 : Int32)), .val (.ref b48), .val (.ref b39), .unset]) (hb hby at_152) rfl rfl ?_
        refine o_aload X49 hx (hb hby at_154) rfl rfl ?_
        have c51 := (((c41.keep K40 (allS n0_b39 all0)).ext E48).keep K49 (allS n0_b48 all0))
        obtain ⟨cq50, kq50, q50a, q50b, q50c⟩ := isOf hZ rfl p49_0
        obtain ⟨_, _, ⟨T50, L50, kc50, n50⟩, -, X50, ⟨Lc50, hQ50, l50, y50, z50⟩, st50⟩ := X49.virtualBack hx (y := yM12) (z := yM12) hown (mvT hZ w86) (mvT hZ w87) (notFace_of_selects (args := #[]) (mvT hZ w89)) (mvT hZ w89) (mvT hZ w88) (by decide) (backOf (W := 0) (rm_umR l Z a0 hw []  b48 b39 T49.heap n0 c51 p49_2) hZ w90 w32 (by decide) (by decide)) q50a q50c (g := (mkF m 156 #[.val (.int i_), .val (.int j_), .val (.int k_), .val (.ref b1), .val (.ref b4), .val .null, .val (.ref b39), .val (.int (1 : Int32)), .val (.ref b48), .val (.ref b39), .unset] [(.ref b48)])) rfl (by rw [hml]; rfl) (Steps.refl _) (argsL := []) (rest := []) (lenOf own_pd6 rfl) rfl (by show 2 * 0 + _ ≤ _; exact Nat.le_of_eq rfl) (hb hby at_156) (fun _ _ => ⟨rfl, rfl, (by decide : 6 + 0 ≤ _), (by decide : 2769 + 0 ≤ _)⟩)
        dsimp only [Pt.U, Pt.locs, Pt.cells, Pt.slots] at X50 l50 y50 z50 st50 hQ50
        subst l50 y50 z50
        obtain ⟨rfl, Nq50, e50⟩ := hQ50
        have N50 := Fr.app N49 Nq50
        refine otr (S' := T50.setTop (mkF m 159 #[.val (.int i_), .val (.int j_), .val (.int k_), .val (.ref b1), .val (.ref b4), .val .null, .val (.ref b39), .val (.int (1 : Int32)), .val (.ref b48), .val (.ref b39), .unset] [(.ref b39)])) st50 ?_
        refine o_astore X50 hx (l' := #[.val (.int i_), .val (.int j_), .val (.int k_), .val (.ref b1), .val (.ref b4), .val .null, .val (.ref b39), .val (.int (1 : Int32)), .val (.ref b48), .val (.ref b39), .val (.ref b39)]) (hb hby at_159) rfl rfl ?_
        refine o_aload X50 hx (hb hby at_161) rfl rfl ?_
        refine o_aload X50 hx (hb hby at_163) rfl rfl ?_
        refine o_acmp X50 hx 168 true rfl rfl (hb hby at_165) (decide_eq_true rfl) (by decide) (by decide) ?_
        refine o_aload X50 hx (hb hby at_168) rfl rfl ?_
        obtain ⟨cq52, kq52, q52a, q52b, q52c⟩ := isOf hZ e50 p49_0
        obtain ⟨_, _, ⟨T52, L52, kc52, n52⟩, -, X52, ⟨Lc52, hQ52, l52, y52, z52⟩, st52⟩ := X50.virtualBackUp hx (x := yM11) (y := yM10) (owner := "java/lang/Throwable") hown (mvT hZ w97) (mvT hZ w92) (mvT hZ w93) (by decide) (mvT hZ w95) (mvT hZ w94) (backOf (W := 0) (rm_gm l Z a0 hw []  b48 .null T49.heap n0 c51 p49_1 (by first | rfl | assumption | decide | omega)) hZ w96 w45 (by decide) (by decide)) q52a q52c (g := (mkF m 170 #[.val (.int i_), .val (.int j_), .val (.int k_), .val (.ref b1), .val (.ref b4), .val .null, .val (.ref b39), .val (.int (1 : Int32)), .val (.ref b48), .val (.ref b39), .val (.ref b39)] [(.ref b48)])) rfl (by rw [hml]; rfl) (Steps.refl _) (argsL := []) (rest := []) (lenOf own_pd6 rfl) rfl (by show 2 * 0 + _ ≤ _; exact Nat.le_of_eq rfl) (hb hby at_170) (fun _ _ => ⟨rfl, e50, (by decide : 6 + 0 ≤ _), (by decide : 2769 + 0 ≤ _)⟩)
        dsimp only [Pt.U, Pt.locs, Pt.cells, Pt.slots] at X52 l52 y52 z52 st52 hQ52
        subst l52 y52 z52
        obtain ⟨rfl, Nq52, e52⟩ := hQ52
        have N52 := Fr.app N50 Nq52
        refine otr (S' := T52.setTop (mkF m 173 #[.val (.int i_), .val (.int j_), .val (.int k_), .val (.ref b1), .val (.ref b4), .val .null, .val (.ref b39), .val (.int (1 : Int32)), .val (.ref b48), .val (.ref b39), .val (.ref b39)] [.null])) st52 ?_
        refine o_aload X52 hx (hb hby at_173) rfl rfl ?_
        refine o_acmp X52 hx 178 true rfl rfl (hb hby at_175) (decide_eq_true rfl) (by decide) (by decide) ?_
        refine o_iconst X52 hx (1 : Int32) (hb hby at_178) rfl ?_
        refine o_goto X52 hx 183 (hb hby at_179) (by decide) (by decide) ?_
        refine oend X52 hlk (v := some (.int (1 : Int32))) (fun h => by rw [hret] at h; cases h) (fun fs hr => retN X52 hx (t := .boolean) hret (by simp) (hb hby at_183) hr) (by decide) (by decide) ?_
        show own_Q_law Z _ _ _ _ _ _ _ h0 n0 _ T52.heap _
        rw [e52]
        exact ⟨rfl, N52, (((((((((((Keep.refl h0 []).ext E1).wr W2 (Or.inr (Nat.le_trans (Nat.le_refl _) (Nat.le_of_eq g1.symm)))).wr W3 (Or.inr (Nat.le_trans (Nat.le_refl _) (Nat.le_of_eq g1.symm)))).ext E4).wr W5 (Or.inr (Nat.le_trans (Nat.le_trans (Nat.le_trans E1.1 (Keep.of_wr W2).1) (Keep.of_wr W3).1) (Nat.le_of_eq g4.symm)))).wr W6 (Or.inr (Nat.le_trans (Nat.le_trans (Nat.le_trans E1.1 (Keep.of_wr W2).1) (Keep.of_wr W3).1) (Nat.le_of_eq g4.symm)))).ext E39).trans K40 (allS (Or.inr (Nat.le_trans (Nat.le_trans (Nat.le_trans (Nat.le_trans (Nat.le_trans (Nat.le_trans E1.1 (Keep.of_wr W2).1) (Keep.of_wr W3).1) E4.1) (Keep.of_wr W5).1) (Keep.of_wr W6).1) (Nat.le_of_eq g39.symm))) all0)).ext E48).trans K49 (allS (Or.inr (Nat.le_trans (Nat.le_trans (Nat.le_trans (Nat.le_trans (Nat.le_trans (Nat.le_trans (Nat.le_trans (Nat.le_trans E1.1 (Keep.of_wr W2).1) (Keep.of_wr W3).1) E4.1) (Keep.of_wr W5).1) (Keep.of_wr W6).1) E39.1) K40.1) (Nat.le_of_eq g48.symm))) all0))⟩
    · refine o_ifNo X6 hx (hb hby at_74) (feq hc38).1 ?_
      refine o_aconst_null X6 hx (hb hby at_77) ?_
      refine o_goto X6 hx 90 (hb hby at_78) (by decide) (by decide) ?_
      refine o_astore X6 hx (l' := #[.val (.int i_), .val (.int j_), .val (.int k_), .val (.ref b1), .val (.ref b4), .val .null, .val .null, .unset, .unset, .unset, .unset]) (hb hby at_90) rfl rfl ?_
      refine o_iloadN X6 hx (hb hby at_92) rfl ?_
      refine o_iconst X6 hx (1 : Int32) (hb hby at_93) rfl ?_
      refine o_iand X6 hx (hb hby at_94) ?_
      by_cases hc53 : (k_ &&& (1 : Int32)) = (0 : Int32)
      · refine o_ifYes X6 hx 102 (hb hby at_95) (teq hc53).1 (by decide) (by decide) ?_
        refine o_iconst X6 hx (0 : Int32) (hb hby at_102) rfl ?_
        refine o_istore X6 hx (l' := #[.val (.int i_), .val (.int j_), .val (.int k_), .val (.ref b1), .val (.ref b4), .val .null, .val .null, .val (.int (0 : Int32)), .unset, .unset, .unset]) (hb hby at_103) rfl ?_
        refine o_iload X6 hx (hb hby at_105) rfl ?_
        refine o_ifYes X6 hx 124 (hb hby at_107) (teq (by decide : (0 : Int32) = (0 : Int32))).1 (by decide) (by decide) ?_
        obtain ⟨T54, _, X54, rfl, E54, A54, D54, U54, st54⟩ := newO X6 hx hZ hown w30 w31 w32 rfl (g := (mkF m 124 #[.val (.int i_), .val (.int j_), .val (.int k_), .val (.ref b1), .val (.ref b4), .val .null, .val .null, .val (.int (0 : Int32)), .unset, .unset, .unset] [])) rfl (hb hby at_124) (by decide) (by decide)
        obtain ⟨b54, g54⟩ : ∃ z, z = T6.heap.size := ⟨_, rfl⟩
        rw [← g54] at A54 D54 U54 st54
        have n0_b54 : n0 ≤ b54 := Nat.le_trans (Nat.le_trans (Nat.le_of_eq O0.1.symm) O0.2.1) (Nat.le_trans (Nat.le_trans (Nat.le_trans (Nat.le_trans (Nat.le_trans (Nat.le_trans E1.1 (Keep.of_wr W2).1) (Keep.of_wr W3).1) E4.1) (Keep.of_wr W5).1) (Keep.of_wr W6).1) (Nat.le_of_eq g54.symm))
        have UN54 : Unt T54.heap b54 := U54
        have F54_cause : Fld Z T54.heap b54 "java/lang/Throwable" "cause" "Ljava/lang/Throwable;" .null := D54 (Or.inl w49) (ty := (.object "java/lang/Throwable")) (by decide)
        have F54_stackTrace : Fld Z T54.heap b54 "java/lang/Throwable" "stackTrace" "[Ljava/lang/StackTraceElement;" .null := D54 (Or.inl w52) (ty := (.array (.object "java/lang/StackTraceElement"))) (by decide)
        have F54_suppressedExceptions : Fld Z T54.heap b54 "java/lang/Throwable" "suppressedExceptions" "Ljava/util/List;" .null := D54 (Or.inl w55) (ty := (.object "java/util/List")) (by decide)
        have F54_detailMessage : Fld Z T54.heap b54 "java/lang/Throwable" "detailMessage" "Ljava/lang/String;" .null := D54 (Or.inl w79) (ty := (.object "java/lang/String")) (by decide)
        have F54_backtrace : Fld Z T54.heap b54 "java/lang/Throwable" "backtrace" "Ljava/lang/Object;" .null := D54 (Or.inl w80) (ty := (.object "java/lang/Object")) (by decide)
        have F54_depth : Fld Z T54.heap b54 "java/lang/Throwable" "depth" "I" (.int (0 : Int32)) := D54 (Or.inl w81) (ty := .int) (by decide)
        have F54_userMessage : Fld Z T54.heap b54 "com/example/reliquary/reliquary/UserException" "userMessage" "Ljava/lang/String;" .null := D54 (Or.inr w85) (ty := (.object "java/lang/String")) (by decide)
        refine ogo (S' := T54.setTop (mkF m 127 #[.val (.int i_), .val (.int j_), .val (.int k_), .val (.ref b1), .val (.ref b4), .val .null, .val .null, .val (.int (0 : Int32)), .unset, .unset, .unset] [(.ref b54)])) st54 ?_
        refine o_dup X54 hx (hb hby at_127) rfl ?_
        refine o_aload X54 hx (hb hby at_128) rfl rfl ?_
        have c56 := (((((((O0.ext E1).wr W2 n0_b1).wr W3 n0_b1).ext E4).wr W5 n0_b4).wr W6 n0_b4).ext E54)
        obtain ⟨_, _, ⟨T55, L55, kc55, n55⟩, -, X55, ⟨Lc55, hQ55, l55, y55, z55⟩, st55⟩ := X54.specialBack hx (y := yM8) rfl hown (mvT hZ w33) (mvT hZ w34) (mvT hZ w35) (by decide) (backOfKL (W := 1) (rm_ue1 l Z a0 hw [] z_CS v_FMT s_US s_SS b54 .null T54.heap n0 SB c56 A54 F54_cause F54_stackTrace F54_suppressedExceptions F54_backtrace F54_detailMessage F54_userMessage n0_b54 UN54 pr0 (by first | rfl | assumption | decide | omega) (by first | rfl | assumption | decide | omega)) hZ w35 w32 (by decide) (by decide) hTK hBelow) (g := (mkF m 130 #[.val (.int i_), .val (.int j_), .val (.int k_), .val (.ref b1), .val (.ref b4), .val .null, .val .null, .val (.int (0 : Int32)), .unset, .unset, .unset] [.null, (.ref b54), (.ref b54)])) rfl (by rw [hml]; rfl) (Steps.refl _) (a := b54) (argsL := [.null]) (rest := [(.ref b54)]) (lenOf own_pd5 rfl) rfl (by show 2 * 0 + _ ≤ _; exact Nat.le_of_eq rfl) (hb hby at_130) (fun _ _ => ⟨rfl, rfl, (by decide : 3 + 1 ≤ _), (by decide : 11 + 2752 ≤ _)⟩)
        dsimp only [Pt.U, Pt.locs, Pt.cells, Pt.slots] at X55 l55 y55 z55 st55 hQ55
        subst l55 y55 z55
        obtain ⟨rfl, Nq55, K55, p55_0, p55_1, p55_2⟩ := hQ55
        have N55 := Fr.app N6 Nq55
        refine otr (S' := T55.setTop (mkF m 133 #[.val (.int i_), .val (.int j_), .val (.int k_), .val (.ref b1), .val (.ref b4), .val .null, .val .null, .val (.int (0 : Int32)), .unset, .unset, .unset] [(.ref b54)])) st55 ?_
        refine o_astore X55 hx (l' := #[.val (.int i_), .val (.int j_), .val (.int k_), .val (.ref b1), .val (.ref b4), .val .null, .val .null, .val (.int (0 : Int32)), .val (.ref b54), .unset, .unset]) (hb hby at_133) rfl rfl ?_
        refine o_iload X55 hx (hb hby at_135) rfl ?_
        refine o_ifYes X55 hx 150 (hb hby at_137) (teq (by decide : (0 : Int32) = (0 : Int32))).1 (by decide) (by decide) ?_
        refine o_aload X55 hx (hb hby at_150) rfl rfl ?_
        refine o_astore X55 hx (l' := #[.val (.int i_), .val (.int j_), .val (.int k_), .val (.ref b1), .val (.ref b4), .val .null, .val .null, .val (.int (0 : Int32)), .val (.ref b54), .val .null, .unset]) (hb hby at_152) rfl rfl ?_
        refine o_aload X55 hx (hb hby at_154) rfl rfl ?_
        obtain ⟨cq57, kq57, q57a, q57b, q57c⟩ := isOf hZ rfl p55_0
        obtain ⟨_, _, ⟨T57, L57, kc57, n57⟩, -, X57, ⟨Lc57, hQ57, l57, y57, z57⟩, st57⟩ := X55.virtualBack hx (y := yM12) (z := yM12) hown (mvT hZ w86) (mvT hZ w87) (notFace_of_selects (args := #[]) (mvT hZ w89)) (mvT hZ w89) (mvT hZ w88) (by decide) (backOf (W := 0) (rm_umN l Z a0 hw []  b54 .null T55.heap n0 (c56.keep K55 (allS n0_b54 all0)) p55_0 p55_1 (by first | rfl | assumption | decide | omega) p55_2) hZ w90 w32 (by decide) (by decide)) q57a q57c (g := (mkF m 156 #[.val (.int i_), .val (.int j_), .val (.int k_), .val (.ref b1), .val (.ref b4), .val .null, .val .null, .val (.int (0 : Int32)), .val (.ref b54), .val .null, .unset] [(.ref b54)])) rfl (by rw [hml]; rfl) (Steps.refl _) (argsL := []) (rest := []) (lenOf own_pd6 rfl) rfl (by show 2 * 0 + _ ≤ _; exact Nat.le_of_eq rfl) (hb hby at_156) (fun _ _ => ⟨rfl, rfl, (by decide : 4 + 0 ≤ _), (by decide : 2763 + 0 ≤ _)⟩)
        dsimp only [Pt.U, Pt.locs, Pt.cells, Pt.slots] at X57 l57 y57 z57 st57 hQ57
        subst l57 y57 z57
        obtain ⟨rfl, Nq57, e57⟩ := hQ57
        have N57 := Fr.app N55 Nq57
        refine otr (S' := T57.setTop (mkF m 159 #[.val (.int i_), .val (.int j_), .val (.int k_), .val (.ref b1), .val (.ref b4), .val .null, .val .null, .val (.int (0 : Int32)), .val (.ref b54), .val .null, .unset] [.null])) st57 ?_
        refine o_astore X57 hx (l' := #[.val (.int i_), .val (.int j_), .val (.int k_), .val (.ref b1), .val (.ref b4), .val .null, .val .null, .val (.int (0 : Int32)), .val (.ref b54), .val .null, .val .null]) (hb hby at_159) rfl rfl ?_
        refine o_aload X57 hx (hb hby at_161) rfl rfl ?_
        refine o_aload X57 hx (hb hby at_163) rfl rfl ?_
        refine o_acmp X57 hx 168 true rfl rfl (hb hby at_165) (decide_eq_true rfl) (by decide) (by decide) ?_
        refine o_aload X57 hx (hb hby at_168) rfl rfl ?_
        obtain ⟨cq58, kq58, q58a, q58b, q58c⟩ := isOf hZ e57 p55_0
        obtain ⟨_, _, ⟨T58, L58, kc58, n58⟩, -, X58, ⟨Lc58, hQ58, l58, y58, z58⟩, st58⟩ := X57.virtualBackUp hx (x := yM11) (y := yM10) (owner := "java/lang/Throwable") hown (mvT hZ w97) (mvT hZ w92) (mvT hZ w93) (by decide) (mvT hZ w95) (mvT hZ w94) (backOf (W := 0) (rm_gm l Z a0 hw []  b54 .null T55.heap n0 (c56.keep K55 (allS n0_b54 all0)) p55_1 (by first | rfl | assumption | decide | omega)) hZ w96 w45 (by decide) (by decide)) q58a q58c (g := (mkF m 170 #[.val (.int i_), .val (.int j_), .val (.int k_), .val (.ref b1), .val (.ref b4), .val .null, .val .null, .val (.int (0 : Int32)), .val (.ref b54), .val .null, .val .null] [(.ref b54)])) rfl (by rw [hml]; rfl) (Steps.refl _) (argsL := []) (rest := []) (lenOf own_pd6 rfl) rfl (by show 2 * 0 + _ ≤ _; exact Nat.le_of_eq rfl) (hb hby at_170) (fun _ _ => ⟨rfl, e57, (by decide : 4 + 0 ≤ _), (by decide : 2763 + 0 ≤ _)⟩)
        dsimp only [Pt.U, Pt.locs, Pt.cells, Pt.slots] at X58 l58 y58 z58 st58 hQ58
        subst l58 y58 z58
        obtain ⟨rfl, Nq58, e58⟩ := hQ58
        have N58 := Fr.app N57 Nq58
        refine otr (S' := T58.setTop (mkF m 173 #[.val (.int i_), .val (.int j_), .val (.int k_), .val (.ref b1), .val (.ref b4), .val .null, .val .null, .val (.int (0 : Int32)), .val (.ref b54), .val .null, .val .null] [.null])) st58 ?_
        refine o_aload X58 hx (hb hby at_173) rfl rfl ?_
        refine o_acmp X58 hx 178 true rfl rfl (hb hby at_175) (decide_eq_true rfl) (by decide) (by decide) ?_
        refine o_iconst X58 hx (1 : Int32) (hb hby at_178) rfl ?_
        refine o_goto X58 hx 183 (hb hby at_179) (by decide) (by decide) ?_
        refine oend X58 hlk (v := some (.int (1 : Int32))) (fun h => by rw [hret] at h; cases h) (fun fs hr => retN X58 hx (t := .boolean) hret (by simp) (hb hby at_183) hr) (by decide) (by decide) ?_
        show own_Q_law Z _ _ _ _ _ _ _ h0 n0 _ T58.heap _
        rw [e58]
        exact ⟨rfl, N58, (((((((((Keep.refl h0 []).ext E1).wr W2 (Or.inr (Nat.le_trans (Nat.le_refl _) (Nat.le_of_eq g1.symm)))).wr W3 (Or.inr (Nat.le_trans (Nat.le_refl _) (Nat.le_of_eq g1.symm)))).ext E4).wr W5 (Or.inr (Nat.le_trans (Nat.le_trans (Nat.le_trans E1.1 (Keep.of_wr W2).1) (Keep.of_wr W3).1) (Nat.le_of_eq g4.symm)))).wr W6 (Or.inr (Nat.le_trans (Nat.le_trans (Nat.le_trans E1.1 (Keep.of_wr W2).1) (Keep.of_wr W3).1) (Nat.le_of_eq g4.symm)))).ext E54).trans K55 (allS (Or.inr (Nat.le_trans (Nat.le_trans (Nat.le_trans (Nat.le_trans (Nat.le_trans (Nat.le_trans E1.1 (Keep.of_wr W2).1) (Keep.of_wr W3).1) E4.1) (Keep.of_wr W5).1) (Keep.of_wr W6).1) (Nat.le_of_eq g54.symm))) all0))⟩
      · refine o_ifNo X6 hx (hb hby at_95) (feq hc53).1 ?_
        refine o_iconst X6 hx (1 : Int32) (hb hby at_98) rfl ?_
        refine o_goto X6 hx 103 (hb hby at_99) (by decide) (by decide) ?_
        refine o_istore X6 hx (l' := #[.val (.int i_), .val (.int j_), .val (.int k_), .val (.ref b1), .val (.ref b4), .val .null, .val .null, .val (.int (1 : Int32)), .unset, .unset, .unset]) (hb hby at_103) rfl ?_
        refine o_iload X6 hx (hb hby at_105) rfl ?_
        refine o_ifNo X6 hx (hb hby at_107) (feq (by decide : ¬ ((1 : Int32) = (0 : Int32)))).1 ?_
        obtain ⟨T59, _, X59, rfl, E59, A59, D59, U59, st59⟩ := newO X6 hx hZ hown w30 w31 w32 rfl (g := (mkF m 110 #[.val (.int i_), .val (.int j_), .val (.int k_), .val (.ref b1), .val (.ref b4), .val .null, .val .null, .val (.int (1 : Int32)), .unset, .unset, .unset] [])) rfl (hb hby at_110) (by decide) (by decide)
        obtain ⟨b59, g59⟩ : ∃ z, z = T6.heap.size := ⟨_, rfl⟩
        rw [← g59] at A59 D59 U59 st59
        have n0_b59 : n0 ≤ b59 := Nat.le_trans (Nat.le_trans (Nat.le_of_eq O0.1.symm) O0.2.1) (Nat.le_trans (Nat.le_trans (Nat.le_trans (Nat.le_trans (Nat.le_trans (Nat.le_trans E1.1 (Keep.of_wr W2).1) (Keep.of_wr W3).1) E4.1) (Keep.of_wr W5).1) (Keep.of_wr W6).1) (Nat.le_of_eq g59.symm))
        have UN59 : Unt T59.heap b59 := U59
        have F59_cause : Fld Z T59.heap b59 "java/lang/Throwable" "cause" "Ljava/lang/Throwable;" .null := D59 (Or.inl w49) (ty := (.object "java/lang/Throwable")) (by decide)
        have F59_stackTrace : Fld Z T59.heap b59 "java/lang/Throwable" "stackTrace" "[Ljava/lang/StackTraceElement;" .null := D59 (Or.inl w52) (ty := (.array (.object "java/lang/StackTraceElement"))) (by decide)
        have F59_suppressedExceptions : Fld Z T59.heap b59 "java/lang/Throwable" "suppressedExceptions" "Ljava/util/List;" .null := D59 (Or.inl w55) (ty := (.object "java/util/List")) (by decide)
        have F59_detailMessage : Fld Z T59.heap b59 "java/lang/Throwable" "detailMessage" "Ljava/lang/String;" .null := D59 (Or.inl w79) (ty := (.object "java/lang/String")) (by decide)
        have F59_backtrace : Fld Z T59.heap b59 "java/lang/Throwable" "backtrace" "Ljava/lang/Object;" .null := D59 (Or.inl w80) (ty := (.object "java/lang/Object")) (by decide)
        have F59_depth : Fld Z T59.heap b59 "java/lang/Throwable" "depth" "I" (.int (0 : Int32)) := D59 (Or.inl w81) (ty := .int) (by decide)
        have F59_userMessage : Fld Z T59.heap b59 "com/example/reliquary/reliquary/UserException" "userMessage" "Ljava/lang/String;" .null := D59 (Or.inr w85) (ty := (.object "java/lang/String")) (by decide)
        refine ogo (S' := T59.setTop (mkF m 113 #[.val (.int i_), .val (.int j_), .val (.int k_), .val (.ref b1), .val (.ref b4), .val .null, .val .null, .val (.int (1 : Int32)), .unset, .unset, .unset] [(.ref b59)])) st59 ?_
        refine o_dup X59 hx (hb hby at_113) rfl ?_
        refine o_aload X59 hx (hb hby at_114) rfl rfl ?_
        refine o_aload X59 hx (hb hby at_116) rfl rfl ?_
        have c61 := (((((((O0.ext E1).wr W2 n0_b1).wr W3 n0_b1).ext E4).wr W5 n0_b4).wr W6 n0_b4).ext E59)
        obtain ⟨_, _, ⟨T60, L60, kc60, n60⟩, -, X60, ⟨Lc60, hQ60, l60, y60, z60⟩, st60⟩ := X59.specialBack hx (y := yM9) rfl hown (mvT hZ w98) (mvT hZ w99) (mvT hZ w100) (by decide) (backOfKL (W := 1) (rm_ue2 l Z a0 hw [] z_CS v_FMT s_US s_SS b59 .null .null T59.heap n0 SB c61 A59 F59_cause F59_stackTrace F59_suppressedExceptions F59_backtrace F59_detailMessage F59_userMessage n0_b59 UN59 pr0 (by first | rfl | assumption | decide | omega) (by first | rfl | assumption | decide | omega) (by first | rfl | assumption | decide | omega) (by first | rfl | assumption | decide | omega)) hZ w100 w32 (by decide) (by decide) hTK hBelow) (g := (mkF m 118 #[.val (.int i_), .val (.int j_), .val (.int k_), .val (.ref b1), .val (.ref b4), .val .null, .val .null, .val (.int (1 : Int32)), .unset, .unset, .unset] [.null, .null, (.ref b59), (.ref b59)])) rfl (by rw [hml]; rfl) (Steps.refl _) (a := b59) (argsL := [.null, .null]) (rest := [(.ref b59)]) (lenOf own_pd8 rfl) rfl (by show 2 * 0 + _ ≤ _; exact Nat.le_of_eq rfl) (hb hby at_118) (fun _ _ => ⟨rfl, rfl, (by decide : 3 + 1 ≤ _), (by decide : 11 + 2752 ≤ _)⟩)
        dsimp only [Pt.U, Pt.locs, Pt.cells, Pt.slots] at X60 l60 y60 z60 st60 hQ60
        subst l60 y60 z60
        obtain ⟨rfl, Nq60, K60, p60_0, p60_1, p60_2⟩ := hQ60
        have N60 := Fr.app N6 Nq60
        refine otr (S' := T60.setTop (mkF m 121 #[.val (.int i_), .val (.int j_), .val (.int k_), .val (.ref b1), .val (.ref b4), .val .null, .val .null, .val (.int (1 : Int32)), .unset, .unset, .unset] [(.ref b59)])) st60 ?_
        refine o_goto X60 hx 133 (hb hby at_121) (by decide) (by decide) ?_
        refine o_astore X60 hx (l' := #[.val (.int i_), .val (.int j_), .val (.int k_), .val (.ref b1), .val (.ref b4), .val .null, .val .null, .val (.int (1 : Int32)), .val (.ref b59), .unset, .unset]) (hb hby at_133) rfl rfl ?_
        refine o_iload X60 hx (hb hby at_135) rfl ?_
        refine o_ifNo X60 hx (hb hby at_137) (feq (by decide : ¬ ((1 : Int32) = (0 : Int32)))).1 ?_
        refine o_aload X60 hx (hb hby at_140) rfl rfl ?_
        refine o_ifnullYes X60 hx 150 (hb hby at_142) (by decide) (by decide) ?_
        refine o_aload X60 hx (hb hby at_150) rfl rfl ?_
        refine o_astore X60 hx (l' := #[.val (.int i_), .val (.int j_), .val (.int k_), .val (.ref b1), .val (.ref b4), .val .null, .val .null, .val (.int (1 : Int32)), .val (.ref b59), .val .null, .unset]) (hb hby at_152) rfl rfl ?_
        refine o_aload X60 hx (hb hby at_154) rfl rfl ?_
        obtain ⟨cq62, kq62, q62a, q62b, q62c⟩ := isOf hZ rfl p60_0
        obtain ⟨_, _, ⟨T62, L62, kc62, n62⟩, -, X62, ⟨Lc62, hQ62, l62, y62, z62⟩, st62⟩ := X60.virtualBack hx (y := yM12) (z := yM12) hown (mvT hZ w86) (mvT hZ w87) (notFace_of_selects (args := #[]) (mvT hZ w89)) (mvT hZ w89) (mvT hZ w88) (by decide) (backOf (W := 0) (rm_umN l Z a0 hw []  b59 .null T60.heap n0 (c61.keep K60 (allS n0_b59 all0)) p60_0 p60_1 (by first | rfl | assumption | decide | omega) p60_2) hZ w90 w32 (by decide) (by decide)) q62a q62c (g := (mkF m 156 #[.val (.int i_), .val (.int j_), .val (.int k_), .val (.ref b1), .val (.ref b4), .val .null, .val .null, .val (.int (1 : Int32)), .val (.ref b59), .val .null, .unset] [(.ref b59)])) rfl (by rw [hml]; rfl) (Steps.refl _) (argsL := []) (rest := []) (lenOf own_pd6 rfl) rfl (by show 2 * 0 + _ ≤ _; exact Nat.le_of_eq rfl) (hb hby at_156) (fun _ _ => ⟨rfl, rfl, (by decide : 4 + 0 ≤ _), (by decide : 2763 + 0 ≤ _)⟩)
        dsimp only [Pt.U, Pt.locs, Pt.cells, Pt.slots] at X62 l62 y62 z62 st62 hQ62
        subst l62 y62 z62
        obtain ⟨rfl, Nq62, e62⟩ := hQ62
        have N62 := Fr.app N60 Nq62
        refine otr (S' := T62.setTop (mkF m 159 #[.val (.int i_), .val (.int j_), .val (.int k_), .val (.ref b1), .val (.ref b4), .val .null, .val .null, .val (.int (1 : Int32)), .val (.ref b59), .val .null, .unset] [.null])) st62 ?_
        refine o_astore X62 hx (l' := #[.val (.int i_), .val (.int j_), .val (.int k_), .val (.ref b1), .val (.ref b4), .val .null, .val .null, .val (.int (1 : Int32)), .val (.ref b59), .val .null, .val .null]) (hb hby at_159) rfl rfl ?_
        refine o_aload X62 hx (hb hby at_161) rfl rfl ?_
        refine o_aload X62 hx (hb hby at_163) rfl rfl ?_
        refine o_acmp X62 hx 168 true rfl rfl (hb hby at_165) (decide_eq_true rfl) (by decide) (by decide) ?_
        refine o_aload X62 hx (hb hby at_168) rfl rfl ?_
        obtain ⟨cq63, kq63, q63a, q63b, q63c⟩ := isOf hZ e62 p60_0
        obtain ⟨_, _, ⟨T63, L63, kc63, n63⟩, -, X63, ⟨Lc63, hQ63, l63, y63, z63⟩, st63⟩ := X62.virtualBackUp hx (x := yM11) (y := yM10) (owner := "java/lang/Throwable") hown (mvT hZ w97) (mvT hZ w92) (mvT hZ w93) (by decide) (mvT hZ w95) (mvT hZ w94) (backOf (W := 0) (rm_gm l Z a0 hw []  b59 .null T60.heap n0 (c61.keep K60 (allS n0_b59 all0)) p60_1 (by first | rfl | assumption | decide | omega)) hZ w96 w45 (by decide) (by decide)) q63a q63c (g := (mkF m 170 #[.val (.int i_), .val (.int j_), .val (.int k_), .val (.ref b1), .val (.ref b4), .val .null, .val .null, .val (.int (1 : Int32)), .val (.ref b59), .val .null, .val .null] [(.ref b59)])) rfl (by rw [hml]; rfl) (Steps.refl _) (argsL := []) (rest := []) (lenOf own_pd6 rfl) rfl (by show 2 * 0 + _ ≤ _; exact Nat.le_of_eq rfl) (hb hby at_170) (fun _ _ => ⟨rfl, e62, (by decide : 4 + 0 ≤ _), (by decide : 2763 + 0 ≤ _)⟩)
        dsimp only [Pt.U, Pt.locs, Pt.cells, Pt.slots] at X63 l63 y63 z63 st63 hQ63
        subst l63 y63 z63
        obtain ⟨rfl, Nq63, e63⟩ := hQ63
        have N63 := Fr.app N62 Nq63
        refine otr (S' := T63.setTop (mkF m 173 #[.val (.int i_), .val (.int j_), .val (.int k_), .val (.ref b1), .val (.ref b4), .val .null, .val .null, .val (.int (1 : Int32)), .val (.ref b59), .val .null, .val .null] [.null])) st63 ?_
        refine o_aload X63 hx (hb hby at_173) rfl rfl ?_
        refine o_acmp X63 hx 178 true rfl rfl (hb hby at_175) (decide_eq_true rfl) (by decide) (by decide) ?_
        refine o_iconst X63 hx (1 : Int32) (hb hby at_178) rfl ?_
        refine o_goto X63 hx 183 (hb hby at_179) (by decide) (by decide) ?_
        refine oend X63 hlk (v := some (.int (1 : Int32))) (fun h => by rw [hret] at h; cases h) (fun fs hr => retN X63 hx (t := .boolean) hret (by simp) (hb hby at_183) hr) (by decide) (by decide) ?_
        show own_Q_law Z _ _ _ _ _ _ _ h0 n0 _ T63.heap _
        rw [e63]
        exact ⟨rfl, N63, (((((((((Keep.refl h0 []).ext E1).wr W2 (Or.inr (Nat.le_trans (Nat.le_refl _) (Nat.le_of_eq g1.symm)))).wr W3 (Or.inr (Nat.le_trans (Nat.le_refl _) (Nat.le_of_eq g1.symm)))).ext E4).wr W5 (Or.inr (Nat.le_trans (Nat.le_trans (Nat.le_trans E1.1 (Keep.of_wr W2).1) (Keep.of_wr W3).1) (Nat.le_of_eq g4.symm)))).wr W6 (Or.inr (Nat.le_trans (Nat.le_trans (Nat.le_trans E1.1 (Keep.of_wr W2).1) (Keep.of_wr W3).1) (Nat.le_of_eq g4.symm)))).ext E59).trans K60 (allS (Or.inr (Nat.le_trans (Nat.le_trans (Nat.le_trans (Nat.le_trans (Nat.le_trans (Nat.le_trans E1.1 (Keep.of_wr W2).1) (Keep.of_wr W3).1) E4.1) (Keep.of_wr W5).1) (Keep.of_wr W6).1) (Nat.le_of_eq g59.symm))) all0))⟩
set_option maxRecDepth 65536 in
set_option maxHeartbeats 40000000 in
theorem comes_1 {Post : Tables → Env → Array Value → State → Outcome → State → Prop} (hpost : ∀ tb e args s v u, (limb_1_1.after args s (.returned v) u = true ∧ limb_1_2.after args s (.returned v) u = true ∧ True) → FrameEnd s (.returned v) u (Jvm.fieldLocs frame_1_writes args s ++ Jvm.arrayLocs frame_1_arrays args s ++ Jvm.staticLocs frame_1_statics s) 24 5632 → Post tb e args s (.returned v) u) :
    ArmFor flags0 classFile x code maxLocals ret World_1 tables_1 room_1 Calls_1 rest_1 Pre_1 Post := by
  intro l hfl _ _ p e ha hc hk s m args below hf hA hF happ hP
  obtain ⟨hcalls, hrest, hpre⟩ := hP
  obtain ⟨-, -, -, hnamed, -, -, -, hat⟩ := (Spec.applies_iff hf).mp happ
  obtain ⟨hg, hn⟩ := and_e (Cond.before_iff.mp (show (Jvm.Cond.and given_1 narrow_1).before args s = true from hpre))
  obtain ⟨g0, gr0⟩ := and_e hg
  obtain ⟨g1, gr1⟩ := and_e gr0
  obtain ⟨g2, gr2⟩ := and_e gr1
  obtain ⟨w0, w1, w2, rfl⟩ : ∃ w0 w1 w2 : Value, args = #[w0, w1, w2] := by
    have hs : args.size = 3 := by simpa [Cond.value, given_1] using g0
    obtain ⟨L⟩ := args
    match L, hs with
    | [w0, w1, w2], _ => exact ⟨w0, w1, w2, rfl⟩
  have hw := fun d (hd : d ∈ tables_1) => atoms_spec (ws := Jvm.Cond.code x code maxLocals ret :: tables_1) hat d (List.mem_cons_of_mem _ hd)
  obtain ⟨hsets, hown0⟩ := atoms_of _ (rest_1_c_eq ▸ (show rest_1_c.before _ s = true from hrest))
  have hfit : Fit s := fun {y c} hc i hi => by
    obtain ⟨ha, rfl⟩ := Array.getElem?_eq_some_iff.mp hc
    have q := List.all_eq_true.mp ((Array.all_eq_true_iff_forall_mem.mp hF) _ (Array.getElem_mem ha)) i (List.mem_range.mpr hi)
    simpa [Array.getElem?_eq_getElem hi] using q
  obtain ⟨i0, ei0⟩ := is_v g1
  obtain rfl : w0 = (.int i0) := Option.some.inj ei0
  obtain ⟨i1, ei1⟩ := is_v g2
  obtain rfl : w1 = (.int i1) := Option.some.inj ei1
  obtain ⟨i2, ei2⟩ := is_v gr2
  obtain rfl : w2 = (.int i2) := Option.some.inj ei2
  obtain ⟨z_CS, ev_CS⟩ := is_v (Cond.before_iff.mp (hsets _ (List.mem_of_getElem? (i := 1) rfl)))
  have n_CS := not_v (Cond.before_iff.mp (hsets _ (List.mem_of_getElem? (i := 2) rfl)))
  obtain ⟨v_FMT, ev_FMT, rf_FMT⟩ := isR_v (Cond.before_iff.mp (hsets _ (List.mem_of_getElem? (i := 8) rfl)))
  obtain ⟨s_US, ev_s_US⟩ := arr_v (Cond.before_iff.mp (hsets _ (List.mem_of_getElem? (i := 17) rfl)))
  obtain ⟨s_SS, ev_s_SS⟩ := exa_v (Cond.before_iff.mp (hsets _ (List.mem_of_getElem? (i := 22) rfl)))
  have hl : l.stackTraces = true := by unfold Launch.stackTraces; rw [hfl]; decide +kernel
  have SB : own_Start s z_CS v_FMT s_US s_SS := ⟨(Sta.start ev_CS (Or.inl (hsets _ (List.mem_of_getElem? (i := 0) rfl)))), (gotF (Cond.eq_ints ev_CS (Term.int_eval (0))) n_CS), (Sta.start (Cond.eq_int (hsets _ (List.mem_of_getElem? (i := 13) rfl)) rfl) (Or.inl (hsets _ (List.mem_of_getElem? (i := 12) rfl)))), (Sta.start ev_FMT (Or.inl (hsets _ (List.mem_of_getElem? (i := 7) rfl)))), rf_FMT, (Sta.start ev_s_US (Or.inl (hsets _ (List.mem_of_getElem? (i := 15) rfl)))), (Sta.start ev_s_SS (Or.inl (hsets _ (List.mem_of_getElem? (i := 20) rfl))))⟩
  obtain ⟨n, o, h1, h2, h3, _, L, rfl, ⟨rfl, N, -⟩, hq⟩ := rm_law l s _ hw tables_1 z_CS v_FMT s_US s_SS i0 i1 i2 s.heap s.heap.size SB (Old.start s) hl p e ha hc hk s m _ below hf ((Spec.applies_iff_loose hf).mp happ).1 ⟨rfl, State.Warmed39.refl s, rfl⟩ ⟨MethodsKnown_of_tablesKnown hcalls.2.1, FramesKnown_of_framesKnown hcalls.1 hf⟩
  refine ⟨n, _, h1, h2, h3, hpost _ _ _ _ _ _ ⟨Cond.after_iff.mpr rfl, Cond.after_iff.mpr (eq_i res_at (Term.int_eval (1)) rfl), trivial⟩ ⟨hq.1, hq.2.1, (hq.2.2.sift fun y hy => Or.inr (N y hy)).mono (by decide) (by decide)⟩⟩
theorem main_1_1 : Claimed_1_1 := comes_1 fun _ _ _ _ _ _ h hF => ⟨h.1, hF⟩
theorem main_1_2 : Claimed_1_2 := comes_1 fun _ _ _ _ _ _ h hF => ⟨h.2.1, hF⟩
end Jvm.Pilot.@@N@@
namespace Jvm.Pilot.@@N@@
open Jvm Jvm.ClassFile Sem Op Lib Jvm.Free Jvm.Stand Jvm.Pilot.@@N@@.Jvm.D
/-! MADE BY PROGRAM (witnessworld.py) out of the Statement's table words and the real class files: 35 classes; the members and pool entries that the words name. The judged class is class 1, her method 1. -/
namespace start1
open Jvm.ClassFile
def u (s : String) : CpInfo := .utf8 (stringToUtf16 s)
/-- a pool by its gaps: so many unusable entries, then the entry; so many at the end -/
def gap : Nat → List CpInfo → List CpInfo
  | 0, r => r
  | n + 1, r => .unusable :: gap n r
def poolList (es : List (Nat × CpInfo)) (last : Nat) : List CpInfo := es.foldr (fun e r => gap e.1 (e.2 :: r)) (gap last [])
def pool (es : List (Nat × CpInfo)) (last : Nat) : Array CpInfo := ⟨poolList es last⟩
def fileOf (pool : Array CpInfo) (this : Nat) (attrs : Array Attribute := #[]) (ms : Array MethodInfo := #[]) (fl : Nat := 33) (sup : Nat := 0) (ifs : Array Nat := #[]) (fds : Array FieldInfo := #[]) : ClassFile where
  minorVersion := 0
  majorVersion := 65
  constantPool := pool
  accessFlags := fl
  thisClass := this
  superClass := sup
  interfaces := ifs
  fields := fds
  methods := ms
  attributes := attrs
def plain (name : String) (sup : Option ClassId) : Class where
  name := name
  kind := .ordinary
  loader := none
  accessFlags := 33
  super := sup
  interfaces := #[]
  cf := none
  fields := #[]
  methods := #[]
  instanceTypes := #[]
  staticTypes := #[]
  resolved := #[]
  callSites := []
  init := .initialized
  statics := none
  mirror := none

def pool0 : Array CpInfo := pool [(5, u "<init>"), (0, u "()V"), (1, .class_ 10), (1, u "java/lang/Object")] 113

def k0c0 : Code := { maxStack := 0, maxLocals := 1, code := object_method_1_code, exceptionTable := #[], attributes := #[] }
def k0m0 : Method := { name := "<init>", desc := "()V", sig := { parameters := [], returnType := none }, accessFlags := 1, code := some k0c0 }
/-- java/lang/Object -/
def k0 : Class := { plain "java/lang/Object" none with
  accessFlags := 33
  interfaces := #[]
  cf := some (fileOf pool0 8 #[] #[{ accessFlags := 1, nameIndex := 5, descriptorIndex := 6, attributes := #[] }] 33 0 #[] #[])
  fields := #[]
  methods := #[k0m0]
  instanceTypes := #[]
  staticTypes := #[]
  resolved := Array.replicate 124 none
  statics := none }

def pool1 : Array CpInfo := pool [(2, .class_ 4), (1, u "java/lang/Object"), (0, u "<init>"), (0, u "()V"), (0, .class_ 8), (0, u "java/lang/String"), (0, .methodref 7 10), (0, .nameAndType 5 11), (0, u "([C)V"), (0, .class_ 13), (0, u "com/example/reliquary/reliquary/UserException"), (0, .methodref 12 15), (0, .nameAndType 5 16), (0, u "(Ljava/lang/String;Ljava/lang/String;)V"), (0, .methodref 12 18), (0, .nameAndType 5 19), (0, u "(Ljava/lang/String;)V"), (0, .methodref 12 21), (0, .nameAndType 22 23), (0, u "userMessage"), (0, u "()Ljava/lang/String;"), (0, .methodref 12 25), (0, .nameAndType 26 23), (0, u "getMessage"), (0, .class_ 28), (0, u "com/example/reliquary/reliquary/UserExceptionUserMessagePinLaw"), (2, u "law"), (0, u "(III)Z")] 5

def k1m0 : Method := { name := "<init>", desc := "()V", sig := { parameters := [], returnType := none }, accessFlags := 1, code := none }
def k1c1 : Code := { maxStack := 5, maxLocals := 11, code := code, exceptionTable := #[], attributes := #[] }
def k1m1 : Method := { name := "law", desc := "(III)Z", sig := { parameters := [.int, .int, .int], returnType := some .boolean }, accessFlags := 9, code := some k1c1 }
/-- com/example/reliquary/reliquary/UserExceptionUserMessagePinLaw -/
def k1 : Class := { plain "com/example/reliquary/reliquary/UserExceptionUserMessagePinLaw" (some 0) with
  accessFlags := 49
  interfaces := #[]
  cf := some (fileOf pool1 27 #[] #[{ accessFlags := 1, nameIndex := 5, descriptorIndex := 6, attributes := #[] }, { accessFlags := 9, nameIndex := 31, descriptorIndex := 32, attributes := #[] }] 49 2 #[] #[])
  fields := #[]
  methods := #[k1m0, k1m1]
  instanceTypes := #[]
  staticTypes := #[]
  resolved := Array.replicate 38 none
  statics := none }

def pool2 : Array CpInfo := pool [(1, .class_ 2), (0, u "java/io/Serializable"), (0, .class_ 4), (0, u "java/lang/Object")] 2

/-- java/io/Serializable -/
def k2 : Class := { plain "java/io/Serializable" (some 0) with
  accessFlags := 1537
  interfaces := #[]
  cf := some (fileOf pool2 1 #[] #[] 1537 3 #[] #[])
  fields := #[]
  methods := #[]
  instanceTypes := #[]
  staticTypes := #[]
  resolved := Array.replicate 7 none
  statics := none }

def pool3 : Array CpInfo := pool [(1, .class_ 2), (0, u "java/lang/Comparable"), (0, .class_ 4), (0, u "java/lang/Object")] 7

/-- java/lang/Comparable -/
def k3 : Class := { plain "java/lang/Comparable" (some 0) with
  accessFlags := 1537
  interfaces := #[]
  cf := some (fileOf pool3 1 #[] #[] 1537 3 #[] #[])
  fields := #[]
  methods := #[]
  instanceTypes := #[]
  staticTypes := #[]
  resolved := Array.replicate 12 none
  statics := none }

def pool4 : Array CpInfo := pool [(2, .class_ 4), (1, u "java/lang/CharSequence"), (42, .class_ 48), (0, u "java/lang/CharSequence$1CodePointIterator"), (10, .class_ 60), (0, u "java/lang/CharSequence$1CharIterator"), (5, .class_ 67), (0, u "java/lang/Object")] 63

/-- java/lang/CharSequence -/
def k4 : Class := { plain "java/lang/CharSequence" (some 0) with
  accessFlags := 1537
  interfaces := #[]
  cf := some (fileOf pool4 2 #[.nestMembers #[47, 59]] #[] 1537 66 #[] #[])
  fields := #[]
  methods := #[]
  instanceTypes := #[]
  staticTypes := #[]
  resolved := Array.replicate 131 none
  statics := none }

def pool5 : Array CpInfo := pool [(1, .class_ 2), (0, u "java/lang/constant/Constable"), (0, .class_ 4), (0, u "java/lang/Object")] 6

/-- java/lang/constant/Constable -/
def k5 : Class := { plain "java/lang/constant/Constable" (some 0) with
  accessFlags := 1537
  interfaces := #[]
  cf := some (fileOf pool5 1 #[] #[] 1537 3 #[] #[])
  fields := #[]
  methods := #[]
  instanceTypes := #[]
  staticTypes := #[]
  resolved := Array.replicate 11 none
  statics := none }

def pool6 : Array CpInfo := pool [(1, .class_ 2), (0, u "java/lang/constant/ConstantDesc"), (0, .class_ 4), (0, u "java/lang/Object")] 32

/-- java/lang/constant/ConstantDesc -/
def k6 : Class := { plain "java/lang/constant/ConstantDesc" (some 0) with
  accessFlags := 1537
  interfaces := #[]
  cf := some (fileOf pool6 1 #[] #[] 1537 3 #[] #[])
  fields := #[]
  methods := #[]
  instanceTypes := #[]
  staticTypes := #[]
  resolved := Array.replicate 37 none
  statics := none }

def pool7 : Array CpInfo := pool [(1, .methodref 2 3), (0, .class_ 4), (0, .nameAndType 5 6), (0, u "java/lang/Object"), (0, u "<init>"), (0, u "()V"), (2, .fieldref 10 11), (0, .class_ 12), (0, .nameAndType 13 14), (0, u "java/lang/String"), (0, u "value"), (0, u "[B"), (0, .fieldref 10 16), (0, .nameAndType 17 18), (0, u "coder"), (0, u "B"), (2, u "hash"), (0, u "I"), (2, u "hashIsZero"), (0, u "Z"), (0, .methodref 10 28), (0, .nameAndType 5 29), (0, u "([CIILjava/lang/Void;)V"), (8, .fieldref 10 39), (0, .nameAndType 40 26), (0, u "COMPACT_STRINGS"), (1, .class_ 44), (1, u "java/lang/StringUTF16"), (0, u "compress"), (1, .methodref 42 48), (0, .nameAndType 49 50), (0, u "coderFromArrayLen"), (0, u "([BI)B"), (126, .methodref 42 178), (0, .nameAndType 45 179), (0, u "([CII)[B"), (395, .class_ 576), (0, u "java/lang/CharSequence"), (22, u "CASE_INSENSITIVE_ORDER"), (0, u "Ljava/util/Comparator;"), (409, u "([C)V"), (90, u "serialPersistentFields"), (0, u "[Ljava/io/ObjectStreamField;"), (0, .class_ 1104), (0, u "java/lang/String$CaseInsensitiveComparator"), (1, .class_ 1107), (0, u "java/io/Serializable"), (0, .class_ 1109), (0, u "java/lang/Comparable"), (0, .class_ 1111), (0, u "java/lang/constant/Constable"), (0, .class_ 1113), (0, u "java/lang/constant/ConstantDesc"), (2, u "serialVersionUID"), (0, u "J"), (3, u "REPL"), (0, u "C"), (2, u "LATIN1"), (1, u "UTF16")] 323

def k7m0 : Method := { name := "<init>", desc := "()V", sig := { parameters := [], returnType := none }, accessFlags := 1, code := none }
def k7c1 : Code := { maxStack := 5, maxLocals := 2, code := jdk_42_method_3_code, exceptionTable := #[], attributes := #[] }
def k7m1 : Method := { name := "<init>", desc := "([C)V", sig := { parameters := [(.array .char)], returnType := none }, accessFlags := 1, code := some k7c1 }
def k7c2 : Code := { maxStack := 4, maxLocals := 6, code := jdk_42_method_149_code, exceptionTable := #[], attributes := #[] }
def k7m2 : Method := { name := "<init>", desc := "([CIILjava/lang/Void;)V", sig := { parameters := [(.array .char), .int, .int, (.object "java/lang/Void")], returnType := none }, accessFlags := 2, code := some k7c2 }
/-- java/lang/String -/
def k7 : Class := { plain "java/lang/String" (some 0) with
  accessFlags := 49
  interfaces := #[2, 3, 4, 5, 6]
  cf := some (fileOf pool7 10 #[.nestMembers #[1103]] #[{ accessFlags := 1, nameIndex := 5, descriptorIndex := 6, attributes := #[] }, { accessFlags := 1, nameIndex := 5, descriptorIndex := 1010, attributes := #[] }, { accessFlags := 2, nameIndex := 5, descriptorIndex := 29, attributes := #[] }] 49 2 #[1106, 1108, 575, 1110, 1112] #[{ accessFlags := 18, nameIndex := 13, descriptorIndex := 14, attributes := #[] }, { accessFlags := 18, nameIndex := 17, descriptorIndex := 18, attributes := #[] }, { accessFlags := 2, nameIndex := 21, descriptorIndex := 22, attributes := #[] }, { accessFlags := 2, nameIndex := 25, descriptorIndex := 26, attributes := #[] }, { accessFlags := 26, nameIndex := 1116, descriptorIndex := 1117, attributes := #[] }, { accessFlags := 24, nameIndex := 40, descriptorIndex := 26, attributes := #[] }, { accessFlags := 26, nameIndex := 1101, descriptorIndex := 1102, attributes := #[] }, { accessFlags := 26, nameIndex := 1121, descriptorIndex := 1122, attributes := #[] }, { accessFlags := 25, nameIndex := 599, descriptorIndex := 600, attributes := #[] }, { accessFlags := 24, nameIndex := 1125, descriptorIndex := 18, attributes := #[] }, { accessFlags := 24, nameIndex := 1127, descriptorIndex := 18, attributes := #[] }])
  fields := #[{ name := "value", type := (.array .byte), accessFlags := 18, slot := 0, constantValue := 0 }, { name := "coder", type := .byte, accessFlags := 18, slot := 1, constantValue := 0 }, { name := "hash", type := .int, accessFlags := 2, slot := 2, constantValue := 0 }, { name := "hashIsZero", type := .boolean, accessFlags := 2, slot := 3, constantValue := 0 }, { name := "serialVersionUID", type := .long, accessFlags := 26, slot := 0, constantValue := 0 }, { name := "COMPACT_STRINGS", type := .boolean, accessFlags := 24, slot := 1, constantValue := 0 }, { name := "serialPersistentFields", type := (.array (.object "java/io/ObjectStreamField")), accessFlags := 26, slot := 2, constantValue := 0 }, { name := "REPL", type := .char, accessFlags := 26, slot := 3, constantValue := 0 }, { name := "CASE_INSENSITIVE_ORDER", type := (.object "java/util/Comparator"), accessFlags := 25, slot := 4, constantValue := 0 }, { name := "LATIN1", type := .byte, accessFlags := 24, slot := 5, constantValue := 0 }, { name := "UTF16", type := .byte, accessFlags := 24, slot := 6, constantValue := 0 }]
  methods := #[k7m0, k7m1, k7m2]
  instanceTypes := #[(.array .byte), .byte, .int, .boolean]
  staticTypes := #[.long, .boolean, (.array (.object "java/io/ObjectStreamField")), .char, (.object "java/util/Comparator"), .byte, .byte]
  resolved := Array.replicate 1451 none
  statics := some 0 }

def pool8 : Array CpInfo := pool [(6, .class_ 8), (1, u "java/lang/Object"), (0, u "<init>"), (0, u "()V"), (1, .class_ 14), (1, u "java/lang/StringUTF16"), (31, u "$assertionsDisabled"), (0, u "Z"), (13, u "HI_BYTE_SHIFT"), (0, u "I"), (2, u "LO_BYTE_SHIFT"), (49, .methodref 12 116), (0, .nameAndType 117 118), (0, u "compress"), (0, u "([CI[BII)I"), (3, u "([CII)[B"), (138, u "coderFromArrayLen"), (0, u "([BI)B"), (106, .class_ 371), (1, u "java/lang/StringUTF16$LinesSpliterator"), (58, u "MAX_LENGTH"), (196, .class_ 628), (0, u "java/lang/StringUTF16$CodePointsSpliterator"), (0, .class_ 630), (0, u "java/lang/StringUTF16$CharsSpliterator")] 4

def k8m0 : Method := { name := "<init>", desc := "()V", sig := { parameters := [], returnType := none }, accessFlags := 0, code := none }
def k8c1 : Code := { maxStack := 2, maxLocals := 2, code := jdk_52_method_15_code, exceptionTable := #[], attributes := #[] }
def k8m1 : Method := { name := "coderFromArrayLen", desc := "([BI)B", sig := { parameters := [(.array .byte), .int], returnType := some .byte }, accessFlags := 8, code := some k8c1 }
def k8c2 : Code := { maxStack := 5, maxLocals := 6, code := jdk_52_method_16_code, exceptionTable := #[], attributes := #[] }
def k8m2 : Method := { name := "compress", desc := "([CII)[B", sig := { parameters := [(.array .char), .int, .int], returnType := some (.array .byte) }, accessFlags := 9, code := some k8c2 }
def k8c3 : Code := { maxStack := 3, maxLocals := 7, code := jdk_52_method_21_code, exceptionTable := #[], attributes := #[] }
def k8m3 : Method := { name := "compress", desc := "([CI[BII)I", sig := { parameters := [(.array .char), .int, (.array .byte), .int, .int], returnType := some .int }, accessFlags := 9, code := some k8c3 }
/-- java/lang/StringUTF16 -/
def k8 : Class := { plain "java/lang/StringUTF16" (some 0) with
  accessFlags := 48
  interfaces := #[]
  cf := some (fileOf pool8 12 #[.nestMembers #[627, 629, 369]] #[{ accessFlags := 0, nameIndex := 9, descriptorIndex := 10, attributes := #[] }, { accessFlags := 8, nameIndex := 261, descriptorIndex := 262, attributes := #[] }, { accessFlags := 9, nameIndex := 117, descriptorIndex := 122, attributes := #[] }, { accessFlags := 9, nameIndex := 117, descriptorIndex := 118, attributes := #[] }] 48 6 #[] #[{ accessFlags := 26, nameIndex := 61, descriptorIndex := 62, attributes := #[] }, { accessFlags := 26, nameIndex := 65, descriptorIndex := 62, attributes := #[] }, { accessFlags := 24, nameIndex := 430, descriptorIndex := 62, attributes := #[] }, { accessFlags := 4120, nameIndex := 46, descriptorIndex := 47, attributes := #[] }])
  fields := #[{ name := "HI_BYTE_SHIFT", type := .int, accessFlags := 26, slot := 0, constantValue := 0 }, { name := "LO_BYTE_SHIFT", type := .int, accessFlags := 26, slot := 1, constantValue := 0 }, { name := "MAX_LENGTH", type := .int, accessFlags := 24, slot := 2, constantValue := 0 }, { name := "$assertionsDisabled", type := .boolean, accessFlags := 4120, slot := 3, constantValue := 0 }]
  methods := #[k8m0, k8m1, k8m2, k8m3]
  instanceTypes := #[]
  staticTypes := #[.int, .int, .int, .boolean]
  resolved := Array.replicate 635 none
  statics := none }

def pool9 : Array CpInfo := pool [(1, .methodref 2 3), (0, .class_ 4), (0, .nameAndType 5 6), (0, u "java/lang/Object"), (0, u "<init>"), (0, u "()V"), (0, .fieldref 8 9), (0, .class_ 10), (0, .nameAndType 11 12), (0, u "java/lang/Throwable"), (0, u "cause"), (0, u "Ljava/lang/Throwable;"), (0, .fieldref 8 14), (0, .nameAndType 15 16), (0, u "UNASSIGNED_STACK"), (0, u "[Ljava/lang/StackTraceElement;"), (0, .fieldref 8 18), (0, .nameAndType 19 16), (0, u "stackTrace"), (0, .fieldref 8 21), (0, .nameAndType 22 23), (0, u "SUPPRESSED_SENTINEL"), (0, u "Ljava/util/List;"), (0, .fieldref 8 25), (0, .nameAndType 26 23), (0, u "suppressedExceptions"), (0, .methodref 8 28), (0, .nameAndType 29 30), (0, u "fillInStackTrace"), (0, u "()Ljava/lang/Throwable;"), (0, .fieldref 8 32), (0, .nameAndType 33 34), (0, u "detailMessage"), (0, u "Ljava/lang/String;"), (3, u "()Ljava/lang/String;"), (2, u "getMessage"), (51, .class_ 94), (0, u "java/lang/Throwable$WrappedPrintStream"), (6, .class_ 103), (1, u "java/lang/Throwable$PrintStreamOrWriter"), (61, u "$assertionsDisabled"), (0, u "Z"), (26, .class_ 194), (0, u "java/lang/Throwable$WrappedPrintWriter"), (3, .fieldref 8 199), (0, .nameAndType 200 201), (0, u "backtrace"), (0, u "Ljava/lang/Object;"), (0, .methodref 8 203), (0, .nameAndType 29 204), (0, u "(I)Ljava/lang/Throwable;"), (6, u "depth"), (0, u "I"), (10, u "(Ljava/lang/String;)V"), (45, .class_ 271), (1, u "java/lang/Throwable$SentinelHolder"), (32, u "EMPTY_THROWABLE_ARRAY"), (0, u "[Ljava/lang/Throwable;"), (12, .class_ 319), (0, u "java/io/Serializable"), (0, u "serialVersionUID"), (0, u "J"), (5, u "NULL_CAUSE_MESSAGE"), (0, u "SELF_SUPPRESSION_MESSAGE"), (0, u "CAUSE_CAPTION"), (0, u "SUPPRESSED_CAPTION")] 73

def k9c0 : Code := { maxStack := 2, maxLocals := 1, code := jdk_78_method_1_code, exceptionTable := #[], attributes := #[] }
def k9m0 : Method := { name := "<init>", desc := "()V", sig := { parameters := [], returnType := none }, accessFlags := 1, code := some k9c0 }
def k9c1 : Code := { maxStack := 2, maxLocals := 2, code := jdk_78_method_2_code, exceptionTable := #[], attributes := #[] }
def k9m1 : Method := { name := "<init>", desc := "(Ljava/lang/String;)V", sig := { parameters := [(.object "java/lang/String")], returnType := none }, accessFlags := 1, code := some k9c1 }
def k9c2 : Code := { maxStack := 1, maxLocals := 1, code := jdk_78_method_6_code, exceptionTable := #[], attributes := #[] }
def k9m2 : Method := { name := "getMessage", desc := "()Ljava/lang/String;", sig := { parameters := [], returnType := some (.object "java/lang/String") }, accessFlags := 1, code := some k9c2 }
def k9c3 : Code := { maxStack := 2, maxLocals := 1, code := ⟨#[0x2a, 0xb4, 0x00, 0x11, 0xc7, 0x00, 0x0a, 0x2a, 0xb4, 0x00, 0xc6, 0xc6, 0x00, 0x10, 0x2a, 0x03, 0xb6, 0x00, 0xca, 0x57, 0x2a, 0xb2, 0x00, 0x0d, 0xb5, 0x00, 0x11, 0x2a, 0xb0]⟩, exceptionTable := #[], attributes := #[] }
def k9m3 : Method := { name := "fillInStackTrace", desc := "()Ljava/lang/Throwable;", sig := { parameters := [], returnType := some (.object "java/lang/Throwable") }, accessFlags := 33, code := some k9c3 }
def k9m4 : Method := { name := "fillInStackTrace", desc := "(I)Ljava/lang/Throwable;", sig := { parameters := [.int], returnType := some (.object "java/lang/Throwable") }, accessFlags := 258, code := none }
/-- java/lang/Throwable -/
def k9 : Class := { plain "java/lang/Throwable" (some 0) with
  accessFlags := 33
  interfaces := #[2]
  cf := some (fileOf pool9 8 #[.nestMembers #[193, 93, 101, 269]] #[{ accessFlags := 1, nameIndex := 5, descriptorIndex := 6, attributes := #[] }, { accessFlags := 1, nameIndex := 5, descriptorIndex := 223, attributes := #[] }, { accessFlags := 1, nameIndex := 41, descriptorIndex := 38, attributes := #[] }, { accessFlags := 33, nameIndex := 29, descriptorIndex := 30, attributes := #[] }, { accessFlags := 258, nameIndex := 29, descriptorIndex := 204, attributes := #[] }] 33 2 #[318] #[{ accessFlags := 26, nameIndex := 320, descriptorIndex := 321, attributes := #[] }, { accessFlags := 130, nameIndex := 200, descriptorIndex := 201, attributes := #[] }, { accessFlags := 2, nameIndex := 33, descriptorIndex := 34, attributes := #[] }, { accessFlags := 26, nameIndex := 15, descriptorIndex := 16, attributes := #[] }, { accessFlags := 2, nameIndex := 11, descriptorIndex := 12, attributes := #[] }, { accessFlags := 2, nameIndex := 19, descriptorIndex := 16, attributes := #[] }, { accessFlags := 130, nameIndex := 211, descriptorIndex := 212, attributes := #[] }, { accessFlags := 26, nameIndex := 22, descriptorIndex := 23, attributes := #[] }, { accessFlags := 2, nameIndex := 26, descriptorIndex := 23, attributes := #[] }, { accessFlags := 26, nameIndex := 327, descriptorIndex := 34, attributes := #[] }, { accessFlags := 26, nameIndex := 328, descriptorIndex := 34, attributes := #[] }, { accessFlags := 26, nameIndex := 329, descriptorIndex := 34, attributes := #[] }, { accessFlags := 26, nameIndex := 330, descriptorIndex := 34, attributes := #[] }, { accessFlags := 26, nameIndex := 304, descriptorIndex := 305, attributes := #[] }, { accessFlags := 4120, nameIndex := 165, descriptorIndex := 166, attributes := #[] }])
  fields := #[{ name := "serialVersionUID", type := .long, accessFlags := 26, slot := 0, constantValue := 0 }, { name := "backtrace", type := (.object "java/lang/Object"), accessFlags := 130, slot := 0, constantValue := 0 }, { name := "detailMessage", type := (.object "java/lang/String"), accessFlags := 2, slot := 1, constantValue := 0 }, { name := "UNASSIGNED_STACK", type := (.array (.object "java/lang/StackTraceElement")), accessFlags := 26, slot := 1, constantValue := 0 }, { name := "cause", type := (.object "java/lang/Throwable"), accessFlags := 2, slot := 2, constantValue := 0 }, { name := "stackTrace", type := (.array (.object "java/lang/StackTraceElement")), accessFlags := 2, slot := 3, constantValue := 0 }, { name := "depth", type := .int, accessFlags := 130, slot := 4, constantValue := 0 }, { name := "SUPPRESSED_SENTINEL", type := (.object "java/util/List"), accessFlags := 26, slot := 2, constantValue := 0 }, { name := "suppressedExceptions", type := (.object "java/util/List"), accessFlags := 2, slot := 5, constantValue := 0 }, { name := "NULL_CAUSE_MESSAGE", type := (.object "java/lang/String"), accessFlags := 26, slot := 3, constantValue := 0 }, { name := "SELF_SUPPRESSION_MESSAGE", type := (.object "java/lang/String"), accessFlags := 26, slot := 4, constantValue := 0 }, { name := "CAUSE_CAPTION", type := (.object "java/lang/String"), accessFlags := 26, slot := 5, constantValue := 0 }, { name := "SUPPRESSED_CAPTION", type := (.object "java/lang/String"), accessFlags := 26, slot := 6, constantValue := 0 }, { name := "EMPTY_THROWABLE_ARRAY", type := (.array (.object "java/lang/Throwable")), accessFlags := 26, slot := 7, constantValue := 0 }, { name := "$assertionsDisabled", type := .boolean, accessFlags := 4120, slot := 8, constantValue := 0 }]
  methods := #[k9m0, k9m1, k9m2, k9m3, k9m4]
  instanceTypes := #[(.object "java/lang/Object"), (.object "java/lang/String"), (.object "java/lang/Throwable"), (.array (.object "java/lang/StackTraceElement")), .int, (.object "java/util/List")]
  staticTypes := #[.long, (.array (.object "java/lang/StackTraceElement")), (.object "java/util/List"), (.object "java/lang/String"), (.object "java/lang/String"), (.object "java/lang/String"), (.object "java/lang/String"), (.array (.object "java/lang/Throwable")), .boolean]
  resolved := Array.replicate 404 none
  statics := some 1 }

def pool10 : Array CpInfo := pool [(2, .class_ 4), (1, u "java/lang/Throwable"), (0, u "<init>"), (0, u "()V"), (0, .methodref 2 8), (0, .nameAndType 5 9), (0, u "(Ljava/lang/String;)V"), (9, .class_ 20), (0, u "java/lang/Exception"), (0, u "serialVersionUID"), (0, u "J")] 17

def k10m0 : Method := { name := "<init>", desc := "()V", sig := { parameters := [], returnType := none }, accessFlags := 1, code := none }
def k10c1 : Code := { maxStack := 2, maxLocals := 2, code := jdk_59_method_2_code, exceptionTable := #[], attributes := #[] }
def k10m1 : Method := { name := "<init>", desc := "(Ljava/lang/String;)V", sig := { parameters := [(.object "java/lang/String")], returnType := none }, accessFlags := 1, code := some k10c1 }
/-- java/lang/Exception -/
def k10 : Class := { plain "java/lang/Exception" (some 9) with
  accessFlags := 33
  interfaces := #[]
  cf := some (fileOf pool10 19 #[] #[{ accessFlags := 1, nameIndex := 5, descriptorIndex := 6, attributes := #[] }, { accessFlags := 1, nameIndex := 5, descriptorIndex := 9, attributes := #[] }] 33 2 #[] #[{ accessFlags := 24, nameIndex := 21, descriptorIndex := 22, attributes := #[] }])
  fields := #[{ name := "serialVersionUID", type := .long, accessFlags := 24, slot := 0, constantValue := 0 }]
  methods := #[k10m0, k10m1]
  instanceTypes := #[(.object "java/lang/Object"), (.object "java/lang/String"), (.object "java/lang/Throwable"), (.array (.object "java/lang/StackTraceElement")), .int, (.object "java/util/List")]
  staticTypes := #[.long]
  resolved := Array.replicate 40 none
  statics := none }

def pool11 : Array CpInfo := pool [(1, .methodref 2 3), (0, .class_ 4), (0, .nameAndType 5 6), (0, u "java/lang/Exception"), (0, u "<init>"), (0, u "(Ljava/lang/String;)V"), (0, .fieldref 8 9), (0, .class_ 10), (0, .nameAndType 11 12), (0, u "com/example/reliquary/reliquary/UserException"), (0, u "userMessage"), (0, u "Ljava/lang/String;"), (0, .methodref 8 14), (0, .nameAndType 15 16), (0, u "getMessage"), (0, u "()Ljava/lang/String;"), (0, u "serialVersionUID"), (0, u "J"), (5, u "(Ljava/lang/String;Ljava/lang/String;)V")] 5

def k11c0 : Code := { maxStack := 2, maxLocals := 2, code := prog_12_method_1_code, exceptionTable := #[], attributes := #[] }
def k11m0 : Method := { name := "<init>", desc := "(Ljava/lang/String;)V", sig := { parameters := [(.object "java/lang/String")], returnType := none }, accessFlags := 1, code := some k11c0 }
def k11c1 : Code := { maxStack := 2, maxLocals := 3, code := prog_12_method_2_code, exceptionTable := #[], attributes := #[] }
def k11m1 : Method := { name := "<init>", desc := "(Ljava/lang/String;Ljava/lang/String;)V", sig := { parameters := [(.object "java/lang/String"), (.object "java/lang/String")], returnType := none }, accessFlags := 1, code := some k11c1 }
def k11c2 : Code := { maxStack := 1, maxLocals := 1, code := prog_12_method_3_code, exceptionTable := #[], attributes := #[] }
def k11m2 : Method := { name := "userMessage", desc := "()Ljava/lang/String;", sig := { parameters := [], returnType := some (.object "java/lang/String") }, accessFlags := 1, code := some k11c2 }
/-- com/example/reliquary/reliquary/UserException -/
def k11 : Class := { plain "com/example/reliquary/reliquary/UserException" (some 10) with
  accessFlags := 33
  interfaces := #[]
  cf := some (fileOf pool11 8 #[] #[{ accessFlags := 1, nameIndex := 5, descriptorIndex := 6, attributes := #[] }, { accessFlags := 1, nameIndex := 5, descriptorIndex := 24, attributes := #[] }, { accessFlags := 1, nameIndex := 11, descriptorIndex := 16, attributes := #[] }] 33 2 #[] #[{ accessFlags := 26, nameIndex := 17, descriptorIndex := 18, attributes := #[] }, { accessFlags := 18, nameIndex := 11, descriptorIndex := 12, attributes := #[] }])
  fields := #[{ name := "serialVersionUID", type := .long, accessFlags := 26, slot := 0, constantValue := 0 }, { name := "userMessage", type := (.object "java/lang/String"), accessFlags := 18, slot := 6, constantValue := 0 }]
  methods := #[k11m0, k11m1, k11m2]
  instanceTypes := #[(.object "java/lang/Object"), (.object "java/lang/String"), (.object "java/lang/Throwable"), (.array (.object "java/lang/StackTraceElement")), .int, (.object "java/util/List"), (.object "java/lang/String")]
  staticTypes := #[.long]
  resolved := Array.replicate 30 none
  statics := none }

def pool12 : Array CpInfo := pool [(4, .class_ 6), (1, u "java/lang/Object"), (0, u "<init>"), (0, u "()V"), (5, .class_ 16), (1, u "java/lang/StringLatin1"), (104, u "$assertionsDisabled"), (0, u "Z"), (98, .class_ 223), (1, u "java/lang/StringLatin1$LinesSpliterator"), (166, .class_ 391), (0, u "java/lang/StringLatin1$CharsSpliterator")] 3

def k12m0 : Method := { name := "<init>", desc := "()V", sig := { parameters := [], returnType := none }, accessFlags := 0, code := none }
/-- java/lang/StringLatin1 -/
def k12 : Class := { plain "java/lang/StringLatin1" (some 0) with
  accessFlags := 48
  interfaces := #[]
  cf := some (fileOf pool12 14 #[.nestMembers #[390, 221]] #[{ accessFlags := 0, nameIndex := 7, descriptorIndex := 8, attributes := #[] }] 48 4 #[] #[{ accessFlags := 4120, nameIndex := 121, descriptorIndex := 122, attributes := #[] }])
  fields := #[{ name := "$assertionsDisabled", type := .boolean, accessFlags := 4120, slot := 0, constantValue := 0 }]
  methods := #[k12m0]
  instanceTypes := #[]
  staticTypes := #[.boolean]
  resolved := Array.replicate 395 none
  statics := none }

def pool13 : Array CpInfo := pool [(2, .class_ 4), (1, u "java/lang/Object"), (0, u "<init>"), (0, u "()V"), (17, .class_ 26), (1, u "jdk/internal/util/Preconditions"), (28, .class_ 56), (0, u "jdk/internal/util/Preconditions$4"), (57, .class_ 115), (0, u "jdk/internal/util/Preconditions$1"), (7, u "SIOOBE_FORMATTER"), (0, u "Ljava/util/function/BiFunction;"), (0, .class_ 126), (0, u "jdk/internal/util/Preconditions$2"), (3, u "AIOOBE_FORMATTER"), (0, .class_ 132), (0, u "jdk/internal/util/Preconditions$3"), (3, u "IOOBE_FORMATTER")] 57

def k13m0 : Method := { name := "<init>", desc := "()V", sig := { parameters := [], returnType := none }, accessFlags := 1, code := none }
/-- jdk/internal/util/Preconditions -/
def k13 : Class := { plain "jdk/internal/util/Preconditions" (some 0) with
  accessFlags := 33
  interfaces := #[]
  cf := some (fileOf pool13 24 #[.nestMembers #[55, 131, 125, 114]] #[{ accessFlags := 1, nameIndex := 5, descriptorIndex := 6, attributes := #[] }] 33 2 #[] #[{ accessFlags := 25, nameIndex := 123, descriptorIndex := 124, attributes := #[] }, { accessFlags := 25, nameIndex := 130, descriptorIndex := 124, attributes := #[] }, { accessFlags := 25, nameIndex := 136, descriptorIndex := 124, attributes := #[] }])
  fields := #[{ name := "SIOOBE_FORMATTER", type := (.object "java/util/function/BiFunction"), accessFlags := 25, slot := 0, constantValue := 0 }, { name := "AIOOBE_FORMATTER", type := (.object "java/util/function/BiFunction"), accessFlags := 25, slot := 1, constantValue := 0 }, { name := "IOOBE_FORMATTER", type := (.object "java/util/function/BiFunction"), accessFlags := 25, slot := 2, constantValue := 0 }]
  methods := #[k13m0]
  instanceTypes := #[]
  staticTypes := #[(.object "java/util/function/BiFunction"), (.object "java/util/function/BiFunction"), (.object "java/util/function/BiFunction")]
  resolved := Array.replicate 194 none
  statics := some 2 }

def pool14 : Array CpInfo := pool [(9, u "<init>"), (6, .class_ 18), (1, u "java/lang/Object"), (0, u "()V"), (1, .class_ 23), (1, u "jdk/internal/util/ArraysSupport"), (0, u "LOG2_ARRAY_LONG_INDEX_SCALE"), (0, u "I"), (2, u "U"), (0, u "Ljdk/internal/misc/Unsafe;"), (8, u "BIG_ENDIAN"), (0, u "Z"), (8, u "LOG2_BYTE_BIT_SIZE"), (4, u "LOG2_ARRAY_INT_INDEX_SCALE"), (54, u "JLA"), (0, u "Ljdk/internal/access/JavaLangAccess;"), (11, u "LOG2_ARRAY_BOOLEAN_INDEX_SCALE"), (9, u "LOG2_ARRAY_BYTE_INDEX_SCALE"), (5, u "LOG2_ARRAY_CHAR_INDEX_SCALE"), (5, u "LOG2_ARRAY_SHORT_INDEX_SCALE"), (18, u "LOG2_ARRAY_FLOAT_INDEX_SCALE"), (24, u "LOG2_ARRAY_DOUBLE_INDEX_SCALE"), (89, u "T_BOOLEAN"), (2, u "T_CHAR"), (1, u "T_FLOAT"), (1, u "T_DOUBLE"), (1, u "T_BYTE"), (1, u "T_SHORT"), (1, u "T_INT"), (1, u "T_LONG"), (1, u "SOFT_MAX_ARRAY_LENGTH")] 83

def k14m0 : Method := { name := "<init>", desc := "()V", sig := { parameters := [], returnType := none }, accessFlags := 2, code := none }
/-- jdk/internal/util/ArraysSupport -/
def k14 : Class := { plain "jdk/internal/util/ArraysSupport" (some 0) with
  accessFlags := 33
  interfaces := #[]
  cf := some (fileOf pool14 21 #[] #[{ accessFlags := 2, nameIndex := 9, descriptorIndex := 19, attributes := #[] }] 33 16 #[] #[{ accessFlags := 24, nameIndex := 28, descriptorIndex := 29, attributes := #[] }, { accessFlags := 26, nameIndex := 38, descriptorIndex := 39, attributes := #[] }, { accessFlags := 25, nameIndex := 121, descriptorIndex := 25, attributes := #[] }, { accessFlags := 25, nameIndex := 131, descriptorIndex := 25, attributes := #[] }, { accessFlags := 25, nameIndex := 137, descriptorIndex := 25, attributes := #[] }, { accessFlags := 25, nameIndex := 143, descriptorIndex := 25, attributes := #[] }, { accessFlags := 25, nameIndex := 53, descriptorIndex := 25, attributes := #[] }, { accessFlags := 25, nameIndex := 24, descriptorIndex := 25, attributes := #[] }, { accessFlags := 25, nameIndex := 162, descriptorIndex := 25, attributes := #[] }, { accessFlags := 25, nameIndex := 187, descriptorIndex := 25, attributes := #[] }, { accessFlags := 26, nameIndex := 48, descriptorIndex := 25, attributes := #[] }, { accessFlags := 25, nameIndex := 277, descriptorIndex := 25, attributes := #[] }, { accessFlags := 25, nameIndex := 280, descriptorIndex := 25, attributes := #[] }, { accessFlags := 25, nameIndex := 282, descriptorIndex := 25, attributes := #[] }, { accessFlags := 25, nameIndex := 284, descriptorIndex := 25, attributes := #[] }, { accessFlags := 25, nameIndex := 286, descriptorIndex := 25, attributes := #[] }, { accessFlags := 25, nameIndex := 288, descriptorIndex := 25, attributes := #[] }, { accessFlags := 25, nameIndex := 290, descriptorIndex := 25, attributes := #[] }, { accessFlags := 25, nameIndex := 292, descriptorIndex := 25, attributes := #[] }, { accessFlags := 26, nameIndex := 108, descriptorIndex := 109, attributes := #[] }, { accessFlags := 25, nameIndex := 294, descriptorIndex := 25, attributes := #[] }])
  fields := #[{ name := "U", type := (.object "jdk/internal/misc/Unsafe"), accessFlags := 24, slot := 0, constantValue := 0 }, { name := "BIG_ENDIAN", type := .boolean, accessFlags := 26, slot := 1, constantValue := 0 }, { name := "LOG2_ARRAY_BOOLEAN_INDEX_SCALE", type := .int, accessFlags := 25, slot := 2, constantValue := 0 }, { name := "LOG2_ARRAY_BYTE_INDEX_SCALE", type := .int, accessFlags := 25, slot := 3, constantValue := 0 }, { name := "LOG2_ARRAY_CHAR_INDEX_SCALE", type := .int, accessFlags := 25, slot := 4, constantValue := 0 }, { name := "LOG2_ARRAY_SHORT_INDEX_SCALE", type := .int, accessFlags := 25, slot := 5, constantValue := 0 }, { name := "LOG2_ARRAY_INT_INDEX_SCALE", type := .int, accessFlags := 25, slot := 6, constantValue := 0 }, { name := "LOG2_ARRAY_LONG_INDEX_SCALE", type := .int, accessFlags := 25, slot := 7, constantValue := 0 }, { name := "LOG2_ARRAY_FLOAT_INDEX_SCALE", type := .int, accessFlags := 25, slot := 8, constantValue := 0 }, { name := "LOG2_ARRAY_DOUBLE_INDEX_SCALE", type := .int, accessFlags := 25, slot := 9, constantValue := 0 }, { name := "LOG2_BYTE_BIT_SIZE", type := .int, accessFlags := 26, slot := 10, constantValue := 0 }, { name := "T_BOOLEAN", type := .int, accessFlags := 25, slot := 11, constantValue := 0 }, { name := "T_CHAR", type := .int, accessFlags := 25, slot := 12, constantValue := 0 }, { name := "T_FLOAT", type := .int, accessFlags := 25, slot := 13, constantValue := 0 }, { name := "T_DOUBLE", type := .int, accessFlags := 25, slot := 14, constantValue := 0 }, { name := "T_BYTE", type := .int, accessFlags := 25, slot := 15, constantValue := 0 }, { name := "T_SHORT", type := .int, accessFlags := 25, slot := 16, constantValue := 0 }, { name := "T_INT", type := .int, accessFlags := 25, slot := 17, constantValue := 0 }, { name := "T_LONG", type := .int, accessFlags := 25, slot := 18, constantValue := 0 }, { name := "JLA", type := (.object "jdk/internal/access/JavaLangAccess"), accessFlags := 26, slot := 19, constantValue := 0 }, { name := "SOFT_MAX_ARRAY_LENGTH", type := .int, accessFlags := 25, slot := 20, constantValue := 0 }]
  methods := #[k14m0]
  instanceTypes := #[]
  staticTypes := #[(.object "jdk/internal/misc/Unsafe"), .boolean, .int, .int, .int, .int, .int, .int, .int, .int, .int, .int, .int, .int, .int, .int, .int, .int, .int, (.object "jdk/internal/access/JavaLangAccess"), .int]
  resolved := Array.replicate 378 none
  statics := none }

def pool15 : Array CpInfo := pool [(2, .class_ 4), (1, u "java/lang/Object"), (0, u "<init>"), (0, u "()V"), (12, .class_ 20), (0, u "java/util/Collections"), (63, u "r"), (0, u "Ljava/util/Random;"), (80, .class_ 167), (0, u "java/util/Collections$UnmodifiableCollection"), (6, .class_ 175), (0, u "java/util/Collections$UnmodifiableSequencedCollection"), (6, .class_ 183), (0, u "java/util/Collections$UnmodifiableSet"), (6, .class_ 191), (0, u "java/util/Collections$UnmodifiableSequencedSet"), (6, .class_ 199), (0, u "java/util/Collections$UnmodifiableSortedSet"), (6, .class_ 207), (0, u "java/util/Collections$UnmodifiableNavigableSet"), (4, .class_ 213), (0, u "java/util/Collections$UnmodifiableList"), (1, .class_ 216), (0, u "java/util/Collections$UnmodifiableRandomAccessList"), (6, .class_ 224), (0, u "java/util/Collections$UnmodifiableMap"), (6, .class_ 232), (0, u "java/util/Collections$UnmodifiableSequencedMap"), (4, .class_ 238), (0, u "java/util/Collections$UnmodifiableSortedMap"), (6, .class_ 246), (0, u "java/util/Collections$UnmodifiableNavigableMap"), (3, .class_ 251), (0, u "java/util/Collections$SynchronizedCollection"), (4, .class_ 257), (0, u "java/util/Collections$SynchronizedSet"), (4, .class_ 263), (0, u "java/util/Collections$SynchronizedSortedSet"), (1, .class_ 266), (0, u "java/util/Collections$SynchronizedNavigableSet"), (1, .class_ 269), (0, u "java/util/Collections$SynchronizedRandomAccessList"), (1, .class_ 272), (0, u "java/util/Collections$SynchronizedList"), (5, .class_ 279), (0, u "java/util/Collections$SynchronizedMap"), (1, .class_ 282), (0, u "java/util/Collections$SynchronizedSortedMap"), (1, .class_ 285), (0, u "java/util/Collections$SynchronizedNavigableMap"), (1, .class_ 288), (0, u "java/util/Collections$CheckedCollection"), (11, .class_ 301), (0, u "java/util/Collections$CheckedQueue"), (3, .class_ 306), (0, u "java/util/Collections$CheckedSet"), (3, .class_ 311), (0, u "java/util/Collections$CheckedSortedSet"), (3, .class_ 316), (0, u "java/util/Collections$CheckedNavigableSet"), (3, .class_ 321), (0, u "java/util/Collections$CheckedRandomAccessList"), (3, .class_ 326), (0, u "java/util/Collections$CheckedList"), (1, .class_ 329), (0, u "java/util/Collections$CheckedMap"), (3, .class_ 334), (0, u "java/util/Collections$CheckedSortedMap"), (3, .class_ 339), (0, u "java/util/Collections$CheckedNavigableMap"), (4, .class_ 346), (1, u "java/util/Collections$EmptyIterator"), (3, .class_ 352), (1, u "java/util/Collections$EmptyListIterator"), (2, .class_ 357), (1, u "java/util/Collections$EmptyEnumeration"), (4, u "EMPTY_SET"), (0, u "Ljava/util/Set;"), (6, u "EMPTY_LIST"), (0, u "Ljava/util/List;"), (2, u "EMPTY_MAP"), (0, u "Ljava/util/Map;"), (4, .class_ 381), (0, u "java/util/Collections$SingletonSet"), (2, .class_ 385), (0, u "java/util/Collections$1"), (1, .class_ 388), (0, u "java/util/Collections$2"), (1, .class_ 391), (0, u "java/util/Collections$SingletonList"), (1, .class_ 394), (0, u "java/util/Collections$SingletonMap"), (22, .class_ 418), (0, u "java/util/Collections$CopiesList"), (4, .class_ 425), (1, u "java/util/Collections$ReverseComparator"), (8, .class_ 435), (0, u "java/util/Collections$ReverseComparator2"), (6, .class_ 443), (0, u "java/util/Collections$3"), (25, .class_ 470), (0, u "java/util/Collections$SetFromMap"), (2, .class_ 474), (0, u "java/util/Collections$SequencedSetFromMap"), (3, .class_ 479), (0, u "java/util/Collections$AsLIFOQueue"), (11, .class_ 492), (0, u "java/util/Collections$EmptySet"), (1, .class_ 495), (0, u "java/util/Collections$EmptyList"), (1, .class_ 498), (0, u "java/util/Collections$EmptyMap"), (1, u "BINARYSEARCH_THRESHOLD"), (0, u "I"), (2, u "REVERSE_THRESHOLD"), (1, u "SHUFFLE_THRESHOLD"), (1, u "FILL_THRESHOLD"), (1, u "ROTATE_THRESHOLD"), (1, u "COPY_THRESHOLD"), (1, u "REPLACEALL_THRESHOLD"), (1, u "INDEXOFSUBLIST_THRESHOLD"), (333, .class_ 851), (0, u "java/util/Collections$CheckedMap$CheckedEntrySet"), (0, .class_ 853), (0, u "java/util/Collections$CheckedMap$CheckedEntrySet$CheckedEntry"), (0, .class_ 855), (0, u "java/util/Collections$CheckedMap$CheckedEntrySet$1"), (0, .class_ 857), (0, u "java/util/Collections$CheckedList$1"), (0, .class_ 859), (0, u "java/util/Collections$CheckedCollection$1"), (0, .class_ 861), (0, u "java/util/Collections$UnmodifiableNavigableMap$EmptyNavigableMap"), (0, .class_ 863), (0, u "java/util/Collections$UnmodifiableMap$UnmodifiableEntrySet"), (0, .class_ 865), (0, u "java/util/Collections$UnmodifiableMap$UnmodifiableEntrySet$UnmodifiableEntry"), (0, .class_ 867), (0, u "java/util/Collections$UnmodifiableMap$UnmodifiableEntrySet$UnmodifiableEntrySetSpliterator"), (0, .class_ 869), (0, u "java/util/Collections$UnmodifiableMap$UnmodifiableEntrySet$1"), (0, .class_ 871), (0, u "java/util/Collections$UnmodifiableList$1"), (0, .class_ 873), (0, u "java/util/Collections$UnmodifiableNavigableSet$EmptyNavigableSet"), (0, .class_ 875), (0, u "java/util/Collections$UnmodifiableCollection$1")] 57

def k15m0 : Method := { name := "<init>", desc := "()V", sig := { parameters := [], returnType := none }, accessFlags := 2, code := none }
/-- java/util/Collections -/
def k15 : Class := { plain "java/util/Collections" (some 0) with
  accessFlags := 33
  interfaces := #[]
  cf := some (fileOf pool15 19 #[.nestMembers #[478, 473, 469, 434, 423, 417, 393, 390, 380, 497, 494, 491, 355, 350, 344, 338, 333, 328, 850, 852, 854, 320, 325, 856, 315, 310, 305, 300, 287, 858, 284, 281, 278, 268, 271, 265, 262, 256, 250, 245, 860, 237, 231, 223, 862, 864, 866, 868, 215, 212, 870, 206, 872, 198, 190, 182, 174, 166, 874, 442, 387, 384]] #[{ accessFlags := 2, nameIndex := 5, descriptorIndex := 6, attributes := #[] }] 33 2 #[] #[{ accessFlags := 26, nameIndex := 500, descriptorIndex := 501, attributes := #[] }, { accessFlags := 26, nameIndex := 504, descriptorIndex := 501, attributes := #[] }, { accessFlags := 26, nameIndex := 506, descriptorIndex := 501, attributes := #[] }, { accessFlags := 26, nameIndex := 508, descriptorIndex := 501, attributes := #[] }, { accessFlags := 26, nameIndex := 510, descriptorIndex := 501, attributes := #[] }, { accessFlags := 26, nameIndex := 512, descriptorIndex := 501, attributes := #[] }, { accessFlags := 26, nameIndex := 514, descriptorIndex := 501, attributes := #[] }, { accessFlags := 26, nameIndex := 516, descriptorIndex := 501, attributes := #[] }, { accessFlags := 10, nameIndex := 84, descriptorIndex := 85, attributes := #[] }, { accessFlags := 25, nameIndex := 362, descriptorIndex := 363, attributes := #[] }, { accessFlags := 25, nameIndex := 370, descriptorIndex := 371, attributes := #[] }, { accessFlags := 25, nameIndex := 374, descriptorIndex := 375, attributes := #[] }])
  fields := #[{ name := "BINARYSEARCH_THRESHOLD", type := .int, accessFlags := 26, slot := 0, constantValue := 0 }, { name := "REVERSE_THRESHOLD", type := .int, accessFlags := 26, slot := 1, constantValue := 0 }, { name := "SHUFFLE_THRESHOLD", type := .int, accessFlags := 26, slot := 2, constantValue := 0 }, { name := "FILL_THRESHOLD", type := .int, accessFlags := 26, slot := 3, constantValue := 0 }, { name := "ROTATE_THRESHOLD", type := .int, accessFlags := 26, slot := 4, constantValue := 0 }, { name := "COPY_THRESHOLD", type := .int, accessFlags := 26, slot := 5, constantValue := 0 }, { name := "REPLACEALL_THRESHOLD", type := .int, accessFlags := 26, slot := 6, constantValue := 0 }, { name := "INDEXOFSUBLIST_THRESHOLD", type := .int, accessFlags := 26, slot := 7, constantValue := 0 }, { name := "r", type := (.object "java/util/Random"), accessFlags := 10, slot := 8, constantValue := 0 }, { name := "EMPTY_SET", type := (.object "java/util/Set"), accessFlags := 25, slot := 9, constantValue := 0 }, { name := "EMPTY_LIST", type := (.object "java/util/List"), accessFlags := 25, slot := 10, constantValue := 0 }, { name := "EMPTY_MAP", type := (.object "java/util/Map"), accessFlags := 25, slot := 11, constantValue := 0 }]
  methods := #[k15m0]
  instanceTypes := #[]
  staticTypes := #[.int, .int, .int, .int, .int, .int, .int, .int, (.object "java/util/Random"), (.object "java/util/Set"), (.object "java/util/List"), (.object "java/util/Map")]
  resolved := Array.replicate 933 none
  statics := some 3 }

def pool16 : Array CpInfo := pool [(8, .class_ 10), (1, u "java/lang/Iterable"), (24, .class_ 36), (0, u "java/lang/Object")] 25

/-- java/lang/Iterable -/
def k16 : Class := { plain "java/lang/Iterable" (some 0) with
  accessFlags := 1537
  interfaces := #[]
  cf := some (fileOf pool16 8 #[] #[] 1537 35 #[] #[])
  fields := #[]
  methods := #[]
  instanceTypes := #[]
  staticTypes := #[]
  resolved := Array.replicate 62 none
  statics := none }

def pool17 : Array CpInfo := pool [(10, .class_ 12), (1, u "java/util/Collection"), (47, .class_ 61), (0, u "java/lang/Object"), (0, .class_ 63), (0, u "java/lang/Iterable")] 51

/-- java/util/Collection -/
def k17 : Class := { plain "java/util/Collection" (some 0) with
  accessFlags := 1537
  interfaces := #[16]
  cf := some (fileOf pool17 10 #[] #[] 1537 60 #[62] #[])
  fields := #[]
  methods := #[]
  instanceTypes := #[]
  staticTypes := #[]
  resolved := Array.replicate 115 none
  statics := none }

def pool18 : Array CpInfo := pool [(2, .class_ 4), (1, u "java/lang/Object"), (0, u "<init>"), (0, u "()V"), (1, .class_ 10), (1, u "java/util/AbstractCollection"), (66, .class_ 78), (0, u "java/util/Collection")] 81

def k18m0 : Method := { name := "<init>", desc := "()V", sig := { parameters := [], returnType := none }, accessFlags := 4, code := none }
/-- java/util/AbstractCollection -/
def k18 : Class := { plain "java/util/AbstractCollection" (some 0) with
  accessFlags := 1057
  interfaces := #[17]
  cf := some (fileOf pool18 8 #[] #[{ accessFlags := 4, nameIndex := 5, descriptorIndex := 6, attributes := #[] }] 1057 2 #[77] #[])
  fields := #[]
  methods := #[k18m0]
  instanceTypes := #[]
  staticTypes := #[]
  resolved := Array.replicate 160 none
  statics := none }

def pool19 : Array CpInfo := pool [(8, .class_ 10), (1, u "java/util/SequencedCollection"), (15, .class_ 27), (0, u "java/lang/Object"), (0, .class_ 29), (0, u "java/util/Collection")] 27

/-- java/util/SequencedCollection -/
def k19 : Class := { plain "java/util/SequencedCollection" (some 0) with
  accessFlags := 1537
  interfaces := #[17]
  cf := some (fileOf pool19 8 #[] #[] 1537 26 #[28] #[])
  fields := #[]
  methods := #[]
  instanceTypes := #[]
  staticTypes := #[]
  resolved := Array.replicate 57 none
  statics := none }

def pool20 : Array CpInfo := pool [(8, .class_ 10), (1, u "java/util/List"), (92, .class_ 104), (0, u "java/lang/Object"), (15, .class_ 121), (0, u "java/util/SequencedCollection")] 129

/-- java/util/List -/
def k20 : Class := { plain "java/util/List" (some 0) with
  accessFlags := 1537
  interfaces := #[19]
  cf := some (fileOf pool20 8 #[] #[] 1537 103 #[120] #[])
  fields := #[]
  methods := #[]
  instanceTypes := #[]
  staticTypes := #[]
  resolved := Array.replicate 251 none
  statics := none }

def pool21 : Array CpInfo := pool [(2, .class_ 4), (1, u "java/util/AbstractCollection"), (0, u "<init>"), (0, u "()V"), (1, .class_ 10), (1, u "java/util/AbstractList"), (0, u "modCount"), (0, u "I"), (64, .class_ 78), (0, u "java/util/AbstractList$Itr"), (3, .class_ 83), (0, u "java/util/AbstractList$ListItr"), (9, .class_ 94), (0, u "java/util/AbstractList$RandomAccessSubList"), (3, .class_ 99), (0, u "java/util/AbstractList$SubList"), (33, .class_ 134), (0, u "java/util/List"), (73, .class_ 209), (0, u "java/util/AbstractList$SubList$1"), (0, .class_ 211), (0, u "java/util/AbstractList$RandomAccessSpliterator")] 6

def k21m0 : Method := { name := "<init>", desc := "()V", sig := { parameters := [], returnType := none }, accessFlags := 4, code := none }
/-- java/util/AbstractList -/
def k21 : Class := { plain "java/util/AbstractList" (some 18) with
  accessFlags := 1057
  interfaces := #[20]
  cf := some (fileOf pool21 8 #[.nestMembers #[93, 98, 208, 210, 82, 77]] #[{ accessFlags := 4, nameIndex := 5, descriptorIndex := 6, attributes := #[] }] 1057 2 #[133] #[{ accessFlags := 132, nameIndex := 11, descriptorIndex := 12, attributes := #[] }])
  fields := #[{ name := "modCount", type := .int, accessFlags := 132, slot := 0, constantValue := 0 }]
  methods := #[k21m0]
  instanceTypes := #[.int]
  staticTypes := #[]
  resolved := Array.replicate 218 none
  statics := none }

def pool22 : Array CpInfo := pool [(1, .class_ 2), (0, u "java/util/RandomAccess"), (0, .class_ 4), (0, u "java/lang/Object")] 2

/-- java/util/RandomAccess -/
def k22 : Class := { plain "java/util/RandomAccess" (some 0) with
  accessFlags := 1537
  interfaces := #[]
  cf := some (fileOf pool22 1 #[] #[] 1537 3 #[] #[])
  fields := #[]
  methods := #[]
  instanceTypes := #[]
  staticTypes := #[]
  resolved := Array.replicate 7 none
  statics := none }

def pool23 : Array CpInfo := pool [(2, .class_ 4), (1, u "java/util/AbstractList"), (0, u "<init>"), (0, u "()V"), (1, .class_ 10), (1, u "java/util/Collections"), (54, .class_ 66), (0, u "java/util/Collections$EmptyList"), (0, .class_ 68), (0, u "java/util/RandomAccess"), (0, .class_ 70), (0, u "java/io/Serializable"), (0, u "serialVersionUID"), (0, u "J")] 77

def k23m0 : Method := { name := "<init>", desc := "()V", sig := { parameters := [], returnType := none }, accessFlags := 2, code := none }
/-- java/util/Collections$EmptyList -/
def k23 : Class := { plain "java/util/Collections$EmptyList" (some 21) with
  accessFlags := 32
  interfaces := #[22, 2]
  cf := some (fileOf pool23 65 #[.nestHost 8] #[{ accessFlags := 2, nameIndex := 5, descriptorIndex := 6, attributes := #[] }] 32 2 #[67, 69] #[{ accessFlags := 26, nameIndex := 71, descriptorIndex := 72, attributes := #[] }])
  fields := #[{ name := "serialVersionUID", type := .long, accessFlags := 26, slot := 0, constantValue := 0 }]
  methods := #[k23m0]
  instanceTypes := #[.int]
  staticTypes := #[.long]
  resolved := Array.replicate 150 none
  statics := none }

def pool24 : Array CpInfo := pool [(2, .class_ 4), (1, u "java/lang/StackTraceElement"), (0, u "<init>"), (2, .class_ 10), (1, u "java/lang/Object"), (0, u "()V"), (2, u "format"), (0, u "B"), (2, u "classLoaderName"), (0, u "Ljava/lang/String;"), (2, u "moduleName"), (2, u "moduleVersion"), (12, u "declaringClass"), (4, u "methodName"), (2, u "fileName"), (2, u "lineNumber"), (0, u "I"), (65, u "declaringClassObject"), (0, u "Ljava/lang/Class;"), (33, .class_ 153), (1, u "java/lang/StackTraceElement$HashedModules"), (17, .class_ 172), (0, u "java/io/Serializable"), (0, u "NATIVE_METHOD"), (1, u "UNKNOWN_SOURCE"), (2, u "BUILTIN_CLASS_LOADER"), (1, u "JDK_NON_UPGRADEABLE_MODULE"), (1, u "serialVersionUID"), (0, u "J")] 51

def k24m0 : Method := { name := "<init>", desc := "()V", sig := { parameters := [], returnType := none }, accessFlags := 2, code := none }
/-- java/lang/StackTraceElement -/
def k24 : Class := { plain "java/lang/StackTraceElement" (some 0) with
  accessFlags := 49
  interfaces := #[2]
  cf := some (fileOf pool24 2 #[.nestMembers #[151]] #[{ accessFlags := 2, nameIndex := 5, descriptorIndex := 11, attributes := #[] }] 49 8 #[171] #[{ accessFlags := 26, nameIndex := 173, descriptorIndex := 19, attributes := #[] }, { accessFlags := 26, nameIndex := 175, descriptorIndex := 19, attributes := #[] }, { accessFlags := 130, nameIndex := 116, descriptorIndex := 117, attributes := #[] }, { accessFlags := 2, nameIndex := 18, descriptorIndex := 19, attributes := #[] }, { accessFlags := 2, nameIndex := 22, descriptorIndex := 19, attributes := #[] }, { accessFlags := 2, nameIndex := 25, descriptorIndex := 19, attributes := #[] }, { accessFlags := 2, nameIndex := 38, descriptorIndex := 19, attributes := #[] }, { accessFlags := 2, nameIndex := 43, descriptorIndex := 19, attributes := #[] }, { accessFlags := 2, nameIndex := 46, descriptorIndex := 19, attributes := #[] }, { accessFlags := 2, nameIndex := 49, descriptorIndex := 50, attributes := #[] }, { accessFlags := 2, nameIndex := 14, descriptorIndex := 15, attributes := #[] }, { accessFlags := 26, nameIndex := 178, descriptorIndex := 15, attributes := #[] }, { accessFlags := 26, nameIndex := 180, descriptorIndex := 15, attributes := #[] }, { accessFlags := 26, nameIndex := 182, descriptorIndex := 183, attributes := #[] }])
  fields := #[{ name := "NATIVE_METHOD", type := (.object "java/lang/String"), accessFlags := 26, slot := 0, constantValue := 0 }, { name := "UNKNOWN_SOURCE", type := (.object "java/lang/String"), accessFlags := 26, slot := 1, constantValue := 0 }, { name := "declaringClassObject", type := (.object "java/lang/Class"), accessFlags := 130, slot := 0, constantValue := 0 }, { name := "classLoaderName", type := (.object "java/lang/String"), accessFlags := 2, slot := 1, constantValue := 0 }, { name := "moduleName", type := (.object "java/lang/String"), accessFlags := 2, slot := 2, constantValue := 0 }, { name := "moduleVersion", type := (.object "java/lang/String"), accessFlags := 2, slot := 3, constantValue := 0 }, { name := "declaringClass", type := (.object "java/lang/String"), accessFlags := 2, slot := 4, constantValue := 0 }, { name := "methodName", type := (.object "java/lang/String"), accessFlags := 2, slot := 5, constantValue := 0 }, { name := "fileName", type := (.object "java/lang/String"), accessFlags := 2, slot := 6, constantValue := 0 }, { name := "lineNumber", type := .int, accessFlags := 2, slot := 7, constantValue := 0 }, { name := "format", type := .byte, accessFlags := 2, slot := 8, constantValue := 0 }, { name := "BUILTIN_CLASS_LOADER", type := .byte, accessFlags := 26, slot := 2, constantValue := 0 }, { name := "JDK_NON_UPGRADEABLE_MODULE", type := .byte, accessFlags := 26, slot := 3, constantValue := 0 }, { name := "serialVersionUID", type := .long, accessFlags := 26, slot := 4, constantValue := 0 }]
  methods := #[k24m0]
  instanceTypes := #[(.object "java/lang/Class"), (.object "java/lang/String"), (.object "java/lang/String"), (.object "java/lang/String"), (.object "java/lang/String"), (.object "java/lang/String"), (.object "java/lang/String"), .int, .byte]
  staticTypes := #[(.object "java/lang/String"), (.object "java/lang/String"), .byte, .byte, .long]
  resolved := Array.replicate 235 none
  statics := none }

def pool25 : Array CpInfo := pool [(1, u "java/lang/Cloneable"), (0, .class_ 1), (0, u "java/lang/Object"), (0, .class_ 3)] 3

/-- java/lang/Cloneable -/
def k25 : Class := { plain "java/lang/Cloneable" (some 0) with
  accessFlags := 1537
  interfaces := #[]
  cf := some (fileOf pool25 2 #[] #[] 1537 4 #[] #[])
  fields := #[]
  methods := #[]
  instanceTypes := #[]
  staticTypes := #[]
  resolved := Array.replicate 8 none
  statics := none }

/-- the primitive byte -/
def k26 : Class := { plain "byte" none with kind := .primitive 'B', accessFlags := 0x411 }
/-- [B -/
def k27 : Class := { plain "[B" (some 0) with kind := .array 26 .byte, interfaces := #[25, 2], accessFlags := 1041 }

/-- the primitive char -/
def k28 : Class := { plain "char" none with kind := .primitive 'C', accessFlags := 0x411 }
/-- [C -/
def k29 : Class := { plain "[C" (some 0) with kind := .array 28 .char, interfaces := #[25, 2], accessFlags := 1041 }

/-- the primitive int -/
def k30 : Class := { plain "int" none with kind := .primitive 'I', accessFlags := 0x411 }
/-- [I -/
def k31 : Class := { plain "[I" (some 0) with kind := .array 30 .int, interfaces := #[25, 2], accessFlags := 1041 }

/-- [Ljava/lang/Object; -/
def k32 : Class := { plain "[Ljava/lang/Object;" (some 0) with kind := .array 0 (.object "java/lang/Object"), interfaces := #[25, 2], accessFlags := 1041 }

/-- [Ljava/lang/StackTraceElement; -/
def k33 : Class := { plain "[Ljava/lang/StackTraceElement;" (some 0) with kind := .array 24 (.object "java/lang/StackTraceElement"), interfaces := #[25, 2], accessFlags := 1041 }

/-- [Ljava/lang/Throwable; -/
def k34 : Class := { plain "[Ljava/lang/Throwable;" (some 0) with kind := .array 9 (.object "java/lang/Throwable"), interfaces := #[25, 2], accessFlags := 1041 }

def heap : Heap := #[{ cls := 7, slots := #[.long 0, .int 1, .null, .int 0, .null, .int 0, .int 0], vm := .statics 7 },
  { cls := 9, slots := #[.long 0, .ref 4, .ref 5, .null, .null, .null, .null, .ref 6, .int 1], vm := .statics 9 },
  { cls := 13, slots := #[.null, .null, .null], vm := .statics 13 },
  { cls := 15, slots := #[.int 0, .int 0, .int 0, .int 0, .int 0, .int 0, .int 0, .int 0, .null, .null, .ref 5, .null], vm := .statics 15 },
  { cls := 33, slots := #[], vm := .none },
  { cls := 23, slots := #[.int 0], vm := .none },
  { cls := 34, slots := #[], vm := .none }]
def classes : Array Class := #[k0, k1, k2, k3, k4, k5, k6, k7, k8, k9, k10, k11, k12, k13, k14, k15, k16, k17, k18, k19, k20, k21, k22, k23, k24, k25, k26, k27, k28, k29, k30, k31, k32, k33, k34]
def interned : List (Array UInt16 × Addr) := []
def slotsUsed : Nat := 32
def theMethod : MethodId := ⟨1, 1⟩
def args0 : Array Value := #[.int 5, .int 5, .int 0]
def aboutOver (below : List Frame) : State where
  vm := { classes := classes, interned := interned.toArray }
  heap := heap
  slotsUsed := slotsUsed
  threads := #[{ frames := .invoking theMethod args0 :: below }]
def below0 : List Frame := [.native { method := ⟨0, 0⟩, args := #[] }]
def about1 : State := aboutOver below0
def p0 : Program := .bare "" "" ""
def e0 : Env := launch0.env 0 0 0
theorem w_frames : about1.frames = Frame.invoking theMethod args0 :: below0 := rfl
set_option maxRecDepth 65536 in
theorem w_args : argsFit about1.vm theMethod args0 = true := by decide +kernel
set_option maxRecDepth 65536 in
theorem w_heap : heapFits about1 = true := by decide +kernel
set_option maxRecDepth 65536 in
theorem w_runnable : about1.curStatus? = some .runnable := by decide +kernel
set_option maxRecDepth 65536 in
theorem w_alone : about1.alone = true := by decide +kernel
set_option maxRecDepth 65536 in
theorem w_named : about1.methodNamed? x = some theMethod := by decide +kernel
set_option maxRecDepth 65536 in
theorem w_hears : about1.hears theMethod below0 = true := by decide +kernel
set_option maxRecDepth 65536 in
theorem w_ripe : about1.ripe theMethod args0 below0 = true := by decide +kernel
theorem w_running : about1.status = .running := rfl
set_option maxRecDepth 65536 in
theorem w_room : about1.hasRoom e0.platform room_1 = true :=
  launch0.hasRoom_least _ room_1 (by decide +kernel) (by decide +kernel) (by decide +kernel) (by decide +kernel) (by decide +kernel) (by decide +kernel)
theorem allAtoms_all (ts : List Jvm.Cond) (a : Array Jvm.Value) (st : Jvm.State) : (allAtoms ts).before a st = ts.all (fun c => c.before a st) := by
  induction ts with
  | nil => rfl
  | cons c t ih =>
    show (Jvm.Cond.and c (allAtoms t)).before a st = _
    rw [Jvm.Cond.before_and, ih, List.all_cons]
def words1 : List Jvm.Cond := Jvm.Cond.code x code maxLocals ret :: tables_1
/-- a 'code' word, met by the world's own term for the bytes: nothing is compared byte by byte -/
theorem code_word {y : MethodName} {bytes : ByteArray} {mx : Nat} {rt : Option FieldType} {a : Array Value} {s : State} {m : MethodId} {meth : Method} {c : Code} (h1 : s.methodNamed? y = some m) (h2 : s.vm.method? m = some meth) (h3 : meth.code = some c) (h4 : c.code = bytes)
    (h5 : (c.maxLocals == mx && c.exceptionTable.isEmpty && decide (c.maxStack ≤ mostOperands) && decide (meth.sig.returnType = rt) && !meth.locks && decide (parseMethodDescriptor y.desc = some meth.sig)) = true) : (Jvm.Cond.code y bytes mx rt).before a s = true := by
  simp only [Bool.and_eq_true, beq_iff_eq, Bool.not_eq_true', decide_eq_true_eq] at h5
  obtain ⟨⟨⟨⟨⟨g1, g2⟩, g3⟩, g4⟩, g5⟩, g6⟩ := h5
  simp [Cond.before, Cond.holds, Cond.value, h1, h2, h3, h4, g1, g2, g3, g4, g5, g6]
def isCode : Jvm.Cond → Bool
  | .code _ _ _ _ => true
  | _ => false
theorem all_split {L : List Jvm.Cond} {P : Jvm.Cond → Bool} (h1 : L.all (fun c => isCode c || P c) = true) (h2 : ∀ c ∈ L.filter isCode, P c = true) : L.all P = true := by
  refine List.all_eq_true.mpr fun c hc => ?_
  have h := List.all_eq_true.mp h1 c hc
  rcases Bool.eq_false_or_eq_true (isCode c) with hi | hi
  · exact h2 c (List.mem_filter.mpr ⟨hc, hi⟩)
  · simpa [hi] using h
set_option maxRecDepth 65536 in
theorem w_c0 : (Jvm.Cond.code x code maxLocals ret).before args0 about1 = true := code_word (m := ⟨1, 1⟩) (meth := k1m1) (c := k1c1) (by decide +kernel) rfl rfl rfl (by decide +kernel)
set_option maxRecDepth 65536 in
theorem w_c1 : (Jvm.Cond.code ({ cls := "java/lang/String", name := "<init>", desc := "([C)V" } : Jvm.MethodName) jdk_42_method_3_code (2 : Nat) (Option.none : Option Jvm.ClassFile.FieldType)).before args0 about1 = true := code_word (m := ⟨7, 1⟩) (meth := k7m1) (c := k7c1) (by decide +kernel) rfl rfl rfl (by decide +kernel)
set_option maxRecDepth 65536 in
theorem w_c2 : (Jvm.Cond.code ({ cls := "java/lang/String", name := "<init>", desc := "([CIILjava/lang/Void;)V" } : Jvm.MethodName) jdk_42_method_149_code (6 : Nat) (Option.none : Option Jvm.ClassFile.FieldType)).before args0 about1 = true := code_word (m := ⟨7, 2⟩) (meth := k7m2) (c := k7c2) (by decide +kernel) rfl rfl rfl (by decide +kernel)
set_option maxRecDepth 65536 in
theorem w_c3 : (Jvm.Cond.code ({ cls := "java/lang/Object", name := "<init>", desc := "()V" } : Jvm.MethodName) object_method_1_code (1 : Nat) (Option.none : Option Jvm.ClassFile.FieldType)).before args0 about1 = true := code_word (m := ⟨0, 0⟩) (meth := k0m0) (c := k0c0) (by decide +kernel) rfl rfl rfl (by decide +kernel)
set_option maxRecDepth 65536 in
theorem w_c4 : (Jvm.Cond.code ({ cls := "java/lang/StringUTF16", name := "compress", desc := "([CII)[B" } : Jvm.MethodName) jdk_52_method_16_code (6 : Nat) (Option.some (Jvm.ClassFile.FieldType.array Jvm.ClassFile.FieldType.byte))).before args0 about1 = true := code_word (m := ⟨8, 2⟩) (meth := k8m2) (c := k8c2) (by decide +kernel) rfl rfl rfl (by decide +kernel)
set_option maxRecDepth 65536 in
theorem w_c5 : (Jvm.Cond.code ({ cls := "java/lang/StringUTF16", name := "compress", desc := "([CI[BII)I" } : Jvm.MethodName) jdk_52_method_21_code (7 : Nat) (Option.some Jvm.ClassFile.FieldType.int)).before args0 about1 = true := code_word (m := ⟨8, 3⟩) (meth := k8m3) (c := k8c3) (by decide +kernel) rfl rfl rfl (by decide +kernel)
set_option maxRecDepth 65536 in
theorem w_c6 : (Jvm.Cond.code ({ cls := "java/lang/StringUTF16", name := "coderFromArrayLen", desc := "([BI)B" } : Jvm.MethodName) jdk_52_method_15_code (2 : Nat) (Option.some Jvm.ClassFile.FieldType.byte)).before args0 about1 = true := code_word (m := ⟨8, 1⟩) (meth := k8m1) (c := k8c1) (by decide +kernel) rfl rfl rfl (by decide +kernel)
set_option maxRecDepth 65536 in
theorem w_c7 : (Jvm.Cond.code ({ cls := "com/example/reliquary/reliquary/UserException", name := "<init>", desc := "(Ljava/lang/String;)V" } : Jvm.MethodName) prog_12_method_1_code (2 : Nat) (Option.none : Option Jvm.ClassFile.FieldType)).before args0 about1 = true := code_word (m := ⟨11, 0⟩) (meth := k11m0) (c := k11c0) (by decide +kernel) rfl rfl rfl (by decide +kernel)
set_option maxRecDepth 65536 in
theorem w_c8 : (Jvm.Cond.code ({ cls := "java/lang/Exception", name := "<init>", desc := "(Ljava/lang/String;)V" } : Jvm.MethodName) jdk_59_method_2_code (2 : Nat) (Option.none : Option Jvm.ClassFile.FieldType)).before args0 about1 = true := code_word (m := ⟨10, 1⟩) (meth := k10m1) (c := k10c1) (by decide +kernel) rfl rfl rfl (by decide +kernel)
set_option maxRecDepth 65536 in
theorem w_c9 : (Jvm.Cond.code ({ cls := "java/lang/Throwable", name := "<init>", desc := "(Ljava/lang/String;)V" } : Jvm.MethodName) jdk_78_method_2_code (2 : Nat) (Option.none : Option Jvm.ClassFile.FieldType)).before args0 about1 = true := code_word (m := ⟨9, 1⟩) (meth := k9m1) (c := k9c1) (by decide +kernel) rfl rfl rfl (by decide +kernel)
set_option maxRecDepth 65536 in
theorem w_c10 : (Jvm.Cond.code ({ cls := "java/lang/Throwable", name := "<init>", desc := "()V" } : Jvm.MethodName) jdk_78_method_1_code (1 : Nat) (Option.none : Option Jvm.ClassFile.FieldType)).before args0 about1 = true := code_word (m := ⟨9, 0⟩) (meth := k9m0) (c := k9c0) (by decide +kernel) rfl rfl rfl (by decide +kernel)
set_option maxRecDepth 65536 in
theorem w_c11 : (Jvm.Cond.code ({ cls := "com/example/reliquary/reliquary/UserException", name := "userMessage", desc := "()Ljava/lang/String;" } : Jvm.MethodName) prog_12_method_3_code (1 : Nat) (Option.some (Jvm.ClassFile.FieldType.object "java/lang/String"))).before args0 about1 = true := code_word (m := ⟨11, 2⟩) (meth := k11m2) (c := k11c2) (by decide +kernel) rfl rfl rfl (by decide +kernel)
set_option maxRecDepth 65536 in
theorem w_c12 : (Jvm.Cond.code ({ cls := "java/lang/Throwable", name := "getMessage", desc := "()Ljava/lang/String;" } : Jvm.MethodName) jdk_78_method_6_code (1 : Nat) (Option.some (Jvm.ClassFile.FieldType.object "java/lang/String"))).before args0 about1 = true := code_word (m := ⟨9, 2⟩) (meth := k9m2) (c := k9c2) (by decide +kernel) rfl rfl rfl (by decide +kernel)
set_option maxRecDepth 65536 in
theorem w_c13 : (Jvm.Cond.code ({ cls := "com/example/reliquary/reliquary/UserException", name := "<init>", desc := "(Ljava/lang/String;Ljava/lang/String;)V" } : Jvm.MethodName) prog_12_method_2_code (3 : Nat) (Option.none : Option Jvm.ClassFile.FieldType)).before args0 about1 = true := code_word (m := ⟨11, 1⟩) (meth := k11m1) (c := k11c1) (by decide +kernel) rfl rfl rfl (by decide +kernel)
def codes1 : List Jvm.Cond := [Jvm.Cond.code x code maxLocals ret, Jvm.Cond.code ({ cls := "java/lang/String", name := "<init>", desc := "([C)V" } : Jvm.MethodName) jdk_42_method_3_code (2 : Nat) (Option.none : Option Jvm.ClassFile.FieldType), Jvm.Cond.code ({ cls := "java/lang/String", name := "<init>", desc := "([CIILjava/lang/Void;)V" } : Jvm.MethodName) jdk_42_method_149_code (6 : Nat) (Option.none : Option Jvm.ClassFile.FieldType), Jvm.Cond.code ({ cls := "java/lang/Object", name := "<init>", desc := "()V" } : Jvm.MethodName) object_method_1_code (1 : Nat) (Option.none : Option Jvm.ClassFile.FieldType), Jvm.Cond.code ({ cls := "java/lang/StringUTF16", name := "compress", desc := "([CII)[B" } : Jvm.MethodName) jdk_52_method_16_code (6 : Nat) (Option.some (Jvm.ClassFile.FieldType.array Jvm.ClassFile.FieldType.byte)), Jvm.Cond.code ({ cls := "java/lang/StringUTF16", name := "compress", desc := "([CI[BII)I" } : Jvm.MethodName) jdk_52_method_21_code (7 : Nat) (Option.some Jvm.ClassFile.FieldType.int), Jvm.Cond.code ({ cls := "java/lang/StringUTF16", name := "coderFromArrayLen", desc := "([BI)B" } : Jvm.MethodName) jdk_52_method_15_code (2 : Nat) (Option.some Jvm.ClassFile.FieldType.byte), Jvm.Cond.code ({ cls := "com/example/reliquary/reliquary/UserException", name := "<init>", desc := "(Ljava/lang/String;)V" } : Jvm.MethodName) prog_12_method_1_code (2 : Nat) (Option.none : Option Jvm.ClassFile.FieldType), Jvm.Cond.code ({ cls := "java/lang/Exception", name := "<init>", desc := "(Ljava/lang/String;)V" } : Jvm.MethodName) jdk_59_method_2_code (2 : Nat) (Option.none : Option Jvm.ClassFile.FieldType), Jvm.Cond.code ({ cls := "java/lang/Throwable", name := "<init>", desc := "(Ljava/lang/String;)V" } : Jvm.MethodName) jdk_78_method_2_code (2 : Nat) (Option.none : Option Jvm.ClassFile.FieldType), Jvm.Cond.code ({ cls := "java/lang/Throwable", name := "<init>", desc := "()V" } : Jvm.MethodName) jdk_78_method_1_code (1 : Nat) (Option.none : Option Jvm.ClassFile.FieldType), Jvm.Cond.code ({ cls := "com/example/reliquary/reliquary/UserException", name := "userMessage", desc := "()Ljava/lang/String;" } : Jvm.MethodName) prog_12_method_3_code (1 : Nat) (Option.some (Jvm.ClassFile.FieldType.object "java/lang/String")), Jvm.Cond.code ({ cls := "java/lang/Throwable", name := "getMessage", desc := "()Ljava/lang/String;" } : Jvm.MethodName) jdk_78_method_6_code (1 : Nat) (Option.some (Jvm.ClassFile.FieldType.object "java/lang/String")), Jvm.Cond.code ({ cls := "com/example/reliquary/reliquary/UserException", name := "<init>", desc := "(Ljava/lang/String;Ljava/lang/String;)V" } : Jvm.MethodName) prog_12_method_2_code (3 : Nat) (Option.none : Option Jvm.ClassFile.FieldType)]
set_option maxRecDepth 65536 in
theorem codes_eq : words1.filter isCode = codes1 := rfl
theorem w_codes : ∀ c ∈ words1.filter isCode, c.before args0 about1 = true := by
  rw [codes_eq]
  intro c hc
  simp only [codes1, List.mem_cons, List.not_mem_nil, or_false] at hc
  rcases hc with rfl | rfl | rfl | rfl | rfl | rfl | rfl | rfl | rfl | rfl | rfl | rfl | rfl | rfl
  · exact w_c0
  · exact w_c1
  · exact w_c2
  · exact w_c3
  · exact w_c4
  · exact w_c5
  · exact w_c6
  · exact w_c7
  · exact w_c8
  · exact w_c9
  · exact w_c10
  · exact w_c11
  · exact w_c12
  · exact w_c13
set_option maxRecDepth 65536 in
theorem w_t1 : (words1.take 24).all (fun c => isCode c || c.before args0 about1) = true := by decide +kernel
set_option maxRecDepth 65536 in
theorem w_t2 : ((words1.drop 24).take 24).all (fun c => isCode c || c.before args0 about1) = true := by decide +kernel
set_option maxRecDepth 65536 in
theorem w_t3 : (((words1.drop 24).drop 24).take 24).all (fun c => isCode c || c.before args0 about1) = true := by decide +kernel
set_option maxRecDepth 65536 in
theorem w_t4 : ((((words1.drop 24).drop 24).drop 24).take 24).all (fun c => isCode c || c.before args0 about1) = true := by decide +kernel
set_option maxRecDepth 65536 in
theorem w_t5 : ((((words1.drop 24).drop 24).drop 24).drop 24).all (fun c => isCode c || c.before args0 about1) = true := by decide +kernel
theorem w_tables : (allAtoms (Jvm.Cond.code x code maxLocals ret :: tables_1)).before args0 about1 = true := by
  rw [allAtoms_all]
  show words1.all (fun c => c.before args0 about1) = true
  refine all_split ?_ w_codes
  rw [← List.take_append_drop 24 words1, List.all_append, w_t1, ← List.take_append_drop 24 (words1.drop 24), List.all_append, w_t2, ← List.take_append_drop 24 ((words1.drop 24).drop 24), List.all_append, w_t3, ← List.take_append_drop 24 (((words1.drop 24).drop 24).drop 24), List.all_append, w_t4, w_t5]
  rfl
set_option maxRecDepth 65536 in
theorem w_rest : rest_1_c.before args0 about1 = true := by decide +kernel
set_option maxRecDepth 65536 in
theorem w_case : (Jvm.Cond.and given_1 narrow_1).before args0 about1 = true := by decide +kernel
theorem w_applies : (headSpec (Jvm.Cond.code x code maxLocals ret :: tables_1) room_1).applies x e0.platform about1 = true :=
  (Spec.applies_iff w_frames).mpr ⟨w_running, w_runnable, w_alone, w_named, w_hears, w_ripe, w_room, w_tables⟩
theorem atStart : AtStart classFile x code maxLocals ret World_1 tables_1 room_1 Calls_1 rest_1 Pre_1 launch0 p0 e0 about1 theMethod args0 below0 :=
  ⟨lists_1, trivial, launch0.admits_env _ _ _, launch0.least_env, fairChoices_fair.cas, fairChoices_fair.clock, w_frames, w_args, w_heap, w_applies, ⟨(by decide +kernel : framesKnown about1 = true), ⟨(by decide +kernel : tablesKnown about1 = true), trivial⟩⟩, w_rest, w_case⟩
end start1
theorem witness_1 : WitnessClaimed_1 := ⟨start1.p0, start1.e0, start1.about1, start1.theMethod, start1.args0, start1.below0, start1.atStart⟩
end Jvm.Pilot.@@N@@
