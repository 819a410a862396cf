import JvmDerived
import JvmDerived.Pilot.@@N@@Statement
import JvmDerived.Pilot.@@N@@Code
set_option linter.unusedVariables false
set_option linter.unusedSimpArgs false
namespace Jvm.Pilot.@@N@@
open Jvm Jvm.ClassFile Sem Op Lib Jvm.Free Jvm.Stand Jvm.LawKit Jvm.RoadKit Bundle Jvm.Pilot.@@N@@.Jvm.D
/-- from the state S the run comes to an end of which Q holds -/
def Own (p : Program) (e : Env) (below : List Frame) (Q : State → Outcome → Prop) (S : State) : Prop := ∃ s₂ o, Steps p.tables e below S s₂ ∧ s₂.status = .running ∧ Ended s₂ below o ∧ Q s₂ o
theorem ogo {p : Program} {e : Env} {below : List Frame} {Q : State → Outcome → Prop} {S S' : State} (h : ∀ t, Steps p.tables e below S' t → Steps p.tables e below S t) (k : Own p e below Q S') : Own p e below Q S := by
  obtain ⟨t, o, k1, k2⟩ := k; exact ⟨t, o, h _ k1, k2⟩
theorem otr {p : Program} {e : Env} {below : List Frame} {Q : State → Outcome → Prop} {S S' : State} (h : Steps p.tables e below S S') (k : Own p e below Q S') : Own p e below Q S := by
  obtain ⟨t, o, k1, k2⟩ := k; exact ⟨t, o, h.trans k1, k2⟩
/-- what a contract says of the end: q of what is returned, of the heap and of the places written; the frame -/
abbrev oPost (q : Option Value → Heap → List Loc → Prop) (s : State) (cc ss : Nat) : State → Outcome → Prop := fun s₂ o => ∃ v L, o = .returned v ∧ q v s₂.heap L ∧ FrameEnd s o s₂ L cc ss
abbrev oMet (l : Launch) (Z : State) (y : MethodName) (code : ByteArray) (maxL : Nat) (ret : Option FieldType) (ws : List Jvm.Cond) (rm : Room) (cc ss : Nat) (as' : Array Value) (h0 : Heap) (q : Option Value → Heap → List Loc → Prop) : Prop :=
  MetFree l y (head1 (Jvm.Cond.code y code maxL ret :: ws) rm) (fun a U => a = as' ∧ Z.Warmed39 U.vm ∧ U.heap = h0) (fun _ _ _ _ _ => True) (fun _ U o U' => ∃ v L, o = .returned v ∧ q v U'.heap L ∧ FrameEnd U o U' L cc ss)
theorem oenter {l : Launch} {Z : State} {y : MethodName} {code : ByteArray} {maxL : Nat} {ret : Option FieldType} {ws : List Jvm.Cond} {rm : Room} {cc ss : Nat} {as' : Array Value} {h0 : Heap} {q : Option Value → Heap → List Loc → Prop} (pn : plainName y.cls = true) (Ls : Array Slot) (ef : ∀ m, entryFrame m as' maxL = mkF m 0 Ls [])
    (body : ∀ (p : Program) (e : Env) (s : State) (m : MethodId) (below : List Frame) (meth : Method) (c : Code) (s₁ : State), Stand p l e rm s m as' below meth c s₁ [] 0 0 → p.tables.exec = Jvm.exec → Z.Warmed39 s.vm → c.code = code → c.maxLocals = maxL → meth.sig.returnType = ret → s.vm.findClass y.cls = some m.cls → meth.name = y.name → meth.locks = false → s₁.heap = h0 → Own p e below (oPost q s cc ss) (s₁.setTop (mkF m 0 Ls []))) : oMet l Z y code maxL ret ws rm cc ss as' h0 q := by
  refine MetFree.of_bodySF (plainFor_of_name pn) hisR ?_
  intro p e s m args below meth c s₁ Bd hml0 hP hK
  obtain ⟨rfl, hZ, hh⟩ := hP
  have e0 : s₁.heap = h0 := by rw [← hh, Bd.state]; rfl
  obtain ⟨t, o, h1, h2⟩ := body p e s m below meth c s₁ (Stand.of_body Bd) Bd.exec hZ Bd.bytes hml0 Bd.returns (findClass_of_methodNamed Bd.named) (name_of_methodNamed Bd.named Bd.method).1 (BodyLoose.notSynchronized Bd) e0
  exact ⟨t, o, castTop (ef m) h1, h2⟩
def own_ushr (x y : Int32) : Int32 := (x.toUInt32 >>> (y &&& 31).toUInt32).toInt32
def own_ushrL (x : Int64) (y : Int32) : Int64 := (x.toUInt64 >>> (y &&& 0x3f).toInt64.toUInt64).toInt64
section Steps
variable {p : Program} {l : Launch} {e : Env} {R : Room} {s : State} {m : MethodId} {args : Array Value} {below : List Frame} {meth : Method} {c : Code} {T : State} {locs : List Loc} {cells slots : Nat} {Q : State → Outcome → Prop}
theorem oend {v : Option Value} {q : Option Value → Heap → List Loc → Prop} {cc ss : Nat} {S : State} (X : Stand p l e R s m args below meth c T locs cells slots) (hlk : meth.locks = false) (hv : meth.sig.returnType = none → v = none)
    (st : ∀ fs, (∀ (f : JFrame) (acts : List Action), f.method = m → f.locked = none → f.entered = [] → (doReturn e (T.setTop f) acts v).1 = T.setFrames fs) → Steps p.tables e below S (T.setFrames fs)) (hc : cells ≤ cc) (hs : slots ≤ ss) (hq : q v T.heap locs) : Own p e below (oPost q s cc ss) S := by
  obtain ⟨fs, hr, hrun, hended, hW, hsame⟩ := X.leave (v := v) hv hlk
  exact ⟨_, _, st fs hr, hrun, hended, _, _, rfl, hq, ⟨_, rfl⟩, hW, hsame.mono hc hs⟩
theorem o_aloadN (X : Stand p l e R s m args below meth c T locs cells slots) (hx : p.tables.exec = Jvm.exec) {pc : Nat} {L : Array Slot} {S : List Value} {i : Fin 4} {v : Value} (hd : decode c.code pc = .ok (.aload_n i, 1)) (hl : L[i.val]? = some (.val v)) (hv : v.isRef = true) (k : Own p e below Q (T.setTop (mkF m (pc + 1) L (v :: S)))) : Own p e below Q (T.setTop (mkF m pc L S)) :=
  ogo (fun _ k => XS.aloadN X.here hx rfl hd hl hv k) k
theorem o_aload (X : Stand p l e R s m args below meth c T locs cells slots) (hx : p.tables.exec = Jvm.exec) {pc : Nat} {L : Array Slot} {S : List Value} {i : Nat} {v : Value} (hd : decode c.code pc = .ok (.aload i, 2)) (hl : L[i]? = some (.val v)) (hv : v.isRef = true) (k : Own p e below Q (T.setTop (mkF m (pc + 2) L (v :: S)))) : Own p e below Q (T.setTop (mkF m pc L S)) :=
  ogo (fun _ k => XS.aload X.here hx rfl hd hl hv k) k
theorem o_iloadN (X : Stand p l e R s m args below meth c T locs cells slots) (hx : p.tables.exec = Jvm.exec) {pc : Nat} {L : Array Slot} {S : List Value} {i : Fin 4} {v : Int32} (hd : decode c.code pc = .ok (.iload_n i, 1)) (hl : L[i.val]? = some (.val (.int v))) (k : Own p e below Q (T.setTop (mkF m (pc + 1) L ((.int v) :: S)))) : Own p e below Q (T.setTop (mkF m pc L S)) :=
  ogo (fun _ k => XS.iloadN X.here hx rfl hd hl k) k
theorem o_iload (X : Stand p l e R s m args below meth c T locs cells slots) (hx : p.tables.exec = Jvm.exec) {pc : Nat} {L : Array Slot} {S : List Value} {i : Nat} {v : Int32} (hd : decode c.code pc = .ok (.iload i, 2)) (hl : L[i]? = some (.val (.int v))) (k : Own p e below Q (T.setTop (mkF m (pc + 2) L ((.int v) :: S)))) : Own p e below Q (T.setTop (mkF m pc L S)) :=
  ogo (fun _ k => XS.iload X.here hx rfl hd hl k) k
theorem o_lloadN (X : Stand p l e R s m args below meth c T locs cells slots) (hx : p.tables.exec = Jvm.exec) {pc : Nat} {L : Array Slot} {S : List Value} {i : Fin 4} {v : Int64} (hd : decode c.code pc = .ok (.lload_n i, 1)) (hl : L[i.val]? = some (.val (.long v))) (k : Own p e below Q (T.setTop (mkF m (pc + 1) L ((.long v) :: S)))) : Own p e below Q (T.setTop (mkF m pc L S)) :=
  ogo (fun _ k => XS.lloadN X.here hx rfl hd hl k) k
theorem o_lload (X : Stand p l e R s m args below meth c T locs cells slots) (hx : p.tables.exec = Jvm.exec) {pc : Nat} {L : Array Slot} {S : List Value} {i : Nat} {v : Int64} (hd : decode c.code pc = .ok (.lload i, 2)) (hl : L[i]? = some (.val (.long v))) (k : Own p e below Q (T.setTop (mkF m (pc + 2) L ((.long v) :: S)))) : Own p e below Q (T.setTop (mkF m pc L S)) :=
  ogo (fun _ k => XS.lload X.here hx rfl hd hl k) k
theorem o_astoreN (X : Stand p l e R s m args below meth c T locs cells slots) (hx : p.tables.exec = Jvm.exec) {pc : Nat} {L : Array Slot} {S : List Value} {i : Fin 4} {v : Value} {l' : Array Slot} (hd : decode c.code pc = .ok (.astore_n i, 1)) (hv : v.isRef = true) (hl : storeLocals L i.val v = some l') (k : Own p e below Q (T.setTop (mkF m (pc + 1) l' S))) : Own p e below Q (T.setTop (mkF m pc L (v :: S))) :=
  ogo (fun _ k => XS.astoreN X.here hx rfl hd rfl hv hl k) k
theorem o_astore (X : Stand p l e R s m args below meth c T locs cells slots) (hx : p.tables.exec = Jvm.exec) {pc : Nat} {L : Array Slot} {S : List Value} {i : Nat} {v : Value} {l' : Array Slot} (hd : decode c.code pc = .ok (.astore i, 2)) (hv : v.isRef = true) (hl : storeLocals L i v = some l') (k : Own p e below Q (T.setTop (mkF m (pc + 2) l' S))) : Own p e below Q (T.setTop (mkF m pc L (v :: S))) :=
  ogo (fun _ k => XS.astore X.here hx rfl hd rfl hv hl k) k
theorem o_istoreN (X : Stand p l e R s m args below meth c T locs cells slots) (hx : p.tables.exec = Jvm.exec) {pc : Nat} {L : Array Slot} {S : List Value} {i : Fin 4} {v : Int32} {l' : Array Slot} (hd : decode c.code pc = .ok (.istore_n i, 1)) (hl : storeLocals L i.val (.int v) = some l') (k : Own p e below Q (T.setTop (mkF m (pc + 1) l' S))) : Own p e below Q (T.setTop (mkF m pc L ((.int v) :: S))) :=
  ogo (fun _ k => XS.istoreN X.here hx rfl hd rfl hl k) k
theorem o_istore (X : Stand p l e R s m args below meth c T locs cells slots) (hx : p.tables.exec = Jvm.exec) {pc : Nat} {L : Array Slot} {S : List Value} {i : Nat} {v : Int32} {l' : Array Slot} (hd : decode c.code pc = .ok (.istore i, 2)) (hl : storeLocals L i (.int v) = some l') (k : Own p e below Q (T.setTop (mkF m (pc + 2) l' S))) : Own p e below Q (T.setTop (mkF m pc L ((.int v) :: S))) :=
  ogo (fun _ k => XS.istore X.here hx rfl hd rfl hl k) k
theorem o_lstoreN (X : Stand p l e R s m args below meth c T locs cells slots) (hx : p.tables.exec = Jvm.exec) {pc : Nat} {L : Array Slot} {S : List Value} {i : Fin 4} {v : Int64} {l' : Array Slot} (hd : decode c.code pc = .ok (.lstore_n i, 1)) (hl : storeLocals L i.val (.long v) = some l') (k : Own p e below Q (T.setTop (mkF m (pc + 1) l' S))) : Own p e below Q (T.setTop (mkF m pc L ((.long v) :: S))) :=
  ogo (fun _ k => XS.lstoreN X.here hx rfl hd rfl hl k) k
theorem o_lstore (X : Stand p l e R s m args below meth c T locs cells slots) (hx : p.tables.exec = Jvm.exec) {pc : Nat} {L : Array Slot} {S : List Value} {i : Nat} {v : Int64} {l' : Array Slot} (hd : decode c.code pc = .ok (.lstore i, 2)) (hl : storeLocals L i (.long v) = some l') (k : Own p e below Q (T.setTop (mkF m (pc + 2) l' S))) : Own p e below Q (T.setTop (mkF m pc L ((.long v) :: S))) :=
  ogo (fun _ k => XS.lstore X.here hx rfl hd rfl hl k) k
theorem o_iconst (X : Stand p l e R s m args below meth c T locs cells slots) (hx : p.tables.exec = Jvm.exec) {pc : Nat} {L : Array Slot} {S : List Value} {i : Int} (v : Int32) (hd : decode c.code pc = .ok (.iconst i, 1)) (hv : Int32.ofInt i = v) (k : Own p e below Q (T.setTop (mkF m (pc + 1) L (.int v :: S)))) : Own p e below Q (T.setTop (mkF m pc L S)) := by
  subst hv; exact ogo (fun _ k => XS.iconst X.here hx rfl hd k) k
theorem o_bipush (X : Stand p l e R s m args below meth c T locs cells slots) (hx : p.tables.exec = Jvm.exec) {pc : Nat} {L : Array Slot} {S : List Value} {i : Int} (v : Int32) (hd : decode c.code pc = .ok (.bipush i, 2)) (hv : (Int8.ofInt i).toInt32 = v) (k : Own p e below Q (T.setTop (mkF m (pc + 2) L (.int v :: S)))) : Own p e below Q (T.setTop (mkF m pc L S)) := by
  subst hv; exact ogo (fun _ k => XS.bipush X.here hx rfl hd k) k
theorem o_sipush (X : Stand p l e R s m args below meth c T locs cells slots) (hx : p.tables.exec = Jvm.exec) {pc : Nat} {L : Array Slot} {S : List Value} {i : Int} (v : Int32) (hd : decode c.code pc = .ok (.sipush i, 3)) (hv : (Int16.ofInt i).toInt32 = v) (k : Own p e below Q (T.setTop (mkF m (pc + 3) L (.int v :: S)))) : Own p e below Q (T.setTop (mkF m pc L S)) := by
  subst hv; exact ogo (fun _ k => XS.sipush X.here hx rfl hd k) k
theorem o_lconst (X : Stand p l e R s m args below meth c T locs cells slots) (hx : p.tables.exec = Jvm.exec) {pc : Nat} {L : Array Slot} {S : List Value} {i : Fin 2} (v : Int64) (hd : decode c.code pc = .ok (.lconst i, 1)) (hv : Int64.ofNat i = v) (k : Own p e below Q (T.setTop (mkF m (pc + 1) L (.long v :: S)))) : Own p e below Q (T.setTop (mkF m pc L S)) := by
  subst hv; exact ogo (fun _ k => XS.lconst X.here hx rfl hd k) k
theorem o_aconst_null (X : Stand p l e R s m args below meth c T locs cells slots) (hx : p.tables.exec = Jvm.exec) {pc : Nat} {L : Array Slot} {S : List Value} (hd : decode c.code pc = .ok (.aconst_null, 1)) (k : Own p e below Q (T.setTop (mkF m (pc + 1) L (.null :: S)))) : Own p e below Q (T.setTop (mkF m pc L S)) :=
  ogo (fun _ k => XS.aconstNull X.here hx rfl hd k) k
theorem o_iadd (X : Stand p l e R s m args below meth c T locs cells slots) (hx : p.tables.exec = Jvm.exec) {pc : Nat} {L : Array Slot} {S : List Value} {x y : Int32} (hd : decode c.code pc = .ok (.iadd, 1)) (k : Own p e below Q (T.setTop (mkF m (pc + 1) L (.int (x + y) :: S)))) : Own p e below Q (T.setTop (mkF m pc L (.int y :: .int x :: S))) :=
  ogo (fun _ k => XS.iadd X.here hx rfl hd rfl k) k
theorem o_isub (X : Stand p l e R s m args below meth c T locs cells slots) (hx : p.tables.exec = Jvm.exec) {pc : Nat} {L : Array Slot} {S : List Value} {x y : Int32} (hd : decode c.code pc = .ok (.isub, 1)) (k : Own p e below Q (T.setTop (mkF m (pc + 1) L (.int (x - y) :: S)))) : Own p e below Q (T.setTop (mkF m pc L (.int y :: .int x :: S))) :=
  ogo (fun _ k => XS.isub X.here hx rfl hd rfl k) k
theorem o_imul (X : Stand p l e R s m args below meth c T locs cells slots) (hx : p.tables.exec = Jvm.exec) {pc : Nat} {L : Array Slot} {S : List Value} {x y : Int32} (hd : decode c.code pc = .ok (.imul, 1)) (k : Own p e below Q (T.setTop (mkF m (pc + 1) L (.int (x * y) :: S)))) : Own p e below Q (T.setTop (mkF m pc L (.int y :: .int x :: S))) :=
  ogo (fun _ k => XS.imul X.here hx rfl hd rfl k) k
theorem o_iand (X : Stand p l e R s m args below meth c T locs cells slots) (hx : p.tables.exec = Jvm.exec) {pc : Nat} {L : Array Slot} {S : List Value} {x y : Int32} (hd : decode c.code pc = .ok (.iand, 1)) (k : Own p e below Q (T.setTop (mkF m (pc + 1) L (.int (x &&& y) :: S)))) : Own p e below Q (T.setTop (mkF m pc L (.int y :: .int x :: S))) :=
  ogo (fun _ k => XS.iand X.here hx rfl hd rfl k) k
theorem o_ior (X : Stand p l e R s m args below meth c T locs cells slots) (hx : p.tables.exec = Jvm.exec) {pc : Nat} {L : Array Slot} {S : List Value} {x y : Int32} (hd : decode c.code pc = .ok (.ior, 1)) (k : Own p e below Q (T.setTop (mkF m (pc + 1) L (.int (x ||| y) :: S)))) : Own p e below Q (T.setTop (mkF m pc L (.int y :: .int x :: S))) :=
  ogo (fun _ k => XS.ior X.here hx rfl hd rfl k) k
theorem o_ixor (X : Stand p l e R s m args below meth c T locs cells slots) (hx : p.tables.exec = Jvm.exec) {pc : Nat} {L : Array Slot} {S : List Value} {x y : Int32} (hd : decode c.code pc = .ok (.ixor, 1)) (k : Own p e below Q (T.setTop (mkF m (pc + 1) L (.int (x ^^^ y) :: S)))) : Own p e below Q (T.setTop (mkF m pc L (.int y :: .int x :: S))) :=
  ogo (fun _ k => XS.ixor X.here hx rfl hd rfl k) k
theorem o_ladd (X : Stand p l e R s m args below meth c T locs cells slots) (hx : p.tables.exec = Jvm.exec) {pc : Nat} {L : Array Slot} {S : List Value} {x y : Int64} (hd : decode c.code pc = .ok (.ladd, 1)) (k : Own p e below Q (T.setTop (mkF m (pc + 1) L (.long (x + y) :: S)))) : Own p e below Q (T.setTop (mkF m pc L (.long y :: .long x :: S))) :=
  ogo (fun _ k => XS.ladd X.here hx rfl hd rfl k) k
theorem o_lsub (X : Stand p l e R s m args below meth c T locs cells slots) (hx : p.tables.exec = Jvm.exec) {pc : Nat} {L : Array Slot} {S : List Value} {x y : Int64} (hd : decode c.code pc = .ok (.lsub, 1)) (k : Own p e below Q (T.setTop (mkF m (pc + 1) L (.long (x - y) :: S)))) : Own p e below Q (T.setTop (mkF m pc L (.long y :: .long x :: S))) :=
  ogo (fun _ k => XS.lsub X.here hx rfl hd rfl k) k
theorem o_lmul (X : Stand p l e R s m args below meth c T locs cells slots) (hx : p.tables.exec = Jvm.exec) {pc : Nat} {L : Array Slot} {S : List Value} {x y : Int64} (hd : decode c.code pc = .ok (.lmul, 1)) (k : Own p e below Q (T.setTop (mkF m (pc + 1) L (.long (x * y) :: S)))) : Own p e below Q (T.setTop (mkF m pc L (.long y :: .long x :: S))) :=
  ogo (fun _ k => XS.lmul X.here hx rfl hd rfl k) k
theorem o_land (X : Stand p l e R s m args below meth c T locs cells slots) (hx : p.tables.exec = Jvm.exec) {pc : Nat} {L : Array Slot} {S : List Value} {x y : Int64} (hd : decode c.code pc = .ok (.land, 1)) (k : Own p e below Q (T.setTop (mkF m (pc + 1) L (.long (x &&& y) :: S)))) : Own p e below Q (T.setTop (mkF m pc L (.long y :: .long x :: S))) :=
  ogo (fun _ k => XS.land X.here hx rfl hd rfl k) k
theorem o_lor (X : Stand p l e R s m args below meth c T locs cells slots) (hx : p.tables.exec = Jvm.exec) {pc : Nat} {L : Array Slot} {S : List Value} {x y : Int64} (hd : decode c.code pc = .ok (.lor, 1)) (k : Own p e below Q (T.setTop (mkF m (pc + 1) L (.long (x ||| y) :: S)))) : Own p e below Q (T.setTop (mkF m pc L (.long y :: .long x :: S))) :=
  ogo (fun _ k => XS.lor X.here hx rfl hd rfl k) k
theorem o_lxor (X : Stand p l e R s m args below meth c T locs cells slots) (hx : p.tables.exec = Jvm.exec) {pc : Nat} {L : Array Slot} {S : List Value} {x y : Int64} (hd : decode c.code pc = .ok (.lxor, 1)) (k : Own p e below Q (T.setTop (mkF m (pc + 1) L (.long (x ^^^ y) :: S)))) : Own p e below Q (T.setTop (mkF m pc L (.long y :: .long x :: S))) :=
  ogo (fun _ k => XS.lxor X.here hx rfl hd rfl k) k
theorem o_ishl (X : Stand p l e R s m args below meth c T locs cells slots) (hx : p.tables.exec = Jvm.exec) {pc : Nat} {L : Array Slot} {S : List Value} {x : Int32} {y : Int32} (hd : decode c.code pc = .ok (.ishl, 1)) (k : Own p e below Q (T.setTop (mkF m (pc + 1) L (.int (x <<< (y &&& 31)) :: S)))) : Own p e below Q (T.setTop (mkF m pc L (.int y :: .int x :: S))) :=
  ogo (fun _ k => XS.ishl X.here hx rfl hd rfl k) k
theorem o_ishr (X : Stand p l e R s m args below meth c T locs cells slots) (hx : p.tables.exec = Jvm.exec) {pc : Nat} {L : Array Slot} {S : List Value} {x : Int32} {y : Int32} (hd : decode c.code pc = .ok (.ishr, 1)) (k : Own p e below Q (T.setTop (mkF m (pc + 1) L (.int (x >>> (y &&& 31)) :: S)))) : Own p e below Q (T.setTop (mkF m pc L (.int y :: .int x :: S))) :=
  ogo (fun _ k => XS.ishr X.here hx rfl hd rfl k) k
theorem o_iushr (X : Stand p l e R s m args below meth c T locs cells slots) (hx : p.tables.exec = Jvm.exec) {pc : Nat} {L : Array Slot} {S : List Value} {x : Int32} {y : Int32} (hd : decode c.code pc = .ok (.iushr, 1)) (k : Own p e below Q (T.setTop (mkF m (pc + 1) L (.int (own_ushr x y) :: S)))) : Own p e below Q (T.setTop (mkF m pc L (.int y :: .int x :: S))) :=
  ogo (fun _ k => XS.iushr X.here hx rfl hd rfl k) k
theorem o_lshl (X : Stand p l e R s m args below meth c T locs cells slots) (hx : p.tables.exec = Jvm.exec) {pc : Nat} {L : Array Slot} {S : List Value} {x : Int64} {y : Int32} (hd : decode c.code pc = .ok (.lshl, 1)) (k : Own p e below Q (T.setTop (mkF m (pc + 1) L (.long (x <<< (y &&& 0x3f).toInt64) :: S)))) : Own p e below Q (T.setTop (mkF m pc L (.int y :: .long x :: S))) :=
  ogo (fun _ k => XS.lshl X.here hx rfl hd rfl k) k
theorem o_lshr (X : Stand p l e R s m args below meth c T locs cells slots) (hx : p.tables.exec = Jvm.exec) {pc : Nat} {L : Array Slot} {S : List Value} {x : Int64} {y : Int32} (hd : decode c.code pc = .ok (.lshr, 1)) (k : Own p e below Q (T.setTop (mkF m (pc + 1) L (.long (x >>> (y &&& 0x3f).toInt64) :: S)))) : Own p e below Q (T.setTop (mkF m pc L (.int y :: .long x :: S))) :=
  ogo (fun _ k => XS.lshr X.here hx rfl hd rfl k) k
theorem o_lushr (X : Stand p l e R s m args below meth c T locs cells slots) (hx : p.tables.exec = Jvm.exec) {pc : Nat} {L : Array Slot} {S : List Value} {x : Int64} {y : Int32} (hd : decode c.code pc = .ok (.lushr, 1)) (k : Own p e below Q (T.setTop (mkF m (pc + 1) L (.long (own_ushrL x y) :: S)))) : Own p e below Q (T.setTop (mkF m pc L (.int y :: .long x :: S))) :=
  ogo (fun _ k => XS.lushr X.here hx rfl hd rfl k) k
theorem o_ineg (X : Stand p l e R s m args below meth c T locs cells slots) (hx : p.tables.exec = Jvm.exec) {pc : Nat} {L : Array Slot} {S : List Value} {x : Int32} (hd : decode c.code pc = .ok (.ineg, 1)) (k : Own p e below Q (T.setTop (mkF m (pc + 1) L (.int (-x) :: S)))) : Own p e below Q (T.setTop (mkF m pc L (.int x :: S))) :=
  ogo (fun _ k => XS.ineg X.here hx rfl hd rfl k) k
theorem o_lneg (X : Stand p l e R s m args below meth c T locs cells slots) (hx : p.tables.exec = Jvm.exec) {pc : Nat} {L : Array Slot} {S : List Value} {x : Int64} (hd : decode c.code pc = .ok (.lneg, 1)) (k : Own p e below Q (T.setTop (mkF m (pc + 1) L (.long (-x) :: S)))) : Own p e below Q (T.setTop (mkF m pc L (.long x :: S))) :=
  ogo (fun _ k => XS.lneg X.here hx rfl hd rfl k) k
theorem o_i2l (X : Stand p l e R s m args below meth c T locs cells slots) (hx : p.tables.exec = Jvm.exec) {pc : Nat} {L : Array Slot} {S : List Value} {x : Int32} (hd : decode c.code pc = .ok (.i2l, 1)) (k : Own p e below Q (T.setTop (mkF m (pc + 1) L (.long (x.toInt64) :: S)))) : Own p e below Q (T.setTop (mkF m pc L (.int x :: S))) :=
  ogo (fun _ k => XS.i2l X.here hx rfl hd rfl k) k
theorem o_l2i (X : Stand p l e R s m args below meth c T locs cells slots) (hx : p.tables.exec = Jvm.exec) {pc : Nat} {L : Array Slot} {S : List Value} {x : Int64} (hd : decode c.code pc = .ok (.l2i, 1)) (k : Own p e below Q (T.setTop (mkF m (pc + 1) L (.int (x.toInt32) :: S)))) : Own p e below Q (T.setTop (mkF m pc L (.long x :: S))) :=
  ogo (fun _ k => XS.l2i X.here hx rfl hd rfl k) k
theorem o_i2b (X : Stand p l e R s m args below meth c T locs cells slots) (hx : p.tables.exec = Jvm.exec) {pc : Nat} {L : Array Slot} {S : List Value} {x : Int32} (hd : decode c.code pc = .ok (.i2b, 1)) (k : Own p e below Q (T.setTop (mkF m (pc + 1) L (.int (x.toInt8.toInt32) :: S)))) : Own p e below Q (T.setTop (mkF m pc L (.int x :: S))) :=
  ogo (fun _ k => XS.i2b X.here hx rfl hd rfl k) k
theorem o_i2s (X : Stand p l e R s m args below meth c T locs cells slots) (hx : p.tables.exec = Jvm.exec) {pc : Nat} {L : Array Slot} {S : List Value} {x : Int32} (hd : decode c.code pc = .ok (.i2s, 1)) (k : Own p e below Q (T.setTop (mkF m (pc + 1) L (.int (x.toInt16.toInt32) :: S)))) : Own p e below Q (T.setTop (mkF m pc L (.int x :: S))) :=
  ogo (fun _ k => XS.i2s X.here hx rfl hd rfl k) k
theorem o_i2c (X : Stand p l e R s m args below meth c T locs cells slots) (hx : p.tables.exec = Jvm.exec) {pc : Nat} {L : Array Slot} {S : List Value} {x : Int32} (hd : decode c.code pc = .ok (.i2c, 1)) (k : Own p e below Q (T.setTop (mkF m (pc + 1) L (.int (nar .char x) :: S)))) : Own p e below Q (T.setTop (mkF m pc L (.int x :: S))) :=
  ogo (fun _ k => XS.i2c X.here hx rfl hd rfl k) k
theorem o_lcmp (X : Stand p l e R s m args below meth c T locs cells slots) (hx : p.tables.exec = Jvm.exec) {pc : Nat} {L : Array Slot} {S : List Value} {x y : Int64} (hd : decode c.code pc = .ok (.lcmp, 1)) (k : Own p e below Q (T.setTop (mkF m (pc + 1) L (.int (lcmpW x y) :: S)))) : Own p e below Q (T.setTop (mkF m pc L (.long y :: .long x :: S))) :=
  ogo (fun _ k => XS.lcmp X.here hx rfl hd rfl k) k
theorem o_idiv (X : Stand p l e R s m args below meth c T locs cells slots) (hx : p.tables.exec = Jvm.exec) {pc : Nat} {L : Array Slot} {S : List Value} {x y : Int32} (hd : decode c.code pc = .ok (.idiv, 1)) (hy : y ≠ 0) (k : Own p e below Q (T.setTop (mkF m (pc + 1) L (.int (x / y) :: S)))) : Own p e below Q (T.setTop (mkF m pc L (.int y :: .int x :: S))) :=
  ogo (fun _ k => XS.idiv X.here hx rfl hd rfl hy k) k
theorem o_ldiv (X : Stand p l e R s m args below meth c T locs cells slots) (hx : p.tables.exec = Jvm.exec) {pc : Nat} {L : Array Slot} {S : List Value} {x y : Int64} (hd : decode c.code pc = .ok (.ldiv, 1)) (hy : y ≠ 0) (k : Own p e below Q (T.setTop (mkF m (pc + 1) L (.long (x / y) :: S)))) : Own p e below Q (T.setTop (mkF m pc L (.long y :: .long x :: S))) :=
  ogo (fun _ k => XS.ldiv X.here hx rfl hd rfl hy k) k
theorem o_lrem (X : Stand p l e R s m args below meth c T locs cells slots) (hx : p.tables.exec = Jvm.exec) {pc : Nat} {L : Array Slot} {S : List Value} {x y : Int64} (hd : decode c.code pc = .ok (.lrem, 1)) (hy : y ≠ 0) (k : Own p e below Q (T.setTop (mkF m (pc + 1) L (.long (x - (x / y) * y) :: S)))) : Own p e below Q (T.setTop (mkF m pc L (.long y :: .long x :: S))) :=
  ogo (fun _ k => XS.lrem X.here hx rfl hd rfl hy k) k
theorem o_irem (X : Stand p l e R s m args below meth c T locs cells slots) (hx : p.tables.exec = Jvm.exec) {pc : Nat} {L : Array Slot} {S : List Value} {x y : Int32} (hd : decode c.code pc = .ok (.irem, 1)) (hy : y ≠ 0) (k : Own p e below Q (T.setTop (mkF m (pc + 1) L (.int (x % y) :: S)))) : Own p e below Q (T.setTop (mkF m pc L (.int y :: .int x :: S))) :=
  ogo (fun _ k => iremM X hx rfl hd rfl hy k) k
theorem o_iinc (X : Stand p l e R s m args below meth c T locs cells slots) (hx : p.tables.exec = Jvm.exec) {pc : Nat} {L : Array Slot} {S : List Value} {i : Nat} {n : Int} {x : Int32} {l' : Array Slot} (hd : decode c.code pc = .ok (.iinc i n, 3)) (hl : L[i]? = some (.val (.int x))) (hl' : storeLocals L i (.int (x + Int32.ofInt n)) = some l') (k : Own p e below Q (T.setTop (mkF m (pc + 3) l' S))) : Own p e below Q (T.setTop (mkF m pc L S)) :=
  ogo (fun _ k => XS.iinc X.here hx rfl hd hl hl' k) k
theorem o_dup (X : Stand p l e R s m args below meth c T locs cells slots) (hx : p.tables.exec = Jvm.exec) {pc : Nat} {L : Array Slot} {S : List Value} {v : Value} (hd : decode c.code pc = .ok (.dup, 1)) (hc : v.category = 1) (k : Own p e below Q (T.setTop (mkF m (pc + 1) L (v :: v :: S)))) : Own p e below Q (T.setTop (mkF m pc L (v :: S))) :=
  ogo (fun _ k => XS.dup X.here hx rfl hd rfl hc k) k
theorem o_dup_x1 (X : Stand p l e R s m args below meth c T locs cells slots) (hx : p.tables.exec = Jvm.exec) {pc : Nat} {L : Array Slot} {S : List Value} {v w : Value} (hd : decode c.code pc = .ok (.dup_x1, 1)) (hc : v.category = 1) (hc' : w.category = 1) (k : Own p e below Q (T.setTop (mkF m (pc + 1) L (v :: w :: v :: S)))) : Own p e below Q (T.setTop (mkF m pc L (v :: w :: S))) :=
  ogo (fun _ k => XS.dupX1 X.here hx rfl hd rfl hc hc' k) k
theorem o_pop (X : Stand p l e R s m args below meth c T locs cells slots) (hx : p.tables.exec = Jvm.exec) {pc : Nat} {L : Array Slot} {S : List Value} {v : Value} (hd : decode c.code pc = .ok (.pop, 1)) (hc : v.category = 1) (k : Own p e below Q (T.setTop (mkF m (pc + 1) L S))) : Own p e below Q (T.setTop (mkF m pc L (v :: S))) :=
  ogo (fun _ k => XS.pop X.here hx rfl hd rfl hc k) k
theorem o_goto (X : Stand p l e R s m args below meth c T locs cells slots) (hx : p.tables.exec = Jvm.exec) {pc : Nat} {L : Array Slot} {S : List Value} {o : Int} (pc' : Nat) (hd : decode c.code pc = .ok (.goto o, 3)) (ho : 0 ≤ (pc : Int) + o) (hp : ((pc : Int) + o).toNat = pc') (k : Own p e below Q (T.setTop (mkF m (pc') L S))) : Own p e below Q (T.setTop (mkF m pc L S)) :=
  ogo (fun _ k => XS.goto X.here hx rfl rfl hd ho hp k) k
theorem o_ifYes (X : Stand p l e R s m args below meth c T locs cells slots) (hx : p.tables.exec = Jvm.exec) {pc : Nat} {L : Array Slot} {S : List Value} {cd : ClassFile.Cond} {x : Int32} {o : Int} (pc' : Nat) (hd : decode c.code pc = .ok (.ifCond cd o, 3)) (hc : if_icmp.holds cd x 0 = true) (ho : 0 ≤ (pc : Int) + o) (hp : ((pc : Int) + o).toNat = pc') (k : Own p e below Q (T.setTop (mkF m (pc') L S))) : Own p e below Q (T.setTop (mkF m pc L (.int x :: S))) :=
  ogo (fun _ k => XS.ifYes X.here hx rfl rfl hd rfl ((if0 _ _).trans hc) ho hp k) k
theorem o_ifNo (X : Stand p l e R s m args below meth c T locs cells slots) (hx : p.tables.exec = Jvm.exec) {pc : Nat} {L : Array Slot} {S : List Value} {cd : ClassFile.Cond} {x : Int32} {o : Int} (hd : decode c.code pc = .ok (.ifCond cd o, 3)) (hc : if_icmp.holds cd x 0 = false) (k : Own p e below Q (T.setTop (mkF m (pc + 3) L S))) : Own p e below Q (T.setTop (mkF m pc L (.int x :: S))) :=
  ogo (fun _ k => XS.ifNo X.here hx rfl hd rfl ((if0 _ _).trans hc) k) k
theorem o_icmpYes (X : Stand p l e R s m args below meth c T locs cells slots) (hx : p.tables.exec = Jvm.exec) {pc : Nat} {L : Array Slot} {S : List Value} {cd : ClassFile.Cond} {x y : Int32} {o : Int} (pc' : Nat) (hd : decode c.code pc = .ok (.if_icmp cd o, 3)) (hc : if_icmp.holds cd x y = true) (ho : 0 ≤ (pc : Int) + o) (hp : ((pc : Int) + o).toNat = pc') (k : Own p e below Q (T.setTop (mkF m (pc') L S))) : Own p e below Q (T.setTop (mkF m pc L (.int y :: .int x :: S))) :=
  ogo (fun _ k => XS.icmpYes X.here hx rfl rfl hd rfl hc ho hp k) k
theorem o_icmpNo (X : Stand p l e R s m args below meth c T locs cells slots) (hx : p.tables.exec = Jvm.exec) {pc : Nat} {L : Array Slot} {S : List Value} {cd : ClassFile.Cond} {x y : Int32} {o : Int} (hd : decode c.code pc = .ok (.if_icmp cd o, 3)) (hc : if_icmp.holds cd x y = false) (k : Own p e below Q (T.setTop (mkF m (pc + 3) L S))) : Own p e below Q (T.setTop (mkF m pc L (.int y :: .int x :: S))) :=
  ogo (fun _ k => XS.icmpNo X.here hx rfl hd rfl hc k) k
theorem o_ifnullYes (X : Stand p l e R s m args below meth c T locs cells slots) (hx : p.tables.exec = Jvm.exec) {pc : Nat} {L : Array Slot} {S : List Value} {o : Int} (pc' : Nat) (hd : decode c.code pc = .ok (.ifnull o, 3)) (ho : 0 ≤ (pc : Int) + o) (hp : ((pc : Int) + o).toNat = pc') (k : Own p e below Q (T.setTop (mkF m (pc') L S))) : Own p e below Q (T.setTop (mkF m pc L (.null :: S))) :=
  ogo (fun _ k => XS.ifnullYes X.here hx rfl rfl hd rfl ho hp k) k
theorem o_ifnullNo (X : Stand p l e R s m args below meth c T locs cells slots) (hx : p.tables.exec = Jvm.exec) {pc : Nat} {L : Array Slot} {S : List Value} {o : Int} {b : Addr} (hd : decode c.code pc = .ok (.ifnull o, 3)) (k : Own p e below Q (T.setTop (mkF m (pc + 3) L S))) : Own p e below Q (T.setTop (mkF m pc L (.ref b :: S))) :=
  ogo (fun _ k => XS.ifnullNo X.here hx rfl hd rfl k) k
theorem o_ifnonnullYes (X : Stand p l e R s m args below meth c T locs cells slots) (hx : p.tables.exec = Jvm.exec) {pc : Nat} {L : Array Slot} {S : List Value} {o : Int} {b : Addr} (pc' : Nat) (hd : decode c.code pc = .ok (.ifnonnull o, 3)) (ho : 0 ≤ (pc : Int) + o) (hp : ((pc : Int) + o).toNat = pc') (k : Own p e below Q (T.setTop (mkF m (pc') L S))) : Own p e below Q (T.setTop (mkF m pc L (.ref b :: S))) :=
  ogo (fun _ k => XS.ifnonnullYes X.here hx rfl rfl hd rfl ho hp k) k
theorem o_ifnonnullNo (X : Stand p l e R s m args below meth c T locs cells slots) (hx : p.tables.exec = Jvm.exec) {pc : Nat} {L : Array Slot} {S : List Value} {o : Int} (hd : decode c.code pc = .ok (.ifnonnull o, 3)) (k : Own p e below Q (T.setTop (mkF m (pc + 3) L S))) : Own p e below Q (T.setTop (mkF m pc L (.null :: S))) :=
  ogo (fun _ k => XS.ifnonnullNo X.here hx rfl hd rfl k) k
theorem o_acmp (X : Stand p l e R s m args below meth c T locs cells slots) (hx : p.tables.exec = Jvm.exec) {pc : Nat} {L : Array Slot} {S : List Value} {cd : ClassFile.ACond} {x y : Value} {o : Int} (pc' : Nat) (same : Bool) (h1 : x.isRef = true) (h2 : y.isRef = true) (hd : decode c.code pc = .ok (.if_acmp cd o, 3)) (hq : decide (x = y) = same) (ho : 0 ≤ (pc : Int) + o) (hp : pc' = if acV cd same = true then ((pc : Int) + o).toNat else pc + 3) (k : Own p e below Q (T.setTop (mkF m (pc') L S))) : Own p e below Q (T.setTop (mkF m pc L (y :: x :: S))) :=
  ogo (fun _ k => Jvm.RoadKit.acmp X hx rfl h1 h2 rfl hd rfl hq ho hp k) k
theorem o_tswIn (X : Stand p l e R s m args below meth c T locs cells slots) (hx : p.tables.exec = Jvm.exec) {pc : Nat} {L : Array Slot} {S : List Value} {d lo hi : Int} {offs : Array Int} {len : Nat} {o : Int} {i : Int32} (pc' : Nat) (hd : decode c.code pc = .ok (.tableswitch d lo hi offs, len)) (hin : ¬ (i.toInt < lo ∨ i.toInt > hi)) (hoff : offs[(i.toInt - lo).toNat]? = some o) (ho : 0 ≤ (pc : Int) + o) (hp : ((pc : Int) + o).toNat = pc') (k : Own p e below Q (T.setTop (mkF m (pc') L S))) : Own p e below Q (T.setTop (mkF m pc L (.int i :: S))) :=
  ogo (fun _ k => XS.tswIn X.here hx rfl rfl hd rfl hin hoff ho hp k) k
theorem o_tswOut (X : Stand p l e R s m args below meth c T locs cells slots) (hx : p.tables.exec = Jvm.exec) {pc : Nat} {L : Array Slot} {S : List Value} {d lo hi : Int} {offs : Array Int} {len : Nat} {i : Int32} (pc' : Nat) (hd : decode c.code pc = .ok (.tableswitch d lo hi offs, len)) (hout : i.toInt < lo ∨ i.toInt > hi) (ho : 0 ≤ (pc : Int) + d) (hp : ((pc : Int) + d).toNat = pc') (k : Own p e below Q (T.setTop (mkF m (pc') L S))) : Own p e below Q (T.setTop (mkF m pc L (.int i :: S))) :=
  ogo (fun _ k => XS.tswOut X.here hx rfl rfl hd rfl hout ho hp k) k
end Steps

theorem own_cat {v : Value} (h : v.isRef = true) : v.category = 1 := by cases v <;> simp_all [Value.isRef, Value.category]
theorem own_narc (x : Int32) : nar .char (nar .char x) = nar .char x := by
  have h := c_i2c x
  have h' := c_i2c (nar .char x)
  refine Int32.toInt_inj.mp ?_
  show (nar .char x).toUInt32.toUInt16.toUInt32.toInt32.toInt = (nar .char x).toInt
  have e : (nar .char x).toInt = x.toUInt32.toUInt16.toUInt32.toInt32.toInt := rfl
  omega
theorem own_narb (x : Int32) : nar .byte x.toInt8.toInt32 = x.toInt8.toInt32 := by
  have h := c_i2b x
  have h' := c_i2b x.toInt8.toInt32
  refine Int32.toInt_inj.mp ?_
  show x.toInt8.toInt32.toInt8.toInt32.toInt = x.toInt8.toInt32.toInt
  omega
theorem own_eqref {args : Array Value} {s : State} {a b : Term} {z : Addr} (h : (Jvm.Cond.eq a b).value args s none s [] = some true) (hb : b.eval args s none [] s = some (.ref z)) : a.eval args s none [] s = some (.ref z) := by
  obtain ⟨x, y, h1, h2, k1, k2⟩ := cmp_v (Or.inl h)
  cases hb.symm.trans h2
  have q := gotT (eq_R h1 h2 k2.2 rfl) h
  rw [← q]; exact h1
theorem own_char {c : Int32} (h0 : ¬ (c < (0 : Int32))) (h1 : ¬ ((255 : Int32) < c)) : nar .char (c.toInt8.toInt32 &&& (255 : Int32)) = c := by
  rw [Int32.lt_iff_toInt_lt] at h0 h1
  have e0 : (0 : Int32).toInt = 0 := rfl
  have e1 : (255 : Int32).toInt = 255 := rfl
  have a := c_i2b c
  have b := c_mask c.toInt8.toInt32 (255 : Int32) 8 (by decide) (by decide)
  have d := c_i2c (c.toInt8.toInt32 &&& (255 : Int32))
  refine Int32.toInt_inj.mp ?_
  show (c.toInt8.toInt32 &&& (255 : Int32)).toUInt32.toUInt16.toUInt32.toInt32.toInt = c.toInt
  simp only [Nat.reducePow] at b
  omega
theorem own_narsm {c : Int32} (h0 : ¬ (c < (0 : Int32))) (h1 : ¬ ((255 : Int32) < c)) : nar .char c = c := by
  rw [Int32.lt_iff_toInt_lt] at h0 h1
  have e0 : (0 : Int32).toInt = 0 := rfl
  have e1 : (255 : Int32).toInt = 255 := rfl
  have d := c_i2c c
  refine Int32.toInt_inj.mp ?_
  show c.toUInt32.toUInt16.toUInt32.toInt32.toInt = c.toInt
  omega
/-- a char -/
def own_c16 (c : Int32) : Prop := 0 ≤ c.toInt ∧ c.toInt < 65536
theorem own_c16_i2c (x : Int32) : own_c16 (nar .char x) := ⟨(c_i2c x).2.1, (c_i2c x).2.2⟩
theorem own_c16n {c : Int32} (h : own_c16 c) : ¬ (c < (0 : Int32)) := by
  rw [Int32.lt_iff_toInt_lt]; have e : (0 : Int32).toInt = 0 := rfl; have := h.1; omega
theorem own_nar16 {c : Int32} (h : own_c16 c) : nar .char c = c := by
  have d := c_i2c c
  have h1 := h.1
  have h2 := h.2
  refine Int32.toInt_inj.mp ?_
  show c.toUInt32.toUInt16.toUInt32.toInt32.toInt = c.toInt
  omega
theorem own_u16 {c : Int32} (h : own_c16 c) : nar .char (((((c >>> ((0 : Int32) &&& 31)).toInt8.toInt32 &&& (255 : Int32)) <<< ((0 : Int32) &&& 31))) ||| ((((c >>> ((8 : Int32) &&& 31)).toInt8.toInt32 &&& (255 : Int32)) <<< ((8 : Int32) &&& 31)))) = c := by
  have h1 := h.1
  have h2 := h.2
  have s0 := c_ishr c (0 : Int32) 0 (by decide)
  have s8 := c_ishr c (8 : Int32) 8 (by decide)
  have b0 := c_i2b (c >>> ((0 : Int32) &&& 31))
  have b8 := c_i2b (c >>> ((8 : Int32) &&& 31))
  have m0 := c_mask (c >>> ((0 : Int32) &&& 31)).toInt8.toInt32 (255 : Int32) 8 (by decide) (by decide)
  have m8 := c_mask (c >>> ((8 : Int32) &&& 31)).toInt8.toInt32 (255 : Int32) 8 (by decide) (by decide)
  generalize (c >>> ((0 : Int32) &&& 31)).toInt8.toInt32 &&& (255 : Int32) = u at *
  generalize (c >>> ((8 : Int32) &&& 31)).toInt8.toInt32 &&& (255 : Int32) = v at *
  have l0 := c_ishl u (0 : Int32) 0 (by decide)
  have l8 := c_ishl v (8 : Int32) 8 (by decide)
  have r0 := rng32 (u <<< ((0 : Int32) &&& 31))
  have r8 := rng32 (v <<< ((8 : Int32) &&& 31))
  generalize u <<< ((0 : Int32) &&& 31) = a at *
  generalize v <<< ((8 : Int32) &&& 31) = b at *
  simp only [Nat.reducePow] at *
  have o := c_or' a b 8 (by decide) 256 rfl (by omega) (by omega) (by omega)
  have ro := rng32 (a ||| b)
  have d := c_i2c (a ||| b)
  refine Int32.toInt_inj.mp ?_
  show (a ||| b).toUInt32.toUInt16.toUInt32.toInt32.toInt = c.toInt
  omega
def own_EL : List (String × Nat) := [("java/lang/String", 7)]
theorem own_EW {Z : State} {a0 : Array Value} (hw : ∀ d ∈ tables_1, d.before a0 Z = true) : EW Z a0 own_EL := (EW.cons (hw _ (List.mem_of_getElem? (i := 15) rfl)) (by decide) EW.nil)
theorem own_wS {Z : State} {a0 : Array Value} (hw : ∀ d ∈ tables_1, d.before a0 Z = true) : ∀ a ∈ Bundle.stringAtoms, a.before a0 Z = true := fun a ha => by
  simp only [Bundle.stringAtoms, List.mem_cons, List.not_mem_nil, or_false] at ha
  rcases ha with rfl | rfl | rfl | rfl | rfl | rfl | rfl
  · exact hw _ (List.mem_of_getElem? (i := 3) rfl)
  · exact hw _ (List.mem_of_getElem? (i := 2) rfl)
  · exact hw _ (List.mem_of_getElem? (i := 16) rfl)
  · exact hw _ (List.mem_of_getElem? (i := 17) rfl)
  · exact hw _ (List.mem_of_getElem? (i := 18) rfl)
  · exact hw _ (List.mem_of_getElem? (i := 19) rfl)
  · exact hw _ (List.mem_of_getElem? (i := 20) rfl)
theorem own_safe {Z : State} {EL : List (String × Nat)} {vm : Vm} {h : Heap} {x : Addr} (hal : Z.vm.Alike vm) (E : Exa Z h x "java/lang/String") (V : Fld Z h x "java/lang/String" "value" "[B" .null) : Safe Z EL vm h x := fun B => by
  obtain ⟨p, hp, u, a, hb, q, rfl, F, hy⟩ := B
  obtain ⟨cS, ⟨⟨s1, s2, s3, ⟨cv, kv, iv, s4, s4'⟩, -, s6, s7, s8, s9, s10, r⟩, hfS, hcS⟩, -, hB, -⟩ := F
  rcases hy with rfl | rfl
  · obtain ⟨cell, cf, k, i, f, h1, h2, -, -, -, -, h7⟩ := V
    obtain ⟨kv', z4⟩ := ff_back (U := Wst Z vm h) hal s4
    cases h2.symm.trans z4
    have e1 : some cell = some q.sC := h1.symm.trans s1
    cases e1
    rw [s8] at h7; cases h7
  · obtain ⟨cell, k, h1, h2, h3, -⟩ := E
    have e1 : some cell = some q.SA := h1.symm.trans s10
    cases e1
    have hB' : vm.findClass "[B" = some q.SA.cls := hB
    rw [hal.findClass] at hB'
    obtain ⟨k1, a1, a2⟩ := Vm.findClass_spec h2
    obtain ⟨k2, b1, b2⟩ := Vm.findClass_spec hB'
    cases a1.symm.trans b1
    exact absurd (a2.symm.trans b2) (by decide)
abbrev oPostS (Z : State) (q : Option Value → Heap → List Loc → Prop) (s : State) (cc ss : Nat) : State → Outcome → Prop := fun s₂ o => ∃ v L, o = .returned v ∧ q v s₂.heap L ∧ CHr Z own_EL s.vm s.heap s₂.vm s₂.heap ∧ ReturnedEndW s o s₂ L cc ss
abbrev oMetS (l : Launch) (Z : State) (y : MethodName) (code : ByteArray) (maxL : Nat) (ret : Option FieldType) (ws : List Jvm.Cond) (rm : Room) (cc ss : Nat) (as' : Array Value) (h0 : Heap) (q : Option Value → Heap → List Loc → Prop) : Prop :=
  MetFree l y (head1 (Jvm.Cond.code y code maxL ret :: ws) rm) (fun a U => a = as' ∧ Z.Warmed39 U.vm ∧ U.heap = h0 ∧ CHv Z own_EL U.vm h0) (fun _ _ _ _ _ => True) (fun _ U o U' => ∃ v L, o = .returned v ∧ q v U'.heap L ∧ CHr Z own_EL U.vm U.heap U'.vm U'.heap ∧ ReturnedEndW U o U' L cc ss)
theorem oenterS {l : Launch} {Z : State} {y : MethodName} {code : ByteArray} {maxL : Nat} {ret : Option FieldType} {ws : List Jvm.Cond} {rm : Room} {cc ss : Nat} {as' : Array Value} {h0 : Heap} {q : Option Value → Heap → List Loc → Prop} (pn : plainName y.cls = true) (Ls : Array Slot) (ef : ∀ m, entryFrame m as' maxL = mkF m 0 Ls [])
    (body : ∀ (p : Program) (e : Env) (s : State) (m : MethodId) (below : List Frame) (meth : Method) (c : Code) (s₁ : State), Stand p l e rm (s.setVm s.vm) m as' below meth c s₁ [] 0 0 → p.tables.exec = Jvm.exec → Z.Warmed39 s.vm → c.code = code → c.maxLocals = maxL → meth.sig.returnType = ret → s.vm.findClass y.cls = some m.cls → meth.name = y.name → meth.locks = false → s₁.heap = h0 → s.heap = h0 → CHv Z own_EL s.vm h0 → s.Since s.vm 0 → Own p e below (oPostS Z q s cc ss) (s₁.setTop (mkF m 0 Ls []))) : oMetS l Z y code maxL ret ws rm cc ss as' h0 q := by
  refine MetFree.of_bodySF (plainFor_of_name pn) hisR ?_
  intro p e s m args below meth c s₁ Bd hml0 hP hK
  obtain ⟨rfl, hZ, hh, H⟩ := hP
  have e0 : s₁.heap = h0 := by rw [← hh, Bd.state]; rfl
  obtain ⟨t, o, h1, h2⟩ := body p e s m below meth c s₁ (Stand.of_body Bd) Bd.exec hZ Bd.bytes hml0 Bd.returns (findClass_of_methodNamed Bd.named) (name_of_methodNamed Bd.named Bd.method).1 (BodyLoose.notSynchronized Bd) e0 hh H ((State.WarmedH.refl s).since 0)
  exact ⟨t, o, castTop (ef m) h1, h2⟩
theorem oendS {p : Program} {l : Launch} {e : Env} {R : Room} {s : State} {m : MethodId} {args : Array Value} {below : List Frame} {meth : Method} {c : Code} {T : State} {locs : List Loc} {cells slots : Nat} {Z : State} {a0 : Array Value} {vm0 : Vm} {k0 : Nat} {h h0 : Heap} {v : Option Value} {q : Option Value → Heap → List Loc → Prop} {cc ss : Nat} {S : State}
    (X : Stand p l e R (s.setVm vm0) m args below meth c T locs cells slots) (hlk : meth.locks = false) (hS : s.Since vm0 k0) (hk : k0 ≤ h.size) (eT : T.heap = h) (hZ : Z.Warmed39 vm0) (hEL : EW Z a0 own_EL) (hs0 : s.heap = h0) (C : CHr Z own_EL s.vm h0 vm0 h) (hv : meth.sig.returnType = none → v = none)
    (st : ∀ fs, (∀ (f : JFrame) (acts : List Action), f.method = m → f.locked = none → f.entered = [] → (doReturn e (T.setTop f) acts v).1 = T.setFrames fs) → Steps p.tables e below S (T.setFrames fs)) (hc : cells ≤ cc) (hs : slots ≤ ss) (hq : q v T.heap locs) : Own p e below (oPostS Z q s cc ss) S := by
  subst eT hs0
  obtain ⟨fs, hr, hrun, hended, hR⟩ := X.leaveW hS hk hv hlk
  have C2 : CHr Z own_EL s.vm s.heap T.vm T.heap := C.trans (CHv.at X hZ hEL C.1)
  exact ⟨_, _, st fs hr, hrun, hended, _, _, rfl, hq, C2, hR.1, hR.2.1, hR.2.2.1, hR.2.2.2.mono hc hs⟩
theorem own_and3 (k : Int32) : (k &&& (3 : Int32)) = (0 : Int32) ∨ (k &&& (3 : Int32)) = (1 : Int32) ∨ (k &&& (3 : Int32)) = (2 : Int32) ∨ (k &&& (3 : Int32)) = (3 : Int32) := by
  have h := c_mask k (3 : Int32) 2 (by decide) (by decide)
  simp only [Nat.reducePow] at h
  simp only [← Int32.toInt_inj, show (0 : Int32).toInt = 0 from rfl, show (1 : Int32).toInt = 1 from rfl, show (2 : Int32).toInt = 2 from rfl, show (3 : Int32).toInt = 3 from rfl]
  omega
def own_Start (Z : State) (z_CS : Int32) (v_FMT : Value) : Prop := (Sta Z Z.heap "java/lang/String" "COMPACT_STRINGS" "Z" (.int z_CS)) ∧ (¬ (z_CS = (0 : Int32))) ∧ (Sta Z Z.heap "java/lang/StringUTF16" "$assertionsDisabled" "Z" (.int (1 : Int32))) ∧ (Sta Z Z.heap "java/lang/StringUTF16" "HI_BYTE_SHIFT" "I" (.int (0 : Int32))) ∧ (Sta Z Z.heap "java/lang/StringUTF16" "LO_BYTE_SHIFT" "I" (.int (8 : Int32))) ∧ (Sta Z Z.heap "jdk/internal/util/Preconditions" "SIOOBE_FORMATTER" "Ljava/util/function/BiFunction;" v_FMT) ∧ (v_FMT.isRef = true)
def own_enc1 (c0_ : Int32) (cd : Int32) (z : Int32) (vs : List Value) : Prop := (¬ ((255 : Int32) < c0_) ∧ cd = (0 : Int32) ∧ z = (1 : Int32) ∧ vs = [(.int c0_.toInt8.toInt32)]) ∨ (cd = (1 : Int32) ∧ z = (2 : Int32) ∧ vs = [(.int (c0_ >>> ((0 : Int32) &&& 31)).toInt8.toInt32), (.int (c0_ >>> ((8 : Int32) &&& 31)).toInt8.toInt32)])
def own_enc2 (c0_ c1_ : Int32) (cd : Int32) (z : Int32) (vs : List Value) : Prop := (¬ ((255 : Int32) < c0_) ∧ ¬ ((255 : Int32) < c1_) ∧ cd = (0 : Int32) ∧ z = (2 : Int32) ∧ vs = [(.int c0_.toInt8.toInt32), (.int c1_.toInt8.toInt32)]) ∨ (cd = (1 : Int32) ∧ z = (4 : Int32) ∧ vs = [(.int (c0_ >>> ((0 : Int32) &&& 31)).toInt8.toInt32), (.int (c0_ >>> ((8 : Int32) &&& 31)).toInt8.toInt32), (.int (c1_ >>> ((0 : Int32) &&& 31)).toInt8.toInt32), (.int (c1_ >>> ((8 : Int32) &&& 31)).toInt8.toInt32)])
theorem d1_0 : decode prog_8_method_1_code 0 = .ok (.aload_n 0, 1) := by decide +kernel
theorem d1_1 : decode prog_8_method_1_code 1 = .ok (.invokespecial 1, 3) := by decide +kernel
theorem d1_4 : decode prog_8_method_1_code 4 = .ok (.aload_n 0, 1) := by decide +kernel
theorem d1_5 : decode prog_8_method_1_code 5 = .ok (.aload_n 1, 1) := by decide +kernel
theorem d1_6 : decode prog_8_method_1_code 6 = .ok (.putfield 7, 3) := by decide +kernel
theorem d1_9 : decode prog_8_method_1_code 9 = .ok (.return_, 1) := by decide +kernel
theorem own_pn0 : plainName "com/example/rowfold/rowfold/Literal" = true := by first | (simp [plainName, overriddenIn]; done) | decide +kernel
def own_Q_linit (Z : State)  (t_ : Addr) (x_ : Addr) (h0 : Heap) (n0 : Nat) (v : Option Value) (h : Heap) (L : List Loc) : Prop := (v = none) ∧ (Fr n0 L) ∧ (Keep h0 h [t_]) ∧ (Exa Z h t_ "com/example/rowfold/rowfold/Literal") ∧ (Fld Z h t_ "com/example/rowfold/rowfold/Literal" "text" "Ljava/lang/String;" (.ref x_)) ∧ (Fld Z h t_ "com/example/rowfold/rowfold/Literal" "at" "I" (.int (0 : Int32)))
abbrev yM0 : MethodName := ⟨"com/example/rowfold/rowfold/Literal", "<init>", "(Ljava/lang/String;)V"⟩
set_option maxRecDepth 65536 in
set_option maxHeartbeats 40000000 in
theorem rm_linit (l : Launch) (Z : State) (a0 : Array Value) (hw : ∀ d ∈ tables_1, d.before a0 Z = true) (ws : List Jvm.Cond)  (t_ : Addr) (x_ : Addr) (h0 : Heap) (n0 : Nat) (O0 : Old Z n0 h0) (pr0 : Exa Z h0 t_ "com/example/rowfold/rowfold/Literal") (pr1 : Fld Z h0 t_ "com/example/rowfold/rowfold/Literal" "text" "Ljava/lang/String;" .null) (pr2 : Fld Z h0 t_ "com/example/rowfold/rowfold/Literal" "at" "I" (.int (0 : Int32))) (pr3 : n0 ≤ t_) :
    oMet l Z yM0 prog_8_method_1_code 2 none ws ({ frames := 1, cells := 0, slots := 0, locals := 12 } : Room) 0 0 #[(.ref t_), (.ref x_)] h0 (own_Q_linit Z  t_ x_ h0 n0) := by
  refine oenter own_pn0 #[.val (.ref t_), .val (.ref x_)] (fun m => by first | (simp [entryFrame, mkF, argsToLocals, Value.category]; done) | rfl) ?_
  intro p e s m below meth c s₁ X0 hx hZ hby hml hret hown0 hnm hlk e0
  have hown : s.vm.findClass "com/example/rowfold/rowfold/Literal" = some m.cls := hown0
  have N0 := Fr.nil n0
  have w13 := hw _ (List.mem_of_getElem? (i := 13) rfl)
  have w14 := hw _ (List.mem_of_getElem? (i := 14) rfl)
  have w24 := hw _ (List.mem_of_getElem? (i := 24) rfl)
  have w29 := hw _ (List.mem_of_getElem? (i := 29) rfl)
  have w30 := hw _ (List.mem_of_getElem? (i := 30) rfl)
  have w31 := hw _ (List.mem_of_getElem? (i := 31) rfl)
  have w38 := hw _ (List.mem_of_getElem? (i := 38) rfl)
  refine o_aloadN X0 hx (hb hby d1_0) rfl rfl ?_
  obtain ⟨T1, X1, e1, st1⟩ := initO X0 hx hZ hown w29 w13 w14 e0 (g := (mkF m 1 #[.val (.ref t_), .val (.ref x_)] [(.ref t_)])) rfl (by rw [hml]; rfl) rfl (hb hby d1_1) (by decide) (W := 0) (by show 2 * 0 + _ ≤ _; exact Nat.le_of_eq rfl) (by decide)
  refine ogo (S' := T1.setTop (mkF m 4 #[.val (.ref t_), .val (.ref x_)] [])) st1 ?_
  refine o_aloadN X1 hx (hb hby d1_4) rfl rfl ?_
  refine o_aloadN X1 hx (hb hby d1_5) rfl rfl ?_
  obtain ⟨T2, _, X2, rfl, W2, st2⟩ := putF X1 hx hZ hown (host := "") (Or.inl w30) Via.refl e1 pr1 pr0 (Or.inr ⟨w31, rfl, hnm⟩) w24 (ty := (.object "java/lang/String")) (by decide) rfl rfl (g := (mkF m 6 #[.val (.ref t_), .val (.ref x_)] [(.ref x_), (.ref t_)])) rfl rfl (hb hby d1_6)
  have N2 := Fr.snoc X2 N0 pr3
  have F2 := Fld.same W2 pr1
  refine ogo (S' := T2.setTop (mkF m 9 #[.val (.ref t_), .val (.ref x_)] [])) st2 ?_
  have c3 := (Fld.other W2 pr2 (Or.inr (slot_ne (Or.inl w38) (Or.inr w31) (by decide) (t := .int) (t' := (.object "java/lang/String")) (by decide) (by decide))))
  refine oend X2 hlk (v := none) (fun _ => rfl) (fun fs hr => X2.returnOut hx hret (hb hby d1_9) hr) (by decide) (by decide) ?_
  show own_Q_linit Z _ _ h0 n0 _ T2.heap _
  exact ⟨rfl, N2, ((Keep.refl h0 [t_]).wr W2 (Or.inl (List.mem_of_getElem? (i := 0) rfl))), (Exa.wr W2 pr0), F2, c3⟩
theorem d2_0 : decode jdk_52_method_21_code 0 = .ok (.iconst 0, 1) := by decide +kernel
theorem d2_1 : decode jdk_52_method_21_code 1 = .ok (.istore 5, 2) := by decide +kernel
theorem d2_3 : decode jdk_52_method_21_code 3 = .ok (.iload 5, 2) := by decide +kernel
theorem d2_5 : decode jdk_52_method_21_code 5 = .ok (.iload 4, 2) := by decide +kernel
theorem d2_7 : decode jdk_52_method_21_code 7 = .ok (.if_icmp .ge 37, 3) := by decide +kernel
theorem d2_10 : decode jdk_52_method_21_code 10 = .ok (.aload_n 0, 1) := by decide +kernel
theorem d2_11 : decode jdk_52_method_21_code 11 = .ok (.iload_n 1, 1) := by decide +kernel
theorem d2_12 : decode jdk_52_method_21_code 12 = .ok (.caload, 1) := by decide +kernel
theorem d2_13 : decode jdk_52_method_21_code 13 = .ok (.istore 6, 2) := by decide +kernel
theorem d2_15 : decode jdk_52_method_21_code 15 = .ok (.iload 6, 2) := by decide +kernel
theorem d2_17 : decode jdk_52_method_21_code 17 = .ok (.sipush 255, 3) := by decide +kernel
theorem d2_20 : decode jdk_52_method_21_code 20 = .ok (.if_icmp .le 6, 3) := by decide +kernel
theorem d2_26 : decode jdk_52_method_21_code 26 = .ok (.aload_n 2, 1) := by decide +kernel
theorem d2_27 : decode jdk_52_method_21_code 27 = .ok (.iload_n 3, 1) := by decide +kernel
theorem d2_28 : decode jdk_52_method_21_code 28 = .ok (.iload 6, 2) := by decide +kernel
theorem d2_30 : decode jdk_52_method_21_code 30 = .ok (.i2b, 1) := by decide +kernel
theorem d2_31 : decode jdk_52_method_21_code 31 = .ok (.bastore, 1) := by decide +kernel
theorem d2_32 : decode jdk_52_method_21_code 32 = .ok (.iinc 1 1, 3) := by decide +kernel
theorem d2_35 : decode jdk_52_method_21_code 35 = .ok (.iinc 3 1, 3) := by decide +kernel
theorem d2_38 : decode jdk_52_method_21_code 38 = .ok (.iinc 5 1, 3) := by decide +kernel
theorem d2_41 : decode jdk_52_method_21_code 41 = .ok (.goto (-38), 3) := by decide +kernel
theorem d2_44 : decode jdk_52_method_21_code 44 = .ok (.iload 4, 2) := by decide +kernel
theorem d2_46 : decode jdk_52_method_21_code 46 = .ok (.ireturn, 1) := by decide +kernel
theorem own_pn1 : plainName "java/lang/StringUTF16" = true := by first | (simp [plainName, overriddenIn]; done) | decide +kernel
def own_Q_cmp5_1 (Z : State)  (ca_ : Addr) (kc_ : ClassId) (ba_ : Addr) (kb_ : ClassId) (c0_ : Int32) (h0 : Heap) (n0 : Nat) (v : Option Value) (h : Heap) (L : List Loc) : Prop := (v = some (.int (1 : Int32))) ∧ (Fr n0 L) ∧ (Keep h0 h [ba_]) ∧ (Arv Z h ba_ kb_ .byte (1 : Int32) [(.int c0_.toInt8.toInt32)] (.int 0))
abbrev yM1 : MethodName := ⟨"java/lang/StringUTF16", "compress", "([CI[BII)I"⟩
set_option maxRecDepth 65536 in
set_option maxHeartbeats 40000000 in
theorem rm_cmp5_1 (l : Launch) (Z : State) (a0 : Array Value) (hw : ∀ d ∈ tables_1, d.before a0 Z = true) (ws : List Jvm.Cond)  (ca_ : Addr) (kc_ : ClassId) (ba_ : Addr) (kb_ : ClassId) (c0_ : Int32) (h0 : Heap) (n0 : Nat) (O0 : Old Z n0 h0) (pr0 : Arv Z h0 ca_ kc_ .char (1 : Int32) [(.int c0_)] (.int 0)) (pr1 : Arv Z h0 ba_ kb_ .byte (1 : Int32) [(.int 0)] (.int 0)) (pr2 : ca_ ≠ ba_) (pr3 : n0 ≤ ba_) (pr4 : ¬ ((255 : Int32) < c0_)) :
    oMet l Z yM1 jdk_52_method_21_code 7 (some .int) ws ({ frames := 0, cells := 0, slots := 0, locals := 0 } : Room) 0 0 #[(.ref ca_), (.int (0 : Int32)), (.ref ba_), (.int (0 : Int32)), (.int (1 : Int32))] h0 (own_Q_cmp5_1 Z  ca_ kc_ ba_ kb_ c0_ h0 n0) := by
  refine oenter own_pn1 #[.val (.ref ca_), .val (.int (0 : Int32)), .val (.ref ba_), .val (.int (0 : Int32)), .val (.int (1 : Int32)), .unset, .unset] (fun m => by first | (simp [entryFrame, mkF, argsToLocals, Value.category]; done) | rfl) ?_
  intro p e s m below meth c s₁ X0 hx hZ hby hml hret hown0 hnm hlk e0
  have hown : s.vm.findClass "java/lang/StringUTF16" = some m.cls := hown0
  have N0 := Fr.nil n0
  refine o_iconst X0 hx (0 : Int32) (hb hby d2_0) rfl ?_
  refine o_istore X0 hx (l' := #[.val (.ref ca_), .val (.int (0 : Int32)), .val (.ref ba_), .val (.int (0 : Int32)), .val (.int (1 : Int32)), .val (.int (0 : Int32)), .unset]) (hb hby d2_1) rfl ?_
  refine o_iload X0 hx (hb hby d2_3) rfl ?_
  refine o_iload X0 hx (hb hby d2_5) rfl ?_
  refine o_icmpNo X0 hx (hb hby d2_7) (tlt (by decide : (0 : Int32) < (1 : Int32))).2.1 ?_
  refine o_aloadN X0 hx (hb hby d2_10) rfl rfl ?_
  refine o_iloadN X0 hx (hb hby d2_11) rfl ?_
  obtain ⟨cl1, Ar1, q1, S1, N1z, H1, G1⟩ := (id pr0)
  have hi1 := inb_of (j := (0 : Int32)) S1 ⟨by decide, by decide⟩
  have ha1 := Has.at (v := (.int c0_)) H1 hi1 rfl
  refine ogo (S' := s₁.setTop (mkF m 13 #[.val (.ref ca_), .val (.int (0 : Int32)), .val (.ref ba_), .val (.int (0 : Int32)), .val (.int (1 : Int32)), .val (.int (0 : Int32)), .unset] [(.int c0_)])) (X0.caload hx (j := (0 : Int32)) (v := (.int c0_)) (by rw [e0]; exact Ar1.1) (State.isArrayOf_alike hZ.alike Ar1.2.1) Ar1.2.2 hi1 ha1 (g := (mkF m 12 #[.val (.ref ca_), .val (.int (0 : Int32)), .val (.ref ba_), .val (.int (0 : Int32)), .val (.int (1 : Int32)), .val (.int (0 : Int32)), .unset] [(.int (0 : Int32)), (.ref ca_)])) rfl rfl (hb hby d2_12)) ?_
  refine o_istore X0 hx (l' := #[.val (.ref ca_), .val (.int (0 : Int32)), .val (.ref ba_), .val (.int (0 : Int32)), .val (.int (1 : Int32)), .val (.int (0 : Int32)), .val (.int c0_)]) (hb hby d2_13) rfl ?_
  refine o_iload X0 hx (hb hby d2_15) rfl ?_
  refine o_sipush X0 hx (255 : Int32) (hb hby d2_17) rfl ?_
  refine o_icmpYes X0 hx 26 (hb hby d2_20) (flt pr4).2.2.2 (by decide) (by decide) ?_
  refine o_aloadN X0 hx (hb hby d2_26) rfl rfl ?_
  refine o_iloadN X0 hx (hb hby d2_27) rfl ?_
  refine o_iload X0 hx (hb hby d2_28) rfl ?_
  refine o_i2b X0 hx (hb hby d2_30) ?_
  obtain ⟨cl2, Ar2, q2, S2, N2z, H2, G2⟩ := (id pr1)
  obtain ⟨T2, _, X2, rfl, W2, st2⟩ := stB X0 hx hZ e0 Ar2 (j := (0 : Int32)) (inb_of S2 ⟨by decide, by decide⟩) (g := (mkF m 31 #[.val (.ref ca_), .val (.int (0 : Int32)), .val (.ref ba_), .val (.int (0 : Int32)), .val (.int (1 : Int32)), .val (.int (0 : Int32)), .val (.int c0_)] [(.int c0_.toInt8.toInt32), (.int (0 : Int32)), (.ref ba_)])) rfl rfl (hb hby d2_31)
  rw [own_narb] at W2
  have V2 : Arv Z T2.heap ba_ kb_ .byte (1 : Int32) [(.int c0_.toInt8.toInt32)] (.int 0) := Arv.set Ar2 q2 S2 N2z H2 G2 (fits_nar_byte _) W2 0 rfl (Nat.le_of_ble_eq_true rfl)
  have N2 := Fr.snoc X2 N0 pr3
  refine ogo (S' := T2.setTop (mkF m 32 #[.val (.ref ca_), .val (.int (0 : Int32)), .val (.ref ba_), .val (.int (0 : Int32)), .val (.int (1 : Int32)), .val (.int (0 : Int32)), .val (.int c0_)] [])) st2 ?_
  refine o_iinc X2 hx (l' := #[.val (.ref ca_), .val (.int (1 : Int32)), .val (.ref ba_), .val (.int (0 : Int32)), .val (.int (1 : Int32)), .val (.int (0 : Int32)), .val (.int c0_)]) (hb hby d2_32) rfl rfl ?_
  refine o_iinc X2 hx (l' := #[.val (.ref ca_), .val (.int (1 : Int32)), .val (.ref ba_), .val (.int (1 : Int32)), .val (.int (1 : Int32)), .val (.int (0 : Int32)), .val (.int c0_)]) (hb hby d2_35) rfl rfl ?_
  refine o_iinc X2 hx (l' := #[.val (.ref ca_), .val (.int (1 : Int32)), .val (.ref ba_), .val (.int (1 : Int32)), .val (.int (1 : Int32)), .val (.int (1 : Int32)), .val (.int c0_)]) (hb hby d2_38) rfl rfl ?_
  refine o_goto X2 hx 3 (hb hby d2_41) (by decide) (by decide) ?_
  refine o_iload X2 hx (hb hby d2_3) rfl ?_
  refine o_iload X2 hx (hb hby d2_5) rfl ?_
  refine o_icmpYes X2 hx 44 (hb hby d2_7) (flt (by decide : ¬ ((1 : Int32) < (1 : Int32)))).2.1 (by decide) (by decide) ?_
  refine o_iload X2 hx (hb hby d2_44) rfl ?_
  refine oend X2 hlk (v := some (.int (1 : Int32))) (fun h => by rw [hret] at h; cases h) (fun fs hr => retOut X2 hx (t := .int) (i := .ireturn) hret rfl (Or.inl ⟨rfl, Or.inl rfl, _, rfl⟩) (hb hby d2_46) hr) (by decide) (by decide) ?_
  show own_Q_cmp5_1 Z _ _ _ _ _ h0 n0 _ T2.heap _
  exact ⟨rfl, N2, ((Keep.refl h0 [ba_]).wr W2 (Or.inl (List.mem_of_getElem? (i := 0) rfl))), V2⟩
theorem own_pd0 : parseMethodDescriptor "([CI[BII)I" = some ⟨[(.array .char), .int, (.array .byte), .int, .int], some .int⟩ := by decide +kernel
theorem d3_0 : decode jdk_52_method_16_code 0 = .ok (.iload_n 2, 1) := by decide +kernel
theorem d3_1 : decode jdk_52_method_16_code 1 = .ok (.newarray .byte, 2) := by decide +kernel
theorem d3_3 : decode jdk_52_method_16_code 3 = .ok (.astore_n 3, 1) := by decide +kernel
theorem d3_4 : decode jdk_52_method_16_code 4 = .ok (.aload_n 0, 1) := by decide +kernel
theorem d3_5 : decode jdk_52_method_16_code 5 = .ok (.iload_n 1, 1) := by decide +kernel
theorem d3_6 : decode jdk_52_method_16_code 6 = .ok (.aload_n 3, 1) := by decide +kernel
theorem d3_7 : decode jdk_52_method_16_code 7 = .ok (.iconst 0, 1) := by decide +kernel
theorem d3_8 : decode jdk_52_method_16_code 8 = .ok (.iload_n 2, 1) := by decide +kernel
theorem d3_9 : decode jdk_52_method_16_code 9 = .ok (.invokestatic 115, 3) := by decide +kernel
theorem d3_12 : decode jdk_52_method_16_code 12 = .ok (.istore 4, 2) := by decide +kernel
theorem d3_14 : decode jdk_52_method_16_code 14 = .ok (.iload 4, 2) := by decide +kernel
theorem d3_16 : decode jdk_52_method_16_code 16 = .ok (.iload_n 2, 1) := by decide +kernel
theorem d3_17 : decode jdk_52_method_16_code 17 = .ok (.if_icmp .eq 40, 3) := by decide +kernel
theorem d3_57 : decode jdk_52_method_16_code 57 = .ok (.aload_n 3, 1) := by decide +kernel
theorem d3_58 : decode jdk_52_method_16_code 58 = .ok (.areturn, 1) := by decide +kernel
def own_Q_cmp3_1 (Z : State)  (ca_ : Addr) (kc_ : ClassId) (c0_ : Int32) (h0 : Heap) (n0 : Nat) (v : Option Value) (h : Heap) (L : List Loc) : Prop := ∃ ba_ : Addr, ∃ kb_ : ClassId, (v = some (.ref ba_)) ∧ (Fr n0 L) ∧ (Keep h0 h []) ∧ (h0.size ≤ ba_) ∧ (Arv Z h ba_ kb_ .byte (1 : Int32) [(.int c0_.toInt8.toInt32)] (.int 0))
abbrev yM2 : MethodName := ⟨"java/lang/StringUTF16", "compress", "([CII)[B"⟩
set_option maxRecDepth 65536 in
set_option maxHeartbeats 40000000 in
theorem rm_cmp3_1 (l : Launch) (Z : State) (a0 : Array Value) (hw : ∀ d ∈ tables_1, d.before a0 Z = true) (ws : List Jvm.Cond)  (ca_ : Addr) (kc_ : ClassId) (c0_ : Int32) (h0 : Heap) (n0 : Nat) (O0 : Old Z n0 h0) (pr0 : Arv Z h0 ca_ kc_ .char (1 : Int32) [(.int c0_)] (.int 0)) (pr1 : ¬ ((255 : Int32) < c0_)) :
    oMet l Z yM2 jdk_52_method_16_code 6 (some (.array .byte)) ws ({ frames := 1, cells := 1, slots := 1, locals := 18 } : Room) 1 1 #[(.ref ca_), (.int (0 : Int32)), (.int (1 : Int32))] h0 (own_Q_cmp3_1 Z  ca_ kc_ c0_ h0 n0) := by
  refine oenter own_pn1 #[.val (.ref ca_), .val (.int (0 : Int32)), .val (.int (1 : Int32)), .unset, .unset, .unset] (fun m => by first | (simp [entryFrame, mkF, argsToLocals, Value.category]; done) | rfl) ?_
  intro p e s m below meth c s₁ X0 hx hZ hby hml hret hown0 hnm hlk e0
  have hown : s.vm.findClass "java/lang/StringUTF16" = some m.cls := hown0
  have N0 := Fr.nil n0
  have w16 := hw _ (List.mem_of_getElem? (i := 16) rfl)
  have w56 := hw _ (List.mem_of_getElem? (i := 56) rfl)
  have w58 := hw _ (List.mem_of_getElem? (i := 58) rfl)
  have w59 := hw _ (List.mem_of_getElem? (i := 59) rfl)
  have w60 := hw _ (List.mem_of_getElem? (i := 60) rfl)
  refine o_iloadN X0 hx (hb hby d3_0) rfl ?_
  obtain ⟨T1, _, k1, X1, rfl, E1, A1, Ex1, st1⟩ := newPE (aty := .byte) X0 hx hZ w16 e0 (g := (mkF m 1 #[.val (.ref ca_), .val (.int (0 : Int32)), .val (.int (1 : Int32)), .unset, .unset, .unset] [(.int (1 : Int32))])) rfl (hb hby d3_1) rfl (by decide) (cap := 1) (by decide) (by decide) (by decide) (by decide) (ad := "[B") rfl
  obtain ⟨b1, g1⟩ : ∃ z, z = h0.size := ⟨_, rfl⟩
  rw [← g1] at A1 Ex1 st1
  have n0_b1 : n0 ≤ b1 := Nat.le_trans (Nat.le_trans (Nat.le_of_eq O0.1.symm) O0.2.1) (Nat.le_trans (Nat.le_refl _) (Nat.le_of_eq g1.symm))
  have V1 : Arv Z T1.heap b1 k1 .byte (1 : Int32) [(.int 0)] (.int 0) := (Arv.new A1 (by decide)).pad (pad_rep [] (.int 0) 1)
  refine ogo (S' := T1.setTop (mkF m 3 #[.val (.ref ca_), .val (.int (0 : Int32)), .val (.int (1 : Int32)), .unset, .unset, .unset] [(.ref b1)])) st1 ?_
  refine o_astoreN X1 hx (l' := #[.val (.ref ca_), .val (.int (0 : Int32)), .val (.int (1 : Int32)), .val (.ref b1), .unset, .unset]) (hb hby d3_3) rfl rfl ?_
  refine o_aloadN X1 hx (hb hby d3_4) rfl rfl ?_
  refine o_iloadN X1 hx (hb hby d3_5) rfl ?_
  refine o_aloadN X1 hx (hb hby d3_6) rfl rfl ?_
  refine o_iconst X1 hx (0 : Int32) (hb hby d3_7) rfl ?_
  refine o_iloadN X1 hx (hb hby d3_8) rfl ?_
  obtain ⟨_, _, ⟨T2, L2, kc2, n2⟩, -, X2, ⟨Lc2, hQ2, l2, y2, z2⟩, st2⟩ := Jvm.LawKit.callS X1 hx (y := yM1) hown (mvT hZ w58) (mvT hZ w59) (mvT hZ w56) (mvT hZ w60) (by decide) (backOf (W := 0) (rm_cmp5_1 l Z a0 hw []  ca_ kc_ b1 k1 c0_ T1.heap n0 (O0.ext E1) (pr0.ext E1) V1 (Nat.ne_of_lt (Nat.lt_of_lt_of_le (Nat.lt_of_lt_of_le pr0.lt (Nat.le_refl _)) (Nat.le_of_eq g1.symm))) n0_b1 pr1) hZ w60 w56 (by decide) (by decide)) (g := (mkF m 9 #[.val (.ref ca_), .val (.int (0 : Int32)), .val (.int (1 : Int32)), .val (.ref b1), .unset, .unset] [(.int (1 : Int32)), (.int (0 : Int32)), (.ref b1), (.int (0 : Int32)), (.ref ca_)])) rfl (by rw [hml]; rfl) (argsL := [(.ref ca_), (.int (0 : Int32)), (.ref b1), (.int (0 : Int32)), (.int (1 : Int32))]) (rest := []) (lenOf own_pd0 rfl) rfl (by show 2 * 0 + _ ≤ _; exact Nat.le_of_eq rfl) (hb hby d3_9) (fun _ _ => ⟨rfl, rfl, (by decide : 1 + 0 ≤ _), (by decide : 1 + 0 ≤ _)⟩)
  dsimp only [Pt.U, Pt.locs, Pt.cells, Pt.slots] at X2 l2 y2 z2 st2 hQ2
  subst l2 y2 z2
  obtain ⟨rfl, Nq2, K2, p2_0⟩ := hQ2
  have N2 := Fr.app N0 Nq2
  refine ogo (S' := T2.setTop (mkF m 12 #[.val (.ref ca_), .val (.int (0 : Int32)), .val (.int (1 : Int32)), .val (.ref b1), .unset, .unset] [(.int (1 : Int32))])) st2 ?_
  refine o_istore X2 hx (l' := #[.val (.ref ca_), .val (.int (0 : Int32)), .val (.int (1 : Int32)), .val (.ref b1), .val (.int (1 : Int32)), .unset]) (hb hby d3_12) rfl ?_
  refine o_iload X2 hx (hb hby d3_14) rfl ?_
  refine o_iloadN X2 hx (hb hby d3_16) rfl ?_
  refine o_icmpYes X2 hx 57 (hb hby d3_17) (teq (by decide : (1 : Int32) = (1 : Int32))).1 (by decide) (by decide) ?_
  refine o_aloadN X2 hx (hb hby d3_57) rfl rfl ?_
  refine oend X2 hlk (v := some (.ref b1)) (fun h => by rw [hret] at h; cases h) (fun fs hr => retOut X2 hx (t := (.array .byte)) (i := .areturn) hret rfl (Or.inr (Or.inr (Or.inr (Or.inr ⟨rfl, rfl, rfl⟩)))) (hb hby d3_58) hr) (by decide) (by decide) ?_
  show own_Q_cmp3_1 Z _ _ _ h0 n0 _ T2.heap _
  exact ⟨b1, k1, rfl, N2, (((Keep.refl h0 []).ext E1).trans K2 (allS (Or.inr (Nat.le_trans (Nat.le_refl _) (Nat.le_of_eq g1.symm))) all0)), (Nat.le_trans (Nat.le_refl _) (Nat.le_of_eq g1.symm)), p2_0⟩
theorem d4_0 : decode jdk_52_method_15_code 0 = .ok (.iload_n 1, 1) := by decide +kernel
theorem d4_1 : decode jdk_52_method_15_code 1 = .ok (.aload_n 0, 1) := by decide +kernel
theorem d4_2 : decode jdk_52_method_15_code 2 = .ok (.arraylength, 1) := by decide +kernel
theorem d4_3 : decode jdk_52_method_15_code 3 = .ok (.isub, 1) := by decide +kernel
theorem d4_4 : decode jdk_52_method_15_code 4 = .ok (.bipush 31, 2) := by decide +kernel
theorem d4_6 : decode jdk_52_method_15_code 6 = .ok (.iushr, 1) := by decide +kernel
theorem d4_7 : decode jdk_52_method_15_code 7 = .ok (.i2b, 1) := by decide +kernel
theorem d4_8 : decode jdk_52_method_15_code 8 = .ok (.ireturn, 1) := by decide +kernel
def own_Q_codl_1 (Z : State)  (ba_ : Addr) (kb_ : ClassId) (vs_ : List Value) (h0 : Heap) (n0 : Nat) (v : Option Value) (h : Heap) (L : List Loc) : Prop := (v = some (.int (0 : Int32))) ∧ (Fr n0 L) ∧ (h = h0)
abbrev yM3 : MethodName := ⟨"java/lang/StringUTF16", "coderFromArrayLen", "([BI)B"⟩
set_option maxRecDepth 65536 in
set_option maxHeartbeats 40000000 in
theorem rm_codl_1 (l : Launch) (Z : State) (a0 : Array Value) (hw : ∀ d ∈ tables_1, d.before a0 Z = true) (ws : List Jvm.Cond)  (ba_ : Addr) (kb_ : ClassId) (vs_ : List Value) (h0 : Heap) (n0 : Nat) (O0 : Old Z n0 h0) (pr0 : Arv Z h0 ba_ kb_ .byte (1 : Int32) vs_ (.int 0)) :
    oMet l Z yM3 jdk_52_method_15_code 2 (some .byte) ws ({ frames := 0, cells := 0, slots := 0, locals := 0 } : Room) 0 0 #[(.ref ba_), (.int (1 : Int32))] h0 (own_Q_codl_1 Z  ba_ kb_ vs_ h0 n0) := by
  refine oenter own_pn1 #[.val (.ref ba_), .val (.int (1 : Int32))] (fun m => by first | (simp [entryFrame, mkF, argsToLocals, Value.category]; done) | rfl) ?_
  intro p e s m below meth c s₁ X0 hx hZ hby hml hret hown0 hnm hlk e0
  have hown : s.vm.findClass "java/lang/StringUTF16" = some m.cls := hown0
  have N0 := Fr.nil n0
  refine o_iloadN X0 hx (hb hby d4_0) rfl ?_
  refine o_aloadN X0 hx (hb hby d4_1) rfl rfl ?_
  obtain ⟨cl1, Ar1, -, S1, N1z, -, -⟩ := (id pr0)
  refine ogo (S' := s₁.setTop (mkF m 3 #[.val (.ref ba_), .val (.int (1 : Int32))] [(.int (1 : Int32)), (.int (1 : Int32))])) (fun _ kt_ => X0.arraylength hx (by rw [e0]; exact Ar1.1) (State.isArrayOf_alike hZ.alike Ar1.2.1) (g := (mkF m 2 #[.val (.ref ba_), .val (.int (1 : Int32))] [(.ref ba_), (.int (1 : Int32))])) rfl rfl (hb hby d4_2) _ (by rw [len_of S1 N1z]; exact kt_)) ?_
  refine o_isub X0 hx (hb hby d4_3) ?_
  refine o_bipush X0 hx (31 : Int32) (hb hby d4_4) rfl ?_
  refine o_iushr X0 hx (hb hby d4_6) ?_
  refine o_i2b X0 hx (hb hby d4_7) ?_
  refine oend X0 hlk (v := some (.int (0 : Int32))) (fun h => by rw [hret] at h; cases h) (fun fs hr => retN X0 hx (t := .byte) hret (by simp) (hb hby d4_8) hr) (by decide) (by decide) ?_
  show own_Q_codl_1 Z _ _ _ h0 n0 _ s₁.heap _
  rw [e0]
  exact ⟨rfl, N0, rfl⟩
def own_Q_codl16_1 (Z : State)  (ba_ : Addr) (kb_ : ClassId) (vs_ : List Value) (h0 : Heap) (n0 : Nat) (v : Option Value) (h : Heap) (L : List Loc) : Prop := (v = some (.int (1 : Int32))) ∧ (Fr n0 L) ∧ (h = h0)
set_option maxRecDepth 65536 in
set_option maxHeartbeats 40000000 in
theorem rm_codl16_1 (l : Launch) (Z : State) (a0 : Array Value) (hw : ∀ d ∈ tables_1, d.before a0 Z = true) (ws : List Jvm.Cond)  (ba_ : Addr) (kb_ : ClassId) (vs_ : List Value) (h0 : Heap) (n0 : Nat) (O0 : Old Z n0 h0) (pr0 : Arv Z h0 ba_ kb_ .byte (2 : Int32) vs_ (.int 0)) :
    oMet l Z yM3 jdk_52_method_15_code 2 (some .byte) ws ({ frames := 0, cells := 0, slots := 0, locals := 0 } : Room) 0 0 #[(.ref ba_), (.int (1 : Int32))] h0 (own_Q_codl16_1 Z  ba_ kb_ vs_ h0 n0) := by
  refine oenter own_pn1 #[.val (.ref ba_), .val (.int (1 : Int32))] (fun m => by first | (simp [entryFrame, mkF, argsToLocals, Value.category]; done) | rfl) ?_
  intro p e s m below meth c s₁ X0 hx hZ hby hml hret hown0 hnm hlk e0
  have hown : s.vm.findClass "java/lang/StringUTF16" = some m.cls := hown0
  have N0 := Fr.nil n0
  refine o_iloadN X0 hx (hb hby d4_0) rfl ?_
  refine o_aloadN X0 hx (hb hby d4_1) rfl rfl ?_
  obtain ⟨cl1, Ar1, -, S1, N1z, -, -⟩ := (id pr0)
  refine ogo (S' := s₁.setTop (mkF m 3 #[.val (.ref ba_), .val (.int (1 : Int32))] [(.int (2 : Int32)), (.int (1 : Int32))])) (fun _ kt_ => X0.arraylength hx (by rw [e0]; exact Ar1.1) (State.isArrayOf_alike hZ.alike Ar1.2.1) (g := (mkF m 2 #[.val (.ref ba_), .val (.int (1 : Int32))] [(.ref ba_), (.int (1 : Int32))])) rfl rfl (hb hby d4_2) _ (by rw [len_of S1 N1z]; exact kt_)) ?_
  refine o_isub X0 hx (hb hby d4_3) ?_
  refine o_bipush X0 hx (31 : Int32) (hb hby d4_4) rfl ?_
  refine o_iushr X0 hx (hb hby d4_6) ?_
  refine o_i2b X0 hx (hb hby d4_7) ?_
  refine oend X0 hlk (v := some (.int (1 : Int32))) (fun h => by rw [hret] at h; cases h) (fun fs hr => retN X0 hx (t := .byte) hret (by simp) (hb hby d4_8) hr) (by decide) (by decide) ?_
  show own_Q_codl16_1 Z _ _ _ h0 n0 _ s₁.heap _
  rw [e0]
  exact ⟨rfl, N0, rfl⟩
theorem d2_23 : decode jdk_52_method_21_code 23 = .ok (.iload 5, 2) := by decide +kernel
theorem d2_25 : decode jdk_52_method_21_code 25 = .ok (.ireturn, 1) := by decide +kernel
def own_Q_cmp5_1_0 (Z : State)  (ca_ : Addr) (kc_ : ClassId) (ba_ : Addr) (kb_ : ClassId) (c0_ : Int32) (h0 : Heap) (n0 : Nat) (v : Option Value) (h : Heap) (L : List Loc) : Prop := (v = some (.int (0 : Int32))) ∧ (Fr n0 L) ∧ (Keep h0 h [ba_])
set_option maxRecDepth 65536 in
set_option maxHeartbeats 40000000 in
theorem rm_cmp5_1_0 (l : Launch) (Z : State) (a0 : Array Value) (hw : ∀ d ∈ tables_1, d.before a0 Z = true) (ws : List Jvm.Cond)  (ca_ : Addr) (kc_ : ClassId) (ba_ : Addr) (kb_ : ClassId) (c0_ : Int32) (h0 : Heap) (n0 : Nat) (O0 : Old Z n0 h0) (pr0 : Arv Z h0 ca_ kc_ .char (1 : Int32) [(.int c0_)] (.int 0)) (pr1 : Arv Z h0 ba_ kb_ .byte (1 : Int32) [(.int 0)] (.int 0)) (pr2 : ca_ ≠ ba_) (pr3 : n0 ≤ ba_) (pr4 : (255 : Int32) < c0_) :
    oMet l Z yM1 jdk_52_method_21_code 7 (some .int) ws ({ frames := 0, cells := 0, slots := 0, locals := 0 } : Room) 0 0 #[(.ref ca_), (.int (0 : Int32)), (.ref ba_), (.int (0 : Int32)), (.int (1 : Int32))] h0 (own_Q_cmp5_1_0 Z  ca_ kc_ ba_ kb_ c0_ h0 n0) := by
  refine oenter own_pn1 #[.val (.ref ca_), .val (.int (0 : Int32)), .val (.ref ba_), .val (.int (0 : Int32)), .val (.int (1 : Int32)), .unset, .unset] (fun m => by first | (simp [entryFrame, mkF, argsToLocals, Value.category]; done) | rfl) ?_
  intro p e s m below meth c s₁ X0 hx hZ hby hml hret hown0 hnm hlk e0
  have hown : s.vm.findClass "java/lang/StringUTF16" = some m.cls := hown0
  have N0 := Fr.nil n0
  refine o_iconst X0 hx (0 : Int32) (hb hby d2_0) rfl ?_
  refine o_istore X0 hx (l' := #[.val (.ref ca_), .val (.int (0 : Int32)), .val (.ref ba_), .val (.int (0 : Int32)), .val (.int (1 : Int32)), .val (.int (0 : Int32)), .unset]) (hb hby d2_1) rfl ?_
  refine o_iload X0 hx (hb hby d2_3) rfl ?_
  refine o_iload X0 hx (hb hby d2_5) rfl ?_
  refine o_icmpNo X0 hx (hb hby d2_7) (tlt (by decide : (0 : Int32) < (1 : Int32))).2.1 ?_
  refine o_aloadN X0 hx (hb hby d2_10) rfl rfl ?_
  refine o_iloadN X0 hx (hb hby d2_11) rfl ?_
  obtain ⟨cl1, Ar1, q1, S1, N1z, H1, G1⟩ := (id pr0)
  have hi1 := inb_of (j := (0 : Int32)) S1 ⟨by decide, by decide⟩
  have ha1 := Has.at (v := (.int c0_)) H1 hi1 rfl
  refine ogo (S' := s₁.setTop (mkF m 13 #[.val (.ref ca_), .val (.int (0 : Int32)), .val (.ref ba_), .val (.int (0 : Int32)), .val (.int (1 : Int32)), .val (.int (0 : Int32)), .unset] [(.int c0_)])) (X0.caload hx (j := (0 : Int32)) (v := (.int c0_)) (by rw [e0]; exact Ar1.1) (State.isArrayOf_alike hZ.alike Ar1.2.1) Ar1.2.2 hi1 ha1 (g := (mkF m 12 #[.val (.ref ca_), .val (.int (0 : Int32)), .val (.ref ba_), .val (.int (0 : Int32)), .val (.int (1 : Int32)), .val (.int (0 : Int32)), .unset] [(.int (0 : Int32)), (.ref ca_)])) rfl rfl (hb hby d2_12)) ?_
  refine o_istore X0 hx (l' := #[.val (.ref ca_), .val (.int (0 : Int32)), .val (.ref ba_), .val (.int (0 : Int32)), .val (.int (1 : Int32)), .val (.int (0 : Int32)), .val (.int c0_)]) (hb hby d2_13) rfl ?_
  refine o_iload X0 hx (hb hby d2_15) rfl ?_
  refine o_sipush X0 hx (255 : Int32) (hb hby d2_17) rfl ?_
  refine o_icmpNo X0 hx (hb hby d2_20) (tlt pr4).2.2.2 ?_
  refine o_iload X0 hx (hb hby d2_23) rfl ?_
  refine oend X0 hlk (v := some (.int (0 : Int32))) (fun h => by rw [hret] at h; cases h) (fun fs hr => retOut X0 hx (t := .int) (i := .ireturn) hret rfl (Or.inl ⟨rfl, Or.inl rfl, _, rfl⟩) (hb hby d2_25) hr) (by decide) (by decide) ?_
  show own_Q_cmp5_1_0 Z _ _ _ _ _ h0 n0 _ s₁.heap _
  rw [e0]
  exact ⟨rfl, N0, (Keep.refl h0 [ba_])⟩
theorem d5_0 : decode jdk_52_method_3_code 0 = .ok (.iload_n 0, 1) := by decide +kernel
theorem d5_1 : decode jdk_52_method_3_code 1 = .ok (.ifCond .ge 11, 3) := by decide +kernel
theorem d5_12 : decode jdk_52_method_3_code 12 = .ok (.iload_n 0, 1) := by decide +kernel
theorem d5_13 : decode jdk_52_method_3_code 13 = .ok (.ldc 20, 2) := by decide +kernel
theorem d5_15 : decode jdk_52_method_3_code 15 = .ok (.if_icmp .lt 40, 3) := by decide +kernel
theorem d5_55 : decode jdk_52_method_3_code 55 = .ok (.iload_n 0, 1) := by decide +kernel
theorem d5_56 : decode jdk_52_method_3_code 56 = .ok (.iconst 1, 1) := by decide +kernel
theorem d5_57 : decode jdk_52_method_3_code 57 = .ok (.ishl, 1) := by decide +kernel
theorem d5_58 : decode jdk_52_method_3_code 58 = .ok (.ireturn, 1) := by decide +kernel
def own_Q_nbl_1 (Z : State)   (h0 : Heap) (n0 : Nat) (v : Option Value) (h : Heap) (L : List Loc) : Prop := (v = some (.int (2 : Int32))) ∧ (Fr n0 L) ∧ (h = h0)
abbrev yM4 : MethodName := ⟨"java/lang/StringUTF16", "newBytesLength", "(I)I"⟩
set_option maxRecDepth 65536 in
set_option maxHeartbeats 40000000 in
theorem rm_nbl_1 (l : Launch) (Z : State) (a0 : Array Value) (hw : ∀ d ∈ tables_1, d.before a0 Z = true) (ws : List Jvm.Cond)   (h0 : Heap) (n0 : Nat) (O0 : Old Z n0 h0)  :
    oMet l Z yM4 jdk_52_method_3_code 1 (some .int) ws ({ frames := 0, cells := 0, slots := 0, locals := 0 } : Room) 0 0 #[(.int (1 : Int32))] h0 (own_Q_nbl_1 Z   h0 n0) := by
  refine oenter own_pn1 #[.val (.int (1 : Int32))] (fun m => by first | (simp [entryFrame, mkF, argsToLocals, Value.category]; done) | rfl) ?_
  intro p e s m below meth c s₁ X0 hx hZ hby hml hret hown0 hnm hlk e0
  have hown : s.vm.findClass "java/lang/StringUTF16" = some m.cls := hown0
  have N0 := Fr.nil n0
  have w95 := hw _ (List.mem_of_getElem? (i := 95) rfl)
  refine o_iloadN X0 hx (hb hby d5_0) rfl ?_
  refine o_ifYes X0 hx 12 (hb hby d5_1) (flt (by decide : ¬ ((1 : Int32) < (0 : Int32)))).2.1 (by decide) (by decide) ?_
  refine o_iloadN X0 hx (hb hby d5_12) rfl ?_
  refine ogo (S' := s₁.setTop (mkF m 15 #[.val (.int (1 : Int32))] [(.int (1073741823 : Int32)), (.int (1 : Int32))])) (X0.ldcInt hx hown (mvT hZ w95) (g := (mkF m 13 #[.val (.int (1 : Int32))] [(.int (1 : Int32))])) rfl (hb hby d5_13)) ?_
  refine o_icmpYes X0 hx 55 (hb hby d5_15) (tlt (by decide : (1 : Int32) < (1073741823 : Int32))).1 (by decide) (by decide) ?_
  refine o_iloadN X0 hx (hb hby d5_55) rfl ?_
  refine o_iconst X0 hx (1 : Int32) (hb hby d5_56) rfl ?_
  refine o_ishl X0 hx (hb hby d5_57) ?_
  refine oend X0 hlk (v := some (.int (2 : Int32))) (fun h => by rw [hret] at h; cases h) (fun fs hr => retOut X0 hx (t := .int) (i := .ireturn) hret rfl (Or.inl ⟨rfl, Or.inl rfl, _, rfl⟩) (hb hby d5_58) hr) (by decide) (by decide) ?_
  show own_Q_nbl_1 Z  h0 n0 _ s₁.heap _
  rw [e0]
  exact ⟨rfl, N0, rfl⟩
theorem own_pd1 : parseMethodDescriptor "(I)I" = some ⟨[.int], some .int⟩ := by decide +kernel
theorem d6_0 : decode jdk_52_method_2_code 0 = .ok (.iload_n 0, 1) := by decide +kernel
theorem d6_1 : decode jdk_52_method_2_code 1 = .ok (.invokestatic 11, 3) := by decide +kernel
theorem d6_4 : decode jdk_52_method_2_code 4 = .ok (.newarray .byte, 2) := by decide +kernel
theorem d6_6 : decode jdk_52_method_2_code 6 = .ok (.areturn, 1) := by decide +kernel
def own_Q_nbf_1 (Z : State)   (h0 : Heap) (n0 : Nat) (v : Option Value) (h : Heap) (L : List Loc) : Prop := ∃ ba_ : Addr, ∃ kb_ : ClassId, (v = some (.ref ba_)) ∧ (Fr n0 L) ∧ (Keep h0 h []) ∧ (h0.size ≤ ba_) ∧ (Arv Z h ba_ kb_ .byte (2 : Int32) [(.int 0), (.int 0)] (.int 0))
abbrev yM5 : MethodName := ⟨"java/lang/StringUTF16", "newBytesFor", "(I)[B"⟩
set_option maxRecDepth 65536 in
set_option maxHeartbeats 40000000 in
theorem rm_nbf_1 (l : Launch) (Z : State) (a0 : Array Value) (hw : ∀ d ∈ tables_1, d.before a0 Z = true) (ws : List Jvm.Cond)   (h0 : Heap) (n0 : Nat) (O0 : Old Z n0 h0)  :
    oMet l Z yM5 jdk_52_method_2_code 1 (some (.array .byte)) ws ({ frames := 1, cells := 1, slots := 2, locals := 12 } : Room) 1 2 #[(.int (1 : Int32))] h0 (own_Q_nbf_1 Z   h0 n0) := by
  refine oenter own_pn1 #[.val (.int (1 : Int32))] (fun m => by first | (simp [entryFrame, mkF, argsToLocals, Value.category]; done) | rfl) ?_
  intro p e s m below meth c s₁ X0 hx hZ hby hml hret hown0 hnm hlk e0
  have hown : s.vm.findClass "java/lang/StringUTF16" = some m.cls := hown0
  have N0 := Fr.nil n0
  have w16 := hw _ (List.mem_of_getElem? (i := 16) rfl)
  have w56 := hw _ (List.mem_of_getElem? (i := 56) rfl)
  have w92 := hw _ (List.mem_of_getElem? (i := 92) rfl)
  have w93 := hw _ (List.mem_of_getElem? (i := 93) rfl)
  have w94 := hw _ (List.mem_of_getElem? (i := 94) rfl)
  refine o_iloadN X0 hx (hb hby d6_0) rfl ?_
  obtain ⟨_, _, ⟨T1, L1, kc1, n1⟩, -, X1, ⟨Lc1, hQ1, l1, y1, z1⟩, st1⟩ := Jvm.LawKit.callS X0 hx (y := yM4) hown (mvT hZ w92) (mvT hZ w93) (mvT hZ w56) (mvT hZ w94) (by decide) (backOf (W := 0) (rm_nbl_1 l Z a0 hw []   h0 n0 O0 ) hZ w94 w56 (by decide) (by decide)) (g := (mkF m 1 #[.val (.int (1 : Int32))] [(.int (1 : Int32))])) rfl (by rw [hml]; rfl) (argsL := [(.int (1 : Int32))]) (rest := []) (lenOf own_pd1 rfl) rfl (by show 2 * 0 + _ ≤ _; exact Nat.le_of_eq rfl) (hb hby d6_1) (fun _ _ => ⟨rfl, e0, (by decide : 0 + 0 ≤ _), (by decide : 0 + 0 ≤ _)⟩)
  dsimp only [Pt.U, Pt.locs, Pt.cells, Pt.slots] at X1 l1 y1 z1 st1 hQ1
  subst l1 y1 z1
  obtain ⟨rfl, Nq1, e1⟩ := hQ1
  have N1 := Fr.app N0 Nq1
  refine ogo (S' := T1.setTop (mkF m 4 #[.val (.int (1 : Int32))] [(.int (2 : Int32))])) st1 ?_
  obtain ⟨T2, _, k2, X2, rfl, E2, A2, Ex2, st2⟩ := newPE (aty := .byte) X1 hx hZ w16 e1 (g := (mkF m 4 #[.val (.int (1 : Int32))] [(.int (2 : Int32))])) rfl (hb hby d6_4) rfl (by decide) (cap := 2) (by decide) (by decide) (by decide) (by decide) (ad := "[B") rfl
  obtain ⟨b2, g2⟩ : ∃ z, z = h0.size := ⟨_, rfl⟩
  rw [← g2] at A2 Ex2 st2
  have n0_b2 : n0 ≤ b2 := Nat.le_trans (Nat.le_trans (Nat.le_of_eq O0.1.symm) O0.2.1) (Nat.le_trans (Nat.le_refl _) (Nat.le_of_eq g2.symm))
  have V2 : Arv Z T2.heap b2 k2 .byte (2 : Int32) [(.int 0), (.int 0)] (.int 0) := (Arv.new A2 (by decide)).pad (pad_rep [] (.int 0) 2)
  refine ogo (S' := T2.setTop (mkF m 6 #[.val (.int (1 : Int32))] [(.ref b2)])) st2 ?_
  refine oend X2 hlk (v := some (.ref b2)) (fun h => by rw [hret] at h; cases h) (fun fs hr => retOut X2 hx (t := (.array .byte)) (i := .areturn) hret rfl (Or.inr (Or.inr (Or.inr (Or.inr ⟨rfl, rfl, rfl⟩)))) (hb hby d6_6) hr) (by decide) (by decide) ?_
  show own_Q_nbf_1 Z  h0 n0 _ T2.heap _
  exact ⟨b2, k2, rfl, N1, ((Keep.refl h0 []).ext E2), (Nat.le_trans (Nat.le_refl _) (Nat.le_of_eq g2.symm)), V2⟩
theorem d7_0 : decode jdk_52_method_4_code 0 = .ok (.getstatic 44, 3) := by decide +kernel
theorem d7_3 : decode jdk_52_method_4_code 3 = .ok (.ifCond .ne 25, 3) := by decide +kernel
theorem d7_28 : decode jdk_52_method_4_code 28 = .ok (.iload_n 1, 1) := by decide +kernel
theorem d7_29 : decode jdk_52_method_4_code 29 = .ok (.iconst 1, 1) := by decide +kernel
theorem d7_30 : decode jdk_52_method_4_code 30 = .ok (.ishl, 1) := by decide +kernel
theorem d7_31 : decode jdk_52_method_4_code 31 = .ok (.istore_n 1, 1) := by decide +kernel
theorem d7_32 : decode jdk_52_method_4_code 32 = .ok (.aload_n 0, 1) := by decide +kernel
theorem d7_33 : decode jdk_52_method_4_code 33 = .ok (.iload_n 1, 1) := by decide +kernel
theorem d7_34 : decode jdk_52_method_4_code 34 = .ok (.iinc 1 1, 3) := by decide +kernel
theorem d7_37 : decode jdk_52_method_4_code 37 = .ok (.iload_n 2, 1) := by decide +kernel
theorem d7_38 : decode jdk_52_method_4_code 38 = .ok (.getstatic 59, 3) := by decide +kernel
theorem d7_41 : decode jdk_52_method_4_code 41 = .ok (.ishr, 1) := by decide +kernel
theorem d7_42 : decode jdk_52_method_4_code 42 = .ok (.i2b, 1) := by decide +kernel
theorem d7_43 : decode jdk_52_method_4_code 43 = .ok (.bastore, 1) := by decide +kernel
theorem d7_44 : decode jdk_52_method_4_code 44 = .ok (.aload_n 0, 1) := by decide +kernel
theorem d7_45 : decode jdk_52_method_4_code 45 = .ok (.iload_n 1, 1) := by decide +kernel
theorem d7_46 : decode jdk_52_method_4_code 46 = .ok (.iload_n 2, 1) := by decide +kernel
theorem d7_47 : decode jdk_52_method_4_code 47 = .ok (.getstatic 63, 3) := by decide +kernel
theorem d7_50 : decode jdk_52_method_4_code 50 = .ok (.ishr, 1) := by decide +kernel
theorem d7_51 : decode jdk_52_method_4_code 51 = .ok (.i2b, 1) := by decide +kernel
theorem d7_52 : decode jdk_52_method_4_code 52 = .ok (.bastore, 1) := by decide +kernel
theorem d7_53 : decode jdk_52_method_4_code 53 = .ok (.return_, 1) := by decide +kernel
def own_Q_putch_1_0 (Z : State) (z_CS : Int32) (v_FMT : Value) (ba_ : Addr) (kb_ : ClassId) (c_ : Int32) (e0_ : Int32) (e1_ : Int32) (h0 : Heap) (n0 : Nat) (v : Option Value) (h : Heap) (L : List Loc) : Prop := (v = none) ∧ (Fr n0 L) ∧ (Keep h0 h [ba_]) ∧ (Arv Z h ba_ kb_ .byte (2 : Int32) [(.int (c_ >>> ((0 : Int32) &&& 31)).toInt8.toInt32), (.int (c_ >>> ((8 : Int32) &&& 31)).toInt8.toInt32)] (.int 0))
abbrev yM6 : MethodName := ⟨"java/lang/StringUTF16", "putChar", "([BII)V"⟩
set_option maxRecDepth 65536 in
set_option maxHeartbeats 40000000 in
theorem rm_putch_1_0 (l : Launch) (Z : State) (a0 : Array Value) (hw : ∀ d ∈ tables_1, d.before a0 Z = true) (ws : List Jvm.Cond) (z_CS : Int32) (v_FMT : Value) (ba_ : Addr) (kb_ : ClassId) (c_ : Int32) (e0_ : Int32) (e1_ : Int32) (h0 : Heap) (n0 : Nat) (SB : own_Start Z z_CS v_FMT) (O0 : Old Z n0 h0) (pr0 : Arv Z h0 ba_ kb_ .byte (2 : Int32) [(.int e0_), (.int e1_)] (.int 0)) (pr1 : n0 ≤ ba_) :
    oMet l Z yM6 jdk_52_method_4_code 3 none ws ({ frames := 0, cells := 0, slots := 0, locals := 0 } : Room) 0 0 #[(.ref ba_), (.int (0 : Int32)), (.int c_)] h0 (own_Q_putch_1_0 Z z_CS v_FMT ba_ kb_ c_ e0_ e1_ h0 n0) := by
  refine oenter own_pn1 #[.val (.ref ba_), .val (.int (0 : Int32)), .val (.int c_)] (fun m => by first | (simp [entryFrame, mkF, argsToLocals, Value.category]; done) | rfl) ?_
  intro p e s m below meth c s₁ X0 hx hZ hby hml hret hown0 hnm hlk e0
  have hown : s.vm.findClass "java/lang/StringUTF16" = some m.cls := hown0
  have N0 := Fr.nil n0
  obtain ⟨S_CS, H_CS, S__assertionsDisabled, S_HI_BYTE_SHIFT, S_LO_BYTE_SHIFT, S_FMT, R_FMT⟩ := (id SB)
  have w99 := hw _ (List.mem_of_getElem? (i := 99) rfl)
  have w100 := hw _ (List.mem_of_getElem? (i := 100) rfl)
  have w101 := hw _ (List.mem_of_getElem? (i := 101) rfl)
  obtain ⟨T1, X1, e1, st1⟩ := getS2 X0 hx hZ hown (host := "") (Or.inl w99) Via.refl e0 (Sta.ext O0.2 S__assertionsDisabled) (g := (mkF m 0 #[.val (.ref ba_), .val (.int (0 : Int32)), .val (.int c_)] [])) rfl (hb hby d7_0)
  refine ogo (S' := T1.setTop (mkF m 3 #[.val (.ref ba_), .val (.int (0 : Int32)), .val (.int c_)] [(.int (1 : Int32))])) st1 ?_
  refine o_ifYes X1 hx 28 (hb hby d7_3) (feq (by decide : ¬ ((1 : Int32) = (0 : Int32)))).2 (by decide) (by decide) ?_
  refine o_iloadN X1 hx (hb hby d7_28) rfl ?_
  refine o_iconst X1 hx (1 : Int32) (hb hby d7_29) rfl ?_
  refine o_ishl X1 hx (hb hby d7_30) ?_
  refine o_istoreN X1 hx (l' := #[.val (.ref ba_), .val (.int (0 : Int32)), .val (.int c_)]) (hb hby d7_31) rfl ?_
  refine o_aloadN X1 hx (hb hby d7_32) rfl rfl ?_
  refine o_iloadN X1 hx (hb hby d7_33) rfl ?_
  refine o_iinc X1 hx (l' := #[.val (.ref ba_), .val (.int (1 : Int32)), .val (.int c_)]) (hb hby d7_34) rfl rfl ?_
  refine o_iloadN X1 hx (hb hby d7_37) rfl ?_
  obtain ⟨T2, X2, e2, st2⟩ := getS2 X1 hx hZ hown (host := "") (Or.inl w100) Via.refl e1 (Sta.ext O0.2 S_HI_BYTE_SHIFT) (g := (mkF m 38 #[.val (.ref ba_), .val (.int (1 : Int32)), .val (.int c_)] [(.int c_), (.int (0 : Int32)), (.ref ba_)])) rfl (hb hby d7_38)
  refine ogo (S' := T2.setTop (mkF m 41 #[.val (.ref ba_), .val (.int (1 : Int32)), .val (.int c_)] [(.int (0 : Int32)), (.int c_), (.int (0 : Int32)), (.ref ba_)])) st2 ?_
  refine o_ishr X2 hx (hb hby d7_41) ?_
  refine o_i2b X2 hx (hb hby d7_42) ?_
  obtain ⟨cl3, Ar3, q3, S3, N3z, H3, G3⟩ := (id pr0)
  obtain ⟨T3, _, X3, rfl, W3, st3⟩ := stB X2 hx hZ e2 Ar3 (j := (0 : Int32)) (inb_of S3 ⟨by decide, by decide⟩) (g := (mkF m 43 #[.val (.ref ba_), .val (.int (1 : Int32)), .val (.int c_)] [(.int (c_ >>> ((0 : Int32) &&& 31)).toInt8.toInt32), (.int (0 : Int32)), (.ref ba_)])) rfl rfl (hb hby d7_43)
  rw [own_narb] at W3
  have V3 : Arv Z T3.heap ba_ kb_ .byte (2 : Int32) [(.int (c_ >>> ((0 : Int32) &&& 31)).toInt8.toInt32), (.int e1_)] (.int 0) := Arv.set Ar3 q3 S3 N3z H3 G3 (fits_nar_byte _) W3 0 rfl (Nat.le_of_ble_eq_true rfl)
  have N3 := Fr.snoc X3 N0 pr1
  refine ogo (S' := T3.setTop (mkF m 44 #[.val (.ref ba_), .val (.int (1 : Int32)), .val (.int c_)] [])) st3 ?_
  refine o_aloadN X3 hx (hb hby d7_44) rfl rfl ?_
  refine o_iloadN X3 hx (hb hby d7_45) rfl ?_
  refine o_iloadN X3 hx (hb hby d7_46) rfl ?_
  obtain ⟨T4, X4, e4, st4⟩ := getS2 X3 hx hZ hown (host := "") (Or.inl w101) Via.refl rfl (Sta.ext (O0.wr W3 pr1).2 S_LO_BYTE_SHIFT) (g := (mkF m 47 #[.val (.ref ba_), .val (.int (1 : Int32)), .val (.int c_)] [(.int c_), (.int (1 : Int32)), (.ref ba_)])) rfl (hb hby d7_47)
  refine ogo (S' := T4.setTop (mkF m 50 #[.val (.ref ba_), .val (.int (1 : Int32)), .val (.int c_)] [(.int (8 : Int32)), (.int c_), (.int (1 : Int32)), (.ref ba_)])) st4 ?_
  refine o_ishr X4 hx (hb hby d7_50) ?_
  refine o_i2b X4 hx (hb hby d7_51) ?_
  obtain ⟨cl5, Ar5, q5, S5, N5z, H5, G5⟩ := (id V3)
  obtain ⟨T5, _, X5, rfl, W5, st5⟩ := stB X4 hx hZ e4 Ar5 (j := (1 : Int32)) (inb_of S5 ⟨by decide, by decide⟩) (g := (mkF m 52 #[.val (.ref ba_), .val (.int (1 : Int32)), .val (.int c_)] [(.int (c_ >>> ((8 : Int32) &&& 31)).toInt8.toInt32), (.int (1 : Int32)), (.ref ba_)])) rfl rfl (hb hby d7_52)
  rw [own_narb] at W5
  have V5 : Arv Z T5.heap ba_ kb_ .byte (2 : Int32) [(.int (c_ >>> ((0 : Int32) &&& 31)).toInt8.toInt32), (.int (c_ >>> ((8 : Int32) &&& 31)).toInt8.toInt32)] (.int 0) := Arv.set Ar5 q5 S5 N5z H5 G5 (fits_nar_byte _) W5 1 rfl (Nat.le_of_ble_eq_true rfl)
  have N5 := Fr.snoc X5 N3 pr1
  refine ogo (S' := T5.setTop (mkF m 53 #[.val (.ref ba_), .val (.int (1 : Int32)), .val (.int c_)] [])) st5 ?_
  refine oend X5 hlk (v := none) (fun _ => rfl) (fun fs hr => X5.returnOut hx hret (hb hby d7_53) hr) (by decide) (by decide) ?_
  show own_Q_putch_1_0 Z _ _ _ _ _ _ _ h0 n0 _ T5.heap _
  exact ⟨rfl, N5, (((Keep.refl h0 [ba_]).wr W3 (Or.inl (List.mem_of_getElem? (i := 0) rfl))).wr W5 (Or.inl (List.mem_of_getElem? (i := 0) rfl))), V5⟩
theorem own_pd2 : parseMethodDescriptor "(I)[B" = some ⟨[.int], some (.array .byte)⟩ := by decide +kernel
theorem own_pd3 : parseMethodDescriptor "([BII)V" = some ⟨[(.array .byte), .int, .int], none⟩ := by decide +kernel
theorem d8_0 : decode jdk_52_method_14_code 0 = .ok (.iload_n 2, 1) := by decide +kernel
theorem d8_1 : decode jdk_52_method_14_code 1 = .ok (.invokestatic 107, 3) := by decide +kernel
theorem d8_4 : decode jdk_52_method_14_code 4 = .ok (.astore_n 3, 1) := by decide +kernel
theorem d8_5 : decode jdk_52_method_14_code 5 = .ok (.iconst 0, 1) := by decide +kernel
theorem d8_6 : decode jdk_52_method_14_code 6 = .ok (.istore 4, 2) := by decide +kernel
theorem d8_8 : decode jdk_52_method_14_code 8 = .ok (.iload 4, 2) := by decide +kernel
theorem d8_10 : decode jdk_52_method_14_code 10 = .ok (.iload_n 2, 1) := by decide +kernel
theorem d8_11 : decode jdk_52_method_14_code 11 = .ok (.if_icmp .ge 21, 3) := by decide +kernel
theorem d8_14 : decode jdk_52_method_14_code 14 = .ok (.aload_n 3, 1) := by decide +kernel
theorem d8_15 : decode jdk_52_method_14_code 15 = .ok (.iload 4, 2) := by decide +kernel
theorem d8_17 : decode jdk_52_method_14_code 17 = .ok (.aload_n 0, 1) := by decide +kernel
theorem d8_18 : decode jdk_52_method_14_code 18 = .ok (.iload_n 1, 1) := by decide +kernel
theorem d8_19 : decode jdk_52_method_14_code 19 = .ok (.caload, 1) := by decide +kernel
theorem d8_20 : decode jdk_52_method_14_code 20 = .ok (.invokestatic 111, 3) := by decide +kernel
theorem d8_23 : decode jdk_52_method_14_code 23 = .ok (.iinc 1 1, 3) := by decide +kernel
theorem d8_26 : decode jdk_52_method_14_code 26 = .ok (.iinc 4 1, 3) := by decide +kernel
theorem d8_29 : decode jdk_52_method_14_code 29 = .ok (.goto (-21), 3) := by decide +kernel
theorem d8_32 : decode jdk_52_method_14_code 32 = .ok (.aload_n 3, 1) := by decide +kernel
theorem d8_33 : decode jdk_52_method_14_code 33 = .ok (.areturn, 1) := by decide +kernel
def own_Q_tob_1 (Z : State) (z_CS : Int32) (v_FMT : Value) (ca_ : Addr) (kc_ : ClassId) (c0_ : Int32) (h0 : Heap) (n0 : Nat) (v : Option Value) (h : Heap) (L : List Loc) : Prop := ∃ ba_ : Addr, ∃ kb_ : ClassId, (v = some (.ref ba_)) ∧ (Fr n0 L) ∧ (Keep h0 h []) ∧ (h0.size ≤ ba_) ∧ (Arv Z h ba_ kb_ .byte (2 : Int32) [(.int (c0_ >>> ((0 : Int32) &&& 31)).toInt8.toInt32), (.int (c0_ >>> ((8 : Int32) &&& 31)).toInt8.toInt32)] (.int 0))
abbrev yM7 : MethodName := ⟨"java/lang/StringUTF16", "toBytes", "([CII)[B"⟩
set_option maxRecDepth 65536 in
set_option maxHeartbeats 40000000 in
theorem rm_tob_1 (l : Launch) (Z : State) (a0 : Array Value) (hw : ∀ d ∈ tables_1, d.before a0 Z = true) (ws : List Jvm.Cond) (z_CS : Int32) (v_FMT : Value) (ca_ : Addr) (kc_ : ClassId) (c0_ : Int32) (h0 : Heap) (n0 : Nat) (SB : own_Start Z z_CS v_FMT) (O0 : Old Z n0 h0) (pr0 : Arv Z h0 ca_ kc_ .char (1 : Int32) [(.int c0_)] (.int 0)) :
    oMet l Z yM7 jdk_52_method_14_code 5 (some (.array .byte)) ws ({ frames := 2, cells := 1, slots := 2, locals := 24 } : Room) 1 2 #[(.ref ca_), (.int (0 : Int32)), (.int (1 : Int32))] h0 (own_Q_tob_1 Z z_CS v_FMT ca_ kc_ c0_ h0 n0) := by
  refine oenter own_pn1 #[.val (.ref ca_), .val (.int (0 : Int32)), .val (.int (1 : Int32)), .unset, .unset] (fun m => by first | (simp [entryFrame, mkF, argsToLocals, Value.category]; done) | rfl) ?_
  intro p e s m below meth c s₁ X0 hx hZ hby hml hret hown0 hnm hlk e0
  have hown : s.vm.findClass "java/lang/StringUTF16" = some m.cls := hown0
  have N0 := Fr.nil n0
  obtain ⟨S_CS, H_CS, S__assertionsDisabled, S_HI_BYTE_SHIFT, S_LO_BYTE_SHIFT, S_FMT, R_FMT⟩ := (id SB)
  have w56 := hw _ (List.mem_of_getElem? (i := 56) rfl)
  have w89 := hw _ (List.mem_of_getElem? (i := 89) rfl)
  have w90 := hw _ (List.mem_of_getElem? (i := 90) rfl)
  have w91 := hw _ (List.mem_of_getElem? (i := 91) rfl)
  have w96 := hw _ (List.mem_of_getElem? (i := 96) rfl)
  have w97 := hw _ (List.mem_of_getElem? (i := 97) rfl)
  have w98 := hw _ (List.mem_of_getElem? (i := 98) rfl)
  refine o_iloadN X0 hx (hb hby d8_0) rfl ?_
  obtain ⟨_, _, ⟨T1, L1, kc1, n1⟩, -, X1, ⟨Lc1, hQ1, l1, y1, z1⟩, st1⟩ := Jvm.LawKit.callS X0 hx (y := yM5) hown (mvT hZ w89) (mvT hZ w90) (mvT hZ w56) (mvT hZ w91) (by decide) (backOf (W := 0) (rm_nbf_1 l Z a0 hw []   h0 n0 O0 ) hZ w91 w56 (by decide) (by decide)) (g := (mkF m 1 #[.val (.ref ca_), .val (.int (0 : Int32)), .val (.int (1 : Int32)), .unset, .unset] [(.int (1 : Int32))])) rfl (by rw [hml]; rfl) (argsL := [(.int (1 : Int32))]) (rest := []) (lenOf own_pd2 rfl) rfl (by show 2 * 0 + _ ≤ _; exact Nat.le_of_eq rfl) (hb hby d8_1) (fun _ _ => ⟨rfl, e0, (by decide : 0 + 1 ≤ _), (by decide : 0 + 2 ≤ _)⟩)
  dsimp only [Pt.U, Pt.locs, Pt.cells, Pt.slots] at X1 l1 y1 z1 st1 hQ1
  subst l1 y1 z1
  obtain ⟨ba_1, kb_1, rfl, Nq1, K1, p1_0, p1_1⟩ := hQ1
  have N1 := Fr.app N0 Nq1
  have n0_ba_1 : n0 ≤ ba_1 := Nat.le_trans (Nat.le_trans (Nat.le_of_eq O0.1.symm) O0.2.1) (Nat.le_trans (Nat.le_refl _) p1_0)
  refine ogo (S' := T1.setTop (mkF m 4 #[.val (.ref ca_), .val (.int (0 : Int32)), .val (.int (1 : Int32)), .unset, .unset] [(.ref ba_1)])) st1 ?_
  refine o_astoreN X1 hx (l' := #[.val (.ref ca_), .val (.int (0 : Int32)), .val (.int (1 : Int32)), .val (.ref ba_1), .unset]) (hb hby d8_4) rfl rfl ?_
  refine o_iconst X1 hx (0 : Int32) (hb hby d8_5) rfl ?_
  refine o_istore X1 hx (l' := #[.val (.ref ca_), .val (.int (0 : Int32)), .val (.int (1 : Int32)), .val (.ref ba_1), .val (.int (0 : Int32))]) (hb hby d8_6) rfl ?_
  refine o_iload X1 hx (hb hby d8_8) rfl ?_
  refine o_iloadN X1 hx (hb hby d8_10) rfl ?_
  refine o_icmpNo X1 hx (hb hby d8_11) (tlt (by decide : (0 : Int32) < (1 : Int32))).2.1 ?_
  refine o_aloadN X1 hx (hb hby d8_14) rfl rfl ?_
  refine o_iload X1 hx (hb hby d8_15) rfl ?_
  refine o_aloadN X1 hx (hb hby d8_17) rfl rfl ?_
  refine o_iloadN X1 hx (hb hby d8_18) rfl ?_
  obtain ⟨cl2, Ar2, q2, S2, N2z, H2, G2⟩ := (id (pr0.keep K1 nin0))
  have hi2 := inb_of (j := (0 : Int32)) S2 ⟨by decide, by decide⟩
  have ha2 := Has.at (v := (.int c0_)) H2 hi2 rfl
  refine ogo (S' := T1.setTop (mkF m 20 #[.val (.ref ca_), .val (.int (0 : Int32)), .val (.int (1 : Int32)), .val (.ref ba_1), .val (.int (0 : Int32))] [(.int c0_), (.int (0 : Int32)), (.ref ba_1)])) (X1.caload hx (j := (0 : Int32)) (v := (.int c0_)) Ar2.1 (State.isArrayOf_alike hZ.alike Ar2.2.1) Ar2.2.2 hi2 ha2 (g := (mkF m 19 #[.val (.ref ca_), .val (.int (0 : Int32)), .val (.int (1 : Int32)), .val (.ref ba_1), .val (.int (0 : Int32))] [(.int (0 : Int32)), (.ref ca_), (.int (0 : Int32)), (.ref ba_1)])) rfl rfl (hb hby d8_19)) ?_
  obtain ⟨_, _, ⟨T3, L3, kc3, n3⟩, -, X3, ⟨Lc3, hQ3, l3, y3, z3⟩, st3⟩ := Jvm.LawKit.callS X1 hx (y := yM6) hown (mvT hZ w96) (mvT hZ w97) (mvT hZ w56) (mvT hZ w98) (by decide) (backOf (W := 0) (rm_putch_1_0 l Z a0 hw [] z_CS v_FMT ba_1 kb_1 c0_ 0 0 T1.heap n0 SB (O0.keep K1 all0) p1_1 n0_ba_1) hZ w98 w56 (by decide) (by decide)) (g := (mkF m 20 #[.val (.ref ca_), .val (.int (0 : Int32)), .val (.int (1 : Int32)), .val (.ref ba_1), .val (.int (0 : Int32))] [(.int c0_), (.int (0 : Int32)), (.ref ba_1)])) rfl (by rw [hml]; rfl) (argsL := [(.ref ba_1), (.int (0 : Int32)), (.int c0_)]) (rest := []) (lenOf own_pd3 rfl) rfl (by show 2 * 0 + _ ≤ _; exact Nat.le_of_eq rfl) (hb hby d8_20) (fun _ _ => ⟨rfl, rfl, (by decide : 1 + 0 ≤ _), (by decide : 2 + 0 ≤ _)⟩)
  dsimp only [Pt.U, Pt.locs, Pt.cells, Pt.slots] at X3 l3 y3 z3 st3 hQ3
  subst l3 y3 z3
  obtain ⟨rfl, Nq3, K3, p3_0⟩ := hQ3
  have N3 := Fr.app N1 Nq3
  refine ogo (S' := T3.setTop (mkF m 23 #[.val (.ref ca_), .val (.int (0 : Int32)), .val (.int (1 : Int32)), .val (.ref ba_1), .val (.int (0 : Int32))] [])) st3 ?_
  refine o_iinc X3 hx (l' := #[.val (.ref ca_), .val (.int (1 : Int32)), .val (.int (1 : Int32)), .val (.ref ba_1), .val (.int (0 : Int32))]) (hb hby d8_23) rfl rfl ?_
  refine o_iinc X3 hx (l' := #[.val (.ref ca_), .val (.int (1 : Int32)), .val (.int (1 : Int32)), .val (.ref ba_1), .val (.int (1 : Int32))]) (hb hby d8_26) rfl rfl ?_
  refine o_goto X3 hx 8 (hb hby d8_29) (by decide) (by decide) ?_
  refine o_iload X3 hx (hb hby d8_8) rfl ?_
  refine o_iloadN X3 hx (hb hby d8_10) rfl ?_
  refine o_icmpYes X3 hx 32 (hb hby d8_11) (flt (by decide : ¬ ((1 : Int32) < (1 : Int32)))).2.1 (by decide) (by decide) ?_
  refine o_aloadN X3 hx (hb hby d8_32) rfl rfl ?_
  refine oend X3 hlk (v := some (.ref ba_1)) (fun h => by rw [hret] at h; cases h) (fun fs hr => retOut X3 hx (t := (.array .byte)) (i := .areturn) hret rfl (Or.inr (Or.inr (Or.inr (Or.inr ⟨rfl, rfl, rfl⟩)))) (hb hby d8_33) hr) (by decide) (by decide) ?_
  show own_Q_tob_1 Z _ _ _ _ _ h0 n0 _ T3.heap _
  exact ⟨ba_1, kb_1, rfl, N3, (((Keep.refl h0 []).trans K1 all0).trans K3 (allS (Or.inr (Nat.le_trans (Nat.le_refl _) p1_0)) all0)), (Nat.le_trans (Nat.le_refl _) p1_0), p3_0⟩
theorem d9_0 : decode jdk_52_method_5_code 0 = .ok (.getstatic 44, 3) := by decide +kernel
theorem d9_3 : decode jdk_52_method_5_code 3 = .ok (.ifCond .ne 25, 3) := by decide +kernel
theorem d9_28 : decode jdk_52_method_5_code 28 = .ok (.iload_n 1, 1) := by decide +kernel
theorem d9_29 : decode jdk_52_method_5_code 29 = .ok (.iconst 1, 1) := by decide +kernel
theorem d9_30 : decode jdk_52_method_5_code 30 = .ok (.ishl, 1) := by decide +kernel
theorem d9_31 : decode jdk_52_method_5_code 31 = .ok (.istore_n 1, 1) := by decide +kernel
theorem d9_32 : decode jdk_52_method_5_code 32 = .ok (.aload_n 0, 1) := by decide +kernel
theorem d9_33 : decode jdk_52_method_5_code 33 = .ok (.iload_n 1, 1) := by decide +kernel
theorem d9_34 : decode jdk_52_method_5_code 34 = .ok (.iinc 1 1, 3) := by decide +kernel
theorem d9_37 : decode jdk_52_method_5_code 37 = .ok (.baload, 1) := by decide +kernel
theorem d9_38 : decode jdk_52_method_5_code 38 = .ok (.sipush 255, 3) := by decide +kernel
theorem d9_41 : decode jdk_52_method_5_code 41 = .ok (.iand, 1) := by decide +kernel
theorem d9_42 : decode jdk_52_method_5_code 42 = .ok (.getstatic 59, 3) := by decide +kernel
theorem d9_45 : decode jdk_52_method_5_code 45 = .ok (.ishl, 1) := by decide +kernel
theorem d9_46 : decode jdk_52_method_5_code 46 = .ok (.aload_n 0, 1) := by decide +kernel
theorem d9_47 : decode jdk_52_method_5_code 47 = .ok (.iload_n 1, 1) := by decide +kernel
theorem d9_48 : decode jdk_52_method_5_code 48 = .ok (.baload, 1) := by decide +kernel
theorem d9_49 : decode jdk_52_method_5_code 49 = .ok (.sipush 255, 3) := by decide +kernel
theorem d9_52 : decode jdk_52_method_5_code 52 = .ok (.iand, 1) := by decide +kernel
theorem d9_53 : decode jdk_52_method_5_code 53 = .ok (.getstatic 63, 3) := by decide +kernel
theorem d9_56 : decode jdk_52_method_5_code 56 = .ok (.ishl, 1) := by decide +kernel
theorem d9_57 : decode jdk_52_method_5_code 57 = .ok (.ior, 1) := by decide +kernel
theorem d9_58 : decode jdk_52_method_5_code 58 = .ok (.i2c, 1) := by decide +kernel
theorem d9_59 : decode jdk_52_method_5_code 59 = .ok (.ireturn, 1) := by decide +kernel
def own_Q_getch_1_0 (Z : State) (z_CS : Int32) (v_FMT : Value) (ba_ : Addr) (kb_ : ClassId) (c0_ : Int32) (h0 : Heap) (n0 : Nat) (v : Option Value) (h : Heap) (L : List Loc) : Prop := (v = some (.int c0_)) ∧ (Fr n0 L) ∧ (h = h0)
abbrev yM8 : MethodName := ⟨"java/lang/StringUTF16", "getChar", "([BI)C"⟩
set_option maxRecDepth 65536 in
set_option maxHeartbeats 40000000 in
theorem rm_getch_1_0 (l : Launch) (Z : State) (a0 : Array Value) (hw : ∀ d ∈ tables_1, d.before a0 Z = true) (ws : List Jvm.Cond) (z_CS : Int32) (v_FMT : Value) (ba_ : Addr) (kb_ : ClassId) (c0_ : Int32) (h0 : Heap) (n0 : Nat) (SB : own_Start Z z_CS v_FMT) (O0 : Old Z n0 h0) (pr0 : Arv Z h0 ba_ kb_ .byte (2 : Int32) [(.int (c0_ >>> ((0 : Int32) &&& 31)).toInt8.toInt32), (.int (c0_ >>> ((8 : Int32) &&& 31)).toInt8.toInt32)] (.int 0)) (pr1 : own_c16 c0_) :
    oMet l Z yM8 jdk_52_method_5_code 2 (some .char) ws ({ frames := 0, cells := 0, slots := 0, locals := 0 } : Room) 0 0 #[(.ref ba_), (.int (0 : Int32))] h0 (own_Q_getch_1_0 Z z_CS v_FMT ba_ kb_ c0_ h0 n0) := by
  refine oenter own_pn1 #[.val (.ref ba_), .val (.int (0 : Int32))] (fun m => by first | (simp [entryFrame, mkF, argsToLocals, Value.category]; done) | rfl) ?_
  intro p e s m below meth c s₁ X0 hx hZ hby hml hret hown0 hnm hlk e0
  have hown : s.vm.findClass "java/lang/StringUTF16" = some m.cls := hown0
  have N0 := Fr.nil n0
  obtain ⟨S_CS, H_CS, S__assertionsDisabled, S_HI_BYTE_SHIFT, S_LO_BYTE_SHIFT, S_FMT, R_FMT⟩ := (id SB)
  have w99 := hw _ (List.mem_of_getElem? (i := 99) rfl)
  have w100 := hw _ (List.mem_of_getElem? (i := 100) rfl)
  have w101 := hw _ (List.mem_of_getElem? (i := 101) rfl)
  obtain ⟨T1, X1, e1, st1⟩ := getS2 X0 hx hZ hown (host := "") (Or.inl w99) Via.refl e0 (Sta.ext O0.2 S__assertionsDisabled) (g := (mkF m 0 #[.val (.ref ba_), .val (.int (0 : Int32))] [])) rfl (hb hby d9_0)
  refine ogo (S' := T1.setTop (mkF m 3 #[.val (.ref ba_), .val (.int (0 : Int32))] [(.int (1 : Int32))])) st1 ?_
  refine o_ifYes X1 hx 28 (hb hby d9_3) (feq (by decide : ¬ ((1 : Int32) = (0 : Int32)))).2 (by decide) (by decide) ?_
  refine o_iloadN X1 hx (hb hby d9_28) rfl ?_
  refine o_iconst X1 hx (1 : Int32) (hb hby d9_29) rfl ?_
  refine o_ishl X1 hx (hb hby d9_30) ?_
  refine o_istoreN X1 hx (l' := #[.val (.ref ba_), .val (.int (0 : Int32))]) (hb hby d9_31) rfl ?_
  refine o_aloadN X1 hx (hb hby d9_32) rfl rfl ?_
  refine o_iloadN X1 hx (hb hby d9_33) rfl ?_
  refine o_iinc X1 hx (l' := #[.val (.ref ba_), .val (.int (1 : Int32))]) (hb hby d9_34) rfl rfl ?_
  obtain ⟨cl2, Ar2, q2, S2, N2z, H2, G2⟩ := (id pr0)
  have hi2 := inb_of (j := (0 : Int32)) S2 ⟨by decide, by decide⟩
  have ha2 := Has.at (v := (.int (c0_ >>> ((0 : Int32) &&& 31)).toInt8.toInt32)) H2 hi2 rfl
  refine ogo (S' := T1.setTop (mkF m 38 #[.val (.ref ba_), .val (.int (1 : Int32))] [(.int (c0_ >>> ((0 : Int32) &&& 31)).toInt8.toInt32)])) (X1.baloadBytes hx (j := (0 : Int32)) (v := (.int (c0_ >>> ((0 : Int32) &&& 31)).toInt8.toInt32)) (by rw [e1]; exact Ar2.1) (State.isArrayOf_alike hZ.alike Ar2.2.1) Ar2.2.2 hi2 ha2 (g := (mkF m 37 #[.val (.ref ba_), .val (.int (1 : Int32))] [(.int (0 : Int32)), (.ref ba_)])) rfl rfl (hb hby d9_37)) ?_
  refine o_sipush X1 hx (255 : Int32) (hb hby d9_38) rfl ?_
  refine o_iand X1 hx (hb hby d9_41) ?_
  obtain ⟨T3, X3, e3, st3⟩ := getS2 X1 hx hZ hown (host := "") (Or.inl w100) Via.refl e1 (Sta.ext O0.2 S_HI_BYTE_SHIFT) (g := (mkF m 42 #[.val (.ref ba_), .val (.int (1 : Int32))] [(.int ((c0_ >>> ((0 : Int32) &&& 31)).toInt8.toInt32 &&& (255 : Int32)))])) rfl (hb hby d9_42)
  refine ogo (S' := T3.setTop (mkF m 45 #[.val (.ref ba_), .val (.int (1 : Int32))] [(.int (0 : Int32)), (.int ((c0_ >>> ((0 : Int32) &&& 31)).toInt8.toInt32 &&& (255 : Int32)))])) st3 ?_
  refine o_ishl X3 hx (hb hby d9_45) ?_
  refine o_aloadN X3 hx (hb hby d9_46) rfl rfl ?_
  refine o_iloadN X3 hx (hb hby d9_47) rfl ?_
  obtain ⟨cl4, Ar4, q4, S4, N4z, H4, G4⟩ := (id pr0)
  have hi4 := inb_of (j := (1 : Int32)) S4 ⟨by decide, by decide⟩
  have ha4 := Has.at (v := (.int (c0_ >>> ((8 : Int32) &&& 31)).toInt8.toInt32)) H4 hi4 rfl
  refine ogo (S' := T3.setTop (mkF m 49 #[.val (.ref ba_), .val (.int (1 : Int32))] [(.int (c0_ >>> ((8 : Int32) &&& 31)).toInt8.toInt32), (.int (((c0_ >>> ((0 : Int32) &&& 31)).toInt8.toInt32 &&& (255 : Int32)) <<< ((0 : Int32) &&& 31)))])) (X3.baloadBytes hx (j := (1 : Int32)) (v := (.int (c0_ >>> ((8 : Int32) &&& 31)).toInt8.toInt32)) (by rw [e3]; exact Ar4.1) (State.isArrayOf_alike hZ.alike Ar4.2.1) Ar4.2.2 hi4 ha4 (g := (mkF m 48 #[.val (.ref ba_), .val (.int (1 : Int32))] [(.int (1 : Int32)), (.ref ba_), (.int (((c0_ >>> ((0 : Int32) &&& 31)).toInt8.toInt32 &&& (255 : Int32)) <<< ((0 : Int32) &&& 31)))])) rfl rfl (hb hby d9_48)) ?_
  refine o_sipush X3 hx (255 : Int32) (hb hby d9_49) rfl ?_
  refine o_iand X3 hx (hb hby d9_52) ?_
  obtain ⟨T5, X5, e5, st5⟩ := getS2 X3 hx hZ hown (host := "") (Or.inl w101) Via.refl e3 (Sta.ext O0.2 S_LO_BYTE_SHIFT) (g := (mkF m 53 #[.val (.ref ba_), .val (.int (1 : Int32))] [(.int ((c0_ >>> ((8 : Int32) &&& 31)).toInt8.toInt32 &&& (255 : Int32))), (.int (((c0_ >>> ((0 : Int32) &&& 31)).toInt8.toInt32 &&& (255 : Int32)) <<< ((0 : Int32) &&& 31)))])) rfl (hb hby d9_53)
  refine ogo (S' := T5.setTop (mkF m 56 #[.val (.ref ba_), .val (.int (1 : Int32))] [(.int (8 : Int32)), (.int ((c0_ >>> ((8 : Int32) &&& 31)).toInt8.toInt32 &&& (255 : Int32))), (.int (((c0_ >>> ((0 : Int32) &&& 31)).toInt8.toInt32 &&& (255 : Int32)) <<< ((0 : Int32) &&& 31)))])) st5 ?_
  refine o_ishl X5 hx (hb hby d9_56) ?_
  refine o_ior X5 hx (hb hby d9_57) ?_
  refine o_i2c X5 hx (hb hby d9_58) ?_
  rw [own_u16 pr1]
  refine oend X5 hlk (v := some (.int c0_)) (fun h => by rw [hret] at h; cases h) (fun fs hr => retN X5 hx (t := .char) hret (by simp) (hb hby d9_59) (by rw [(own_nar16 pr1)]; exact hr)) (by decide) (by decide) ?_
  show own_Q_getch_1_0 Z _ _ _ _ _ h0 n0 _ T5.heap _
  rw [e5]
  exact ⟨rfl, N0, rfl⟩
theorem own_pd4 : parseMethodDescriptor "([CII)[B" = some ⟨[(.array .char), .int, .int], some (.array .byte)⟩ := by decide +kernel
theorem own_pd5 : parseMethodDescriptor "([BI)C" = some ⟨[(.array .byte), .int], some .char⟩ := by decide +kernel
theorem d3_20 : decode jdk_52_method_16_code 20 = .ok (.aload_n 0, 1) := by decide +kernel
theorem d3_21 : decode jdk_52_method_16_code 21 = .ok (.iload_n 1, 1) := by decide +kernel
theorem d3_22 : decode jdk_52_method_16_code 22 = .ok (.iload_n 2, 1) := by decide +kernel
theorem d3_23 : decode jdk_52_method_16_code 23 = .ok (.invokestatic 119, 3) := by decide +kernel
theorem d3_26 : decode jdk_52_method_16_code 26 = .ok (.astore 5, 2) := by decide +kernel
theorem d3_28 : decode jdk_52_method_16_code 28 = .ok (.aload 5, 2) := by decide +kernel
theorem d3_30 : decode jdk_52_method_16_code 30 = .ok (.iload 4, 2) := by decide +kernel
theorem d3_32 : decode jdk_52_method_16_code 32 = .ok (.invokestatic 71, 3) := by decide +kernel
theorem d3_35 : decode jdk_52_method_16_code 35 = .ok (.sipush 255, 3) := by decide +kernel
theorem d3_38 : decode jdk_52_method_16_code 38 = .ok (.if_icmp .gt 16, 3) := by decide +kernel
theorem d3_54 : decode jdk_52_method_16_code 54 = .ok (.aload 5, 2) := by decide +kernel
theorem d3_56 : decode jdk_52_method_16_code 56 = .ok (.areturn, 1) := by decide +kernel
def own_Q_cmp3_1_0 (Z : State) (z_CS : Int32) (v_FMT : Value) (ca_ : Addr) (kc_ : ClassId) (c0_ : Int32) (h0 : Heap) (n0 : Nat) (v : Option Value) (h : Heap) (L : List Loc) : Prop := ∃ ba_ : Addr, ∃ kb_ : ClassId, (v = some (.ref ba_)) ∧ (Fr n0 L) ∧ (Keep h0 h []) ∧ (h0.size ≤ ba_) ∧ (Arv Z h ba_ kb_ .byte (2 : Int32) [(.int (c0_ >>> ((0 : Int32) &&& 31)).toInt8.toInt32), (.int (c0_ >>> ((8 : Int32) &&& 31)).toInt8.toInt32)] (.int 0))
set_option maxRecDepth 65536 in
set_option maxHeartbeats 40000000 in
theorem rm_cmp3_1_0 (l : Launch) (Z : State) (a0 : Array Value) (hw : ∀ d ∈ tables_1, d.before a0 Z = true) (ws : List Jvm.Cond) (z_CS : Int32) (v_FMT : Value) (ca_ : Addr) (kc_ : ClassId) (c0_ : Int32) (h0 : Heap) (n0 : Nat) (SB : own_Start Z z_CS v_FMT) (O0 : Old Z n0 h0) (pr0 : Arv Z h0 ca_ kc_ .char (1 : Int32) [(.int c0_)] (.int 0)) (pr1 : own_c16 c0_) (pr2 : (255 : Int32) < c0_) :
    oMet l Z yM2 jdk_52_method_16_code 6 (some (.array .byte)) ws ({ frames := 3, cells := 2, slots := 3, locals := 40 } : Room) 2 3 #[(.ref ca_), (.int (0 : Int32)), (.int (1 : Int32))] h0 (own_Q_cmp3_1_0 Z z_CS v_FMT ca_ kc_ c0_ h0 n0) := by
  refine oenter own_pn1 #[.val (.ref ca_), .val (.int (0 : Int32)), .val (.int (1 : Int32)), .unset, .unset, .unset] (fun m => by first | (simp [entryFrame, mkF, argsToLocals, Value.category]; done) | rfl) ?_
  intro p e s m below meth c s₁ X0 hx hZ hby hml hret hown0 hnm hlk e0
  have hown : s.vm.findClass "java/lang/StringUTF16" = some m.cls := hown0
  have N0 := Fr.nil n0
  obtain ⟨S_CS, H_CS, S__assertionsDisabled, S_HI_BYTE_SHIFT, S_LO_BYTE_SHIFT, S_FMT, R_FMT⟩ := (id SB)
  have w16 := hw _ (List.mem_of_getElem? (i := 16) rfl)
  have w56 := hw _ (List.mem_of_getElem? (i := 56) rfl)
  have w58 := hw _ (List.mem_of_getElem? (i := 58) rfl)
  have w59 := hw _ (List.mem_of_getElem? (i := 59) rfl)
  have w60 := hw _ (List.mem_of_getElem? (i := 60) rfl)
  have w86 := hw _ (List.mem_of_getElem? (i := 86) rfl)
  have w87 := hw _ (List.mem_of_getElem? (i := 87) rfl)
  have w88 := hw _ (List.mem_of_getElem? (i := 88) rfl)
  have w102 := hw _ (List.mem_of_getElem? (i := 102) rfl)
  have w103 := hw _ (List.mem_of_getElem? (i := 103) rfl)
  have w104 := hw _ (List.mem_of_getElem? (i := 104) rfl)
  refine o_iloadN X0 hx (hb hby d3_0) rfl ?_
  obtain ⟨T1, _, k1, X1, rfl, E1, A1, Ex1, st1⟩ := newPE (aty := .byte) X0 hx hZ w16 e0 (g := (mkF m 1 #[.val (.ref ca_), .val (.int (0 : Int32)), .val (.int (1 : Int32)), .unset, .unset, .unset] [(.int (1 : Int32))])) rfl (hb hby d3_1) rfl (by decide) (cap := 1) (by decide) (by decide) (by decide) (by decide) (ad := "[B") rfl
  obtain ⟨b1, g1⟩ : ∃ z, z = h0.size := ⟨_, rfl⟩
  rw [← g1] at A1 Ex1 st1
  have n0_b1 : n0 ≤ b1 := Nat.le_trans (Nat.le_trans (Nat.le_of_eq O0.1.symm) O0.2.1) (Nat.le_trans (Nat.le_refl _) (Nat.le_of_eq g1.symm))
  have V1 : Arv Z T1.heap b1 k1 .byte (1 : Int32) [(.int 0)] (.int 0) := (Arv.new A1 (by decide)).pad (pad_rep [] (.int 0) 1)
  refine ogo (S' := T1.setTop (mkF m 3 #[.val (.ref ca_), .val (.int (0 : Int32)), .val (.int (1 : Int32)), .unset, .unset, .unset] [(.ref b1)])) st1 ?_
  refine o_astoreN X1 hx (l' := #[.val (.ref ca_), .val (.int (0 : Int32)), .val (.int (1 : Int32)), .val (.ref b1), .unset, .unset]) (hb hby d3_3) rfl rfl ?_
  refine o_aloadN X1 hx (hb hby d3_4) rfl rfl ?_
  refine o_iloadN X1 hx (hb hby d3_5) rfl ?_
  refine o_aloadN X1 hx (hb hby d3_6) rfl rfl ?_
  refine o_iconst X1 hx (0 : Int32) (hb hby d3_7) rfl ?_
  refine o_iloadN X1 hx (hb hby d3_8) rfl ?_
  obtain ⟨_, _, ⟨T2, L2, kc2, n2⟩, -, X2, ⟨Lc2, hQ2, l2, y2, z2⟩, st2⟩ := Jvm.LawKit.callS X1 hx (y := yM1) hown (mvT hZ w58) (mvT hZ w59) (mvT hZ w56) (mvT hZ w60) (by decide) (backOf (W := 0) (rm_cmp5_1_0 l Z a0 hw []  ca_ kc_ b1 k1 c0_ T1.heap n0 (O0.ext E1) (pr0.ext E1) V1 (Nat.ne_of_lt (Nat.lt_of_lt_of_le (Nat.lt_of_lt_of_le pr0.lt (Nat.le_refl _)) (Nat.le_of_eq g1.symm))) n0_b1 pr2) hZ w60 w56 (by decide) (by decide)) (g := (mkF m 9 #[.val (.ref ca_), .val (.int (0 : Int32)), .val (.int (1 : Int32)), .val (.ref b1), .unset, .unset] [(.int (1 : Int32)), (.int (0 : Int32)), (.ref b1), (.int (0 : Int32)), (.ref ca_)])) rfl (by rw [hml]; rfl) (argsL := [(.ref ca_), (.int (0 : Int32)), (.ref b1), (.int (0 : Int32)), (.int (1 : Int32))]) (rest := []) (lenOf own_pd0 rfl) rfl (by show 2 * 0 + _ ≤ _; exact Nat.le_of_eq rfl) (hb hby d3_9) (fun _ _ => ⟨rfl, rfl, (by decide : 1 + 0 ≤ _), (by decide : 1 + 0 ≤ _)⟩)
  dsimp only [Pt.U, Pt.locs, Pt.cells, Pt.slots] at X2 l2 y2 z2 st2 hQ2
  subst l2 y2 z2
  obtain ⟨rfl, Nq2, K2⟩ := hQ2
  have N2 := Fr.app N0 Nq2
  refine ogo (S' := T2.setTop (mkF m 12 #[.val (.ref ca_), .val (.int (0 : Int32)), .val (.int (1 : Int32)), .val (.ref b1), .unset, .unset] [(.int (0 : Int32))])) st2 ?_
  refine o_istore X2 hx (l' := #[.val (.ref ca_), .val (.int (0 : Int32)), .val (.int (1 : Int32)), .val (.ref b1), .val (.int (0 : Int32)), .unset]) (hb hby d3_12) rfl ?_
  refine o_iload X2 hx (hb hby d3_14) rfl ?_
  refine o_iloadN X2 hx (hb hby d3_16) rfl ?_
  refine o_icmpNo X2 hx (hb hby d3_17) (feq (by decide : ¬ ((0 : Int32) = (1 : Int32)))).1 ?_
  refine o_aloadN X2 hx (hb hby d3_20) rfl rfl ?_
  refine o_iloadN X2 hx (hb hby d3_21) rfl ?_
  refine o_iloadN X2 hx (hb hby d3_22) rfl ?_
  have c4 := ((pr0.ext E1).keep K2 (ninS (Nat.ne_of_lt (Nat.lt_of_lt_of_le (Nat.lt_of_lt_of_le pr0.lt (Nat.le_refl _)) (Nat.le_of_eq g1.symm))) nin0))
  obtain ⟨_, _, ⟨T3, L3, kc3, n3⟩, -, X3, ⟨Lc3, hQ3, l3, y3, z3⟩, st3⟩ := Jvm.LawKit.callS X2 hx (y := yM7) hown (mvT hZ w86) (mvT hZ w87) (mvT hZ w56) (mvT hZ w88) (by decide) (backOf (W := 0) (rm_tob_1 l Z a0 hw [] z_CS v_FMT ca_ kc_ c0_ T2.heap n0 SB ((O0.ext E1).keep K2 (allS n0_b1 all0)) c4) hZ w88 w56 (by decide) (by decide)) (g := (mkF m 23 #[.val (.ref ca_), .val (.int (0 : Int32)), .val (.int (1 : Int32)), .val (.ref b1), .val (.int (0 : Int32)), .unset] [(.int (1 : Int32)), (.int (0 : Int32)), (.ref ca_)])) rfl (by rw [hml]; rfl) (argsL := [(.ref ca_), (.int (0 : Int32)), (.int (1 : Int32))]) (rest := []) (lenOf own_pd4 rfl) rfl (by show 2 * 0 + _ ≤ _; exact Nat.le_of_eq rfl) (hb hby d3_23) (fun _ _ => ⟨rfl, rfl, (by decide : 1 + 1 ≤ _), (by decide : 1 + 2 ≤ _)⟩)
  dsimp only [Pt.U, Pt.locs, Pt.cells, Pt.slots] at X3 l3 y3 z3 st3 hQ3
  subst l3 y3 z3
  obtain ⟨ba_3, kb_3, rfl, Nq3, K3, p3_0, p3_1⟩ := hQ3
  have N3 := Fr.app N2 Nq3
  have n0_ba_3 : n0 ≤ ba_3 := Nat.le_trans (Nat.le_trans (Nat.le_of_eq O0.1.symm) O0.2.1) (Nat.le_trans (Nat.le_trans E1.1 K2.1) p3_0)
  refine ogo (S' := T3.setTop (mkF m 26 #[.val (.ref ca_), .val (.int (0 : Int32)), .val (.int (1 : Int32)), .val (.ref b1), .val (.int (0 : Int32)), .unset] [(.ref ba_3)])) st3 ?_
  refine o_astore X3 hx (l' := #[.val (.ref ca_), .val (.int (0 : Int32)), .val (.int (1 : Int32)), .val (.ref b1), .val (.int (0 : Int32)), .val (.ref ba_3)]) (hb hby d3_26) rfl rfl ?_
  refine o_aload X3 hx (hb hby d3_28) rfl rfl ?_
  refine o_iload X3 hx (hb hby d3_30) rfl ?_
  obtain ⟨_, _, ⟨T5, L5, kc5, n5⟩, -, X5, ⟨Lc5, hQ5, l5, y5, z5⟩, st5⟩ := Jvm.LawKit.callS X3 hx (y := yM8) hown (mvT hZ w102) (mvT hZ w103) (mvT hZ w56) (mvT hZ w104) (by decide) (backOf (W := 0) (rm_getch_1_0 l Z a0 hw [] z_CS v_FMT ba_3 kb_3 c0_ T3.heap n0 SB (((O0.ext E1).keep K2 (allS n0_b1 all0)).keep K3 all0) p3_1 pr1) hZ w104 w56 (by decide) (by decide)) (g := (mkF m 32 #[.val (.ref ca_), .val (.int (0 : Int32)), .val (.int (1 : Int32)), .val (.ref b1), .val (.int (0 : Int32)), .val (.ref ba_3)] [(.int (0 : Int32)), (.ref ba_3)])) rfl (by rw [hml]; rfl) (argsL := [(.ref ba_3), (.int (0 : Int32))]) (rest := []) (lenOf own_pd5 rfl) rfl (by show 2 * 0 + _ ≤ _; exact Nat.le_of_eq rfl) (hb hby d3_32) (fun _ _ => ⟨rfl, rfl, (by decide : 2 + 0 ≤ _), (by decide : 3 + 0 ≤ _)⟩)
  dsimp only [Pt.U, Pt.locs, Pt.cells, Pt.slots] at X5 l5 y5 z5 st5 hQ5
  subst l5 y5 z5
  obtain ⟨rfl, Nq5, e5⟩ := hQ5
  have N5 := Fr.app N3 Nq5
  refine ogo (S' := T5.setTop (mkF m 35 #[.val (.ref ca_), .val (.int (0 : Int32)), .val (.int (1 : Int32)), .val (.ref b1), .val (.int (0 : Int32)), .val (.ref ba_3)] [(.int c0_)])) st5 ?_
  refine o_sipush X5 hx (255 : Int32) (hb hby d3_35) rfl ?_
  refine o_icmpYes X5 hx 54 (hb hby d3_38) (tlt pr2).2.2.1 (by decide) (by decide) ?_
  refine o_aload X5 hx (hb hby d3_54) rfl rfl ?_
  refine oend X5 hlk (v := some (.ref ba_3)) (fun h => by rw [hret] at h; cases h) (fun fs hr => retOut X5 hx (t := (.array .byte)) (i := .areturn) hret rfl (Or.inr (Or.inr (Or.inr (Or.inr ⟨rfl, rfl, rfl⟩)))) (hb hby d3_56) hr) (by decide) (by decide) ?_
  show own_Q_cmp3_1_0 Z _ _ _ _ _ h0 n0 _ T5.heap _
  rw [e5]
  exact ⟨ba_3, kb_3, rfl, N5, ((((Keep.refl h0 []).ext E1).trans K2 (allS (Or.inr (Nat.le_trans (Nat.le_refl _) (Nat.le_of_eq g1.symm))) all0)).trans K3 all0), (Nat.le_trans (Nat.le_trans E1.1 K2.1) p3_0), p3_1⟩
theorem own_pd6 : parseMethodDescriptor "([BI)B" = some ⟨[(.array .byte), .int], some .byte⟩ := by decide +kernel
theorem d10_0 : decode jdk_42_method_149_code 0 = .ok (.aload_n 0, 1) := by decide +kernel
theorem d10_1 : decode jdk_42_method_149_code 1 = .ok (.invokespecial 1, 3) := by decide +kernel
theorem d10_4 : decode jdk_42_method_149_code 4 = .ok (.iload_n 3, 1) := by decide +kernel
theorem d10_5 : decode jdk_42_method_149_code 5 = .ok (.ifCond .ne 22, 3) := by decide +kernel
theorem d10_27 : decode jdk_42_method_149_code 27 = .ok (.getstatic 38, 3) := by decide +kernel
theorem d10_30 : decode jdk_42_method_149_code 30 = .ok (.ifCond .eq 28, 3) := by decide +kernel
theorem d10_33 : decode jdk_42_method_149_code 33 = .ok (.aload_n 1, 1) := by decide +kernel
theorem d10_34 : decode jdk_42_method_149_code 34 = .ok (.iload_n 2, 1) := by decide +kernel
theorem d10_35 : decode jdk_42_method_149_code 35 = .ok (.iload_n 3, 1) := by decide +kernel
theorem d10_36 : decode jdk_42_method_149_code 36 = .ok (.invokestatic 177, 3) := by decide +kernel
theorem d10_39 : decode jdk_42_method_149_code 39 = .ok (.astore 5, 2) := by decide +kernel
theorem d10_41 : decode jdk_42_method_149_code 41 = .ok (.aload_n 0, 1) := by decide +kernel
theorem d10_42 : decode jdk_42_method_149_code 42 = .ok (.aload 5, 2) := by decide +kernel
theorem d10_44 : decode jdk_42_method_149_code 44 = .ok (.iload_n 3, 1) := by decide +kernel
theorem d10_45 : decode jdk_42_method_149_code 45 = .ok (.invokestatic 47, 3) := by decide +kernel
theorem d10_48 : decode jdk_42_method_149_code 48 = .ok (.putfield 15, 3) := by decide +kernel
theorem d10_51 : decode jdk_42_method_149_code 51 = .ok (.aload_n 0, 1) := by decide +kernel
theorem d10_52 : decode jdk_42_method_149_code 52 = .ok (.aload 5, 2) := by decide +kernel
theorem d10_54 : decode jdk_42_method_149_code 54 = .ok (.putfield 9, 3) := by decide +kernel
theorem d10_57 : decode jdk_42_method_149_code 57 = .ok (.return_, 1) := by decide +kernel
theorem own_pn2 : plainName "java/lang/String" = true := by first | (simp [plainName, overriddenIn]; done) | decide +kernel
def own_Q_new4e_1 (Z : State) (z_CS : Int32) (v_FMT : Value) (x_ : Addr) (ca_ : Addr) (kc_ : ClassId) (c0_ : Int32) (h0 : Heap) (n0 : Nat) (v : Option Value) (h : Heap) (L : List Loc) : Prop := ∃ ba_ : Addr, ∃ kb_ : ClassId, ∃ cd_ : Int32, ∃ z_ : Int32, ∃ vs_ : List Value, (v = none) ∧ (Fr n0 L) ∧ (Keep h0 h [x_]) ∧ (h0.size ≤ ba_) ∧ (Arv Z h ba_ kb_ .byte z_ vs_ (.int 0)) ∧ (Exa Z h x_ "java/lang/String") ∧ (Fld Z h x_ "java/lang/String" "value" "[B" (.ref ba_)) ∧ (Fld Z h x_ "java/lang/String" "coder" "B" (.int cd_)) ∧ (own_enc1 c0_ cd_ z_ vs_)
abbrev yM9 : MethodName := ⟨"java/lang/String", "<init>", "([CIILjava/lang/Void;)V"⟩
set_option maxRecDepth 65536 in
set_option maxHeartbeats 40000000 in
theorem rm_new4e_1 (l : Launch) (Z : State) (a0 : Array Value) (hw : ∀ d ∈ tables_1, d.before a0 Z = true) (ws : List Jvm.Cond) (z_CS : Int32) (v_FMT : Value) (x_ : Addr) (ca_ : Addr) (kc_ : ClassId) (c0_ : Int32) (h0 : Heap) (n0 : Nat) (SB : own_Start Z z_CS v_FMT) (O0 : Old Z n0 h0) (pr0 : Exa Z h0 x_ "java/lang/String") (pr1 : Fld Z h0 x_ "java/lang/String" "value" "[B" .null) (pr2 : Fld Z h0 x_ "java/lang/String" "coder" "B" (.int (0 : Int32))) (pr3 : Arv Z h0 ca_ kc_ .char (1 : Int32) [(.int c0_)] (.int 0)) (pr4 : n0 ≤ x_) (pr5 : own_c16 c0_) :
    oMet l Z yM9 jdk_42_method_149_code 6 none ws ({ frames := 4, cells := 2, slots := 3, locals := 57 } : Room) 2 3 #[(.ref x_), (.ref ca_), (.int (0 : Int32)), (.int (1 : Int32)), .null] h0 (own_Q_new4e_1 Z z_CS v_FMT x_ ca_ kc_ c0_ h0 n0) := by
  refine oenter own_pn2 #[.val (.ref x_), .val (.ref ca_), .val (.int (0 : Int32)), .val (.int (1 : Int32)), .val .null, .unset] (fun m => by first | (simp [entryFrame, mkF, argsToLocals, Value.category]; done) | rfl) ?_
  intro p e s m below meth c s₁ X0 hx hZ hby hml hret hown0 hnm hlk e0
  have hown : s.vm.findClass "java/lang/String" = some m.cls := hown0
  have N0 := Fr.nil n0
  obtain ⟨S_CS, H_CS, S__assertionsDisabled, S_HI_BYTE_SHIFT, S_LO_BYTE_SHIFT, S_FMT, R_FMT⟩ := (id SB)
  have w2 := hw _ (List.mem_of_getElem? (i := 2) rfl)
  have w12 := hw _ (List.mem_of_getElem? (i := 12) rfl)
  have w13 := hw _ (List.mem_of_getElem? (i := 13) rfl)
  have w14 := hw _ (List.mem_of_getElem? (i := 14) rfl)
  have w17 := hw _ (List.mem_of_getElem? (i := 17) rfl)
  have w18 := hw _ (List.mem_of_getElem? (i := 18) rfl)
  have w21 := hw _ (List.mem_of_getElem? (i := 21) rfl)
  have w22 := hw _ (List.mem_of_getElem? (i := 22) rfl)
  have w49 := hw _ (List.mem_of_getElem? (i := 49) rfl)
  have w54 := hw _ (List.mem_of_getElem? (i := 54) rfl)
  have w55 := hw _ (List.mem_of_getElem? (i := 55) rfl)
  have w56 := hw _ (List.mem_of_getElem? (i := 56) rfl)
  have w57 := hw _ (List.mem_of_getElem? (i := 57) rfl)
  have w61 := hw _ (List.mem_of_getElem? (i := 61) rfl)
  have w62 := hw _ (List.mem_of_getElem? (i := 62) rfl)
  have w63 := hw _ (List.mem_of_getElem? (i := 63) rfl)
  refine o_aloadN X0 hx (hb hby d10_0) rfl rfl ?_
  obtain ⟨T1, X1, e1, st1⟩ := initO X0 hx hZ hown w12 w13 w14 e0 (g := (mkF m 1 #[.val (.ref x_), .val (.ref ca_), .val (.int (0 : Int32)), .val (.int (1 : Int32)), .val .null, .unset] [(.ref x_)])) rfl (by rw [hml]; rfl) rfl (hb hby d10_1) (by decide) (W := 0) (by show 2 * 0 + _ ≤ _; exact Nat.le_of_eq rfl) (by decide)
  refine ogo (S' := T1.setTop (mkF m 4 #[.val (.ref x_), .val (.ref ca_), .val (.int (0 : Int32)), .val (.int (1 : Int32)), .val .null, .unset] [])) st1 ?_
  refine o_iloadN X1 hx (hb hby d10_4) rfl ?_
  refine o_ifYes X1 hx 27 (hb hby d10_5) (feq (by decide : ¬ ((1 : Int32) = (0 : Int32)))).2 (by decide) (by decide) ?_
  obtain ⟨T2, X2, e2, st2⟩ := getS2 X1 hx hZ hown (host := "") (Or.inl w49) Via.refl e1 (Sta.ext O0.2 S_CS) (g := (mkF m 27 #[.val (.ref x_), .val (.ref ca_), .val (.int (0 : Int32)), .val (.int (1 : Int32)), .val .null, .unset] [])) rfl (hb hby d10_27)
  refine ogo (S' := T2.setTop (mkF m 30 #[.val (.ref x_), .val (.ref ca_), .val (.int (0 : Int32)), .val (.int (1 : Int32)), .val .null, .unset] [(.int z_CS)])) st2 ?_
  refine o_ifNo X2 hx (hb hby d10_30) (feq H_CS).1 ?_
  refine o_aloadN X2 hx (hb hby d10_33) rfl rfl ?_
  refine o_iloadN X2 hx (hb hby d10_34) rfl ?_
  refine o_iloadN X2 hx (hb hby d10_35) rfl ?_
  by_cases hc3 : (255 : Int32) < c0_
  · obtain ⟨_, _, ⟨T4, L4, kc4, n4⟩, -, X4, ⟨Lc4, hQ4, l4, y4, z4⟩, st4⟩ := Jvm.LawKit.callS X2 hx (y := yM2) hown (mvT hZ w54) (mvT hZ w55) (mvT hZ w56) (mvT hZ w57) (by decide) (backOf (W := 0) (rm_cmp3_1_0 l Z a0 hw [] z_CS v_FMT ca_ kc_ c0_ h0 n0 SB O0 pr3 pr5 hc3) hZ w57 w56 (by decide) (by decide)) (g := (mkF m 36 #[.val (.ref x_), .val (.ref ca_), .val (.int (0 : Int32)), .val (.int (1 : Int32)), .val .null, .unset] [(.int (1 : Int32)), (.int (0 : Int32)), (.ref ca_)])) rfl (by rw [hml]; rfl) (argsL := [(.ref ca_), (.int (0 : Int32)), (.int (1 : Int32))]) (rest := []) (lenOf own_pd4 rfl) rfl (by show 2 * 0 + _ ≤ _; exact Nat.le_of_eq rfl) (hb hby d10_36) (fun _ _ => ⟨rfl, e2, (by decide : 0 + 2 ≤ _), (by decide : 0 + 3 ≤ _)⟩)
    dsimp only [Pt.U, Pt.locs, Pt.cells, Pt.slots] at X4 l4 y4 z4 st4 hQ4
    subst l4 y4 z4
    obtain ⟨ba_4, kb_4, rfl, Nq4, K4, p4_0, p4_1⟩ := hQ4
    have N4 := Fr.app N0 Nq4
    have n0_ba_4 : n0 ≤ ba_4 := Nat.le_trans (Nat.le_trans (Nat.le_of_eq O0.1.symm) O0.2.1) (Nat.le_trans (Nat.le_refl _) p4_0)
    refine ogo (S' := T4.setTop (mkF m 39 #[.val (.ref x_), .val (.ref ca_), .val (.int (0 : Int32)), .val (.int (1 : Int32)), .val .null, .unset] [(.ref ba_4)])) st4 ?_
    refine o_astore X4 hx (l' := #[.val (.ref x_), .val (.ref ca_), .val (.int (0 : Int32)), .val (.int (1 : Int32)), .val .null, .val (.ref ba_4)]) (hb hby d10_39) rfl rfl ?_
    refine o_aloadN X4 hx (hb hby d10_41) rfl rfl ?_
    refine o_aload X4 hx (hb hby d10_42) rfl rfl ?_
    refine o_iloadN X4 hx (hb hby d10_44) rfl ?_
    obtain ⟨_, _, ⟨T5, L5, kc5, n5⟩, -, X5, ⟨Lc5, hQ5, l5, y5, z5⟩, st5⟩ := Jvm.LawKit.callS X4 hx (y := yM3) hown (mvT hZ w61) (mvT hZ w62) (mvT hZ w56) (mvT hZ w63) (by decide) (backOf (W := 1) (rm_codl16_1 l Z a0 hw []  ba_4 kb_4 [(.int (c0_ >>> ((0 : Int32) &&& 31)).toInt8.toInt32), (.int (c0_ >>> ((8 : Int32) &&& 31)).toInt8.toInt32)] T4.heap n0 (O0.keep K4 all0) p4_1) hZ w63 w56 (by decide) (by decide)) (g := (mkF m 45 #[.val (.ref x_), .val (.ref ca_), .val (.int (0 : Int32)), .val (.int (1 : Int32)), .val .null, .val (.ref ba_4)] [(.int (1 : Int32)), (.ref ba_4), (.ref x_)])) rfl (by rw [hml]; rfl) (argsL := [(.ref ba_4), (.int (1 : Int32))]) (rest := [(.ref x_)]) (lenOf own_pd6 rfl) rfl (by show 2 * 0 + _ ≤ _; exact Nat.le_of_eq rfl) (hb hby d10_45) (fun _ _ => ⟨rfl, rfl, (by decide : 2 + 0 ≤ _), (by decide : 3 + 0 ≤ _)⟩)
    dsimp only [Pt.U, Pt.locs, Pt.cells, Pt.slots] at X5 l5 y5 z5 st5 hQ5
    subst l5 y5 z5
    obtain ⟨rfl, Nq5, e5⟩ := hQ5
    have N5 := Fr.app N4 Nq5
    refine ogo (S' := T5.setTop (mkF m 48 #[.val (.ref x_), .val (.ref ca_), .val (.int (0 : Int32)), .val (.int (1 : Int32)), .val .null, .val (.ref ba_4)] [(.int (1 : Int32)), (.ref x_)])) st5 ?_
    obtain ⟨T6, _, X6, rfl, W6, st6⟩ := putFN X5 hx hZ hown w22 Via.refl e5 (pr2.keep K4 nin0) (pr0.keep K4) (Or.inr ⟨w18, rfl, hnm⟩) w2 (ty := .byte) (v' := (.int (1 : Int32))) (by decide) rfl (by decide) (g := (mkF m 48 #[.val (.ref x_), .val (.ref ca_), .val (.int (0 : Int32)), .val (.int (1 : Int32)), .val .null, .val (.ref ba_4)] [(.int (1 : Int32)), (.ref x_)])) rfl rfl (hb hby d10_48)
    have N6 := Fr.snoc X6 N5 pr4
    have F6 := Fld.same W6 (pr2.keep K4 nin0)
    refine ogo (S' := T6.setTop (mkF m 51 #[.val (.ref x_), .val (.ref ca_), .val (.int (0 : Int32)), .val (.int (1 : Int32)), .val .null, .val (.ref ba_4)] [])) st6 ?_
    refine o_aloadN X6 hx (hb hby d10_51) rfl rfl ?_
    refine o_aload X6 hx (hb hby d10_52) rfl rfl ?_
    have c8 := (Fld.other W6 (pr1.keep K4 nin0) (Or.inr (slot_ne (Or.inr w17) (Or.inr w18) (by decide) (t := (.array .byte)) (t' := .byte) (by decide) (by decide))))
    obtain ⟨T7, _, X7, rfl, W7, st7⟩ := putF X6 hx hZ hown (host := "") (Or.inl w21) Via.refl rfl c8 (Exa.wr W6 (pr0.keep K4)) (Or.inr ⟨w17, rfl, hnm⟩) w2 (ty := (.array .byte)) (by decide) rfl rfl (g := (mkF m 54 #[.val (.ref x_), .val (.ref ca_), .val (.int (0 : Int32)), .val (.int (1 : Int32)), .val .null, .val (.ref ba_4)] [(.ref ba_4), (.ref x_)])) rfl rfl (hb hby d10_54)
    have N7 := Fr.snoc X7 N6 pr4
    have F7 := Fld.same W7 c8
    refine ogo (S' := T7.setTop (mkF m 57 #[.val (.ref x_), .val (.ref ca_), .val (.int (0 : Int32)), .val (.int (1 : Int32)), .val .null, .val (.ref ba_4)] [])) st7 ?_
    have c9 := ((p4_1.other W6 (Nat.ne_of_gt (Nat.lt_of_lt_of_le (Nat.lt_of_lt_of_le pr0.lt (Nat.le_refl _)) p4_0))).other W7 (Nat.ne_of_gt (Nat.lt_of_lt_of_le (Nat.lt_of_lt_of_le pr0.lt (Nat.le_refl _)) p4_0)))
    have c10 := (Fld.other W7 F6 (Or.inr (slot_ne (Or.inr w18) (Or.inr w17) (by decide) (t := .byte) (t' := (.array .byte)) (by decide) (by decide))))
    refine oend X7 hlk (v := none) (fun _ => rfl) (fun fs hr => X7.returnOut hx hret (hb hby d10_57) hr) (by decide) (by decide) ?_
    show own_Q_new4e_1 Z _ _ _ _ _ _ h0 n0 _ T7.heap _
    exact ⟨ba_4, kb_4, (1 : Int32), (2 : Int32), [(.int (c0_ >>> ((0 : Int32) &&& 31)).toInt8.toInt32), (.int (c0_ >>> ((8 : Int32) &&& 31)).toInt8.toInt32)], rfl, N7, ((((Keep.refl h0 [x_]).trans K4 all0).wr W6 (Or.inl (List.mem_of_getElem? (i := 0) rfl))).wr W7 (Or.inl (List.mem_of_getElem? (i := 0) rfl))), (Nat.le_trans (Nat.le_refl _) p4_0), c9, (Exa.wr W7 (Exa.wr W6 (pr0.keep K4))), F7, c10, (Or.inr ⟨rfl, rfl, rfl⟩)⟩
  · obtain ⟨_, _, ⟨T11, L11, kc11, n11⟩, -, X11, ⟨Lc11, hQ11, l11, y11, z11⟩, st11⟩ := Jvm.LawKit.callS X2 hx (y := yM2) hown (mvT hZ w54) (mvT hZ w55) (mvT hZ w56) (mvT hZ w57) (by decide) (backOf (W := 0) (rm_cmp3_1 l Z a0 hw []  ca_ kc_ c0_ h0 n0 O0 pr3 hc3) hZ w57 w56 (by decide) (by decide)) (g := (mkF m 36 #[.val (.ref x_), .val (.ref ca_), .val (.int (0 : Int32)), .val (.int (1 : Int32)), .val .null, .unset] [(.int (1 : Int32)), (.int (0 : Int32)), (.ref ca_)])) rfl (by rw [hml]; rfl) (argsL := [(.ref ca_), (.int (0 : Int32)), (.int (1 : Int32))]) (rest := []) (lenOf own_pd4 rfl) rfl (by show 2 * 0 + _ ≤ _; exact Nat.le_of_eq rfl) (hb hby d10_36) (fun _ _ => ⟨rfl, e2, (by decide : 0 + 1 ≤ _), (by decide : 0 + 1 ≤ _)⟩)
    dsimp only [Pt.U, Pt.locs, Pt.cells, Pt.slots] at X11 l11 y11 z11 st11 hQ11
    subst l11 y11 z11
    obtain ⟨ba_11, kb_11, rfl, Nq11, K11, p11_0, p11_1⟩ := hQ11
    have N11 := Fr.app N0 Nq11
    have n0_ba_11 : n0 ≤ ba_11 := Nat.le_trans (Nat.le_trans (Nat.le_of_eq O0.1.symm) O0.2.1) (Nat.le_trans (Nat.le_refl _) p11_0)
    refine ogo (S' := T11.setTop (mkF m 39 #[.val (.ref x_), .val (.ref ca_), .val (.int (0 : Int32)), .val (.int (1 : Int32)), .val .null, .unset] [(.ref ba_11)])) st11 ?_
    refine o_astore X11 hx (l' := #[.val (.ref x_), .val (.ref ca_), .val (.int (0 : Int32)), .val (.int (1 : Int32)), .val .null, .val (.ref ba_11)]) (hb hby d10_39) rfl rfl ?_
    refine o_aloadN X11 hx (hb hby d10_41) rfl rfl ?_
    refine o_aload X11 hx (hb hby d10_42) rfl rfl ?_
    refine o_iloadN X11 hx (hb hby d10_44) rfl ?_
    obtain ⟨_, _, ⟨T12, L12, kc12, n12⟩, -, X12, ⟨Lc12, hQ12, l12, y12, z12⟩, st12⟩ := Jvm.LawKit.callS X11 hx (y := yM3) hown (mvT hZ w61) (mvT hZ w62) (mvT hZ w56) (mvT hZ w63) (by decide) (backOf (W := 1) (rm_codl_1 l Z a0 hw []  ba_11 kb_11 [(.int c0_.toInt8.toInt32)] T11.heap n0 (O0.keep K11 all0) p11_1) hZ w63 w56 (by decide) (by decide)) (g := (mkF m 45 #[.val (.ref x_), .val (.ref ca_), .val (.int (0 : Int32)), .val (.int (1 : Int32)), .val .null, .val (.ref ba_11)] [(.int (1 : Int32)), (.ref ba_11), (.ref x_)])) rfl (by rw [hml]; rfl) (argsL := [(.ref ba_11), (.int (1 : Int32))]) (rest := [(.ref x_)]) (lenOf own_pd6 rfl) rfl (by show 2 * 0 + _ ≤ _; exact Nat.le_of_eq rfl) (hb hby d10_45) (fun _ _ => ⟨rfl, rfl, (by decide : 1 + 0 ≤ _), (by decide : 1 + 0 ≤ _)⟩)
    dsimp only [Pt.U, Pt.locs, Pt.cells, Pt.slots] at X12 l12 y12 z12 st12 hQ12
    subst l12 y12 z12
    obtain ⟨rfl, Nq12, e12⟩ := hQ12
    have N12 := Fr.app N11 Nq12
    refine ogo (S' := T12.setTop (mkF m 48 #[.val (.ref x_), .val (.ref ca_), .val (.int (0 : Int32)), .val (.int (1 : Int32)), .val .null, .val (.ref ba_11)] [(.int (0 : Int32)), (.ref x_)])) st12 ?_
    obtain ⟨T13, _, X13, rfl, W13, st13⟩ := putFN X12 hx hZ hown w22 Via.refl e12 (pr2.keep K11 nin0) (pr0.keep K11) (Or.inr ⟨w18, rfl, hnm⟩) w2 (ty := .byte) (v' := (.int (0 : Int32))) (by decide) rfl (by decide) (g := (mkF m 48 #[.val (.ref x_), .val (.ref ca_), .val (.int (0 : Int32)), .val (.int (1 : Int32)), .val .null, .val (.ref ba_11)] [(.int (0 : Int32)), (.ref x_)])) rfl rfl (hb hby d10_48)
    have N13 := Fr.snoc X13 N12 pr4
    have F13 := Fld.same W13 (pr2.keep K11 nin0)
    refine ogo (S' := T13.setTop (mkF m 51 #[.val (.ref x_), .val (.ref ca_), .val (.int (0 : Int32)), .val (.int (1 : Int32)), .val .null, .val (.ref ba_11)] [])) st13 ?_
    refine o_aloadN X13 hx (hb hby d10_51) rfl rfl ?_
    refine o_aload X13 hx (hb hby d10_52) rfl rfl ?_
    have c15 := (Fld.other W13 (pr1.keep K11 nin0) (Or.inr (slot_ne (Or.inr w17) (Or.inr w18) (by decide) (t := (.array .byte)) (t' := .byte) (by decide) (by decide))))
    obtain ⟨T14, _, X14, rfl, W14, st14⟩ := putF X13 hx hZ hown (host := "") (Or.inl w21) Via.refl rfl c15 (Exa.wr W13 (pr0.keep K11)) (Or.inr ⟨w17, rfl, hnm⟩) w2 (ty := (.array .byte)) (by decide) rfl rfl (g := (mkF m 54 #[.val (.ref x_), .val (.ref ca_), .val (.int (0 : Int32)), .val (.int (1 : Int32)), .val .null, .val (.ref ba_11)] [(.ref ba_11), (.ref x_)])) rfl rfl (hb hby d10_54)
    have N14 := Fr.snoc X14 N13 pr4
    have F14 := Fld.same W14 c15
    refine ogo (S' := T14.setTop (mkF m 57 #[.val (.ref x_), .val (.ref ca_), .val (.int (0 : Int32)), .val (.int (1 : Int32)), .val .null, .val (.ref ba_11)] [])) st14 ?_
    have c16 := ((p11_1.other W13 (Nat.ne_of_gt (Nat.lt_of_lt_of_le (Nat.lt_of_lt_of_le pr0.lt (Nat.le_refl _)) p11_0))).other W14 (Nat.ne_of_gt (Nat.lt_of_lt_of_le (Nat.lt_of_lt_of_le pr0.lt (Nat.le_refl _)) p11_0)))
    have c17 := (Fld.other W14 F13 (Or.inr (slot_ne (Or.inr w18) (Or.inr w17) (by decide) (t := .byte) (t' := (.array .byte)) (by decide) (by decide))))
    refine oend X14 hlk (v := none) (fun _ => rfl) (fun fs hr => X14.returnOut hx hret (hb hby d10_57) hr) (by decide) (by decide) ?_
    show own_Q_new4e_1 Z _ _ _ _ _ _ h0 n0 _ T14.heap _
    exact ⟨ba_11, kb_11, (0 : Int32), (1 : Int32), [(.int c0_.toInt8.toInt32)], rfl, N14, ((((Keep.refl h0 [x_]).trans K11 all0).wr W13 (Or.inl (List.mem_of_getElem? (i := 0) rfl))).wr W14 (Or.inl (List.mem_of_getElem? (i := 0) rfl))), (Nat.le_trans (Nat.le_refl _) p11_0), c16, (Exa.wr W14 (Exa.wr W13 (pr0.keep K11))), F14, c17, (Or.inl ⟨hc3, rfl, rfl, rfl⟩)⟩
theorem own_pd7 : parseMethodDescriptor "([CIILjava/lang/Void;)V" = some ⟨[(.array .char), .int, .int, (.object "java/lang/Void")], none⟩ := by decide +kernel
theorem d11_0 : decode jdk_42_method_3_code 0 = .ok (.aload_n 0, 1) := by decide +kernel
theorem d11_1 : decode jdk_42_method_3_code 1 = .ok (.aload_n 1, 1) := by decide +kernel
theorem d11_2 : decode jdk_42_method_3_code 2 = .ok (.iconst 0, 1) := by decide +kernel
theorem d11_3 : decode jdk_42_method_3_code 3 = .ok (.aload_n 1, 1) := by decide +kernel
theorem d11_4 : decode jdk_42_method_3_code 4 = .ok (.arraylength, 1) := by decide +kernel
theorem d11_5 : decode jdk_42_method_3_code 5 = .ok (.aconst_null, 1) := by decide +kernel
theorem d11_6 : decode jdk_42_method_3_code 6 = .ok (.invokespecial 27, 3) := by decide +kernel
theorem d11_9 : decode jdk_42_method_3_code 9 = .ok (.return_, 1) := by decide +kernel
def own_Q_new1e_1 (Z : State) (z_CS : Int32) (v_FMT : Value) (x_ : Addr) (ca_ : Addr) (kc_ : ClassId) (c0_ : Int32) (h0 : Heap) (n0 : Nat) (v : Option Value) (h : Heap) (L : List Loc) : Prop := ∃ ba_ : Addr, ∃ kb_ : ClassId, ∃ cd_ : Int32, ∃ z_ : Int32, ∃ vs_ : List Value, (v = none) ∧ (Fr n0 L) ∧ (Keep h0 h [x_]) ∧ (h0.size ≤ ba_) ∧ (Arv Z h ba_ kb_ .byte z_ vs_ (.int 0)) ∧ (Exa Z h x_ "java/lang/String") ∧ (Fld Z h x_ "java/lang/String" "value" "[B" (.ref ba_)) ∧ (Fld Z h x_ "java/lang/String" "coder" "B" (.int cd_)) ∧ (own_enc1 c0_ cd_ z_ vs_)
abbrev yM10 : MethodName := ⟨"java/lang/String", "<init>", "([C)V"⟩
set_option maxRecDepth 65536 in
set_option maxHeartbeats 40000000 in
theorem rm_new1e_1 (l : Launch) (Z : State) (a0 : Array Value) (hw : ∀ d ∈ tables_1, d.before a0 Z = true) (ws : List Jvm.Cond) (z_CS : Int32) (v_FMT : Value) (x_ : Addr) (ca_ : Addr) (kc_ : ClassId) (c0_ : Int32) (h0 : Heap) (n0 : Nat) (SB : own_Start Z z_CS v_FMT) (O0 : Old Z n0 h0) (pr0 : Exa Z h0 x_ "java/lang/String") (pr1 : Fld Z h0 x_ "java/lang/String" "value" "[B" .null) (pr2 : Fld Z h0 x_ "java/lang/String" "coder" "B" (.int (0 : Int32))) (pr3 : Arv Z h0 ca_ kc_ .char (1 : Int32) [(.int c0_)] (.int 0)) (pr4 : n0 ≤ x_) (pr5 : own_c16 c0_) :
    oMet l Z yM10 jdk_42_method_3_code 2 none ws ({ frames := 5, cells := 2, slots := 3, locals := 74 } : Room) 2 3 #[(.ref x_), (.ref ca_)] h0 (own_Q_new1e_1 Z z_CS v_FMT x_ ca_ kc_ c0_ h0 n0) := by
  refine oenter own_pn2 #[.val (.ref x_), .val (.ref ca_)] (fun m => by first | (simp [entryFrame, mkF, argsToLocals, Value.category]; done) | rfl) ?_
  intro p e s m below meth c s₁ X0 hx hZ hby hml hret hown0 hnm hlk e0
  have hown : s.vm.findClass "java/lang/String" = some m.cls := hown0
  have N0 := Fr.nil n0
  obtain ⟨S_CS, H_CS, S__assertionsDisabled, S_HI_BYTE_SHIFT, S_LO_BYTE_SHIFT, S_FMT, R_FMT⟩ := (id SB)
  have w3 := hw _ (List.mem_of_getElem? (i := 3) rfl)
  have w8 := hw _ (List.mem_of_getElem? (i := 8) rfl)
  have w9 := hw _ (List.mem_of_getElem? (i := 9) rfl)
  have w11 := hw _ (List.mem_of_getElem? (i := 11) rfl)
  refine o_aloadN X0 hx (hb hby d11_0) rfl rfl ?_
  refine o_aloadN X0 hx (hb hby d11_1) rfl rfl ?_
  refine o_iconst X0 hx (0 : Int32) (hb hby d11_2) rfl ?_
  refine o_aloadN X0 hx (hb hby d11_3) rfl rfl ?_
  obtain ⟨cl1, Ar1, -, S1, N1z, -, -⟩ := (id pr3)
  refine ogo (S' := s₁.setTop (mkF m 5 #[.val (.ref x_), .val (.ref ca_)] [(.int (1 : Int32)), (.int (0 : Int32)), (.ref ca_), (.ref x_)])) (fun _ kt_ => X0.arraylength hx (by rw [e0]; exact Ar1.1) (State.isArrayOf_alike hZ.alike Ar1.2.1) (g := (mkF m 4 #[.val (.ref x_), .val (.ref ca_)] [(.ref ca_), (.int (0 : Int32)), (.ref ca_), (.ref x_)])) rfl rfl (hb hby d11_4) _ (by rw [len_of S1 N1z]; exact kt_)) ?_
  refine o_aconst_null X0 hx (hb hby d11_5) ?_
  obtain ⟨_, _, ⟨T2, L2, kc2, n2⟩, -, X2, ⟨Lc2, hQ2, l2, y2, z2⟩, st2⟩ := X0.specialBack hx (y := yM9) rfl hown (mvT hZ w8) (mvT hZ w9) (mvT hZ w11) (by decide) (backOf (W := 0) (rm_new4e_1 l Z a0 hw [] z_CS v_FMT x_ ca_ kc_ c0_ h0 n0 SB O0 pr0 pr1 pr2 pr3 pr4 pr5) hZ w11 w3 (by decide) (by decide)) (g := (mkF m 6 #[.val (.ref x_), .val (.ref ca_)] [.null, (.int (1 : Int32)), (.int (0 : Int32)), (.ref ca_), (.ref x_)])) rfl (by rw [hml]; rfl) (Steps.refl _) (a := x_) (argsL := [(.ref ca_), (.int (0 : Int32)), (.int (1 : Int32)), .null]) (rest := []) (lenOf own_pd7 rfl) rfl (by show 2 * 0 + _ ≤ _; exact Nat.le_of_eq rfl) (hb hby d11_6) (fun _ _ => ⟨rfl, e0, (by decide : 0 + 2 ≤ _), (by decide : 0 + 3 ≤ _)⟩)
  dsimp only [Pt.U, Pt.locs, Pt.cells, Pt.slots] at X2 l2 y2 z2 st2 hQ2
  subst l2 y2 z2
  obtain ⟨ba_2, kb_2, cd_2, z_2, vs_2, rfl, Nq2, K2, p2_0, p2_1, p2_2, p2_3, p2_4, p2_5⟩ := hQ2
  have N2 := Fr.app N0 Nq2
  have n0_ba_2 : n0 ≤ ba_2 := Nat.le_trans (Nat.le_trans (Nat.le_of_eq O0.1.symm) O0.2.1) (Nat.le_trans (Nat.le_refl _) p2_0)
  refine otr (S' := T2.setTop (mkF m 9 #[.val (.ref x_), .val (.ref ca_)] [])) st2 ?_
  refine oend X2 hlk (v := none) (fun _ => rfl) (fun fs hr => X2.returnOut hx hret (hb hby d11_9) hr) (by decide) (by decide) ?_
  show own_Q_new1e_1 Z _ _ _ _ _ _ h0 n0 _ T2.heap _
  exact ⟨ba_2, kb_2, cd_2, z_2, vs_2, rfl, N2, ((Keep.refl h0 [x_]).trans K2 (allS (Or.inl (List.mem_of_getElem? (i := 0) rfl)) all0)), (Nat.le_trans (Nat.le_refl _) p2_0), p2_1, p2_2, p2_3, p2_4, p2_5⟩
def own_Q_cmp5_2 (Z : State)  (ca_ : Addr) (kc_ : ClassId) (ba_ : Addr) (kb_ : ClassId) (c0_ : Int32) (c1_ : Int32) (h0 : Heap) (n0 : Nat) (v : Option Value) (h : Heap) (L : List Loc) : Prop := (v = some (.int (2 : Int32))) ∧ (Fr n0 L) ∧ (Keep h0 h [ba_]) ∧ (Arv Z h ba_ kb_ .byte (2 : Int32) [(.int c0_.toInt8.toInt32), (.int c1_.toInt8.toInt32)] (.int 0))
set_option maxRecDepth 65536 in
set_option maxHeartbeats 40000000 in
theorem rm_cmp5_2 (l : Launch) (Z : State) (a0 : Array Value) (hw : ∀ d ∈ tables_1, d.before a0 Z = true) (ws : List Jvm.Cond)  (ca_ : Addr) (kc_ : ClassId) (ba_ : Addr) (kb_ : ClassId) (c0_ : Int32) (c1_ : Int32) (h0 : Heap) (n0 : Nat) (O0 : Old Z n0 h0) (pr0 : Arv Z h0 ca_ kc_ .char (2 : Int32) [(.int c0_), (.int c1_)] (.int 0)) (pr1 : Arv Z h0 ba_ kb_ .byte (2 : Int32) [(.int 0), (.int 0)] (.int 0)) (pr2 : ca_ ≠ ba_) (pr3 : n0 ≤ ba_) (pr4 : ¬ ((255 : Int32) < c0_)) (pr5 : ¬ ((255 : Int32) < c1_)) :
    oMet l Z yM1 jdk_52_method_21_code 7 (some .int) ws ({ frames := 0, cells := 0, slots := 0, locals := 0 } : Room) 0 0 #[(.ref ca_), (.int (0 : Int32)), (.ref ba_), (.int (0 : Int32)), (.int (2 : Int32))] h0 (own_Q_cmp5_2 Z  ca_ kc_ ba_ kb_ c0_ c1_ h0 n0) := by
  refine oenter own_pn1 #[.val (.ref ca_), .val (.int (0 : Int32)), .val (.ref ba_), .val (.int (0 : Int32)), .val (.int (2 : Int32)), .unset, .unset] (fun m => by first | (simp [entryFrame, mkF, argsToLocals, Value.category]; done) | rfl) ?_
  intro p e s m below meth c s₁ X0 hx hZ hby hml hret hown0 hnm hlk e0
  have hown : s.vm.findClass "java/lang/StringUTF16" = some m.cls := hown0
  have N0 := Fr.nil n0
  refine o_iconst X0 hx (0 : Int32) (hb hby d2_0) rfl ?_
  refine o_istore X0 hx (l' := #[.val (.ref ca_), .val (.int (0 : Int32)), .val (.ref ba_), .val (.int (0 : Int32)), .val (.int (2 : Int32)), .val (.int (0 : Int32)), .unset]) (hb hby d2_1) rfl ?_
  refine o_iload X0 hx (hb hby d2_3) rfl ?_
  refine o_iload X0 hx (hb hby d2_5) rfl ?_
  refine o_icmpNo X0 hx (hb hby d2_7) (tlt (by decide : (0 : Int32) < (2 : Int32))).2.1 ?_
  refine o_aloadN X0 hx (hb hby d2_10) rfl rfl ?_
  refine o_iloadN X0 hx (hb hby d2_11) rfl ?_
  obtain ⟨cl1, Ar1, q1, S1, N1z, H1, G1⟩ := (id pr0)
  have hi1 := inb_of (j := (0 : Int32)) S1 ⟨by decide, by decide⟩
  have ha1 := Has.at (v := (.int c0_)) H1 hi1 rfl
  refine ogo (S' := s₁.setTop (mkF m 13 #[.val (.ref ca_), .val (.int (0 : Int32)), .val (.ref ba_), .val (.int (0 : Int32)), .val (.int (2 : Int32)), .val (.int (0 : Int32)), .unset] [(.int c0_)])) (X0.caload hx (j := (0 : Int32)) (v := (.int c0_)) (by rw [e0]; exact Ar1.1) (State.isArrayOf_alike hZ.alike Ar1.2.1) Ar1.2.2 hi1 ha1 (g := (mkF m 12 #[.val (.ref ca_), .val (.int (0 : Int32)), .val (.ref ba_), .val (.int (0 : Int32)), .val (.int (2 : Int32)), .val (.int (0 : Int32)), .unset] [(.int (0 : Int32)), (.ref ca_)])) rfl rfl (hb hby d2_12)) ?_
  refine o_istore X0 hx (l' := #[.val (.ref ca_), .val (.int (0 : Int32)), .val (.ref ba_), .val (.int (0 : Int32)), .val (.int (2 : Int32)), .val (.int (0 : Int32)), .val (.int c0_)]) (hb hby d2_13) rfl ?_
  refine o_iload X0 hx (hb hby d2_15) rfl ?_
  refine o_sipush X0 hx (255 : Int32) (hb hby d2_17) rfl ?_
  refine o_icmpYes X0 hx 26 (hb hby d2_20) (flt pr4).2.2.2 (by decide) (by decide) ?_
  refine o_aloadN X0 hx (hb hby d2_26) rfl rfl ?_
  refine o_iloadN X0 hx (hb hby d2_27) rfl ?_
  refine o_iload X0 hx (hb hby d2_28) rfl ?_
  refine o_i2b X0 hx (hb hby d2_30) ?_
  obtain ⟨cl2, Ar2, q2, S2, N2z, H2, G2⟩ := (id pr1)
  obtain ⟨T2, _, X2, rfl, W2, st2⟩ := stB X0 hx hZ e0 Ar2 (j := (0 : Int32)) (inb_of S2 ⟨by decide, by decide⟩) (g := (mkF m 31 #[.val (.ref ca_), .val (.int (0 : Int32)), .val (.ref ba_), .val (.int (0 : Int32)), .val (.int (2 : Int32)), .val (.int (0 : Int32)), .val (.int c0_)] [(.int c0_.toInt8.toInt32), (.int (0 : Int32)), (.ref ba_)])) rfl rfl (hb hby d2_31)
  rw [own_narb] at W2
  have V2 : Arv Z T2.heap ba_ kb_ .byte (2 : Int32) [(.int c0_.toInt8.toInt32), (.int 0)] (.int 0) := Arv.set Ar2 q2 S2 N2z H2 G2 (fits_nar_byte _) W2 0 rfl (Nat.le_of_ble_eq_true rfl)
  have N2 := Fr.snoc X2 N0 pr3
  refine ogo (S' := T2.setTop (mkF m 32 #[.val (.ref ca_), .val (.int (0 : Int32)), .val (.ref ba_), .val (.int (0 : Int32)), .val (.int (2 : Int32)), .val (.int (0 : Int32)), .val (.int c0_)] [])) st2 ?_
  refine o_iinc X2 hx (l' := #[.val (.ref ca_), .val (.int (1 : Int32)), .val (.ref ba_), .val (.int (0 : Int32)), .val (.int (2 : Int32)), .val (.int (0 : Int32)), .val (.int c0_)]) (hb hby d2_32) rfl rfl ?_
  refine o_iinc X2 hx (l' := #[.val (.ref ca_), .val (.int (1 : Int32)), .val (.ref ba_), .val (.int (1 : Int32)), .val (.int (2 : Int32)), .val (.int (0 : Int32)), .val (.int c0_)]) (hb hby d2_35) rfl rfl ?_
  refine o_iinc X2 hx (l' := #[.val (.ref ca_), .val (.int (1 : Int32)), .val (.ref ba_), .val (.int (1 : Int32)), .val (.int (2 : Int32)), .val (.int (1 : Int32)), .val (.int c0_)]) (hb hby d2_38) rfl rfl ?_
  refine o_goto X2 hx 3 (hb hby d2_41) (by decide) (by decide) ?_
  refine o_iload X2 hx (hb hby d2_3) rfl ?_
  refine o_iload X2 hx (hb hby d2_5) rfl ?_
  refine o_icmpNo X2 hx (hb hby d2_7) (tlt (by decide : (1 : Int32) < (2 : Int32))).2.1 ?_
  refine o_aloadN X2 hx (hb hby d2_10) rfl rfl ?_
  refine o_iloadN X2 hx (hb hby d2_11) rfl ?_
  obtain ⟨cl3, Ar3, q3, S3, N3z, H3, G3⟩ := (id (pr0.other W2 pr2))
  have hi3 := inb_of (j := (1 : Int32)) S3 ⟨by decide, by decide⟩
  have ha3 := Has.at (v := (.int c1_)) H3 hi3 rfl
  refine ogo (S' := T2.setTop (mkF m 13 #[.val (.ref ca_), .val (.int (1 : Int32)), .val (.ref ba_), .val (.int (1 : Int32)), .val (.int (2 : Int32)), .val (.int (1 : Int32)), .val (.int c0_)] [(.int c1_)])) (X2.caload hx (j := (1 : Int32)) (v := (.int c1_)) Ar3.1 (State.isArrayOf_alike hZ.alike Ar3.2.1) Ar3.2.2 hi3 ha3 (g := (mkF m 12 #[.val (.ref ca_), .val (.int (1 : Int32)), .val (.ref ba_), .val (.int (1 : Int32)), .val (.int (2 : Int32)), .val (.int (1 : Int32)), .val (.int c0_)] [(.int (1 : Int32)), (.ref ca_)])) rfl rfl (hb hby d2_12)) ?_
  refine o_istore X2 hx (l' := #[.val (.ref ca_), .val (.int (1 : Int32)), .val (.ref ba_), .val (.int (1 : Int32)), .val (.int (2 : Int32)), .val (.int (1 : Int32)), .val (.int c1_)]) (hb hby d2_13) rfl ?_
  refine o_iload X2 hx (hb hby d2_15) rfl ?_
  refine o_sipush X2 hx (255 : Int32) (hb hby d2_17) rfl ?_
  refine o_icmpYes X2 hx 26 (hb hby d2_20) (flt pr5).2.2.2 (by decide) (by decide) ?_
  refine o_aloadN X2 hx (hb hby d2_26) rfl rfl ?_
  refine o_iloadN X2 hx (hb hby d2_27) rfl ?_
  refine o_iload X2 hx (hb hby d2_28) rfl ?_
  refine o_i2b X2 hx (hb hby d2_30) ?_
  obtain ⟨cl4, Ar4, q4, S4, N4z, H4, G4⟩ := (id V2)
  obtain ⟨T4, _, X4, rfl, W4, st4⟩ := stB X2 hx hZ rfl Ar4 (j := (1 : Int32)) (inb_of S4 ⟨by decide, by decide⟩) (g := (mkF m 31 #[.val (.ref ca_), .val (.int (1 : Int32)), .val (.ref ba_), .val (.int (1 : Int32)), .val (.int (2 : Int32)), .val (.int (1 : Int32)), .val (.int c1_)] [(.int c1_.toInt8.toInt32), (.int (1 : Int32)), (.ref ba_)])) rfl rfl (hb hby d2_31)
  rw [own_narb] at W4
  have V4 : Arv Z T4.heap ba_ kb_ .byte (2 : Int32) [(.int c0_.toInt8.toInt32), (.int c1_.toInt8.toInt32)] (.int 0) := Arv.set Ar4 q4 S4 N4z H4 G4 (fits_nar_byte _) W4 1 rfl (Nat.le_of_ble_eq_true rfl)
  have N4 := Fr.snoc X4 N2 pr3
  refine ogo (S' := T4.setTop (mkF m 32 #[.val (.ref ca_), .val (.int (1 : Int32)), .val (.ref ba_), .val (.int (1 : Int32)), .val (.int (2 : Int32)), .val (.int (1 : Int32)), .val (.int c1_)] [])) st4 ?_
  refine o_iinc X4 hx (l' := #[.val (.ref ca_), .val (.int (2 : Int32)), .val (.ref ba_), .val (.int (1 : Int32)), .val (.int (2 : Int32)), .val (.int (1 : Int32)), .val (.int c1_)]) (hb hby d2_32) rfl rfl ?_
  refine o_iinc X4 hx (l' := #[.val (.ref ca_), .val (.int (2 : Int32)), .val (.ref ba_), .val (.int (2 : Int32)), .val (.int (2 : Int32)), .val (.int (1 : Int32)), .val (.int c1_)]) (hb hby d2_35) rfl rfl ?_
  refine o_iinc X4 hx (l' := #[.val (.ref ca_), .val (.int (2 : Int32)), .val (.ref ba_), .val (.int (2 : Int32)), .val (.int (2 : Int32)), .val (.int (2 : Int32)), .val (.int c1_)]) (hb hby d2_38) rfl rfl ?_
  refine o_goto X4 hx 3 (hb hby d2_41) (by decide) (by decide) ?_
  refine o_iload X4 hx (hb hby d2_3) rfl ?_
  refine o_iload X4 hx (hb hby d2_5) rfl ?_
  refine o_icmpYes X4 hx 44 (hb hby d2_7) (flt (by decide : ¬ ((2 : Int32) < (2 : Int32)))).2.1 (by decide) (by decide) ?_
  refine o_iload X4 hx (hb hby d2_44) rfl ?_
  refine oend X4 hlk (v := some (.int (2 : Int32))) (fun h => by rw [hret] at h; cases h) (fun fs hr => retOut X4 hx (t := .int) (i := .ireturn) hret rfl (Or.inl ⟨rfl, Or.inl rfl, _, rfl⟩) (hb hby d2_46) hr) (by decide) (by decide) ?_
  show own_Q_cmp5_2 Z _ _ _ _ _ _ h0 n0 _ T4.heap _
  exact ⟨rfl, N4, (((Keep.refl h0 [ba_]).wr W2 (Or.inl (List.mem_of_getElem? (i := 0) rfl))).wr W4 (Or.inl (List.mem_of_getElem? (i := 0) rfl))), V4⟩
def own_Q_cmp3_2 (Z : State)  (ca_ : Addr) (kc_ : ClassId) (c0_ : Int32) (c1_ : Int32) (h0 : Heap) (n0 : Nat) (v : Option Value) (h : Heap) (L : List Loc) : Prop := ∃ ba_ : Addr, ∃ kb_ : ClassId, (v = some (.ref ba_)) ∧ (Fr n0 L) ∧ (Keep h0 h []) ∧ (h0.size ≤ ba_) ∧ (Arv Z h ba_ kb_ .byte (2 : Int32) [(.int c0_.toInt8.toInt32), (.int c1_.toInt8.toInt32)] (.int 0))
set_option maxRecDepth 65536 in
set_option maxHeartbeats 40000000 in
theorem rm_cmp3_2 (l : Launch) (Z : State) (a0 : Array Value) (hw : ∀ d ∈ tables_1, d.before a0 Z = true) (ws : List Jvm.Cond)  (ca_ : Addr) (kc_ : ClassId) (c0_ : Int32) (c1_ : Int32) (h0 : Heap) (n0 : Nat) (O0 : Old Z n0 h0) (pr0 : Arv Z h0 ca_ kc_ .char (2 : Int32) [(.int c0_), (.int c1_)] (.int 0)) (pr1 : ¬ ((255 : Int32) < c0_)) (pr2 : ¬ ((255 : Int32) < c1_)) :
    oMet l Z yM2 jdk_52_method_16_code 6 (some (.array .byte)) ws ({ frames := 1, cells := 1, slots := 2, locals := 18 } : Room) 1 2 #[(.ref ca_), (.int (0 : Int32)), (.int (2 : Int32))] h0 (own_Q_cmp3_2 Z  ca_ kc_ c0_ c1_ h0 n0) := by
  refine oenter own_pn1 #[.val (.ref ca_), .val (.int (0 : Int32)), .val (.int (2 : Int32)), .unset, .unset, .unset] (fun m => by first | (simp [entryFrame, mkF, argsToLocals, Value.category]; done) | rfl) ?_
  intro p e s m below meth c s₁ X0 hx hZ hby hml hret hown0 hnm hlk e0
  have hown : s.vm.findClass "java/lang/StringUTF16" = some m.cls := hown0
  have N0 := Fr.nil n0
  have w16 := hw _ (List.mem_of_getElem? (i := 16) rfl)
  have w56 := hw _ (List.mem_of_getElem? (i := 56) rfl)
  have w58 := hw _ (List.mem_of_getElem? (i := 58) rfl)
  have w59 := hw _ (List.mem_of_getElem? (i := 59) rfl)
  have w60 := hw _ (List.mem_of_getElem? (i := 60) rfl)
  refine o_iloadN X0 hx (hb hby d3_0) rfl ?_
  obtain ⟨T1, _, k1, X1, rfl, E1, A1, Ex1, st1⟩ := newPE (aty := .byte) X0 hx hZ w16 e0 (g := (mkF m 1 #[.val (.ref ca_), .val (.int (0 : Int32)), .val (.int (2 : Int32)), .unset, .unset, .unset] [(.int (2 : Int32))])) rfl (hb hby d3_1) rfl (by decide) (cap := 2) (by decide) (by decide) (by decide) (by decide) (ad := "[B") rfl
  obtain ⟨b1, g1⟩ : ∃ z, z = h0.size := ⟨_, rfl⟩
  rw [← g1] at A1 Ex1 st1
  have n0_b1 : n0 ≤ b1 := Nat.le_trans (Nat.le_trans (Nat.le_of_eq O0.1.symm) O0.2.1) (Nat.le_trans (Nat.le_refl _) (Nat.le_of_eq g1.symm))
  have V1 : Arv Z T1.heap b1 k1 .byte (2 : Int32) [(.int 0), (.int 0)] (.int 0) := (Arv.new A1 (by decide)).pad (pad_rep [] (.int 0) 2)
  refine ogo (S' := T1.setTop (mkF m 3 #[.val (.ref ca_), .val (.int (0 : Int32)), .val (.int (2 : Int32)), .unset, .unset, .unset] [(.ref b1)])) st1 ?_
  refine o_astoreN X1 hx (l' := #[.val (.ref ca_), .val (.int (0 : Int32)), .val (.int (2 : Int32)), .val (.ref b1), .unset, .unset]) (hb hby d3_3) rfl rfl ?_
  refine o_aloadN X1 hx (hb hby d3_4) rfl rfl ?_
  refine o_iloadN X1 hx (hb hby d3_5) rfl ?_
  refine o_aloadN X1 hx (hb hby d3_6) rfl rfl ?_
  refine o_iconst X1 hx (0 : Int32) (hb hby d3_7) rfl ?_
  refine o_iloadN X1 hx (hb hby d3_8) rfl ?_
  obtain ⟨_, _, ⟨T2, L2, kc2, n2⟩, -, X2, ⟨Lc2, hQ2, l2, y2, z2⟩, st2⟩ := Jvm.LawKit.callS X1 hx (y := yM1) hown (mvT hZ w58) (mvT hZ w59) (mvT hZ w56) (mvT hZ w60) (by decide) (backOf (W := 0) (rm_cmp5_2 l Z a0 hw []  ca_ kc_ b1 k1 c0_ c1_ T1.heap n0 (O0.ext E1) (pr0.ext E1) V1 (Nat.ne_of_lt (Nat.lt_of_lt_of_le (Nat.lt_of_lt_of_le pr0.lt (Nat.le_refl _)) (Nat.le_of_eq g1.symm))) n0_b1 pr1 pr2) hZ w60 w56 (by decide) (by decide)) (g := (mkF m 9 #[.val (.ref ca_), .val (.int (0 : Int32)), .val (.int (2 : Int32)), .val (.ref b1), .unset, .unset] [(.int (2 : Int32)), (.int (0 : Int32)), (.ref b1), (.int (0 : Int32)), (.ref ca_)])) rfl (by rw [hml]; rfl) (argsL := [(.ref ca_), (.int (0 : Int32)), (.ref b1), (.int (0 : Int32)), (.int (2 : Int32))]) (rest := []) (lenOf own_pd0 rfl) rfl (by show 2 * 0 + _ ≤ _; exact Nat.le_of_eq rfl) (hb hby d3_9) (fun _ _ => ⟨rfl, rfl, (by decide : 1 + 0 ≤ _), (by decide : 2 + 0 ≤ _)⟩)
  dsimp only [Pt.U, Pt.locs, Pt.cells, Pt.slots] at X2 l2 y2 z2 st2 hQ2
  subst l2 y2 z2
  obtain ⟨rfl, Nq2, K2, p2_0⟩ := hQ2
  have N2 := Fr.app N0 Nq2
  refine ogo (S' := T2.setTop (mkF m 12 #[.val (.ref ca_), .val (.int (0 : Int32)), .val (.int (2 : Int32)), .val (.ref b1), .unset, .unset] [(.int (2 : Int32))])) st2 ?_
  refine o_istore X2 hx (l' := #[.val (.ref ca_), .val (.int (0 : Int32)), .val (.int (2 : Int32)), .val (.ref b1), .val (.int (2 : Int32)), .unset]) (hb hby d3_12) rfl ?_
  refine o_iload X2 hx (hb hby d3_14) rfl ?_
  refine o_iloadN X2 hx (hb hby d3_16) rfl ?_
  refine o_icmpYes X2 hx 57 (hb hby d3_17) (teq (by decide : (2 : Int32) = (2 : Int32))).1 (by decide) (by decide) ?_
  refine o_aloadN X2 hx (hb hby d3_57) rfl rfl ?_
  refine oend X2 hlk (v := some (.ref b1)) (fun h => by rw [hret] at h; cases h) (fun fs hr => retOut X2 hx (t := (.array .byte)) (i := .areturn) hret rfl (Or.inr (Or.inr (Or.inr (Or.inr ⟨rfl, rfl, rfl⟩)))) (hb hby d3_58) hr) (by decide) (by decide) ?_
  show own_Q_cmp3_2 Z _ _ _ _ h0 n0 _ T2.heap _
  exact ⟨b1, k1, rfl, N2, (((Keep.refl h0 []).ext E1).trans K2 (allS (Or.inr (Nat.le_trans (Nat.le_refl _) (Nat.le_of_eq g1.symm))) all0)), (Nat.le_trans (Nat.le_refl _) (Nat.le_of_eq g1.symm)), p2_0⟩
def own_Q_codl_2 (Z : State)  (ba_ : Addr) (kb_ : ClassId) (vs_ : List Value) (h0 : Heap) (n0 : Nat) (v : Option Value) (h : Heap) (L : List Loc) : Prop := (v = some (.int (0 : Int32))) ∧ (Fr n0 L) ∧ (h = h0)
set_option maxRecDepth 65536 in
set_option maxHeartbeats 40000000 in
theorem rm_codl_2 (l : Launch) (Z : State) (a0 : Array Value) (hw : ∀ d ∈ tables_1, d.before a0 Z = true) (ws : List Jvm.Cond)  (ba_ : Addr) (kb_ : ClassId) (vs_ : List Value) (h0 : Heap) (n0 : Nat) (O0 : Old Z n0 h0) (pr0 : Arv Z h0 ba_ kb_ .byte (2 : Int32) vs_ (.int 0)) :
    oMet l Z yM3 jdk_52_method_15_code 2 (some .byte) ws ({ frames := 0, cells := 0, slots := 0, locals := 0 } : Room) 0 0 #[(.ref ba_), (.int (2 : Int32))] h0 (own_Q_codl_2 Z  ba_ kb_ vs_ h0 n0) := by
  refine oenter own_pn1 #[.val (.ref ba_), .val (.int (2 : Int32))] (fun m => by first | (simp [entryFrame, mkF, argsToLocals, Value.category]; done) | rfl) ?_
  intro p e s m below meth c s₁ X0 hx hZ hby hml hret hown0 hnm hlk e0
  have hown : s.vm.findClass "java/lang/StringUTF16" = some m.cls := hown0
  have N0 := Fr.nil n0
  refine o_iloadN X0 hx (hb hby d4_0) rfl ?_
  refine o_aloadN X0 hx (hb hby d4_1) rfl rfl ?_
  obtain ⟨cl1, Ar1, -, S1, N1z, -, -⟩ := (id pr0)
  refine ogo (S' := s₁.setTop (mkF m 3 #[.val (.ref ba_), .val (.int (2 : Int32))] [(.int (2 : Int32)), (.int (2 : Int32))])) (fun _ kt_ => X0.arraylength hx (by rw [e0]; exact Ar1.1) (State.isArrayOf_alike hZ.alike Ar1.2.1) (g := (mkF m 2 #[.val (.ref ba_), .val (.int (2 : Int32))] [(.ref ba_), (.int (2 : Int32))])) rfl rfl (hb hby d4_2) _ (by rw [len_of S1 N1z]; exact kt_)) ?_
  refine o_isub X0 hx (hb hby d4_3) ?_
  refine o_bipush X0 hx (31 : Int32) (hb hby d4_4) rfl ?_
  refine o_iushr X0 hx (hb hby d4_6) ?_
  refine o_i2b X0 hx (hb hby d4_7) ?_
  refine oend X0 hlk (v := some (.int (0 : Int32))) (fun h => by rw [hret] at h; cases h) (fun fs hr => retN X0 hx (t := .byte) hret (by simp) (hb hby d4_8) hr) (by decide) (by decide) ?_
  show own_Q_codl_2 Z _ _ _ h0 n0 _ s₁.heap _
  rw [e0]
  exact ⟨rfl, N0, rfl⟩
def own_Q_codl16_2 (Z : State)  (ba_ : Addr) (kb_ : ClassId) (vs_ : List Value) (h0 : Heap) (n0 : Nat) (v : Option Value) (h : Heap) (L : List Loc) : Prop := (v = some (.int (1 : Int32))) ∧ (Fr n0 L) ∧ (h = h0)
set_option maxRecDepth 65536 in
set_option maxHeartbeats 40000000 in
theorem rm_codl16_2 (l : Launch) (Z : State) (a0 : Array Value) (hw : ∀ d ∈ tables_1, d.before a0 Z = true) (ws : List Jvm.Cond)  (ba_ : Addr) (kb_ : ClassId) (vs_ : List Value) (h0 : Heap) (n0 : Nat) (O0 : Old Z n0 h0) (pr0 : Arv Z h0 ba_ kb_ .byte (4 : Int32) vs_ (.int 0)) :
    oMet l Z yM3 jdk_52_method_15_code 2 (some .byte) ws ({ frames := 0, cells := 0, slots := 0, locals := 0 } : Room) 0 0 #[(.ref ba_), (.int (2 : Int32))] h0 (own_Q_codl16_2 Z  ba_ kb_ vs_ h0 n0) := by
  refine oenter own_pn1 #[.val (.ref ba_), .val (.int (2 : Int32))] (fun m => by first | (simp [entryFrame, mkF, argsToLocals, Value.category]; done) | rfl) ?_
  intro p e s m below meth c s₁ X0 hx hZ hby hml hret hown0 hnm hlk e0
  have hown : s.vm.findClass "java/lang/StringUTF16" = some m.cls := hown0
  have N0 := Fr.nil n0
  refine o_iloadN X0 hx (hb hby d4_0) rfl ?_
  refine o_aloadN X0 hx (hb hby d4_1) rfl rfl ?_
  obtain ⟨cl1, Ar1, -, S1, N1z, -, -⟩ := (id pr0)
  refine ogo (S' := s₁.setTop (mkF m 3 #[.val (.ref ba_), .val (.int (2 : Int32))] [(.int (4 : Int32)), (.int (2 : Int32))])) (fun _ kt_ => X0.arraylength hx (by rw [e0]; exact Ar1.1) (State.isArrayOf_alike hZ.alike Ar1.2.1) (g := (mkF m 2 #[.val (.ref ba_), .val (.int (2 : Int32))] [(.ref ba_), (.int (2 : Int32))])) rfl rfl (hb hby d4_2) _ (by rw [len_of S1 N1z]; exact kt_)) ?_
  refine o_isub X0 hx (hb hby d4_3) ?_
  refine o_bipush X0 hx (31 : Int32) (hb hby d4_4) rfl ?_
  refine o_iushr X0 hx (hb hby d4_6) ?_
  refine o_i2b X0 hx (hb hby d4_7) ?_
  refine oend X0 hlk (v := some (.int (1 : Int32))) (fun h => by rw [hret] at h; cases h) (fun fs hr => retN X0 hx (t := .byte) hret (by simp) (hb hby d4_8) hr) (by decide) (by decide) ?_
  show own_Q_codl16_2 Z _ _ _ h0 n0 _ s₁.heap _
  rw [e0]
  exact ⟨rfl, N0, rfl⟩
def own_Q_cmp5_2_0 (Z : State)  (ca_ : Addr) (kc_ : ClassId) (ba_ : Addr) (kb_ : ClassId) (c0_ : Int32) (c1_ : Int32) (h0 : Heap) (n0 : Nat) (v : Option Value) (h : Heap) (L : List Loc) : Prop := (v = some (.int (0 : Int32))) ∧ (Fr n0 L) ∧ (Keep h0 h [ba_])
set_option maxRecDepth 65536 in
set_option maxHeartbeats 40000000 in
theorem rm_cmp5_2_0 (l : Launch) (Z : State) (a0 : Array Value) (hw : ∀ d ∈ tables_1, d.before a0 Z = true) (ws : List Jvm.Cond)  (ca_ : Addr) (kc_ : ClassId) (ba_ : Addr) (kb_ : ClassId) (c0_ : Int32) (c1_ : Int32) (h0 : Heap) (n0 : Nat) (O0 : Old Z n0 h0) (pr0 : Arv Z h0 ca_ kc_ .char (2 : Int32) [(.int c0_), (.int c1_)] (.int 0)) (pr1 : Arv Z h0 ba_ kb_ .byte (2 : Int32) [(.int 0), (.int 0)] (.int 0)) (pr2 : ca_ ≠ ba_) (pr3 : n0 ≤ ba_) (pr4 : (255 : Int32) < c0_) :
    oMet l Z yM1 jdk_52_method_21_code 7 (some .int) ws ({ frames := 0, cells := 0, slots := 0, locals := 0 } : Room) 0 0 #[(.ref ca_), (.int (0 : Int32)), (.ref ba_), (.int (0 : Int32)), (.int (2 : Int32))] h0 (own_Q_cmp5_2_0 Z  ca_ kc_ ba_ kb_ c0_ c1_ h0 n0) := by
  refine oenter own_pn1 #[.val (.ref ca_), .val (.int (0 : Int32)), .val (.ref ba_), .val (.int (0 : Int32)), .val (.int (2 : Int32)), .unset, .unset] (fun m => by first | (simp [entryFrame, mkF, argsToLocals, Value.category]; done) | rfl) ?_
  intro p e s m below meth c s₁ X0 hx hZ hby hml hret hown0 hnm hlk e0
  have hown : s.vm.findClass "java/lang/StringUTF16" = some m.cls := hown0
  have N0 := Fr.nil n0
  refine o_iconst X0 hx (0 : Int32) (hb hby d2_0) rfl ?_
  refine o_istore X0 hx (l' := #[.val (.ref ca_), .val (.int (0 : Int32)), .val (.ref ba_), .val (.int (0 : Int32)), .val (.int (2 : Int32)), .val (.int (0 : Int32)), .unset]) (hb hby d2_1) rfl ?_
  refine o_iload X0 hx (hb hby d2_3) rfl ?_
  refine o_iload X0 hx (hb hby d2_5) rfl ?_
  refine o_icmpNo X0 hx (hb hby d2_7) (tlt (by decide : (0 : Int32) < (2 : Int32))).2.1 ?_
  refine o_aloadN X0 hx (hb hby d2_10) rfl rfl ?_
  refine o_iloadN X0 hx (hb hby d2_11) rfl ?_
  obtain ⟨cl1, Ar1, q1, S1, N1z, H1, G1⟩ := (id pr0)
  have hi1 := inb_of (j := (0 : Int32)) S1 ⟨by decide, by decide⟩
  have ha1 := Has.at (v := (.int c0_)) H1 hi1 rfl
  refine ogo (S' := s₁.setTop (mkF m 13 #[.val (.ref ca_), .val (.int (0 : Int32)), .val (.ref ba_), .val (.int (0 : Int32)), .val (.int (2 : Int32)), .val (.int (0 : Int32)), .unset] [(.int c0_)])) (X0.caload hx (j := (0 : Int32)) (v := (.int c0_)) (by rw [e0]; exact Ar1.1) (State.isArrayOf_alike hZ.alike Ar1.2.1) Ar1.2.2 hi1 ha1 (g := (mkF m 12 #[.val (.ref ca_), .val (.int (0 : Int32)), .val (.ref ba_), .val (.int (0 : Int32)), .val (.int (2 : Int32)), .val (.int (0 : Int32)), .unset] [(.int (0 : Int32)), (.ref ca_)])) rfl rfl (hb hby d2_12)) ?_
  refine o_istore X0 hx (l' := #[.val (.ref ca_), .val (.int (0 : Int32)), .val (.ref ba_), .val (.int (0 : Int32)), .val (.int (2 : Int32)), .val (.int (0 : Int32)), .val (.int c0_)]) (hb hby d2_13) rfl ?_
  refine o_iload X0 hx (hb hby d2_15) rfl ?_
  refine o_sipush X0 hx (255 : Int32) (hb hby d2_17) rfl ?_
  refine o_icmpNo X0 hx (hb hby d2_20) (tlt pr4).2.2.2 ?_
  refine o_iload X0 hx (hb hby d2_23) rfl ?_
  refine oend X0 hlk (v := some (.int (0 : Int32))) (fun h => by rw [hret] at h; cases h) (fun fs hr => retOut X0 hx (t := .int) (i := .ireturn) hret rfl (Or.inl ⟨rfl, Or.inl rfl, _, rfl⟩) (hb hby d2_25) hr) (by decide) (by decide) ?_
  show own_Q_cmp5_2_0 Z _ _ _ _ _ _ h0 n0 _ s₁.heap _
  rw [e0]
  exact ⟨rfl, N0, (Keep.refl h0 [ba_])⟩
def own_Q_nbl_2 (Z : State)   (h0 : Heap) (n0 : Nat) (v : Option Value) (h : Heap) (L : List Loc) : Prop := (v = some (.int (4 : Int32))) ∧ (Fr n0 L) ∧ (h = h0)
set_option maxRecDepth 65536 in
set_option maxHeartbeats 40000000 in
theorem rm_nbl_2 (l : Launch) (Z : State) (a0 : Array Value) (hw : ∀ d ∈ tables_1, d.before a0 Z = true) (ws : List Jvm.Cond)   (h0 : Heap) (n0 : Nat) (O0 : Old Z n0 h0)  :
    oMet l Z yM4 jdk_52_method_3_code 1 (some .int) ws ({ frames := 0, cells := 0, slots := 0, locals := 0 } : Room) 0 0 #[(.int (2 : Int32))] h0 (own_Q_nbl_2 Z   h0 n0) := by
  refine oenter own_pn1 #[.val (.int (2 : Int32))] (fun m => by first | (simp [entryFrame, mkF, argsToLocals, Value.category]; done) | rfl) ?_
  intro p e s m below meth c s₁ X0 hx hZ hby hml hret hown0 hnm hlk e0
  have hown : s.vm.findClass "java/lang/StringUTF16" = some m.cls := hown0
  have N0 := Fr.nil n0
  have w95 := hw _ (List.mem_of_getElem? (i := 95) rfl)
  refine o_iloadN X0 hx (hb hby d5_0) rfl ?_
  refine o_ifYes X0 hx 12 (hb hby d5_1) (flt (by decide : ¬ ((2 : Int32) < (0 : Int32)))).2.1 (by decide) (by decide) ?_
  refine o_iloadN X0 hx (hb hby d5_12) rfl ?_
  refine ogo (S' := s₁.setTop (mkF m 15 #[.val (.int (2 : Int32))] [(.int (1073741823 : Int32)), (.int (2 : Int32))])) (X0.ldcInt hx hown (mvT hZ w95) (g := (mkF m 13 #[.val (.int (2 : Int32))] [(.int (2 : Int32))])) rfl (hb hby d5_13)) ?_
  refine o_icmpYes X0 hx 55 (hb hby d5_15) (tlt (by decide : (2 : Int32) < (1073741823 : Int32))).1 (by decide) (by decide) ?_
  refine o_iloadN X0 hx (hb hby d5_55) rfl ?_
  refine o_iconst X0 hx (1 : Int32) (hb hby d5_56) rfl ?_
  refine o_ishl X0 hx (hb hby d5_57) ?_
  refine oend X0 hlk (v := some (.int (4 : Int32))) (fun h => by rw [hret] at h; cases h) (fun fs hr => retOut X0 hx (t := .int) (i := .ireturn) hret rfl (Or.inl ⟨rfl, Or.inl rfl, _, rfl⟩) (hb hby d5_58) hr) (by decide) (by decide) ?_
  show own_Q_nbl_2 Z  h0 n0 _ s₁.heap _
  rw [e0]
  exact ⟨rfl, N0, rfl⟩
def own_Q_nbf_2 (Z : State)   (h0 : Heap) (n0 : Nat) (v : Option Value) (h : Heap) (L : List Loc) : Prop := ∃ ba_ : Addr, ∃ kb_ : ClassId, (v = some (.ref ba_)) ∧ (Fr n0 L) ∧ (Keep h0 h []) ∧ (h0.size ≤ ba_) ∧ (Arv Z h ba_ kb_ .byte (4 : Int32) [(.int 0), (.int 0), (.int 0), (.int 0)] (.int 0))
set_option maxRecDepth 65536 in
set_option maxHeartbeats 40000000 in
theorem rm_nbf_2 (l : Launch) (Z : State) (a0 : Array Value) (hw : ∀ d ∈ tables_1, d.before a0 Z = true) (ws : List Jvm.Cond)   (h0 : Heap) (n0 : Nat) (O0 : Old Z n0 h0)  :
    oMet l Z yM5 jdk_52_method_2_code 1 (some (.array .byte)) ws ({ frames := 1, cells := 1, slots := 4, locals := 12 } : Room) 1 4 #[(.int (2 : Int32))] h0 (own_Q_nbf_2 Z   h0 n0) := by
  refine oenter own_pn1 #[.val (.int (2 : Int32))] (fun m => by first | (simp [entryFrame, mkF, argsToLocals, Value.category]; done) | rfl) ?_
  intro p e s m below meth c s₁ X0 hx hZ hby hml hret hown0 hnm hlk e0
  have hown : s.vm.findClass "java/lang/StringUTF16" = some m.cls := hown0
  have N0 := Fr.nil n0
  have w16 := hw _ (List.mem_of_getElem? (i := 16) rfl)
  have w56 := hw _ (List.mem_of_getElem? (i := 56) rfl)
  have w92 := hw _ (List.mem_of_getElem? (i := 92) rfl)
  have w93 := hw _ (List.mem_of_getElem? (i := 93) rfl)
  have w94 := hw _ (List.mem_of_getElem? (i := 94) rfl)
  refine o_iloadN X0 hx (hb hby d6_0) rfl ?_
  obtain ⟨_, _, ⟨T1, L1, kc1, n1⟩, -, X1, ⟨Lc1, hQ1, l1, y1, z1⟩, st1⟩ := Jvm.LawKit.callS X0 hx (y := yM4) hown (mvT hZ w92) (mvT hZ w93) (mvT hZ w56) (mvT hZ w94) (by decide) (backOf (W := 0) (rm_nbl_2 l Z a0 hw []   h0 n0 O0 ) hZ w94 w56 (by decide) (by decide)) (g := (mkF m 1 #[.val (.int (2 : Int32))] [(.int (2 : Int32))])) rfl (by rw [hml]; rfl) (argsL := [(.int (2 : Int32))]) (rest := []) (lenOf own_pd1 rfl) rfl (by show 2 * 0 + _ ≤ _; exact Nat.le_of_eq rfl) (hb hby d6_1) (fun _ _ => ⟨rfl, e0, (by decide : 0 + 0 ≤ _), (by decide : 0 + 0 ≤ _)⟩)
  dsimp only [Pt.U, Pt.locs, Pt.cells, Pt.slots] at X1 l1 y1 z1 st1 hQ1
  subst l1 y1 z1
  obtain ⟨rfl, Nq1, e1⟩ := hQ1
  have N1 := Fr.app N0 Nq1
  refine ogo (S' := T1.setTop (mkF m 4 #[.val (.int (2 : Int32))] [(.int (4 : Int32))])) st1 ?_
  obtain ⟨T2, _, k2, X2, rfl, E2, A2, Ex2, st2⟩ := newPE (aty := .byte) X1 hx hZ w16 e1 (g := (mkF m 4 #[.val (.int (2 : Int32))] [(.int (4 : Int32))])) rfl (hb hby d6_4) rfl (by decide) (cap := 4) (by decide) (by decide) (by decide) (by decide) (ad := "[B") rfl
  obtain ⟨b2, g2⟩ : ∃ z, z = h0.size := ⟨_, rfl⟩
  rw [← g2] at A2 Ex2 st2
  have n0_b2 : n0 ≤ b2 := Nat.le_trans (Nat.le_trans (Nat.le_of_eq O0.1.symm) O0.2.1) (Nat.le_trans (Nat.le_refl _) (Nat.le_of_eq g2.symm))
  have V2 : Arv Z T2.heap b2 k2 .byte (4 : Int32) [(.int 0), (.int 0), (.int 0), (.int 0)] (.int 0) := (Arv.new A2 (by decide)).pad (pad_rep [] (.int 0) 4)
  refine ogo (S' := T2.setTop (mkF m 6 #[.val (.int (2 : Int32))] [(.ref b2)])) st2 ?_
  refine oend X2 hlk (v := some (.ref b2)) (fun h => by rw [hret] at h; cases h) (fun fs hr => retOut X2 hx (t := (.array .byte)) (i := .areturn) hret rfl (Or.inr (Or.inr (Or.inr (Or.inr ⟨rfl, rfl, rfl⟩)))) (hb hby d6_6) hr) (by decide) (by decide) ?_
  show own_Q_nbf_2 Z  h0 n0 _ T2.heap _
  exact ⟨b2, k2, rfl, N1, ((Keep.refl h0 []).ext E2), (Nat.le_trans (Nat.le_refl _) (Nat.le_of_eq g2.symm)), V2⟩
def own_Q_putch_2_0 (Z : State) (z_CS : Int32) (v_FMT : Value) (ba_ : Addr) (kb_ : ClassId) (c_ : Int32) (e0_ : Int32) (e1_ : Int32) (e2_ : Int32) (e3_ : Int32) (h0 : Heap) (n0 : Nat) (v : Option Value) (h : Heap) (L : List Loc) : Prop := (v = none) ∧ (Fr n0 L) ∧ (Keep h0 h [ba_]) ∧ (Arv Z h ba_ kb_ .byte (4 : Int32) [(.int (c_ >>> ((0 : Int32) &&& 31)).toInt8.toInt32), (.int (c_ >>> ((8 : Int32) &&& 31)).toInt8.toInt32), (.int e2_), (.int e3_)] (.int 0))
set_option maxRecDepth 65536 in
set_option maxHeartbeats 40000000 in
theorem rm_putch_2_0 (l : Launch) (Z : State) (a0 : Array Value) (hw : ∀ d ∈ tables_1, d.before a0 Z = true) (ws : List Jvm.Cond) (z_CS : Int32) (v_FMT : Value) (ba_ : Addr) (kb_ : ClassId) (c_ : Int32) (e0_ : Int32) (e1_ : Int32) (e2_ : Int32) (e3_ : Int32) (h0 : Heap) (n0 : Nat) (SB : own_Start Z z_CS v_FMT) (O0 : Old Z n0 h0) (pr0 : Arv Z h0 ba_ kb_ .byte (4 : Int32) [(.int e0_), (.int e1_), (.int e2_), (.int e3_)] (.int 0)) (pr1 : n0 ≤ ba_) :
    oMet l Z yM6 jdk_52_method_4_code 3 none ws ({ frames := 0, cells := 0, slots := 0, locals := 0 } : Room) 0 0 #[(.ref ba_), (.int (0 : Int32)), (.int c_)] h0 (own_Q_putch_2_0 Z z_CS v_FMT ba_ kb_ c_ e0_ e1_ e2_ e3_ h0 n0) := by
  refine oenter own_pn1 #[.val (.ref ba_), .val (.int (0 : Int32)), .val (.int c_)] (fun m => by first | (simp [entryFrame, mkF, argsToLocals, Value.category]; done) | rfl) ?_
  intro p e s m below meth c s₁ X0 hx hZ hby hml hret hown0 hnm hlk e0
  have hown : s.vm.findClass "java/lang/StringUTF16" = some m.cls := hown0
  have N0 := Fr.nil n0
  obtain ⟨S_CS, H_CS, S__assertionsDisabled, S_HI_BYTE_SHIFT, S_LO_BYTE_SHIFT, S_FMT, R_FMT⟩ := (id SB)
  have w99 := hw _ (List.mem_of_getElem? (i := 99) rfl)
  have w100 := hw _ (List.mem_of_getElem? (i := 100) rfl)
  have w101 := hw _ (List.mem_of_getElem? (i := 101) rfl)
  obtain ⟨T1, X1, e1, st1⟩ := getS2 X0 hx hZ hown (host := "") (Or.inl w99) Via.refl e0 (Sta.ext O0.2 S__assertionsDisabled) (g := (mkF m 0 #[.val (.ref ba_), .val (.int (0 : Int32)), .val (.int c_)] [])) rfl (hb hby d7_0)
  refine ogo (S' := T1.setTop (mkF m 3 #[.val (.ref ba_), .val (.int (0 : Int32)), .val (.int c_)] [(.int (1 : Int32))])) st1 ?_
  refine o_ifYes X1 hx 28 (hb hby d7_3) (feq (by decide : ¬ ((1 : Int32) = (0 : Int32)))).2 (by decide) (by decide) ?_
  refine o_iloadN X1 hx (hb hby d7_28) rfl ?_
  refine o_iconst X1 hx (1 : Int32) (hb hby d7_29) rfl ?_
  refine o_ishl X1 hx (hb hby d7_30) ?_
  refine o_istoreN X1 hx (l' := #[.val (.ref ba_), .val (.int (0 : Int32)), .val (.int c_)]) (hb hby d7_31) rfl ?_
  refine o_aloadN X1 hx (hb hby d7_32) rfl rfl ?_
  refine o_iloadN X1 hx (hb hby d7_33) rfl ?_
  refine o_iinc X1 hx (l' := #[.val (.ref ba_), .val (.int (1 : Int32)), .val (.int c_)]) (hb hby d7_34) rfl rfl ?_
  refine o_iloadN X1 hx (hb hby d7_37) rfl ?_
  obtain ⟨T2, X2, e2, st2⟩ := getS2 X1 hx hZ hown (host := "") (Or.inl w100) Via.refl e1 (Sta.ext O0.2 S_HI_BYTE_SHIFT) (g := (mkF m 38 #[.val (.ref ba_), .val (.int (1 : Int32)), .val (.int c_)] [(.int c_), (.int (0 : Int32)), (.ref ba_)])) rfl (hb hby d7_38)
  refine ogo (S' := T2.setTop (mkF m 41 #[.val (.ref ba_), .val (.int (1 : Int32)), .val (.int c_)] [(.int (0 : Int32)), (.int c_), (.int (0 : Int32)), (.ref ba_)])) st2 ?_
  refine o_ishr X2 hx (hb hby d7_41) ?_
  refine o_i2b X2 hx (hb hby d7_42) ?_
  obtain ⟨cl3, Ar3, q3, S3, N3z, H3, G3⟩ := (id pr0)
  obtain ⟨T3, _, X3, rfl, W3, st3⟩ := stB X2 hx hZ e2 Ar3 (j := (0 : Int32)) (inb_of S3 ⟨by decide, by decide⟩) (g := (mkF m 43 #[.val (.ref ba_), .val (.int (1 : Int32)), .val (.int c_)] [(.int (c_ >>> ((0 : Int32) &&& 31)).toInt8.toInt32), (.int (0 : Int32)), (.ref ba_)])) rfl rfl (hb hby d7_43)
  rw [own_narb] at W3
  have V3 : Arv Z T3.heap ba_ kb_ .byte (4 : Int32) [(.int (c_ >>> ((0 : Int32) &&& 31)).toInt8.toInt32), (.int e1_), (.int e2_), (.int e3_)] (.int 0) := Arv.set Ar3 q3 S3 N3z H3 G3 (fits_nar_byte _) W3 0 rfl (Nat.le_of_ble_eq_true rfl)
  have N3 := Fr.snoc X3 N0 pr1
  refine ogo (S' := T3.setTop (mkF m 44 #[.val (.ref ba_), .val (.int (1 : Int32)), .val (.int c_)] [])) st3 ?_
  refine o_aloadN X3 hx (hb hby d7_44) rfl rfl ?_
  refine o_iloadN X3 hx (hb hby d7_45) rfl ?_
  refine o_iloadN X3 hx (hb hby d7_46) rfl ?_
  obtain ⟨T4, X4, e4, st4⟩ := getS2 X3 hx hZ hown (host := "") (Or.inl w101) Via.refl rfl (Sta.ext (O0.wr W3 pr1).2 S_LO_BYTE_SHIFT) (g := (mkF m 47 #[.val (.ref ba_), .val (.int (1 : Int32)), .val (.int c_)] [(.int c_), (.int (1 : Int32)), (.ref ba_)])) rfl (hb hby d7_47)
  refine ogo (S' := T4.setTop (mkF m 50 #[.val (.ref ba_), .val (.int (1 : Int32)), .val (.int c_)] [(.int (8 : Int32)), (.int c_), (.int (1 : Int32)), (.ref ba_)])) st4 ?_
  refine o_ishr X4 hx (hb hby d7_50) ?_
  refine o_i2b X4 hx (hb hby d7_51) ?_
  obtain ⟨cl5, Ar5, q5, S5, N5z, H5, G5⟩ := (id V3)
  obtain ⟨T5, _, X5, rfl, W5, st5⟩ := stB X4 hx hZ e4 Ar5 (j := (1 : Int32)) (inb_of S5 ⟨by decide, by decide⟩) (g := (mkF m 52 #[.val (.ref ba_), .val (.int (1 : Int32)), .val (.int c_)] [(.int (c_ >>> ((8 : Int32) &&& 31)).toInt8.toInt32), (.int (1 : Int32)), (.ref ba_)])) rfl rfl (hb hby d7_52)
  rw [own_narb] at W5
  have V5 : Arv Z T5.heap ba_ kb_ .byte (4 : Int32) [(.int (c_ >>> ((0 : Int32) &&& 31)).toInt8.toInt32), (.int (c_ >>> ((8 : Int32) &&& 31)).toInt8.toInt32), (.int e2_), (.int e3_)] (.int 0) := Arv.set Ar5 q5 S5 N5z H5 G5 (fits_nar_byte _) W5 1 rfl (Nat.le_of_ble_eq_true rfl)
  have N5 := Fr.snoc X5 N3 pr1
  refine ogo (S' := T5.setTop (mkF m 53 #[.val (.ref ba_), .val (.int (1 : Int32)), .val (.int c_)] [])) st5 ?_
  refine oend X5 hlk (v := none) (fun _ => rfl) (fun fs hr => X5.returnOut hx hret (hb hby d7_53) hr) (by decide) (by decide) ?_
  show own_Q_putch_2_0 Z _ _ _ _ _ _ _ _ _ h0 n0 _ T5.heap _
  exact ⟨rfl, N5, (((Keep.refl h0 [ba_]).wr W3 (Or.inl (List.mem_of_getElem? (i := 0) rfl))).wr W5 (Or.inl (List.mem_of_getElem? (i := 0) rfl))), V5⟩
def own_Q_putch_2_1 (Z : State) (z_CS : Int32) (v_FMT : Value) (ba_ : Addr) (kb_ : ClassId) (c_ : Int32) (e0_ : Int32) (e1_ : Int32) (e2_ : Int32) (e3_ : Int32) (h0 : Heap) (n0 : Nat) (v : Option Value) (h : Heap) (L : List Loc) : Prop := (v = none) ∧ (Fr n0 L) ∧ (Keep h0 h [ba_]) ∧ (Arv Z h ba_ kb_ .byte (4 : Int32) [(.int e0_), (.int e1_), (.int (c_ >>> ((0 : Int32) &&& 31)).toInt8.toInt32), (.int (c_ >>> ((8 : Int32) &&& 31)).toInt8.toInt32)] (.int 0))
set_option maxRecDepth 65536 in
set_option maxHeartbeats 40000000 in
theorem rm_putch_2_1 (l : Launch) (Z : State) (a0 : Array Value) (hw : ∀ d ∈ tables_1, d.before a0 Z = true) (ws : List Jvm.Cond) (z_CS : Int32) (v_FMT : Value) (ba_ : Addr) (kb_ : ClassId) (c_ : Int32) (e0_ : Int32) (e1_ : Int32) (e2_ : Int32) (e3_ : Int32) (h0 : Heap) (n0 : Nat) (SB : own_Start Z z_CS v_FMT) (O0 : Old Z n0 h0) (pr0 : Arv Z h0 ba_ kb_ .byte (4 : Int32) [(.int e0_), (.int e1_), (.int e2_), (.int e3_)] (.int 0)) (pr1 : n0 ≤ ba_) :
    oMet l Z yM6 jdk_52_method_4_code 3 none ws ({ frames := 0, cells := 0, slots := 0, locals := 0 } : Room) 0 0 #[(.ref ba_), (.int (1 : Int32)), (.int c_)] h0 (own_Q_putch_2_1 Z z_CS v_FMT ba_ kb_ c_ e0_ e1_ e2_ e3_ h0 n0) := by
  refine oenter own_pn1 #[.val (.ref ba_), .val (.int (1 : Int32)), .val (.int c_)] (fun m => by first | (simp [entryFrame, mkF, argsToLocals, Value.category]; done) | rfl) ?_
  intro p e s m below meth c s₁ X0 hx hZ hby hml hret hown0 hnm hlk e0
  have hown : s.vm.findClass "java/lang/StringUTF16" = some m.cls := hown0
  have N0 := Fr.nil n0
  obtain ⟨S_CS, H_CS, S__assertionsDisabled, S_HI_BYTE_SHIFT, S_LO_BYTE_SHIFT, S_FMT, R_FMT⟩ := (id SB)
  have w99 := hw _ (List.mem_of_getElem? (i := 99) rfl)
  have w100 := hw _ (List.mem_of_getElem? (i := 100) rfl)
  have w101 := hw _ (List.mem_of_getElem? (i := 101) rfl)
  obtain ⟨T1, X1, e1, st1⟩ := getS2 X0 hx hZ hown (host := "") (Or.inl w99) Via.refl e0 (Sta.ext O0.2 S__assertionsDisabled) (g := (mkF m 0 #[.val (.ref ba_), .val (.int (1 : Int32)), .val (.int c_)] [])) rfl (hb hby d7_0)
  refine ogo (S' := T1.setTop (mkF m 3 #[.val (.ref ba_), .val (.int (1 : Int32)), .val (.int c_)] [(.int (1 : Int32))])) st1 ?_
  refine o_ifYes X1 hx 28 (hb hby d7_3) (feq (by decide : ¬ ((1 : Int32) = (0 : Int32)))).2 (by decide) (by decide) ?_
  refine o_iloadN X1 hx (hb hby d7_28) rfl ?_
  refine o_iconst X1 hx (1 : Int32) (hb hby d7_29) rfl ?_
  refine o_ishl X1 hx (hb hby d7_30) ?_
  refine o_istoreN X1 hx (l' := #[.val (.ref ba_), .val (.int (2 : Int32)), .val (.int c_)]) (hb hby d7_31) rfl ?_
  refine o_aloadN X1 hx (hb hby d7_32) rfl rfl ?_
  refine o_iloadN X1 hx (hb hby d7_33) rfl ?_
  refine o_iinc X1 hx (l' := #[.val (.ref ba_), .val (.int (3 : Int32)), .val (.int c_)]) (hb hby d7_34) rfl rfl ?_
  refine o_iloadN X1 hx (hb hby d7_37) rfl ?_
  obtain ⟨T2, X2, e2, st2⟩ := getS2 X1 hx hZ hown (host := "") (Or.inl w100) Via.refl e1 (Sta.ext O0.2 S_HI_BYTE_SHIFT) (g := (mkF m 38 #[.val (.ref ba_), .val (.int (3 : Int32)), .val (.int c_)] [(.int c_), (.int (2 : Int32)), (.ref ba_)])) rfl (hb hby d7_38)
  refine ogo (S' := T2.setTop (mkF m 41 #[.val (.ref ba_), .val (.int (3 : Int32)), .val (.int c_)] [(.int (0 : Int32)), (.int c_), (.int (2 : Int32)), (.ref ba_)])) st2 ?_
  refine o_ishr X2 hx (hb hby d7_41) ?_
  refine o_i2b X2 hx (hb hby d7_42) ?_
  obtain ⟨cl3, Ar3, q3, S3, N3z, H3, G3⟩ := (id pr0)
  obtain ⟨T3, _, X3, rfl, W3, st3⟩ := stB X2 hx hZ e2 Ar3 (j := (2 : Int32)) (inb_of S3 ⟨by decide, by decide⟩) (g := (mkF m 43 #[.val (.ref ba_), .val (.int (3 : Int32)), .val (.int c_)] [(.int (c_ >>> ((0 : Int32) &&& 31)).toInt8.toInt32), (.int (2 : Int32)), (.ref ba_)])) rfl rfl (hb hby d7_43)
  rw [own_narb] at W3
  have V3 : Arv Z T3.heap ba_ kb_ .byte (4 : Int32) [(.int e0_), (.int e1_), (.int (c_ >>> ((0 : Int32) &&& 31)).toInt8.toInt32), (.int e3_)] (.int 0) := Arv.set Ar3 q3 S3 N3z H3 G3 (fits_nar_byte _) W3 2 rfl (Nat.le_of_ble_eq_true rfl)
  have N3 := Fr.snoc X3 N0 pr1
  refine ogo (S' := T3.setTop (mkF m 44 #[.val (.ref ba_), .val (.int (3 : Int32)), .val (.int c_)] [])) st3 ?_
  refine o_aloadN X3 hx (hb hby d7_44) rfl rfl ?_
  refine o_iloadN X3 hx (hb hby d7_45) rfl ?_
  refine o_iloadN X3 hx (hb hby d7_46) rfl ?_
  obtain ⟨T4, X4, e4, st4⟩ := getS2 X3 hx hZ hown (host := "") (Or.inl w101) Via.refl rfl (Sta.ext (O0.wr W3 pr1).2 S_LO_BYTE_SHIFT) (g := (mkF m 47 #[.val (.ref ba_), .val (.int (3 : Int32)), .val (.int c_)] [(.int c_), (.int (3 : Int32)), (.ref ba_)])) rfl (hb hby d7_47)
  refine ogo (S' := T4.setTop (mkF m 50 #[.val (.ref ba_), .val (.int (3 : Int32)), .val (.int c_)] [(.int (8 : Int32)), (.int c_), (.int (3 : Int32)), (.ref ba_)])) st4 ?_
  refine o_ishr X4 hx (hb hby d7_50) ?_
  refine o_i2b X4 hx (hb hby d7_51) ?_
  obtain ⟨cl5, Ar5, q5, S5, N5z, H5, G5⟩ := (id V3)
  obtain ⟨T5, _, X5, rfl, W5, st5⟩ := stB X4 hx hZ e4 Ar5 (j := (3 : Int32)) (inb_of S5 ⟨by decide, by decide⟩) (g := (mkF m 52 #[.val (.ref ba_), .val (.int (3 : Int32)), .val (.int c_)] [(.int (c_ >>> ((8 : Int32) &&& 31)).toInt8.toInt32), (.int (3 : Int32)), (.ref ba_)])) rfl rfl (hb hby d7_52)
  rw [own_narb] at W5
  have V5 : Arv Z T5.heap ba_ kb_ .byte (4 : Int32) [(.int e0_), (.int e1_), (.int (c_ >>> ((0 : Int32) &&& 31)).toInt8.toInt32), (.int (c_ >>> ((8 : Int32) &&& 31)).toInt8.toInt32)] (.int 0) := Arv.set Ar5 q5 S5 N5z H5 G5 (fits_nar_byte _) W5 3 rfl (Nat.le_of_ble_eq_true rfl)
  have N5 := Fr.snoc X5 N3 pr1
  refine ogo (S' := T5.setTop (mkF m 53 #[.val (.ref ba_), .val (.int (3 : Int32)), .val (.int c_)] [])) st5 ?_
  refine oend X5 hlk (v := none) (fun _ => rfl) (fun fs hr => X5.returnOut hx hret (hb hby d7_53) hr) (by decide) (by decide) ?_
  show own_Q_putch_2_1 Z _ _ _ _ _ _ _ _ _ h0 n0 _ T5.heap _
  exact ⟨rfl, N5, (((Keep.refl h0 [ba_]).wr W3 (Or.inl (List.mem_of_getElem? (i := 0) rfl))).wr W5 (Or.inl (List.mem_of_getElem? (i := 0) rfl))), V5⟩
def own_Q_tob_2 (Z : State) (z_CS : Int32) (v_FMT : Value) (ca_ : Addr) (kc_ : ClassId) (c0_ : Int32) (c1_ : Int32) (h0 : Heap) (n0 : Nat) (v : Option Value) (h : Heap) (L : List Loc) : Prop := ∃ ba_ : Addr, ∃ kb_ : ClassId, (v = some (.ref ba_)) ∧ (Fr n0 L) ∧ (Keep h0 h []) ∧ (h0.size ≤ ba_) ∧ (Arv Z h ba_ kb_ .byte (4 : Int32) [(.int (c0_ >>> ((0 : Int32) &&& 31)).toInt8.toInt32), (.int (c0_ >>> ((8 : Int32) &&& 31)).toInt8.toInt32), (.int (c1_ >>> ((0 : Int32) &&& 31)).toInt8.toInt32), (.int (c1_ >>> ((8 : Int32) &&& 31)).toInt8.toInt32)] (.int 0))
set_option maxRecDepth 65536 in
set_option maxHeartbeats 40000000 in
theorem rm_tob_2 (l : Launch) (Z : State) (a0 : Array Value) (hw : ∀ d ∈ tables_1, d.before a0 Z = true) (ws : List Jvm.Cond) (z_CS : Int32) (v_FMT : Value) (ca_ : Addr) (kc_ : ClassId) (c0_ : Int32) (c1_ : Int32) (h0 : Heap) (n0 : Nat) (SB : own_Start Z z_CS v_FMT) (O0 : Old Z n0 h0) (pr0 : Arv Z h0 ca_ kc_ .char (2 : Int32) [(.int c0_), (.int c1_)] (.int 0)) :
    oMet l Z yM7 jdk_52_method_14_code 5 (some (.array .byte)) ws ({ frames := 2, cells := 1, slots := 4, locals := 24 } : Room) 1 4 #[(.ref ca_), (.int (0 : Int32)), (.int (2 : Int32))] h0 (own_Q_tob_2 Z z_CS v_FMT ca_ kc_ c0_ c1_ h0 n0) := by
  refine oenter own_pn1 #[.val (.ref ca_), .val (.int (0 : Int32)), .val (.int (2 : Int32)), .unset, .unset] (fun m => by first | (simp [entryFrame, mkF, argsToLocals, Value.category]; done) | rfl) ?_
  intro p e s m below meth c s₁ X0 hx hZ hby hml hret hown0 hnm hlk e0
  have hown : s.vm.findClass "java/lang/StringUTF16" = some m.cls := hown0
  have N0 := Fr.nil n0
  obtain ⟨S_CS, H_CS, S__assertionsDisabled, S_HI_BYTE_SHIFT, S_LO_BYTE_SHIFT, S_FMT, R_FMT⟩ := (id SB)
  have w56 := hw _ (List.mem_of_getElem? (i := 56) rfl)
  have w89 := hw _ (List.mem_of_getElem? (i := 89) rfl)
  have w90 := hw _ (List.mem_of_getElem? (i := 90) rfl)
  have w91 := hw _ (List.mem_of_getElem? (i := 91) rfl)
  have w96 := hw _ (List.mem_of_getElem? (i := 96) rfl)
  have w97 := hw _ (List.mem_of_getElem? (i := 97) rfl)
  have w98 := hw _ (List.mem_of_getElem? (i := 98) rfl)
  refine o_iloadN X0 hx (hb hby d8_0) rfl ?_
  obtain ⟨_, _, ⟨T1, L1, kc1, n1⟩, -, X1, ⟨Lc1, hQ1, l1, y1, z1⟩, st1⟩ := Jvm.LawKit.callS X0 hx (y := yM5) hown (mvT hZ w89) (mvT hZ w90) (mvT hZ w56) (mvT hZ w91) (by decide) (backOf (W := 0) (rm_nbf_2 l Z a0 hw []   h0 n0 O0 ) hZ w91 w56 (by decide) (by decide)) (g := (mkF m 1 #[.val (.ref ca_), .val (.int (0 : Int32)), .val (.int (2 : Int32)), .unset, .unset] [(.int (2 : Int32))])) rfl (by rw [hml]; rfl) (argsL := [(.int (2 : Int32))]) (rest := []) (lenOf own_pd2 rfl) rfl (by show 2 * 0 + _ ≤ _; exact Nat.le_of_eq rfl) (hb hby d8_1) (fun _ _ => ⟨rfl, e0, (by decide : 0 + 1 ≤ _), (by decide : 0 + 4 ≤ _)⟩)
  dsimp only [Pt.U, Pt.locs, Pt.cells, Pt.slots] at X1 l1 y1 z1 st1 hQ1
  subst l1 y1 z1
  obtain ⟨ba_1, kb_1, rfl, Nq1, K1, p1_0, p1_1⟩ := hQ1
  have N1 := Fr.app N0 Nq1
  have n0_ba_1 : n0 ≤ ba_1 := Nat.le_trans (Nat.le_trans (Nat.le_of_eq O0.1.symm) O0.2.1) (Nat.le_trans (Nat.le_refl _) p1_0)
  refine ogo (S' := T1.setTop (mkF m 4 #[.val (.ref ca_), .val (.int (0 : Int32)), .val (.int (2 : Int32)), .unset, .unset] [(.ref ba_1)])) st1 ?_
  refine o_astoreN X1 hx (l' := #[.val (.ref ca_), .val (.int (0 : Int32)), .val (.int (2 : Int32)), .val (.ref ba_1), .unset]) (hb hby d8_4) rfl rfl ?_
  refine o_iconst X1 hx (0 : Int32) (hb hby d8_5) rfl ?_
  refine o_istore X1 hx (l' := #[.val (.ref ca_), .val (.int (0 : Int32)), .val (.int (2 : Int32)), .val (.ref ba_1), .val (.int (0 : Int32))]) (hb hby d8_6) rfl ?_
  refine o_iload X1 hx (hb hby d8_8) rfl ?_
  refine o_iloadN X1 hx (hb hby d8_10) rfl ?_
  refine o_icmpNo X1 hx (hb hby d8_11) (tlt (by decide : (0 : Int32) < (2 : Int32))).2.1 ?_
  refine o_aloadN X1 hx (hb hby d8_14) rfl rfl ?_
  refine o_iload X1 hx (hb hby d8_15) rfl ?_
  refine o_aloadN X1 hx (hb hby d8_17) rfl rfl ?_
  refine o_iloadN X1 hx (hb hby d8_18) rfl ?_
  obtain ⟨cl2, Ar2, q2, S2, N2z, H2, G2⟩ := (id (pr0.keep K1 nin0))
  have hi2 := inb_of (j := (0 : Int32)) S2 ⟨by decide, by decide⟩
  have ha2 := Has.at (v := (.int c0_)) H2 hi2 rfl
  refine ogo (S' := T1.setTop (mkF m 20 #[.val (.ref ca_), .val (.int (0 : Int32)), .val (.int (2 : Int32)), .val (.ref ba_1), .val (.int (0 : Int32))] [(.int c0_), (.int (0 : Int32)), (.ref ba_1)])) (X1.caload hx (j := (0 : Int32)) (v := (.int c0_)) Ar2.1 (State.isArrayOf_alike hZ.alike Ar2.2.1) Ar2.2.2 hi2 ha2 (g := (mkF m 19 #[.val (.ref ca_), .val (.int (0 : Int32)), .val (.int (2 : Int32)), .val (.ref ba_1), .val (.int (0 : Int32))] [(.int (0 : Int32)), (.ref ca_), (.int (0 : Int32)), (.ref ba_1)])) rfl rfl (hb hby d8_19)) ?_
  obtain ⟨_, _, ⟨T3, L3, kc3, n3⟩, -, X3, ⟨Lc3, hQ3, l3, y3, z3⟩, st3⟩ := Jvm.LawKit.callS X1 hx (y := yM6) hown (mvT hZ w96) (mvT hZ w97) (mvT hZ w56) (mvT hZ w98) (by decide) (backOf (W := 0) (rm_putch_2_0 l Z a0 hw [] z_CS v_FMT ba_1 kb_1 c0_ 0 0 0 0 T1.heap n0 SB (O0.keep K1 all0) p1_1 n0_ba_1) hZ w98 w56 (by decide) (by decide)) (g := (mkF m 20 #[.val (.ref ca_), .val (.int (0 : Int32)), .val (.int (2 : Int32)), .val (.ref ba_1), .val (.int (0 : Int32))] [(.int c0_), (.int (0 : Int32)), (.ref ba_1)])) rfl (by rw [hml]; rfl) (argsL := [(.ref ba_1), (.int (0 : Int32)), (.int c0_)]) (rest := []) (lenOf own_pd3 rfl) rfl (by show 2 * 0 + _ ≤ _; exact Nat.le_of_eq rfl) (hb hby d8_20) (fun _ _ => ⟨rfl, rfl, (by decide : 1 + 0 ≤ _), (by decide : 4 + 0 ≤ _)⟩)
  dsimp only [Pt.U, Pt.locs, Pt.cells, Pt.slots] at X3 l3 y3 z3 st3 hQ3
  subst l3 y3 z3
  obtain ⟨rfl, Nq3, K3, p3_0⟩ := hQ3
  have N3 := Fr.app N1 Nq3
  refine ogo (S' := T3.setTop (mkF m 23 #[.val (.ref ca_), .val (.int (0 : Int32)), .val (.int (2 : Int32)), .val (.ref ba_1), .val (.int (0 : Int32))] [])) st3 ?_
  refine o_iinc X3 hx (l' := #[.val (.ref ca_), .val (.int (1 : Int32)), .val (.int (2 : Int32)), .val (.ref ba_1), .val (.int (0 : Int32))]) (hb hby d8_23) rfl rfl ?_
  refine o_iinc X3 hx (l' := #[.val (.ref ca_), .val (.int (1 : Int32)), .val (.int (2 : Int32)), .val (.ref ba_1), .val (.int (1 : Int32))]) (hb hby d8_26) rfl rfl ?_
  refine o_goto X3 hx 8 (hb hby d8_29) (by decide) (by decide) ?_
  refine o_iload X3 hx (hb hby d8_8) rfl ?_
  refine o_iloadN X3 hx (hb hby d8_10) rfl ?_
  refine o_icmpNo X3 hx (hb hby d8_11) (tlt (by decide : (1 : Int32) < (2 : Int32))).2.1 ?_
  refine o_aloadN X3 hx (hb hby d8_14) rfl rfl ?_
  refine o_iload X3 hx (hb hby d8_15) rfl ?_
  refine o_aloadN X3 hx (hb hby d8_17) rfl rfl ?_
  refine o_iloadN X3 hx (hb hby d8_18) rfl ?_
  have c4 := ((pr0.keep K1 nin0).keep K3 (ninS (Nat.ne_of_lt (Nat.lt_of_lt_of_le (Nat.lt_of_lt_of_le pr0.lt (Nat.le_refl _)) p1_0)) nin0))
  obtain ⟨cl5, Ar5, q5, S5, N5z, H5, G5⟩ := (id c4)
  have hi5 := inb_of (j := (1 : Int32)) S5 ⟨by decide, by decide⟩
  have ha5 := Has.at (v := (.int c1_)) H5 hi5 rfl
  refine ogo (S' := T3.setTop (mkF m 20 #[.val (.ref ca_), .val (.int (1 : Int32)), .val (.int (2 : Int32)), .val (.ref ba_1), .val (.int (1 : Int32))] [(.int c1_), (.int (1 : Int32)), (.ref ba_1)])) (X3.caload hx (j := (1 : Int32)) (v := (.int c1_)) Ar5.1 (State.isArrayOf_alike hZ.alike Ar5.2.1) Ar5.2.2 hi5 ha5 (g := (mkF m 19 #[.val (.ref ca_), .val (.int (1 : Int32)), .val (.int (2 : Int32)), .val (.ref ba_1), .val (.int (1 : Int32))] [(.int (1 : Int32)), (.ref ca_), (.int (1 : Int32)), (.ref ba_1)])) rfl rfl (hb hby d8_19)) ?_
  obtain ⟨_, _, ⟨T6, L6, kc6, n6⟩, -, X6, ⟨Lc6, hQ6, l6, y6, z6⟩, st6⟩ := Jvm.LawKit.callS X3 hx (y := yM6) hown (mvT hZ w96) (mvT hZ w97) (mvT hZ w56) (mvT hZ w98) (by decide) (backOf (W := 0) (rm_putch_2_1 l Z a0 hw [] z_CS v_FMT ba_1 kb_1 c1_ ((c0_ >>> ((0 : Int32) &&& 31)).toInt8.toInt32) ((c0_ >>> ((8 : Int32) &&& 31)).toInt8.toInt32) 0 0 T3.heap n0 SB ((O0.keep K1 all0).keep K3 (allS n0_ba_1 all0)) p3_0 n0_ba_1) hZ w98 w56 (by decide) (by decide)) (g := (mkF m 20 #[.val (.ref ca_), .val (.int (1 : Int32)), .val (.int (2 : Int32)), .val (.ref ba_1), .val (.int (1 : Int32))] [(.int c1_), (.int (1 : Int32)), (.ref ba_1)])) rfl (by rw [hml]; rfl) (argsL := [(.ref ba_1), (.int (1 : Int32)), (.int c1_)]) (rest := []) (lenOf own_pd3 rfl) rfl (by show 2 * 0 + _ ≤ _; exact Nat.le_of_eq rfl) (hb hby d8_20) (fun _ _ => ⟨rfl, rfl, (by decide : 1 + 0 ≤ _), (by decide : 4 + 0 ≤ _)⟩)
  dsimp only [Pt.U, Pt.locs, Pt.cells, Pt.slots] at X6 l6 y6 z6 st6 hQ6
  subst l6 y6 z6
  obtain ⟨rfl, Nq6, K6, p6_0⟩ := hQ6
  have N6 := Fr.app N3 Nq6
  refine ogo (S' := T6.setTop (mkF m 23 #[.val (.ref ca_), .val (.int (1 : Int32)), .val (.int (2 : Int32)), .val (.ref ba_1), .val (.int (1 : Int32))] [])) st6 ?_
  refine o_iinc X6 hx (l' := #[.val (.ref ca_), .val (.int (2 : Int32)), .val (.int (2 : Int32)), .val (.ref ba_1), .val (.int (1 : Int32))]) (hb hby d8_23) rfl rfl ?_
  refine o_iinc X6 hx (l' := #[.val (.ref ca_), .val (.int (2 : Int32)), .val (.int (2 : Int32)), .val (.ref ba_1), .val (.int (2 : Int32))]) (hb hby d8_26) rfl rfl ?_
  refine o_goto X6 hx 8 (hb hby d8_29) (by decide) (by decide) ?_
  refine o_iload X6 hx (hb hby d8_8) rfl ?_
  refine o_iloadN X6 hx (hb hby d8_10) rfl ?_
  refine o_icmpYes X6 hx 32 (hb hby d8_11) (flt (by decide : ¬ ((2 : Int32) < (2 : Int32)))).2.1 (by decide) (by decide) ?_
  refine o_aloadN X6 hx (hb hby d8_32) rfl rfl ?_
  refine oend X6 hlk (v := some (.ref ba_1)) (fun h => by rw [hret] at h; cases h) (fun fs hr => retOut X6 hx (t := (.array .byte)) (i := .areturn) hret rfl (Or.inr (Or.inr (Or.inr (Or.inr ⟨rfl, rfl, rfl⟩)))) (hb hby d8_33) hr) (by decide) (by decide) ?_
  show own_Q_tob_2 Z _ _ _ _ _ _ h0 n0 _ T6.heap _
  exact ⟨ba_1, kb_1, rfl, N6, ((((Keep.refl h0 []).trans K1 all0).trans K3 (allS (Or.inr (Nat.le_trans (Nat.le_refl _) p1_0)) all0)).trans K6 (allS (Or.inr (Nat.le_trans (Nat.le_refl _) p1_0)) all0)), (Nat.le_trans (Nat.le_refl _) p1_0), p6_0⟩
def own_Q_getch_2_0 (Z : State) (z_CS : Int32) (v_FMT : Value) (ba_ : Addr) (kb_ : ClassId) (c0_ : Int32) (c1_ : Int32) (h0 : Heap) (n0 : Nat) (v : Option Value) (h : Heap) (L : List Loc) : Prop := (v = some (.int c0_)) ∧ (Fr n0 L) ∧ (h = h0)
set_option maxRecDepth 65536 in
set_option maxHeartbeats 40000000 in
theorem rm_getch_2_0 (l : Launch) (Z : State) (a0 : Array Value) (hw : ∀ d ∈ tables_1, d.before a0 Z = true) (ws : List Jvm.Cond) (z_CS : Int32) (v_FMT : Value) (ba_ : Addr) (kb_ : ClassId) (c0_ : Int32) (c1_ : Int32) (h0 : Heap) (n0 : Nat) (SB : own_Start Z z_CS v_FMT) (O0 : Old Z n0 h0) (pr0 : Arv Z h0 ba_ kb_ .byte (4 : Int32) [(.int (c0_ >>> ((0 : Int32) &&& 31)).toInt8.toInt32), (.int (c0_ >>> ((8 : Int32) &&& 31)).toInt8.toInt32), (.int (c1_ >>> ((0 : Int32) &&& 31)).toInt8.toInt32), (.int (c1_ >>> ((8 : Int32) &&& 31)).toInt8.toInt32)] (.int 0)) (pr1 : own_c16 c0_) :
    oMet l Z yM8 jdk_52_method_5_code 2 (some .char) ws ({ frames := 0, cells := 0, slots := 0, locals := 0 } : Room) 0 0 #[(.ref ba_), (.int (0 : Int32))] h0 (own_Q_getch_2_0 Z z_CS v_FMT ba_ kb_ c0_ c1_ h0 n0) := by
  refine oenter own_pn1 #[.val (.ref ba_), .val (.int (0 : Int32))] (fun m => by first | (simp [entryFrame, mkF, argsToLocals, Value.category]; done) | rfl) ?_
  intro p e s m below meth c s₁ X0 hx hZ hby hml hret hown0 hnm hlk e0
  have hown : s.vm.findClass "java/lang/StringUTF16" = some m.cls := hown0
  have N0 := Fr.nil n0
  obtain ⟨S_CS, H_CS, S__assertionsDisabled, S_HI_BYTE_SHIFT, S_LO_BYTE_SHIFT, S_FMT, R_FMT⟩ := (id SB)
  have w99 := hw _ (List.mem_of_getElem? (i := 99) rfl)
  have w100 := hw _ (List.mem_of_getElem? (i := 100) rfl)
  have w101 := hw _ (List.mem_of_getElem? (i := 101) rfl)
  obtain ⟨T1, X1, e1, st1⟩ := getS2 X0 hx hZ hown (host := "") (Or.inl w99) Via.refl e0 (Sta.ext O0.2 S__assertionsDisabled) (g := (mkF m 0 #[.val (.ref ba_), .val (.int (0 : Int32))] [])) rfl (hb hby d9_0)
  refine ogo (S' := T1.setTop (mkF m 3 #[.val (.ref ba_), .val (.int (0 : Int32))] [(.int (1 : Int32))])) st1 ?_
  refine o_ifYes X1 hx 28 (hb hby d9_3) (feq (by decide : ¬ ((1 : Int32) = (0 : Int32)))).2 (by decide) (by decide) ?_
  refine o_iloadN X1 hx (hb hby d9_28) rfl ?_
  refine o_iconst X1 hx (1 : Int32) (hb hby d9_29) rfl ?_
  refine o_ishl X1 hx (hb hby d9_30) ?_
  refine o_istoreN X1 hx (l' := #[.val (.ref ba_), .val (.int (0 : Int32))]) (hb hby d9_31) rfl ?_
  refine o_aloadN X1 hx (hb hby d9_32) rfl rfl ?_
  refine o_iloadN X1 hx (hb hby d9_33) rfl ?_
  refine o_iinc X1 hx (l' := #[.val (.ref ba_), .val (.int (1 : Int32))]) (hb hby d9_34) rfl rfl ?_
  obtain ⟨cl2, Ar2, q2, S2, N2z, H2, G2⟩ := (id pr0)
  have hi2 := inb_of (j := (0 : Int32)) S2 ⟨by decide, by decide⟩
  have ha2 := Has.at (v := (.int (c0_ >>> ((0 : Int32) &&& 31)).toInt8.toInt32)) H2 hi2 rfl
  refine ogo (S' := T1.setTop (mkF m 38 #[.val (.ref ba_), .val (.int (1 : Int32))] [(.int (c0_ >>> ((0 : Int32) &&& 31)).toInt8.toInt32)])) (X1.baloadBytes hx (j := (0 : Int32)) (v := (.int (c0_ >>> ((0 : Int32) &&& 31)).toInt8.toInt32)) (by rw [e1]; exact Ar2.1) (State.isArrayOf_alike hZ.alike Ar2.2.1) Ar2.2.2 hi2 ha2 (g := (mkF m 37 #[.val (.ref ba_), .val (.int (1 : Int32))] [(.int (0 : Int32)), (.ref ba_)])) rfl rfl (hb hby d9_37)) ?_
  refine o_sipush X1 hx (255 : Int32) (hb hby d9_38) rfl ?_
  refine o_iand X1 hx (hb hby d9_41) ?_
  obtain ⟨T3, X3, e3, st3⟩ := getS2 X1 hx hZ hown (host := "") (Or.inl w100) Via.refl e1 (Sta.ext O0.2 S_HI_BYTE_SHIFT) (g := (mkF m 42 #[.val (.ref ba_), .val (.int (1 : Int32))] [(.int ((c0_ >>> ((0 : Int32) &&& 31)).toInt8.toInt32 &&& (255 : Int32)))])) rfl (hb hby d9_42)
  refine ogo (S' := T3.setTop (mkF m 45 #[.val (.ref ba_), .val (.int (1 : Int32))] [(.int (0 : Int32)), (.int ((c0_ >>> ((0 : Int32) &&& 31)).toInt8.toInt32 &&& (255 : Int32)))])) st3 ?_
  refine o_ishl X3 hx (hb hby d9_45) ?_
  refine o_aloadN X3 hx (hb hby d9_46) rfl rfl ?_
  refine o_iloadN X3 hx (hb hby d9_47) rfl ?_
  obtain ⟨cl4, Ar4, q4, S4, N4z, H4, G4⟩ := (id pr0)
  have hi4 := inb_of (j := (1 : Int32)) S4 ⟨by decide, by decide⟩
  have ha4 := Has.at (v := (.int (c0_ >>> ((8 : Int32) &&& 31)).toInt8.toInt32)) H4 hi4 rfl
  refine ogo (S' := T3.setTop (mkF m 49 #[.val (.ref ba_), .val (.int (1 : Int32))] [(.int (c0_ >>> ((8 : Int32) &&& 31)).toInt8.toInt32), (.int (((c0_ >>> ((0 : Int32) &&& 31)).toInt8.toInt32 &&& (255 : Int32)) <<< ((0 : Int32) &&& 31)))])) (X3.baloadBytes hx (j := (1 : Int32)) (v := (.int (c0_ >>> ((8 : Int32) &&& 31)).toInt8.toInt32)) (by rw [e3]; exact Ar4.1) (State.isArrayOf_alike hZ.alike Ar4.2.1) Ar4.2.2 hi4 ha4 (g := (mkF m 48 #[.val (.ref ba_), .val (.int (1 : Int32))] [(.int (1 : Int32)), (.ref ba_), (.int (((c0_ >>> ((0 : Int32) &&& 31)).toInt8.toInt32 &&& (255 : Int32)) <<< ((0 : Int32) &&& 31)))])) rfl rfl (hb hby d9_48)) ?_
  refine o_sipush X3 hx (255 : Int32) (hb hby d9_49) rfl ?_
  refine o_iand X3 hx (hb hby d9_52) ?_
  obtain ⟨T5, X5, e5, st5⟩ := getS2 X3 hx hZ hown (host := "") (Or.inl w101) Via.refl e3 (Sta.ext O0.2 S_LO_BYTE_SHIFT) (g := (mkF m 53 #[.val (.ref ba_), .val (.int (1 : Int32))] [(.int ((c0_ >>> ((8 : Int32) &&& 31)).toInt8.toInt32 &&& (255 : Int32))), (.int (((c0_ >>> ((0 : Int32) &&& 31)).toInt8.toInt32 &&& (255 : Int32)) <<< ((0 : Int32) &&& 31)))])) rfl (hb hby d9_53)
  refine ogo (S' := T5.setTop (mkF m 56 #[.val (.ref ba_), .val (.int (1 : Int32))] [(.int (8 : Int32)), (.int ((c0_ >>> ((8 : Int32) &&& 31)).toInt8.toInt32 &&& (255 : Int32))), (.int (((c0_ >>> ((0 : Int32) &&& 31)).toInt8.toInt32 &&& (255 : Int32)) <<< ((0 : Int32) &&& 31)))])) st5 ?_
  refine o_ishl X5 hx (hb hby d9_56) ?_
  refine o_ior X5 hx (hb hby d9_57) ?_
  refine o_i2c X5 hx (hb hby d9_58) ?_
  rw [own_u16 pr1]
  refine oend X5 hlk (v := some (.int c0_)) (fun h => by rw [hret] at h; cases h) (fun fs hr => retN X5 hx (t := .char) hret (by simp) (hb hby d9_59) (by rw [(own_nar16 pr1)]; exact hr)) (by decide) (by decide) ?_
  show own_Q_getch_2_0 Z _ _ _ _ _ _ h0 n0 _ T5.heap _
  rw [e5]
  exact ⟨rfl, N0, rfl⟩
def own_Q_cmp3_2_0 (Z : State) (z_CS : Int32) (v_FMT : Value) (ca_ : Addr) (kc_ : ClassId) (c0_ : Int32) (c1_ : Int32) (h0 : Heap) (n0 : Nat) (v : Option Value) (h : Heap) (L : List Loc) : Prop := ∃ ba_ : Addr, ∃ kb_ : ClassId, (v = some (.ref ba_)) ∧ (Fr n0 L) ∧ (Keep h0 h []) ∧ (h0.size ≤ ba_) ∧ (Arv Z h ba_ kb_ .byte (4 : Int32) [(.int (c0_ >>> ((0 : Int32) &&& 31)).toInt8.toInt32), (.int (c0_ >>> ((8 : Int32) &&& 31)).toInt8.toInt32), (.int (c1_ >>> ((0 : Int32) &&& 31)).toInt8.toInt32), (.int (c1_ >>> ((8 : Int32) &&& 31)).toInt8.toInt32)] (.int 0))
set_option maxRecDepth 65536 in
set_option maxHeartbeats 40000000 in
theorem rm_cmp3_2_0 (l : Launch) (Z : State) (a0 : Array Value) (hw : ∀ d ∈ tables_1, d.before a0 Z = true) (ws : List Jvm.Cond) (z_CS : Int32) (v_FMT : Value) (ca_ : Addr) (kc_ : ClassId) (c0_ : Int32) (c1_ : Int32) (h0 : Heap) (n0 : Nat) (SB : own_Start Z z_CS v_FMT) (O0 : Old Z n0 h0) (pr0 : Arv Z h0 ca_ kc_ .char (2 : Int32) [(.int c0_), (.int c1_)] (.int 0)) (pr1 : own_c16 c0_) (pr2 : (255 : Int32) < c0_) :
    oMet l Z yM2 jdk_52_method_16_code 6 (some (.array .byte)) ws ({ frames := 3, cells := 2, slots := 6, locals := 40 } : Room) 2 6 #[(.ref ca_), (.int (0 : Int32)), (.int (2 : Int32))] h0 (own_Q_cmp3_2_0 Z z_CS v_FMT ca_ kc_ c0_ c1_ h0 n0) := by
  refine oenter own_pn1 #[.val (.ref ca_), .val (.int (0 : Int32)), .val (.int (2 : Int32)), .unset, .unset, .unset] (fun m => by first | (simp [entryFrame, mkF, argsToLocals, Value.category]; done) | rfl) ?_
  intro p e s m below meth c s₁ X0 hx hZ hby hml hret hown0 hnm hlk e0
  have hown : s.vm.findClass "java/lang/StringUTF16" = some m.cls := hown0
  have N0 := Fr.nil n0
  obtain ⟨S_CS, H_CS, S__assertionsDisabled, S_HI_BYTE_SHIFT, S_LO_BYTE_SHIFT, S_FMT, R_FMT⟩ := (id SB)
  have w16 := hw _ (List.mem_of_getElem? (i := 16) rfl)
  have w56 := hw _ (List.mem_of_getElem? (i := 56) rfl)
  have w58 := hw _ (List.mem_of_getElem? (i := 58) rfl)
  have w59 := hw _ (List.mem_of_getElem? (i := 59) rfl)
  have w60 := hw _ (List.mem_of_getElem? (i := 60) rfl)
  have w86 := hw _ (List.mem_of_getElem? (i := 86) rfl)
  have w87 := hw _ (List.mem_of_getElem? (i := 87) rfl)
  have w88 := hw _ (List.mem_of_getElem? (i := 88) rfl)
  have w102 := hw _ (List.mem_of_getElem? (i := 102) rfl)
  have w103 := hw _ (List.mem_of_getElem? (i := 103) rfl)
  have w104 := hw _ (List.mem_of_getElem? (i := 104) rfl)
  refine o_iloadN X0 hx (hb hby d3_0) rfl ?_
  obtain ⟨T1, _, k1, X1, rfl, E1, A1, Ex1, st1⟩ := newPE (aty := .byte) X0 hx hZ w16 e0 (g := (mkF m 1 #[.val (.ref ca_), .val (.int (0 : Int32)), .val (.int (2 : Int32)), .unset, .unset, .unset] [(.int (2 : Int32))])) rfl (hb hby d3_1) rfl (by decide) (cap := 2) (by decide) (by decide) (by decide) (by decide) (ad := "[B") rfl
  obtain ⟨b1, g1⟩ : ∃ z, z = h0.size := ⟨_, rfl⟩
  rw [← g1] at A1 Ex1 st1
  have n0_b1 : n0 ≤ b1 := Nat.le_trans (Nat.le_trans (Nat.le_of_eq O0.1.symm) O0.2.1) (Nat.le_trans (Nat.le_refl _) (Nat.le_of_eq g1.symm))
  have V1 : Arv Z T1.heap b1 k1 .byte (2 : Int32) [(.int 0), (.int 0)] (.int 0) := (Arv.new A1 (by decide)).pad (pad_rep [] (.int 0) 2)
  refine ogo (S' := T1.setTop (mkF m 3 #[.val (.ref ca_), .val (.int (0 : Int32)), .val (.int (2 : Int32)), .unset, .unset, .unset] [(.ref b1)])) st1 ?_
  refine o_astoreN X1 hx (l' := #[.val (.ref ca_), .val (.int (0 : Int32)), .val (.int (2 : Int32)), .val (.ref b1), .unset, .unset]) (hb hby d3_3) rfl rfl ?_
  refine o_aloadN X1 hx (hb hby d3_4) rfl rfl ?_
  refine o_iloadN X1 hx (hb hby d3_5) rfl ?_
  refine o_aloadN X1 hx (hb hby d3_6) rfl rfl ?_
  refine o_iconst X1 hx (0 : Int32) (hb hby d3_7) rfl ?_
  refine o_iloadN X1 hx (hb hby d3_8) rfl ?_
  obtain ⟨_, _, ⟨T2, L2, kc2, n2⟩, -, X2, ⟨Lc2, hQ2, l2, y2, z2⟩, st2⟩ := Jvm.LawKit.callS X1 hx (y := yM1) hown (mvT hZ w58) (mvT hZ w59) (mvT hZ w56) (mvT hZ w60) (by decide) (backOf (W := 0) (rm_cmp5_2_0 l Z a0 hw []  ca_ kc_ b1 k1 c0_ c1_ T1.heap n0 (O0.ext E1) (pr0.ext E1) V1 (Nat.ne_of_lt (Nat.lt_of_lt_of_le (Nat.lt_of_lt_of_le pr0.lt (Nat.le_refl _)) (Nat.le_of_eq g1.symm))) n0_b1 pr2) hZ w60 w56 (by decide) (by decide)) (g := (mkF m 9 #[.val (.ref ca_), .val (.int (0 : Int32)), .val (.int (2 : Int32)), .val (.ref b1), .unset, .unset] [(.int (2 : Int32)), (.int (0 : Int32)), (.ref b1), (.int (0 : Int32)), (.ref ca_)])) rfl (by rw [hml]; rfl) (argsL := [(.ref ca_), (.int (0 : Int32)), (.ref b1), (.int (0 : Int32)), (.int (2 : Int32))]) (rest := []) (lenOf own_pd0 rfl) rfl (by show 2 * 0 + _ ≤ _; exact Nat.le_of_eq rfl) (hb hby d3_9) (fun _ _ => ⟨rfl, rfl, (by decide : 1 + 0 ≤ _), (by decide : 2 + 0 ≤ _)⟩)
  dsimp only [Pt.U, Pt.locs, Pt.cells, Pt.slots] at X2 l2 y2 z2 st2 hQ2
  subst l2 y2 z2
  obtain ⟨rfl, Nq2, K2⟩ := hQ2
  have N2 := Fr.app N0 Nq2
  refine ogo (S' := T2.setTop (mkF m 12 #[.val (.ref ca_), .val (.int (0 : Int32)), .val (.int (2 : Int32)), .val (.ref b1), .unset, .unset] [(.int (0 : Int32))])) st2 ?_
  refine o_istore X2 hx (l' := #[.val (.ref ca_), .val (.int (0 : Int32)), .val (.int (2 : Int32)), .val (.ref b1), .val (.int (0 : Int32)), .unset]) (hb hby d3_12) rfl ?_
  refine o_iload X2 hx (hb hby d3_14) rfl ?_
  refine o_iloadN X2 hx (hb hby d3_16) rfl ?_
  refine o_icmpNo X2 hx (hb hby d3_17) (feq (by decide : ¬ ((0 : Int32) = (2 : Int32)))).1 ?_
  refine o_aloadN X2 hx (hb hby d3_20) rfl rfl ?_
  refine o_iloadN X2 hx (hb hby d3_21) rfl ?_
  refine o_iloadN X2 hx (hb hby d3_22) rfl ?_
  have c4 := ((pr0.ext E1).keep K2 (ninS (Nat.ne_of_lt (Nat.lt_of_lt_of_le (Nat.lt_of_lt_of_le pr0.lt (Nat.le_refl _)) (Nat.le_of_eq g1.symm))) nin0))
  obtain ⟨_, _, ⟨T3, L3, kc3, n3⟩, -, X3, ⟨Lc3, hQ3, l3, y3, z3⟩, st3⟩ := Jvm.LawKit.callS X2 hx (y := yM7) hown (mvT hZ w86) (mvT hZ w87) (mvT hZ w56) (mvT hZ w88) (by decide) (backOf (W := 0) (rm_tob_2 l Z a0 hw [] z_CS v_FMT ca_ kc_ c0_ c1_ T2.heap n0 SB ((O0.ext E1).keep K2 (allS n0_b1 all0)) c4) hZ w88 w56 (by decide) (by decide)) (g := (mkF m 23 #[.val (.ref ca_), .val (.int (0 : Int32)), .val (.int (2 : Int32)), .val (.ref b1), .val (.int (0 : Int32)), .unset] [(.int (2 : Int32)), (.int (0 : Int32)), (.ref ca_)])) rfl (by rw [hml]; rfl) (argsL := [(.ref ca_), (.int (0 : Int32)), (.int (2 : Int32))]) (rest := []) (lenOf own_pd4 rfl) rfl (by show 2 * 0 + _ ≤ _; exact Nat.le_of_eq rfl) (hb hby d3_23) (fun _ _ => ⟨rfl, rfl, (by decide : 1 + 1 ≤ _), (by decide : 2 + 4 ≤ _)⟩)
  dsimp only [Pt.U, Pt.locs, Pt.cells, Pt.slots] at X3 l3 y3 z3 st3 hQ3
  subst l3 y3 z3
  obtain ⟨ba_3, kb_3, rfl, Nq3, K3, p3_0, p3_1⟩ := hQ3
  have N3 := Fr.app N2 Nq3
  have n0_ba_3 : n0 ≤ ba_3 := Nat.le_trans (Nat.le_trans (Nat.le_of_eq O0.1.symm) O0.2.1) (Nat.le_trans (Nat.le_trans E1.1 K2.1) p3_0)
  refine ogo (S' := T3.setTop (mkF m 26 #[.val (.ref ca_), .val (.int (0 : Int32)), .val (.int (2 : Int32)), .val (.ref b1), .val (.int (0 : Int32)), .unset] [(.ref ba_3)])) st3 ?_
  refine o_astore X3 hx (l' := #[.val (.ref ca_), .val (.int (0 : Int32)), .val (.int (2 : Int32)), .val (.ref b1), .val (.int (0 : Int32)), .val (.ref ba_3)]) (hb hby d3_26) rfl rfl ?_
  refine o_aload X3 hx (hb hby d3_28) rfl rfl ?_
  refine o_iload X3 hx (hb hby d3_30) rfl ?_
  obtain ⟨_, _, ⟨T5, L5, kc5, n5⟩, -, X5, ⟨Lc5, hQ5, l5, y5, z5⟩, st5⟩ := Jvm.LawKit.callS X3 hx (y := yM8) hown (mvT hZ w102) (mvT hZ w103) (mvT hZ w56) (mvT hZ w104) (by decide) (backOf (W := 0) (rm_getch_2_0 l Z a0 hw [] z_CS v_FMT ba_3 kb_3 c0_ c1_ T3.heap n0 SB (((O0.ext E1).keep K2 (allS n0_b1 all0)).keep K3 all0) p3_1 pr1) hZ w104 w56 (by decide) (by decide)) (g := (mkF m 32 #[.val (.ref ca_), .val (.int (0 : Int32)), .val (.int (2 : Int32)), .val (.ref b1), .val (.int (0 : Int32)), .val (.ref ba_3)] [(.int (0 : Int32)), (.ref ba_3)])) rfl (by rw [hml]; rfl) (argsL := [(.ref ba_3), (.int (0 : Int32))]) (rest := []) (lenOf own_pd5 rfl) rfl (by show 2 * 0 + _ ≤ _; exact Nat.le_of_eq rfl) (hb hby d3_32) (fun _ _ => ⟨rfl, rfl, (by decide : 2 + 0 ≤ _), (by decide : 6 + 0 ≤ _)⟩)
  dsimp only [Pt.U, Pt.locs, Pt.cells, Pt.slots] at X5 l5 y5 z5 st5 hQ5
  subst l5 y5 z5
  obtain ⟨rfl, Nq5, e5⟩ := hQ5
  have N5 := Fr.app N3 Nq5
  refine ogo (S' := T5.setTop (mkF m 35 #[.val (.ref ca_), .val (.int (0 : Int32)), .val (.int (2 : Int32)), .val (.ref b1), .val (.int (0 : Int32)), .val (.ref ba_3)] [(.int c0_)])) st5 ?_
  refine o_sipush X5 hx (255 : Int32) (hb hby d3_35) rfl ?_
  refine o_icmpYes X5 hx 54 (hb hby d3_38) (tlt pr2).2.2.1 (by decide) (by decide) ?_
  refine o_aload X5 hx (hb hby d3_54) rfl rfl ?_
  refine oend X5 hlk (v := some (.ref ba_3)) (fun h => by rw [hret] at h; cases h) (fun fs hr => retOut X5 hx (t := (.array .byte)) (i := .areturn) hret rfl (Or.inr (Or.inr (Or.inr (Or.inr ⟨rfl, rfl, rfl⟩)))) (hb hby d3_56) hr) (by decide) (by decide) ?_
  show own_Q_cmp3_2_0 Z _ _ _ _ _ _ h0 n0 _ T5.heap _
  rw [e5]
  exact ⟨ba_3, kb_3, rfl, N5, ((((Keep.refl h0 []).ext E1).trans K2 (allS (Or.inr (Nat.le_trans (Nat.le_refl _) (Nat.le_of_eq g1.symm))) all0)).trans K3 all0), (Nat.le_trans (Nat.le_trans E1.1 K2.1) p3_0), p3_1⟩
def own_Q_cmp5_2_1 (Z : State)  (ca_ : Addr) (kc_ : ClassId) (ba_ : Addr) (kb_ : ClassId) (c0_ : Int32) (c1_ : Int32) (h0 : Heap) (n0 : Nat) (v : Option Value) (h : Heap) (L : List Loc) : Prop := (v = some (.int (1 : Int32))) ∧ (Fr n0 L) ∧ (Keep h0 h [ba_])
set_option maxRecDepth 65536 in
set_option maxHeartbeats 40000000 in
theorem rm_cmp5_2_1 (l : Launch) (Z : State) (a0 : Array Value) (hw : ∀ d ∈ tables_1, d.before a0 Z = true) (ws : List Jvm.Cond)  (ca_ : Addr) (kc_ : ClassId) (ba_ : Addr) (kb_ : ClassId) (c0_ : Int32) (c1_ : Int32) (h0 : Heap) (n0 : Nat) (O0 : Old Z n0 h0) (pr0 : Arv Z h0 ca_ kc_ .char (2 : Int32) [(.int c0_), (.int c1_)] (.int 0)) (pr1 : Arv Z h0 ba_ kb_ .byte (2 : Int32) [(.int 0), (.int 0)] (.int 0)) (pr2 : ca_ ≠ ba_) (pr3 : n0 ≤ ba_) (pr4 : ¬ ((255 : Int32) < c0_)) (pr5 : (255 : Int32) < c1_) :
    oMet l Z yM1 jdk_52_method_21_code 7 (some .int) ws ({ frames := 0, cells := 0, slots := 0, locals := 0 } : Room) 0 0 #[(.ref ca_), (.int (0 : Int32)), (.ref ba_), (.int (0 : Int32)), (.int (2 : Int32))] h0 (own_Q_cmp5_2_1 Z  ca_ kc_ ba_ kb_ c0_ c1_ h0 n0) := by
  refine oenter own_pn1 #[.val (.ref ca_), .val (.int (0 : Int32)), .val (.ref ba_), .val (.int (0 : Int32)), .val (.int (2 : Int32)), .unset, .unset] (fun m => by first | (simp [entryFrame, mkF, argsToLocals, Value.category]; done) | rfl) ?_
  intro p e s m below meth c s₁ X0 hx hZ hby hml hret hown0 hnm hlk e0
  have hown : s.vm.findClass "java/lang/StringUTF16" = some m.cls := hown0
  have N0 := Fr.nil n0
  refine o_iconst X0 hx (0 : Int32) (hb hby d2_0) rfl ?_
  refine o_istore X0 hx (l' := #[.val (.ref ca_), .val (.int (0 : Int32)), .val (.ref ba_), .val (.int (0 : Int32)), .val (.int (2 : Int32)), .val (.int (0 : Int32)), .unset]) (hb hby d2_1) rfl ?_
  refine o_iload X0 hx (hb hby d2_3) rfl ?_
  refine o_iload X0 hx (hb hby d2_5) rfl ?_
  refine o_icmpNo X0 hx (hb hby d2_7) (tlt (by decide : (0 : Int32) < (2 : Int32))).2.1 ?_
  refine o_aloadN X0 hx (hb hby d2_10) rfl rfl ?_
  refine o_iloadN X0 hx (hb hby d2_11) rfl ?_
  obtain ⟨cl1, Ar1, q1, S1, N1z, H1, G1⟩ := (id pr0)
  have hi1 := inb_of (j := (0 : Int32)) S1 ⟨by decide, by decide⟩
  have ha1 := Has.at (v := (.int c0_)) H1 hi1 rfl
  refine ogo (S' := s₁.setTop (mkF m 13 #[.val (.ref ca_), .val (.int (0 : Int32)), .val (.ref ba_), .val (.int (0 : Int32)), .val (.int (2 : Int32)), .val (.int (0 : Int32)), .unset] [(.int c0_)])) (X0.caload hx (j := (0 : Int32)) (v := (.int c0_)) (by rw [e0]; exact Ar1.1) (State.isArrayOf_alike hZ.alike Ar1.2.1) Ar1.2.2 hi1 ha1 (g := (mkF m 12 #[.val (.ref ca_), .val (.int (0 : Int32)), .val (.ref ba_), .val (.int (0 : Int32)), .val (.int (2 : Int32)), .val (.int (0 : Int32)), .unset] [(.int (0 : Int32)), (.ref ca_)])) rfl rfl (hb hby d2_12)) ?_
  refine o_istore X0 hx (l' := #[.val (.ref ca_), .val (.int (0 : Int32)), .val (.ref ba_), .val (.int (0 : Int32)), .val (.int (2 : Int32)), .val (.int (0 : Int32)), .val (.int c0_)]) (hb hby d2_13) rfl ?_
  refine o_iload X0 hx (hb hby d2_15) rfl ?_
  refine o_sipush X0 hx (255 : Int32) (hb hby d2_17) rfl ?_
  refine o_icmpYes X0 hx 26 (hb hby d2_20) (flt pr4).2.2.2 (by decide) (by decide) ?_
  refine o_aloadN X0 hx (hb hby d2_26) rfl rfl ?_
  refine o_iloadN X0 hx (hb hby d2_27) rfl ?_
  refine o_iload X0 hx (hb hby d2_28) rfl ?_
  refine o_i2b X0 hx (hb hby d2_30) ?_
  obtain ⟨cl2, Ar2, q2, S2, N2z, H2, G2⟩ := (id pr1)
  obtain ⟨T2, _, X2, rfl, W2, st2⟩ := stB X0 hx hZ e0 Ar2 (j := (0 : Int32)) (inb_of S2 ⟨by decide, by decide⟩) (g := (mkF m 31 #[.val (.ref ca_), .val (.int (0 : Int32)), .val (.ref ba_), .val (.int (0 : Int32)), .val (.int (2 : Int32)), .val (.int (0 : Int32)), .val (.int c0_)] [(.int c0_.toInt8.toInt32), (.int (0 : Int32)), (.ref ba_)])) rfl rfl (hb hby d2_31)
  rw [own_narb] at W2
  have V2 : Arv Z T2.heap ba_ kb_ .byte (2 : Int32) [(.int c0_.toInt8.toInt32), (.int 0)] (.int 0) := Arv.set Ar2 q2 S2 N2z H2 G2 (fits_nar_byte _) W2 0 rfl (Nat.le_of_ble_eq_true rfl)
  have N2 := Fr.snoc X2 N0 pr3
  refine ogo (S' := T2.setTop (mkF m 32 #[.val (.ref ca_), .val (.int (0 : Int32)), .val (.ref ba_), .val (.int (0 : Int32)), .val (.int (2 : Int32)), .val (.int (0 : Int32)), .val (.int c0_)] [])) st2 ?_
  refine o_iinc X2 hx (l' := #[.val (.ref ca_), .val (.int (1 : Int32)), .val (.ref ba_), .val (.int (0 : Int32)), .val (.int (2 : Int32)), .val (.int (0 : Int32)), .val (.int c0_)]) (hb hby d2_32) rfl rfl ?_
  refine o_iinc X2 hx (l' := #[.val (.ref ca_), .val (.int (1 : Int32)), .val (.ref ba_), .val (.int (1 : Int32)), .val (.int (2 : Int32)), .val (.int (0 : Int32)), .val (.int c0_)]) (hb hby d2_35) rfl rfl ?_
  refine o_iinc X2 hx (l' := #[.val (.ref ca_), .val (.int (1 : Int32)), .val (.ref ba_), .val (.int (1 : Int32)), .val (.int (2 : Int32)), .val (.int (1 : Int32)), .val (.int c0_)]) (hb hby d2_38) rfl rfl ?_
  refine o_goto X2 hx 3 (hb hby d2_41) (by decide) (by decide) ?_
  refine o_iload X2 hx (hb hby d2_3) rfl ?_
  refine o_iload X2 hx (hb hby d2_5) rfl ?_
  refine o_icmpNo X2 hx (hb hby d2_7) (tlt (by decide : (1 : Int32) < (2 : Int32))).2.1 ?_
  refine o_aloadN X2 hx (hb hby d2_10) rfl rfl ?_
  refine o_iloadN X2 hx (hb hby d2_11) rfl ?_
  obtain ⟨cl3, Ar3, q3, S3, N3z, H3, G3⟩ := (id (pr0.other W2 pr2))
  have hi3 := inb_of (j := (1 : Int32)) S3 ⟨by decide, by decide⟩
  have ha3 := Has.at (v := (.int c1_)) H3 hi3 rfl
  refine ogo (S' := T2.setTop (mkF m 13 #[.val (.ref ca_), .val (.int (1 : Int32)), .val (.ref ba_), .val (.int (1 : Int32)), .val (.int (2 : Int32)), .val (.int (1 : Int32)), .val (.int c0_)] [(.int c1_)])) (X2.caload hx (j := (1 : Int32)) (v := (.int c1_)) Ar3.1 (State.isArrayOf_alike hZ.alike Ar3.2.1) Ar3.2.2 hi3 ha3 (g := (mkF m 12 #[.val (.ref ca_), .val (.int (1 : Int32)), .val (.ref ba_), .val (.int (1 : Int32)), .val (.int (2 : Int32)), .val (.int (1 : Int32)), .val (.int c0_)] [(.int (1 : Int32)), (.ref ca_)])) rfl rfl (hb hby d2_12)) ?_
  refine o_istore X2 hx (l' := #[.val (.ref ca_), .val (.int (1 : Int32)), .val (.ref ba_), .val (.int (1 : Int32)), .val (.int (2 : Int32)), .val (.int (1 : Int32)), .val (.int c1_)]) (hb hby d2_13) rfl ?_
  refine o_iload X2 hx (hb hby d2_15) rfl ?_
  refine o_sipush X2 hx (255 : Int32) (hb hby d2_17) rfl ?_
  refine o_icmpNo X2 hx (hb hby d2_20) (tlt pr5).2.2.2 ?_
  refine o_iload X2 hx (hb hby d2_23) rfl ?_
  refine oend X2 hlk (v := some (.int (1 : Int32))) (fun h => by rw [hret] at h; cases h) (fun fs hr => retOut X2 hx (t := .int) (i := .ireturn) hret rfl (Or.inl ⟨rfl, Or.inl rfl, _, rfl⟩) (hb hby d2_25) hr) (by decide) (by decide) ?_
  show own_Q_cmp5_2_1 Z _ _ _ _ _ _ h0 n0 _ T2.heap _
  exact ⟨rfl, N2, ((Keep.refl h0 [ba_]).wr W2 (Or.inl (List.mem_of_getElem? (i := 0) rfl)))⟩
def own_Q_getch_2_1 (Z : State) (z_CS : Int32) (v_FMT : Value) (ba_ : Addr) (kb_ : ClassId) (c0_ : Int32) (c1_ : Int32) (h0 : Heap) (n0 : Nat) (v : Option Value) (h : Heap) (L : List Loc) : Prop := (v = some (.int c1_)) ∧ (Fr n0 L) ∧ (h = h0)
set_option maxRecDepth 65536 in
set_option maxHeartbeats 40000000 in
theorem rm_getch_2_1 (l : Launch) (Z : State) (a0 : Array Value) (hw : ∀ d ∈ tables_1, d.before a0 Z = true) (ws : List Jvm.Cond) (z_CS : Int32) (v_FMT : Value) (ba_ : Addr) (kb_ : ClassId) (c0_ : Int32) (c1_ : Int32) (h0 : Heap) (n0 : Nat) (SB : own_Start Z z_CS v_FMT) (O0 : Old Z n0 h0) (pr0 : Arv Z h0 ba_ kb_ .byte (4 : Int32) [(.int (c0_ >>> ((0 : Int32) &&& 31)).toInt8.toInt32), (.int (c0_ >>> ((8 : Int32) &&& 31)).toInt8.toInt32), (.int (c1_ >>> ((0 : Int32) &&& 31)).toInt8.toInt32), (.int (c1_ >>> ((8 : Int32) &&& 31)).toInt8.toInt32)] (.int 0)) (pr1 : own_c16 c1_) :
    oMet l Z yM8 jdk_52_method_5_code 2 (some .char) ws ({ frames := 0, cells := 0, slots := 0, locals := 0 } : Room) 0 0 #[(.ref ba_), (.int (1 : Int32))] h0 (own_Q_getch_2_1 Z z_CS v_FMT ba_ kb_ c0_ c1_ h0 n0) := by
  refine oenter own_pn1 #[.val (.ref ba_), .val (.int (1 : Int32))] (fun m => by first | (simp [entryFrame, mkF, argsToLocals, Value.category]; done) | rfl) ?_
  intro p e s m below meth c s₁ X0 hx hZ hby hml hret hown0 hnm hlk e0
  have hown : s.vm.findClass "java/lang/StringUTF16" = some m.cls := hown0
  have N0 := Fr.nil n0
  obtain ⟨S_CS, H_CS, S__assertionsDisabled, S_HI_BYTE_SHIFT, S_LO_BYTE_SHIFT, S_FMT, R_FMT⟩ := (id SB)
  have w99 := hw _ (List.mem_of_getElem? (i := 99) rfl)
  have w100 := hw _ (List.mem_of_getElem? (i := 100) rfl)
  have w101 := hw _ (List.mem_of_getElem? (i := 101) rfl)
  obtain ⟨T1, X1, e1, st1⟩ := getS2 X0 hx hZ hown (host := "") (Or.inl w99) Via.refl e0 (Sta.ext O0.2 S__assertionsDisabled) (g := (mkF m 0 #[.val (.ref ba_), .val (.int (1 : Int32))] [])) rfl (hb hby d9_0)
  refine ogo (S' := T1.setTop (mkF m 3 #[.val (.ref ba_), .val (.int (1 : Int32))] [(.int (1 : Int32))])) st1 ?_
  refine o_ifYes X1 hx 28 (hb hby d9_3) (feq (by decide : ¬ ((1 : Int32) = (0 : Int32)))).2 (by decide) (by decide) ?_
  refine o_iloadN X1 hx (hb hby d9_28) rfl ?_
  refine o_iconst X1 hx (1 : Int32) (hb hby d9_29) rfl ?_
  refine o_ishl X1 hx (hb hby d9_30) ?_
  refine o_istoreN X1 hx (l' := #[.val (.ref ba_), .val (.int (2 : Int32))]) (hb hby d9_31) rfl ?_
  refine o_aloadN X1 hx (hb hby d9_32) rfl rfl ?_
  refine o_iloadN X1 hx (hb hby d9_33) rfl ?_
  refine o_iinc X1 hx (l' := #[.val (.ref ba_), .val (.int (3 : Int32))]) (hb hby d9_34) rfl rfl ?_
  obtain ⟨cl2, Ar2, q2, S2, N2z, H2, G2⟩ := (id pr0)
  have hi2 := inb_of (j := (2 : Int32)) S2 ⟨by decide, by decide⟩
  have ha2 := Has.at (v := (.int (c1_ >>> ((0 : Int32) &&& 31)).toInt8.toInt32)) H2 hi2 rfl
  refine ogo (S' := T1.setTop (mkF m 38 #[.val (.ref ba_), .val (.int (3 : Int32))] [(.int (c1_ >>> ((0 : Int32) &&& 31)).toInt8.toInt32)])) (X1.baloadBytes hx (j := (2 : Int32)) (v := (.int (c1_ >>> ((0 : Int32) &&& 31)).toInt8.toInt32)) (by rw [e1]; exact Ar2.1) (State.isArrayOf_alike hZ.alike Ar2.2.1) Ar2.2.2 hi2 ha2 (g := (mkF m 37 #[.val (.ref ba_), .val (.int (3 : Int32))] [(.int (2 : Int32)), (.ref ba_)])) rfl rfl (hb hby d9_37)) ?_
  refine o_sipush X1 hx (255 : Int32) (hb hby d9_38) rfl ?_
  refine o_iand X1 hx (hb hby d9_41) ?_
  obtain ⟨T3, X3, e3, st3⟩ := getS2 X1 hx hZ hown (host := "") (Or.inl w100) Via.refl e1 (Sta.ext O0.2 S_HI_BYTE_SHIFT) (g := (mkF m 42 #[.val (.ref ba_), .val (.int (3 : Int32))] [(.int ((c1_ >>> ((0 : Int32) &&& 31)).toInt8.toInt32 &&& (255 : Int32)))])) rfl (hb hby d9_42)
  refine ogo (S' := T3.setTop (mkF m 45 #[.val (.ref ba_), .val (.int (3 : Int32))] [(.int (0 : Int32)), (.int ((c1_ >>> ((0 : Int32) &&& 31)).toInt8.toInt32 &&& (255 : Int32)))])) st3 ?_
  refine o_ishl X3 hx (hb hby d9_45) ?_
  refine o_aloadN X3 hx (hb hby d9_46) rfl rfl ?_
  refine o_iloadN X3 hx (hb hby d9_47) rfl ?_
  obtain ⟨cl4, Ar4, q4, S4, N4z, H4, G4⟩ := (id pr0)
  have hi4 := inb_of (j := (3 : Int32)) S4 ⟨by decide, by decide⟩
  have ha4 := Has.at (v := (.int (c1_ >>> ((8 : Int32) &&& 31)).toInt8.toInt32)) H4 hi4 rfl
  refine ogo (S' := T3.setTop (mkF m 49 #[.val (.ref ba_), .val (.int (3 : Int32))] [(.int (c1_ >>> ((8 : Int32) &&& 31)).toInt8.toInt32), (.int (((c1_ >>> ((0 : Int32) &&& 31)).toInt8.toInt32 &&& (255 : Int32)) <<< ((0 : Int32) &&& 31)))])) (X3.baloadBytes hx (j := (3 : Int32)) (v := (.int (c1_ >>> ((8 : Int32) &&& 31)).toInt8.toInt32)) (by rw [e3]; exact Ar4.1) (State.isArrayOf_alike hZ.alike Ar4.2.1) Ar4.2.2 hi4 ha4 (g := (mkF m 48 #[.val (.ref ba_), .val (.int (3 : Int32))] [(.int (3 : Int32)), (.ref ba_), (.int (((c1_ >>> ((0 : Int32) &&& 31)).toInt8.toInt32 &&& (255 : Int32)) <<< ((0 : Int32) &&& 31)))])) rfl rfl (hb hby d9_48)) ?_
  refine o_sipush X3 hx (255 : Int32) (hb hby d9_49) rfl ?_
  refine o_iand X3 hx (hb hby d9_52) ?_
  obtain ⟨T5, X5, e5, st5⟩ := getS2 X3 hx hZ hown (host := "") (Or.inl w101) Via.refl e3 (Sta.ext O0.2 S_LO_BYTE_SHIFT) (g := (mkF m 53 #[.val (.ref ba_), .val (.int (3 : Int32))] [(.int ((c1_ >>> ((8 : Int32) &&& 31)).toInt8.toInt32 &&& (255 : Int32))), (.int (((c1_ >>> ((0 : Int32) &&& 31)).toInt8.toInt32 &&& (255 : Int32)) <<< ((0 : Int32) &&& 31)))])) rfl (hb hby d9_53)
  refine ogo (S' := T5.setTop (mkF m 56 #[.val (.ref ba_), .val (.int (3 : Int32))] [(.int (8 : Int32)), (.int ((c1_ >>> ((8 : Int32) &&& 31)).toInt8.toInt32 &&& (255 : Int32))), (.int (((c1_ >>> ((0 : Int32) &&& 31)).toInt8.toInt32 &&& (255 : Int32)) <<< ((0 : Int32) &&& 31)))])) st5 ?_
  refine o_ishl X5 hx (hb hby d9_56) ?_
  refine o_ior X5 hx (hb hby d9_57) ?_
  refine o_i2c X5 hx (hb hby d9_58) ?_
  rw [own_u16 pr1]
  refine oend X5 hlk (v := some (.int c1_)) (fun h => by rw [hret] at h; cases h) (fun fs hr => retN X5 hx (t := .char) hret (by simp) (hb hby d9_59) (by rw [(own_nar16 pr1)]; exact hr)) (by decide) (by decide) ?_
  show own_Q_getch_2_1 Z _ _ _ _ _ _ h0 n0 _ T5.heap _
  rw [e5]
  exact ⟨rfl, N0, rfl⟩
def own_Q_cmp3_2_1 (Z : State) (z_CS : Int32) (v_FMT : Value) (ca_ : Addr) (kc_ : ClassId) (c0_ : Int32) (c1_ : Int32) (h0 : Heap) (n0 : Nat) (v : Option Value) (h : Heap) (L : List Loc) : Prop := ∃ ba_ : Addr, ∃ kb_ : ClassId, (v = some (.ref ba_)) ∧ (Fr n0 L) ∧ (Keep h0 h []) ∧ (h0.size ≤ ba_) ∧ (Arv Z h ba_ kb_ .byte (4 : Int32) [(.int (c0_ >>> ((0 : Int32) &&& 31)).toInt8.toInt32), (.int (c0_ >>> ((8 : Int32) &&& 31)).toInt8.toInt32), (.int (c1_ >>> ((0 : Int32) &&& 31)).toInt8.toInt32), (.int (c1_ >>> ((8 : Int32) &&& 31)).toInt8.toInt32)] (.int 0))
set_option maxRecDepth 65536 in
set_option maxHeartbeats 40000000 in
theorem rm_cmp3_2_1 (l : Launch) (Z : State) (a0 : Array Value) (hw : ∀ d ∈ tables_1, d.before a0 Z = true) (ws : List Jvm.Cond) (z_CS : Int32) (v_FMT : Value) (ca_ : Addr) (kc_ : ClassId) (c0_ : Int32) (c1_ : Int32) (h0 : Heap) (n0 : Nat) (SB : own_Start Z z_CS v_FMT) (O0 : Old Z n0 h0) (pr0 : Arv Z h0 ca_ kc_ .char (2 : Int32) [(.int c0_), (.int c1_)] (.int 0)) (pr1 : own_c16 c1_) (pr2 : ¬ ((255 : Int32) < c0_)) (pr3 : (255 : Int32) < c1_) :
    oMet l Z yM2 jdk_52_method_16_code 6 (some (.array .byte)) ws ({ frames := 3, cells := 2, slots := 6, locals := 40 } : Room) 2 6 #[(.ref ca_), (.int (0 : Int32)), (.int (2 : Int32))] h0 (own_Q_cmp3_2_1 Z z_CS v_FMT ca_ kc_ c0_ c1_ h0 n0) := by
  refine oenter own_pn1 #[.val (.ref ca_), .val (.int (0 : Int32)), .val (.int (2 : Int32)), .unset, .unset, .unset] (fun m => by first | (simp [entryFrame, mkF, argsToLocals, Value.category]; done) | rfl) ?_
  intro p e s m below meth c s₁ X0 hx hZ hby hml hret hown0 hnm hlk e0
  have hown : s.vm.findClass "java/lang/StringUTF16" = some m.cls := hown0
  have N0 := Fr.nil n0
  obtain ⟨S_CS, H_CS, S__assertionsDisabled, S_HI_BYTE_SHIFT, S_LO_BYTE_SHIFT, S_FMT, R_FMT⟩ := (id SB)
  have w16 := hw _ (List.mem_of_getElem? (i := 16) rfl)
  have w56 := hw _ (List.mem_of_getElem? (i := 56) rfl)
  have w58 := hw _ (List.mem_of_getElem? (i := 58) rfl)
  have w59 := hw _ (List.mem_of_getElem? (i := 59) rfl)
  have w60 := hw _ (List.mem_of_getElem? (i := 60) rfl)
  have w86 := hw _ (List.mem_of_getElem? (i := 86) rfl)
  have w87 := hw _ (List.mem_of_getElem? (i := 87) rfl)
  have w88 := hw _ (List.mem_of_getElem? (i := 88) rfl)
  have w102 := hw _ (List.mem_of_getElem? (i := 102) rfl)
  have w103 := hw _ (List.mem_of_getElem? (i := 103) rfl)
  have w104 := hw _ (List.mem_of_getElem? (i := 104) rfl)
  refine o_iloadN X0 hx (hb hby d3_0) rfl ?_
  obtain ⟨T1, _, k1, X1, rfl, E1, A1, Ex1, st1⟩ := newPE (aty := .byte) X0 hx hZ w16 e0 (g := (mkF m 1 #[.val (.ref ca_), .val (.int (0 : Int32)), .val (.int (2 : Int32)), .unset, .unset, .unset] [(.int (2 : Int32))])) rfl (hb hby d3_1) rfl (by decide) (cap := 2) (by decide) (by decide) (by decide) (by decide) (ad := "[B") rfl
  obtain ⟨b1, g1⟩ : ∃ z, z = h0.size := ⟨_, rfl⟩
  rw [← g1] at A1 Ex1 st1
  have n0_b1 : n0 ≤ b1 := Nat.le_trans (Nat.le_trans (Nat.le_of_eq O0.1.symm) O0.2.1) (Nat.le_trans (Nat.le_refl _) (Nat.le_of_eq g1.symm))
  have V1 : Arv Z T1.heap b1 k1 .byte (2 : Int32) [(.int 0), (.int 0)] (.int 0) := (Arv.new A1 (by decide)).pad (pad_rep [] (.int 0) 2)
  refine ogo (S' := T1.setTop (mkF m 3 #[.val (.ref ca_), .val (.int (0 : Int32)), .val (.int (2 : Int32)), .unset, .unset, .unset] [(.ref b1)])) st1 ?_
  refine o_astoreN X1 hx (l' := #[.val (.ref ca_), .val (.int (0 : Int32)), .val (.int (2 : Int32)), .val (.ref b1), .unset, .unset]) (hb hby d3_3) rfl rfl ?_
  refine o_aloadN X1 hx (hb hby d3_4) rfl rfl ?_
  refine o_iloadN X1 hx (hb hby d3_5) rfl ?_
  refine o_aloadN X1 hx (hb hby d3_6) rfl rfl ?_
  refine o_iconst X1 hx (0 : Int32) (hb hby d3_7) rfl ?_
  refine o_iloadN X1 hx (hb hby d3_8) rfl ?_
  obtain ⟨_, _, ⟨T2, L2, kc2, n2⟩, -, X2, ⟨Lc2, hQ2, l2, y2, z2⟩, st2⟩ := Jvm.LawKit.callS X1 hx (y := yM1) hown (mvT hZ w58) (mvT hZ w59) (mvT hZ w56) (mvT hZ w60) (by decide) (backOf (W := 0) (rm_cmp5_2_1 l Z a0 hw []  ca_ kc_ b1 k1 c0_ c1_ T1.heap n0 (O0.ext E1) (pr0.ext E1) V1 (Nat.ne_of_lt (Nat.lt_of_lt_of_le (Nat.lt_of_lt_of_le pr0.lt (Nat.le_refl _)) (Nat.le_of_eq g1.symm))) n0_b1 pr2 pr3) hZ w60 w56 (by decide) (by decide)) (g := (mkF m 9 #[.val (.ref ca_), .val (.int (0 : Int32)), .val (.int (2 : Int32)), .val (.ref b1), .unset, .unset] [(.int (2 : Int32)), (.int (0 : Int32)), (.ref b1), (.int (0 : Int32)), (.ref ca_)])) rfl (by rw [hml]; rfl) (argsL := [(.ref ca_), (.int (0 : Int32)), (.ref b1), (.int (0 : Int32)), (.int (2 : Int32))]) (rest := []) (lenOf own_pd0 rfl) rfl (by show 2 * 0 + _ ≤ _; exact Nat.le_of_eq rfl) (hb hby d3_9) (fun _ _ => ⟨rfl, rfl, (by decide : 1 + 0 ≤ _), (by decide : 2 + 0 ≤ _)⟩)
  dsimp only [Pt.U, Pt.locs, Pt.cells, Pt.slots] at X2 l2 y2 z2 st2 hQ2
  subst l2 y2 z2
  obtain ⟨rfl, Nq2, K2⟩ := hQ2
  have N2 := Fr.app N0 Nq2
  refine ogo (S' := T2.setTop (mkF m 12 #[.val (.ref ca_), .val (.int (0 : Int32)), .val (.int (2 : Int32)), .val (.ref b1), .unset, .unset] [(.int (1 : Int32))])) st2 ?_
  refine o_istore X2 hx (l' := #[.val (.ref ca_), .val (.int (0 : Int32)), .val (.int (2 : Int32)), .val (.ref b1), .val (.int (1 : Int32)), .unset]) (hb hby d3_12) rfl ?_
  refine o_iload X2 hx (hb hby d3_14) rfl ?_
  refine o_iloadN X2 hx (hb hby d3_16) rfl ?_
  refine o_icmpNo X2 hx (hb hby d3_17) (feq (by decide : ¬ ((1 : Int32) = (2 : Int32)))).1 ?_
  refine o_aloadN X2 hx (hb hby d3_20) rfl rfl ?_
  refine o_iloadN X2 hx (hb hby d3_21) rfl ?_
  refine o_iloadN X2 hx (hb hby d3_22) rfl ?_
  have c4 := ((pr0.ext E1).keep K2 (ninS (Nat.ne_of_lt (Nat.lt_of_lt_of_le (Nat.lt_of_lt_of_le pr0.lt (Nat.le_refl _)) (Nat.le_of_eq g1.symm))) nin0))
  obtain ⟨_, _, ⟨T3, L3, kc3, n3⟩, -, X3, ⟨Lc3, hQ3, l3, y3, z3⟩, st3⟩ := Jvm.LawKit.callS X2 hx (y := yM7) hown (mvT hZ w86) (mvT hZ w87) (mvT hZ w56) (mvT hZ w88) (by decide) (backOf (W := 0) (rm_tob_2 l Z a0 hw [] z_CS v_FMT ca_ kc_ c0_ c1_ T2.heap n0 SB ((O0.ext E1).keep K2 (allS n0_b1 all0)) c4) hZ w88 w56 (by decide) (by decide)) (g := (mkF m 23 #[.val (.ref ca_), .val (.int (0 : Int32)), .val (.int (2 : Int32)), .val (.ref b1), .val (.int (1 : Int32)), .unset] [(.int (2 : Int32)), (.int (0 : Int32)), (.ref ca_)])) rfl (by rw [hml]; rfl) (argsL := [(.ref ca_), (.int (0 : Int32)), (.int (2 : Int32))]) (rest := []) (lenOf own_pd4 rfl) rfl (by show 2 * 0 + _ ≤ _; exact Nat.le_of_eq rfl) (hb hby d3_23) (fun _ _ => ⟨rfl, rfl, (by decide : 1 + 1 ≤ _), (by decide : 2 + 4 ≤ _)⟩)
  dsimp only [Pt.U, Pt.locs, Pt.cells, Pt.slots] at X3 l3 y3 z3 st3 hQ3
  subst l3 y3 z3
  obtain ⟨ba_3, kb_3, rfl, Nq3, K3, p3_0, p3_1⟩ := hQ3
  have N3 := Fr.app N2 Nq3
  have n0_ba_3 : n0 ≤ ba_3 := Nat.le_trans (Nat.le_trans (Nat.le_of_eq O0.1.symm) O0.2.1) (Nat.le_trans (Nat.le_trans E1.1 K2.1) p3_0)
  refine ogo (S' := T3.setTop (mkF m 26 #[.val (.ref ca_), .val (.int (0 : Int32)), .val (.int (2 : Int32)), .val (.ref b1), .val (.int (1 : Int32)), .unset] [(.ref ba_3)])) st3 ?_
  refine o_astore X3 hx (l' := #[.val (.ref ca_), .val (.int (0 : Int32)), .val (.int (2 : Int32)), .val (.ref b1), .val (.int (1 : Int32)), .val (.ref ba_3)]) (hb hby d3_26) rfl rfl ?_
  refine o_aload X3 hx (hb hby d3_28) rfl rfl ?_
  refine o_iload X3 hx (hb hby d3_30) rfl ?_
  obtain ⟨_, _, ⟨T5, L5, kc5, n5⟩, -, X5, ⟨Lc5, hQ5, l5, y5, z5⟩, st5⟩ := Jvm.LawKit.callS X3 hx (y := yM8) hown (mvT hZ w102) (mvT hZ w103) (mvT hZ w56) (mvT hZ w104) (by decide) (backOf (W := 0) (rm_getch_2_1 l Z a0 hw [] z_CS v_FMT ba_3 kb_3 c0_ c1_ T3.heap n0 SB (((O0.ext E1).keep K2 (allS n0_b1 all0)).keep K3 all0) p3_1 pr1) hZ w104 w56 (by decide) (by decide)) (g := (mkF m 32 #[.val (.ref ca_), .val (.int (0 : Int32)), .val (.int (2 : Int32)), .val (.ref b1), .val (.int (1 : Int32)), .val (.ref ba_3)] [(.int (1 : Int32)), (.ref ba_3)])) rfl (by rw [hml]; rfl) (argsL := [(.ref ba_3), (.int (1 : Int32))]) (rest := []) (lenOf own_pd5 rfl) rfl (by show 2 * 0 + _ ≤ _; exact Nat.le_of_eq rfl) (hb hby d3_32) (fun _ _ => ⟨rfl, rfl, (by decide : 2 + 0 ≤ _), (by decide : 6 + 0 ≤ _)⟩)
  dsimp only [Pt.U, Pt.locs, Pt.cells, Pt.slots] at X5 l5 y5 z5 st5 hQ5
  subst l5 y5 z5
  obtain ⟨rfl, Nq5, e5⟩ := hQ5
  have N5 := Fr.app N3 Nq5
  refine ogo (S' := T5.setTop (mkF m 35 #[.val (.ref ca_), .val (.int (0 : Int32)), .val (.int (2 : Int32)), .val (.ref b1), .val (.int (1 : Int32)), .val (.ref ba_3)] [(.int c1_)])) st5 ?_
  refine o_sipush X5 hx (255 : Int32) (hb hby d3_35) rfl ?_
  refine o_icmpYes X5 hx 54 (hb hby d3_38) (tlt pr3).2.2.1 (by decide) (by decide) ?_
  refine o_aload X5 hx (hb hby d3_54) rfl rfl ?_
  refine oend X5 hlk (v := some (.ref ba_3)) (fun h => by rw [hret] at h; cases h) (fun fs hr => retOut X5 hx (t := (.array .byte)) (i := .areturn) hret rfl (Or.inr (Or.inr (Or.inr (Or.inr ⟨rfl, rfl, rfl⟩)))) (hb hby d3_56) hr) (by decide) (by decide) ?_
  show own_Q_cmp3_2_1 Z _ _ _ _ _ _ h0 n0 _ T5.heap _
  rw [e5]
  exact ⟨ba_3, kb_3, rfl, N5, ((((Keep.refl h0 []).ext E1).trans K2 (allS (Or.inr (Nat.le_trans (Nat.le_refl _) (Nat.le_of_eq g1.symm))) all0)).trans K3 all0), (Nat.le_trans (Nat.le_trans E1.1 K2.1) p3_0), p3_1⟩
def own_Q_new4e_2 (Z : State) (z_CS : Int32) (v_FMT : Value) (x_ : Addr) (ca_ : Addr) (kc_ : ClassId) (c0_ : Int32) (c1_ : Int32) (h0 : Heap) (n0 : Nat) (v : Option Value) (h : Heap) (L : List Loc) : Prop := ∃ ba_ : Addr, ∃ kb_ : ClassId, ∃ cd_ : Int32, ∃ z_ : Int32, ∃ vs_ : List Value, (v = none) ∧ (Fr n0 L) ∧ (Keep h0 h [x_]) ∧ (h0.size ≤ ba_) ∧ (Arv Z h ba_ kb_ .byte z_ vs_ (.int 0)) ∧ (Exa Z h x_ "java/lang/String") ∧ (Fld Z h x_ "java/lang/String" "value" "[B" (.ref ba_)) ∧ (Fld Z h x_ "java/lang/String" "coder" "B" (.int cd_)) ∧ (own_enc2 c0_ c1_ cd_ z_ vs_)
set_option maxRecDepth 65536 in
set_option maxHeartbeats 40000000 in
theorem rm_new4e_2 (l : Launch) (Z : State) (a0 : Array Value) (hw : ∀ d ∈ tables_1, d.before a0 Z = true) (ws : List Jvm.Cond) (z_CS : Int32) (v_FMT : Value) (x_ : Addr) (ca_ : Addr) (kc_ : ClassId) (c0_ : Int32) (c1_ : Int32) (h0 : Heap) (n0 : Nat) (SB : own_Start Z z_CS v_FMT) (O0 : Old Z n0 h0) (pr0 : Exa Z h0 x_ "java/lang/String") (pr1 : Fld Z h0 x_ "java/lang/String" "value" "[B" .null) (pr2 : Fld Z h0 x_ "java/lang/String" "coder" "B" (.int (0 : Int32))) (pr3 : Arv Z h0 ca_ kc_ .char (2 : Int32) [(.int c0_), (.int c1_)] (.int 0)) (pr4 : n0 ≤ x_) (pr5 : own_c16 c0_) (pr6 : own_c16 c1_) :
    oMet l Z yM9 jdk_42_method_149_code 6 none ws ({ frames := 4, cells := 2, slots := 6, locals := 57 } : Room) 2 6 #[(.ref x_), (.ref ca_), (.int (0 : Int32)), (.int (2 : Int32)), .null] h0 (own_Q_new4e_2 Z z_CS v_FMT x_ ca_ kc_ c0_ c1_ h0 n0) := by
  refine oenter own_pn2 #[.val (.ref x_), .val (.ref ca_), .val (.int (0 : Int32)), .val (.int (2 : Int32)), .val .null, .unset] (fun m => by first | (simp [entryFrame, mkF, argsToLocals, Value.category]; done) | rfl) ?_
  intro p e s m below meth c s₁ X0 hx hZ hby hml hret hown0 hnm hlk e0
  have hown : s.vm.findClass "java/lang/String" = some m.cls := hown0
  have N0 := Fr.nil n0
  obtain ⟨S_CS, H_CS, S__assertionsDisabled, S_HI_BYTE_SHIFT, S_LO_BYTE_SHIFT, S_FMT, R_FMT⟩ := (id SB)
  have w2 := hw _ (List.mem_of_getElem? (i := 2) rfl)
  have w12 := hw _ (List.mem_of_getElem? (i := 12) rfl)
  have w13 := hw _ (List.mem_of_getElem? (i := 13) rfl)
  have w14 := hw _ (List.mem_of_getElem? (i := 14) rfl)
  have w17 := hw _ (List.mem_of_getElem? (i := 17) rfl)
  have w18 := hw _ (List.mem_of_getElem? (i := 18) rfl)
  have w21 := hw _ (List.mem_of_getElem? (i := 21) rfl)
  have w22 := hw _ (List.mem_of_getElem? (i := 22) rfl)
  have w49 := hw _ (List.mem_of_getElem? (i := 49) rfl)
  have w54 := hw _ (List.mem_of_getElem? (i := 54) rfl)
  have w55 := hw _ (List.mem_of_getElem? (i := 55) rfl)
  have w56 := hw _ (List.mem_of_getElem? (i := 56) rfl)
  have w57 := hw _ (List.mem_of_getElem? (i := 57) rfl)
  have w61 := hw _ (List.mem_of_getElem? (i := 61) rfl)
  have w62 := hw _ (List.mem_of_getElem? (i := 62) rfl)
  have w63 := hw _ (List.mem_of_getElem? (i := 63) rfl)
  refine o_aloadN X0 hx (hb hby d10_0) rfl rfl ?_
  obtain ⟨T1, X1, e1, st1⟩ := initO X0 hx hZ hown w12 w13 w14 e0 (g := (mkF m 1 #[.val (.ref x_), .val (.ref ca_), .val (.int (0 : Int32)), .val (.int (2 : Int32)), .val .null, .unset] [(.ref x_)])) rfl (by rw [hml]; rfl) rfl (hb hby d10_1) (by decide) (W := 0) (by show 2 * 0 + _ ≤ _; exact Nat.le_of_eq rfl) (by decide)
  refine ogo (S' := T1.setTop (mkF m 4 #[.val (.ref x_), .val (.ref ca_), .val (.int (0 : Int32)), .val (.int (2 : Int32)), .val .null, .unset] [])) st1 ?_
  refine o_iloadN X1 hx (hb hby d10_4) rfl ?_
  refine o_ifYes X1 hx 27 (hb hby d10_5) (feq (by decide : ¬ ((2 : Int32) = (0 : Int32)))).2 (by decide) (by decide) ?_
  obtain ⟨T2, X2, e2, st2⟩ := getS2 X1 hx hZ hown (host := "") (Or.inl w49) Via.refl e1 (Sta.ext O0.2 S_CS) (g := (mkF m 27 #[.val (.ref x_), .val (.ref ca_), .val (.int (0 : Int32)), .val (.int (2 : Int32)), .val .null, .unset] [])) rfl (hb hby d10_27)
  refine ogo (S' := T2.setTop (mkF m 30 #[.val (.ref x_), .val (.ref ca_), .val (.int (0 : Int32)), .val (.int (2 : Int32)), .val .null, .unset] [(.int z_CS)])) st2 ?_
  refine o_ifNo X2 hx (hb hby d10_30) (feq H_CS).1 ?_
  refine o_aloadN X2 hx (hb hby d10_33) rfl rfl ?_
  refine o_iloadN X2 hx (hb hby d10_34) rfl ?_
  refine o_iloadN X2 hx (hb hby d10_35) rfl ?_
  by_cases hc3 : (255 : Int32) < c0_
  · obtain ⟨_, _, ⟨T4, L4, kc4, n4⟩, -, X4, ⟨Lc4, hQ4, l4, y4, z4⟩, st4⟩ := Jvm.LawKit.callS X2 hx (y := yM2) hown (mvT hZ w54) (mvT hZ w55) (mvT hZ w56) (mvT hZ w57) (by decide) (backOf (W := 0) (rm_cmp3_2_0 l Z a0 hw [] z_CS v_FMT ca_ kc_ c0_ c1_ h0 n0 SB O0 pr3 pr5 hc3) hZ w57 w56 (by decide) (by decide)) (g := (mkF m 36 #[.val (.ref x_), .val (.ref ca_), .val (.int (0 : Int32)), .val (.int (2 : Int32)), .val .null, .unset] [(.int (2 : Int32)), (.int (0 : Int32)), (.ref ca_)])) rfl (by rw [hml]; rfl) (argsL := [(.ref ca_), (.int (0 : Int32)), (.int (2 : Int32))]) (rest := []) (lenOf own_pd4 rfl) rfl (by show 2 * 0 + _ ≤ _; exact Nat.le_of_eq rfl) (hb hby d10_36) (fun _ _ => ⟨rfl, e2, (by decide : 0 + 2 ≤ _), (by decide : 0 + 6 ≤ _)⟩)
    dsimp only [Pt.U, Pt.locs, Pt.cells, Pt.slots] at X4 l4 y4 z4 st4 hQ4
    subst l4 y4 z4
    obtain ⟨ba_4, kb_4, rfl, Nq4, K4, p4_0, p4_1⟩ := hQ4
    have N4 := Fr.app N0 Nq4
    have n0_ba_4 : n0 ≤ ba_4 := Nat.le_trans (Nat.le_trans (Nat.le_of_eq O0.1.symm) O0.2.1) (Nat.le_trans (Nat.le_refl _) p4_0)
    refine ogo (S' := T4.setTop (mkF m 39 #[.val (.ref x_), .val (.ref ca_), .val (.int (0 : Int32)), .val (.int (2 : Int32)), .val .null, .unset] [(.ref ba_4)])) st4 ?_
    refine o_astore X4 hx (l' := #[.val (.ref x_), .val (.ref ca_), .val (.int (0 : Int32)), .val (.int (2 : Int32)), .val .null, .val (.ref ba_4)]) (hb hby d10_39) rfl rfl ?_
    refine o_aloadN X4 hx (hb hby d10_41) rfl rfl ?_
    refine o_aload X4 hx (hb hby d10_42) rfl rfl ?_
    refine o_iloadN X4 hx (hb hby d10_44) rfl ?_
    obtain ⟨_, _, ⟨T5, L5, kc5, n5⟩, -, X5, ⟨Lc5, hQ5, l5, y5, z5⟩, st5⟩ := Jvm.LawKit.callS X4 hx (y := yM3) hown (mvT hZ w61) (mvT hZ w62) (mvT hZ w56) (mvT hZ w63) (by decide) (backOf (W := 1) (rm_codl16_2 l Z a0 hw []  ba_4 kb_4 [(.int (c0_ >>> ((0 : Int32) &&& 31)).toInt8.toInt32), (.int (c0_ >>> ((8 : Int32) &&& 31)).toInt8.toInt32), (.int (c1_ >>> ((0 : Int32) &&& 31)).toInt8.toInt32), (.int (c1_ >>> ((8 : Int32) &&& 31)).toInt8.toInt32)] T4.heap n0 (O0.keep K4 all0) p4_1) hZ w63 w56 (by decide) (by decide)) (g := (mkF m 45 #[.val (.ref x_), .val (.ref ca_), .val (.int (0 : Int32)), .val (.int (2 : Int32)), .val .null, .val (.ref ba_4)] [(.int (2 : Int32)), (.ref ba_4), (.ref x_)])) rfl (by rw [hml]; rfl) (argsL := [(.ref ba_4), (.int (2 : Int32))]) (rest := [(.ref x_)]) (lenOf own_pd6 rfl) rfl (by show 2 * 0 + _ ≤ _; exact Nat.le_of_eq rfl) (hb hby d10_45) (fun _ _ => ⟨rfl, rfl, (by decide : 2 + 0 ≤ _), (by decide : 6 + 0 ≤ _)⟩)
    dsimp only [Pt.U, Pt.locs, Pt.cells, Pt.slots] at X5 l5 y5 z5 st5 hQ5
    subst l5 y5 z5
    obtain ⟨rfl, Nq5, e5⟩ := hQ5
    have N5 := Fr.app N4 Nq5
    refine ogo (S' := T5.setTop (mkF m 48 #[.val (.ref x_), .val (.ref ca_), .val (.int (0 : Int32)), .val (.int (2 : Int32)), .val .null, .val (.ref ba_4)] [(.int (1 : Int32)), (.ref x_)])) st5 ?_
    obtain ⟨T6, _, X6, rfl, W6, st6⟩ := putFN X5 hx hZ hown w22 Via.refl e5 (pr2.keep K4 nin0) (pr0.keep K4) (Or.inr ⟨w18, rfl, hnm⟩) w2 (ty := .byte) (v' := (.int (1 : Int32))) (by decide) rfl (by decide) (g := (mkF m 48 #[.val (.ref x_), .val (.ref ca_), .val (.int (0 : Int32)), .val (.int (2 : Int32)), .val .null, .val (.ref ba_4)] [(.int (1 : Int32)), (.ref x_)])) rfl rfl (hb hby d10_48)
    have N6 := Fr.snoc X6 N5 pr4
    have F6 := Fld.same W6 (pr2.keep K4 nin0)
    refine ogo (S' := T6.setTop (mkF m 51 #[.val (.ref x_), .val (.ref ca_), .val (.int (0 : Int32)), .val (.int (2 : Int32)), .val .null, .val (.ref ba_4)] [])) st6 ?_
    refine o_aloadN X6 hx (hb hby d10_51) rfl rfl ?_
    refine o_aload X6 hx (hb hby d10_52) rfl rfl ?_
    have c8 := (Fld.other W6 (pr1.keep K4 nin0) (Or.inr (slot_ne (Or.inr w17) (Or.inr w18) (by decide) (t := (.array .byte)) (t' := .byte) (by decide) (by decide))))
    obtain ⟨T7, _, X7, rfl, W7, st7⟩ := putF X6 hx hZ hown (host := "") (Or.inl w21) Via.refl rfl c8 (Exa.wr W6 (pr0.keep K4)) (Or.inr ⟨w17, rfl, hnm⟩) w2 (ty := (.array .byte)) (by decide) rfl rfl (g := (mkF m 54 #[.val (.ref x_), .val (.ref ca_), .val (.int (0 : Int32)), .val (.int (2 : Int32)), .val .null, .val (.ref ba_4)] [(.ref ba_4), (.ref x_)])) rfl rfl (hb hby d10_54)
    have N7 := Fr.snoc X7 N6 pr4
    have F7 := Fld.same W7 c8
    refine ogo (S' := T7.setTop (mkF m 57 #[.val (.ref x_), .val (.ref ca_), .val (.int (0 : Int32)), .val (.int (2 : Int32)), .val .null, .val (.ref ba_4)] [])) st7 ?_
    have c9 := ((p4_1.other W6 (Nat.ne_of_gt (Nat.lt_of_lt_of_le (Nat.lt_of_lt_of_le pr0.lt (Nat.le_refl _)) p4_0))).other W7 (Nat.ne_of_gt (Nat.lt_of_lt_of_le (Nat.lt_of_lt_of_le pr0.lt (Nat.le_refl _)) p4_0)))
    have c10 := (Fld.other W7 F6 (Or.inr (slot_ne (Or.inr w18) (Or.inr w17) (by decide) (t := .byte) (t' := (.array .byte)) (by decide) (by decide))))
    refine oend X7 hlk (v := none) (fun _ => rfl) (fun fs hr => X7.returnOut hx hret (hb hby d10_57) hr) (by decide) (by decide) ?_
    show own_Q_new4e_2 Z _ _ _ _ _ _ _ h0 n0 _ T7.heap _
    exact ⟨ba_4, kb_4, (1 : Int32), (4 : Int32), [(.int (c0_ >>> ((0 : Int32) &&& 31)).toInt8.toInt32), (.int (c0_ >>> ((8 : Int32) &&& 31)).toInt8.toInt32), (.int (c1_ >>> ((0 : Int32) &&& 31)).toInt8.toInt32), (.int (c1_ >>> ((8 : Int32) &&& 31)).toInt8.toInt32)], rfl, N7, ((((Keep.refl h0 [x_]).trans K4 all0).wr W6 (Or.inl (List.mem_of_getElem? (i := 0) rfl))).wr W7 (Or.inl (List.mem_of_getElem? (i := 0) rfl))), (Nat.le_trans (Nat.le_refl _) p4_0), c9, (Exa.wr W7 (Exa.wr W6 (pr0.keep K4))), F7, c10, (Or.inr ⟨rfl, rfl, rfl⟩)⟩
  · by_cases hc11 : (255 : Int32) < c1_
    · obtain ⟨_, _, ⟨T12, L12, kc12, n12⟩, -, X12, ⟨Lc12, hQ12, l12, y12, z12⟩, st12⟩ := Jvm.LawKit.callS X2 hx (y := yM2) hown (mvT hZ w54) (mvT hZ w55) (mvT hZ w56) (mvT hZ w57) (by decide) (backOf (W := 0) (rm_cmp3_2_1 l Z a0 hw [] z_CS v_FMT ca_ kc_ c0_ c1_ h0 n0 SB O0 pr3 pr6 hc3 hc11) hZ w57 w56 (by decide) (by decide)) (g := (mkF m 36 #[.val (.ref x_), .val (.ref ca_), .val (.int (0 : Int32)), .val (.int (2 : Int32)), .val .null, .unset] [(.int (2 : Int32)), (.int (0 : Int32)), (.ref ca_)])) rfl (by rw [hml]; rfl) (argsL := [(.ref ca_), (.int (0 : Int32)), (.int (2 : Int32))]) (rest := []) (lenOf own_pd4 rfl) rfl (by show 2 * 0 + _ ≤ _; exact Nat.le_of_eq rfl) (hb hby d10_36) (fun _ _ => ⟨rfl, e2, (by decide : 0 + 2 ≤ _), (by decide : 0 + 6 ≤ _)⟩)
      dsimp only [Pt.U, Pt.locs, Pt.cells, Pt.slots] at X12 l12 y12 z12 st12 hQ12
      subst l12 y12 z12
      obtain ⟨ba_12, kb_12, rfl, Nq12, K12, p12_0, p12_1⟩ := hQ12
      have N12 := Fr.app N0 Nq12
      have n0_ba_12 : n0 ≤ ba_12 := Nat.le_trans (Nat.le_trans (Nat.le_of_eq O0.1.symm) O0.2.1) (Nat.le_trans (Nat.le_refl _) p12_0)
      refine ogo (S' := T12.setTop (mkF m 39 #[.val (.ref x_), .val (.ref ca_), .val (.int (0 : Int32)), .val (.int (2 : Int32)), .val .null, .unset] [(.ref ba_12)])) st12 ?_
      refine o_astore X12 hx (l' := #[.val (.ref x_), .val (.ref ca_), .val (.int (0 : Int32)), .val (.int (2 : Int32)), .val .null, .val (.ref ba_12)]) (hb hby d10_39) rfl rfl ?_
      refine o_aloadN X12 hx (hb hby d10_41) rfl rfl ?_
      refine o_aload X12 hx (hb hby d10_42) rfl rfl ?_
      refine o_iloadN X12 hx (hb hby d10_44) rfl ?_
      obtain ⟨_, _, ⟨T13, L13, kc13, n13⟩, -, X13, ⟨Lc13, hQ13, l13, y13, z13⟩, st13⟩ := Jvm.LawKit.callS X12 hx (y := yM3) hown (mvT hZ w61) (mvT hZ w62) (mvT hZ w56) (mvT hZ w63) (by decide) (backOf (W := 1) (rm_codl16_2 l Z a0 hw []  ba_12 kb_12 [(.int (c0_ >>> ((0 : Int32) &&& 31)).toInt8.toInt32), (.int (c0_ >>> ((8 : Int32) &&& 31)).toInt8.toInt32), (.int (c1_ >>> ((0 : Int32) &&& 31)).toInt8.toInt32), (.int (c1_ >>> ((8 : Int32) &&& 31)).toInt8.toInt32)] T12.heap n0 (O0.keep K12 all0) p12_1) hZ w63 w56 (by decide) (by decide)) (g := (mkF m 45 #[.val (.ref x_), .val (.ref ca_), .val (.int (0 : Int32)), .val (.int (2 : Int32)), .val .null, .val (.ref ba_12)] [(.int (2 : Int32)), (.ref ba_12), (.ref x_)])) rfl (by rw [hml]; rfl) (argsL := [(.ref ba_12), (.int (2 : Int32))]) (rest := [(.ref x_)]) (lenOf own_pd6 rfl) rfl (by show 2 * 0 + _ ≤ _; exact Nat.le_of_eq rfl) (hb hby d10_45) (fun _ _ => ⟨rfl, rfl, (by decide : 2 + 0 ≤ _), (by decide : 6 + 0 ≤ _)⟩)
      dsimp only [Pt.U, Pt.locs, Pt.cells, Pt.slots] at X13 l13 y13 z13 st13 hQ13
      subst l13 y13 z13
      obtain ⟨rfl, Nq13, e13⟩ := hQ13
      have N13 := Fr.app N12 Nq13
      refine ogo (S' := T13.setTop (mkF m 48 #[.val (.ref x_), .val (.ref ca_), .val (.int (0 : Int32)), .val (.int (2 : Int32)), .val .null, .val (.ref ba_12)] [(.int (1 : Int32)), (.ref x_)])) st13 ?_
      obtain ⟨T14, _, X14, rfl, W14, st14⟩ := putFN X13 hx hZ hown w22 Via.refl e13 (pr2.keep K12 nin0) (pr0.keep K12) (Or.inr ⟨w18, rfl, hnm⟩) w2 (ty := .byte) (v' := (.int (1 : Int32))) (by decide) rfl (by decide) (g := (mkF m 48 #[.val (.ref x_), .val (.ref ca_), .val (.int (0 : Int32)), .val (.int (2 : Int32)), .val .null, .val (.ref ba_12)] [(.int (1 : Int32)), (.ref x_)])) rfl rfl (hb hby d10_48)
      have N14 := Fr.snoc X14 N13 pr4
      have F14 := Fld.same W14 (pr2.keep K12 nin0)
      refine ogo (S' := T14.setTop (mkF m 51 #[.val (.ref x_), .val (.ref ca_), .val (.int (0 : Int32)), .val (.int (2 : Int32)), .val .null, .val (.ref ba_12)] [])) st14 ?_
      refine o_aloadN X14 hx (hb hby d10_51) rfl rfl ?_
      refine o_aload X14 hx (hb hby d10_52) rfl rfl ?_
      have c16 := (Fld.other W14 (pr1.keep K12 nin0) (Or.inr (slot_ne (Or.inr w17) (Or.inr w18) (by decide) (t := (.array .byte)) (t' := .byte) (by decide) (by decide))))
      obtain ⟨T15, _, X15, rfl, W15, st15⟩ := putF X14 hx hZ hown (host := "") (Or.inl w21) Via.refl rfl c16 (Exa.wr W14 (pr0.keep K12)) (Or.inr ⟨w17, rfl, hnm⟩) w2 (ty := (.array .byte)) (by decide) rfl rfl (g := (mkF m 54 #[.val (.ref x_), .val (.ref ca_), .val (.int (0 : Int32)), .val (.int (2 : Int32)), .val .null, .val (.ref ba_12)] [(.ref ba_12), (.ref x_)])) rfl rfl (hb hby d10_54)
      have N15 := Fr.snoc X15 N14 pr4
      have F15 := Fld.same W15 c16
      refine ogo (S' := T15.setTop (mkF m 57 #[.val (.ref x_), .val (.ref ca_), .val (.int (0 : Int32)), .val (.int (2 : Int32)), .val .null, .val (.ref ba_12)] [])) st15 ?_
      have c17 := ((p12_1.other W14 (Nat.ne_of_gt (Nat.lt_of_lt_of_le (Nat.lt_of_lt_of_le pr0.lt (Nat.le_refl _)) p12_0))).other W15 (Nat.ne_of_gt (Nat.lt_of_lt_of_le (Nat.lt_of_lt_of_le pr0.lt (Nat.le_refl _)) p12_0)))
      have c18 := (Fld.other W15 F14 (Or.inr (slot_ne (Or.inr w18) (Or.inr w17) (by decide) (t := .byte) (t' := (.array .byte)) (by decide) (by decide))))
      refine oend X15 hlk (v := none) (fun _ => rfl) (fun fs hr => X15.returnOut hx hret (hb hby d10_57) hr) (by decide) (by decide) ?_
      show own_Q_new4e_2 Z _ _ _ _ _ _ _ h0 n0 _ T15.heap _
      exact ⟨ba_12, kb_12, (1 : Int32), (4 : Int32), [(.int (c0_ >>> ((0 : Int32) &&& 31)).toInt8.toInt32), (.int (c0_ >>> ((8 : Int32) &&& 31)).toInt8.toInt32), (.int (c1_ >>> ((0 : Int32) &&& 31)).toInt8.toInt32), (.int (c1_ >>> ((8 : Int32) &&& 31)).toInt8.toInt32)], rfl, N15, ((((Keep.refl h0 [x_]).trans K12 all0).wr W14 (Or.inl (List.mem_of_getElem? (i := 0) rfl))).wr W15 (Or.inl (List.mem_of_getElem? (i := 0) rfl))), (Nat.le_trans (Nat.le_refl _) p12_0), c17, (Exa.wr W15 (Exa.wr W14 (pr0.keep K12))), F15, c18, (Or.inr ⟨rfl, rfl, rfl⟩)⟩
    · obtain ⟨_, _, ⟨T19, L19, kc19, n19⟩, -, X19, ⟨Lc19, hQ19, l19, y19, z19⟩, st19⟩ := Jvm.LawKit.callS X2 hx (y := yM2) hown (mvT hZ w54) (mvT hZ w55) (mvT hZ w56) (mvT hZ w57) (by decide) (backOf (W := 0) (rm_cmp3_2 l Z a0 hw []  ca_ kc_ c0_ c1_ h0 n0 O0 pr3 hc3 hc11) hZ w57 w56 (by decide) (by decide)) (g := (mkF m 36 #[.val (.ref x_), .val (.ref ca_), .val (.int (0 : Int32)), .val (.int (2 : Int32)), .val .null, .unset] [(.int (2 : Int32)), (.int (0 : Int32)), (.ref ca_)])) rfl (by rw [hml]; rfl) (argsL := [(.ref ca_), (.int (0 : Int32)), (.int (2 : Int32))]) (rest := []) (lenOf own_pd4 rfl) rfl (by show 2 * 0 + _ ≤ _; exact Nat.le_of_eq rfl) (hb hby d10_36) (fun _ _ => ⟨rfl, e2, (by decide : 0 + 1 ≤ _), (by decide : 0 + 2 ≤ _)⟩)
      dsimp only [Pt.U, Pt.locs, Pt.cells, Pt.slots] at X19 l19 y19 z19 st19 hQ19
      subst l19 y19 z19
      obtain ⟨ba_19, kb_19, rfl, Nq19, K19, p19_0, p19_1⟩ := hQ19
      have N19 := Fr.app N0 Nq19
      have n0_ba_19 : n0 ≤ ba_19 := Nat.le_trans (Nat.le_trans (Nat.le_of_eq O0.1.symm) O0.2.1) (Nat.le_trans (Nat.le_refl _) p19_0)
      refine ogo (S' := T19.setTop (mkF m 39 #[.val (.ref x_), .val (.ref ca_), .val (.int (0 : Int32)), .val (.int (2 : Int32)), .val .null, .unset] [(.ref ba_19)])) st19 ?_
      refine o_astore X19 hx (l' := #[.val (.ref x_), .val (.ref ca_), .val (.int (0 : Int32)), .val (.int (2 : Int32)), .val .null, .val (.ref ba_19)]) (hb hby d10_39) rfl rfl ?_
      refine o_aloadN X19 hx (hb hby d10_41) rfl rfl ?_
      refine o_aload X19 hx (hb hby d10_42) rfl rfl ?_
      refine o_iloadN X19 hx (hb hby d10_44) rfl ?_
      obtain ⟨_, _, ⟨T20, L20, kc20, n20⟩, -, X20, ⟨Lc20, hQ20, l20, y20, z20⟩, st20⟩ := Jvm.LawKit.callS X19 hx (y := yM3) hown (mvT hZ w61) (mvT hZ w62) (mvT hZ w56) (mvT hZ w63) (by decide) (backOf (W := 1) (rm_codl_2 l Z a0 hw []  ba_19 kb_19 [(.int c0_.toInt8.toInt32), (.int c1_.toInt8.toInt32)] T19.heap n0 (O0.keep K19 all0) p19_1) hZ w63 w56 (by decide) (by decide)) (g := (mkF m 45 #[.val (.ref x_), .val (.ref ca_), .val (.int (0 : Int32)), .val (.int (2 : Int32)), .val .null, .val (.ref ba_19)] [(.int (2 : Int32)), (.ref ba_19), (.ref x_)])) rfl (by rw [hml]; rfl) (argsL := [(.ref ba_19), (.int (2 : Int32))]) (rest := [(.ref x_)]) (lenOf own_pd6 rfl) rfl (by show 2 * 0 + _ ≤ _; exact Nat.le_of_eq rfl) (hb hby d10_45) (fun _ _ => ⟨rfl, rfl, (by decide : 1 + 0 ≤ _), (by decide : 2 + 0 ≤ _)⟩)
      dsimp only [Pt.U, Pt.locs, Pt.cells, Pt.slots] at X20 l20 y20 z20 st20 hQ20
      subst l20 y20 z20
      obtain ⟨rfl, Nq20, e20⟩ := hQ20
      have N20 := Fr.app N19 Nq20
      refine ogo (S' := T20.setTop (mkF m 48 #[.val (.ref x_), .val (.ref ca_), .val (.int (0 : Int32)), .val (.int (2 : Int32)), .val .null, .val (.ref ba_19)] [(.int (0 : Int32)), (.ref x_)])) st20 ?_
      obtain ⟨T21, _, X21, rfl, W21, st21⟩ := putFN X20 hx hZ hown w22 Via.refl e20 (pr2.keep K19 nin0) (pr0.keep K19) (Or.inr ⟨w18, rfl, hnm⟩) w2 (ty := .byte) (v' := (.int (0 : Int32))) (by decide) rfl (by decide) (g := (mkF m 48 #[.val (.ref x_), .val (.ref ca_), .val (.int (0 : Int32)), .val (.int (2 : Int32)), .val .null, .val (.ref ba_19)] [(.int (0 : Int32)), (.ref x_)])) rfl rfl (hb hby d10_48)
      have N21 := Fr.snoc X21 N20 pr4
      have F21 := Fld.same W21 (pr2.keep K19 nin0)
      refine ogo (S' := T21.setTop (mkF m 51 #[.val (.ref x_), .val (.ref ca_), .val (.int (0 : Int32)), .val (.int (2 : Int32)), .val .null, .val (.ref ba_19)] [])) st21 ?_
      refine o_aloadN X21 hx (hb hby d10_51) rfl rfl ?_
      refine o_aload X21 hx (hb hby d10_52) rfl rfl ?_
      have c23 := (Fld.other W21 (pr1.keep K19 nin0) (Or.inr (slot_ne (Or.inr w17) (Or.inr w18) (by decide) (t := (.array .byte)) (t' := .byte) (by decide) (by decide))))
      obtain ⟨T22, _, X22, rfl, W22, st22⟩ := putF X21 hx hZ hown (host := "") (Or.inl w21) Via.refl rfl c23 (Exa.wr W21 (pr0.keep K19)) (Or.inr ⟨w17, rfl, hnm⟩) w2 (ty := (.array .byte)) (by decide) rfl rfl (g := (mkF m 54 #[.val (.ref x_), .val (.ref ca_), .val (.int (0 : Int32)), .val (.int (2 : Int32)), .val .null, .val (.ref ba_19)] [(.ref ba_19), (.ref x_)])) rfl rfl (hb hby d10_54)
      have N22 := Fr.snoc X22 N21 pr4
      have F22 := Fld.same W22 c23
      refine ogo (S' := T22.setTop (mkF m 57 #[.val (.ref x_), .val (.ref ca_), .val (.int (0 : Int32)), .val (.int (2 : Int32)), .val .null, .val (.ref ba_19)] [])) st22 ?_
      have c24 := ((p19_1.other W21 (Nat.ne_of_gt (Nat.lt_of_lt_of_le (Nat.lt_of_lt_of_le pr0.lt (Nat.le_refl _)) p19_0))).other W22 (Nat.ne_of_gt (Nat.lt_of_lt_of_le (Nat.lt_of_lt_of_le pr0.lt (Nat.le_refl _)) p19_0)))
      have c25 := (Fld.other W22 F21 (Or.inr (slot_ne (Or.inr w18) (Or.inr w17) (by decide) (t := .byte) (t' := (.array .byte)) (by decide) (by decide))))
      refine oend X22 hlk (v := none) (fun _ => rfl) (fun fs hr => X22.returnOut hx hret (hb hby d10_57) hr) (by decide) (by decide) ?_
      show own_Q_new4e_2 Z _ _ _ _ _ _ _ h0 n0 _ T22.heap _
      exact ⟨ba_19, kb_19, (0 : Int32), (2 : Int32), [(.int c0_.toInt8.toInt32), (.int c1_.toInt8.toInt32)], rfl, N22, ((((Keep.refl h0 [x_]).trans K19 all0).wr W21 (Or.inl (List.mem_of_getElem? (i := 0) rfl))).wr W22 (Or.inl (List.mem_of_getElem? (i := 0) rfl))), (Nat.le_trans (Nat.le_refl _) p19_0), c24, (Exa.wr W22 (Exa.wr W21 (pr0.keep K19))), F22, c25, (Or.inl ⟨hc3, hc11, rfl, rfl, rfl⟩)⟩
def own_Q_new1e_2 (Z : State) (z_CS : Int32) (v_FMT : Value) (x_ : Addr) (ca_ : Addr) (kc_ : ClassId) (c0_ : Int32) (c1_ : Int32) (h0 : Heap) (n0 : Nat) (v : Option Value) (h : Heap) (L : List Loc) : Prop := ∃ ba_ : Addr, ∃ kb_ : ClassId, ∃ cd_ : Int32, ∃ z_ : Int32, ∃ vs_ : List Value, (v = none) ∧ (Fr n0 L) ∧ (Keep h0 h [x_]) ∧ (h0.size ≤ ba_) ∧ (Arv Z h ba_ kb_ .byte z_ vs_ (.int 0)) ∧ (Exa Z h x_ "java/lang/String") ∧ (Fld Z h x_ "java/lang/String" "value" "[B" (.ref ba_)) ∧ (Fld Z h x_ "java/lang/String" "coder" "B" (.int cd_)) ∧ (own_enc2 c0_ c1_ cd_ z_ vs_)
set_option maxRecDepth 65536 in
set_option maxHeartbeats 40000000 in
theorem rm_new1e_2 (l : Launch) (Z : State) (a0 : Array Value) (hw : ∀ d ∈ tables_1, d.before a0 Z = true) (ws : List Jvm.Cond) (z_CS : Int32) (v_FMT : Value) (x_ : Addr) (ca_ : Addr) (kc_ : ClassId) (c0_ : Int32) (c1_ : Int32) (h0 : Heap) (n0 : Nat) (SB : own_Start Z z_CS v_FMT) (O0 : Old Z n0 h0) (pr0 : Exa Z h0 x_ "java/lang/String") (pr1 : Fld Z h0 x_ "java/lang/String" "value" "[B" .null) (pr2 : Fld Z h0 x_ "java/lang/String" "coder" "B" (.int (0 : Int32))) (pr3 : Arv Z h0 ca_ kc_ .char (2 : Int32) [(.int c0_), (.int c1_)] (.int 0)) (pr4 : n0 ≤ x_) (pr5 : own_c16 c0_) (pr6 : own_c16 c1_) :
    oMet l Z yM10 jdk_42_method_3_code 2 none ws ({ frames := 5, cells := 2, slots := 6, locals := 74 } : Room) 2 6 #[(.ref x_), (.ref ca_)] h0 (own_Q_new1e_2 Z z_CS v_FMT x_ ca_ kc_ c0_ c1_ h0 n0) := by
  refine oenter own_pn2 #[.val (.ref x_), .val (.ref ca_)] (fun m => by first | (simp [entryFrame, mkF, argsToLocals, Value.category]; done) | rfl) ?_
  intro p e s m below meth c s₁ X0 hx hZ hby hml hret hown0 hnm hlk e0
  have hown : s.vm.findClass "java/lang/String" = some m.cls := hown0
  have N0 := Fr.nil n0
  obtain ⟨S_CS, H_CS, S__assertionsDisabled, S_HI_BYTE_SHIFT, S_LO_BYTE_SHIFT, S_FMT, R_FMT⟩ := (id SB)
  have w3 := hw _ (List.mem_of_getElem? (i := 3) rfl)
  have w8 := hw _ (List.mem_of_getElem? (i := 8) rfl)
  have w9 := hw _ (List.mem_of_getElem? (i := 9) rfl)
  have w11 := hw _ (List.mem_of_getElem? (i := 11) rfl)
  refine o_aloadN X0 hx (hb hby d11_0) rfl rfl ?_
  refine o_aloadN X0 hx (hb hby d11_1) rfl rfl ?_
  refine o_iconst X0 hx (0 : Int32) (hb hby d11_2) rfl ?_
  refine o_aloadN X0 hx (hb hby d11_3) rfl rfl ?_
  obtain ⟨cl1, Ar1, -, S1, N1z, -, -⟩ := (id pr3)
  refine ogo (S' := s₁.setTop (mkF m 5 #[.val (.ref x_), .val (.ref ca_)] [(.int (2 : Int32)), (.int (0 : Int32)), (.ref ca_), (.ref x_)])) (fun _ kt_ => X0.arraylength hx (by rw [e0]; exact Ar1.1) (State.isArrayOf_alike hZ.alike Ar1.2.1) (g := (mkF m 4 #[.val (.ref x_), .val (.ref ca_)] [(.ref ca_), (.int (0 : Int32)), (.ref ca_), (.ref x_)])) rfl rfl (hb hby d11_4) _ (by rw [len_of S1 N1z]; exact kt_)) ?_
  refine o_aconst_null X0 hx (hb hby d11_5) ?_
  obtain ⟨_, _, ⟨T2, L2, kc2, n2⟩, -, X2, ⟨Lc2, hQ2, l2, y2, z2⟩, st2⟩ := X0.specialBack hx (y := yM9) rfl hown (mvT hZ w8) (mvT hZ w9) (mvT hZ w11) (by decide) (backOf (W := 0) (rm_new4e_2 l Z a0 hw [] z_CS v_FMT x_ ca_ kc_ c0_ c1_ h0 n0 SB O0 pr0 pr1 pr2 pr3 pr4 pr5 pr6) hZ w11 w3 (by decide) (by decide)) (g := (mkF m 6 #[.val (.ref x_), .val (.ref ca_)] [.null, (.int (2 : Int32)), (.int (0 : Int32)), (.ref ca_), (.ref x_)])) rfl (by rw [hml]; rfl) (Steps.refl _) (a := x_) (argsL := [(.ref ca_), (.int (0 : Int32)), (.int (2 : Int32)), .null]) (rest := []) (lenOf own_pd7 rfl) rfl (by show 2 * 0 + _ ≤ _; exact Nat.le_of_eq rfl) (hb hby d11_6) (fun _ _ => ⟨rfl, e0, (by decide : 0 + 2 ≤ _), (by decide : 0 + 6 ≤ _)⟩)
  dsimp only [Pt.U, Pt.locs, Pt.cells, Pt.slots] at X2 l2 y2 z2 st2 hQ2
  subst l2 y2 z2
  obtain ⟨ba_2, kb_2, cd_2, z_2, vs_2, rfl, Nq2, K2, p2_0, p2_1, p2_2, p2_3, p2_4, p2_5⟩ := hQ2
  have N2 := Fr.app N0 Nq2
  have n0_ba_2 : n0 ≤ ba_2 := Nat.le_trans (Nat.le_trans (Nat.le_of_eq O0.1.symm) O0.2.1) (Nat.le_trans (Nat.le_refl _) p2_0)
  refine otr (S' := T2.setTop (mkF m 9 #[.val (.ref x_), .val (.ref ca_)] [])) st2 ?_
  refine oend X2 hlk (v := none) (fun _ => rfl) (fun fs hr => X2.returnOut hx hret (hb hby d11_9) hr) (by decide) (by decide) ?_
  show own_Q_new1e_2 Z _ _ _ _ _ _ _ h0 n0 _ T2.heap _
  exact ⟨ba_2, kb_2, cd_2, z_2, vs_2, rfl, N2, ((Keep.refl h0 [x_]).trans K2 (allS (Or.inl (List.mem_of_getElem? (i := 0) rfl)) all0)), (Nat.le_trans (Nat.le_refl _) p2_0), p2_1, p2_2, p2_3, p2_4, p2_5⟩
theorem d10_8 : decode jdk_42_method_149_code 8 = .ok (.aload_n 0, 1) := by decide +kernel
theorem d10_9 : decode jdk_42_method_149_code 9 = .ok (.ldc 7, 2) := by decide +kernel
theorem d10_11 : decode jdk_42_method_149_code 11 = .ok (.getfield 9, 3) := by decide +kernel
theorem d10_14 : decode jdk_42_method_149_code 14 = .ok (.putfield 9, 3) := by decide +kernel
theorem d10_17 : decode jdk_42_method_149_code 17 = .ok (.aload_n 0, 1) := by decide +kernel
theorem d10_18 : decode jdk_42_method_149_code 18 = .ok (.ldc 7, 2) := by decide +kernel
theorem d10_20 : decode jdk_42_method_149_code 20 = .ok (.getfield 15, 3) := by decide +kernel
theorem d10_23 : decode jdk_42_method_149_code 23 = .ok (.putfield 15, 3) := by decide +kernel
theorem d10_26 : decode jdk_42_method_149_code 26 = .ok (.return_, 1) := by decide +kernel
def own_Q_new4z (Z : State)  (x_ : Addr) (ca_ : Addr) (h0 : Heap) (n0 : Nat) (v : Option Value) (h : Heap) (L : List Loc) : Prop := ∃ ba_ : Addr, ∃ kb_ : ClassId, (v = none) ∧ (Fr n0 L) ∧ (Keep h0 h [x_]) ∧ (ba_ < h.size) ∧ (Arv Z h ba_ kb_ .byte (0 : Int32) [] (.int 0)) ∧ (Exa Z h x_ "java/lang/String") ∧ (Fld Z h x_ "java/lang/String" "value" "[B" (.ref ba_)) ∧ (Fld Z h x_ "java/lang/String" "coder" "B" (.int (0 : Int32)))
set_option maxRecDepth 65536 in
set_option maxHeartbeats 40000000 in
theorem rm_new4z (l : Launch) (Z : State) (a0 : Array Value) (hw : ∀ d ∈ tables_1, d.before a0 Z = true) (ws : List Jvm.Cond)  (x_ : Addr) (ca_ : Addr) (h0 : Heap) (n0 : Nat) (O0 : Old Z n0 h0) (pr0 : Exa Z h0 x_ "java/lang/String") (pr1 : Fld Z h0 x_ "java/lang/String" "value" "[B" .null) (pr2 : Fld Z h0 x_ "java/lang/String" "coder" "B" (.int (0 : Int32))) (pr3 : n0 ≤ x_) :
    oMetS l Z yM9 jdk_42_method_149_code 6 none ws ({ frames := 1, cells := 4, slots := 8, locals := 12 } : Room) 4 8 #[(.ref x_), (.ref ca_), (.int (0 : Int32)), (.int (0 : Int32)), .null] h0 (own_Q_new4z Z  x_ ca_ h0 n0) := by
  refine oenterS own_pn2 #[.val (.ref x_), .val (.ref ca_), .val (.int (0 : Int32)), .val (.int (0 : Int32)), .val .null, .unset] (fun m => by first | (simp [entryFrame, mkF, argsToLocals, Value.category]; done) | rfl) ?_
  intro p e s m below meth c s₁ X0 hx hZ hby hml hret hown0 hnm hlk e0 hs0 H0 hS0
  have hEL := own_EW hw
  have wS := own_wS hw
  have hown : s.vm.findClass "java/lang/String" = some m.cls := hown0
  have N0 := Fr.nil n0
  have w2 := hw _ (List.mem_of_getElem? (i := 2) rfl)
  have w12 := hw _ (List.mem_of_getElem? (i := 12) rfl)
  have w13 := hw _ (List.mem_of_getElem? (i := 13) rfl)
  have w14 := hw _ (List.mem_of_getElem? (i := 14) rfl)
  have w15 := hw _ (List.mem_of_getElem? (i := 15) rfl)
  have w17 := hw _ (List.mem_of_getElem? (i := 17) rfl)
  have w18 := hw _ (List.mem_of_getElem? (i := 18) rfl)
  have w21 := hw _ (List.mem_of_getElem? (i := 21) rfl)
  have w22 := hw _ (List.mem_of_getElem? (i := 22) rfl)
  refine o_aloadN X0 hx (hb hby d10_0) rfl rfl ?_
  obtain ⟨T1, X1, e1, st1⟩ := initO X0 hx hZ hown w12 w13 w14 e0 (g := (mkF m 1 #[.val (.ref x_), .val (.ref ca_), .val (.int (0 : Int32)), .val (.int (0 : Int32)), .val .null, .unset] [(.ref x_)])) rfl (by rw [hml]; rfl) rfl (hb hby d10_1) (by decide) (W := 0) (by show 2 * 0 + _ ≤ _; exact Nat.le_of_eq rfl) (by decide)
  refine ogo (S' := T1.setTop (mkF m 4 #[.val (.ref x_), .val (.ref ca_), .val (.int (0 : Int32)), .val (.int (0 : Int32)), .val .null, .unset] [])) st1 ?_
  refine o_iloadN X1 hx (hb hby d10_4) rfl ?_
  refine o_ifNo X1 hx (hb hby d10_5) (teq (by decide : (0 : Int32) = (0 : Int32))).2 ?_
  refine o_aloadN X1 hx (hb hby d10_8) rfl rfl ?_
  obtain ⟨a2, T2, _, ks2, b2, kk2, X2, rfl, E2, hS2, hk2, hZ2, hown2, Ex2, Fc2, Fv2, Va2, la2, lb2, C2, -, Nx2, st2⟩ := ldcCH X1 hx hZ hown w15 wS e1 hS0 (Nat.zero_le _) hEL (List.mem_of_getElem? (i := 0) rfl) H0 (vs := []) (z := (0 : Int32)) ⟨by decide, by decide⟩ (by decide) rfl (g := (mkF m 9 #[.val (.ref x_), .val (.ref ca_), .val (.int (0 : Int32)), .val (.int (0 : Int32)), .val .null, .unset] [(.ref x_)])) rfl (hb hby d10_9) (n := 0) (by decide) (by decide) (by decide) (by decide)
  have H3 := C2.1
  have c4 := (CHr.safe C2 (Nat.lt_of_lt_of_le pr0.lt (Nat.le_refl _)) (own_safe hZ.alike pr0 pr1))
  refine ogo (S' := T2.setTop (mkF m 11 #[.val (.ref x_), .val (.ref ca_), .val (.int (0 : Int32)), .val (.int (0 : Int32)), .val .null, .unset] [(.ref a2), (.ref x_)])) st2 ?_
  obtain ⟨T5, X5, e5, st5⟩ := getF X2 hx hZ2 hown2 (host := "") (Or.inl w21) Via.refl rfl Fv2 (g := (mkF m 11 #[.val (.ref x_), .val (.ref ca_), .val (.int (0 : Int32)), .val (.int (0 : Int32)), .val .null, .unset] [(.ref a2), (.ref x_)])) rfl rfl (hb hby d10_11)
  refine ogo (S' := T5.setTop (mkF m 14 #[.val (.ref x_), .val (.ref ca_), .val (.int (0 : Int32)), .val (.int (0 : Int32)), .val .null, .unset] [(.ref b2), (.ref x_)])) st5 ?_
  obtain ⟨T6, _, X6, rfl, W6, st6⟩ := putF X5 hx hZ2 hown2 (host := "") (Or.inl w21) Via.refl e5 (Fld.ext E2 pr1) (Exa.ext E2 pr0) (Or.inr ⟨w17, rfl, hnm⟩) w2 (ty := (.array .byte)) (by decide) rfl rfl (g := (mkF m 14 #[.val (.ref x_), .val (.ref ca_), .val (.int (0 : Int32)), .val (.int (0 : Int32)), .val .null, .unset] [(.ref b2), (.ref x_)])) rfl rfl (hb hby d10_14)
  have N6 := Fr.snoc X6 N0 pr3
  have H7 := CHv.wr W6 c4 H3
  have F6 := Fld.same W6 (Fld.ext E2 pr1)
  refine ogo (S' := T6.setTop (mkF m 17 #[.val (.ref x_), .val (.ref ca_), .val (.int (0 : Int32)), .val (.int (0 : Int32)), .val .null, .unset] [])) st6 ?_
  refine o_aloadN X6 hx (hb hby d10_17) rfl rfl ?_
  obtain ⟨a8, T8, _, ks8, b8, kk8, X8, rfl, E8, hS8, hk8, hZ8, hown8, Ex8, Fc8, Fv8, Va8, la8, lb8, C8, -, Nx8, st8⟩ := ldcCH X6 hx hZ2 hown2 w15 wS rfl hS2 (Nat.le_trans hk2 (Keep.of_wr W6).1) hEL (List.mem_of_getElem? (i := 0) rfl) H7 (vs := []) (z := (0 : Int32)) ⟨by decide, by decide⟩ (by decide) rfl (g := (mkF m 18 #[.val (.ref x_), .val (.ref ca_), .val (.int (0 : Int32)), .val (.int (0 : Int32)), .val .null, .unset] [(.ref x_)])) rfl (hb hby d10_18) (n := 0) (by decide) (by decide) (by decide) (by decide)
  have H9 := C8.1
  have c10 := (CHr.safe C8 (Nat.lt_of_lt_of_le pr0.lt (Nat.le_trans E2.1 (Keep.of_wr W6).1)) (Safe.wr W6 c4 H3 c4))
  refine ogo (S' := T8.setTop (mkF m 20 #[.val (.ref x_), .val (.ref ca_), .val (.int (0 : Int32)), .val (.int (0 : Int32)), .val .null, .unset] [(.ref a8), (.ref x_)])) st8 ?_
  obtain ⟨T11, X11, e11, st11⟩ := getF X8 hx hZ8 hown8 (host := "") (Or.inl w22) Via.refl rfl Fc8 (g := (mkF m 20 #[.val (.ref x_), .val (.ref ca_), .val (.int (0 : Int32)), .val (.int (0 : Int32)), .val .null, .unset] [(.ref a8), (.ref x_)])) rfl rfl (hb hby d10_20)
  refine ogo (S' := T11.setTop (mkF m 23 #[.val (.ref x_), .val (.ref ca_), .val (.int (0 : Int32)), .val (.int (0 : Int32)), .val .null, .unset] [(.int (0 : Int32)), (.ref x_)])) st11 ?_
  have c13 := (Fld.ext E8 (Fld.other W6 (Fld.ext E2 pr2) (Or.inr (slot_ne (Or.inr w18) (Or.inr w17) (by decide) (t := .byte) (t' := (.array .byte)) (by decide) (by decide)))))
  obtain ⟨T12, _, X12, rfl, W12, st12⟩ := putFN X11 hx hZ8 hown8 w22 Via.refl e11 c13 (Exa.ext E8 (Exa.wr W6 (Exa.ext E2 pr0))) (Or.inr ⟨w18, rfl, hnm⟩) w2 (ty := .byte) (v' := (.int (0 : Int32))) (by decide) rfl (by decide) (g := (mkF m 23 #[.val (.ref x_), .val (.ref ca_), .val (.int (0 : Int32)), .val (.int (0 : Int32)), .val .null, .unset] [(.int (0 : Int32)), (.ref x_)])) rfl rfl (hb hby d10_23)
  have N12 := Fr.snoc X12 N6 pr3
  have H14 := CHv.wr W12 c10 H9
  have F12 := Fld.same W12 c13
  refine ogo (S' := T12.setTop (mkF m 26 #[.val (.ref x_), .val (.ref ca_), .val (.int (0 : Int32)), .val (.int (0 : Int32)), .val .null, .unset] [])) st12 ?_
  have c15 := (((Va2.other W6 (Ne.symm (Nx2 _ c4).2)).ext E8).other W12 (Ne.symm (Nx2 _ c4).2))
  have c16 := (Fld.other W12 (Fld.ext E8 F6) (Or.inr (slot_ne (Or.inr w17) (Or.inr w18) (by decide) (t := (.array .byte)) (t' := .byte) (by decide) (by decide))))
  refine oendS X12 hlk hS8 (Nat.le_trans hk8 (Keep.of_wr W12).1) rfl hZ8 hEL hs0 (CHr.trans (CHr.trans (CHr.trans (CHr.trans (CHr.refl H0) C2) (CHr.wr W6 c4 H3)) C8) (CHr.wr W12 c10 H9)) (v := none) (fun _ => rfl) (fun fs hr => X12.returnOut hx hret (hb hby d10_26) hr) (by decide) (by decide) ?_
  show own_Q_new4z Z _ _ h0 n0 _ T12.heap _
  exact ⟨b2, kk2, rfl, N12, (((((Keep.refl h0 [x_]).ext E2).wr W6 (Or.inl (List.mem_of_getElem? (i := 0) rfl))).ext E8).wr W12 (Or.inl (List.mem_of_getElem? (i := 0) rfl))), (Nat.lt_of_lt_of_le lb2 (Nat.le_trans (Nat.le_trans (Keep.of_wr W6).1 E8.1) (Keep.of_wr W12).1)), c15, (Exa.wr W12 (Exa.ext E8 (Exa.wr W6 (Exa.ext E2 pr0)))), c16, F12⟩
def own_Q_new1z (Z : State)  (x_ : Addr) (ca_ : Addr) (kc_ : ClassId) (h0 : Heap) (n0 : Nat) (v : Option Value) (h : Heap) (L : List Loc) : Prop := ∃ ba_ : Addr, ∃ kb_ : ClassId, (v = none) ∧ (Fr n0 L) ∧ (Keep h0 h [x_]) ∧ (ba_ < h.size) ∧ (Arv Z h ba_ kb_ .byte (0 : Int32) [] (.int 0)) ∧ (Exa Z h x_ "java/lang/String") ∧ (Fld Z h x_ "java/lang/String" "value" "[B" (.ref ba_)) ∧ (Fld Z h x_ "java/lang/String" "coder" "B" (.int (0 : Int32)))
set_option maxRecDepth 65536 in
set_option maxHeartbeats 40000000 in
theorem rm_new1z (l : Launch) (Z : State) (a0 : Array Value) (hw : ∀ d ∈ tables_1, d.before a0 Z = true) (ws : List Jvm.Cond)  (x_ : Addr) (ca_ : Addr) (kc_ : ClassId) (h0 : Heap) (n0 : Nat) (O0 : Old Z n0 h0) (pr0 : Exa Z h0 x_ "java/lang/String") (pr1 : Fld Z h0 x_ "java/lang/String" "value" "[B" .null) (pr2 : Fld Z h0 x_ "java/lang/String" "coder" "B" (.int (0 : Int32))) (pr3 : n0 ≤ x_) (pr4 : Arv Z h0 ca_ kc_ .char (0 : Int32) [] (.int 0)) :
    oMetS l Z yM10 jdk_42_method_3_code 2 none ws ({ frames := 2, cells := 4, slots := 8, locals := 29 } : Room) 4 8 #[(.ref x_), (.ref ca_)] h0 (own_Q_new1z Z  x_ ca_ kc_ h0 n0) := by
  refine oenterS own_pn2 #[.val (.ref x_), .val (.ref ca_)] (fun m => by first | (simp [entryFrame, mkF, argsToLocals, Value.category]; done) | rfl) ?_
  intro p e s m below meth c s₁ X0 hx hZ hby hml hret hown0 hnm hlk e0 hs0 H0 hS0
  have hEL := own_EW hw
  have wS := own_wS hw
  have hown : s.vm.findClass "java/lang/String" = some m.cls := hown0
  have N0 := Fr.nil n0
  have w3 := hw _ (List.mem_of_getElem? (i := 3) rfl)
  have w8 := hw _ (List.mem_of_getElem? (i := 8) rfl)
  have w9 := hw _ (List.mem_of_getElem? (i := 9) rfl)
  have w11 := hw _ (List.mem_of_getElem? (i := 11) rfl)
  refine o_aloadN X0 hx (hb hby d11_0) rfl rfl ?_
  refine o_aloadN X0 hx (hb hby d11_1) rfl rfl ?_
  refine o_iconst X0 hx (0 : Int32) (hb hby d11_2) rfl ?_
  refine o_aloadN X0 hx (hb hby d11_3) rfl rfl ?_
  obtain ⟨cl1, Ar1, -, S1, N1z, -, -⟩ := (id pr4)
  refine ogo (S' := s₁.setTop (mkF m 5 #[.val (.ref x_), .val (.ref ca_)] [(.int (0 : Int32)), (.int (0 : Int32)), (.ref ca_), (.ref x_)])) (fun _ kt_ => X0.arraylength hx (by rw [e0]; exact Ar1.1) (State.isArrayOf_alike hZ.alike Ar1.2.1) (g := (mkF m 4 #[.val (.ref x_), .val (.ref ca_)] [(.ref ca_), (.int (0 : Int32)), (.ref ca_), (.ref x_)])) rfl rfl (hb hby d11_4) _ (by rw [len_of S1 N1z]; exact kt_)) ?_
  refine o_aconst_null X0 hx (hb hby d11_5) ?_
  obtain ⟨_, _, ⟨T2, L2, kc2, n2⟩, -, X2, hSi2, hgr2, ⟨Lc2, hQ2, l2, y2, z2, C2⟩, st2⟩ := X0.specialBackS hx (y := yM9) rfl hown (mvT hZ w8) (mvT hZ w9) (mvT hZ w11) (by decide) (backOfSH (W := 0) (rm_new4z l Z a0 hw []  x_ ca_ h0 n0 O0 pr0 pr1 pr2 pr3) hZ w11 w3 (by decide) (by decide) hEL H0) (g := (mkF m 6 #[.val (.ref x_), .val (.ref ca_)] [.null, (.int (0 : Int32)), (.int (0 : Int32)), (.ref ca_), (.ref x_)])) rfl (by rw [hml]; rfl) (Steps.refl _) (a := x_) (argsL := [(.ref ca_), (.int (0 : Int32)), (.int (0 : Int32)), .null]) (rest := []) (lenOf own_pd7 rfl) rfl (by show 2 * 0 + _ ≤ _; exact Nat.le_of_eq rfl) (hb hby d11_6) (fun _ _ => ⟨rfl, e0, (by decide : 0 + 4 ≤ _), (by decide : 0 + 8 ≤ _)⟩)
  dsimp only [Pt.U, Pt.locs, Pt.cells, Pt.slots] at X2 l2 y2 z2 st2 hQ2 hSi2 hgr2 C2
  subst l2 y2 z2
  obtain ⟨ba_2, kb_2, rfl, Nq2, K2, p2_0, p2_1, p2_2, p2_3, p2_4⟩ := hQ2
  have N2 := Fr.app N0 Nq2
  have X2 : Stand p l e ({ frames := 2, cells := 4, slots := 8, locals := 29 } : Room) (s.setVm T2.vm) m #[(.ref x_), (.ref ca_)] below meth c T2 _ _ _ := X2
  have hS2 := foldS hS0 (by rw [e0]; exact (Nat.zero_le _)) hSi2 hgr2
  have hZ2 : Z.Warmed39 T2.vm := State.Warmed39.trans (t := s) hZ hSi2.1
  have hown2 : T2.vm.findClass "java/lang/String" = some m.cls := by rw [hSi2.1.alike.findClass]; exact hown
  have H3 := C2.1
  refine otr (S' := T2.setTop (mkF m 9 #[.val (.ref x_), .val (.ref ca_)] [])) st2 ?_
  refine oendS X2 hlk hS2 (Nat.le_refl _) rfl hZ2 hEL hs0 (CHr.trans (CHr.refl H0) C2) (v := none) (fun _ => rfl) (fun fs hr => X2.returnOut hx hret (hb hby d11_9) hr) (by decide) (by decide) ?_
  show own_Q_new1z Z _ _ _ h0 n0 _ T2.heap _
  exact ⟨ba_2, kb_2, rfl, N2, ((Keep.refl h0 [x_]).trans K2 (allS (Or.inl (List.mem_of_getElem? (i := 0) rfl)) all0)), (Nat.lt_of_lt_of_le p2_0 (Nat.le_refl _)), p2_1, p2_2, p2_3, p2_4⟩
theorem d12_0 : decode jdk_42_method_152_code 0 = .ok (.getstatic 38, 3) := by decide +kernel
theorem d12_3 : decode jdk_42_method_152_code 3 = .ok (.ifCond .eq 10, 3) := by decide +kernel
theorem d12_6 : decode jdk_42_method_152_code 6 = .ok (.aload_n 0, 1) := by decide +kernel
theorem d12_7 : decode jdk_42_method_152_code 7 = .ok (.getfield 15, 3) := by decide +kernel
theorem d12_10 : decode jdk_42_method_152_code 10 = .ok (.goto 4, 3) := by decide +kernel
theorem d12_14 : decode jdk_42_method_152_code 14 = .ok (.ireturn, 1) := by decide +kernel
def own_Q_coder (Z : State) (z_CS : Int32) (v_FMT : Value) (x_ : Addr) (h0 : Heap) (n0 : Nat) (v : Option Value) (h : Heap) (L : List Loc) : Prop := (v = some (.int (0 : Int32))) ∧ (Fr n0 L) ∧ (h = h0)
abbrev yM11 : MethodName := ⟨"java/lang/String", "coder", "()B"⟩
set_option maxRecDepth 65536 in
set_option maxHeartbeats 40000000 in
theorem rm_coder (l : Launch) (Z : State) (a0 : Array Value) (hw : ∀ d ∈ tables_1, d.before a0 Z = true) (ws : List Jvm.Cond) (z_CS : Int32) (v_FMT : Value) (x_ : Addr) (h0 : Heap) (n0 : Nat) (SB : own_Start Z z_CS v_FMT) (O0 : Old Z n0 h0) (pr0 : Fld Z h0 x_ "java/lang/String" "coder" "B" (.int (0 : Int32))) :
    oMet l Z yM11 jdk_42_method_152_code 1 (some .byte) ws ({ frames := 0, cells := 0, slots := 0, locals := 0 } : Room) 0 0 #[(.ref x_)] h0 (own_Q_coder Z z_CS v_FMT x_ h0 n0) := by
  refine oenter own_pn2 #[.val (.ref x_)] (fun m => by first | (simp [entryFrame, mkF, argsToLocals, Value.category]; done) | rfl) ?_
  intro p e s m below meth c s₁ X0 hx hZ hby hml hret hown0 hnm hlk e0
  have hown : s.vm.findClass "java/lang/String" = some m.cls := hown0
  have N0 := Fr.nil n0
  obtain ⟨S_CS, H_CS, S__assertionsDisabled, S_HI_BYTE_SHIFT, S_LO_BYTE_SHIFT, S_FMT, R_FMT⟩ := (id SB)
  have w22 := hw _ (List.mem_of_getElem? (i := 22) rfl)
  have w49 := hw _ (List.mem_of_getElem? (i := 49) rfl)
  obtain ⟨T1, X1, e1, st1⟩ := getS2 X0 hx hZ hown (host := "") (Or.inl w49) Via.refl e0 (Sta.ext O0.2 S_CS) (g := (mkF m 0 #[.val (.ref x_)] [])) rfl (hb hby d12_0)
  refine ogo (S' := T1.setTop (mkF m 3 #[.val (.ref x_)] [(.int z_CS)])) st1 ?_
  refine o_ifNo X1 hx (hb hby d12_3) (feq H_CS).1 ?_
  refine o_aloadN X1 hx (hb hby d12_6) rfl rfl ?_
  obtain ⟨T2, X2, e2, st2⟩ := getF X1 hx hZ hown (host := "") (Or.inl w22) Via.refl e1 pr0 (g := (mkF m 7 #[.val (.ref x_)] [(.ref x_)])) rfl rfl (hb hby d12_7)
  refine ogo (S' := T2.setTop (mkF m 10 #[.val (.ref x_)] [(.int (0 : Int32))])) st2 ?_
  refine o_goto X2 hx 14 (hb hby d12_10) (by decide) (by decide) ?_
  refine oend X2 hlk (v := some (.int (0 : Int32))) (fun h => by rw [hret] at h; cases h) (fun fs hr => retN X2 hx (t := .byte) hret (by simp) (hb hby d12_14) hr) (by decide) (by decide) ?_
  show own_Q_coder Z _ _ _ h0 n0 _ T2.heap _
  rw [e2]
  exact ⟨rfl, N0, rfl⟩
theorem own_pd8 : parseMethodDescriptor "()B" = some ⟨[], some .byte⟩ := by decide +kernel
theorem d13_0 : decode jdk_42_method_54_code 0 = .ok (.aload_n 0, 1) := by decide +kernel
theorem d13_1 : decode jdk_42_method_54_code 1 = .ok (.getfield 9, 3) := by decide +kernel
theorem d13_4 : decode jdk_42_method_54_code 4 = .ok (.arraylength, 1) := by decide +kernel
theorem d13_5 : decode jdk_42_method_54_code 5 = .ok (.aload_n 0, 1) := by decide +kernel
theorem d13_6 : decode jdk_42_method_54_code 6 = .ok (.invokevirtual 335, 3) := by decide +kernel
theorem d13_9 : decode jdk_42_method_54_code 9 = .ok (.ishr, 1) := by decide +kernel
theorem d13_10 : decode jdk_42_method_54_code 10 = .ok (.ireturn, 1) := by decide +kernel
def own_Q_len_0 (Z : State) (z_CS : Int32) (v_FMT : Value) (x_ : Addr) (ba_ : Addr) (kb_ : ClassId) (vs_ : List Value) (h0 : Heap) (n0 : Nat) (v : Option Value) (h : Heap) (L : List Loc) : Prop := (v = some (.int (0 : Int32))) ∧ (Fr n0 L) ∧ (h = h0)
abbrev yM12 : MethodName := ⟨"java/lang/String", "length", "()I"⟩
set_option maxRecDepth 65536 in
set_option maxHeartbeats 40000000 in
theorem rm_len_0 (l : Launch) (Z : State) (a0 : Array Value) (hw : ∀ d ∈ tables_1, d.before a0 Z = true) (ws : List Jvm.Cond) (z_CS : Int32) (v_FMT : Value) (x_ : Addr) (ba_ : Addr) (kb_ : ClassId) (vs_ : List Value) (h0 : Heap) (n0 : Nat) (SB : own_Start Z z_CS v_FMT) (O0 : Old Z n0 h0) (pr0 : Exa Z h0 x_ "java/lang/String") (pr1 : Fld Z h0 x_ "java/lang/String" "coder" "B" (.int (0 : Int32))) (pr2 : Fld Z h0 x_ "java/lang/String" "value" "[B" (.ref ba_)) (pr3 : Arv Z h0 ba_ kb_ .byte (0 : Int32) vs_ (.int 0)) :
    oMet l Z yM12 jdk_42_method_54_code 1 (some .int) ws ({ frames := 1, cells := 0, slots := 0, locals := 13 } : Room) 0 0 #[(.ref x_)] h0 (own_Q_len_0 Z z_CS v_FMT x_ ba_ kb_ vs_ h0 n0) := by
  refine oenter own_pn2 #[.val (.ref x_)] (fun m => by first | (simp [entryFrame, mkF, argsToLocals, Value.category]; done) | rfl) ?_
  intro p e s m below meth c s₁ X0 hx hZ hby hml hret hown0 hnm hlk e0
  have hown : s.vm.findClass "java/lang/String" = some m.cls := hown0
  have N0 := Fr.nil n0
  obtain ⟨S_CS, H_CS, S__assertionsDisabled, S_HI_BYTE_SHIFT, S_LO_BYTE_SHIFT, S_FMT, R_FMT⟩ := (id SB)
  have w3 := hw _ (List.mem_of_getElem? (i := 3) rfl)
  have w21 := hw _ (List.mem_of_getElem? (i := 21) rfl)
  have w44 := hw _ (List.mem_of_getElem? (i := 44) rfl)
  have w45 := hw _ (List.mem_of_getElem? (i := 45) rfl)
  have w46 := hw _ (List.mem_of_getElem? (i := 46) rfl)
  have w47 := hw _ (List.mem_of_getElem? (i := 47) rfl)
  have w48 := hw _ (List.mem_of_getElem? (i := 48) rfl)
  refine o_aloadN X0 hx (hb hby d13_0) rfl rfl ?_
  obtain ⟨T1, X1, e1, st1⟩ := getF X0 hx hZ hown (host := "") (Or.inl w21) Via.refl e0 pr2 (g := (mkF m 1 #[.val (.ref x_)] [(.ref x_)])) rfl rfl (hb hby d13_1)
  refine ogo (S' := T1.setTop (mkF m 4 #[.val (.ref x_)] [(.ref ba_)])) st1 ?_
  obtain ⟨cl2, Ar2, -, S2, N2z, -, -⟩ := (id pr3)
  refine ogo (S' := T1.setTop (mkF m 5 #[.val (.ref x_)] [(.int (0 : Int32))])) (fun _ kt_ => X1.arraylength hx (by rw [e1]; exact Ar2.1) (State.isArrayOf_alike hZ.alike Ar2.2.1) (g := (mkF m 4 #[.val (.ref x_)] [(.ref ba_)])) rfl rfl (hb hby d13_4) _ (by rw [len_of S2 N2z]; exact kt_)) ?_
  refine o_aloadN X1 hx (hb hby d13_5) rfl rfl ?_
  obtain ⟨cq3, kq3, q3a, q3b, q3c⟩ := isOf hZ e1 pr0
  obtain ⟨_, _, ⟨T3, L3, kc3, n3⟩, -, X3, ⟨Lc3, hQ3, l3, y3, z3⟩, st3⟩ := X1.virtualBack hx (y := yM11) (z := yM11) hown (mvT hZ w44) (mvT hZ w45) (notFace_of_selects (args := #[]) (mvT hZ w47)) (mvT hZ w47) (mvT hZ w46) (by decide) (backOf (W := 1) (rm_coder l Z a0 hw [] z_CS v_FMT x_ h0 n0 SB O0 pr1) hZ w48 w3 (by decide) (by decide)) q3a q3c (g := (mkF m 6 #[.val (.ref x_)] [(.ref x_), (.int (0 : Int32))])) rfl (by rw [hml]; rfl) (Steps.refl _) (argsL := []) (rest := [(.int (0 : Int32))]) (lenOf own_pd8 rfl) rfl (by show 2 * 0 + _ ≤ _; exact Nat.le_of_eq rfl) (hb hby d13_6) (fun _ _ => ⟨rfl, e1, (by decide : 0 + 0 ≤ _), (by decide : 0 + 0 ≤ _)⟩)
  dsimp only [Pt.U, Pt.locs, Pt.cells, Pt.slots] at X3 l3 y3 z3 st3 hQ3
  subst l3 y3 z3
  obtain ⟨rfl, Nq3, e3⟩ := hQ3
  have N3 := Fr.app N0 Nq3
  refine otr (S' := T3.setTop (mkF m 9 #[.val (.ref x_)] [(.int (0 : Int32)), (.int (0 : Int32))])) st3 ?_
  refine o_ishr X3 hx (hb hby d13_9) ?_
  refine oend X3 hlk (v := some (.int (0 : Int32))) (fun h => by rw [hret] at h; cases h) (fun fs hr => retOut X3 hx (t := .int) (i := .ireturn) hret rfl (Or.inl ⟨rfl, Or.inl rfl, _, rfl⟩) (hb hby d13_10) hr) (by decide) (by decide) ?_
  show own_Q_len_0 Z _ _ _ _ _ _ h0 n0 _ T3.heap _
  rw [e3]
  exact ⟨rfl, N3, rfl⟩
theorem own_pd9 : parseMethodDescriptor "()I" = some ⟨[], some .int⟩ := by decide +kernel
theorem d14_0 : decode prog_8_method_4_code 0 = .ok (.aload_n 0, 1) := by decide +kernel
theorem d14_1 : decode prog_8_method_4_code 1 = .ok (.getfield 25, 3) := by decide +kernel
theorem d14_4 : decode prog_8_method_4_code 4 = .ok (.aload_n 0, 1) := by decide +kernel
theorem d14_5 : decode prog_8_method_4_code 5 = .ok (.getfield 7, 3) := by decide +kernel
theorem d14_8 : decode prog_8_method_4_code 8 = .ok (.invokevirtual 29, 3) := by decide +kernel
theorem d14_11 : decode prog_8_method_4_code 11 = .ok (.if_icmp .ge 22, 3) := by decide +kernel
theorem d14_33 : decode prog_8_method_4_code 33 = .ok (.iconst 0, 1) := by decide +kernel
theorem d14_34 : decode prog_8_method_4_code 34 = .ok (.istore_n 2, 1) := by decide +kernel
theorem d14_35 : decode prog_8_method_4_code 35 = .ok (.iload_n 2, 1) := by decide +kernel
theorem d14_36 : decode prog_8_method_4_code 36 = .ok (.ifCond .eq 13, 3) := by decide +kernel
theorem d14_49 : decode prog_8_method_4_code 49 = .ok (.iload_n 2, 1) := by decide +kernel
theorem d14_50 : decode prog_8_method_4_code 50 = .ok (.ireturn, 1) := by decide +kernel
def own_Q_skipZ (Z : State) (z_CS : Int32) (v_FMT : Value) (t_ : Addr) (x_ : Addr) (ba_ : Addr) (kb_ : ClassId) (u_ : Int32) (h0 : Heap) (n0 : Nat) (v : Option Value) (h : Heap) (L : List Loc) : Prop := (v = some (.int (0 : Int32))) ∧ (Fr n0 L) ∧ (h = h0)
abbrev yM13 : MethodName := ⟨"com/example/rowfold/rowfold/Literal", "skip", "(C)Z"⟩
set_option maxRecDepth 65536 in
set_option maxHeartbeats 40000000 in
theorem rm_skipZ (l : Launch) (Z : State) (a0 : Array Value) (hw : ∀ d ∈ tables_1, d.before a0 Z = true) (ws : List Jvm.Cond) (z_CS : Int32) (v_FMT : Value) (t_ : Addr) (x_ : Addr) (ba_ : Addr) (kb_ : ClassId) (u_ : Int32) (h0 : Heap) (n0 : Nat) (SB : own_Start Z z_CS v_FMT) (O0 : Old Z n0 h0) (pr0 : Exa Z h0 t_ "com/example/rowfold/rowfold/Literal") (pr1 : Fld Z h0 t_ "com/example/rowfold/rowfold/Literal" "text" "Ljava/lang/String;" (.ref x_)) (pr2 : Fld Z h0 t_ "com/example/rowfold/rowfold/Literal" "at" "I" (.int (0 : Int32))) (pr3 : Exa Z h0 x_ "java/lang/String") (pr4 : Fld Z h0 x_ "java/lang/String" "coder" "B" (.int (0 : Int32))) (pr5 : Fld Z h0 x_ "java/lang/String" "value" "[B" (.ref ba_)) (pr6 : Arv Z h0 ba_ kb_ .byte (0 : Int32) [] (.int 0)) :
    oMet l Z yM13 prog_8_method_4_code 3 (some .boolean) ws ({ frames := 2, cells := 0, slots := 0, locals := 26 } : Room) 0 0 #[(.ref t_), (.int u_)] h0 (own_Q_skipZ Z z_CS v_FMT t_ x_ ba_ kb_ u_ h0 n0) := by
  refine oenter own_pn0 #[.val (.ref t_), .val (.int u_), .unset] (fun m => by first | (simp [entryFrame, mkF, argsToLocals, Value.category]; done) | rfl) ?_
  intro p e s m below meth c s₁ X0 hx hZ hby hml hret hown0 hnm hlk e0
  have hown : s.vm.findClass "com/example/rowfold/rowfold/Literal" = some m.cls := hown0
  have N0 := Fr.nil n0
  obtain ⟨S_CS, H_CS, S__assertionsDisabled, S_HI_BYTE_SHIFT, S_LO_BYTE_SHIFT, S_FMT, R_FMT⟩ := (id SB)
  have w3 := hw _ (List.mem_of_getElem? (i := 3) rfl)
  have w30 := hw _ (List.mem_of_getElem? (i := 30) rfl)
  have w37 := hw _ (List.mem_of_getElem? (i := 37) rfl)
  have w39 := hw _ (List.mem_of_getElem? (i := 39) rfl)
  have w40 := hw _ (List.mem_of_getElem? (i := 40) rfl)
  have w41 := hw _ (List.mem_of_getElem? (i := 41) rfl)
  have w42 := hw _ (List.mem_of_getElem? (i := 42) rfl)
  have w43 := hw _ (List.mem_of_getElem? (i := 43) rfl)
  refine o_aloadN X0 hx (hb hby d14_0) rfl rfl ?_
  obtain ⟨T1, X1, e1, st1⟩ := getF X0 hx hZ hown (host := "") (Or.inl w37) Via.refl e0 pr2 (g := (mkF m 1 #[.val (.ref t_), .val (.int u_), .unset] [(.ref t_)])) rfl rfl (hb hby d14_1)
  refine ogo (S' := T1.setTop (mkF m 4 #[.val (.ref t_), .val (.int u_), .unset] [(.int (0 : Int32))])) st1 ?_
  refine o_aloadN X1 hx (hb hby d14_4) rfl rfl ?_
  obtain ⟨T2, X2, e2, st2⟩ := getF X1 hx hZ hown (host := "") (Or.inl w30) Via.refl e1 pr1 (g := (mkF m 5 #[.val (.ref t_), .val (.int u_), .unset] [(.ref t_), (.int (0 : Int32))])) rfl rfl (hb hby d14_5)
  refine ogo (S' := T2.setTop (mkF m 8 #[.val (.ref t_), .val (.int u_), .unset] [(.ref x_), (.int (0 : Int32))])) st2 ?_
  obtain ⟨cq3, kq3, q3a, q3b, q3c⟩ := isOf hZ e2 pr3
  obtain ⟨_, _, ⟨T3, L3, kc3, n3⟩, -, X3, ⟨Lc3, hQ3, l3, y3, z3⟩, st3⟩ := X2.virtualBack hx (y := yM12) (z := yM12) hown (mvT hZ w39) (mvT hZ w40) (notFace_of_selects (args := #[]) (mvT hZ w42)) (mvT hZ w42) (mvT hZ w41) (by decide) (backOf (W := 1) (rm_len_0 l Z a0 hw [] z_CS v_FMT x_ ba_ kb_ [] h0 n0 SB O0 pr3 pr4 pr5 pr6) hZ w43 w3 (by decide) (by decide)) q3a q3c (g := (mkF m 8 #[.val (.ref t_), .val (.int u_), .unset] [(.ref x_), (.int (0 : Int32))])) rfl (by rw [hml]; rfl) (Steps.refl _) (argsL := []) (rest := [(.int (0 : Int32))]) (lenOf own_pd9 rfl) rfl (by show 2 * 0 + _ ≤ _; exact Nat.le_of_eq rfl) (hb hby d14_8) (fun _ _ => ⟨rfl, e2, (by decide : 0 + 0 ≤ _), (by decide : 0 + 0 ≤ _)⟩)
  dsimp only [Pt.U, Pt.locs, Pt.cells, Pt.slots] at X3 l3 y3 z3 st3 hQ3
  subst l3 y3 z3
  obtain ⟨rfl, Nq3, e3⟩ := hQ3
  have N3 := Fr.app N0 Nq3
  refine otr (S' := T3.setTop (mkF m 11 #[.val (.ref t_), .val (.int u_), .unset] [(.int (0 : Int32)), (.int (0 : Int32))])) st3 ?_
  refine o_icmpYes X3 hx 33 (hb hby d14_11) (flt (by decide : ¬ ((0 : Int32) < (0 : Int32)))).2.1 (by decide) (by decide) ?_
  refine o_iconst X3 hx (0 : Int32) (hb hby d14_33) rfl ?_
  refine o_istoreN X3 hx (l' := #[.val (.ref t_), .val (.int u_), .val (.int (0 : Int32))]) (hb hby d14_34) rfl ?_
  refine o_iloadN X3 hx (hb hby d14_35) rfl ?_
  refine o_ifYes X3 hx 49 (hb hby d14_36) (teq (by decide : (0 : Int32) = (0 : Int32))).1 (by decide) (by decide) ?_
  refine o_iloadN X3 hx (hb hby d14_49) rfl ?_
  refine oend X3 hlk (v := some (.int (0 : Int32))) (fun h => by rw [hret] at h; cases h) (fun fs hr => retN X3 hx (t := .boolean) hret (by simp) (hb hby d14_50) hr) (by decide) (by decide) ?_
  show own_Q_skipZ Z _ _ _ _ _ _ _ h0 n0 _ T3.heap _
  rw [e3]
  exact ⟨rfl, N3, rfl⟩
def own_Q_coder0 (Z : State) (z_CS : Int32) (v_FMT : Value) (x_ : Addr) (h0 : Heap) (n0 : Nat) (v : Option Value) (h : Heap) (L : List Loc) : Prop := (v = some (.int (0 : Int32))) ∧ (Fr n0 L) ∧ (h = h0)
set_option maxRecDepth 65536 in
set_option maxHeartbeats 40000000 in
theorem rm_coder0 (l : Launch) (Z : State) (a0 : Array Value) (hw : ∀ d ∈ tables_1, d.before a0 Z = true) (ws : List Jvm.Cond) (z_CS : Int32) (v_FMT : Value) (x_ : Addr) (h0 : Heap) (n0 : Nat) (SB : own_Start Z z_CS v_FMT) (O0 : Old Z n0 h0) (pr0 : Fld Z h0 x_ "java/lang/String" "coder" "B" (.int (0 : Int32))) :
    oMet l Z yM11 jdk_42_method_152_code 1 (some .byte) ws ({ frames := 0, cells := 0, slots := 0, locals := 0 } : Room) 0 0 #[(.ref x_)] h0 (own_Q_coder0 Z z_CS v_FMT x_ h0 n0) := by
  refine oenter own_pn2 #[.val (.ref x_)] (fun m => by first | (simp [entryFrame, mkF, argsToLocals, Value.category]; done) | rfl) ?_
  intro p e s m below meth c s₁ X0 hx hZ hby hml hret hown0 hnm hlk e0
  have hown : s.vm.findClass "java/lang/String" = some m.cls := hown0
  have N0 := Fr.nil n0
  obtain ⟨S_CS, H_CS, S__assertionsDisabled, S_HI_BYTE_SHIFT, S_LO_BYTE_SHIFT, S_FMT, R_FMT⟩ := (id SB)
  have w22 := hw _ (List.mem_of_getElem? (i := 22) rfl)
  have w49 := hw _ (List.mem_of_getElem? (i := 49) rfl)
  obtain ⟨T1, X1, e1, st1⟩ := getS2 X0 hx hZ hown (host := "") (Or.inl w49) Via.refl e0 (Sta.ext O0.2 S_CS) (g := (mkF m 0 #[.val (.ref x_)] [])) rfl (hb hby d12_0)
  refine ogo (S' := T1.setTop (mkF m 3 #[.val (.ref x_)] [(.int z_CS)])) st1 ?_
  refine o_ifNo X1 hx (hb hby d12_3) (feq H_CS).1 ?_
  refine o_aloadN X1 hx (hb hby d12_6) rfl rfl ?_
  obtain ⟨T2, X2, e2, st2⟩ := getF X1 hx hZ hown (host := "") (Or.inl w22) Via.refl e1 pr0 (g := (mkF m 7 #[.val (.ref x_)] [(.ref x_)])) rfl rfl (hb hby d12_7)
  refine ogo (S' := T2.setTop (mkF m 10 #[.val (.ref x_)] [(.int (0 : Int32))])) st2 ?_
  refine o_goto X2 hx 14 (hb hby d12_10) (by decide) (by decide) ?_
  refine oend X2 hlk (v := some (.int (0 : Int32))) (fun h => by rw [hret] at h; cases h) (fun fs hr => retN X2 hx (t := .byte) hret (by simp) (hb hby d12_14) hr) (by decide) (by decide) ?_
  show own_Q_coder0 Z _ _ _ h0 n0 _ T2.heap _
  rw [e2]
  exact ⟨rfl, N0, rfl⟩
def own_Q_coder1 (Z : State) (z_CS : Int32) (v_FMT : Value) (x_ : Addr) (h0 : Heap) (n0 : Nat) (v : Option Value) (h : Heap) (L : List Loc) : Prop := (v = some (.int (1 : Int32))) ∧ (Fr n0 L) ∧ (h = h0)
set_option maxRecDepth 65536 in
set_option maxHeartbeats 40000000 in
theorem rm_coder1 (l : Launch) (Z : State) (a0 : Array Value) (hw : ∀ d ∈ tables_1, d.before a0 Z = true) (ws : List Jvm.Cond) (z_CS : Int32) (v_FMT : Value) (x_ : Addr) (h0 : Heap) (n0 : Nat) (SB : own_Start Z z_CS v_FMT) (O0 : Old Z n0 h0) (pr0 : Fld Z h0 x_ "java/lang/String" "coder" "B" (.int (1 : Int32))) :
    oMet l Z yM11 jdk_42_method_152_code 1 (some .byte) ws ({ frames := 0, cells := 0, slots := 0, locals := 0 } : Room) 0 0 #[(.ref x_)] h0 (own_Q_coder1 Z z_CS v_FMT x_ h0 n0) := by
  refine oenter own_pn2 #[.val (.ref x_)] (fun m => by first | (simp [entryFrame, mkF, argsToLocals, Value.category]; done) | rfl) ?_
  intro p e s m below meth c s₁ X0 hx hZ hby hml hret hown0 hnm hlk e0
  have hown : s.vm.findClass "java/lang/String" = some m.cls := hown0
  have N0 := Fr.nil n0
  obtain ⟨S_CS, H_CS, S__assertionsDisabled, S_HI_BYTE_SHIFT, S_LO_BYTE_SHIFT, S_FMT, R_FMT⟩ := (id SB)
  have w22 := hw _ (List.mem_of_getElem? (i := 22) rfl)
  have w49 := hw _ (List.mem_of_getElem? (i := 49) rfl)
  obtain ⟨T1, X1, e1, st1⟩ := getS2 X0 hx hZ hown (host := "") (Or.inl w49) Via.refl e0 (Sta.ext O0.2 S_CS) (g := (mkF m 0 #[.val (.ref x_)] [])) rfl (hb hby d12_0)
  refine ogo (S' := T1.setTop (mkF m 3 #[.val (.ref x_)] [(.int z_CS)])) st1 ?_
  refine o_ifNo X1 hx (hb hby d12_3) (feq H_CS).1 ?_
  refine o_aloadN X1 hx (hb hby d12_6) rfl rfl ?_
  obtain ⟨T2, X2, e2, st2⟩ := getF X1 hx hZ hown (host := "") (Or.inl w22) Via.refl e1 pr0 (g := (mkF m 7 #[.val (.ref x_)] [(.ref x_)])) rfl rfl (hb hby d12_7)
  refine ogo (S' := T2.setTop (mkF m 10 #[.val (.ref x_)] [(.int (1 : Int32))])) st2 ?_
  refine o_goto X2 hx 14 (hb hby d12_10) (by decide) (by decide) ?_
  refine oend X2 hlk (v := some (.int (1 : Int32))) (fun h => by rw [hret] at h; cases h) (fun fs hr => retN X2 hx (t := .byte) hret (by simp) (hb hby d12_14) hr) (by decide) (by decide) ?_
  show own_Q_coder1 Z _ _ _ h0 n0 _ T2.heap _
  rw [e2]
  exact ⟨rfl, N0, rfl⟩
def own_Q_elen_1 (Z : State) (z_CS : Int32) (v_FMT : Value) (x_ : Addr) (ba_ : Addr) (kb_ : ClassId) (cd_ : Int32) (z_ : Int32) (vs_ : List Value) (c0_ : Int32) (h0 : Heap) (n0 : Nat) (v : Option Value) (h : Heap) (L : List Loc) : Prop := (v = some (.int (1 : Int32))) ∧ (Fr n0 L) ∧ (h = h0)
set_option maxRecDepth 65536 in
set_option maxHeartbeats 40000000 in
theorem rm_elen_1 (l : Launch) (Z : State) (a0 : Array Value) (hw : ∀ d ∈ tables_1, d.before a0 Z = true) (ws : List Jvm.Cond) (z_CS : Int32) (v_FMT : Value) (x_ : Addr) (ba_ : Addr) (kb_ : ClassId) (cd_ : Int32) (z_ : Int32) (vs_ : List Value) (c0_ : Int32) (h0 : Heap) (n0 : Nat) (SB : own_Start Z z_CS v_FMT) (O0 : Old Z n0 h0) (pr0 : Exa Z h0 x_ "java/lang/String") (pr1 : Fld Z h0 x_ "java/lang/String" "coder" "B" (.int cd_)) (pr2 : Fld Z h0 x_ "java/lang/String" "value" "[B" (.ref ba_)) (pr3 : Arv Z h0 ba_ kb_ .byte z_ vs_ (.int 0)) (pr4 : own_enc1 c0_ cd_ z_ vs_) :
    oMet l Z yM12 jdk_42_method_54_code 1 (some .int) ws ({ frames := 1, cells := 0, slots := 0, locals := 13 } : Room) 0 0 #[(.ref x_)] h0 (own_Q_elen_1 Z z_CS v_FMT x_ ba_ kb_ cd_ z_ vs_ c0_ h0 n0) := by
  refine oenter own_pn2 #[.val (.ref x_)] (fun m => by first | (simp [entryFrame, mkF, argsToLocals, Value.category]; done) | rfl) ?_
  intro p e s m below meth c s₁ X0 hx hZ hby hml hret hown0 hnm hlk e0
  have hown : s.vm.findClass "java/lang/String" = some m.cls := hown0
  have N0 := Fr.nil n0
  obtain ⟨S_CS, H_CS, S__assertionsDisabled, S_HI_BYTE_SHIFT, S_LO_BYTE_SHIFT, S_FMT, R_FMT⟩ := (id SB)
  have w3 := hw _ (List.mem_of_getElem? (i := 3) rfl)
  have w21 := hw _ (List.mem_of_getElem? (i := 21) rfl)
  have w44 := hw _ (List.mem_of_getElem? (i := 44) rfl)
  have w45 := hw _ (List.mem_of_getElem? (i := 45) rfl)
  have w46 := hw _ (List.mem_of_getElem? (i := 46) rfl)
  have w47 := hw _ (List.mem_of_getElem? (i := 47) rfl)
  have w48 := hw _ (List.mem_of_getElem? (i := 48) rfl)
  rcases pr4 with ⟨hs0, rfl, rfl, rfl⟩ | ⟨rfl, rfl, rfl⟩
  · refine o_aloadN X0 hx (hb hby d13_0) rfl rfl ?_
    obtain ⟨T1, X1, e1, st1⟩ := getF X0 hx hZ hown (host := "") (Or.inl w21) Via.refl e0 pr2 (g := (mkF m 1 #[.val (.ref x_)] [(.ref x_)])) rfl rfl (hb hby d13_1)
    refine ogo (S' := T1.setTop (mkF m 4 #[.val (.ref x_)] [(.ref ba_)])) st1 ?_
    obtain ⟨cl2, Ar2, -, S2, N2z, -, -⟩ := (id pr3)
    refine ogo (S' := T1.setTop (mkF m 5 #[.val (.ref x_)] [(.int (1 : Int32))])) (fun _ kt_ => X1.arraylength hx (by rw [e1]; exact Ar2.1) (State.isArrayOf_alike hZ.alike Ar2.2.1) (g := (mkF m 4 #[.val (.ref x_)] [(.ref ba_)])) rfl rfl (hb hby d13_4) _ (by rw [len_of S2 N2z]; exact kt_)) ?_
    refine o_aloadN X1 hx (hb hby d13_5) rfl rfl ?_
    obtain ⟨cq3, kq3, q3a, q3b, q3c⟩ := isOf hZ e1 pr0
    obtain ⟨_, _, ⟨T3, L3, kc3, n3⟩, -, X3, ⟨Lc3, hQ3, l3, y3, z3⟩, st3⟩ := X1.virtualBack hx (y := yM11) (z := yM11) hown (mvT hZ w44) (mvT hZ w45) (notFace_of_selects (args := #[]) (mvT hZ w47)) (mvT hZ w47) (mvT hZ w46) (by decide) (backOf (W := 1) (rm_coder0 l Z a0 hw [] z_CS v_FMT x_ h0 n0 SB O0 pr1) hZ w48 w3 (by decide) (by decide)) q3a q3c (g := (mkF m 6 #[.val (.ref x_)] [(.ref x_), (.int (1 : Int32))])) rfl (by rw [hml]; rfl) (Steps.refl _) (argsL := []) (rest := [(.int (1 : Int32))]) (lenOf own_pd8 rfl) rfl (by show 2 * 0 + _ ≤ _; exact Nat.le_of_eq rfl) (hb hby d13_6) (fun _ _ => ⟨rfl, e1, (by decide : 0 + 0 ≤ _), (by decide : 0 + 0 ≤ _)⟩)
    dsimp only [Pt.U, Pt.locs, Pt.cells, Pt.slots] at X3 l3 y3 z3 st3 hQ3
    subst l3 y3 z3
    obtain ⟨rfl, Nq3, e3⟩ := hQ3
    have N3 := Fr.app N0 Nq3
    refine otr (S' := T3.setTop (mkF m 9 #[.val (.ref x_)] [(.int (0 : Int32)), (.int (1 : Int32))])) st3 ?_
    refine o_ishr X3 hx (hb hby d13_9) ?_
    refine oend X3 hlk (v := some (.int (1 : Int32))) (fun h => by rw [hret] at h; cases h) (fun fs hr => retOut X3 hx (t := .int) (i := .ireturn) hret rfl (Or.inl ⟨rfl, Or.inl rfl, _, rfl⟩) (hb hby d13_10) hr) (by decide) (by decide) ?_
    show own_Q_elen_1 Z _ _ _ _ _ _ _ _ _ h0 n0 _ T3.heap _
    rw [e3]
    exact ⟨rfl, N3, rfl⟩
  · refine o_aloadN X0 hx (hb hby d13_0) rfl rfl ?_
    obtain ⟨T4, X4, e4, st4⟩ := getF X0 hx hZ hown (host := "") (Or.inl w21) Via.refl e0 pr2 (g := (mkF m 1 #[.val (.ref x_)] [(.ref x_)])) rfl rfl (hb hby d13_1)
    refine ogo (S' := T4.setTop (mkF m 4 #[.val (.ref x_)] [(.ref ba_)])) st4 ?_
    obtain ⟨cl5, Ar5, -, S5, N5z, -, -⟩ := (id pr3)
    refine ogo (S' := T4.setTop (mkF m 5 #[.val (.ref x_)] [(.int (2 : Int32))])) (fun _ kt_ => X4.arraylength hx (by rw [e4]; exact Ar5.1) (State.isArrayOf_alike hZ.alike Ar5.2.1) (g := (mkF m 4 #[.val (.ref x_)] [(.ref ba_)])) rfl rfl (hb hby d13_4) _ (by rw [len_of S5 N5z]; exact kt_)) ?_
    refine o_aloadN X4 hx (hb hby d13_5) rfl rfl ?_
    obtain ⟨cq6, kq6, q6a, q6b, q6c⟩ := isOf hZ e4 pr0
    obtain ⟨_, _, ⟨T6, L6, kc6, n6⟩, -, X6, ⟨Lc6, hQ6, l6, y6, z6⟩, st6⟩ := X4.virtualBack hx (y := yM11) (z := yM11) hown (mvT hZ w44) (mvT hZ w45) (notFace_of_selects (args := #[]) (mvT hZ w47)) (mvT hZ w47) (mvT hZ w46) (by decide) (backOf (W := 1) (rm_coder1 l Z a0 hw [] z_CS v_FMT x_ h0 n0 SB O0 pr1) hZ w48 w3 (by decide) (by decide)) q6a q6c (g := (mkF m 6 #[.val (.ref x_)] [(.ref x_), (.int (2 : Int32))])) rfl (by rw [hml]; rfl) (Steps.refl _) (argsL := []) (rest := [(.int (2 : Int32))]) (lenOf own_pd8 rfl) rfl (by show 2 * 0 + _ ≤ _; exact Nat.le_of_eq rfl) (hb hby d13_6) (fun _ _ => ⟨rfl, e4, (by decide : 0 + 0 ≤ _), (by decide : 0 + 0 ≤ _)⟩)
    dsimp only [Pt.U, Pt.locs, Pt.cells, Pt.slots] at X6 l6 y6 z6 st6 hQ6
    subst l6 y6 z6
    obtain ⟨rfl, Nq6, e6⟩ := hQ6
    have N6 := Fr.app N0 Nq6
    refine otr (S' := T6.setTop (mkF m 9 #[.val (.ref x_)] [(.int (1 : Int32)), (.int (2 : Int32))])) st6 ?_
    refine o_ishr X6 hx (hb hby d13_9) ?_
    refine oend X6 hlk (v := some (.int (1 : Int32))) (fun h => by rw [hret] at h; cases h) (fun fs hr => retOut X6 hx (t := .int) (i := .ireturn) hret rfl (Or.inl ⟨rfl, Or.inl rfl, _, rfl⟩) (hb hby d13_10) hr) (by decide) (by decide) ?_
    show own_Q_elen_1 Z _ _ _ _ _ _ _ _ _ h0 n0 _ T6.heap _
    rw [e6]
    exact ⟨rfl, N6, rfl⟩
def own_Q_skipE_1 (Z : State) (z_CS : Int32) (v_FMT : Value) (t_ : Addr) (x_ : Addr) (ba_ : Addr) (kb_ : ClassId) (cd_ : Int32) (z_ : Int32) (vs_ : List Value) (c0_ : Int32) (u_ : Int32) (h0 : Heap) (n0 : Nat) (v : Option Value) (h : Heap) (L : List Loc) : Prop := (v = some (.int (0 : Int32))) ∧ (Fr n0 L) ∧ (h = h0)
set_option maxRecDepth 65536 in
set_option maxHeartbeats 40000000 in
theorem rm_skipE_1 (l : Launch) (Z : State) (a0 : Array Value) (hw : ∀ d ∈ tables_1, d.before a0 Z = true) (ws : List Jvm.Cond) (z_CS : Int32) (v_FMT : Value) (t_ : Addr) (x_ : Addr) (ba_ : Addr) (kb_ : ClassId) (cd_ : Int32) (z_ : Int32) (vs_ : List Value) (c0_ : Int32) (u_ : Int32) (h0 : Heap) (n0 : Nat) (SB : own_Start Z z_CS v_FMT) (O0 : Old Z n0 h0) (pr0 : Exa Z h0 t_ "com/example/rowfold/rowfold/Literal") (pr1 : Fld Z h0 t_ "com/example/rowfold/rowfold/Literal" "text" "Ljava/lang/String;" (.ref x_)) (pr2 : Fld Z h0 t_ "com/example/rowfold/rowfold/Literal" "at" "I" (.int (1 : Int32))) (pr3 : Exa Z h0 x_ "java/lang/String") (pr4 : Fld Z h0 x_ "java/lang/String" "coder" "B" (.int cd_)) (pr5 : Fld Z h0 x_ "java/lang/String" "value" "[B" (.ref ba_)) (pr6 : Arv Z h0 ba_ kb_ .byte z_ vs_ (.int 0)) (pr7 : own_enc1 c0_ cd_ z_ vs_) :
    oMet l Z yM13 prog_8_method_4_code 3 (some .boolean) ws ({ frames := 2, cells := 0, slots := 0, locals := 26 } : Room) 0 0 #[(.ref t_), (.int u_)] h0 (own_Q_skipE_1 Z z_CS v_FMT t_ x_ ba_ kb_ cd_ z_ vs_ c0_ u_ h0 n0) := by
  refine oenter own_pn0 #[.val (.ref t_), .val (.int u_), .unset] (fun m => by first | (simp [entryFrame, mkF, argsToLocals, Value.category]; done) | rfl) ?_
  intro p e s m below meth c s₁ X0 hx hZ hby hml hret hown0 hnm hlk e0
  have hown : s.vm.findClass "com/example/rowfold/rowfold/Literal" = some m.cls := hown0
  have N0 := Fr.nil n0
  obtain ⟨S_CS, H_CS, S__assertionsDisabled, S_HI_BYTE_SHIFT, S_LO_BYTE_SHIFT, S_FMT, R_FMT⟩ := (id SB)
  have w3 := hw _ (List.mem_of_getElem? (i := 3) rfl)
  have w30 := hw _ (List.mem_of_getElem? (i := 30) rfl)
  have w37 := hw _ (List.mem_of_getElem? (i := 37) rfl)
  have w39 := hw _ (List.mem_of_getElem? (i := 39) rfl)
  have w40 := hw _ (List.mem_of_getElem? (i := 40) rfl)
  have w41 := hw _ (List.mem_of_getElem? (i := 41) rfl)
  have w42 := hw _ (List.mem_of_getElem? (i := 42) rfl)
  have w43 := hw _ (List.mem_of_getElem? (i := 43) rfl)
  refine o_aloadN X0 hx (hb hby d14_0) rfl rfl ?_
  obtain ⟨T1, X1, e1, st1⟩ := getF X0 hx hZ hown (host := "") (Or.inl w37) Via.refl e0 pr2 (g := (mkF m 1 #[.val (.ref t_), .val (.int u_), .unset] [(.ref t_)])) rfl rfl (hb hby d14_1)
  refine ogo (S' := T1.setTop (mkF m 4 #[.val (.ref t_), .val (.int u_), .unset] [(.int (1 : Int32))])) st1 ?_
  refine o_aloadN X1 hx (hb hby d14_4) rfl rfl ?_
  obtain ⟨T2, X2, e2, st2⟩ := getF X1 hx hZ hown (host := "") (Or.inl w30) Via.refl e1 pr1 (g := (mkF m 5 #[.val (.ref t_), .val (.int u_), .unset] [(.ref t_), (.int (1 : Int32))])) rfl rfl (hb hby d14_5)
  refine ogo (S' := T2.setTop (mkF m 8 #[.val (.ref t_), .val (.int u_), .unset] [(.ref x_), (.int (1 : Int32))])) st2 ?_
  obtain ⟨cq3, kq3, q3a, q3b, q3c⟩ := isOf hZ e2 pr3
  obtain ⟨_, _, ⟨T3, L3, kc3, n3⟩, -, X3, ⟨Lc3, hQ3, l3, y3, z3⟩, st3⟩ := X2.virtualBack hx (y := yM12) (z := yM12) hown (mvT hZ w39) (mvT hZ w40) (notFace_of_selects (args := #[]) (mvT hZ w42)) (mvT hZ w42) (mvT hZ w41) (by decide) (backOf (W := 1) (rm_elen_1 l Z a0 hw [] z_CS v_FMT x_ ba_ kb_ cd_ z_ vs_ c0_ h0 n0 SB O0 pr3 pr4 pr5 pr6 pr7) hZ w43 w3 (by decide) (by decide)) q3a q3c (g := (mkF m 8 #[.val (.ref t_), .val (.int u_), .unset] [(.ref x_), (.int (1 : Int32))])) rfl (by rw [hml]; rfl) (Steps.refl _) (argsL := []) (rest := [(.int (1 : Int32))]) (lenOf own_pd9 rfl) rfl (by show 2 * 0 + _ ≤ _; exact Nat.le_of_eq rfl) (hb hby d14_8) (fun _ _ => ⟨rfl, e2, (by decide : 0 + 0 ≤ _), (by decide : 0 + 0 ≤ _)⟩)
  dsimp only [Pt.U, Pt.locs, Pt.cells, Pt.slots] at X3 l3 y3 z3 st3 hQ3
  subst l3 y3 z3
  obtain ⟨rfl, Nq3, e3⟩ := hQ3
  have N3 := Fr.app N0 Nq3
  refine otr (S' := T3.setTop (mkF m 11 #[.val (.ref t_), .val (.int u_), .unset] [(.int (1 : Int32)), (.int (1 : Int32))])) st3 ?_
  refine o_icmpYes X3 hx 33 (hb hby d14_11) (flt (by decide : ¬ ((1 : Int32) < (1 : Int32)))).2.1 (by decide) (by decide) ?_
  refine o_iconst X3 hx (0 : Int32) (hb hby d14_33) rfl ?_
  refine o_istoreN X3 hx (l' := #[.val (.ref t_), .val (.int u_), .val (.int (0 : Int32))]) (hb hby d14_34) rfl ?_
  refine o_iloadN X3 hx (hb hby d14_35) rfl ?_
  refine o_ifYes X3 hx 49 (hb hby d14_36) (teq (by decide : (0 : Int32) = (0 : Int32))).1 (by decide) (by decide) ?_
  refine o_iloadN X3 hx (hb hby d14_49) rfl ?_
  refine oend X3 hlk (v := some (.int (0 : Int32))) (fun h => by rw [hret] at h; cases h) (fun fs hr => retN X3 hx (t := .boolean) hret (by simp) (hb hby d14_50) hr) (by decide) (by decide) ?_
  show own_Q_skipE_1 Z _ _ _ _ _ _ _ _ _ _ _ h0 n0 _ T3.heap _
  rw [e3]
  exact ⟨rfl, N3, rfl⟩
theorem d15_0 : decode jdk_42_method_154_code 0 = .ok (.getstatic 38, 3) := by decide +kernel
theorem d15_3 : decode jdk_42_method_154_code 3 = .ok (.ifCond .eq 14, 3) := by decide +kernel
theorem d15_6 : decode jdk_42_method_154_code 6 = .ok (.aload_n 0, 1) := by decide +kernel
theorem d15_7 : decode jdk_42_method_154_code 7 = .ok (.getfield 15, 3) := by decide +kernel
theorem d15_10 : decode jdk_42_method_154_code 10 = .ok (.ifCond .ne 7, 3) := by decide +kernel
theorem d15_13 : decode jdk_42_method_154_code 13 = .ok (.iconst 1, 1) := by decide +kernel
theorem d15_14 : decode jdk_42_method_154_code 14 = .ok (.goto 4, 3) := by decide +kernel
theorem d15_18 : decode jdk_42_method_154_code 18 = .ok (.ireturn, 1) := by decide +kernel
def own_Q_isl1_0 (Z : State) (z_CS : Int32) (v_FMT : Value) (x_ : Addr) (h0 : Heap) (n0 : Nat) (v : Option Value) (h : Heap) (L : List Loc) : Prop := (v = some (.int (1 : Int32))) ∧ (Fr n0 L) ∧ (h = h0)
abbrev yM14 : MethodName := ⟨"java/lang/String", "isLatin1", "()Z"⟩
set_option maxRecDepth 65536 in
set_option maxHeartbeats 40000000 in
theorem rm_isl1_0 (l : Launch) (Z : State) (a0 : Array Value) (hw : ∀ d ∈ tables_1, d.before a0 Z = true) (ws : List Jvm.Cond) (z_CS : Int32) (v_FMT : Value) (x_ : Addr) (h0 : Heap) (n0 : Nat) (SB : own_Start Z z_CS v_FMT) (O0 : Old Z n0 h0) (pr0 : Fld Z h0 x_ "java/lang/String" "coder" "B" (.int (0 : Int32))) :
    oMet l Z yM14 jdk_42_method_154_code 1 (some .boolean) ws ({ frames := 0, cells := 0, slots := 0, locals := 0 } : Room) 0 0 #[(.ref x_)] h0 (own_Q_isl1_0 Z z_CS v_FMT x_ h0 n0) := by
  refine oenter own_pn2 #[.val (.ref x_)] (fun m => by first | (simp [entryFrame, mkF, argsToLocals, Value.category]; done) | rfl) ?_
  intro p e s m below meth c s₁ X0 hx hZ hby hml hret hown0 hnm hlk e0
  have hown : s.vm.findClass "java/lang/String" = some m.cls := hown0
  have N0 := Fr.nil n0
  obtain ⟨S_CS, H_CS, S__assertionsDisabled, S_HI_BYTE_SHIFT, S_LO_BYTE_SHIFT, S_FMT, R_FMT⟩ := (id SB)
  have w22 := hw _ (List.mem_of_getElem? (i := 22) rfl)
  have w49 := hw _ (List.mem_of_getElem? (i := 49) rfl)
  obtain ⟨T1, X1, e1, st1⟩ := getS2 X0 hx hZ hown (host := "") (Or.inl w49) Via.refl e0 (Sta.ext O0.2 S_CS) (g := (mkF m 0 #[.val (.ref x_)] [])) rfl (hb hby d15_0)
  refine ogo (S' := T1.setTop (mkF m 3 #[.val (.ref x_)] [(.int z_CS)])) st1 ?_
  refine o_ifNo X1 hx (hb hby d15_3) (feq H_CS).1 ?_
  refine o_aloadN X1 hx (hb hby d15_6) rfl rfl ?_
  obtain ⟨T2, X2, e2, st2⟩ := getF X1 hx hZ hown (host := "") (Or.inl w22) Via.refl e1 pr0 (g := (mkF m 7 #[.val (.ref x_)] [(.ref x_)])) rfl rfl (hb hby d15_7)
  refine ogo (S' := T2.setTop (mkF m 10 #[.val (.ref x_)] [(.int (0 : Int32))])) st2 ?_
  refine o_ifNo X2 hx (hb hby d15_10) (teq (by decide : (0 : Int32) = (0 : Int32))).2 ?_
  refine o_iconst X2 hx (1 : Int32) (hb hby d15_13) rfl ?_
  refine o_goto X2 hx 18 (hb hby d15_14) (by decide) (by decide) ?_
  refine oend X2 hlk (v := some (.int (1 : Int32))) (fun h => by rw [hret] at h; cases h) (fun fs hr => retN X2 hx (t := .boolean) hret (by simp) (hb hby d15_18) hr) (by decide) (by decide) ?_
  show own_Q_isl1_0 Z _ _ _ h0 n0 _ T2.heap _
  rw [e2]
  exact ⟨rfl, N0, rfl⟩
theorem d15_17 : decode jdk_42_method_154_code 17 = .ok (.iconst 0, 1) := by decide +kernel
def own_Q_isl1_1 (Z : State) (z_CS : Int32) (v_FMT : Value) (x_ : Addr) (h0 : Heap) (n0 : Nat) (v : Option Value) (h : Heap) (L : List Loc) : Prop := (v = some (.int (0 : Int32))) ∧ (Fr n0 L) ∧ (h = h0)
set_option maxRecDepth 65536 in
set_option maxHeartbeats 40000000 in
theorem rm_isl1_1 (l : Launch) (Z : State) (a0 : Array Value) (hw : ∀ d ∈ tables_1, d.before a0 Z = true) (ws : List Jvm.Cond) (z_CS : Int32) (v_FMT : Value) (x_ : Addr) (h0 : Heap) (n0 : Nat) (SB : own_Start Z z_CS v_FMT) (O0 : Old Z n0 h0) (pr0 : Fld Z h0 x_ "java/lang/String" "coder" "B" (.int (1 : Int32))) :
    oMet l Z yM14 jdk_42_method_154_code 1 (some .boolean) ws ({ frames := 0, cells := 0, slots := 0, locals := 0 } : Room) 0 0 #[(.ref x_)] h0 (own_Q_isl1_1 Z z_CS v_FMT x_ h0 n0) := by
  refine oenter own_pn2 #[.val (.ref x_)] (fun m => by first | (simp [entryFrame, mkF, argsToLocals, Value.category]; done) | rfl) ?_
  intro p e s m below meth c s₁ X0 hx hZ hby hml hret hown0 hnm hlk e0
  have hown : s.vm.findClass "java/lang/String" = some m.cls := hown0
  have N0 := Fr.nil n0
  obtain ⟨S_CS, H_CS, S__assertionsDisabled, S_HI_BYTE_SHIFT, S_LO_BYTE_SHIFT, S_FMT, R_FMT⟩ := (id SB)
  have w22 := hw _ (List.mem_of_getElem? (i := 22) rfl)
  have w49 := hw _ (List.mem_of_getElem? (i := 49) rfl)
  obtain ⟨T1, X1, e1, st1⟩ := getS2 X0 hx hZ hown (host := "") (Or.inl w49) Via.refl e0 (Sta.ext O0.2 S_CS) (g := (mkF m 0 #[.val (.ref x_)] [])) rfl (hb hby d15_0)
  refine ogo (S' := T1.setTop (mkF m 3 #[.val (.ref x_)] [(.int z_CS)])) st1 ?_
  refine o_ifNo X1 hx (hb hby d15_3) (feq H_CS).1 ?_
  refine o_aloadN X1 hx (hb hby d15_6) rfl rfl ?_
  obtain ⟨T2, X2, e2, st2⟩ := getF X1 hx hZ hown (host := "") (Or.inl w22) Via.refl e1 pr0 (g := (mkF m 7 #[.val (.ref x_)] [(.ref x_)])) rfl rfl (hb hby d15_7)
  refine ogo (S' := T2.setTop (mkF m 10 #[.val (.ref x_)] [(.int (1 : Int32))])) st2 ?_
  refine o_ifYes X2 hx 17 (hb hby d15_10) (feq (by decide : ¬ ((1 : Int32) = (0 : Int32)))).2 (by decide) (by decide) ?_
  refine o_iconst X2 hx (0 : Int32) (hb hby d15_17) rfl ?_
  refine oend X2 hlk (v := some (.int (0 : Int32))) (fun h => by rw [hret] at h; cases h) (fun fs hr => retN X2 hx (t := .boolean) hret (by simp) (hb hby d15_18) hr) (by decide) (by decide) ?_
  show own_Q_isl1_1 Z _ _ _ h0 n0 _ T2.heap _
  rw [e2]
  exact ⟨rfl, N0, rfl⟩
theorem d16_0 : decode jdk_41_method_11_code 0 = .ok (.iload_n 0, 1) := by decide +kernel
theorem d16_1 : decode jdk_41_method_11_code 1 = .ok (.ifCond .lt 8, 3) := by decide +kernel
theorem d16_4 : decode jdk_41_method_11_code 4 = .ok (.iload_n 0, 1) := by decide +kernel
theorem d16_5 : decode jdk_41_method_11_code 5 = .ok (.iload_n 1, 1) := by decide +kernel
theorem d16_6 : decode jdk_41_method_11_code 6 = .ok (.if_icmp .lt 10, 3) := by decide +kernel
theorem d16_16 : decode jdk_41_method_11_code 16 = .ok (.iload_n 0, 1) := by decide +kernel
theorem d16_17 : decode jdk_41_method_11_code 17 = .ok (.ireturn, 1) := by decide +kernel
theorem own_pn3 : plainName "jdk/internal/util/Preconditions" = true := by first | (simp [plainName, overriddenIn]; done) | decide +kernel
def own_Q_pci (Z : State)  (i_ : Int32) (n_ : Int32) (f_ : Value) (h0 : Heap) (n0 : Nat) (v : Option Value) (h : Heap) (L : List Loc) : Prop := (v = some (.int i_)) ∧ (Fr n0 L) ∧ (h = h0)
abbrev yM15 : MethodName := ⟨"jdk/internal/util/Preconditions", "checkIndex", "(IILjava/util/function/BiFunction;)I"⟩
set_option maxRecDepth 65536 in
set_option maxHeartbeats 40000000 in
theorem rm_pci (l : Launch) (Z : State) (a0 : Array Value) (hw : ∀ d ∈ tables_1, d.before a0 Z = true) (ws : List Jvm.Cond)  (i_ : Int32) (n_ : Int32) (f_ : Value) (h0 : Heap) (n0 : Nat) (O0 : Old Z n0 h0) (pr0 : ¬ (i_ < (0 : Int32))) (pr1 : i_ < n_) (pr2 : f_.isRef = true) (pr3 : f_.category = 1) :
    oMet l Z yM15 jdk_41_method_11_code 3 (some .int) ws ({ frames := 0, cells := 0, slots := 0, locals := 0 } : Room) 0 0 #[(.int i_), (.int n_), f_] h0 (own_Q_pci Z  i_ n_ f_ h0 n0) := by
  refine oenter own_pn3 #[.val (.int i_), .val (.int n_), .val f_] (fun m => by first | (simp [entryFrame, mkF, argsToLocals, Value.category, pr3]; done) | rfl | (cases f_ <;> first | rfl | (cases pr2))) ?_
  intro p e s m below meth c s₁ X0 hx hZ hby hml hret hown0 hnm hlk e0
  have hown : s.vm.findClass "jdk/internal/util/Preconditions" = some m.cls := hown0
  have N0 := Fr.nil n0
  refine o_iloadN X0 hx (hb hby d16_0) rfl ?_
  refine o_ifNo X0 hx (hb hby d16_1) (flt pr0).1 ?_
  refine o_iloadN X0 hx (hb hby d16_4) rfl ?_
  refine o_iloadN X0 hx (hb hby d16_5) rfl ?_
  refine o_icmpYes X0 hx 16 (hb hby d16_6) (tlt pr1).1 (by decide) (by decide) ?_
  refine o_iloadN X0 hx (hb hby d16_16) rfl ?_
  refine oend X0 hlk (v := some (.int i_)) (fun h => by rw [hret] at h; cases h) (fun fs hr => retOut X0 hx (t := .int) (i := .ireturn) hret rfl (Or.inl ⟨rfl, Or.inl rfl, _, rfl⟩) (hb hby d16_17) hr) (by decide) (by decide) ?_
  show own_Q_pci Z _ _ _ h0 n0 _ s₁.heap _
  rw [e0]
  exact ⟨rfl, N0, rfl⟩
theorem own_pd10 : parseMethodDescriptor "(IILjava/util/function/BiFunction;)I" = some ⟨[.int, .int, (.object "java/util/function/BiFunction")], some .int⟩ := by decide +kernel
theorem d17_0 : decode jdk_42_method_155_code 0 = .ok (.iload_n 0, 1) := by decide +kernel
theorem d17_1 : decode jdk_42_method_155_code 1 = .ok (.iload_n 1, 1) := by decide +kernel
theorem d17_2 : decode jdk_42_method_155_code 2 = .ok (.getstatic 1053, 3) := by decide +kernel
theorem d17_5 : decode jdk_42_method_155_code 5 = .ok (.invokestatic 1059, 3) := by decide +kernel
theorem d17_8 : decode jdk_42_method_155_code 8 = .ok (.pop, 1) := by decide +kernel
theorem d17_9 : decode jdk_42_method_155_code 9 = .ok (.return_, 1) := by decide +kernel
def own_Q_sci (Z : State) (z_CS : Int32) (v_FMT : Value) (i_ : Int32) (n_ : Int32) (h0 : Heap) (n0 : Nat) (v : Option Value) (h : Heap) (L : List Loc) : Prop := (v = none) ∧ (Fr n0 L) ∧ (h = h0)
abbrev yM16 : MethodName := ⟨"java/lang/String", "checkIndex", "(II)V"⟩
set_option maxRecDepth 65536 in
set_option maxHeartbeats 40000000 in
theorem rm_sci (l : Launch) (Z : State) (a0 : Array Value) (hw : ∀ d ∈ tables_1, d.before a0 Z = true) (ws : List Jvm.Cond) (z_CS : Int32) (v_FMT : Value) (i_ : Int32) (n_ : Int32) (h0 : Heap) (n0 : Nat) (SB : own_Start Z z_CS v_FMT) (O0 : Old Z n0 h0) (pr0 : ¬ (i_ < (0 : Int32))) (pr1 : i_ < n_) :
    oMet l Z yM16 jdk_42_method_155_code 2 none ws ({ frames := 1, cells := 0, slots := 0, locals := 14 } : Room) 0 0 #[(.int i_), (.int n_)] h0 (own_Q_sci Z z_CS v_FMT i_ n_ h0 n0) := by
  refine oenter own_pn2 #[.val (.int i_), .val (.int n_)] (fun m => by first | (simp [entryFrame, mkF, argsToLocals, Value.category]; done) | rfl) ?_
  intro p e s m below meth c s₁ X0 hx hZ hby hml hret hown0 hnm hlk e0
  have hown : s.vm.findClass "java/lang/String" = some m.cls := hown0
  have N0 := Fr.nil n0
  obtain ⟨S_CS, H_CS, S__assertionsDisabled, S_HI_BYTE_SHIFT, S_LO_BYTE_SHIFT, S_FMT, R_FMT⟩ := (id SB)
  have w81 := hw _ (List.mem_of_getElem? (i := 81) rfl)
  have w82 := hw _ (List.mem_of_getElem? (i := 82) rfl)
  have w83 := hw _ (List.mem_of_getElem? (i := 83) rfl)
  have w84 := hw _ (List.mem_of_getElem? (i := 84) rfl)
  have w85 := hw _ (List.mem_of_getElem? (i := 85) rfl)
  refine o_iloadN X0 hx (hb hby d17_0) rfl ?_
  refine o_iloadN X0 hx (hb hby d17_1) rfl ?_
  obtain ⟨T1, X1, e1, st1⟩ := getS2 X0 hx hZ hown (host := "") (Or.inl w81) Via.refl e0 (Sta.ext O0.2 S_FMT) (g := (mkF m 2 #[.val (.int i_), .val (.int n_)] [(.int n_), (.int i_)])) rfl (hb hby d17_2)
  refine ogo (S' := T1.setTop (mkF m 5 #[.val (.int i_), .val (.int n_)] [v_FMT, (.int n_), (.int i_)])) st1 ?_
  obtain ⟨_, _, ⟨T2, L2, kc2, n2⟩, -, X2, ⟨Lc2, hQ2, l2, y2, z2⟩, st2⟩ := Jvm.LawKit.callS X1 hx (y := yM15) hown (mvT hZ w83) (mvT hZ w84) (mvT hZ w82) (mvT hZ w85) (by decide) (backOf (W := 0) (rm_pci l Z a0 hw []  i_ n_ v_FMT h0 n0 O0 pr0 pr1 R_FMT (own_cat R_FMT)) hZ w85 w82 (by decide) (by decide)) (g := (mkF m 5 #[.val (.int i_), .val (.int n_)] [v_FMT, (.int n_), (.int i_)])) rfl (by rw [hml]; rfl) (argsL := [(.int i_), (.int n_), v_FMT]) (rest := []) (lenOf own_pd10 rfl) rfl (by show 2 * 0 + _ ≤ _; exact Nat.le_of_eq rfl) (hb hby d17_5) (fun _ _ => ⟨rfl, e1, (by decide : 0 + 0 ≤ _), (by decide : 0 + 0 ≤ _)⟩)
  dsimp only [Pt.U, Pt.locs, Pt.cells, Pt.slots] at X2 l2 y2 z2 st2 hQ2
  subst l2 y2 z2
  obtain ⟨rfl, Nq2, e2⟩ := hQ2
  have N2 := Fr.app N0 Nq2
  refine ogo (S' := T2.setTop (mkF m 8 #[.val (.int i_), .val (.int n_)] [(.int i_)])) st2 ?_
  refine o_pop X2 hx (hb hby d17_8) rfl ?_
  refine oend X2 hlk (v := none) (fun _ => rfl) (fun fs hr => X2.returnOut hx hret (hb hby d17_9) hr) (by decide) (by decide) ?_
  show own_Q_sci Z _ _ _ _ h0 n0 _ T2.heap _
  rw [e2]
  exact ⟨rfl, N2, rfl⟩
theorem own_pd11 : parseMethodDescriptor "(II)V" = some ⟨[.int, .int], none⟩ := by decide +kernel
theorem d18_0 : decode jdk_43_method_2_code 0 = .ok (.iload_n 1, 1) := by decide +kernel
theorem d18_1 : decode jdk_43_method_2_code 1 = .ok (.aload_n 0, 1) := by decide +kernel
theorem d18_2 : decode jdk_43_method_2_code 2 = .ok (.arraylength, 1) := by decide +kernel
theorem d18_3 : decode jdk_43_method_2_code 3 = .ok (.invokestatic 9, 3) := by decide +kernel
theorem d18_6 : decode jdk_43_method_2_code 6 = .ok (.aload_n 0, 1) := by decide +kernel
theorem d18_7 : decode jdk_43_method_2_code 7 = .ok (.iload_n 1, 1) := by decide +kernel
theorem d18_8 : decode jdk_43_method_2_code 8 = .ok (.baload, 1) := by decide +kernel
theorem d18_9 : decode jdk_43_method_2_code 9 = .ok (.sipush 255, 3) := by decide +kernel
theorem d18_12 : decode jdk_43_method_2_code 12 = .ok (.iand, 1) := by decide +kernel
theorem d18_13 : decode jdk_43_method_2_code 13 = .ok (.i2c, 1) := by decide +kernel
theorem d18_14 : decode jdk_43_method_2_code 14 = .ok (.ireturn, 1) := by decide +kernel
theorem own_pn4 : plainName "java/lang/StringLatin1" = true := by first | (simp [plainName, overriddenIn]; done) | decide +kernel
def own_Q_l1c_1_0 (Z : State) (z_CS : Int32) (v_FMT : Value) (ba_ : Addr) (kb_ : ClassId) (c0_ : Int32) (h0 : Heap) (n0 : Nat) (v : Option Value) (h : Heap) (L : List Loc) : Prop := (v = some (.int c0_)) ∧ (Fr n0 L) ∧ (h = h0)
abbrev yM17 : MethodName := ⟨"java/lang/StringLatin1", "charAt", "([BI)C"⟩
set_option maxRecDepth 65536 in
set_option maxHeartbeats 40000000 in
theorem rm_l1c_1_0 (l : Launch) (Z : State) (a0 : Array Value) (hw : ∀ d ∈ tables_1, d.before a0 Z = true) (ws : List Jvm.Cond) (z_CS : Int32) (v_FMT : Value) (ba_ : Addr) (kb_ : ClassId) (c0_ : Int32) (h0 : Heap) (n0 : Nat) (SB : own_Start Z z_CS v_FMT) (O0 : Old Z n0 h0) (pr0 : Arv Z h0 ba_ kb_ .byte (1 : Int32) [(.int c0_.toInt8.toInt32)] (.int 0)) (pr1 : ¬ (c0_ < (0 : Int32))) (pr2 : ¬ ((255 : Int32) < c0_)) :
    oMet l Z yM17 jdk_43_method_2_code 2 (some .char) ws ({ frames := 2, cells := 0, slots := 0, locals := 27 } : Room) 0 0 #[(.ref ba_), (.int (0 : Int32))] h0 (own_Q_l1c_1_0 Z z_CS v_FMT ba_ kb_ c0_ h0 n0) := by
  refine oenter own_pn4 #[.val (.ref ba_), .val (.int (0 : Int32))] (fun m => by first | (simp [entryFrame, mkF, argsToLocals, Value.category]; done) | rfl) ?_
  intro p e s m below meth c s₁ X0 hx hZ hby hml hret hown0 hnm hlk e0
  have hown : s.vm.findClass "java/lang/StringLatin1" = some m.cls := hown0
  have N0 := Fr.nil n0
  obtain ⟨S_CS, H_CS, S__assertionsDisabled, S_HI_BYTE_SHIFT, S_LO_BYTE_SHIFT, S_FMT, R_FMT⟩ := (id SB)
  have w3 := hw _ (List.mem_of_getElem? (i := 3) rfl)
  have w78 := hw _ (List.mem_of_getElem? (i := 78) rfl)
  have w79 := hw _ (List.mem_of_getElem? (i := 79) rfl)
  have w80 := hw _ (List.mem_of_getElem? (i := 80) rfl)
  refine o_iloadN X0 hx (hb hby d18_0) rfl ?_
  refine o_aloadN X0 hx (hb hby d18_1) rfl rfl ?_
  obtain ⟨cl1, Ar1, -, S1, N1z, -, -⟩ := (id pr0)
  refine ogo (S' := s₁.setTop (mkF m 3 #[.val (.ref ba_), .val (.int (0 : Int32))] [(.int (1 : Int32)), (.int (0 : Int32))])) (fun _ kt_ => X0.arraylength hx (by rw [e0]; exact Ar1.1) (State.isArrayOf_alike hZ.alike Ar1.2.1) (g := (mkF m 2 #[.val (.ref ba_), .val (.int (0 : Int32))] [(.ref ba_), (.int (0 : Int32))])) rfl rfl (hb hby d18_2) _ (by rw [len_of S1 N1z]; exact kt_)) ?_
  obtain ⟨_, _, ⟨T2, L2, kc2, n2⟩, -, X2, ⟨Lc2, hQ2, l2, y2, z2⟩, st2⟩ := Jvm.LawKit.callS X0 hx (y := yM16) hown (mvT hZ w78) (mvT hZ w79) (mvT hZ w3) (mvT hZ w80) (by decide) (backOf (W := 0) (rm_sci l Z a0 hw [] z_CS v_FMT (0 : Int32) (1 : Int32) h0 n0 SB O0 (by decide) (by decide)) hZ w80 w3 (by decide) (by decide)) (g := (mkF m 3 #[.val (.ref ba_), .val (.int (0 : Int32))] [(.int (1 : Int32)), (.int (0 : Int32))])) rfl (by rw [hml]; rfl) (argsL := [(.int (0 : Int32)), (.int (1 : Int32))]) (rest := []) (lenOf own_pd11 rfl) rfl (by show 2 * 0 + _ ≤ _; exact Nat.le_of_eq rfl) (hb hby d18_3) (fun _ _ => ⟨rfl, e0, (by decide : 0 + 0 ≤ _), (by decide : 0 + 0 ≤ _)⟩)
  dsimp only [Pt.U, Pt.locs, Pt.cells, Pt.slots] at X2 l2 y2 z2 st2 hQ2
  subst l2 y2 z2
  obtain ⟨rfl, Nq2, e2⟩ := hQ2
  have N2 := Fr.app N0 Nq2
  refine ogo (S' := T2.setTop (mkF m 6 #[.val (.ref ba_), .val (.int (0 : Int32))] [])) st2 ?_
  refine o_aloadN X2 hx (hb hby d18_6) rfl rfl ?_
  refine o_iloadN X2 hx (hb hby d18_7) rfl ?_
  obtain ⟨cl3, Ar3, q3, S3, N3z, H3, G3⟩ := (id pr0)
  have hi3 := inb_of (j := (0 : Int32)) S3 ⟨by decide, by decide⟩
  have ha3 := Has.at (v := (.int c0_.toInt8.toInt32)) H3 hi3 rfl
  refine ogo (S' := T2.setTop (mkF m 9 #[.val (.ref ba_), .val (.int (0 : Int32))] [(.int c0_.toInt8.toInt32)])) (X2.baloadBytes hx (j := (0 : Int32)) (v := (.int c0_.toInt8.toInt32)) (by rw [e2]; exact Ar3.1) (State.isArrayOf_alike hZ.alike Ar3.2.1) Ar3.2.2 hi3 ha3 (g := (mkF m 8 #[.val (.ref ba_), .val (.int (0 : Int32))] [(.int (0 : Int32)), (.ref ba_)])) rfl rfl (hb hby d18_8)) ?_
  refine o_sipush X2 hx (255 : Int32) (hb hby d18_9) rfl ?_
  refine o_iand X2 hx (hb hby d18_12) ?_
  refine o_i2c X2 hx (hb hby d18_13) ?_
  rw [own_char pr1 pr2]
  refine oend X2 hlk (v := some (.int c0_)) (fun h => by rw [hret] at h; cases h) (fun fs hr => retN X2 hx (t := .char) hret (by simp) (hb hby d18_14) (by rw [(own_narsm pr1 pr2)]; exact hr)) (by decide) (by decide) ?_
  show own_Q_l1c_1_0 Z _ _ _ _ _ h0 n0 _ T2.heap _
  rw [e2]
  exact ⟨rfl, N2, rfl⟩
theorem d19_0 : decode jdk_52_method_6_code 0 = .ok (.aload_n 0, 1) := by decide +kernel
theorem d19_1 : decode jdk_52_method_6_code 1 = .ok (.arraylength, 1) := by decide +kernel
theorem d19_2 : decode jdk_52_method_6_code 2 = .ok (.iconst 1, 1) := by decide +kernel
theorem d19_3 : decode jdk_52_method_6_code 3 = .ok (.ishr, 1) := by decide +kernel
theorem d19_4 : decode jdk_52_method_6_code 4 = .ok (.ireturn, 1) := by decide +kernel
def own_Q_u16len_1 (Z : State)  (ba_ : Addr) (kb_ : ClassId) (vs_ : List Value) (h0 : Heap) (n0 : Nat) (v : Option Value) (h : Heap) (L : List Loc) : Prop := (v = some (.int (1 : Int32))) ∧ (Fr n0 L) ∧ (h = h0)
abbrev yM18 : MethodName := ⟨"java/lang/StringUTF16", "length", "([B)I"⟩
set_option maxRecDepth 65536 in
set_option maxHeartbeats 40000000 in
theorem rm_u16len_1 (l : Launch) (Z : State) (a0 : Array Value) (hw : ∀ d ∈ tables_1, d.before a0 Z = true) (ws : List Jvm.Cond)  (ba_ : Addr) (kb_ : ClassId) (vs_ : List Value) (h0 : Heap) (n0 : Nat) (O0 : Old Z n0 h0) (pr0 : Arv Z h0 ba_ kb_ .byte (2 : Int32) vs_ (.int 0)) :
    oMet l Z yM18 jdk_52_method_6_code 1 (some .int) ws ({ frames := 0, cells := 0, slots := 0, locals := 0 } : Room) 0 0 #[(.ref ba_)] h0 (own_Q_u16len_1 Z  ba_ kb_ vs_ h0 n0) := by
  refine oenter own_pn1 #[.val (.ref ba_)] (fun m => by first | (simp [entryFrame, mkF, argsToLocals, Value.category]; done) | rfl) ?_
  intro p e s m below meth c s₁ X0 hx hZ hby hml hret hown0 hnm hlk e0
  have hown : s.vm.findClass "java/lang/StringUTF16" = some m.cls := hown0
  have N0 := Fr.nil n0
  refine o_aloadN X0 hx (hb hby d19_0) rfl rfl ?_
  obtain ⟨cl1, Ar1, -, S1, N1z, -, -⟩ := (id pr0)
  refine ogo (S' := s₁.setTop (mkF m 2 #[.val (.ref ba_)] [(.int (2 : Int32))])) (fun _ kt_ => X0.arraylength hx (by rw [e0]; exact Ar1.1) (State.isArrayOf_alike hZ.alike Ar1.2.1) (g := (mkF m 1 #[.val (.ref ba_)] [(.ref ba_)])) rfl rfl (hb hby d19_1) _ (by rw [len_of S1 N1z]; exact kt_)) ?_
  refine o_iconst X0 hx (1 : Int32) (hb hby d19_2) rfl ?_
  refine o_ishr X0 hx (hb hby d19_3) ?_
  refine oend X0 hlk (v := some (.int (1 : Int32))) (fun h => by rw [hret] at h; cases h) (fun fs hr => retOut X0 hx (t := .int) (i := .ireturn) hret rfl (Or.inl ⟨rfl, Or.inl rfl, _, rfl⟩) (hb hby d19_4) hr) (by decide) (by decide) ?_
  show own_Q_u16len_1 Z _ _ _ h0 n0 _ s₁.heap _
  rw [e0]
  exact ⟨rfl, N0, rfl⟩
theorem own_pd12 : parseMethodDescriptor "([B)I" = some ⟨[(.array .byte)], some .int⟩ := by decide +kernel
theorem d20_0 : decode jdk_52_method_91_code 0 = .ok (.iload_n 0, 1) := by decide +kernel
theorem d20_1 : decode jdk_52_method_91_code 1 = .ok (.aload_n 1, 1) := by decide +kernel
theorem d20_2 : decode jdk_52_method_91_code 2 = .ok (.invokestatic 48, 3) := by decide +kernel
theorem d20_5 : decode jdk_52_method_91_code 5 = .ok (.invokestatic 414, 3) := by decide +kernel
theorem d20_8 : decode jdk_52_method_91_code 8 = .ok (.return_, 1) := by decide +kernel
def own_Q_u16ci_1_0 (Z : State) (z_CS : Int32) (v_FMT : Value) (ba_ : Addr) (kb_ : ClassId) (vs_ : List Value) (h0 : Heap) (n0 : Nat) (v : Option Value) (h : Heap) (L : List Loc) : Prop := (v = none) ∧ (Fr n0 L) ∧ (h = h0)
abbrev yM19 : MethodName := ⟨"java/lang/StringUTF16", "checkIndex", "(I[B)V"⟩
set_option maxRecDepth 65536 in
set_option maxHeartbeats 40000000 in
theorem rm_u16ci_1_0 (l : Launch) (Z : State) (a0 : Array Value) (hw : ∀ d ∈ tables_1, d.before a0 Z = true) (ws : List Jvm.Cond) (z_CS : Int32) (v_FMT : Value) (ba_ : Addr) (kb_ : ClassId) (vs_ : List Value) (h0 : Heap) (n0 : Nat) (SB : own_Start Z z_CS v_FMT) (O0 : Old Z n0 h0) (pr0 : Arv Z h0 ba_ kb_ .byte (2 : Int32) vs_ (.int 0)) :
    oMet l Z yM19 jdk_52_method_91_code 2 none ws ({ frames := 2, cells := 0, slots := 0, locals := 27 } : Room) 0 0 #[(.int (0 : Int32)), (.ref ba_)] h0 (own_Q_u16ci_1_0 Z z_CS v_FMT ba_ kb_ vs_ h0 n0) := by
  refine oenter own_pn1 #[.val (.int (0 : Int32)), .val (.ref ba_)] (fun m => by first | (simp [entryFrame, mkF, argsToLocals, Value.category]; done) | rfl) ?_
  intro p e s m below meth c s₁ X0 hx hZ hby hml hret hown0 hnm hlk e0
  have hown : s.vm.findClass "java/lang/StringUTF16" = some m.cls := hown0
  have N0 := Fr.nil n0
  obtain ⟨S_CS, H_CS, S__assertionsDisabled, S_HI_BYTE_SHIFT, S_LO_BYTE_SHIFT, S_FMT, R_FMT⟩ := (id SB)
  have w3 := hw _ (List.mem_of_getElem? (i := 3) rfl)
  have w56 := hw _ (List.mem_of_getElem? (i := 56) rfl)
  have w79 := hw _ (List.mem_of_getElem? (i := 79) rfl)
  have w80 := hw _ (List.mem_of_getElem? (i := 80) rfl)
  have w111 := hw _ (List.mem_of_getElem? (i := 111) rfl)
  have w112 := hw _ (List.mem_of_getElem? (i := 112) rfl)
  have w113 := hw _ (List.mem_of_getElem? (i := 113) rfl)
  have w114 := hw _ (List.mem_of_getElem? (i := 114) rfl)
  refine o_iloadN X0 hx (hb hby d20_0) rfl ?_
  refine o_aloadN X0 hx (hb hby d20_1) rfl rfl ?_
  obtain ⟨_, _, ⟨T1, L1, kc1, n1⟩, -, X1, ⟨Lc1, hQ1, l1, y1, z1⟩, st1⟩ := Jvm.LawKit.callS X0 hx (y := yM18) hown (mvT hZ w111) (mvT hZ w112) (mvT hZ w56) (mvT hZ w113) (by decide) (backOf (W := 1) (rm_u16len_1 l Z a0 hw []  ba_ kb_ vs_ h0 n0 O0 pr0) hZ w113 w56 (by decide) (by decide)) (g := (mkF m 2 #[.val (.int (0 : Int32)), .val (.ref ba_)] [(.ref ba_), (.int (0 : Int32))])) rfl (by rw [hml]; rfl) (argsL := [(.ref ba_)]) (rest := [(.int (0 : Int32))]) (lenOf own_pd12 rfl) rfl (by show 2 * 0 + _ ≤ _; exact Nat.le_of_eq rfl) (hb hby d20_2) (fun _ _ => ⟨rfl, e0, (by decide : 0 + 0 ≤ _), (by decide : 0 + 0 ≤ _)⟩)
  dsimp only [Pt.U, Pt.locs, Pt.cells, Pt.slots] at X1 l1 y1 z1 st1 hQ1
  subst l1 y1 z1
  obtain ⟨rfl, Nq1, e1⟩ := hQ1
  have N1 := Fr.app N0 Nq1
  refine ogo (S' := T1.setTop (mkF m 5 #[.val (.int (0 : Int32)), .val (.ref ba_)] [(.int (1 : Int32)), (.int (0 : Int32))])) st1 ?_
  obtain ⟨_, _, ⟨T2, L2, kc2, n2⟩, -, X2, ⟨Lc2, hQ2, l2, y2, z2⟩, st2⟩ := Jvm.LawKit.callS X1 hx (y := yM16) hown (mvT hZ w114) (mvT hZ w79) (mvT hZ w3) (mvT hZ w80) (by decide) (backOf (W := 0) (rm_sci l Z a0 hw [] z_CS v_FMT (0 : Int32) (1 : Int32) h0 n0 SB O0 (by decide) (by decide)) hZ w80 w3 (by decide) (by decide)) (g := (mkF m 5 #[.val (.int (0 : Int32)), .val (.ref ba_)] [(.int (1 : Int32)), (.int (0 : Int32))])) rfl (by rw [hml]; rfl) (argsL := [(.int (0 : Int32)), (.int (1 : Int32))]) (rest := []) (lenOf own_pd11 rfl) rfl (by show 2 * 0 + _ ≤ _; exact Nat.le_of_eq rfl) (hb hby d20_5) (fun _ _ => ⟨rfl, e1, (by decide : 0 + 0 ≤ _), (by decide : 0 + 0 ≤ _)⟩)
  dsimp only [Pt.U, Pt.locs, Pt.cells, Pt.slots] at X2 l2 y2 z2 st2 hQ2
  subst l2 y2 z2
  obtain ⟨rfl, Nq2, e2⟩ := hQ2
  have N2 := Fr.app N1 Nq2
  refine ogo (S' := T2.setTop (mkF m 8 #[.val (.int (0 : Int32)), .val (.ref ba_)] [])) st2 ?_
  refine oend X2 hlk (v := none) (fun _ => rfl) (fun fs hr => X2.returnOut hx hret (hb hby d20_8) hr) (by decide) (by decide) ?_
  show own_Q_u16ci_1_0 Z _ _ _ _ _ h0 n0 _ T2.heap _
  rw [e2]
  exact ⟨rfl, N2, rfl⟩
theorem own_pd13 : parseMethodDescriptor "(I[B)V" = some ⟨[.int, (.array .byte)], none⟩ := by decide +kernel
theorem d21_0 : decode jdk_52_method_83_code 0 = .ok (.iload_n 1, 1) := by decide +kernel
theorem d21_1 : decode jdk_52_method_83_code 1 = .ok (.aload_n 0, 1) := by decide +kernel
theorem d21_2 : decode jdk_52_method_83_code 2 = .ok (.invokestatic 67, 3) := by decide +kernel
theorem d21_5 : decode jdk_52_method_83_code 5 = .ok (.aload_n 0, 1) := by decide +kernel
theorem d21_6 : decode jdk_52_method_83_code 6 = .ok (.iload_n 1, 1) := by decide +kernel
theorem d21_7 : decode jdk_52_method_83_code 7 = .ok (.invokestatic 71, 3) := by decide +kernel
theorem d21_10 : decode jdk_52_method_83_code 10 = .ok (.ireturn, 1) := by decide +kernel
def own_Q_u16cat_1_0 (Z : State) (z_CS : Int32) (v_FMT : Value) (ba_ : Addr) (kb_ : ClassId) (c0_ : Int32) (h0 : Heap) (n0 : Nat) (v : Option Value) (h : Heap) (L : List Loc) : Prop := (v = some (.int c0_)) ∧ (Fr n0 L) ∧ (h = h0)
abbrev yM20 : MethodName := ⟨"java/lang/StringUTF16", "charAt", "([BI)C"⟩
set_option maxRecDepth 65536 in
set_option maxHeartbeats 40000000 in
theorem rm_u16cat_1_0 (l : Launch) (Z : State) (a0 : Array Value) (hw : ∀ d ∈ tables_1, d.before a0 Z = true) (ws : List Jvm.Cond) (z_CS : Int32) (v_FMT : Value) (ba_ : Addr) (kb_ : ClassId) (c0_ : Int32) (h0 : Heap) (n0 : Nat) (SB : own_Start Z z_CS v_FMT) (O0 : Old Z n0 h0) (pr0 : Arv Z h0 ba_ kb_ .byte (2 : Int32) [(.int (c0_ >>> ((0 : Int32) &&& 31)).toInt8.toInt32), (.int (c0_ >>> ((8 : Int32) &&& 31)).toInt8.toInt32)] (.int 0)) (pr1 : own_c16 c0_) :
    oMet l Z yM20 jdk_52_method_83_code 2 (some .char) ws ({ frames := 3, cells := 0, slots := 0, locals := 40 } : Room) 0 0 #[(.ref ba_), (.int (0 : Int32))] h0 (own_Q_u16cat_1_0 Z z_CS v_FMT ba_ kb_ c0_ h0 n0) := by
  refine oenter own_pn1 #[.val (.ref ba_), .val (.int (0 : Int32))] (fun m => by first | (simp [entryFrame, mkF, argsToLocals, Value.category]; done) | rfl) ?_
  intro p e s m below meth c s₁ X0 hx hZ hby hml hret hown0 hnm hlk e0
  have hown : s.vm.findClass "java/lang/StringUTF16" = some m.cls := hown0
  have N0 := Fr.nil n0
  obtain ⟨S_CS, H_CS, S__assertionsDisabled, S_HI_BYTE_SHIFT, S_LO_BYTE_SHIFT, S_FMT, R_FMT⟩ := (id SB)
  have w56 := hw _ (List.mem_of_getElem? (i := 56) rfl)
  have w102 := hw _ (List.mem_of_getElem? (i := 102) rfl)
  have w103 := hw _ (List.mem_of_getElem? (i := 103) rfl)
  have w104 := hw _ (List.mem_of_getElem? (i := 104) rfl)
  have w108 := hw _ (List.mem_of_getElem? (i := 108) rfl)
  have w109 := hw _ (List.mem_of_getElem? (i := 109) rfl)
  have w110 := hw _ (List.mem_of_getElem? (i := 110) rfl)
  refine o_iloadN X0 hx (hb hby d21_0) rfl ?_
  refine o_aloadN X0 hx (hb hby d21_1) rfl rfl ?_
  obtain ⟨_, _, ⟨T1, L1, kc1, n1⟩, -, X1, ⟨Lc1, hQ1, l1, y1, z1⟩, st1⟩ := Jvm.LawKit.callS X0 hx (y := yM19) hown (mvT hZ w108) (mvT hZ w109) (mvT hZ w56) (mvT hZ w110) (by decide) (backOf (W := 0) (rm_u16ci_1_0 l Z a0 hw [] z_CS v_FMT ba_ kb_ [(.int (c0_ >>> ((0 : Int32) &&& 31)).toInt8.toInt32), (.int (c0_ >>> ((8 : Int32) &&& 31)).toInt8.toInt32)] h0 n0 SB O0 pr0) hZ w110 w56 (by decide) (by decide)) (g := (mkF m 2 #[.val (.ref ba_), .val (.int (0 : Int32))] [(.ref ba_), (.int (0 : Int32))])) rfl (by rw [hml]; rfl) (argsL := [(.int (0 : Int32)), (.ref ba_)]) (rest := []) (lenOf own_pd13 rfl) rfl (by show 2 * 0 + _ ≤ _; exact Nat.le_of_eq rfl) (hb hby d21_2) (fun _ _ => ⟨rfl, e0, (by decide : 0 + 0 ≤ _), (by decide : 0 + 0 ≤ _)⟩)
  dsimp only [Pt.U, Pt.locs, Pt.cells, Pt.slots] at X1 l1 y1 z1 st1 hQ1
  subst l1 y1 z1
  obtain ⟨rfl, Nq1, e1⟩ := hQ1
  have N1 := Fr.app N0 Nq1
  refine ogo (S' := T1.setTop (mkF m 5 #[.val (.ref ba_), .val (.int (0 : Int32))] [])) st1 ?_
  refine o_aloadN X1 hx (hb hby d21_5) rfl rfl ?_
  refine o_iloadN X1 hx (hb hby d21_6) rfl ?_
  obtain ⟨_, _, ⟨T2, L2, kc2, n2⟩, -, X2, ⟨Lc2, hQ2, l2, y2, z2⟩, st2⟩ := Jvm.LawKit.callS X1 hx (y := yM8) hown (mvT hZ w102) (mvT hZ w103) (mvT hZ w56) (mvT hZ w104) (by decide) (backOf (W := 0) (rm_getch_1_0 l Z a0 hw [] z_CS v_FMT ba_ kb_ c0_ h0 n0 SB O0 pr0 pr1) hZ w104 w56 (by decide) (by decide)) (g := (mkF m 7 #[.val (.ref ba_), .val (.int (0 : Int32))] [(.int (0 : Int32)), (.ref ba_)])) rfl (by rw [hml]; rfl) (argsL := [(.ref ba_), (.int (0 : Int32))]) (rest := []) (lenOf own_pd5 rfl) rfl (by show 2 * 0 + _ ≤ _; exact Nat.le_of_eq rfl) (hb hby d21_7) (fun _ _ => ⟨rfl, e1, (by decide : 0 + 0 ≤ _), (by decide : 0 + 0 ≤ _)⟩)
  dsimp only [Pt.U, Pt.locs, Pt.cells, Pt.slots] at X2 l2 y2 z2 st2 hQ2
  subst l2 y2 z2
  obtain ⟨rfl, Nq2, e2⟩ := hQ2
  have N2 := Fr.app N1 Nq2
  refine ogo (S' := T2.setTop (mkF m 10 #[.val (.ref ba_), .val (.int (0 : Int32))] [(.int c0_)])) st2 ?_
  refine oend X2 hlk (v := some (.int c0_)) (fun h => by rw [hret] at h; cases h) (fun fs hr => retN X2 hx (t := .char) hret (by simp) (hb hby d21_10) (by rw [(own_nar16 pr1)]; exact hr)) (by decide) (by decide) ?_
  show own_Q_u16cat_1_0 Z _ _ _ _ _ h0 n0 _ T2.heap _
  rw [e2]
  exact ⟨rfl, N2, rfl⟩
theorem own_pd14 : parseMethodDescriptor "()Z" = some ⟨[], some .boolean⟩ := by decide +kernel
theorem d22_0 : decode jdk_42_method_56_code 0 = .ok (.aload_n 0, 1) := by decide +kernel
theorem d22_1 : decode jdk_42_method_56_code 1 = .ok (.invokevirtual 492, 3) := by decide +kernel
theorem d22_4 : decode jdk_42_method_56_code 4 = .ok (.ifCond .eq 12, 3) := by decide +kernel
theorem d22_7 : decode jdk_42_method_56_code 7 = .ok (.aload_n 0, 1) := by decide +kernel
theorem d22_8 : decode jdk_42_method_56_code 8 = .ok (.getfield 9, 3) := by decide +kernel
theorem d22_11 : decode jdk_42_method_56_code 11 = .ok (.iload_n 1, 1) := by decide +kernel
theorem d22_12 : decode jdk_42_method_56_code 12 = .ok (.invokestatic 495, 3) := by decide +kernel
theorem d22_15 : decode jdk_42_method_56_code 15 = .ok (.ireturn, 1) := by decide +kernel
theorem d22_16 : decode jdk_42_method_56_code 16 = .ok (.aload_n 0, 1) := by decide +kernel
theorem d22_17 : decode jdk_42_method_56_code 17 = .ok (.getfield 9, 3) := by decide +kernel
theorem d22_20 : decode jdk_42_method_56_code 20 = .ok (.iload_n 1, 1) := by decide +kernel
theorem d22_21 : decode jdk_42_method_56_code 21 = .ok (.invokestatic 498, 3) := by decide +kernel
theorem d22_24 : decode jdk_42_method_56_code 24 = .ok (.ireturn, 1) := by decide +kernel
def own_Q_ecat_1_0 (Z : State) (z_CS : Int32) (v_FMT : Value) (x_ : Addr) (ba_ : Addr) (kb_ : ClassId) (cd_ : Int32) (z_ : Int32) (vs_ : List Value) (c0_ : Int32) (h0 : Heap) (n0 : Nat) (v : Option Value) (h : Heap) (L : List Loc) : Prop := (v = some (.int c0_)) ∧ (Fr n0 L) ∧ (h = h0)
abbrev yM21 : MethodName := ⟨"java/lang/String", "charAt", "(I)C"⟩
set_option maxRecDepth 65536 in
set_option maxHeartbeats 40000000 in
theorem rm_ecat_1_0 (l : Launch) (Z : State) (a0 : Array Value) (hw : ∀ d ∈ tables_1, d.before a0 Z = true) (ws : List Jvm.Cond) (z_CS : Int32) (v_FMT : Value) (x_ : Addr) (ba_ : Addr) (kb_ : ClassId) (cd_ : Int32) (z_ : Int32) (vs_ : List Value) (c0_ : Int32) (h0 : Heap) (n0 : Nat) (SB : own_Start Z z_CS v_FMT) (O0 : Old Z n0 h0) (pr0 : Exa Z h0 x_ "java/lang/String") (pr1 : Fld Z h0 x_ "java/lang/String" "coder" "B" (.int cd_)) (pr2 : Fld Z h0 x_ "java/lang/String" "value" "[B" (.ref ba_)) (pr3 : Arv Z h0 ba_ kb_ .byte z_ vs_ (.int 0)) (pr4 : own_enc1 c0_ cd_ z_ vs_) (pr5 : own_c16 c0_) :
    oMet l Z yM21 jdk_42_method_56_code 2 (some .char) ws ({ frames := 4, cells := 0, slots := 0, locals := 53 } : Room) 0 0 #[(.ref x_), (.int (0 : Int32))] h0 (own_Q_ecat_1_0 Z z_CS v_FMT x_ ba_ kb_ cd_ z_ vs_ c0_ h0 n0) := by
  refine oenter own_pn2 #[.val (.ref x_), .val (.int (0 : Int32))] (fun m => by first | (simp [entryFrame, mkF, argsToLocals, Value.category]; done) | rfl) ?_
  intro p e s m below meth c s₁ X0 hx hZ hby hml hret hown0 hnm hlk e0
  have hown : s.vm.findClass "java/lang/String" = some m.cls := hown0
  have N0 := Fr.nil n0
  obtain ⟨S_CS, H_CS, S__assertionsDisabled, S_HI_BYTE_SHIFT, S_LO_BYTE_SHIFT, S_FMT, R_FMT⟩ := (id SB)
  have w3 := hw _ (List.mem_of_getElem? (i := 3) rfl)
  have w21 := hw _ (List.mem_of_getElem? (i := 21) rfl)
  have w56 := hw _ (List.mem_of_getElem? (i := 56) rfl)
  have w69 := hw _ (List.mem_of_getElem? (i := 69) rfl)
  have w70 := hw _ (List.mem_of_getElem? (i := 70) rfl)
  have w71 := hw _ (List.mem_of_getElem? (i := 71) rfl)
  have w72 := hw _ (List.mem_of_getElem? (i := 72) rfl)
  have w73 := hw _ (List.mem_of_getElem? (i := 73) rfl)
  have w74 := hw _ (List.mem_of_getElem? (i := 74) rfl)
  have w75 := hw _ (List.mem_of_getElem? (i := 75) rfl)
  have w76 := hw _ (List.mem_of_getElem? (i := 76) rfl)
  have w77 := hw _ (List.mem_of_getElem? (i := 77) rfl)
  have w105 := hw _ (List.mem_of_getElem? (i := 105) rfl)
  have w106 := hw _ (List.mem_of_getElem? (i := 106) rfl)
  have w107 := hw _ (List.mem_of_getElem? (i := 107) rfl)
  rcases pr4 with ⟨hs0, rfl, rfl, rfl⟩ | ⟨rfl, rfl, rfl⟩
  · refine o_aloadN X0 hx (hb hby d22_0) rfl rfl ?_
    obtain ⟨cq1, kq1, q1a, q1b, q1c⟩ := isOf hZ e0 pr0
    obtain ⟨_, _, ⟨T1, L1, kc1, n1⟩, -, X1, ⟨Lc1, hQ1, l1, y1, z1⟩, st1⟩ := X0.virtualBack hx (y := yM14) (z := yM14) hown (mvT hZ w69) (mvT hZ w70) (notFace_of_selects (args := #[]) (mvT hZ w72)) (mvT hZ w72) (mvT hZ w71) (by decide) (backOf (W := 0) (rm_isl1_0 l Z a0 hw [] z_CS v_FMT x_ h0 n0 SB O0 pr1) hZ w73 w3 (by decide) (by decide)) q1a q1c (g := (mkF m 1 #[.val (.ref x_), .val (.int (0 : Int32))] [(.ref x_)])) rfl (by rw [hml]; rfl) (Steps.refl _) (argsL := []) (rest := []) (lenOf own_pd14 rfl) rfl (by show 2 * 0 + _ ≤ _; exact Nat.le_of_eq rfl) (hb hby d22_1) (fun _ _ => ⟨rfl, e0, (by decide : 0 + 0 ≤ _), (by decide : 0 + 0 ≤ _)⟩)
    dsimp only [Pt.U, Pt.locs, Pt.cells, Pt.slots] at X1 l1 y1 z1 st1 hQ1
    subst l1 y1 z1
    obtain ⟨rfl, Nq1, e1⟩ := hQ1
    have N1 := Fr.app N0 Nq1
    refine otr (S' := T1.setTop (mkF m 4 #[.val (.ref x_), .val (.int (0 : Int32))] [(.int (1 : Int32))])) st1 ?_
    refine o_ifNo X1 hx (hb hby d22_4) (feq (by decide : ¬ ((1 : Int32) = (0 : Int32)))).1 ?_
    refine o_aloadN X1 hx (hb hby d22_7) rfl rfl ?_
    obtain ⟨T2, X2, e2, st2⟩ := getF X1 hx hZ hown (host := "") (Or.inl w21) Via.refl e1 pr2 (g := (mkF m 8 #[.val (.ref x_), .val (.int (0 : Int32))] [(.ref x_)])) rfl rfl (hb hby d22_8)
    refine ogo (S' := T2.setTop (mkF m 11 #[.val (.ref x_), .val (.int (0 : Int32))] [(.ref ba_)])) st2 ?_
    refine o_iloadN X2 hx (hb hby d22_11) rfl ?_
    obtain ⟨_, _, ⟨T3, L3, kc3, n3⟩, -, X3, ⟨Lc3, hQ3, l3, y3, z3⟩, st3⟩ := Jvm.LawKit.callS X2 hx (y := yM17) hown (mvT hZ w74) (mvT hZ w75) (mvT hZ w76) (mvT hZ w77) (by decide) (backOf (W := 0) (rm_l1c_1_0 l Z a0 hw [] z_CS v_FMT ba_ kb_ c0_ h0 n0 SB O0 pr3 (own_c16n pr5) hs0) hZ w77 w76 (by decide) (by decide)) (g := (mkF m 12 #[.val (.ref x_), .val (.int (0 : Int32))] [(.int (0 : Int32)), (.ref ba_)])) rfl (by rw [hml]; rfl) (argsL := [(.ref ba_), (.int (0 : Int32))]) (rest := []) (lenOf own_pd5 rfl) rfl (by show 2 * 0 + _ ≤ _; exact Nat.le_of_eq rfl) (hb hby d22_12) (fun _ _ => ⟨rfl, e2, (by decide : 0 + 0 ≤ _), (by decide : 0 + 0 ≤ _)⟩)
    dsimp only [Pt.U, Pt.locs, Pt.cells, Pt.slots] at X3 l3 y3 z3 st3 hQ3
    subst l3 y3 z3
    obtain ⟨rfl, Nq3, e3⟩ := hQ3
    have N3 := Fr.app N1 Nq3
    refine ogo (S' := T3.setTop (mkF m 15 #[.val (.ref x_), .val (.int (0 : Int32))] [(.int c0_)])) st3 ?_
    refine oend X3 hlk (v := some (.int c0_)) (fun h => by rw [hret] at h; cases h) (fun fs hr => retN X3 hx (t := .char) hret (by simp) (hb hby d22_15) (by rw [(own_nar16 pr5)]; exact hr)) (by decide) (by decide) ?_
    show own_Q_ecat_1_0 Z _ _ _ _ _ _ _ _ _ h0 n0 _ T3.heap _
    rw [e3]
    exact ⟨rfl, N3, rfl⟩
  · refine o_aloadN X0 hx (hb hby d22_0) rfl rfl ?_
    obtain ⟨cq4, kq4, q4a, q4b, q4c⟩ := isOf hZ e0 pr0
    obtain ⟨_, _, ⟨T4, L4, kc4, n4⟩, -, X4, ⟨Lc4, hQ4, l4, y4, z4⟩, st4⟩ := X0.virtualBack hx (y := yM14) (z := yM14) hown (mvT hZ w69) (mvT hZ w70) (notFace_of_selects (args := #[]) (mvT hZ w72)) (mvT hZ w72) (mvT hZ w71) (by decide) (backOf (W := 0) (rm_isl1_1 l Z a0 hw [] z_CS v_FMT x_ h0 n0 SB O0 pr1) hZ w73 w3 (by decide) (by decide)) q4a q4c (g := (mkF m 1 #[.val (.ref x_), .val (.int (0 : Int32))] [(.ref x_)])) rfl (by rw [hml]; rfl) (Steps.refl _) (argsL := []) (rest := []) (lenOf own_pd14 rfl) rfl (by show 2 * 0 + _ ≤ _; exact Nat.le_of_eq rfl) (hb hby d22_1) (fun _ _ => ⟨rfl, e0, (by decide : 0 + 0 ≤ _), (by decide : 0 + 0 ≤ _)⟩)
    dsimp only [Pt.U, Pt.locs, Pt.cells, Pt.slots] at X4 l4 y4 z4 st4 hQ4
    subst l4 y4 z4
    obtain ⟨rfl, Nq4, e4⟩ := hQ4
    have N4 := Fr.app N0 Nq4
    refine otr (S' := T4.setTop (mkF m 4 #[.val (.ref x_), .val (.int (0 : Int32))] [(.int (0 : Int32))])) st4 ?_
    refine o_ifYes X4 hx 16 (hb hby d22_4) (teq (by decide : (0 : Int32) = (0 : Int32))).1 (by decide) (by decide) ?_
    refine o_aloadN X4 hx (hb hby d22_16) rfl rfl ?_
    obtain ⟨T5, X5, e5, st5⟩ := getF X4 hx hZ hown (host := "") (Or.inl w21) Via.refl e4 pr2 (g := (mkF m 17 #[.val (.ref x_), .val (.int (0 : Int32))] [(.ref x_)])) rfl rfl (hb hby d22_17)
    refine ogo (S' := T5.setTop (mkF m 20 #[.val (.ref x_), .val (.int (0 : Int32))] [(.ref ba_)])) st5 ?_
    refine o_iloadN X5 hx (hb hby d22_20) rfl ?_
    obtain ⟨_, _, ⟨T6, L6, kc6, n6⟩, -, X6, ⟨Lc6, hQ6, l6, y6, z6⟩, st6⟩ := Jvm.LawKit.callS X5 hx (y := yM20) hown (mvT hZ w105) (mvT hZ w106) (mvT hZ w56) (mvT hZ w107) (by decide) (backOf (W := 0) (rm_u16cat_1_0 l Z a0 hw [] z_CS v_FMT ba_ kb_ c0_ h0 n0 SB O0 pr3 pr5) hZ w107 w56 (by decide) (by decide)) (g := (mkF m 21 #[.val (.ref x_), .val (.int (0 : Int32))] [(.int (0 : Int32)), (.ref ba_)])) rfl (by rw [hml]; rfl) (argsL := [(.ref ba_), (.int (0 : Int32))]) (rest := []) (lenOf own_pd5 rfl) rfl (by show 2 * 0 + _ ≤ _; exact Nat.le_of_eq rfl) (hb hby d22_21) (fun _ _ => ⟨rfl, e5, (by decide : 0 + 0 ≤ _), (by decide : 0 + 0 ≤ _)⟩)
    dsimp only [Pt.U, Pt.locs, Pt.cells, Pt.slots] at X6 l6 y6 z6 st6 hQ6
    subst l6 y6 z6
    obtain ⟨rfl, Nq6, e6⟩ := hQ6
    have N6 := Fr.app N4 Nq6
    refine ogo (S' := T6.setTop (mkF m 24 #[.val (.ref x_), .val (.int (0 : Int32))] [(.int c0_)])) st6 ?_
    refine oend X6 hlk (v := some (.int c0_)) (fun h => by rw [hret] at h; cases h) (fun fs hr => retN X6 hx (t := .char) hret (by simp) (hb hby d22_24) (by rw [(own_nar16 pr5)]; exact hr)) (by decide) (by decide) ?_
    show own_Q_ecat_1_0 Z _ _ _ _ _ _ _ _ _ h0 n0 _ T6.heap _
    rw [e6]
    exact ⟨rfl, N6, rfl⟩
theorem own_pd15 : parseMethodDescriptor "(I)C" = some ⟨[.int], some .char⟩ := by decide +kernel
theorem d14_14 : decode prog_8_method_4_code 14 = .ok (.aload_n 0, 1) := by decide +kernel
theorem d14_15 : decode prog_8_method_4_code 15 = .ok (.getfield 7, 3) := by decide +kernel
theorem d14_18 : decode prog_8_method_4_code 18 = .ok (.aload_n 0, 1) := by decide +kernel
theorem d14_19 : decode prog_8_method_4_code 19 = .ok (.getfield 25, 3) := by decide +kernel
theorem d14_22 : decode prog_8_method_4_code 22 = .ok (.invokevirtual 39, 3) := by decide +kernel
theorem d14_25 : decode prog_8_method_4_code 25 = .ok (.iload_n 1, 1) := by decide +kernel
theorem d14_26 : decode prog_8_method_4_code 26 = .ok (.if_icmp .ne 7, 3) := by decide +kernel
theorem d14_29 : decode prog_8_method_4_code 29 = .ok (.iconst 1, 1) := by decide +kernel
theorem d14_30 : decode prog_8_method_4_code 30 = .ok (.goto 4, 3) := by decide +kernel
theorem d14_39 : decode prog_8_method_4_code 39 = .ok (.aload_n 0, 1) := by decide +kernel
theorem d14_40 : decode prog_8_method_4_code 40 = .ok (.dup, 1) := by decide +kernel
theorem d14_41 : decode prog_8_method_4_code 41 = .ok (.getfield 25, 3) := by decide +kernel
theorem d14_44 : decode prog_8_method_4_code 44 = .ok (.iconst 1, 1) := by decide +kernel
theorem d14_45 : decode prog_8_method_4_code 45 = .ok (.iadd, 1) := by decide +kernel
theorem d14_46 : decode prog_8_method_4_code 46 = .ok (.putfield 25, 3) := by decide +kernel
def own_Q_skipT_1_0 (Z : State) (z_CS : Int32) (v_FMT : Value) (t_ : Addr) (x_ : Addr) (ba_ : Addr) (kb_ : ClassId) (cd_ : Int32) (z_ : Int32) (vs_ : List Value) (c0_ : Int32) (u_ : Int32) (h0 : Heap) (n0 : Nat) (v : Option Value) (h : Heap) (L : List Loc) : Prop := (v = some (.int (1 : Int32))) ∧ (Fr n0 L) ∧ (Keep h0 h [t_]) ∧ (Exa Z h t_ "com/example/rowfold/rowfold/Literal") ∧ (Fld Z h t_ "com/example/rowfold/rowfold/Literal" "text" "Ljava/lang/String;" (.ref x_)) ∧ (Fld Z h t_ "com/example/rowfold/rowfold/Literal" "at" "I" (.int (1 : Int32)))
set_option maxRecDepth 65536 in
set_option maxHeartbeats 40000000 in
theorem rm_skipT_1_0 (l : Launch) (Z : State) (a0 : Array Value) (hw : ∀ d ∈ tables_1, d.before a0 Z = true) (ws : List Jvm.Cond) (z_CS : Int32) (v_FMT : Value) (t_ : Addr) (x_ : Addr) (ba_ : Addr) (kb_ : ClassId) (cd_ : Int32) (z_ : Int32) (vs_ : List Value) (c0_ : Int32) (u_ : Int32) (h0 : Heap) (n0 : Nat) (SB : own_Start Z z_CS v_FMT) (O0 : Old Z n0 h0) (pr0 : Exa Z h0 t_ "com/example/rowfold/rowfold/Literal") (pr1 : Fld Z h0 t_ "com/example/rowfold/rowfold/Literal" "text" "Ljava/lang/String;" (.ref x_)) (pr2 : Fld Z h0 t_ "com/example/rowfold/rowfold/Literal" "at" "I" (.int (0 : Int32))) (pr3 : Exa Z h0 x_ "java/lang/String") (pr4 : Fld Z h0 x_ "java/lang/String" "coder" "B" (.int cd_)) (pr5 : Fld Z h0 x_ "java/lang/String" "value" "[B" (.ref ba_)) (pr6 : Arv Z h0 ba_ kb_ .byte z_ vs_ (.int 0)) (pr7 : own_enc1 c0_ cd_ z_ vs_) (pr8 : own_c16 c0_) (pr9 : c0_ = u_) (pr10 : n0 ≤ t_) :
    oMet l Z yM13 prog_8_method_4_code 3 (some .boolean) ws ({ frames := 5, cells := 0, slots := 0, locals := 66 } : Room) 0 0 #[(.ref t_), (.int u_)] h0 (own_Q_skipT_1_0 Z z_CS v_FMT t_ x_ ba_ kb_ cd_ z_ vs_ c0_ u_ h0 n0) := by
  refine oenter own_pn0 #[.val (.ref t_), .val (.int u_), .unset] (fun m => by first | (simp [entryFrame, mkF, argsToLocals, Value.category]; done) | rfl) ?_
  intro p e s m below meth c s₁ X0 hx hZ hby hml hret hown0 hnm hlk e0
  have hown : s.vm.findClass "com/example/rowfold/rowfold/Literal" = some m.cls := hown0
  have N0 := Fr.nil n0
  obtain ⟨S_CS, H_CS, S__assertionsDisabled, S_HI_BYTE_SHIFT, S_LO_BYTE_SHIFT, S_FMT, R_FMT⟩ := (id SB)
  have w3 := hw _ (List.mem_of_getElem? (i := 3) rfl)
  have w24 := hw _ (List.mem_of_getElem? (i := 24) rfl)
  have w30 := hw _ (List.mem_of_getElem? (i := 30) rfl)
  have w31 := hw _ (List.mem_of_getElem? (i := 31) rfl)
  have w37 := hw _ (List.mem_of_getElem? (i := 37) rfl)
  have w38 := hw _ (List.mem_of_getElem? (i := 38) rfl)
  have w39 := hw _ (List.mem_of_getElem? (i := 39) rfl)
  have w40 := hw _ (List.mem_of_getElem? (i := 40) rfl)
  have w41 := hw _ (List.mem_of_getElem? (i := 41) rfl)
  have w42 := hw _ (List.mem_of_getElem? (i := 42) rfl)
  have w43 := hw _ (List.mem_of_getElem? (i := 43) rfl)
  have w64 := hw _ (List.mem_of_getElem? (i := 64) rfl)
  have w65 := hw _ (List.mem_of_getElem? (i := 65) rfl)
  have w66 := hw _ (List.mem_of_getElem? (i := 66) rfl)
  have w67 := hw _ (List.mem_of_getElem? (i := 67) rfl)
  have w68 := hw _ (List.mem_of_getElem? (i := 68) rfl)
  refine o_aloadN X0 hx (hb hby d14_0) rfl rfl ?_
  obtain ⟨T1, X1, e1, st1⟩ := getF X0 hx hZ hown (host := "") (Or.inl w37) Via.refl e0 pr2 (g := (mkF m 1 #[.val (.ref t_), .val (.int u_), .unset] [(.ref t_)])) rfl rfl (hb hby d14_1)
  refine ogo (S' := T1.setTop (mkF m 4 #[.val (.ref t_), .val (.int u_), .unset] [(.int (0 : Int32))])) st1 ?_
  refine o_aloadN X1 hx (hb hby d14_4) rfl rfl ?_
  obtain ⟨T2, X2, e2, st2⟩ := getF X1 hx hZ hown (host := "") (Or.inl w30) Via.refl e1 pr1 (g := (mkF m 5 #[.val (.ref t_), .val (.int u_), .unset] [(.ref t_), (.int (0 : Int32))])) rfl rfl (hb hby d14_5)
  refine ogo (S' := T2.setTop (mkF m 8 #[.val (.ref t_), .val (.int u_), .unset] [(.ref x_), (.int (0 : Int32))])) st2 ?_
  obtain ⟨cq3, kq3, q3a, q3b, q3c⟩ := isOf hZ e2 pr3
  obtain ⟨_, _, ⟨T3, L3, kc3, n3⟩, -, X3, ⟨Lc3, hQ3, l3, y3, z3⟩, st3⟩ := X2.virtualBack hx (y := yM12) (z := yM12) hown (mvT hZ w39) (mvT hZ w40) (notFace_of_selects (args := #[]) (mvT hZ w42)) (mvT hZ w42) (mvT hZ w41) (by decide) (backOf (W := 1) (rm_elen_1 l Z a0 hw [] z_CS v_FMT x_ ba_ kb_ cd_ z_ vs_ c0_ h0 n0 SB O0 pr3 pr4 pr5 pr6 pr7) hZ w43 w3 (by decide) (by decide)) q3a q3c (g := (mkF m 8 #[.val (.ref t_), .val (.int u_), .unset] [(.ref x_), (.int (0 : Int32))])) rfl (by rw [hml]; rfl) (Steps.refl _) (argsL := []) (rest := [(.int (0 : Int32))]) (lenOf own_pd9 rfl) rfl (by show 2 * 0 + _ ≤ _; exact Nat.le_of_eq rfl) (hb hby d14_8) (fun _ _ => ⟨rfl, e2, (by decide : 0 + 0 ≤ _), (by decide : 0 + 0 ≤ _)⟩)
  dsimp only [Pt.U, Pt.locs, Pt.cells, Pt.slots] at X3 l3 y3 z3 st3 hQ3
  subst l3 y3 z3
  obtain ⟨rfl, Nq3, e3⟩ := hQ3
  have N3 := Fr.app N0 Nq3
  refine otr (S' := T3.setTop (mkF m 11 #[.val (.ref t_), .val (.int u_), .unset] [(.int (1 : Int32)), (.int (0 : Int32))])) st3 ?_
  refine o_icmpNo X3 hx (hb hby d14_11) (tlt (by decide : (0 : Int32) < (1 : Int32))).2.1 ?_
  refine o_aloadN X3 hx (hb hby d14_14) rfl rfl ?_
  obtain ⟨T4, X4, e4, st4⟩ := getF X3 hx hZ hown (host := "") (Or.inl w30) Via.refl e3 pr1 (g := (mkF m 15 #[.val (.ref t_), .val (.int u_), .unset] [(.ref t_)])) rfl rfl (hb hby d14_15)
  refine ogo (S' := T4.setTop (mkF m 18 #[.val (.ref t_), .val (.int u_), .unset] [(.ref x_)])) st4 ?_
  refine o_aloadN X4 hx (hb hby d14_18) rfl rfl ?_
  obtain ⟨T5, X5, e5, st5⟩ := getF X4 hx hZ hown (host := "") (Or.inl w37) Via.refl e4 pr2 (g := (mkF m 19 #[.val (.ref t_), .val (.int u_), .unset] [(.ref t_), (.ref x_)])) rfl rfl (hb hby d14_19)
  refine ogo (S' := T5.setTop (mkF m 22 #[.val (.ref t_), .val (.int u_), .unset] [(.int (0 : Int32)), (.ref x_)])) st5 ?_
  obtain ⟨cq6, kq6, q6a, q6b, q6c⟩ := isOf hZ e5 pr3
  obtain ⟨_, _, ⟨T6, L6, kc6, n6⟩, -, X6, ⟨Lc6, hQ6, l6, y6, z6⟩, st6⟩ := X5.virtualBack hx (y := yM21) (z := yM21) hown (mvT hZ w64) (mvT hZ w65) (notFace_of_selects (args := #[]) (mvT hZ w67)) (mvT hZ w67) (mvT hZ w66) (by decide) (backOf (W := 0) (rm_ecat_1_0 l Z a0 hw [] z_CS v_FMT x_ ba_ kb_ cd_ z_ vs_ c0_ h0 n0 SB O0 pr3 pr4 pr5 pr6 pr7 pr8) hZ w68 w3 (by decide) (by decide)) q6a q6c (g := (mkF m 22 #[.val (.ref t_), .val (.int u_), .unset] [(.int (0 : Int32)), (.ref x_)])) rfl (by rw [hml]; rfl) (Steps.refl _) (argsL := [(.int (0 : Int32))]) (rest := []) (lenOf own_pd15 rfl) rfl (by show 2 * 0 + _ ≤ _; exact Nat.le_of_eq rfl) (hb hby d14_22) (fun _ _ => ⟨rfl, e5, (by decide : 0 + 0 ≤ _), (by decide : 0 + 0 ≤ _)⟩)
  dsimp only [Pt.U, Pt.locs, Pt.cells, Pt.slots] at X6 l6 y6 z6 st6 hQ6
  subst l6 y6 z6
  obtain ⟨rfl, Nq6, e6⟩ := hQ6
  have N6 := Fr.app N3 Nq6
  refine otr (S' := T6.setTop (mkF m 25 #[.val (.ref t_), .val (.int u_), .unset] [(.int c0_)])) st6 ?_
  refine o_iloadN X6 hx (hb hby d14_25) rfl ?_
  refine o_icmpNo X6 hx (hb hby d14_26) (teq pr9).2 ?_
  refine o_iconst X6 hx (1 : Int32) (hb hby d14_29) rfl ?_
  refine o_goto X6 hx 34 (hb hby d14_30) (by decide) (by decide) ?_
  refine o_istoreN X6 hx (l' := #[.val (.ref t_), .val (.int u_), .val (.int (1 : Int32))]) (hb hby d14_34) rfl ?_
  refine o_iloadN X6 hx (hb hby d14_35) rfl ?_
  refine o_ifNo X6 hx (hb hby d14_36) (feq (by decide : ¬ ((1 : Int32) = (0 : Int32)))).1 ?_
  refine o_aloadN X6 hx (hb hby d14_39) rfl rfl ?_
  refine o_dup X6 hx (hb hby d14_40) rfl ?_
  obtain ⟨T7, X7, e7, st7⟩ := getF X6 hx hZ hown (host := "") (Or.inl w37) Via.refl e6 pr2 (g := (mkF m 41 #[.val (.ref t_), .val (.int u_), .val (.int (1 : Int32))] [(.ref t_), (.ref t_)])) rfl rfl (hb hby d14_41)
  refine ogo (S' := T7.setTop (mkF m 44 #[.val (.ref t_), .val (.int u_), .val (.int (1 : Int32))] [(.int (0 : Int32)), (.ref t_)])) st7 ?_
  refine o_iconst X7 hx (1 : Int32) (hb hby d14_44) rfl ?_
  refine o_iadd X7 hx (hb hby d14_45) ?_
  obtain ⟨T8, _, X8, rfl, W8, st8⟩ := putF X7 hx hZ hown (host := "") (Or.inl w37) Via.refl e7 pr2 pr0 (Or.inl w38) w24 (ty := .int) (by decide) rfl rfl (g := (mkF m 46 #[.val (.ref t_), .val (.int u_), .val (.int (1 : Int32))] [(.int (1 : Int32)), (.ref t_)])) rfl rfl (hb hby d14_46)
  have N8 := Fr.snoc X8 N6 pr10
  have F8 := Fld.same W8 pr2
  refine ogo (S' := T8.setTop (mkF m 49 #[.val (.ref t_), .val (.int u_), .val (.int (1 : Int32))] [])) st8 ?_
  refine o_iloadN X8 hx (hb hby d14_49) rfl ?_
  have c9 := (Fld.other W8 pr1 (Or.inr (slot_ne (Or.inr w31) (Or.inl w38) (by decide) (t := (.object "java/lang/String")) (t' := .int) (by decide) (by decide))))
  refine oend X8 hlk (v := some (.int (1 : Int32))) (fun h => by rw [hret] at h; cases h) (fun fs hr => retN X8 hx (t := .boolean) hret (by simp) (hb hby d14_50) hr) (by decide) (by decide) ?_
  show own_Q_skipT_1_0 Z _ _ _ _ _ _ _ _ _ _ _ h0 n0 _ T8.heap _
  exact ⟨rfl, N8, ((Keep.refl h0 [t_]).wr W8 (Or.inl (List.mem_of_getElem? (i := 0) rfl))), (Exa.wr W8 pr0), c9, F8⟩
def own_Q_skipF_1_0 (Z : State) (z_CS : Int32) (v_FMT : Value) (t_ : Addr) (x_ : Addr) (ba_ : Addr) (kb_ : ClassId) (cd_ : Int32) (z_ : Int32) (vs_ : List Value) (c0_ : Int32) (u_ : Int32) (h0 : Heap) (n0 : Nat) (v : Option Value) (h : Heap) (L : List Loc) : Prop := (v = some (.int (0 : Int32))) ∧ (Fr n0 L) ∧ (h = h0)
set_option maxRecDepth 65536 in
set_option maxHeartbeats 40000000 in
theorem rm_skipF_1_0 (l : Launch) (Z : State) (a0 : Array Value) (hw : ∀ d ∈ tables_1, d.before a0 Z = true) (ws : List Jvm.Cond) (z_CS : Int32) (v_FMT : Value) (t_ : Addr) (x_ : Addr) (ba_ : Addr) (kb_ : ClassId) (cd_ : Int32) (z_ : Int32) (vs_ : List Value) (c0_ : Int32) (u_ : Int32) (h0 : Heap) (n0 : Nat) (SB : own_Start Z z_CS v_FMT) (O0 : Old Z n0 h0) (pr0 : Exa Z h0 t_ "com/example/rowfold/rowfold/Literal") (pr1 : Fld Z h0 t_ "com/example/rowfold/rowfold/Literal" "text" "Ljava/lang/String;" (.ref x_)) (pr2 : Fld Z h0 t_ "com/example/rowfold/rowfold/Literal" "at" "I" (.int (0 : Int32))) (pr3 : Exa Z h0 x_ "java/lang/String") (pr4 : Fld Z h0 x_ "java/lang/String" "coder" "B" (.int cd_)) (pr5 : Fld Z h0 x_ "java/lang/String" "value" "[B" (.ref ba_)) (pr6 : Arv Z h0 ba_ kb_ .byte z_ vs_ (.int 0)) (pr7 : own_enc1 c0_ cd_ z_ vs_) (pr8 : own_c16 c0_) (pr9 : ¬ (c0_ = u_)) :
    oMet l Z yM13 prog_8_method_4_code 3 (some .boolean) ws ({ frames := 5, cells := 0, slots := 0, locals := 66 } : Room) 0 0 #[(.ref t_), (.int u_)] h0 (own_Q_skipF_1_0 Z z_CS v_FMT t_ x_ ba_ kb_ cd_ z_ vs_ c0_ u_ h0 n0) := by
  refine oenter own_pn0 #[.val (.ref t_), .val (.int u_), .unset] (fun m => by first | (simp [entryFrame, mkF, argsToLocals, Value.category]; done) | rfl) ?_
  intro p e s m below meth c s₁ X0 hx hZ hby hml hret hown0 hnm hlk e0
  have hown : s.vm.findClass "com/example/rowfold/rowfold/Literal" = some m.cls := hown0
  have N0 := Fr.nil n0
  obtain ⟨S_CS, H_CS, S__assertionsDisabled, S_HI_BYTE_SHIFT, S_LO_BYTE_SHIFT, S_FMT, R_FMT⟩ := (id SB)
  have w3 := hw _ (List.mem_of_getElem? (i := 3) rfl)
  have w30 := hw _ (List.mem_of_getElem? (i := 30) rfl)
  have w37 := hw _ (List.mem_of_getElem? (i := 37) rfl)
  have w39 := hw _ (List.mem_of_getElem? (i := 39) rfl)
  have w40 := hw _ (List.mem_of_getElem? (i := 40) rfl)
  have w41 := hw _ (List.mem_of_getElem? (i := 41) rfl)
  have w42 := hw _ (List.mem_of_getElem? (i := 42) rfl)
  have w43 := hw _ (List.mem_of_getElem? (i := 43) rfl)
  have w64 := hw _ (List.mem_of_getElem? (i := 64) rfl)
  have w65 := hw _ (List.mem_of_getElem? (i := 65) rfl)
  have w66 := hw _ (List.mem_of_getElem? (i := 66) rfl)
  have w67 := hw _ (List.mem_of_getElem? (i := 67) rfl)
  have w68 := hw _ (List.mem_of_getElem? (i := 68) rfl)
  refine o_aloadN X0 hx (hb hby d14_0) rfl rfl ?_
  obtain ⟨T1, X1, e1, st1⟩ := getF X0 hx hZ hown (host := "") (Or.inl w37) Via.refl e0 pr2 (g := (mkF m 1 #[.val (.ref t_), .val (.int u_), .unset] [(.ref t_)])) rfl rfl (hb hby d14_1)
  refine ogo (S' := T1.setTop (mkF m 4 #[.val (.ref t_), .val (.int u_), .unset] [(.int (0 : Int32))])) st1 ?_
  refine o_aloadN X1 hx (hb hby d14_4) rfl rfl ?_
  obtain ⟨T2, X2, e2, st2⟩ := getF X1 hx hZ hown (host := "") (Or.inl w30) Via.refl e1 pr1 (g := (mkF m 5 #[.val (.ref t_), .val (.int u_), .unset] [(.ref t_), (.int (0 : Int32))])) rfl rfl (hb hby d14_5)
  refine ogo (S' := T2.setTop (mkF m 8 #[.val (.ref t_), .val (.int u_), .unset] [(.ref x_), (.int (0 : Int32))])) st2 ?_
  obtain ⟨cq3, kq3, q3a, q3b, q3c⟩ := isOf hZ e2 pr3
  obtain ⟨_, _, ⟨T3, L3, kc3, n3⟩, -, X3, ⟨Lc3, hQ3, l3, y3, z3⟩, st3⟩ := X2.virtualBack hx (y := yM12) (z := yM12) hown (mvT hZ w39) (mvT hZ w40) (notFace_of_selects (args := #[]) (mvT hZ w42)) (mvT hZ w42) (mvT hZ w41) (by decide) (backOf (W := 1) (rm_elen_1 l Z a0 hw [] z_CS v_FMT x_ ba_ kb_ cd_ z_ vs_ c0_ h0 n0 SB O0 pr3 pr4 pr5 pr6 pr7) hZ w43 w3 (by decide) (by decide)) q3a q3c (g := (mkF m 8 #[.val (.ref t_), .val (.int u_), .unset] [(.ref x_), (.int (0 : Int32))])) rfl (by rw [hml]; rfl) (Steps.refl _) (argsL := []) (rest := [(.int (0 : Int32))]) (lenOf own_pd9 rfl) rfl (by show 2 * 0 + _ ≤ _; exact Nat.le_of_eq rfl) (hb hby d14_8) (fun _ _ => ⟨rfl, e2, (by decide : 0 + 0 ≤ _), (by decide : 0 + 0 ≤ _)⟩)
  dsimp only [Pt.U, Pt.locs, Pt.cells, Pt.slots] at X3 l3 y3 z3 st3 hQ3
  subst l3 y3 z3
  obtain ⟨rfl, Nq3, e3⟩ := hQ3
  have N3 := Fr.app N0 Nq3
  refine otr (S' := T3.setTop (mkF m 11 #[.val (.ref t_), .val (.int u_), .unset] [(.int (1 : Int32)), (.int (0 : Int32))])) st3 ?_
  refine o_icmpNo X3 hx (hb hby d14_11) (tlt (by decide : (0 : Int32) < (1 : Int32))).2.1 ?_
  refine o_aloadN X3 hx (hb hby d14_14) rfl rfl ?_
  obtain ⟨T4, X4, e4, st4⟩ := getF X3 hx hZ hown (host := "") (Or.inl w30) Via.refl e3 pr1 (g := (mkF m 15 #[.val (.ref t_), .val (.int u_), .unset] [(.ref t_)])) rfl rfl (hb hby d14_15)
  refine ogo (S' := T4.setTop (mkF m 18 #[.val (.ref t_), .val (.int u_), .unset] [(.ref x_)])) st4 ?_
  refine o_aloadN X4 hx (hb hby d14_18) rfl rfl ?_
  obtain ⟨T5, X5, e5, st5⟩ := getF X4 hx hZ hown (host := "") (Or.inl w37) Via.refl e4 pr2 (g := (mkF m 19 #[.val (.ref t_), .val (.int u_), .unset] [(.ref t_), (.ref x_)])) rfl rfl (hb hby d14_19)
  refine ogo (S' := T5.setTop (mkF m 22 #[.val (.ref t_), .val (.int u_), .unset] [(.int (0 : Int32)), (.ref x_)])) st5 ?_
  obtain ⟨cq6, kq6, q6a, q6b, q6c⟩ := isOf hZ e5 pr3
  obtain ⟨_, _, ⟨T6, L6, kc6, n6⟩, -, X6, ⟨Lc6, hQ6, l6, y6, z6⟩, st6⟩ := X5.virtualBack hx (y := yM21) (z := yM21) hown (mvT hZ w64) (mvT hZ w65) (notFace_of_selects (args := #[]) (mvT hZ w67)) (mvT hZ w67) (mvT hZ w66) (by decide) (backOf (W := 0) (rm_ecat_1_0 l Z a0 hw [] z_CS v_FMT x_ ba_ kb_ cd_ z_ vs_ c0_ h0 n0 SB O0 pr3 pr4 pr5 pr6 pr7 pr8) hZ w68 w3 (by decide) (by decide)) q6a q6c (g := (mkF m 22 #[.val (.ref t_), .val (.int u_), .unset] [(.int (0 : Int32)), (.ref x_)])) rfl (by rw [hml]; rfl) (Steps.refl _) (argsL := [(.int (0 : Int32))]) (rest := []) (lenOf own_pd15 rfl) rfl (by show 2 * 0 + _ ≤ _; exact Nat.le_of_eq rfl) (hb hby d14_22) (fun _ _ => ⟨rfl, e5, (by decide : 0 + 0 ≤ _), (by decide : 0 + 0 ≤ _)⟩)
  dsimp only [Pt.U, Pt.locs, Pt.cells, Pt.slots] at X6 l6 y6 z6 st6 hQ6
  subst l6 y6 z6
  obtain ⟨rfl, Nq6, e6⟩ := hQ6
  have N6 := Fr.app N3 Nq6
  refine otr (S' := T6.setTop (mkF m 25 #[.val (.ref t_), .val (.int u_), .unset] [(.int c0_)])) st6 ?_
  refine o_iloadN X6 hx (hb hby d14_25) rfl ?_
  refine o_icmpYes X6 hx 33 (hb hby d14_26) (feq pr9).2 (by decide) (by decide) ?_
  refine o_iconst X6 hx (0 : Int32) (hb hby d14_33) rfl ?_
  refine o_istoreN X6 hx (l' := #[.val (.ref t_), .val (.int u_), .val (.int (0 : Int32))]) (hb hby d14_34) rfl ?_
  refine o_iloadN X6 hx (hb hby d14_35) rfl ?_
  refine o_ifYes X6 hx 49 (hb hby d14_36) (teq (by decide : (0 : Int32) = (0 : Int32))).1 (by decide) (by decide) ?_
  refine o_iloadN X6 hx (hb hby d14_49) rfl ?_
  refine oend X6 hlk (v := some (.int (0 : Int32))) (fun h => by rw [hret] at h; cases h) (fun fs hr => retN X6 hx (t := .boolean) hret (by simp) (hb hby d14_50) hr) (by decide) (by decide) ?_
  show own_Q_skipF_1_0 Z _ _ _ _ _ _ _ _ _ _ _ h0 n0 _ T6.heap _
  rw [e6]
  exact ⟨rfl, N6, rfl⟩
def own_Q_elen_2 (Z : State) (z_CS : Int32) (v_FMT : Value) (x_ : Addr) (ba_ : Addr) (kb_ : ClassId) (cd_ : Int32) (z_ : Int32) (vs_ : List Value) (c0_ : Int32) (c1_ : Int32) (h0 : Heap) (n0 : Nat) (v : Option Value) (h : Heap) (L : List Loc) : Prop := (v = some (.int (2 : Int32))) ∧ (Fr n0 L) ∧ (h = h0)
set_option maxRecDepth 65536 in
set_option maxHeartbeats 40000000 in
theorem rm_elen_2 (l : Launch) (Z : State) (a0 : Array Value) (hw : ∀ d ∈ tables_1, d.before a0 Z = true) (ws : List Jvm.Cond) (z_CS : Int32) (v_FMT : Value) (x_ : Addr) (ba_ : Addr) (kb_ : ClassId) (cd_ : Int32) (z_ : Int32) (vs_ : List Value) (c0_ : Int32) (c1_ : Int32) (h0 : Heap) (n0 : Nat) (SB : own_Start Z z_CS v_FMT) (O0 : Old Z n0 h0) (pr0 : Exa Z h0 x_ "java/lang/String") (pr1 : Fld Z h0 x_ "java/lang/String" "coder" "B" (.int cd_)) (pr2 : Fld Z h0 x_ "java/lang/String" "value" "[B" (.ref ba_)) (pr3 : Arv Z h0 ba_ kb_ .byte z_ vs_ (.int 0)) (pr4 : own_enc2 c0_ c1_ cd_ z_ vs_) :
    oMet l Z yM12 jdk_42_method_54_code 1 (some .int) ws ({ frames := 1, cells := 0, slots := 0, locals := 13 } : Room) 0 0 #[(.ref x_)] h0 (own_Q_elen_2 Z z_CS v_FMT x_ ba_ kb_ cd_ z_ vs_ c0_ c1_ h0 n0) := by
  refine oenter own_pn2 #[.val (.ref x_)] (fun m => by first | (simp [entryFrame, mkF, argsToLocals, Value.category]; done) | rfl) ?_
  intro p e s m below meth c s₁ X0 hx hZ hby hml hret hown0 hnm hlk e0
  have hown : s.vm.findClass "java/lang/String" = some m.cls := hown0
  have N0 := Fr.nil n0
  obtain ⟨S_CS, H_CS, S__assertionsDisabled, S_HI_BYTE_SHIFT, S_LO_BYTE_SHIFT, S_FMT, R_FMT⟩ := (id SB)
  have w3 := hw _ (List.mem_of_getElem? (i := 3) rfl)
  have w21 := hw _ (List.mem_of_getElem? (i := 21) rfl)
  have w44 := hw _ (List.mem_of_getElem? (i := 44) rfl)
  have w45 := hw _ (List.mem_of_getElem? (i := 45) rfl)
  have w46 := hw _ (List.mem_of_getElem? (i := 46) rfl)
  have w47 := hw _ (List.mem_of_getElem? (i := 47) rfl)
  have w48 := hw _ (List.mem_of_getElem? (i := 48) rfl)
  rcases pr4 with ⟨hs0, hs1, rfl, rfl, rfl⟩ | ⟨rfl, rfl, rfl⟩
  · refine o_aloadN X0 hx (hb hby d13_0) rfl rfl ?_
    obtain ⟨T1, X1, e1, st1⟩ := getF X0 hx hZ hown (host := "") (Or.inl w21) Via.refl e0 pr2 (g := (mkF m 1 #[.val (.ref x_)] [(.ref x_)])) rfl rfl (hb hby d13_1)
    refine ogo (S' := T1.setTop (mkF m 4 #[.val (.ref x_)] [(.ref ba_)])) st1 ?_
    obtain ⟨cl2, Ar2, -, S2, N2z, -, -⟩ := (id pr3)
    refine ogo (S' := T1.setTop (mkF m 5 #[.val (.ref x_)] [(.int (2 : Int32))])) (fun _ kt_ => X1.arraylength hx (by rw [e1]; exact Ar2.1) (State.isArrayOf_alike hZ.alike Ar2.2.1) (g := (mkF m 4 #[.val (.ref x_)] [(.ref ba_)])) rfl rfl (hb hby d13_4) _ (by rw [len_of S2 N2z]; exact kt_)) ?_
    refine o_aloadN X1 hx (hb hby d13_5) rfl rfl ?_
    obtain ⟨cq3, kq3, q3a, q3b, q3c⟩ := isOf hZ e1 pr0
    obtain ⟨_, _, ⟨T3, L3, kc3, n3⟩, -, X3, ⟨Lc3, hQ3, l3, y3, z3⟩, st3⟩ := X1.virtualBack hx (y := yM11) (z := yM11) hown (mvT hZ w44) (mvT hZ w45) (notFace_of_selects (args := #[]) (mvT hZ w47)) (mvT hZ w47) (mvT hZ w46) (by decide) (backOf (W := 1) (rm_coder0 l Z a0 hw [] z_CS v_FMT x_ h0 n0 SB O0 pr1) hZ w48 w3 (by decide) (by decide)) q3a q3c (g := (mkF m 6 #[.val (.ref x_)] [(.ref x_), (.int (2 : Int32))])) rfl (by rw [hml]; rfl) (Steps.refl _) (argsL := []) (rest := [(.int (2 : Int32))]) (lenOf own_pd8 rfl) rfl (by show 2 * 0 + _ ≤ _; exact Nat.le_of_eq rfl) (hb hby d13_6) (fun _ _ => ⟨rfl, e1, (by decide : 0 + 0 ≤ _), (by decide : 0 + 0 ≤ _)⟩)
    dsimp only [Pt.U, Pt.locs, Pt.cells, Pt.slots] at X3 l3 y3 z3 st3 hQ3
    subst l3 y3 z3
    obtain ⟨rfl, Nq3, e3⟩ := hQ3
    have N3 := Fr.app N0 Nq3
    refine otr (S' := T3.setTop (mkF m 9 #[.val (.ref x_)] [(.int (0 : Int32)), (.int (2 : Int32))])) st3 ?_
    refine o_ishr X3 hx (hb hby d13_9) ?_
    refine oend X3 hlk (v := some (.int (2 : Int32))) (fun h => by rw [hret] at h; cases h) (fun fs hr => retOut X3 hx (t := .int) (i := .ireturn) hret rfl (Or.inl ⟨rfl, Or.inl rfl, _, rfl⟩) (hb hby d13_10) hr) (by decide) (by decide) ?_
    show own_Q_elen_2 Z _ _ _ _ _ _ _ _ _ _ h0 n0 _ T3.heap _
    rw [e3]
    exact ⟨rfl, N3, rfl⟩
  · refine o_aloadN X0 hx (hb hby d13_0) rfl rfl ?_
    obtain ⟨T4, X4, e4, st4⟩ := getF X0 hx hZ hown (host := "") (Or.inl w21) Via.refl e0 pr2 (g := (mkF m 1 #[.val (.ref x_)] [(.ref x_)])) rfl rfl (hb hby d13_1)
    refine ogo (S' := T4.setTop (mkF m 4 #[.val (.ref x_)] [(.ref ba_)])) st4 ?_
    obtain ⟨cl5, Ar5, -, S5, N5z, -, -⟩ := (id pr3)
    refine ogo (S' := T4.setTop (mkF m 5 #[.val (.ref x_)] [(.int (4 : Int32))])) (fun _ kt_ => X4.arraylength hx (by rw [e4]; exact Ar5.1) (State.isArrayOf_alike hZ.alike Ar5.2.1) (g := (mkF m 4 #[.val (.ref x_)] [(.ref ba_)])) rfl rfl (hb hby d13_4) _ (by rw [len_of S5 N5z]; exact kt_)) ?_
    refine o_aloadN X4 hx (hb hby d13_5) rfl rfl ?_
    obtain ⟨cq6, kq6, q6a, q6b, q6c⟩ := isOf hZ e4 pr0
    obtain ⟨_, _, ⟨T6, L6, kc6, n6⟩, -, X6, ⟨Lc6, hQ6, l6, y6, z6⟩, st6⟩ := X4.virtualBack hx (y := yM11) (z := yM11) hown (mvT hZ w44) (mvT hZ w45) (notFace_of_selects (args := #[]) (mvT hZ w47)) (mvT hZ w47) (mvT hZ w46) (by decide) (backOf (W := 1) (rm_coder1 l Z a0 hw [] z_CS v_FMT x_ h0 n0 SB O0 pr1) hZ w48 w3 (by decide) (by decide)) q6a q6c (g := (mkF m 6 #[.val (.ref x_)] [(.ref x_), (.int (4 : Int32))])) rfl (by rw [hml]; rfl) (Steps.refl _) (argsL := []) (rest := [(.int (4 : Int32))]) (lenOf own_pd8 rfl) rfl (by show 2 * 0 + _ ≤ _; exact Nat.le_of_eq rfl) (hb hby d13_6) (fun _ _ => ⟨rfl, e4, (by decide : 0 + 0 ≤ _), (by decide : 0 + 0 ≤ _)⟩)
    dsimp only [Pt.U, Pt.locs, Pt.cells, Pt.slots] at X6 l6 y6 z6 st6 hQ6
    subst l6 y6 z6
    obtain ⟨rfl, Nq6, e6⟩ := hQ6
    have N6 := Fr.app N0 Nq6
    refine otr (S' := T6.setTop (mkF m 9 #[.val (.ref x_)] [(.int (1 : Int32)), (.int (4 : Int32))])) st6 ?_
    refine o_ishr X6 hx (hb hby d13_9) ?_
    refine oend X6 hlk (v := some (.int (2 : Int32))) (fun h => by rw [hret] at h; cases h) (fun fs hr => retOut X6 hx (t := .int) (i := .ireturn) hret rfl (Or.inl ⟨rfl, Or.inl rfl, _, rfl⟩) (hb hby d13_10) hr) (by decide) (by decide) ?_
    show own_Q_elen_2 Z _ _ _ _ _ _ _ _ _ _ h0 n0 _ T6.heap _
    rw [e6]
    exact ⟨rfl, N6, rfl⟩
def own_Q_skipE_2 (Z : State) (z_CS : Int32) (v_FMT : Value) (t_ : Addr) (x_ : Addr) (ba_ : Addr) (kb_ : ClassId) (cd_ : Int32) (z_ : Int32) (vs_ : List Value) (c0_ : Int32) (c1_ : Int32) (u_ : Int32) (h0 : Heap) (n0 : Nat) (v : Option Value) (h : Heap) (L : List Loc) : Prop := (v = some (.int (0 : Int32))) ∧ (Fr n0 L) ∧ (h = h0)
set_option maxRecDepth 65536 in
set_option maxHeartbeats 40000000 in
theorem rm_skipE_2 (l : Launch) (Z : State) (a0 : Array Value) (hw : ∀ d ∈ tables_1, d.before a0 Z = true) (ws : List Jvm.Cond) (z_CS : Int32) (v_FMT : Value) (t_ : Addr) (x_ : Addr) (ba_ : Addr) (kb_ : ClassId) (cd_ : Int32) (z_ : Int32) (vs_ : List Value) (c0_ : Int32) (c1_ : Int32) (u_ : Int32) (h0 : Heap) (n0 : Nat) (SB : own_Start Z z_CS v_FMT) (O0 : Old Z n0 h0) (pr0 : Exa Z h0 t_ "com/example/rowfold/rowfold/Literal") (pr1 : Fld Z h0 t_ "com/example/rowfold/rowfold/Literal" "text" "Ljava/lang/String;" (.ref x_)) (pr2 : Fld Z h0 t_ "com/example/rowfold/rowfold/Literal" "at" "I" (.int (2 : Int32))) (pr3 : Exa Z h0 x_ "java/lang/String") (pr4 : Fld Z h0 x_ "java/lang/String" "coder" "B" (.int cd_)) (pr5 : Fld Z h0 x_ "java/lang/String" "value" "[B" (.ref ba_)) (pr6 : Arv Z h0 ba_ kb_ .byte z_ vs_ (.int 0)) (pr7 : own_enc2 c0_ c1_ cd_ z_ vs_) :
    oMet l Z yM13 prog_8_method_4_code 3 (some .boolean) ws ({ frames := 2, cells := 0, slots := 0, locals := 26 } : Room) 0 0 #[(.ref t_), (.int u_)] h0 (own_Q_skipE_2 Z z_CS v_FMT t_ x_ ba_ kb_ cd_ z_ vs_ c0_ c1_ u_ h0 n0) := by
  refine oenter own_pn0 #[.val (.ref t_), .val (.int u_), .unset] (fun m => by first | (simp [entryFrame, mkF, argsToLocals, Value.category]; done) | rfl) ?_
  intro p e s m below meth c s₁ X0 hx hZ hby hml hret hown0 hnm hlk e0
  have hown : s.vm.findClass "com/example/rowfold/rowfold/Literal" = some m.cls := hown0
  have N0 := Fr.nil n0
  obtain ⟨S_CS, H_CS, S__assertionsDisabled, S_HI_BYTE_SHIFT, S_LO_BYTE_SHIFT, S_FMT, R_FMT⟩ := (id SB)
  have w3 := hw _ (List.mem_of_getElem? (i := 3) rfl)
  have w30 := hw _ (List.mem_of_getElem? (i := 30) rfl)
  have w37 := hw _ (List.mem_of_getElem? (i := 37) rfl)
  have w39 := hw _ (List.mem_of_getElem? (i := 39) rfl)
  have w40 := hw _ (List.mem_of_getElem? (i := 40) rfl)
  have w41 := hw _ (List.mem_of_getElem? (i := 41) rfl)
  have w42 := hw _ (List.mem_of_getElem? (i := 42) rfl)
  have w43 := hw _ (List.mem_of_getElem? (i := 43) rfl)
  refine o_aloadN X0 hx (hb hby d14_0) rfl rfl ?_
  obtain ⟨T1, X1, e1, st1⟩ := getF X0 hx hZ hown (host := "") (Or.inl w37) Via.refl e0 pr2 (g := (mkF m 1 #[.val (.ref t_), .val (.int u_), .unset] [(.ref t_)])) rfl rfl (hb hby d14_1)
  refine ogo (S' := T1.setTop (mkF m 4 #[.val (.ref t_), .val (.int u_), .unset] [(.int (2 : Int32))])) st1 ?_
  refine o_aloadN X1 hx (hb hby d14_4) rfl rfl ?_
  obtain ⟨T2, X2, e2, st2⟩ := getF X1 hx hZ hown (host := "") (Or.inl w30) Via.refl e1 pr1 (g := (mkF m 5 #[.val (.ref t_), .val (.int u_), .unset] [(.ref t_), (.int (2 : Int32))])) rfl rfl (hb hby d14_5)
  refine ogo (S' := T2.setTop (mkF m 8 #[.val (.ref t_), .val (.int u_), .unset] [(.ref x_), (.int (2 : Int32))])) st2 ?_
  obtain ⟨cq3, kq3, q3a, q3b, q3c⟩ := isOf hZ e2 pr3
  obtain ⟨_, _, ⟨T3, L3, kc3, n3⟩, -, X3, ⟨Lc3, hQ3, l3, y3, z3⟩, st3⟩ := X2.virtualBack hx (y := yM12) (z := yM12) hown (mvT hZ w39) (mvT hZ w40) (notFace_of_selects (args := #[]) (mvT hZ w42)) (mvT hZ w42) (mvT hZ w41) (by decide) (backOf (W := 1) (rm_elen_2 l Z a0 hw [] z_CS v_FMT x_ ba_ kb_ cd_ z_ vs_ c0_ c1_ h0 n0 SB O0 pr3 pr4 pr5 pr6 pr7) hZ w43 w3 (by decide) (by decide)) q3a q3c (g := (mkF m 8 #[.val (.ref t_), .val (.int u_), .unset] [(.ref x_), (.int (2 : Int32))])) rfl (by rw [hml]; rfl) (Steps.refl _) (argsL := []) (rest := [(.int (2 : Int32))]) (lenOf own_pd9 rfl) rfl (by show 2 * 0 + _ ≤ _; exact Nat.le_of_eq rfl) (hb hby d14_8) (fun _ _ => ⟨rfl, e2, (by decide : 0 + 0 ≤ _), (by decide : 0 + 0 ≤ _)⟩)
  dsimp only [Pt.U, Pt.locs, Pt.cells, Pt.slots] at X3 l3 y3 z3 st3 hQ3
  subst l3 y3 z3
  obtain ⟨rfl, Nq3, e3⟩ := hQ3
  have N3 := Fr.app N0 Nq3
  refine otr (S' := T3.setTop (mkF m 11 #[.val (.ref t_), .val (.int u_), .unset] [(.int (2 : Int32)), (.int (2 : Int32))])) st3 ?_
  refine o_icmpYes X3 hx 33 (hb hby d14_11) (flt (by decide : ¬ ((2 : Int32) < (2 : Int32)))).2.1 (by decide) (by decide) ?_
  refine o_iconst X3 hx (0 : Int32) (hb hby d14_33) rfl ?_
  refine o_istoreN X3 hx (l' := #[.val (.ref t_), .val (.int u_), .val (.int (0 : Int32))]) (hb hby d14_34) rfl ?_
  refine o_iloadN X3 hx (hb hby d14_35) rfl ?_
  refine o_ifYes X3 hx 49 (hb hby d14_36) (teq (by decide : (0 : Int32) = (0 : Int32))).1 (by decide) (by decide) ?_
  refine o_iloadN X3 hx (hb hby d14_49) rfl ?_
  refine oend X3 hlk (v := some (.int (0 : Int32))) (fun h => by rw [hret] at h; cases h) (fun fs hr => retN X3 hx (t := .boolean) hret (by simp) (hb hby d14_50) hr) (by decide) (by decide) ?_
  show own_Q_skipE_2 Z _ _ _ _ _ _ _ _ _ _ _ _ h0 n0 _ T3.heap _
  rw [e3]
  exact ⟨rfl, N3, rfl⟩
def own_Q_l1c_2_0 (Z : State) (z_CS : Int32) (v_FMT : Value) (ba_ : Addr) (kb_ : ClassId) (c0_ : Int32) (c1_ : Int32) (h0 : Heap) (n0 : Nat) (v : Option Value) (h : Heap) (L : List Loc) : Prop := (v = some (.int c0_)) ∧ (Fr n0 L) ∧ (h = h0)
set_option maxRecDepth 65536 in
set_option maxHeartbeats 40000000 in
theorem rm_l1c_2_0 (l : Launch) (Z : State) (a0 : Array Value) (hw : ∀ d ∈ tables_1, d.before a0 Z = true) (ws : List Jvm.Cond) (z_CS : Int32) (v_FMT : Value) (ba_ : Addr) (kb_ : ClassId) (c0_ : Int32) (c1_ : Int32) (h0 : Heap) (n0 : Nat) (SB : own_Start Z z_CS v_FMT) (O0 : Old Z n0 h0) (pr0 : Arv Z h0 ba_ kb_ .byte (2 : Int32) [(.int c0_.toInt8.toInt32), (.int c1_.toInt8.toInt32)] (.int 0)) (pr1 : ¬ (c0_ < (0 : Int32))) (pr2 : ¬ ((255 : Int32) < c0_)) :
    oMet l Z yM17 jdk_43_method_2_code 2 (some .char) ws ({ frames := 2, cells := 0, slots := 0, locals := 27 } : Room) 0 0 #[(.ref ba_), (.int (0 : Int32))] h0 (own_Q_l1c_2_0 Z z_CS v_FMT ba_ kb_ c0_ c1_ h0 n0) := by
  refine oenter own_pn4 #[.val (.ref ba_), .val (.int (0 : Int32))] (fun m => by first | (simp [entryFrame, mkF, argsToLocals, Value.category]; done) | rfl) ?_
  intro p e s m below meth c s₁ X0 hx hZ hby hml hret hown0 hnm hlk e0
  have hown : s.vm.findClass "java/lang/StringLatin1" = some m.cls := hown0
  have N0 := Fr.nil n0
  obtain ⟨S_CS, H_CS, S__assertionsDisabled, S_HI_BYTE_SHIFT, S_LO_BYTE_SHIFT, S_FMT, R_FMT⟩ := (id SB)
  have w3 := hw _ (List.mem_of_getElem? (i := 3) rfl)
  have w78 := hw _ (List.mem_of_getElem? (i := 78) rfl)
  have w79 := hw _ (List.mem_of_getElem? (i := 79) rfl)
  have w80 := hw _ (List.mem_of_getElem? (i := 80) rfl)
  refine o_iloadN X0 hx (hb hby d18_0) rfl ?_
  refine o_aloadN X0 hx (hb hby d18_1) rfl rfl ?_
  obtain ⟨cl1, Ar1, -, S1, N1z, -, -⟩ := (id pr0)
  refine ogo (S' := s₁.setTop (mkF m 3 #[.val (.ref ba_), .val (.int (0 : Int32))] [(.int (2 : Int32)), (.int (0 : Int32))])) (fun _ kt_ => X0.arraylength hx (by rw [e0]; exact Ar1.1) (State.isArrayOf_alike hZ.alike Ar1.2.1) (g := (mkF m 2 #[.val (.ref ba_), .val (.int (0 : Int32))] [(.ref ba_), (.int (0 : Int32))])) rfl rfl (hb hby d18_2) _ (by rw [len_of S1 N1z]; exact kt_)) ?_
  obtain ⟨_, _, ⟨T2, L2, kc2, n2⟩, -, X2, ⟨Lc2, hQ2, l2, y2, z2⟩, st2⟩ := Jvm.LawKit.callS X0 hx (y := yM16) hown (mvT hZ w78) (mvT hZ w79) (mvT hZ w3) (mvT hZ w80) (by decide) (backOf (W := 0) (rm_sci l Z a0 hw [] z_CS v_FMT (0 : Int32) (2 : Int32) h0 n0 SB O0 (by decide) (by decide)) hZ w80 w3 (by decide) (by decide)) (g := (mkF m 3 #[.val (.ref ba_), .val (.int (0 : Int32))] [(.int (2 : Int32)), (.int (0 : Int32))])) rfl (by rw [hml]; rfl) (argsL := [(.int (0 : Int32)), (.int (2 : Int32))]) (rest := []) (lenOf own_pd11 rfl) rfl (by show 2 * 0 + _ ≤ _; exact Nat.le_of_eq rfl) (hb hby d18_3) (fun _ _ => ⟨rfl, e0, (by decide : 0 + 0 ≤ _), (by decide : 0 + 0 ≤ _)⟩)
  dsimp only [Pt.U, Pt.locs, Pt.cells, Pt.slots] at X2 l2 y2 z2 st2 hQ2
  subst l2 y2 z2
  obtain ⟨rfl, Nq2, e2⟩ := hQ2
  have N2 := Fr.app N0 Nq2
  refine ogo (S' := T2.setTop (mkF m 6 #[.val (.ref ba_), .val (.int (0 : Int32))] [])) st2 ?_
  refine o_aloadN X2 hx (hb hby d18_6) rfl rfl ?_
  refine o_iloadN X2 hx (hb hby d18_7) rfl ?_
  obtain ⟨cl3, Ar3, q3, S3, N3z, H3, G3⟩ := (id pr0)
  have hi3 := inb_of (j := (0 : Int32)) S3 ⟨by decide, by decide⟩
  have ha3 := Has.at (v := (.int c0_.toInt8.toInt32)) H3 hi3 rfl
  refine ogo (S' := T2.setTop (mkF m 9 #[.val (.ref ba_), .val (.int (0 : Int32))] [(.int c0_.toInt8.toInt32)])) (X2.baloadBytes hx (j := (0 : Int32)) (v := (.int c0_.toInt8.toInt32)) (by rw [e2]; exact Ar3.1) (State.isArrayOf_alike hZ.alike Ar3.2.1) Ar3.2.2 hi3 ha3 (g := (mkF m 8 #[.val (.ref ba_), .val (.int (0 : Int32))] [(.int (0 : Int32)), (.ref ba_)])) rfl rfl (hb hby d18_8)) ?_
  refine o_sipush X2 hx (255 : Int32) (hb hby d18_9) rfl ?_
  refine o_iand X2 hx (hb hby d18_12) ?_
  refine o_i2c X2 hx (hb hby d18_13) ?_
  rw [own_char pr1 pr2]
  refine oend X2 hlk (v := some (.int c0_)) (fun h => by rw [hret] at h; cases h) (fun fs hr => retN X2 hx (t := .char) hret (by simp) (hb hby d18_14) (by rw [(own_narsm pr1 pr2)]; exact hr)) (by decide) (by decide) ?_
  show own_Q_l1c_2_0 Z _ _ _ _ _ _ h0 n0 _ T2.heap _
  rw [e2]
  exact ⟨rfl, N2, rfl⟩
def own_Q_u16len_2 (Z : State)  (ba_ : Addr) (kb_ : ClassId) (vs_ : List Value) (h0 : Heap) (n0 : Nat) (v : Option Value) (h : Heap) (L : List Loc) : Prop := (v = some (.int (2 : Int32))) ∧ (Fr n0 L) ∧ (h = h0)
set_option maxRecDepth 65536 in
set_option maxHeartbeats 40000000 in
theorem rm_u16len_2 (l : Launch) (Z : State) (a0 : Array Value) (hw : ∀ d ∈ tables_1, d.before a0 Z = true) (ws : List Jvm.Cond)  (ba_ : Addr) (kb_ : ClassId) (vs_ : List Value) (h0 : Heap) (n0 : Nat) (O0 : Old Z n0 h0) (pr0 : Arv Z h0 ba_ kb_ .byte (4 : Int32) vs_ (.int 0)) :
    oMet l Z yM18 jdk_52_method_6_code 1 (some .int) ws ({ frames := 0, cells := 0, slots := 0, locals := 0 } : Room) 0 0 #[(.ref ba_)] h0 (own_Q_u16len_2 Z  ba_ kb_ vs_ h0 n0) := by
  refine oenter own_pn1 #[.val (.ref ba_)] (fun m => by first | (simp [entryFrame, mkF, argsToLocals, Value.category]; done) | rfl) ?_
  intro p e s m below meth c s₁ X0 hx hZ hby hml hret hown0 hnm hlk e0
  have hown : s.vm.findClass "java/lang/StringUTF16" = some m.cls := hown0
  have N0 := Fr.nil n0
  refine o_aloadN X0 hx (hb hby d19_0) rfl rfl ?_
  obtain ⟨cl1, Ar1, -, S1, N1z, -, -⟩ := (id pr0)
  refine ogo (S' := s₁.setTop (mkF m 2 #[.val (.ref ba_)] [(.int (4 : Int32))])) (fun _ kt_ => X0.arraylength hx (by rw [e0]; exact Ar1.1) (State.isArrayOf_alike hZ.alike Ar1.2.1) (g := (mkF m 1 #[.val (.ref ba_)] [(.ref ba_)])) rfl rfl (hb hby d19_1) _ (by rw [len_of S1 N1z]; exact kt_)) ?_
  refine o_iconst X0 hx (1 : Int32) (hb hby d19_2) rfl ?_
  refine o_ishr X0 hx (hb hby d19_3) ?_
  refine oend X0 hlk (v := some (.int (2 : Int32))) (fun h => by rw [hret] at h; cases h) (fun fs hr => retOut X0 hx (t := .int) (i := .ireturn) hret rfl (Or.inl ⟨rfl, Or.inl rfl, _, rfl⟩) (hb hby d19_4) hr) (by decide) (by decide) ?_
  show own_Q_u16len_2 Z _ _ _ h0 n0 _ s₁.heap _
  rw [e0]
  exact ⟨rfl, N0, rfl⟩
def own_Q_u16ci_2_0 (Z : State) (z_CS : Int32) (v_FMT : Value) (ba_ : Addr) (kb_ : ClassId) (vs_ : List Value) (h0 : Heap) (n0 : Nat) (v : Option Value) (h : Heap) (L : List Loc) : Prop := (v = none) ∧ (Fr n0 L) ∧ (h = h0)
set_option maxRecDepth 65536 in
set_option maxHeartbeats 40000000 in
theorem rm_u16ci_2_0 (l : Launch) (Z : State) (a0 : Array Value) (hw : ∀ d ∈ tables_1, d.before a0 Z = true) (ws : List Jvm.Cond) (z_CS : Int32) (v_FMT : Value) (ba_ : Addr) (kb_ : ClassId) (vs_ : List Value) (h0 : Heap) (n0 : Nat) (SB : own_Start Z z_CS v_FMT) (O0 : Old Z n0 h0) (pr0 : Arv Z h0 ba_ kb_ .byte (4 : Int32) vs_ (.int 0)) :
    oMet l Z yM19 jdk_52_method_91_code 2 none ws ({ frames := 2, cells := 0, slots := 0, locals := 27 } : Room) 0 0 #[(.int (0 : Int32)), (.ref ba_)] h0 (own_Q_u16ci_2_0 Z z_CS v_FMT ba_ kb_ vs_ h0 n0) := by
  refine oenter own_pn1 #[.val (.int (0 : Int32)), .val (.ref ba_)] (fun m => by first | (simp [entryFrame, mkF, argsToLocals, Value.category]; done) | rfl) ?_
  intro p e s m below meth c s₁ X0 hx hZ hby hml hret hown0 hnm hlk e0
  have hown : s.vm.findClass "java/lang/StringUTF16" = some m.cls := hown0
  have N0 := Fr.nil n0
  obtain ⟨S_CS, H_CS, S__assertionsDisabled, S_HI_BYTE_SHIFT, S_LO_BYTE_SHIFT, S_FMT, R_FMT⟩ := (id SB)
  have w3 := hw _ (List.mem_of_getElem? (i := 3) rfl)
  have w56 := hw _ (List.mem_of_getElem? (i := 56) rfl)
  have w79 := hw _ (List.mem_of_getElem? (i := 79) rfl)
  have w80 := hw _ (List.mem_of_getElem? (i := 80) rfl)
  have w111 := hw _ (List.mem_of_getElem? (i := 111) rfl)
  have w112 := hw _ (List.mem_of_getElem? (i := 112) rfl)
  have w113 := hw _ (List.mem_of_getElem? (i := 113) rfl)
  have w114 := hw _ (List.mem_of_getElem? (i := 114) rfl)
  refine o_iloadN X0 hx (hb hby d20_0) rfl ?_
  refine o_aloadN X0 hx (hb hby d20_1) rfl rfl ?_
  obtain ⟨_, _, ⟨T1, L1, kc1, n1⟩, -, X1, ⟨Lc1, hQ1, l1, y1, z1⟩, st1⟩ := Jvm.LawKit.callS X0 hx (y := yM18) hown (mvT hZ w111) (mvT hZ w112) (mvT hZ w56) (mvT hZ w113) (by decide) (backOf (W := 1) (rm_u16len_2 l Z a0 hw []  ba_ kb_ vs_ h0 n0 O0 pr0) hZ w113 w56 (by decide) (by decide)) (g := (mkF m 2 #[.val (.int (0 : Int32)), .val (.ref ba_)] [(.ref ba_), (.int (0 : Int32))])) rfl (by rw [hml]; rfl) (argsL := [(.ref ba_)]) (rest := [(.int (0 : Int32))]) (lenOf own_pd12 rfl) rfl (by show 2 * 0 + _ ≤ _; exact Nat.le_of_eq rfl) (hb hby d20_2) (fun _ _ => ⟨rfl, e0, (by decide : 0 + 0 ≤ _), (by decide : 0 + 0 ≤ _)⟩)
  dsimp only [Pt.U, Pt.locs, Pt.cells, Pt.slots] at X1 l1 y1 z1 st1 hQ1
  subst l1 y1 z1
  obtain ⟨rfl, Nq1, e1⟩ := hQ1
  have N1 := Fr.app N0 Nq1
  refine ogo (S' := T1.setTop (mkF m 5 #[.val (.int (0 : Int32)), .val (.ref ba_)] [(.int (2 : Int32)), (.int (0 : Int32))])) st1 ?_
  obtain ⟨_, _, ⟨T2, L2, kc2, n2⟩, -, X2, ⟨Lc2, hQ2, l2, y2, z2⟩, st2⟩ := Jvm.LawKit.callS X1 hx (y := yM16) hown (mvT hZ w114) (mvT hZ w79) (mvT hZ w3) (mvT hZ w80) (by decide) (backOf (W := 0) (rm_sci l Z a0 hw [] z_CS v_FMT (0 : Int32) (2 : Int32) h0 n0 SB O0 (by decide) (by decide)) hZ w80 w3 (by decide) (by decide)) (g := (mkF m 5 #[.val (.int (0 : Int32)), .val (.ref ba_)] [(.int (2 : Int32)), (.int (0 : Int32))])) rfl (by rw [hml]; rfl) (argsL := [(.int (0 : Int32)), (.int (2 : Int32))]) (rest := []) (lenOf own_pd11 rfl) rfl (by show 2 * 0 + _ ≤ _; exact Nat.le_of_eq rfl) (hb hby d20_5) (fun _ _ => ⟨rfl, e1, (by decide : 0 + 0 ≤ _), (by decide : 0 + 0 ≤ _)⟩)
  dsimp only [Pt.U, Pt.locs, Pt.cells, Pt.slots] at X2 l2 y2 z2 st2 hQ2
  subst l2 y2 z2
  obtain ⟨rfl, Nq2, e2⟩ := hQ2
  have N2 := Fr.app N1 Nq2
  refine ogo (S' := T2.setTop (mkF m 8 #[.val (.int (0 : Int32)), .val (.ref ba_)] [])) st2 ?_
  refine oend X2 hlk (v := none) (fun _ => rfl) (fun fs hr => X2.returnOut hx hret (hb hby d20_8) hr) (by decide) (by decide) ?_
  show own_Q_u16ci_2_0 Z _ _ _ _ _ h0 n0 _ T2.heap _
  rw [e2]
  exact ⟨rfl, N2, rfl⟩
def own_Q_u16cat_2_0 (Z : State) (z_CS : Int32) (v_FMT : Value) (ba_ : Addr) (kb_ : ClassId) (c0_ : Int32) (c1_ : Int32) (h0 : Heap) (n0 : Nat) (v : Option Value) (h : Heap) (L : List Loc) : Prop := (v = some (.int c0_)) ∧ (Fr n0 L) ∧ (h = h0)
set_option maxRecDepth 65536 in
set_option maxHeartbeats 40000000 in
theorem rm_u16cat_2_0 (l : Launch) (Z : State) (a0 : Array Value) (hw : ∀ d ∈ tables_1, d.before a0 Z = true) (ws : List Jvm.Cond) (z_CS : Int32) (v_FMT : Value) (ba_ : Addr) (kb_ : ClassId) (c0_ : Int32) (c1_ : Int32) (h0 : Heap) (n0 : Nat) (SB : own_Start Z z_CS v_FMT) (O0 : Old Z n0 h0) (pr0 : Arv Z h0 ba_ kb_ .byte (4 : Int32) [(.int (c0_ >>> ((0 : Int32) &&& 31)).toInt8.toInt32), (.int (c0_ >>> ((8 : Int32) &&& 31)).toInt8.toInt32), (.int (c1_ >>> ((0 : Int32) &&& 31)).toInt8.toInt32), (.int (c1_ >>> ((8 : Int32) &&& 31)).toInt8.toInt32)] (.int 0)) (pr1 : own_c16 c0_) :
    oMet l Z yM20 jdk_52_method_83_code 2 (some .char) ws ({ frames := 3, cells := 0, slots := 0, locals := 40 } : Room) 0 0 #[(.ref ba_), (.int (0 : Int32))] h0 (own_Q_u16cat_2_0 Z z_CS v_FMT ba_ kb_ c0_ c1_ h0 n0) := by
  refine oenter own_pn1 #[.val (.ref ba_), .val (.int (0 : Int32))] (fun m => by first | (simp [entryFrame, mkF, argsToLocals, Value.category]; done) | rfl) ?_
  intro p e s m below meth c s₁ X0 hx hZ hby hml hret hown0 hnm hlk e0
  have hown : s.vm.findClass "java/lang/StringUTF16" = some m.cls := hown0
  have N0 := Fr.nil n0
  obtain ⟨S_CS, H_CS, S__assertionsDisabled, S_HI_BYTE_SHIFT, S_LO_BYTE_SHIFT, S_FMT, R_FMT⟩ := (id SB)
  have w56 := hw _ (List.mem_of_getElem? (i := 56) rfl)
  have w102 := hw _ (List.mem_of_getElem? (i := 102) rfl)
  have w103 := hw _ (List.mem_of_getElem? (i := 103) rfl)
  have w104 := hw _ (List.mem_of_getElem? (i := 104) rfl)
  have w108 := hw _ (List.mem_of_getElem? (i := 108) rfl)
  have w109 := hw _ (List.mem_of_getElem? (i := 109) rfl)
  have w110 := hw _ (List.mem_of_getElem? (i := 110) rfl)
  refine o_iloadN X0 hx (hb hby d21_0) rfl ?_
  refine o_aloadN X0 hx (hb hby d21_1) rfl rfl ?_
  obtain ⟨_, _, ⟨T1, L1, kc1, n1⟩, -, X1, ⟨Lc1, hQ1, l1, y1, z1⟩, st1⟩ := Jvm.LawKit.callS X0 hx (y := yM19) hown (mvT hZ w108) (mvT hZ w109) (mvT hZ w56) (mvT hZ w110) (by decide) (backOf (W := 0) (rm_u16ci_2_0 l Z a0 hw [] z_CS v_FMT ba_ kb_ [(.int (c0_ >>> ((0 : Int32) &&& 31)).toInt8.toInt32), (.int (c0_ >>> ((8 : Int32) &&& 31)).toInt8.toInt32), (.int (c1_ >>> ((0 : Int32) &&& 31)).toInt8.toInt32), (.int (c1_ >>> ((8 : Int32) &&& 31)).toInt8.toInt32)] h0 n0 SB O0 pr0) hZ w110 w56 (by decide) (by decide)) (g := (mkF m 2 #[.val (.ref ba_), .val (.int (0 : Int32))] [(.ref ba_), (.int (0 : Int32))])) rfl (by rw [hml]; rfl) (argsL := [(.int (0 : Int32)), (.ref ba_)]) (rest := []) (lenOf own_pd13 rfl) rfl (by show 2 * 0 + _ ≤ _; exact Nat.le_of_eq rfl) (hb hby d21_2) (fun _ _ => ⟨rfl, e0, (by decide : 0 + 0 ≤ _), (by decide : 0 + 0 ≤ _)⟩)
  dsimp only [Pt.U, Pt.locs, Pt.cells, Pt.slots] at X1 l1 y1 z1 st1 hQ1
  subst l1 y1 z1
  obtain ⟨rfl, Nq1, e1⟩ := hQ1
  have N1 := Fr.app N0 Nq1
  refine ogo (S' := T1.setTop (mkF m 5 #[.val (.ref ba_), .val (.int (0 : Int32))] [])) st1 ?_
  refine o_aloadN X1 hx (hb hby d21_5) rfl rfl ?_
  refine o_iloadN X1 hx (hb hby d21_6) rfl ?_
  obtain ⟨_, _, ⟨T2, L2, kc2, n2⟩, -, X2, ⟨Lc2, hQ2, l2, y2, z2⟩, st2⟩ := Jvm.LawKit.callS X1 hx (y := yM8) hown (mvT hZ w102) (mvT hZ w103) (mvT hZ w56) (mvT hZ w104) (by decide) (backOf (W := 0) (rm_getch_2_0 l Z a0 hw [] z_CS v_FMT ba_ kb_ c0_ c1_ h0 n0 SB O0 pr0 pr1) hZ w104 w56 (by decide) (by decide)) (g := (mkF m 7 #[.val (.ref ba_), .val (.int (0 : Int32))] [(.int (0 : Int32)), (.ref ba_)])) rfl (by rw [hml]; rfl) (argsL := [(.ref ba_), (.int (0 : Int32))]) (rest := []) (lenOf own_pd5 rfl) rfl (by show 2 * 0 + _ ≤ _; exact Nat.le_of_eq rfl) (hb hby d21_7) (fun _ _ => ⟨rfl, e1, (by decide : 0 + 0 ≤ _), (by decide : 0 + 0 ≤ _)⟩)
  dsimp only [Pt.U, Pt.locs, Pt.cells, Pt.slots] at X2 l2 y2 z2 st2 hQ2
  subst l2 y2 z2
  obtain ⟨rfl, Nq2, e2⟩ := hQ2
  have N2 := Fr.app N1 Nq2
  refine ogo (S' := T2.setTop (mkF m 10 #[.val (.ref ba_), .val (.int (0 : Int32))] [(.int c0_)])) st2 ?_
  refine oend X2 hlk (v := some (.int c0_)) (fun h => by rw [hret] at h; cases h) (fun fs hr => retN X2 hx (t := .char) hret (by simp) (hb hby d21_10) (by rw [(own_nar16 pr1)]; exact hr)) (by decide) (by decide) ?_
  show own_Q_u16cat_2_0 Z _ _ _ _ _ _ h0 n0 _ T2.heap _
  rw [e2]
  exact ⟨rfl, N2, rfl⟩
def own_Q_ecat_2_0 (Z : State) (z_CS : Int32) (v_FMT : Value) (x_ : Addr) (ba_ : Addr) (kb_ : ClassId) (cd_ : Int32) (z_ : Int32) (vs_ : List Value) (c0_ : Int32) (c1_ : Int32) (h0 : Heap) (n0 : Nat) (v : Option Value) (h : Heap) (L : List Loc) : Prop := (v = some (.int c0_)) ∧ (Fr n0 L) ∧ (h = h0)
set_option maxRecDepth 65536 in
set_option maxHeartbeats 40000000 in
theorem rm_ecat_2_0 (l : Launch) (Z : State) (a0 : Array Value) (hw : ∀ d ∈ tables_1, d.before a0 Z = true) (ws : List Jvm.Cond) (z_CS : Int32) (v_FMT : Value) (x_ : Addr) (ba_ : Addr) (kb_ : ClassId) (cd_ : Int32) (z_ : Int32) (vs_ : List Value) (c0_ : Int32) (c1_ : Int32) (h0 : Heap) (n0 : Nat) (SB : own_Start Z z_CS v_FMT) (O0 : Old Z n0 h0) (pr0 : Exa Z h0 x_ "java/lang/String") (pr1 : Fld Z h0 x_ "java/lang/String" "coder" "B" (.int cd_)) (pr2 : Fld Z h0 x_ "java/lang/String" "value" "[B" (.ref ba_)) (pr3 : Arv Z h0 ba_ kb_ .byte z_ vs_ (.int 0)) (pr4 : own_enc2 c0_ c1_ cd_ z_ vs_) (pr5 : own_c16 c0_) :
    oMet l Z yM21 jdk_42_method_56_code 2 (some .char) ws ({ frames := 4, cells := 0, slots := 0, locals := 53 } : Room) 0 0 #[(.ref x_), (.int (0 : Int32))] h0 (own_Q_ecat_2_0 Z z_CS v_FMT x_ ba_ kb_ cd_ z_ vs_ c0_ c1_ h0 n0) := by
  refine oenter own_pn2 #[.val (.ref x_), .val (.int (0 : Int32))] (fun m => by first | (simp [entryFrame, mkF, argsToLocals, Value.category]; done) | rfl) ?_
  intro p e s m below meth c s₁ X0 hx hZ hby hml hret hown0 hnm hlk e0
  have hown : s.vm.findClass "java/lang/String" = some m.cls := hown0
  have N0 := Fr.nil n0
  obtain ⟨S_CS, H_CS, S__assertionsDisabled, S_HI_BYTE_SHIFT, S_LO_BYTE_SHIFT, S_FMT, R_FMT⟩ := (id SB)
  have w3 := hw _ (List.mem_of_getElem? (i := 3) rfl)
  have w21 := hw _ (List.mem_of_getElem? (i := 21) rfl)
  have w56 := hw _ (List.mem_of_getElem? (i := 56) rfl)
  have w69 := hw _ (List.mem_of_getElem? (i := 69) rfl)
  have w70 := hw _ (List.mem_of_getElem? (i := 70) rfl)
  have w71 := hw _ (List.mem_of_getElem? (i := 71) rfl)
  have w72 := hw _ (List.mem_of_getElem? (i := 72) rfl)
  have w73 := hw _ (List.mem_of_getElem? (i := 73) rfl)
  have w74 := hw _ (List.mem_of_getElem? (i := 74) rfl)
  have w75 := hw _ (List.mem_of_getElem? (i := 75) rfl)
  have w76 := hw _ (List.mem_of_getElem? (i := 76) rfl)
  have w77 := hw _ (List.mem_of_getElem? (i := 77) rfl)
  have w105 := hw _ (List.mem_of_getElem? (i := 105) rfl)
  have w106 := hw _ (List.mem_of_getElem? (i := 106) rfl)
  have w107 := hw _ (List.mem_of_getElem? (i := 107) rfl)
  rcases pr4 with ⟨hs0, hs1, rfl, rfl, rfl⟩ | ⟨rfl, rfl, rfl⟩
  · refine o_aloadN X0 hx (hb hby d22_0) rfl rfl ?_
    obtain ⟨cq1, kq1, q1a, q1b, q1c⟩ := isOf hZ e0 pr0
    obtain ⟨_, _, ⟨T1, L1, kc1, n1⟩, -, X1, ⟨Lc1, hQ1, l1, y1, z1⟩, st1⟩ := X0.virtualBack hx (y := yM14) (z := yM14) hown (mvT hZ w69) (mvT hZ w70) (notFace_of_selects (args := #[]) (mvT hZ w72)) (mvT hZ w72) (mvT hZ w71) (by decide) (backOf (W := 0) (rm_isl1_0 l Z a0 hw [] z_CS v_FMT x_ h0 n0 SB O0 pr1) hZ w73 w3 (by decide) (by decide)) q1a q1c (g := (mkF m 1 #[.val (.ref x_), .val (.int (0 : Int32))] [(.ref x_)])) rfl (by rw [hml]; rfl) (Steps.refl _) (argsL := []) (rest := []) (lenOf own_pd14 rfl) rfl (by show 2 * 0 + _ ≤ _; exact Nat.le_of_eq rfl) (hb hby d22_1) (fun _ _ => ⟨rfl, e0, (by decide : 0 + 0 ≤ _), (by decide : 0 + 0 ≤ _)⟩)
    dsimp only [Pt.U, Pt.locs, Pt.cells, Pt.slots] at X1 l1 y1 z1 st1 hQ1
    subst l1 y1 z1
    obtain ⟨rfl, Nq1, e1⟩ := hQ1
    have N1 := Fr.app N0 Nq1
    refine otr (S' := T1.setTop (mkF m 4 #[.val (.ref x_), .val (.int (0 : Int32))] [(.int (1 : Int32))])) st1 ?_
    refine o_ifNo X1 hx (hb hby d22_4) (feq (by decide : ¬ ((1 : Int32) = (0 : Int32)))).1 ?_
    refine o_aloadN X1 hx (hb hby d22_7) rfl rfl ?_
    obtain ⟨T2, X2, e2, st2⟩ := getF X1 hx hZ hown (host := "") (Or.inl w21) Via.refl e1 pr2 (g := (mkF m 8 #[.val (.ref x_), .val (.int (0 : Int32))] [(.ref x_)])) rfl rfl (hb hby d22_8)
    refine ogo (S' := T2.setTop (mkF m 11 #[.val (.ref x_), .val (.int (0 : Int32))] [(.ref ba_)])) st2 ?_
    refine o_iloadN X2 hx (hb hby d22_11) rfl ?_
    obtain ⟨_, _, ⟨T3, L3, kc3, n3⟩, -, X3, ⟨Lc3, hQ3, l3, y3, z3⟩, st3⟩ := Jvm.LawKit.callS X2 hx (y := yM17) hown (mvT hZ w74) (mvT hZ w75) (mvT hZ w76) (mvT hZ w77) (by decide) (backOf (W := 0) (rm_l1c_2_0 l Z a0 hw [] z_CS v_FMT ba_ kb_ c0_ c1_ h0 n0 SB O0 pr3 (own_c16n pr5) hs0) hZ w77 w76 (by decide) (by decide)) (g := (mkF m 12 #[.val (.ref x_), .val (.int (0 : Int32))] [(.int (0 : Int32)), (.ref ba_)])) rfl (by rw [hml]; rfl) (argsL := [(.ref ba_), (.int (0 : Int32))]) (rest := []) (lenOf own_pd5 rfl) rfl (by show 2 * 0 + _ ≤ _; exact Nat.le_of_eq rfl) (hb hby d22_12) (fun _ _ => ⟨rfl, e2, (by decide : 0 + 0 ≤ _), (by decide : 0 + 0 ≤ _)⟩)
    dsimp only [Pt.U, Pt.locs, Pt.cells, Pt.slots] at X3 l3 y3 z3 st3 hQ3
    subst l3 y3 z3
    obtain ⟨rfl, Nq3, e3⟩ := hQ3
    have N3 := Fr.app N1 Nq3
    refine ogo (S' := T3.setTop (mkF m 15 #[.val (.ref x_), .val (.int (0 : Int32))] [(.int c0_)])) st3 ?_
    refine oend X3 hlk (v := some (.int c0_)) (fun h => by rw [hret] at h; cases h) (fun fs hr => retN X3 hx (t := .char) hret (by simp) (hb hby d22_15) (by rw [(own_nar16 pr5)]; exact hr)) (by decide) (by decide) ?_
    show own_Q_ecat_2_0 Z _ _ _ _ _ _ _ _ _ _ h0 n0 _ T3.heap _
    rw [e3]
    exact ⟨rfl, N3, rfl⟩
  · refine o_aloadN X0 hx (hb hby d22_0) rfl rfl ?_
    obtain ⟨cq4, kq4, q4a, q4b, q4c⟩ := isOf hZ e0 pr0
    obtain ⟨_, _, ⟨T4, L4, kc4, n4⟩, -, X4, ⟨Lc4, hQ4, l4, y4, z4⟩, st4⟩ := X0.virtualBack hx (y := yM14) (z := yM14) hown (mvT hZ w69) (mvT hZ w70) (notFace_of_selects (args := #[]) (mvT hZ w72)) (mvT hZ w72) (mvT hZ w71) (by decide) (backOf (W := 0) (rm_isl1_1 l Z a0 hw [] z_CS v_FMT x_ h0 n0 SB O0 pr1) hZ w73 w3 (by decide) (by decide)) q4a q4c (g := (mkF m 1 #[.val (.ref x_), .val (.int (0 : Int32))] [(.ref x_)])) rfl (by rw [hml]; rfl) (Steps.refl _) (argsL := []) (rest := []) (lenOf own_pd14 rfl) rfl (by show 2 * 0 + _ ≤ _; exact Nat.le_of_eq rfl) (hb hby d22_1) (fun _ _ => ⟨rfl, e0, (by decide : 0 + 0 ≤ _), (by decide : 0 + 0 ≤ _)⟩)
    dsimp only [Pt.U, Pt.locs, Pt.cells, Pt.slots] at X4 l4 y4 z4 st4 hQ4
    subst l4 y4 z4
    obtain ⟨rfl, Nq4, e4⟩ := hQ4
    have N4 := Fr.app N0 Nq4
    refine otr (S' := T4.setTop (mkF m 4 #[.val (.ref x_), .val (.int (0 : Int32))] [(.int (0 : Int32))])) st4 ?_
    refine o_ifYes X4 hx 16 (hb hby d22_4) (teq (by decide : (0 : Int32) = (0 : Int32))).1 (by decide) (by decide) ?_
    refine o_aloadN X4 hx (hb hby d22_16) rfl rfl ?_
    obtain ⟨T5, X5, e5, st5⟩ := getF X4 hx hZ hown (host := "") (Or.inl w21) Via.refl e4 pr2 (g := (mkF m 17 #[.val (.ref x_), .val (.int (0 : Int32))] [(.ref x_)])) rfl rfl (hb hby d22_17)
    refine ogo (S' := T5.setTop (mkF m 20 #[.val (.ref x_), .val (.int (0 : Int32))] [(.ref ba_)])) st5 ?_
    refine o_iloadN X5 hx (hb hby d22_20) rfl ?_
    obtain ⟨_, _, ⟨T6, L6, kc6, n6⟩, -, X6, ⟨Lc6, hQ6, l6, y6, z6⟩, st6⟩ := Jvm.LawKit.callS X5 hx (y := yM20) hown (mvT hZ w105) (mvT hZ w106) (mvT hZ w56) (mvT hZ w107) (by decide) (backOf (W := 0) (rm_u16cat_2_0 l Z a0 hw [] z_CS v_FMT ba_ kb_ c0_ c1_ h0 n0 SB O0 pr3 pr5) hZ w107 w56 (by decide) (by decide)) (g := (mkF m 21 #[.val (.ref x_), .val (.int (0 : Int32))] [(.int (0 : Int32)), (.ref ba_)])) rfl (by rw [hml]; rfl) (argsL := [(.ref ba_), (.int (0 : Int32))]) (rest := []) (lenOf own_pd5 rfl) rfl (by show 2 * 0 + _ ≤ _; exact Nat.le_of_eq rfl) (hb hby d22_21) (fun _ _ => ⟨rfl, e5, (by decide : 0 + 0 ≤ _), (by decide : 0 + 0 ≤ _)⟩)
    dsimp only [Pt.U, Pt.locs, Pt.cells, Pt.slots] at X6 l6 y6 z6 st6 hQ6
    subst l6 y6 z6
    obtain ⟨rfl, Nq6, e6⟩ := hQ6
    have N6 := Fr.app N4 Nq6
    refine ogo (S' := T6.setTop (mkF m 24 #[.val (.ref x_), .val (.int (0 : Int32))] [(.int c0_)])) st6 ?_
    refine oend X6 hlk (v := some (.int c0_)) (fun h => by rw [hret] at h; cases h) (fun fs hr => retN X6 hx (t := .char) hret (by simp) (hb hby d22_24) (by rw [(own_nar16 pr5)]; exact hr)) (by decide) (by decide) ?_
    show own_Q_ecat_2_0 Z _ _ _ _ _ _ _ _ _ _ h0 n0 _ T6.heap _
    rw [e6]
    exact ⟨rfl, N6, rfl⟩
def own_Q_skipT_2_0 (Z : State) (z_CS : Int32) (v_FMT : Value) (t_ : Addr) (x_ : Addr) (ba_ : Addr) (kb_ : ClassId) (cd_ : Int32) (z_ : Int32) (vs_ : List Value) (c0_ : Int32) (c1_ : Int32) (u_ : Int32) (h0 : Heap) (n0 : Nat) (v : Option Value) (h : Heap) (L : List Loc) : Prop := (v = some (.int (1 : Int32))) ∧ (Fr n0 L) ∧ (Keep h0 h [t_]) ∧ (Exa Z h t_ "com/example/rowfold/rowfold/Literal") ∧ (Fld Z h t_ "com/example/rowfold/rowfold/Literal" "text" "Ljava/lang/String;" (.ref x_)) ∧ (Fld Z h t_ "com/example/rowfold/rowfold/Literal" "at" "I" (.int (1 : Int32)))
set_option maxRecDepth 65536 in
set_option maxHeartbeats 40000000 in
theorem rm_skipT_2_0 (l : Launch) (Z : State) (a0 : Array Value) (hw : ∀ d ∈ tables_1, d.before a0 Z = true) (ws : List Jvm.Cond) (z_CS : Int32) (v_FMT : Value) (t_ : Addr) (x_ : Addr) (ba_ : Addr) (kb_ : ClassId) (cd_ : Int32) (z_ : Int32) (vs_ : List Value) (c0_ : Int32) (c1_ : Int32) (u_ : Int32) (h0 : Heap) (n0 : Nat) (SB : own_Start Z z_CS v_FMT) (O0 : Old Z n0 h0) (pr0 : Exa Z h0 t_ "com/example/rowfold/rowfold/Literal") (pr1 : Fld Z h0 t_ "com/example/rowfold/rowfold/Literal" "text" "Ljava/lang/String;" (.ref x_)) (pr2 : Fld Z h0 t_ "com/example/rowfold/rowfold/Literal" "at" "I" (.int (0 : Int32))) (pr3 : Exa Z h0 x_ "java/lang/String") (pr4 : Fld Z h0 x_ "java/lang/String" "coder" "B" (.int cd_)) (pr5 : Fld Z h0 x_ "java/lang/String" "value" "[B" (.ref ba_)) (pr6 : Arv Z h0 ba_ kb_ .byte z_ vs_ (.int 0)) (pr7 : own_enc2 c0_ c1_ cd_ z_ vs_) (pr8 : own_c16 c0_) (pr9 : c0_ = u_) (pr10 : n0 ≤ t_) :
    oMet l Z yM13 prog_8_method_4_code 3 (some .boolean) ws ({ frames := 5, cells := 0, slots := 0, locals := 66 } : Room) 0 0 #[(.ref t_), (.int u_)] h0 (own_Q_skipT_2_0 Z z_CS v_FMT t_ x_ ba_ kb_ cd_ z_ vs_ c0_ c1_ u_ h0 n0) := by
  refine oenter own_pn0 #[.val (.ref t_), .val (.int u_), .unset] (fun m => by first | (simp [entryFrame, mkF, argsToLocals, Value.category]; done) | rfl) ?_
  intro p e s m below meth c s₁ X0 hx hZ hby hml hret hown0 hnm hlk e0
  have hown : s.vm.findClass "com/example/rowfold/rowfold/Literal" = some m.cls := hown0
  have N0 := Fr.nil n0
  obtain ⟨S_CS, H_CS, S__assertionsDisabled, S_HI_BYTE_SHIFT, S_LO_BYTE_SHIFT, S_FMT, R_FMT⟩ := (id SB)
  have w3 := hw _ (List.mem_of_getElem? (i := 3) rfl)
  have w24 := hw _ (List.mem_of_getElem? (i := 24) rfl)
  have w30 := hw _ (List.mem_of_getElem? (i := 30) rfl)
  have w31 := hw _ (List.mem_of_getElem? (i := 31) rfl)
  have w37 := hw _ (List.mem_of_getElem? (i := 37) rfl)
  have w38 := hw _ (List.mem_of_getElem? (i := 38) rfl)
  have w39 := hw _ (List.mem_of_getElem? (i := 39) rfl)
  have w40 := hw _ (List.mem_of_getElem? (i := 40) rfl)
  have w41 := hw _ (List.mem_of_getElem? (i := 41) rfl)
  have w42 := hw _ (List.mem_of_getElem? (i := 42) rfl)
  have w43 := hw _ (List.mem_of_getElem? (i := 43) rfl)
  have w64 := hw _ (List.mem_of_getElem? (i := 64) rfl)
  have w65 := hw _ (List.mem_of_getElem? (i := 65) rfl)
  have w66 := hw _ (List.mem_of_getElem? (i := 66) rfl)
  have w67 := hw _ (List.mem_of_getElem? (i := 67) rfl)
  have w68 := hw _ (List.mem_of_getElem? (i := 68) rfl)
  refine o_aloadN X0 hx (hb hby d14_0) rfl rfl ?_
  obtain ⟨T1, X1, e1, st1⟩ := getF X0 hx hZ hown (host := "") (Or.inl w37) Via.refl e0 pr2 (g := (mkF m 1 #[.val (.ref t_), .val (.int u_), .unset] [(.ref t_)])) rfl rfl (hb hby d14_1)
  refine ogo (S' := T1.setTop (mkF m 4 #[.val (.ref t_), .val (.int u_), .unset] [(.int (0 : Int32))])) st1 ?_
  refine o_aloadN X1 hx (hb hby d14_4) rfl rfl ?_
  obtain ⟨T2, X2, e2, st2⟩ := getF X1 hx hZ hown (host := "") (Or.inl w30) Via.refl e1 pr1 (g := (mkF m 5 #[.val (.ref t_), .val (.int u_), .unset] [(.ref t_), (.int (0 : Int32))])) rfl rfl (hb hby d14_5)
  refine ogo (S' := T2.setTop (mkF m 8 #[.val (.ref t_), .val (.int u_), .unset] [(.ref x_), (.int (0 : Int32))])) st2 ?_
  obtain ⟨cq3, kq3, q3a, q3b, q3c⟩ := isOf hZ e2 pr3
  obtain ⟨_, _, ⟨T3, L3, kc3, n3⟩, -, X3, ⟨Lc3, hQ3, l3, y3, z3⟩, st3⟩ := X2.virtualBack hx (y := yM12) (z := yM12) hown (mvT hZ w39) (mvT hZ w40) (notFace_of_selects (args := #[]) (mvT hZ w42)) (mvT hZ w42) (mvT hZ w41) (by decide) (backOf (W := 1) (rm_elen_2 l Z a0 hw [] z_CS v_FMT x_ ba_ kb_ cd_ z_ vs_ c0_ c1_ h0 n0 SB O0 pr3 pr4 pr5 pr6 pr7) hZ w43 w3 (by decide) (by decide)) q3a q3c (g := (mkF m 8 #[.val (.ref t_), .val (.int u_), .unset] [(.ref x_), (.int (0 : Int32))])) rfl (by rw [hml]; rfl) (Steps.refl _) (argsL := []) (rest := [(.int (0 : Int32))]) (lenOf own_pd9 rfl) rfl (by show 2 * 0 + _ ≤ _; exact Nat.le_of_eq rfl) (hb hby d14_8) (fun _ _ => ⟨rfl, e2, (by decide : 0 + 0 ≤ _), (by decide : 0 + 0 ≤ _)⟩)
  dsimp only [Pt.U, Pt.locs, Pt.cells, Pt.slots] at X3 l3 y3 z3 st3 hQ3
  subst l3 y3 z3
  obtain ⟨rfl, Nq3, e3⟩ := hQ3
  have N3 := Fr.app N0 Nq3
  refine otr (S' := T3.setTop (mkF m 11 #[.val (.ref t_), .val (.int u_), .unset] [(.int (2 : Int32)), (.int (0 : Int32))])) st3 ?_
  refine o_icmpNo X3 hx (hb hby d14_11) (tlt (by decide : (0 : Int32) < (2 : Int32))).2.1 ?_
  refine o_aloadN X3 hx (hb hby d14_14) rfl rfl ?_
  obtain ⟨T4, X4, e4, st4⟩ := getF X3 hx hZ hown (host := "") (Or.inl w30) Via.refl e3 pr1 (g := (mkF m 15 #[.val (.ref t_), .val (.int u_), .unset] [(.ref t_)])) rfl rfl (hb hby d14_15)
  refine ogo (S' := T4.setTop (mkF m 18 #[.val (.ref t_), .val (.int u_), .unset] [(.ref x_)])) st4 ?_
  refine o_aloadN X4 hx (hb hby d14_18) rfl rfl ?_
  obtain ⟨T5, X5, e5, st5⟩ := getF X4 hx hZ hown (host := "") (Or.inl w37) Via.refl e4 pr2 (g := (mkF m 19 #[.val (.ref t_), .val (.int u_), .unset] [(.ref t_), (.ref x_)])) rfl rfl (hb hby d14_19)
  refine ogo (S' := T5.setTop (mkF m 22 #[.val (.ref t_), .val (.int u_), .unset] [(.int (0 : Int32)), (.ref x_)])) st5 ?_
  obtain ⟨cq6, kq6, q6a, q6b, q6c⟩ := isOf hZ e5 pr3
  obtain ⟨_, _, ⟨T6, L6, kc6, n6⟩, -, X6, ⟨Lc6, hQ6, l6, y6, z6⟩, st6⟩ := X5.virtualBack hx (y := yM21) (z := yM21) hown (mvT hZ w64) (mvT hZ w65) (notFace_of_selects (args := #[]) (mvT hZ w67)) (mvT hZ w67) (mvT hZ w66) (by decide) (backOf (W := 0) (rm_ecat_2_0 l Z a0 hw [] z_CS v_FMT x_ ba_ kb_ cd_ z_ vs_ c0_ c1_ h0 n0 SB O0 pr3 pr4 pr5 pr6 pr7 pr8) hZ w68 w3 (by decide) (by decide)) q6a q6c (g := (mkF m 22 #[.val (.ref t_), .val (.int u_), .unset] [(.int (0 : Int32)), (.ref x_)])) rfl (by rw [hml]; rfl) (Steps.refl _) (argsL := [(.int (0 : Int32))]) (rest := []) (lenOf own_pd15 rfl) rfl (by show 2 * 0 + _ ≤ _; exact Nat.le_of_eq rfl) (hb hby d14_22) (fun _ _ => ⟨rfl, e5, (by decide : 0 + 0 ≤ _), (by decide : 0 + 0 ≤ _)⟩)
  dsimp only [Pt.U, Pt.locs, Pt.cells, Pt.slots] at X6 l6 y6 z6 st6 hQ6
  subst l6 y6 z6
  obtain ⟨rfl, Nq6, e6⟩ := hQ6
  have N6 := Fr.app N3 Nq6
  refine otr (S' := T6.setTop (mkF m 25 #[.val (.ref t_), .val (.int u_), .unset] [(.int c0_)])) st6 ?_
  refine o_iloadN X6 hx (hb hby d14_25) rfl ?_
  refine o_icmpNo X6 hx (hb hby d14_26) (teq pr9).2 ?_
  refine o_iconst X6 hx (1 : Int32) (hb hby d14_29) rfl ?_
  refine o_goto X6 hx 34 (hb hby d14_30) (by decide) (by decide) ?_
  refine o_istoreN X6 hx (l' := #[.val (.ref t_), .val (.int u_), .val (.int (1 : Int32))]) (hb hby d14_34) rfl ?_
  refine o_iloadN X6 hx (hb hby d14_35) rfl ?_
  refine o_ifNo X6 hx (hb hby d14_36) (feq (by decide : ¬ ((1 : Int32) = (0 : Int32)))).1 ?_
  refine o_aloadN X6 hx (hb hby d14_39) rfl rfl ?_
  refine o_dup X6 hx (hb hby d14_40) rfl ?_
  obtain ⟨T7, X7, e7, st7⟩ := getF X6 hx hZ hown (host := "") (Or.inl w37) Via.refl e6 pr2 (g := (mkF m 41 #[.val (.ref t_), .val (.int u_), .val (.int (1 : Int32))] [(.ref t_), (.ref t_)])) rfl rfl (hb hby d14_41)
  refine ogo (S' := T7.setTop (mkF m 44 #[.val (.ref t_), .val (.int u_), .val (.int (1 : Int32))] [(.int (0 : Int32)), (.ref t_)])) st7 ?_
  refine o_iconst X7 hx (1 : Int32) (hb hby d14_44) rfl ?_
  refine o_iadd X7 hx (hb hby d14_45) ?_
  obtain ⟨T8, _, X8, rfl, W8, st8⟩ := putF X7 hx hZ hown (host := "") (Or.inl w37) Via.refl e7 pr2 pr0 (Or.inl w38) w24 (ty := .int) (by decide) rfl rfl (g := (mkF m 46 #[.val (.ref t_), .val (.int u_), .val (.int (1 : Int32))] [(.int (1 : Int32)), (.ref t_)])) rfl rfl (hb hby d14_46)
  have N8 := Fr.snoc X8 N6 pr10
  have F8 := Fld.same W8 pr2
  refine ogo (S' := T8.setTop (mkF m 49 #[.val (.ref t_), .val (.int u_), .val (.int (1 : Int32))] [])) st8 ?_
  refine o_iloadN X8 hx (hb hby d14_49) rfl ?_
  have c9 := (Fld.other W8 pr1 (Or.inr (slot_ne (Or.inr w31) (Or.inl w38) (by decide) (t := (.object "java/lang/String")) (t' := .int) (by decide) (by decide))))
  refine oend X8 hlk (v := some (.int (1 : Int32))) (fun h => by rw [hret] at h; cases h) (fun fs hr => retN X8 hx (t := .boolean) hret (by simp) (hb hby d14_50) hr) (by decide) (by decide) ?_
  show own_Q_skipT_2_0 Z _ _ _ _ _ _ _ _ _ _ _ _ h0 n0 _ T8.heap _
  exact ⟨rfl, N8, ((Keep.refl h0 [t_]).wr W8 (Or.inl (List.mem_of_getElem? (i := 0) rfl))), (Exa.wr W8 pr0), c9, F8⟩
def own_Q_skipF_2_0 (Z : State) (z_CS : Int32) (v_FMT : Value) (t_ : Addr) (x_ : Addr) (ba_ : Addr) (kb_ : ClassId) (cd_ : Int32) (z_ : Int32) (vs_ : List Value) (c0_ : Int32) (c1_ : Int32) (u_ : Int32) (h0 : Heap) (n0 : Nat) (v : Option Value) (h : Heap) (L : List Loc) : Prop := (v = some (.int (0 : Int32))) ∧ (Fr n0 L) ∧ (h = h0)
set_option maxRecDepth 65536 in
set_option maxHeartbeats 40000000 in
theorem rm_skipF_2_0 (l : Launch) (Z : State) (a0 : Array Value) (hw : ∀ d ∈ tables_1, d.before a0 Z = true) (ws : List Jvm.Cond) (z_CS : Int32) (v_FMT : Value) (t_ : Addr) (x_ : Addr) (ba_ : Addr) (kb_ : ClassId) (cd_ : Int32) (z_ : Int32) (vs_ : List Value) (c0_ : Int32) (c1_ : Int32) (u_ : Int32) (h0 : Heap) (n0 : Nat) (SB : own_Start Z z_CS v_FMT) (O0 : Old Z n0 h0) (pr0 : Exa Z h0 t_ "com/example/rowfold/rowfold/Literal") (pr1 : Fld Z h0 t_ "com/example/rowfold/rowfold/Literal" "text" "Ljava/lang/String;" (.ref x_)) (pr2 : Fld Z h0 t_ "com/example/rowfold/rowfold/Literal" "at" "I" (.int (0 : Int32))) (pr3 : Exa Z h0 x_ "java/lang/String") (pr4 : Fld Z h0 x_ "java/lang/String" "coder" "B" (.int cd_)) (pr5 : Fld Z h0 x_ "java/lang/String" "value" "[B" (.ref ba_)) (pr6 : Arv Z h0 ba_ kb_ .byte z_ vs_ (.int 0)) (pr7 : own_enc2 c0_ c1_ cd_ z_ vs_) (pr8 : own_c16 c0_) (pr9 : ¬ (c0_ = u_)) :
    oMet l Z yM13 prog_8_method_4_code 3 (some .boolean) ws ({ frames := 5, cells := 0, slots := 0, locals := 66 } : Room) 0 0 #[(.ref t_), (.int u_)] h0 (own_Q_skipF_2_0 Z z_CS v_FMT t_ x_ ba_ kb_ cd_ z_ vs_ c0_ c1_ u_ h0 n0) := by
  refine oenter own_pn0 #[.val (.ref t_), .val (.int u_), .unset] (fun m => by first | (simp [entryFrame, mkF, argsToLocals, Value.category]; done) | rfl) ?_
  intro p e s m below meth c s₁ X0 hx hZ hby hml hret hown0 hnm hlk e0
  have hown : s.vm.findClass "com/example/rowfold/rowfold/Literal" = some m.cls := hown0
  have N0 := Fr.nil n0
  obtain ⟨S_CS, H_CS, S__assertionsDisabled, S_HI_BYTE_SHIFT, S_LO_BYTE_SHIFT, S_FMT, R_FMT⟩ := (id SB)
  have w3 := hw _ (List.mem_of_getElem? (i := 3) rfl)
  have w30 := hw _ (List.mem_of_getElem? (i := 30) rfl)
  have w37 := hw _ (List.mem_of_getElem? (i := 37) rfl)
  have w39 := hw _ (List.mem_of_getElem? (i := 39) rfl)
  have w40 := hw _ (List.mem_of_getElem? (i := 40) rfl)
  have w41 := hw _ (List.mem_of_getElem? (i := 41) rfl)
  have w42 := hw _ (List.mem_of_getElem? (i := 42) rfl)
  have w43 := hw _ (List.mem_of_getElem? (i := 43) rfl)
  have w64 := hw _ (List.mem_of_getElem? (i := 64) rfl)
  have w65 := hw _ (List.mem_of_getElem? (i := 65) rfl)
  have w66 := hw _ (List.mem_of_getElem? (i := 66) rfl)
  have w67 := hw _ (List.mem_of_getElem? (i := 67) rfl)
  have w68 := hw _ (List.mem_of_getElem? (i := 68) rfl)
  refine o_aloadN X0 hx (hb hby d14_0) rfl rfl ?_
  obtain ⟨T1, X1, e1, st1⟩ := getF X0 hx hZ hown (host := "") (Or.inl w37) Via.refl e0 pr2 (g := (mkF m 1 #[.val (.ref t_), .val (.int u_), .unset] [(.ref t_)])) rfl rfl (hb hby d14_1)
  refine ogo (S' := T1.setTop (mkF m 4 #[.val (.ref t_), .val (.int u_), .unset] [(.int (0 : Int32))])) st1 ?_
  refine o_aloadN X1 hx (hb hby d14_4) rfl rfl ?_
  obtain ⟨T2, X2, e2, st2⟩ := getF X1 hx hZ hown (host := "") (Or.inl w30) Via.refl e1 pr1 (g := (mkF m 5 #[.val (.ref t_), .val (.int u_), .unset] [(.ref t_), (.int (0 : Int32))])) rfl rfl (hb hby d14_5)
  refine ogo (S' := T2.setTop (mkF m 8 #[.val (.ref t_), .val (.int u_), .unset] [(.ref x_), (.int (0 : Int32))])) st2 ?_
  obtain ⟨cq3, kq3, q3a, q3b, q3c⟩ := isOf hZ e2 pr3
  obtain ⟨_, _, ⟨T3, L3, kc3, n3⟩, -, X3, ⟨Lc3, hQ3, l3, y3, z3⟩, st3⟩ := X2.virtualBack hx (y := yM12) (z := yM12) hown (mvT hZ w39) (mvT hZ w40) (notFace_of_selects (args := #[]) (mvT hZ w42)) (mvT hZ w42) (mvT hZ w41) (by decide) (backOf (W := 1) (rm_elen_2 l Z a0 hw [] z_CS v_FMT x_ ba_ kb_ cd_ z_ vs_ c0_ c1_ h0 n0 SB O0 pr3 pr4 pr5 pr6 pr7) hZ w43 w3 (by decide) (by decide)) q3a q3c (g := (mkF m 8 #[.val (.ref t_), .val (.int u_), .unset] [(.ref x_), (.int (0 : Int32))])) rfl (by rw [hml]; rfl) (Steps.refl _) (argsL := []) (rest := [(.int (0 : Int32))]) (lenOf own_pd9 rfl) rfl (by show 2 * 0 + _ ≤ _; exact Nat.le_of_eq rfl) (hb hby d14_8) (fun _ _ => ⟨rfl, e2, (by decide : 0 + 0 ≤ _), (by decide : 0 + 0 ≤ _)⟩)
  dsimp only [Pt.U, Pt.locs, Pt.cells, Pt.slots] at X3 l3 y3 z3 st3 hQ3
  subst l3 y3 z3
  obtain ⟨rfl, Nq3, e3⟩ := hQ3
  have N3 := Fr.app N0 Nq3
  refine otr (S' := T3.setTop (mkF m 11 #[.val (.ref t_), .val (.int u_), .unset] [(.int (2 : Int32)), (.int (0 : Int32))])) st3 ?_
  refine o_icmpNo X3 hx (hb hby d14_11) (tlt (by decide : (0 : Int32) < (2 : Int32))).2.1 ?_
  refine o_aloadN X3 hx (hb hby d14_14) rfl rfl ?_
  obtain ⟨T4, X4, e4, st4⟩ := getF X3 hx hZ hown (host := "") (Or.inl w30) Via.refl e3 pr1 (g := (mkF m 15 #[.val (.ref t_), .val (.int u_), .unset] [(.ref t_)])) rfl rfl (hb hby d14_15)
  refine ogo (S' := T4.setTop (mkF m 18 #[.val (.ref t_), .val (.int u_), .unset] [(.ref x_)])) st4 ?_
  refine o_aloadN X4 hx (hb hby d14_18) rfl rfl ?_
  obtain ⟨T5, X5, e5, st5⟩ := getF X4 hx hZ hown (host := "") (Or.inl w37) Via.refl e4 pr2 (g := (mkF m 19 #[.val (.ref t_), .val (.int u_), .unset] [(.ref t_), (.ref x_)])) rfl rfl (hb hby d14_19)
  refine ogo (S' := T5.setTop (mkF m 22 #[.val (.ref t_), .val (.int u_), .unset] [(.int (0 : Int32)), (.ref x_)])) st5 ?_
  obtain ⟨cq6, kq6, q6a, q6b, q6c⟩ := isOf hZ e5 pr3
  obtain ⟨_, _, ⟨T6, L6, kc6, n6⟩, -, X6, ⟨Lc6, hQ6, l6, y6, z6⟩, st6⟩ := X5.virtualBack hx (y := yM21) (z := yM21) hown (mvT hZ w64) (mvT hZ w65) (notFace_of_selects (args := #[]) (mvT hZ w67)) (mvT hZ w67) (mvT hZ w66) (by decide) (backOf (W := 0) (rm_ecat_2_0 l Z a0 hw [] z_CS v_FMT x_ ba_ kb_ cd_ z_ vs_ c0_ c1_ h0 n0 SB O0 pr3 pr4 pr5 pr6 pr7 pr8) hZ w68 w3 (by decide) (by decide)) q6a q6c (g := (mkF m 22 #[.val (.ref t_), .val (.int u_), .unset] [(.int (0 : Int32)), (.ref x_)])) rfl (by rw [hml]; rfl) (Steps.refl _) (argsL := [(.int (0 : Int32))]) (rest := []) (lenOf own_pd15 rfl) rfl (by show 2 * 0 + _ ≤ _; exact Nat.le_of_eq rfl) (hb hby d14_22) (fun _ _ => ⟨rfl, e5, (by decide : 0 + 0 ≤ _), (by decide : 0 + 0 ≤ _)⟩)
  dsimp only [Pt.U, Pt.locs, Pt.cells, Pt.slots] at X6 l6 y6 z6 st6 hQ6
  subst l6 y6 z6
  obtain ⟨rfl, Nq6, e6⟩ := hQ6
  have N6 := Fr.app N3 Nq6
  refine otr (S' := T6.setTop (mkF m 25 #[.val (.ref t_), .val (.int u_), .unset] [(.int c0_)])) st6 ?_
  refine o_iloadN X6 hx (hb hby d14_25) rfl ?_
  refine o_icmpYes X6 hx 33 (hb hby d14_26) (feq pr9).2 (by decide) (by decide) ?_
  refine o_iconst X6 hx (0 : Int32) (hb hby d14_33) rfl ?_
  refine o_istoreN X6 hx (l' := #[.val (.ref t_), .val (.int u_), .val (.int (0 : Int32))]) (hb hby d14_34) rfl ?_
  refine o_iloadN X6 hx (hb hby d14_35) rfl ?_
  refine o_ifYes X6 hx 49 (hb hby d14_36) (teq (by decide : (0 : Int32) = (0 : Int32))).1 (by decide) (by decide) ?_
  refine o_iloadN X6 hx (hb hby d14_49) rfl ?_
  refine oend X6 hlk (v := some (.int (0 : Int32))) (fun h => by rw [hret] at h; cases h) (fun fs hr => retN X6 hx (t := .boolean) hret (by simp) (hb hby d14_50) hr) (by decide) (by decide) ?_
  show own_Q_skipF_2_0 Z _ _ _ _ _ _ _ _ _ _ _ _ h0 n0 _ T6.heap _
  rw [e6]
  exact ⟨rfl, N6, rfl⟩
def own_Q_l1c_2_1 (Z : State) (z_CS : Int32) (v_FMT : Value) (ba_ : Addr) (kb_ : ClassId) (c0_ : Int32) (c1_ : Int32) (h0 : Heap) (n0 : Nat) (v : Option Value) (h : Heap) (L : List Loc) : Prop := (v = some (.int c1_)) ∧ (Fr n0 L) ∧ (h = h0)
set_option maxRecDepth 65536 in
set_option maxHeartbeats 40000000 in
theorem rm_l1c_2_1 (l : Launch) (Z : State) (a0 : Array Value) (hw : ∀ d ∈ tables_1, d.before a0 Z = true) (ws : List Jvm.Cond) (z_CS : Int32) (v_FMT : Value) (ba_ : Addr) (kb_ : ClassId) (c0_ : Int32) (c1_ : Int32) (h0 : Heap) (n0 : Nat) (SB : own_Start Z z_CS v_FMT) (O0 : Old Z n0 h0) (pr0 : Arv Z h0 ba_ kb_ .byte (2 : Int32) [(.int c0_.toInt8.toInt32), (.int c1_.toInt8.toInt32)] (.int 0)) (pr1 : ¬ (c1_ < (0 : Int32))) (pr2 : ¬ ((255 : Int32) < c1_)) :
    oMet l Z yM17 jdk_43_method_2_code 2 (some .char) ws ({ frames := 2, cells := 0, slots := 0, locals := 27 } : Room) 0 0 #[(.ref ba_), (.int (1 : Int32))] h0 (own_Q_l1c_2_1 Z z_CS v_FMT ba_ kb_ c0_ c1_ h0 n0) := by
  refine oenter own_pn4 #[.val (.ref ba_), .val (.int (1 : Int32))] (fun m => by first | (simp [entryFrame, mkF, argsToLocals, Value.category]; done) | rfl) ?_
  intro p e s m below meth c s₁ X0 hx hZ hby hml hret hown0 hnm hlk e0
  have hown : s.vm.findClass "java/lang/StringLatin1" = some m.cls := hown0
  have N0 := Fr.nil n0
  obtain ⟨S_CS, H_CS, S__assertionsDisabled, S_HI_BYTE_SHIFT, S_LO_BYTE_SHIFT, S_FMT, R_FMT⟩ := (id SB)
  have w3 := hw _ (List.mem_of_getElem? (i := 3) rfl)
  have w78 := hw _ (List.mem_of_getElem? (i := 78) rfl)
  have w79 := hw _ (List.mem_of_getElem? (i := 79) rfl)
  have w80 := hw _ (List.mem_of_getElem? (i := 80) rfl)
  refine o_iloadN X0 hx (hb hby d18_0) rfl ?_
  refine o_aloadN X0 hx (hb hby d18_1) rfl rfl ?_
  obtain ⟨cl1, Ar1, -, S1, N1z, -, -⟩ := (id pr0)
  refine ogo (S' := s₁.setTop (mkF m 3 #[.val (.ref ba_), .val (.int (1 : Int32))] [(.int (2 : Int32)), (.int (1 : Int32))])) (fun _ kt_ => X0.arraylength hx (by rw [e0]; exact Ar1.1) (State.isArrayOf_alike hZ.alike Ar1.2.1) (g := (mkF m 2 #[.val (.ref ba_), .val (.int (1 : Int32))] [(.ref ba_), (.int (1 : Int32))])) rfl rfl (hb hby d18_2) _ (by rw [len_of S1 N1z]; exact kt_)) ?_
  obtain ⟨_, _, ⟨T2, L2, kc2, n2⟩, -, X2, ⟨Lc2, hQ2, l2, y2, z2⟩, st2⟩ := Jvm.LawKit.callS X0 hx (y := yM16) hown (mvT hZ w78) (mvT hZ w79) (mvT hZ w3) (mvT hZ w80) (by decide) (backOf (W := 0) (rm_sci l Z a0 hw [] z_CS v_FMT (1 : Int32) (2 : Int32) h0 n0 SB O0 (by decide) (by decide)) hZ w80 w3 (by decide) (by decide)) (g := (mkF m 3 #[.val (.ref ba_), .val (.int (1 : Int32))] [(.int (2 : Int32)), (.int (1 : Int32))])) rfl (by rw [hml]; rfl) (argsL := [(.int (1 : Int32)), (.int (2 : Int32))]) (rest := []) (lenOf own_pd11 rfl) rfl (by show 2 * 0 + _ ≤ _; exact Nat.le_of_eq rfl) (hb hby d18_3) (fun _ _ => ⟨rfl, e0, (by decide : 0 + 0 ≤ _), (by decide : 0 + 0 ≤ _)⟩)
  dsimp only [Pt.U, Pt.locs, Pt.cells, Pt.slots] at X2 l2 y2 z2 st2 hQ2
  subst l2 y2 z2
  obtain ⟨rfl, Nq2, e2⟩ := hQ2
  have N2 := Fr.app N0 Nq2
  refine ogo (S' := T2.setTop (mkF m 6 #[.val (.ref ba_), .val (.int (1 : Int32))] [])) st2 ?_
  refine o_aloadN X2 hx (hb hby d18_6) rfl rfl ?_
  refine o_iloadN X2 hx (hb hby d18_7) rfl ?_
  obtain ⟨cl3, Ar3, q3, S3, N3z, H3, G3⟩ := (id pr0)
  have hi3 := inb_of (j := (1 : Int32)) S3 ⟨by decide, by decide⟩
  have ha3 := Has.at (v := (.int c1_.toInt8.toInt32)) H3 hi3 rfl
  refine ogo (S' := T2.setTop (mkF m 9 #[.val (.ref ba_), .val (.int (1 : Int32))] [(.int c1_.toInt8.toInt32)])) (X2.baloadBytes hx (j := (1 : Int32)) (v := (.int c1_.toInt8.toInt32)) (by rw [e2]; exact Ar3.1) (State.isArrayOf_alike hZ.alike Ar3.2.1) Ar3.2.2 hi3 ha3 (g := (mkF m 8 #[.val (.ref ba_), .val (.int (1 : Int32))] [(.int (1 : Int32)), (.ref ba_)])) rfl rfl (hb hby d18_8)) ?_
  refine o_sipush X2 hx (255 : Int32) (hb hby d18_9) rfl ?_
  refine o_iand X2 hx (hb hby d18_12) ?_
  refine o_i2c X2 hx (hb hby d18_13) ?_
  rw [own_char pr1 pr2]
  refine oend X2 hlk (v := some (.int c1_)) (fun h => by rw [hret] at h; cases h) (fun fs hr => retN X2 hx (t := .char) hret (by simp) (hb hby d18_14) (by rw [(own_narsm pr1 pr2)]; exact hr)) (by decide) (by decide) ?_
  show own_Q_l1c_2_1 Z _ _ _ _ _ _ h0 n0 _ T2.heap _
  rw [e2]
  exact ⟨rfl, N2, rfl⟩
def own_Q_u16ci_2_1 (Z : State) (z_CS : Int32) (v_FMT : Value) (ba_ : Addr) (kb_ : ClassId) (vs_ : List Value) (h0 : Heap) (n0 : Nat) (v : Option Value) (h : Heap) (L : List Loc) : Prop := (v = none) ∧ (Fr n0 L) ∧ (h = h0)
set_option maxRecDepth 65536 in
set_option maxHeartbeats 40000000 in
theorem rm_u16ci_2_1 (l : Launch) (Z : State) (a0 : Array Value) (hw : ∀ d ∈ tables_1, d.before a0 Z = true) (ws : List Jvm.Cond) (z_CS : Int32) (v_FMT : Value) (ba_ : Addr) (kb_ : ClassId) (vs_ : List Value) (h0 : Heap) (n0 : Nat) (SB : own_Start Z z_CS v_FMT) (O0 : Old Z n0 h0) (pr0 : Arv Z h0 ba_ kb_ .byte (4 : Int32) vs_ (.int 0)) :
    oMet l Z yM19 jdk_52_method_91_code 2 none ws ({ frames := 2, cells := 0, slots := 0, locals := 27 } : Room) 0 0 #[(.int (1 : Int32)), (.ref ba_)] h0 (own_Q_u16ci_2_1 Z z_CS v_FMT ba_ kb_ vs_ h0 n0) := by
  refine oenter own_pn1 #[.val (.int (1 : Int32)), .val (.ref ba_)] (fun m => by first | (simp [entryFrame, mkF, argsToLocals, Value.category]; done) | rfl) ?_
  intro p e s m below meth c s₁ X0 hx hZ hby hml hret hown0 hnm hlk e0
  have hown : s.vm.findClass "java/lang/StringUTF16" = some m.cls := hown0
  have N0 := Fr.nil n0
  obtain ⟨S_CS, H_CS, S__assertionsDisabled, S_HI_BYTE_SHIFT, S_LO_BYTE_SHIFT, S_FMT, R_FMT⟩ := (id SB)
  have w3 := hw _ (List.mem_of_getElem? (i := 3) rfl)
  have w56 := hw _ (List.mem_of_getElem? (i := 56) rfl)
  have w79 := hw _ (List.mem_of_getElem? (i := 79) rfl)
  have w80 := hw _ (List.mem_of_getElem? (i := 80) rfl)
  have w111 := hw _ (List.mem_of_getElem? (i := 111) rfl)
  have w112 := hw _ (List.mem_of_getElem? (i := 112) rfl)
  have w113 := hw _ (List.mem_of_getElem? (i := 113) rfl)
  have w114 := hw _ (List.mem_of_getElem? (i := 114) rfl)
  refine o_iloadN X0 hx (hb hby d20_0) rfl ?_
  refine o_aloadN X0 hx (hb hby d20_1) rfl rfl ?_
  obtain ⟨_, _, ⟨T1, L1, kc1, n1⟩, -, X1, ⟨Lc1, hQ1, l1, y1, z1⟩, st1⟩ := Jvm.LawKit.callS X0 hx (y := yM18) hown (mvT hZ w111) (mvT hZ w112) (mvT hZ w56) (mvT hZ w113) (by decide) (backOf (W := 1) (rm_u16len_2 l Z a0 hw []  ba_ kb_ vs_ h0 n0 O0 pr0) hZ w113 w56 (by decide) (by decide)) (g := (mkF m 2 #[.val (.int (1 : Int32)), .val (.ref ba_)] [(.ref ba_), (.int (1 : Int32))])) rfl (by rw [hml]; rfl) (argsL := [(.ref ba_)]) (rest := [(.int (1 : Int32))]) (lenOf own_pd12 rfl) rfl (by show 2 * 0 + _ ≤ _; exact Nat.le_of_eq rfl) (hb hby d20_2) (fun _ _ => ⟨rfl, e0, (by decide : 0 + 0 ≤ _), (by decide : 0 + 0 ≤ _)⟩)
  dsimp only [Pt.U, Pt.locs, Pt.cells, Pt.slots] at X1 l1 y1 z1 st1 hQ1
  subst l1 y1 z1
  obtain ⟨rfl, Nq1, e1⟩ := hQ1
  have N1 := Fr.app N0 Nq1
  refine ogo (S' := T1.setTop (mkF m 5 #[.val (.int (1 : Int32)), .val (.ref ba_)] [(.int (2 : Int32)), (.int (1 : Int32))])) st1 ?_
  obtain ⟨_, _, ⟨T2, L2, kc2, n2⟩, -, X2, ⟨Lc2, hQ2, l2, y2, z2⟩, st2⟩ := Jvm.LawKit.callS X1 hx (y := yM16) hown (mvT hZ w114) (mvT hZ w79) (mvT hZ w3) (mvT hZ w80) (by decide) (backOf (W := 0) (rm_sci l Z a0 hw [] z_CS v_FMT (1 : Int32) (2 : Int32) h0 n0 SB O0 (by decide) (by decide)) hZ w80 w3 (by decide) (by decide)) (g := (mkF m 5 #[.val (.int (1 : Int32)), .val (.ref ba_)] [(.int (2 : Int32)), (.int (1 : Int32))])) rfl (by rw [hml]; rfl) (argsL := [(.int (1 : Int32)), (.int (2 : Int32))]) (rest := []) (lenOf own_pd11 rfl) rfl (by show 2 * 0 + _ ≤ _; exact Nat.le_of_eq rfl) (hb hby d20_5) (fun _ _ => ⟨rfl, e1, (by decide : 0 + 0 ≤ _), (by decide : 0 + 0 ≤ _)⟩)
  dsimp only [Pt.U, Pt.locs, Pt.cells, Pt.slots] at X2 l2 y2 z2 st2 hQ2
  subst l2 y2 z2
  obtain ⟨rfl, Nq2, e2⟩ := hQ2
  have N2 := Fr.app N1 Nq2
  refine ogo (S' := T2.setTop (mkF m 8 #[.val (.int (1 : Int32)), .val (.ref ba_)] [])) st2 ?_
  refine oend X2 hlk (v := none) (fun _ => rfl) (fun fs hr => X2.returnOut hx hret (hb hby d20_8) hr) (by decide) (by decide) ?_
  show own_Q_u16ci_2_1 Z _ _ _ _ _ h0 n0 _ T2.heap _
  rw [e2]
  exact ⟨rfl, N2, rfl⟩
def own_Q_u16cat_2_1 (Z : State) (z_CS : Int32) (v_FMT : Value) (ba_ : Addr) (kb_ : ClassId) (c0_ : Int32) (c1_ : Int32) (h0 : Heap) (n0 : Nat) (v : Option Value) (h : Heap) (L : List Loc) : Prop := (v = some (.int c1_)) ∧ (Fr n0 L) ∧ (h = h0)
set_option maxRecDepth 65536 in
set_option maxHeartbeats 40000000 in
theorem rm_u16cat_2_1 (l : Launch) (Z : State) (a0 : Array Value) (hw : ∀ d ∈ tables_1, d.before a0 Z = true) (ws : List Jvm.Cond) (z_CS : Int32) (v_FMT : Value) (ba_ : Addr) (kb_ : ClassId) (c0_ : Int32) (c1_ : Int32) (h0 : Heap) (n0 : Nat) (SB : own_Start Z z_CS v_FMT) (O0 : Old Z n0 h0) (pr0 : Arv Z h0 ba_ kb_ .byte (4 : Int32) [(.int (c0_ >>> ((0 : Int32) &&& 31)).toInt8.toInt32), (.int (c0_ >>> ((8 : Int32) &&& 31)).toInt8.toInt32), (.int (c1_ >>> ((0 : Int32) &&& 31)).toInt8.toInt32), (.int (c1_ >>> ((8 : Int32) &&& 31)).toInt8.toInt32)] (.int 0)) (pr1 : own_c16 c1_) :
    oMet l Z yM20 jdk_52_method_83_code 2 (some .char) ws ({ frames := 3, cells := 0, slots := 0, locals := 40 } : Room) 0 0 #[(.ref ba_), (.int (1 : Int32))] h0 (own_Q_u16cat_2_1 Z z_CS v_FMT ba_ kb_ c0_ c1_ h0 n0) := by
  refine oenter own_pn1 #[.val (.ref ba_), .val (.int (1 : Int32))] (fun m => by first | (simp [entryFrame, mkF, argsToLocals, Value.category]; done) | rfl) ?_
  intro p e s m below meth c s₁ X0 hx hZ hby hml hret hown0 hnm hlk e0
  have hown : s.vm.findClass "java/lang/StringUTF16" = some m.cls := hown0
  have N0 := Fr.nil n0
  obtain ⟨S_CS, H_CS, S__assertionsDisabled, S_HI_BYTE_SHIFT, S_LO_BYTE_SHIFT, S_FMT, R_FMT⟩ := (id SB)
  have w56 := hw _ (List.mem_of_getElem? (i := 56) rfl)
  have w102 := hw _ (List.mem_of_getElem? (i := 102) rfl)
  have w103 := hw _ (List.mem_of_getElem? (i := 103) rfl)
  have w104 := hw _ (List.mem_of_getElem? (i := 104) rfl)
  have w108 := hw _ (List.mem_of_getElem? (i := 108) rfl)
  have w109 := hw _ (List.mem_of_getElem? (i := 109) rfl)
  have w110 := hw _ (List.mem_of_getElem? (i := 110) rfl)
  refine o_iloadN X0 hx (hb hby d21_0) rfl ?_
  refine o_aloadN X0 hx (hb hby d21_1) rfl rfl ?_
  obtain ⟨_, _, ⟨T1, L1, kc1, n1⟩, -, X1, ⟨Lc1, hQ1, l1, y1, z1⟩, st1⟩ := Jvm.LawKit.callS X0 hx (y := yM19) hown (mvT hZ w108) (mvT hZ w109) (mvT hZ w56) (mvT hZ w110) (by decide) (backOf (W := 0) (rm_u16ci_2_1 l Z a0 hw [] z_CS v_FMT ba_ kb_ [(.int (c0_ >>> ((0 : Int32) &&& 31)).toInt8.toInt32), (.int (c0_ >>> ((8 : Int32) &&& 31)).toInt8.toInt32), (.int (c1_ >>> ((0 : Int32) &&& 31)).toInt8.toInt32), (.int (c1_ >>> ((8 : Int32) &&& 31)).toInt8.toInt32)] h0 n0 SB O0 pr0) hZ w110 w56 (by decide) (by decide)) (g := (mkF m 2 #[.val (.ref ba_), .val (.int (1 : Int32))] [(.ref ba_), (.int (1 : Int32))])) rfl (by rw [hml]; rfl) (argsL := [(.int (1 : Int32)), (.ref ba_)]) (rest := []) (lenOf own_pd13 rfl) rfl (by show 2 * 0 + _ ≤ _; exact Nat.le_of_eq rfl) (hb hby d21_2) (fun _ _ => ⟨rfl, e0, (by decide : 0 + 0 ≤ _), (by decide : 0 + 0 ≤ _)⟩)
  dsimp only [Pt.U, Pt.locs, Pt.cells, Pt.slots] at X1 l1 y1 z1 st1 hQ1
  subst l1 y1 z1
  obtain ⟨rfl, Nq1, e1⟩ := hQ1
  have N1 := Fr.app N0 Nq1
  refine ogo (S' := T1.setTop (mkF m 5 #[.val (.ref ba_), .val (.int (1 : Int32))] [])) st1 ?_
  refine o_aloadN X1 hx (hb hby d21_5) rfl rfl ?_
  refine o_iloadN X1 hx (hb hby d21_6) rfl ?_
  obtain ⟨_, _, ⟨T2, L2, kc2, n2⟩, -, X2, ⟨Lc2, hQ2, l2, y2, z2⟩, st2⟩ := Jvm.LawKit.callS X1 hx (y := yM8) hown (mvT hZ w102) (mvT hZ w103) (mvT hZ w56) (mvT hZ w104) (by decide) (backOf (W := 0) (rm_getch_2_1 l Z a0 hw [] z_CS v_FMT ba_ kb_ c0_ c1_ h0 n0 SB O0 pr0 pr1) hZ w104 w56 (by decide) (by decide)) (g := (mkF m 7 #[.val (.ref ba_), .val (.int (1 : Int32))] [(.int (1 : Int32)), (.ref ba_)])) rfl (by rw [hml]; rfl) (argsL := [(.ref ba_), (.int (1 : Int32))]) (rest := []) (lenOf own_pd5 rfl) rfl (by show 2 * 0 + _ ≤ _; exact Nat.le_of_eq rfl) (hb hby d21_7) (fun _ _ => ⟨rfl, e1, (by decide : 0 + 0 ≤ _), (by decide : 0 + 0 ≤ _)⟩)
  dsimp only [Pt.U, Pt.locs, Pt.cells, Pt.slots] at X2 l2 y2 z2 st2 hQ2
  subst l2 y2 z2
  obtain ⟨rfl, Nq2, e2⟩ := hQ2
  have N2 := Fr.app N1 Nq2
  refine ogo (S' := T2.setTop (mkF m 10 #[.val (.ref ba_), .val (.int (1 : Int32))] [(.int c1_)])) st2 ?_
  refine oend X2 hlk (v := some (.int c1_)) (fun h => by rw [hret] at h; cases h) (fun fs hr => retN X2 hx (t := .char) hret (by simp) (hb hby d21_10) (by rw [(own_nar16 pr1)]; exact hr)) (by decide) (by decide) ?_
  show own_Q_u16cat_2_1 Z _ _ _ _ _ _ h0 n0 _ T2.heap _
  rw [e2]
  exact ⟨rfl, N2, rfl⟩
def own_Q_ecat_2_1 (Z : State) (z_CS : Int32) (v_FMT : Value) (x_ : Addr) (ba_ : Addr) (kb_ : ClassId) (cd_ : Int32) (z_ : Int32) (vs_ : List Value) (c0_ : Int32) (c1_ : Int32) (h0 : Heap) (n0 : Nat) (v : Option Value) (h : Heap) (L : List Loc) : Prop := (v = some (.int c1_)) ∧ (Fr n0 L) ∧ (h = h0)
set_option maxRecDepth 65536 in
set_option maxHeartbeats 40000000 in
theorem rm_ecat_2_1 (l : Launch) (Z : State) (a0 : Array Value) (hw : ∀ d ∈ tables_1, d.before a0 Z = true) (ws : List Jvm.Cond) (z_CS : Int32) (v_FMT : Value) (x_ : Addr) (ba_ : Addr) (kb_ : ClassId) (cd_ : Int32) (z_ : Int32) (vs_ : List Value) (c0_ : Int32) (c1_ : Int32) (h0 : Heap) (n0 : Nat) (SB : own_Start Z z_CS v_FMT) (O0 : Old Z n0 h0) (pr0 : Exa Z h0 x_ "java/lang/String") (pr1 : Fld Z h0 x_ "java/lang/String" "coder" "B" (.int cd_)) (pr2 : Fld Z h0 x_ "java/lang/String" "value" "[B" (.ref ba_)) (pr3 : Arv Z h0 ba_ kb_ .byte z_ vs_ (.int 0)) (pr4 : own_enc2 c0_ c1_ cd_ z_ vs_) (pr5 : own_c16 c1_) :
    oMet l Z yM21 jdk_42_method_56_code 2 (some .char) ws ({ frames := 4, cells := 0, slots := 0, locals := 53 } : Room) 0 0 #[(.ref x_), (.int (1 : Int32))] h0 (own_Q_ecat_2_1 Z z_CS v_FMT x_ ba_ kb_ cd_ z_ vs_ c0_ c1_ h0 n0) := by
  refine oenter own_pn2 #[.val (.ref x_), .val (.int (1 : Int32))] (fun m => by first | (simp [entryFrame, mkF, argsToLocals, Value.category]; done) | rfl) ?_
  intro p e s m below meth c s₁ X0 hx hZ hby hml hret hown0 hnm hlk e0
  have hown : s.vm.findClass "java/lang/String" = some m.cls := hown0
  have N0 := Fr.nil n0
  obtain ⟨S_CS, H_CS, S__assertionsDisabled, S_HI_BYTE_SHIFT, S_LO_BYTE_SHIFT, S_FMT, R_FMT⟩ := (id SB)
  have w3 := hw _ (List.mem_of_getElem? (i := 3) rfl)
  have w21 := hw _ (List.mem_of_getElem? (i := 21) rfl)
  have w56 := hw _ (List.mem_of_getElem? (i := 56) rfl)
  have w69 := hw _ (List.mem_of_getElem? (i := 69) rfl)
  have w70 := hw _ (List.mem_of_getElem? (i := 70) rfl)
  have w71 := hw _ (List.mem_of_getElem? (i := 71) rfl)
  have w72 := hw _ (List.mem_of_getElem? (i := 72) rfl)
  have w73 := hw _ (List.mem_of_getElem? (i := 73) rfl)
  have w74 := hw _ (List.mem_of_getElem? (i := 74) rfl)
  have w75 := hw _ (List.mem_of_getElem? (i := 75) rfl)
  have w76 := hw _ (List.mem_of_getElem? (i := 76) rfl)
  have w77 := hw _ (List.mem_of_getElem? (i := 77) rfl)
  have w105 := hw _ (List.mem_of_getElem? (i := 105) rfl)
  have w106 := hw _ (List.mem_of_getElem? (i := 106) rfl)
  have w107 := hw _ (List.mem_of_getElem? (i := 107) rfl)
  rcases pr4 with ⟨hs0, hs1, rfl, rfl, rfl⟩ | ⟨rfl, rfl, rfl⟩
  · refine o_aloadN X0 hx (hb hby d22_0) rfl rfl ?_
    obtain ⟨cq1, kq1, q1a, q1b, q1c⟩ := isOf hZ e0 pr0
    obtain ⟨_, _, ⟨T1, L1, kc1, n1⟩, -, X1, ⟨Lc1, hQ1, l1, y1, z1⟩, st1⟩ := X0.virtualBack hx (y := yM14) (z := yM14) hown (mvT hZ w69) (mvT hZ w70) (notFace_of_selects (args := #[]) (mvT hZ w72)) (mvT hZ w72) (mvT hZ w71) (by decide) (backOf (W := 0) (rm_isl1_0 l Z a0 hw [] z_CS v_FMT x_ h0 n0 SB O0 pr1) hZ w73 w3 (by decide) (by decide)) q1a q1c (g := (mkF m 1 #[.val (.ref x_), .val (.int (1 : Int32))] [(.ref x_)])) rfl (by rw [hml]; rfl) (Steps.refl _) (argsL := []) (rest := []) (lenOf own_pd14 rfl) rfl (by show 2 * 0 + _ ≤ _; exact Nat.le_of_eq rfl) (hb hby d22_1) (fun _ _ => ⟨rfl, e0, (by decide : 0 + 0 ≤ _), (by decide : 0 + 0 ≤ _)⟩)
    dsimp only [Pt.U, Pt.locs, Pt.cells, Pt.slots] at X1 l1 y1 z1 st1 hQ1
    subst l1 y1 z1
    obtain ⟨rfl, Nq1, e1⟩ := hQ1
    have N1 := Fr.app N0 Nq1
    refine otr (S' := T1.setTop (mkF m 4 #[.val (.ref x_), .val (.int (1 : Int32))] [(.int (1 : Int32))])) st1 ?_
    refine o_ifNo X1 hx (hb hby d22_4) (feq (by decide : ¬ ((1 : Int32) = (0 : Int32)))).1 ?_
    refine o_aloadN X1 hx (hb hby d22_7) rfl rfl ?_
    obtain ⟨T2, X2, e2, st2⟩ := getF X1 hx hZ hown (host := "") (Or.inl w21) Via.refl e1 pr2 (g := (mkF m 8 #[.val (.ref x_), .val (.int (1 : Int32))] [(.ref x_)])) rfl rfl (hb hby d22_8)
    refine ogo (S' := T2.setTop (mkF m 11 #[.val (.ref x_), .val (.int (1 : Int32))] [(.ref ba_)])) st2 ?_
    refine o_iloadN X2 hx (hb hby d22_11) rfl ?_
    obtain ⟨_, _, ⟨T3, L3, kc3, n3⟩, -, X3, ⟨Lc3, hQ3, l3, y3, z3⟩, st3⟩ := Jvm.LawKit.callS X2 hx (y := yM17) hown (mvT hZ w74) (mvT hZ w75) (mvT hZ w76) (mvT hZ w77) (by decide) (backOf (W := 0) (rm_l1c_2_1 l Z a0 hw [] z_CS v_FMT ba_ kb_ c0_ c1_ h0 n0 SB O0 pr3 (own_c16n pr5) hs1) hZ w77 w76 (by decide) (by decide)) (g := (mkF m 12 #[.val (.ref x_), .val (.int (1 : Int32))] [(.int (1 : Int32)), (.ref ba_)])) rfl (by rw [hml]; rfl) (argsL := [(.ref ba_), (.int (1 : Int32))]) (rest := []) (lenOf own_pd5 rfl) rfl (by show 2 * 0 + _ ≤ _; exact Nat.le_of_eq rfl) (hb hby d22_12) (fun _ _ => ⟨rfl, e2, (by decide : 0 + 0 ≤ _), (by decide : 0 + 0 ≤ _)⟩)
    dsimp only [Pt.U, Pt.locs, Pt.cells, Pt.slots] at X3 l3 y3 z3 st3 hQ3
    subst l3 y3 z3
    obtain ⟨rfl, Nq3, e3⟩ := hQ3
    have N3 := Fr.app N1 Nq3
    refine ogo (S' := T3.setTop (mkF m 15 #[.val (.ref x_), .val (.int (1 : Int32))] [(.int c1_)])) st3 ?_
    refine oend X3 hlk (v := some (.int c1_)) (fun h => by rw [hret] at h; cases h) (fun fs hr => retN X3 hx (t := .char) hret (by simp) (hb hby d22_15) (by rw [(own_nar16 pr5)]; exact hr)) (by decide) (by decide) ?_
    show own_Q_ecat_2_1 Z _ _ _ _ _ _ _ _ _ _ h0 n0 _ T3.heap _
    rw [e3]
    exact ⟨rfl, N3, rfl⟩
  · refine o_aloadN X0 hx (hb hby d22_0) rfl rfl ?_
    obtain ⟨cq4, kq4, q4a, q4b, q4c⟩ := isOf hZ e0 pr0
    obtain ⟨_, _, ⟨T4, L4, kc4, n4⟩, -, X4, ⟨Lc4, hQ4, l4, y4, z4⟩, st4⟩ := X0.virtualBack hx (y := yM14) (z := yM14) hown (mvT hZ w69) (mvT hZ w70) (notFace_of_selects (args := #[]) (mvT hZ w72)) (mvT hZ w72) (mvT hZ w71) (by decide) (backOf (W := 0) (rm_isl1_1 l Z a0 hw [] z_CS v_FMT x_ h0 n0 SB O0 pr1) hZ w73 w3 (by decide) (by decide)) q4a q4c (g := (mkF m 1 #[.val (.ref x_), .val (.int (1 : Int32))] [(.ref x_)])) rfl (by rw [hml]; rfl) (Steps.refl _) (argsL := []) (rest := []) (lenOf own_pd14 rfl) rfl (by show 2 * 0 + _ ≤ _; exact Nat.le_of_eq rfl) (hb hby d22_1) (fun _ _ => ⟨rfl, e0, (by decide : 0 + 0 ≤ _), (by decide : 0 + 0 ≤ _)⟩)
    dsimp only [Pt.U, Pt.locs, Pt.cells, Pt.slots] at X4 l4 y4 z4 st4 hQ4
    subst l4 y4 z4
    obtain ⟨rfl, Nq4, e4⟩ := hQ4
    have N4 := Fr.app N0 Nq4
    refine otr (S' := T4.setTop (mkF m 4 #[.val (.ref x_), .val (.int (1 : Int32))] [(.int (0 : Int32))])) st4 ?_
    refine o_ifYes X4 hx 16 (hb hby d22_4) (teq (by decide : (0 : Int32) = (0 : Int32))).1 (by decide) (by decide) ?_
    refine o_aloadN X4 hx (hb hby d22_16) rfl rfl ?_
    obtain ⟨T5, X5, e5, st5⟩ := getF X4 hx hZ hown (host := "") (Or.inl w21) Via.refl e4 pr2 (g := (mkF m 17 #[.val (.ref x_), .val (.int (1 : Int32))] [(.ref x_)])) rfl rfl (hb hby d22_17)
    refine ogo (S' := T5.setTop (mkF m 20 #[.val (.ref x_), .val (.int (1 : Int32))] [(.ref ba_)])) st5 ?_
    refine o_iloadN X5 hx (hb hby d22_20) rfl ?_
    obtain ⟨_, _, ⟨T6, L6, kc6, n6⟩, -, X6, ⟨Lc6, hQ6, l6, y6, z6⟩, st6⟩ := Jvm.LawKit.callS X5 hx (y := yM20) hown (mvT hZ w105) (mvT hZ w106) (mvT hZ w56) (mvT hZ w107) (by decide) (backOf (W := 0) (rm_u16cat_2_1 l Z a0 hw [] z_CS v_FMT ba_ kb_ c0_ c1_ h0 n0 SB O0 pr3 pr5) hZ w107 w56 (by decide) (by decide)) (g := (mkF m 21 #[.val (.ref x_), .val (.int (1 : Int32))] [(.int (1 : Int32)), (.ref ba_)])) rfl (by rw [hml]; rfl) (argsL := [(.ref ba_), (.int (1 : Int32))]) (rest := []) (lenOf own_pd5 rfl) rfl (by show 2 * 0 + _ ≤ _; exact Nat.le_of_eq rfl) (hb hby d22_21) (fun _ _ => ⟨rfl, e5, (by decide : 0 + 0 ≤ _), (by decide : 0 + 0 ≤ _)⟩)
    dsimp only [Pt.U, Pt.locs, Pt.cells, Pt.slots] at X6 l6 y6 z6 st6 hQ6
    subst l6 y6 z6
    obtain ⟨rfl, Nq6, e6⟩ := hQ6
    have N6 := Fr.app N4 Nq6
    refine ogo (S' := T6.setTop (mkF m 24 #[.val (.ref x_), .val (.int (1 : Int32))] [(.int c1_)])) st6 ?_
    refine oend X6 hlk (v := some (.int c1_)) (fun h => by rw [hret] at h; cases h) (fun fs hr => retN X6 hx (t := .char) hret (by simp) (hb hby d22_24) (by rw [(own_nar16 pr5)]; exact hr)) (by decide) (by decide) ?_
    show own_Q_ecat_2_1 Z _ _ _ _ _ _ _ _ _ _ h0 n0 _ T6.heap _
    rw [e6]
    exact ⟨rfl, N6, rfl⟩
def own_Q_skipT_2_1 (Z : State) (z_CS : Int32) (v_FMT : Value) (t_ : Addr) (x_ : Addr) (ba_ : Addr) (kb_ : ClassId) (cd_ : Int32) (z_ : Int32) (vs_ : List Value) (c0_ : Int32) (c1_ : Int32) (u_ : Int32) (h0 : Heap) (n0 : Nat) (v : Option Value) (h : Heap) (L : List Loc) : Prop := (v = some (.int (1 : Int32))) ∧ (Fr n0 L) ∧ (Keep h0 h [t_]) ∧ (Exa Z h t_ "com/example/rowfold/rowfold/Literal") ∧ (Fld Z h t_ "com/example/rowfold/rowfold/Literal" "text" "Ljava/lang/String;" (.ref x_)) ∧ (Fld Z h t_ "com/example/rowfold/rowfold/Literal" "at" "I" (.int (2 : Int32)))
set_option maxRecDepth 65536 in
set_option maxHeartbeats 40000000 in
theorem rm_skipT_2_1 (l : Launch) (Z : State) (a0 : Array Value) (hw : ∀ d ∈ tables_1, d.before a0 Z = true) (ws : List Jvm.Cond) (z_CS : Int32) (v_FMT : Value) (t_ : Addr) (x_ : Addr) (ba_ : Addr) (kb_ : ClassId) (cd_ : Int32) (z_ : Int32) (vs_ : List Value) (c0_ : Int32) (c1_ : Int32) (u_ : Int32) (h0 : Heap) (n0 : Nat) (SB : own_Start Z z_CS v_FMT) (O0 : Old Z n0 h0) (pr0 : Exa Z h0 t_ "com/example/rowfold/rowfold/Literal") (pr1 : Fld Z h0 t_ "com/example/rowfold/rowfold/Literal" "text" "Ljava/lang/String;" (.ref x_)) (pr2 : Fld Z h0 t_ "com/example/rowfold/rowfold/Literal" "at" "I" (.int (1 : Int32))) (pr3 : Exa Z h0 x_ "java/lang/String") (pr4 : Fld Z h0 x_ "java/lang/String" "coder" "B" (.int cd_)) (pr5 : Fld Z h0 x_ "java/lang/String" "value" "[B" (.ref ba_)) (pr6 : Arv Z h0 ba_ kb_ .byte z_ vs_ (.int 0)) (pr7 : own_enc2 c0_ c1_ cd_ z_ vs_) (pr8 : own_c16 c1_) (pr9 : c1_ = u_) (pr10 : n0 ≤ t_) :
    oMet l Z yM13 prog_8_method_4_code 3 (some .boolean) ws ({ frames := 5, cells := 0, slots := 0, locals := 66 } : Room) 0 0 #[(.ref t_), (.int u_)] h0 (own_Q_skipT_2_1 Z z_CS v_FMT t_ x_ ba_ kb_ cd_ z_ vs_ c0_ c1_ u_ h0 n0) := by
  refine oenter own_pn0 #[.val (.ref t_), .val (.int u_), .unset] (fun m => by first | (simp [entryFrame, mkF, argsToLocals, Value.category]; done) | rfl) ?_
  intro p e s m below meth c s₁ X0 hx hZ hby hml hret hown0 hnm hlk e0
  have hown : s.vm.findClass "com/example/rowfold/rowfold/Literal" = some m.cls := hown0
  have N0 := Fr.nil n0
  obtain ⟨S_CS, H_CS, S__assertionsDisabled, S_HI_BYTE_SHIFT, S_LO_BYTE_SHIFT, S_FMT, R_FMT⟩ := (id SB)
  have w3 := hw _ (List.mem_of_getElem? (i := 3) rfl)
  have w24 := hw _ (List.mem_of_getElem? (i := 24) rfl)
  have w30 := hw _ (List.mem_of_getElem? (i := 30) rfl)
  have w31 := hw _ (List.mem_of_getElem? (i := 31) rfl)
  have w37 := hw _ (List.mem_of_getElem? (i := 37) rfl)
  have w38 := hw _ (List.mem_of_getElem? (i := 38) rfl)
  have w39 := hw _ (List.mem_of_getElem? (i := 39) rfl)
  have w40 := hw _ (List.mem_of_getElem? (i := 40) rfl)
  have w41 := hw _ (List.mem_of_getElem? (i := 41) rfl)
  have w42 := hw _ (List.mem_of_getElem? (i := 42) rfl)
  have w43 := hw _ (List.mem_of_getElem? (i := 43) rfl)
  have w64 := hw _ (List.mem_of_getElem? (i := 64) rfl)
  have w65 := hw _ (List.mem_of_getElem? (i := 65) rfl)
  have w66 := hw _ (List.mem_of_getElem? (i := 66) rfl)
  have w67 := hw _ (List.mem_of_getElem? (i := 67) rfl)
  have w68 := hw _ (List.mem_of_getElem? (i := 68) rfl)
  refine o_aloadN X0 hx (hb hby d14_0) rfl rfl ?_
  obtain ⟨T1, X1, e1, st1⟩ := getF X0 hx hZ hown (host := "") (Or.inl w37) Via.refl e0 pr2 (g := (mkF m 1 #[.val (.ref t_), .val (.int u_), .unset] [(.ref t_)])) rfl rfl (hb hby d14_1)
  refine ogo (S' := T1.setTop (mkF m 4 #[.val (.ref t_), .val (.int u_), .unset] [(.int (1 : Int32))])) st1 ?_
  refine o_aloadN X1 hx (hb hby d14_4) rfl rfl ?_
  obtain ⟨T2, X2, e2, st2⟩ := getF X1 hx hZ hown (host := "") (Or.inl w30) Via.refl e1 pr1 (g := (mkF m 5 #[.val (.ref t_), .val (.int u_), .unset] [(.ref t_), (.int (1 : Int32))])) rfl rfl (hb hby d14_5)
  refine ogo (S' := T2.setTop (mkF m 8 #[.val (.ref t_), .val (.int u_), .unset] [(.ref x_), (.int (1 : Int32))])) st2 ?_
  obtain ⟨cq3, kq3, q3a, q3b, q3c⟩ := isOf hZ e2 pr3
  obtain ⟨_, _, ⟨T3, L3, kc3, n3⟩, -, X3, ⟨Lc3, hQ3, l3, y3, z3⟩, st3⟩ := X2.virtualBack hx (y := yM12) (z := yM12) hown (mvT hZ w39) (mvT hZ w40) (notFace_of_selects (args := #[]) (mvT hZ w42)) (mvT hZ w42) (mvT hZ w41) (by decide) (backOf (W := 1) (rm_elen_2 l Z a0 hw [] z_CS v_FMT x_ ba_ kb_ cd_ z_ vs_ c0_ c1_ h0 n0 SB O0 pr3 pr4 pr5 pr6 pr7) hZ w43 w3 (by decide) (by decide)) q3a q3c (g := (mkF m 8 #[.val (.ref t_), .val (.int u_), .unset] [(.ref x_), (.int (1 : Int32))])) rfl (by rw [hml]; rfl) (Steps.refl _) (argsL := []) (rest := [(.int (1 : Int32))]) (lenOf own_pd9 rfl) rfl (by show 2 * 0 + _ ≤ _; exact Nat.le_of_eq rfl) (hb hby d14_8) (fun _ _ => ⟨rfl, e2, (by decide : 0 + 0 ≤ _), (by decide : 0 + 0 ≤ _)⟩)
  dsimp only [Pt.U, Pt.locs, Pt.cells, Pt.slots] at X3 l3 y3 z3 st3 hQ3
  subst l3 y3 z3
  obtain ⟨rfl, Nq3, e3⟩ := hQ3
  have N3 := Fr.app N0 Nq3
  refine otr (S' := T3.setTop (mkF m 11 #[.val (.ref t_), .val (.int u_), .unset] [(.int (2 : Int32)), (.int (1 : Int32))])) st3 ?_
  refine o_icmpNo X3 hx (hb hby d14_11) (tlt (by decide : (1 : Int32) < (2 : Int32))).2.1 ?_
  refine o_aloadN X3 hx (hb hby d14_14) rfl rfl ?_
  obtain ⟨T4, X4, e4, st4⟩ := getF X3 hx hZ hown (host := "") (Or.inl w30) Via.refl e3 pr1 (g := (mkF m 15 #[.val (.ref t_), .val (.int u_), .unset] [(.ref t_)])) rfl rfl (hb hby d14_15)
  refine ogo (S' := T4.setTop (mkF m 18 #[.val (.ref t_), .val (.int u_), .unset] [(.ref x_)])) st4 ?_
  refine o_aloadN X4 hx (hb hby d14_18) rfl rfl ?_
  obtain ⟨T5, X5, e5, st5⟩ := getF X4 hx hZ hown (host := "") (Or.inl w37) Via.refl e4 pr2 (g := (mkF m 19 #[.val (.ref t_), .val (.int u_), .unset] [(.ref t_), (.ref x_)])) rfl rfl (hb hby d14_19)
  refine ogo (S' := T5.setTop (mkF m 22 #[.val (.ref t_), .val (.int u_), .unset] [(.int (1 : Int32)), (.ref x_)])) st5 ?_
  obtain ⟨cq6, kq6, q6a, q6b, q6c⟩ := isOf hZ e5 pr3
  obtain ⟨_, _, ⟨T6, L6, kc6, n6⟩, -, X6, ⟨Lc6, hQ6, l6, y6, z6⟩, st6⟩ := X5.virtualBack hx (y := yM21) (z := yM21) hown (mvT hZ w64) (mvT hZ w65) (notFace_of_selects (args := #[]) (mvT hZ w67)) (mvT hZ w67) (mvT hZ w66) (by decide) (backOf (W := 0) (rm_ecat_2_1 l Z a0 hw [] z_CS v_FMT x_ ba_ kb_ cd_ z_ vs_ c0_ c1_ h0 n0 SB O0 pr3 pr4 pr5 pr6 pr7 pr8) hZ w68 w3 (by decide) (by decide)) q6a q6c (g := (mkF m 22 #[.val (.ref t_), .val (.int u_), .unset] [(.int (1 : Int32)), (.ref x_)])) rfl (by rw [hml]; rfl) (Steps.refl _) (argsL := [(.int (1 : Int32))]) (rest := []) (lenOf own_pd15 rfl) rfl (by show 2 * 0 + _ ≤ _; exact Nat.le_of_eq rfl) (hb hby d14_22) (fun _ _ => ⟨rfl, e5, (by decide : 0 + 0 ≤ _), (by decide : 0 + 0 ≤ _)⟩)
  dsimp only [Pt.U, Pt.locs, Pt.cells, Pt.slots] at X6 l6 y6 z6 st6 hQ6
  subst l6 y6 z6
  obtain ⟨rfl, Nq6, e6⟩ := hQ6
  have N6 := Fr.app N3 Nq6
  refine otr (S' := T6.setTop (mkF m 25 #[.val (.ref t_), .val (.int u_), .unset] [(.int c1_)])) st6 ?_
  refine o_iloadN X6 hx (hb hby d14_25) rfl ?_
  refine o_icmpNo X6 hx (hb hby d14_26) (teq pr9).2 ?_
  refine o_iconst X6 hx (1 : Int32) (hb hby d14_29) rfl ?_
  refine o_goto X6 hx 34 (hb hby d14_30) (by decide) (by decide) ?_
  refine o_istoreN X6 hx (l' := #[.val (.ref t_), .val (.int u_), .val (.int (1 : Int32))]) (hb hby d14_34) rfl ?_
  refine o_iloadN X6 hx (hb hby d14_35) rfl ?_
  refine o_ifNo X6 hx (hb hby d14_36) (feq (by decide : ¬ ((1 : Int32) = (0 : Int32)))).1 ?_
  refine o_aloadN X6 hx (hb hby d14_39) rfl rfl ?_
  refine o_dup X6 hx (hb hby d14_40) rfl ?_
  obtain ⟨T7, X7, e7, st7⟩ := getF X6 hx hZ hown (host := "") (Or.inl w37) Via.refl e6 pr2 (g := (mkF m 41 #[.val (.ref t_), .val (.int u_), .val (.int (1 : Int32))] [(.ref t_), (.ref t_)])) rfl rfl (hb hby d14_41)
  refine ogo (S' := T7.setTop (mkF m 44 #[.val (.ref t_), .val (.int u_), .val (.int (1 : Int32))] [(.int (1 : Int32)), (.ref t_)])) st7 ?_
  refine o_iconst X7 hx (1 : Int32) (hb hby d14_44) rfl ?_
  refine o_iadd X7 hx (hb hby d14_45) ?_
  obtain ⟨T8, _, X8, rfl, W8, st8⟩ := putF X7 hx hZ hown (host := "") (Or.inl w37) Via.refl e7 pr2 pr0 (Or.inl w38) w24 (ty := .int) (by decide) rfl rfl (g := (mkF m 46 #[.val (.ref t_), .val (.int u_), .val (.int (1 : Int32))] [(.int (2 : Int32)), (.ref t_)])) rfl rfl (hb hby d14_46)
  have N8 := Fr.snoc X8 N6 pr10
  have F8 := Fld.same W8 pr2
  refine ogo (S' := T8.setTop (mkF m 49 #[.val (.ref t_), .val (.int u_), .val (.int (1 : Int32))] [])) st8 ?_
  refine o_iloadN X8 hx (hb hby d14_49) rfl ?_
  have c9 := (Fld.other W8 pr1 (Or.inr (slot_ne (Or.inr w31) (Or.inl w38) (by decide) (t := (.object "java/lang/String")) (t' := .int) (by decide) (by decide))))
  refine oend X8 hlk (v := some (.int (1 : Int32))) (fun h => by rw [hret] at h; cases h) (fun fs hr => retN X8 hx (t := .boolean) hret (by simp) (hb hby d14_50) hr) (by decide) (by decide) ?_
  show own_Q_skipT_2_1 Z _ _ _ _ _ _ _ _ _ _ _ _ h0 n0 _ T8.heap _
  exact ⟨rfl, N8, ((Keep.refl h0 [t_]).wr W8 (Or.inl (List.mem_of_getElem? (i := 0) rfl))), (Exa.wr W8 pr0), c9, F8⟩
def own_Q_skipF_2_1 (Z : State) (z_CS : Int32) (v_FMT : Value) (t_ : Addr) (x_ : Addr) (ba_ : Addr) (kb_ : ClassId) (cd_ : Int32) (z_ : Int32) (vs_ : List Value) (c0_ : Int32) (c1_ : Int32) (u_ : Int32) (h0 : Heap) (n0 : Nat) (v : Option Value) (h : Heap) (L : List Loc) : Prop := (v = some (.int (0 : Int32))) ∧ (Fr n0 L) ∧ (h = h0)
set_option maxRecDepth 65536 in
set_option maxHeartbeats 40000000 in
theorem rm_skipF_2_1 (l : Launch) (Z : State) (a0 : Array Value) (hw : ∀ d ∈ tables_1, d.before a0 Z = true) (ws : List Jvm.Cond) (z_CS : Int32) (v_FMT : Value) (t_ : Addr) (x_ : Addr) (ba_ : Addr) (kb_ : ClassId) (cd_ : Int32) (z_ : Int32) (vs_ : List Value) (c0_ : Int32) (c1_ : Int32) (u_ : Int32) (h0 : Heap) (n0 : Nat) (SB : own_Start Z z_CS v_FMT) (O0 : Old Z n0 h0) (pr0 : Exa Z h0 t_ "com/example/rowfold/rowfold/Literal") (pr1 : Fld Z h0 t_ "com/example/rowfold/rowfold/Literal" "text" "Ljava/lang/String;" (.ref x_)) (pr2 : Fld Z h0 t_ "com/example/rowfold/rowfold/Literal" "at" "I" (.int (1 : Int32))) (pr3 : Exa Z h0 x_ "java/lang/String") (pr4 : Fld Z h0 x_ "java/lang/String" "coder" "B" (.int cd_)) (pr5 : Fld Z h0 x_ "java/lang/String" "value" "[B" (.ref ba_)) (pr6 : Arv Z h0 ba_ kb_ .byte z_ vs_ (.int 0)) (pr7 : own_enc2 c0_ c1_ cd_ z_ vs_) (pr8 : own_c16 c1_) (pr9 : ¬ (c1_ = u_)) :
    oMet l Z yM13 prog_8_method_4_code 3 (some .boolean) ws ({ frames := 5, cells := 0, slots := 0, locals := 66 } : Room) 0 0 #[(.ref t_), (.int u_)] h0 (own_Q_skipF_2_1 Z z_CS v_FMT t_ x_ ba_ kb_ cd_ z_ vs_ c0_ c1_ u_ h0 n0) := by
  refine oenter own_pn0 #[.val (.ref t_), .val (.int u_), .unset] (fun m => by first | (simp [entryFrame, mkF, argsToLocals, Value.category]; done) | rfl) ?_
  intro p e s m below meth c s₁ X0 hx hZ hby hml hret hown0 hnm hlk e0
  have hown : s.vm.findClass "com/example/rowfold/rowfold/Literal" = some m.cls := hown0
  have N0 := Fr.nil n0
  obtain ⟨S_CS, H_CS, S__assertionsDisabled, S_HI_BYTE_SHIFT, S_LO_BYTE_SHIFT, S_FMT, R_FMT⟩ := (id SB)
  have w3 := hw _ (List.mem_of_getElem? (i := 3) rfl)
  have w30 := hw _ (List.mem_of_getElem? (i := 30) rfl)
  have w37 := hw _ (List.mem_of_getElem? (i := 37) rfl)
  have w39 := hw _ (List.mem_of_getElem? (i := 39) rfl)
  have w40 := hw _ (List.mem_of_getElem? (i := 40) rfl)
  have w41 := hw _ (List.mem_of_getElem? (i := 41) rfl)
  have w42 := hw _ (List.mem_of_getElem? (i := 42) rfl)
  have w43 := hw _ (List.mem_of_getElem? (i := 43) rfl)
  have w64 := hw _ (List.mem_of_getElem? (i := 64) rfl)
  have w65 := hw _ (List.mem_of_getElem? (i := 65) rfl)
  have w66 := hw _ (List.mem_of_getElem? (i := 66) rfl)
  have w67 := hw _ (List.mem_of_getElem? (i := 67) rfl)
  have w68 := hw _ (List.mem_of_getElem? (i := 68) rfl)
  refine o_aloadN X0 hx (hb hby d14_0) rfl rfl ?_
  obtain ⟨T1, X1, e1, st1⟩ := getF X0 hx hZ hown (host := "") (Or.inl w37) Via.refl e0 pr2 (g := (mkF m 1 #[.val (.ref t_), .val (.int u_), .unset] [(.ref t_)])) rfl rfl (hb hby d14_1)
  refine ogo (S' := T1.setTop (mkF m 4 #[.val (.ref t_), .val (.int u_), .unset] [(.int (1 : Int32))])) st1 ?_
  refine o_aloadN X1 hx (hb hby d14_4) rfl rfl ?_
  obtain ⟨T2, X2, e2, st2⟩ := getF X1 hx hZ hown (host := "") (Or.inl w30) Via.refl e1 pr1 (g := (mkF m 5 #[.val (.ref t_), .val (.int u_), .unset] [(.ref t_), (.int (1 : Int32))])) rfl rfl (hb hby d14_5)
  refine ogo (S' := T2.setTop (mkF m 8 #[.val (.ref t_), .val (.int u_), .unset] [(.ref x_), (.int (1 : Int32))])) st2 ?_
  obtain ⟨cq3, kq3, q3a, q3b, q3c⟩ := isOf hZ e2 pr3
  obtain ⟨_, _, ⟨T3, L3, kc3, n3⟩, -, X3, ⟨Lc3, hQ3, l3, y3, z3⟩, st3⟩ := X2.virtualBack hx (y := yM12) (z := yM12) hown (mvT hZ w39) (mvT hZ w40) (notFace_of_selects (args := #[]) (mvT hZ w42)) (mvT hZ w42) (mvT hZ w41) (by decide) (backOf (W := 1) (rm_elen_2 l Z a0 hw [] z_CS v_FMT x_ ba_ kb_ cd_ z_ vs_ c0_ c1_ h0 n0 SB O0 pr3 pr4 pr5 pr6 pr7) hZ w43 w3 (by decide) (by decide)) q3a q3c (g := (mkF m 8 #[.val (.ref t_), .val (.int u_), .unset] [(.ref x_), (.int (1 : Int32))])) rfl (by rw [hml]; rfl) (Steps.refl _) (argsL := []) (rest := [(.int (1 : Int32))]) (lenOf own_pd9 rfl) rfl (by show 2 * 0 + _ ≤ _; exact Nat.le_of_eq rfl) (hb hby d14_8) (fun _ _ => ⟨rfl, e2, (by decide : 0 + 0 ≤ _), (by decide : 0 + 0 ≤ _)⟩)
  dsimp only [Pt.U, Pt.locs, Pt.cells, Pt.slots] at X3 l3 y3 z3 st3 hQ3
  subst l3 y3 z3
  obtain ⟨rfl, Nq3, e3⟩ := hQ3
  have N3 := Fr.app N0 Nq3
  refine otr (S' := T3.setTop (mkF m 11 #[.val (.ref t_), .val (.int u_), .unset] [(.int (2 : Int32)), (.int (1 : Int32))])) st3 ?_
  refine o_icmpNo X3 hx (hb hby d14_11) (tlt (by decide : (1 : Int32) < (2 : Int32))).2.1 ?_
  refine o_aloadN X3 hx (hb hby d14_14) rfl rfl ?_
  obtain ⟨T4, X4, e4, st4⟩ := getF X3 hx hZ hown (host := "") (Or.inl w30) Via.refl e3 pr1 (g := (mkF m 15 #[.val (.ref t_), .val (.int u_), .unset] [(.ref t_)])) rfl rfl (hb hby d14_15)
  refine ogo (S' := T4.setTop (mkF m 18 #[.val (.ref t_), .val (.int u_), .unset] [(.ref x_)])) st4 ?_
  refine o_aloadN X4 hx (hb hby d14_18) rfl rfl ?_
  obtain ⟨T5, X5, e5, st5⟩ := getF X4 hx hZ hown (host := "") (Or.inl w37) Via.refl e4 pr2 (g := (mkF m 19 #[.val (.ref t_), .val (.int u_), .unset] [(.ref t_), (.ref x_)])) rfl rfl (hb hby d14_19)
  refine ogo (S' := T5.setTop (mkF m 22 #[.val (.ref t_), .val (.int u_), .unset] [(.int (1 : Int32)), (.ref x_)])) st5 ?_
  obtain ⟨cq6, kq6, q6a, q6b, q6c⟩ := isOf hZ e5 pr3
  obtain ⟨_, _, ⟨T6, L6, kc6, n6⟩, -, X6, ⟨Lc6, hQ6, l6, y6, z6⟩, st6⟩ := X5.virtualBack hx (y := yM21) (z := yM21) hown (mvT hZ w64) (mvT hZ w65) (notFace_of_selects (args := #[]) (mvT hZ w67)) (mvT hZ w67) (mvT hZ w66) (by decide) (backOf (W := 0) (rm_ecat_2_1 l Z a0 hw [] z_CS v_FMT x_ ba_ kb_ cd_ z_ vs_ c0_ c1_ h0 n0 SB O0 pr3 pr4 pr5 pr6 pr7 pr8) hZ w68 w3 (by decide) (by decide)) q6a q6c (g := (mkF m 22 #[.val (.ref t_), .val (.int u_), .unset] [(.int (1 : Int32)), (.ref x_)])) rfl (by rw [hml]; rfl) (Steps.refl _) (argsL := [(.int (1 : Int32))]) (rest := []) (lenOf own_pd15 rfl) rfl (by show 2 * 0 + _ ≤ _; exact Nat.le_of_eq rfl) (hb hby d14_22) (fun _ _ => ⟨rfl, e5, (by decide : 0 + 0 ≤ _), (by decide : 0 + 0 ≤ _)⟩)
  dsimp only [Pt.U, Pt.locs, Pt.cells, Pt.slots] at X6 l6 y6 z6 st6 hQ6
  subst l6 y6 z6
  obtain ⟨rfl, Nq6, e6⟩ := hQ6
  have N6 := Fr.app N3 Nq6
  refine otr (S' := T6.setTop (mkF m 25 #[.val (.ref t_), .val (.int u_), .unset] [(.int c1_)])) st6 ?_
  refine o_iloadN X6 hx (hb hby d14_25) rfl ?_
  refine o_icmpYes X6 hx 33 (hb hby d14_26) (feq pr9).2 (by decide) (by decide) ?_
  refine o_iconst X6 hx (0 : Int32) (hb hby d14_33) rfl ?_
  refine o_istoreN X6 hx (l' := #[.val (.ref t_), .val (.int u_), .val (.int (0 : Int32))]) (hb hby d14_34) rfl ?_
  refine o_iloadN X6 hx (hb hby d14_35) rfl ?_
  refine o_ifYes X6 hx 49 (hb hby d14_36) (teq (by decide : (0 : Int32) = (0 : Int32))).1 (by decide) (by decide) ?_
  refine o_iloadN X6 hx (hb hby d14_49) rfl ?_
  refine oend X6 hlk (v := some (.int (0 : Int32))) (fun h => by rw [hret] at h; cases h) (fun fs hr => retN X6 hx (t := .boolean) hret (by simp) (hb hby d14_50) hr) (by decide) (by decide) ?_
  show own_Q_skipF_2_1 Z _ _ _ _ _ _ _ _ _ _ _ _ h0 n0 _ T6.heap _
  rw [e6]
  exact ⟨rfl, N6, rfl⟩
theorem d23_0 : decode method_2_code 0 = .ok (.iload_n 0, 1) := by decide +kernel
theorem d23_1 : decode method_2_code 1 = .ok (.iload_n 1, 1) := by decide +kernel
theorem d23_2 : decode method_2_code 2 = .ok (.if_icmp .lt 5, 3) := by decide +kernel
theorem d23_5 : decode method_2_code 5 = .ok (.iconst 0, 1) := by decide +kernel
theorem d23_6 : decode method_2_code 6 = .ok (.ireturn, 1) := by decide +kernel
theorem own_pn5 : plainName "com/example/rowfold/rowfold/LiteralSkipPinLaw" = true := by first | (simp [plainName, overriddenIn]; done) | decide +kernel
def own_Q_match_0_0_e (Z : State)  (u0_ : Int32) (u1_ : Int32) (w_ : Int32) (h0 : Heap) (n0 : Nat) (v : Option Value) (h : Heap) (L : List Loc) : Prop := (v = some (.int (0 : Int32))) ∧ (Fr n0 L) ∧ (h = h0)
abbrev yM22 : MethodName := ⟨"com/example/rowfold/rowfold/LiteralSkipPinLaw", "matches", "(IICCC)Z"⟩
set_option maxRecDepth 65536 in
set_option maxHeartbeats 40000000 in
theorem rm_match_0_0_e (l : Launch) (Z : State) (a0 : Array Value) (hw : ∀ d ∈ tables_1, d.before a0 Z = true) (ws : List Jvm.Cond)  (u0_ : Int32) (u1_ : Int32) (w_ : Int32) (h0 : Heap) (n0 : Nat) (O0 : Old Z n0 h0)  :
    oMet l Z yM22 method_2_code 6 (some .boolean) ws ({ frames := 0, cells := 0, slots := 0, locals := 0 } : Room) 0 0 #[(.int (0 : Int32)), (.int (0 : Int32)), (.int u0_), (.int u1_), (.int w_)] h0 (own_Q_match_0_0_e Z  u0_ u1_ w_ h0 n0) := by
  refine oenter own_pn5 #[.val (.int (0 : Int32)), .val (.int (0 : Int32)), .val (.int u0_), .val (.int u1_), .val (.int w_), .unset] (fun m => by first | (simp [entryFrame, mkF, argsToLocals, Value.category]; done) | rfl) ?_
  intro p e s m below meth c s₁ X0 hx hZ hby hml hret hown0 hnm hlk e0
  have hown : s.vm.findClass "com/example/rowfold/rowfold/LiteralSkipPinLaw" = some m.cls := hown0
  have N0 := Fr.nil n0
  refine o_iloadN X0 hx (hb hby d23_0) rfl ?_
  refine o_iloadN X0 hx (hb hby d23_1) rfl ?_
  refine o_icmpNo X0 hx (hb hby d23_2) (flt (by decide : ¬ ((0 : Int32) < (0 : Int32)))).1 ?_
  refine o_iconst X0 hx (0 : Int32) (hb hby d23_5) rfl ?_
  refine oend X0 hlk (v := some (.int (0 : Int32))) (fun h => by rw [hret] at h; cases h) (fun fs hr => retN X0 hx (t := .boolean) hret (by simp) (hb hby d23_6) hr) (by decide) (by decide) ?_
  show own_Q_match_0_0_e Z _ _ _ h0 n0 _ s₁.heap _
  rw [e0]
  exact ⟨rfl, N0, rfl⟩
theorem d23_7 : decode method_2_code 7 = .ok (.iload_n 0, 1) := by decide +kernel
theorem d23_8 : decode method_2_code 8 = .ok (.ifCond .ne 7, 3) := by decide +kernel
theorem d23_11 : decode method_2_code 11 = .ok (.iload_n 2, 1) := by decide +kernel
theorem d23_12 : decode method_2_code 12 = .ok (.goto 4, 3) := by decide +kernel
theorem d23_16 : decode method_2_code 16 = .ok (.istore 5, 2) := by decide +kernel
theorem d23_18 : decode method_2_code 18 = .ok (.iload 5, 2) := by decide +kernel
theorem d23_20 : decode method_2_code 20 = .ok (.iload 4, 2) := by decide +kernel
theorem d23_22 : decode method_2_code 22 = .ok (.if_icmp .ne 7, 3) := by decide +kernel
theorem d23_25 : decode method_2_code 25 = .ok (.iconst 1, 1) := by decide +kernel
theorem d23_26 : decode method_2_code 26 = .ok (.goto 4, 3) := by decide +kernel
theorem d23_30 : decode method_2_code 30 = .ok (.ireturn, 1) := by decide +kernel
def own_Q_match_0_1_t (Z : State)  (u0_ : Int32) (u1_ : Int32) (w_ : Int32) (h0 : Heap) (n0 : Nat) (v : Option Value) (h : Heap) (L : List Loc) : Prop := (v = some (.int (1 : Int32))) ∧ (Fr n0 L) ∧ (h = h0)
set_option maxRecDepth 65536 in
set_option maxHeartbeats 40000000 in
theorem rm_match_0_1_t (l : Launch) (Z : State) (a0 : Array Value) (hw : ∀ d ∈ tables_1, d.before a0 Z = true) (ws : List Jvm.Cond)  (u0_ : Int32) (u1_ : Int32) (w_ : Int32) (h0 : Heap) (n0 : Nat) (O0 : Old Z n0 h0) (pr0 : u0_ = w_) :
    oMet l Z yM22 method_2_code 6 (some .boolean) ws ({ frames := 0, cells := 0, slots := 0, locals := 0 } : Room) 0 0 #[(.int (0 : Int32)), (.int (1 : Int32)), (.int u0_), (.int u1_), (.int w_)] h0 (own_Q_match_0_1_t Z  u0_ u1_ w_ h0 n0) := by
  refine oenter own_pn5 #[.val (.int (0 : Int32)), .val (.int (1 : Int32)), .val (.int u0_), .val (.int u1_), .val (.int w_), .unset] (fun m => by first | (simp [entryFrame, mkF, argsToLocals, Value.category]; done) | rfl) ?_
  intro p e s m below meth c s₁ X0 hx hZ hby hml hret hown0 hnm hlk e0
  have hown : s.vm.findClass "com/example/rowfold/rowfold/LiteralSkipPinLaw" = some m.cls := hown0
  have N0 := Fr.nil n0
  refine o_iloadN X0 hx (hb hby d23_0) rfl ?_
  refine o_iloadN X0 hx (hb hby d23_1) rfl ?_
  refine o_icmpYes X0 hx 7 (hb hby d23_2) (tlt (by decide : (0 : Int32) < (1 : Int32))).1 (by decide) (by decide) ?_
  refine o_iloadN X0 hx (hb hby d23_7) rfl ?_
  refine o_ifNo X0 hx (hb hby d23_8) (teq (by decide : (0 : Int32) = (0 : Int32))).2 ?_
  refine o_iloadN X0 hx (hb hby d23_11) rfl ?_
  refine o_goto X0 hx 16 (hb hby d23_12) (by decide) (by decide) ?_
  refine o_istore X0 hx (l' := #[.val (.int (0 : Int32)), .val (.int (1 : Int32)), .val (.int u0_), .val (.int u1_), .val (.int w_), .val (.int u0_)]) (hb hby d23_16) rfl ?_
  refine o_iload X0 hx (hb hby d23_18) rfl ?_
  refine o_iload X0 hx (hb hby d23_20) rfl ?_
  refine o_icmpNo X0 hx (hb hby d23_22) (teq pr0).2 ?_
  refine o_iconst X0 hx (1 : Int32) (hb hby d23_25) rfl ?_
  refine o_goto X0 hx 30 (hb hby d23_26) (by decide) (by decide) ?_
  refine oend X0 hlk (v := some (.int (1 : Int32))) (fun h => by rw [hret] at h; cases h) (fun fs hr => retN X0 hx (t := .boolean) hret (by simp) (hb hby d23_30) hr) (by decide) (by decide) ?_
  show own_Q_match_0_1_t Z _ _ _ h0 n0 _ s₁.heap _
  rw [e0]
  exact ⟨rfl, N0, rfl⟩
theorem d23_29 : decode method_2_code 29 = .ok (.iconst 0, 1) := by decide +kernel
def own_Q_match_0_1_f (Z : State)  (u0_ : Int32) (u1_ : Int32) (w_ : Int32) (h0 : Heap) (n0 : Nat) (v : Option Value) (h : Heap) (L : List Loc) : Prop := (v = some (.int (0 : Int32))) ∧ (Fr n0 L) ∧ (h = h0)
set_option maxRecDepth 65536 in
set_option maxHeartbeats 40000000 in
theorem rm_match_0_1_f (l : Launch) (Z : State) (a0 : Array Value) (hw : ∀ d ∈ tables_1, d.before a0 Z = true) (ws : List Jvm.Cond)  (u0_ : Int32) (u1_ : Int32) (w_ : Int32) (h0 : Heap) (n0 : Nat) (O0 : Old Z n0 h0) (pr0 : ¬ (u0_ = w_)) :
    oMet l Z yM22 method_2_code 6 (some .boolean) ws ({ frames := 0, cells := 0, slots := 0, locals := 0 } : Room) 0 0 #[(.int (0 : Int32)), (.int (1 : Int32)), (.int u0_), (.int u1_), (.int w_)] h0 (own_Q_match_0_1_f Z  u0_ u1_ w_ h0 n0) := by
  refine oenter own_pn5 #[.val (.int (0 : Int32)), .val (.int (1 : Int32)), .val (.int u0_), .val (.int u1_), .val (.int w_), .unset] (fun m => by first | (simp [entryFrame, mkF, argsToLocals, Value.category]; done) | rfl) ?_
  intro p e s m below meth c s₁ X0 hx hZ hby hml hret hown0 hnm hlk e0
  have hown : s.vm.findClass "com/example/rowfold/rowfold/LiteralSkipPinLaw" = some m.cls := hown0
  have N0 := Fr.nil n0
  refine o_iloadN X0 hx (hb hby d23_0) rfl ?_
  refine o_iloadN X0 hx (hb hby d23_1) rfl ?_
  refine o_icmpYes X0 hx 7 (hb hby d23_2) (tlt (by decide : (0 : Int32) < (1 : Int32))).1 (by decide) (by decide) ?_
  refine o_iloadN X0 hx (hb hby d23_7) rfl ?_
  refine o_ifNo X0 hx (hb hby d23_8) (teq (by decide : (0 : Int32) = (0 : Int32))).2 ?_
  refine o_iloadN X0 hx (hb hby d23_11) rfl ?_
  refine o_goto X0 hx 16 (hb hby d23_12) (by decide) (by decide) ?_
  refine o_istore X0 hx (l' := #[.val (.int (0 : Int32)), .val (.int (1 : Int32)), .val (.int u0_), .val (.int u1_), .val (.int w_), .val (.int u0_)]) (hb hby d23_16) rfl ?_
  refine o_iload X0 hx (hb hby d23_18) rfl ?_
  refine o_iload X0 hx (hb hby d23_20) rfl ?_
  refine o_icmpYes X0 hx 29 (hb hby d23_22) (feq pr0).2 (by decide) (by decide) ?_
  refine o_iconst X0 hx (0 : Int32) (hb hby d23_29) rfl ?_
  refine oend X0 hlk (v := some (.int (0 : Int32))) (fun h => by rw [hret] at h; cases h) (fun fs hr => retN X0 hx (t := .boolean) hret (by simp) (hb hby d23_30) hr) (by decide) (by decide) ?_
  show own_Q_match_0_1_f Z _ _ _ h0 n0 _ s₁.heap _
  rw [e0]
  exact ⟨rfl, N0, rfl⟩
def own_Q_match_1_1_e (Z : State)  (u0_ : Int32) (u1_ : Int32) (w_ : Int32) (h0 : Heap) (n0 : Nat) (v : Option Value) (h : Heap) (L : List Loc) : Prop := (v = some (.int (0 : Int32))) ∧ (Fr n0 L) ∧ (h = h0)
set_option maxRecDepth 65536 in
set_option maxHeartbeats 40000000 in
theorem rm_match_1_1_e (l : Launch) (Z : State) (a0 : Array Value) (hw : ∀ d ∈ tables_1, d.before a0 Z = true) (ws : List Jvm.Cond)  (u0_ : Int32) (u1_ : Int32) (w_ : Int32) (h0 : Heap) (n0 : Nat) (O0 : Old Z n0 h0)  :
    oMet l Z yM22 method_2_code 6 (some .boolean) ws ({ frames := 0, cells := 0, slots := 0, locals := 0 } : Room) 0 0 #[(.int (1 : Int32)), (.int (1 : Int32)), (.int u0_), (.int u1_), (.int w_)] h0 (own_Q_match_1_1_e Z  u0_ u1_ w_ h0 n0) := by
  refine oenter own_pn5 #[.val (.int (1 : Int32)), .val (.int (1 : Int32)), .val (.int u0_), .val (.int u1_), .val (.int w_), .unset] (fun m => by first | (simp [entryFrame, mkF, argsToLocals, Value.category]; done) | rfl) ?_
  intro p e s m below meth c s₁ X0 hx hZ hby hml hret hown0 hnm hlk e0
  have hown : s.vm.findClass "com/example/rowfold/rowfold/LiteralSkipPinLaw" = some m.cls := hown0
  have N0 := Fr.nil n0
  refine o_iloadN X0 hx (hb hby d23_0) rfl ?_
  refine o_iloadN X0 hx (hb hby d23_1) rfl ?_
  refine o_icmpNo X0 hx (hb hby d23_2) (flt (by decide : ¬ ((1 : Int32) < (1 : Int32)))).1 ?_
  refine o_iconst X0 hx (0 : Int32) (hb hby d23_5) rfl ?_
  refine oend X0 hlk (v := some (.int (0 : Int32))) (fun h => by rw [hret] at h; cases h) (fun fs hr => retN X0 hx (t := .boolean) hret (by simp) (hb hby d23_6) hr) (by decide) (by decide) ?_
  show own_Q_match_1_1_e Z _ _ _ h0 n0 _ s₁.heap _
  rw [e0]
  exact ⟨rfl, N0, rfl⟩
def own_Q_match_0_2_t (Z : State)  (u0_ : Int32) (u1_ : Int32) (w_ : Int32) (h0 : Heap) (n0 : Nat) (v : Option Value) (h : Heap) (L : List Loc) : Prop := (v = some (.int (1 : Int32))) ∧ (Fr n0 L) ∧ (h = h0)
set_option maxRecDepth 65536 in
set_option maxHeartbeats 40000000 in
theorem rm_match_0_2_t (l : Launch) (Z : State) (a0 : Array Value) (hw : ∀ d ∈ tables_1, d.before a0 Z = true) (ws : List Jvm.Cond)  (u0_ : Int32) (u1_ : Int32) (w_ : Int32) (h0 : Heap) (n0 : Nat) (O0 : Old Z n0 h0) (pr0 : u0_ = w_) :
    oMet l Z yM22 method_2_code 6 (some .boolean) ws ({ frames := 0, cells := 0, slots := 0, locals := 0 } : Room) 0 0 #[(.int (0 : Int32)), (.int (2 : Int32)), (.int u0_), (.int u1_), (.int w_)] h0 (own_Q_match_0_2_t Z  u0_ u1_ w_ h0 n0) := by
  refine oenter own_pn5 #[.val (.int (0 : Int32)), .val (.int (2 : Int32)), .val (.int u0_), .val (.int u1_), .val (.int w_), .unset] (fun m => by first | (simp [entryFrame, mkF, argsToLocals, Value.category]; done) | rfl) ?_
  intro p e s m below meth c s₁ X0 hx hZ hby hml hret hown0 hnm hlk e0
  have hown : s.vm.findClass "com/example/rowfold/rowfold/LiteralSkipPinLaw" = some m.cls := hown0
  have N0 := Fr.nil n0
  refine o_iloadN X0 hx (hb hby d23_0) rfl ?_
  refine o_iloadN X0 hx (hb hby d23_1) rfl ?_
  refine o_icmpYes X0 hx 7 (hb hby d23_2) (tlt (by decide : (0 : Int32) < (2 : Int32))).1 (by decide) (by decide) ?_
  refine o_iloadN X0 hx (hb hby d23_7) rfl ?_
  refine o_ifNo X0 hx (hb hby d23_8) (teq (by decide : (0 : Int32) = (0 : Int32))).2 ?_
  refine o_iloadN X0 hx (hb hby d23_11) rfl ?_
  refine o_goto X0 hx 16 (hb hby d23_12) (by decide) (by decide) ?_
  refine o_istore X0 hx (l' := #[.val (.int (0 : Int32)), .val (.int (2 : Int32)), .val (.int u0_), .val (.int u1_), .val (.int w_), .val (.int u0_)]) (hb hby d23_16) rfl ?_
  refine o_iload X0 hx (hb hby d23_18) rfl ?_
  refine o_iload X0 hx (hb hby d23_20) rfl ?_
  refine o_icmpNo X0 hx (hb hby d23_22) (teq pr0).2 ?_
  refine o_iconst X0 hx (1 : Int32) (hb hby d23_25) rfl ?_
  refine o_goto X0 hx 30 (hb hby d23_26) (by decide) (by decide) ?_
  refine oend X0 hlk (v := some (.int (1 : Int32))) (fun h => by rw [hret] at h; cases h) (fun fs hr => retN X0 hx (t := .boolean) hret (by simp) (hb hby d23_30) hr) (by decide) (by decide) ?_
  show own_Q_match_0_2_t Z _ _ _ h0 n0 _ s₁.heap _
  rw [e0]
  exact ⟨rfl, N0, rfl⟩
def own_Q_match_0_2_f (Z : State)  (u0_ : Int32) (u1_ : Int32) (w_ : Int32) (h0 : Heap) (n0 : Nat) (v : Option Value) (h : Heap) (L : List Loc) : Prop := (v = some (.int (0 : Int32))) ∧ (Fr n0 L) ∧ (h = h0)
set_option maxRecDepth 65536 in
set_option maxHeartbeats 40000000 in
theorem rm_match_0_2_f (l : Launch) (Z : State) (a0 : Array Value) (hw : ∀ d ∈ tables_1, d.before a0 Z = true) (ws : List Jvm.Cond)  (u0_ : Int32) (u1_ : Int32) (w_ : Int32) (h0 : Heap) (n0 : Nat) (O0 : Old Z n0 h0) (pr0 : ¬ (u0_ = w_)) :
    oMet l Z yM22 method_2_code 6 (some .boolean) ws ({ frames := 0, cells := 0, slots := 0, locals := 0 } : Room) 0 0 #[(.int (0 : Int32)), (.int (2 : Int32)), (.int u0_), (.int u1_), (.int w_)] h0 (own_Q_match_0_2_f Z  u0_ u1_ w_ h0 n0) := by
  refine oenter own_pn5 #[.val (.int (0 : Int32)), .val (.int (2 : Int32)), .val (.int u0_), .val (.int u1_), .val (.int w_), .unset] (fun m => by first | (simp [entryFrame, mkF, argsToLocals, Value.category]; done) | rfl) ?_
  intro p e s m below meth c s₁ X0 hx hZ hby hml hret hown0 hnm hlk e0
  have hown : s.vm.findClass "com/example/rowfold/rowfold/LiteralSkipPinLaw" = some m.cls := hown0
  have N0 := Fr.nil n0
  refine o_iloadN X0 hx (hb hby d23_0) rfl ?_
  refine o_iloadN X0 hx (hb hby d23_1) rfl ?_
  refine o_icmpYes X0 hx 7 (hb hby d23_2) (tlt (by decide : (0 : Int32) < (2 : Int32))).1 (by decide) (by decide) ?_
  refine o_iloadN X0 hx (hb hby d23_7) rfl ?_
  refine o_ifNo X0 hx (hb hby d23_8) (teq (by decide : (0 : Int32) = (0 : Int32))).2 ?_
  refine o_iloadN X0 hx (hb hby d23_11) rfl ?_
  refine o_goto X0 hx 16 (hb hby d23_12) (by decide) (by decide) ?_
  refine o_istore X0 hx (l' := #[.val (.int (0 : Int32)), .val (.int (2 : Int32)), .val (.int u0_), .val (.int u1_), .val (.int w_), .val (.int u0_)]) (hb hby d23_16) rfl ?_
  refine o_iload X0 hx (hb hby d23_18) rfl ?_
  refine o_iload X0 hx (hb hby d23_20) rfl ?_
  refine o_icmpYes X0 hx 29 (hb hby d23_22) (feq pr0).2 (by decide) (by decide) ?_
  refine o_iconst X0 hx (0 : Int32) (hb hby d23_29) rfl ?_
  refine oend X0 hlk (v := some (.int (0 : Int32))) (fun h => by rw [hret] at h; cases h) (fun fs hr => retN X0 hx (t := .boolean) hret (by simp) (hb hby d23_30) hr) (by decide) (by decide) ?_
  show own_Q_match_0_2_f Z _ _ _ h0 n0 _ s₁.heap _
  rw [e0]
  exact ⟨rfl, N0, rfl⟩
theorem d23_15 : decode method_2_code 15 = .ok (.iload_n 3, 1) := by decide +kernel
def own_Q_match_1_2_t (Z : State)  (u0_ : Int32) (u1_ : Int32) (w_ : Int32) (h0 : Heap) (n0 : Nat) (v : Option Value) (h : Heap) (L : List Loc) : Prop := (v = some (.int (1 : Int32))) ∧ (Fr n0 L) ∧ (h = h0)
set_option maxRecDepth 65536 in
set_option maxHeartbeats 40000000 in
theorem rm_match_1_2_t (l : Launch) (Z : State) (a0 : Array Value) (hw : ∀ d ∈ tables_1, d.before a0 Z = true) (ws : List Jvm.Cond)  (u0_ : Int32) (u1_ : Int32) (w_ : Int32) (h0 : Heap) (n0 : Nat) (O0 : Old Z n0 h0) (pr0 : u1_ = w_) :
    oMet l Z yM22 method_2_code 6 (some .boolean) ws ({ frames := 0, cells := 0, slots := 0, locals := 0 } : Room) 0 0 #[(.int (1 : Int32)), (.int (2 : Int32)), (.int u0_), (.int u1_), (.int w_)] h0 (own_Q_match_1_2_t Z  u0_ u1_ w_ h0 n0) := by
  refine oenter own_pn5 #[.val (.int (1 : Int32)), .val (.int (2 : Int32)), .val (.int u0_), .val (.int u1_), .val (.int w_), .unset] (fun m => by first | (simp [entryFrame, mkF, argsToLocals, Value.category]; done) | rfl) ?_
  intro p e s m below meth c s₁ X0 hx hZ hby hml hret hown0 hnm hlk e0
  have hown : s.vm.findClass "com/example/rowfold/rowfold/LiteralSkipPinLaw" = some m.cls := hown0
  have N0 := Fr.nil n0
  refine o_iloadN X0 hx (hb hby d23_0) rfl ?_
  refine o_iloadN X0 hx (hb hby d23_1) rfl ?_
  refine o_icmpYes X0 hx 7 (hb hby d23_2) (tlt (by decide : (1 : Int32) < (2 : Int32))).1 (by decide) (by decide) ?_
  refine o_iloadN X0 hx (hb hby d23_7) rfl ?_
  refine o_ifYes X0 hx 15 (hb hby d23_8) (feq (by decide : ¬ ((1 : Int32) = (0 : Int32)))).2 (by decide) (by decide) ?_
  refine o_iloadN X0 hx (hb hby d23_15) rfl ?_
  refine o_istore X0 hx (l' := #[.val (.int (1 : Int32)), .val (.int (2 : Int32)), .val (.int u0_), .val (.int u1_), .val (.int w_), .val (.int u1_)]) (hb hby d23_16) rfl ?_
  refine o_iload X0 hx (hb hby d23_18) rfl ?_
  refine o_iload X0 hx (hb hby d23_20) rfl ?_
  refine o_icmpNo X0 hx (hb hby d23_22) (teq pr0).2 ?_
  refine o_iconst X0 hx (1 : Int32) (hb hby d23_25) rfl ?_
  refine o_goto X0 hx 30 (hb hby d23_26) (by decide) (by decide) ?_
  refine oend X0 hlk (v := some (.int (1 : Int32))) (fun h => by rw [hret] at h; cases h) (fun fs hr => retN X0 hx (t := .boolean) hret (by simp) (hb hby d23_30) hr) (by decide) (by decide) ?_
  show own_Q_match_1_2_t Z _ _ _ h0 n0 _ s₁.heap _
  rw [e0]
  exact ⟨rfl, N0, rfl⟩
def own_Q_match_1_2_f (Z : State)  (u0_ : Int32) (u1_ : Int32) (w_ : Int32) (h0 : Heap) (n0 : Nat) (v : Option Value) (h : Heap) (L : List Loc) : Prop := (v = some (.int (0 : Int32))) ∧ (Fr n0 L) ∧ (h = h0)
set_option maxRecDepth 65536 in
set_option maxHeartbeats 40000000 in
theorem rm_match_1_2_f (l : Launch) (Z : State) (a0 : Array Value) (hw : ∀ d ∈ tables_1, d.before a0 Z = true) (ws : List Jvm.Cond)  (u0_ : Int32) (u1_ : Int32) (w_ : Int32) (h0 : Heap) (n0 : Nat) (O0 : Old Z n0 h0) (pr0 : ¬ (u1_ = w_)) :
    oMet l Z yM22 method_2_code 6 (some .boolean) ws ({ frames := 0, cells := 0, slots := 0, locals := 0 } : Room) 0 0 #[(.int (1 : Int32)), (.int (2 : Int32)), (.int u0_), (.int u1_), (.int w_)] h0 (own_Q_match_1_2_f Z  u0_ u1_ w_ h0 n0) := by
  refine oenter own_pn5 #[.val (.int (1 : Int32)), .val (.int (2 : Int32)), .val (.int u0_), .val (.int u1_), .val (.int w_), .unset] (fun m => by first | (simp [entryFrame, mkF, argsToLocals, Value.category]; done) | rfl) ?_
  intro p e s m below meth c s₁ X0 hx hZ hby hml hret hown0 hnm hlk e0
  have hown : s.vm.findClass "com/example/rowfold/rowfold/LiteralSkipPinLaw" = some m.cls := hown0
  have N0 := Fr.nil n0
  refine o_iloadN X0 hx (hb hby d23_0) rfl ?_
  refine o_iloadN X0 hx (hb hby d23_1) rfl ?_
  refine o_icmpYes X0 hx 7 (hb hby d23_2) (tlt (by decide : (1 : Int32) < (2 : Int32))).1 (by decide) (by decide) ?_
  refine o_iloadN X0 hx (hb hby d23_7) rfl ?_
  refine o_ifYes X0 hx 15 (hb hby d23_8) (feq (by decide : ¬ ((1 : Int32) = (0 : Int32)))).2 (by decide) (by decide) ?_
  refine o_iloadN X0 hx (hb hby d23_15) rfl ?_
  refine o_istore X0 hx (l' := #[.val (.int (1 : Int32)), .val (.int (2 : Int32)), .val (.int u0_), .val (.int u1_), .val (.int w_), .val (.int u1_)]) (hb hby d23_16) rfl ?_
  refine o_iload X0 hx (hb hby d23_18) rfl ?_
  refine o_iload X0 hx (hb hby d23_20) rfl ?_
  refine o_icmpYes X0 hx 29 (hb hby d23_22) (feq pr0).2 (by decide) (by decide) ?_
  refine o_iconst X0 hx (0 : Int32) (hb hby d23_29) rfl ?_
  refine oend X0 hlk (v := some (.int (0 : Int32))) (fun h => by rw [hret] at h; cases h) (fun fs hr => retN X0 hx (t := .boolean) hret (by simp) (hb hby d23_30) hr) (by decide) (by decide) ?_
  show own_Q_match_1_2_f Z _ _ _ h0 n0 _ s₁.heap _
  rw [e0]
  exact ⟨rfl, N0, rfl⟩
def own_Q_match_2_2_e (Z : State)  (u0_ : Int32) (u1_ : Int32) (w_ : Int32) (h0 : Heap) (n0 : Nat) (v : Option Value) (h : Heap) (L : List Loc) : Prop := (v = some (.int (0 : Int32))) ∧ (Fr n0 L) ∧ (h = h0)
set_option maxRecDepth 65536 in
set_option maxHeartbeats 40000000 in
theorem rm_match_2_2_e (l : Launch) (Z : State) (a0 : Array Value) (hw : ∀ d ∈ tables_1, d.before a0 Z = true) (ws : List Jvm.Cond)  (u0_ : Int32) (u1_ : Int32) (w_ : Int32) (h0 : Heap) (n0 : Nat) (O0 : Old Z n0 h0)  :
    oMet l Z yM22 method_2_code 6 (some .boolean) ws ({ frames := 0, cells := 0, slots := 0, locals := 0 } : Room) 0 0 #[(.int (2 : Int32)), (.int (2 : Int32)), (.int u0_), (.int u1_), (.int w_)] h0 (own_Q_match_2_2_e Z  u0_ u1_ w_ h0 n0) := by
  refine oenter own_pn5 #[.val (.int (2 : Int32)), .val (.int (2 : Int32)), .val (.int u0_), .val (.int u1_), .val (.int w_), .unset] (fun m => by first | (simp [entryFrame, mkF, argsToLocals, Value.category]; done) | rfl) ?_
  intro p e s m below meth c s₁ X0 hx hZ hby hml hret hown0 hnm hlk e0
  have hown : s.vm.findClass "com/example/rowfold/rowfold/LiteralSkipPinLaw" = some m.cls := hown0
  have N0 := Fr.nil n0
  refine o_iloadN X0 hx (hb hby d23_0) rfl ?_
  refine o_iloadN X0 hx (hb hby d23_1) rfl ?_
  refine o_icmpNo X0 hx (hb hby d23_2) (flt (by decide : ¬ ((2 : Int32) < (2 : Int32)))).1 ?_
  refine o_iconst X0 hx (0 : Int32) (hb hby d23_5) rfl ?_
  refine oend X0 hlk (v := some (.int (0 : Int32))) (fun h => by rw [hret] at h; cases h) (fun fs hr => retN X0 hx (t := .boolean) hret (by simp) (hb hby d23_6) hr) (by decide) (by decide) ?_
  show own_Q_match_2_2_e Z _ _ _ h0 n0 _ s₁.heap _
  rw [e0]
  exact ⟨rfl, N0, rfl⟩
theorem own_pd16 : parseMethodDescriptor "([C)V" = some ⟨[(.array .char)], none⟩ := by decide +kernel
theorem own_pd17 : parseMethodDescriptor "(Ljava/lang/String;)V" = some ⟨[(.object "java/lang/String")], none⟩ := by decide +kernel
theorem own_pd18 : parseMethodDescriptor "(C)Z" = some ⟨[.char], some .boolean⟩ := by decide +kernel
theorem own_pd19 : parseMethodDescriptor "(IICCC)Z" = some ⟨[.int, .int, .char, .char, .char], some .boolean⟩ := by decide +kernel
def own_Q_law (Z : State) (z_CS : Int32) (v_FMT : Value) (n_ : Int32) (a_ : Int32) (b_ : Int32) (c_ : Int32) (d_ : Int32) (e_ : Int32) (h0 : Heap) (n0 : Nat) (v : Option Value) (h : Heap) (L : List Loc) : Prop := (v = some (.int (1 : Int32))) ∧ (Fr n0 L) ∧ (Keep h0 h [])
set_option maxRecDepth 65536 in
set_option maxHeartbeats 40000000 in
theorem rm_law (l : Launch) (Z : State) (a0 : Array Value) (hw : ∀ d ∈ tables_1, d.before a0 Z = true) (ws : List Jvm.Cond) (z_CS : Int32) (v_FMT : Value) (n_ : Int32) (a_ : Int32) (b_ : Int32) (c_ : Int32) (d_ : Int32) (e_ : Int32) (h0 : Heap) (n0 : Nat) (SB : own_Start Z z_CS v_FMT) (O0 : Old Z n0 h0)  :
    oMetS l Z x code maxLocals ret ws room_1 24 1152 #[(.int n_), (.int a_), (.int b_), (.int c_), (.int d_), (.int e_)] h0 (own_Q_law Z z_CS v_FMT n_ a_ b_ c_ d_ e_ h0 n0) := by
  refine oenterS own_pn5 #[.val (.int n_), .val (.int a_), .val (.int b_), .val (.int c_), .val (.int d_), .val (.int e_), .unset, .unset, .unset, .unset, .unset, .unset, .unset, .unset, .unset, .unset, .unset, .unset, .unset, .unset, .unset, .unset, .unset] (fun m => by first | (simp [entryFrame, mkF, argsToLocals, Value.category, maxLocals]; done) | rfl) ?_
  intro p e s m below meth c s₁ X0 hx hZ hby hml hret hown0 hnm hlk e0 hs0 H0 hS0
  have hEL := own_EW hw
  have wS := own_wS hw
  have hown : s.vm.findClass "com/example/rowfold/rowfold/LiteralSkipPinLaw" = some m.cls := hown0
  have N0 := Fr.nil n0
  obtain ⟨S_CS, H_CS, S__assertionsDisabled, S_HI_BYTE_SHIFT, S_LO_BYTE_SHIFT, S_FMT, R_FMT⟩ := (id SB)
  have w0 := hw _ (List.mem_of_getElem? (i := 0) rfl)
  have w1 := hw _ (List.mem_of_getElem? (i := 1) rfl)
  have w2 := hw _ (List.mem_of_getElem? (i := 2) rfl)
  have w3 := hw _ (List.mem_of_getElem? (i := 3) rfl)
  have w4 := hw _ (List.mem_of_getElem? (i := 4) rfl)
  have w5 := hw _ (List.mem_of_getElem? (i := 5) rfl)
  have w6 := hw _ (List.mem_of_getElem? (i := 6) rfl)
  have w7 := hw _ (List.mem_of_getElem? (i := 7) rfl)
  have w17 := hw _ (List.mem_of_getElem? (i := 17) rfl)
  have w18 := hw _ (List.mem_of_getElem? (i := 18) rfl)
  have w23 := hw _ (List.mem_of_getElem? (i := 23) rfl)
  have w24 := hw _ (List.mem_of_getElem? (i := 24) rfl)
  have w25 := hw _ (List.mem_of_getElem? (i := 25) rfl)
  have w26 := hw _ (List.mem_of_getElem? (i := 26) rfl)
  have w27 := hw _ (List.mem_of_getElem? (i := 27) rfl)
  have w28 := hw _ (List.mem_of_getElem? (i := 28) rfl)
  have w31 := hw _ (List.mem_of_getElem? (i := 31) rfl)
  have w32 := hw _ (List.mem_of_getElem? (i := 32) rfl)
  have w33 := hw _ (List.mem_of_getElem? (i := 33) rfl)
  have w34 := hw _ (List.mem_of_getElem? (i := 34) rfl)
  have w35 := hw _ (List.mem_of_getElem? (i := 35) rfl)
  have w36 := hw _ (List.mem_of_getElem? (i := 36) rfl)
  have w38 := hw _ (List.mem_of_getElem? (i := 38) rfl)
  have w50 := hw _ (List.mem_of_getElem? (i := 50) rfl)
  have w51 := hw _ (List.mem_of_getElem? (i := 51) rfl)
  have w52 := hw _ (List.mem_of_getElem? (i := 52) rfl)
  have w53 := hw _ (List.mem_of_getElem? (i := 53) rfl)
  refine o_iloadN X0 hx (hb hby at_0) rfl ?_
  refine ogo (S' := s₁.setTop (mkF m 3 #[.val (.int n_), .val (.int a_), .val (.int b_), .val (.int c_), .val (.int d_), .val (.int e_), .unset, .unset, .unset, .unset, .unset, .unset, .unset, .unset, .unset, .unset, .unset, .unset, .unset, .unset, .unset, .unset, .unset] [(.int (65535 : Int32)), (.int a_)])) (X0.ldcInt hx hown (mvT hZ w0) (g := (mkF m 1 #[.val (.int n_), .val (.int a_), .val (.int b_), .val (.int c_), .val (.int d_), .val (.int e_), .unset, .unset, .unset, .unset, .unset, .unset, .unset, .unset, .unset, .unset, .unset, .unset, .unset, .unset, .unset, .unset, .unset] [(.int a_)])) rfl (hb hby at_1)) ?_
  refine o_iand X0 hx (hb hby at_3) ?_
  refine o_i2c X0 hx (hb hby at_4) ?_
  refine o_istore X0 hx (l' := #[.val (.int n_), .val (.int a_), .val (.int b_), .val (.int c_), .val (.int d_), .val (.int e_), .val (.int (nar .char (a_ &&& (65535 : Int32)))), .unset, .unset, .unset, .unset, .unset, .unset, .unset, .unset, .unset, .unset, .unset, .unset, .unset, .unset, .unset, .unset]) (hb hby at_5) rfl ?_
  generalize hgu0 : (nar .char (a_ &&& (65535 : Int32))) = u0
  have hcu0 : own_c16 u0 := hgu0 ▸ own_c16_i2c _
  refine o_iloadN X0 hx (hb hby at_7) rfl ?_
  refine ogo (S' := s₁.setTop (mkF m 10 #[.val (.int n_), .val (.int a_), .val (.int b_), .val (.int c_), .val (.int d_), .val (.int e_), .val (.int u0), .unset, .unset, .unset, .unset, .unset, .unset, .unset, .unset, .unset, .unset, .unset, .unset, .unset, .unset, .unset, .unset] [(.int (65535 : Int32)), (.int b_)])) (X0.ldcInt hx hown (mvT hZ w0) (g := (mkF m 8 #[.val (.int n_), .val (.int a_), .val (.int b_), .val (.int c_), .val (.int d_), .val (.int e_), .val (.int u0), .unset, .unset, .unset, .unset, .unset, .unset, .unset, .unset, .unset, .unset, .unset, .unset, .unset, .unset, .unset, .unset] [(.int b_)])) rfl (hb hby at_8)) ?_
  refine o_iand X0 hx (hb hby at_10) ?_
  refine o_i2c X0 hx (hb hby at_11) ?_
  refine o_istore X0 hx (l' := #[.val (.int n_), .val (.int a_), .val (.int b_), .val (.int c_), .val (.int d_), .val (.int e_), .val (.int u0), .val (.int (nar .char (b_ &&& (65535 : Int32)))), .unset, .unset, .unset, .unset, .unset, .unset, .unset, .unset, .unset, .unset, .unset, .unset, .unset, .unset, .unset]) (hb hby at_12) rfl ?_
  generalize hgu1 : (nar .char (b_ &&& (65535 : Int32))) = u1
  have hcu1 : own_c16 u1 := hgu1 ▸ own_c16_i2c _
  refine o_iloadN X0 hx (hb hby at_14) rfl ?_
  refine o_iconst X0 hx (3 : Int32) (hb hby at_15) rfl ?_
  refine o_iand X0 hx (hb hby at_16) ?_
  refine o_istore X0 hx (l' := #[.val (.int n_), .val (.int a_), .val (.int b_), .val (.int c_), .val (.int d_), .val (.int e_), .val (.int u0), .val (.int u1), .val (.int (n_ &&& (3 : Int32))), .unset, .unset, .unset, .unset, .unset, .unset, .unset, .unset, .unset, .unset, .unset, .unset, .unset, .unset]) (hb hby at_17) rfl ?_
  have tl : ∀ (cd : Int32) (ln : Int32), (ln = (0 : Int32) ∨ ln = (1 : Int32) ∨ ln = (2 : Int32)) → Own p e below (oPostS Z (own_Q_law Z z_CS v_FMT n_ a_ b_ c_ d_ e_ h0 n0) s 24 1152) (s₁.setTop (mkF m 33 #[.val (.int n_), .val (.int a_), .val (.int b_), .val (.int c_), .val (.int d_), .val (.int e_), .val (.int u0), .val (.int u1), .val (.int cd), .val (.int ln), .unset, .unset, .unset, .unset, .unset, .unset, .unset, .unset, .unset, .unset, .unset, .unset, .unset] [])) := by
    intro cd ln hln
    rcases hln with rfl | rfl | rfl
    · refine o_iload X0 hx (hb hby at_33) rfl ?_
      refine o_ifNo X0 hx (hb hby at_35) (teq (by decide : (0 : Int32) = (0 : Int32))).2 ?_
      obtain ⟨T1, _, X1, rfl, E1, A1, D1, -, st1⟩ := newO X0 hx hZ hown w1 w2 w3 e0 (g := (mkF m 38 #[.val (.int n_), .val (.int a_), .val (.int b_), .val (.int c_), .val (.int d_), .val (.int e_), .val (.int u0), .val (.int u1), .val (.int cd), .val (.int (0 : Int32)), .unset, .unset, .unset, .unset, .unset, .unset, .unset, .unset, .unset, .unset, .unset, .unset, .unset] [])) rfl (hb hby at_38) (by decide) (by decide)
      obtain ⟨b1, g1⟩ : ∃ z, z = h0.size := ⟨_, rfl⟩
      rw [← g1] at A1 D1 st1
      have n0_b1 : n0 ≤ b1 := Nat.le_trans (Nat.le_trans (Nat.le_of_eq O0.1.symm) O0.2.1) (Nat.le_trans (Nat.le_refl _) (Nat.le_of_eq g1.symm))
      have H2 := CHv.ext E1 H0
      have F1_value : Fld Z T1.heap b1 "java/lang/String" "value" "[B" .null := D1 (Or.inr w17) (ty := (.array .byte)) (by decide)
      have F1_coder : Fld Z T1.heap b1 "java/lang/String" "coder" "B" (.int (0 : Int32)) := D1 (Or.inr w18) (ty := .byte) (by decide)
      refine ogo (S' := T1.setTop (mkF m 41 #[.val (.int n_), .val (.int a_), .val (.int b_), .val (.int c_), .val (.int d_), .val (.int e_), .val (.int u0), .val (.int u1), .val (.int cd), .val (.int (0 : Int32)), .unset, .unset, .unset, .unset, .unset, .unset, .unset, .unset, .unset, .unset, .unset, .unset, .unset] [(.ref b1)])) st1 ?_
      refine o_dup X1 hx (hb hby at_41) rfl ?_
      refine o_iconst X1 hx (0 : Int32) (hb hby at_42) rfl ?_
      obtain ⟨T3, _, k3, X3, rfl, E3, A3, Ex3, st3⟩ := newPE (aty := .char) X1 hx hZ w4 rfl (g := (mkF m 43 #[.val (.int n_), .val (.int a_), .val (.int b_), .val (.int c_), .val (.int d_), .val (.int e_), .val (.int u0), .val (.int u1), .val (.int cd), .val (.int (0 : Int32)), .unset, .unset, .unset, .unset, .unset, .unset, .unset, .unset, .unset, .unset, .unset, .unset, .unset] [(.int (0 : Int32)), (.ref b1), (.ref b1)])) rfl (hb hby at_43) rfl (by decide) (cap := 0) (by decide) (by decide) (by decide) (by decide) (ad := "[C") rfl
      obtain ⟨b3, g3⟩ : ∃ z, z = T1.heap.size := ⟨_, rfl⟩
      rw [← g3] at A3 Ex3 st3
      have n0_b3 : n0 ≤ b3 := Nat.le_trans (Nat.le_trans (Nat.le_of_eq O0.1.symm) O0.2.1) (Nat.le_trans E1.1 (Nat.le_of_eq g3.symm))
      have H4 := CHv.ext E3 H2
      have V3 : Arv Z T3.heap b3 k3 .char (0 : Int32) [] (.int 0) := (Arv.new A3 (by decide)).pad (pad_rep [] (.int 0) 0)
      refine ogo (S' := T3.setTop (mkF m 45 #[.val (.int n_), .val (.int a_), .val (.int b_), .val (.int c_), .val (.int d_), .val (.int e_), .val (.int u0), .val (.int u1), .val (.int cd), .val (.int (0 : Int32)), .unset, .unset, .unset, .unset, .unset, .unset, .unset, .unset, .unset, .unset, .unset, .unset, .unset] [(.ref b3), (.ref b1), (.ref b1)])) st3 ?_
      obtain ⟨_, _, ⟨T5, L5, kc5, n5⟩, -, X5, hSi5, hgr5, ⟨Lc5, hQ5, l5, y5, z5, C5⟩, st5⟩ := X3.specialBackS hx (y := yM10) rfl hown (mvT hZ w5) (mvT hZ w6) (mvT hZ w7) (by decide) (backOfSH (W := 1) (rm_new1z l Z a0 hw []  b1 b3 k3 T3.heap n0 ((O0.ext E1).ext E3) (Exa.ext E3 A1) (Fld.ext E3 F1_value) (Fld.ext E3 F1_coder) n0_b1 V3) hZ w7 w3 (by decide) (by decide) hEL H4) (g := (mkF m 45 #[.val (.int n_), .val (.int a_), .val (.int b_), .val (.int c_), .val (.int d_), .val (.int e_), .val (.int u0), .val (.int u1), .val (.int cd), .val (.int (0 : Int32)), .unset, .unset, .unset, .unset, .unset, .unset, .unset, .unset, .unset, .unset, .unset, .unset, .unset] [(.ref b3), (.ref b1), (.ref b1)])) rfl (by rw [hml]; rfl) (Steps.refl _) (a := b1) (argsL := [(.ref b3)]) (rest := [(.ref b1)]) (lenOf own_pd16 rfl) rfl (by show 2 * 0 + _ ≤ _; exact Nat.le_of_eq rfl) (hb hby at_45) (fun _ _ => ⟨rfl, rfl, (by decide : 2 + 4 ≤ _), (by decide : 4 + 8 ≤ _)⟩)
      dsimp only [Pt.U, Pt.locs, Pt.cells, Pt.slots] at X5 l5 y5 z5 st5 hQ5 hSi5 hgr5 C5
      subst l5 y5 z5
      obtain ⟨ba_5, kb_5, rfl, Nq5, K5, p5_0, p5_1, p5_2, p5_3, p5_4⟩ := hQ5
      have N5 := Fr.app N0 Nq5
      have X5 : Stand p l e room_1 (s.setVm T5.vm) m #[(.int n_), (.int a_), (.int b_), (.int c_), (.int d_), (.int e_)] below meth c T5 _ _ _ := X5
      have hS5 := foldS hS0 (Nat.le_trans (Nat.zero_le _) (Nat.le_trans E1.1 E3.1)) hSi5 hgr5
      have hZ5 : Z.Warmed39 T5.vm := State.Warmed39.trans (t := s) hZ hSi5.1
      have hown5 : T5.vm.findClass "com/example/rowfold/rowfold/LiteralSkipPinLaw" = some m.cls := by rw [hSi5.1.alike.findClass]; exact hown
      have H6 := C5.1
      refine otr (S' := T5.setTop (mkF m 48 #[.val (.int n_), .val (.int a_), .val (.int b_), .val (.int c_), .val (.int d_), .val (.int e_), .val (.int u0), .val (.int u1), .val (.int cd), .val (.int (0 : Int32)), .unset, .unset, .unset, .unset, .unset, .unset, .unset, .unset, .unset, .unset, .unset, .unset, .unset] [(.ref b1)])) st5 ?_
      refine o_astore X5 hx (l' := #[.val (.int n_), .val (.int a_), .val (.int b_), .val (.int c_), .val (.int d_), .val (.int e_), .val (.int u0), .val (.int u1), .val (.int cd), .val (.int (0 : Int32)), .val (.ref b1), .unset, .unset, .unset, .unset, .unset, .unset, .unset, .unset, .unset, .unset, .unset, .unset]) (hb hby at_48) rfl rfl ?_
      refine o_goto X5 hx 101 (hb hby at_50) (by decide) (by decide) ?_
      have t2 : ∀ (v1 v2 v3 k2 : Int32), Own p e below (oPostS Z (own_Q_law Z z_CS v_FMT n_ a_ b_ c_ d_ e_ h0 n0) s 24 1152) (T5.setTop (mkF m 178 #[.val (.int n_), .val (.int a_), .val (.int b_), .val (.int c_), .val (.int d_), .val (.int e_), .val (.int u0), .val (.int u1), .val (.int cd), .val (.int (0 : Int32)), .val (.ref b1), .val (.int v1), .val (.int k2), .val (.int v2), .val (.int v3), .unset, .unset, .unset, .unset, .unset, .unset, .unset, .unset] [])) := by
        intro v1 v2 v3 k2
        obtain ⟨T7, _, X7, rfl, E7, A7, D7, -, st7⟩ := newO X5 hx hZ5 hown5 w23 w24 w25 rfl (g := (mkF m 178 #[.val (.int n_), .val (.int a_), .val (.int b_), .val (.int c_), .val (.int d_), .val (.int e_), .val (.int u0), .val (.int u1), .val (.int cd), .val (.int (0 : Int32)), .val (.ref b1), .val (.int v1), .val (.int k2), .val (.int v2), .val (.int v3), .unset, .unset, .unset, .unset, .unset, .unset, .unset, .unset] [])) rfl (hb hby at_178) (by decide) (by decide)
        obtain ⟨b7, g7⟩ : ∃ z, z = T5.heap.size := ⟨_, rfl⟩
        rw [← g7] at A7 D7 st7
        have n0_b7 : n0 ≤ b7 := Nat.le_trans (Nat.le_trans (Nat.le_of_eq O0.1.symm) O0.2.1) (Nat.le_trans (Nat.le_trans (Nat.le_trans E1.1 E3.1) K5.1) (Nat.le_of_eq g7.symm))
        have H8 := CHv.ext E7 H6
        have F7_text : Fld Z T7.heap b7 "com/example/rowfold/rowfold/Literal" "text" "Ljava/lang/String;" .null := D7 (Or.inr w31) (ty := (.object "java/lang/String")) (by decide)
        have F7_at : Fld Z T7.heap b7 "com/example/rowfold/rowfold/Literal" "at" "I" (.int (0 : Int32)) := D7 (Or.inl w38) (ty := .int) (by decide)
        refine ogo (S' := T7.setTop (mkF m 181 #[.val (.int n_), .val (.int a_), .val (.int b_), .val (.int c_), .val (.int d_), .val (.int e_), .val (.int u0), .val (.int u1), .val (.int cd), .val (.int (0 : Int32)), .val (.ref b1), .val (.int v1), .val (.int k2), .val (.int v2), .val (.int v3), .unset, .unset, .unset, .unset, .unset, .unset, .unset, .unset] [(.ref b7)])) st7 ?_
        refine o_dup X7 hx (hb hby at_181) rfl ?_
        refine o_aload X7 hx (hb hby at_182) rfl rfl ?_
        obtain ⟨_, _, ⟨T9, L9, kc9, n9⟩, -, X9, ⟨Lc9, hQ9, l9, y9, z9⟩, st9⟩ := X7.specialBack hx (y := yM0) rfl hown5 (mvT hZ5 w26) (mvT hZ5 w27) (mvT hZ5 w28) (by decide) (backOf (W := 1) (rm_linit l Z a0 hw []  b7 b1 T7.heap n0 ((((O0.ext E1).ext E3).keep K5 (allS n0_b1 all0)).ext E7) A7 F7_text F7_at n0_b7) hZ5 w28 w25 (by decide) (by decide)) (g := (mkF m 184 #[.val (.int n_), .val (.int a_), .val (.int b_), .val (.int c_), .val (.int d_), .val (.int e_), .val (.int u0), .val (.int u1), .val (.int cd), .val (.int (0 : Int32)), .val (.ref b1), .val (.int v1), .val (.int k2), .val (.int v2), .val (.int v3), .unset, .unset, .unset, .unset, .unset, .unset, .unset, .unset] [(.ref b1), (.ref b7), (.ref b7)])) rfl (by rw [hml]; rfl) (Steps.refl _) (a := b7) (argsL := [(.ref b1)]) (rest := [(.ref b7)]) (lenOf own_pd17 rfl) rfl (by show 2 * 0 + _ ≤ _; exact Nat.le_of_eq rfl) (hb hby at_184) (fun _ _ => ⟨rfl, rfl, (by decide : 7 + 0 ≤ _), (by decide : 14 + 0 ≤ _)⟩)
        dsimp only [Pt.U, Pt.locs, Pt.cells, Pt.slots] at X9 l9 y9 z9 st9 hQ9
        subst l9 y9 z9
        obtain ⟨rfl, Nq9, K9, p9_0, p9_1, p9_2⟩ := hQ9
        have N9 := Fr.app N5 Nq9
        have H10 := CHv.keep K9 (allS (Safe.exa hZ5.alike A7 (by decide) (by decide)) all0) H8
        refine otr (S' := T9.setTop (mkF m 187 #[.val (.int n_), .val (.int a_), .val (.int b_), .val (.int c_), .val (.int d_), .val (.int e_), .val (.int u0), .val (.int u1), .val (.int cd), .val (.int (0 : Int32)), .val (.ref b1), .val (.int v1), .val (.int k2), .val (.int v2), .val (.int v3), .unset, .unset, .unset, .unset, .unset, .unset, .unset, .unset] [(.ref b7)])) st9 ?_
        refine o_astore X9 hx (l' := #[.val (.int n_), .val (.int a_), .val (.int b_), .val (.int c_), .val (.int d_), .val (.int e_), .val (.int u0), .val (.int u1), .val (.int cd), .val (.int (0 : Int32)), .val (.ref b1), .val (.int v1), .val (.int k2), .val (.int v2), .val (.int v3), .val (.ref b7), .unset, .unset, .unset, .unset, .unset, .unset, .unset]) (hb hby at_187) rfl rfl ?_
        refine o_aload X9 hx (hb hby at_189) rfl rfl ?_
        refine o_iload X9 hx (hb hby at_191) rfl ?_
        have c12 := (((((O0.ext E1).ext E3).keep K5 (allS n0_b1 all0)).ext E7).keep K9 (allS n0_b7 all0))
        have c13 := ((Fld.ext E7 p5_4).keep K9 (ninS (Nat.ne_of_lt (Nat.lt_of_lt_of_le (Nat.lt_of_lt_of_le A1.lt (Nat.le_trans E3.1 K5.1)) (Nat.le_of_eq g7.symm))) nin0))
        have c14 := ((Fld.ext E7 p5_3).keep K9 (ninS (Nat.ne_of_lt (Nat.lt_of_lt_of_le (Nat.lt_of_lt_of_le A1.lt (Nat.le_trans E3.1 K5.1)) (Nat.le_of_eq g7.symm))) nin0))
        have c15 := ((p5_1.ext E7).keep K9 (ninS (Nat.ne_of_lt (Nat.lt_of_lt_of_le (Nat.lt_of_lt_of_le p5_0 (Nat.le_refl _)) (Nat.le_of_eq g7.symm))) nin0))
        obtain ⟨cq11, kq11, q11a, q11b, q11c⟩ := isOf hZ5 rfl p9_0
        obtain ⟨_, _, ⟨T11, L11, kc11, n11⟩, -, X11, ⟨Lc11, hQ11, l11, y11, z11⟩, st11⟩ := X9.virtualBack hx (y := yM13) (z := yM13) hown5 (mvT hZ5 w32) (mvT hZ5 w33) (notFace_of_selects (args := #[]) (mvT hZ5 w35)) (mvT hZ5 w35) (mvT hZ5 w34) (by decide) (backOf (W := 0) (rm_skipZ l Z a0 hw [] z_CS v_FMT b7 b1 ba_5 kb_5 v1 T9.heap n0 SB c12 p9_0 p9_1 p9_2 ((Exa.ext E7 p5_2).keep K9) c13 c14 c15) hZ5 w36 w25 (by decide) (by decide)) q11a q11c (g := (mkF m 193 #[.val (.int n_), .val (.int a_), .val (.int b_), .val (.int c_), .val (.int d_), .val (.int e_), .val (.int u0), .val (.int u1), .val (.int cd), .val (.int (0 : Int32)), .val (.ref b1), .val (.int v1), .val (.int k2), .val (.int v2), .val (.int v3), .val (.ref b7), .unset, .unset, .unset, .unset, .unset, .unset, .unset] [(.int v1), (.ref b7)])) rfl (by rw [hml]; rfl) (Steps.refl _) (argsL := [(.int v1)]) (rest := []) (lenOf own_pd18 rfl) rfl (by show 2 * 0 + _ ≤ _; exact Nat.le_of_eq rfl) (hb hby at_193) (fun _ _ => ⟨rfl, rfl, (by decide : 7 + 0 ≤ _), (by decide : 14 + 0 ≤ _)⟩)
        dsimp only [Pt.U, Pt.locs, Pt.cells, Pt.slots] at X11 l11 y11 z11 st11 hQ11
        subst l11 y11 z11
        obtain ⟨rfl, Nq11, e11⟩ := hQ11
        have N11 := Fr.app N9 Nq11
        refine otr (S' := T11.setTop (mkF m 196 #[.val (.int n_), .val (.int a_), .val (.int b_), .val (.int c_), .val (.int d_), .val (.int e_), .val (.int u0), .val (.int u1), .val (.int cd), .val (.int (0 : Int32)), .val (.ref b1), .val (.int v1), .val (.int k2), .val (.int v2), .val (.int v3), .val (.ref b7), .unset, .unset, .unset, .unset, .unset, .unset, .unset] [(.int (0 : Int32))])) st11 ?_
        refine o_istore X11 hx (l' := #[.val (.int n_), .val (.int a_), .val (.int b_), .val (.int c_), .val (.int d_), .val (.int e_), .val (.int u0), .val (.int u1), .val (.int cd), .val (.int (0 : Int32)), .val (.ref b1), .val (.int v1), .val (.int k2), .val (.int v2), .val (.int v3), .val (.ref b7), .val (.int (0 : Int32)), .unset, .unset, .unset, .unset, .unset, .unset]) (hb hby at_196) rfl ?_
        refine o_aload X11 hx (hb hby at_198) rfl rfl ?_
        refine o_iload X11 hx (hb hby at_200) rfl ?_
        obtain ⟨cq16, kq16, q16a, q16b, q16c⟩ := isOf hZ5 e11 p9_0
        obtain ⟨_, _, ⟨T16, L16, kc16, n16⟩, -, X16, ⟨Lc16, hQ16, l16, y16, z16⟩, st16⟩ := X11.virtualBack hx (y := yM13) (z := yM13) hown5 (mvT hZ5 w32) (mvT hZ5 w33) (notFace_of_selects (args := #[]) (mvT hZ5 w35)) (mvT hZ5 w35) (mvT hZ5 w34) (by decide) (backOf (W := 0) (rm_skipZ l Z a0 hw [] z_CS v_FMT b7 b1 ba_5 kb_5 v2 T9.heap n0 SB c12 p9_0 p9_1 p9_2 ((Exa.ext E7 p5_2).keep K9) c13 c14 c15) hZ5 w36 w25 (by decide) (by decide)) q16a q16c (g := (mkF m 202 #[.val (.int n_), .val (.int a_), .val (.int b_), .val (.int c_), .val (.int d_), .val (.int e_), .val (.int u0), .val (.int u1), .val (.int cd), .val (.int (0 : Int32)), .val (.ref b1), .val (.int v1), .val (.int k2), .val (.int v2), .val (.int v3), .val (.ref b7), .val (.int (0 : Int32)), .unset, .unset, .unset, .unset, .unset, .unset] [(.int v2), (.ref b7)])) rfl (by rw [hml]; rfl) (Steps.refl _) (argsL := [(.int v2)]) (rest := []) (lenOf own_pd18 rfl) rfl (by show 2 * 0 + _ ≤ _; exact Nat.le_of_eq rfl) (hb hby at_202) (fun _ _ => ⟨rfl, e11, (by decide : 7 + 0 ≤ _), (by decide : 14 + 0 ≤ _)⟩)
        dsimp only [Pt.U, Pt.locs, Pt.cells, Pt.slots] at X16 l16 y16 z16 st16 hQ16
        subst l16 y16 z16
        obtain ⟨rfl, Nq16, e16⟩ := hQ16
        have N16 := Fr.app N11 Nq16
        refine otr (S' := T16.setTop (mkF m 205 #[.val (.int n_), .val (.int a_), .val (.int b_), .val (.int c_), .val (.int d_), .val (.int e_), .val (.int u0), .val (.int u1), .val (.int cd), .val (.int (0 : Int32)), .val (.ref b1), .val (.int v1), .val (.int k2), .val (.int v2), .val (.int v3), .val (.ref b7), .val (.int (0 : Int32)), .unset, .unset, .unset, .unset, .unset, .unset] [(.int (0 : Int32))])) st16 ?_
        refine o_istore X16 hx (l' := #[.val (.int n_), .val (.int a_), .val (.int b_), .val (.int c_), .val (.int d_), .val (.int e_), .val (.int u0), .val (.int u1), .val (.int cd), .val (.int (0 : Int32)), .val (.ref b1), .val (.int v1), .val (.int k2), .val (.int v2), .val (.int v3), .val (.ref b7), .val (.int (0 : Int32)), .val (.int (0 : Int32)), .unset, .unset, .unset, .unset, .unset]) (hb hby at_205) rfl ?_
        refine o_aload X16 hx (hb hby at_207) rfl rfl ?_
        refine o_iload X16 hx (hb hby at_209) rfl ?_
        obtain ⟨cq17, kq17, q17a, q17b, q17c⟩ := isOf hZ5 e16 p9_0
        obtain ⟨_, _, ⟨T17, L17, kc17, n17⟩, -, X17, ⟨Lc17, hQ17, l17, y17, z17⟩, st17⟩ := X16.virtualBack hx (y := yM13) (z := yM13) hown5 (mvT hZ5 w32) (mvT hZ5 w33) (notFace_of_selects (args := #[]) (mvT hZ5 w35)) (mvT hZ5 w35) (mvT hZ5 w34) (by decide) (backOf (W := 0) (rm_skipZ l Z a0 hw [] z_CS v_FMT b7 b1 ba_5 kb_5 v3 T9.heap n0 SB c12 p9_0 p9_1 p9_2 ((Exa.ext E7 p5_2).keep K9) c13 c14 c15) hZ5 w36 w25 (by decide) (by decide)) q17a q17c (g := (mkF m 211 #[.val (.int n_), .val (.int a_), .val (.int b_), .val (.int c_), .val (.int d_), .val (.int e_), .val (.int u0), .val (.int u1), .val (.int cd), .val (.int (0 : Int32)), .val (.ref b1), .val (.int v1), .val (.int k2), .val (.int v2), .val (.int v3), .val (.ref b7), .val (.int (0 : Int32)), .val (.int (0 : Int32)), .unset, .unset, .unset, .unset, .unset] [(.int v3), (.ref b7)])) rfl (by rw [hml]; rfl) (Steps.refl _) (argsL := [(.int v3)]) (rest := []) (lenOf own_pd18 rfl) rfl (by show 2 * 0 + _ ≤ _; exact Nat.le_of_eq rfl) (hb hby at_211) (fun _ _ => ⟨rfl, e16, (by decide : 7 + 0 ≤ _), (by decide : 14 + 0 ≤ _)⟩)
        dsimp only [Pt.U, Pt.locs, Pt.cells, Pt.slots] at X17 l17 y17 z17 st17 hQ17
        subst l17 y17 z17
        obtain ⟨rfl, Nq17, e17⟩ := hQ17
        have N17 := Fr.app N16 Nq17
        refine otr (S' := T17.setTop (mkF m 214 #[.val (.int n_), .val (.int a_), .val (.int b_), .val (.int c_), .val (.int d_), .val (.int e_), .val (.int u0), .val (.int u1), .val (.int cd), .val (.int (0 : Int32)), .val (.ref b1), .val (.int v1), .val (.int k2), .val (.int v2), .val (.int v3), .val (.ref b7), .val (.int (0 : Int32)), .val (.int (0 : Int32)), .unset, .unset, .unset, .unset, .unset] [(.int (0 : Int32))])) st17 ?_
        refine o_istore X17 hx (l' := #[.val (.int n_), .val (.int a_), .val (.int b_), .val (.int c_), .val (.int d_), .val (.int e_), .val (.int u0), .val (.int u1), .val (.int cd), .val (.int (0 : Int32)), .val (.ref b1), .val (.int v1), .val (.int k2), .val (.int v2), .val (.int v3), .val (.ref b7), .val (.int (0 : Int32)), .val (.int (0 : Int32)), .val (.int (0 : Int32)), .unset, .unset, .unset, .unset]) (hb hby at_214) rfl ?_
        refine o_iconst X17 hx (0 : Int32) (hb hby at_216) rfl ?_
        refine o_istore X17 hx (l' := #[.val (.int n_), .val (.int a_), .val (.int b_), .val (.int c_), .val (.int d_), .val (.int e_), .val (.int u0), .val (.int u1), .val (.int cd), .val (.int (0 : Int32)), .val (.ref b1), .val (.int v1), .val (.int k2), .val (.int v2), .val (.int v3), .val (.ref b7), .val (.int (0 : Int32)), .val (.int (0 : Int32)), .val (.int (0 : Int32)), .val (.int (0 : Int32)), .unset, .unset, .unset]) (hb hby at_217) rfl ?_
        refine o_iload X17 hx (hb hby at_219) rfl ?_
        refine o_iload X17 hx (hb hby at_221) rfl ?_
        refine o_iload X17 hx (hb hby at_223) rfl ?_
        refine o_iload X17 hx (hb hby at_225) rfl ?_
        refine o_iload X17 hx (hb hby at_227) rfl ?_
        obtain ⟨_, _, ⟨T18, L18, kc18, n18⟩, -, X18, ⟨Lc18, hQ18, l18, y18, z18⟩, st18⟩ := Jvm.LawKit.callS X17 hx (y := yM22) hown5 (mvT hZ5 w50) (mvT hZ5 w51) (mvT hZ5 w52) (mvT hZ5 w53) (by decide) (backOf (W := 0) (rm_match_0_0_e l Z a0 hw []  u0 u1 v1 T9.heap n0 c12 ) hZ5 w53 w52 (by decide) (by decide)) (g := (mkF m 229 #[.val (.int n_), .val (.int a_), .val (.int b_), .val (.int c_), .val (.int d_), .val (.int e_), .val (.int u0), .val (.int u1), .val (.int cd), .val (.int (0 : Int32)), .val (.ref b1), .val (.int v1), .val (.int k2), .val (.int v2), .val (.int v3), .val (.ref b7), .val (.int (0 : Int32)), .val (.int (0 : Int32)), .val (.int (0 : Int32)), .val (.int (0 : Int32)), .unset, .unset, .unset] [(.int v1), (.int u1), (.int u0), (.int (0 : Int32)), (.int (0 : Int32))])) rfl (by rw [hml]; rfl) (argsL := [(.int (0 : Int32)), (.int (0 : Int32)), (.int u0), (.int u1), (.int v1)]) (rest := []) (lenOf own_pd19 rfl) rfl (by show 2 * 0 + _ ≤ _; exact Nat.le_of_eq rfl) (hb hby at_229) (fun _ _ => ⟨rfl, e17, (by decide : 7 + 0 ≤ _), (by decide : 14 + 0 ≤ _)⟩)
        dsimp only [Pt.U, Pt.locs, Pt.cells, Pt.slots] at X18 l18 y18 z18 st18 hQ18
        subst l18 y18 z18
        obtain ⟨rfl, Nq18, e18⟩ := hQ18
        have N18 := Fr.app N17 Nq18
        refine ogo (S' := T18.setTop (mkF m 232 #[.val (.int n_), .val (.int a_), .val (.int b_), .val (.int c_), .val (.int d_), .val (.int e_), .val (.int u0), .val (.int u1), .val (.int cd), .val (.int (0 : Int32)), .val (.ref b1), .val (.int v1), .val (.int k2), .val (.int v2), .val (.int v3), .val (.ref b7), .val (.int (0 : Int32)), .val (.int (0 : Int32)), .val (.int (0 : Int32)), .val (.int (0 : Int32)), .unset, .unset, .unset] [(.int (0 : Int32))])) st18 ?_
        refine o_istore X18 hx (l' := #[.val (.int n_), .val (.int a_), .val (.int b_), .val (.int c_), .val (.int d_), .val (.int e_), .val (.int u0), .val (.int u1), .val (.int cd), .val (.int (0 : Int32)), .val (.ref b1), .val (.int v1), .val (.int k2), .val (.int v2), .val (.int v3), .val (.ref b7), .val (.int (0 : Int32)), .val (.int (0 : Int32)), .val (.int (0 : Int32)), .val (.int (0 : Int32)), .val (.int (0 : Int32)), .unset, .unset]) (hb hby at_232) rfl ?_
        refine o_iload X18 hx (hb hby at_234) rfl ?_
        refine o_ifYes X18 hx 245 (hb hby at_236) (teq (by decide : (0 : Int32) = (0 : Int32))).1 (by decide) (by decide) ?_
        refine o_iload X18 hx (hb hby at_245) rfl ?_
        refine o_iload X18 hx (hb hby at_247) rfl ?_
        refine o_iload X18 hx (hb hby at_249) rfl ?_
        refine o_iload X18 hx (hb hby at_251) rfl ?_
        refine o_iload X18 hx (hb hby at_253) rfl ?_
        obtain ⟨_, _, ⟨T19, L19, kc19, n19⟩, -, X19, ⟨Lc19, hQ19, l19, y19, z19⟩, st19⟩ := Jvm.LawKit.callS X18 hx (y := yM22) hown5 (mvT hZ5 w50) (mvT hZ5 w51) (mvT hZ5 w52) (mvT hZ5 w53) (by decide) (backOf (W := 0) (rm_match_0_0_e l Z a0 hw []  u0 u1 v2 T9.heap n0 c12 ) hZ5 w53 w52 (by decide) (by decide)) (g := (mkF m 255 #[.val (.int n_), .val (.int a_), .val (.int b_), .val (.int c_), .val (.int d_), .val (.int e_), .val (.int u0), .val (.int u1), .val (.int cd), .val (.int (0 : Int32)), .val (.ref b1), .val (.int v1), .val (.int k2), .val (.int v2), .val (.int v3), .val (.ref b7), .val (.int (0 : Int32)), .val (.int (0 : Int32)), .val (.int (0 : Int32)), .val (.int (0 : Int32)), .val (.int (0 : Int32)), .unset, .unset] [(.int v2), (.int u1), (.int u0), (.int (0 : Int32)), (.int (0 : Int32))])) rfl (by rw [hml]; rfl) (argsL := [(.int (0 : Int32)), (.int (0 : Int32)), (.int u0), (.int u1), (.int v2)]) (rest := []) (lenOf own_pd19 rfl) rfl (by show 2 * 0 + _ ≤ _; exact Nat.le_of_eq rfl) (hb hby at_255) (fun _ _ => ⟨rfl, e18, (by decide : 7 + 0 ≤ _), (by decide : 14 + 0 ≤ _)⟩)
        dsimp only [Pt.U, Pt.locs, Pt.cells, Pt.slots] at X19 l19 y19 z19 st19 hQ19
        subst l19 y19 z19
        obtain ⟨rfl, Nq19, e19⟩ := hQ19
        have N19 := Fr.app N18 Nq19
        refine ogo (S' := T19.setTop (mkF m 258 #[.val (.int n_), .val (.int a_), .val (.int b_), .val (.int c_), .val (.int d_), .val (.int e_), .val (.int u0), .val (.int u1), .val (.int cd), .val (.int (0 : Int32)), .val (.ref b1), .val (.int v1), .val (.int k2), .val (.int v2), .val (.int v3), .val (.ref b7), .val (.int (0 : Int32)), .val (.int (0 : Int32)), .val (.int (0 : Int32)), .val (.int (0 : Int32)), .val (.int (0 : Int32)), .unset, .unset] [(.int (0 : Int32))])) st19 ?_
        refine o_istore X19 hx (l' := #[.val (.int n_), .val (.int a_), .val (.int b_), .val (.int c_), .val (.int d_), .val (.int e_), .val (.int u0), .val (.int u1), .val (.int cd), .val (.int (0 : Int32)), .val (.ref b1), .val (.int v1), .val (.int k2), .val (.int v2), .val (.int v3), .val (.ref b7), .val (.int (0 : Int32)), .val (.int (0 : Int32)), .val (.int (0 : Int32)), .val (.int (0 : Int32)), .val (.int (0 : Int32)), .val (.int (0 : Int32)), .unset]) (hb hby at_258) rfl ?_
        refine o_iload X19 hx (hb hby at_260) rfl ?_
        refine o_ifYes X19 hx 271 (hb hby at_262) (teq (by decide : (0 : Int32) = (0 : Int32))).1 (by decide) (by decide) ?_
        refine o_iload X19 hx (hb hby at_271) rfl ?_
        refine o_iload X19 hx (hb hby at_273) rfl ?_
        refine o_iload X19 hx (hb hby at_275) rfl ?_
        refine o_iload X19 hx (hb hby at_277) rfl ?_
        refine o_iload X19 hx (hb hby at_279) rfl ?_
        obtain ⟨_, _, ⟨T20, L20, kc20, n20⟩, -, X20, ⟨Lc20, hQ20, l20, y20, z20⟩, st20⟩ := Jvm.LawKit.callS X19 hx (y := yM22) hown5 (mvT hZ5 w50) (mvT hZ5 w51) (mvT hZ5 w52) (mvT hZ5 w53) (by decide) (backOf (W := 0) (rm_match_0_0_e l Z a0 hw []  u0 u1 v3 T9.heap n0 c12 ) hZ5 w53 w52 (by decide) (by decide)) (g := (mkF m 281 #[.val (.int n_), .val (.int a_), .val (.int b_), .val (.int c_), .val (.int d_), .val (.int e_), .val (.int u0), .val (.int u1), .val (.int cd), .val (.int (0 : Int32)), .val (.ref b1), .val (.int v1), .val (.int k2), .val (.int v2), .val (.int v3), .val (.ref b7), .val (.int (0 : Int32)), .val (.int (0 : Int32)), .val (.int (0 : Int32)), .val (.int (0 : Int32)), .val (.int (0 : Int32)), .val (.int (0 : Int32)), .unset] [(.int v3), (.int u1), (.int u0), (.int (0 : Int32)), (.int (0 : Int32))])) rfl (by rw [hml]; rfl) (argsL := [(.int (0 : Int32)), (.int (0 : Int32)), (.int u0), (.int u1), (.int v3)]) (rest := []) (lenOf own_pd19 rfl) rfl (by show 2 * 0 + _ ≤ _; exact Nat.le_of_eq rfl) (hb hby at_281) (fun _ _ => ⟨rfl, e19, (by decide : 7 + 0 ≤ _), (by decide : 14 + 0 ≤ _)⟩)
        dsimp only [Pt.U, Pt.locs, Pt.cells, Pt.slots] at X20 l20 y20 z20 st20 hQ20
        subst l20 y20 z20
        obtain ⟨rfl, Nq20, e20⟩ := hQ20
        have N20 := Fr.app N19 Nq20
        refine ogo (S' := T20.setTop (mkF m 284 #[.val (.int n_), .val (.int a_), .val (.int b_), .val (.int c_), .val (.int d_), .val (.int e_), .val (.int u0), .val (.int u1), .val (.int cd), .val (.int (0 : Int32)), .val (.ref b1), .val (.int v1), .val (.int k2), .val (.int v2), .val (.int v3), .val (.ref b7), .val (.int (0 : Int32)), .val (.int (0 : Int32)), .val (.int (0 : Int32)), .val (.int (0 : Int32)), .val (.int (0 : Int32)), .val (.int (0 : Int32)), .unset] [(.int (0 : Int32))])) st20 ?_
        refine o_istore X20 hx (l' := #[.val (.int n_), .val (.int a_), .val (.int b_), .val (.int c_), .val (.int d_), .val (.int e_), .val (.int u0), .val (.int u1), .val (.int cd), .val (.int (0 : Int32)), .val (.ref b1), .val (.int v1), .val (.int k2), .val (.int v2), .val (.int v3), .val (.ref b7), .val (.int (0 : Int32)), .val (.int (0 : Int32)), .val (.int (0 : Int32)), .val (.int (0 : Int32)), .val (.int (0 : Int32)), .val (.int (0 : Int32)), .val (.int (0 : Int32))]) (hb hby at_284) rfl ?_
        refine o_iload X20 hx (hb hby at_286) rfl ?_
        refine o_iload X20 hx (hb hby at_288) rfl ?_
        refine o_icmpNo X20 hx (hb hby at_290) (teq (by decide : (0 : Int32) = (0 : Int32))).2 ?_
        refine o_iload X20 hx (hb hby at_293) rfl ?_
        refine o_iload X20 hx (hb hby at_295) rfl ?_
        refine o_icmpNo X20 hx (hb hby at_297) (teq (by decide : (0 : Int32) = (0 : Int32))).2 ?_
        refine o_iload X20 hx (hb hby at_300) rfl ?_
        refine o_iload X20 hx (hb hby at_302) rfl ?_
        refine o_icmpNo X20 hx (hb hby at_304) (teq (by decide : (0 : Int32) = (0 : Int32))).2 ?_
        refine o_iconst X20 hx (1 : Int32) (hb hby at_307) rfl ?_
        refine o_goto X20 hx 312 (hb hby at_308) (by decide) (by decide) ?_
        refine oendS X20 hlk hS5 (Nat.le_trans (Nat.le_refl _) (Nat.le_trans E7.1 K9.1)) e20 hZ5 hEL hs0 (CHr.trans (CHr.trans (CHr.trans (CHr.trans (CHr.trans (CHr.refl H0) (CHr.ext E1 H0)) (CHr.ext E3 H2)) C5) (CHr.ext E7 H6)) (CHr.keep K9 (allS (Safe.exa hZ5.alike A7 (by decide) (by decide)) all0) H8)) (v := some (.int (1 : Int32))) (fun h => by rw [hret] at h; cases h) (fun fs hr => retN X20 hx (t := .boolean) hret (by simp) (hb hby at_312) hr) (by decide) (by decide) ?_
        show own_Q_law Z _ _ _ _ _ _ _ _ h0 n0 _ T20.heap _
        rw [e20]
        exact ⟨rfl, N20, ((((((Keep.refl h0 []).ext E1).ext E3).trans K5 (allS (Or.inr (Nat.le_trans (Nat.le_refl _) (Nat.le_of_eq g1.symm))) all0)).ext E7).trans K9 (allS (Or.inr (Nat.le_trans (Nat.le_trans (Nat.le_trans E1.1 E3.1) K5.1) (Nat.le_of_eq g7.symm))) all0))⟩
      refine o_iloadN X5 hx (hb hby at_101) rfl ?_
      refine o_iconst X5 hx (2 : Int32) (hb hby at_102) rfl ?_
      refine o_iushr X5 hx (hb hby at_103) ?_
      refine o_iconst X5 hx (1 : Int32) (hb hby at_104) rfl ?_
      refine o_iand X5 hx (hb hby at_105) ?_
      by_cases hc21 : ((own_ushr n_ (2 : Int32)) &&& (1 : Int32)) = (0 : Int32)
      · refine o_ifYes X5 hx 114 (hb hby at_106) (teq hc21).1 (by decide) (by decide) ?_
        refine o_iloadN X5 hx (hb hby at_114) rfl ?_
        refine ogo (S' := T5.setTop (mkF m 117 #[.val (.int n_), .val (.int a_), .val (.int b_), .val (.int c_), .val (.int d_), .val (.int e_), .val (.int u0), .val (.int u1), .val (.int cd), .val (.int (0 : Int32)), .val (.ref b1), .unset, .unset, .unset, .unset, .unset, .unset, .unset, .unset, .unset, .unset, .unset, .unset] [(.int (65535 : Int32)), (.int c_)])) (X5.ldcInt hx hown5 (mvT hZ5 w0) (g := (mkF m 115 #[.val (.int n_), .val (.int a_), .val (.int b_), .val (.int c_), .val (.int d_), .val (.int e_), .val (.int u0), .val (.int u1), .val (.int cd), .val (.int (0 : Int32)), .val (.ref b1), .unset, .unset, .unset, .unset, .unset, .unset, .unset, .unset, .unset, .unset, .unset, .unset] [(.int c_)])) rfl (hb hby at_115)) ?_
        refine o_iand X5 hx (hb hby at_117) ?_
        refine o_i2c X5 hx (hb hby at_118) ?_
        refine o_istore X5 hx (l' := #[.val (.int n_), .val (.int a_), .val (.int b_), .val (.int c_), .val (.int d_), .val (.int e_), .val (.int u0), .val (.int u1), .val (.int cd), .val (.int (0 : Int32)), .val (.ref b1), .val (.int (nar .char (c_ &&& (65535 : Int32)))), .unset, .unset, .unset, .unset, .unset, .unset, .unset, .unset, .unset, .unset, .unset]) (hb hby at_119) rfl ?_
        refine o_iloadN X5 hx (hb hby at_121) rfl ?_
        refine o_iconst X5 hx (3 : Int32) (hb hby at_122) rfl ?_
        refine o_iushr X5 hx (hb hby at_123) ?_
        refine o_iconst X5 hx (3 : Int32) (hb hby at_124) rfl ?_
        refine o_iand X5 hx (hb hby at_125) ?_
        refine o_istore X5 hx (l' := #[.val (.int n_), .val (.int a_), .val (.int b_), .val (.int c_), .val (.int d_), .val (.int e_), .val (.int u0), .val (.int u1), .val (.int cd), .val (.int (0 : Int32)), .val (.ref b1), .val (.int (nar .char (c_ &&& (65535 : Int32)))), .val (.int ((own_ushr n_ (3 : Int32)) &&& (3 : Int32))), .unset, .unset, .unset, .unset, .unset, .unset, .unset, .unset, .unset, .unset]) (hb hby at_126) rfl ?_
        refine o_iload X5 hx (hb hby at_128) rfl ?_
        by_cases hc22 : ((own_ushr n_ (3 : Int32)) &&& (3 : Int32)) = (0 : Int32)
        · refine o_ifNo X5 hx (hb hby at_130) (teq hc22).2 ?_
          refine o_iload X5 hx (hb hby at_133) rfl ?_
          refine ogo (S' := T5.setTop (mkF m 137 #[.val (.int n_), .val (.int a_), .val (.int b_), .val (.int c_), .val (.int d_), .val (.int e_), .val (.int u0), .val (.int u1), .val (.int cd), .val (.int (0 : Int32)), .val (.ref b1), .val (.int (nar .char (c_ &&& (65535 : Int32)))), .val (.int ((own_ushr n_ (3 : Int32)) &&& (3 : Int32))), .unset, .unset, .unset, .unset, .unset, .unset, .unset, .unset, .unset, .unset] [(.int (65535 : Int32)), (.int d_)])) (X5.ldcInt hx hown5 (mvT hZ5 w0) (g := (mkF m 135 #[.val (.int n_), .val (.int a_), .val (.int b_), .val (.int c_), .val (.int d_), .val (.int e_), .val (.int u0), .val (.int u1), .val (.int cd), .val (.int (0 : Int32)), .val (.ref b1), .val (.int (nar .char (c_ &&& (65535 : Int32)))), .val (.int ((own_ushr n_ (3 : Int32)) &&& (3 : Int32))), .unset, .unset, .unset, .unset, .unset, .unset, .unset, .unset, .unset, .unset] [(.int d_)])) rfl (hb hby at_135)) ?_
          refine o_iand X5 hx (hb hby at_137) ?_
          refine o_i2c X5 hx (hb hby at_138) ?_
          refine o_goto X5 hx 155 (hb hby at_139) (by decide) (by decide) ?_
          refine o_istore X5 hx (l' := #[.val (.int n_), .val (.int a_), .val (.int b_), .val (.int c_), .val (.int d_), .val (.int e_), .val (.int u0), .val (.int u1), .val (.int cd), .val (.int (0 : Int32)), .val (.ref b1), .val (.int (nar .char (c_ &&& (65535 : Int32)))), .val (.int ((own_ushr n_ (3 : Int32)) &&& (3 : Int32))), .val (.int (nar .char (d_ &&& (65535 : Int32)))), .unset, .unset, .unset, .unset, .unset, .unset, .unset, .unset, .unset]) (hb hby at_155) rfl ?_
          refine o_iloadN X5 hx (hb hby at_157) rfl ?_
          refine o_iconst X5 hx (5 : Int32) (hb hby at_158) rfl ?_
          refine o_iushr X5 hx (hb hby at_159) ?_
          refine o_iconst X5 hx (1 : Int32) (hb hby at_160) rfl ?_
          refine o_iand X5 hx (hb hby at_161) ?_
          by_cases hc23 : ((own_ushr n_ (5 : Int32)) &&& (1 : Int32)) = (0 : Int32)
          · refine o_ifYes X5 hx 170 (hb hby at_162) (teq hc23).1 (by decide) (by decide) ?_
            refine o_iload X5 hx (hb hby at_170) rfl ?_
            refine ogo (S' := T5.setTop (mkF m 174 #[.val (.int n_), .val (.int a_), .val (.int b_), .val (.int c_), .val (.int d_), .val (.int e_), .val (.int u0), .val (.int u1), .val (.int cd), .val (.int (0 : Int32)), .val (.ref b1), .val (.int (nar .char (c_ &&& (65535 : Int32)))), .val (.int ((own_ushr n_ (3 : Int32)) &&& (3 : Int32))), .val (.int (nar .char (d_ &&& (65535 : Int32)))), .unset, .unset, .unset, .unset, .unset, .unset, .unset, .unset, .unset] [(.int (65535 : Int32)), (.int e_)])) (X5.ldcInt hx hown5 (mvT hZ5 w0) (g := (mkF m 172 #[.val (.int n_), .val (.int a_), .val (.int b_), .val (.int c_), .val (.int d_), .val (.int e_), .val (.int u0), .val (.int u1), .val (.int cd), .val (.int (0 : Int32)), .val (.ref b1), .val (.int (nar .char (c_ &&& (65535 : Int32)))), .val (.int ((own_ushr n_ (3 : Int32)) &&& (3 : Int32))), .val (.int (nar .char (d_ &&& (65535 : Int32)))), .unset, .unset, .unset, .unset, .unset, .unset, .unset, .unset, .unset] [(.int e_)])) rfl (hb hby at_172)) ?_
            refine o_iand X5 hx (hb hby at_174) ?_
            refine o_i2c X5 hx (hb hby at_175) ?_
            refine o_istore X5 hx (l' := #[.val (.int n_), .val (.int a_), .val (.int b_), .val (.int c_), .val (.int d_), .val (.int e_), .val (.int u0), .val (.int u1), .val (.int cd), .val (.int (0 : Int32)), .val (.ref b1), .val (.int (nar .char (c_ &&& (65535 : Int32)))), .val (.int ((own_ushr n_ (3 : Int32)) &&& (3 : Int32))), .val (.int (nar .char (d_ &&& (65535 : Int32)))), .val (.int (nar .char (e_ &&& (65535 : Int32)))), .unset, .unset, .unset, .unset, .unset, .unset, .unset, .unset]) (hb hby at_176) rfl ?_
            exact t2 (nar .char (c_ &&& (65535 : Int32))) (nar .char (d_ &&& (65535 : Int32))) (nar .char (e_ &&& (65535 : Int32))) ((own_ushr n_ (3 : Int32)) &&& (3 : Int32))
          · refine o_ifNo X5 hx (hb hby at_162) (feq hc23).1 ?_
            refine o_iload X5 hx (hb hby at_165) rfl ?_
            refine o_goto X5 hx 176 (hb hby at_167) (by decide) (by decide) ?_
            refine o_istore X5 hx (l' := #[.val (.int n_), .val (.int a_), .val (.int b_), .val (.int c_), .val (.int d_), .val (.int e_), .val (.int u0), .val (.int u1), .val (.int cd), .val (.int (0 : Int32)), .val (.ref b1), .val (.int (nar .char (c_ &&& (65535 : Int32)))), .val (.int ((own_ushr n_ (3 : Int32)) &&& (3 : Int32))), .val (.int (nar .char (d_ &&& (65535 : Int32)))), .val (.int u1), .unset, .unset, .unset, .unset, .unset, .unset, .unset, .unset]) (hb hby at_176) rfl ?_
            exact t2 (nar .char (c_ &&& (65535 : Int32))) (nar .char (d_ &&& (65535 : Int32))) u1 ((own_ushr n_ (3 : Int32)) &&& (3 : Int32))
        · refine o_ifYes X5 hx 142 (hb hby at_130) (feq hc22).2 (by decide) (by decide) ?_
          refine o_iload X5 hx (hb hby at_142) rfl ?_
          refine o_iconst X5 hx (1 : Int32) (hb hby at_144) rfl ?_
          by_cases hc24 : ((own_ushr n_ (3 : Int32)) &&& (3 : Int32)) = (1 : Int32)
          · refine o_icmpNo X5 hx (hb hby at_145) (teq hc24).2 ?_
            refine o_iload X5 hx (hb hby at_148) rfl ?_
            refine o_goto X5 hx 155 (hb hby at_150) (by decide) (by decide) ?_
            refine o_istore X5 hx (l' := #[.val (.int n_), .val (.int a_), .val (.int b_), .val (.int c_), .val (.int d_), .val (.int e_), .val (.int u0), .val (.int u1), .val (.int cd), .val (.int (0 : Int32)), .val (.ref b1), .val (.int (nar .char (c_ &&& (65535 : Int32)))), .val (.int ((own_ushr n_ (3 : Int32)) &&& (3 : Int32))), .val (.int u0), .unset, .unset, .unset, .unset, .unset, .unset, .unset, .unset, .unset]) (hb hby at_155) rfl ?_
            refine o_iloadN X5 hx (hb hby at_157) rfl ?_
            refine o_iconst X5 hx (5 : Int32) (hb hby at_158) rfl ?_
            refine o_iushr X5 hx (hb hby at_159) ?_
            refine o_iconst X5 hx (1 : Int32) (hb hby at_160) rfl ?_
            refine o_iand X5 hx (hb hby at_161) ?_
            by_cases hc25 : ((own_ushr n_ (5 : Int32)) &&& (1 : Int32)) = (0 : Int32)
            · refine o_ifYes X5 hx 170 (hb hby at_162) (teq hc25).1 (by decide) (by decide) ?_
              refine o_iload X5 hx (hb hby at_170) rfl ?_
              refine ogo (S' := T5.setTop (mkF m 174 #[.val (.int n_), .val (.int a_), .val (.int b_), .val (.int c_), .val (.int d_), .val (.int e_), .val (.int u0), .val (.int u1), .val (.int cd), .val (.int (0 : Int32)), .val (.ref b1), .val (.int (nar .char (c_ &&& (65535 : Int32)))), .val (.int ((own_ushr n_ (3 : Int32)) &&& (3 : Int32))), .val (.int u0), .unset, .unset, .unset, .unset, .unset, .unset, .unset, .unset, .unset] [(.int (65535 : Int32)), (.int e_)])) (X5.ldcInt hx hown5 (mvT hZ5 w0) (g := (mkF m 172 #[.val (.int n_), .val (.int a_), .val (.int b_), .val (.int c_), .val (.int d_), .val (.int e_), .val (.int u0), .val (.int u1), .val (.int cd), .val (.int (0 : Int32)), .val (.ref b1), .val (.int (nar .char (c_ &&& (65535 : Int32)))), .val (.int ((own_ushr n_ (3 : Int32)) &&& (3 : Int32))), .val (.int u0), .unset, .unset, .unset, .unset, .unset, .unset, .unset, .unset, .unset] [(.int e_)])) rfl (hb hby at_172)) ?_
              refine o_iand X5 hx (hb hby at_174) ?_
              refine o_i2c X5 hx (hb hby at_175) ?_
              refine o_istore X5 hx (l' := #[.val (.int n_), .val (.int a_), .val (.int b_), .val (.int c_), .val (.int d_), .val (.int e_), .val (.int u0), .val (.int u1), .val (.int cd), .val (.int (0 : Int32)), .val (.ref b1), .val (.int (nar .char (c_ &&& (65535 : Int32)))), .val (.int ((own_ushr n_ (3 : Int32)) &&& (3 : Int32))), .val (.int u0), .val (.int (nar .char (e_ &&& (65535 : Int32)))), .unset, .unset, .unset, .unset, .unset, .unset, .unset, .unset]) (hb hby at_176) rfl ?_
              exact t2 (nar .char (c_ &&& (65535 : Int32))) u0 (nar .char (e_ &&& (65535 : Int32))) ((own_ushr n_ (3 : Int32)) &&& (3 : Int32))
            · refine o_ifNo X5 hx (hb hby at_162) (feq hc25).1 ?_
              refine o_iload X5 hx (hb hby at_165) rfl ?_
              refine o_goto X5 hx 176 (hb hby at_167) (by decide) (by decide) ?_
              refine o_istore X5 hx (l' := #[.val (.int n_), .val (.int a_), .val (.int b_), .val (.int c_), .val (.int d_), .val (.int e_), .val (.int u0), .val (.int u1), .val (.int cd), .val (.int (0 : Int32)), .val (.ref b1), .val (.int (nar .char (c_ &&& (65535 : Int32)))), .val (.int ((own_ushr n_ (3 : Int32)) &&& (3 : Int32))), .val (.int u0), .val (.int u1), .unset, .unset, .unset, .unset, .unset, .unset, .unset, .unset]) (hb hby at_176) rfl ?_
              exact t2 (nar .char (c_ &&& (65535 : Int32))) u0 u1 ((own_ushr n_ (3 : Int32)) &&& (3 : Int32))
          · refine o_icmpYes X5 hx 153 (hb hby at_145) (feq hc24).2 (by decide) (by decide) ?_
            refine o_iload X5 hx (hb hby at_153) rfl ?_
            refine o_istore X5 hx (l' := #[.val (.int n_), .val (.int a_), .val (.int b_), .val (.int c_), .val (.int d_), .val (.int e_), .val (.int u0), .val (.int u1), .val (.int cd), .val (.int (0 : Int32)), .val (.ref b1), .val (.int (nar .char (c_ &&& (65535 : Int32)))), .val (.int ((own_ushr n_ (3 : Int32)) &&& (3 : Int32))), .val (.int u1), .unset, .unset, .unset, .unset, .unset, .unset, .unset, .unset, .unset]) (hb hby at_155) rfl ?_
            refine o_iloadN X5 hx (hb hby at_157) rfl ?_
            refine o_iconst X5 hx (5 : Int32) (hb hby at_158) rfl ?_
            refine o_iushr X5 hx (hb hby at_159) ?_
            refine o_iconst X5 hx (1 : Int32) (hb hby at_160) rfl ?_
            refine o_iand X5 hx (hb hby at_161) ?_
            by_cases hc26 : ((own_ushr n_ (5 : Int32)) &&& (1 : Int32)) = (0 : Int32)
            · refine o_ifYes X5 hx 170 (hb hby at_162) (teq hc26).1 (by decide) (by decide) ?_
              refine o_iload X5 hx (hb hby at_170) rfl ?_
              refine ogo (S' := T5.setTop (mkF m 174 #[.val (.int n_), .val (.int a_), .val (.int b_), .val (.int c_), .val (.int d_), .val (.int e_), .val (.int u0), .val (.int u1), .val (.int cd), .val (.int (0 : Int32)), .val (.ref b1), .val (.int (nar .char (c_ &&& (65535 : Int32)))), .val (.int ((own_ushr n_ (3 : Int32)) &&& (3 : Int32))), .val (.int u1), .unset, .unset, .unset, .unset, .unset, .unset, .unset, .unset, .unset] [(.int (65535 : Int32)), (.int e_)])) (X5.ldcInt hx hown5 (mvT hZ5 w0) (g := (mkF m 172 #[.val (.int n_), .val (.int a_), .val (.int b_), .val (.int c_), .val (.int d_), .val (.int e_), .val (.int u0), .val (.int u1), .val (.int cd), .val (.int (0 : Int32)), .val (.ref b1), .val (.int (nar .char (c_ &&& (65535 : Int32)))), .val (.int ((own_ushr n_ (3 : Int32)) &&& (3 : Int32))), .val (.int u1), .unset, .unset, .unset, .unset, .unset, .unset, .unset, .unset, .unset] [(.int e_)])) rfl (hb hby at_172)) ?_
              refine o_iand X5 hx (hb hby at_174) ?_
              refine o_i2c X5 hx (hb hby at_175) ?_
              refine o_istore X5 hx (l' := #[.val (.int n_), .val (.int a_), .val (.int b_), .val (.int c_), .val (.int d_), .val (.int e_), .val (.int u0), .val (.int u1), .val (.int cd), .val (.int (0 : Int32)), .val (.ref b1), .val (.int (nar .char (c_ &&& (65535 : Int32)))), .val (.int ((own_ushr n_ (3 : Int32)) &&& (3 : Int32))), .val (.int u1), .val (.int (nar .char (e_ &&& (65535 : Int32)))), .unset, .unset, .unset, .unset, .unset, .unset, .unset, .unset]) (hb hby at_176) rfl ?_
              exact t2 (nar .char (c_ &&& (65535 : Int32))) u1 (nar .char (e_ &&& (65535 : Int32))) ((own_ushr n_ (3 : Int32)) &&& (3 : Int32))
            · refine o_ifNo X5 hx (hb hby at_162) (feq hc26).1 ?_
              refine o_iload X5 hx (hb hby at_165) rfl ?_
              refine o_goto X5 hx 176 (hb hby at_167) (by decide) (by decide) ?_
              refine o_istore X5 hx (l' := #[.val (.int n_), .val (.int a_), .val (.int b_), .val (.int c_), .val (.int d_), .val (.int e_), .val (.int u0), .val (.int u1), .val (.int cd), .val (.int (0 : Int32)), .val (.ref b1), .val (.int (nar .char (c_ &&& (65535 : Int32)))), .val (.int ((own_ushr n_ (3 : Int32)) &&& (3 : Int32))), .val (.int u1), .val (.int u1), .unset, .unset, .unset, .unset, .unset, .unset, .unset, .unset]) (hb hby at_176) rfl ?_
              exact t2 (nar .char (c_ &&& (65535 : Int32))) u1 u1 ((own_ushr n_ (3 : Int32)) &&& (3 : Int32))
      · refine o_ifNo X5 hx (hb hby at_106) (feq hc21).1 ?_
        refine o_iload X5 hx (hb hby at_109) rfl ?_
        refine o_goto X5 hx 119 (hb hby at_111) (by decide) (by decide) ?_
        refine o_istore X5 hx (l' := #[.val (.int n_), .val (.int a_), .val (.int b_), .val (.int c_), .val (.int d_), .val (.int e_), .val (.int u0), .val (.int u1), .val (.int cd), .val (.int (0 : Int32)), .val (.ref b1), .val (.int u0), .unset, .unset, .unset, .unset, .unset, .unset, .unset, .unset, .unset, .unset, .unset]) (hb hby at_119) rfl ?_
        refine o_iloadN X5 hx (hb hby at_121) rfl ?_
        refine o_iconst X5 hx (3 : Int32) (hb hby at_122) rfl ?_
        refine o_iushr X5 hx (hb hby at_123) ?_
        refine o_iconst X5 hx (3 : Int32) (hb hby at_124) rfl ?_
        refine o_iand X5 hx (hb hby at_125) ?_
        refine o_istore X5 hx (l' := #[.val (.int n_), .val (.int a_), .val (.int b_), .val (.int c_), .val (.int d_), .val (.int e_), .val (.int u0), .val (.int u1), .val (.int cd), .val (.int (0 : Int32)), .val (.ref b1), .val (.int u0), .val (.int ((own_ushr n_ (3 : Int32)) &&& (3 : Int32))), .unset, .unset, .unset, .unset, .unset, .unset, .unset, .unset, .unset, .unset]) (hb hby at_126) rfl ?_
        refine o_iload X5 hx (hb hby at_128) rfl ?_
        by_cases hc27 : ((own_ushr n_ (3 : Int32)) &&& (3 : Int32)) = (0 : Int32)
        · refine o_ifNo X5 hx (hb hby at_130) (teq hc27).2 ?_
          refine o_iload X5 hx (hb hby at_133) rfl ?_
          refine ogo (S' := T5.setTop (mkF m 137 #[.val (.int n_), .val (.int a_), .val (.int b_), .val (.int c_), .val (.int d_), .val (.int e_), .val (.int u0), .val (.int u1), .val (.int cd), .val (.int (0 : Int32)), .val (.ref b1), .val (.int u0), .val (.int ((own_ushr n_ (3 : Int32)) &&& (3 : Int32))), .unset, .unset, .unset, .unset, .unset, .unset, .unset, .unset, .unset, .unset] [(.int (65535 : Int32)), (.int d_)])) (X5.ldcInt hx hown5 (mvT hZ5 w0) (g := (mkF m 135 #[.val (.int n_), .val (.int a_), .val (.int b_), .val (.int c_), .val (.int d_), .val (.int e_), .val (.int u0), .val (.int u1), .val (.int cd), .val (.int (0 : Int32)), .val (.ref b1), .val (.int u0), .val (.int ((own_ushr n_ (3 : Int32)) &&& (3 : Int32))), .unset, .unset, .unset, .unset, .unset, .unset, .unset, .unset, .unset, .unset] [(.int d_)])) rfl (hb hby at_135)) ?_
          refine o_iand X5 hx (hb hby at_137) ?_
          refine o_i2c X5 hx (hb hby at_138) ?_
          refine o_goto X5 hx 155 (hb hby at_139) (by decide) (by decide) ?_
          refine o_istore X5 hx (l' := #[.val (.int n_), .val (.int a_), .val (.int b_), .val (.int c_), .val (.int d_), .val (.int e_), .val (.int u0), .val (.int u1), .val (.int cd), .val (.int (0 : Int32)), .val (.ref b1), .val (.int u0), .val (.int ((own_ushr n_ (3 : Int32)) &&& (3 : Int32))), .val (.int (nar .char (d_ &&& (65535 : Int32)))), .unset, .unset, .unset, .unset, .unset, .unset, .unset, .unset, .unset]) (hb hby at_155) rfl ?_
          refine o_iloadN X5 hx (hb hby at_157) rfl ?_
          refine o_iconst X5 hx (5 : Int32) (hb hby at_158) rfl ?_
          refine o_iushr X5 hx (hb hby at_159) ?_
          refine o_iconst X5 hx (1 : Int32) (hb hby at_160) rfl ?_
          refine o_iand X5 hx (hb hby at_161) ?_
          by_cases hc28 : ((own_ushr n_ (5 : Int32)) &&& (1 : Int32)) = (0 : Int32)
          · refine o_ifYes X5 hx 170 (hb hby at_162) (teq hc28).1 (by decide) (by decide) ?_
            refine o_iload X5 hx (hb hby at_170) rfl ?_
            refine ogo (S' := T5.setTop (mkF m 174 #[.val (.int n_), .val (.int a_), .val (.int b_), .val (.int c_), .val (.int d_), .val (.int e_), .val (.int u0), .val (.int u1), .val (.int cd), .val (.int (0 : Int32)), .val (.ref b1), .val (.int u0), .val (.int ((own_ushr n_ (3 : Int32)) &&& (3 : Int32))), .val (.int (nar .char (d_ &&& (65535 : Int32)))), .unset, .unset, .unset, .unset, .unset, .unset, .unset, .unset, .unset] [(.int (65535 : Int32)), (.int e_)])) (X5.ldcInt hx hown5 (mvT hZ5 w0) (g := (mkF m 172 #[.val (.int n_), .val (.int a_), .val (.int b_), .val (.int c_), .val (.int d_), .val (.int e_), .val (.int u0), .val (.int u1), .val (.int cd), .val (.int (0 : Int32)), .val (.ref b1), .val (.int u0), .val (.int ((own_ushr n_ (3 : Int32)) &&& (3 : Int32))), .val (.int (nar .char (d_ &&& (65535 : Int32)))), .unset, .unset, .unset, .unset, .unset, .unset, .unset, .unset, .unset] [(.int e_)])) rfl (hb hby at_172)) ?_
            refine o_iand X5 hx (hb hby at_174) ?_
            refine o_i2c X5 hx (hb hby at_175) ?_
            refine o_istore X5 hx (l' := #[.val (.int n_), .val (.int a_), .val (.int b_), .val (.int c_), .val (.int d_), .val (.int e_), .val (.int u0), .val (.int u1), .val (.int cd), .val (.int (0 : Int32)), .val (.ref b1), .val (.int u0), .val (.int ((own_ushr n_ (3 : Int32)) &&& (3 : Int32))), .val (.int (nar .char (d_ &&& (65535 : Int32)))), .val (.int (nar .char (e_ &&& (65535 : Int32)))), .unset, .unset, .unset, .unset, .unset, .unset, .unset, .unset]) (hb hby at_176) rfl ?_
            exact t2 u0 (nar .char (d_ &&& (65535 : Int32))) (nar .char (e_ &&& (65535 : Int32))) ((own_ushr n_ (3 : Int32)) &&& (3 : Int32))
          · refine o_ifNo X5 hx (hb hby at_162) (feq hc28).1 ?_
            refine o_iload X5 hx (hb hby at_165) rfl ?_
            refine o_goto X5 hx 176 (hb hby at_167) (by decide) (by decide) ?_
            refine o_istore X5 hx (l' := #[.val (.int n_), .val (.int a_), .val (.int b_), .val (.int c_), .val (.int d_), .val (.int e_), .val (.int u0), .val (.int u1), .val (.int cd), .val (.int (0 : Int32)), .val (.ref b1), .val (.int u0), .val (.int ((own_ushr n_ (3 : Int32)) &&& (3 : Int32))), .val (.int (nar .char (d_ &&& (65535 : Int32)))), .val (.int u1), .unset, .unset, .unset, .unset, .unset, .unset, .unset, .unset]) (hb hby at_176) rfl ?_
            exact t2 u0 (nar .char (d_ &&& (65535 : Int32))) u1 ((own_ushr n_ (3 : Int32)) &&& (3 : Int32))
        · refine o_ifYes X5 hx 142 (hb hby at_130) (feq hc27).2 (by decide) (by decide) ?_
          refine o_iload X5 hx (hb hby at_142) rfl ?_
          refine o_iconst X5 hx (1 : Int32) (hb hby at_144) rfl ?_
          by_cases hc29 : ((own_ushr n_ (3 : Int32)) &&& (3 : Int32)) = (1 : Int32)
          · refine o_icmpNo X5 hx (hb hby at_145) (teq hc29).2 ?_
            refine o_iload X5 hx (hb hby at_148) rfl ?_
            refine o_goto X5 hx 155 (hb hby at_150) (by decide) (by decide) ?_
            refine o_istore X5 hx (l' := #[.val (.int n_), .val (.int a_), .val (.int b_), .val (.int c_), .val (.int d_), .val (.int e_), .val (.int u0), .val (.int u1), .val (.int cd), .val (.int (0 : Int32)), .val (.ref b1), .val (.int u0), .val (.int ((own_ushr n_ (3 : Int32)) &&& (3 : Int32))), .val (.int u0), .unset, .unset, .unset, .unset, .unset, .unset, .unset, .unset, .unset]) (hb hby at_155) rfl ?_
            refine o_iloadN X5 hx (hb hby at_157) rfl ?_
            refine o_iconst X5 hx (5 : Int32) (hb hby at_158) rfl ?_
            refine o_iushr X5 hx (hb hby at_159) ?_
            refine o_iconst X5 hx (1 : Int32) (hb hby at_160) rfl ?_
            refine o_iand X5 hx (hb hby at_161) ?_
            by_cases hc30 : ((own_ushr n_ (5 : Int32)) &&& (1 : Int32)) = (0 : Int32)
            · refine o_ifYes X5 hx 170 (hb hby at_162) (teq hc30).1 (by decide) (by decide) ?_
              refine o_iload X5 hx (hb hby at_170) rfl ?_
              refine ogo (S' := T5.setTop (mkF m 174 #[.val (.int n_), .val (.int a_), .val (.int b_), .val (.int c_), .val (.int d_), .val (.int e_), .val (.int u0), .val (.int u1), .val (.int cd), .val (.int (0 : Int32)), .val (.ref b1), .val (.int u0), .val (.int ((own_ushr n_ (3 : Int32)) &&& (3 : Int32))), .val (.int u0), .unset, .unset, .unset, .unset, .unset, .unset, .unset, .unset, .unset] [(.int (65535 : Int32)), (.int e_)])) (X5.ldcInt hx hown5 (mvT hZ5 w0) (g := (mkF m 172 #[.val (.int n_), .val (.int a_), .val (.int b_), .val (.int c_), .val (.int d_), .val (.int e_), .val (.int u0), .val (.int u1), .val (.int cd), .val (.int (0 : Int32)), .val (.ref b1), .val (.int u0), .val (.int ((own_ushr n_ (3 : Int32)) &&& (3 : Int32))), .val (.int u0), .unset, .unset, .unset, .unset, .unset, .unset, .unset, .unset, .unset] [(.int e_)])) rfl (hb hby at_172)) ?_
              refine o_iand X5 hx (hb hby at_174) ?_
              refine o_i2c X5 hx (hb hby at_175) ?_
              refine o_istore X5 hx (l' := #[.val (.int n_), .val (.int a_), .val (.int b_), .val (.int c_), .val (.int d_), .val (.int e_), .val (.int u0), .val (.int u1), .val (.int cd), .val (.int (0 : Int32)), .val (.ref b1), .val (.int u0), .val (.int ((own_ushr n_ (3 : Int32)) &&& (3 : Int32))), .val (.int u0), .val (.int (nar .char (e_ &&& (65535 : Int32)))), .unset, .unset, .unset, .unset, .unset, .unset, .unset, .unset]) (hb hby at_176) rfl ?_
              exact t2 u0 u0 (nar .char (e_ &&& (65535 : Int32))) ((own_ushr n_ (3 : Int32)) &&& (3 : Int32))
            · refine o_ifNo X5 hx (hb hby at_162) (feq hc30).1 ?_
              refine o_iload X5 hx (hb hby at_165) rfl ?_
              refine o_goto X5 hx 176 (hb hby at_167) (by decide) (by decide) ?_
              refine o_istore X5 hx (l' := #[.val (.int n_), .val (.int a_), .val (.int b_), .val (.int c_), .val (.int d_), .val (.int e_), .val (.int u0), .val (.int u1), .val (.int cd), .val (.int (0 : Int32)), .val (.ref b1), .val (.int u0), .val (.int ((own_ushr n_ (3 : Int32)) &&& (3 : Int32))), .val (.int u0), .val (.int u1), .unset, .unset, .unset, .unset, .unset, .unset, .unset, .unset]) (hb hby at_176) rfl ?_
              exact t2 u0 u0 u1 ((own_ushr n_ (3 : Int32)) &&& (3 : Int32))
          · refine o_icmpYes X5 hx 153 (hb hby at_145) (feq hc29).2 (by decide) (by decide) ?_
            refine o_iload X5 hx (hb hby at_153) rfl ?_
            refine o_istore X5 hx (l' := #[.val (.int n_), .val (.int a_), .val (.int b_), .val (.int c_), .val (.int d_), .val (.int e_), .val (.int u0), .val (.int u1), .val (.int cd), .val (.int (0 : Int32)), .val (.ref b1), .val (.int u0), .val (.int ((own_ushr n_ (3 : Int32)) &&& (3 : Int32))), .val (.int u1), .unset, .unset, .unset, .unset, .unset, .unset, .unset, .unset, .unset]) (hb hby at_155) rfl ?_
            refine o_iloadN X5 hx (hb hby at_157) rfl ?_
            refine o_iconst X5 hx (5 : Int32) (hb hby at_158) rfl ?_
            refine o_iushr X5 hx (hb hby at_159) ?_
            refine o_iconst X5 hx (1 : Int32) (hb hby at_160) rfl ?_
            refine o_iand X5 hx (hb hby at_161) ?_
            by_cases hc31 : ((own_ushr n_ (5 : Int32)) &&& (1 : Int32)) = (0 : Int32)
            · refine o_ifYes X5 hx 170 (hb hby at_162) (teq hc31).1 (by decide) (by decide) ?_
              refine o_iload X5 hx (hb hby at_170) rfl ?_
              refine ogo (S' := T5.setTop (mkF m 174 #[.val (.int n_), .val (.int a_), .val (.int b_), .val (.int c_), .val (.int d_), .val (.int e_), .val (.int u0), .val (.int u1), .val (.int cd), .val (.int (0 : Int32)), .val (.ref b1), .val (.int u0), .val (.int ((own_ushr n_ (3 : Int32)) &&& (3 : Int32))), .val (.int u1), .unset, .unset, .unset, .unset, .unset, .unset, .unset, .unset, .unset] [(.int (65535 : Int32)), (.int e_)])) (X5.ldcInt hx hown5 (mvT hZ5 w0) (g := (mkF m 172 #[.val (.int n_), .val (.int a_), .val (.int b_), .val (.int c_), .val (.int d_), .val (.int e_), .val (.int u0), .val (.int u1), .val (.int cd), .val (.int (0 : Int32)), .val (.ref b1), .val (.int u0), .val (.int ((own_ushr n_ (3 : Int32)) &&& (3 : Int32))), .val (.int u1), .unset, .unset, .unset, .unset, .unset, .unset, .unset, .unset, .unset] [(.int e_)])) rfl (hb hby at_172)) ?_
              refine o_iand X5 hx (hb hby at_174) ?_
              refine o_i2c X5 hx (hb hby at_175) ?_
              refine o_istore X5 hx (l' := #[.val (.int n_), .val (.int a_), .val (.int b_), .val (.int c_), .val (.int d_), .val (.int e_), .val (.int u0), .val (.int u1), .val (.int cd), .val (.int (0 : Int32)), .val (.ref b1), .val (.int u0), .val (.int ((own_ushr n_ (3 : Int32)) &&& (3 : Int32))), .val (.int u1), .val (.int (nar .char (e_ &&& (65535 : Int32)))), .unset, .unset, .unset, .unset, .unset, .unset, .unset, .unset]) (hb hby at_176) rfl ?_
              exact t2 u0 u1 (nar .char (e_ &&& (65535 : Int32))) ((own_ushr n_ (3 : Int32)) &&& (3 : Int32))
            · refine o_ifNo X5 hx (hb hby at_162) (feq hc31).1 ?_
              refine o_iload X5 hx (hb hby at_165) rfl ?_
              refine o_goto X5 hx 176 (hb hby at_167) (by decide) (by decide) ?_
              refine o_istore X5 hx (l' := #[.val (.int n_), .val (.int a_), .val (.int b_), .val (.int c_), .val (.int d_), .val (.int e_), .val (.int u0), .val (.int u1), .val (.int cd), .val (.int (0 : Int32)), .val (.ref b1), .val (.int u0), .val (.int ((own_ushr n_ (3 : Int32)) &&& (3 : Int32))), .val (.int u1), .val (.int u1), .unset, .unset, .unset, .unset, .unset, .unset, .unset, .unset]) (hb hby at_176) rfl ?_
              exact t2 u0 u1 u1 ((own_ushr n_ (3 : Int32)) &&& (3 : Int32))
    · refine o_iload X0 hx (hb hby at_33) rfl ?_
      refine o_ifYes X0 hx 53 (hb hby at_35) (feq (by decide : ¬ ((1 : Int32) = (0 : Int32)))).2 (by decide) (by decide) ?_
      refine o_iload X0 hx (hb hby at_53) rfl ?_
      refine o_iconst X0 hx (1 : Int32) (hb hby at_55) rfl ?_
      refine o_icmpNo X0 hx (hb hby at_56) (teq (by decide : (1 : Int32) = (1 : Int32))).2 ?_
      obtain ⟨T32, _, X32, rfl, E32, A32, D32, -, st32⟩ := newO X0 hx hZ hown w1 w2 w3 e0 (g := (mkF m 59 #[.val (.int n_), .val (.int a_), .val (.int b_), .val (.int c_), .val (.int d_), .val (.int e_), .val (.int u0), .val (.int u1), .val (.int cd), .val (.int (1 : Int32)), .unset, .unset, .unset, .unset, .unset, .unset, .unset, .unset, .unset, .unset, .unset, .unset, .unset] [])) rfl (hb hby at_59) (by decide) (by decide)
      obtain ⟨b32, g32⟩ : ∃ z, z = h0.size := ⟨_, rfl⟩
      rw [← g32] at A32 D32 st32
      have n0_b32 : n0 ≤ b32 := Nat.le_trans (Nat.le_trans (Nat.le_of_eq O0.1.symm) O0.2.1) (Nat.le_trans (Nat.le_refl _) (Nat.le_of_eq g32.symm))
      have H33 := CHv.ext E32 H0
      have F32_value : Fld Z T32.heap b32 "java/lang/String" "value" "[B" .null := D32 (Or.inr w17) (ty := (.array .byte)) (by decide)
      have F32_coder : Fld Z T32.heap b32 "java/lang/String" "coder" "B" (.int (0 : Int32)) := D32 (Or.inr w18) (ty := .byte) (by decide)
      refine ogo (S' := T32.setTop (mkF m 62 #[.val (.int n_), .val (.int a_), .val (.int b_), .val (.int c_), .val (.int d_), .val (.int e_), .val (.int u0), .val (.int u1), .val (.int cd), .val (.int (1 : Int32)), .unset, .unset, .unset, .unset, .unset, .unset, .unset, .unset, .unset, .unset, .unset, .unset, .unset] [(.ref b32)])) st32 ?_
      refine o_dup X32 hx (hb hby at_62) rfl ?_
      refine o_iconst X32 hx (1 : Int32) (hb hby at_63) rfl ?_
      obtain ⟨T34, _, k34, X34, rfl, E34, A34, Ex34, st34⟩ := newPE (aty := .char) X32 hx hZ w4 rfl (g := (mkF m 64 #[.val (.int n_), .val (.int a_), .val (.int b_), .val (.int c_), .val (.int d_), .val (.int e_), .val (.int u0), .val (.int u1), .val (.int cd), .val (.int (1 : Int32)), .unset, .unset, .unset, .unset, .unset, .unset, .unset, .unset, .unset, .unset, .unset, .unset, .unset] [(.int (1 : Int32)), (.ref b32), (.ref b32)])) rfl (hb hby at_64) rfl (by decide) (cap := 1) (by decide) (by decide) (by decide) (by decide) (ad := "[C") rfl
      obtain ⟨b34, g34⟩ : ∃ z, z = T32.heap.size := ⟨_, rfl⟩
      rw [← g34] at A34 Ex34 st34
      have n0_b34 : n0 ≤ b34 := Nat.le_trans (Nat.le_trans (Nat.le_of_eq O0.1.symm) O0.2.1) (Nat.le_trans E32.1 (Nat.le_of_eq g34.symm))
      have H35 := CHv.ext E34 H33
      have V34 : Arv Z T34.heap b34 k34 .char (1 : Int32) [(.int 0)] (.int 0) := (Arv.new A34 (by decide)).pad (pad_rep [] (.int 0) 1)
      refine ogo (S' := T34.setTop (mkF m 66 #[.val (.int n_), .val (.int a_), .val (.int b_), .val (.int c_), .val (.int d_), .val (.int e_), .val (.int u0), .val (.int u1), .val (.int cd), .val (.int (1 : Int32)), .unset, .unset, .unset, .unset, .unset, .unset, .unset, .unset, .unset, .unset, .unset, .unset, .unset] [(.ref b34), (.ref b32), (.ref b32)])) st34 ?_
      refine o_dup X34 hx (hb hby at_66) rfl ?_
      refine o_iconst X34 hx (0 : Int32) (hb hby at_67) rfl ?_
      refine o_iload X34 hx (hb hby at_68) rfl ?_
      obtain ⟨cl36, Ar36, q36, S36, N36z, H36, G36⟩ := (id V34)
      obtain ⟨T36, _, X36, rfl, W36, st36⟩ := stC X34 hx hZ rfl Ar36 (j := (0 : Int32)) (inb_of S36 ⟨by decide, by decide⟩) (g := (mkF m 70 #[.val (.int n_), .val (.int a_), .val (.int b_), .val (.int c_), .val (.int d_), .val (.int e_), .val (.int u0), .val (.int u1), .val (.int cd), .val (.int (1 : Int32)), .unset, .unset, .unset, .unset, .unset, .unset, .unset, .unset, .unset, .unset, .unset, .unset, .unset] [(.int u0), (.int (0 : Int32)), (.ref b34), (.ref b34), (.ref b32), (.ref b32)])) rfl rfl (hb hby at_70)
      rw [(own_nar16 hcu0)] at W36
      have V36 : Arv Z T36.heap b34 k34 .char (1 : Int32) [(.int u0)] (.int 0) := Arv.set Ar36 q36 S36 N36z H36 G36 (by have q := fits_nar_char u0; rw [(own_nar16 hcu0)] at q; exact q) W36 0 rfl (Nat.le_of_ble_eq_true rfl)
      have N36 := Fr.snoc X36 N0 n0_b34
      have H37 := CHv.wr W36 (Safe.exa hZ.alike Ex34 (by decide) (by decide)) H35
      refine ogo (S' := T36.setTop (mkF m 71 #[.val (.int n_), .val (.int a_), .val (.int b_), .val (.int c_), .val (.int d_), .val (.int e_), .val (.int u0), .val (.int u1), .val (.int cd), .val (.int (1 : Int32)), .unset, .unset, .unset, .unset, .unset, .unset, .unset, .unset, .unset, .unset, .unset, .unset, .unset] [(.ref b34), (.ref b32), (.ref b32)])) st36 ?_
      have c39 := (Fld.other W36 (Fld.ext E34 F32_value) (Or.inl (Nat.ne_of_lt (Nat.lt_of_lt_of_le (Nat.lt_of_lt_of_le A32.lt (Nat.le_refl _)) (Nat.le_of_eq g34.symm)))))
      have c40 := (Fld.other W36 (Fld.ext E34 F32_coder) (Or.inl (Nat.ne_of_lt (Nat.lt_of_lt_of_le (Nat.lt_of_lt_of_le A32.lt (Nat.le_refl _)) (Nat.le_of_eq g34.symm)))))
      have c41 := (Safe.wr W36 (Safe.exa hZ.alike Ex34 (by decide) (by decide)) H35 (Safe.ext E34 H33 (Safe.ext E32 H0 (Safe.new (Nat.le_of_eq g32.symm)))))
      obtain ⟨_, _, ⟨T38, L38, kc38, n38⟩, -, X38, ⟨Lc38, hQ38, l38, y38, z38⟩, st38⟩ := X36.specialBack hx (y := yM10) rfl hown (mvT hZ w5) (mvT hZ w6) (mvT hZ w7) (by decide) (backOf (W := 1) (rm_new1e_1 l Z a0 hw [] z_CS v_FMT b32 b34 k34 u0 T36.heap n0 SB (((O0.ext E32).ext E34).wr W36 n0_b34) (Exa.wr W36 (Exa.ext E34 A32)) c39 c40 V36 n0_b32 hcu0) hZ w7 w3 (by decide) (by decide)) (g := (mkF m 71 #[.val (.int n_), .val (.int a_), .val (.int b_), .val (.int c_), .val (.int d_), .val (.int e_), .val (.int u0), .val (.int u1), .val (.int cd), .val (.int (1 : Int32)), .unset, .unset, .unset, .unset, .unset, .unset, .unset, .unset, .unset, .unset, .unset, .unset, .unset] [(.ref b34), (.ref b32), (.ref b32)])) rfl (by rw [hml]; rfl) (Steps.refl _) (a := b32) (argsL := [(.ref b34)]) (rest := [(.ref b32)]) (lenOf own_pd16 rfl) rfl (by show 2 * 0 + _ ≤ _; exact Nat.le_of_eq rfl) (hb hby at_71) (fun _ _ => ⟨rfl, rfl, (by decide : 2 + 2 ≤ _), (by decide : 5 + 3 ≤ _)⟩)
      dsimp only [Pt.U, Pt.locs, Pt.cells, Pt.slots] at X38 l38 y38 z38 st38 hQ38
      subst l38 y38 z38
      obtain ⟨ba_38, kb_38, cd_38, z_38, vs_38, rfl, Nq38, K38, p38_0, p38_1, p38_2, p38_3, p38_4, p38_5⟩ := hQ38
      have N38 := Fr.app N36 Nq38
      have H42 := CHv.keep K38 (allS c41 all0) H37
      have n0_ba_38 : n0 ≤ ba_38 := Nat.le_trans (Nat.le_trans (Nat.le_of_eq O0.1.symm) O0.2.1) (Nat.le_trans (Nat.le_trans (Nat.le_trans E32.1 E34.1) (Keep.of_wr W36).1) p38_0)
      refine otr (S' := T38.setTop (mkF m 74 #[.val (.int n_), .val (.int a_), .val (.int b_), .val (.int c_), .val (.int d_), .val (.int e_), .val (.int u0), .val (.int u1), .val (.int cd), .val (.int (1 : Int32)), .unset, .unset, .unset, .unset, .unset, .unset, .unset, .unset, .unset, .unset, .unset, .unset, .unset] [(.ref b32)])) st38 ?_
      refine o_astore X38 hx (l' := #[.val (.int n_), .val (.int a_), .val (.int b_), .val (.int c_), .val (.int d_), .val (.int e_), .val (.int u0), .val (.int u1), .val (.int cd), .val (.int (1 : Int32)), .val (.ref b32), .unset, .unset, .unset, .unset, .unset, .unset, .unset, .unset, .unset, .unset, .unset, .unset]) (hb hby at_74) rfl rfl ?_
      refine o_goto X38 hx 101 (hb hby at_76) (by decide) (by decide) ?_
      have t2 : ∀ (v1 v2 v3 k2 : Int32), Own p e below (oPostS Z (own_Q_law Z z_CS v_FMT n_ a_ b_ c_ d_ e_ h0 n0) s 24 1152) (T38.setTop (mkF m 178 #[.val (.int n_), .val (.int a_), .val (.int b_), .val (.int c_), .val (.int d_), .val (.int e_), .val (.int u0), .val (.int u1), .val (.int cd), .val (.int (1 : Int32)), .val (.ref b32), .val (.int v1), .val (.int k2), .val (.int v2), .val (.int v3), .unset, .unset, .unset, .unset, .unset, .unset, .unset, .unset] [])) := by
        intro v1 v2 v3 k2
        obtain ⟨T43, _, X43, rfl, E43, A43, D43, -, st43⟩ := newO X38 hx hZ hown w23 w24 w25 rfl (g := (mkF m 178 #[.val (.int n_), .val (.int a_), .val (.int b_), .val (.int c_), .val (.int d_), .val (.int e_), .val (.int u0), .val (.int u1), .val (.int cd), .val (.int (1 : Int32)), .val (.ref b32), .val (.int v1), .val (.int k2), .val (.int v2), .val (.int v3), .unset, .unset, .unset, .unset, .unset, .unset, .unset, .unset] [])) rfl (hb hby at_178) (by decide) (by decide)
        obtain ⟨b43, g43⟩ : ∃ z, z = T38.heap.size := ⟨_, rfl⟩
        rw [← g43] at A43 D43 st43
        have n0_b43 : n0 ≤ b43 := Nat.le_trans (Nat.le_trans (Nat.le_of_eq O0.1.symm) O0.2.1) (Nat.le_trans (Nat.le_trans (Nat.le_trans (Nat.le_trans E32.1 E34.1) (Keep.of_wr W36).1) K38.1) (Nat.le_of_eq g43.symm))
        have H44 := CHv.ext E43 H42
        have F43_text : Fld Z T43.heap b43 "com/example/rowfold/rowfold/Literal" "text" "Ljava/lang/String;" .null := D43 (Or.inr w31) (ty := (.object "java/lang/String")) (by decide)
        have F43_at : Fld Z T43.heap b43 "com/example/rowfold/rowfold/Literal" "at" "I" (.int (0 : Int32)) := D43 (Or.inl w38) (ty := .int) (by decide)
        refine ogo (S' := T43.setTop (mkF m 181 #[.val (.int n_), .val (.int a_), .val (.int b_), .val (.int c_), .val (.int d_), .val (.int e_), .val (.int u0), .val (.int u1), .val (.int cd), .val (.int (1 : Int32)), .val (.ref b32), .val (.int v1), .val (.int k2), .val (.int v2), .val (.int v3), .unset, .unset, .unset, .unset, .unset, .unset, .unset, .unset] [(.ref b43)])) st43 ?_
        refine o_dup X43 hx (hb hby at_181) rfl ?_
        refine o_aload X43 hx (hb hby at_182) rfl rfl ?_
        have c46 := (((((O0.ext E32).ext E34).wr W36 n0_b34).keep K38 (allS n0_b32 all0)).ext E43)
        obtain ⟨_, _, ⟨T45, L45, kc45, n45⟩, -, X45, ⟨Lc45, hQ45, l45, y45, z45⟩, st45⟩ := X43.specialBack hx (y := yM0) rfl hown (mvT hZ w26) (mvT hZ w27) (mvT hZ w28) (by decide) (backOf (W := 1) (rm_linit l Z a0 hw []  b43 b32 T43.heap n0 c46 A43 F43_text F43_at n0_b43) hZ w28 w25 (by decide) (by decide)) (g := (mkF m 184 #[.val (.int n_), .val (.int a_), .val (.int b_), .val (.int c_), .val (.int d_), .val (.int e_), .val (.int u0), .val (.int u1), .val (.int cd), .val (.int (1 : Int32)), .val (.ref b32), .val (.int v1), .val (.int k2), .val (.int v2), .val (.int v3), .unset, .unset, .unset, .unset, .unset, .unset, .unset, .unset] [(.ref b32), (.ref b43), (.ref b43)])) rfl (by rw [hml]; rfl) (Steps.refl _) (a := b43) (argsL := [(.ref b32)]) (rest := [(.ref b43)]) (lenOf own_pd17 rfl) rfl (by show 2 * 0 + _ ≤ _; exact Nat.le_of_eq rfl) (hb hby at_184) (fun _ _ => ⟨rfl, rfl, (by decide : 5 + 0 ≤ _), (by decide : 10 + 0 ≤ _)⟩)
        dsimp only [Pt.U, Pt.locs, Pt.cells, Pt.slots] at X45 l45 y45 z45 st45 hQ45
        subst l45 y45 z45
        obtain ⟨rfl, Nq45, K45, p45_0, p45_1, p45_2⟩ := hQ45
        have N45 := Fr.app N38 Nq45
        have H47 := CHv.keep K45 (allS (Safe.exa hZ.alike A43 (by decide) (by decide)) all0) H44
        refine otr (S' := T45.setTop (mkF m 187 #[.val (.int n_), .val (.int a_), .val (.int b_), .val (.int c_), .val (.int d_), .val (.int e_), .val (.int u0), .val (.int u1), .val (.int cd), .val (.int (1 : Int32)), .val (.ref b32), .val (.int v1), .val (.int k2), .val (.int v2), .val (.int v3), .unset, .unset, .unset, .unset, .unset, .unset, .unset, .unset] [(.ref b43)])) st45 ?_
        refine o_astore X45 hx (l' := #[.val (.int n_), .val (.int a_), .val (.int b_), .val (.int c_), .val (.int d_), .val (.int e_), .val (.int u0), .val (.int u1), .val (.int cd), .val (.int (1 : Int32)), .val (.ref b32), .val (.int v1), .val (.int k2), .val (.int v2), .val (.int v3), .val (.ref b43), .unset, .unset, .unset, .unset, .unset, .unset, .unset]) (hb hby at_187) rfl rfl ?_
        refine o_aload X45 hx (hb hby at_189) rfl rfl ?_
        refine o_iload X45 hx (hb hby at_191) rfl ?_
        by_cases hc48 : u0 = v1
        · have c50 := ((Fld.ext E43 p38_4).keep K45 (ninS (Nat.ne_of_lt (Nat.lt_of_lt_of_le (Nat.lt_of_lt_of_le A32.lt (Nat.le_trans (Nat.le_trans E34.1 (Keep.of_wr W36).1) K38.1)) (Nat.le_of_eq g43.symm))) nin0))
          have c51 := ((Fld.ext E43 p38_3).keep K45 (ninS (Nat.ne_of_lt (Nat.lt_of_lt_of_le (Nat.lt_of_lt_of_le A32.lt (Nat.le_trans (Nat.le_trans E34.1 (Keep.of_wr W36).1) K38.1)) (Nat.le_of_eq g43.symm))) nin0))
          have c52 := ((p38_1.ext E43).keep K45 (ninS (Nat.ne_of_lt (Nat.lt_of_lt_of_le (Nat.lt_of_lt_of_le p38_1.lt (Nat.le_refl _)) (Nat.le_of_eq g43.symm))) nin0))
          obtain ⟨cq49, kq49, q49a, q49b, q49c⟩ := isOf hZ rfl p45_0
          obtain ⟨_, _, ⟨T49, L49, kc49, n49⟩, -, X49, ⟨Lc49, hQ49, l49, y49, z49⟩, st49⟩ := X45.virtualBack hx (y := yM13) (z := yM13) hown (mvT hZ w32) (mvT hZ w33) (notFace_of_selects (args := #[]) (mvT hZ w35)) (mvT hZ w35) (mvT hZ w34) (by decide) (backOf (W := 0) (rm_skipT_1_0 l Z a0 hw [] z_CS v_FMT b43 b32 ba_38 kb_38 cd_38 z_38 vs_38 u0 v1 T45.heap n0 SB (c46.keep K45 (allS n0_b43 all0)) p45_0 p45_1 p45_2 ((Exa.ext E43 p38_2).keep K45) c50 c51 c52 p38_5 hcu0 hc48 n0_b43) hZ w36 w25 (by decide) (by decide)) q49a q49c (g := (mkF m 193 #[.val (.int n_), .val (.int a_), .val (.int b_), .val (.int c_), .val (.int d_), .val (.int e_), .val (.int u0), .val (.int u1), .val (.int cd), .val (.int (1 : Int32)), .val (.ref b32), .val (.int v1), .val (.int k2), .val (.int v2), .val (.int v3), .val (.ref b43), .unset, .unset, .unset, .unset, .unset, .unset, .unset] [(.int v1), (.ref b43)])) rfl (by rw [hml]; rfl) (Steps.refl _) (argsL := [(.int v1)]) (rest := []) (lenOf own_pd18 rfl) rfl (by show 2 * 0 + _ ≤ _; exact Nat.le_of_eq rfl) (hb hby at_193) (fun _ _ => ⟨rfl, rfl, (by decide : 5 + 0 ≤ _), (by decide : 10 + 0 ≤ _)⟩)
          dsimp only [Pt.U, Pt.locs, Pt.cells, Pt.slots] at X49 l49 y49 z49 st49 hQ49
          subst l49 y49 z49
          obtain ⟨rfl, Nq49, K49, p49_0, p49_1, p49_2⟩ := hQ49
          have N49 := Fr.app N45 Nq49
          have H53 := CHv.keep K49 (allS (Safe.exa hZ.alike p45_0 (by decide) (by decide)) all0) H47
          refine otr (S' := T49.setTop (mkF m 196 #[.val (.int n_), .val (.int a_), .val (.int b_), .val (.int c_), .val (.int d_), .val (.int e_), .val (.int u0), .val (.int u1), .val (.int cd), .val (.int (1 : Int32)), .val (.ref b32), .val (.int v1), .val (.int k2), .val (.int v2), .val (.int v3), .val (.ref b43), .unset, .unset, .unset, .unset, .unset, .unset, .unset] [(.int (1 : Int32))])) st49 ?_
          refine o_istore X49 hx (l' := #[.val (.int n_), .val (.int a_), .val (.int b_), .val (.int c_), .val (.int d_), .val (.int e_), .val (.int u0), .val (.int u1), .val (.int cd), .val (.int (1 : Int32)), .val (.ref b32), .val (.int v1), .val (.int k2), .val (.int v2), .val (.int v3), .val (.ref b43), .val (.int (1 : Int32)), .unset, .unset, .unset, .unset, .unset, .unset]) (hb hby at_196) rfl ?_
          refine o_aload X49 hx (hb hby at_198) rfl rfl ?_
          refine o_iload X49 hx (hb hby at_200) rfl ?_
          have c55 := ((c46.keep K45 (allS n0_b43 all0)).keep K49 (allS n0_b43 all0))
          have c56 := (c50.keep K49 (ninS (Nat.ne_of_lt (Nat.lt_of_lt_of_le (Nat.lt_of_lt_of_le A32.lt (Nat.le_trans (Nat.le_trans E34.1 (Keep.of_wr W36).1) K38.1)) (Nat.le_of_eq g43.symm))) nin0))
          have c57 := (c51.keep K49 (ninS (Nat.ne_of_lt (Nat.lt_of_lt_of_le (Nat.lt_of_lt_of_le A32.lt (Nat.le_trans (Nat.le_trans E34.1 (Keep.of_wr W36).1) K38.1)) (Nat.le_of_eq g43.symm))) nin0))
          have c58 := (c52.keep K49 (ninS (Nat.ne_of_lt (Nat.lt_of_lt_of_le (Nat.lt_of_lt_of_le p38_1.lt (Nat.le_refl _)) (Nat.le_of_eq g43.symm))) nin0))
          obtain ⟨cq54, kq54, q54a, q54b, q54c⟩ := isOf hZ rfl p49_0
          obtain ⟨_, _, ⟨T54, L54, kc54, n54⟩, -, X54, ⟨Lc54, hQ54, l54, y54, z54⟩, st54⟩ := X49.virtualBack hx (y := yM13) (z := yM13) hown (mvT hZ w32) (mvT hZ w33) (notFace_of_selects (args := #[]) (mvT hZ w35)) (mvT hZ w35) (mvT hZ w34) (by decide) (backOf (W := 0) (rm_skipE_1 l Z a0 hw [] z_CS v_FMT b43 b32 ba_38 kb_38 cd_38 z_38 vs_38 u0 v2 T49.heap n0 SB c55 p49_0 p49_1 p49_2 (((Exa.ext E43 p38_2).keep K45).keep K49) c56 c57 c58 p38_5) hZ w36 w25 (by decide) (by decide)) q54a q54c (g := (mkF m 202 #[.val (.int n_), .val (.int a_), .val (.int b_), .val (.int c_), .val (.int d_), .val (.int e_), .val (.int u0), .val (.int u1), .val (.int cd), .val (.int (1 : Int32)), .val (.ref b32), .val (.int v1), .val (.int k2), .val (.int v2), .val (.int v3), .val (.ref b43), .val (.int (1 : Int32)), .unset, .unset, .unset, .unset, .unset, .unset] [(.int v2), (.ref b43)])) rfl (by rw [hml]; rfl) (Steps.refl _) (argsL := [(.int v2)]) (rest := []) (lenOf own_pd18 rfl) rfl (by show 2 * 0 + _ ≤ _; exact Nat.le_of_eq rfl) (hb hby at_202) (fun _ _ => ⟨rfl, rfl, (by decide : 5 + 0 ≤ _), (by decide : 10 + 0 ≤ _)⟩)
          dsimp only [Pt.U, Pt.locs, Pt.cells, Pt.slots] at X54 l54 y54 z54 st54 hQ54
          subst l54 y54 z54
          obtain ⟨rfl, Nq54, e54⟩ := hQ54
          have N54 := Fr.app N49 Nq54
          refine otr (S' := T54.setTop (mkF m 205 #[.val (.int n_), .val (.int a_), .val (.int b_), .val (.int c_), .val (.int d_), .val (.int e_), .val (.int u0), .val (.int u1), .val (.int cd), .val (.int (1 : Int32)), .val (.ref b32), .val (.int v1), .val (.int k2), .val (.int v2), .val (.int v3), .val (.ref b43), .val (.int (1 : Int32)), .unset, .unset, .unset, .unset, .unset, .unset] [(.int (0 : Int32))])) st54 ?_
          refine o_istore X54 hx (l' := #[.val (.int n_), .val (.int a_), .val (.int b_), .val (.int c_), .val (.int d_), .val (.int e_), .val (.int u0), .val (.int u1), .val (.int cd), .val (.int (1 : Int32)), .val (.ref b32), .val (.int v1), .val (.int k2), .val (.int v2), .val (.int v3), .val (.ref b43), .val (.int (1 : Int32)), .val (.int (0 : Int32)), .unset, .unset, .unset, .unset, .unset]) (hb hby at_205) rfl ?_
          refine o_aload X54 hx (hb hby at_207) rfl rfl ?_
          refine o_iload X54 hx (hb hby at_209) rfl ?_
          obtain ⟨cq59, kq59, q59a, q59b, q59c⟩ := isOf hZ e54 p49_0
          obtain ⟨_, _, ⟨T59, L59, kc59, n59⟩, -, X59, ⟨Lc59, hQ59, l59, y59, z59⟩, st59⟩ := X54.virtualBack hx (y := yM13) (z := yM13) hown (mvT hZ w32) (mvT hZ w33) (notFace_of_selects (args := #[]) (mvT hZ w35)) (mvT hZ w35) (mvT hZ w34) (by decide) (backOf (W := 0) (rm_skipE_1 l Z a0 hw [] z_CS v_FMT b43 b32 ba_38 kb_38 cd_38 z_38 vs_38 u0 v3 T49.heap n0 SB c55 p49_0 p49_1 p49_2 (((Exa.ext E43 p38_2).keep K45).keep K49) c56 c57 c58 p38_5) hZ w36 w25 (by decide) (by decide)) q59a q59c (g := (mkF m 211 #[.val (.int n_), .val (.int a_), .val (.int b_), .val (.int c_), .val (.int d_), .val (.int e_), .val (.int u0), .val (.int u1), .val (.int cd), .val (.int (1 : Int32)), .val (.ref b32), .val (.int v1), .val (.int k2), .val (.int v2), .val (.int v3), .val (.ref b43), .val (.int (1 : Int32)), .val (.int (0 : Int32)), .unset, .unset, .unset, .unset, .unset] [(.int v3), (.ref b43)])) rfl (by rw [hml]; rfl) (Steps.refl _) (argsL := [(.int v3)]) (rest := []) (lenOf own_pd18 rfl) rfl (by show 2 * 0 + _ ≤ _; exact Nat.le_of_eq rfl) (hb hby at_211) (fun _ _ => ⟨rfl, e54, (by decide : 5 + 0 ≤ _), (by decide : 10 + 0 ≤ _)⟩)
          dsimp only [Pt.U, Pt.locs, Pt.cells, Pt.slots] at X59 l59 y59 z59 st59 hQ59
          subst l59 y59 z59
          obtain ⟨rfl, Nq59, e59⟩ := hQ59
          have N59 := Fr.app N54 Nq59
          refine otr (S' := T59.setTop (mkF m 214 #[.val (.int n_), .val (.int a_), .val (.int b_), .val (.int c_), .val (.int d_), .val (.int e_), .val (.int u0), .val (.int u1), .val (.int cd), .val (.int (1 : Int32)), .val (.ref b32), .val (.int v1), .val (.int k2), .val (.int v2), .val (.int v3), .val (.ref b43), .val (.int (1 : Int32)), .val (.int (0 : Int32)), .unset, .unset, .unset, .unset, .unset] [(.int (0 : Int32))])) st59 ?_
          refine o_istore X59 hx (l' := #[.val (.int n_), .val (.int a_), .val (.int b_), .val (.int c_), .val (.int d_), .val (.int e_), .val (.int u0), .val (.int u1), .val (.int cd), .val (.int (1 : Int32)), .val (.ref b32), .val (.int v1), .val (.int k2), .val (.int v2), .val (.int v3), .val (.ref b43), .val (.int (1 : Int32)), .val (.int (0 : Int32)), .val (.int (0 : Int32)), .unset, .unset, .unset, .unset]) (hb hby at_214) rfl ?_
          refine o_iconst X59 hx (0 : Int32) (hb hby at_216) rfl ?_
          refine o_istore X59 hx (l' := #[.val (.int n_), .val (.int a_), .val (.int b_), .val (.int c_), .val (.int d_), .val (.int e_), .val (.int u0), .val (.int u1), .val (.int cd), .val (.int (1 : Int32)), .val (.ref b32), .val (.int v1), .val (.int k2), .val (.int v2), .val (.int v3), .val (.ref b43), .val (.int (1 : Int32)), .val (.int (0 : Int32)), .val (.int (0 : Int32)), .val (.int (0 : Int32)), .unset, .unset, .unset]) (hb hby at_217) rfl ?_
          refine o_iload X59 hx (hb hby at_219) rfl ?_
          refine o_iload X59 hx (hb hby at_221) rfl ?_
          refine o_iload X59 hx (hb hby at_223) rfl ?_
          refine o_iload X59 hx (hb hby at_225) rfl ?_
          refine o_iload X59 hx (hb hby at_227) rfl ?_
          obtain ⟨_, _, ⟨T60, L60, kc60, n60⟩, -, X60, ⟨Lc60, hQ60, l60, y60, z60⟩, st60⟩ := Jvm.LawKit.callS X59 hx (y := yM22) hown (mvT hZ w50) (mvT hZ w51) (mvT hZ w52) (mvT hZ w53) (by decide) (backOf (W := 0) (rm_match_0_1_t l Z a0 hw []  u0 u1 v1 T49.heap n0 c55 hc48) hZ w53 w52 (by decide) (by decide)) (g := (mkF m 229 #[.val (.int n_), .val (.int a_), .val (.int b_), .val (.int c_), .val (.int d_), .val (.int e_), .val (.int u0), .val (.int u1), .val (.int cd), .val (.int (1 : Int32)), .val (.ref b32), .val (.int v1), .val (.int k2), .val (.int v2), .val (.int v3), .val (.ref b43), .val (.int (1 : Int32)), .val (.int (0 : Int32)), .val (.int (0 : Int32)), .val (.int (0 : Int32)), .unset, .unset, .unset] [(.int v1), (.int u1), (.int u0), (.int (1 : Int32)), (.int (0 : Int32))])) rfl (by rw [hml]; rfl) (argsL := [(.int (0 : Int32)), (.int (1 : Int32)), (.int u0), (.int u1), (.int v1)]) (rest := []) (lenOf own_pd19 rfl) rfl (by show 2 * 0 + _ ≤ _; exact Nat.le_of_eq rfl) (hb hby at_229) (fun _ _ => ⟨rfl, e59, (by decide : 5 + 0 ≤ _), (by decide : 10 + 0 ≤ _)⟩)
          dsimp only [Pt.U, Pt.locs, Pt.cells, Pt.slots] at X60 l60 y60 z60 st60 hQ60
          subst l60 y60 z60
          obtain ⟨rfl, Nq60, e60⟩ := hQ60
          have N60 := Fr.app N59 Nq60
          refine ogo (S' := T60.setTop (mkF m 232 #[.val (.int n_), .val (.int a_), .val (.int b_), .val (.int c_), .val (.int d_), .val (.int e_), .val (.int u0), .val (.int u1), .val (.int cd), .val (.int (1 : Int32)), .val (.ref b32), .val (.int v1), .val (.int k2), .val (.int v2), .val (.int v3), .val (.ref b43), .val (.int (1 : Int32)), .val (.int (0 : Int32)), .val (.int (0 : Int32)), .val (.int (0 : Int32)), .unset, .unset, .unset] [(.int (1 : Int32))])) st60 ?_
          refine o_istore X60 hx (l' := #[.val (.int n_), .val (.int a_), .val (.int b_), .val (.int c_), .val (.int d_), .val (.int e_), .val (.int u0), .val (.int u1), .val (.int cd), .val (.int (1 : Int32)), .val (.ref b32), .val (.int v1), .val (.int k2), .val (.int v2), .val (.int v3), .val (.ref b43), .val (.int (1 : Int32)), .val (.int (0 : Int32)), .val (.int (0 : Int32)), .val (.int (0 : Int32)), .val (.int (1 : Int32)), .unset, .unset]) (hb hby at_232) rfl ?_
          refine o_iload X60 hx (hb hby at_234) rfl ?_
          refine o_ifNo X60 hx (hb hby at_236) (feq (by decide : ¬ ((1 : Int32) = (0 : Int32)))).1 ?_
          refine o_iload X60 hx (hb hby at_239) rfl ?_
          refine o_iconst X60 hx (1 : Int32) (hb hby at_241) rfl ?_
          refine o_iadd X60 hx (hb hby at_242) ?_
          refine o_istore X60 hx (l' := #[.val (.int n_), .val (.int a_), .val (.int b_), .val (.int c_), .val (.int d_), .val (.int e_), .val (.int u0), .val (.int u1), .val (.int cd), .val (.int (1 : Int32)), .val (.ref b32), .val (.int v1), .val (.int k2), .val (.int v2), .val (.int v3), .val (.ref b43), .val (.int (1 : Int32)), .val (.int (0 : Int32)), .val (.int (0 : Int32)), .val (.int (1 : Int32)), .val (.int (1 : Int32)), .unset, .unset]) (hb hby at_243) rfl ?_
          refine o_iload X60 hx (hb hby at_245) rfl ?_
          refine o_iload X60 hx (hb hby at_247) rfl ?_
          refine o_iload X60 hx (hb hby at_249) rfl ?_
          refine o_iload X60 hx (hb hby at_251) rfl ?_
          refine o_iload X60 hx (hb hby at_253) rfl ?_
          obtain ⟨_, _, ⟨T61, L61, kc61, n61⟩, -, X61, ⟨Lc61, hQ61, l61, y61, z61⟩, st61⟩ := Jvm.LawKit.callS X60 hx (y := yM22) hown (mvT hZ w50) (mvT hZ w51) (mvT hZ w52) (mvT hZ w53) (by decide) (backOf (W := 0) (rm_match_1_1_e l Z a0 hw []  u0 u1 v2 T49.heap n0 c55 ) hZ w53 w52 (by decide) (by decide)) (g := (mkF m 255 #[.val (.int n_), .val (.int a_), .val (.int b_), .val (.int c_), .val (.int d_), .val (.int e_), .val (.int u0), .val (.int u1), .val (.int cd), .val (.int (1 : Int32)), .val (.ref b32), .val (.int v1), .val (.int k2), .val (.int v2), .val (.int v3), .val (.ref b43), .val (.int (1 : Int32)), .val (.int (0 : Int32)), .val (.int (0 : Int32)), .val (.int (1 : Int32)), .val (.int (1 : Int32)), .unset, .unset] [(.int v2), (.int u1), (.int u0), (.int (1 : Int32)), (.int (1 : Int32))])) rfl (by rw [hml]; rfl) (argsL := [(.int (1 : Int32)), (.int (1 : Int32)), (.int u0), (.int u1), (.int v2)]) (rest := []) (lenOf own_pd19 rfl) rfl (by show 2 * 0 + _ ≤ _; exact Nat.le_of_eq rfl) (hb hby at_255) (fun _ _ => ⟨rfl, e60, (by decide : 5 + 0 ≤ _), (by decide : 10 + 0 ≤ _)⟩)
          dsimp only [Pt.U, Pt.locs, Pt.cells, Pt.slots] at X61 l61 y61 z61 st61 hQ61
          subst l61 y61 z61
          obtain ⟨rfl, Nq61, e61⟩ := hQ61
          have N61 := Fr.app N60 Nq61
          refine ogo (S' := T61.setTop (mkF m 258 #[.val (.int n_), .val (.int a_), .val (.int b_), .val (.int c_), .val (.int d_), .val (.int e_), .val (.int u0), .val (.int u1), .val (.int cd), .val (.int (1 : Int32)), .val (.ref b32), .val (.int v1), .val (.int k2), .val (.int v2), .val (.int v3), .val (.ref b43), .val (.int (1 : Int32)), .val (.int (0 : Int32)), .val (.int (0 : Int32)), .val (.int (1 : Int32)), .val (.int (1 : Int32)), .unset, .unset] [(.int (0 : Int32))])) st61 ?_
          refine o_istore X61 hx (l' := #[.val (.int n_), .val (.int a_), .val (.int b_), .val (.int c_), .val (.int d_), .val (.int e_), .val (.int u0), .val (.int u1), .val (.int cd), .val (.int (1 : Int32)), .val (.ref b32), .val (.int v1), .val (.int k2), .val (.int v2), .val (.int v3), .val (.ref b43), .val (.int (1 : Int32)), .val (.int (0 : Int32)), .val (.int (0 : Int32)), .val (.int (1 : Int32)), .val (.int (1 : Int32)), .val (.int (0 : Int32)), .unset]) (hb hby at_258) rfl ?_
          refine o_iload X61 hx (hb hby at_260) rfl ?_
          refine o_ifYes X61 hx 271 (hb hby at_262) (teq (by decide : (0 : Int32) = (0 : Int32))).1 (by decide) (by decide) ?_
          refine o_iload X61 hx (hb hby at_271) rfl ?_
          refine o_iload X61 hx (hb hby at_273) rfl ?_
          refine o_iload X61 hx (hb hby at_275) rfl ?_
          refine o_iload X61 hx (hb hby at_277) rfl ?_
          refine o_iload X61 hx (hb hby at_279) rfl ?_
          obtain ⟨_, _, ⟨T62, L62, kc62, n62⟩, -, X62, ⟨Lc62, hQ62, l62, y62, z62⟩, st62⟩ := Jvm.LawKit.callS X61 hx (y := yM22) hown (mvT hZ w50) (mvT hZ w51) (mvT hZ w52) (mvT hZ w53) (by decide) (backOf (W := 0) (rm_match_1_1_e l Z a0 hw []  u0 u1 v3 T49.heap n0 c55 ) hZ w53 w52 (by decide) (by decide)) (g := (mkF m 281 #[.val (.int n_), .val (.int a_), .val (.int b_), .val (.int c_), .val (.int d_), .val (.int e_), .val (.int u0), .val (.int u1), .val (.int cd), .val (.int (1 : Int32)), .val (.ref b32), .val (.int v1), .val (.int k2), .val (.int v2), .val (.int v3), .val (.ref b43), .val (.int (1 : Int32)), .val (.int (0 : Int32)), .val (.int (0 : Int32)), .val (.int (1 : Int32)), .val (.int (1 : Int32)), .val (.int (0 : Int32)), .unset] [(.int v3), (.int u1), (.int u0), (.int (1 : Int32)), (.int (1 : Int32))])) rfl (by rw [hml]; rfl) (argsL := [(.int (1 : Int32)), (.int (1 : Int32)), (.int u0), (.int u1), (.int v3)]) (rest := []) (lenOf own_pd19 rfl) rfl (by show 2 * 0 + _ ≤ _; exact Nat.le_of_eq rfl) (hb hby at_281) (fun _ _ => ⟨rfl, e61, (by decide : 5 + 0 ≤ _), (by decide : 10 + 0 ≤ _)⟩)
          dsimp only [Pt.U, Pt.locs, Pt.cells, Pt.slots] at X62 l62 y62 z62 st62 hQ62
          subst l62 y62 z62
          obtain ⟨rfl, Nq62, e62⟩ := hQ62
          have N62 := Fr.app N61 Nq62
          refine ogo (S' := T62.setTop (mkF m 284 #[.val (.int n_), .val (.int a_), .val (.int b_), .val (.int c_), .val (.int d_), .val (.int e_), .val (.int u0), .val (.int u1), .val (.int cd), .val (.int (1 : Int32)), .val (.ref b32), .val (.int v1), .val (.int k2), .val (.int v2), .val (.int v3), .val (.ref b43), .val (.int (1 : Int32)), .val (.int (0 : Int32)), .val (.int (0 : Int32)), .val (.int (1 : Int32)), .val (.int (1 : Int32)), .val (.int (0 : Int32)), .unset] [(.int (0 : Int32))])) st62 ?_
          refine o_istore X62 hx (l' := #[.val (.int n_), .val (.int a_), .val (.int b_), .val (.int c_), .val (.int d_), .val (.int e_), .val (.int u0), .val (.int u1), .val (.int cd), .val (.int (1 : Int32)), .val (.ref b32), .val (.int v1), .val (.int k2), .val (.int v2), .val (.int v3), .val (.ref b43), .val (.int (1 : Int32)), .val (.int (0 : Int32)), .val (.int (0 : Int32)), .val (.int (1 : Int32)), .val (.int (1 : Int32)), .val (.int (0 : Int32)), .val (.int (0 : Int32))]) (hb hby at_284) rfl ?_
          refine o_iload X62 hx (hb hby at_286) rfl ?_
          refine o_iload X62 hx (hb hby at_288) rfl ?_
          refine o_icmpNo X62 hx (hb hby at_290) (teq (by decide : (1 : Int32) = (1 : Int32))).2 ?_
          refine o_iload X62 hx (hb hby at_293) rfl ?_
          refine o_iload X62 hx (hb hby at_295) rfl ?_
          refine o_icmpNo X62 hx (hb hby at_297) (teq (by decide : (0 : Int32) = (0 : Int32))).2 ?_
          refine o_iload X62 hx (hb hby at_300) rfl ?_
          refine o_iload X62 hx (hb hby at_302) rfl ?_
          refine o_icmpNo X62 hx (hb hby at_304) (teq (by decide : (0 : Int32) = (0 : Int32))).2 ?_
          refine o_iconst X62 hx (1 : Int32) (hb hby at_307) rfl ?_
          refine o_goto X62 hx 312 (hb hby at_308) (by decide) (by decide) ?_
          refine oendS X62 hlk hS0 (Nat.le_trans (Nat.zero_le _) (Nat.le_trans (Nat.le_trans (Nat.le_trans (Nat.le_trans (Nat.le_trans (Nat.le_trans E32.1 E34.1) (Keep.of_wr W36).1) K38.1) E43.1) K45.1) K49.1)) e62 hZ hEL hs0 (CHr.trans (CHr.trans (CHr.trans (CHr.trans (CHr.trans (CHr.trans (CHr.trans (CHr.refl H0) (CHr.ext E32 H0)) (CHr.ext E34 H33)) (CHr.wr W36 (Safe.exa hZ.alike Ex34 (by decide) (by decide)) H35)) (CHr.keep K38 (allS c41 all0) H37)) (CHr.ext E43 H42)) (CHr.keep K45 (allS (Safe.exa hZ.alike A43 (by decide) (by decide)) all0) H44)) (CHr.keep K49 (allS (Safe.exa hZ.alike p45_0 (by decide) (by decide)) all0) H47)) (v := some (.int (1 : Int32))) (fun h => by rw [hret] at h; cases h) (fun fs hr => retN X62 hx (t := .boolean) hret (by simp) (hb hby at_312) hr) (by decide) (by decide) ?_
          show own_Q_law Z _ _ _ _ _ _ _ _ h0 n0 _ T62.heap _
          rw [e62]
          exact ⟨rfl, N62, ((((((((Keep.refl h0 []).ext E32).ext E34).wr W36 (Or.inr (Nat.le_trans E32.1 (Nat.le_of_eq g34.symm)))).trans K38 (allS (Or.inr (Nat.le_trans (Nat.le_refl _) (Nat.le_of_eq g32.symm))) all0)).ext E43).trans K45 (allS (Or.inr (Nat.le_trans (Nat.le_trans (Nat.le_trans (Nat.le_trans E32.1 E34.1) (Keep.of_wr W36).1) K38.1) (Nat.le_of_eq g43.symm))) all0)).trans K49 (allS (Or.inr (Nat.le_trans (Nat.le_trans (Nat.le_trans (Nat.le_trans E32.1 E34.1) (Keep.of_wr W36).1) K38.1) (Nat.le_of_eq g43.symm))) all0))⟩
        · have c64 := ((Fld.ext E43 p38_4).keep K45 (ninS (Nat.ne_of_lt (Nat.lt_of_lt_of_le (Nat.lt_of_lt_of_le A32.lt (Nat.le_trans (Nat.le_trans E34.1 (Keep.of_wr W36).1) K38.1)) (Nat.le_of_eq g43.symm))) nin0))
          have c65 := ((Fld.ext E43 p38_3).keep K45 (ninS (Nat.ne_of_lt (Nat.lt_of_lt_of_le (Nat.lt_of_lt_of_le A32.lt (Nat.le_trans (Nat.le_trans E34.1 (Keep.of_wr W36).1) K38.1)) (Nat.le_of_eq g43.symm))) nin0))
          have c66 := ((p38_1.ext E43).keep K45 (ninS (Nat.ne_of_lt (Nat.lt_of_lt_of_le (Nat.lt_of_lt_of_le p38_1.lt (Nat.le_refl _)) (Nat.le_of_eq g43.symm))) nin0))
          obtain ⟨cq63, kq63, q63a, q63b, q63c⟩ := isOf hZ rfl p45_0
          obtain ⟨_, _, ⟨T63, L63, kc63, n63⟩, -, X63, ⟨Lc63, hQ63, l63, y63, z63⟩, st63⟩ := X45.virtualBack hx (y := yM13) (z := yM13) hown (mvT hZ w32) (mvT hZ w33) (notFace_of_selects (args := #[]) (mvT hZ w35)) (mvT hZ w35) (mvT hZ w34) (by decide) (backOf (W := 0) (rm_skipF_1_0 l Z a0 hw [] z_CS v_FMT b43 b32 ba_38 kb_38 cd_38 z_38 vs_38 u0 v1 T45.heap n0 SB (c46.keep K45 (allS n0_b43 all0)) p45_0 p45_1 p45_2 ((Exa.ext E43 p38_2).keep K45) c64 c65 c66 p38_5 hcu0 hc48) hZ w36 w25 (by decide) (by decide)) q63a q63c (g := (mkF m 193 #[.val (.int n_), .val (.int a_), .val (.int b_), .val (.int c_), .val (.int d_), .val (.int e_), .val (.int u0), .val (.int u1), .val (.int cd), .val (.int (1 : Int32)), .val (.ref b32), .val (.int v1), .val (.int k2), .val (.int v2), .val (.int v3), .val (.ref b43), .unset, .unset, .unset, .unset, .unset, .unset, .unset] [(.int v1), (.ref b43)])) rfl (by rw [hml]; rfl) (Steps.refl _) (argsL := [(.int v1)]) (rest := []) (lenOf own_pd18 rfl) rfl (by show 2 * 0 + _ ≤ _; exact Nat.le_of_eq rfl) (hb hby at_193) (fun _ _ => ⟨rfl, rfl, (by decide : 5 + 0 ≤ _), (by decide : 10 + 0 ≤ _)⟩)
          dsimp only [Pt.U, Pt.locs, Pt.cells, Pt.slots] at X63 l63 y63 z63 st63 hQ63
          subst l63 y63 z63
          obtain ⟨rfl, Nq63, e63⟩ := hQ63
          have N63 := Fr.app N45 Nq63
          refine otr (S' := T63.setTop (mkF m 196 #[.val (.int n_), .val (.int a_), .val (.int b_), .val (.int c_), .val (.int d_), .val (.int e_), .val (.int u0), .val (.int u1), .val (.int cd), .val (.int (1 : Int32)), .val (.ref b32), .val (.int v1), .val (.int k2), .val (.int v2), .val (.int v3), .val (.ref b43), .unset, .unset, .unset, .unset, .unset, .unset, .unset] [(.int (0 : Int32))])) st63 ?_
          refine o_istore X63 hx (l' := #[.val (.int n_), .val (.int a_), .val (.int b_), .val (.int c_), .val (.int d_), .val (.int e_), .val (.int u0), .val (.int u1), .val (.int cd), .val (.int (1 : Int32)), .val (.ref b32), .val (.int v1), .val (.int k2), .val (.int v2), .val (.int v3), .val (.ref b43), .val (.int (0 : Int32)), .unset, .unset, .unset, .unset, .unset, .unset]) (hb hby at_196) rfl ?_
          refine o_aload X63 hx (hb hby at_198) rfl rfl ?_
          refine o_iload X63 hx (hb hby at_200) rfl ?_
          by_cases hc67 : u0 = v2
          · obtain ⟨cq68, kq68, q68a, q68b, q68c⟩ := isOf hZ e63 p45_0
            obtain ⟨_, _, ⟨T68, L68, kc68, n68⟩, -, X68, ⟨Lc68, hQ68, l68, y68, z68⟩, st68⟩ := X63.virtualBack hx (y := yM13) (z := yM13) hown (mvT hZ w32) (mvT hZ w33) (notFace_of_selects (args := #[]) (mvT hZ w35)) (mvT hZ w35) (mvT hZ w34) (by decide) (backOf (W := 0) (rm_skipT_1_0 l Z a0 hw [] z_CS v_FMT b43 b32 ba_38 kb_38 cd_38 z_38 vs_38 u0 v2 T45.heap n0 SB (c46.keep K45 (allS n0_b43 all0)) p45_0 p45_1 p45_2 ((Exa.ext E43 p38_2).keep K45) c64 c65 c66 p38_5 hcu0 hc67 n0_b43) hZ w36 w25 (by decide) (by decide)) q68a q68c (g := (mkF m 202 #[.val (.int n_), .val (.int a_), .val (.int b_), .val (.int c_), .val (.int d_), .val (.int e_), .val (.int u0), .val (.int u1), .val (.int cd), .val (.int (1 : Int32)), .val (.ref b32), .val (.int v1), .val (.int k2), .val (.int v2), .val (.int v3), .val (.ref b43), .val (.int (0 : Int32)), .unset, .unset, .unset, .unset, .unset, .unset] [(.int v2), (.ref b43)])) rfl (by rw [hml]; rfl) (Steps.refl _) (argsL := [(.int v2)]) (rest := []) (lenOf own_pd18 rfl) rfl (by show 2 * 0 + _ ≤ _; exact Nat.le_of_eq rfl) (hb hby at_202) (fun _ _ => ⟨rfl, e63, (by decide : 5 + 0 ≤ _), (by decide : 10 + 0 ≤ _)⟩)
            dsimp only [Pt.U, Pt.locs, Pt.cells, Pt.slots] at X68 l68 y68 z68 st68 hQ68
            subst l68 y68 z68
            obtain ⟨rfl, Nq68, K68, p68_0, p68_1, p68_2⟩ := hQ68
            have N68 := Fr.app N63 Nq68
            have H69 := CHv.keep K68 (allS (Safe.exa hZ.alike p45_0 (by decide) (by decide)) all0) H47
            refine otr (S' := T68.setTop (mkF m 205 #[.val (.int n_), .val (.int a_), .val (.int b_), .val (.int c_), .val (.int d_), .val (.int e_), .val (.int u0), .val (.int u1), .val (.int cd), .val (.int (1 : Int32)), .val (.ref b32), .val (.int v1), .val (.int k2), .val (.int v2), .val (.int v3), .val (.ref b43), .val (.int (0 : Int32)), .unset, .unset, .unset, .unset, .unset, .unset] [(.int (1 : Int32))])) st68 ?_
            refine o_istore X68 hx (l' := #[.val (.int n_), .val (.int a_), .val (.int b_), .val (.int c_), .val (.int d_), .val (.int e_), .val (.int u0), .val (.int u1), .val (.int cd), .val (.int (1 : Int32)), .val (.ref b32), .val (.int v1), .val (.int k2), .val (.int v2), .val (.int v3), .val (.ref b43), .val (.int (0 : Int32)), .val (.int (1 : Int32)), .unset, .unset, .unset, .unset, .unset]) (hb hby at_205) rfl ?_
            refine o_aload X68 hx (hb hby at_207) rfl rfl ?_
            refine o_iload X68 hx (hb hby at_209) rfl ?_
            have c71 := ((c46.keep K45 (allS n0_b43 all0)).keep K68 (allS n0_b43 all0))
            have c72 := (c64.keep K68 (ninS (Nat.ne_of_lt (Nat.lt_of_lt_of_le (Nat.lt_of_lt_of_le A32.lt (Nat.le_trans (Nat.le_trans E34.1 (Keep.of_wr W36).1) K38.1)) (Nat.le_of_eq g43.symm))) nin0))
            have c73 := (c65.keep K68 (ninS (Nat.ne_of_lt (Nat.lt_of_lt_of_le (Nat.lt_of_lt_of_le A32.lt (Nat.le_trans (Nat.le_trans E34.1 (Keep.of_wr W36).1) K38.1)) (Nat.le_of_eq g43.symm))) nin0))
            have c74 := (c66.keep K68 (ninS (Nat.ne_of_lt (Nat.lt_of_lt_of_le (Nat.lt_of_lt_of_le p38_1.lt (Nat.le_refl _)) (Nat.le_of_eq g43.symm))) nin0))
            obtain ⟨cq70, kq70, q70a, q70b, q70c⟩ := isOf hZ rfl p68_0
            obtain ⟨_, _, ⟨T70, L70, kc70, n70⟩, -, X70, ⟨Lc70, hQ70, l70, y70, z70⟩, st70⟩ := X68.virtualBack hx (y := yM13) (z := yM13) hown (mvT hZ w32) (mvT hZ w33) (notFace_of_selects (args := #[]) (mvT hZ w35)) (mvT hZ w35) (mvT hZ w34) (by decide) (backOf (W := 0) (rm_skipE_1 l Z a0 hw [] z_CS v_FMT b43 b32 ba_38 kb_38 cd_38 z_38 vs_38 u0 v3 T68.heap n0 SB c71 p68_0 p68_1 p68_2 (((Exa.ext E43 p38_2).keep K45).keep K68) c72 c73 c74 p38_5) hZ w36 w25 (by decide) (by decide)) q70a q70c (g := (mkF m 211 #[.val (.int n_), .val (.int a_), .val (.int b_), .val (.int c_), .val (.int d_), .val (.int e_), .val (.int u0), .val (.int u1), .val (.int cd), .val (.int (1 : Int32)), .val (.ref b32), .val (.int v1), .val (.int k2), .val (.int v2), .val (.int v3), .val (.ref b43), .val (.int (0 : Int32)), .val (.int (1 : Int32)), .unset, .unset, .unset, .unset, .unset] [(.int v3), (.ref b43)])) rfl (by rw [hml]; rfl) (Steps.refl _) (argsL := [(.int v3)]) (rest := []) (lenOf own_pd18 rfl) rfl (by show 2 * 0 + _ ≤ _; exact Nat.le_of_eq rfl) (hb hby at_211) (fun _ _ => ⟨rfl, rfl, (by decide : 5 + 0 ≤ _), (by decide : 10 + 0 ≤ _)⟩)
            dsimp only [Pt.U, Pt.locs, Pt.cells, Pt.slots] at X70 l70 y70 z70 st70 hQ70
            subst l70 y70 z70
            obtain ⟨rfl, Nq70, e70⟩ := hQ70
            have N70 := Fr.app N68 Nq70
            refine otr (S' := T70.setTop (mkF m 214 #[.val (.int n_), .val (.int a_), .val (.int b_), .val (.int c_), .val (.int d_), .val (.int e_), .val (.int u0), .val (.int u1), .val (.int cd), .val (.int (1 : Int32)), .val (.ref b32), .val (.int v1), .val (.int k2), .val (.int v2), .val (.int v3), .val (.ref b43), .val (.int (0 : Int32)), .val (.int (1 : Int32)), .unset, .unset, .unset, .unset, .unset] [(.int (0 : Int32))])) st70 ?_
            refine o_istore X70 hx (l' := #[.val (.int n_), .val (.int a_), .val (.int b_), .val (.int c_), .val (.int d_), .val (.int e_), .val (.int u0), .val (.int u1), .val (.int cd), .val (.int (1 : Int32)), .val (.ref b32), .val (.int v1), .val (.int k2), .val (.int v2), .val (.int v3), .val (.ref b43), .val (.int (0 : Int32)), .val (.int (1 : Int32)), .val (.int (0 : Int32)), .unset, .unset, .unset, .unset]) (hb hby at_214) rfl ?_
            refine o_iconst X70 hx (0 : Int32) (hb hby at_216) rfl ?_
            refine o_istore X70 hx (l' := #[.val (.int n_), .val (.int a_), .val (.int b_), .val (.int c_), .val (.int d_), .val (.int e_), .val (.int u0), .val (.int u1), .val (.int cd), .val (.int (1 : Int32)), .val (.ref b32), .val (.int v1), .val (.int k2), .val (.int v2), .val (.int v3), .val (.ref b43), .val (.int (0 : Int32)), .val (.int (1 : Int32)), .val (.int (0 : Int32)), .val (.int (0 : Int32)), .unset, .unset, .unset]) (hb hby at_217) rfl ?_
            refine o_iload X70 hx (hb hby at_219) rfl ?_
            refine o_iload X70 hx (hb hby at_221) rfl ?_
            refine o_iload X70 hx (hb hby at_223) rfl ?_
            refine o_iload X70 hx (hb hby at_225) rfl ?_
            refine o_iload X70 hx (hb hby at_227) rfl ?_
            obtain ⟨_, _, ⟨T75, L75, kc75, n75⟩, -, X75, ⟨Lc75, hQ75, l75, y75, z75⟩, st75⟩ := Jvm.LawKit.callS X70 hx (y := yM22) hown (mvT hZ w50) (mvT hZ w51) (mvT hZ w52) (mvT hZ w53) (by decide) (backOf (W := 0) (rm_match_0_1_f l Z a0 hw []  u0 u1 v1 T68.heap n0 c71 hc48) hZ w53 w52 (by decide) (by decide)) (g := (mkF m 229 #[.val (.int n_), .val (.int a_), .val (.int b_), .val (.int c_), .val (.int d_), .val (.int e_), .val (.int u0), .val (.int u1), .val (.int cd), .val (.int (1 : Int32)), .val (.ref b32), .val (.int v1), .val (.int k2), .val (.int v2), .val (.int v3), .val (.ref b43), .val (.int (0 : Int32)), .val (.int (1 : Int32)), .val (.int (0 : Int32)), .val (.int (0 : Int32)), .unset, .unset, .unset] [(.int v1), (.int u1), (.int u0), (.int (1 : Int32)), (.int (0 : Int32))])) rfl (by rw [hml]; rfl) (argsL := [(.int (0 : Int32)), (.int (1 : Int32)), (.int u0), (.int u1), (.int v1)]) (rest := []) (lenOf own_pd19 rfl) rfl (by show 2 * 0 + _ ≤ _; exact Nat.le_of_eq rfl) (hb hby at_229) (fun _ _ => ⟨rfl, e70, (by decide : 5 + 0 ≤ _), (by decide : 10 + 0 ≤ _)⟩)
            dsimp only [Pt.U, Pt.locs, Pt.cells, Pt.slots] at X75 l75 y75 z75 st75 hQ75
            subst l75 y75 z75
            obtain ⟨rfl, Nq75, e75⟩ := hQ75
            have N75 := Fr.app N70 Nq75
            refine ogo (S' := T75.setTop (mkF m 232 #[.val (.int n_), .val (.int a_), .val (.int b_), .val (.int c_), .val (.int d_), .val (.int e_), .val (.int u0), .val (.int u1), .val (.int cd), .val (.int (1 : Int32)), .val (.ref b32), .val (.int v1), .val (.int k2), .val (.int v2), .val (.int v3), .val (.ref b43), .val (.int (0 : Int32)), .val (.int (1 : Int32)), .val (.int (0 : Int32)), .val (.int (0 : Int32)), .unset, .unset, .unset] [(.int (0 : Int32))])) st75 ?_
            refine o_istore X75 hx (l' := #[.val (.int n_), .val (.int a_), .val (.int b_), .val (.int c_), .val (.int d_), .val (.int e_), .val (.int u0), .val (.int u1), .val (.int cd), .val (.int (1 : Int32)), .val (.ref b32), .val (.int v1), .val (.int k2), .val (.int v2), .val (.int v3), .val (.ref b43), .val (.int (0 : Int32)), .val (.int (1 : Int32)), .val (.int (0 : Int32)), .val (.int (0 : Int32)), .val (.int (0 : Int32)), .unset, .unset]) (hb hby at_232) rfl ?_
            refine o_iload X75 hx (hb hby at_234) rfl ?_
            refine o_ifYes X75 hx 245 (hb hby at_236) (teq (by decide : (0 : Int32) = (0 : Int32))).1 (by decide) (by decide) ?_
            refine o_iload X75 hx (hb hby at_245) rfl ?_
            refine o_iload X75 hx (hb hby at_247) rfl ?_
            refine o_iload X75 hx (hb hby at_249) rfl ?_
            refine o_iload X75 hx (hb hby at_251) rfl ?_
            refine o_iload X75 hx (hb hby at_253) rfl ?_
            obtain ⟨_, _, ⟨T76, L76, kc76, n76⟩, -, X76, ⟨Lc76, hQ76, l76, y76, z76⟩, st76⟩ := Jvm.LawKit.callS X75 hx (y := yM22) hown (mvT hZ w50) (mvT hZ w51) (mvT hZ w52) (mvT hZ w53) (by decide) (backOf (W := 0) (rm_match_0_1_t l Z a0 hw []  u0 u1 v2 T68.heap n0 c71 hc67) hZ w53 w52 (by decide) (by decide)) (g := (mkF m 255 #[.val (.int n_), .val (.int a_), .val (.int b_), .val (.int c_), .val (.int d_), .val (.int e_), .val (.int u0), .val (.int u1), .val (.int cd), .val (.int (1 : Int32)), .val (.ref b32), .val (.int v1), .val (.int k2), .val (.int v2), .val (.int v3), .val (.ref b43), .val (.int (0 : Int32)), .val (.int (1 : Int32)), .val (.int (0 : Int32)), .val (.int (0 : Int32)), .val (.int (0 : Int32)), .unset, .unset] [(.int v2), (.int u1), (.int u0), (.int (1 : Int32)), (.int (0 : Int32))])) rfl (by rw [hml]; rfl) (argsL := [(.int (0 : Int32)), (.int (1 : Int32)), (.int u0), (.int u1), (.int v2)]) (rest := []) (lenOf own_pd19 rfl) rfl (by show 2 * 0 + _ ≤ _; exact Nat.le_of_eq rfl) (hb hby at_255) (fun _ _ => ⟨rfl, e75, (by decide : 5 + 0 ≤ _), (by decide : 10 + 0 ≤ _)⟩)
            dsimp only [Pt.U, Pt.locs, Pt.cells, Pt.slots] at X76 l76 y76 z76 st76 hQ76
            subst l76 y76 z76
            obtain ⟨rfl, Nq76, e76⟩ := hQ76
            have N76 := Fr.app N75 Nq76
            refine ogo (S' := T76.setTop (mkF m 258 #[.val (.int n_), .val (.int a_), .val (.int b_), .val (.int c_), .val (.int d_), .val (.int e_), .val (.int u0), .val (.int u1), .val (.int cd), .val (.int (1 : Int32)), .val (.ref b32), .val (.int v1), .val (.int k2), .val (.int v2), .val (.int v3), .val (.ref b43), .val (.int (0 : Int32)), .val (.int (1 : Int32)), .val (.int (0 : Int32)), .val (.int (0 : Int32)), .val (.int (0 : Int32)), .unset, .unset] [(.int (1 : Int32))])) st76 ?_
            refine o_istore X76 hx (l' := #[.val (.int n_), .val (.int a_), .val (.int b_), .val (.int c_), .val (.int d_), .val (.int e_), .val (.int u0), .val (.int u1), .val (.int cd), .val (.int (1 : Int32)), .val (.ref b32), .val (.int v1), .val (.int k2), .val (.int v2), .val (.int v3), .val (.ref b43), .val (.int (0 : Int32)), .val (.int (1 : Int32)), .val (.int (0 : Int32)), .val (.int (0 : Int32)), .val (.int (0 : Int32)), .val (.int (1 : Int32)), .unset]) (hb hby at_258) rfl ?_
            refine o_iload X76 hx (hb hby at_260) rfl ?_
            refine o_ifNo X76 hx (hb hby at_262) (feq (by decide : ¬ ((1 : Int32) = (0 : Int32)))).1 ?_
            refine o_iload X76 hx (hb hby at_265) rfl ?_
            refine o_iconst X76 hx (1 : Int32) (hb hby at_267) rfl ?_
            refine o_iadd X76 hx (hb hby at_268) ?_
            refine o_istore X76 hx (l' := #[.val (.int n_), .val (.int a_), .val (.int b_), .val (.int c_), .val (.int d_), .val (.int e_), .val (.int u0), .val (.int u1), .val (.int cd), .val (.int (1 : Int32)), .val (.ref b32), .val (.int v1), .val (.int k2), .val (.int v2), .val (.int v3), .val (.ref b43), .val (.int (0 : Int32)), .val (.int (1 : Int32)), .val (.int (0 : Int32)), .val (.int (1 : Int32)), .val (.int (0 : Int32)), .val (.int (1 : Int32)), .unset]) (hb hby at_269) rfl ?_
            refine o_iload X76 hx (hb hby at_271) rfl ?_
            refine o_iload X76 hx (hb hby at_273) rfl ?_
            refine o_iload X76 hx (hb hby at_275) rfl ?_
            refine o_iload X76 hx (hb hby at_277) rfl ?_
            refine o_iload X76 hx (hb hby at_279) rfl ?_
            obtain ⟨_, _, ⟨T77, L77, kc77, n77⟩, -, X77, ⟨Lc77, hQ77, l77, y77, z77⟩, st77⟩ := Jvm.LawKit.callS X76 hx (y := yM22) hown (mvT hZ w50) (mvT hZ w51) (mvT hZ w52) (mvT hZ w53) (by decide) (backOf (W := 0) (rm_match_1_1_e l Z a0 hw []  u0 u1 v3 T68.heap n0 c71 ) hZ w53 w52 (by decide) (by decide)) (g := (mkF m 281 #[.val (.int n_), .val (.int a_), .val (.int b_), .val (.int c_), .val (.int d_), .val (.int e_), .val (.int u0), .val (.int u1), .val (.int cd), .val (.int (1 : Int32)), .val (.ref b32), .val (.int v1), .val (.int k2), .val (.int v2), .val (.int v3), .val (.ref b43), .val (.int (0 : Int32)), .val (.int (1 : Int32)), .val (.int (0 : Int32)), .val (.int (1 : Int32)), .val (.int (0 : Int32)), .val (.int (1 : Int32)), .unset] [(.int v3), (.int u1), (.int u0), (.int (1 : Int32)), (.int (1 : Int32))])) rfl (by rw [hml]; rfl) (argsL := [(.int (1 : Int32)), (.int (1 : Int32)), (.int u0), (.int u1), (.int v3)]) (rest := []) (lenOf own_pd19 rfl) rfl (by show 2 * 0 + _ ≤ _; exact Nat.le_of_eq rfl) (hb hby at_281) (fun _ _ => ⟨rfl, e76, (by decide : 5 + 0 ≤ _), (by decide : 10 + 0 ≤ _)⟩)
            dsimp only [Pt.U, Pt.locs, Pt.cells, Pt.slots] at X77 l77 y77 z77 st77 hQ77
            subst l77 y77 z77
            obtain ⟨rfl, Nq77, e77⟩ := hQ77
            have N77 := Fr.app N76 Nq77
            refine ogo (S' := T77.setTop (mkF m 284 #[.val (.int n_), .val (.int a_), .val (.int b_), .val (.int c_), .val (.int d_), .val (.int e_), .val (.int u0), .val (.int u1), .val (.int cd), .val (.int (1 : Int32)), .val (.ref b32), .val (.int v1), .val (.int k2), .val (.int v2), .val (.int v3), .val (.ref b43), .val (.int (0 : Int32)), .val (.int (1 : Int32)), .val (.int (0 : Int32)), .val (.int (1 : Int32)), .val (.int (0 : Int32)), .val (.int (1 : Int32)), .unset] [(.int (0 : Int32))])) st77 ?_
            refine o_istore X77 hx (l' := #[.val (.int n_), .val (.int a_), .val (.int b_), .val (.int c_), .val (.int d_), .val (.int e_), .val (.int u0), .val (.int u1), .val (.int cd), .val (.int (1 : Int32)), .val (.ref b32), .val (.int v1), .val (.int k2), .val (.int v2), .val (.int v3), .val (.ref b43), .val (.int (0 : Int32)), .val (.int (1 : Int32)), .val (.int (0 : Int32)), .val (.int (1 : Int32)), .val (.int (0 : Int32)), .val (.int (1 : Int32)), .val (.int (0 : Int32))]) (hb hby at_284) rfl ?_
            refine o_iload X77 hx (hb hby at_286) rfl ?_
            refine o_iload X77 hx (hb hby at_288) rfl ?_
            refine o_icmpNo X77 hx (hb hby at_290) (teq (by decide : (0 : Int32) = (0 : Int32))).2 ?_
            refine o_iload X77 hx (hb hby at_293) rfl ?_
            refine o_iload X77 hx (hb hby at_295) rfl ?_
            refine o_icmpNo X77 hx (hb hby at_297) (teq (by decide : (1 : Int32) = (1 : Int32))).2 ?_
            refine o_iload X77 hx (hb hby at_300) rfl ?_
            refine o_iload X77 hx (hb hby at_302) rfl ?_
            refine o_icmpNo X77 hx (hb hby at_304) (teq (by decide : (0 : Int32) = (0 : Int32))).2 ?_
            refine o_iconst X77 hx (1 : Int32) (hb hby at_307) rfl ?_
            refine o_goto X77 hx 312 (hb hby at_308) (by decide) (by decide) ?_
            refine oendS X77 hlk hS0 (Nat.le_trans (Nat.zero_le _) (Nat.le_trans (Nat.le_trans (Nat.le_trans (Nat.le_trans (Nat.le_trans (Nat.le_trans E32.1 E34.1) (Keep.of_wr W36).1) K38.1) E43.1) K45.1) K68.1)) e77 hZ hEL hs0 (CHr.trans (CHr.trans (CHr.trans (CHr.trans (CHr.trans (CHr.trans (CHr.trans (CHr.refl H0) (CHr.ext E32 H0)) (CHr.ext E34 H33)) (CHr.wr W36 (Safe.exa hZ.alike Ex34 (by decide) (by decide)) H35)) (CHr.keep K38 (allS c41 all0) H37)) (CHr.ext E43 H42)) (CHr.keep K45 (allS (Safe.exa hZ.alike A43 (by decide) (by decide)) all0) H44)) (CHr.keep K68 (allS (Safe.exa hZ.alike p45_0 (by decide) (by decide)) all0) H47)) (v := some (.int (1 : Int32))) (fun h => by rw [hret] at h; cases h) (fun fs hr => retN X77 hx (t := .boolean) hret (by simp) (hb hby at_312) hr) (by decide) (by decide) ?_
            show own_Q_law Z _ _ _ _ _ _ _ _ h0 n0 _ T77.heap _
            rw [e77]
            exact ⟨rfl, N77, ((((((((Keep.refl h0 []).ext E32).ext E34).wr W36 (Or.inr (Nat.le_trans E32.1 (Nat.le_of_eq g34.symm)))).trans K38 (allS (Or.inr (Nat.le_trans (Nat.le_refl _) (Nat.le_of_eq g32.symm))) all0)).ext E43).trans K45 (allS (Or.inr (Nat.le_trans (Nat.le_trans (Nat.le_trans (Nat.le_trans E32.1 E34.1) (Keep.of_wr W36).1) K38.1) (Nat.le_of_eq g43.symm))) all0)).trans K68 (allS (Or.inr (Nat.le_trans (Nat.le_trans (Nat.le_trans (Nat.le_trans E32.1 E34.1) (Keep.of_wr W36).1) K38.1) (Nat.le_of_eq g43.symm))) all0))⟩
          · obtain ⟨cq78, kq78, q78a, q78b, q78c⟩ := isOf hZ e63 p45_0
            obtain ⟨_, _, ⟨T78, L78, kc78, n78⟩, -, X78, ⟨Lc78, hQ78, l78, y78, z78⟩, st78⟩ := X63.virtualBack hx (y := yM13) (z := yM13) hown (mvT hZ w32) (mvT hZ w33) (notFace_of_selects (args := #[]) (mvT hZ w35)) (mvT hZ w35) (mvT hZ w34) (by decide) (backOf (W := 0) (rm_skipF_1_0 l Z a0 hw [] z_CS v_FMT b43 b32 ba_38 kb_38 cd_38 z_38 vs_38 u0 v2 T45.heap n0 SB (c46.keep K45 (allS n0_b43 all0)) p45_0 p45_1 p45_2 ((Exa.ext E43 p38_2).keep K45) c64 c65 c66 p38_5 hcu0 hc67) hZ w36 w25 (by decide) (by decide)) q78a q78c (g := (mkF m 202 #[.val (.int n_), .val (.int a_), .val (.int b_), .val (.int c_), .val (.int d_), .val (.int e_), .val (.int u0), .val (.int u1), .val (.int cd), .val (.int (1 : Int32)), .val (.ref b32), .val (.int v1), .val (.int k2), .val (.int v2), .val (.int v3), .val (.ref b43), .val (.int (0 : Int32)), .unset, .unset, .unset, .unset, .unset, .unset] [(.int v2), (.ref b43)])) rfl (by rw [hml]; rfl) (Steps.refl _) (argsL := [(.int v2)]) (rest := []) (lenOf own_pd18 rfl) rfl (by show 2 * 0 + _ ≤ _; exact Nat.le_of_eq rfl) (hb hby at_202) (fun _ _ => ⟨rfl, e63, (by decide : 5 + 0 ≤ _), (by decide : 10 + 0 ≤ _)⟩)
            dsimp only [Pt.U, Pt.locs, Pt.cells, Pt.slots] at X78 l78 y78 z78 st78 hQ78
            subst l78 y78 z78
            obtain ⟨rfl, Nq78, e78⟩ := hQ78
            have N78 := Fr.app N63 Nq78
            refine otr (S' := T78.setTop (mkF m 205 #[.val (.int n_), .val (.int a_), .val (.int b_), .val (.int c_), .val (.int d_), .val (.int e_), .val (.int u0), .val (.int u1), .val (.int cd), .val (.int (1 : Int32)), .val (.ref b32), .val (.int v1), .val (.int k2), .val (.int v2), .val (.int v3), .val (.ref b43), .val (.int (0 : Int32)), .unset, .unset, .unset, .unset, .unset, .unset] [(.int (0 : Int32))])) st78 ?_
            refine o_istore X78 hx (l' := #[.val (.int n_), .val (.int a_), .val (.int b_), .val (.int c_), .val (.int d_), .val (.int e_), .val (.int u0), .val (.int u1), .val (.int cd), .val (.int (1 : Int32)), .val (.ref b32), .val (.int v1), .val (.int k2), .val (.int v2), .val (.int v3), .val (.ref b43), .val (.int (0 : Int32)), .val (.int (0 : Int32)), .unset, .unset, .unset, .unset, .unset]) (hb hby at_205) rfl ?_
            refine o_aload X78 hx (hb hby at_207) rfl rfl ?_
            refine o_iload X78 hx (hb hby at_209) rfl ?_
            by_cases hc79 : u0 = v3
            · obtain ⟨cq80, kq80, q80a, q80b, q80c⟩ := isOf hZ e78 p45_0
              obtain ⟨_, _, ⟨T80, L80, kc80, n80⟩, -, X80, ⟨Lc80, hQ80, l80, y80, z80⟩, st80⟩ := X78.virtualBack hx (y := yM13) (z := yM13) hown (mvT hZ w32) (mvT hZ w33) (notFace_of_selects (args := #[]) (mvT hZ w35)) (mvT hZ w35) (mvT hZ w34) (by decide) (backOf (W := 0) (rm_skipT_1_0 l Z a0 hw [] z_CS v_FMT b43 b32 ba_38 kb_38 cd_38 z_38 vs_38 u0 v3 T45.heap n0 SB (c46.keep K45 (allS n0_b43 all0)) p45_0 p45_1 p45_2 ((Exa.ext E43 p38_2).keep K45) c64 c65 c66 p38_5 hcu0 hc79 n0_b43) hZ w36 w25 (by decide) (by decide)) q80a q80c (g := (mkF m 211 #[.val (.int n_), .val (.int a_), .val (.int b_), .val (.int c_), .val (.int d_), .val (.int e_), .val (.int u0), .val (.int u1), .val (.int cd), .val (.int (1 : Int32)), .val (.ref b32), .val (.int v1), .val (.int k2), .val (.int v2), .val (.int v3), .val (.ref b43), .val (.int (0 : Int32)), .val (.int (0 : Int32)), .unset, .unset, .unset, .unset, .unset] [(.int v3), (.ref b43)])) rfl (by rw [hml]; rfl) (Steps.refl _) (argsL := [(.int v3)]) (rest := []) (lenOf own_pd18 rfl) rfl (by show 2 * 0 + _ ≤ _; exact Nat.le_of_eq rfl) (hb hby at_211) (fun _ _ => ⟨rfl, e78, (by decide : 5 + 0 ≤ _), (by decide : 10 + 0 ≤ _)⟩)
              dsimp only [Pt.U, Pt.locs, Pt.cells, Pt.slots] at X80 l80 y80 z80 st80 hQ80
              subst l80 y80 z80
              obtain ⟨rfl, Nq80, K80, p80_0, p80_1, p80_2⟩ := hQ80
              have N80 := Fr.app N78 Nq80
              have H81 := CHv.keep K80 (allS (Safe.exa hZ.alike p45_0 (by decide) (by decide)) all0) H47
              refine otr (S' := T80.setTop (mkF m 214 #[.val (.int n_), .val (.int a_), .val (.int b_), .val (.int c_), .val (.int d_), .val (.int e_), .val (.int u0), .val (.int u1), .val (.int cd), .val (.int (1 : Int32)), .val (.ref b32), .val (.int v1), .val (.int k2), .val (.int v2), .val (.int v3), .val (.ref b43), .val (.int (0 : Int32)), .val (.int (0 : Int32)), .unset, .unset, .unset, .unset, .unset] [(.int (1 : Int32))])) st80 ?_
              refine o_istore X80 hx (l' := #[.val (.int n_), .val (.int a_), .val (.int b_), .val (.int c_), .val (.int d_), .val (.int e_), .val (.int u0), .val (.int u1), .val (.int cd), .val (.int (1 : Int32)), .val (.ref b32), .val (.int v1), .val (.int k2), .val (.int v2), .val (.int v3), .val (.ref b43), .val (.int (0 : Int32)), .val (.int (0 : Int32)), .val (.int (1 : Int32)), .unset, .unset, .unset, .unset]) (hb hby at_214) rfl ?_
              refine o_iconst X80 hx (0 : Int32) (hb hby at_216) rfl ?_
              refine o_istore X80 hx (l' := #[.val (.int n_), .val (.int a_), .val (.int b_), .val (.int c_), .val (.int d_), .val (.int e_), .val (.int u0), .val (.int u1), .val (.int cd), .val (.int (1 : Int32)), .val (.ref b32), .val (.int v1), .val (.int k2), .val (.int v2), .val (.int v3), .val (.ref b43), .val (.int (0 : Int32)), .val (.int (0 : Int32)), .val (.int (1 : Int32)), .val (.int (0 : Int32)), .unset, .unset, .unset]) (hb hby at_217) rfl ?_
              refine o_iload X80 hx (hb hby at_219) rfl ?_
              refine o_iload X80 hx (hb hby at_221) rfl ?_
              refine o_iload X80 hx (hb hby at_223) rfl ?_
              refine o_iload X80 hx (hb hby at_225) rfl ?_
              refine o_iload X80 hx (hb hby at_227) rfl ?_
              have c83 := ((c46.keep K45 (allS n0_b43 all0)).keep K80 (allS n0_b43 all0))
              obtain ⟨_, _, ⟨T82, L82, kc82, n82⟩, -, X82, ⟨Lc82, hQ82, l82, y82, z82⟩, st82⟩ := Jvm.LawKit.callS X80 hx (y := yM22) hown (mvT hZ w50) (mvT hZ w51) (mvT hZ w52) (mvT hZ w53) (by decide) (backOf (W := 0) (rm_match_0_1_f l Z a0 hw []  u0 u1 v1 T80.heap n0 c83 hc48) hZ w53 w52 (by decide) (by decide)) (g := (mkF m 229 #[.val (.int n_), .val (.int a_), .val (.int b_), .val (.int c_), .val (.int d_), .val (.int e_), .val (.int u0), .val (.int u1), .val (.int cd), .val (.int (1 : Int32)), .val (.ref b32), .val (.int v1), .val (.int k2), .val (.int v2), .val (.int v3), .val (.ref b43), .val (.int (0 : Int32)), .val (.int (0 : Int32)), .val (.int (1 : Int32)), .val (.int (0 : Int32)), .unset, .unset, .unset] [(.int v1), (.int u1), (.int u0), (.int (1 : Int32)), (.int (0 : Int32))])) rfl (by rw [hml]; rfl) (argsL := [(.int (0 : Int32)), (.int (1 : Int32)), (.int u0), (.int u1), (.int v1)]) (rest := []) (lenOf own_pd19 rfl) rfl (by show 2 * 0 + _ ≤ _; exact Nat.le_of_eq rfl) (hb hby at_229) (fun _ _ => ⟨rfl, rfl, (by decide : 5 + 0 ≤ _), (by decide : 10 + 0 ≤ _)⟩)
              dsimp only [Pt.U, Pt.locs, Pt.cells, Pt.slots] at X82 l82 y82 z82 st82 hQ82
              subst l82 y82 z82
              obtain ⟨rfl, Nq82, e82⟩ := hQ82
              have N82 := Fr.app N80 Nq82
              refine ogo (S' := T82.setTop (mkF m 232 #[.val (.int n_), .val (.int a_), .val (.int b_), .val (.int c_), .val (.int d_), .val (.int e_), .val (.int u0), .val (.int u1), .val (.int cd), .val (.int (1 : Int32)), .val (.ref b32), .val (.int v1), .val (.int k2), .val (.int v2), .val (.int v3), .val (.ref b43), .val (.int (0 : Int32)), .val (.int (0 : Int32)), .val (.int (1 : Int32)), .val (.int (0 : Int32)), .unset, .unset, .unset] [(.int (0 : Int32))])) st82 ?_
              refine o_istore X82 hx (l' := #[.val (.int n_), .val (.int a_), .val (.int b_), .val (.int c_), .val (.int d_), .val (.int e_), .val (.int u0), .val (.int u1), .val (.int cd), .val (.int (1 : Int32)), .val (.ref b32), .val (.int v1), .val (.int k2), .val (.int v2), .val (.int v3), .val (.ref b43), .val (.int (0 : Int32)), .val (.int (0 : Int32)), .val (.int (1 : Int32)), .val (.int (0 : Int32)), .val (.int (0 : Int32)), .unset, .unset]) (hb hby at_232) rfl ?_
              refine o_iload X82 hx (hb hby at_234) rfl ?_
              refine o_ifYes X82 hx 245 (hb hby at_236) (teq (by decide : (0 : Int32) = (0 : Int32))).1 (by decide) (by decide) ?_
              refine o_iload X82 hx (hb hby at_245) rfl ?_
              refine o_iload X82 hx (hb hby at_247) rfl ?_
              refine o_iload X82 hx (hb hby at_249) rfl ?_
              refine o_iload X82 hx (hb hby at_251) rfl ?_
              refine o_iload X82 hx (hb hby at_253) rfl ?_
              obtain ⟨_, _, ⟨T84, L84, kc84, n84⟩, -, X84, ⟨Lc84, hQ84, l84, y84, z84⟩, st84⟩ := Jvm.LawKit.callS X82 hx (y := yM22) hown (mvT hZ w50) (mvT hZ w51) (mvT hZ w52) (mvT hZ w53) (by decide) (backOf (W := 0) (rm_match_0_1_f l Z a0 hw []  u0 u1 v2 T80.heap n0 c83 hc67) hZ w53 w52 (by decide) (by decide)) (g := (mkF m 255 #[.val (.int n_), .val (.int a_), .val (.int b_), .val (.int c_), .val (.int d_), .val (.int e_), .val (.int u0), .val (.int u1), .val (.int cd), .val (.int (1 : Int32)), .val (.ref b32), .val (.int v1), .val (.int k2), .val (.int v2), .val (.int v3), .val (.ref b43), .val (.int (0 : Int32)), .val (.int (0 : Int32)), .val (.int (1 : Int32)), .val (.int (0 : Int32)), .val (.int (0 : Int32)), .unset, .unset] [(.int v2), (.int u1), (.int u0), (.int (1 : Int32)), (.int (0 : Int32))])) rfl (by rw [hml]; rfl) (argsL := [(.int (0 : Int32)), (.int (1 : Int32)), (.int u0), (.int u1), (.int v2)]) (rest := []) (lenOf own_pd19 rfl) rfl (by show 2 * 0 + _ ≤ _; exact Nat.le_of_eq rfl) (hb hby at_255) (fun _ _ => ⟨rfl, e82, (by decide : 5 + 0 ≤ _), (by decide : 10 + 0 ≤ _)⟩)
              dsimp only [Pt.U, Pt.locs, Pt.cells, Pt.slots] at X84 l84 y84 z84 st84 hQ84
              subst l84 y84 z84
              obtain ⟨rfl, Nq84, e84⟩ := hQ84
              have N84 := Fr.app N82 Nq84
              refine ogo (S' := T84.setTop (mkF m 258 #[.val (.int n_), .val (.int a_), .val (.int b_), .val (.int c_), .val (.int d_), .val (.int e_), .val (.int u0), .val (.int u1), .val (.int cd), .val (.int (1 : Int32)), .val (.ref b32), .val (.int v1), .val (.int k2), .val (.int v2), .val (.int v3), .val (.ref b43), .val (.int (0 : Int32)), .val (.int (0 : Int32)), .val (.int (1 : Int32)), .val (.int (0 : Int32)), .val (.int (0 : Int32)), .unset, .unset] [(.int (0 : Int32))])) st84 ?_
              refine o_istore X84 hx (l' := #[.val (.int n_), .val (.int a_), .val (.int b_), .val (.int c_), .val (.int d_), .val (.int e_), .val (.int u0), .val (.int u1), .val (.int cd), .val (.int (1 : Int32)), .val (.ref b32), .val (.int v1), .val (.int k2), .val (.int v2), .val (.int v3), .val (.ref b43), .val (.int (0 : Int32)), .val (.int (0 : Int32)), .val (.int (1 : Int32)), .val (.int (0 : Int32)), .val (.int (0 : Int32)), .val (.int (0 : Int32)), .unset]) (hb hby at_258) rfl ?_
              refine o_iload X84 hx (hb hby at_260) rfl ?_
              refine o_ifYes X84 hx 271 (hb hby at_262) (teq (by decide : (0 : Int32) = (0 : Int32))).1 (by decide) (by decide) ?_
              refine o_iload X84 hx (hb hby at_271) rfl ?_
              refine o_iload X84 hx (hb hby at_273) rfl ?_
              refine o_iload X84 hx (hb hby at_275) rfl ?_
              refine o_iload X84 hx (hb hby at_277) rfl ?_
              refine o_iload X84 hx (hb hby at_279) rfl ?_
              obtain ⟨_, _, ⟨T85, L85, kc85, n85⟩, -, X85, ⟨Lc85, hQ85, l85, y85, z85⟩, st85⟩ := Jvm.LawKit.callS X84 hx (y := yM22) hown (mvT hZ w50) (mvT hZ w51) (mvT hZ w52) (mvT hZ w53) (by decide) (backOf (W := 0) (rm_match_0_1_t l Z a0 hw []  u0 u1 v3 T80.heap n0 c83 hc79) hZ w53 w52 (by decide) (by decide)) (g := (mkF m 281 #[.val (.int n_), .val (.int a_), .val (.int b_), .val (.int c_), .val (.int d_), .val (.int e_), .val (.int u0), .val (.int u1), .val (.int cd), .val (.int (1 : Int32)), .val (.ref b32), .val (.int v1), .val (.int k2), .val (.int v2), .val (.int v3), .val (.ref b43), .val (.int (0 : Int32)), .val (.int (0 : Int32)), .val (.int (1 : Int32)), .val (.int (0 : Int32)), .val (.int (0 : Int32)), .val (.int (0 : Int32)), .unset] [(.int v3), (.int u1), (.int u0), (.int (1 : Int32)), (.int (0 : Int32))])) rfl (by rw [hml]; rfl) (argsL := [(.int (0 : Int32)), (.int (1 : Int32)), (.int u0), (.int u1), (.int v3)]) (rest := []) (lenOf own_pd19 rfl) rfl (by show 2 * 0 + _ ≤ _; exact Nat.le_of_eq rfl) (hb hby at_281) (fun _ _ => ⟨rfl, e84, (by decide : 5 + 0 ≤ _), (by decide : 10 + 0 ≤ _)⟩)
              dsimp only [Pt.U, Pt.locs, Pt.cells, Pt.slots] at X85 l85 y85 z85 st85 hQ85
              subst l85 y85 z85
              obtain ⟨rfl, Nq85, e85⟩ := hQ85
              have N85 := Fr.app N84 Nq85
              refine ogo (S' := T85.setTop (mkF m 284 #[.val (.int n_), .val (.int a_), .val (.int b_), .val (.int c_), .val (.int d_), .val (.int e_), .val (.int u0), .val (.int u1), .val (.int cd), .val (.int (1 : Int32)), .val (.ref b32), .val (.int v1), .val (.int k2), .val (.int v2), .val (.int v3), .val (.ref b43), .val (.int (0 : Int32)), .val (.int (0 : Int32)), .val (.int (1 : Int32)), .val (.int (0 : Int32)), .val (.int (0 : Int32)), .val (.int (0 : Int32)), .unset] [(.int (1 : Int32))])) st85 ?_
              refine o_istore X85 hx (l' := #[.val (.int n_), .val (.int a_), .val (.int b_), .val (.int c_), .val (.int d_), .val (.int e_), .val (.int u0), .val (.int u1), .val (.int cd), .val (.int (1 : Int32)), .val (.ref b32), .val (.int v1), .val (.int k2), .val (.int v2), .val (.int v3), .val (.ref b43), .val (.int (0 : Int32)), .val (.int (0 : Int32)), .val (.int (1 : Int32)), .val (.int (0 : Int32)), .val (.int (0 : Int32)), .val (.int (0 : Int32)), .val (.int (1 : Int32))]) (hb hby at_284) rfl ?_
              refine o_iload X85 hx (hb hby at_286) rfl ?_
              refine o_iload X85 hx (hb hby at_288) rfl ?_
              refine o_icmpNo X85 hx (hb hby at_290) (teq (by decide : (0 : Int32) = (0 : Int32))).2 ?_
              refine o_iload X85 hx (hb hby at_293) rfl ?_
              refine o_iload X85 hx (hb hby at_295) rfl ?_
              refine o_icmpNo X85 hx (hb hby at_297) (teq (by decide : (0 : Int32) = (0 : Int32))).2 ?_
              refine o_iload X85 hx (hb hby at_300) rfl ?_
              refine o_iload X85 hx (hb hby at_302) rfl ?_
              refine o_icmpNo X85 hx (hb hby at_304) (teq (by decide : (1 : Int32) = (1 : Int32))).2 ?_
              refine o_iconst X85 hx (1 : Int32) (hb hby at_307) rfl ?_
              refine o_goto X85 hx 312 (hb hby at_308) (by decide) (by decide) ?_
              refine oendS X85 hlk hS0 (Nat.le_trans (Nat.zero_le _) (Nat.le_trans (Nat.le_trans (Nat.le_trans (Nat.le_trans (Nat.le_trans (Nat.le_trans E32.1 E34.1) (Keep.of_wr W36).1) K38.1) E43.1) K45.1) K80.1)) e85 hZ hEL hs0 (CHr.trans (CHr.trans (CHr.trans (CHr.trans (CHr.trans (CHr.trans (CHr.trans (CHr.refl H0) (CHr.ext E32 H0)) (CHr.ext E34 H33)) (CHr.wr W36 (Safe.exa hZ.alike Ex34 (by decide) (by decide)) H35)) (CHr.keep K38 (allS c41 all0) H37)) (CHr.ext E43 H42)) (CHr.keep K45 (allS (Safe.exa hZ.alike A43 (by decide) (by decide)) all0) H44)) (CHr.keep K80 (allS (Safe.exa hZ.alike p45_0 (by decide) (by decide)) all0) H47)) (v := some (.int (1 : Int32))) (fun h => by rw [hret] at h; cases h) (fun fs hr => retN X85 hx (t := .boolean) hret (by simp) (hb hby at_312) hr) (by decide) (by decide) ?_
              show own_Q_law Z _ _ _ _ _ _ _ _ h0 n0 _ T85.heap _
              rw [e85]
              exact ⟨rfl, N85, ((((((((Keep.refl h0 []).ext E32).ext E34).wr W36 (Or.inr (Nat.le_trans E32.1 (Nat.le_of_eq g34.symm)))).trans K38 (allS (Or.inr (Nat.le_trans (Nat.le_refl _) (Nat.le_of_eq g32.symm))) all0)).ext E43).trans K45 (allS (Or.inr (Nat.le_trans (Nat.le_trans (Nat.le_trans (Nat.le_trans E32.1 E34.1) (Keep.of_wr W36).1) K38.1) (Nat.le_of_eq g43.symm))) all0)).trans K80 (allS (Or.inr (Nat.le_trans (Nat.le_trans (Nat.le_trans (Nat.le_trans E32.1 E34.1) (Keep.of_wr W36).1) K38.1) (Nat.le_of_eq g43.symm))) all0))⟩
            · obtain ⟨cq86, kq86, q86a, q86b, q86c⟩ := isOf hZ e78 p45_0
              obtain ⟨_, _, ⟨T86, L86, kc86, n86⟩, -, X86, ⟨Lc86, hQ86, l86, y86, z86⟩, st86⟩ := X78.virtualBack hx (y := yM13) (z := yM13) hown (mvT hZ w32) (mvT hZ w33) (notFace_of_selects (args := #[]) (mvT hZ w35)) (mvT hZ w35) (mvT hZ w34) (by decide) (backOf (W := 0) (rm_skipF_1_0 l Z a0 hw [] z_CS v_FMT b43 b32 ba_38 kb_38 cd_38 z_38 vs_38 u0 v3 T45.heap n0 SB (c46.keep K45 (allS n0_b43 all0)) p45_0 p45_1 p45_2 ((Exa.ext E43 p38_2).keep K45) c64 c65 c66 p38_5 hcu0 hc79) hZ w36 w25 (by decide) (by decide)) q86a q86c (g := (mkF m 211 #[.val (.int n_), .val (.int a_), .val (.int b_), .val (.int c_), .val (.int d_), .val (.int e_), .val (.int u0), .val (.int u1), .val (.int cd), .val (.int (1 : Int32)), .val (.ref b32), .val (.int v1), .val (.int k2), .val (.int v2), .val (.int v3), .val (.ref b43), .val (.int (0 : Int32)), .val (.int (0 : Int32)), .unset, .unset, .unset, .unset, .unset] [(.int v3), (.ref b43)])) rfl (by rw [hml]; rfl) (Steps.refl _) (argsL := [(.int v3)]) (rest := []) (lenOf own_pd18 rfl) rfl (by show 2 * 0 + _ ≤ _; exact Nat.le_of_eq rfl) (hb hby at_211) (fun _ _ => ⟨rfl, e78, (by decide : 5 + 0 ≤ _), (by decide : 10 + 0 ≤ _)⟩)
              dsimp only [Pt.U, Pt.locs, Pt.cells, Pt.slots] at X86 l86 y86 z86 st86 hQ86
              subst l86 y86 z86
              obtain ⟨rfl, Nq86, e86⟩ := hQ86
              have N86 := Fr.app N78 Nq86
              refine otr (S' := T86.setTop (mkF m 214 #[.val (.int n_), .val (.int a_), .val (.int b_), .val (.int c_), .val (.int d_), .val (.int e_), .val (.int u0), .val (.int u1), .val (.int cd), .val (.int (1 : Int32)), .val (.ref b32), .val (.int v1), .val (.int k2), .val (.int v2), .val (.int v3), .val (.ref b43), .val (.int (0 : Int32)), .val (.int (0 : Int32)), .unset, .unset, .unset, .unset, .unset] [(.int (0 : Int32))])) st86 ?_
              refine o_istore X86 hx (l' := #[.val (.int n_), .val (.int a_), .val (.int b_), .val (.int c_), .val (.int d_), .val (.int e_), .val (.int u0), .val (.int u1), .val (.int cd), .val (.int (1 : Int32)), .val (.ref b32), .val (.int v1), .val (.int k2), .val (.int v2), .val (.int v3), .val (.ref b43), .val (.int (0 : Int32)), .val (.int (0 : Int32)), .val (.int (0 : Int32)), .unset, .unset, .unset, .unset]) (hb hby at_214) rfl ?_
              refine o_iconst X86 hx (0 : Int32) (hb hby at_216) rfl ?_
              refine o_istore X86 hx (l' := #[.val (.int n_), .val (.int a_), .val (.int b_), .val (.int c_), .val (.int d_), .val (.int e_), .val (.int u0), .val (.int u1), .val (.int cd), .val (.int (1 : Int32)), .val (.ref b32), .val (.int v1), .val (.int k2), .val (.int v2), .val (.int v3), .val (.ref b43), .val (.int (0 : Int32)), .val (.int (0 : Int32)), .val (.int (0 : Int32)), .val (.int (0 : Int32)), .unset, .unset, .unset]) (hb hby at_217) rfl ?_
              refine o_iload X86 hx (hb hby at_219) rfl ?_
              refine o_iload X86 hx (hb hby at_221) rfl ?_
              refine o_iload X86 hx (hb hby at_223) rfl ?_
              refine o_iload X86 hx (hb hby at_225) rfl ?_
              refine o_iload X86 hx (hb hby at_227) rfl ?_
              obtain ⟨_, _, ⟨T87, L87, kc87, n87⟩, -, X87, ⟨Lc87, hQ87, l87, y87, z87⟩, st87⟩ := Jvm.LawKit.callS X86 hx (y := yM22) hown (mvT hZ w50) (mvT hZ w51) (mvT hZ w52) (mvT hZ w53) (by decide) (backOf (W := 0) (rm_match_0_1_f l Z a0 hw []  u0 u1 v1 T45.heap n0 (c46.keep K45 (allS n0_b43 all0)) hc48) hZ w53 w52 (by decide) (by decide)) (g := (mkF m 229 #[.val (.int n_), .val (.int a_), .val (.int b_), .val (.int c_), .val (.int d_), .val (.int e_), .val (.int u0), .val (.int u1), .val (.int cd), .val (.int (1 : Int32)), .val (.ref b32), .val (.int v1), .val (.int k2), .val (.int v2), .val (.int v3), .val (.ref b43), .val (.int (0 : Int32)), .val (.int (0 : Int32)), .val (.int (0 : Int32)), .val (.int (0 : Int32)), .unset, .unset, .unset] [(.int v1), (.int u1), (.int u0), (.int (1 : Int32)), (.int (0 : Int32))])) rfl (by rw [hml]; rfl) (argsL := [(.int (0 : Int32)), (.int (1 : Int32)), (.int u0), (.int u1), (.int v1)]) (rest := []) (lenOf own_pd19 rfl) rfl (by show 2 * 0 + _ ≤ _; exact Nat.le_of_eq rfl) (hb hby at_229) (fun _ _ => ⟨rfl, e86, (by decide : 5 + 0 ≤ _), (by decide : 10 + 0 ≤ _)⟩)
              dsimp only [Pt.U, Pt.locs, Pt.cells, Pt.slots] at X87 l87 y87 z87 st87 hQ87
              subst l87 y87 z87
              obtain ⟨rfl, Nq87, e87⟩ := hQ87
              have N87 := Fr.app N86 Nq87
              refine ogo (S' := T87.setTop (mkF m 232 #[.val (.int n_), .val (.int a_), .val (.int b_), .val (.int c_), .val (.int d_), .val (.int e_), .val (.int u0), .val (.int u1), .val (.int cd), .val (.int (1 : Int32)), .val (.ref b32), .val (.int v1), .val (.int k2), .val (.int v2), .val (.int v3), .val (.ref b43), .val (.int (0 : Int32)), .val (.int (0 : Int32)), .val (.int (0 : Int32)), .val (.int (0 : Int32)), .unset, .unset, .unset] [(.int (0 : Int32))])) st87 ?_
              refine o_istore X87 hx (l' := #[.val (.int n_), .val (.int a_), .val (.int b_), .val (.int c_), .val (.int d_), .val (.int e_), .val (.int u0), .val (.int u1), .val (.int cd), .val (.int (1 : Int32)), .val (.ref b32), .val (.int v1), .val (.int k2), .val (.int v2), .val (.int v3), .val (.ref b43), .val (.int (0 : Int32)), .val (.int (0 : Int32)), .val (.int (0 : Int32)), .val (.int (0 : Int32)), .val (.int (0 : Int32)), .unset, .unset]) (hb hby at_232) rfl ?_
              refine o_iload X87 hx (hb hby at_234) rfl ?_
              refine o_ifYes X87 hx 245 (hb hby at_236) (teq (by decide : (0 : Int32) = (0 : Int32))).1 (by decide) (by decide) ?_
              refine o_iload X87 hx (hb hby at_245) rfl ?_
              refine o_iload X87 hx (hb hby at_247) rfl ?_
              refine o_iload X87 hx (hb hby at_249) rfl ?_
              refine o_iload X87 hx (hb hby at_251) rfl ?_
              refine o_iload X87 hx (hb hby at_253) rfl ?_
              obtain ⟨_, _, ⟨T88, L88, kc88, n88⟩, -, X88, ⟨Lc88, hQ88, l88, y88, z88⟩, st88⟩ := Jvm.LawKit.callS X87 hx (y := yM22) hown (mvT hZ w50) (mvT hZ w51) (mvT hZ w52) (mvT hZ w53) (by decide) (backOf (W := 0) (rm_match_0_1_f l Z a0 hw []  u0 u1 v2 T45.heap n0 (c46.keep K45 (allS n0_b43 all0)) hc67) hZ w53 w52 (by decide) (by decide)) (g := (mkF m 255 #[.val (.int n_), .val (.int a_), .val (.int b_), .val (.int c_), .val (.int d_), .val (.int e_), .val (.int u0), .val (.int u1), .val (.int cd), .val (.int (1 : Int32)), .val (.ref b32), .val (.int v1), .val (.int k2), .val (.int v2), .val (.int v3), .val (.ref b43), .val (.int (0 : Int32)), .val (.int (0 : Int32)), .val (.int (0 : Int32)), .val (.int (0 : Int32)), .val (.int (0 : Int32)), .unset, .unset] [(.int v2), (.int u1), (.int u0), (.int (1 : Int32)), (.int (0 : Int32))])) rfl (by rw [hml]; rfl) (argsL := [(.int (0 : Int32)), (.int (1 : Int32)), (.int u0), (.int u1), (.int v2)]) (rest := []) (lenOf own_pd19 rfl) rfl (by show 2 * 0 + _ ≤ _; exact Nat.le_of_eq rfl) (hb hby at_255) (fun _ _ => ⟨rfl, e87, (by decide : 5 + 0 ≤ _), (by decide : 10 + 0 ≤ _)⟩)
              dsimp only [Pt.U, Pt.locs, Pt.cells, Pt.slots] at X88 l88 y88 z88 st88 hQ88
              subst l88 y88 z88
              obtain ⟨rfl, Nq88, e88⟩ := hQ88
              have N88 := Fr.app N87 Nq88
              refine ogo (S' := T88.setTop (mkF m 258 #[.val (.int n_), .val (.int a_), .val (.int b_), .val (.int c_), .val (.int d_), .val (.int e_), .val (.int u0), .val (.int u1), .val (.int cd), .val (.int (1 : Int32)), .val (.ref b32), .val (.int v1), .val (.int k2), .val (.int v2), .val (.int v3), .val (.ref b43), .val (.int (0 : Int32)), .val (.int (0 : Int32)), .val (.int (0 : Int32)), .val (.int (0 : Int32)), .val (.int (0 : Int32)), .unset, .unset] [(.int (0 : Int32))])) st88 ?_
              refine o_istore X88 hx (l' := #[.val (.int n_), .val (.int a_), .val (.int b_), .val (.int c_), .val (.int d_), .val (.int e_), .val (.int u0), .val (.int u1), .val (.int cd), .val (.int (1 : Int32)), .val (.ref b32), .val (.int v1), .val (.int k2), .val (.int v2), .val (.int v3), .val (.ref b43), .val (.int (0 : Int32)), .val (.int (0 : Int32)), .val (.int (0 : Int32)), .val (.int (0 : Int32)), .val (.int (0 : Int32)), .val (.int (0 : Int32)), .unset]) (hb hby at_258) rfl ?_
              refine o_iload X88 hx (hb hby at_260) rfl ?_
              refine o_ifYes X88 hx 271 (hb hby at_262) (teq (by decide : (0 : Int32) = (0 : Int32))).1 (by decide) (by decide) ?_
              refine o_iload X88 hx (hb hby at_271) rfl ?_
              refine o_iload X88 hx (hb hby at_273) rfl ?_
              refine o_iload X88 hx (hb hby at_275) rfl ?_
              refine o_iload X88 hx (hb hby at_277) rfl ?_
              refine o_iload X88 hx (hb hby at_279) rfl ?_
              obtain ⟨_, _, ⟨T89, L89, kc89, n89⟩, -, X89, ⟨Lc89, hQ89, l89, y89, z89⟩, st89⟩ := Jvm.LawKit.callS X88 hx (y := yM22) hown (mvT hZ w50) (mvT hZ w51) (mvT hZ w52) (mvT hZ w53) (by decide) (backOf (W := 0) (rm_match_0_1_f l Z a0 hw []  u0 u1 v3 T45.heap n0 (c46.keep K45 (allS n0_b43 all0)) hc79) hZ w53 w52 (by decide) (by decide)) (g := (mkF m 281 #[.val (.int n_), .val (.int a_), .val (.int b_), .val (.int c_), .val (.int d_), .val (.int e_), .val (.int u0), .val (.int u1), .val (.int cd), .val (.int (1 : Int32)), .val (.ref b32), .val (.int v1), .val (.int k2), .val (.int v2), .val (.int v3), .val (.ref b43), .val (.int (0 : Int32)), .val (.int (0 : Int32)), .val (.int (0 : Int32)), .val (.int (0 : Int32)), .val (.int (0 : Int32)), .val (.int (0 : Int32)), .unset] [(.int v3), (.int u1), (.int u0), (.int (1 : Int32)), (.int (0 : Int32))])) rfl (by rw [hml]; rfl) (argsL := [(.int (0 : Int32)), (.int (1 : Int32)), (.int u0), (.int u1), (.int v3)]) (rest := []) (lenOf own_pd19 rfl) rfl (by show 2 * 0 + _ ≤ _; exact Nat.le_of_eq rfl) (hb hby at_281) (fun _ _ => ⟨rfl, e88, (by decide : 5 + 0 ≤ _), (by decide : 10 + 0 ≤ _)⟩)
              dsimp only [Pt.U, Pt.locs, Pt.cells, Pt.slots] at X89 l89 y89 z89 st89 hQ89
              subst l89 y89 z89
              obtain ⟨rfl, Nq89, e89⟩ := hQ89
              have N89 := Fr.app N88 Nq89
              refine ogo (S' := T89.setTop (mkF m 284 #[.val (.int n_), .val (.int a_), .val (.int b_), .val (.int c_), .val (.int d_), .val (.int e_), .val (.int u0), .val (.int u1), .val (.int cd), .val (.int (1 : Int32)), .val (.ref b32), .val (.int v1), .val (.int k2), .val (.int v2), .val (.int v3), .val (.ref b43), .val (.int (0 : Int32)), .val (.int (0 : Int32)), .val (.int (0 : Int32)), .val (.int (0 : Int32)), .val (.int (0 : Int32)), .val (.int (0 : Int32)), .unset] [(.int (0 : Int32))])) st89 ?_
              refine o_istore X89 hx (l' := #[.val (.int n_), .val (.int a_), .val (.int b_), .val (.int c_), .val (.int d_), .val (.int e_), .val (.int u0), .val (.int u1), .val (.int cd), .val (.int (1 : Int32)), .val (.ref b32), .val (.int v1), .val (.int k2), .val (.int v2), .val (.int v3), .val (.ref b43), .val (.int (0 : Int32)), .val (.int (0 : Int32)), .val (.int (0 : Int32)), .val (.int (0 : Int32)), .val (.int (0 : Int32)), .val (.int (0 : Int32)), .val (.int (0 : Int32))]) (hb hby at_284) rfl ?_
              refine o_iload X89 hx (hb hby at_286) rfl ?_
              refine o_iload X89 hx (hb hby at_288) rfl ?_
              refine o_icmpNo X89 hx (hb hby at_290) (teq (by decide : (0 : Int32) = (0 : Int32))).2 ?_
              refine o_iload X89 hx (hb hby at_293) rfl ?_
              refine o_iload X89 hx (hb hby at_295) rfl ?_
              refine o_icmpNo X89 hx (hb hby at_297) (teq (by decide : (0 : Int32) = (0 : Int32))).2 ?_
              refine o_iload X89 hx (hb hby at_300) rfl ?_
              refine o_iload X89 hx (hb hby at_302) rfl ?_
              refine o_icmpNo X89 hx (hb hby at_304) (teq (by decide : (0 : Int32) = (0 : Int32))).2 ?_
              refine o_iconst X89 hx (1 : Int32) (hb hby at_307) rfl ?_
              refine o_goto X89 hx 312 (hb hby at_308) (by decide) (by decide) ?_
              refine oendS X89 hlk hS0 (Nat.le_trans (Nat.zero_le _) (Nat.le_trans (Nat.le_trans (Nat.le_trans (Nat.le_trans (Nat.le_trans E32.1 E34.1) (Keep.of_wr W36).1) K38.1) E43.1) K45.1)) e89 hZ hEL hs0 (CHr.trans (CHr.trans (CHr.trans (CHr.trans (CHr.trans (CHr.trans (CHr.refl H0) (CHr.ext E32 H0)) (CHr.ext E34 H33)) (CHr.wr W36 (Safe.exa hZ.alike Ex34 (by decide) (by decide)) H35)) (CHr.keep K38 (allS c41 all0) H37)) (CHr.ext E43 H42)) (CHr.keep K45 (allS (Safe.exa hZ.alike A43 (by decide) (by decide)) all0) H44)) (v := some (.int (1 : Int32))) (fun h => by rw [hret] at h; cases h) (fun fs hr => retN X89 hx (t := .boolean) hret (by simp) (hb hby at_312) hr) (by decide) (by decide) ?_
              show own_Q_law Z _ _ _ _ _ _ _ _ h0 n0 _ T89.heap _
              rw [e89]
              exact ⟨rfl, N89, (((((((Keep.refl h0 []).ext E32).ext E34).wr W36 (Or.inr (Nat.le_trans E32.1 (Nat.le_of_eq g34.symm)))).trans K38 (allS (Or.inr (Nat.le_trans (Nat.le_refl _) (Nat.le_of_eq g32.symm))) all0)).ext E43).trans K45 (allS (Or.inr (Nat.le_trans (Nat.le_trans (Nat.le_trans (Nat.le_trans E32.1 E34.1) (Keep.of_wr W36).1) K38.1) (Nat.le_of_eq g43.symm))) all0))⟩
      refine o_iloadN X38 hx (hb hby at_101) rfl ?_
      refine o_iconst X38 hx (2 : Int32) (hb hby at_102) rfl ?_
      refine o_iushr X38 hx (hb hby at_103) ?_
      refine o_iconst X38 hx (1 : Int32) (hb hby at_104) rfl ?_
      refine o_iand X38 hx (hb hby at_105) ?_
      by_cases hc90 : ((own_ushr n_ (2 : Int32)) &&& (1 : Int32)) = (0 : Int32)
      · refine o_ifYes X38 hx 114 (hb hby at_106) (teq hc90).1 (by decide) (by decide) ?_
        refine o_iloadN X38 hx (hb hby at_114) rfl ?_
        refine ogo (S' := T38.setTop (mkF m 117 #[.val (.int n_), .val (.int a_), .val (.int b_), .val (.int c_), .val (.int d_), .val (.int e_), .val (.int u0), .val (.int u1), .val (.int cd), .val (.int (1 : Int32)), .val (.ref b32), .unset, .unset, .unset, .unset, .unset, .unset, .unset, .unset, .unset, .unset, .unset, .unset] [(.int (65535 : Int32)), (.int c_)])) (X38.ldcInt hx hown (mvT hZ w0) (g := (mkF m 115 #[.val (.int n_), .val (.int a_), .val (.int b_), .val (.int c_), .val (.int d_), .val (.int e_), .val (.int u0), .val (.int u1), .val (.int cd), .val (.int (1 : Int32)), .val (.ref b32), .unset, .unset, .unset, .unset, .unset, .unset, .unset, .unset, .unset, .unset, .unset, .unset] [(.int c_)])) rfl (hb hby at_115)) ?_
        refine o_iand X38 hx (hb hby at_117) ?_
        refine o_i2c X38 hx (hb hby at_118) ?_
        refine o_istore X38 hx (l' := #[.val (.int n_), .val (.int a_), .val (.int b_), .val (.int c_), .val (.int d_), .val (.int e_), .val (.int u0), .val (.int u1), .val (.int cd), .val (.int (1 : Int32)), .val (.ref b32), .val (.int (nar .char (c_ &&& (65535 : Int32)))), .unset, .unset, .unset, .unset, .unset, .unset, .unset, .unset, .unset, .unset, .unset]) (hb hby at_119) rfl ?_
        refine o_iloadN X38 hx (hb hby at_121) rfl ?_
        refine o_iconst X38 hx (3 : Int32) (hb hby at_122) rfl ?_
        refine o_iushr X38 hx (hb hby at_123) ?_
        refine o_iconst X38 hx (3 : Int32) (hb hby at_124) rfl ?_
        refine o_iand X38 hx (hb hby at_125) ?_
        refine o_istore X38 hx (l' := #[.val (.int n_), .val (.int a_), .val (.int b_), .val (.int c_), .val (.int d_), .val (.int e_), .val (.int u0), .val (.int u1), .val (.int cd), .val (.int (1 : Int32)), .val (.ref b32), .val (.int (nar .char (c_ &&& (65535 : Int32)))), .val (.int ((own_ushr n_ (3 : Int32)) &&& (3 : Int32))), .unset, .unset, .unset, .unset, .unset, .unset, .unset, .unset, .unset, .unset]) (hb hby at_126) rfl ?_
        refine o_iload X38 hx (hb hby at_128) rfl ?_
        by_cases hc91 : ((own_ushr n_ (3 : Int32)) &&& (3 : Int32)) = (0 : Int32)
        · refine o_ifNo X38 hx (hb hby at_130) (teq hc91).2 ?_
          refine o_iload X38 hx (hb hby at_133) rfl ?_
          refine ogo (S' := T38.setTop (mkF m 137 #[.val (.int n_), .val (.int a_), .val (.int b_), .val (.int c_), .val (.int d_), .val (.int e_), .val (.int u0), .val (.int u1), .val (.int cd), .val (.int (1 : Int32)), .val (.ref b32), .val (.int (nar .char (c_ &&& (65535 : Int32)))), .val (.int ((own_ushr n_ (3 : Int32)) &&& (3 : Int32))), .unset, .unset, .unset, .unset, .unset, .unset, .unset, .unset, .unset, .unset] [(.int (65535 : Int32)), (.int d_)])) (X38.ldcInt hx hown (mvT hZ w0) (g := (mkF m 135 #[.val (.int n_), .val (.int a_), .val (.int b_), .val (.int c_), .val (.int d_), .val (.int e_), .val (.int u0), .val (.int u1), .val (.int cd), .val (.int (1 : Int32)), .val (.ref b32), .val (.int (nar .char (c_ &&& (65535 : Int32)))), .val (.int ((own_ushr n_ (3 : Int32)) &&& (3 : Int32))), .unset, .unset, .unset, .unset, .unset, .unset, .unset, .unset, .unset, .unset] [(.int d_)])) rfl (hb hby at_135)) ?_
          refine o_iand X38 hx (hb hby at_137) ?_
          refine o_i2c X38 hx (hb hby at_138) ?_
          refine o_goto X38 hx 155 (hb hby at_139) (by decide) (by decide) ?_
          refine o_istore X38 hx (l' := #[.val (.int n_), .val (.int a_), .val (.int b_), .val (.int c_), .val (.int d_), .val (.int e_), .val (.int u0), .val (.int u1), .val (.int cd), .val (.int (1 : Int32)), .val (.ref b32), .val (.int (nar .char (c_ &&& (65535 : Int32)))), .val (.int ((own_ushr n_ (3 : Int32)) &&& (3 : Int32))), .val (.int (nar .char (d_ &&& (65535 : Int32)))), .unset, .unset, .unset, .unset, .unset, .unset, .unset, .unset, .unset]) (hb hby at_155) rfl ?_
          refine o_iloadN X38 hx (hb hby at_157) rfl ?_
          refine o_iconst X38 hx (5 : Int32) (hb hby at_158) rfl ?_
          refine o_iushr X38 hx (hb hby at_159) ?_
          refine o_iconst X38 hx (1 : Int32) (hb hby at_160) rfl ?_
          refine o_iand X38 hx (hb hby at_161) ?_
          by_cases hc92 : ((own_ushr n_ (5 : Int32)) &&& (1 : Int32)) = (0 : Int32)
          · refine o_ifYes X38 hx 170 (hb hby at_162) (teq hc92).1 (by decide) (by decide) ?_
            refine o_iload X38 hx (hb hby at_170) rfl ?_
            refine ogo (S' := T38.setTop (mkF m 174 #[.val (.int n_), .val (.int a_), .val (.int b_), .val (.int c_), .val (.int d_), .val (.int e_), .val (.int u0), .val (.int u1), .val (.int cd), .val (.int (1 : Int32)), .val (.ref b32), .val (.int (nar .char (c_ &&& (65535 : Int32)))), .val (.int ((own_ushr n_ (3 : Int32)) &&& (3 : Int32))), .val (.int (nar .char (d_ &&& (65535 : Int32)))), .unset, .unset, .unset, .unset, .unset, .unset, .unset, .unset, .unset] [(.int (65535 : Int32)), (.int e_)])) (X38.ldcInt hx hown (mvT hZ w0) (g := (mkF m 172 #[.val (.int n_), .val (.int a_), .val (.int b_), .val (.int c_), .val (.int d_), .val (.int e_), .val (.int u0), .val (.int u1), .val (.int cd), .val (.int (1 : Int32)), .val (.ref b32), .val (.int (nar .char (c_ &&& (65535 : Int32)))), .val (.int ((own_ushr n_ (3 : Int32)) &&& (3 : Int32))), .val (.int (nar .char (d_ &&& (65535 : Int32)))), .unset, .unset, .unset, .unset, .unset, .unset, .unset, .unset, .unset] [(.int e_)])) rfl (hb hby at_172)) ?_
            refine o_iand X38 hx (hb hby at_174) ?_
            refine o_i2c X38 hx (hb hby at_175) ?_
            refine o_istore X38 hx (l' := #[.val (.int n_), .val (.int a_), .val (.int b_), .val (.int c_), .val (.int d_), .val (.int e_), .val (.int u0), .val (.int u1), .val (.int cd), .val (.int (1 : Int32)), .val (.ref b32), .val (.int (nar .char (c_ &&& (65535 : Int32)))), .val (.int ((own_ushr n_ (3 : Int32)) &&& (3 : Int32))), .val (.int (nar .char (d_ &&& (65535 : Int32)))), .val (.int (nar .char (e_ &&& (65535 : Int32)))), .unset, .unset, .unset, .unset, .unset, .unset, .unset, .unset]) (hb hby at_176) rfl ?_
            exact t2 (nar .char (c_ &&& (65535 : Int32))) (nar .char (d_ &&& (65535 : Int32))) (nar .char (e_ &&& (65535 : Int32))) ((own_ushr n_ (3 : Int32)) &&& (3 : Int32))
          · refine o_ifNo X38 hx (hb hby at_162) (feq hc92).1 ?_
            refine o_iload X38 hx (hb hby at_165) rfl ?_
            refine o_goto X38 hx 176 (hb hby at_167) (by decide) (by decide) ?_
            refine o_istore X38 hx (l' := #[.val (.int n_), .val (.int a_), .val (.int b_), .val (.int c_), .val (.int d_), .val (.int e_), .val (.int u0), .val (.int u1), .val (.int cd), .val (.int (1 : Int32)), .val (.ref b32), .val (.int (nar .char (c_ &&& (65535 : Int32)))), .val (.int ((own_ushr n_ (3 : Int32)) &&& (3 : Int32))), .val (.int (nar .char (d_ &&& (65535 : Int32)))), .val (.int u1), .unset, .unset, .unset, .unset, .unset, .unset, .unset, .unset]) (hb hby at_176) rfl ?_
            exact t2 (nar .char (c_ &&& (65535 : Int32))) (nar .char (d_ &&& (65535 : Int32))) u1 ((own_ushr n_ (3 : Int32)) &&& (3 : Int32))
        · refine o_ifYes X38 hx 142 (hb hby at_130) (feq hc91).2 (by decide) (by decide) ?_
          refine o_iload X38 hx (hb hby at_142) rfl ?_
          refine o_iconst X38 hx (1 : Int32) (hb hby at_144) rfl ?_
          by_cases hc93 : ((own_ushr n_ (3 : Int32)) &&& (3 : Int32)) = (1 : Int32)
          · refine o_icmpNo X38 hx (hb hby at_145) (teq hc93).2 ?_
            refine o_iload X38 hx (hb hby at_148) rfl ?_
            refine o_goto X38 hx 155 (hb hby at_150) (by decide) (by decide) ?_
            refine o_istore X38 hx (l' := #[.val (.int n_), .val (.int a_), .val (.int b_), .val (.int c_), .val (.int d_), .val (.int e_), .val (.int u0), .val (.int u1), .val (.int cd), .val (.int (1 : Int32)), .val (.ref b32), .val (.int (nar .char (c_ &&& (65535 : Int32)))), .val (.int ((own_ushr n_ (3 : Int32)) &&& (3 : Int32))), .val (.int u0), .unset, .unset, .unset, .unset, .unset, .unset, .unset, .unset, .unset]) (hb hby at_155) rfl ?_
            refine o_iloadN X38 hx (hb hby at_157) rfl ?_
            refine o_iconst X38 hx (5 : Int32) (hb hby at_158) rfl ?_
            refine o_iushr X38 hx (hb hby at_159) ?_
            refine o_iconst X38 hx (1 : Int32) (hb hby at_160) rfl ?_
            refine o_iand X38 hx (hb hby at_161) ?_
            by_cases hc94 : ((own_ushr n_ (5 : Int32)) &&& (1 : Int32)) = (0 : Int32)
            · refine o_ifYes X38 hx 170 (hb hby at_162) (teq hc94).1 (by decide) (by decide) ?_
              refine o_iload X38 hx (hb hby at_170) rfl ?_
              refine ogo (S' := T38.setTop (mkF m 174 #[.val (.int n_), .val (.int a_), .val (.int b_), .val (.int c_), .val (.int d_), .val (.int e_), .val (.int u0), .val (.int u1), .val (.int cd), .val (.int (1 : Int32)), .val (.ref b32), .val (.int (nar .char (c_ &&& (65535 : Int32)))), .val (.int ((own_ushr n_ (3 : Int32)) &&& (3 : Int32))), .val (.int u0), .unset, .unset, .unset, .unset, .unset, .unset, .unset, .unset, .unset] [(.int (65535 : Int32)), (.int e_)])) (X38.ldcInt hx hown (mvT hZ w0) (g := (mkF m 172 #[.val (.int n_), .val (.int a_), .val (.int b_), .val (.int c_), .val (.int d_), .val (.int e_), .val (.int u0), .val (.int u1), .val (.int cd), .val (.int (1 : Int32)), .val (.ref b32), .val (.int (nar .char (c_ &&& (65535 : Int32)))), .val (.int ((own_ushr n_ (3 : Int32)) &&& (3 : Int32))), .val (.int u0), .unset, .unset, .unset, .unset, .unset, .unset, .unset, .unset, .unset] [(.int e_)])) rfl (hb hby at_172)) ?_
              refine o_iand X38 hx (hb hby at_174) ?_
              refine o_i2c X38 hx (hb hby at_175) ?_
              refine o_istore X38 hx (l' := #[.val (.int n_), .val (.int a_), .val (.int b_), .val (.int c_), .val (.int d_), .val (.int e_), .val (.int u0), .val (.int u1), .val (.int cd), .val (.int (1 : Int32)), .val (.ref b32), .val (.int (nar .char (c_ &&& (65535 : Int32)))), .val (.int ((own_ushr n_ (3 : Int32)) &&& (3 : Int32))), .val (.int u0), .val (.int (nar .char (e_ &&& (65535 : Int32)))), .unset, .unset, .unset, .unset, .unset, .unset, .unset, .unset]) (hb hby at_176) rfl ?_
              exact t2 (nar .char (c_ &&& (65535 : Int32))) u0 (nar .char (e_ &&& (65535 : Int32))) ((own_ushr n_ (3 : Int32)) &&& (3 : Int32))
            · refine o_ifNo X38 hx (hb hby at_162) (feq hc94).1 ?_
              refine o_iload X38 hx (hb hby at_165) rfl ?_
              refine o_goto X38 hx 176 (hb hby at_167) (by decide) (by decide) ?_
              refine o_istore X38 hx (l' := #[.val (.int n_), .val (.int a_), .val (.int b_), .val (.int c_), .val (.int d_), .val (.int e_), .val (.int u0), .val (.int u1), .val (.int cd), .val (.int (1 : Int32)), .val (.ref b32), .val (.int (nar .char (c_ &&& (65535 : Int32)))), .val (.int ((own_ushr n_ (3 : Int32)) &&& (3 : Int32))), .val (.int u0), .val (.int u1), .unset, .unset, .unset, .unset, .unset, .unset, .unset, .unset]) (hb hby at_176) rfl ?_
              exact t2 (nar .char (c_ &&& (65535 : Int32))) u0 u1 ((own_ushr n_ (3 : Int32)) &&& (3 : Int32))
          · refine o_icmpYes X38 hx 153 (hb hby at_145) (feq hc93).2 (by decide) (by decide) ?_
            refine o_iload X38 hx (hb hby at_153) rfl ?_
            refine o_istore X38 hx (l' := #[.val (.int n_), .val (.int a_), .val (.int b_), .val (.int c_), .val (.int d_), .val (.int e_), .val (.int u0), .val (.int u1), .val (.int cd), .val (.int (1 : Int32)), .val (.ref b32), .val (.int (nar .char (c_ &&& (65535 : Int32)))), .val (.int ((own_ushr n_ (3 : Int32)) &&& (3 : Int32))), .val (.int u1), .unset, .unset, .unset, .unset, .unset, .unset, .unset, .unset, .unset]) (hb hby at_155) rfl ?_
            refine o_iloadN X38 hx (hb hby at_157) rfl ?_
            refine o_iconst X38 hx (5 : Int32) (hb hby at_158) rfl ?_
            refine o_iushr X38 hx (hb hby at_159) ?_
            refine o_iconst X38 hx (1 : Int32) (hb hby at_160) rfl ?_
            refine o_iand X38 hx (hb hby at_161) ?_
            by_cases hc95 : ((own_ushr n_ (5 : Int32)) &&& (1 : Int32)) = (0 : Int32)
            · refine o_ifYes X38 hx 170 (hb hby at_162) (teq hc95).1 (by decide) (by decide) ?_
              refine o_iload X38 hx (hb hby at_170) rfl ?_
              refine ogo (S' := T38.setTop (mkF m 174 #[.val (.int n_), .val (.int a_), .val (.int b_), .val (.int c_), .val (.int d_), .val (.int e_), .val (.int u0), .val (.int u1), .val (.int cd), .val (.int (1 : Int32)), .val (.ref b32), .val (.int (nar .char (c_ &&& (65535 : Int32)))), .val (.int ((own_ushr n_ (3 : Int32)) &&& (3 : Int32))), .val (.int u1), .unset, .unset, .unset, .unset, .unset, .unset, .unset, .unset, .unset] [(.int (65535 : Int32)), (.int e_)])) (X38.ldcInt hx hown (mvT hZ w0) (g := (mkF m 172 #[.val (.int n_), .val (.int a_), .val (.int b_), .val (.int c_), .val (.int d_), .val (.int e_), .val (.int u0), .val (.int u1), .val (.int cd), .val (.int (1 : Int32)), .val (.ref b32), .val (.int (nar .char (c_ &&& (65535 : Int32)))), .val (.int ((own_ushr n_ (3 : Int32)) &&& (3 : Int32))), .val (.int u1), .unset, .unset, .unset, .unset, .unset, .unset, .unset, .unset, .unset] [(.int e_)])) rfl (hb hby at_172)) ?_
              refine o_iand X38 hx (hb hby at_174) ?_
              refine o_i2c X38 hx (hb hby at_175) ?_
              refine o_istore X38 hx (l' := #[.val (.int n_), .val (.int a_), .val (.int b_), .val (.int c_), .val (.int d_), .val (.int e_), .val (.int u0), .val (.int u1), .val (.int cd), .val (.int (1 : Int32)), .val (.ref b32), .val (.int (nar .char (c_ &&& (65535 : Int32)))), .val (.int ((own_ushr n_ (3 : Int32)) &&& (3 : Int32))), .val (.int u1), .val (.int (nar .char (e_ &&& (65535 : Int32)))), .unset, .unset, .unset, .unset, .unset, .unset, .unset, .unset]) (hb hby at_176) rfl ?_
              exact t2 (nar .char (c_ &&& (65535 : Int32))) u1 (nar .char (e_ &&& (65535 : Int32))) ((own_ushr n_ (3 : Int32)) &&& (3 : Int32))
            · refine o_ifNo X38 hx (hb hby at_162) (feq hc95).1 ?_
              refine o_iload X38 hx (hb hby at_165) rfl ?_
              refine o_goto X38 hx 176 (hb hby at_167) (by decide) (by decide) ?_
              refine o_istore X38 hx (l' := #[.val (.int n_), .val (.int a_), .val (.int b_), .val (.int c_), .val (.int d_), .val (.int e_), .val (.int u0), .val (.int u1), .val (.int cd), .val (.int (1 : Int32)), .val (.ref b32), .val (.int (nar .char (c_ &&& (65535 : Int32)))), .val (.int ((own_ushr n_ (3 : Int32)) &&& (3 : Int32))), .val (.int u1), .val (.int u1), .unset, .unset, .unset, .unset, .unset, .unset, .unset, .unset]) (hb hby at_176) rfl ?_
              exact t2 (nar .char (c_ &&& (65535 : Int32))) u1 u1 ((own_ushr n_ (3 : Int32)) &&& (3 : Int32))
      · refine o_ifNo X38 hx (hb hby at_106) (feq hc90).1 ?_
        refine o_iload X38 hx (hb hby at_109) rfl ?_
        refine o_goto X38 hx 119 (hb hby at_111) (by decide) (by decide) ?_
        refine o_istore X38 hx (l' := #[.val (.int n_), .val (.int a_), .val (.int b_), .val (.int c_), .val (.int d_), .val (.int e_), .val (.int u0), .val (.int u1), .val (.int cd), .val (.int (1 : Int32)), .val (.ref b32), .val (.int u0), .unset, .unset, .unset, .unset, .unset, .unset, .unset, .unset, .unset, .unset, .unset]) (hb hby at_119) rfl ?_
        refine o_iloadN X38 hx (hb hby at_121) rfl ?_
        refine o_iconst X38 hx (3 : Int32) (hb hby at_122) rfl ?_
        refine o_iushr X38 hx (hb hby at_123) ?_
        refine o_iconst X38 hx (3 : Int32) (hb hby at_124) rfl ?_
        refine o_iand X38 hx (hb hby at_125) ?_
        refine o_istore X38 hx (l' := #[.val (.int n_), .val (.int a_), .val (.int b_), .val (.int c_), .val (.int d_), .val (.int e_), .val (.int u0), .val (.int u1), .val (.int cd), .val (.int (1 : Int32)), .val (.ref b32), .val (.int u0), .val (.int ((own_ushr n_ (3 : Int32)) &&& (3 : Int32))), .unset, .unset, .unset, .unset, .unset, .unset, .unset, .unset, .unset, .unset]) (hb hby at_126) rfl ?_
        refine o_iload X38 hx (hb hby at_128) rfl ?_
        by_cases hc96 : ((own_ushr n_ (3 : Int32)) &&& (3 : Int32)) = (0 : Int32)
        · refine o_ifNo X38 hx (hb hby at_130) (teq hc96).2 ?_
          refine o_iload X38 hx (hb hby at_133) rfl ?_
          refine ogo (S' := T38.setTop (mkF m 137 #[.val (.int n_), .val (.int a_), .val (.int b_), .val (.int c_), .val (.int d_), .val (.int e_), .val (.int u0), .val (.int u1), .val (.int cd), .val (.int (1 : Int32)), .val (.ref b32), .val (.int u0), .val (.int ((own_ushr n_ (3 : Int32)) &&& (3 : Int32))), .unset, .unset, .unset, .unset, .unset, .unset, .unset, .unset, .unset, .unset] [(.int (65535 : Int32)), (.int d_)])) (X38.ldcInt hx hown (mvT hZ w0) (g := (mkF m 135 #[.val (.int n_), .val (.int a_), .val (.int b_), .val (.int c_), .val (.int d_), .val (.int e_), .val (.int u0), .val (.int u1), .val (.int cd), .val (.int (1 : Int32)), .val (.ref b32), .val (.int u0), .val (.int ((own_ushr n_ (3 : Int32)) &&& (3 : Int32))), .unset, .unset, .unset, .unset, .unset, .unset, .unset, .unset, .unset, .unset] [(.int d_)])) rfl (hb hby at_135)) ?_
          refine o_iand X38 hx (hb hby at_137) ?_
          refine o_i2c X38 hx (hb hby at_138) ?_
          refine o_goto X38 hx 155 (hb hby at_139) (by decide) (by decide) ?_
          refine o_istore X38 hx (l' := #[.val (.int n_), .val (.int a_), .val (.int b_), .val (.int c_), .val (.int d_), .val (.int e_), .val (.int u0), .val (.int u1), .val (.int cd), .val (.int (1 : Int32)), .val (.ref b32), .val (.int u0), .val (.int ((own_ushr n_ (3 : Int32)) &&& (3 : Int32))), .val (.int (nar .char (d_ &&& (65535 : Int32)))), .unset, .unset, .unset, .unset, .unset, .unset, .unset, .unset, .unset]) (hb hby at_155) rfl ?_
          refine o_iloadN X38 hx (hb hby at_157) rfl ?_
          refine o_iconst X38 hx (5 : Int32) (hb hby at_158) rfl ?_
          refine o_iushr X38 hx (hb hby at_159) ?_
          refine o_iconst X38 hx (1 : Int32) (hb hby at_160) rfl ?_
          refine o_iand X38 hx (hb hby at_161) ?_
          by_cases hc97 : ((own_ushr n_ (5 : Int32)) &&& (1 : Int32)) = (0 : Int32)
          · refine o_ifYes X38 hx 170 (hb hby at_162) (teq hc97).1 (by decide) (by decide) ?_
            refine o_iload X38 hx (hb hby at_170) rfl ?_
            refine ogo (S' := T38.setTop (mkF m 174 #[.val (.int n_), .val (.int a_), .val (.int b_), .val (.int c_), .val (.int d_), .val (.int e_), .val (.int u0), .val (.int u1), .val (.int cd), .val (.int (1 : Int32)), .val (.ref b32), .val (.int u0), .val (.int ((own_ushr n_ (3 : Int32)) &&& (3 : Int32))), .val (.int (nar .char (d_ &&& (65535 : Int32)))), .unset, .unset, .unset, .unset, .unset, .unset, .unset, .unset, .unset] [(.int (65535 : Int32)), (.int e_)])) (X38.ldcInt hx hown (mvT hZ w0) (g := (mkF m 172 #[.val (.int n_), .val (.int a_), .val (.int b_), .val (.int c_), .val (.int d_), .val (.int e_), .val (.int u0), .val (.int u1), .val (.int cd), .val (.int (1 : Int32)), .val (.ref b32), .val (.int u0), .val (.int ((own_ushr n_ (3 : Int32)) &&& (3 : Int32))), .val (.int (nar .char (d_ &&& (65535 : Int32)))), .unset, .unset, .unset, .unset, .unset, .unset, .unset, .unset, .unset] [(.int e_)])) rfl (hb hby at_172)) ?_
            refine o_iand X38 hx (hb hby at_174) ?_
            refine o_i2c X38 hx (hb hby at_175) ?_
            refine o_istore X38 hx (l' := #[.val (.int n_), .val (.int a_), .val (.int b_), .val (.int c_), .val (.int d_), .val (.int e_), .val (.int u0), .val (.int u1), .val (.int cd), .val (.int (1 : Int32)), .val (.ref b32), .val (.int u0), .val (.int ((own_ushr n_ (3 : Int32)) &&& (3 : Int32))), .val (.int (nar .char (d_ &&& (65535 : Int32)))), .val (.int (nar .char (e_ &&& (65535 : Int32)))), .unset, .unset, .unset, .unset, .unset, .unset, .unset, .unset]) (hb hby at_176) rfl ?_
            exact t2 u0 (nar .char (d_ &&& (65535 : Int32))) (nar .char (e_ &&& (65535 : Int32))) ((own_ushr n_ (3 : Int32)) &&& (3 : Int32))
          · refine o_ifNo X38 hx (hb hby at_162) (feq hc97).1 ?_
            refine o_iload X38 hx (hb hby at_165) rfl ?_
            refine o_goto X38 hx 176 (hb hby at_167) (by decide) (by decide) ?_
            refine o_istore X38 hx (l' := #[.val (.int n_), .val (.int a_), .val (.int b_), .val (.int c_), .val (.int d_), .val (.int e_), .val (.int u0), .val (.int u1), .val (.int cd), .val (.int (1 : Int32)), .val (.ref b32), .val (.int u0), .val (.int ((own_ushr n_ (3 : Int32)) &&& (3 : Int32))), .val (.int (nar .char (d_ &&& (65535 : Int32)))), .val (.int u1), .unset, .unset, .unset, .unset, .unset, .unset, .unset, .unset]) (hb hby at_176) rfl ?_
            exact t2 u0 (nar .char (d_ &&& (65535 : Int32))) u1 ((own_ushr n_ (3 : Int32)) &&& (3 : Int32))
        · refine o_ifYes X38 hx 142 (hb hby at_130) (feq hc96).2 (by decide) (by decide) ?_
          refine o_iload X38 hx (hb hby at_142) rfl ?_
          refine o_iconst X38 hx (1 : Int32) (hb hby at_144) rfl ?_
          by_cases hc98 : ((own_ushr n_ (3 : Int32)) &&& (3 : Int32)) = (1 : Int32)
          · refine o_icmpNo X38 hx (hb hby at_145) (teq hc98).2 ?_
            refine o_iload X38 hx (hb hby at_148) rfl ?_
            refine o_goto X38 hx 155 (hb hby at_150) (by decide) (by decide) ?_
            refine o_istore X38 hx (l' := #[.val (.int n_), .val (.int a_), .val (.int b_), .val (.int c_), .val (.int d_), .val (.int e_), .val (.int u0), .val (.int u1), .val (.int cd), .val (.int (1 : Int32)), .val (.ref b32), .val (.int u0), .val (.int ((own_ushr n_ (3 : Int32)) &&& (3 : Int32))), .val (.int u0), .unset, .unset, .unset, .unset, .unset, .unset, .unset, .unset, .unset]) (hb hby at_155) rfl ?_
            refine o_iloadN X38 hx (hb hby at_157) rfl ?_
            refine o_iconst X38 hx (5 : Int32) (hb hby at_158) rfl ?_
            refine o_iushr X38 hx (hb hby at_159) ?_
            refine o_iconst X38 hx (1 : Int32) (hb hby at_160) rfl ?_
            refine o_iand X38 hx (hb hby at_161) ?_
            by_cases hc99 : ((own_ushr n_ (5 : Int32)) &&& (1 : Int32)) = (0 : Int32)
            · refine o_ifYes X38 hx 170 (hb hby at_162) (teq hc99).1 (by decide) (by decide) ?_
              refine o_iload X38 hx (hb hby at_170) rfl ?_
              refine ogo (S' := T38.setTop (mkF m 174 #[.val (.int n_), .val (.int a_), .val (.int b_), .val (.int c_), .val (.int d_), .val (.int e_), .val (.int u0), .val (.int u1), .val (.int cd), .val (.int (1 : Int32)), .val (.ref b32), .val (.int u0), .val (.int ((own_ushr n_ (3 : Int32)) &&& (3 : Int32))), .val (.int u0), .unset, .unset, .unset, .unset, .unset, .unset, .unset, .unset, .unset] [(.int (65535 : Int32)), (.int e_)])) (X38.ldcInt hx hown (mvT hZ w0) (g := (mkF m 172 #[.val (.int n_), .val (.int a_), .val (.int b_), .val (.int c_), .val (.int d_), .val (.int e_), .val (.int u0), .val (.int u1), .val (.int cd), .val (.int (1 : Int32)), .val (.ref b32), .val (.int u0), .val (.int ((own_ushr n_ (3 : Int32)) &&& (3 : Int32))), .val (.int u0), .unset, .unset, .unset, .unset, .unset, .unset, .unset, .unset, .unset] [(.int e_)])) rfl (hb hby at_172)) ?_
              refine o_iand X38 hx (hb hby at_174) ?_
              refine o_i2c X38 hx (hb hby at_175) ?_
              refine o_istore X38 hx (l' := #[.val (.int n_), .val (.int a_), .val (.int b_), .val (.int c_), .val (.int d_), .val (.int e_), .val (.int u0), .val (.int u1), .val (.int cd), .val (.int (1 : Int32)), .val (.ref b32), .val (.int u0), .val (.int ((own_ushr n_ (3 : Int32)) &&& (3 : Int32))), .val (.int u0), .val (.int (nar .char (e_ &&& (65535 : Int32)))), .unset, .unset, .unset, .unset, .unset, .unset, .unset, .unset]) (hb hby at_176) rfl ?_
              exact t2 u0 u0 (nar .char (e_ &&& (65535 : Int32))) ((own_ushr n_ (3 : Int32)) &&& (3 : Int32))
            · refine o_ifNo X38 hx (hb hby at_162) (feq hc99).1 ?_
              refine o_iload X38 hx (hb hby at_165) rfl ?_
              refine o_goto X38 hx 176 (hb hby at_167) (by decide) (by decide) ?_
              refine o_istore X38 hx (l' := #[.val (.int n_), .val (.int a_), .val (.int b_), .val (.int c_), .val (.int d_), .val (.int e_), .val (.int u0), .val (.int u1), .val (.int cd), .val (.int (1 : Int32)), .val (.ref b32), .val (.int u0), .val (.int ((own_ushr n_ (3 : Int32)) &&& (3 : Int32))), .val (.int u0), .val (.int u1), .unset, .unset, .unset, .unset, .unset, .unset, .unset, .unset]) (hb hby at_176) rfl ?_
              exact t2 u0 u0 u1 ((own_ushr n_ (3 : Int32)) &&& (3 : Int32))
          · refine o_icmpYes X38 hx 153 (hb hby at_145) (feq hc98).2 (by decide) (by decide) ?_
            refine o_iload X38 hx (hb hby at_153) rfl ?_
            refine o_istore X38 hx (l' := #[.val (.int n_), .val (.int a_), .val (.int b_), .val (.int c_), .val (.int d_), .val (.int e_), .val (.int u0), .val (.int u1), .val (.int cd), .val (.int (1 : Int32)), .val (.ref b32), .val (.int u0), .val (.int ((own_ushr n_ (3 : Int32)) &&& (3 : Int32))), .val (.int u1), .unset, .unset, .unset, .unset, .unset, .unset, .unset, .unset, .unset]) (hb hby at_155) rfl ?_
            refine o_iloadN X38 hx (hb hby at_157) rfl ?_
            refine o_iconst X38 hx (5 : Int32) (hb hby at_158) rfl ?_
            refine o_iushr X38 hx (hb hby at_159) ?_
            refine o_iconst X38 hx (1 : Int32) (hb hby at_160) rfl ?_
            refine o_iand X38 hx (hb hby at_161) ?_
            by_cases hc100 : ((own_ushr n_ (5 : Int32)) &&& (1 : Int32)) = (0 : Int32)
            · refine o_ifYes X38 hx 170 (hb hby at_162) (teq hc100).1 (by decide) (by decide) ?_
              refine o_iload X38 hx (hb hby at_170) rfl ?_
              refine ogo (S' := T38.setTop (mkF m 174 #[.val (.int n_), .val (.int a_), .val (.int b_), .val (.int c_), .val (.int d_), .val (.int e_), .val (.int u0), .val (.int u1), .val (.int cd), .val (.int (1 : Int32)), .val (.ref b32), .val (.int u0), .val (.int ((own_ushr n_ (3 : Int32)) &&& (3 : Int32))), .val (.int u1), .unset, .unset, .unset, .unset, .unset, .unset, .unset, .unset, .unset] [(.int (65535 : Int32)), (.int e_)])) (X38.ldcInt hx hown (mvT hZ w0) (g := (mkF m 172 #[.val (.int n_), .val (.int a_), .val (.int b_), .val (.int c_), .val (.int d_), .val (.int e_), .val (.int u0), .val (.int u1), .val (.int cd), .val (.int (1 : Int32)), .val (.ref b32), .val (.int u0), .val (.int ((own_ushr n_ (3 : Int32)) &&& (3 : Int32))), .val (.int u1), .unset, .unset, .unset, .unset, .unset, .unset, .unset, .unset, .unset] [(.int e_)])) rfl (hb hby at_172)) ?_
              refine o_iand X38 hx (hb hby at_174) ?_
              refine o_i2c X38 hx (hb hby at_175) ?_
              refine o_istore X38 hx (l' := #[.val (.int n_), .val (.int a_), .val (.int b_), .val (.int c_), .val (.int d_), .val (.int e_), .val (.int u0), .val (.int u1), .val (.int cd), .val (.int (1 : Int32)), .val (.ref b32), .val (.int u0), .val (.int ((own_ushr n_ (3 : Int32)) &&& (3 : Int32))), .val (.int u1), .val (.int (nar .char (e_ &&& (65535 : Int32)))), .unset, .unset, .unset, .unset, .unset, .unset, .unset, .unset]) (hb hby at_176) rfl ?_
              exact t2 u0 u1 (nar .char (e_ &&& (65535 : Int32))) ((own_ushr n_ (3 : Int32)) &&& (3 : Int32))
            · refine o_ifNo X38 hx (hb hby at_162) (feq hc100).1 ?_
              refine o_iload X38 hx (hb hby at_165) rfl ?_
              refine o_goto X38 hx 176 (hb hby at_167) (by decide) (by decide) ?_
              refine o_istore X38 hx (l' := #[.val (.int n_), .val (.int a_), .val (.int b_), .val (.int c_), .val (.int d_), .val (.int e_), .val (.int u0), .val (.int u1), .val (.int cd), .val (.int (1 : Int32)), .val (.ref b32), .val (.int u0), .val (.int ((own_ushr n_ (3 : Int32)) &&& (3 : Int32))), .val (.int u1), .val (.int u1), .unset, .unset, .unset, .unset, .unset, .unset, .unset, .unset]) (hb hby at_176) rfl ?_
              exact t2 u0 u1 u1 ((own_ushr n_ (3 : Int32)) &&& (3 : Int32))
    · refine o_iload X0 hx (hb hby at_33) rfl ?_
      refine o_ifYes X0 hx 53 (hb hby at_35) (feq (by decide : ¬ ((2 : Int32) = (0 : Int32)))).2 (by decide) (by decide) ?_
      refine o_iload X0 hx (hb hby at_53) rfl ?_
      refine o_iconst X0 hx (1 : Int32) (hb hby at_55) rfl ?_
      refine o_icmpYes X0 hx 79 (hb hby at_56) (feq (by decide : ¬ ((2 : Int32) = (1 : Int32)))).2 (by decide) (by decide) ?_
      obtain ⟨T101, _, X101, rfl, E101, A101, D101, -, st101⟩ := newO X0 hx hZ hown w1 w2 w3 e0 (g := (mkF m 79 #[.val (.int n_), .val (.int a_), .val (.int b_), .val (.int c_), .val (.int d_), .val (.int e_), .val (.int u0), .val (.int u1), .val (.int cd), .val (.int (2 : Int32)), .unset, .unset, .unset, .unset, .unset, .unset, .unset, .unset, .unset, .unset, .unset, .unset, .unset] [])) rfl (hb hby at_79) (by decide) (by decide)
      obtain ⟨b101, g101⟩ : ∃ z, z = h0.size := ⟨_, rfl⟩
      rw [← g101] at A101 D101 st101
      have n0_b101 : n0 ≤ b101 := Nat.le_trans (Nat.le_trans (Nat.le_of_eq O0.1.symm) O0.2.1) (Nat.le_trans (Nat.le_refl _) (Nat.le_of_eq g101.symm))
      have H102 := CHv.ext E101 H0
      have F101_value : Fld Z T101.heap b101 "java/lang/String" "value" "[B" .null := D101 (Or.inr w17) (ty := (.array .byte)) (by decide)
      have F101_coder : Fld Z T101.heap b101 "java/lang/String" "coder" "B" (.int (0 : Int32)) := D101 (Or.inr w18) (ty := .byte) (by decide)
      refine ogo (S' := T101.setTop (mkF m 82 #[.val (.int n_), .val (.int a_), .val (.int b_), .val (.int c_), .val (.int d_), .val (.int e_), .val (.int u0), .val (.int u1), .val (.int cd), .val (.int (2 : Int32)), .unset, .unset, .unset, .unset, .unset, .unset, .unset, .unset, .unset, .unset, .unset, .unset, .unset] [(.ref b101)])) st101 ?_
      refine o_dup X101 hx (hb hby at_82) rfl ?_
      refine o_iconst X101 hx (2 : Int32) (hb hby at_83) rfl ?_
      obtain ⟨T103, _, k103, X103, rfl, E103, A103, Ex103, st103⟩ := newPE (aty := .char) X101 hx hZ w4 rfl (g := (mkF m 84 #[.val (.int n_), .val (.int a_), .val (.int b_), .val (.int c_), .val (.int d_), .val (.int e_), .val (.int u0), .val (.int u1), .val (.int cd), .val (.int (2 : Int32)), .unset, .unset, .unset, .unset, .unset, .unset, .unset, .unset, .unset, .unset, .unset, .unset, .unset] [(.int (2 : Int32)), (.ref b101), (.ref b101)])) rfl (hb hby at_84) rfl (by decide) (cap := 2) (by decide) (by decide) (by decide) (by decide) (ad := "[C") rfl
      obtain ⟨b103, g103⟩ : ∃ z, z = T101.heap.size := ⟨_, rfl⟩
      rw [← g103] at A103 Ex103 st103
      have n0_b103 : n0 ≤ b103 := Nat.le_trans (Nat.le_trans (Nat.le_of_eq O0.1.symm) O0.2.1) (Nat.le_trans E101.1 (Nat.le_of_eq g103.symm))
      have H104 := CHv.ext E103 H102
      have V103 : Arv Z T103.heap b103 k103 .char (2 : Int32) [(.int 0), (.int 0)] (.int 0) := (Arv.new A103 (by decide)).pad (pad_rep [] (.int 0) 2)
      refine ogo (S' := T103.setTop (mkF m 86 #[.val (.int n_), .val (.int a_), .val (.int b_), .val (.int c_), .val (.int d_), .val (.int e_), .val (.int u0), .val (.int u1), .val (.int cd), .val (.int (2 : Int32)), .unset, .unset, .unset, .unset, .unset, .unset, .unset, .unset, .unset, .unset, .unset, .unset, .unset] [(.ref b103), (.ref b101), (.ref b101)])) st103 ?_
      refine o_dup X103 hx (hb hby at_86) rfl ?_
      refine o_iconst X103 hx (0 : Int32) (hb hby at_87) rfl ?_
      refine o_iload X103 hx (hb hby at_88) rfl ?_
      obtain ⟨cl105, Ar105, q105, S105, N105z, H105, G105⟩ := (id V103)
      obtain ⟨T105, _, X105, rfl, W105, st105⟩ := stC X103 hx hZ rfl Ar105 (j := (0 : Int32)) (inb_of S105 ⟨by decide, by decide⟩) (g := (mkF m 90 #[.val (.int n_), .val (.int a_), .val (.int b_), .val (.int c_), .val (.int d_), .val (.int e_), .val (.int u0), .val (.int u1), .val (.int cd), .val (.int (2 : Int32)), .unset, .unset, .unset, .unset, .unset, .unset, .unset, .unset, .unset, .unset, .unset, .unset, .unset] [(.int u0), (.int (0 : Int32)), (.ref b103), (.ref b103), (.ref b101), (.ref b101)])) rfl rfl (hb hby at_90)
      rw [(own_nar16 hcu0)] at W105
      have V105 : Arv Z T105.heap b103 k103 .char (2 : Int32) [(.int u0), (.int 0)] (.int 0) := Arv.set Ar105 q105 S105 N105z H105 G105 (by have q := fits_nar_char u0; rw [(own_nar16 hcu0)] at q; exact q) W105 0 rfl (Nat.le_of_ble_eq_true rfl)
      have N105 := Fr.snoc X105 N0 n0_b103
      have H106 := CHv.wr W105 (Safe.exa hZ.alike Ex103 (by decide) (by decide)) H104
      refine ogo (S' := T105.setTop (mkF m 91 #[.val (.int n_), .val (.int a_), .val (.int b_), .val (.int c_), .val (.int d_), .val (.int e_), .val (.int u0), .val (.int u1), .val (.int cd), .val (.int (2 : Int32)), .unset, .unset, .unset, .unset, .unset, .unset, .unset, .unset, .unset, .unset, .unset, .unset, .unset] [(.ref b103), (.ref b101), (.ref b101)])) st105 ?_
      refine o_dup X105 hx (hb hby at_91) rfl ?_
      refine o_iconst X105 hx (1 : Int32) (hb hby at_92) rfl ?_
      refine o_iload X105 hx (hb hby at_93) rfl ?_
      obtain ⟨cl107, Ar107, q107, S107, N107z, H107, G107⟩ := (id V105)
      obtain ⟨T107, _, X107, rfl, W107, st107⟩ := stC X105 hx hZ rfl Ar107 (j := (1 : Int32)) (inb_of S107 ⟨by decide, by decide⟩) (g := (mkF m 95 #[.val (.int n_), .val (.int a_), .val (.int b_), .val (.int c_), .val (.int d_), .val (.int e_), .val (.int u0), .val (.int u1), .val (.int cd), .val (.int (2 : Int32)), .unset, .unset, .unset, .unset, .unset, .unset, .unset, .unset, .unset, .unset, .unset, .unset, .unset] [(.int u1), (.int (1 : Int32)), (.ref b103), (.ref b103), (.ref b101), (.ref b101)])) rfl rfl (hb hby at_95)
      rw [(own_nar16 hcu1)] at W107
      have V107 : Arv Z T107.heap b103 k103 .char (2 : Int32) [(.int u0), (.int u1)] (.int 0) := Arv.set Ar107 q107 S107 N107z H107 G107 (by have q := fits_nar_char u1; rw [(own_nar16 hcu1)] at q; exact q) W107 1 rfl (Nat.le_of_ble_eq_true rfl)
      have N107 := Fr.snoc X107 N105 n0_b103
      have H108 := CHv.wr W107 (Safe.exa hZ.alike (Exa.wr W105 Ex103) (by decide) (by decide)) H106
      refine ogo (S' := T107.setTop (mkF m 96 #[.val (.int n_), .val (.int a_), .val (.int b_), .val (.int c_), .val (.int d_), .val (.int e_), .val (.int u0), .val (.int u1), .val (.int cd), .val (.int (2 : Int32)), .unset, .unset, .unset, .unset, .unset, .unset, .unset, .unset, .unset, .unset, .unset, .unset, .unset] [(.ref b103), (.ref b101), (.ref b101)])) st107 ?_
      have c110 := ((((O0.ext E101).ext E103).wr W105 n0_b103).wr W107 n0_b103)
      have c111 := (Fld.other W107 (Fld.other W105 (Fld.ext E103 F101_value) (Or.inl (Nat.ne_of_lt (Nat.lt_of_lt_of_le (Nat.lt_of_lt_of_le A101.lt (Nat.le_refl _)) (Nat.le_of_eq g103.symm))))) (Or.inl (Nat.ne_of_lt (Nat.lt_of_lt_of_le (Nat.lt_of_lt_of_le A101.lt (Nat.le_refl _)) (Nat.le_of_eq g103.symm)))))
      have c112 := (Fld.other W107 (Fld.other W105 (Fld.ext E103 F101_coder) (Or.inl (Nat.ne_of_lt (Nat.lt_of_lt_of_le (Nat.lt_of_lt_of_le A101.lt (Nat.le_refl _)) (Nat.le_of_eq g103.symm))))) (Or.inl (Nat.ne_of_lt (Nat.lt_of_lt_of_le (Nat.lt_of_lt_of_le A101.lt (Nat.le_refl _)) (Nat.le_of_eq g103.symm)))))
      have c113 := (Safe.wr W107 (Safe.exa hZ.alike (Exa.wr W105 Ex103) (by decide) (by decide)) H106 (Safe.wr W105 (Safe.exa hZ.alike Ex103 (by decide) (by decide)) H104 (Safe.ext E103 H102 (Safe.ext E101 H0 (Safe.new (Nat.le_of_eq g101.symm))))))
      obtain ⟨_, _, ⟨T109, L109, kc109, n109⟩, -, X109, ⟨Lc109, hQ109, l109, y109, z109⟩, st109⟩ := X107.specialBack hx (y := yM10) rfl hown (mvT hZ w5) (mvT hZ w6) (mvT hZ w7) (by decide) (backOf (W := 1) (rm_new1e_2 l Z a0 hw [] z_CS v_FMT b101 b103 k103 u0 u1 T107.heap n0 SB c110 (Exa.wr W107 (Exa.wr W105 (Exa.ext E103 A101))) c111 c112 V107 n0_b101 hcu0 hcu1) hZ w7 w3 (by decide) (by decide)) (g := (mkF m 96 #[.val (.int n_), .val (.int a_), .val (.int b_), .val (.int c_), .val (.int d_), .val (.int e_), .val (.int u0), .val (.int u1), .val (.int cd), .val (.int (2 : Int32)), .unset, .unset, .unset, .unset, .unset, .unset, .unset, .unset, .unset, .unset, .unset, .unset, .unset] [(.ref b103), (.ref b101), (.ref b101)])) rfl (by rw [hml]; rfl) (Steps.refl _) (a := b101) (argsL := [(.ref b103)]) (rest := [(.ref b101)]) (lenOf own_pd16 rfl) rfl (by show 2 * 0 + _ ≤ _; exact Nat.le_of_eq rfl) (hb hby at_96) (fun _ _ => ⟨rfl, rfl, (by decide : 2 + 2 ≤ _), (by decide : 6 + 6 ≤ _)⟩)
      dsimp only [Pt.U, Pt.locs, Pt.cells, Pt.slots] at X109 l109 y109 z109 st109 hQ109
      subst l109 y109 z109
      obtain ⟨ba_109, kb_109, cd_109, z_109, vs_109, rfl, Nq109, K109, p109_0, p109_1, p109_2, p109_3, p109_4, p109_5⟩ := hQ109
      have N109 := Fr.app N107 Nq109
      have H114 := CHv.keep K109 (allS c113 all0) H108
      have n0_ba_109 : n0 ≤ ba_109 := Nat.le_trans (Nat.le_trans (Nat.le_of_eq O0.1.symm) O0.2.1) (Nat.le_trans (Nat.le_trans (Nat.le_trans (Nat.le_trans E101.1 E103.1) (Keep.of_wr W105).1) (Keep.of_wr W107).1) p109_0)
      refine otr (S' := T109.setTop (mkF m 99 #[.val (.int n_), .val (.int a_), .val (.int b_), .val (.int c_), .val (.int d_), .val (.int e_), .val (.int u0), .val (.int u1), .val (.int cd), .val (.int (2 : Int32)), .unset, .unset, .unset, .unset, .unset, .unset, .unset, .unset, .unset, .unset, .unset, .unset, .unset] [(.ref b101)])) st109 ?_
      refine o_astore X109 hx (l' := #[.val (.int n_), .val (.int a_), .val (.int b_), .val (.int c_), .val (.int d_), .val (.int e_), .val (.int u0), .val (.int u1), .val (.int cd), .val (.int (2 : Int32)), .val (.ref b101), .unset, .unset, .unset, .unset, .unset, .unset, .unset, .unset, .unset, .unset, .unset, .unset]) (hb hby at_99) rfl rfl ?_
      have t2 : ∀ (v1 v2 v3 k2 : Int32), Own p e below (oPostS Z (own_Q_law Z z_CS v_FMT n_ a_ b_ c_ d_ e_ h0 n0) s 24 1152) (T109.setTop (mkF m 178 #[.val (.int n_), .val (.int a_), .val (.int b_), .val (.int c_), .val (.int d_), .val (.int e_), .val (.int u0), .val (.int u1), .val (.int cd), .val (.int (2 : Int32)), .val (.ref b101), .val (.int v1), .val (.int k2), .val (.int v2), .val (.int v3), .unset, .unset, .unset, .unset, .unset, .unset, .unset, .unset] [])) := by
        intro v1 v2 v3 k2
        obtain ⟨T115, _, X115, rfl, E115, A115, D115, -, st115⟩ := newO X109 hx hZ hown w23 w24 w25 rfl (g := (mkF m 178 #[.val (.int n_), .val (.int a_), .val (.int b_), .val (.int c_), .val (.int d_), .val (.int e_), .val (.int u0), .val (.int u1), .val (.int cd), .val (.int (2 : Int32)), .val (.ref b101), .val (.int v1), .val (.int k2), .val (.int v2), .val (.int v3), .unset, .unset, .unset, .unset, .unset, .unset, .unset, .unset] [])) rfl (hb hby at_178) (by decide) (by decide)
        obtain ⟨b115, g115⟩ : ∃ z, z = T109.heap.size := ⟨_, rfl⟩
        rw [← g115] at A115 D115 st115
        have n0_b115 : n0 ≤ b115 := Nat.le_trans (Nat.le_trans (Nat.le_of_eq O0.1.symm) O0.2.1) (Nat.le_trans (Nat.le_trans (Nat.le_trans (Nat.le_trans (Nat.le_trans E101.1 E103.1) (Keep.of_wr W105).1) (Keep.of_wr W107).1) K109.1) (Nat.le_of_eq g115.symm))
        have H116 := CHv.ext E115 H114
        have F115_text : Fld Z T115.heap b115 "com/example/rowfold/rowfold/Literal" "text" "Ljava/lang/String;" .null := D115 (Or.inr w31) (ty := (.object "java/lang/String")) (by decide)
        have F115_at : Fld Z T115.heap b115 "com/example/rowfold/rowfold/Literal" "at" "I" (.int (0 : Int32)) := D115 (Or.inl w38) (ty := .int) (by decide)
        refine ogo (S' := T115.setTop (mkF m 181 #[.val (.int n_), .val (.int a_), .val (.int b_), .val (.int c_), .val (.int d_), .val (.int e_), .val (.int u0), .val (.int u1), .val (.int cd), .val (.int (2 : Int32)), .val (.ref b101), .val (.int v1), .val (.int k2), .val (.int v2), .val (.int v3), .unset, .unset, .unset, .unset, .unset, .unset, .unset, .unset] [(.ref b115)])) st115 ?_
        refine o_dup X115 hx (hb hby at_181) rfl ?_
        refine o_aload X115 hx (hb hby at_182) rfl rfl ?_
        obtain ⟨_, _, ⟨T117, L117, kc117, n117⟩, -, X117, ⟨Lc117, hQ117, l117, y117, z117⟩, st117⟩ := X115.specialBack hx (y := yM0) rfl hown (mvT hZ w26) (mvT hZ w27) (mvT hZ w28) (by decide) (backOf (W := 1) (rm_linit l Z a0 hw []  b115 b101 T115.heap n0 ((c110.keep K109 (allS n0_b101 all0)).ext E115) A115 F115_text F115_at n0_b115) hZ w28 w25 (by decide) (by decide)) (g := (mkF m 184 #[.val (.int n_), .val (.int a_), .val (.int b_), .val (.int c_), .val (.int d_), .val (.int e_), .val (.int u0), .val (.int u1), .val (.int cd), .val (.int (2 : Int32)), .val (.ref b101), .val (.int v1), .val (.int k2), .val (.int v2), .val (.int v3), .unset, .unset, .unset, .unset, .unset, .unset, .unset, .unset] [(.ref b101), (.ref b115), (.ref b115)])) rfl (by rw [hml]; rfl) (Steps.refl _) (a := b115) (argsL := [(.ref b101)]) (rest := [(.ref b115)]) (lenOf own_pd17 rfl) rfl (by show 2 * 0 + _ ≤ _; exact Nat.le_of_eq rfl) (hb hby at_184) (fun _ _ => ⟨rfl, rfl, (by decide : 5 + 0 ≤ _), (by decide : 14 + 0 ≤ _)⟩)
        dsimp only [Pt.U, Pt.locs, Pt.cells, Pt.slots] at X117 l117 y117 z117 st117 hQ117
        subst l117 y117 z117
        obtain ⟨rfl, Nq117, K117, p117_0, p117_1, p117_2⟩ := hQ117
        have N117 := Fr.app N109 Nq117
        have H118 := CHv.keep K117 (allS (Safe.exa hZ.alike A115 (by decide) (by decide)) all0) H116
        refine otr (S' := T117.setTop (mkF m 187 #[.val (.int n_), .val (.int a_), .val (.int b_), .val (.int c_), .val (.int d_), .val (.int e_), .val (.int u0), .val (.int u1), .val (.int cd), .val (.int (2 : Int32)), .val (.ref b101), .val (.int v1), .val (.int k2), .val (.int v2), .val (.int v3), .unset, .unset, .unset, .unset, .unset, .unset, .unset, .unset] [(.ref b115)])) st117 ?_
        refine o_astore X117 hx (l' := #[.val (.int n_), .val (.int a_), .val (.int b_), .val (.int c_), .val (.int d_), .val (.int e_), .val (.int u0), .val (.int u1), .val (.int cd), .val (.int (2 : Int32)), .val (.ref b101), .val (.int v1), .val (.int k2), .val (.int v2), .val (.int v3), .val (.ref b115), .unset, .unset, .unset, .unset, .unset, .unset, .unset]) (hb hby at_187) rfl rfl ?_
        refine o_aload X117 hx (hb hby at_189) rfl rfl ?_
        refine o_iload X117 hx (hb hby at_191) rfl ?_
        by_cases hc119 : u0 = v1
        · have c121 := (((c110.keep K109 (allS n0_b101 all0)).ext E115).keep K117 (allS n0_b115 all0))
          have c122 := ((Fld.ext E115 p109_4).keep K117 (ninS (Nat.ne_of_lt (Nat.lt_of_lt_of_le (Nat.lt_of_lt_of_le A101.lt (Nat.le_trans (Nat.le_trans (Nat.le_trans E103.1 (Keep.of_wr W105).1) (Keep.of_wr W107).1) K109.1)) (Nat.le_of_eq g115.symm))) nin0))
          have c123 := ((Fld.ext E115 p109_3).keep K117 (ninS (Nat.ne_of_lt (Nat.lt_of_lt_of_le (Nat.lt_of_lt_of_le A101.lt (Nat.le_trans (Nat.le_trans (Nat.le_trans E103.1 (Keep.of_wr W105).1) (Keep.of_wr W107).1) K109.1)) (Nat.le_of_eq g115.symm))) nin0))
          have c124 := ((p109_1.ext E115).keep K117 (ninS (Nat.ne_of_lt (Nat.lt_of_lt_of_le (Nat.lt_of_lt_of_le p109_1.lt (Nat.le_refl _)) (Nat.le_of_eq g115.symm))) nin0))
          obtain ⟨cq120, kq120, q120a, q120b, q120c⟩ := isOf hZ rfl p117_0
          obtain ⟨_, _, ⟨T120, L120, kc120, n120⟩, -, X120, ⟨Lc120, hQ120, l120, y120, z120⟩, st120⟩ := X117.virtualBack hx (y := yM13) (z := yM13) hown (mvT hZ w32) (mvT hZ w33) (notFace_of_selects (args := #[]) (mvT hZ w35)) (mvT hZ w35) (mvT hZ w34) (by decide) (backOf (W := 0) (rm_skipT_2_0 l Z a0 hw [] z_CS v_FMT b115 b101 ba_109 kb_109 cd_109 z_109 vs_109 u0 u1 v1 T117.heap n0 SB c121 p117_0 p117_1 p117_2 ((Exa.ext E115 p109_2).keep K117) c122 c123 c124 p109_5 hcu0 hc119 n0_b115) hZ w36 w25 (by decide) (by decide)) q120a q120c (g := (mkF m 193 #[.val (.int n_), .val (.int a_), .val (.int b_), .val (.int c_), .val (.int d_), .val (.int e_), .val (.int u0), .val (.int u1), .val (.int cd), .val (.int (2 : Int32)), .val (.ref b101), .val (.int v1), .val (.int k2), .val (.int v2), .val (.int v3), .val (.ref b115), .unset, .unset, .unset, .unset, .unset, .unset, .unset] [(.int v1), (.ref b115)])) rfl (by rw [hml]; rfl) (Steps.refl _) (argsL := [(.int v1)]) (rest := []) (lenOf own_pd18 rfl) rfl (by show 2 * 0 + _ ≤ _; exact Nat.le_of_eq rfl) (hb hby at_193) (fun _ _ => ⟨rfl, rfl, (by decide : 5 + 0 ≤ _), (by decide : 14 + 0 ≤ _)⟩)
          dsimp only [Pt.U, Pt.locs, Pt.cells, Pt.slots] at X120 l120 y120 z120 st120 hQ120
          subst l120 y120 z120
          obtain ⟨rfl, Nq120, K120, p120_0, p120_1, p120_2⟩ := hQ120
          have N120 := Fr.app N117 Nq120
          have H125 := CHv.keep K120 (allS (Safe.exa hZ.alike p117_0 (by decide) (by decide)) all0) H118
          refine otr (S' := T120.setTop (mkF m 196 #[.val (.int n_), .val (.int a_), .val (.int b_), .val (.int c_), .val (.int d_), .val (.int e_), .val (.int u0), .val (.int u1), .val (.int cd), .val (.int (2 : Int32)), .val (.ref b101), .val (.int v1), .val (.int k2), .val (.int v2), .val (.int v3), .val (.ref b115), .unset, .unset, .unset, .unset, .unset, .unset, .unset] [(.int (1 : Int32))])) st120 ?_
          refine o_istore X120 hx (l' := #[.val (.int n_), .val (.int a_), .val (.int b_), .val (.int c_), .val (.int d_), .val (.int e_), .val (.int u0), .val (.int u1), .val (.int cd), .val (.int (2 : Int32)), .val (.ref b101), .val (.int v1), .val (.int k2), .val (.int v2), .val (.int v3), .val (.ref b115), .val (.int (1 : Int32)), .unset, .unset, .unset, .unset, .unset, .unset]) (hb hby at_196) rfl ?_
          refine o_aload X120 hx (hb hby at_198) rfl rfl ?_
          refine o_iload X120 hx (hb hby at_200) rfl ?_
          by_cases hc126 : u1 = v2
          · have c128 := (c122.keep K120 (ninS (Nat.ne_of_lt (Nat.lt_of_lt_of_le (Nat.lt_of_lt_of_le A101.lt (Nat.le_trans (Nat.le_trans (Nat.le_trans E103.1 (Keep.of_wr W105).1) (Keep.of_wr W107).1) K109.1)) (Nat.le_of_eq g115.symm))) nin0))
            have c129 := (c123.keep K120 (ninS (Nat.ne_of_lt (Nat.lt_of_lt_of_le (Nat.lt_of_lt_of_le A101.lt (Nat.le_trans (Nat.le_trans (Nat.le_trans E103.1 (Keep.of_wr W105).1) (Keep.of_wr W107).1) K109.1)) (Nat.le_of_eq g115.symm))) nin0))
            have c130 := (c124.keep K120 (ninS (Nat.ne_of_lt (Nat.lt_of_lt_of_le (Nat.lt_of_lt_of_le p109_1.lt (Nat.le_refl _)) (Nat.le_of_eq g115.symm))) nin0))
            obtain ⟨cq127, kq127, q127a, q127b, q127c⟩ := isOf hZ rfl p120_0
            obtain ⟨_, _, ⟨T127, L127, kc127, n127⟩, -, X127, ⟨Lc127, hQ127, l127, y127, z127⟩, st127⟩ := X120.virtualBack hx (y := yM13) (z := yM13) hown (mvT hZ w32) (mvT hZ w33) (notFace_of_selects (args := #[]) (mvT hZ w35)) (mvT hZ w35) (mvT hZ w34) (by decide) (backOf (W := 0) (rm_skipT_2_1 l Z a0 hw [] z_CS v_FMT b115 b101 ba_109 kb_109 cd_109 z_109 vs_109 u0 u1 v2 T120.heap n0 SB (c121.keep K120 (allS n0_b115 all0)) p120_0 p120_1 p120_2 (((Exa.ext E115 p109_2).keep K117).keep K120) c128 c129 c130 p109_5 hcu1 hc126 n0_b115) hZ w36 w25 (by decide) (by decide)) q127a q127c (g := (mkF m 202 #[.val (.int n_), .val (.int a_), .val (.int b_), .val (.int c_), .val (.int d_), .val (.int e_), .val (.int u0), .val (.int u1), .val (.int cd), .val (.int (2 : Int32)), .val (.ref b101), .val (.int v1), .val (.int k2), .val (.int v2), .val (.int v3), .val (.ref b115), .val (.int (1 : Int32)), .unset, .unset, .unset, .unset, .unset, .unset] [(.int v2), (.ref b115)])) rfl (by rw [hml]; rfl) (Steps.refl _) (argsL := [(.int v2)]) (rest := []) (lenOf own_pd18 rfl) rfl (by show 2 * 0 + _ ≤ _; exact Nat.le_of_eq rfl) (hb hby at_202) (fun _ _ => ⟨rfl, rfl, (by decide : 5 + 0 ≤ _), (by decide : 14 + 0 ≤ _)⟩)
            dsimp only [Pt.U, Pt.locs, Pt.cells, Pt.slots] at X127 l127 y127 z127 st127 hQ127
            subst l127 y127 z127
            obtain ⟨rfl, Nq127, K127, p127_0, p127_1, p127_2⟩ := hQ127
            have N127 := Fr.app N120 Nq127
            have H131 := CHv.keep K127 (allS (Safe.exa hZ.alike p120_0 (by decide) (by decide)) all0) H125
            refine otr (S' := T127.setTop (mkF m 205 #[.val (.int n_), .val (.int a_), .val (.int b_), .val (.int c_), .val (.int d_), .val (.int e_), .val (.int u0), .val (.int u1), .val (.int cd), .val (.int (2 : Int32)), .val (.ref b101), .val (.int v1), .val (.int k2), .val (.int v2), .val (.int v3), .val (.ref b115), .val (.int (1 : Int32)), .unset, .unset, .unset, .unset, .unset, .unset] [(.int (1 : Int32))])) st127 ?_
            refine o_istore X127 hx (l' := #[.val (.int n_), .val (.int a_), .val (.int b_), .val (.int c_), .val (.int d_), .val (.int e_), .val (.int u0), .val (.int u1), .val (.int cd), .val (.int (2 : Int32)), .val (.ref b101), .val (.int v1), .val (.int k2), .val (.int v2), .val (.int v3), .val (.ref b115), .val (.int (1 : Int32)), .val (.int (1 : Int32)), .unset, .unset, .unset, .unset, .unset]) (hb hby at_205) rfl ?_
            refine o_aload X127 hx (hb hby at_207) rfl rfl ?_
            refine o_iload X127 hx (hb hby at_209) rfl ?_
            have c133 := ((c121.keep K120 (allS n0_b115 all0)).keep K127 (allS n0_b115 all0))
            have c134 := (c128.keep K127 (ninS (Nat.ne_of_lt (Nat.lt_of_lt_of_le (Nat.lt_of_lt_of_le A101.lt (Nat.le_trans (Nat.le_trans (Nat.le_trans E103.1 (Keep.of_wr W105).1) (Keep.of_wr W107).1) K109.1)) (Nat.le_of_eq g115.symm))) nin0))
            have c135 := (c129.keep K127 (ninS (Nat.ne_of_lt (Nat.lt_of_lt_of_le (Nat.lt_of_lt_of_le A101.lt (Nat.le_trans (Nat.le_trans (Nat.le_trans E103.1 (Keep.of_wr W105).1) (Keep.of_wr W107).1) K109.1)) (Nat.le_of_eq g115.symm))) nin0))
            have c136 := (c130.keep K127 (ninS (Nat.ne_of_lt (Nat.lt_of_lt_of_le (Nat.lt_of_lt_of_le p109_1.lt (Nat.le_refl _)) (Nat.le_of_eq g115.symm))) nin0))
            obtain ⟨cq132, kq132, q132a, q132b, q132c⟩ := isOf hZ rfl p127_0
            obtain ⟨_, _, ⟨T132, L132, kc132, n132⟩, -, X132, ⟨Lc132, hQ132, l132, y132, z132⟩, st132⟩ := X127.virtualBack hx (y := yM13) (z := yM13) hown (mvT hZ w32) (mvT hZ w33) (notFace_of_selects (args := #[]) (mvT hZ w35)) (mvT hZ w35) (mvT hZ w34) (by decide) (backOf (W := 0) (rm_skipE_2 l Z a0 hw [] z_CS v_FMT b115 b101 ba_109 kb_109 cd_109 z_109 vs_109 u0 u1 v3 T127.heap n0 SB c133 p127_0 p127_1 p127_2 ((((Exa.ext E115 p109_2).keep K117).keep K120).keep K127) c134 c135 c136 p109_5) hZ w36 w25 (by decide) (by decide)) q132a q132c (g := (mkF m 211 #[.val (.int n_), .val (.int a_), .val (.int b_), .val (.int c_), .val (.int d_), .val (.int e_), .val (.int u0), .val (.int u1), .val (.int cd), .val (.int (2 : Int32)), .val (.ref b101), .val (.int v1), .val (.int k2), .val (.int v2), .val (.int v3), .val (.ref b115), .val (.int (1 : Int32)), .val (.int (1 : Int32)), .unset, .unset, .unset, .unset, .unset] [(.int v3), (.ref b115)])) rfl (by rw [hml]; rfl) (Steps.refl _) (argsL := [(.int v3)]) (rest := []) (lenOf own_pd18 rfl) rfl (by show 2 * 0 + _ ≤ _; exact Nat.le_of_eq rfl) (hb hby at_211) (fun _ _ => ⟨rfl, rfl, (by decide : 5 + 0 ≤ _), (by decide : 14 + 0 ≤ _)⟩)
            dsimp only [Pt.U, Pt.locs, Pt.cells, Pt.slots] at X132 l132 y132 z132 st132 hQ132
            subst l132 y132 z132
            obtain ⟨rfl, Nq132, e132⟩ := hQ132
            have N132 := Fr.app N127 Nq132
            refine otr (S' := T132.setTop (mkF m 214 #[.val (.int n_), .val (.int a_), .val (.int b_), .val (.int c_), .val (.int d_), .val (.int e_), .val (.int u0), .val (.int u1), .val (.int cd), .val (.int (2 : Int32)), .val (.ref b101), .val (.int v1), .val (.int k2), .val (.int v2), .val (.int v3), .val (.ref b115), .val (.int (1 : Int32)), .val (.int (1 : Int32)), .unset, .unset, .unset, .unset, .unset] [(.int (0 : Int32))])) st132 ?_
            refine o_istore X132 hx (l' := #[.val (.int n_), .val (.int a_), .val (.int b_), .val (.int c_), .val (.int d_), .val (.int e_), .val (.int u0), .val (.int u1), .val (.int cd), .val (.int (2 : Int32)), .val (.ref b101), .val (.int v1), .val (.int k2), .val (.int v2), .val (.int v3), .val (.ref b115), .val (.int (1 : Int32)), .val (.int (1 : Int32)), .val (.int (0 : Int32)), .unset, .unset, .unset, .unset]) (hb hby at_214) rfl ?_
            refine o_iconst X132 hx (0 : Int32) (hb hby at_216) rfl ?_
            refine o_istore X132 hx (l' := #[.val (.int n_), .val (.int a_), .val (.int b_), .val (.int c_), .val (.int d_), .val (.int e_), .val (.int u0), .val (.int u1), .val (.int cd), .val (.int (2 : Int32)), .val (.ref b101), .val (.int v1), .val (.int k2), .val (.int v2), .val (.int v3), .val (.ref b115), .val (.int (1 : Int32)), .val (.int (1 : Int32)), .val (.int (0 : Int32)), .val (.int (0 : Int32)), .unset, .unset, .unset]) (hb hby at_217) rfl ?_
            refine o_iload X132 hx (hb hby at_219) rfl ?_
            refine o_iload X132 hx (hb hby at_221) rfl ?_
            refine o_iload X132 hx (hb hby at_223) rfl ?_
            refine o_iload X132 hx (hb hby at_225) rfl ?_
            refine o_iload X132 hx (hb hby at_227) rfl ?_
            obtain ⟨_, _, ⟨T137, L137, kc137, n137⟩, -, X137, ⟨Lc137, hQ137, l137, y137, z137⟩, st137⟩ := Jvm.LawKit.callS X132 hx (y := yM22) hown (mvT hZ w50) (mvT hZ w51) (mvT hZ w52) (mvT hZ w53) (by decide) (backOf (W := 0) (rm_match_0_2_t l Z a0 hw []  u0 u1 v1 T127.heap n0 c133 hc119) hZ w53 w52 (by decide) (by decide)) (g := (mkF m 229 #[.val (.int n_), .val (.int a_), .val (.int b_), .val (.int c_), .val (.int d_), .val (.int e_), .val (.int u0), .val (.int u1), .val (.int cd), .val (.int (2 : Int32)), .val (.ref b101), .val (.int v1), .val (.int k2), .val (.int v2), .val (.int v3), .val (.ref b115), .val (.int (1 : Int32)), .val (.int (1 : Int32)), .val (.int (0 : Int32)), .val (.int (0 : Int32)), .unset, .unset, .unset] [(.int v1), (.int u1), (.int u0), (.int (2 : Int32)), (.int (0 : Int32))])) rfl (by rw [hml]; rfl) (argsL := [(.int (0 : Int32)), (.int (2 : Int32)), (.int u0), (.int u1), (.int v1)]) (rest := []) (lenOf own_pd19 rfl) rfl (by show 2 * 0 + _ ≤ _; exact Nat.le_of_eq rfl) (hb hby at_229) (fun _ _ => ⟨rfl, e132, (by decide : 5 + 0 ≤ _), (by decide : 14 + 0 ≤ _)⟩)
            dsimp only [Pt.U, Pt.locs, Pt.cells, Pt.slots] at X137 l137 y137 z137 st137 hQ137
            subst l137 y137 z137
            obtain ⟨rfl, Nq137, e137⟩ := hQ137
            have N137 := Fr.app N132 Nq137
            refine ogo (S' := T137.setTop (mkF m 232 #[.val (.int n_), .val (.int a_), .val (.int b_), .val (.int c_), .val (.int d_), .val (.int e_), .val (.int u0), .val (.int u1), .val (.int cd), .val (.int (2 : Int32)), .val (.ref b101), .val (.int v1), .val (.int k2), .val (.int v2), .val (.int v3), .val (.ref b115), .val (.int (1 : Int32)), .val (.int (1 : Int32)), .val (.int (0 : Int32)), .val (.int (0 : Int32)), .unset, .unset, .unset] [(.int (1 : Int32))])) st137 ?_
            refine o_istore X137 hx (l' := #[.val (.int n_), .val (.int a_), .val (.int b_), .val (.int c_), .val (.int d_), .val (.int e_), .val (.int u0), .val (.int u1), .val (.int cd), .val (.int (2 : Int32)), .val (.ref b101), .val (.int v1), .val (.int k2), .val (.int v2), .val (.int v3), .val (.ref b115), .val (.int (1 : Int32)), .val (.int (1 : Int32)), .val (.int (0 : Int32)), .val (.int (0 : Int32)), .val (.int (1 : Int32)), .unset, .unset]) (hb hby at_232) rfl ?_
            refine o_iload X137 hx (hb hby at_234) rfl ?_
            refine o_ifNo X137 hx (hb hby at_236) (feq (by decide : ¬ ((1 : Int32) = (0 : Int32)))).1 ?_
            refine o_iload X137 hx (hb hby at_239) rfl ?_
            refine o_iconst X137 hx (1 : Int32) (hb hby at_241) rfl ?_
            refine o_iadd X137 hx (hb hby at_242) ?_
            refine o_istore X137 hx (l' := #[.val (.int n_), .val (.int a_), .val (.int b_), .val (.int c_), .val (.int d_), .val (.int e_), .val (.int u0), .val (.int u1), .val (.int cd), .val (.int (2 : Int32)), .val (.ref b101), .val (.int v1), .val (.int k2), .val (.int v2), .val (.int v3), .val (.ref b115), .val (.int (1 : Int32)), .val (.int (1 : Int32)), .val (.int (0 : Int32)), .val (.int (1 : Int32)), .val (.int (1 : Int32)), .unset, .unset]) (hb hby at_243) rfl ?_
            refine o_iload X137 hx (hb hby at_245) rfl ?_
            refine o_iload X137 hx (hb hby at_247) rfl ?_
            refine o_iload X137 hx (hb hby at_249) rfl ?_
            refine o_iload X137 hx (hb hby at_251) rfl ?_
            refine o_iload X137 hx (hb hby at_253) rfl ?_
            obtain ⟨_, _, ⟨T138, L138, kc138, n138⟩, -, X138, ⟨Lc138, hQ138, l138, y138, z138⟩, st138⟩ := Jvm.LawKit.callS X137 hx (y := yM22) hown (mvT hZ w50) (mvT hZ w51) (mvT hZ w52) (mvT hZ w53) (by decide) (backOf (W := 0) (rm_match_1_2_t l Z a0 hw []  u0 u1 v2 T127.heap n0 c133 hc126) hZ w53 w52 (by decide) (by decide)) (g := (mkF m 255 #[.val (.int n_), .val (.int a_), .val (.int b_), .val (.int c_), .val (.int d_), .val (.int e_), .val (.int u0), .val (.int u1), .val (.int cd), .val (.int (2 : Int32)), .val (.ref b101), .val (.int v1), .val (.int k2), .val (.int v2), .val (.int v3), .val (.ref b115), .val (.int (1 : Int32)), .val (.int (1 : Int32)), .val (.int (0 : Int32)), .val (.int (1 : Int32)), .val (.int (1 : Int32)), .unset, .unset] [(.int v2), (.int u1), (.int u0), (.int (2 : Int32)), (.int (1 : Int32))])) rfl (by rw [hml]; rfl) (argsL := [(.int (1 : Int32)), (.int (2 : Int32)), (.int u0), (.int u1), (.int v2)]) (rest := []) (lenOf own_pd19 rfl) rfl (by show 2 * 0 + _ ≤ _; exact Nat.le_of_eq rfl) (hb hby at_255) (fun _ _ => ⟨rfl, e137, (by decide : 5 + 0 ≤ _), (by decide : 14 + 0 ≤ _)⟩)
            dsimp only [Pt.U, Pt.locs, Pt.cells, Pt.slots] at X138 l138 y138 z138 st138 hQ138
            subst l138 y138 z138
            obtain ⟨rfl, Nq138, e138⟩ := hQ138
            have N138 := Fr.app N137 Nq138
            refine ogo (S' := T138.setTop (mkF m 258 #[.val (.int n_), .val (.int a_), .val (.int b_), .val (.int c_), .val (.int d_), .val (.int e_), .val (.int u0), .val (.int u1), .val (.int cd), .val (.int (2 : Int32)), .val (.ref b101), .val (.int v1), .val (.int k2), .val (.int v2), .val (.int v3), .val (.ref b115), .val (.int (1 : Int32)), .val (.int (1 : Int32)), .val (.int (0 : Int32)), .val (.int (1 : Int32)), .val (.int (1 : Int32)), .unset, .unset] [(.int (1 : Int32))])) st138 ?_
            refine o_istore X138 hx (l' := #[.val (.int n_), .val (.int a_), .val (.int b_), .val (.int c_), .val (.int d_), .val (.int e_), .val (.int u0), .val (.int u1), .val (.int cd), .val (.int (2 : Int32)), .val (.ref b101), .val (.int v1), .val (.int k2), .val (.int v2), .val (.int v3), .val (.ref b115), .val (.int (1 : Int32)), .val (.int (1 : Int32)), .val (.int (0 : Int32)), .val (.int (1 : Int32)), .val (.int (1 : Int32)), .val (.int (1 : Int32)), .unset]) (hb hby at_258) rfl ?_
            refine o_iload X138 hx (hb hby at_260) rfl ?_
            refine o_ifNo X138 hx (hb hby at_262) (feq (by decide : ¬ ((1 : Int32) = (0 : Int32)))).1 ?_
            refine o_iload X138 hx (hb hby at_265) rfl ?_
            refine o_iconst X138 hx (1 : Int32) (hb hby at_267) rfl ?_
            refine o_iadd X138 hx (hb hby at_268) ?_
            refine o_istore X138 hx (l' := #[.val (.int n_), .val (.int a_), .val (.int b_), .val (.int c_), .val (.int d_), .val (.int e_), .val (.int u0), .val (.int u1), .val (.int cd), .val (.int (2 : Int32)), .val (.ref b101), .val (.int v1), .val (.int k2), .val (.int v2), .val (.int v3), .val (.ref b115), .val (.int (1 : Int32)), .val (.int (1 : Int32)), .val (.int (0 : Int32)), .val (.int (2 : Int32)), .val (.int (1 : Int32)), .val (.int (1 : Int32)), .unset]) (hb hby at_269) rfl ?_
            refine o_iload X138 hx (hb hby at_271) rfl ?_
            refine o_iload X138 hx (hb hby at_273) rfl ?_
            refine o_iload X138 hx (hb hby at_275) rfl ?_
            refine o_iload X138 hx (hb hby at_277) rfl ?_
            refine o_iload X138 hx (hb hby at_279) rfl ?_
            obtain ⟨_, _, ⟨T139, L139, kc139, n139⟩, -, X139, ⟨Lc139, hQ139, l139, y139, z139⟩, st139⟩ := Jvm.LawKit.callS X138 hx (y := yM22) hown (mvT hZ w50) (mvT hZ w51) (mvT hZ w52) (mvT hZ w53) (by decide) (backOf (W := 0) (rm_match_2_2_e l Z a0 hw []  u0 u1 v3 T127.heap n0 c133 ) hZ w53 w52 (by decide) (by decide)) (g := (mkF m 281 #[.val (.int n_), .val (.int a_), .val (.int b_), .val (.int c_), .val (.int d_), .val (.int e_), .val (.int u0), .val (.int u1), .val (.int cd), .val (.int (2 : Int32)), .val (.ref b101), .val (.int v1), .val (.int k2), .val (.int v2), .val (.int v3), .val (.ref b115), .val (.int (1 : Int32)), .val (.int (1 : Int32)), .val (.int (0 : Int32)), .val (.int (2 : Int32)), .val (.int (1 : Int32)), .val (.int (1 : Int32)), .unset] [(.int v3), (.int u1), (.int u0), (.int (2 : Int32)), (.int (2 : Int32))])) rfl (by rw [hml]; rfl) (argsL := [(.int (2 : Int32)), (.int (2 : Int32)), (.int u0), (.int u1), (.int v3)]) (rest := []) (lenOf own_pd19 rfl) rfl (by show 2 * 0 + _ ≤ _; exact Nat.le_of_eq rfl) (hb hby at_281) (fun _ _ => ⟨rfl, e138, (by decide : 5 + 0 ≤ _), (by decide : 14 + 0 ≤ _)⟩)
            dsimp only [Pt.U, Pt.locs, Pt.cells, Pt.slots] at X139 l139 y139 z139 st139 hQ139
            subst l139 y139 z139
            obtain ⟨rfl, Nq139, e139⟩ := hQ139
            have N139 := Fr.app N138 Nq139
            refine ogo (S' := T139.setTop (mkF m 284 #[.val (.int n_), .val (.int a_), .val (.int b_), .val (.int c_), .val (.int d_), .val (.int e_), .val (.int u0), .val (.int u1), .val (.int cd), .val (.int (2 : Int32)), .val (.ref b101), .val (.int v1), .val (.int k2), .val (.int v2), .val (.int v3), .val (.ref b115), .val (.int (1 : Int32)), .val (.int (1 : Int32)), .val (.int (0 : Int32)), .val (.int (2 : Int32)), .val (.int (1 : Int32)), .val (.int (1 : Int32)), .unset] [(.int (0 : Int32))])) st139 ?_
            refine o_istore X139 hx (l' := #[.val (.int n_), .val (.int a_), .val (.int b_), .val (.int c_), .val (.int d_), .val (.int e_), .val (.int u0), .val (.int u1), .val (.int cd), .val (.int (2 : Int32)), .val (.ref b101), .val (.int v1), .val (.int k2), .val (.int v2), .val (.int v3), .val (.ref b115), .val (.int (1 : Int32)), .val (.int (1 : Int32)), .val (.int (0 : Int32)), .val (.int (2 : Int32)), .val (.int (1 : Int32)), .val (.int (1 : Int32)), .val (.int (0 : Int32))]) (hb hby at_284) rfl ?_
            refine o_iload X139 hx (hb hby at_286) rfl ?_
            refine o_iload X139 hx (hb hby at_288) rfl ?_
            refine o_icmpNo X139 hx (hb hby at_290) (teq (by decide : (1 : Int32) = (1 : Int32))).2 ?_
            refine o_iload X139 hx (hb hby at_293) rfl ?_
            refine o_iload X139 hx (hb hby at_295) rfl ?_
            refine o_icmpNo X139 hx (hb hby at_297) (teq (by decide : (1 : Int32) = (1 : Int32))).2 ?_
            refine o_iload X139 hx (hb hby at_300) rfl ?_
            refine o_iload X139 hx (hb hby at_302) rfl ?_
            refine o_icmpNo X139 hx (hb hby at_304) (teq (by decide : (0 : Int32) = (0 : Int32))).2 ?_
            refine o_iconst X139 hx (1 : Int32) (hb hby at_307) rfl ?_
            refine o_goto X139 hx 312 (hb hby at_308) (by decide) (by decide) ?_
            refine oendS X139 hlk hS0 (Nat.le_trans (Nat.zero_le _) (Nat.le_trans (Nat.le_trans (Nat.le_trans (Nat.le_trans (Nat.le_trans (Nat.le_trans (Nat.le_trans (Nat.le_trans E101.1 E103.1) (Keep.of_wr W105).1) (Keep.of_wr W107).1) K109.1) E115.1) K117.1) K120.1) K127.1)) e139 hZ hEL hs0 (CHr.trans (CHr.trans (CHr.trans (CHr.trans (CHr.trans (CHr.trans (CHr.trans (CHr.trans (CHr.trans (CHr.refl H0) (CHr.ext E101 H0)) (CHr.ext E103 H102)) (CHr.wr W105 (Safe.exa hZ.alike Ex103 (by decide) (by decide)) H104)) (CHr.wr W107 (Safe.exa hZ.alike (Exa.wr W105 Ex103) (by decide) (by decide)) H106)) (CHr.keep K109 (allS c113 all0) H108)) (CHr.ext E115 H114)) (CHr.keep K117 (allS (Safe.exa hZ.alike A115 (by decide) (by decide)) all0) H116)) (CHr.keep K120 (allS (Safe.exa hZ.alike p117_0 (by decide) (by decide)) all0) H118)) (CHr.keep K127 (allS (Safe.exa hZ.alike p120_0 (by decide) (by decide)) all0) H125)) (v := some (.int (1 : Int32))) (fun h => by rw [hret] at h; cases h) (fun fs hr => retN X139 hx (t := .boolean) hret (by simp) (hb hby at_312) hr) (by decide) (by decide) ?_
            show own_Q_law Z _ _ _ _ _ _ _ _ h0 n0 _ T139.heap _
            rw [e139]
            exact ⟨rfl, N139, ((((((((((Keep.refl h0 []).ext E101).ext E103).wr W105 (Or.inr (Nat.le_trans E101.1 (Nat.le_of_eq g103.symm)))).wr W107 (Or.inr (Nat.le_trans E101.1 (Nat.le_of_eq g103.symm)))).trans K109 (allS (Or.inr (Nat.le_trans (Nat.le_refl _) (Nat.le_of_eq g101.symm))) all0)).ext E115).trans K117 (allS (Or.inr (Nat.le_trans (Nat.le_trans (Nat.le_trans (Nat.le_trans (Nat.le_trans E101.1 E103.1) (Keep.of_wr W105).1) (Keep.of_wr W107).1) K109.1) (Nat.le_of_eq g115.symm))) all0)).trans K120 (allS (Or.inr (Nat.le_trans (Nat.le_trans (Nat.le_trans (Nat.le_trans (Nat.le_trans E101.1 E103.1) (Keep.of_wr W105).1) (Keep.of_wr W107).1) K109.1) (Nat.le_of_eq g115.symm))) all0)).trans K127 (allS (Or.inr (Nat.le_trans (Nat.le_trans (Nat.le_trans (Nat.le_trans (Nat.le_trans E101.1 E103.1) (Keep.of_wr W105).1) (Keep.of_wr W107).1) K109.1) (Nat.le_of_eq g115.symm))) all0))⟩
          · have c141 := (c122.keep K120 (ninS (Nat.ne_of_lt (Nat.lt_of_lt_of_le (Nat.lt_of_lt_of_le A101.lt (Nat.le_trans (Nat.le_trans (Nat.le_trans E103.1 (Keep.of_wr W105).1) (Keep.of_wr W107).1) K109.1)) (Nat.le_of_eq g115.symm))) nin0))
            have c142 := (c123.keep K120 (ninS (Nat.ne_of_lt (Nat.lt_of_lt_of_le (Nat.lt_of_lt_of_le A101.lt (Nat.le_trans (Nat.le_trans (Nat.le_trans E103.1 (Keep.of_wr W105).1) (Keep.of_wr W107).1) K109.1)) (Nat.le_of_eq g115.symm))) nin0))
            have c143 := (c124.keep K120 (ninS (Nat.ne_of_lt (Nat.lt_of_lt_of_le (Nat.lt_of_lt_of_le p109_1.lt (Nat.le_refl _)) (Nat.le_of_eq g115.symm))) nin0))
            obtain ⟨cq140, kq140, q140a, q140b, q140c⟩ := isOf hZ rfl p120_0
            obtain ⟨_, _, ⟨T140, L140, kc140, n140⟩, -, X140, ⟨Lc140, hQ140, l140, y140, z140⟩, st140⟩ := X120.virtualBack hx (y := yM13) (z := yM13) hown (mvT hZ w32) (mvT hZ w33) (notFace_of_selects (args := #[]) (mvT hZ w35)) (mvT hZ w35) (mvT hZ w34) (by decide) (backOf (W := 0) (rm_skipF_2_1 l Z a0 hw [] z_CS v_FMT b115 b101 ba_109 kb_109 cd_109 z_109 vs_109 u0 u1 v2 T120.heap n0 SB (c121.keep K120 (allS n0_b115 all0)) p120_0 p120_1 p120_2 (((Exa.ext E115 p109_2).keep K117).keep K120) c141 c142 c143 p109_5 hcu1 hc126) hZ w36 w25 (by decide) (by decide)) q140a q140c (g := (mkF m 202 #[.val (.int n_), .val (.int a_), .val (.int b_), .val (.int c_), .val (.int d_), .val (.int e_), .val (.int u0), .val (.int u1), .val (.int cd), .val (.int (2 : Int32)), .val (.ref b101), .val (.int v1), .val (.int k2), .val (.int v2), .val (.int v3), .val (.ref b115), .val (.int (1 : Int32)), .unset, .unset, .unset, .unset, .unset, .unset] [(.int v2), (.ref b115)])) rfl (by rw [hml]; rfl) (Steps.refl _) (argsL := [(.int v2)]) (rest := []) (lenOf own_pd18 rfl) rfl (by show 2 * 0 + _ ≤ _; exact Nat.le_of_eq rfl) (hb hby at_202) (fun _ _ => ⟨rfl, rfl, (by decide : 5 + 0 ≤ _), (by decide : 14 + 0 ≤ _)⟩)
            dsimp only [Pt.U, Pt.locs, Pt.cells, Pt.slots] at X140 l140 y140 z140 st140 hQ140
            subst l140 y140 z140
            obtain ⟨rfl, Nq140, e140⟩ := hQ140
            have N140 := Fr.app N120 Nq140
            refine otr (S' := T140.setTop (mkF m 205 #[.val (.int n_), .val (.int a_), .val (.int b_), .val (.int c_), .val (.int d_), .val (.int e_), .val (.int u0), .val (.int u1), .val (.int cd), .val (.int (2 : Int32)), .val (.ref b101), .val (.int v1), .val (.int k2), .val (.int v2), .val (.int v3), .val (.ref b115), .val (.int (1 : Int32)), .unset, .unset, .unset, .unset, .unset, .unset] [(.int (0 : Int32))])) st140 ?_
            refine o_istore X140 hx (l' := #[.val (.int n_), .val (.int a_), .val (.int b_), .val (.int c_), .val (.int d_), .val (.int e_), .val (.int u0), .val (.int u1), .val (.int cd), .val (.int (2 : Int32)), .val (.ref b101), .val (.int v1), .val (.int k2), .val (.int v2), .val (.int v3), .val (.ref b115), .val (.int (1 : Int32)), .val (.int (0 : Int32)), .unset, .unset, .unset, .unset, .unset]) (hb hby at_205) rfl ?_
            refine o_aload X140 hx (hb hby at_207) rfl rfl ?_
            refine o_iload X140 hx (hb hby at_209) rfl ?_
            by_cases hc144 : u1 = v3
            · obtain ⟨cq145, kq145, q145a, q145b, q145c⟩ := isOf hZ e140 p120_0
              obtain ⟨_, _, ⟨T145, L145, kc145, n145⟩, -, X145, ⟨Lc145, hQ145, l145, y145, z145⟩, st145⟩ := X140.virtualBack hx (y := yM13) (z := yM13) hown (mvT hZ w32) (mvT hZ w33) (notFace_of_selects (args := #[]) (mvT hZ w35)) (mvT hZ w35) (mvT hZ w34) (by decide) (backOf (W := 0) (rm_skipT_2_1 l Z a0 hw [] z_CS v_FMT b115 b101 ba_109 kb_109 cd_109 z_109 vs_109 u0 u1 v3 T120.heap n0 SB (c121.keep K120 (allS n0_b115 all0)) p120_0 p120_1 p120_2 (((Exa.ext E115 p109_2).keep K117).keep K120) c141 c142 c143 p109_5 hcu1 hc144 n0_b115) hZ w36 w25 (by decide) (by decide)) q145a q145c (g := (mkF m 211 #[.val (.int n_), .val (.int a_), .val (.int b_), .val (.int c_), .val (.int d_), .val (.int e_), .val (.int u0), .val (.int u1), .val (.int cd), .val (.int (2 : Int32)), .val (.ref b101), .val (.int v1), .val (.int k2), .val (.int v2), .val (.int v3), .val (.ref b115), .val (.int (1 : Int32)), .val (.int (0 : Int32)), .unset, .unset, .unset, .unset, .unset] [(.int v3), (.ref b115)])) rfl (by rw [hml]; rfl) (Steps.refl _) (argsL := [(.int v3)]) (rest := []) (lenOf own_pd18 rfl) rfl (by show 2 * 0 + _ ≤ _; exact Nat.le_of_eq rfl) (hb hby at_211) (fun _ _ => ⟨rfl, e140, (by decide : 5 + 0 ≤ _), (by decide : 14 + 0 ≤ _)⟩)
              dsimp only [Pt.U, Pt.locs, Pt.cells, Pt.slots] at X145 l145 y145 z145 st145 hQ145
              subst l145 y145 z145
              obtain ⟨rfl, Nq145, K145, p145_0, p145_1, p145_2⟩ := hQ145
              have N145 := Fr.app N140 Nq145
              have H146 := CHv.keep K145 (allS (Safe.exa hZ.alike p120_0 (by decide) (by decide)) all0) H125
              refine otr (S' := T145.setTop (mkF m 214 #[.val (.int n_), .val (.int a_), .val (.int b_), .val (.int c_), .val (.int d_), .val (.int e_), .val (.int u0), .val (.int u1), .val (.int cd), .val (.int (2 : Int32)), .val (.ref b101), .val (.int v1), .val (.int k2), .val (.int v2), .val (.int v3), .val (.ref b115), .val (.int (1 : Int32)), .val (.int (0 : Int32)), .unset, .unset, .unset, .unset, .unset] [(.int (1 : Int32))])) st145 ?_
              refine o_istore X145 hx (l' := #[.val (.int n_), .val (.int a_), .val (.int b_), .val (.int c_), .val (.int d_), .val (.int e_), .val (.int u0), .val (.int u1), .val (.int cd), .val (.int (2 : Int32)), .val (.ref b101), .val (.int v1), .val (.int k2), .val (.int v2), .val (.int v3), .val (.ref b115), .val (.int (1 : Int32)), .val (.int (0 : Int32)), .val (.int (1 : Int32)), .unset, .unset, .unset, .unset]) (hb hby at_214) rfl ?_
              refine o_iconst X145 hx (0 : Int32) (hb hby at_216) rfl ?_
              refine o_istore X145 hx (l' := #[.val (.int n_), .val (.int a_), .val (.int b_), .val (.int c_), .val (.int d_), .val (.int e_), .val (.int u0), .val (.int u1), .val (.int cd), .val (.int (2 : Int32)), .val (.ref b101), .val (.int v1), .val (.int k2), .val (.int v2), .val (.int v3), .val (.ref b115), .val (.int (1 : Int32)), .val (.int (0 : Int32)), .val (.int (1 : Int32)), .val (.int (0 : Int32)), .unset, .unset, .unset]) (hb hby at_217) rfl ?_
              refine o_iload X145 hx (hb hby at_219) rfl ?_
              refine o_iload X145 hx (hb hby at_221) rfl ?_
              refine o_iload X145 hx (hb hby at_223) rfl ?_
              refine o_iload X145 hx (hb hby at_225) rfl ?_
              refine o_iload X145 hx (hb hby at_227) rfl ?_
              have c148 := ((c121.keep K120 (allS n0_b115 all0)).keep K145 (allS n0_b115 all0))
              obtain ⟨_, _, ⟨T147, L147, kc147, n147⟩, -, X147, ⟨Lc147, hQ147, l147, y147, z147⟩, st147⟩ := Jvm.LawKit.callS X145 hx (y := yM22) hown (mvT hZ w50) (mvT hZ w51) (mvT hZ w52) (mvT hZ w53) (by decide) (backOf (W := 0) (rm_match_0_2_t l Z a0 hw []  u0 u1 v1 T145.heap n0 c148 hc119) hZ w53 w52 (by decide) (by decide)) (g := (mkF m 229 #[.val (.int n_), .val (.int a_), .val (.int b_), .val (.int c_), .val (.int d_), .val (.int e_), .val (.int u0), .val (.int u1), .val (.int cd), .val (.int (2 : Int32)), .val (.ref b101), .val (.int v1), .val (.int k2), .val (.int v2), .val (.int v3), .val (.ref b115), .val (.int (1 : Int32)), .val (.int (0 : Int32)), .val (.int (1 : Int32)), .val (.int (0 : Int32)), .unset, .unset, .unset] [(.int v1), (.int u1), (.int u0), (.int (2 : Int32)), (.int (0 : Int32))])) rfl (by rw [hml]; rfl) (argsL := [(.int (0 : Int32)), (.int (2 : Int32)), (.int u0), (.int u1), (.int v1)]) (rest := []) (lenOf own_pd19 rfl) rfl (by show 2 * 0 + _ ≤ _; exact Nat.le_of_eq rfl) (hb hby at_229) (fun _ _ => ⟨rfl, rfl, (by decide : 5 + 0 ≤ _), (by decide : 14 + 0 ≤ _)⟩)
              dsimp only [Pt.U, Pt.locs, Pt.cells, Pt.slots] at X147 l147 y147 z147 st147 hQ147
              subst l147 y147 z147
              obtain ⟨rfl, Nq147, e147⟩ := hQ147
              have N147 := Fr.app N145 Nq147
              refine ogo (S' := T147.setTop (mkF m 232 #[.val (.int n_), .val (.int a_), .val (.int b_), .val (.int c_), .val (.int d_), .val (.int e_), .val (.int u0), .val (.int u1), .val (.int cd), .val (.int (2 : Int32)), .val (.ref b101), .val (.int v1), .val (.int k2), .val (.int v2), .val (.int v3), .val (.ref b115), .val (.int (1 : Int32)), .val (.int (0 : Int32)), .val (.int (1 : Int32)), .val (.int (0 : Int32)), .unset, .unset, .unset] [(.int (1 : Int32))])) st147 ?_
              refine o_istore X147 hx (l' := #[.val (.int n_), .val (.int a_), .val (.int b_), .val (.int c_), .val (.int d_), .val (.int e_), .val (.int u0), .val (.int u1), .val (.int cd), .val (.int (2 : Int32)), .val (.ref b101), .val (.int v1), .val (.int k2), .val (.int v2), .val (.int v3), .val (.ref b115), .val (.int (1 : Int32)), .val (.int (0 : Int32)), .val (.int (1 : Int32)), .val (.int (0 : Int32)), .val (.int (1 : Int32)), .unset, .unset]) (hb hby at_232) rfl ?_
              refine o_iload X147 hx (hb hby at_234) rfl ?_
              refine o_ifNo X147 hx (hb hby at_236) (feq (by decide : ¬ ((1 : Int32) = (0 : Int32)))).1 ?_
              refine o_iload X147 hx (hb hby at_239) rfl ?_
              refine o_iconst X147 hx (1 : Int32) (hb hby at_241) rfl ?_
              refine o_iadd X147 hx (hb hby at_242) ?_
              refine o_istore X147 hx (l' := #[.val (.int n_), .val (.int a_), .val (.int b_), .val (.int c_), .val (.int d_), .val (.int e_), .val (.int u0), .val (.int u1), .val (.int cd), .val (.int (2 : Int32)), .val (.ref b101), .val (.int v1), .val (.int k2), .val (.int v2), .val (.int v3), .val (.ref b115), .val (.int (1 : Int32)), .val (.int (0 : Int32)), .val (.int (1 : Int32)), .val (.int (1 : Int32)), .val (.int (1 : Int32)), .unset, .unset]) (hb hby at_243) rfl ?_
              refine o_iload X147 hx (hb hby at_245) rfl ?_
              refine o_iload X147 hx (hb hby at_247) rfl ?_
              refine o_iload X147 hx (hb hby at_249) rfl ?_
              refine o_iload X147 hx (hb hby at_251) rfl ?_
              refine o_iload X147 hx (hb hby at_253) rfl ?_
              obtain ⟨_, _, ⟨T149, L149, kc149, n149⟩, -, X149, ⟨Lc149, hQ149, l149, y149, z149⟩, st149⟩ := Jvm.LawKit.callS X147 hx (y := yM22) hown (mvT hZ w50) (mvT hZ w51) (mvT hZ w52) (mvT hZ w53) (by decide) (backOf (W := 0) (rm_match_1_2_f l Z a0 hw []  u0 u1 v2 T145.heap n0 c148 hc126) hZ w53 w52 (by decide) (by decide)) (g := (mkF m 255 #[.val (.int n_), .val (.int a_), .val (.int b_), .val (.int c_), .val (.int d_), .val (.int e_), .val (.int u0), .val (.int u1), .val (.int cd), .val (.int (2 : Int32)), .val (.ref b101), .val (.int v1), .val (.int k2), .val (.int v2), .val (.int v3), .val (.ref b115), .val (.int (1 : Int32)), .val (.int (0 : Int32)), .val (.int (1 : Int32)), .val (.int (1 : Int32)), .val (.int (1 : Int32)), .unset, .unset] [(.int v2), (.int u1), (.int u0), (.int (2 : Int32)), (.int (1 : Int32))])) rfl (by rw [hml]; rfl) (argsL := [(.int (1 : Int32)), (.int (2 : Int32)), (.int u0), (.int u1), (.int v2)]) (rest := []) (lenOf own_pd19 rfl) rfl (by show 2 * 0 + _ ≤ _; exact Nat.le_of_eq rfl) (hb hby at_255) (fun _ _ => ⟨rfl, e147, (by decide : 5 + 0 ≤ _), (by decide : 14 + 0 ≤ _)⟩)
              dsimp only [Pt.U, Pt.locs, Pt.cells, Pt.slots] at X149 l149 y149 z149 st149 hQ149
              subst l149 y149 z149
              obtain ⟨rfl, Nq149, e149⟩ := hQ149
              have N149 := Fr.app N147 Nq149
              refine ogo (S' := T149.setTop (mkF m 258 #[.val (.int n_), .val (.int a_), .val (.int b_), .val (.int c_), .val (.int d_), .val (.int e_), .val (.int u0), .val (.int u1), .val (.int cd), .val (.int (2 : Int32)), .val (.ref b101), .val (.int v1), .val (.int k2), .val (.int v2), .val (.int v3), .val (.ref b115), .val (.int (1 : Int32)), .val (.int (0 : Int32)), .val (.int (1 : Int32)), .val (.int (1 : Int32)), .val (.int (1 : Int32)), .unset, .unset] [(.int (0 : Int32))])) st149 ?_
              refine o_istore X149 hx (l' := #[.val (.int n_), .val (.int a_), .val (.int b_), .val (.int c_), .val (.int d_), .val (.int e_), .val (.int u0), .val (.int u1), .val (.int cd), .val (.int (2 : Int32)), .val (.ref b101), .val (.int v1), .val (.int k2), .val (.int v2), .val (.int v3), .val (.ref b115), .val (.int (1 : Int32)), .val (.int (0 : Int32)), .val (.int (1 : Int32)), .val (.int (1 : Int32)), .val (.int (1 : Int32)), .val (.int (0 : Int32)), .unset]) (hb hby at_258) rfl ?_
              refine o_iload X149 hx (hb hby at_260) rfl ?_
              refine o_ifYes X149 hx 271 (hb hby at_262) (teq (by decide : (0 : Int32) = (0 : Int32))).1 (by decide) (by decide) ?_
              refine o_iload X149 hx (hb hby at_271) rfl ?_
              refine o_iload X149 hx (hb hby at_273) rfl ?_
              refine o_iload X149 hx (hb hby at_275) rfl ?_
              refine o_iload X149 hx (hb hby at_277) rfl ?_
              refine o_iload X149 hx (hb hby at_279) rfl ?_
              obtain ⟨_, _, ⟨T150, L150, kc150, n150⟩, -, X150, ⟨Lc150, hQ150, l150, y150, z150⟩, st150⟩ := Jvm.LawKit.callS X149 hx (y := yM22) hown (mvT hZ w50) (mvT hZ w51) (mvT hZ w52) (mvT hZ w53) (by decide) (backOf (W := 0) (rm_match_1_2_t l Z a0 hw []  u0 u1 v3 T145.heap n0 c148 hc144) hZ w53 w52 (by decide) (by decide)) (g := (mkF m 281 #[.val (.int n_), .val (.int a_), .val (.int b_), .val (.int c_), .val (.int d_), .val (.int e_), .val (.int u0), .val (.int u1), .val (.int cd), .val (.int (2 : Int32)), .val (.ref b101), .val (.int v1), .val (.int k2), .val (.int v2), .val (.int v3), .val (.ref b115), .val (.int (1 : Int32)), .val (.int (0 : Int32)), .val (.int (1 : Int32)), .val (.int (1 : Int32)), .val (.int (1 : Int32)), .val (.int (0 : Int32)), .unset] [(.int v3), (.int u1), (.int u0), (.int (2 : Int32)), (.int (1 : Int32))])) rfl (by rw [hml]; rfl) (argsL := [(.int (1 : Int32)), (.int (2 : Int32)), (.int u0), (.int u1), (.int v3)]) (rest := []) (lenOf own_pd19 rfl) rfl (by show 2 * 0 + _ ≤ _; exact Nat.le_of_eq rfl) (hb hby at_281) (fun _ _ => ⟨rfl, e149, (by decide : 5 + 0 ≤ _), (by decide : 14 + 0 ≤ _)⟩)
              dsimp only [Pt.U, Pt.locs, Pt.cells, Pt.slots] at X150 l150 y150 z150 st150 hQ150
              subst l150 y150 z150
              obtain ⟨rfl, Nq150, e150⟩ := hQ150
              have N150 := Fr.app N149 Nq150
              refine ogo (S' := T150.setTop (mkF m 284 #[.val (.int n_), .val (.int a_), .val (.int b_), .val (.int c_), .val (.int d_), .val (.int e_), .val (.int u0), .val (.int u1), .val (.int cd), .val (.int (2 : Int32)), .val (.ref b101), .val (.int v1), .val (.int k2), .val (.int v2), .val (.int v3), .val (.ref b115), .val (.int (1 : Int32)), .val (.int (0 : Int32)), .val (.int (1 : Int32)), .val (.int (1 : Int32)), .val (.int (1 : Int32)), .val (.int (0 : Int32)), .unset] [(.int (1 : Int32))])) st150 ?_
              refine o_istore X150 hx (l' := #[.val (.int n_), .val (.int a_), .val (.int b_), .val (.int c_), .val (.int d_), .val (.int e_), .val (.int u0), .val (.int u1), .val (.int cd), .val (.int (2 : Int32)), .val (.ref b101), .val (.int v1), .val (.int k2), .val (.int v2), .val (.int v3), .val (.ref b115), .val (.int (1 : Int32)), .val (.int (0 : Int32)), .val (.int (1 : Int32)), .val (.int (1 : Int32)), .val (.int (1 : Int32)), .val (.int (0 : Int32)), .val (.int (1 : Int32))]) (hb hby at_284) rfl ?_
              refine o_iload X150 hx (hb hby at_286) rfl ?_
              refine o_iload X150 hx (hb hby at_288) rfl ?_
              refine o_icmpNo X150 hx (hb hby at_290) (teq (by decide : (1 : Int32) = (1 : Int32))).2 ?_
              refine o_iload X150 hx (hb hby at_293) rfl ?_
              refine o_iload X150 hx (hb hby at_295) rfl ?_
              refine o_icmpNo X150 hx (hb hby at_297) (teq (by decide : (0 : Int32) = (0 : Int32))).2 ?_
              refine o_iload X150 hx (hb hby at_300) rfl ?_
              refine o_iload X150 hx (hb hby at_302) rfl ?_
              refine o_icmpNo X150 hx (hb hby at_304) (teq (by decide : (1 : Int32) = (1 : Int32))).2 ?_
              refine o_iconst X150 hx (1 : Int32) (hb hby at_307) rfl ?_
              refine o_goto X150 hx 312 (hb hby at_308) (by decide) (by decide) ?_
              refine oendS X150 hlk hS0 (Nat.le_trans (Nat.zero_le _) (Nat.le_trans (Nat.le_trans (Nat.le_trans (Nat.le_trans (Nat.le_trans (Nat.le_trans (Nat.le_trans (Nat.le_trans E101.1 E103.1) (Keep.of_wr W105).1) (Keep.of_wr W107).1) K109.1) E115.1) K117.1) K120.1) K145.1)) e150 hZ hEL hs0 (CHr.trans (CHr.trans (CHr.trans (CHr.trans (CHr.trans (CHr.trans (CHr.trans (CHr.trans (CHr.trans (CHr.refl H0) (CHr.ext E101 H0)) (CHr.ext E103 H102)) (CHr.wr W105 (Safe.exa hZ.alike Ex103 (by decide) (by decide)) H104)) (CHr.wr W107 (Safe.exa hZ.alike (Exa.wr W105 Ex103) (by decide) (by decide)) H106)) (CHr.keep K109 (allS c113 all0) H108)) (CHr.ext E115 H114)) (CHr.keep K117 (allS (Safe.exa hZ.alike A115 (by decide) (by decide)) all0) H116)) (CHr.keep K120 (allS (Safe.exa hZ.alike p117_0 (by decide) (by decide)) all0) H118)) (CHr.keep K145 (allS (Safe.exa hZ.alike p120_0 (by decide) (by decide)) all0) H125)) (v := some (.int (1 : Int32))) (fun h => by rw [hret] at h; cases h) (fun fs hr => retN X150 hx (t := .boolean) hret (by simp) (hb hby at_312) hr) (by decide) (by decide) ?_
              show own_Q_law Z _ _ _ _ _ _ _ _ h0 n0 _ T150.heap _
              rw [e150]
              exact ⟨rfl, N150, ((((((((((Keep.refl h0 []).ext E101).ext E103).wr W105 (Or.inr (Nat.le_trans E101.1 (Nat.le_of_eq g103.symm)))).wr W107 (Or.inr (Nat.le_trans E101.1 (Nat.le_of_eq g103.symm)))).trans K109 (allS (Or.inr (Nat.le_trans (Nat.le_refl _) (Nat.le_of_eq g101.symm))) all0)).ext E115).trans K117 (allS (Or.inr (Nat.le_trans (Nat.le_trans (Nat.le_trans (Nat.le_trans (Nat.le_trans E101.1 E103.1) (Keep.of_wr W105).1) (Keep.of_wr W107).1) K109.1) (Nat.le_of_eq g115.symm))) all0)).trans K120 (allS (Or.inr (Nat.le_trans (Nat.le_trans (Nat.le_trans (Nat.le_trans (Nat.le_trans E101.1 E103.1) (Keep.of_wr W105).1) (Keep.of_wr W107).1) K109.1) (Nat.le_of_eq g115.symm))) all0)).trans K145 (allS (Or.inr (Nat.le_trans (Nat.le_trans (Nat.le_trans (Nat.le_trans (Nat.le_trans E101.1 E103.1) (Keep.of_wr W105).1) (Keep.of_wr W107).1) K109.1) (Nat.le_of_eq g115.symm))) all0))⟩
            · obtain ⟨cq151, kq151, q151a, q151b, q151c⟩ := isOf hZ e140 p120_0
              obtain ⟨_, _, ⟨T151, L151, kc151, n151⟩, -, X151, ⟨Lc151, hQ151, l151, y151, z151⟩, st151⟩ := X140.virtualBack hx (y := yM13) (z := yM13) hown (mvT hZ w32) (mvT hZ w33) (notFace_of_selects (args := #[]) (mvT hZ w35)) (mvT hZ w35) (mvT hZ w34) (by decide) (backOf (W := 0) (rm_skipF_2_1 l Z a0 hw [] z_CS v_FMT b115 b101 ba_109 kb_109 cd_109 z_109 vs_109 u0 u1 v3 T120.heap n0 SB (c121.keep K120 (allS n0_b115 all0)) p120_0 p120_1 p120_2 (((Exa.ext E115 p109_2).keep K117).keep K120) c141 c142 c143 p109_5 hcu1 hc144) hZ w36 w25 (by decide) (by decide)) q151a q151c (g := (mkF m 211 #[.val (.int n_), .val (.int a_), .val (.int b_), .val (.int c_), .val (.int d_), .val (.int e_), .val (.int u0), .val (.int u1), .val (.int cd), .val (.int (2 : Int32)), .val (.ref b101), .val (.int v1), .val (.int k2), .val (.int v2), .val (.int v3), .val (.ref b115), .val (.int (1 : Int32)), .val (.int (0 : Int32)), .unset, .unset, .unset, .unset, .unset] [(.int v3), (.ref b115)])) rfl (by rw [hml]; rfl) (Steps.refl _) (argsL := [(.int v3)]) (rest := []) (lenOf own_pd18 rfl) rfl (by show 2 * 0 + _ ≤ _; exact Nat.le_of_eq rfl) (hb hby at_211) (fun _ _ => ⟨rfl, e140, (by decide : 5 + 0 ≤ _), (by decide : 14 + 0 ≤ _)⟩)
              dsimp only [Pt.U, Pt.locs, Pt.cells, Pt.slots] at X151 l151 y151 z151 st151 hQ151
              subst l151 y151 z151
              obtain ⟨rfl, Nq151, e151⟩ := hQ151
              have N151 := Fr.app N140 Nq151
              refine otr (S' := T151.setTop (mkF m 214 #[.val (.int n_), .val (.int a_), .val (.int b_), .val (.int c_), .val (.int d_), .val (.int e_), .val (.int u0), .val (.int u1), .val (.int cd), .val (.int (2 : Int32)), .val (.ref b101), .val (.int v1), .val (.int k2), .val (.int v2), .val (.int v3), .val (.ref b115), .val (.int (1 : Int32)), .val (.int (0 : Int32)), .unset, .unset, .unset, .unset, .unset] [(.int (0 : Int32))])) st151 ?_
              refine o_istore X151 hx (l' := #[.val (.int n_), .val (.int a_), .val (.int b_), .val (.int c_), .val (.int d_), .val (.int e_), .val (.int u0), .val (.int u1), .val (.int cd), .val (.int (2 : Int32)), .val (.ref b101), .val (.int v1), .val (.int k2), .val (.int v2), .val (.int v3), .val (.ref b115), .val (.int (1 : Int32)), .val (.int (0 : Int32)), .val (.int (0 : Int32)), .unset, .unset, .unset, .unset]) (hb hby at_214) rfl ?_
              refine o_iconst X151 hx (0 : Int32) (hb hby at_216) rfl ?_
              refine o_istore X151 hx (l' := #[.val (.int n_), .val (.int a_), .val (.int b_), .val (.int c_), .val (.int d_), .val (.int e_), .val (.int u0), .val (.int u1), .val (.int cd), .val (.int (2 : Int32)), .val (.ref b101), .val (.int v1), .val (.int k2), .val (.int v2), .val (.int v3), .val (.ref b115), .val (.int (1 : Int32)), .val (.int (0 : Int32)), .val (.int (0 : Int32)), .val (.int (0 : Int32)), .unset, .unset, .unset]) (hb hby at_217) rfl ?_
              refine o_iload X151 hx (hb hby at_219) rfl ?_
              refine o_iload X151 hx (hb hby at_221) rfl ?_
              refine o_iload X151 hx (hb hby at_223) rfl ?_
              refine o_iload X151 hx (hb hby at_225) rfl ?_
              refine o_iload X151 hx (hb hby at_227) rfl ?_
              obtain ⟨_, _, ⟨T152, L152, kc152, n152⟩, -, X152, ⟨Lc152, hQ152, l152, y152, z152⟩, st152⟩ := Jvm.LawKit.callS X151 hx (y := yM22) hown (mvT hZ w50) (mvT hZ w51) (mvT hZ w52) (mvT hZ w53) (by decide) (backOf (W := 0) (rm_match_0_2_t l Z a0 hw []  u0 u1 v1 T120.heap n0 (c121.keep K120 (allS n0_b115 all0)) hc119) hZ w53 w52 (by decide) (by decide)) (g := (mkF m 229 #[.val (.int n_), .val (.int a_), .val (.int b_), .val (.int c_), .val (.int d_), .val (.int e_), .val (.int u0), .val (.int u1), .val (.int cd), .val (.int (2 : Int32)), .val (.ref b101), .val (.int v1), .val (.int k2), .val (.int v2), .val (.int v3), .val (.ref b115), .val (.int (1 : Int32)), .val (.int (0 : Int32)), .val (.int (0 : Int32)), .val (.int (0 : Int32)), .unset, .unset, .unset] [(.int v1), (.int u1), (.int u0), (.int (2 : Int32)), (.int (0 : Int32))])) rfl (by rw [hml]; rfl) (argsL := [(.int (0 : Int32)), (.int (2 : Int32)), (.int u0), (.int u1), (.int v1)]) (rest := []) (lenOf own_pd19 rfl) rfl (by show 2 * 0 + _ ≤ _; exact Nat.le_of_eq rfl) (hb hby at_229) (fun _ _ => ⟨rfl, e151, (by decide : 5 + 0 ≤ _), (by decide : 14 + 0 ≤ _)⟩)
              dsimp only [Pt.U, Pt.locs, Pt.cells, Pt.slots] at X152 l152 y152 z152 st152 hQ152
              subst l152 y152 z152
              obtain ⟨rfl, Nq152, e152⟩ := hQ152
              have N152 := Fr.app N151 Nq152
              refine ogo (S' := T152.setTop (mkF m 232 #[.val (.int n_), .val (.int a_), .val (.int b_), .val (.int c_), .val (.int d_), .val (.int e_), .val (.int u0), .val (.int u1), .val (.int cd), .val (.int (2 : Int32)), .val (.ref b101), .val (.int v1), .val (.int k2), .val (.int v2), .val (.int v3), .val (.ref b115), .val (.int (1 : Int32)), .val (.int (0 : Int32)), .val (.int (0 : Int32)), .val (.int (0 : Int32)), .unset, .unset, .unset] [(.int (1 : Int32))])) st152 ?_
              refine o_istore X152 hx (l' := #[.val (.int n_), .val (.int a_), .val (.int b_), .val (.int c_), .val (.int d_), .val (.int e_), .val (.int u0), .val (.int u1), .val (.int cd), .val (.int (2 : Int32)), .val (.ref b101), .val (.int v1), .val (.int k2), .val (.int v2), .val (.int v3), .val (.ref b115), .val (.int (1 : Int32)), .val (.int (0 : Int32)), .val (.int (0 : Int32)), .val (.int (0 : Int32)), .val (.int (1 : Int32)), .unset, .unset]) (hb hby at_232) rfl ?_
              refine o_iload X152 hx (hb hby at_234) rfl ?_
              refine o_ifNo X152 hx (hb hby at_236) (feq (by decide : ¬ ((1 : Int32) = (0 : Int32)))).1 ?_
              refine o_iload X152 hx (hb hby at_239) rfl ?_
              refine o_iconst X152 hx (1 : Int32) (hb hby at_241) rfl ?_
              refine o_iadd X152 hx (hb hby at_242) ?_
              refine o_istore X152 hx (l' := #[.val (.int n_), .val (.int a_), .val (.int b_), .val (.int c_), .val (.int d_), .val (.int e_), .val (.int u0), .val (.int u1), .val (.int cd), .val (.int (2 : Int32)), .val (.ref b101), .val (.int v1), .val (.int k2), .val (.int v2), .val (.int v3), .val (.ref b115), .val (.int (1 : Int32)), .val (.int (0 : Int32)), .val (.int (0 : Int32)), .val (.int (1 : Int32)), .val (.int (1 : Int32)), .unset, .unset]) (hb hby at_243) rfl ?_
              refine o_iload X152 hx (hb hby at_245) rfl ?_
              refine o_iload X152 hx (hb hby at_247) rfl ?_
              refine o_iload X152 hx (hb hby at_249) rfl ?_
              refine o_iload X152 hx (hb hby at_251) rfl ?_
              refine o_iload X152 hx (hb hby at_253) rfl ?_
              obtain ⟨_, _, ⟨T153, L153, kc153, n153⟩, -, X153, ⟨Lc153, hQ153, l153, y153, z153⟩, st153⟩ := Jvm.LawKit.callS X152 hx (y := yM22) hown (mvT hZ w50) (mvT hZ w51) (mvT hZ w52) (mvT hZ w53) (by decide) (backOf (W := 0) (rm_match_1_2_f l Z a0 hw []  u0 u1 v2 T120.heap n0 (c121.keep K120 (allS n0_b115 all0)) hc126) hZ w53 w52 (by decide) (by decide)) (g := (mkF m 255 #[.val (.int n_), .val (.int a_), .val (.int b_), .val (.int c_), .val (.int d_), .val (.int e_), .val (.int u0), .val (.int u1), .val (.int cd), .val (.int (2 : Int32)), .val (.ref b101), .val (.int v1), .val (.int k2), .val (.int v2), .val (.int v3), .val (.ref b115), .val (.int (1 : Int32)), .val (.int (0 : Int32)), .val (.int (0 : Int32)), .val (.int (1 : Int32)), .val (.int (1 : Int32)), .unset, .unset] [(.int v2), (.int u1), (.int u0), (.int (2 : Int32)), (.int (1 : Int32))])) rfl (by rw [hml]; rfl) (argsL := [(.int (1 : Int32)), (.int (2 : Int32)), (.int u0), (.int u1), (.int v2)]) (rest := []) (lenOf own_pd19 rfl) rfl (by show 2 * 0 + _ ≤ _; exact Nat.le_of_eq rfl) (hb hby at_255) (fun _ _ => ⟨rfl, e152, (by decide : 5 + 0 ≤ _), (by decide : 14 + 0 ≤ _)⟩)
              dsimp only [Pt.U, Pt.locs, Pt.cells, Pt.slots] at X153 l153 y153 z153 st153 hQ153
              subst l153 y153 z153
              obtain ⟨rfl, Nq153, e153⟩ := hQ153
              have N153 := Fr.app N152 Nq153
              refine ogo (S' := T153.setTop (mkF m 258 #[.val (.int n_), .val (.int a_), .val (.int b_), .val (.int c_), .val (.int d_), .val (.int e_), .val (.int u0), .val (.int u1), .val (.int cd), .val (.int (2 : Int32)), .val (.ref b101), .val (.int v1), .val (.int k2), .val (.int v2), .val (.int v3), .val (.ref b115), .val (.int (1 : Int32)), .val (.int (0 : Int32)), .val (.int (0 : Int32)), .val (.int (1 : Int32)), .val (.int (1 : Int32)), .unset, .unset] [(.int (0 : Int32))])) st153 ?_
              refine o_istore X153 hx (l' := #[.val (.int n_), .val (.int a_), .val (.int b_), .val (.int c_), .val (.int d_), .val (.int e_), .val (.int u0), .val (.int u1), .val (.int cd), .val (.int (2 : Int32)), .val (.ref b101), .val (.int v1), .val (.int k2), .val (.int v2), .val (.int v3), .val (.ref b115), .val (.int (1 : Int32)), .val (.int (0 : Int32)), .val (.int (0 : Int32)), .val (.int (1 : Int32)), .val (.int (1 : Int32)), .val (.int (0 : Int32)), .unset]) (hb hby at_258) rfl ?_
              refine o_iload X153 hx (hb hby at_260) rfl ?_
              refine o_ifYes X153 hx 271 (hb hby at_262) (teq (by decide : (0 : Int32) = (0 : Int32))).1 (by decide) (by decide) ?_
              refine o_iload X153 hx (hb hby at_271) rfl ?_
              refine o_iload X153 hx (hb hby at_273) rfl ?_
              refine o_iload X153 hx (hb hby at_275) rfl ?_
              refine o_iload X153 hx (hb hby at_277) rfl ?_
              refine o_iload X153 hx (hb hby at_279) rfl ?_
              obtain ⟨_, _, ⟨T154, L154, kc154, n154⟩, -, X154, ⟨Lc154, hQ154, l154, y154, z154⟩, st154⟩ := Jvm.LawKit.callS X153 hx (y := yM22) hown (mvT hZ w50) (mvT hZ w51) (mvT hZ w52) (mvT hZ w53) (by decide) (backOf (W := 0) (rm_match_1_2_f l Z a0 hw []  u0 u1 v3 T120.heap n0 (c121.keep K120 (allS n0_b115 all0)) hc144) hZ w53 w52 (by decide) (by decide)) (g := (mkF m 281 #[.val (.int n_), .val (.int a_), .val (.int b_), .val (.int c_), .val (.int d_), .val (.int e_), .val (.int u0), .val (.int u1), .val (.int cd), .val (.int (2 : Int32)), .val (.ref b101), .val (.int v1), .val (.int k2), .val (.int v2), .val (.int v3), .val (.ref b115), .val (.int (1 : Int32)), .val (.int (0 : Int32)), .val (.int (0 : Int32)), .val (.int (1 : Int32)), .val (.int (1 : Int32)), .val (.int (0 : Int32)), .unset] [(.int v3), (.int u1), (.int u0), (.int (2 : Int32)), (.int (1 : Int32))])) rfl (by rw [hml]; rfl) (argsL := [(.int (1 : Int32)), (.int (2 : Int32)), (.int u0), (.int u1), (.int v3)]) (rest := []) (lenOf own_pd19 rfl) rfl (by show 2 * 0 + _ ≤ _; exact Nat.le_of_eq rfl) (hb hby at_281) (fun _ _ => ⟨rfl, e153, (by decide : 5 + 0 ≤ _), (by decide : 14 + 0 ≤ _)⟩)
              dsimp only [Pt.U, Pt.locs, Pt.cells, Pt.slots] at X154 l154 y154 z154 st154 hQ154
              subst l154 y154 z154
              obtain ⟨rfl, Nq154, e154⟩ := hQ154
              have N154 := Fr.app N153 Nq154
              refine ogo (S' := T154.setTop (mkF m 284 #[.val (.int n_), .val (.int a_), .val (.int b_), .val (.int c_), .val (.int d_), .val (.int e_), .val (.int u0), .val (.int u1), .val (.int cd), .val (.int (2 : Int32)), .val (.ref b101), .val (.int v1), .val (.int k2), .val (.int v2), .val (.int v3), .val (.ref b115), .val (.int (1 : Int32)), .val (.int (0 : Int32)), .val (.int (0 : Int32)), .val (.int (1 : Int32)), .val (.int (1 : Int32)), .val (.int (0 : Int32)), .unset] [(.int (0 : Int32))])) st154 ?_
              refine o_istore X154 hx (l' := #[.val (.int n_), .val (.int a_), .val (.int b_), .val (.int c_), .val (.int d_), .val (.int e_), .val (.int u0), .val (.int u1), .val (.int cd), .val (.int (2 : Int32)), .val (.ref b101), .val (.int v1), .val (.int k2), .val (.int v2), .val (.int v3), .val (.ref b115), .val (.int (1 : Int32)), .val (.int (0 : Int32)), .val (.int (0 : Int32)), .val (.int (1 : Int32)), .val (.int (1 : Int32)), .val (.int (0 : Int32)), .val (.int (0 : Int32))]) (hb hby at_284) rfl ?_
              refine o_iload X154 hx (hb hby at_286) rfl ?_
              refine o_iload X154 hx (hb hby at_288) rfl ?_
              refine o_icmpNo X154 hx (hb hby at_290) (teq (by decide : (1 : Int32) = (1 : Int32))).2 ?_
              refine o_iload X154 hx (hb hby at_293) rfl ?_
              refine o_iload X154 hx (hb hby at_295) rfl ?_
              refine o_icmpNo X154 hx (hb hby at_297) (teq (by decide : (0 : Int32) = (0 : Int32))).2 ?_
              refine o_iload X154 hx (hb hby at_300) rfl ?_
              refine o_iload X154 hx (hb hby at_302) rfl ?_
              refine o_icmpNo X154 hx (hb hby at_304) (teq (by decide : (0 : Int32) = (0 : Int32))).2 ?_
              refine o_iconst X154 hx (1 : Int32) (hb hby at_307) rfl ?_
              refine o_goto X154 hx 312 (hb hby at_308) (by decide) (by decide) ?_
              refine oendS X154 hlk hS0 (Nat.le_trans (Nat.zero_le _) (Nat.le_trans (Nat.le_trans (Nat.le_trans (Nat.le_trans (Nat.le_trans (Nat.le_trans (Nat.le_trans E101.1 E103.1) (Keep.of_wr W105).1) (Keep.of_wr W107).1) K109.1) E115.1) K117.1) K120.1)) e154 hZ hEL hs0 (CHr.trans (CHr.trans (CHr.trans (CHr.trans (CHr.trans (CHr.trans (CHr.trans (CHr.trans (CHr.refl H0) (CHr.ext E101 H0)) (CHr.ext E103 H102)) (CHr.wr W105 (Safe.exa hZ.alike Ex103 (by decide) (by decide)) H104)) (CHr.wr W107 (Safe.exa hZ.alike (Exa.wr W105 Ex103) (by decide) (by decide)) H106)) (CHr.keep K109 (allS c113 all0) H108)) (CHr.ext E115 H114)) (CHr.keep K117 (allS (Safe.exa hZ.alike A115 (by decide) (by decide)) all0) H116)) (CHr.keep K120 (allS (Safe.exa hZ.alike p117_0 (by decide) (by decide)) all0) H118)) (v := some (.int (1 : Int32))) (fun h => by rw [hret] at h; cases h) (fun fs hr => retN X154 hx (t := .boolean) hret (by simp) (hb hby at_312) hr) (by decide) (by decide) ?_
              show own_Q_law Z _ _ _ _ _ _ _ _ h0 n0 _ T154.heap _
              rw [e154]
              exact ⟨rfl, N154, (((((((((Keep.refl h0 []).ext E101).ext E103).wr W105 (Or.inr (Nat.le_trans E101.1 (Nat.le_of_eq g103.symm)))).wr W107 (Or.inr (Nat.le_trans E101.1 (Nat.le_of_eq g103.symm)))).trans K109 (allS (Or.inr (Nat.le_trans (Nat.le_refl _) (Nat.le_of_eq g101.symm))) all0)).ext E115).trans K117 (allS (Or.inr (Nat.le_trans (Nat.le_trans (Nat.le_trans (Nat.le_trans (Nat.le_trans E101.1 E103.1) (Keep.of_wr W105).1) (Keep.of_wr W107).1) K109.1) (Nat.le_of_eq g115.symm))) all0)).trans K120 (allS (Or.inr (Nat.le_trans (Nat.le_trans (Nat.le_trans (Nat.le_trans (Nat.le_trans E101.1 E103.1) (Keep.of_wr W105).1) (Keep.of_wr W107).1) K109.1) (Nat.le_of_eq g115.symm))) all0))⟩
        · have c156 := (((c110.keep K109 (allS n0_b101 all0)).ext E115).keep K117 (allS n0_b115 all0))
          have c157 := ((Fld.ext E115 p109_4).keep K117 (ninS (Nat.ne_of_lt (Nat.lt_of_lt_of_le (Nat.lt_of_lt_of_le A101.lt (Nat.le_trans (Nat.le_trans (Nat.le_trans E103.1 (Keep.of_wr W105).1) (Keep.of_wr W107).1) K109.1)) (Nat.le_of_eq g115.symm))) nin0))
          have c158 := ((Fld.ext E115 p109_3).keep K117 (ninS (Nat.ne_of_lt (Nat.lt_of_lt_of_le (Nat.lt_of_lt_of_le A101.lt (Nat.le_trans (Nat.le_trans (Nat.le_trans E103.1 (Keep.of_wr W105).1) (Keep.of_wr W107).1) K109.1)) (Nat.le_of_eq g115.symm))) nin0))
          have c159 := ((p109_1.ext E115).keep K117 (ninS (Nat.ne_of_lt (Nat.lt_of_lt_of_le (Nat.lt_of_lt_of_le p109_1.lt (Nat.le_refl _)) (Nat.le_of_eq g115.symm))) nin0))
          obtain ⟨cq155, kq155, q155a, q155b, q155c⟩ := isOf hZ rfl p117_0
          obtain ⟨_, _, ⟨T155, L155, kc155, n155⟩, -, X155, ⟨Lc155, hQ155, l155, y155, z155⟩, st155⟩ := X117.virtualBack hx (y := yM13) (z := yM13) hown (mvT hZ w32) (mvT hZ w33) (notFace_of_selects (args := #[]) (mvT hZ w35)) (mvT hZ w35) (mvT hZ w34) (by decide) (backOf (W := 0) (rm_skipF_2_0 l Z a0 hw [] z_CS v_FMT b115 b101 ba_109 kb_109 cd_109 z_109 vs_109 u0 u1 v1 T117.heap n0 SB c156 p117_0 p117_1 p117_2 ((Exa.ext E115 p109_2).keep K117) c157 c158 c159 p109_5 hcu0 hc119) hZ w36 w25 (by decide) (by decide)) q155a q155c (g := (mkF m 193 #[.val (.int n_), .val (.int a_), .val (.int b_), .val (.int c_), .val (.int d_), .val (.int e_), .val (.int u0), .val (.int u1), .val (.int cd), .val (.int (2 : Int32)), .val (.ref b101), .val (.int v1), .val (.int k2), .val (.int v2), .val (.int v3), .val (.ref b115), .unset, .unset, .unset, .unset, .unset, .unset, .unset] [(.int v1), (.ref b115)])) rfl (by rw [hml]; rfl) (Steps.refl _) (argsL := [(.int v1)]) (rest := []) (lenOf own_pd18 rfl) rfl (by show 2 * 0 + _ ≤ _; exact Nat.le_of_eq rfl) (hb hby at_193) (fun _ _ => ⟨rfl, rfl, (by decide : 5 + 0 ≤ _), (by decide : 14 + 0 ≤ _)⟩)
          dsimp only [Pt.U, Pt.locs, Pt.cells, Pt.slots] at X155 l155 y155 z155 st155 hQ155
          subst l155 y155 z155
          obtain ⟨rfl, Nq155, e155⟩ := hQ155
          have N155 := Fr.app N117 Nq155
          refine otr (S' := T155.setTop (mkF m 196 #[.val (.int n_), .val (.int a_), .val (.int b_), .val (.int c_), .val (.int d_), .val (.int e_), .val (.int u0), .val (.int u1), .val (.int cd), .val (.int (2 : Int32)), .val (.ref b101), .val (.int v1), .val (.int k2), .val (.int v2), .val (.int v3), .val (.ref b115), .unset, .unset, .unset, .unset, .unset, .unset, .unset] [(.int (0 : Int32))])) st155 ?_
          refine o_istore X155 hx (l' := #[.val (.int n_), .val (.int a_), .val (.int b_), .val (.int c_), .val (.int d_), .val (.int e_), .val (.int u0), .val (.int u1), .val (.int cd), .val (.int (2 : Int32)), .val (.ref b101), .val (.int v1), .val (.int k2), .val (.int v2), .val (.int v3), .val (.ref b115), .val (.int (0 : Int32)), .unset, .unset, .unset, .unset, .unset, .unset]) (hb hby at_196) rfl ?_
          refine o_aload X155 hx (hb hby at_198) rfl rfl ?_
          refine o_iload X155 hx (hb hby at_200) rfl ?_
          by_cases hc160 : u0 = v2
          · obtain ⟨cq161, kq161, q161a, q161b, q161c⟩ := isOf hZ e155 p117_0
            obtain ⟨_, _, ⟨T161, L161, kc161, n161⟩, -, X161, ⟨Lc161, hQ161, l161, y161, z161⟩, st161⟩ := X155.virtualBack hx (y := yM13) (z := yM13) hown (mvT hZ w32) (mvT hZ w33) (notFace_of_selects (args := #[]) (mvT hZ w35)) (mvT hZ w35) (mvT hZ w34) (by decide) (backOf (W := 0) (rm_skipT_2_0 l Z a0 hw [] z_CS v_FMT b115 b101 ba_109 kb_109 cd_109 z_109 vs_109 u0 u1 v2 T117.heap n0 SB c156 p117_0 p117_1 p117_2 ((Exa.ext E115 p109_2).keep K117) c157 c158 c159 p109_5 hcu0 hc160 n0_b115) hZ w36 w25 (by decide) (by decide)) q161a q161c (g := (mkF m 202 #[.val (.int n_), .val (.int a_), .val (.int b_), .val (.int c_), .val (.int d_), .val (.int e_), .val (.int u0), .val (.int u1), .val (.int cd), .val (.int (2 : Int32)), .val (.ref b101), .val (.int v1), .val (.int k2), .val (.int v2), .val (.int v3), .val (.ref b115), .val (.int (0 : Int32)), .unset, .unset, .unset, .unset, .unset, .unset] [(.int v2), (.ref b115)])) rfl (by rw [hml]; rfl) (Steps.refl _) (argsL := [(.int v2)]) (rest := []) (lenOf own_pd18 rfl) rfl (by show 2 * 0 + _ ≤ _; exact Nat.le_of_eq rfl) (hb hby at_202) (fun _ _ => ⟨rfl, e155, (by decide : 5 + 0 ≤ _), (by decide : 14 + 0 ≤ _)⟩)
            dsimp only [Pt.U, Pt.locs, Pt.cells, Pt.slots] at X161 l161 y161 z161 st161 hQ161
            subst l161 y161 z161
            obtain ⟨rfl, Nq161, K161, p161_0, p161_1, p161_2⟩ := hQ161
            have N161 := Fr.app N155 Nq161
            have H162 := CHv.keep K161 (allS (Safe.exa hZ.alike p117_0 (by decide) (by decide)) all0) H118
            refine otr (S' := T161.setTop (mkF m 205 #[.val (.int n_), .val (.int a_), .val (.int b_), .val (.int c_), .val (.int d_), .val (.int e_), .val (.int u0), .val (.int u1), .val (.int cd), .val (.int (2 : Int32)), .val (.ref b101), .val (.int v1), .val (.int k2), .val (.int v2), .val (.int v3), .val (.ref b115), .val (.int (0 : Int32)), .unset, .unset, .unset, .unset, .unset, .unset] [(.int (1 : Int32))])) st161 ?_
            refine o_istore X161 hx (l' := #[.val (.int n_), .val (.int a_), .val (.int b_), .val (.int c_), .val (.int d_), .val (.int e_), .val (.int u0), .val (.int u1), .val (.int cd), .val (.int (2 : Int32)), .val (.ref b101), .val (.int v1), .val (.int k2), .val (.int v2), .val (.int v3), .val (.ref b115), .val (.int (0 : Int32)), .val (.int (1 : Int32)), .unset, .unset, .unset, .unset, .unset]) (hb hby at_205) rfl ?_
            refine o_aload X161 hx (hb hby at_207) rfl rfl ?_
            refine o_iload X161 hx (hb hby at_209) rfl ?_
            by_cases hc163 : u1 = v3
            · have c165 := (c157.keep K161 (ninS (Nat.ne_of_lt (Nat.lt_of_lt_of_le (Nat.lt_of_lt_of_le A101.lt (Nat.le_trans (Nat.le_trans (Nat.le_trans E103.1 (Keep.of_wr W105).1) (Keep.of_wr W107).1) K109.1)) (Nat.le_of_eq g115.symm))) nin0))
              have c166 := (c158.keep K161 (ninS (Nat.ne_of_lt (Nat.lt_of_lt_of_le (Nat.lt_of_lt_of_le A101.lt (Nat.le_trans (Nat.le_trans (Nat.le_trans E103.1 (Keep.of_wr W105).1) (Keep.of_wr W107).1) K109.1)) (Nat.le_of_eq g115.symm))) nin0))
              have c167 := (c159.keep K161 (ninS (Nat.ne_of_lt (Nat.lt_of_lt_of_le (Nat.lt_of_lt_of_le p109_1.lt (Nat.le_refl _)) (Nat.le_of_eq g115.symm))) nin0))
              obtain ⟨cq164, kq164, q164a, q164b, q164c⟩ := isOf hZ rfl p161_0
              obtain ⟨_, _, ⟨T164, L164, kc164, n164⟩, -, X164, ⟨Lc164, hQ164, l164, y164, z164⟩, st164⟩ := X161.virtualBack hx (y := yM13) (z := yM13) hown (mvT hZ w32) (mvT hZ w33) (notFace_of_selects (args := #[]) (mvT hZ w35)) (mvT hZ w35) (mvT hZ w34) (by decide) (backOf (W := 0) (rm_skipT_2_1 l Z a0 hw [] z_CS v_FMT b115 b101 ba_109 kb_109 cd_109 z_109 vs_109 u0 u1 v3 T161.heap n0 SB (c156.keep K161 (allS n0_b115 all0)) p161_0 p161_1 p161_2 (((Exa.ext E115 p109_2).keep K117).keep K161) c165 c166 c167 p109_5 hcu1 hc163 n0_b115) hZ w36 w25 (by decide) (by decide)) q164a q164c (g := (mkF m 211 #[.val (.int n_), .val (.int a_), .val (.int b_), .val (.int c_), .val (.int d_), .val (.int e_), .val (.int u0), .val (.int u1), .val (.int cd), .val (.int (2 : Int32)), .val (.ref b101), .val (.int v1), .val (.int k2), .val (.int v2), .val (.int v3), .val (.ref b115), .val (.int (0 : Int32)), .val (.int (1 : Int32)), .unset, .unset, .unset, .unset, .unset] [(.int v3), (.ref b115)])) rfl (by rw [hml]; rfl) (Steps.refl _) (argsL := [(.int v3)]) (rest := []) (lenOf own_pd18 rfl) rfl (by show 2 * 0 + _ ≤ _; exact Nat.le_of_eq rfl) (hb hby at_211) (fun _ _ => ⟨rfl, rfl, (by decide : 5 + 0 ≤ _), (by decide : 14 + 0 ≤ _)⟩)
              dsimp only [Pt.U, Pt.locs, Pt.cells, Pt.slots] at X164 l164 y164 z164 st164 hQ164
              subst l164 y164 z164
              obtain ⟨rfl, Nq164, K164, p164_0, p164_1, p164_2⟩ := hQ164
              have N164 := Fr.app N161 Nq164
              have H168 := CHv.keep K164 (allS (Safe.exa hZ.alike p161_0 (by decide) (by decide)) all0) H162
              refine otr (S' := T164.setTop (mkF m 214 #[.val (.int n_), .val (.int a_), .val (.int b_), .val (.int c_), .val (.int d_), .val (.int e_), .val (.int u0), .val (.int u1), .val (.int cd), .val (.int (2 : Int32)), .val (.ref b101), .val (.int v1), .val (.int k2), .val (.int v2), .val (.int v3), .val (.ref b115), .val (.int (0 : Int32)), .val (.int (1 : Int32)), .unset, .unset, .unset, .unset, .unset] [(.int (1 : Int32))])) st164 ?_
              refine o_istore X164 hx (l' := #[.val (.int n_), .val (.int a_), .val (.int b_), .val (.int c_), .val (.int d_), .val (.int e_), .val (.int u0), .val (.int u1), .val (.int cd), .val (.int (2 : Int32)), .val (.ref b101), .val (.int v1), .val (.int k2), .val (.int v2), .val (.int v3), .val (.ref b115), .val (.int (0 : Int32)), .val (.int (1 : Int32)), .val (.int (1 : Int32)), .unset, .unset, .unset, .unset]) (hb hby at_214) rfl ?_
              refine o_iconst X164 hx (0 : Int32) (hb hby at_216) rfl ?_
              refine o_istore X164 hx (l' := #[.val (.int n_), .val (.int a_), .val (.int b_), .val (.int c_), .val (.int d_), .val (.int e_), .val (.int u0), .val (.int u1), .val (.int cd), .val (.int (2 : Int32)), .val (.ref b101), .val (.int v1), .val (.int k2), .val (.int v2), .val (.int v3), .val (.ref b115), .val (.int (0 : Int32)), .val (.int (1 : Int32)), .val (.int (1 : Int32)), .val (.int (0 : Int32)), .unset, .unset, .unset]) (hb hby at_217) rfl ?_
              refine o_iload X164 hx (hb hby at_219) rfl ?_
              refine o_iload X164 hx (hb hby at_221) rfl ?_
              refine o_iload X164 hx (hb hby at_223) rfl ?_
              refine o_iload X164 hx (hb hby at_225) rfl ?_
              refine o_iload X164 hx (hb hby at_227) rfl ?_
              have c170 := ((c156.keep K161 (allS n0_b115 all0)).keep K164 (allS n0_b115 all0))
              obtain ⟨_, _, ⟨T169, L169, kc169, n169⟩, -, X169, ⟨Lc169, hQ169, l169, y169, z169⟩, st169⟩ := Jvm.LawKit.callS X164 hx (y := yM22) hown (mvT hZ w50) (mvT hZ w51) (mvT hZ w52) (mvT hZ w53) (by decide) (backOf (W := 0) (rm_match_0_2_f l Z a0 hw []  u0 u1 v1 T164.heap n0 c170 hc119) hZ w53 w52 (by decide) (by decide)) (g := (mkF m 229 #[.val (.int n_), .val (.int a_), .val (.int b_), .val (.int c_), .val (.int d_), .val (.int e_), .val (.int u0), .val (.int u1), .val (.int cd), .val (.int (2 : Int32)), .val (.ref b101), .val (.int v1), .val (.int k2), .val (.int v2), .val (.int v3), .val (.ref b115), .val (.int (0 : Int32)), .val (.int (1 : Int32)), .val (.int (1 : Int32)), .val (.int (0 : Int32)), .unset, .unset, .unset] [(.int v1), (.int u1), (.int u0), (.int (2 : Int32)), (.int (0 : Int32))])) rfl (by rw [hml]; rfl) (argsL := [(.int (0 : Int32)), (.int (2 : Int32)), (.int u0), (.int u1), (.int v1)]) (rest := []) (lenOf own_pd19 rfl) rfl (by show 2 * 0 + _ ≤ _; exact Nat.le_of_eq rfl) (hb hby at_229) (fun _ _ => ⟨rfl, rfl, (by decide : 5 + 0 ≤ _), (by decide : 14 + 0 ≤ _)⟩)
              dsimp only [Pt.U, Pt.locs, Pt.cells, Pt.slots] at X169 l169 y169 z169 st169 hQ169
              subst l169 y169 z169
              obtain ⟨rfl, Nq169, e169⟩ := hQ169
              have N169 := Fr.app N164 Nq169
              refine ogo (S' := T169.setTop (mkF m 232 #[.val (.int n_), .val (.int a_), .val (.int b_), .val (.int c_), .val (.int d_), .val (.int e_), .val (.int u0), .val (.int u1), .val (.int cd), .val (.int (2 : Int32)), .val (.ref b101), .val (.int v1), .val (.int k2), .val (.int v2), .val (.int v3), .val (.ref b115), .val (.int (0 : Int32)), .val (.int (1 : Int32)), .val (.int (1 : Int32)), .val (.int (0 : Int32)), .unset, .unset, .unset] [(.int (0 : Int32))])) st169 ?_
              refine o_istore X169 hx (l' := #[.val (.int n_), .val (.int a_), .val (.int b_), .val (.int c_), .val (.int d_), .val (.int e_), .val (.int u0), .val (.int u1), .val (.int cd), .val (.int (2 : Int32)), .val (.ref b101), .val (.int v1), .val (.int k2), .val (.int v2), .val (.int v3), .val (.ref b115), .val (.int (0 : Int32)), .val (.int (1 : Int32)), .val (.int (1 : Int32)), .val (.int (0 : Int32)), .val (.int (0 : Int32)), .unset, .unset]) (hb hby at_232) rfl ?_
              refine o_iload X169 hx (hb hby at_234) rfl ?_
              refine o_ifYes X169 hx 245 (hb hby at_236) (teq (by decide : (0 : Int32) = (0 : Int32))).1 (by decide) (by decide) ?_
              refine o_iload X169 hx (hb hby at_245) rfl ?_
              refine o_iload X169 hx (hb hby at_247) rfl ?_
              refine o_iload X169 hx (hb hby at_249) rfl ?_
              refine o_iload X169 hx (hb hby at_251) rfl ?_
              refine o_iload X169 hx (hb hby at_253) rfl ?_
              obtain ⟨_, _, ⟨T171, L171, kc171, n171⟩, -, X171, ⟨Lc171, hQ171, l171, y171, z171⟩, st171⟩ := Jvm.LawKit.callS X169 hx (y := yM22) hown (mvT hZ w50) (mvT hZ w51) (mvT hZ w52) (mvT hZ w53) (by decide) (backOf (W := 0) (rm_match_0_2_t l Z a0 hw []  u0 u1 v2 T164.heap n0 c170 hc160) hZ w53 w52 (by decide) (by decide)) (g := (mkF m 255 #[.val (.int n_), .val (.int a_), .val (.int b_), .val (.int c_), .val (.int d_), .val (.int e_), .val (.int u0), .val (.int u1), .val (.int cd), .val (.int (2 : Int32)), .val (.ref b101), .val (.int v1), .val (.int k2), .val (.int v2), .val (.int v3), .val (.ref b115), .val (.int (0 : Int32)), .val (.int (1 : Int32)), .val (.int (1 : Int32)), .val (.int (0 : Int32)), .val (.int (0 : Int32)), .unset, .unset] [(.int v2), (.int u1), (.int u0), (.int (2 : Int32)), (.int (0 : Int32))])) rfl (by rw [hml]; rfl) (argsL := [(.int (0 : Int32)), (.int (2 : Int32)), (.int u0), (.int u1), (.int v2)]) (rest := []) (lenOf own_pd19 rfl) rfl (by show 2 * 0 + _ ≤ _; exact Nat.le_of_eq rfl) (hb hby at_255) (fun _ _ => ⟨rfl, e169, (by decide : 5 + 0 ≤ _), (by decide : 14 + 0 ≤ _)⟩)
              dsimp only [Pt.U, Pt.locs, Pt.cells, Pt.slots] at X171 l171 y171 z171 st171 hQ171
              subst l171 y171 z171
              obtain ⟨rfl, Nq171, e171⟩ := hQ171
              have N171 := Fr.app N169 Nq171
              refine ogo (S' := T171.setTop (mkF m 258 #[.val (.int n_), .val (.int a_), .val (.int b_), .val (.int c_), .val (.int d_), .val (.int e_), .val (.int u0), .val (.int u1), .val (.int cd), .val (.int (2 : Int32)), .val (.ref b101), .val (.int v1), .val (.int k2), .val (.int v2), .val (.int v3), .val (.ref b115), .val (.int (0 : Int32)), .val (.int (1 : Int32)), .val (.int (1 : Int32)), .val (.int (0 : Int32)), .val (.int (0 : Int32)), .unset, .unset] [(.int (1 : Int32))])) st171 ?_
              refine o_istore X171 hx (l' := #[.val (.int n_), .val (.int a_), .val (.int b_), .val (.int c_), .val (.int d_), .val (.int e_), .val (.int u0), .val (.int u1), .val (.int cd), .val (.int (2 : Int32)), .val (.ref b101), .val (.int v1), .val (.int k2), .val (.int v2), .val (.int v3), .val (.ref b115), .val (.int (0 : Int32)), .val (.int (1 : Int32)), .val (.int (1 : Int32)), .val (.int (0 : Int32)), .val (.int (0 : Int32)), .val (.int (1 : Int32)), .unset]) (hb hby at_258) rfl ?_
              refine o_iload X171 hx (hb hby at_260) rfl ?_
              refine o_ifNo X171 hx (hb hby at_262) (feq (by decide : ¬ ((1 : Int32) = (0 : Int32)))).1 ?_
              refine o_iload X171 hx (hb hby at_265) rfl ?_
              refine o_iconst X171 hx (1 : Int32) (hb hby at_267) rfl ?_
              refine o_iadd X171 hx (hb hby at_268) ?_
              refine o_istore X171 hx (l' := #[.val (.int n_), .val (.int a_), .val (.int b_), .val (.int c_), .val (.int d_), .val (.int e_), .val (.int u0), .val (.int u1), .val (.int cd), .val (.int (2 : Int32)), .val (.ref b101), .val (.int v1), .val (.int k2), .val (.int v2), .val (.int v3), .val (.ref b115), .val (.int (0 : Int32)), .val (.int (1 : Int32)), .val (.int (1 : Int32)), .val (.int (1 : Int32)), .val (.int (0 : Int32)), .val (.int (1 : Int32)), .unset]) (hb hby at_269) rfl ?_
              refine o_iload X171 hx (hb hby at_271) rfl ?_
              refine o_iload X171 hx (hb hby at_273) rfl ?_
              refine o_iload X171 hx (hb hby at_275) rfl ?_
              refine o_iload X171 hx (hb hby at_277) rfl ?_
              refine o_iload X171 hx (hb hby at_279) rfl ?_
              obtain ⟨_, _, ⟨T172, L172, kc172, n172⟩, -, X172, ⟨Lc172, hQ172, l172, y172, z172⟩, st172⟩ := Jvm.LawKit.callS X171 hx (y := yM22) hown (mvT hZ w50) (mvT hZ w51) (mvT hZ w52) (mvT hZ w53) (by decide) (backOf (W := 0) (rm_match_1_2_t l Z a0 hw []  u0 u1 v3 T164.heap n0 c170 hc163) hZ w53 w52 (by decide) (by decide)) (g := (mkF m 281 #[.val (.int n_), .val (.int a_), .val (.int b_), .val (.int c_), .val (.int d_), .val (.int e_), .val (.int u0), .val (.int u1), .val (.int cd), .val (.int (2 : Int32)), .val (.ref b101), .val (.int v1), .val (.int k2), .val (.int v2), .val (.int v3), .val (.ref b115), .val (.int (0 : Int32)), .val (.int (1 : Int32)), .val (.int (1 : Int32)), .val (.int (1 : Int32)), .val (.int (0 : Int32)), .val (.int (1 : Int32)), .unset] [(.int v3), (.int u1), (.int u0), (.int (2 : Int32)), (.int (1 : Int32))])) rfl (by rw [hml]; rfl) (argsL := [(.int (1 : Int32)), (.int (2 : Int32)), (.int u0), (.int u1), (.int v3)]) (rest := []) (lenOf own_pd19 rfl) rfl (by show 2 * 0 + _ ≤ _; exact Nat.le_of_eq rfl) (hb hby at_281) (fun _ _ => ⟨rfl, e171, (by decide : 5 + 0 ≤ _), (by decide : 14 + 0 ≤ _)⟩)
              dsimp only [Pt.U, Pt.locs, Pt.cells, Pt.slots] at X172 l172 y172 z172 st172 hQ172
              subst l172 y172 z172
              obtain ⟨rfl, Nq172, e172⟩ := hQ172
              have N172 := Fr.app N171 Nq172
              refine ogo (S' := T172.setTop (mkF m 284 #[.val (.int n_), .val (.int a_), .val (.int b_), .val (.int c_), .val (.int d_), .val (.int e_), .val (.int u0), .val (.int u1), .val (.int cd), .val (.int (2 : Int32)), .val (.ref b101), .val (.int v1), .val (.int k2), .val (.int v2), .val (.int v3), .val (.ref b115), .val (.int (0 : Int32)), .val (.int (1 : Int32)), .val (.int (1 : Int32)), .val (.int (1 : Int32)), .val (.int (0 : Int32)), .val (.int (1 : Int32)), .unset] [(.int (1 : Int32))])) st172 ?_
              refine o_istore X172 hx (l' := #[.val (.int n_), .val (.int a_), .val (.int b_), .val (.int c_), .val (.int d_), .val (.int e_), .val (.int u0), .val (.int u1), .val (.int cd), .val (.int (2 : Int32)), .val (.ref b101), .val (.int v1), .val (.int k2), .val (.int v2), .val (.int v3), .val (.ref b115), .val (.int (0 : Int32)), .val (.int (1 : Int32)), .val (.int (1 : Int32)), .val (.int (1 : Int32)), .val (.int (0 : Int32)), .val (.int (1 : Int32)), .val (.int (1 : Int32))]) (hb hby at_284) rfl ?_
              refine o_iload X172 hx (hb hby at_286) rfl ?_
              refine o_iload X172 hx (hb hby at_288) rfl ?_
              refine o_icmpNo X172 hx (hb hby at_290) (teq (by decide : (0 : Int32) = (0 : Int32))).2 ?_
              refine o_iload X172 hx (hb hby at_293) rfl ?_
              refine o_iload X172 hx (hb hby at_295) rfl ?_
              refine o_icmpNo X172 hx (hb hby at_297) (teq (by decide : (1 : Int32) = (1 : Int32))).2 ?_
              refine o_iload X172 hx (hb hby at_300) rfl ?_
              refine o_iload X172 hx (hb hby at_302) rfl ?_
              refine o_icmpNo X172 hx (hb hby at_304) (teq (by decide : (1 : Int32) = (1 : Int32))).2 ?_
              refine o_iconst X172 hx (1 : Int32) (hb hby at_307) rfl ?_
              refine o_goto X172 hx 312 (hb hby at_308) (by decide) (by decide) ?_
              refine oendS X172 hlk hS0 (Nat.le_trans (Nat.zero_le _) (Nat.le_trans (Nat.le_trans (Nat.le_trans (Nat.le_trans (Nat.le_trans (Nat.le_trans (Nat.le_trans (Nat.le_trans E101.1 E103.1) (Keep.of_wr W105).1) (Keep.of_wr W107).1) K109.1) E115.1) K117.1) K161.1) K164.1)) e172 hZ hEL hs0 (CHr.trans (CHr.trans (CHr.trans (CHr.trans (CHr.trans (CHr.trans (CHr.trans (CHr.trans (CHr.trans (CHr.refl H0) (CHr.ext E101 H0)) (CHr.ext E103 H102)) (CHr.wr W105 (Safe.exa hZ.alike Ex103 (by decide) (by decide)) H104)) (CHr.wr W107 (Safe.exa hZ.alike (Exa.wr W105 Ex103) (by decide) (by decide)) H106)) (CHr.keep K109 (allS c113 all0) H108)) (CHr.ext E115 H114)) (CHr.keep K117 (allS (Safe.exa hZ.alike A115 (by decide) (by decide)) all0) H116)) (CHr.keep K161 (allS (Safe.exa hZ.alike p117_0 (by decide) (by decide)) all0) H118)) (CHr.keep K164 (allS (Safe.exa hZ.alike p161_0 (by decide) (by decide)) all0) H162)) (v := some (.int (1 : Int32))) (fun h => by rw [hret] at h; cases h) (fun fs hr => retN X172 hx (t := .boolean) hret (by simp) (hb hby at_312) hr) (by decide) (by decide) ?_
              show own_Q_law Z _ _ _ _ _ _ _ _ h0 n0 _ T172.heap _
              rw [e172]
              exact ⟨rfl, N172, ((((((((((Keep.refl h0 []).ext E101).ext E103).wr W105 (Or.inr (Nat.le_trans E101.1 (Nat.le_of_eq g103.symm)))).wr W107 (Or.inr (Nat.le_trans E101.1 (Nat.le_of_eq g103.symm)))).trans K109 (allS (Or.inr (Nat.le_trans (Nat.le_refl _) (Nat.le_of_eq g101.symm))) all0)).ext E115).trans K117 (allS (Or.inr (Nat.le_trans (Nat.le_trans (Nat.le_trans (Nat.le_trans (Nat.le_trans E101.1 E103.1) (Keep.of_wr W105).1) (Keep.of_wr W107).1) K109.1) (Nat.le_of_eq g115.symm))) all0)).trans K161 (allS (Or.inr (Nat.le_trans (Nat.le_trans (Nat.le_trans (Nat.le_trans (Nat.le_trans E101.1 E103.1) (Keep.of_wr W105).1) (Keep.of_wr W107).1) K109.1) (Nat.le_of_eq g115.symm))) all0)).trans K164 (allS (Or.inr (Nat.le_trans (Nat.le_trans (Nat.le_trans (Nat.le_trans (Nat.le_trans E101.1 E103.1) (Keep.of_wr W105).1) (Keep.of_wr W107).1) K109.1) (Nat.le_of_eq g115.symm))) all0))⟩
            · have c174 := (c157.keep K161 (ninS (Nat.ne_of_lt (Nat.lt_of_lt_of_le (Nat.lt_of_lt_of_le A101.lt (Nat.le_trans (Nat.le_trans (Nat.le_trans E103.1 (Keep.of_wr W105).1) (Keep.of_wr W107).1) K109.1)) (Nat.le_of_eq g115.symm))) nin0))
              have c175 := (c158.keep K161 (ninS (Nat.ne_of_lt (Nat.lt_of_lt_of_le (Nat.lt_of_lt_of_le A101.lt (Nat.le_trans (Nat.le_trans (Nat.le_trans E103.1 (Keep.of_wr W105).1) (Keep.of_wr W107).1) K109.1)) (Nat.le_of_eq g115.symm))) nin0))
              have c176 := (c159.keep K161 (ninS (Nat.ne_of_lt (Nat.lt_of_lt_of_le (Nat.lt_of_lt_of_le p109_1.lt (Nat.le_refl _)) (Nat.le_of_eq g115.symm))) nin0))
              obtain ⟨cq173, kq173, q173a, q173b, q173c⟩ := isOf hZ rfl p161_0
              obtain ⟨_, _, ⟨T173, L173, kc173, n173⟩, -, X173, ⟨Lc173, hQ173, l173, y173, z173⟩, st173⟩ := X161.virtualBack hx (y := yM13) (z := yM13) hown (mvT hZ w32) (mvT hZ w33) (notFace_of_selects (args := #[]) (mvT hZ w35)) (mvT hZ w35) (mvT hZ w34) (by decide) (backOf (W := 0) (rm_skipF_2_1 l Z a0 hw [] z_CS v_FMT b115 b101 ba_109 kb_109 cd_109 z_109 vs_109 u0 u1 v3 T161.heap n0 SB (c156.keep K161 (allS n0_b115 all0)) p161_0 p161_1 p161_2 (((Exa.ext E115 p109_2).keep K117).keep K161) c174 c175 c176 p109_5 hcu1 hc163) hZ w36 w25 (by decide) (by decide)) q173a q173c (g := (mkF m 211 #[.val (.int n_), .val (.int a_), .val (.int b_), .val (.int c_), .val (.int d_), .val (.int e_), .val (.int u0), .val (.int u1), .val (.int cd), .val (.int (2 : Int32)), .val (.ref b101), .val (.int v1), .val (.int k2), .val (.int v2), .val (.int v3), .val (.ref b115), .val (.int (0 : Int32)), .val (.int (1 : Int32)), .unset, .unset, .unset, .unset, .unset] [(.int v3), (.ref b115)])) rfl (by rw [hml]; rfl) (Steps.refl _) (argsL := [(.int v3)]) (rest := []) (lenOf own_pd18 rfl) rfl (by show 2 * 0 + _ ≤ _; exact Nat.le_of_eq rfl) (hb hby at_211) (fun _ _ => ⟨rfl, rfl, (by decide : 5 + 0 ≤ _), (by decide : 14 + 0 ≤ _)⟩)
              dsimp only [Pt.U, Pt.locs, Pt.cells, Pt.slots] at X173 l173 y173 z173 st173 hQ173
              subst l173 y173 z173
              obtain ⟨rfl, Nq173, e173⟩ := hQ173
              have N173 := Fr.app N161 Nq173
              refine otr (S' := T173.setTop (mkF m 214 #[.val (.int n_), .val (.int a_), .val (.int b_), .val (.int c_), .val (.int d_), .val (.int e_), .val (.int u0), .val (.int u1), .val (.int cd), .val (.int (2 : Int32)), .val (.ref b101), .val (.int v1), .val (.int k2), .val (.int v2), .val (.int v3), .val (.ref b115), .val (.int (0 : Int32)), .val (.int (1 : Int32)), .unset, .unset, .unset, .unset, .unset] [(.int (0 : Int32))])) st173 ?_
              refine o_istore X173 hx (l' := #[.val (.int n_), .val (.int a_), .val (.int b_), .val (.int c_), .val (.int d_), .val (.int e_), .val (.int u0), .val (.int u1), .val (.int cd), .val (.int (2 : Int32)), .val (.ref b101), .val (.int v1), .val (.int k2), .val (.int v2), .val (.int v3), .val (.ref b115), .val (.int (0 : Int32)), .val (.int (1 : Int32)), .val (.int (0 : Int32)), .unset, .unset, .unset, .unset]) (hb hby at_214) rfl ?_
              refine o_iconst X173 hx (0 : Int32) (hb hby at_216) rfl ?_
              refine o_istore X173 hx (l' := #[.val (.int n_), .val (.int a_), .val (.int b_), .val (.int c_), .val (.int d_), .val (.int e_), .val (.int u0), .val (.int u1), .val (.int cd), .val (.int (2 : Int32)), .val (.ref b101), .val (.int v1), .val (.int k2), .val (.int v2), .val (.int v3), .val (.ref b115), .val (.int (0 : Int32)), .val (.int (1 : Int32)), .val (.int (0 : Int32)), .val (.int (0 : Int32)), .unset, .unset, .unset]) (hb hby at_217) rfl ?_
              refine o_iload X173 hx (hb hby at_219) rfl ?_
              refine o_iload X173 hx (hb hby at_221) rfl ?_
              refine o_iload X173 hx (hb hby at_223) rfl ?_
              refine o_iload X173 hx (hb hby at_225) rfl ?_
              refine o_iload X173 hx (hb hby at_227) rfl ?_
              obtain ⟨_, _, ⟨T177, L177, kc177, n177⟩, -, X177, ⟨Lc177, hQ177, l177, y177, z177⟩, st177⟩ := Jvm.LawKit.callS X173 hx (y := yM22) hown (mvT hZ w50) (mvT hZ w51) (mvT hZ w52) (mvT hZ w53) (by decide) (backOf (W := 0) (rm_match_0_2_f l Z a0 hw []  u0 u1 v1 T161.heap n0 (c156.keep K161 (allS n0_b115 all0)) hc119) hZ w53 w52 (by decide) (by decide)) (g := (mkF m 229 #[.val (.int n_), .val (.int a_), .val (.int b_), .val (.int c_), .val (.int d_), .val (.int e_), .val (.int u0), .val (.int u1), .val (.int cd), .val (.int (2 : Int32)), .val (.ref b101), .val (.int v1), .val (.int k2), .val (.int v2), .val (.int v3), .val (.ref b115), .val (.int (0 : Int32)), .val (.int (1 : Int32)), .val (.int (0 : Int32)), .val (.int (0 : Int32)), .unset, .unset, .unset] [(.int v1), (.int u1), (.int u0), (.int (2 : Int32)), (.int (0 : Int32))])) rfl (by rw [hml]; rfl) (argsL := [(.int (0 : Int32)), (.int (2 : Int32)), (.int u0), (.int u1), (.int v1)]) (rest := []) (lenOf own_pd19 rfl) rfl (by show 2 * 0 + _ ≤ _; exact Nat.le_of_eq rfl) (hb hby at_229) (fun _ _ => ⟨rfl, e173, (by decide : 5 + 0 ≤ _), (by decide : 14 + 0 ≤ _)⟩)
              dsimp only [Pt.U, Pt.locs, Pt.cells, Pt.slots] at X177 l177 y177 z177 st177 hQ177
              subst l177 y177 z177
              obtain ⟨rfl, Nq177, e177⟩ := hQ177
              have N177 := Fr.app N173 Nq177
              refine ogo (S' := T177.setTop (mkF m 232 #[.val (.int n_), .val (.int a_), .val (.int b_), .val (.int c_), .val (.int d_), .val (.int e_), .val (.int u0), .val (.int u1), .val (.int cd), .val (.int (2 : Int32)), .val (.ref b101), .val (.int v1), .val (.int k2), .val (.int v2), .val (.int v3), .val (.ref b115), .val (.int (0 : Int32)), .val (.int (1 : Int32)), .val (.int (0 : Int32)), .val (.int (0 : Int32)), .unset, .unset, .unset] [(.int (0 : Int32))])) st177 ?_
              refine o_istore X177 hx (l' := #[.val (.int n_), .val (.int a_), .val (.int b_), .val (.int c_), .val (.int d_), .val (.int e_), .val (.int u0), .val (.int u1), .val (.int cd), .val (.int (2 : Int32)), .val (.ref b101), .val (.int v1), .val (.int k2), .val (.int v2), .val (.int v3), .val (.ref b115), .val (.int (0 : Int32)), .val (.int (1 : Int32)), .val (.int (0 : Int32)), .val (.int (0 : Int32)), .val (.int (0 : Int32)), .unset, .unset]) (hb hby at_232) rfl ?_
              refine o_iload X177 hx (hb hby at_234) rfl ?_
              refine o_ifYes X177 hx 245 (hb hby at_236) (teq (by decide : (0 : Int32) = (0 : Int32))).1 (by decide) (by decide) ?_
              refine o_iload X177 hx (hb hby at_245) rfl ?_
              refine o_iload X177 hx (hb hby at_247) rfl ?_
              refine o_iload X177 hx (hb hby at_249) rfl ?_
              refine o_iload X177 hx (hb hby at_251) rfl ?_
              refine o_iload X177 hx (hb hby at_253) rfl ?_
              obtain ⟨_, _, ⟨T178, L178, kc178, n178⟩, -, X178, ⟨Lc178, hQ178, l178, y178, z178⟩, st178⟩ := Jvm.LawKit.callS X177 hx (y := yM22) hown (mvT hZ w50) (mvT hZ w51) (mvT hZ w52) (mvT hZ w53) (by decide) (backOf (W := 0) (rm_match_0_2_t l Z a0 hw []  u0 u1 v2 T161.heap n0 (c156.keep K161 (allS n0_b115 all0)) hc160) hZ w53 w52 (by decide) (by decide)) (g := (mkF m 255 #[.val (.int n_), .val (.int a_), .val (.int b_), .val (.int c_), .val (.int d_), .val (.int e_), .val (.int u0), .val (.int u1), .val (.int cd), .val (.int (2 : Int32)), .val (.ref b101), .val (.int v1), .val (.int k2), .val (.int v2), .val (.int v3), .val (.ref b115), .val (.int (0 : Int32)), .val (.int (1 : Int32)), .val (.int (0 : Int32)), .val (.int (0 : Int32)), .val (.int (0 : Int32)), .unset, .unset] [(.int v2), (.int u1), (.int u0), (.int (2 : Int32)), (.int (0 : Int32))])) rfl (by rw [hml]; rfl) (argsL := [(.int (0 : Int32)), (.int (2 : Int32)), (.int u0), (.int u1), (.int v2)]) (rest := []) (lenOf own_pd19 rfl) rfl (by show 2 * 0 + _ ≤ _; exact Nat.le_of_eq rfl) (hb hby at_255) (fun _ _ => ⟨rfl, e177, (by decide : 5 + 0 ≤ _), (by decide : 14 + 0 ≤ _)⟩)
              dsimp only [Pt.U, Pt.locs, Pt.cells, Pt.slots] at X178 l178 y178 z178 st178 hQ178
              subst l178 y178 z178
              obtain ⟨rfl, Nq178, e178⟩ := hQ178
              have N178 := Fr.app N177 Nq178
              refine ogo (S' := T178.setTop (mkF m 258 #[.val (.int n_), .val (.int a_), .val (.int b_), .val (.int c_), .val (.int d_), .val (.int e_), .val (.int u0), .val (.int u1), .val (.int cd), .val (.int (2 : Int32)), .val (.ref b101), .val (.int v1), .val (.int k2), .val (.int v2), .val (.int v3), .val (.ref b115), .val (.int (0 : Int32)), .val (.int (1 : Int32)), .val (.int (0 : Int32)), .val (.int (0 : Int32)), .val (.int (0 : Int32)), .unset, .unset] [(.int (1 : Int32))])) st178 ?_
              refine o_istore X178 hx (l' := #[.val (.int n_), .val (.int a_), .val (.int b_), .val (.int c_), .val (.int d_), .val (.int e_), .val (.int u0), .val (.int u1), .val (.int cd), .val (.int (2 : Int32)), .val (.ref b101), .val (.int v1), .val (.int k2), .val (.int v2), .val (.int v3), .val (.ref b115), .val (.int (0 : Int32)), .val (.int (1 : Int32)), .val (.int (0 : Int32)), .val (.int (0 : Int32)), .val (.int (0 : Int32)), .val (.int (1 : Int32)), .unset]) (hb hby at_258) rfl ?_
              refine o_iload X178 hx (hb hby at_260) rfl ?_
              refine o_ifNo X178 hx (hb hby at_262) (feq (by decide : ¬ ((1 : Int32) = (0 : Int32)))).1 ?_
              refine o_iload X178 hx (hb hby at_265) rfl ?_
              refine o_iconst X178 hx (1 : Int32) (hb hby at_267) rfl ?_
              refine o_iadd X178 hx (hb hby at_268) ?_
              refine o_istore X178 hx (l' := #[.val (.int n_), .val (.int a_), .val (.int b_), .val (.int c_), .val (.int d_), .val (.int e_), .val (.int u0), .val (.int u1), .val (.int cd), .val (.int (2 : Int32)), .val (.ref b101), .val (.int v1), .val (.int k2), .val (.int v2), .val (.int v3), .val (.ref b115), .val (.int (0 : Int32)), .val (.int (1 : Int32)), .val (.int (0 : Int32)), .val (.int (1 : Int32)), .val (.int (0 : Int32)), .val (.int (1 : Int32)), .unset]) (hb hby at_269) rfl ?_
              refine o_iload X178 hx (hb hby at_271) rfl ?_
              refine o_iload X178 hx (hb hby at_273) rfl ?_
              refine o_iload X178 hx (hb hby at_275) rfl ?_
              refine o_iload X178 hx (hb hby at_277) rfl ?_
              refine o_iload X178 hx (hb hby at_279) rfl ?_
              obtain ⟨_, _, ⟨T179, L179, kc179, n179⟩, -, X179, ⟨Lc179, hQ179, l179, y179, z179⟩, st179⟩ := Jvm.LawKit.callS X178 hx (y := yM22) hown (mvT hZ w50) (mvT hZ w51) (mvT hZ w52) (mvT hZ w53) (by decide) (backOf (W := 0) (rm_match_1_2_f l Z a0 hw []  u0 u1 v3 T161.heap n0 (c156.keep K161 (allS n0_b115 all0)) hc163) hZ w53 w52 (by decide) (by decide)) (g := (mkF m 281 #[.val (.int n_), .val (.int a_), .val (.int b_), .val (.int c_), .val (.int d_), .val (.int e_), .val (.int u0), .val (.int u1), .val (.int cd), .val (.int (2 : Int32)), .val (.ref b101), .val (.int v1), .val (.int k2), .val (.int v2), .val (.int v3), .val (.ref b115), .val (.int (0 : Int32)), .val (.int (1 : Int32)), .val (.int (0 : Int32)), .val (.int (1 : Int32)), .val (.int (0 : Int32)), .val (.int (1 : Int32)), .unset] [(.int v3), (.int u1), (.int u0), (.int (2 : Int32)), (.int (1 : Int32))])) rfl (by rw [hml]; rfl) (argsL := [(.int (1 : Int32)), (.int (2 : Int32)), (.int u0), (.int u1), (.int v3)]) (rest := []) (lenOf own_pd19 rfl) rfl (by show 2 * 0 + _ ≤ _; exact Nat.le_of_eq rfl) (hb hby at_281) (fun _ _ => ⟨rfl, e178, (by decide : 5 + 0 ≤ _), (by decide : 14 + 0 ≤ _)⟩)
              dsimp only [Pt.U, Pt.locs, Pt.cells, Pt.slots] at X179 l179 y179 z179 st179 hQ179
              subst l179 y179 z179
              obtain ⟨rfl, Nq179, e179⟩ := hQ179
              have N179 := Fr.app N178 Nq179
              refine ogo (S' := T179.setTop (mkF m 284 #[.val (.int n_), .val (.int a_), .val (.int b_), .val (.int c_), .val (.int d_), .val (.int e_), .val (.int u0), .val (.int u1), .val (.int cd), .val (.int (2 : Int32)), .val (.ref b101), .val (.int v1), .val (.int k2), .val (.int v2), .val (.int v3), .val (.ref b115), .val (.int (0 : Int32)), .val (.int (1 : Int32)), .val (.int (0 : Int32)), .val (.int (1 : Int32)), .val (.int (0 : Int32)), .val (.int (1 : Int32)), .unset] [(.int (0 : Int32))])) st179 ?_
              refine o_istore X179 hx (l' := #[.val (.int n_), .val (.int a_), .val (.int b_), .val (.int c_), .val (.int d_), .val (.int e_), .val (.int u0), .val (.int u1), .val (.int cd), .val (.int (2 : Int32)), .val (.ref b101), .val (.int v1), .val (.int k2), .val (.int v2), .val (.int v3), .val (.ref b115), .val (.int (0 : Int32)), .val (.int (1 : Int32)), .val (.int (0 : Int32)), .val (.int (1 : Int32)), .val (.int (0 : Int32)), .val (.int (1 : Int32)), .val (.int (0 : Int32))]) (hb hby at_284) rfl ?_
              refine o_iload X179 hx (hb hby at_286) rfl ?_
              refine o_iload X179 hx (hb hby at_288) rfl ?_
              refine o_icmpNo X179 hx (hb hby at_290) (teq (by decide : (0 : Int32) = (0 : Int32))).2 ?_
              refine o_iload X179 hx (hb hby at_293) rfl ?_
              refine o_iload X179 hx (hb hby at_295) rfl ?_
              refine o_icmpNo X179 hx (hb hby at_297) (teq (by decide : (1 : Int32) = (1 : Int32))).2 ?_
              refine o_iload X179 hx (hb hby at_300) rfl ?_
              refine o_iload X179 hx (hb hby at_302) rfl ?_
              refine o_icmpNo X179 hx (hb hby at_304) (teq (by decide : (0 : Int32) = (0 : Int32))).2 ?_
              refine o_iconst X179 hx (1 : Int32) (hb hby at_307) rfl ?_
              refine o_goto X179 hx 312 (hb hby at_308) (by decide) (by decide) ?_
              refine oendS X179 hlk hS0 (Nat.le_trans (Nat.zero_le _) (Nat.le_trans (Nat.le_trans (Nat.le_trans (Nat.le_trans (Nat.le_trans (Nat.le_trans (Nat.le_trans E101.1 E103.1) (Keep.of_wr W105).1) (Keep.of_wr W107).1) K109.1) E115.1) K117.1) K161.1)) e179 hZ hEL hs0 (CHr.trans (CHr.trans (CHr.trans (CHr.trans (CHr.trans (CHr.trans (CHr.trans (CHr.trans (CHr.refl H0) (CHr.ext E101 H0)) (CHr.ext E103 H102)) (CHr.wr W105 (Safe.exa hZ.alike Ex103 (by decide) (by decide)) H104)) (CHr.wr W107 (Safe.exa hZ.alike (Exa.wr W105 Ex103) (by decide) (by decide)) H106)) (CHr.keep K109 (allS c113 all0) H108)) (CHr.ext E115 H114)) (CHr.keep K117 (allS (Safe.exa hZ.alike A115 (by decide) (by decide)) all0) H116)) (CHr.keep K161 (allS (Safe.exa hZ.alike p117_0 (by decide) (by decide)) all0) H118)) (v := some (.int (1 : Int32))) (fun h => by rw [hret] at h; cases h) (fun fs hr => retN X179 hx (t := .boolean) hret (by simp) (hb hby at_312) hr) (by decide) (by decide) ?_
              show own_Q_law Z _ _ _ _ _ _ _ _ h0 n0 _ T179.heap _
              rw [e179]
              exact ⟨rfl, N179, (((((((((Keep.refl h0 []).ext E101).ext E103).wr W105 (Or.inr (Nat.le_trans E101.1 (Nat.le_of_eq g103.symm)))).wr W107 (Or.inr (Nat.le_trans E101.1 (Nat.le_of_eq g103.symm)))).trans K109 (allS (Or.inr (Nat.le_trans (Nat.le_refl _) (Nat.le_of_eq g101.symm))) all0)).ext E115).trans K117 (allS (Or.inr (Nat.le_trans (Nat.le_trans (Nat.le_trans (Nat.le_trans (Nat.le_trans E101.1 E103.1) (Keep.of_wr W105).1) (Keep.of_wr W107).1) K109.1) (Nat.le_of_eq g115.symm))) all0)).trans K161 (allS (Or.inr (Nat.le_trans (Nat.le_trans (Nat.le_trans (Nat.le_trans (Nat.le_trans E101.1 E103.1) (Keep.of_wr W105).1) (Keep.of_wr W107).1) K109.1) (Nat.le_of_eq g115.symm))) all0))⟩
          · obtain ⟨cq180, kq180, q180a, q180b, q180c⟩ := isOf hZ e155 p117_0
            obtain ⟨_, _, ⟨T180, L180, kc180, n180⟩, -, X180, ⟨Lc180, hQ180, l180, y180, z180⟩, st180⟩ := X155.virtualBack hx (y := yM13) (z := yM13) hown (mvT hZ w32) (mvT hZ w33) (notFace_of_selects (args := #[]) (mvT hZ w35)) (mvT hZ w35) (mvT hZ w34) (by decide) (backOf (W := 0) (rm_skipF_2_0 l Z a0 hw [] z_CS v_FMT b115 b101 ba_109 kb_109 cd_109 z_109 vs_109 u0 u1 v2 T117.heap n0 SB c156 p117_0 p117_1 p117_2 ((Exa.ext E115 p109_2).keep K117) c157 c158 c159 p109_5 hcu0 hc160) hZ w36 w25 (by decide) (by decide)) q180a q180c (g := (mkF m 202 #[.val (.int n_), .val (.int a_), .val (.int b_), .val (.int c_), .val (.int d_), .val (.int e_), .val (.int u0), .val (.int u1), .val (.int cd), .val (.int (2 : Int32)), .val (.ref b101), .val (.int v1), .val (.int k2), .val (.int v2), .val (.int v3), .val (.ref b115), .val (.int (0 : Int32)), .unset, .unset, .unset, .unset, .unset, .unset] [(.int v2), (.ref b115)])) rfl (by rw [hml]; rfl) (Steps.refl _) (argsL := [(.int v2)]) (rest := []) (lenOf own_pd18 rfl) rfl (by show 2 * 0 + _ ≤ _; exact Nat.le_of_eq rfl) (hb hby at_202) (fun _ _ => ⟨rfl, e155, (by decide : 5 + 0 ≤ _), (by decide : 14 + 0 ≤ _)⟩)
            dsimp only [Pt.U, Pt.locs, Pt.cells, Pt.slots] at X180 l180 y180 z180 st180 hQ180
            subst l180 y180 z180
            obtain ⟨rfl, Nq180, e180⟩ := hQ180
            have N180 := Fr.app N155 Nq180
            refine otr (S' := T180.setTop (mkF m 205 #[.val (.int n_), .val (.int a_), .val (.int b_), .val (.int c_), .val (.int d_), .val (.int e_), .val (.int u0), .val (.int u1), .val (.int cd), .val (.int (2 : Int32)), .val (.ref b101), .val (.int v1), .val (.int k2), .val (.int v2), .val (.int v3), .val (.ref b115), .val (.int (0 : Int32)), .unset, .unset, .unset, .unset, .unset, .unset] [(.int (0 : Int32))])) st180 ?_
            refine o_istore X180 hx (l' := #[.val (.int n_), .val (.int a_), .val (.int b_), .val (.int c_), .val (.int d_), .val (.int e_), .val (.int u0), .val (.int u1), .val (.int cd), .val (.int (2 : Int32)), .val (.ref b101), .val (.int v1), .val (.int k2), .val (.int v2), .val (.int v3), .val (.ref b115), .val (.int (0 : Int32)), .val (.int (0 : Int32)), .unset, .unset, .unset, .unset, .unset]) (hb hby at_205) rfl ?_
            refine o_aload X180 hx (hb hby at_207) rfl rfl ?_
            refine o_iload X180 hx (hb hby at_209) rfl ?_
            by_cases hc181 : u0 = v3
            · obtain ⟨cq182, kq182, q182a, q182b, q182c⟩ := isOf hZ e180 p117_0
              obtain ⟨_, _, ⟨T182, L182, kc182, n182⟩, -, X182, ⟨Lc182, hQ182, l182, y182, z182⟩, st182⟩ := X180.virtualBack hx (y := yM13) (z := yM13) hown (mvT hZ w32) (mvT hZ w33) (notFace_of_selects (args := #[]) (mvT hZ w35)) (mvT hZ w35) (mvT hZ w34) (by decide) (backOf (W := 0) (rm_skipT_2_0 l Z a0 hw [] z_CS v_FMT b115 b101 ba_109 kb_109 cd_109 z_109 vs_109 u0 u1 v3 T117.heap n0 SB c156 p117_0 p117_1 p117_2 ((Exa.ext E115 p109_2).keep K117) c157 c158 c159 p109_5 hcu0 hc181 n0_b115) hZ w36 w25 (by decide) (by decide)) q182a q182c (g := (mkF m 211 #[.val (.int n_), .val (.int a_), .val (.int b_), .val (.int c_), .val (.int d_), .val (.int e_), .val (.int u0), .val (.int u1), .val (.int cd), .val (.int (2 : Int32)), .val (.ref b101), .val (.int v1), .val (.int k2), .val (.int v2), .val (.int v3), .val (.ref b115), .val (.int (0 : Int32)), .val (.int (0 : Int32)), .unset, .unset, .unset, .unset, .unset] [(.int v3), (.ref b115)])) rfl (by rw [hml]; rfl) (Steps.refl _) (argsL := [(.int v3)]) (rest := []) (lenOf own_pd18 rfl) rfl (by show 2 * 0 + _ ≤ _; exact Nat.le_of_eq rfl) (hb hby at_211) (fun _ _ => ⟨rfl, e180, (by decide : 5 + 0 ≤ _), (by decide : 14 + 0 ≤ _)⟩)
              dsimp only [Pt.U, Pt.locs, Pt.cells, Pt.slots] at X182 l182 y182 z182 st182 hQ182
              subst l182 y182 z182
              obtain ⟨rfl, Nq182, K182, p182_0, p182_1, p182_2⟩ := hQ182
              have N182 := Fr.app N180 Nq182
              have H183 := CHv.keep K182 (allS (Safe.exa hZ.alike p117_0 (by decide) (by decide)) all0) H118
              refine otr (S' := T182.setTop (mkF m 214 #[.val (.int n_), .val (.int a_), .val (.int b_), .val (.int c_), .val (.int d_), .val (.int e_), .val (.int u0), .val (.int u1), .val (.int cd), .val (.int (2 : Int32)), .val (.ref b101), .val (.int v1), .val (.int k2), .val (.int v2), .val (.int v3), .val (.ref b115), .val (.int (0 : Int32)), .val (.int (0 : Int32)), .unset, .unset, .unset, .unset, .unset] [(.int (1 : Int32))])) st182 ?_
              refine o_istore X182 hx (l' := #[.val (.int n_), .val (.int a_), .val (.int b_), .val (.int c_), .val (.int d_), .val (.int e_), .val (.int u0), .val (.int u1), .val (.int cd), .val (.int (2 : Int32)), .val (.ref b101), .val (.int v1), .val (.int k2), .val (.int v2), .val (.int v3), .val (.ref b115), .val (.int (0 : Int32)), .val (.int (0 : Int32)), .val (.int (1 : Int32)), .unset, .unset, .unset, .unset]) (hb hby at_214) rfl ?_
              refine o_iconst X182 hx (0 : Int32) (hb hby at_216) rfl ?_
              refine o_istore X182 hx (l' := #[.val (.int n_), .val (.int a_), .val (.int b_), .val (.int c_), .val (.int d_), .val (.int e_), .val (.int u0), .val (.int u1), .val (.int cd), .val (.int (2 : Int32)), .val (.ref b101), .val (.int v1), .val (.int k2), .val (.int v2), .val (.int v3), .val (.ref b115), .val (.int (0 : Int32)), .val (.int (0 : Int32)), .val (.int (1 : Int32)), .val (.int (0 : Int32)), .unset, .unset, .unset]) (hb hby at_217) rfl ?_
              refine o_iload X182 hx (hb hby at_219) rfl ?_
              refine o_iload X182 hx (hb hby at_221) rfl ?_
              refine o_iload X182 hx (hb hby at_223) rfl ?_
              refine o_iload X182 hx (hb hby at_225) rfl ?_
              refine o_iload X182 hx (hb hby at_227) rfl ?_
              obtain ⟨_, _, ⟨T184, L184, kc184, n184⟩, -, X184, ⟨Lc184, hQ184, l184, y184, z184⟩, st184⟩ := Jvm.LawKit.callS X182 hx (y := yM22) hown (mvT hZ w50) (mvT hZ w51) (mvT hZ w52) (mvT hZ w53) (by decide) (backOf (W := 0) (rm_match_0_2_f l Z a0 hw []  u0 u1 v1 T182.heap n0 (c156.keep K182 (allS n0_b115 all0)) hc119) hZ w53 w52 (by decide) (by decide)) (g := (mkF m 229 #[.val (.int n_), .val (.int a_), .val (.int b_), .val (.int c_), .val (.int d_), .val (.int e_), .val (.int u0), .val (.int u1), .val (.int cd), .val (.int (2 : Int32)), .val (.ref b101), .val (.int v1), .val (.int k2), .val (.int v2), .val (.int v3), .val (.ref b115), .val (.int (0 : Int32)), .val (.int (0 : Int32)), .val (.int (1 : Int32)), .val (.int (0 : Int32)), .unset, .unset, .unset] [(.int v1), (.int u1), (.int u0), (.int (2 : Int32)), (.int (0 : Int32))])) rfl (by rw [hml]; rfl) (argsL := [(.int (0 : Int32)), (.int (2 : Int32)), (.int u0), (.int u1), (.int v1)]) (rest := []) (lenOf own_pd19 rfl) rfl (by show 2 * 0 + _ ≤ _; exact Nat.le_of_eq rfl) (hb hby at_229) (fun _ _ => ⟨rfl, rfl, (by decide : 5 + 0 ≤ _), (by decide : 14 + 0 ≤ _)⟩)
              dsimp only [Pt.U, Pt.locs, Pt.cells, Pt.slots] at X184 l184 y184 z184 st184 hQ184
              subst l184 y184 z184
              obtain ⟨rfl, Nq184, e184⟩ := hQ184
              have N184 := Fr.app N182 Nq184
              refine ogo (S' := T184.setTop (mkF m 232 #[.val (.int n_), .val (.int a_), .val (.int b_), .val (.int c_), .val (.int d_), .val (.int e_), .val (.int u0), .val (.int u1), .val (.int cd), .val (.int (2 : Int32)), .val (.ref b101), .val (.int v1), .val (.int k2), .val (.int v2), .val (.int v3), .val (.ref b115), .val (.int (0 : Int32)), .val (.int (0 : Int32)), .val (.int (1 : Int32)), .val (.int (0 : Int32)), .unset, .unset, .unset] [(.int (0 : Int32))])) st184 ?_
              refine o_istore X184 hx (l' := #[.val (.int n_), .val (.int a_), .val (.int b_), .val (.int c_), .val (.int d_), .val (.int e_), .val (.int u0), .val (.int u1), .val (.int cd), .val (.int (2 : Int32)), .val (.ref b101), .val (.int v1), .val (.int k2), .val (.int v2), .val (.int v3), .val (.ref b115), .val (.int (0 : Int32)), .val (.int (0 : Int32)), .val (.int (1 : Int32)), .val (.int (0 : Int32)), .val (.int (0 : Int32)), .unset, .unset]) (hb hby at_232) rfl ?_
              refine o_iload X184 hx (hb hby at_234) rfl ?_
              refine o_ifYes X184 hx 245 (hb hby at_236) (teq (by decide : (0 : Int32) = (0 : Int32))).1 (by decide) (by decide) ?_
              refine o_iload X184 hx (hb hby at_245) rfl ?_
              refine o_iload X184 hx (hb hby at_247) rfl ?_
              refine o_iload X184 hx (hb hby at_249) rfl ?_
              refine o_iload X184 hx (hb hby at_251) rfl ?_
              refine o_iload X184 hx (hb hby at_253) rfl ?_
              obtain ⟨_, _, ⟨T185, L185, kc185, n185⟩, -, X185, ⟨Lc185, hQ185, l185, y185, z185⟩, st185⟩ := Jvm.LawKit.callS X184 hx (y := yM22) hown (mvT hZ w50) (mvT hZ w51) (mvT hZ w52) (mvT hZ w53) (by decide) (backOf (W := 0) (rm_match_0_2_f l Z a0 hw []  u0 u1 v2 T182.heap n0 (c156.keep K182 (allS n0_b115 all0)) hc160) hZ w53 w52 (by decide) (by decide)) (g := (mkF m 255 #[.val (.int n_), .val (.int a_), .val (.int b_), .val (.int c_), .val (.int d_), .val (.int e_), .val (.int u0), .val (.int u1), .val (.int cd), .val (.int (2 : Int32)), .val (.ref b101), .val (.int v1), .val (.int k2), .val (.int v2), .val (.int v3), .val (.ref b115), .val (.int (0 : Int32)), .val (.int (0 : Int32)), .val (.int (1 : Int32)), .val (.int (0 : Int32)), .val (.int (0 : Int32)), .unset, .unset] [(.int v2), (.int u1), (.int u0), (.int (2 : Int32)), (.int (0 : Int32))])) rfl (by rw [hml]; rfl) (argsL := [(.int (0 : Int32)), (.int (2 : Int32)), (.int u0), (.int u1), (.int v2)]) (rest := []) (lenOf own_pd19 rfl) rfl (by show 2 * 0 + _ ≤ _; exact Nat.le_of_eq rfl) (hb hby at_255) (fun _ _ => ⟨rfl, e184, (by decide : 5 + 0 ≤ _), (by decide : 14 + 0 ≤ _)⟩)
              dsimp only [Pt.U, Pt.locs, Pt.cells, Pt.slots] at X185 l185 y185 z185 st185 hQ185
              subst l185 y185 z185
              obtain ⟨rfl, Nq185, e185⟩ := hQ185
              have N185 := Fr.app N184 Nq185
              refine ogo (S' := T185.setTop (mkF m 258 #[.val (.int n_), .val (.int a_), .val (.int b_), .val (.int c_), .val (.int d_), .val (.int e_), .val (.int u0), .val (.int u1), .val (.int cd), .val (.int (2 : Int32)), .val (.ref b101), .val (.int v1), .val (.int k2), .val (.int v2), .val (.int v3), .val (.ref b115), .val (.int (0 : Int32)), .val (.int (0 : Int32)), .val (.int (1 : Int32)), .val (.int (0 : Int32)), .val (.int (0 : Int32)), .unset, .unset] [(.int (0 : Int32))])) st185 ?_
              refine o_istore X185 hx (l' := #[.val (.int n_), .val (.int a_), .val (.int b_), .val (.int c_), .val (.int d_), .val (.int e_), .val (.int u0), .val (.int u1), .val (.int cd), .val (.int (2 : Int32)), .val (.ref b101), .val (.int v1), .val (.int k2), .val (.int v2), .val (.int v3), .val (.ref b115), .val (.int (0 : Int32)), .val (.int (0 : Int32)), .val (.int (1 : Int32)), .val (.int (0 : Int32)), .val (.int (0 : Int32)), .val (.int (0 : Int32)), .unset]) (hb hby at_258) rfl ?_
              refine o_iload X185 hx (hb hby at_260) rfl ?_
              refine o_ifYes X185 hx 271 (hb hby at_262) (teq (by decide : (0 : Int32) = (0 : Int32))).1 (by decide) (by decide) ?_
              refine o_iload X185 hx (hb hby at_271) rfl ?_
              refine o_iload X185 hx (hb hby at_273) rfl ?_
              refine o_iload X185 hx (hb hby at_275) rfl ?_
              refine o_iload X185 hx (hb hby at_277) rfl ?_
              refine o_iload X185 hx (hb hby at_279) rfl ?_
              obtain ⟨_, _, ⟨T186, L186, kc186, n186⟩, -, X186, ⟨Lc186, hQ186, l186, y186, z186⟩, st186⟩ := Jvm.LawKit.callS X185 hx (y := yM22) hown (mvT hZ w50) (mvT hZ w51) (mvT hZ w52) (mvT hZ w53) (by decide) (backOf (W := 0) (rm_match_0_2_t l Z a0 hw []  u0 u1 v3 T182.heap n0 (c156.keep K182 (allS n0_b115 all0)) hc181) hZ w53 w52 (by decide) (by decide)) (g := (mkF m 281 #[.val (.int n_), .val (.int a_), .val (.int b_), .val (.int c_), .val (.int d_), .val (.int e_), .val (.int u0), .val (.int u1), .val (.int cd), .val (.int (2 : Int32)), .val (.ref b101), .val (.int v1), .val (.int k2), .val (.int v2), .val (.int v3), .val (.ref b115), .val (.int (0 : Int32)), .val (.int (0 : Int32)), .val (.int (1 : Int32)), .val (.int (0 : Int32)), .val (.int (0 : Int32)), .val (.int (0 : Int32)), .unset] [(.int v3), (.int u1), (.int u0), (.int (2 : Int32)), (.int (0 : Int32))])) rfl (by rw [hml]; rfl) (argsL := [(.int (0 : Int32)), (.int (2 : Int32)), (.int u0), (.int u1), (.int v3)]) (rest := []) (lenOf own_pd19 rfl) rfl (by show 2 * 0 + _ ≤ _; exact Nat.le_of_eq rfl) (hb hby at_281) (fun _ _ => ⟨rfl, e185, (by decide : 5 + 0 ≤ _), (by decide : 14 + 0 ≤ _)⟩)
              dsimp only [Pt.U, Pt.locs, Pt.cells, Pt.slots] at X186 l186 y186 z186 st186 hQ186
              subst l186 y186 z186
              obtain ⟨rfl, Nq186, e186⟩ := hQ186
              have N186 := Fr.app N185 Nq186
              refine ogo (S' := T186.setTop (mkF m 284 #[.val (.int n_), .val (.int a_), .val (.int b_), .val (.int c_), .val (.int d_), .val (.int e_), .val (.int u0), .val (.int u1), .val (.int cd), .val (.int (2 : Int32)), .val (.ref b101), .val (.int v1), .val (.int k2), .val (.int v2), .val (.int v3), .val (.ref b115), .val (.int (0 : Int32)), .val (.int (0 : Int32)), .val (.int (1 : Int32)), .val (.int (0 : Int32)), .val (.int (0 : Int32)), .val (.int (0 : Int32)), .unset] [(.int (1 : Int32))])) st186 ?_
              refine o_istore X186 hx (l' := #[.val (.int n_), .val (.int a_), .val (.int b_), .val (.int c_), .val (.int d_), .val (.int e_), .val (.int u0), .val (.int u1), .val (.int cd), .val (.int (2 : Int32)), .val (.ref b101), .val (.int v1), .val (.int k2), .val (.int v2), .val (.int v3), .val (.ref b115), .val (.int (0 : Int32)), .val (.int (0 : Int32)), .val (.int (1 : Int32)), .val (.int (0 : Int32)), .val (.int (0 : Int32)), .val (.int (0 : Int32)), .val (.int (1 : Int32))]) (hb hby at_284) rfl ?_
              refine o_iload X186 hx (hb hby at_286) rfl ?_
              refine o_iload X186 hx (hb hby at_288) rfl ?_
              refine o_icmpNo X186 hx (hb hby at_290) (teq (by decide : (0 : Int32) = (0 : Int32))).2 ?_
              refine o_iload X186 hx (hb hby at_293) rfl ?_
              refine o_iload X186 hx (hb hby at_295) rfl ?_
              refine o_icmpNo X186 hx (hb hby at_297) (teq (by decide : (0 : Int32) = (0 : Int32))).2 ?_
              refine o_iload X186 hx (hb hby at_300) rfl ?_
              refine o_iload X186 hx (hb hby at_302) rfl ?_
              refine o_icmpNo X186 hx (hb hby at_304) (teq (by decide : (1 : Int32) = (1 : Int32))).2 ?_
              refine o_iconst X186 hx (1 : Int32) (hb hby at_307) rfl ?_
              refine o_goto X186 hx 312 (hb hby at_308) (by decide) (by decide) ?_
              refine oendS X186 hlk hS0 (Nat.le_trans (Nat.zero_le _) (Nat.le_trans (Nat.le_trans (Nat.le_trans (Nat.le_trans (Nat.le_trans (Nat.le_trans (Nat.le_trans E101.1 E103.1) (Keep.of_wr W105).1) (Keep.of_wr W107).1) K109.1) E115.1) K117.1) K182.1)) e186 hZ hEL hs0 (CHr.trans (CHr.trans (CHr.trans (CHr.trans (CHr.trans (CHr.trans (CHr.trans (CHr.trans (CHr.refl H0) (CHr.ext E101 H0)) (CHr.ext E103 H102)) (CHr.wr W105 (Safe.exa hZ.alike Ex103 (by decide) (by decide)) H104)) (CHr.wr W107 (Safe.exa hZ.alike (Exa.wr W105 Ex103) (by decide) (by decide)) H106)) (CHr.keep K109 (allS c113 all0) H108)) (CHr.ext E115 H114)) (CHr.keep K117 (allS (Safe.exa hZ.alike A115 (by decide) (by decide)) all0) H116)) (CHr.keep K182 (allS (Safe.exa hZ.alike p117_0 (by decide) (by decide)) all0) H118)) (v := some (.int (1 : Int32))) (fun h => by rw [hret] at h; cases h) (fun fs hr => retN X186 hx (t := .boolean) hret (by simp) (hb hby at_312) hr) (by decide) (by decide) ?_
              show own_Q_law Z _ _ _ _ _ _ _ _ h0 n0 _ T186.heap _
              rw [e186]
              exact ⟨rfl, N186, (((((((((Keep.refl h0 []).ext E101).ext E103).wr W105 (Or.inr (Nat.le_trans E101.1 (Nat.le_of_eq g103.symm)))).wr W107 (Or.inr (Nat.le_trans E101.1 (Nat.le_of_eq g103.symm)))).trans K109 (allS (Or.inr (Nat.le_trans (Nat.le_refl _) (Nat.le_of_eq g101.symm))) all0)).ext E115).trans K117 (allS (Or.inr (Nat.le_trans (Nat.le_trans (Nat.le_trans (Nat.le_trans (Nat.le_trans E101.1 E103.1) (Keep.of_wr W105).1) (Keep.of_wr W107).1) K109.1) (Nat.le_of_eq g115.symm))) all0)).trans K182 (allS (Or.inr (Nat.le_trans (Nat.le_trans (Nat.le_trans (Nat.le_trans (Nat.le_trans E101.1 E103.1) (Keep.of_wr W105).1) (Keep.of_wr W107).1) K109.1) (Nat.le_of_eq g115.symm))) all0))⟩
            · obtain ⟨cq187, kq187, q187a, q187b, q187c⟩ := isOf hZ e180 p117_0
              obtain ⟨_, _, ⟨T187, L187, kc187, n187⟩, -, X187, ⟨Lc187, hQ187, l187, y187, z187⟩, st187⟩ := X180.virtualBack hx (y := yM13) (z := yM13) hown (mvT hZ w32) (mvT hZ w33) (notFace_of_selects (args := #[]) (mvT hZ w35)) (mvT hZ w35) (mvT hZ w34) (by decide) (backOf (W := 0) (rm_skipF_2_0 l Z a0 hw [] z_CS v_FMT b115 b101 ba_109 kb_109 cd_109 z_109 vs_109 u0 u1 v3 T117.heap n0 SB c156 p117_0 p117_1 p117_2 ((Exa.ext E115 p109_2).keep K117) c157 c158 c159 p109_5 hcu0 hc181) hZ w36 w25 (by decide) (by decide)) q187a q187c (g := (mkF m 211 #[.val (.int n_), .val (.int a_), .val (.int b_), .val (.int c_), .val (.int d_), .val (.int e_), .val (.int u0), .val (.int u1), .val (.int cd), .val (.int (2 : Int32)), .val (.ref b101), .val (.int v1), .val (.int k2), .val (.int v2), .val (.int v3), .val (.ref b115), .val (.int (0 : Int32)), .val (.int (0 : Int32)), .unset, .unset, .unset, .unset, .unset] [(.int v3), (.ref b115)])) rfl (by rw [hml]; rfl) (Steps.refl _) (argsL := [(.int v3)]) (rest := []) (lenOf own_pd18 rfl) rfl (by show 2 * 0 + _ ≤ _; exact Nat.le_of_eq rfl) (hb hby at_211) (fun _ _ => ⟨rfl, e180, (by decide : 5 + 0 ≤ _), (by decide : 14 + 0 ≤ _)⟩)
              dsimp only [Pt.U, Pt.locs, Pt.cells, Pt.slots] at X187 l187 y187 z187 st187 hQ187
              subst l187 y187 z187
              obtain ⟨rfl, Nq187, e187⟩ := hQ187
              have N187 := Fr.app N180 Nq187
              refine otr (S' := T187.setTop (mkF m 214 #[.val (.int n_), .val (.int a_), .val (.int b_), .val (.int c_), .val (.int d_), .val (.int e_), .val (.int u0), .val (.int u1), .val (.int cd), .val (.int (2 : Int32)), .val (.ref b101), .val (.int v1), .val (.int k2), .val (.int v2), .val (.int v3), .val (.ref b115), .val (.int (0 : Int32)), .val (.int (0 : Int32)), .unset, .unset, .unset, .unset, .unset] [(.int (0 : Int32))])) st187 ?_
              refine o_istore X187 hx (l' := #[.val (.int n_), .val (.int a_), .val (.int b_), .val (.int c_), .val (.int d_), .val (.int e_), .val (.int u0), .val (.int u1), .val (.int cd), .val (.int (2 : Int32)), .val (.ref b101), .val (.int v1), .val (.int k2), .val (.int v2), .val (.int v3), .val (.ref b115), .val (.int (0 : Int32)), .val (.int (0 : Int32)), .val (.int (0 : Int32)), .unset, .unset, .unset, .unset]) (hb hby at_214) rfl ?_
              refine o_iconst X187 hx (0 : Int32) (hb hby at_216) rfl ?_
              refine o_istore X187 hx (l' := #[.val (.int n_), .val (.int a_), .val (.int b_), .val (.int c_), .val (.int d_), .val (.int e_), .val (.int u0), .val (.int u1), .val (.int cd), .val (.int (2 : Int32)), .val (.ref b101), .val (.int v1), .val (.int k2), .val (.int v2), .val (.int v3), .val (.ref b115), .val (.int (0 : Int32)), .val (.int (0 : Int32)), .val (.int (0 : Int32)), .val (.int (0 : Int32)), .unset, .unset, .unset]) (hb hby at_217) rfl ?_
              refine o_iload X187 hx (hb hby at_219) rfl ?_
              refine o_iload X187 hx (hb hby at_221) rfl ?_
              refine o_iload X187 hx (hb hby at_223) rfl ?_
              refine o_iload X187 hx (hb hby at_225) rfl ?_
              refine o_iload X187 hx (hb hby at_227) rfl ?_
              obtain ⟨_, _, ⟨T188, L188, kc188, n188⟩, -, X188, ⟨Lc188, hQ188, l188, y188, z188⟩, st188⟩ := Jvm.LawKit.callS X187 hx (y := yM22) hown (mvT hZ w50) (mvT hZ w51) (mvT hZ w52) (mvT hZ w53) (by decide) (backOf (W := 0) (rm_match_0_2_f l Z a0 hw []  u0 u1 v1 T117.heap n0 c156 hc119) hZ w53 w52 (by decide) (by decide)) (g := (mkF m 229 #[.val (.int n_), .val (.int a_), .val (.int b_), .val (.int c_), .val (.int d_), .val (.int e_), .val (.int u0), .val (.int u1), .val (.int cd), .val (.int (2 : Int32)), .val (.ref b101), .val (.int v1), .val (.int k2), .val (.int v2), .val (.int v3), .val (.ref b115), .val (.int (0 : Int32)), .val (.int (0 : Int32)), .val (.int (0 : Int32)), .val (.int (0 : Int32)), .unset, .unset, .unset] [(.int v1), (.int u1), (.int u0), (.int (2 : Int32)), (.int (0 : Int32))])) rfl (by rw [hml]; rfl) (argsL := [(.int (0 : Int32)), (.int (2 : Int32)), (.int u0), (.int u1), (.int v1)]) (rest := []) (lenOf own_pd19 rfl) rfl (by show 2 * 0 + _ ≤ _; exact Nat.le_of_eq rfl) (hb hby at_229) (fun _ _ => ⟨rfl, e187, (by decide : 5 + 0 ≤ _), (by decide : 14 + 0 ≤ _)⟩)
              dsimp only [Pt.U, Pt.locs, Pt.cells, Pt.slots] at X188 l188 y188 z188 st188 hQ188
              subst l188 y188 z188
              obtain ⟨rfl, Nq188, e188⟩ := hQ188
              have N188 := Fr.app N187 Nq188
              refine ogo (S' := T188.setTop (mkF m 232 #[.val (.int n_), .val (.int a_), .val (.int b_), .val (.int c_), .val (.int d_), .val (.int e_), .val (.int u0), .val (.int u1), .val (.int cd), .val (.int (2 : Int32)), .val (.ref b101), .val (.int v1), .val (.int k2), .val (.int v2), .val (.int v3), .val (.ref b115), .val (.int (0 : Int32)), .val (.int (0 : Int32)), .val (.int (0 : Int32)), .val (.int (0 : Int32)), .unset, .unset, .unset] [(.int (0 : Int32))])) st188 ?_
              refine o_istore X188 hx (l' := #[.val (.int n_), .val (.int a_), .val (.int b_), .val (.int c_), .val (.int d_), .val (.int e_), .val (.int u0), .val (.int u1), .val (.int cd), .val (.int (2 : Int32)), .val (.ref b101), .val (.int v1), .val (.int k2), .val (.int v2), .val (.int v3), .val (.ref b115), .val (.int (0 : Int32)), .val (.int (0 : Int32)), .val (.int (0 : Int32)), .val (.int (0 : Int32)), .val (.int (0 : Int32)), .unset, .unset]) (hb hby at_232) rfl ?_
              refine o_iload X188 hx (hb hby at_234) rfl ?_
              refine o_ifYes X188 hx 245 (hb hby at_236) (teq (by decide : (0 : Int32) = (0 : Int32))).1 (by decide) (by decide) ?_
              refine o_iload X188 hx (hb hby at_245) rfl ?_
              refine o_iload X188 hx (hb hby at_247) rfl ?_
              refine o_iload X188 hx (hb hby at_249) rfl ?_
              refine o_iload X188 hx (hb hby at_251) rfl ?_
              refine o_iload X188 hx (hb hby at_253) rfl ?_
              obtain ⟨_, _, ⟨T189, L189, kc189, n189⟩, -, X189, ⟨Lc189, hQ189, l189, y189, z189⟩, st189⟩ := Jvm.LawKit.callS X188 hx (y := yM22) hown (mvT hZ w50) (mvT hZ w51) (mvT hZ w52) (mvT hZ w53) (by decide) (backOf (W := 0) (rm_match_0_2_f l Z a0 hw []  u0 u1 v2 T117.heap n0 c156 hc160) hZ w53 w52 (by decide) (by decide)) (g := (mkF m 255 #[.val (.int n_), .val (.int a_), .val (.int b_), .val (.int c_), .val (.int d_), .val (.int e_), .val (.int u0), .val (.int u1), .val (.int cd), .val (.int (2 : Int32)), .val (.ref b101), .val (.int v1), .val (.int k2), .val (.int v2), .val (.int v3), .val (.ref b115), .val (.int (0 : Int32)), .val (.int (0 : Int32)), .val (.int (0 : Int32)), .val (.int (0 : Int32)), .val (.int (0 : Int32)), .unset, .unset] [(.int v2), (.int u1), (.int u0), (.int (2 : Int32)), (.int (0 : Int32))])) rfl (by rw [hml]; rfl) (argsL := [(.int (0 : Int32)), (.int (2 : Int32)), (.int u0), (.int u1), (.int v2)]) (rest := []) (lenOf own_pd19 rfl) rfl (by show 2 * 0 + _ ≤ _; exact Nat.le_of_eq rfl) (hb hby at_255) (fun _ _ => ⟨rfl, e188, (by decide : 5 + 0 ≤ _), (by decide : 14 + 0 ≤ _)⟩)
              dsimp only [Pt.U, Pt.locs, Pt.cells, Pt.slots] at X189 l189 y189 z189 st189 hQ189
              subst l189 y189 z189
              obtain ⟨rfl, Nq189, e189⟩ := hQ189
              have N189 := Fr.app N188 Nq189
              refine ogo (S' := T189.setTop (mkF m 258 #[.val (.int n_), .val (.int a_), .val (.int b_), .val (.int c_), .val (.int d_), .val (.int e_), .val (.int u0), .val (.int u1), .val (.int cd), .val (.int (2 : Int32)), .val (.ref b101), .val (.int v1), .val (.int k2), .val (.int v2), .val (.int v3), .val (.ref b115), .val (.int (0 : Int32)), .val (.int (0 : Int32)), .val (.int (0 : Int32)), .val (.int (0 : Int32)), .val (.int (0 : Int32)), .unset, .unset] [(.int (0 : Int32))])) st189 ?_
              refine o_istore X189 hx (l' := #[.val (.int n_), .val (.int a_), .val (.int b_), .val (.int c_), .val (.int d_), .val (.int e_), .val (.int u0), .val (.int u1), .val (.int cd), .val (.int (2 : Int32)), .val (.ref b101), .val (.int v1), .val (.int k2), .val (.int v2), .val (.int v3), .val (.ref b115), .val (.int (0 : Int32)), .val (.int (0 : Int32)), .val (.int (0 : Int32)), .val (.int (0 : Int32)), .val (.int (0 : Int32)), .val (.int (0 : Int32)), .unset]) (hb hby at_258) rfl ?_
              refine o_iload X189 hx (hb hby at_260) rfl ?_
              refine o_ifYes X189 hx 271 (hb hby at_262) (teq (by decide : (0 : Int32) = (0 : Int32))).1 (by decide) (by decide) ?_
              refine o_iload X189 hx (hb hby at_271) rfl ?_
              refine o_iload X189 hx (hb hby at_273) rfl ?_
              refine o_iload X189 hx (hb hby at_275) rfl ?_
              refine o_iload X189 hx (hb hby at_277) rfl ?_
              refine o_iload X189 hx (hb hby at_279) rfl ?_
              obtain ⟨_, _, ⟨T190, L190, kc190, n190⟩, -, X190, ⟨Lc190, hQ190, l190, y190, z190⟩, st190⟩ := Jvm.LawKit.callS X189 hx (y := yM22) hown (mvT hZ w50) (mvT hZ w51) (mvT hZ w52) (mvT hZ w53) (by decide) (backOf (W := 0) (rm_match_0_2_f l Z a0 hw []  u0 u1 v3 T117.heap n0 c156 hc181) hZ w53 w52 (by decide) (by decide)) (g := (mkF m 281 #[.val (.int n_), .val (.int a_), .val (.int b_), .val (.int c_), .val (.int d_), .val (.int e_), .val (.int u0), .val (.int u1), .val (.int cd), .val (.int (2 : Int32)), .val (.ref b101), .val (.int v1), .val (.int k2), .val (.int v2), .val (.int v3), .val (.ref b115), .val (.int (0 : Int32)), .val (.int (0 : Int32)), .val (.int (0 : Int32)), .val (.int (0 : Int32)), .val (.int (0 : Int32)), .val (.int (0 : Int32)), .unset] [(.int v3), (.int u1), (.int u0), (.int (2 : Int32)), (.int (0 : Int32))])) rfl (by rw [hml]; rfl) (argsL := [(.int (0 : Int32)), (.int (2 : Int32)), (.int u0), (.int u1), (.int v3)]) (rest := []) (lenOf own_pd19 rfl) rfl (by show 2 * 0 + _ ≤ _; exact Nat.le_of_eq rfl) (hb hby at_281) (fun _ _ => ⟨rfl, e189, (by decide : 5 + 0 ≤ _), (by decide : 14 + 0 ≤ _)⟩)
              dsimp only [Pt.U, Pt.locs, Pt.cells, Pt.slots] at X190 l190 y190 z190 st190 hQ190
              subst l190 y190 z190
              obtain ⟨rfl, Nq190, e190⟩ := hQ190
              have N190 := Fr.app N189 Nq190
              refine ogo (S' := T190.setTop (mkF m 284 #[.val (.int n_), .val (.int a_), .val (.int b_), .val (.int c_), .val (.int d_), .val (.int e_), .val (.int u0), .val (.int u1), .val (.int cd), .val (.int (2 : Int32)), .val (.ref b101), .val (.int v1), .val (.int k2), .val (.int v2), .val (.int v3), .val (.ref b115), .val (.int (0 : Int32)), .val (.int (0 : Int32)), .val (.int (0 : Int32)), .val (.int (0 : Int32)), .val (.int (0 : Int32)), .val (.int (0 : Int32)), .unset] [(.int (0 : Int32))])) st190 ?_
              refine o_istore X190 hx (l' := #[.val (.int n_), .val (.int a_), .val (.int b_), .val (.int c_), .val (.int d_), .val (.int e_), .val (.int u0), .val (.int u1), .val (.int cd), .val (.int (2 : Int32)), .val (.ref b101), .val (.int v1), .val (.int k2), .val (.int v2), .val (.int v3), .val (.ref b115), .val (.int (0 : Int32)), .val (.int (0 : Int32)), .val (.int (0 : Int32)), .val (.int (0 : Int32)), .val (.int (0 : Int32)), .val (.int (0 : Int32)), .val (.int (0 : Int32))]) (hb hby at_284) rfl ?_
              refine o_iload X190 hx (hb hby at_286) rfl ?_
              refine o_iload X190 hx (hb hby at_288) rfl ?_
              refine o_icmpNo X190 hx (hb hby at_290) (teq (by decide : (0 : Int32) = (0 : Int32))).2 ?_
              refine o_iload X190 hx (hb hby at_293) rfl ?_
              refine o_iload X190 hx (hb hby at_295) rfl ?_
              refine o_icmpNo X190 hx (hb hby at_297) (teq (by decide : (0 : Int32) = (0 : Int32))).2 ?_
              refine o_iload X190 hx (hb hby at_300) rfl ?_
              refine o_iload X190 hx (hb hby at_302) rfl ?_
              refine o_icmpNo X190 hx (hb hby at_304) (teq (by decide : (0 : Int32) = (0 : Int32))).2 ?_
              refine o_iconst X190 hx (1 : Int32) (hb hby at_307) rfl ?_
              refine o_goto X190 hx 312 (hb hby at_308) (by decide) (by decide) ?_
              refine oendS X190 hlk hS0 (Nat.le_trans (Nat.zero_le _) (Nat.le_trans (Nat.le_trans (Nat.le_trans (Nat.le_trans (Nat.le_trans (Nat.le_trans E101.1 E103.1) (Keep.of_wr W105).1) (Keep.of_wr W107).1) K109.1) E115.1) K117.1)) e190 hZ hEL hs0 (CHr.trans (CHr.trans (CHr.trans (CHr.trans (CHr.trans (CHr.trans (CHr.trans (CHr.refl H0) (CHr.ext E101 H0)) (CHr.ext E103 H102)) (CHr.wr W105 (Safe.exa hZ.alike Ex103 (by decide) (by decide)) H104)) (CHr.wr W107 (Safe.exa hZ.alike (Exa.wr W105 Ex103) (by decide) (by decide)) H106)) (CHr.keep K109 (allS c113 all0) H108)) (CHr.ext E115 H114)) (CHr.keep K117 (allS (Safe.exa hZ.alike A115 (by decide) (by decide)) all0) H116)) (v := some (.int (1 : Int32))) (fun h => by rw [hret] at h; cases h) (fun fs hr => retN X190 hx (t := .boolean) hret (by simp) (hb hby at_312) hr) (by decide) (by decide) ?_
              show own_Q_law Z _ _ _ _ _ _ _ _ h0 n0 _ T190.heap _
              rw [e190]
              exact ⟨rfl, N190, ((((((((Keep.refl h0 []).ext E101).ext E103).wr W105 (Or.inr (Nat.le_trans E101.1 (Nat.le_of_eq g103.symm)))).wr W107 (Or.inr (Nat.le_trans E101.1 (Nat.le_of_eq g103.symm)))).trans K109 (allS (Or.inr (Nat.le_trans (Nat.le_refl _) (Nat.le_of_eq g101.symm))) all0)).ext E115).trans K117 (allS (Or.inr (Nat.le_trans (Nat.le_trans (Nat.le_trans (Nat.le_trans (Nat.le_trans E101.1 E103.1) (Keep.of_wr W105).1) (Keep.of_wr W107).1) K109.1) (Nat.le_of_eq g115.symm))) all0))⟩
      refine o_iloadN X109 hx (hb hby at_101) rfl ?_
      refine o_iconst X109 hx (2 : Int32) (hb hby at_102) rfl ?_
      refine o_iushr X109 hx (hb hby at_103) ?_
      refine o_iconst X109 hx (1 : Int32) (hb hby at_104) rfl ?_
      refine o_iand X109 hx (hb hby at_105) ?_
      by_cases hc191 : ((own_ushr n_ (2 : Int32)) &&& (1 : Int32)) = (0 : Int32)
      · refine o_ifYes X109 hx 114 (hb hby at_106) (teq hc191).1 (by decide) (by decide) ?_
        refine o_iloadN X109 hx (hb hby at_114) rfl ?_
        refine ogo (S' := T109.setTop (mkF m 117 #[.val (.int n_), .val (.int a_), .val (.int b_), .val (.int c_), .val (.int d_), .val (.int e_), .val (.int u0), .val (.int u1), .val (.int cd), .val (.int (2 : Int32)), .val (.ref b101), .unset, .unset, .unset, .unset, .unset, .unset, .unset, .unset, .unset, .unset, .unset, .unset] [(.int (65535 : Int32)), (.int c_)])) (X109.ldcInt hx hown (mvT hZ w0) (g := (mkF m 115 #[.val (.int n_), .val (.int a_), .val (.int b_), .val (.int c_), .val (.int d_), .val (.int e_), .val (.int u0), .val (.int u1), .val (.int cd), .val (.int (2 : Int32)), .val (.ref b101), .unset, .unset, .unset, .unset, .unset, .unset, .unset, .unset, .unset, .unset, .unset, .unset] [(.int c_)])) rfl (hb hby at_115)) ?_
        refine o_iand X109 hx (hb hby at_117) ?_
        refine o_i2c X109 hx (hb hby at_118) ?_
        refine o_istore X109 hx (l' := #[.val (.int n_), .val (.int a_), .val (.int b_), .val (.int c_), .val (.int d_), .val (.int e_), .val (.int u0), .val (.int u1), .val (.int cd), .val (.int (2 : Int32)), .val (.ref b101), .val (.int (nar .char (c_ &&& (65535 : Int32)))), .unset, .unset, .unset, .unset, .unset, .unset, .unset, .unset, .unset, .unset, .unset]) (hb hby at_119) rfl ?_
        refine o_iloadN X109 hx (hb hby at_121) rfl ?_
        refine o_iconst X109 hx (3 : Int32) (hb hby at_122) rfl ?_
        refine o_iushr X109 hx (hb hby at_123) ?_
        refine o_iconst X109 hx (3 : Int32) (hb hby at_124) rfl ?_
        refine o_iand X109 hx (hb hby at_125) ?_
        refine o_istore X109 hx (l' := #[.val (.int n_), .val (.int a_), .val (.int b_), .val (.int c_), .val (.int d_), .val (.int e_), .val (.int u0), .val (.int u1), .val (.int cd), .val (.int (2 : Int32)), .val (.ref b101), .val (.int (nar .char (c_ &&& (65535 : Int32)))), .val (.int ((own_ushr n_ (3 : Int32)) &&& (3 : Int32))), .unset, .unset, .unset, .unset, .unset, .unset, .unset, .unset, .unset, .unset]) (hb hby at_126) rfl ?_
        refine o_iload X109 hx (hb hby at_128) rfl ?_
        by_cases hc192 : ((own_ushr n_ (3 : Int32)) &&& (3 : Int32)) = (0 : Int32)
        · refine o_ifNo X109 hx (hb hby at_130) (teq hc192).2 ?_
          refine o_iload X109 hx (hb hby at_133) rfl ?_
          refine ogo (S' := T109.setTop (mkF m 137 #[.val (.int n_), .val (.int a_), .val (.int b_), .val (.int c_), .val (.int d_), .val (.int e_), .val (.int u0), .val (.int u1), .val (.int cd), .val (.int (2 : Int32)), .val (.ref b101), .val (.int (nar .char (c_ &&& (65535 : Int32)))), .val (.int ((own_ushr n_ (3 : Int32)) &&& (3 : Int32))), .unset, .unset, .unset, .unset, .unset, .unset, .unset, .unset, .unset, .unset] [(.int (65535 : Int32)), (.int d_)])) (X109.ldcInt hx hown (mvT hZ w0) (g := (mkF m 135 #[.val (.int n_), .val (.int a_), .val (.int b_), .val (.int c_), .val (.int d_), .val (.int e_), .val (.int u0), .val (.int u1), .val (.int cd), .val (.int (2 : Int32)), .val (.ref b101), .val (.int (nar .char (c_ &&& (65535 : Int32)))), .val (.int ((own_ushr n_ (3 : Int32)) &&& (3 : Int32))), .unset, .unset, .unset, .unset, .unset, .unset, .unset, .unset, .unset, .unset] [(.int d_)])) rfl (hb hby at_135)) ?_
          refine o_iand X109 hx (hb hby at_137) ?_
          refine o_i2c X109 hx (hb hby at_138) ?_
          refine o_goto X109 hx 155 (hb hby at_139) (by decide) (by decide) ?_
          refine o_istore X109 hx (l' := #[.val (.int n_), .val (.int a_), .val (.int b_), .val (.int c_), .val (.int d_), .val (.int e_), .val (.int u0), .val (.int u1), .val (.int cd), .val (.int (2 : Int32)), .val (.ref b101), .val (.int (nar .char (c_ &&& (65535 : Int32)))), .val (.int ((own_ushr n_ (3 : Int32)) &&& (3 : Int32))), .val (.int (nar .char (d_ &&& (65535 : Int32)))), .unset, .unset, .unset, .unset, .unset, .unset, .unset, .unset, .unset]) (hb hby at_155) rfl ?_
          refine o_iloadN X109 hx (hb hby at_157) rfl ?_
          refine o_iconst X109 hx (5 : Int32) (hb hby at_158) rfl ?_
          refine o_iushr X109 hx (hb hby at_159) ?_
          refine o_iconst X109 hx (1 : Int32) (hb hby at_160) rfl ?_
          refine o_iand X109 hx (hb hby at_161) ?_
          by_cases hc193 : ((own_ushr n_ (5 : Int32)) &&& (1 : Int32)) = (0 : Int32)
          · refine o_ifYes X109 hx 170 (hb hby at_162) (teq hc193).1 (by decide) (by decide) ?_
            refine o_iload X109 hx (hb hby at_170) rfl ?_
            refine ogo (S' := T109.setTop (mkF m 174 #[.val (.int n_), .val (.int a_), .val (.int b_), .val (.int c_), .val (.int d_), .val (.int e_), .val (.int u0), .val (.int u1), .val (.int cd), .val (.int (2 : Int32)), .val (.ref b101), .val (.int (nar .char (c_ &&& (65535 : Int32)))), .val (.int ((own_ushr n_ (3 : Int32)) &&& (3 : Int32))), .val (.int (nar .char (d_ &&& (65535 : Int32)))), .unset, .unset, .unset, .unset, .unset, .unset, .unset, .unset, .unset] [(.int (65535 : Int32)), (.int e_)])) (X109.ldcInt hx hown (mvT hZ w0) (g := (mkF m 172 #[.val (.int n_), .val (.int a_), .val (.int b_), .val (.int c_), .val (.int d_), .val (.int e_), .val (.int u0), .val (.int u1), .val (.int cd), .val (.int (2 : Int32)), .val (.ref b101), .val (.int (nar .char (c_ &&& (65535 : Int32)))), .val (.int ((own_ushr n_ (3 : Int32)) &&& (3 : Int32))), .val (.int (nar .char (d_ &&& (65535 : Int32)))), .unset, .unset, .unset, .unset, .unset, .unset, .unset, .unset, .unset] [(.int e_)])) rfl (hb hby at_172)) ?_
            refine o_iand X109 hx (hb hby at_174) ?_
            refine o_i2c X109 hx (hb hby at_175) ?_
            refine o_istore X109 hx (l' := #[.val (.int n_), .val (.int a_), .val (.int b_), .val (.int c_), .val (.int d_), .val (.int e_), .val (.int u0), .val (.int u1), .val (.int cd), .val (.int (2 : Int32)), .val (.ref b101), .val (.int (nar .char (c_ &&& (65535 : Int32)))), .val (.int ((own_ushr n_ (3 : Int32)) &&& (3 : Int32))), .val (.int (nar .char (d_ &&& (65535 : Int32)))), .val (.int (nar .char (e_ &&& (65535 : Int32)))), .unset, .unset, .unset, .unset, .unset, .unset, .unset, .unset]) (hb hby at_176) rfl ?_
            exact t2 (nar .char (c_ &&& (65535 : Int32))) (nar .char (d_ &&& (65535 : Int32))) (nar .char (e_ &&& (65535 : Int32))) ((own_ushr n_ (3 : Int32)) &&& (3 : Int32))
          · refine o_ifNo X109 hx (hb hby at_162) (feq hc193).1 ?_
            refine o_iload X109 hx (hb hby at_165) rfl ?_
            refine o_goto X109 hx 176 (hb hby at_167) (by decide) (by decide) ?_
            refine o_istore X109 hx (l' := #[.val (.int n_), .val (.int a_), .val (.int b_), .val (.int c_), .val (.int d_), .val (.int e_), .val (.int u0), .val (.int u1), .val (.int cd), .val (.int (2 : Int32)), .val (.ref b101), .val (.int (nar .char (c_ &&& (65535 : Int32)))), .val (.int ((own_ushr n_ (3 : Int32)) &&& (3 : Int32))), .val (.int (nar .char (d_ &&& (65535 : Int32)))), .val (.int u1), .unset, .unset, .unset, .unset, .unset, .unset, .unset, .unset]) (hb hby at_176) rfl ?_
            exact t2 (nar .char (c_ &&& (65535 : Int32))) (nar .char (d_ &&& (65535 : Int32))) u1 ((own_ushr n_ (3 : Int32)) &&& (3 : Int32))
        · refine o_ifYes X109 hx 142 (hb hby at_130) (feq hc192).2 (by decide) (by decide) ?_
          refine o_iload X109 hx (hb hby at_142) rfl ?_
          refine o_iconst X109 hx (1 : Int32) (hb hby at_144) rfl ?_
          by_cases hc194 : ((own_ushr n_ (3 : Int32)) &&& (3 : Int32)) = (1 : Int32)
          · refine o_icmpNo X109 hx (hb hby at_145) (teq hc194).2 ?_
            refine o_iload X109 hx (hb hby at_148) rfl ?_
            refine o_goto X109 hx 155 (hb hby at_150) (by decide) (by decide) ?_
            refine o_istore X109 hx (l' := #[.val (.int n_), .val (.int a_), .val (.int b_), .val (.int c_), .val (.int d_), .val (.int e_), .val (.int u0), .val (.int u1), .val (.int cd), .val (.int (2 : Int32)), .val (.ref b101), .val (.int (nar .char (c_ &&& (65535 : Int32)))), .val (.int ((own_ushr n_ (3 : Int32)) &&& (3 : Int32))), .val (.int u0), .unset, .unset, .unset, .unset, .unset, .unset, .unset, .unset, .unset]) (hb hby at_155) rfl ?_
            refine o_iloadN X109 hx (hb hby at_157) rfl ?_
            refine o_iconst X109 hx (5 : Int32) (hb hby at_158) rfl ?_
            refine o_iushr X109 hx (hb hby at_159) ?_
            refine o_iconst X109 hx (1 : Int32) (hb hby at_160) rfl ?_
            refine o_iand X109 hx (hb hby at_161) ?_
            by_cases hc195 : ((own_ushr n_ (5 : Int32)) &&& (1 : Int32)) = (0 : Int32)
            · refine o_ifYes X109 hx 170 (hb hby at_162) (teq hc195).1 (by decide) (by decide) ?_
              refine o_iload X109 hx (hb hby at_170) rfl ?_
              refine ogo (S' := T109.setTop (mkF m 174 #[.val (.int n_), .val (.int a_), .val (.int b_), .val (.int c_), .val (.int d_), .val (.int e_), .val (.int u0), .val (.int u1), .val (.int cd), .val (.int (2 : Int32)), .val (.ref b101), .val (.int (nar .char (c_ &&& (65535 : Int32)))), .val (.int ((own_ushr n_ (3 : Int32)) &&& (3 : Int32))), .val (.int u0), .unset, .unset, .unset, .unset, .unset, .unset, .unset, .unset, .unset] [(.int (65535 : Int32)), (.int e_)])) (X109.ldcInt hx hown (mvT hZ w0) (g := (mkF m 172 #[.val (.int n_), .val (.int a_), .val (.int b_), .val (.int c_), .val (.int d_), .val (.int e_), .val (.int u0), .val (.int u1), .val (.int cd), .val (.int (2 : Int32)), .val (.ref b101), .val (.int (nar .char (c_ &&& (65535 : Int32)))), .val (.int ((own_ushr n_ (3 : Int32)) &&& (3 : Int32))), .val (.int u0), .unset, .unset, .unset, .unset, .unset, .unset, .unset, .unset, .unset] [(.int e_)])) rfl (hb hby at_172)) ?_
              refine o_iand X109 hx (hb hby at_174) ?_
              refine o_i2c X109 hx (hb hby at_175) ?_
              refine o_istore X109 hx (l' := #[.val (.int n_), .val (.int a_), .val (.int b_), .val (.int c_), .val (.int d_), .val (.int e_), .val (.int u0), .val (.int u1), .val (.int cd), .val (.int (2 : Int32)), .val (.ref b101), .val (.int (nar .char (c_ &&& (65535 : Int32)))), .val (.int ((own_ushr n_ (3 : Int32)) &&& (3 : Int32))), .val (.int u0), .val (.int (nar .char (e_ &&& (65535 : Int32)))), .unset, .unset, .unset, .unset, .unset, .unset, .unset, .unset]) (hb hby at_176) rfl ?_
              exact t2 (nar .char (c_ &&& (65535 : Int32))) u0 (nar .char (e_ &&& (65535 : Int32))) ((own_ushr n_ (3 : Int32)) &&& (3 : Int32))
            · refine o_ifNo X109 hx (hb hby at_162) (feq hc195).1 ?_
              refine o_iload X109 hx (hb hby at_165) rfl ?_
              refine o_goto X109 hx 176 (hb hby at_167) (by decide) (by decide) ?_
              refine o_istore X109 hx (l' := #[.val (.int n_), .val (.int a_), .val (.int b_), .val (.int c_), .val (.int d_), .val (.int e_), .val (.int u0), .val (.int u1), .val (.int cd), .val (.int (2 : Int32)), .val (.ref b101), .val (.int (nar .char (c_ &&& (65535 : Int32)))), .val (.int ((own_ushr n_ (3 : Int32)) &&& (3 : Int32))), .val (.int u0), .val (.int u1), .unset, .unset, .unset, .unset, .unset, .unset, .unset, .unset]) (hb hby at_176) rfl ?_
              exact t2 (nar .char (c_ &&& (65535 : Int32))) u0 u1 ((own_ushr n_ (3 : Int32)) &&& (3 : Int32))
          · refine o_icmpYes X109 hx 153 (hb hby at_145) (feq hc194).2 (by decide) (by decide) ?_
            refine o_iload X109 hx (hb hby at_153) rfl ?_
            refine o_istore X109 hx (l' := #[.val (.int n_), .val (.int a_), .val (.int b_), .val (.int c_), .val (.int d_), .val (.int e_), .val (.int u0), .val (.int u1), .val (.int cd), .val (.int (2 : Int32)), .val (.ref b101), .val (.int (nar .char (c_ &&& (65535 : Int32)))), .val (.int ((own_ushr n_ (3 : Int32)) &&& (3 : Int32))), .val (.int u1), .unset, .unset, .unset, .unset, .unset, .unset, .unset, .unset, .unset]) (hb hby at_155) rfl ?_
            refine o_iloadN X109 hx (hb hby at_157) rfl ?_
            refine o_iconst X109 hx (5 : Int32) (hb hby at_158) rfl ?_
            refine o_iushr X109 hx (hb hby at_159) ?_
            refine o_iconst X109 hx (1 : Int32) (hb hby at_160) rfl ?_
            refine o_iand X109 hx (hb hby at_161) ?_
            by_cases hc196 : ((own_ushr n_ (5 : Int32)) &&& (1 : Int32)) = (0 : Int32)
            · refine o_ifYes X109 hx 170 (hb hby at_162) (teq hc196).1 (by decide) (by decide) ?_
              refine o_iload X109 hx (hb hby at_170) rfl ?_
              refine ogo (S' := T109.setTop (mkF m 174 #[.val (.int n_), .val (.int a_), .val (.int b_), .val (.int c_), .val (.int d_), .val (.int e_), .val (.int u0), .val (.int u1), .val (.int cd), .val (.int (2 : Int32)), .val (.ref b101), .val (.int (nar .char (c_ &&& (65535 : Int32)))), .val (.int ((own_ushr n_ (3 : Int32)) &&& (3 : Int32))), .val (.int u1), .unset, .unset, .unset, .unset, .unset, .unset, .unset, .unset, .unset] [(.int (65535 : Int32)), (.int e_)])) (X109.ldcInt hx hown (mvT hZ w0) (g := (mkF m 172 #[.val (.int n_), .val (.int a_), .val (.int b_), .val (.int c_), .val (.int d_), .val (.int e_), .val (.int u0), .val (.int u1), .val (.int cd), .val (.int (2 : Int32)), .val (.ref b101), .val (.int (nar .char (c_ &&& (65535 : Int32)))), .val (.int ((own_ushr n_ (3 : Int32)) &&& (3 : Int32))), .val (.int u1), .unset, .unset, .unset, .unset, .unset, .unset, .unset, .unset, .unset] [(.int e_)])) rfl (hb hby at_172)) ?_
              refine o_iand X109 hx (hb hby at_174) ?_
              refine o_i2c X109 hx (hb hby at_175) ?_
              refine o_istore X109 hx (l' := #[.val (.int n_), .val (.int a_), .val (.int b_), .val (.int c_), .val (.int d_), .val (.int e_), .val (.int u0), .val (.int u1), .val (.int cd), .val (.int (2 : Int32)), .val (.ref b101), .val (.int (nar .char (c_ &&& (65535 : Int32)))), .val (.int ((own_ushr n_ (3 : Int32)) &&& (3 : Int32))), .val (.int u1), .val (.int (nar .char (e_ &&& (65535 : Int32)))), .unset, .unset, .unset, .unset, .unset, .unset, .unset, .unset]) (hb hby at_176) rfl ?_
              exact t2 (nar .char (c_ &&& (65535 : Int32))) u1 (nar .char (e_ &&& (65535 : Int32))) ((own_ushr n_ (3 : Int32)) &&& (3 : Int32))
            · refine o_ifNo X109 hx (hb hby at_162) (feq hc196).1 ?_
              refine o_iload X109 hx (hb hby at_165) rfl ?_
              refine o_goto X109 hx 176 (hb hby at_167) (by decide) (by decide) ?_
              refine o_istore X109 hx (l' := #[.val (.int n_), .val (.int a_), .val (.int b_), .val (.int c_), .val (.int d_), .val (.int e_), .val (.int u0), .val (.int u1), .val (.int cd), .val (.int (2 : Int32)), .val (.ref b101), .val (.int (nar .char (c_ &&& (65535 : Int32)))), .val (.int ((own_ushr n_ (3 : Int32)) &&& (3 : Int32))), .val (.int u1), .val (.int u1), .unset, .unset, .unset, .unset, .unset, .unset, .unset, .unset]) (hb hby at_176) rfl ?_
              exact t2 (nar .char (c_ &&& (65535 : Int32))) u1 u1 ((own_ushr n_ (3 : Int32)) &&& (3 : Int32))
      · refine o_ifNo X109 hx (hb hby at_106) (feq hc191).1 ?_
        refine o_iload X109 hx (hb hby at_109) rfl ?_
        refine o_goto X109 hx 119 (hb hby at_111) (by decide) (by decide) ?_
        refine o_istore X109 hx (l' := #[.val (.int n_), .val (.int a_), .val (.int b_), .val (.int c_), .val (.int d_), .val (.int e_), .val (.int u0), .val (.int u1), .val (.int cd), .val (.int (2 : Int32)), .val (.ref b101), .val (.int u0), .unset, .unset, .unset, .unset, .unset, .unset, .unset, .unset, .unset, .unset, .unset]) (hb hby at_119) rfl ?_
        refine o_iloadN X109 hx (hb hby at_121) rfl ?_
        refine o_iconst X109 hx (3 : Int32) (hb hby at_122) rfl ?_
        refine o_iushr X109 hx (hb hby at_123) ?_
        refine o_iconst X109 hx (3 : Int32) (hb hby at_124) rfl ?_
        refine o_iand X109 hx (hb hby at_125) ?_
        refine o_istore X109 hx (l' := #[.val (.int n_), .val (.int a_), .val (.int b_), .val (.int c_), .val (.int d_), .val (.int e_), .val (.int u0), .val (.int u1), .val (.int cd), .val (.int (2 : Int32)), .val (.ref b101), .val (.int u0), .val (.int ((own_ushr n_ (3 : Int32)) &&& (3 : Int32))), .unset, .unset, .unset, .unset, .unset, .unset, .unset, .unset, .unset, .unset]) (hb hby at_126) rfl ?_
        refine o_iload X109 hx (hb hby at_128) rfl ?_
        by_cases hc197 : ((own_ushr n_ (3 : Int32)) &&& (3 : Int32)) = (0 : Int32)
        · refine o_ifNo X109 hx (hb hby at_130) (teq hc197).2 ?_
          refine o_iload X109 hx (hb hby at_133) rfl ?_
          refine ogo (S' := T109.setTop (mkF m 137 #[.val (.int n_), .val (.int a_), .val (.int b_), .val (.int c_), .val (.int d_), .val (.int e_), .val (.int u0), .val (.int u1), .val (.int cd), .val (.int (2 : Int32)), .val (.ref b101), .val (.int u0), .val (.int ((own_ushr n_ (3 : Int32)) &&& (3 : Int32))), .unset, .unset, .unset, .unset, .unset, .unset, .unset, .unset, .unset, .unset] [(.int (65535 : Int32)), (.int d_)])) (X109.ldcInt hx hown (mvT hZ w0) (g := (mkF m 135 #[.val (.int n_), .val (.int a_), .val (.int b_), .val (.int c_), .val (.int d_), .val (.int e_), .val (.int u0), .val (.int u1), .val (.int cd), .val (.int (2 : Int32)), .val (.ref b101), .val (.int u0), .val (.int ((own_ushr n_ (3 : Int32)) &&& (3 : Int32))), .unset, .unset, .unset, .unset, .unset, .unset, .unset, .unset, .unset, .unset] [(.int d_)])) rfl (hb hby at_135)) ?_
          refine o_iand X109 hx (hb hby at_137) ?_
          refine o_i2c X109 hx (hb hby at_138) ?_
          refine o_goto X109 hx 155 (hb hby at_139) (by decide) (by decide) ?_
          refine o_istore X109 hx (l' := #[.val (.int n_), .val (.int a_), .val (.int b_), .val (.int c_), .val (.int d_), .val (.int e_), .val (.int u0), .val (.int u1), .val (.int cd), .val (.int (2 : Int32)), .val (.ref b101), .val (.int u0), .val (.int ((own_ushr n_ (3 : Int32)) &&& (3 : Int32))), .val (.int (nar .char (d_ &&& (65535 : Int32)))), .unset, .unset, .unset, .unset, .unset, .unset, .unset, .unset, .unset]) (hb hby at_155) rfl ?_
          refine o_iloadN X109 hx (hb hby at_157) rfl ?_
          refine o_iconst X109 hx (5 : Int32) (hb hby at_158) rfl ?_
          refine o_iushr X109 hx (hb hby at_159) ?_
          refine o_iconst X109 hx (1 : Int32) (hb hby at_160) rfl ?_
          refine o_iand X109 hx (hb hby at_161) ?_
          by_cases hc198 : ((own_ushr n_ (5 : Int32)) &&& (1 : Int32)) = (0 : Int32)
          · refine o_ifYes X109 hx 170 (hb hby at_162) (teq hc198).1 (by decide) (by decide) ?_
            refine o_iload X109 hx (hb hby at_170) rfl ?_
            refine ogo (S' := T109.setTop (mkF m 174 #[.val (.int n_), .val (.int a_), .val (.int b_), .val (.int c_), .val (.int d_), .val (.int e_), .val (.int u0), .val (.int u1), .val (.int cd), .val (.int (2 : Int32)), .val (.ref b101), .val (.int u0), .val (.int ((own_ushr n_ (3 : Int32)) &&& (3 : Int32))), .val (.int (nar .char (d_ &&& (65535 : Int32)))), .unset, .unset, .unset, .unset, .unset, .unset, .unset, .unset, .unset] [(.int (65535 : Int32)), (.int e_)])) (X109.ldcInt hx hown (mvT hZ w0) (g := (mkF m 172 #[.val (.int n_), .val (.int a_), .val (.int b_), .val (.int c_), .val (.int d_), .val (.int e_), .val (.int u0), .val (.int u1), .val (.int cd), .val (.int (2 : Int32)), .val (.ref b101), .val (.int u0), .val (.int ((own_ushr n_ (3 : Int32)) &&& (3 : Int32))), .val (.int (nar .char (d_ &&& (65535 : Int32)))), .unset, .unset, .unset, .unset, .unset, .unset, .unset, .unset, .unset] [(.int e_)])) rfl (hb hby at_172)) ?_
            refine o_iand X109 hx (hb hby at_174) ?_
            refine o_i2c X109 hx (hb hby at_175) ?_
            refine o_istore X109 hx (l' := #[.val (.int n_), .val (.int a_), .val (.int b_), .val (.int c_), .val (.int d_), .val (.int e_), .val (.int u0), .val (.int u1), .val (.int cd), .val (.int (2 : Int32)), .val (.ref b101), .val (.int u0), .val (.int ((own_ushr n_ (3 : Int32)) &&& (3 : Int32))), .val (.int (nar .char (d_ &&& (65535 : Int32)))), .val (.int (nar .char (e_ &&& (65535 : Int32)))), .unset, .unset, .unset, .unset, .unset, .unset, .unset, .unset]) (hb hby at_176) rfl ?_
            exact t2 u0 (nar .char (d_ &&& (65535 : Int32))) (nar .char (e_ &&& (65535 : Int32))) ((own_ushr n_ (3 : Int32)) &&& (3 : Int32))
          · refine o_ifNo X109 hx (hb hby at_162) (feq hc198).1 ?_
            refine o_iload X109 hx (hb hby at_165) rfl ?_
            refine o_goto X109 hx 176 (hb hby at_167) (by decide) (by decide) ?_
            refine o_istore X109 hx (l' := #[.val (.int n_), .val (.int a_), .val (.int b_), .val (.int c_), .val (.int d_), .val (.int e_), .val (.int u0), .val (.int u1), .val (.int cd), .val (.int (2 : Int32)), .val (.ref b101), .val (.int u0), .val (.int ((own_ushr n_ (3 : Int32)) &&& (3 : Int32))), .val (.int (nar .char (d_ &&& (65535 : Int32)))), .val (.int u1), .unset, .unset, .unset, .unset, .unset, .unset, .unset, .unset]) (hb hby at_176) rfl ?_
            exact t2 u0 (nar .char (d_ &&& (65535 : Int32))) u1 ((own_ushr n_ (3 : Int32)) &&& (3 : Int32))
        · refine o_ifYes X109 hx 142 (hb hby at_130) (feq hc197).2 (by decide) (by decide) ?_
          refine o_iload X109 hx (hb hby at_142) rfl ?_
          refine o_iconst X109 hx (1 : Int32) (hb hby at_144) rfl ?_
          by_cases hc199 : ((own_ushr n_ (3 : Int32)) &&& (3 : Int32)) = (1 : Int32)
          · refine o_icmpNo X109 hx (hb hby at_145) (teq hc199).2 ?_
            refine o_iload X109 hx (hb hby at_148) rfl ?_
            refine o_goto X109 hx 155 (hb hby at_150) (by decide) (by decide) ?_
            refine o_istore X109 hx (l' := #[.val (.int n_), .val (.int a_), .val (.int b_), .val (.int c_), .val (.int d_), .val (.int e_), .val (.int u0), .val (.int u1), .val (.int cd), .val (.int (2 : Int32)), .val (.ref b101), .val (.int u0), .val (.int ((own_ushr n_ (3 : Int32)) &&& (3 : Int32))), .val (.int u0), .unset, .unset, .unset, .unset, .unset, .unset, .unset, .unset, .unset]) (hb hby at_155) rfl ?_
            refine o_iloadN X109 hx (hb hby at_157) rfl ?_
            refine o_iconst X109 hx (5 : Int32) (hb hby at_158) rfl ?_
            refine o_iushr X109 hx (hb hby at_159) ?_
            refine o_iconst X109 hx (1 : Int32) (hb hby at_160) rfl ?_
            refine o_iand X109 hx (hb hby at_161) ?_
            by_cases hc200 : ((own_ushr n_ (5 : Int32)) &&& (1 : Int32)) = (0 : Int32)
            · refine o_ifYes X109 hx 170 (hb hby at_162) (teq hc200).1 (by decide) (by decide) ?_
              refine o_iload X109 hx (hb hby at_170) rfl ?_
              refine ogo (S' := T109.setTop (mkF m 174 #[.val (.int n_), .val (.int a_), .val (.int b_), .val (.int c_), .val (.int d_), .val (.int e_), .val (.int u0), .val (.int u1), .val (.int cd), .val (.int (2 : Int32)), .val (.ref b101), .val (.int u0), .val (.int ((own_ushr n_ (3 : Int32)) &&& (3 : Int32))), .val (.int u0), .unset, .unset, .unset, .unset, .unset, .unset, .unset, .unset, .unset] [(.int (65535 : Int32)), (.int e_)])) (X109.ldcInt hx hown (mvT hZ w0) (g := (mkF m 172 #[.val (.int n_), .val (.int a_), .val (.int b_), .val (.int c_), .val (.int d_), .val (.int e_), .val (.int u0), .val (.int u1), .val (.int cd), .val (.int (2 : Int32)), .val (.ref b101), .val (.int u0), .val (.int ((own_ushr n_ (3 : Int32)) &&& (3 : Int32))), .val (.int u0), .unset, .unset, .unset, .unset, .unset, .unset, .unset, .unset, .unset] [(.int e_)])) rfl (hb hby at_172)) ?_
              refine o_iand X109 hx (hb hby at_174) ?_
              refine o_i2c X109 hx (hb hby at_175) ?_
              refine o_istore X109 hx (l' := #[.val (.int n_), .val (.int a_), .val (.int b_), .val (.int c_), .val (.int d_), .val (.int e_), .val (.int u0), .val (.int u1), .val (.int cd), .val (.int (2 : Int32)), .val (.ref b101), .val (.int u0), .val (.int ((own_ushr n_ (3 : Int32)) &&& (3 : Int32))), .val (.int u0), .val (.int (nar .char (e_ &&& (65535 : Int32)))), .unset, .unset, .unset, .unset, .unset, .unset, .unset, .unset]) (hb hby at_176) rfl ?_
              exact t2 u0 u0 (nar .char (e_ &&& (65535 : Int32))) ((own_ushr n_ (3 : Int32)) &&& (3 : Int32))
            · refine o_ifNo X109 hx (hb hby at_162) (feq hc200).1 ?_
              refine o_iload X109 hx (hb hby at_165) rfl ?_
              refine o_goto X109 hx 176 (hb hby at_167) (by decide) (by decide) ?_
              refine o_istore X109 hx (l' := #[.val (.int n_), .val (.int a_), .val (.int b_), .val (.int c_), .val (.int d_), .val (.int e_), .val (.int u0), .val (.int u1), .val (.int cd), .val (.int (2 : Int32)), .val (.ref b101), .val (.int u0), .val (.int ((own_ushr n_ (3 : Int32)) &&& (3 : Int32))), .val (.int u0), .val (.int u1), .unset, .unset, .unset, .unset, .unset, .unset, .unset, .unset]) (hb hby at_176) rfl ?_
              exact t2 u0 u0 u1 ((own_ushr n_ (3 : Int32)) &&& (3 : Int32))
          · refine o_icmpYes X109 hx 153 (hb hby at_145) (feq hc199).2 (by decide) (by decide) ?_
            refine o_iload X109 hx (hb hby at_153) rfl ?_
            refine o_istore X109 hx (l' := #[.val (.int n_), .val (.int a_), .val (.int b_), .val (.int c_), .val (.int d_), .val (.int e_), .val (.int u0), .val (.int u1), .val (.int cd), .val (.int (2 : Int32)), .val (.ref b101), .val (.int u0), .val (.int ((own_ushr n_ (3 : Int32)) &&& (3 : Int32))), .val (.int u1), .unset, .unset, .unset, .unset, .unset, .unset, .unset, .unset, .unset]) (hb hby at_155) rfl ?_
            refine o_iloadN X109 hx (hb hby at_157) rfl ?_
            refine o_iconst X109 hx (5 : Int32) (hb hby at_158) rfl ?_
            refine o_iushr X109 hx (hb hby at_159) ?_
            refine o_iconst X109 hx (1 : Int32) (hb hby at_160) rfl ?_
            refine o_iand X109 hx (hb hby at_161) ?_
            by_cases hc201 : ((own_ushr n_ (5 : Int32)) &&& (1 : Int32)) = (0 : Int32)
            · refine o_ifYes X109 hx 170 (hb hby at_162) (teq hc201).1 (by decide) (by decide) ?_
              refine o_iload X109 hx (hb hby at_170) rfl ?_
              refine ogo (S' := T109.setTop (mkF m 174 #[.val (.int n_), .val (.int a_), .val (.int b_), .val (.int c_), .val (.int d_), .val (.int e_), .val (.int u0), .val (.int u1), .val (.int cd), .val (.int (2 : Int32)), .val (.ref b101), .val (.int u0), .val (.int ((own_ushr n_ (3 : Int32)) &&& (3 : Int32))), .val (.int u1), .unset, .unset, .unset, .unset, .unset, .unset, .unset, .unset, .unset] [(.int (65535 : Int32)), (.int e_)])) (X109.ldcInt hx hown (mvT hZ w0) (g := (mkF m 172 #[.val (.int n_), .val (.int a_), .val (.int b_), .val (.int c_), .val (.int d_), .val (.int e_), .val (.int u0), .val (.int u1), .val (.int cd), .val (.int (2 : Int32)), .val (.ref b101), .val (.int u0), .val (.int ((own_ushr n_ (3 : Int32)) &&& (3 : Int32))), .val (.int u1), .unset, .unset, .unset, .unset, .unset, .unset, .unset, .unset, .unset] [(.int e_)])) rfl (hb hby at_172)) ?_
              refine o_iand X109 hx (hb hby at_174) ?_
              refine o_i2c X109 hx (hb hby at_175) ?_
              refine o_istore X109 hx (l' := #[.val (.int n_), .val (.int a_), .val (.int b_), .val (.int c_), .val (.int d_), .val (.int e_), .val (.int u0), .val (.int u1), .val (.int cd), .val (.int (2 : Int32)), .val (.ref b101), .val (.int u0), .val (.int ((own_ushr n_ (3 : Int32)) &&& (3 : Int32))), .val (.int u1), .val (.int (nar .char (e_ &&& (65535 : Int32)))), .unset, .unset, .unset, .unset, .unset, .unset, .unset, .unset]) (hb hby at_176) rfl ?_
              exact t2 u0 u1 (nar .char (e_ &&& (65535 : Int32))) ((own_ushr n_ (3 : Int32)) &&& (3 : Int32))
            · refine o_ifNo X109 hx (hb hby at_162) (feq hc201).1 ?_
              refine o_iload X109 hx (hb hby at_165) rfl ?_
              refine o_goto X109 hx 176 (hb hby at_167) (by decide) (by decide) ?_
              refine o_istore X109 hx (l' := #[.val (.int n_), .val (.int a_), .val (.int b_), .val (.int c_), .val (.int d_), .val (.int e_), .val (.int u0), .val (.int u1), .val (.int cd), .val (.int (2 : Int32)), .val (.ref b101), .val (.int u0), .val (.int ((own_ushr n_ (3 : Int32)) &&& (3 : Int32))), .val (.int u1), .val (.int u1), .unset, .unset, .unset, .unset, .unset, .unset, .unset, .unset]) (hb hby at_176) rfl ?_
              exact t2 u0 u1 u1 ((own_ushr n_ (3 : Int32)) &&& (3 : Int32))
  rcases own_and3 n_ with hs202 | hs202 | hs202 | hs202
  · rw [hs202]
    refine o_iload X0 hx (hb hby at_19) rfl ?_
    refine o_iconst X0 hx (3 : Int32) (hb hby at_21) rfl ?_
    refine o_icmpYes X0 hx 29 (hb hby at_22) (feq (by decide : ¬ ((0 : Int32) = (3 : Int32)))).2 (by decide) (by decide) ?_
    refine o_iload X0 hx (hb hby at_29) rfl ?_
    refine o_istore X0 hx (l' := #[.val (.int n_), .val (.int a_), .val (.int b_), .val (.int c_), .val (.int d_), .val (.int e_), .val (.int u0), .val (.int u1), .val (.int (0 : Int32)), .val (.int (0 : Int32)), .unset, .unset, .unset, .unset, .unset, .unset, .unset, .unset, .unset, .unset, .unset, .unset, .unset]) (hb hby at_31) rfl ?_
    exact tl (0 : Int32) (0 : Int32) (by decide)
  · rw [hs202]
    refine o_iload X0 hx (hb hby at_19) rfl ?_
    refine o_iconst X0 hx (3 : Int32) (hb hby at_21) rfl ?_
    refine o_icmpYes X0 hx 29 (hb hby at_22) (feq (by decide : ¬ ((1 : Int32) = (3 : Int32)))).2 (by decide) (by decide) ?_
    refine o_iload X0 hx (hb hby at_29) rfl ?_
    refine o_istore X0 hx (l' := #[.val (.int n_), .val (.int a_), .val (.int b_), .val (.int c_), .val (.int d_), .val (.int e_), .val (.int u0), .val (.int u1), .val (.int (1 : Int32)), .val (.int (1 : Int32)), .unset, .unset, .unset, .unset, .unset, .unset, .unset, .unset, .unset, .unset, .unset, .unset, .unset]) (hb hby at_31) rfl ?_
    exact tl (1 : Int32) (1 : Int32) (by decide)
  · rw [hs202]
    refine o_iload X0 hx (hb hby at_19) rfl ?_
    refine o_iconst X0 hx (3 : Int32) (hb hby at_21) rfl ?_
    refine o_icmpYes X0 hx 29 (hb hby at_22) (feq (by decide : ¬ ((2 : Int32) = (3 : Int32)))).2 (by decide) (by decide) ?_
    refine o_iload X0 hx (hb hby at_29) rfl ?_
    refine o_istore X0 hx (l' := #[.val (.int n_), .val (.int a_), .val (.int b_), .val (.int c_), .val (.int d_), .val (.int e_), .val (.int u0), .val (.int u1), .val (.int (2 : Int32)), .val (.int (2 : Int32)), .unset, .unset, .unset, .unset, .unset, .unset, .unset, .unset, .unset, .unset, .unset, .unset, .unset]) (hb hby at_31) rfl ?_
    exact tl (2 : Int32) (2 : Int32) (by decide)
  · rw [hs202]
    refine o_iload X0 hx (hb hby at_19) rfl ?_
    refine o_iconst X0 hx (3 : Int32) (hb hby at_21) rfl ?_
    refine o_icmpNo X0 hx (hb hby at_22) (teq (by decide : (3 : Int32) = (3 : Int32))).2 ?_
    refine o_iconst X0 hx (2 : Int32) (hb hby at_25) rfl ?_
    refine o_goto X0 hx 31 (hb hby at_26) (by decide) (by decide) ?_
    refine o_istore X0 hx (l' := #[.val (.int n_), .val (.int a_), .val (.int b_), .val (.int c_), .val (.int d_), .val (.int e_), .val (.int u0), .val (.int u1), .val (.int (3 : Int32)), .val (.int (2 : Int32)), .unset, .unset, .unset, .unset, .unset, .unset, .unset, .unset, .unset, .unset, .unset, .unset, .unset]) (hb hby at_31) rfl ?_
    exact tl (3 : Int32) (2 : Int32) (by decide)
set_option maxRecDepth 65536 in
set_option maxHeartbeats 40000000 in
theorem comes_1 {Post : Tables → Env → Array Value → State → Outcome → State → Prop} (hpost : ∀ tb e args s v u, (limb_1_1.after args s (.returned v) u = true ∧ limb_1_2.after args s (.returned v) u = true ∧ True) → ReturnedEndW s (.returned v) u (Jvm.fieldLocs frame_1_writes args s ++ Jvm.arrayLocs frame_1_arrays args s ++ Jvm.staticLocs frame_1_statics s) 24 1152 → Post tb e args s (.returned v) u) :
    ArmFor flags0 classFile x code maxLocals ret World_1 tables_1 room_1 Calls_1 rest_1 Pre_1 Post := by
  intro l hfl _ _ p e ha hc hk s m args below hf hA hF happ hP
  obtain ⟨hcalls, hrest, hpre⟩ := hP
  obtain ⟨-, -, -, hnamed, -, -, -, hat⟩ := (Spec.applies_iff hf).mp happ
  obtain ⟨hg, hn⟩ := and_e (Cond.before_iff.mp (show (Jvm.Cond.and given_1 narrow_1).before args s = true from hpre))
  obtain ⟨g0, gr0⟩ := and_e hg
  obtain ⟨g1, gr1⟩ := and_e gr0
  obtain ⟨g2, gr2⟩ := and_e gr1
  obtain ⟨g3, gr3⟩ := and_e gr2
  obtain ⟨g4, gr4⟩ := and_e gr3
  obtain ⟨g5, gr5⟩ := and_e gr4
  obtain ⟨w0, w1, w2, w3, w4, w5, rfl⟩ : ∃ w0 w1 w2 w3 w4 w5 : Value, args = #[w0, w1, w2, w3, w4, w5] := by
    have hs : args.size = 6 := by simpa [Cond.value, given_1] using g0
    obtain ⟨L⟩ := args
    match L, hs with
    | [w0, w1, w2, w3, w4, w5], _ => exact ⟨w0, w1, w2, w3, w4, w5, rfl⟩
  have hw := fun d (hd : d ∈ tables_1) => atoms_spec (ws := Jvm.Cond.code x code maxLocals ret :: tables_1) hat d (List.mem_cons_of_mem _ hd)
  obtain ⟨hsets, hown0⟩ := atoms_of _ (rest_1_c_eq ▸ (show rest_1_c.before _ s = true from hrest))
  have hfit : Fit s := fun {y c} hc i hi => by
    obtain ⟨ha, rfl⟩ := Array.getElem?_eq_some_iff.mp hc
    have q := List.all_eq_true.mp ((Array.all_eq_true_iff_forall_mem.mp hF) _ (Array.getElem_mem ha)) i (List.mem_range.mpr hi)
    simpa [Array.getElem?_eq_getElem hi] using q
  obtain ⟨i0, ei0⟩ := is_v g1
  obtain rfl : w0 = (.int i0) := Option.some.inj ei0
  obtain ⟨i1, ei1⟩ := is_v g2
  obtain rfl : w1 = (.int i1) := Option.some.inj ei1
  obtain ⟨i2, ei2⟩ := is_v g3
  obtain rfl : w2 = (.int i2) := Option.some.inj ei2
  obtain ⟨i3, ei3⟩ := is_v g4
  obtain rfl : w3 = (.int i3) := Option.some.inj ei3
  obtain ⟨i4, ei4⟩ := is_v g5
  obtain rfl : w4 = (.int i4) := Option.some.inj ei4
  obtain ⟨i5, ei5⟩ := is_v gr5
  obtain rfl : w5 = (.int i5) := Option.some.inj ei5
  obtain ⟨z_CS, ev_CS⟩ := is_v (Cond.before_iff.mp (hsets _ (List.mem_of_getElem? (i := 1) rfl)))
  have n_CS := not_v (Cond.before_iff.mp (hsets _ (List.mem_of_getElem? (i := 2) rfl)))
  obtain ⟨v_FMT, ev_FMT, rf_FMT⟩ := isR_v (Cond.before_iff.mp (hsets _ (List.mem_of_getElem? (i := 8) rfl)))
  have hcw : Jvm.Lit.compactW.before _ s = true := (hsets _ (List.mem_of_getElem? (i := 2) rfl))
  have hCH : CHv s own_EL s.vm s.heap := CHv.start (own_EW hw) (fun q hq => hcalls.1 q hq) hcw (hw _ (List.mem_of_getElem? (i := 16) rfl)) (hw _ (List.mem_of_getElem? (i := 2) rfl))
  have SB : own_Start s z_CS v_FMT := ⟨(Sta.start ev_CS (Or.inl (hsets _ (List.mem_of_getElem? (i := 0) rfl)))), (gotF (Cond.eq_ints ev_CS (Term.int_eval (0))) n_CS), (Sta.start (Cond.eq_int (hsets _ (List.mem_of_getElem? (i := 12) rfl)) rfl) (Or.inl (hsets _ (List.mem_of_getElem? (i := 11) rfl)))), (Sta.start (Cond.eq_int (hsets _ (List.mem_of_getElem? (i := 15) rfl)) rfl) (Or.inl (hsets _ (List.mem_of_getElem? (i := 14) rfl)))), (Sta.start (Cond.eq_int (hsets _ (List.mem_of_getElem? (i := 18) rfl)) rfl) (Or.inl (hsets _ (List.mem_of_getElem? (i := 17) rfl)))), (Sta.start ev_FMT (Or.inl (hsets _ (List.mem_of_getElem? (i := 7) rfl)))), rf_FMT⟩
  obtain ⟨n, o, h1, h2, h3, _, L, rfl, ⟨rfl, N, -⟩, -, hq⟩ := rm_law l s _ hw tables_1 z_CS v_FMT i0 i1 i2 i3 i4 i5 s.heap s.heap.size SB (Old.start s)  p e ha hc hk s m _ below hf ((Spec.applies_iff_loose hf).mp happ).1 ⟨rfl, State.Warmed39.refl s, rfl, hCH⟩ trivial
  refine ⟨n, _, h1, h2, h3, hpost _ _ _ _ _ _ ⟨Cond.after_iff.mpr rfl, Cond.after_iff.mpr (eq_i res_at (Term.int_eval (1)) rfl), trivial⟩ ⟨hq.1, hq.2.1, hq.2.2.1, (hq.2.2.2.sift fun y hy => Or.inr (N y hy)).mono (by decide) (by decide)⟩⟩
theorem main_1_1 : Claimed_1_1 := comes_1 fun _ _ _ _ _ _ h hF => ⟨h.1, hF⟩
theorem main_1_2 : Claimed_1_2 := comes_1 fun _ _ _ _ _ _ h hF => ⟨h.2.1, hF⟩
end Jvm.Pilot.@@N@@
namespace Jvm.Pilot.@@N@@
open Jvm Jvm.ClassFile Sem Op Lib Jvm.Free Jvm.Stand Jvm.Pilot.@@N@@.Jvm.D
/-! MADE BY PROGRAM (witnessworld.py) out of the Statement's table words and the real class files: 20 classes; the members and pool entries that the words name. The judged class is class 1, her method 2. -/
namespace start1
open Jvm.ClassFile
def u (s : String) : CpInfo := .utf8 (stringToUtf16 s)
/-- a pool by its gaps: so many unusable entries, then the entry; so many at the end -/
def gap : Nat → List CpInfo → List CpInfo
  | 0, r => r
  | n + 1, r => .unusable :: gap n r
def poolList (es : List (Nat × CpInfo)) (last : Nat) : List CpInfo := es.foldr (fun e r => gap e.1 (e.2 :: r)) (gap last [])
def pool (es : List (Nat × CpInfo)) (last : Nat) : Array CpInfo := ⟨poolList es last⟩
def fileOf (pool : Array CpInfo) (this : Nat) (attrs : Array Attribute := #[]) (ms : Array MethodInfo := #[]) (fl : Nat := 33) (sup : Nat := 0) (ifs : Array Nat := #[]) (fds : Array FieldInfo := #[]) : ClassFile where
  minorVersion := 0
  majorVersion := 65
  constantPool := pool
  accessFlags := fl
  thisClass := this
  superClass := sup
  interfaces := ifs
  fields := fds
  methods := ms
  attributes := attrs
def plain (name : String) (sup : Option ClassId) : Class where
  name := name
  kind := .ordinary
  loader := none
  accessFlags := 33
  super := sup
  interfaces := #[]
  cf := none
  fields := #[]
  methods := #[]
  instanceTypes := #[]
  staticTypes := #[]
  resolved := #[]
  callSites := []
  init := .initialized
  statics := none
  mirror := none

def pool0 : Array CpInfo := pool [(5, u "<init>"), (0, u "()V"), (1, .class_ 10), (1, u "java/lang/Object")] 113

def k0c0 : Code := { maxStack := 0, maxLocals := 1, code := object_method_1_code, exceptionTable := #[], attributes := #[] }
def k0m0 : Method := { name := "<init>", desc := "()V", sig := { parameters := [], returnType := none }, accessFlags := 1, code := some k0c0 }
/-- java/lang/Object -/
def k0 : Class := { plain "java/lang/Object" none with
  accessFlags := 33
  interfaces := #[]
  cf := some (fileOf pool0 8 #[] #[{ accessFlags := 1, nameIndex := 5, descriptorIndex := 6, attributes := #[] }] 33 0 #[] #[])
  fields := #[]
  methods := #[k0m0]
  instanceTypes := #[]
  staticTypes := #[]
  resolved := Array.replicate 124 none
  statics := none }

def pool1 : Array CpInfo := pool [(2, .class_ 4), (1, u "java/lang/Object"), (0, u "<init>"), (0, u "()V"), (0, .integer 65535), (0, .class_ 9), (0, u "java/lang/String"), (0, .methodref 8 11), (0, .nameAndType 5 12), (0, u "([C)V"), (0, .class_ 14), (0, u "com/example/rowfold/rowfold/Literal"), (0, .methodref 13 16), (0, .nameAndType 5 17), (0, u "(Ljava/lang/String;)V"), (0, .methodref 13 19), (0, .nameAndType 20 21), (0, u "skip"), (0, u "(C)Z"), (0, .methodref 23 24), (0, .class_ 25), (0, .nameAndType 26 27), (0, u "com/example/rowfold/rowfold/LiteralSkipPinLaw"), (0, u "matches"), (0, u "(IICCC)Z"), (3, u "law"), (0, u "(IIIIII)Z")] 2

def k1m0 : Method := { name := "<init>", desc := "()V", sig := { parameters := [], returnType := none }, accessFlags := 2, code := none }
def k1c1 : Code := { maxStack := 2, maxLocals := 6, code := method_2_code, exceptionTable := #[], attributes := #[] }
def k1m1 : Method := { name := "matches", desc := "(IICCC)Z", sig := { parameters := [.int, .int, .char, .char, .char], returnType := some .boolean }, accessFlags := 10, code := some k1c1 }
def k1c2 : Code := { maxStack := 6, maxLocals := 23, code := code, exceptionTable := #[], attributes := #[] }
def k1m2 : Method := { name := "law", desc := "(IIIIII)Z", sig := { parameters := [.int, .int, .int, .int, .int, .int], returnType := some .boolean }, accessFlags := 9, code := some k1c2 }
/-- com/example/rowfold/rowfold/LiteralSkipPinLaw -/
def k1 : Class := { plain "com/example/rowfold/rowfold/LiteralSkipPinLaw" (some 0) with
  accessFlags := 49
  interfaces := #[]
  cf := some (fileOf pool1 23 #[] #[{ accessFlags := 2, nameIndex := 5, descriptorIndex := 6, attributes := #[] }, { accessFlags := 10, nameIndex := 26, descriptorIndex := 27, attributes := #[] }, { accessFlags := 9, nameIndex := 31, descriptorIndex := 32, attributes := #[] }] 49 2 #[] #[])
  fields := #[]
  methods := #[k1m0, k1m1, k1m2]
  instanceTypes := #[]
  staticTypes := #[]
  resolved := Array.replicate 35 none
  statics := none }

def pool2 : Array CpInfo := pool [(1, .class_ 2), (0, u "java/io/Serializable"), (0, .class_ 4), (0, u "java/lang/Object")] 2

/-- java/io/Serializable -/
def k2 : Class := { plain "java/io/Serializable" (some 0) with
  accessFlags := 1537
  interfaces := #[]
  cf := some (fileOf pool2 1 #[] #[] 1537 3 #[] #[])
  fields := #[]
  methods := #[]
  instanceTypes := #[]
  staticTypes := #[]
  resolved := Array.replicate 7 none
  statics := none }

def pool3 : Array CpInfo := pool [(1, .class_ 2), (0, u "java/lang/Comparable"), (0, .class_ 4), (0, u "java/lang/Object")] 7

/-- java/lang/Comparable -/
def k3 : Class := { plain "java/lang/Comparable" (some 0) with
  accessFlags := 1537
  interfaces := #[]
  cf := some (fileOf pool3 1 #[] #[] 1537 3 #[] #[])
  fields := #[]
  methods := #[]
  instanceTypes := #[]
  staticTypes := #[]
  resolved := Array.replicate 12 none
  statics := none }

def pool4 : Array CpInfo := pool [(2, .class_ 4), (1, u "java/lang/CharSequence"), (42, .class_ 48), (0, u "java/lang/CharSequence$1CodePointIterator"), (10, .class_ 60), (0, u "java/lang/CharSequence$1CharIterator"), (5, .class_ 67), (0, u "java/lang/Object")] 63

/-- java/lang/CharSequence -/
def k4 : Class := { plain "java/lang/CharSequence" (some 0) with
  accessFlags := 1537
  interfaces := #[]
  cf := some (fileOf pool4 2 #[.nestMembers #[47, 59]] #[] 1537 66 #[] #[])
  fields := #[]
  methods := #[]
  instanceTypes := #[]
  staticTypes := #[]
  resolved := Array.replicate 131 none
  statics := none }

def pool5 : Array CpInfo := pool [(1, .class_ 2), (0, u "java/lang/constant/Constable"), (0, .class_ 4), (0, u "java/lang/Object")] 6

/-- java/lang/constant/Constable -/
def k5 : Class := { plain "java/lang/constant/Constable" (some 0) with
  accessFlags := 1537
  interfaces := #[]
  cf := some (fileOf pool5 1 #[] #[] 1537 3 #[] #[])
  fields := #[]
  methods := #[]
  instanceTypes := #[]
  staticTypes := #[]
  resolved := Array.replicate 11 none
  statics := none }

def pool6 : Array CpInfo := pool [(1, .class_ 2), (0, u "java/lang/constant/ConstantDesc"), (0, .class_ 4), (0, u "java/lang/Object")] 32

/-- java/lang/constant/ConstantDesc -/
def k6 : Class := { plain "java/lang/constant/ConstantDesc" (some 0) with
  accessFlags := 1537
  interfaces := #[]
  cf := some (fileOf pool6 1 #[] #[] 1537 3 #[] #[])
  fields := #[]
  methods := #[]
  instanceTypes := #[]
  staticTypes := #[]
  resolved := Array.replicate 37 none
  statics := none }

def pool7 : Array CpInfo := pool [(1, .methodref 2 3), (0, .class_ 4), (0, .nameAndType 5 6), (0, u "java/lang/Object"), (0, u "<init>"), (0, u "()V"), (0, .string 8), (0, u ""), (0, .fieldref 10 11), (0, .class_ 12), (0, .nameAndType 13 14), (0, u "java/lang/String"), (0, u "value"), (0, u "[B"), (0, .fieldref 10 16), (0, .nameAndType 17 18), (0, u "coder"), (0, u "B"), (2, u "hash"), (0, u "I"), (2, u "hashIsZero"), (0, u "Z"), (0, .methodref 10 28), (0, .nameAndType 5 29), (0, u "([CIILjava/lang/Void;)V"), (8, .fieldref 10 39), (0, .nameAndType 40 26), (0, u "COMPACT_STRINGS"), (1, .class_ 44), (1, u "java/lang/StringUTF16"), (0, u "compress"), (1, .methodref 42 48), (0, .nameAndType 49 50), (0, u "coderFromArrayLen"), (0, u "([BI)B"), (56, .class_ 109), (1, u "java/lang/StringLatin1"), (32, u "()Z"), (34, .methodref 42 178), (0, .nameAndType 45 179), (0, u "([CII)[B"), (154, u "()I"), (0, .methodref 10 336), (0, .nameAndType 17 337), (0, u "()B"), (25, u "([BI)C"), (27, u "(II)V"), (35, u "(I)C"), (64, .methodref 10 493), (0, .nameAndType 494 142), (0, u "isLatin1"), (0, .methodref 107 496), (0, .nameAndType 497 363), (0, u "charAt"), (0, .methodref 42 496), (2, u "checkIndex"), (5, u "length"), (67, .class_ 576), (0, u "java/lang/CharSequence"), (22, u "CASE_INSENSITIVE_ORDER"), (0, u "Ljava/util/Comparator;"), (409, u "([C)V"), (42, .fieldref 1054 1055), (0, .class_ 1056), (0, .nameAndType 1057 1058), (0, u "jdk/internal/util/Preconditions"), (0, u "SIOOBE_FORMATTER"), (0, u "Ljava/util/function/BiFunction;"), (0, .methodref 1054 1060), (0, .nameAndType 501 1061), (0, u "(IILjava/util/function/BiFunction;)I"), (39, u "serialPersistentFields"), (0, u "[Ljava/io/ObjectStreamField;"), (0, .class_ 1104), (0, u "java/lang/String$CaseInsensitiveComparator"), (1, .class_ 1107), (0, u "java/io/Serializable"), (0, .class_ 1109), (0, u "java/lang/Comparable"), (0, .class_ 1111), (0, u "java/lang/constant/Constable"), (0, .class_ 1113), (0, u "java/lang/constant/ConstantDesc"), (2, u "serialVersionUID"), (0, u "J"), (3, u "REPL"), (0, u "C"), (2, u "LATIN1"), (1, u "UTF16")] 323

def k7m0 : Method := { name := "<init>", desc := "()V", sig := { parameters := [], returnType := none }, accessFlags := 1, code := none }
def k7c1 : Code := { maxStack := 5, maxLocals := 2, code := jdk_42_method_3_code, exceptionTable := #[], attributes := #[] }
def k7m1 : Method := { name := "<init>", desc := "([C)V", sig := { parameters := [(.array .char)], returnType := none }, accessFlags := 1, code := some k7c1 }
def k7c2 : Code := { maxStack := 2, maxLocals := 1, code := jdk_42_method_54_code, exceptionTable := #[], attributes := #[] }
def k7m2 : Method := { name := "length", desc := "()I", sig := { parameters := [], returnType := some .int }, accessFlags := 1, code := some k7c2 }
def k7c3 : Code := { maxStack := 2, maxLocals := 2, code := jdk_42_method_56_code, exceptionTable := #[], attributes := #[] }
def k7m3 : Method := { name := "charAt", desc := "(I)C", sig := { parameters := [.int], returnType := some .char }, accessFlags := 1, code := some k7c3 }
def k7c4 : Code := { maxStack := 4, maxLocals := 6, code := jdk_42_method_149_code, exceptionTable := #[], attributes := #[] }
def k7m4 : Method := { name := "<init>", desc := "([CIILjava/lang/Void;)V", sig := { parameters := [(.array .char), .int, .int, (.object "java/lang/Void")], returnType := none }, accessFlags := 2, code := some k7c4 }
def k7c5 : Code := { maxStack := 1, maxLocals := 1, code := jdk_42_method_152_code, exceptionTable := #[], attributes := #[] }
def k7m5 : Method := { name := "coder", desc := "()B", sig := { parameters := [], returnType := some .byte }, accessFlags := 0, code := some k7c5 }
def k7c6 : Code := { maxStack := 1, maxLocals := 1, code := jdk_42_method_154_code, exceptionTable := #[], attributes := #[] }
def k7m6 : Method := { name := "isLatin1", desc := "()Z", sig := { parameters := [], returnType := some .boolean }, accessFlags := 0, code := some k7c6 }
def k7c7 : Code := { maxStack := 3, maxLocals := 2, code := jdk_42_method_155_code, exceptionTable := #[], attributes := #[] }
def k7m7 : Method := { name := "checkIndex", desc := "(II)V", sig := { parameters := [.int, .int], returnType := none }, accessFlags := 8, code := some k7c7 }
/-- java/lang/String -/
def k7 : Class := { plain "java/lang/String" (some 0) with
  accessFlags := 49
  interfaces := #[2, 3, 4, 5, 6]
  cf := some (fileOf pool7 10 #[.nestMembers #[1103]] #[{ accessFlags := 1, nameIndex := 5, descriptorIndex := 6, attributes := #[] }, { accessFlags := 1, nameIndex := 5, descriptorIndex := 1010, attributes := #[] }, { accessFlags := 1, nameIndex := 507, descriptorIndex := 334, attributes := #[] }, { accessFlags := 1, nameIndex := 497, descriptorIndex := 427, attributes := #[] }, { accessFlags := 2, nameIndex := 5, descriptorIndex := 29, attributes := #[] }, { accessFlags := 0, nameIndex := 17, descriptorIndex := 337, attributes := #[] }, { accessFlags := 0, nameIndex := 494, descriptorIndex := 142, attributes := #[] }, { accessFlags := 8, nameIndex := 501, descriptorIndex := 391, attributes := #[] }] 49 2 #[1106, 1108, 575, 1110, 1112] #[{ accessFlags := 18, nameIndex := 13, descriptorIndex := 14, attributes := #[] }, { accessFlags := 18, nameIndex := 17, descriptorIndex := 18, attributes := #[] }, { accessFlags := 2, nameIndex := 21, descriptorIndex := 22, attributes := #[] }, { accessFlags := 2, nameIndex := 25, descriptorIndex := 26, attributes := #[] }, { accessFlags := 26, nameIndex := 1116, descriptorIndex := 1117, attributes := #[] }, { accessFlags := 24, nameIndex := 40, descriptorIndex := 26, attributes := #[] }, { accessFlags := 26, nameIndex := 1101, descriptorIndex := 1102, attributes := #[] }, { accessFlags := 26, nameIndex := 1121, descriptorIndex := 1122, attributes := #[] }, { accessFlags := 25, nameIndex := 599, descriptorIndex := 600, attributes := #[] }, { accessFlags := 24, nameIndex := 1125, descriptorIndex := 18, attributes := #[] }, { accessFlags := 24, nameIndex := 1127, descriptorIndex := 18, attributes := #[] }])
  fields := #[{ name := "value", type := (.array .byte), accessFlags := 18, slot := 0, constantValue := 0 }, { name := "coder", type := .byte, accessFlags := 18, slot := 1, constantValue := 0 }, { name := "hash", type := .int, accessFlags := 2, slot := 2, constantValue := 0 }, { name := "hashIsZero", type := .boolean, accessFlags := 2, slot := 3, constantValue := 0 }, { name := "serialVersionUID", type := .long, accessFlags := 26, slot := 0, constantValue := 0 }, { name := "COMPACT_STRINGS", type := .boolean, accessFlags := 24, slot := 1, constantValue := 0 }, { name := "serialPersistentFields", type := (.array (.object "java/io/ObjectStreamField")), accessFlags := 26, slot := 2, constantValue := 0 }, { name := "REPL", type := .char, accessFlags := 26, slot := 3, constantValue := 0 }, { name := "CASE_INSENSITIVE_ORDER", type := (.object "java/util/Comparator"), accessFlags := 25, slot := 4, constantValue := 0 }, { name := "LATIN1", type := .byte, accessFlags := 24, slot := 5, constantValue := 0 }, { name := "UTF16", type := .byte, accessFlags := 24, slot := 6, constantValue := 0 }]
  methods := #[k7m0, k7m1, k7m2, k7m3, k7m4, k7m5, k7m6, k7m7]
  instanceTypes := #[(.array .byte), .byte, .int, .boolean]
  staticTypes := #[.long, .boolean, (.array (.object "java/io/ObjectStreamField")), .char, (.object "java/util/Comparator"), .byte, .byte]
  resolved := Array.replicate 1451 none
  statics := some 0 }

def pool8 : Array CpInfo := pool [(1, .methodref 2 3), (0, .class_ 4), (0, .nameAndType 5 6), (0, u "java/lang/Object"), (0, u "<init>"), (0, u "()V"), (0, .fieldref 8 9), (0, .class_ 10), (0, .nameAndType 11 12), (0, u "com/example/rowfold/rowfold/Literal"), (0, u "text"), (0, u "Ljava/lang/String;"), (3, .class_ 18), (1, u "java/lang/String"), (6, .fieldref 8 26), (0, .nameAndType 27 28), (0, u "at"), (0, u "I"), (0, .methodref 16 30), (0, .nameAndType 31 32), (0, u "length"), (0, u "()I"), (6, .methodref 16 40), (0, .nameAndType 41 42), (0, u "charAt"), (0, u "(I)C"), (2, u "skip"), (0, u "(C)Z"), (44, u "(Ljava/lang/String;)V")] 26

def k8c0 : Code := { maxStack := 2, maxLocals := 2, code := prog_8_method_1_code, exceptionTable := #[], attributes := #[] }
def k8m0 : Method := { name := "<init>", desc := "(Ljava/lang/String;)V", sig := { parameters := [(.object "java/lang/String")], returnType := none }, accessFlags := 0, code := some k8c0 }
def k8c1 : Code := { maxStack := 3, maxLocals := 3, code := prog_8_method_4_code, exceptionTable := #[], attributes := #[] }
def k8m1 : Method := { name := "skip", desc := "(C)Z", sig := { parameters := [.char], returnType := some .boolean }, accessFlags := 0, code := some k8c1 }
/-- com/example/rowfold/rowfold/Literal -/
def k8 : Class := { plain "com/example/rowfold/rowfold/Literal" (some 0) with
  accessFlags := 48
  interfaces := #[]
  cf := some (fileOf pool8 8 #[] #[{ accessFlags := 0, nameIndex := 5, descriptorIndex := 91, attributes := #[] }, { accessFlags := 0, nameIndex := 45, descriptorIndex := 46, attributes := #[] }] 48 2 #[] #[{ accessFlags := 18, nameIndex := 11, descriptorIndex := 12, attributes := #[] }, { accessFlags := 2, nameIndex := 27, descriptorIndex := 28, attributes := #[] }])
  fields := #[{ name := "text", type := (.object "java/lang/String"), accessFlags := 18, slot := 0, constantValue := 0 }, { name := "at", type := .int, accessFlags := 2, slot := 1, constantValue := 0 }]
  methods := #[k8m0, k8m1]
  instanceTypes := #[(.object "java/lang/String"), .int]
  staticTypes := #[]
  resolved := Array.replicate 118 none
  statics := none }

def pool9 : Array CpInfo := pool [(3, .class_ 4), (0, u "java/lang/String"), (1, .class_ 8), (1, u "java/lang/Object"), (0, u "<init>"), (0, u "()V"), (0, .methodref 12 13), (0, .class_ 14), (0, .nameAndType 15 16), (0, u "java/lang/StringUTF16"), (0, u "newBytesLength"), (0, u "(I)I"), (3, .integer 1073741823), (23, .fieldref 12 45), (0, .nameAndType 46 47), (0, u "$assertionsDisabled"), (0, u "Z"), (0, .methodref 12 49), (0, .nameAndType 50 51), (0, u "length"), (0, u "([B)I"), (7, .fieldref 12 60), (0, .nameAndType 61 62), (0, u "HI_BYTE_SHIFT"), (0, u "I"), (0, .fieldref 12 64), (0, .nameAndType 65 62), (0, u "LO_BYTE_SHIFT"), (1, .methodref 12 68), (0, .nameAndType 69 70), (0, u "checkIndex"), (0, u "(I[B)V"), (0, .methodref 12 72), (0, .nameAndType 73 74), (0, u "getChar"), (0, u "([BI)C"), (32, .methodref 12 108), (0, .nameAndType 109 110), (0, u "newBytesFor"), (0, u "(I)[B"), (0, .methodref 12 112), (0, .nameAndType 113 114), (0, u "putChar"), (0, u "([BII)V"), (0, .methodref 12 116), (0, .nameAndType 117 118), (0, u "compress"), (0, u "([CI[BII)I"), (0, .methodref 12 120), (0, .nameAndType 121 122), (0, u "toBytes"), (0, u "([CII)[B"), (138, u "coderFromArrayLen"), (0, u "([BI)B"), (106, .class_ 371), (1, u "java/lang/StringUTF16$LinesSpliterator"), (20, u "charAt"), (21, .methodref 3 415), (0, .nameAndType 69 416), (0, u "(II)V"), (13, u "MAX_LENGTH"), (196, .class_ 628), (0, u "java/lang/StringUTF16$CodePointsSpliterator"), (0, .class_ 630), (0, u "java/lang/StringUTF16$CharsSpliterator")] 4

def k9m0 : Method := { name := "<init>", desc := "()V", sig := { parameters := [], returnType := none }, accessFlags := 0, code := none }
def k9c1 : Code := { maxStack := 1, maxLocals := 1, code := jdk_52_method_2_code, exceptionTable := #[], attributes := #[] }
def k9m1 : Method := { name := "newBytesFor", desc := "(I)[B", sig := { parameters := [.int], returnType := some (.array .byte) }, accessFlags := 9, code := some k9c1 }
def k9c2 : Code := { maxStack := 4, maxLocals := 1, code := jdk_52_method_3_code, exceptionTable := #[], attributes := #[] }
def k9m2 : Method := { name := "newBytesLength", desc := "(I)I", sig := { parameters := [.int], returnType := some .int }, accessFlags := 9, code := some k9c2 }
def k9c3 : Code := { maxStack := 4, maxLocals := 3, code := jdk_52_method_4_code, exceptionTable := #[], attributes := #[] }
def k9m3 : Method := { name := "putChar", desc := "([BII)V", sig := { parameters := [(.array .byte), .int, .int], returnType := none }, accessFlags := 8, code := some k9c3 }
def k9c4 : Code := { maxStack := 3, maxLocals := 2, code := jdk_52_method_5_code, exceptionTable := #[], attributes := #[] }
def k9m4 : Method := { name := "getChar", desc := "([BI)C", sig := { parameters := [(.array .byte), .int], returnType := some .char }, accessFlags := 8, code := some k9c4 }
def k9c5 : Code := { maxStack := 2, maxLocals := 1, code := jdk_52_method_6_code, exceptionTable := #[], attributes := #[] }
def k9m5 : Method := { name := "length", desc := "([B)I", sig := { parameters := [(.array .byte)], returnType := some .int }, accessFlags := 9, code := some k9c5 }
def k9c6 : Code := { maxStack := 4, maxLocals := 5, code := jdk_52_method_14_code, exceptionTable := #[], attributes := #[] }
def k9m6 : Method := { name := "toBytes", desc := "([CII)[B", sig := { parameters := [(.array .char), .int, .int], returnType := some (.array .byte) }, accessFlags := 9, code := some k9c6 }
def k9c7 : Code := { maxStack := 2, maxLocals := 2, code := jdk_52_method_15_code, exceptionTable := #[], attributes := #[] }
def k9m7 : Method := { name := "coderFromArrayLen", desc := "([BI)B", sig := { parameters := [(.array .byte), .int], returnType := some .byte }, accessFlags := 8, code := some k9c7 }
def k9c8 : Code := { maxStack := 5, maxLocals := 6, code := jdk_52_method_16_code, exceptionTable := #[], attributes := #[] }
def k9m8 : Method := { name := "compress", desc := "([CII)[B", sig := { parameters := [(.array .char), .int, .int], returnType := some (.array .byte) }, accessFlags := 9, code := some k9c8 }
def k9c9 : Code := { maxStack := 3, maxLocals := 7, code := jdk_52_method_21_code, exceptionTable := #[], attributes := #[] }
def k9m9 : Method := { name := "compress", desc := "([CI[BII)I", sig := { parameters := [(.array .char), .int, (.array .byte), .int, .int], returnType := some .int }, accessFlags := 9, code := some k9c9 }
def k9c10 : Code := { maxStack := 2, maxLocals := 2, code := jdk_52_method_83_code, exceptionTable := #[], attributes := #[] }
def k9m10 : Method := { name := "charAt", desc := "([BI)C", sig := { parameters := [(.array .byte), .int], returnType := some .char }, accessFlags := 9, code := some k9c10 }
def k9c11 : Code := { maxStack := 2, maxLocals := 2, code := jdk_52_method_91_code, exceptionTable := #[], attributes := #[] }
def k9m11 : Method := { name := "checkIndex", desc := "(I[B)V", sig := { parameters := [.int, (.array .byte)], returnType := none }, accessFlags := 9, code := some k9c11 }
/-- java/lang/StringUTF16 -/
def k9 : Class := { plain "java/lang/StringUTF16" (some 0) with
  accessFlags := 48
  interfaces := #[]
  cf := some (fileOf pool9 12 #[.nestMembers #[627, 629, 369]] #[{ accessFlags := 0, nameIndex := 9, descriptorIndex := 10, attributes := #[] }, { accessFlags := 9, nameIndex := 109, descriptorIndex := 110, attributes := #[] }, { accessFlags := 9, nameIndex := 15, descriptorIndex := 16, attributes := #[] }, { accessFlags := 8, nameIndex := 113, descriptorIndex := 114, attributes := #[] }, { accessFlags := 8, nameIndex := 73, descriptorIndex := 74, attributes := #[] }, { accessFlags := 9, nameIndex := 50, descriptorIndex := 51, attributes := #[] }, { accessFlags := 9, nameIndex := 121, descriptorIndex := 122, attributes := #[] }, { accessFlags := 8, nameIndex := 261, descriptorIndex := 262, attributes := #[] }, { accessFlags := 9, nameIndex := 117, descriptorIndex := 122, attributes := #[] }, { accessFlags := 9, nameIndex := 117, descriptorIndex := 118, attributes := #[] }, { accessFlags := 9, nameIndex := 392, descriptorIndex := 74, attributes := #[] }, { accessFlags := 9, nameIndex := 69, descriptorIndex := 70, attributes := #[] }] 48 6 #[] #[{ accessFlags := 26, nameIndex := 61, descriptorIndex := 62, attributes := #[] }, { accessFlags := 26, nameIndex := 65, descriptorIndex := 62, attributes := #[] }, { accessFlags := 24, nameIndex := 430, descriptorIndex := 62, attributes := #[] }, { accessFlags := 4120, nameIndex := 46, descriptorIndex := 47, attributes := #[] }])
  fields := #[{ name := "HI_BYTE_SHIFT", type := .int, accessFlags := 26, slot := 0, constantValue := 0 }, { name := "LO_BYTE_SHIFT", type := .int, accessFlags := 26, slot := 1, constantValue := 0 }, { name := "MAX_LENGTH", type := .int, accessFlags := 24, slot := 2, constantValue := 0 }, { name := "$assertionsDisabled", type := .boolean, accessFlags := 4120, slot := 3, constantValue := 0 }]
  methods := #[k9m0, k9m1, k9m2, k9m3, k9m4, k9m5, k9m6, k9m7, k9m8, k9m9, k9m10, k9m11]
  instanceTypes := #[]
  staticTypes := #[.int, .int, .int, .boolean]
  resolved := Array.replicate 635 none
  statics := some 1 }

def pool10 : Array CpInfo := pool [(1, .class_ 2), (0, u "java/lang/String"), (1, .class_ 6), (1, u "java/lang/Object"), (0, u "<init>"), (0, u "()V"), (0, .methodref 1 10), (0, .nameAndType 11 12), (0, u "checkIndex"), (0, u "(II)V"), (1, .class_ 16), (1, u "java/lang/StringLatin1"), (36, u "([BI)C"), (67, u "$assertionsDisabled"), (0, u "Z"), (98, .class_ 223), (1, u "java/lang/StringLatin1$LinesSpliterator"), (28, u "charAt"), (137, .class_ 391), (0, u "java/lang/StringLatin1$CharsSpliterator")] 3

def k10m0 : Method := { name := "<init>", desc := "()V", sig := { parameters := [], returnType := none }, accessFlags := 0, code := none }
def k10c1 : Code := { maxStack := 2, maxLocals := 2, code := jdk_43_method_2_code, exceptionTable := #[], attributes := #[] }
def k10m1 : Method := { name := "charAt", desc := "([BI)C", sig := { parameters := [(.array .byte), .int], returnType := some .char }, accessFlags := 9, code := some k10c1 }
/-- java/lang/StringLatin1 -/
def k10 : Class := { plain "java/lang/StringLatin1" (some 0) with
  accessFlags := 48
  interfaces := #[]
  cf := some (fileOf pool10 14 #[.nestMembers #[390, 221]] #[{ accessFlags := 0, nameIndex := 7, descriptorIndex := 8, attributes := #[] }, { accessFlags := 9, nameIndex := 252, descriptorIndex := 53, attributes := #[] }] 48 4 #[] #[{ accessFlags := 4120, nameIndex := 121, descriptorIndex := 122, attributes := #[] }])
  fields := #[{ name := "$assertionsDisabled", type := .boolean, accessFlags := 4120, slot := 0, constantValue := 0 }]
  methods := #[k10m0, k10m1]
  instanceTypes := #[]
  staticTypes := #[.boolean]
  resolved := Array.replicate 395 none
  statics := none }

def pool11 : Array CpInfo := pool [(2, .class_ 4), (1, u "java/lang/Object"), (0, u "<init>"), (0, u "()V"), (17, .class_ 26), (1, u "jdk/internal/util/Preconditions"), (6, u "checkIndex"), (21, .class_ 56), (0, u "jdk/internal/util/Preconditions$4"), (57, .class_ 115), (0, u "jdk/internal/util/Preconditions$1"), (7, u "SIOOBE_FORMATTER"), (0, u "Ljava/util/function/BiFunction;"), (0, .class_ 126), (0, u "jdk/internal/util/Preconditions$2"), (3, u "AIOOBE_FORMATTER"), (0, .class_ 132), (0, u "jdk/internal/util/Preconditions$3"), (3, u "IOOBE_FORMATTER"), (41, u "(IILjava/util/function/BiFunction;)I")] 15

def k11m0 : Method := { name := "<init>", desc := "()V", sig := { parameters := [], returnType := none }, accessFlags := 1, code := none }
def k11c1 : Code := { maxStack := 3, maxLocals := 3, code := jdk_41_method_11_code, exceptionTable := #[], attributes := #[] }
def k11m1 : Method := { name := "checkIndex", desc := "(IILjava/util/function/BiFunction;)I", sig := { parameters := [.int, .int, (.object "java/util/function/BiFunction")], returnType := some .int }, accessFlags := 9, code := some k11c1 }
/-- jdk/internal/util/Preconditions -/
def k11 : Class := { plain "jdk/internal/util/Preconditions" (some 0) with
  accessFlags := 33
  interfaces := #[]
  cf := some (fileOf pool11 24 #[.nestMembers #[55, 131, 125, 114]] #[{ accessFlags := 1, nameIndex := 5, descriptorIndex := 6, attributes := #[] }, { accessFlags := 9, nameIndex := 33, descriptorIndex := 178, attributes := #[] }] 33 2 #[] #[{ accessFlags := 25, nameIndex := 123, descriptorIndex := 124, attributes := #[] }, { accessFlags := 25, nameIndex := 130, descriptorIndex := 124, attributes := #[] }, { accessFlags := 25, nameIndex := 136, descriptorIndex := 124, attributes := #[] }])
  fields := #[{ name := "SIOOBE_FORMATTER", type := (.object "java/util/function/BiFunction"), accessFlags := 25, slot := 0, constantValue := 0 }, { name := "AIOOBE_FORMATTER", type := (.object "java/util/function/BiFunction"), accessFlags := 25, slot := 1, constantValue := 0 }, { name := "IOOBE_FORMATTER", type := (.object "java/util/function/BiFunction"), accessFlags := 25, slot := 2, constantValue := 0 }]
  methods := #[k11m0, k11m1]
  instanceTypes := #[]
  staticTypes := #[(.object "java/util/function/BiFunction"), (.object "java/util/function/BiFunction"), (.object "java/util/function/BiFunction")]
  resolved := Array.replicate 194 none
  statics := some 2 }

def pool12 : Array CpInfo := pool [(9, u "<init>"), (6, .class_ 18), (1, u "java/lang/Object"), (0, u "()V"), (1, .class_ 23), (1, u "jdk/internal/util/ArraysSupport"), (0, u "LOG2_ARRAY_LONG_INDEX_SCALE"), (0, u "I"), (2, u "U"), (0, u "Ljdk/internal/misc/Unsafe;"), (8, u "BIG_ENDIAN"), (0, u "Z"), (8, u "LOG2_BYTE_BIT_SIZE"), (4, u "LOG2_ARRAY_INT_INDEX_SCALE"), (54, u "JLA"), (0, u "Ljdk/internal/access/JavaLangAccess;"), (11, u "LOG2_ARRAY_BOOLEAN_INDEX_SCALE"), (9, u "LOG2_ARRAY_BYTE_INDEX_SCALE"), (5, u "LOG2_ARRAY_CHAR_INDEX_SCALE"), (5, u "LOG2_ARRAY_SHORT_INDEX_SCALE"), (18, u "LOG2_ARRAY_FLOAT_INDEX_SCALE"), (24, u "LOG2_ARRAY_DOUBLE_INDEX_SCALE"), (89, u "T_BOOLEAN"), (2, u "T_CHAR"), (1, u "T_FLOAT"), (1, u "T_DOUBLE"), (1, u "T_BYTE"), (1, u "T_SHORT"), (1, u "T_INT"), (1, u "T_LONG"), (1, u "SOFT_MAX_ARRAY_LENGTH")] 83

def k12m0 : Method := { name := "<init>", desc := "()V", sig := { parameters := [], returnType := none }, accessFlags := 2, code := none }
/-- jdk/internal/util/ArraysSupport -/
def k12 : Class := { plain "jdk/internal/util/ArraysSupport" (some 0) with
  accessFlags := 33
  interfaces := #[]
  cf := some (fileOf pool12 21 #[] #[{ accessFlags := 2, nameIndex := 9, descriptorIndex := 19, attributes := #[] }] 33 16 #[] #[{ accessFlags := 24, nameIndex := 28, descriptorIndex := 29, attributes := #[] }, { accessFlags := 26, nameIndex := 38, descriptorIndex := 39, attributes := #[] }, { accessFlags := 25, nameIndex := 121, descriptorIndex := 25, attributes := #[] }, { accessFlags := 25, nameIndex := 131, descriptorIndex := 25, attributes := #[] }, { accessFlags := 25, nameIndex := 137, descriptorIndex := 25, attributes := #[] }, { accessFlags := 25, nameIndex := 143, descriptorIndex := 25, attributes := #[] }, { accessFlags := 25, nameIndex := 53, descriptorIndex := 25, attributes := #[] }, { accessFlags := 25, nameIndex := 24, descriptorIndex := 25, attributes := #[] }, { accessFlags := 25, nameIndex := 162, descriptorIndex := 25, attributes := #[] }, { accessFlags := 25, nameIndex := 187, descriptorIndex := 25, attributes := #[] }, { accessFlags := 26, nameIndex := 48, descriptorIndex := 25, attributes := #[] }, { accessFlags := 25, nameIndex := 277, descriptorIndex := 25, attributes := #[] }, { accessFlags := 25, nameIndex := 280, descriptorIndex := 25, attributes := #[] }, { accessFlags := 25, nameIndex := 282, descriptorIndex := 25, attributes := #[] }, { accessFlags := 25, nameIndex := 284, descriptorIndex := 25, attributes := #[] }, { accessFlags := 25, nameIndex := 286, descriptorIndex := 25, attributes := #[] }, { accessFlags := 25, nameIndex := 288, descriptorIndex := 25, attributes := #[] }, { accessFlags := 25, nameIndex := 290, descriptorIndex := 25, attributes := #[] }, { accessFlags := 25, nameIndex := 292, descriptorIndex := 25, attributes := #[] }, { accessFlags := 26, nameIndex := 108, descriptorIndex := 109, attributes := #[] }, { accessFlags := 25, nameIndex := 294, descriptorIndex := 25, attributes := #[] }])
  fields := #[{ name := "U", type := (.object "jdk/internal/misc/Unsafe"), accessFlags := 24, slot := 0, constantValue := 0 }, { name := "BIG_ENDIAN", type := .boolean, accessFlags := 26, slot := 1, constantValue := 0 }, { name := "LOG2_ARRAY_BOOLEAN_INDEX_SCALE", type := .int, accessFlags := 25, slot := 2, constantValue := 0 }, { name := "LOG2_ARRAY_BYTE_INDEX_SCALE", type := .int, accessFlags := 25, slot := 3, constantValue := 0 }, { name := "LOG2_ARRAY_CHAR_INDEX_SCALE", type := .int, accessFlags := 25, slot := 4, constantValue := 0 }, { name := "LOG2_ARRAY_SHORT_INDEX_SCALE", type := .int, accessFlags := 25, slot := 5, constantValue := 0 }, { name := "LOG2_ARRAY_INT_INDEX_SCALE", type := .int, accessFlags := 25, slot := 6, constantValue := 0 }, { name := "LOG2_ARRAY_LONG_INDEX_SCALE", type := .int, accessFlags := 25, slot := 7, constantValue := 0 }, { name := "LOG2_ARRAY_FLOAT_INDEX_SCALE", type := .int, accessFlags := 25, slot := 8, constantValue := 0 }, { name := "LOG2_ARRAY_DOUBLE_INDEX_SCALE", type := .int, accessFlags := 25, slot := 9, constantValue := 0 }, { name := "LOG2_BYTE_BIT_SIZE", type := .int, accessFlags := 26, slot := 10, constantValue := 0 }, { name := "T_BOOLEAN", type := .int, accessFlags := 25, slot := 11, constantValue := 0 }, { name := "T_CHAR", type := .int, accessFlags := 25, slot := 12, constantValue := 0 }, { name := "T_FLOAT", type := .int, accessFlags := 25, slot := 13, constantValue := 0 }, { name := "T_DOUBLE", type := .int, accessFlags := 25, slot := 14, constantValue := 0 }, { name := "T_BYTE", type := .int, accessFlags := 25, slot := 15, constantValue := 0 }, { name := "T_SHORT", type := .int, accessFlags := 25, slot := 16, constantValue := 0 }, { name := "T_INT", type := .int, accessFlags := 25, slot := 17, constantValue := 0 }, { name := "T_LONG", type := .int, accessFlags := 25, slot := 18, constantValue := 0 }, { name := "JLA", type := (.object "jdk/internal/access/JavaLangAccess"), accessFlags := 26, slot := 19, constantValue := 0 }, { name := "SOFT_MAX_ARRAY_LENGTH", type := .int, accessFlags := 25, slot := 20, constantValue := 0 }]
  methods := #[k12m0]
  instanceTypes := #[]
  staticTypes := #[(.object "jdk/internal/misc/Unsafe"), .boolean, .int, .int, .int, .int, .int, .int, .int, .int, .int, .int, .int, .int, .int, .int, .int, .int, .int, (.object "jdk/internal/access/JavaLangAccess"), .int]
  resolved := Array.replicate 378 none
  statics := none }

def pool13 : Array CpInfo := pool [(1, u "java/lang/Cloneable"), (0, .class_ 1), (0, u "java/lang/Object"), (0, .class_ 3)] 3

/-- java/lang/Cloneable -/
def k13 : Class := { plain "java/lang/Cloneable" (some 0) with
  accessFlags := 1537
  interfaces := #[]
  cf := some (fileOf pool13 2 #[] #[] 1537 4 #[] #[])
  fields := #[]
  methods := #[]
  instanceTypes := #[]
  staticTypes := #[]
  resolved := Array.replicate 8 none
  statics := none }

/-- the primitive byte -/
def k14 : Class := { plain "byte" none with kind := .primitive 'B', accessFlags := 0x411 }
/-- [B -/
def k15 : Class := { plain "[B" (some 0) with kind := .array 14 .byte, interfaces := #[13, 2], accessFlags := 1041 }

/-- the primitive char -/
def k16 : Class := { plain "char" none with kind := .primitive 'C', accessFlags := 0x411 }
/-- [C -/
def k17 : Class := { plain "[C" (some 0) with kind := .array 16 .char, interfaces := #[13, 2], accessFlags := 1041 }

/-- the primitive int -/
def k18 : Class := { plain "int" none with kind := .primitive 'I', accessFlags := 0x411 }
/-- [I -/
def k19 : Class := { plain "[I" (some 0) with kind := .array 18 .int, interfaces := #[13, 2], accessFlags := 1041 }

def heap : Heap := #[{ cls := 7, slots := #[.long 0, .int 1, .null, .int 0, .null, .int 0, .int 0], vm := .statics 7 },
  { cls := 9, slots := #[.int 0, .int 8, .int 0, .int 1], vm := .statics 9 },
  { cls := 11, slots := #[.null, .null, .null], vm := .statics 11 }]
def classes : Array Class := #[k0, k1, k2, k3, k4, k5, k6, k7, k8, k9, k10, k11, k12, k13, k14, k15, k16, k17, k18, k19]
def interned : List (Array UInt16 × Addr) := []
def slotsUsed : Nat := 14
def theMethod : MethodId := ⟨1, 2⟩
def args0 : Array Value := #[.int 3, .int 7, .int 5, .int 2, .int 2, .int 2]
def aboutOver (below : List Frame) : State where
  vm := { classes := classes, interned := interned.toArray }
  heap := heap
  slotsUsed := slotsUsed
  threads := #[{ frames := .invoking theMethod args0 :: below }]
def below0 : List Frame := [.native { method := ⟨0, 0⟩, args := #[] }]
def about1 : State := aboutOver below0
def p0 : Program := .bare "" "" ""
def e0 : Env := launch0.env 0 0 0
theorem w_frames : about1.frames = Frame.invoking theMethod args0 :: below0 := rfl
set_option maxRecDepth 65536 in
theorem w_args : argsFit about1.vm theMethod args0 = true := by decide +kernel
set_option maxRecDepth 65536 in
theorem w_heap : heapFits about1 = true := by decide +kernel
set_option maxRecDepth 65536 in
theorem w_runnable : about1.curStatus? = some .runnable := by decide +kernel
set_option maxRecDepth 65536 in
theorem w_alone : about1.alone = true := by decide +kernel
set_option maxRecDepth 65536 in
theorem w_named : about1.methodNamed? x = some theMethod := by decide +kernel
set_option maxRecDepth 65536 in
theorem w_hears : about1.hears theMethod below0 = true := by decide +kernel
set_option maxRecDepth 65536 in
theorem w_ripe : about1.ripe theMethod args0 below0 = true := by decide +kernel
theorem w_running : about1.status = .running := rfl
set_option maxRecDepth 65536 in
theorem w_room : about1.hasRoom e0.platform room_1 = true :=
  launch0.hasRoom_least _ room_1 (by decide +kernel) (by decide +kernel) (by decide +kernel) (by decide +kernel) (by decide +kernel) (by decide +kernel)
theorem allAtoms_all (ts : List Jvm.Cond) (a : Array Jvm.Value) (st : Jvm.State) : (allAtoms ts).before a st = ts.all (fun c => c.before a st) := by
  induction ts with
  | nil => rfl
  | cons c t ih =>
    show (Jvm.Cond.and c (allAtoms t)).before a st = _
    rw [Jvm.Cond.before_and, ih, List.all_cons]
def words1 : List Jvm.Cond := Jvm.Cond.code x code maxLocals ret :: tables_1
/-- a 'code' word, met by the world's own term for the bytes: nothing is compared byte by byte -/
theorem code_word {y : MethodName} {bytes : ByteArray} {mx : Nat} {rt : Option FieldType} {a : Array Value} {s : State} {m : MethodId} {meth : Method} {c : Code} (h1 : s.methodNamed? y = some m) (h2 : s.vm.method? m = some meth) (h3 : meth.code = some c) (h4 : c.code = bytes)
    (h5 : (c.maxLocals == mx && c.exceptionTable.isEmpty && decide (c.maxStack ≤ mostOperands) && decide (meth.sig.returnType = rt) && !meth.locks && decide (parseMethodDescriptor y.desc = some meth.sig)) = true) : (Jvm.Cond.code y bytes mx rt).before a s = true := by
  simp only [Bool.and_eq_true, beq_iff_eq, Bool.not_eq_true', decide_eq_true_eq] at h5
  obtain ⟨⟨⟨⟨⟨g1, g2⟩, g3⟩, g4⟩, g5⟩, g6⟩ := h5
  simp [Cond.before, Cond.holds, Cond.value, h1, h2, h3, h4, g1, g2, g3, g4, g5, g6]
def isCode : Jvm.Cond → Bool
  | .code _ _ _ _ => true
  | _ => false
theorem all_split {L : List Jvm.Cond} {P : Jvm.Cond → Bool} (h1 : L.all (fun c => isCode c || P c) = true) (h2 : ∀ c ∈ L.filter isCode, P c = true) : L.all P = true := by
  refine List.all_eq_true.mpr fun c hc => ?_
  have h := List.all_eq_true.mp h1 c hc
  rcases Bool.eq_false_or_eq_true (isCode c) with hi | hi
  · exact h2 c (List.mem_filter.mpr ⟨hc, hi⟩)
  · simpa [hi] using h
set_option maxRecDepth 65536 in
theorem w_c0 : (Jvm.Cond.code x code maxLocals ret).before args0 about1 = true := code_word (m := ⟨1, 2⟩) (meth := k1m2) (c := k1c2) (by decide +kernel) rfl rfl rfl (by decide +kernel)
set_option maxRecDepth 65536 in
theorem w_c1 : (Jvm.Cond.code ({ cls := "java/lang/String", name := "<init>", desc := "([C)V" } : Jvm.MethodName) jdk_42_method_3_code (2 : Nat) (Option.none : Option Jvm.ClassFile.FieldType)).before args0 about1 = true := code_word (m := ⟨7, 1⟩) (meth := k7m1) (c := k7c1) (by decide +kernel) rfl rfl rfl (by decide +kernel)
set_option maxRecDepth 65536 in
theorem w_c2 : (Jvm.Cond.code ({ cls := "java/lang/String", name := "<init>", desc := "([CIILjava/lang/Void;)V" } : Jvm.MethodName) jdk_42_method_149_code (6 : Nat) (Option.none : Option Jvm.ClassFile.FieldType)).before args0 about1 = true := code_word (m := ⟨7, 4⟩) (meth := k7m4) (c := k7c4) (by decide +kernel) rfl rfl rfl (by decide +kernel)
set_option maxRecDepth 65536 in
theorem w_c3 : (Jvm.Cond.code ({ cls := "java/lang/Object", name := "<init>", desc := "()V" } : Jvm.MethodName) object_method_1_code (1 : Nat) (Option.none : Option Jvm.ClassFile.FieldType)).before args0 about1 = true := code_word (m := ⟨0, 0⟩) (meth := k0m0) (c := k0c0) (by decide +kernel) rfl rfl rfl (by decide +kernel)
set_option maxRecDepth 65536 in
theorem w_c4 : (Jvm.Cond.code ({ cls := "com/example/rowfold/rowfold/Literal", name := "<init>", desc := "(Ljava/lang/String;)V" } : Jvm.MethodName) prog_8_method_1_code (2 : Nat) (Option.none : Option Jvm.ClassFile.FieldType)).before args0 about1 = true := code_word (m := ⟨8, 0⟩) (meth := k8m0) (c := k8c0) (by decide +kernel) rfl rfl rfl (by decide +kernel)
set_option maxRecDepth 65536 in
theorem w_c5 : (Jvm.Cond.code ({ cls := "com/example/rowfold/rowfold/Literal", name := "skip", desc := "(C)Z" } : Jvm.MethodName) prog_8_method_4_code (3 : Nat) (Option.some Jvm.ClassFile.FieldType.boolean)).before args0 about1 = true := code_word (m := ⟨8, 1⟩) (meth := k8m1) (c := k8c1) (by decide +kernel) rfl rfl rfl (by decide +kernel)
set_option maxRecDepth 65536 in
theorem w_c6 : (Jvm.Cond.code ({ cls := "java/lang/String", name := "length", desc := "()I" } : Jvm.MethodName) jdk_42_method_54_code (1 : Nat) (Option.some Jvm.ClassFile.FieldType.int)).before args0 about1 = true := code_word (m := ⟨7, 2⟩) (meth := k7m2) (c := k7c2) (by decide +kernel) rfl rfl rfl (by decide +kernel)
set_option maxRecDepth 65536 in
theorem w_c7 : (Jvm.Cond.code ({ cls := "java/lang/String", name := "coder", desc := "()B" } : Jvm.MethodName) jdk_42_method_152_code (1 : Nat) (Option.some Jvm.ClassFile.FieldType.byte)).before args0 about1 = true := code_word (m := ⟨7, 5⟩) (meth := k7m5) (c := k7c5) (by decide +kernel) rfl rfl rfl (by decide +kernel)
set_option maxRecDepth 65536 in
theorem w_c8 : (Jvm.Cond.code ({ cls := "com/example/rowfold/rowfold/LiteralSkipPinLaw", name := "matches", desc := "(IICCC)Z" } : Jvm.MethodName) method_2_code (6 : Nat) (Option.some Jvm.ClassFile.FieldType.boolean)).before args0 about1 = true := code_word (m := ⟨1, 1⟩) (meth := k1m1) (c := k1c1) (by decide +kernel) rfl rfl rfl (by decide +kernel)
set_option maxRecDepth 65536 in
theorem w_c9 : (Jvm.Cond.code ({ cls := "java/lang/StringUTF16", name := "compress", desc := "([CII)[B" } : Jvm.MethodName) jdk_52_method_16_code (6 : Nat) (Option.some (Jvm.ClassFile.FieldType.array Jvm.ClassFile.FieldType.byte))).before args0 about1 = true := code_word (m := ⟨9, 8⟩) (meth := k9m8) (c := k9c8) (by decide +kernel) rfl rfl rfl (by decide +kernel)
set_option maxRecDepth 65536 in
theorem w_c10 : (Jvm.Cond.code ({ cls := "java/lang/StringUTF16", name := "compress", desc := "([CI[BII)I" } : Jvm.MethodName) jdk_52_method_21_code (7 : Nat) (Option.some Jvm.ClassFile.FieldType.int)).before args0 about1 = true := code_word (m := ⟨9, 9⟩) (meth := k9m9) (c := k9c9) (by decide +kernel) rfl rfl rfl (by decide +kernel)
set_option maxRecDepth 65536 in
theorem w_c11 : (Jvm.Cond.code ({ cls := "java/lang/StringUTF16", name := "coderFromArrayLen", desc := "([BI)B" } : Jvm.MethodName) jdk_52_method_15_code (2 : Nat) (Option.some Jvm.ClassFile.FieldType.byte)).before args0 about1 = true := code_word (m := ⟨9, 7⟩) (meth := k9m7) (c := k9c7) (by decide +kernel) rfl rfl rfl (by decide +kernel)
set_option maxRecDepth 65536 in
theorem w_c12 : (Jvm.Cond.code ({ cls := "java/lang/String", name := "charAt", desc := "(I)C" } : Jvm.MethodName) jdk_42_method_56_code (2 : Nat) (Option.some Jvm.ClassFile.FieldType.char)).before args0 about1 = true := code_word (m := ⟨7, 3⟩) (meth := k7m3) (c := k7c3) (by decide +kernel) rfl rfl rfl (by decide +kernel)
set_option maxRecDepth 65536 in
theorem w_c13 : (Jvm.Cond.code ({ cls := "java/lang/String", name := "isLatin1", desc := "()Z" } : Jvm.MethodName) jdk_42_method_154_code (1 : Nat) (Option.some Jvm.ClassFile.FieldType.boolean)).before args0 about1 = true := code_word (m := ⟨7, 6⟩) (meth := k7m6) (c := k7c6) (by decide +kernel) rfl rfl rfl (by decide +kernel)
set_option maxRecDepth 65536 in
theorem w_c14 : (Jvm.Cond.code ({ cls := "java/lang/StringLatin1", name := "charAt", desc := "([BI)C" } : Jvm.MethodName) jdk_43_method_2_code (2 : Nat) (Option.some Jvm.ClassFile.FieldType.char)).before args0 about1 = true := code_word (m := ⟨10, 1⟩) (meth := k10m1) (c := k10c1) (by decide +kernel) rfl rfl rfl (by decide +kernel)
set_option maxRecDepth 65536 in
theorem w_c15 : (Jvm.Cond.code ({ cls := "java/lang/String", name := "checkIndex", desc := "(II)V" } : Jvm.MethodName) jdk_42_method_155_code (2 : Nat) (Option.none : Option Jvm.ClassFile.FieldType)).before args0 about1 = true := code_word (m := ⟨7, 7⟩) (meth := k7m7) (c := k7c7) (by decide +kernel) rfl rfl rfl (by decide +kernel)
set_option maxRecDepth 65536 in
theorem w_c16 : (Jvm.Cond.code ({ cls := "jdk/internal/util/Preconditions", name := "checkIndex", desc := "(IILjava/util/function/BiFunction;)I" } : Jvm.MethodName) jdk_41_method_11_code (3 : Nat) (Option.some Jvm.ClassFile.FieldType.int)).before args0 about1 = true := code_word (m := ⟨11, 1⟩) (meth := k11m1) (c := k11c1) (by decide +kernel) rfl rfl rfl (by decide +kernel)
set_option maxRecDepth 65536 in
theorem w_c17 : (Jvm.Cond.code ({ cls := "java/lang/StringUTF16", name := "toBytes", desc := "([CII)[B" } : Jvm.MethodName) jdk_52_method_14_code (5 : Nat) (Option.some (Jvm.ClassFile.FieldType.array Jvm.ClassFile.FieldType.byte))).before args0 about1 = true := code_word (m := ⟨9, 6⟩) (meth := k9m6) (c := k9c6) (by decide +kernel) rfl rfl rfl (by decide +kernel)
set_option maxRecDepth 65536 in
theorem w_c18 : (Jvm.Cond.code ({ cls := "java/lang/StringUTF16", name := "newBytesFor", desc := "(I)[B" } : Jvm.MethodName) jdk_52_method_2_code (1 : Nat) (Option.some (Jvm.ClassFile.FieldType.array Jvm.ClassFile.FieldType.byte))).before args0 about1 = true := code_word (m := ⟨9, 1⟩) (meth := k9m1) (c := k9c1) (by decide +kernel) rfl rfl rfl (by decide +kernel)
set_option maxRecDepth 65536 in
theorem w_c19 : (Jvm.Cond.code ({ cls := "java/lang/StringUTF16", name := "newBytesLength", desc := "(I)I" } : Jvm.MethodName) jdk_52_method_3_code (1 : Nat) (Option.some Jvm.ClassFile.FieldType.int)).before args0 about1 = true := code_word (m := ⟨9, 2⟩) (meth := k9m2) (c := k9c2) (by decide +kernel) rfl rfl rfl (by decide +kernel)
set_option maxRecDepth 65536 in
theorem w_c20 : (Jvm.Cond.code ({ cls := "java/lang/StringUTF16", name := "putChar", desc := "([BII)V" } : Jvm.MethodName) jdk_52_method_4_code (3 : Nat) (Option.none : Option Jvm.ClassFile.FieldType)).before args0 about1 = true := code_word (m := ⟨9, 3⟩) (meth := k9m3) (c := k9c3) (by decide +kernel) rfl rfl rfl (by decide +kernel)
set_option maxRecDepth 65536 in
theorem w_c21 : (Jvm.Cond.code ({ cls := "java/lang/StringUTF16", name := "getChar", desc := "([BI)C" } : Jvm.MethodName) jdk_52_method_5_code (2 : Nat) (Option.some Jvm.ClassFile.FieldType.char)).before args0 about1 = true := code_word (m := ⟨9, 4⟩) (meth := k9m4) (c := k9c4) (by decide +kernel) rfl rfl rfl (by decide +kernel)
set_option maxRecDepth 65536 in
theorem w_c22 : (Jvm.Cond.code ({ cls := "java/lang/StringUTF16", name := "charAt", desc := "([BI)C" } : Jvm.MethodName) jdk_52_method_83_code (2 : Nat) (Option.some Jvm.ClassFile.FieldType.char)).before args0 about1 = true := code_word (m := ⟨9, 10⟩) (meth := k9m10) (c := k9c10) (by decide +kernel) rfl rfl rfl (by decide +kernel)
set_option maxRecDepth 65536 in
theorem w_c23 : (Jvm.Cond.code ({ cls := "java/lang/StringUTF16", name := "checkIndex", desc := "(I[B)V" } : Jvm.MethodName) jdk_52_method_91_code (2 : Nat) (Option.none : Option Jvm.ClassFile.FieldType)).before args0 about1 = true := code_word (m := ⟨9, 11⟩) (meth := k9m11) (c := k9c11) (by decide +kernel) rfl rfl rfl (by decide +kernel)
set_option maxRecDepth 65536 in
theorem w_c24 : (Jvm.Cond.code ({ cls := "java/lang/StringUTF16", name := "length", desc := "([B)I" } : Jvm.MethodName) jdk_52_method_6_code (1 : Nat) (Option.some Jvm.ClassFile.FieldType.int)).before args0 about1 = true := code_word (m := ⟨9, 5⟩) (meth := k9m5) (c := k9c5) (by decide +kernel) rfl rfl rfl (by decide +kernel)
def codes1 : List Jvm.Cond := [Jvm.Cond.code x code maxLocals ret, Jvm.Cond.code ({ cls := "java/lang/String", name := "<init>", desc := "([C)V" } : Jvm.MethodName) jdk_42_method_3_code (2 : Nat) (Option.none : Option Jvm.ClassFile.FieldType), Jvm.Cond.code ({ cls := "java/lang/String", name := "<init>", desc := "([CIILjava/lang/Void;)V" } : Jvm.MethodName) jdk_42_method_149_code (6 : Nat) (Option.none : Option Jvm.ClassFile.FieldType), Jvm.Cond.code ({ cls := "java/lang/Object", name := "<init>", desc := "()V" } : Jvm.MethodName) object_method_1_code (1 : Nat) (Option.none : Option Jvm.ClassFile.FieldType), Jvm.Cond.code ({ cls := "com/example/rowfold/rowfold/Literal", name := "<init>", desc := "(Ljava/lang/String;)V" } : Jvm.MethodName) prog_8_method_1_code (2 : Nat) (Option.none : Option Jvm.ClassFile.FieldType), Jvm.Cond.code ({ cls := "com/example/rowfold/rowfold/Literal", name := "skip", desc := "(C)Z" } : Jvm.MethodName) prog_8_method_4_code (3 : Nat) (Option.some Jvm.ClassFile.FieldType.boolean), Jvm.Cond.code ({ cls := "java/lang/String", name := "length", desc := "()I" } : Jvm.MethodName) jdk_42_method_54_code (1 : Nat) (Option.some Jvm.ClassFile.FieldType.int), Jvm.Cond.code ({ cls := "java/lang/String", name := "coder", desc := "()B" } : Jvm.MethodName) jdk_42_method_152_code (1 : Nat) (Option.some Jvm.ClassFile.FieldType.byte), Jvm.Cond.code ({ cls := "com/example/rowfold/rowfold/LiteralSkipPinLaw", name := "matches", desc := "(IICCC)Z" } : Jvm.MethodName) method_2_code (6 : Nat) (Option.some Jvm.ClassFile.FieldType.boolean), Jvm.Cond.code ({ cls := "java/lang/StringUTF16", name := "compress", desc := "([CII)[B" } : Jvm.MethodName) jdk_52_method_16_code (6 : Nat) (Option.some (Jvm.ClassFile.FieldType.array Jvm.ClassFile.FieldType.byte)), Jvm.Cond.code ({ cls := "java/lang/StringUTF16", name := "compress", desc := "([CI[BII)I" } : Jvm.MethodName) jdk_52_method_21_code (7 : Nat) (Option.some Jvm.ClassFile.FieldType.int), Jvm.Cond.code ({ cls := "java/lang/StringUTF16", name := "coderFromArrayLen", desc := "([BI)B" } : Jvm.MethodName) jdk_52_method_15_code (2 : Nat) (Option.some Jvm.ClassFile.FieldType.byte), Jvm.Cond.code ({ cls := "java/lang/String", name := "charAt", desc := "(I)C" } : Jvm.MethodName) jdk_42_method_56_code (2 : Nat) (Option.some Jvm.ClassFile.FieldType.char), Jvm.Cond.code ({ cls := "java/lang/String", name := "isLatin1", desc := "()Z" } : Jvm.MethodName) jdk_42_method_154_code (1 : Nat) (Option.some Jvm.ClassFile.FieldType.boolean), Jvm.Cond.code ({ cls := "java/lang/StringLatin1", name := "charAt", desc := "([BI)C" } : Jvm.MethodName) jdk_43_method_2_code (2 : Nat) (Option.some Jvm.ClassFile.FieldType.char), Jvm.Cond.code ({ cls := "java/lang/String", name := "checkIndex", desc := "(II)V" } : Jvm.MethodName) jdk_42_method_155_code (2 : Nat) (Option.none : Option Jvm.ClassFile.FieldType), Jvm.Cond.code ({ cls := "jdk/internal/util/Preconditions", name := "checkIndex", desc := "(IILjava/util/function/BiFunction;)I" } : Jvm.MethodName) jdk_41_method_11_code (3 : Nat) (Option.some Jvm.ClassFile.FieldType.int), Jvm.Cond.code ({ cls := "java/lang/StringUTF16", name := "toBytes", desc := "([CII)[B" } : Jvm.MethodName) jdk_52_method_14_code (5 : Nat) (Option.some (Jvm.ClassFile.FieldType.array Jvm.ClassFile.FieldType.byte)), Jvm.Cond.code ({ cls := "java/lang/StringUTF16", name := "newBytesFor", desc := "(I)[B" } : Jvm.MethodName) jdk_52_method_2_code (1 : Nat) (Option.some (Jvm.ClassFile.FieldType.array Jvm.ClassFile.FieldType.byte)), Jvm.Cond.code ({ cls := "java/lang/StringUTF16", name := "newBytesLength", desc := "(I)I" } : Jvm.MethodName) jdk_52_method_3_code (1 : Nat) (Option.some Jvm.ClassFile.FieldType.int), Jvm.Cond.code ({ cls := "java/lang/StringUTF16", name := "putChar", desc := "([BII)V" } : Jvm.MethodName) jdk_52_method_4_code (3 : Nat) (Option.none : Option Jvm.ClassFile.FieldType), Jvm.Cond.code ({ cls := "java/lang/StringUTF16", name := "getChar", desc := "([BI)C" } : Jvm.MethodName) jdk_52_method_5_code (2 : Nat) (Option.some Jvm.ClassFile.FieldType.char), Jvm.Cond.code ({ cls := "java/lang/StringUTF16", name := "charAt", desc := "([BI)C" } : Jvm.MethodName) jdk_52_method_83_code (2 : Nat) (Option.some Jvm.ClassFile.FieldType.char), Jvm.Cond.code ({ cls := "java/lang/StringUTF16", name := "checkIndex", desc := "(I[B)V" } : Jvm.MethodName) jdk_52_method_91_code (2 : Nat) (Option.none : Option Jvm.ClassFile.FieldType), Jvm.Cond.code ({ cls := "java/lang/StringUTF16", name := "length", desc := "([B)I" } : Jvm.MethodName) jdk_52_method_6_code (1 : Nat) (Option.some Jvm.ClassFile.FieldType.int)]
set_option maxRecDepth 65536 in
theorem codes_eq : words1.filter isCode = codes1 := rfl
theorem w_codes : ∀ c ∈ words1.filter isCode, c.before args0 about1 = true := by
  rw [codes_eq]
  intro c hc
  simp only [codes1, List.mem_cons, List.not_mem_nil, or_false] at hc
  rcases hc with rfl | rfl | rfl | rfl | rfl | rfl | rfl | rfl | rfl | rfl | rfl | rfl | rfl | rfl | rfl | rfl | rfl | rfl | rfl | rfl | rfl | rfl | rfl | rfl | rfl
  · exact w_c0
  · exact w_c1
  · exact w_c2
  · exact w_c3
  · exact w_c4
  · exact w_c5
  · exact w_c6
  · exact w_c7
  · exact w_c8
  · exact w_c9
  · exact w_c10
  · exact w_c11
  · exact w_c12
  · exact w_c13
  · exact w_c14
  · exact w_c15
  · exact w_c16
  · exact w_c17
  · exact w_c18
  · exact w_c19
  · exact w_c20
  · exact w_c21
  · exact w_c22
  · exact w_c23
  · exact w_c24
set_option maxRecDepth 65536 in
theorem w_t1 : (words1.take 24).all (fun c => isCode c || c.before args0 about1) = true := by decide +kernel
set_option maxRecDepth 65536 in
theorem w_t2 : ((words1.drop 24).take 24).all (fun c => isCode c || c.before args0 about1) = true := by decide +kernel
set_option maxRecDepth 65536 in
theorem w_t3 : (((words1.drop 24).drop 24).take 24).all (fun c => isCode c || c.before args0 about1) = true := by decide +kernel
set_option maxRecDepth 65536 in
theorem w_t4 : ((((words1.drop 24).drop 24).drop 24).take 24).all (fun c => isCode c || c.before args0 about1) = true := by decide +kernel
set_option maxRecDepth 65536 in
theorem w_t5 : ((((words1.drop 24).drop 24).drop 24).drop 24).all (fun c => isCode c || c.before args0 about1) = true := by decide +kernel
theorem w_tables : (allAtoms (Jvm.Cond.code x code maxLocals ret :: tables_1)).before args0 about1 = true := by
  rw [allAtoms_all]
  show words1.all (fun c => c.before args0 about1) = true
  refine all_split ?_ w_codes
  rw [← List.take_append_drop 24 words1, List.all_append, w_t1, ← List.take_append_drop 24 (words1.drop 24), List.all_append, w_t2, ← List.take_append_drop 24 ((words1.drop 24).drop 24), List.all_append, w_t3, ← List.take_append_drop 24 (((words1.drop 24).drop 24).drop 24), List.all_append, w_t4, w_t5]
  rfl
set_option maxRecDepth 65536 in
theorem w_rest : rest_1_c.before args0 about1 = true := by decide +kernel
set_option maxRecDepth 65536 in
theorem w_case : (Jvm.Cond.and given_1 narrow_1).before args0 about1 = true := by decide +kernel
set_option maxRecDepth 65536 in
theorem w_consts : constsHeld consts_1 about1 := Jvm.Lit.constsHeldB_iff.mp (by decide +kernel)
theorem w_applies : (headSpec (Jvm.Cond.code x code maxLocals ret :: tables_1) room_1).applies x e0.platform about1 = true :=
  (Spec.applies_iff w_frames).mpr ⟨w_running, w_runnable, w_alone, w_named, w_hears, w_ripe, w_room, w_tables⟩
theorem atStart : AtStart classFile x code maxLocals ret World_1 tables_1 room_1 Calls_1 rest_1 Pre_1 launch0 p0 e0 about1 theMethod args0 below0 :=
  ⟨lists_1, trivial, launch0.admits_env _ _ _, launch0.least_env, fairChoices_fair.cas, fairChoices_fair.clock, w_frames, w_args, w_heap, w_applies, ⟨w_consts, trivial⟩, w_rest, w_case⟩
end start1
theorem witness_1 : WitnessClaimed_1 := ⟨start1.p0, start1.e0, start1.about1, start1.theMethod, start1.args0, start1.below0, start1.atStart⟩
end Jvm.Pilot.@@N@@
