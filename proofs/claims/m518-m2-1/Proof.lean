import JvmDerived
import JvmDerived.Pilot.@@N@@Statement
import JvmDerived.Pilot.@@N@@Code
set_option linter.unusedVariables false
set_option linter.unusedSimpArgs false
namespace Jvm.Pilot.@@N@@
open Jvm Jvm.ClassFile Sem Op Lib Jvm.Free Jvm.Stand Jvm.LawKit Jvm.RoadKit Bundle Jvm.Pilot.@@N@@.Jvm.D
/-- from the state S the run comes to an end of which Q holds -/
def Own (p : Program) (e : Env) (below : List Frame) (Q : State → Outcome → Prop) (S : State) : Prop := ∃ s₂ o, Steps p.tables e below S s₂ ∧ s₂.status = .running ∧ Ended s₂ below o ∧ Q s₂ o
theorem ogo {p : Program} {e : Env} {below : List Frame} {Q : State → Outcome → Prop} {S S' : State} (h : ∀ t, Steps p.tables e below S' t → Steps p.tables e below S t) (k : Own p e below Q S') : Own p e below Q S := by
  obtain ⟨t, o, k1, k2⟩ := k; exact ⟨t, o, h _ k1, k2⟩
theorem otr {p : Program} {e : Env} {below : List Frame} {Q : State → Outcome → Prop} {S S' : State} (h : Steps p.tables e below S S') (k : Own p e below Q S') : Own p e below Q S := by
  obtain ⟨t, o, k1, k2⟩ := k; exact ⟨t, o, h.trans k1, k2⟩
/-- what a contract says of the end: q of what is returned, of the heap and of the places written; the frame -/
abbrev oPost (q : Option Value → Heap → List Loc → Prop) (s : State) (cc ss : Nat) : State → Outcome → Prop := fun s₂ o => ∃ v L, o = .returned v ∧ q v s₂.heap L ∧ FrameEnd s o s₂ L cc ss
abbrev oMet (l : Launch) (Z : State) (y : MethodName) (code : ByteArray) (maxL : Nat) (ret : Option FieldType) (ws : List Jvm.Cond) (rm : Room) (cc ss : Nat) (as' : Array Value) (h0 : Heap) (q : Option Value → Heap → List Loc → Prop) : Prop :=
  MetFree l y (head1 (Jvm.Cond.code y code maxL ret :: ws) rm) (fun a U => a = as' ∧ Z.Warmed39 U.vm ∧ U.heap = h0) (fun _ _ _ _ _ => True) (fun _ U o U' => ∃ v L, o = .returned v ∧ q v U'.heap L ∧ FrameEnd U o U' L cc ss)
theorem oenter {l : Launch} {Z : State} {y : MethodName} {code : ByteArray} {maxL : Nat} {ret : Option FieldType} {ws : List Jvm.Cond} {rm : Room} {cc ss : Nat} {as' : Array Value} {h0 : Heap} {q : Option Value → Heap → List Loc → Prop} (pn : plainName y.cls = true) (Ls : Array Slot) (ef : ∀ m, entryFrame m as' maxL = mkF m 0 Ls [])
    (body : ∀ (p : Program) (e : Env) (s : State) (m : MethodId) (below : List Frame) (meth : Method) (c : Code) (s₁ : State), Stand p l e rm s m as' below meth c s₁ [] 0 0 → p.tables.exec = Jvm.exec → Z.Warmed39 s.vm → c.code = code → c.maxLocals = maxL → meth.sig.returnType = ret → s.vm.findClass y.cls = some m.cls → meth.name = y.name → meth.locks = false → s₁.heap = h0 → Own p e below (oPost q s cc ss) (s₁.setTop (mkF m 0 Ls []))) : oMet l Z y code maxL ret ws rm cc ss as' h0 q := by
  refine MetFree.of_bodySF (plainFor_of_name pn) hisR ?_
  intro p e s m args below meth c s₁ Bd hml0 hP hK
  obtain ⟨rfl, hZ, hh⟩ := hP
  have e0 : s₁.heap = h0 := by rw [← hh, Bd.state]; rfl
  obtain ⟨t, o, h1, h2⟩ := body p e s m below meth c s₁ (Stand.of_body Bd) Bd.exec hZ Bd.bytes hml0 Bd.returns (findClass_of_methodNamed Bd.named) (name_of_methodNamed Bd.named Bd.method).1 (BodyLoose.notSynchronized Bd) e0
  exact ⟨t, o, castTop (ef m) h1, h2⟩
def own_ushr (x y : Int32) : Int32 := (x.toUInt32 >>> (y &&& 31).toUInt32).toInt32
def own_ushrL (x : Int64) (y : Int32) : Int64 := (x.toUInt64 >>> (y &&& 0x3f).toInt64.toUInt64).toInt64
section Steps
variable {p : Program} {l : Launch} {e : Env} {R : Room} {s : State} {m : MethodId} {args : Array Value} {below : List Frame} {meth : Method} {c : Code} {T : State} {locs : List Loc} {cells slots : Nat} {Q : State → Outcome → Prop}
theorem oend {v : Option Value} {q : Option Value → Heap → List Loc → Prop} {cc ss : Nat} {S : State} (X : Stand p l e R s m args below meth c T locs cells slots) (hlk : meth.locks = false) (hv : meth.sig.returnType = none → v = none)
    (st : ∀ fs, (∀ (f : JFrame) (acts : List Action), f.method = m → f.locked = none → f.entered = [] → (doReturn e (T.setTop f) acts v).1 = T.setFrames fs) → Steps p.tables e below S (T.setFrames fs)) (hc : cells ≤ cc) (hs : slots ≤ ss) (hq : q v T.heap locs) : Own p e below (oPost q s cc ss) S := by
  obtain ⟨fs, hr, hrun, hended, hW, hsame⟩ := X.leave (v := v) hv hlk
  exact ⟨_, _, st fs hr, hrun, hended, _, _, rfl, hq, ⟨_, rfl⟩, hW, hsame.mono hc hs⟩
theorem o_aloadN (X : Stand p l e R s m args below meth c T locs cells slots) (hx : p.tables.exec = Jvm.exec) {pc : Nat} {L : Array Slot} {S : List Value} {i : Fin 4} {v : Value} (hd : decode c.code pc = .ok (.aload_n i, 1)) (hl : L[i.val]? = some (.val v)) (hv : v.isRef = true) (k : Own p e below Q (T.setTop (mkF m (pc + 1) L (v :: S)))) : Own p e below Q (T.setTop (mkF m pc L S)) :=
  ogo (fun _ k => XS.aloadN X.here hx rfl hd hl hv k) k
theorem o_aload (X : Stand p l e R s m args below meth c T locs cells slots) (hx : p.tables.exec = Jvm.exec) {pc : Nat} {L : Array Slot} {S : List Value} {i : Nat} {v : Value} (hd : decode c.code pc = .ok (.aload i, 2)) (hl : L[i]? = some (.val v)) (hv : v.isRef = true) (k : Own p e below Q (T.setTop (mkF m (pc + 2) L (v :: S)))) : Own p e below Q (T.setTop (mkF m pc L S)) :=
  ogo (fun _ k => XS.aload X.here hx rfl hd hl hv k) k
theorem o_iloadN (X : Stand p l e R s m args below meth c T locs cells slots) (hx : p.tables.exec = Jvm.exec) {pc : Nat} {L : Array Slot} {S : List Value} {i : Fin 4} {v : Int32} (hd : decode c.code pc = .ok (.iload_n i, 1)) (hl : L[i.val]? = some (.val (.int v))) (k : Own p e below Q (T.setTop (mkF m (pc + 1) L ((.int v) :: S)))) : Own p e below Q (T.setTop (mkF m pc L S)) :=
  ogo (fun _ k => XS.iloadN X.here hx rfl hd hl k) k
theorem o_iload (X : Stand p l e R s m args below meth c T locs cells slots) (hx : p.tables.exec = Jvm.exec) {pc : Nat} {L : Array Slot} {S : List Value} {i : Nat} {v : Int32} (hd : decode c.code pc = .ok (.iload i, 2)) (hl : L[i]? = some (.val (.int v))) (k : Own p e below Q (T.setTop (mkF m (pc + 2) L ((.int v) :: S)))) : Own p e below Q (T.setTop (mkF m pc L S)) :=
  ogo (fun _ k => XS.iload X.here hx rfl hd hl k) k
theorem o_lloadN (X : Stand p l e R s m args below meth c T locs cells slots) (hx : p.tables.exec = Jvm.exec) {pc : Nat} {L : Array Slot} {S : List Value} {i : Fin 4} {v : Int64} (hd : decode c.code pc = .ok (.lload_n i, 1)) (hl : L[i.val]? = some (.val (.long v))) (k : Own p e below Q (T.setTop (mkF m (pc + 1) L ((.long v) :: S)))) : Own p e below Q (T.setTop (mkF m pc L S)) :=
  ogo (fun _ k => XS.lloadN X.here hx rfl hd hl k) k
theorem o_lload (X : Stand p l e R s m args below meth c T locs cells slots) (hx : p.tables.exec = Jvm.exec) {pc : Nat} {L : Array Slot} {S : List Value} {i : Nat} {v : Int64} (hd : decode c.code pc = .ok (.lload i, 2)) (hl : L[i]? = some (.val (.long v))) (k : Own p e below Q (T.setTop (mkF m (pc + 2) L ((.long v) :: S)))) : Own p e below Q (T.setTop (mkF m pc L S)) :=
  ogo (fun _ k => XS.lload X.here hx rfl hd hl k) k
theorem o_astoreN (X : Stand p l e R s m args below meth c T locs cells slots) (hx : p.tables.exec = Jvm.exec) {pc : Nat} {L : Array Slot} {S : List Value} {i : Fin 4} {v : Value} {l' : Array Slot} (hd : decode c.code pc = .ok (.astore_n i, 1)) (hv : v.isRef = true) (hl : storeLocals L i.val v = some l') (k : Own p e below Q (T.setTop (mkF m (pc + 1) l' S))) : Own p e below Q (T.setTop (mkF m pc L (v :: S))) :=
  ogo (fun _ k => XS.astoreN X.here hx rfl hd rfl hv hl k) k
theorem o_astore (X : Stand p l e R s m args below meth c T locs cells slots) (hx : p.tables.exec = Jvm.exec) {pc : Nat} {L : Array Slot} {S : List Value} {i : Nat} {v : Value} {l' : Array Slot} (hd : decode c.code pc = .ok (.astore i, 2)) (hv : v.isRef = true) (hl : storeLocals L i v = some l') (k : Own p e below Q (T.setTop (mkF m (pc + 2) l' S))) : Own p e below Q (T.setTop (mkF m pc L (v :: S))) :=
  ogo (fun _ k => XS.astore X.here hx rfl hd rfl hv hl k) k
theorem o_istoreN (X : Stand p l e R s m args below meth c T locs cells slots) (hx : p.tables.exec = Jvm.exec) {pc : Nat} {L : Array Slot} {S : List Value} {i : Fin 4} {v : Int32} {l' : Array Slot} (hd : decode c.code pc = .ok (.istore_n i, 1)) (hl : storeLocals L i.val (.int v) = some l') (k : Own p e below Q (T.setTop (mkF m (pc + 1) l' S))) : Own p e below Q (T.setTop (mkF m pc L ((.int v) :: S))) :=
  ogo (fun _ k => XS.istoreN X.here hx rfl hd rfl hl k) k
theorem o_istore (X : Stand p l e R s m args below meth c T locs cells slots) (hx : p.tables.exec = Jvm.exec) {pc : Nat} {L : Array Slot} {S : List Value} {i : Nat} {v : Int32} {l' : Array Slot} (hd : decode c.code pc = .ok (.istore i, 2)) (hl : storeLocals L i (.int v) = some l') (k : Own p e below Q (T.setTop (mkF m (pc + 2) l' S))) : Own p e below Q (T.setTop (mkF m pc L ((.int v) :: S))) :=
  ogo (fun _ k => XS.istore X.here hx rfl hd rfl hl k) k
theorem o_lstoreN (X : Stand p l e R s m args below meth c T locs cells slots) (hx : p.tables.exec = Jvm.exec) {pc : Nat} {L : Array Slot} {S : List Value} {i : Fin 4} {v : Int64} {l' : Array Slot} (hd : decode c.code pc = .ok (.lstore_n i, 1)) (hl : storeLocals L i.val (.long v) = some l') (k : Own p e below Q (T.setTop (mkF m (pc + 1) l' S))) : Own p e below Q (T.setTop (mkF m pc L ((.long v) :: S))) :=
  ogo (fun _ k => XS.lstoreN X.here hx rfl hd rfl hl k) k
theorem o_lstore (X : Stand p l e R s m args below meth c T locs cells slots) (hx : p.tables.exec = Jvm.exec) {pc : Nat} {L : Array Slot} {S : List Value} {i : Nat} {v : Int64} {l' : Array Slot} (hd : decode c.code pc = .ok (.lstore i, 2)) (hl : storeLocals L i (.long v) = some l') (k : Own p e below Q (T.setTop (mkF m (pc + 2) l' S))) : Own p e below Q (T.setTop (mkF m pc L ((.long v) :: S))) :=
  ogo (fun _ k => XS.lstore X.here hx rfl hd rfl hl k) k
theorem o_iconst (X : Stand p l e R s m args below meth c T locs cells slots) (hx : p.tables.exec = Jvm.exec) {pc : Nat} {L : Array Slot} {S : List Value} {i : Int} (v : Int32) (hd : decode c.code pc = .ok (.iconst i, 1)) (hv : Int32.ofInt i = v) (k : Own p e below Q (T.setTop (mkF m (pc + 1) L (.int v :: S)))) : Own p e below Q (T.setTop (mkF m pc L S)) := by
  subst hv; exact ogo (fun _ k => XS.iconst X.here hx rfl hd k) k
theorem o_bipush (X : Stand p l e R s m args below meth c T locs cells slots) (hx : p.tables.exec = Jvm.exec) {pc : Nat} {L : Array Slot} {S : List Value} {i : Int} (v : Int32) (hd : decode c.code pc = .ok (.bipush i, 2)) (hv : (Int8.ofInt i).toInt32 = v) (k : Own p e below Q (T.setTop (mkF m (pc + 2) L (.int v :: S)))) : Own p e below Q (T.setTop (mkF m pc L S)) := by
  subst hv; exact ogo (fun _ k => XS.bipush X.here hx rfl hd k) k
theorem o_sipush (X : Stand p l e R s m args below meth c T locs cells slots) (hx : p.tables.exec = Jvm.exec) {pc : Nat} {L : Array Slot} {S : List Value} {i : Int} (v : Int32) (hd : decode c.code pc = .ok (.sipush i, 3)) (hv : (Int16.ofInt i).toInt32 = v) (k : Own p e below Q (T.setTop (mkF m (pc + 3) L (.int v :: S)))) : Own p e below Q (T.setTop (mkF m pc L S)) := by
  subst hv; exact ogo (fun _ k => XS.sipush X.here hx rfl hd k) k
theorem o_lconst (X : Stand p l e R s m args below meth c T locs cells slots) (hx : p.tables.exec = Jvm.exec) {pc : Nat} {L : Array Slot} {S : List Value} {i : Fin 2} (v : Int64) (hd : decode c.code pc = .ok (.lconst i, 1)) (hv : Int64.ofNat i = v) (k : Own p e below Q (T.setTop (mkF m (pc + 1) L (.long v :: S)))) : Own p e below Q (T.setTop (mkF m pc L S)) := by
  subst hv; exact ogo (fun _ k => XS.lconst X.here hx rfl hd k) k
theorem o_aconst_null (X : Stand p l e R s m args below meth c T locs cells slots) (hx : p.tables.exec = Jvm.exec) {pc : Nat} {L : Array Slot} {S : List Value} (hd : decode c.code pc = .ok (.aconst_null, 1)) (k : Own p e below Q (T.setTop (mkF m (pc + 1) L (.null :: S)))) : Own p e below Q (T.setTop (mkF m pc L S)) :=
  ogo (fun _ k => XS.aconstNull X.here hx rfl hd k) k
theorem o_iadd (X : Stand p l e R s m args below meth c T locs cells slots) (hx : p.tables.exec = Jvm.exec) {pc : Nat} {L : Array Slot} {S : List Value} {x y : Int32} (hd : decode c.code pc = .ok (.iadd, 1)) (k : Own p e below Q (T.setTop (mkF m (pc + 1) L (.int (x + y) :: S)))) : Own p e below Q (T.setTop (mkF m pc L (.int y :: .int x :: S))) :=
  ogo (fun _ k => XS.iadd X.here hx rfl hd rfl k) k
theorem o_isub (X : Stand p l e R s m args below meth c T locs cells slots) (hx : p.tables.exec = Jvm.exec) {pc : Nat} {L : Array Slot} {S : List Value} {x y : Int32} (hd : decode c.code pc = .ok (.isub, 1)) (k : Own p e below Q (T.setTop (mkF m (pc + 1) L (.int (x - y) :: S)))) : Own p e below Q (T.setTop (mkF m pc L (.int y :: .int x :: S))) :=
  ogo (fun _ k => XS.isub X.here hx rfl hd rfl k) k
theorem o_imul (X : Stand p l e R s m args below meth c T locs cells slots) (hx : p.tables.exec = Jvm.exec) {pc : Nat} {L : Array Slot} {S : List Value} {x y : Int32} (hd : decode c.code pc = .ok (.imul, 1)) (k : Own p e below Q (T.setTop (mkF m (pc + 1) L (.int (x * y) :: S)))) : Own p e below Q (T.setTop (mkF m pc L (.int y :: .int x :: S))) :=
  ogo (fun _ k => XS.imul X.here hx rfl hd rfl k) k
theorem o_iand (X : Stand p l e R s m args below meth c T locs cells slots) (hx : p.tables.exec = Jvm.exec) {pc : Nat} {L : Array Slot} {S : List Value} {x y : Int32} (hd : decode c.code pc = .ok (.iand, 1)) (k : Own p e below Q (T.setTop (mkF m (pc + 1) L (.int (x &&& y) :: S)))) : Own p e below Q (T.setTop (mkF m pc L (.int y :: .int x :: S))) :=
  ogo (fun _ k => XS.iand X.here hx rfl hd rfl k) k
theorem o_ior (X : Stand p l e R s m args below meth c T locs cells slots) (hx : p.tables.exec = Jvm.exec) {pc : Nat} {L : Array Slot} {S : List Value} {x y : Int32} (hd : decode c.code pc = .ok (.ior, 1)) (k : Own p e below Q (T.setTop (mkF m (pc + 1) L (.int (x ||| y) :: S)))) : Own p e below Q (T.setTop (mkF m pc L (.int y :: .int x :: S))) :=
  ogo (fun _ k => XS.ior X.here hx rfl hd rfl k) k
theorem o_ixor (X : Stand p l e R s m args below meth c T locs cells slots) (hx : p.tables.exec = Jvm.exec) {pc : Nat} {L : Array Slot} {S : List Value} {x y : Int32} (hd : decode c.code pc = .ok (.ixor, 1)) (k : Own p e below Q (T.setTop (mkF m (pc + 1) L (.int (x ^^^ y) :: S)))) : Own p e below Q (T.setTop (mkF m pc L (.int y :: .int x :: S))) :=
  ogo (fun _ k => XS.ixor X.here hx rfl hd rfl k) k
theorem o_ladd (X : Stand p l e R s m args below meth c T locs cells slots) (hx : p.tables.exec = Jvm.exec) {pc : Nat} {L : Array Slot} {S : List Value} {x y : Int64} (hd : decode c.code pc = .ok (.ladd, 1)) (k : Own p e below Q (T.setTop (mkF m (pc + 1) L (.long (x + y) :: S)))) : Own p e below Q (T.setTop (mkF m pc L (.long y :: .long x :: S))) :=
  ogo (fun _ k => XS.ladd X.here hx rfl hd rfl k) k
theorem o_lsub (X : Stand p l e R s m args below meth c T locs cells slots) (hx : p.tables.exec = Jvm.exec) {pc : Nat} {L : Array Slot} {S : List Value} {x y : Int64} (hd : decode c.code pc = .ok (.lsub, 1)) (k : Own p e below Q (T.setTop (mkF m (pc + 1) L (.long (x - y) :: S)))) : Own p e below Q (T.setTop (mkF m pc L (.long y :: .long x :: S))) :=
  ogo (fun _ k => XS.lsub X.here hx rfl hd rfl k) k
theorem o_lmul (X : Stand p l e R s m args below meth c T locs cells slots) (hx : p.tables.exec = Jvm.exec) {pc : Nat} {L : Array Slot} {S : List Value} {x y : Int64} (hd : decode c.code pc = .ok (.lmul, 1)) (k : Own p e below Q (T.setTop (mkF m (pc + 1) L (.long (x * y) :: S)))) : Own p e below Q (T.setTop (mkF m pc L (.long y :: .long x :: S))) :=
  ogo (fun _ k => XS.lmul X.here hx rfl hd rfl k) k
theorem o_land (X : Stand p l e R s m args below meth c T locs cells slots) (hx : p.tables.exec = Jvm.exec) {pc : Nat} {L : Array Slot} {S : List Value} {x y : Int64} (hd : decode c.code pc = .ok (.land, 1)) (k : Own p e below Q (T.setTop (mkF m (pc + 1) L (.long (x &&& y) :: S)))) : Own p e below Q (T.setTop (mkF m pc L (.long y :: .long x :: S))) :=
  ogo (fun _ k => XS.land X.here hx rfl hd rfl k) k
theorem o_lor (X : Stand p l e R s m args below meth c T locs cells slots) (hx : p.tables.exec = Jvm.exec) {pc : Nat} {L : Array Slot} {S : List Value} {x y : Int64} (hd : decode c.code pc = .ok (.lor, 1)) (k : Own p e below Q (T.setTop (mkF m (pc + 1) L (.long (x ||| y) :: S)))) : Own p e below Q (T.setTop (mkF m pc L (.long y :: .long x :: S))) :=
  ogo (fun _ k => XS.lor X.here hx rfl hd rfl k) k
theorem o_lxor (X : Stand p l e R s m args below meth c T locs cells slots) (hx : p.tables.exec = Jvm.exec) {pc : Nat} {L : Array Slot} {S : List Value} {x y : Int64} (hd : decode c.code pc = .ok (.lxor, 1)) (k : Own p e below Q (T.setTop (mkF m (pc + 1) L (.long (x ^^^ y) :: S)))) : Own p e below Q (T.setTop (mkF m pc L (.long y :: .long x :: S))) :=
  ogo (fun _ k => XS.lxor X.here hx rfl hd rfl k) k
theorem o_ishl (X : Stand p l e R s m args below meth c T locs cells slots) (hx : p.tables.exec = Jvm.exec) {pc : Nat} {L : Array Slot} {S : List Value} {x : Int32} {y : Int32} (hd : decode c.code pc = .ok (.ishl, 1)) (k : Own p e below Q (T.setTop (mkF m (pc + 1) L (.int (x <<< (y &&& 31)) :: S)))) : Own p e below Q (T.setTop (mkF m pc L (.int y :: .int x :: S))) :=
  ogo (fun _ k => XS.ishl X.here hx rfl hd rfl k) k
theorem o_ishr (X : Stand p l e R s m args below meth c T locs cells slots) (hx : p.tables.exec = Jvm.exec) {pc : Nat} {L : Array Slot} {S : List Value} {x : Int32} {y : Int32} (hd : decode c.code pc = .ok (.ishr, 1)) (k : Own p e below Q (T.setTop (mkF m (pc + 1) L (.int (x >>> (y &&& 31)) :: S)))) : Own p e below Q (T.setTop (mkF m pc L (.int y :: .int x :: S))) :=
  ogo (fun _ k => XS.ishr X.here hx rfl hd rfl k) k
theorem o_iushr (X : Stand p l e R s m args below meth c T locs cells slots) (hx : p.tables.exec = Jvm.exec) {pc : Nat} {L : Array Slot} {S : List Value} {x : Int32} {y : Int32} (hd : decode c.code pc = .ok (.iushr, 1)) (k : Own p e below Q (T.setTop (mkF m (pc + 1) L (.int (own_ushr x y) :: S)))) : Own p e below Q (T.setTop (mkF m pc L (.int y :: .int x :: S))) :=
  ogo (fun _ k => XS.iushr X.here hx rfl hd rfl k) k
theorem o_lshl (X : Stand p l e R s m args below meth c T locs cells slots) (hx : p.tables.exec = Jvm.exec) {pc : Nat} {L : Array Slot} {S : List Value} {x : Int64} {y : Int32} (hd : decode c.code pc = .ok (.lshl, 1)) (k : Own p e below Q (T.setTop (mkF m (pc + 1) L (.long (x <<< (y &&& 0x3f).toInt64) :: S)))) : Own p e below Q (T.setTop (mkF m pc L (.int y :: .long x :: S))) :=
  ogo (fun _ k => XS.lshl X.here hx rfl hd rfl k) k
theorem o_lshr (X : Stand p l e R s m args below meth c T locs cells slots) (hx : p.tables.exec = Jvm.exec) {pc : Nat} {L : Array Slot} {S : List Value} {x : Int64} {y : Int32} (hd : decode c.code pc = .ok (.lshr, 1)) (k : Own p e below Q (T.setTop (mkF m (pc + 1) L (.long (x >>> (y &&& 0x3f).toInt64) :: S)))) : Own p e below Q (T.setTop (mkF m pc L (.int y :: .long x :: S))) :=
  ogo (fun _ k => XS.lshr X.here hx rfl hd rfl k) k
theorem o_lushr (X : Stand p l e R s m args below meth c T locs cells slots) (hx : p.tables.exec = Jvm.exec) {pc : Nat} {L : Array Slot} {S : List Value} {x : Int64} {y : Int32} (hd : decode c.code pc = .ok (.lushr, 1)) (k : Own p e below Q (T.setTop (mkF m (pc + 1) L (.long (own_ushrL x y) :: S)))) : Own p e below Q (T.setTop (mkF m pc L (.int y :: .long x :: S))) :=
  ogo (fun _ k => XS.lushr X.here hx rfl hd rfl k) k
theorem o_ineg (X : Stand p l e R s m args below meth c T locs cells slots) (hx : p.tables.exec = Jvm.exec) {pc : Nat} {L : Array Slot} {S : List Value} {x : Int32} (hd : decode c.code pc = .ok (.ineg, 1)) (k : Own p e below Q (T.setTop (mkF m (pc + 1) L (.int (-x) :: S)))) : Own p e below Q (T.setTop (mkF m pc L (.int x :: S))) :=
  ogo (fun _ k => XS.ineg X.here hx rfl hd rfl k) k
theorem o_lneg (X : Stand p l e R s m args below meth c T locs cells slots) (hx : p.tables.exec = Jvm.exec) {pc : Nat} {L : Array Slot} {S : List Value} {x : Int64} (hd : decode c.code pc = .ok (.lneg, 1)) (k : Own p e below Q (T.setTop (mkF m (pc + 1) L (.long (-x) :: S)))) : Own p e below Q (T.setTop (mkF m pc L (.long x :: S))) :=
  ogo (fun _ k => XS.lneg X.here hx rfl hd rfl k) k
theorem o_i2l (X : Stand p l e R s m args below meth c T locs cells slots) (hx : p.tables.exec = Jvm.exec) {pc : Nat} {L : Array Slot} {S : List Value} {x : Int32} (hd : decode c.code pc = .ok (.i2l, 1)) (k : Own p e below Q (T.setTop (mkF m (pc + 1) L (.long (x.toInt64) :: S)))) : Own p e below Q (T.setTop (mkF m pc L (.int x :: S))) :=
  ogo (fun _ k => XS.i2l X.here hx rfl hd rfl k) k
theorem o_l2i (X : Stand p l e R s m args below meth c T locs cells slots) (hx : p.tables.exec = Jvm.exec) {pc : Nat} {L : Array Slot} {S : List Value} {x : Int64} (hd : decode c.code pc = .ok (.l2i, 1)) (k : Own p e below Q (T.setTop (mkF m (pc + 1) L (.int (x.toInt32) :: S)))) : Own p e below Q (T.setTop (mkF m pc L (.long x :: S))) :=
  ogo (fun _ k => XS.l2i X.here hx rfl hd rfl k) k
theorem o_i2b (X : Stand p l e R s m args below meth c T locs cells slots) (hx : p.tables.exec = Jvm.exec) {pc : Nat} {L : Array Slot} {S : List Value} {x : Int32} (hd : decode c.code pc = .ok (.i2b, 1)) (k : Own p e below Q (T.setTop (mkF m (pc + 1) L (.int (x.toInt8.toInt32) :: S)))) : Own p e below Q (T.setTop (mkF m pc L (.int x :: S))) :=
  ogo (fun _ k => XS.i2b X.here hx rfl hd rfl k) k
theorem o_i2s (X : Stand p l e R s m args below meth c T locs cells slots) (hx : p.tables.exec = Jvm.exec) {pc : Nat} {L : Array Slot} {S : List Value} {x : Int32} (hd : decode c.code pc = .ok (.i2s, 1)) (k : Own p e below Q (T.setTop (mkF m (pc + 1) L (.int (x.toInt16.toInt32) :: S)))) : Own p e below Q (T.setTop (mkF m pc L (.int x :: S))) :=
  ogo (fun _ k => XS.i2s X.here hx rfl hd rfl k) k
theorem o_i2c (X : Stand p l e R s m args below meth c T locs cells slots) (hx : p.tables.exec = Jvm.exec) {pc : Nat} {L : Array Slot} {S : List Value} {x : Int32} (hd : decode c.code pc = .ok (.i2c, 1)) (k : Own p e below Q (T.setTop (mkF m (pc + 1) L (.int (nar .char x) :: S)))) : Own p e below Q (T.setTop (mkF m pc L (.int x :: S))) :=
  ogo (fun _ k => XS.i2c X.here hx rfl hd rfl k) k
theorem o_lcmp (X : Stand p l e R s m args below meth c T locs cells slots) (hx : p.tables.exec = Jvm.exec) {pc : Nat} {L : Array Slot} {S : List Value} {x y : Int64} (hd : decode c.code pc = .ok (.lcmp, 1)) (k : Own p e below Q (T.setTop (mkF m (pc + 1) L (.int (lcmpW x y) :: S)))) : Own p e below Q (T.setTop (mkF m pc L (.long y :: .long x :: S))) :=
  ogo (fun _ k => XS.lcmp X.here hx rfl hd rfl k) k
theorem o_idiv (X : Stand p l e R s m args below meth c T locs cells slots) (hx : p.tables.exec = Jvm.exec) {pc : Nat} {L : Array Slot} {S : List Value} {x y : Int32} (hd : decode c.code pc = .ok (.idiv, 1)) (hy : y ≠ 0) (k : Own p e below Q (T.setTop (mkF m (pc + 1) L (.int (x / y) :: S)))) : Own p e below Q (T.setTop (mkF m pc L (.int y :: .int x :: S))) :=
  ogo (fun _ k => XS.idiv X.here hx rfl hd rfl hy k) k
theorem o_ldiv (X : Stand p l e R s m args below meth c T locs cells slots) (hx : p.tables.exec = Jvm.exec) {pc : Nat} {L : Array Slot} {S : List Value} {x y : Int64} (hd : decode c.code pc = .ok (.ldiv, 1)) (hy : y ≠ 0) (k : Own p e below Q (T.setTop (mkF m (pc + 1) L (.long (x / y) :: S)))) : Own p e below Q (T.setTop (mkF m pc L (.long y :: .long x :: S))) :=
  ogo (fun _ k => XS.ldiv X.here hx rfl hd rfl hy k) k
theorem o_lrem (X : Stand p l e R s m args below meth c T locs cells slots) (hx : p.tables.exec = Jvm.exec) {pc : Nat} {L : Array Slot} {S : List Value} {x y : Int64} (hd : decode c.code pc = .ok (.lrem, 1)) (hy : y ≠ 0) (k : Own p e below Q (T.setTop (mkF m (pc + 1) L (.long (x - (x / y) * y) :: S)))) : Own p e below Q (T.setTop (mkF m pc L (.long y :: .long x :: S))) :=
  ogo (fun _ k => XS.lrem X.here hx rfl hd rfl hy k) k
theorem o_irem (X : Stand p l e R s m args below meth c T locs cells slots) (hx : p.tables.exec = Jvm.exec) {pc : Nat} {L : Array Slot} {S : List Value} {x y : Int32} (hd : decode c.code pc = .ok (.irem, 1)) (hy : y ≠ 0) (k : Own p e below Q (T.setTop (mkF m (pc + 1) L (.int (x % y) :: S)))) : Own p e below Q (T.setTop (mkF m pc L (.int y :: .int x :: S))) :=
  ogo (fun _ k => iremM X hx rfl hd rfl hy k) k
theorem o_iinc (X : Stand p l e R s m args below meth c T locs cells slots) (hx : p.tables.exec = Jvm.exec) {pc : Nat} {L : Array Slot} {S : List Value} {i : Nat} {n : Int} {x : Int32} {l' : Array Slot} (hd : decode c.code pc = .ok (.iinc i n, 3)) (hl : L[i]? = some (.val (.int x))) (hl' : storeLocals L i (.int (x + Int32.ofInt n)) = some l') (k : Own p e below Q (T.setTop (mkF m (pc + 3) l' S))) : Own p e below Q (T.setTop (mkF m pc L S)) :=
  ogo (fun _ k => XS.iinc X.here hx rfl hd hl hl' k) k
theorem o_dup (X : Stand p l e R s m args below meth c T locs cells slots) (hx : p.tables.exec = Jvm.exec) {pc : Nat} {L : Array Slot} {S : List Value} {v : Value} (hd : decode c.code pc = .ok (.dup, 1)) (hc : v.category = 1) (k : Own p e below Q (T.setTop (mkF m (pc + 1) L (v :: v :: S)))) : Own p e below Q (T.setTop (mkF m pc L (v :: S))) :=
  ogo (fun _ k => XS.dup X.here hx rfl hd rfl hc k) k
theorem o_dup_x1 (X : Stand p l e R s m args below meth c T locs cells slots) (hx : p.tables.exec = Jvm.exec) {pc : Nat} {L : Array Slot} {S : List Value} {v w : Value} (hd : decode c.code pc = .ok (.dup_x1, 1)) (hc : v.category = 1) (hc' : w.category = 1) (k : Own p e below Q (T.setTop (mkF m (pc + 1) L (v :: w :: v :: S)))) : Own p e below Q (T.setTop (mkF m pc L (v :: w :: S))) :=
  ogo (fun _ k => XS.dupX1 X.here hx rfl hd rfl hc hc' k) k
theorem o_pop (X : Stand p l e R s m args below meth c T locs cells slots) (hx : p.tables.exec = Jvm.exec) {pc : Nat} {L : Array Slot} {S : List Value} {v : Value} (hd : decode c.code pc = .ok (.pop, 1)) (hc : v.category = 1) (k : Own p e below Q (T.setTop (mkF m (pc + 1) L S))) : Own p e below Q (T.setTop (mkF m pc L (v :: S))) :=
  ogo (fun _ k => XS.pop X.here hx rfl hd rfl hc k) k
theorem o_goto (X : Stand p l e R s m args below meth c T locs cells slots) (hx : p.tables.exec = Jvm.exec) {pc : Nat} {L : Array Slot} {S : List Value} {o : Int} (pc' : Nat) (hd : decode c.code pc = .ok (.goto o, 3)) (ho : 0 ≤ (pc : Int) + o) (hp : ((pc : Int) + o).toNat = pc') (k : Own p e below Q (T.setTop (mkF m (pc') L S))) : Own p e below Q (T.setTop (mkF m pc L S)) :=
  ogo (fun _ k => XS.goto X.here hx rfl rfl hd ho hp k) k
theorem o_ifYes (X : Stand p l e R s m args below meth c T locs cells slots) (hx : p.tables.exec = Jvm.exec) {pc : Nat} {L : Array Slot} {S : List Value} {cd : ClassFile.Cond} {x : Int32} {o : Int} (pc' : Nat) (hd : decode c.code pc = .ok (.ifCond cd o, 3)) (hc : if_icmp.holds cd x 0 = true) (ho : 0 ≤ (pc : Int) + o) (hp : ((pc : Int) + o).toNat = pc') (k : Own p e below Q (T.setTop (mkF m (pc') L S))) : Own p e below Q (T.setTop (mkF m pc L (.int x :: S))) :=
  ogo (fun _ k => XS.ifYes X.here hx rfl rfl hd rfl ((if0 _ _).trans hc) ho hp k) k
theorem o_ifNo (X : Stand p l e R s m args below meth c T locs cells slots) (hx : p.tables.exec = Jvm.exec) {pc : Nat} {L : Array Slot} {S : List Value} {cd : ClassFile.Cond} {x : Int32} {o : Int} (hd : decode c.code pc = .ok (.ifCond cd o, 3)) (hc : if_icmp.holds cd x 0 = false) (k : Own p e below Q (T.setTop (mkF m (pc + 3) L S))) : Own p e below Q (T.setTop (mkF m pc L (.int x :: S))) :=
  ogo (fun _ k => XS.ifNo X.here hx rfl hd rfl ((if0 _ _).trans hc) k) k
theorem o_icmpYes (X : Stand p l e R s m args below meth c T locs cells slots) (hx : p.tables.exec = Jvm.exec) {pc : Nat} {L : Array Slot} {S : List Value} {cd : ClassFile.Cond} {x y : Int32} {o : Int} (pc' : Nat) (hd : decode c.code pc = .ok (.if_icmp cd o, 3)) (hc : if_icmp.holds cd x y = true) (ho : 0 ≤ (pc : Int) + o) (hp : ((pc : Int) + o).toNat = pc') (k : Own p e below Q (T.setTop (mkF m (pc') L S))) : Own p e below Q (T.setTop (mkF m pc L (.int y :: .int x :: S))) :=
  ogo (fun _ k => XS.icmpYes X.here hx rfl rfl hd rfl hc ho hp k) k
theorem o_icmpNo (X : Stand p l e R s m args below meth c T locs cells slots) (hx : p.tables.exec = Jvm.exec) {pc : Nat} {L : Array Slot} {S : List Value} {cd : ClassFile.Cond} {x y : Int32} {o : Int} (hd : decode c.code pc = .ok (.if_icmp cd o, 3)) (hc : if_icmp.holds cd x y = false) (k : Own p e below Q (T.setTop (mkF m (pc + 3) L S))) : Own p e below Q (T.setTop (mkF m pc L (.int y :: .int x :: S))) :=
  ogo (fun _ k => XS.icmpNo X.here hx rfl hd rfl hc k) k
theorem o_ifnullYes (X : Stand p l e R s m args below meth c T locs cells slots) (hx : p.tables.exec = Jvm.exec) {pc : Nat} {L : Array Slot} {S : List Value} {o : Int} (pc' : Nat) (hd : decode c.code pc = .ok (.ifnull o, 3)) (ho : 0 ≤ (pc : Int) + o) (hp : ((pc : Int) + o).toNat = pc') (k : Own p e below Q (T.setTop (mkF m (pc') L S))) : Own p e below Q (T.setTop (mkF m pc L (.null :: S))) :=
  ogo (fun _ k => XS.ifnullYes X.here hx rfl rfl hd rfl ho hp k) k
theorem o_ifnullNo (X : Stand p l e R s m args below meth c T locs cells slots) (hx : p.tables.exec = Jvm.exec) {pc : Nat} {L : Array Slot} {S : List Value} {o : Int} {b : Addr} (hd : decode c.code pc = .ok (.ifnull o, 3)) (k : Own p e below Q (T.setTop (mkF m (pc + 3) L S))) : Own p e below Q (T.setTop (mkF m pc L (.ref b :: S))) :=
  ogo (fun _ k => XS.ifnullNo X.here hx rfl hd rfl k) k
theorem o_ifnonnullYes (X : Stand p l e R s m args below meth c T locs cells slots) (hx : p.tables.exec = Jvm.exec) {pc : Nat} {L : Array Slot} {S : List Value} {o : Int} {b : Addr} (pc' : Nat) (hd : decode c.code pc = .ok (.ifnonnull o, 3)) (ho : 0 ≤ (pc : Int) + o) (hp : ((pc : Int) + o).toNat = pc') (k : Own p e below Q (T.setTop (mkF m (pc') L S))) : Own p e below Q (T.setTop (mkF m pc L (.ref b :: S))) :=
  ogo (fun _ k => XS.ifnonnullYes X.here hx rfl rfl hd rfl ho hp k) k
theorem o_ifnonnullNo (X : Stand p l e R s m args below meth c T locs cells slots) (hx : p.tables.exec = Jvm.exec) {pc : Nat} {L : Array Slot} {S : List Value} {o : Int} (hd : decode c.code pc = .ok (.ifnonnull o, 3)) (k : Own p e below Q (T.setTop (mkF m (pc + 3) L S))) : Own p e below Q (T.setTop (mkF m pc L (.null :: S))) :=
  ogo (fun _ k => XS.ifnonnullNo X.here hx rfl hd rfl k) k
theorem o_acmp (X : Stand p l e R s m args below meth c T locs cells slots) (hx : p.tables.exec = Jvm.exec) {pc : Nat} {L : Array Slot} {S : List Value} {cd : ClassFile.ACond} {x y : Value} {o : Int} (pc' : Nat) (same : Bool) (h1 : x.isRef = true) (h2 : y.isRef = true) (hd : decode c.code pc = .ok (.if_acmp cd o, 3)) (hq : decide (x = y) = same) (ho : 0 ≤ (pc : Int) + o) (hp : pc' = if acV cd same = true then ((pc : Int) + o).toNat else pc + 3) (k : Own p e below Q (T.setTop (mkF m (pc') L S))) : Own p e below Q (T.setTop (mkF m pc L (y :: x :: S))) :=
  ogo (fun _ k => Jvm.RoadKit.acmp X hx rfl h1 h2 rfl hd rfl hq ho hp k) k
theorem o_tswIn (X : Stand p l e R s m args below meth c T locs cells slots) (hx : p.tables.exec = Jvm.exec) {pc : Nat} {L : Array Slot} {S : List Value} {d lo hi : Int} {offs : Array Int} {len : Nat} {o : Int} {i : Int32} (pc' : Nat) (hd : decode c.code pc = .ok (.tableswitch d lo hi offs, len)) (hin : ¬ (i.toInt < lo ∨ i.toInt > hi)) (hoff : offs[(i.toInt - lo).toNat]? = some o) (ho : 0 ≤ (pc : Int) + o) (hp : ((pc : Int) + o).toNat = pc') (k : Own p e below Q (T.setTop (mkF m (pc') L S))) : Own p e below Q (T.setTop (mkF m pc L (.int i :: S))) :=
  ogo (fun _ k => XS.tswIn X.here hx rfl rfl hd rfl hin hoff ho hp k) k
theorem o_tswOut (X : Stand p l e R s m args below meth c T locs cells slots) (hx : p.tables.exec = Jvm.exec) {pc : Nat} {L : Array Slot} {S : List Value} {d lo hi : Int} {offs : Array Int} {len : Nat} {i : Int32} (pc' : Nat) (hd : decode c.code pc = .ok (.tableswitch d lo hi offs, len)) (hout : i.toInt < lo ∨ i.toInt > hi) (ho : 0 ≤ (pc : Int) + d) (hp : ((pc : Int) + d).toNat = pc') (k : Own p e below Q (T.setTop (mkF m (pc') L S))) : Own p e below Q (T.setTop (mkF m pc L (.int i :: S))) :=
  ogo (fun _ k => XS.tswOut X.here hx rfl rfl hd rfl hout ho hp k) k
end Steps

theorem own_cat {v : Value} (h : v.isRef = true) : v.category = 1 := by cases v <;> simp_all [Value.isRef, Value.category]
theorem own_narc (x : Int32) : nar .char (nar .char x) = nar .char x := by
  have h := c_i2c x
  have h' := c_i2c (nar .char x)
  refine Int32.toInt_inj.mp ?_
  show (nar .char x).toUInt32.toUInt16.toUInt32.toInt32.toInt = (nar .char x).toInt
  have e : (nar .char x).toInt = x.toUInt32.toUInt16.toUInt32.toInt32.toInt := rfl
  omega
theorem own_narb (x : Int32) : nar .byte x.toInt8.toInt32 = x.toInt8.toInt32 := by
  have h := c_i2b x
  have h' := c_i2b x.toInt8.toInt32
  refine Int32.toInt_inj.mp ?_
  show x.toInt8.toInt32.toInt8.toInt32.toInt = x.toInt8.toInt32.toInt
  omega
theorem own_eqref {args : Array Value} {s : State} {a b : Term} {z : Addr} (h : (Jvm.Cond.eq a b).value args s none s [] = some true) (hb : b.eval args s none [] s = some (.ref z)) : a.eval args s none [] s = some (.ref z) := by
  obtain ⟨x, y, h1, h2, k1, k2⟩ := cmp_v (Or.inl h)
  cases hb.symm.trans h2
  have q := gotT (eq_R h1 h2 k2.2 rfl) h
  rw [← q]; exact h1
theorem own_char {c : Int32} (h0 : ¬ (c < (0 : Int32))) (h1 : ¬ ((255 : Int32) < c)) : nar .char (c.toInt8.toInt32 &&& (255 : Int32)) = c := by
  rw [Int32.lt_iff_toInt_lt] at h0 h1
  have e0 : (0 : Int32).toInt = 0 := rfl
  have e1 : (255 : Int32).toInt = 255 := rfl
  have a := c_i2b c
  have b := c_mask c.toInt8.toInt32 (255 : Int32) 8 (by decide) (by decide)
  have d := c_i2c (c.toInt8.toInt32 &&& (255 : Int32))
  refine Int32.toInt_inj.mp ?_
  show (c.toInt8.toInt32 &&& (255 : Int32)).toUInt32.toUInt16.toUInt32.toInt32.toInt = c.toInt
  simp only [Nat.reducePow] at b
  omega
theorem own_narsm {c : Int32} (h0 : ¬ (c < (0 : Int32))) (h1 : ¬ ((255 : Int32) < c)) : nar .char c = c := by
  rw [Int32.lt_iff_toInt_lt] at h0 h1
  have e0 : (0 : Int32).toInt = 0 := rfl
  have e1 : (255 : Int32).toInt = 255 := rfl
  have d := c_i2c c
  refine Int32.toInt_inj.mp ?_
  show c.toUInt32.toUInt16.toUInt32.toInt32.toInt = c.toInt
  omega
/-- a char -/
def own_c16 (c : Int32) : Prop := 0 ≤ c.toInt ∧ c.toInt < 65536
theorem own_c16_i2c (x : Int32) : own_c16 (nar .char x) := ⟨(c_i2c x).2.1, (c_i2c x).2.2⟩
theorem own_c16n {c : Int32} (h : own_c16 c) : ¬ (c < (0 : Int32)) := by
  rw [Int32.lt_iff_toInt_lt]; have e : (0 : Int32).toInt = 0 := rfl; have := h.1; omega
theorem own_nar16 {c : Int32} (h : own_c16 c) : nar .char c = c := by
  have d := c_i2c c
  have h1 := h.1
  have h2 := h.2
  refine Int32.toInt_inj.mp ?_
  show c.toUInt32.toUInt16.toUInt32.toInt32.toInt = c.toInt
  omega
theorem own_u16 {c : Int32} (h : own_c16 c) : nar .char (((((c >>> ((0 : Int32) &&& 31)).toInt8.toInt32 &&& (255 : Int32)) <<< ((0 : Int32) &&& 31))) ||| ((((c >>> ((8 : Int32) &&& 31)).toInt8.toInt32 &&& (255 : Int32)) <<< ((8 : Int32) &&& 31)))) = c := by
  have h1 := h.1
  have h2 := h.2
  have s0 := c_ishr c (0 : Int32) 0 (by decide)
  have s8 := c_ishr c (8 : Int32) 8 (by decide)
  have b0 := c_i2b (c >>> ((0 : Int32) &&& 31))
  have b8 := c_i2b (c >>> ((8 : Int32) &&& 31))
  have m0 := c_mask (c >>> ((0 : Int32) &&& 31)).toInt8.toInt32 (255 : Int32) 8 (by decide) (by decide)
  have m8 := c_mask (c >>> ((8 : Int32) &&& 31)).toInt8.toInt32 (255 : Int32) 8 (by decide) (by decide)
  generalize (c >>> ((0 : Int32) &&& 31)).toInt8.toInt32 &&& (255 : Int32) = u at *
  generalize (c >>> ((8 : Int32) &&& 31)).toInt8.toInt32 &&& (255 : Int32) = v at *
  have l0 := c_ishl u (0 : Int32) 0 (by decide)
  have l8 := c_ishl v (8 : Int32) 8 (by decide)
  have r0 := rng32 (u <<< ((0 : Int32) &&& 31))
  have r8 := rng32 (v <<< ((8 : Int32) &&& 31))
  generalize u <<< ((0 : Int32) &&& 31) = a at *
  generalize v <<< ((8 : Int32) &&& 31) = b at *
  simp only [Nat.reducePow] at *
  have o := c_or' a b 8 (by decide) 256 rfl (by omega) (by omega) (by omega)
  have ro := rng32 (a ||| b)
  have d := c_i2c (a ||| b)
  refine Int32.toInt_inj.mp ?_
  show (a ||| b).toUInt32.toUInt16.toUInt32.toInt32.toInt = c.toInt
  omega
def own_EL : List (String × Nat) := [("java/lang/String", 7)]
theorem own_EW {Z : State} {a0 : Array Value} (hw : ∀ d ∈ tables_1, d.before a0 Z = true) : EW Z a0 own_EL := (EW.cons (hw _ (List.mem_of_getElem? (i := 19) rfl)) (by decide) EW.nil)
theorem own_wS {Z : State} {a0 : Array Value} (hw : ∀ d ∈ tables_1, d.before a0 Z = true) : ∀ a ∈ Bundle.stringAtoms, a.before a0 Z = true := fun a ha => by
  simp only [Bundle.stringAtoms, List.mem_cons, List.not_mem_nil, or_false] at ha
  rcases ha with rfl | rfl | rfl | rfl | rfl | rfl | rfl
  · exact hw _ (List.mem_of_getElem? (i := 7) rfl)
  · exact hw _ (List.mem_of_getElem? (i := 6) rfl)
  · exact hw _ (List.mem_of_getElem? (i := 20) rfl)
  · exact hw _ (List.mem_of_getElem? (i := 21) rfl)
  · exact hw _ (List.mem_of_getElem? (i := 22) rfl)
  · exact hw _ (List.mem_of_getElem? (i := 23) rfl)
  · exact hw _ (List.mem_of_getElem? (i := 24) rfl)
theorem own_safe {Z : State} {EL : List (String × Nat)} {vm : Vm} {h : Heap} {x : Addr} (hal : Z.vm.Alike vm) (E : Exa Z h x "java/lang/String") (V : Fld Z h x "java/lang/String" "value" "[B" .null) : Safe Z EL vm h x := fun B => by
  obtain ⟨p, hp, u, a, hb, q, rfl, F, hy⟩ := B
  obtain ⟨cS, ⟨⟨s1, s2, s3, ⟨cv, kv, iv, s4, s4'⟩, -, s6, s7, s8, s9, s10, r⟩, hfS, hcS⟩, -, hB, -⟩ := F
  rcases hy with rfl | rfl
  · obtain ⟨cell, cf, k, i, f, h1, h2, -, -, -, -, h7⟩ := V
    obtain ⟨kv', z4⟩ := ff_back (U := Wst Z vm h) hal s4
    cases h2.symm.trans z4
    have e1 : some cell = some q.sC := h1.symm.trans s1
    cases e1
    rw [s8] at h7; cases h7
  · obtain ⟨cell, k, h1, h2, h3, -⟩ := E
    have e1 : some cell = some q.SA := h1.symm.trans s10
    cases e1
    have hB' : vm.findClass "[B" = some q.SA.cls := hB
    rw [hal.findClass] at hB'
    obtain ⟨k1, a1, a2⟩ := Vm.findClass_spec h2
    obtain ⟨k2, b1, b2⟩ := Vm.findClass_spec hB'
    cases a1.symm.trans b1
    exact absurd (a2.symm.trans b2) (by decide)
abbrev oPostS (Z : State) (q : Option Value → Heap → List Loc → Prop) (s : State) (cc ss : Nat) : State → Outcome → Prop := fun s₂ o => ∃ v L, o = .returned v ∧ q v s₂.heap L ∧ CHr Z own_EL s.vm s.heap s₂.vm s₂.heap ∧ ReturnedEndW s o s₂ L cc ss
abbrev oMetS (l : Launch) (Z : State) (y : MethodName) (code : ByteArray) (maxL : Nat) (ret : Option FieldType) (ws : List Jvm.Cond) (rm : Room) (cc ss : Nat) (as' : Array Value) (h0 : Heap) (q : Option Value → Heap → List Loc → Prop) : Prop :=
  MetFree l y (head1 (Jvm.Cond.code y code maxL ret :: ws) rm) (fun a U => a = as' ∧ Z.Warmed39 U.vm ∧ U.heap = h0 ∧ CHv Z own_EL U.vm h0) (fun _ _ _ _ _ => True) (fun _ U o U' => ∃ v L, o = .returned v ∧ q v U'.heap L ∧ CHr Z own_EL U.vm U.heap U'.vm U'.heap ∧ ReturnedEndW U o U' L cc ss)
theorem oenterS {l : Launch} {Z : State} {y : MethodName} {code : ByteArray} {maxL : Nat} {ret : Option FieldType} {ws : List Jvm.Cond} {rm : Room} {cc ss : Nat} {as' : Array Value} {h0 : Heap} {q : Option Value → Heap → List Loc → Prop} (pn : plainName y.cls = true) (Ls : Array Slot) (ef : ∀ m, entryFrame m as' maxL = mkF m 0 Ls [])
    (body : ∀ (p : Program) (e : Env) (s : State) (m : MethodId) (below : List Frame) (meth : Method) (c : Code) (s₁ : State), Stand p l e rm (s.setVm s.vm) m as' below meth c s₁ [] 0 0 → p.tables.exec = Jvm.exec → Z.Warmed39 s.vm → c.code = code → c.maxLocals = maxL → meth.sig.returnType = ret → s.vm.findClass y.cls = some m.cls → meth.name = y.name → meth.locks = false → s₁.heap = h0 → s.heap = h0 → CHv Z own_EL s.vm h0 → s.Since s.vm 0 → Own p e below (oPostS Z q s cc ss) (s₁.setTop (mkF m 0 Ls []))) : oMetS l Z y code maxL ret ws rm cc ss as' h0 q := by
  refine MetFree.of_bodySF (plainFor_of_name pn) hisR ?_
  intro p e s m args below meth c s₁ Bd hml0 hP hK
  obtain ⟨rfl, hZ, hh, H⟩ := hP
  have e0 : s₁.heap = h0 := by rw [← hh, Bd.state]; rfl
  obtain ⟨t, o, h1, h2⟩ := body p e s m below meth c s₁ (Stand.of_body Bd) Bd.exec hZ Bd.bytes hml0 Bd.returns (findClass_of_methodNamed Bd.named) (name_of_methodNamed Bd.named Bd.method).1 (BodyLoose.notSynchronized Bd) e0 hh H ((State.WarmedH.refl s).since 0)
  exact ⟨t, o, castTop (ef m) h1, h2⟩
theorem oendS {p : Program} {l : Launch} {e : Env} {R : Room} {s : State} {m : MethodId} {args : Array Value} {below : List Frame} {meth : Method} {c : Code} {T : State} {locs : List Loc} {cells slots : Nat} {Z : State} {a0 : Array Value} {vm0 : Vm} {k0 : Nat} {h h0 : Heap} {v : Option Value} {q : Option Value → Heap → List Loc → Prop} {cc ss : Nat} {S : State}
    (X : Stand p l e R (s.setVm vm0) m args below meth c T locs cells slots) (hlk : meth.locks = false) (hS : s.Since vm0 k0) (hk : k0 ≤ h.size) (eT : T.heap = h) (hZ : Z.Warmed39 vm0) (hEL : EW Z a0 own_EL) (hs0 : s.heap = h0) (C : CHr Z own_EL s.vm h0 vm0 h) (hv : meth.sig.returnType = none → v = none)
    (st : ∀ fs, (∀ (f : JFrame) (acts : List Action), f.method = m → f.locked = none → f.entered = [] → (doReturn e (T.setTop f) acts v).1 = T.setFrames fs) → Steps p.tables e below S (T.setFrames fs)) (hc : cells ≤ cc) (hs : slots ≤ ss) (hq : q v T.heap locs) : Own p e below (oPostS Z q s cc ss) S := by
  subst eT hs0
  obtain ⟨fs, hr, hrun, hended, hR⟩ := X.leaveW hS hk hv hlk
  have C2 : CHr Z own_EL s.vm s.heap T.vm T.heap := C.trans (CHv.at X hZ hEL C.1)
  exact ⟨_, _, st fs hr, hrun, hended, _, _, rfl, hq, C2, hR.1, hR.2.1, hR.2.2.1, hR.2.2.2.mono hc hs⟩
theorem own_and3 (k : Int32) : (k &&& (3 : Int32)) = (0 : Int32) ∨ (k &&& (3 : Int32)) = (1 : Int32) ∨ (k &&& (3 : Int32)) = (2 : Int32) ∨ (k &&& (3 : Int32)) = (3 : Int32) := by
  have h := c_mask k (3 : Int32) 2 (by decide) (by decide)
  simp only [Nat.reducePow] at h
  simp only [← Int32.toInt_inj, show (0 : Int32).toInt = 0 from rfl, show (1 : Int32).toInt = 1 from rfl, show (2 : Int32).toInt = 2 from rfl, show (3 : Int32).toInt = 3 from rfl]
  omega
def own_Start (Z : State) (z_CS : Int32) (v_FMT : Value) : Prop := (Sta Z Z.heap "java/lang/String" "COMPACT_STRINGS" "Z" (.int z_CS)) ∧ (¬ (z_CS = (0 : Int32))) ∧ (Sta Z Z.heap "java/lang/StringUTF16" "$assertionsDisabled" "Z" (.int (1 : Int32))) ∧ (Sta Z Z.heap "java/lang/StringUTF16" "HI_BYTE_SHIFT" "I" (.int (0 : Int32))) ∧ (Sta Z Z.heap "java/lang/StringUTF16" "LO_BYTE_SHIFT" "I" (.int (8 : Int32))) ∧ (Sta Z Z.heap "jdk/internal/util/Preconditions" "SIOOBE_FORMATTER" "Ljava/util/function/BiFunction;" v_FMT) ∧ (v_FMT.isRef = true)
def own_enc1 (c0_ : Int32) (cd : Int32) (z : Int32) (vs : List Value) : Prop := (¬ ((255 : Int32) < c0_) ∧ cd = (0 : Int32) ∧ z = (1 : Int32) ∧ vs = [(.int c0_.toInt8.toInt32)]) ∨ (cd = (1 : Int32) ∧ z = (2 : Int32) ∧ vs = [(.int (c0_ >>> ((0 : Int32) &&& 31)).toInt8.toInt32), (.int (c0_ >>> ((8 : Int32) &&& 31)).toInt8.toInt32)])
def own_enc2 (c0_ c1_ : Int32) (cd : Int32) (z : Int32) (vs : List Value) : Prop := (¬ ((255 : Int32) < c0_) ∧ ¬ ((255 : Int32) < c1_) ∧ cd = (0 : Int32) ∧ z = (2 : Int32) ∧ vs = [(.int c0_.toInt8.toInt32), (.int c1_.toInt8.toInt32)]) ∨ (cd = (1 : Int32) ∧ z = (4 : Int32) ∧ vs = [(.int (c0_ >>> ((0 : Int32) &&& 31)).toInt8.toInt32), (.int (c0_ >>> ((8 : Int32) &&& 31)).toInt8.toInt32), (.int (c1_ >>> ((0 : Int32) &&& 31)).toInt8.toInt32), (.int (c1_ >>> ((8 : Int32) &&& 31)).toInt8.toInt32)])
def own_enc3 (c0_ c1_ c2_ : Int32) (cd : Int32) (z : Int32) (vs : List Value) : Prop := (¬ ((255 : Int32) < c0_) ∧ ¬ ((255 : Int32) < c1_) ∧ ¬ ((255 : Int32) < c2_) ∧ cd = (0 : Int32) ∧ z = (3 : Int32) ∧ vs = [(.int c0_.toInt8.toInt32), (.int c1_.toInt8.toInt32), (.int c2_.toInt8.toInt32)]) ∨ (cd = (1 : Int32) ∧ z = (6 : Int32) ∧ vs = [(.int (c0_ >>> ((0 : Int32) &&& 31)).toInt8.toInt32), (.int (c0_ >>> ((8 : Int32) &&& 31)).toInt8.toInt32), (.int (c1_ >>> ((0 : Int32) &&& 31)).toInt8.toInt32), (.int (c1_ >>> ((8 : Int32) &&& 31)).toInt8.toInt32), (.int (c2_ >>> ((0 : Int32) &&& 31)).toInt8.toInt32), (.int (c2_ >>> ((8 : Int32) &&& 31)).toInt8.toInt32)])
theorem d1_0 : decode prog_8_method_1_code 0 = .ok (.aload_n 0, 1) := by decide +kernel
theorem d1_1 : decode prog_8_method_1_code 1 = .ok (.invokespecial 1, 3) := by decide +kernel
theorem d1_4 : decode prog_8_method_1_code 4 = .ok (.aload_n 0, 1) := by decide +kernel
theorem d1_5 : decode prog_8_method_1_code 5 = .ok (.aload_n 1, 1) := by decide +kernel
theorem d1_6 : decode prog_8_method_1_code 6 = .ok (.putfield 7, 3) := by decide +kernel
theorem d1_9 : decode prog_8_method_1_code 9 = .ok (.return_, 1) := by decide +kernel
theorem own_pn0 : plainName "com/example/rowfold/rowfold/Literal" = true := by first | (simp [plainName, overriddenIn]; done) | decide +kernel
def own_Q_linit (Z : State)  (t_ : Addr) (x_ : Addr) (h0 : Heap) (n0 : Nat) (v : Option Value) (h : Heap) (L : List Loc) : Prop := (v = none) ∧ (Fr n0 L) ∧ (Keep h0 h [t_]) ∧ (Exa Z h t_ "com/example/rowfold/rowfold/Literal") ∧ (Fld Z h t_ "com/example/rowfold/rowfold/Literal" "text" "Ljava/lang/String;" (.ref x_)) ∧ (Fld Z h t_ "com/example/rowfold/rowfold/Literal" "at" "I" (.int (0 : Int32)))
abbrev yM0 : MethodName := ⟨"com/example/rowfold/rowfold/Literal", "<init>", "(Ljava/lang/String;)V"⟩
set_option maxRecDepth 65536 in
set_option maxHeartbeats 40000000 in
theorem rm_linit (l : Launch) (Z : State) (a0 : Array Value) (hw : ∀ d ∈ tables_1, d.before a0 Z = true) (ws : List Jvm.Cond)  (t_ : Addr) (x_ : Addr) (h0 : Heap) (n0 : Nat) (O0 : Old Z n0 h0) (pr0 : Exa Z h0 t_ "com/example/rowfold/rowfold/Literal") (pr1 : Fld Z h0 t_ "com/example/rowfold/rowfold/Literal" "text" "Ljava/lang/String;" .null) (pr2 : Fld Z h0 t_ "com/example/rowfold/rowfold/Literal" "at" "I" (.int (0 : Int32))) (pr3 : n0 ≤ t_) :
    oMet l Z yM0 prog_8_method_1_code 2 none ws ({ frames := 1, cells := 0, slots := 0, locals := 12 } : Room) 0 0 #[(.ref t_), (.ref x_)] h0 (own_Q_linit Z  t_ x_ h0 n0) := by
  refine oenter own_pn0 #[.val (.ref t_), .val (.ref x_)] (fun m => by first | (simp [entryFrame, mkF, argsToLocals, Value.category]; done) | rfl) ?_
  intro p e s m below meth c s₁ X0 hx hZ hby hml hret hown0 hnm hlk e0
  have hown : s.vm.findClass "com/example/rowfold/rowfold/Literal" = some m.cls := hown0
  have N0 := Fr.nil n0
  have w17 := hw _ (List.mem_of_getElem? (i := 17) rfl)
  have w18 := hw _ (List.mem_of_getElem? (i := 18) rfl)
  have w39 := hw _ (List.mem_of_getElem? (i := 39) rfl)
  have w44 := hw _ (List.mem_of_getElem? (i := 44) rfl)
  have w45 := hw _ (List.mem_of_getElem? (i := 45) rfl)
  have w46 := hw _ (List.mem_of_getElem? (i := 46) rfl)
  have w53 := hw _ (List.mem_of_getElem? (i := 53) rfl)
  refine o_aloadN X0 hx (hb hby d1_0) rfl rfl ?_
  obtain ⟨T1, X1, e1, st1⟩ := initO X0 hx hZ hown w44 w17 w18 e0 (g := (mkF m 1 #[.val (.ref t_), .val (.ref x_)] [(.ref t_)])) rfl (by rw [hml]; rfl) rfl (hb hby d1_1) (by decide) (W := 0) (by show 2 * 0 + _ ≤ _; exact Nat.le_of_eq rfl) (by decide)
  refine ogo (S' := T1.setTop (mkF m 4 #[.val (.ref t_), .val (.ref x_)] [])) st1 ?_
  refine o_aloadN X1 hx (hb hby d1_4) rfl rfl ?_
  refine o_aloadN X1 hx (hb hby d1_5) rfl rfl ?_
  obtain ⟨T2, _, X2, rfl, W2, st2⟩ := putF X1 hx hZ hown (host := "") (Or.inl w45) Via.refl e1 pr1 pr0 (Or.inr ⟨w46, rfl, hnm⟩) w39 (ty := (.object "java/lang/String")) (by decide) rfl rfl (g := (mkF m 6 #[.val (.ref t_), .val (.ref x_)] [(.ref x_), (.ref t_)])) rfl rfl (hb hby d1_6)
  have N2 := Fr.snoc X2 N0 pr3
  have F2 := Fld.same W2 pr1
  refine ogo (S' := T2.setTop (mkF m 9 #[.val (.ref t_), .val (.ref x_)] [])) st2 ?_
  have c3 := (Fld.other W2 pr2 (Or.inr (slot_ne (Or.inl w53) (Or.inr w46) (by decide) (t := .int) (t' := (.object "java/lang/String")) (by decide) (by decide))))
  refine oend X2 hlk (v := none) (fun _ => rfl) (fun fs hr => X2.returnOut hx hret (hb hby d1_9) hr) (by decide) (by decide) ?_
  show own_Q_linit Z _ _ h0 n0 _ T2.heap _
  exact ⟨rfl, N2, ((Keep.refl h0 [t_]).wr W2 (Or.inl (List.mem_of_getElem? (i := 0) rfl))), (Exa.wr W2 pr0), F2, c3⟩
theorem d2_0 : decode jdk_52_method_21_code 0 = .ok (.iconst 0, 1) := by decide +kernel
theorem d2_1 : decode jdk_52_method_21_code 1 = .ok (.istore 5, 2) := by decide +kernel
theorem d2_3 : decode jdk_52_method_21_code 3 = .ok (.iload 5, 2) := by decide +kernel
theorem d2_5 : decode jdk_52_method_21_code 5 = .ok (.iload 4, 2) := by decide +kernel
theorem d2_7 : decode jdk_52_method_21_code 7 = .ok (.if_icmp .ge 37, 3) := by decide +kernel
theorem d2_10 : decode jdk_52_method_21_code 10 = .ok (.aload_n 0, 1) := by decide +kernel
theorem d2_11 : decode jdk_52_method_21_code 11 = .ok (.iload_n 1, 1) := by decide +kernel
theorem d2_12 : decode jdk_52_method_21_code 12 = .ok (.caload, 1) := by decide +kernel
theorem d2_13 : decode jdk_52_method_21_code 13 = .ok (.istore 6, 2) := by decide +kernel
theorem d2_15 : decode jdk_52_method_21_code 15 = .ok (.iload 6, 2) := by decide +kernel
theorem d2_17 : decode jdk_52_method_21_code 17 = .ok (.sipush 255, 3) := by decide +kernel
theorem d2_20 : decode jdk_52_method_21_code 20 = .ok (.if_icmp .le 6, 3) := by decide +kernel
theorem d2_26 : decode jdk_52_method_21_code 26 = .ok (.aload_n 2, 1) := by decide +kernel
theorem d2_27 : decode jdk_52_method_21_code 27 = .ok (.iload_n 3, 1) := by decide +kernel
theorem d2_28 : decode jdk_52_method_21_code 28 = .ok (.iload 6, 2) := by decide +kernel
theorem d2_30 : decode jdk_52_method_21_code 30 = .ok (.i2b, 1) := by decide +kernel
theorem d2_31 : decode jdk_52_method_21_code 31 = .ok (.bastore, 1) := by decide +kernel
theorem d2_32 : decode jdk_52_method_21_code 32 = .ok (.iinc 1 1, 3) := by decide +kernel
theorem d2_35 : decode jdk_52_method_21_code 35 = .ok (.iinc 3 1, 3) := by decide +kernel
theorem d2_38 : decode jdk_52_method_21_code 38 = .ok (.iinc 5 1, 3) := by decide +kernel
theorem d2_41 : decode jdk_52_method_21_code 41 = .ok (.goto (-38), 3) := by decide +kernel
theorem d2_44 : decode jdk_52_method_21_code 44 = .ok (.iload 4, 2) := by decide +kernel
theorem d2_46 : decode jdk_52_method_21_code 46 = .ok (.ireturn, 1) := by decide +kernel
theorem own_pn1 : plainName "java/lang/StringUTF16" = true := by first | (simp [plainName, overriddenIn]; done) | decide +kernel
def own_Q_cmp5_1 (Z : State)  (ca_ : Addr) (kc_ : ClassId) (ba_ : Addr) (kb_ : ClassId) (c0_ : Int32) (h0 : Heap) (n0 : Nat) (v : Option Value) (h : Heap) (L : List Loc) : Prop := (v = some (.int (1 : Int32))) ∧ (Fr n0 L) ∧ (Keep h0 h [ba_]) ∧ (Arv Z h ba_ kb_ .byte (1 : Int32) [(.int c0_.toInt8.toInt32)] (.int 0))
abbrev yM1 : MethodName := ⟨"java/lang/StringUTF16", "compress", "([CI[BII)I"⟩
set_option maxRecDepth 65536 in
set_option maxHeartbeats 40000000 in
theorem rm_cmp5_1 (l : Launch) (Z : State) (a0 : Array Value) (hw : ∀ d ∈ tables_1, d.before a0 Z = true) (ws : List Jvm.Cond)  (ca_ : Addr) (kc_ : ClassId) (ba_ : Addr) (kb_ : ClassId) (c0_ : Int32) (h0 : Heap) (n0 : Nat) (O0 : Old Z n0 h0) (pr0 : Arv Z h0 ca_ kc_ .char (1 : Int32) [(.int c0_)] (.int 0)) (pr1 : Arv Z h0 ba_ kb_ .byte (1 : Int32) [(.int 0)] (.int 0)) (pr2 : ca_ ≠ ba_) (pr3 : n0 ≤ ba_) (pr4 : ¬ ((255 : Int32) < c0_)) :
    oMet l Z yM1 jdk_52_method_21_code 7 (some .int) ws ({ frames := 0, cells := 0, slots := 0, locals := 0 } : Room) 0 0 #[(.ref ca_), (.int (0 : Int32)), (.ref ba_), (.int (0 : Int32)), (.int (1 : Int32))] h0 (own_Q_cmp5_1 Z  ca_ kc_ ba_ kb_ c0_ h0 n0) := by
  refine oenter own_pn1 #[.val (.ref ca_), .val (.int (0 : Int32)), .val (.ref ba_), .val (.int (0 : Int32)), .val (.int (1 : Int32)), .unset, .unset] (fun m => by first | (simp [entryFrame, mkF, argsToLocals, Value.category]; done) | rfl) ?_
  intro p e s m below meth c s₁ X0 hx hZ hby hml hret hown0 hnm hlk e0
  have hown : s.vm.findClass "java/lang/StringUTF16" = some m.cls := hown0
  have N0 := Fr.nil n0
  refine o_iconst X0 hx (0 : Int32) (hb hby d2_0) rfl ?_
  refine o_istore X0 hx (l' := #[.val (.ref ca_), .val (.int (0 : Int32)), .val (.ref ba_), .val (.int (0 : Int32)), .val (.int (1 : Int32)), .val (.int (0 : Int32)), .unset]) (hb hby d2_1) rfl ?_
  refine o_iload X0 hx (hb hby d2_3) rfl ?_
  refine o_iload X0 hx (hb hby d2_5) rfl ?_
  refine o_icmpNo X0 hx (hb hby d2_7) (tlt (by decide : (0 : Int32) < (1 : Int32))).2.1 ?_
  refine o_aloadN X0 hx (hb hby d2_10) rfl rfl ?_
  refine o_iloadN X0 hx (hb hby d2_11) rfl ?_
  obtain ⟨cl1, Ar1, q1, S1, N1z, H1, G1⟩ := (id pr0)
  have hi1 := inb_of (j := (0 : Int32)) S1 ⟨by decide, by decide⟩
  have ha1 := Has.at (v := (.int c0_)) H1 hi1 rfl
  refine ogo (S' := s₁.setTop (mkF m 13 #[.val (.ref ca_), .val (.int (0 : Int32)), .val (.ref ba_), .val (.int (0 : Int32)), .val (.int (1 : Int32)), .val (.int (0 : Int32)), .unset] [(.int c0_)])) (X0.caload hx (j := (0 : Int32)) (v := (.int c0_)) (by rw [e0]; exact Ar1.1) (State.isArrayOf_alike hZ.alike Ar1.2.1) Ar1.2.2 hi1 ha1 (g := (mkF m 12 #[.val (.ref ca_), .val (.int (0 : Int32)), .val (.ref ba_), .val (.int (0 : Int32)), .val (.int (1 : Int32)), .val (.int (0 : Int32)), .unset] [(.int (0 : Int32)), (.ref ca_)])) rfl rfl (hb hby d2_12)) ?_
  refine o_istore X0 hx (l' := #[.val (.ref ca_), .val (.int (0 : Int32)), .val (.ref ba_), .val (.int (0 : Int32)), .val (.int (1 : Int32)), .val (.int (0 : Int32)), .val (.int c0_)]) (hb hby d2_13) rfl ?_
  refine o_iload X0 hx (hb hby d2_15) rfl ?_
  refine o_sipush X0 hx (255 : Int32) (hb hby d2_17) rfl ?_
  refine o_icmpYes X0 hx 26 (hb hby d2_20) (flt pr4).2.2.2 (by decide) (by decide) ?_
  refine o_aloadN X0 hx (hb hby d2_26) rfl rfl ?_
  refine o_iloadN X0 hx (hb hby d2_27) rfl ?_
  refine o_iload X0 hx (hb hby d2_28) rfl ?_
  refine o_i2b X0 hx (hb hby d2_30) ?_
  obtain ⟨cl2, Ar2, q2, S2, N2z, H2, G2⟩ := (id pr1)
  obtain ⟨T2, _, X2, rfl, W2, st2⟩ := stB X0 hx hZ e0 Ar2 (j := (0 : Int32)) (inb_of S2 ⟨by decide, by decide⟩) (g := (mkF m 31 #[.val (.ref ca_), .val (.int (0 : Int32)), .val (.ref ba_), .val (.int (0 : Int32)), .val (.int (1 : Int32)), .val (.int (0 : Int32)), .val (.int c0_)] [(.int c0_.toInt8.toInt32), (.int (0 : Int32)), (.ref ba_)])) rfl rfl (hb hby d2_31)
  rw [own_narb] at W2
  have V2 : Arv Z T2.heap ba_ kb_ .byte (1 : Int32) [(.int c0_.toInt8.toInt32)] (.int 0) := Arv.set Ar2 q2 S2 N2z H2 G2 (fits_nar_byte _) W2 0 rfl (Nat.le_of_ble_eq_true rfl)
  have N2 := Fr.snoc X2 N0 pr3
  refine ogo (S' := T2.setTop (mkF m 32 #[.val (.ref ca_), .val (.int (0 : Int32)), .val (.ref ba_), .val (.int (0 : Int32)), .val (.int (1 : Int32)), .val (.int (0 : Int32)), .val (.int c0_)] [])) st2 ?_
  refine o_iinc X2 hx (l' := #[.val (.ref ca_), .val (.int (1 : Int32)), .val (.ref ba_), .val (.int (0 : Int32)), .val (.int (1 : Int32)), .val (.int (0 : Int32)), .val (.int c0_)]) (hb hby d2_32) rfl rfl ?_
  refine o_iinc X2 hx (l' := #[.val (.ref ca_), .val (.int (1 : Int32)), .val (.ref ba_), .val (.int (1 : Int32)), .val (.int (1 : Int32)), .val (.int (0 : Int32)), .val (.int c0_)]) (hb hby d2_35) rfl rfl ?_
  refine o_iinc X2 hx (l' := #[.val (.ref ca_), .val (.int (1 : Int32)), .val (.ref ba_), .val (.int (1 : Int32)), .val (.int (1 : Int32)), .val (.int (1 : Int32)), .val (.int c0_)]) (hb hby d2_38) rfl rfl ?_
  refine o_goto X2 hx 3 (hb hby d2_41) (by decide) (by decide) ?_
  refine o_iload X2 hx (hb hby d2_3) rfl ?_
  refine o_iload X2 hx (hb hby d2_5) rfl ?_
  refine o_icmpYes X2 hx 44 (hb hby d2_7) (flt (by decide : ¬ ((1 : Int32) < (1 : Int32)))).2.1 (by decide) (by decide) ?_
  refine o_iload X2 hx (hb hby d2_44) rfl ?_
  refine oend X2 hlk (v := some (.int (1 : Int32))) (fun h => by rw [hret] at h; cases h) (fun fs hr => retOut X2 hx (t := .int) (i := .ireturn) hret rfl (Or.inl ⟨rfl, Or.inl rfl, _, rfl⟩) (hb hby d2_46) hr) (by decide) (by decide) ?_
  show own_Q_cmp5_1 Z _ _ _ _ _ h0 n0 _ T2.heap _
  exact ⟨rfl, N2, ((Keep.refl h0 [ba_]).wr W2 (Or.inl (List.mem_of_getElem? (i := 0) rfl))), V2⟩
theorem own_pd0 : parseMethodDescriptor "([CI[BII)I" = some ⟨[(.array .char), .int, (.array .byte), .int, .int], some .int⟩ := by decide +kernel
theorem d3_0 : decode jdk_52_method_16_code 0 = .ok (.iload_n 2, 1) := by decide +kernel
theorem d3_1 : decode jdk_52_method_16_code 1 = .ok (.newarray .byte, 2) := by decide +kernel
theorem d3_3 : decode jdk_52_method_16_code 3 = .ok (.astore_n 3, 1) := by decide +kernel
theorem d3_4 : decode jdk_52_method_16_code 4 = .ok (.aload_n 0, 1) := by decide +kernel
theorem d3_5 : decode jdk_52_method_16_code 5 = .ok (.iload_n 1, 1) := by decide +kernel
theorem d3_6 : decode jdk_52_method_16_code 6 = .ok (.aload_n 3, 1) := by decide +kernel
theorem d3_7 : decode jdk_52_method_16_code 7 = .ok (.iconst 0, 1) := by decide +kernel
theorem d3_8 : decode jdk_52_method_16_code 8 = .ok (.iload_n 2, 1) := by decide +kernel
theorem d3_9 : decode jdk_52_method_16_code 9 = .ok (.invokestatic 115, 3) := by decide +kernel
theorem d3_12 : decode jdk_52_method_16_code 12 = .ok (.istore 4, 2) := by decide +kernel
theorem d3_14 : decode jdk_52_method_16_code 14 = .ok (.iload 4, 2) := by decide +kernel
theorem d3_16 : decode jdk_52_method_16_code 16 = .ok (.iload_n 2, 1) := by decide +kernel
theorem d3_17 : decode jdk_52_method_16_code 17 = .ok (.if_icmp .eq 40, 3) := by decide +kernel
theorem d3_57 : decode jdk_52_method_16_code 57 = .ok (.aload_n 3, 1) := by decide +kernel
theorem d3_58 : decode jdk_52_method_16_code 58 = .ok (.areturn, 1) := by decide +kernel
def own_Q_cmp3_1 (Z : State)  (ca_ : Addr) (kc_ : ClassId) (c0_ : Int32) (h0 : Heap) (n0 : Nat) (v : Option Value) (h : Heap) (L : List Loc) : Prop := ∃ ba_ : Addr, ∃ kb_ : ClassId, (v = some (.ref ba_)) ∧ (Fr n0 L) ∧ (Keep h0 h []) ∧ (h0.size ≤ ba_) ∧ (Arv Z h ba_ kb_ .byte (1 : Int32) [(.int c0_.toInt8.toInt32)] (.int 0))
abbrev yM2 : MethodName := ⟨"java/lang/StringUTF16", "compress", "([CII)[B"⟩
set_option maxRecDepth 65536 in
set_option maxHeartbeats 40000000 in
theorem rm_cmp3_1 (l : Launch) (Z : State) (a0 : Array Value) (hw : ∀ d ∈ tables_1, d.before a0 Z = true) (ws : List Jvm.Cond)  (ca_ : Addr) (kc_ : ClassId) (c0_ : Int32) (h0 : Heap) (n0 : Nat) (O0 : Old Z n0 h0) (pr0 : Arv Z h0 ca_ kc_ .char (1 : Int32) [(.int c0_)] (.int 0)) (pr1 : ¬ ((255 : Int32) < c0_)) :
    oMet l Z yM2 jdk_52_method_16_code 6 (some (.array .byte)) ws ({ frames := 1, cells := 1, slots := 1, locals := 18 } : Room) 1 1 #[(.ref ca_), (.int (0 : Int32)), (.int (1 : Int32))] h0 (own_Q_cmp3_1 Z  ca_ kc_ c0_ h0 n0) := by
  refine oenter own_pn1 #[.val (.ref ca_), .val (.int (0 : Int32)), .val (.int (1 : Int32)), .unset, .unset, .unset] (fun m => by first | (simp [entryFrame, mkF, argsToLocals, Value.category]; done) | rfl) ?_
  intro p e s m below meth c s₁ X0 hx hZ hby hml hret hown0 hnm hlk e0
  have hown : s.vm.findClass "java/lang/StringUTF16" = some m.cls := hown0
  have N0 := Fr.nil n0
  have w20 := hw _ (List.mem_of_getElem? (i := 20) rfl)
  have w62 := hw _ (List.mem_of_getElem? (i := 62) rfl)
  have w64 := hw _ (List.mem_of_getElem? (i := 64) rfl)
  have w65 := hw _ (List.mem_of_getElem? (i := 65) rfl)
  have w66 := hw _ (List.mem_of_getElem? (i := 66) rfl)
  refine o_iloadN X0 hx (hb hby d3_0) rfl ?_
  obtain ⟨T1, _, k1, X1, rfl, E1, A1, Ex1, st1⟩ := newPE (aty := .byte) X0 hx hZ w20 e0 (g := (mkF m 1 #[.val (.ref ca_), .val (.int (0 : Int32)), .val (.int (1 : Int32)), .unset, .unset, .unset] [(.int (1 : Int32))])) rfl (hb hby d3_1) rfl (by decide) (cap := 1) (by decide) (by decide) (by decide) (by decide) (ad := "[B") rfl
  obtain ⟨b1, g1⟩ : ∃ z, z = h0.size := ⟨_, rfl⟩
  rw [← g1] at A1 Ex1 st1
  have n0_b1 : n0 ≤ b1 := Nat.le_trans (Nat.le_trans (Nat.le_of_eq O0.1.symm) O0.2.1) (Nat.le_trans (Nat.le_refl _) (Nat.le_of_eq g1.symm))
  have V1 : Arv Z T1.heap b1 k1 .byte (1 : Int32) [(.int 0)] (.int 0) := (Arv.new A1 (by decide)).pad (pad_rep [] (.int 0) 1)
  refine ogo (S' := T1.setTop (mkF m 3 #[.val (.ref ca_), .val (.int (0 : Int32)), .val (.int (1 : Int32)), .unset, .unset, .unset] [(.ref b1)])) st1 ?_
  refine o_astoreN X1 hx (l' := #[.val (.ref ca_), .val (.int (0 : Int32)), .val (.int (1 : Int32)), .val (.ref b1), .unset, .unset]) (hb hby d3_3) rfl rfl ?_
  refine o_aloadN X1 hx (hb hby d3_4) rfl rfl ?_
  refine o_iloadN X1 hx (hb hby d3_5) rfl ?_
  refine o_aloadN X1 hx (hb hby d3_6) rfl rfl ?_
  refine o_iconst X1 hx (0 : Int32) (hb hby d3_7) rfl ?_
  refine o_iloadN X1 hx (hb hby d3_8) rfl ?_
  obtain ⟨_, _, ⟨T2, L2, kc2, n2⟩, -, X2, ⟨Lc2, hQ2, l2, y2, z2⟩, st2⟩ := Jvm.LawKit.callS X1 hx (y := yM1) hown (mvT hZ w64) (mvT hZ w65) (mvT hZ w62) (mvT hZ w66) (by decide) (backOf (W := 0) (rm_cmp5_1 l Z a0 hw []  ca_ kc_ b1 k1 c0_ T1.heap n0 (O0.ext E1) (pr0.ext E1) V1 (Nat.ne_of_lt (Nat.lt_of_lt_of_le (Nat.lt_of_lt_of_le pr0.lt (Nat.le_refl _)) (Nat.le_of_eq g1.symm))) n0_b1 pr1) hZ w66 w62 (by decide) (by decide)) (g := (mkF m 9 #[.val (.ref ca_), .val (.int (0 : Int32)), .val (.int (1 : Int32)), .val (.ref b1), .unset, .unset] [(.int (1 : Int32)), (.int (0 : Int32)), (.ref b1), (.int (0 : Int32)), (.ref ca_)])) rfl (by rw [hml]; rfl) (argsL := [(.ref ca_), (.int (0 : Int32)), (.ref b1), (.int (0 : Int32)), (.int (1 : Int32))]) (rest := []) (lenOf own_pd0 rfl) rfl (by show 2 * 0 + _ ≤ _; exact Nat.le_of_eq rfl) (hb hby d3_9) (fun _ _ => ⟨rfl, rfl, (by decide : 1 + 0 ≤ _), (by decide : 1 + 0 ≤ _)⟩)
  dsimp only [Pt.U, Pt.locs, Pt.cells, Pt.slots] at X2 l2 y2 z2 st2 hQ2
  subst l2 y2 z2
  obtain ⟨rfl, Nq2, K2, p2_0⟩ := hQ2
  have N2 := Fr.app N0 Nq2
  refine ogo (S' := T2.setTop (mkF m 12 #[.val (.ref ca_), .val (.int (0 : Int32)), .val (.int (1 : Int32)), .val (.ref b1), .unset, .unset] [(.int (1 : Int32))])) st2 ?_
  refine o_istore X2 hx (l' := #[.val (.ref ca_), .val (.int (0 : Int32)), .val (.int (1 : Int32)), .val (.ref b1), .val (.int (1 : Int32)), .unset]) (hb hby d3_12) rfl ?_
  refine o_iload X2 hx (hb hby d3_14) rfl ?_
  refine o_iloadN X2 hx (hb hby d3_16) rfl ?_
  refine o_icmpYes X2 hx 57 (hb hby d3_17) (teq (by decide : (1 : Int32) = (1 : Int32))).1 (by decide) (by decide) ?_
  refine o_aloadN X2 hx (hb hby d3_57) rfl rfl ?_
  refine oend X2 hlk (v := some (.ref b1)) (fun h => by rw [hret] at h; cases h) (fun fs hr => retOut X2 hx (t := (.array .byte)) (i := .areturn) hret rfl (Or.inr (Or.inr (Or.inr (Or.inr ⟨rfl, rfl, rfl⟩)))) (hb hby d3_58) hr) (by decide) (by decide) ?_
  show own_Q_cmp3_1 Z _ _ _ h0 n0 _ T2.heap _
  exact ⟨b1, k1, rfl, N2, (((Keep.refl h0 []).ext E1).trans K2 (allS (Or.inr (Nat.le_trans (Nat.le_refl _) (Nat.le_of_eq g1.symm))) all0)), (Nat.le_trans (Nat.le_refl _) (Nat.le_of_eq g1.symm)), p2_0⟩
theorem d4_0 : decode jdk_52_method_15_code 0 = .ok (.iload_n 1, 1) := by decide +kernel
theorem d4_1 : decode jdk_52_method_15_code 1 = .ok (.aload_n 0, 1) := by decide +kernel
theorem d4_2 : decode jdk_52_method_15_code 2 = .ok (.arraylength, 1) := by decide +kernel
theorem d4_3 : decode jdk_52_method_15_code 3 = .ok (.isub, 1) := by decide +kernel
theorem d4_4 : decode jdk_52_method_15_code 4 = .ok (.bipush 31, 2) := by decide +kernel
theorem d4_6 : decode jdk_52_method_15_code 6 = .ok (.iushr, 1) := by decide +kernel
theorem d4_7 : decode jdk_52_method_15_code 7 = .ok (.i2b, 1) := by decide +kernel
theorem d4_8 : decode jdk_52_method_15_code 8 = .ok (.ireturn, 1) := by decide +kernel
def own_Q_codl_1 (Z : State)  (ba_ : Addr) (kb_ : ClassId) (vs_ : List Value) (h0 : Heap) (n0 : Nat) (v : Option Value) (h : Heap) (L : List Loc) : Prop := (v = some (.int (0 : Int32))) ∧ (Fr n0 L) ∧ (h = h0)
abbrev yM3 : MethodName := ⟨"java/lang/StringUTF16", "coderFromArrayLen", "([BI)B"⟩
set_option maxRecDepth 65536 in
set_option maxHeartbeats 40000000 in
theorem rm_codl_1 (l : Launch) (Z : State) (a0 : Array Value) (hw : ∀ d ∈ tables_1, d.before a0 Z = true) (ws : List Jvm.Cond)  (ba_ : Addr) (kb_ : ClassId) (vs_ : List Value) (h0 : Heap) (n0 : Nat) (O0 : Old Z n0 h0) (pr0 : Arv Z h0 ba_ kb_ .byte (1 : Int32) vs_ (.int 0)) :
    oMet l Z yM3 jdk_52_method_15_code 2 (some .byte) ws ({ frames := 0, cells := 0, slots := 0, locals := 0 } : Room) 0 0 #[(.ref ba_), (.int (1 : Int32))] h0 (own_Q_codl_1 Z  ba_ kb_ vs_ h0 n0) := by
  refine oenter own_pn1 #[.val (.ref ba_), .val (.int (1 : Int32))] (fun m => by first | (simp [entryFrame, mkF, argsToLocals, Value.category]; done) | rfl) ?_
  intro p e s m below meth c s₁ X0 hx hZ hby hml hret hown0 hnm hlk e0
  have hown : s.vm.findClass "java/lang/StringUTF16" = some m.cls := hown0
  have N0 := Fr.nil n0
  refine o_iloadN X0 hx (hb hby d4_0) rfl ?_
  refine o_aloadN X0 hx (hb hby d4_1) rfl rfl ?_
  obtain ⟨cl1, Ar1, -, S1, N1z, -, -⟩ := (id pr0)
  refine ogo (S' := s₁.setTop (mkF m 3 #[.val (.ref ba_), .val (.int (1 : Int32))] [(.int (1 : Int32)), (.int (1 : Int32))])) (fun _ kt_ => X0.arraylength hx (by rw [e0]; exact Ar1.1) (State.isArrayOf_alike hZ.alike Ar1.2.1) (g := (mkF m 2 #[.val (.ref ba_), .val (.int (1 : Int32))] [(.ref ba_), (.int (1 : Int32))])) rfl rfl (hb hby d4_2) _ (by rw [len_of S1 N1z]; exact kt_)) ?_
  refine o_isub X0 hx (hb hby d4_3) ?_
  refine o_bipush X0 hx (31 : Int32) (hb hby d4_4) rfl ?_
  refine o_iushr X0 hx (hb hby d4_6) ?_
  refine o_i2b X0 hx (hb hby d4_7) ?_
  refine oend X0 hlk (v := some (.int (0 : Int32))) (fun h => by rw [hret] at h; cases h) (fun fs hr => retN X0 hx (t := .byte) hret (by simp) (hb hby d4_8) hr) (by decide) (by decide) ?_
  show own_Q_codl_1 Z _ _ _ h0 n0 _ s₁.heap _
  rw [e0]
  exact ⟨rfl, N0, rfl⟩
def own_Q_codl16_1 (Z : State)  (ba_ : Addr) (kb_ : ClassId) (vs_ : List Value) (h0 : Heap) (n0 : Nat) (v : Option Value) (h : Heap) (L : List Loc) : Prop := (v = some (.int (1 : Int32))) ∧ (Fr n0 L) ∧ (h = h0)
set_option maxRecDepth 65536 in
set_option maxHeartbeats 40000000 in
theorem rm_codl16_1 (l : Launch) (Z : State) (a0 : Array Value) (hw : ∀ d ∈ tables_1, d.before a0 Z = true) (ws : List Jvm.Cond)  (ba_ : Addr) (kb_ : ClassId) (vs_ : List Value) (h0 : Heap) (n0 : Nat) (O0 : Old Z n0 h0) (pr0 : Arv Z h0 ba_ kb_ .byte (2 : Int32) vs_ (.int 0)) :
    oMet l Z yM3 jdk_52_method_15_code 2 (some .byte) ws ({ frames := 0, cells := 0, slots := 0, locals := 0 } : Room) 0 0 #[(.ref ba_), (.int (1 : Int32))] h0 (own_Q_codl16_1 Z  ba_ kb_ vs_ h0 n0) := by
  refine oenter own_pn1 #[.val (.ref ba_), .val (.int (1 : Int32))] (fun m => by first | (simp [entryFrame, mkF, argsToLocals, Value.category]; done) | rfl) ?_
  intro p e s m below meth c s₁ X0 hx hZ hby hml hret hown0 hnm hlk e0
  have hown : s.vm.findClass "java/lang/StringUTF16" = some m.cls := hown0
  have N0 := Fr.nil n0
  refine o_iloadN X0 hx (hb hby d4_0) rfl ?_
  refine o_aloadN X0 hx (hb hby d4_1) rfl rfl ?_
  obtain ⟨cl1, Ar1, -, S1, N1z, -, -⟩ := (id pr0)
  refine ogo (S' := s₁.setTop (mkF m 3 #[.val (.ref ba_), .val (.int (1 : Int32))] [(.int (2 : Int32)), (.int (1 : Int32))])) (fun _ kt_ => X0.arraylength hx (by rw [e0]; exact Ar1.1) (State.isArrayOf_alike hZ.alike Ar1.2.1) (g := (mkF m 2 #[.val (.ref ba_), .val (.int (1 : Int32))] [(.ref ba_), (.int (1 : Int32))])) rfl rfl (hb hby d4_2) _ (by rw [len_of S1 N1z]; exact kt_)) ?_
  refine o_isub X0 hx (hb hby d4_3) ?_
  refine o_bipush X0 hx (31 : Int32) (hb hby d4_4) rfl ?_
  refine o_iushr X0 hx (hb hby d4_6) ?_
  refine o_i2b X0 hx (hb hby d4_7) ?_
  refine oend X0 hlk (v := some (.int (1 : Int32))) (fun h => by rw [hret] at h; cases h) (fun fs hr => retN X0 hx (t := .byte) hret (by simp) (hb hby d4_8) hr) (by decide) (by decide) ?_
  show own_Q_codl16_1 Z _ _ _ h0 n0 _ s₁.heap _
  rw [e0]
  exact ⟨rfl, N0, rfl⟩
theorem d2_23 : decode jdk_52_method_21_code 23 = .ok (.iload 5, 2) := by decide +kernel
theorem d2_25 : decode jdk_52_method_21_code 25 = .ok (.ireturn, 1) := by decide +kernel
def own_Q_cmp5_1_0 (Z : State)  (ca_ : Addr) (kc_ : ClassId) (ba_ : Addr) (kb_ : ClassId) (c0_ : Int32) (h0 : Heap) (n0 : Nat) (v : Option Value) (h : Heap) (L : List Loc) : Prop := (v = some (.int (0 : Int32))) ∧ (Fr n0 L) ∧ (Keep h0 h [ba_])
set_option maxRecDepth 65536 in
set_option maxHeartbeats 40000000 in
theorem rm_cmp5_1_0 (l : Launch) (Z : State) (a0 : Array Value) (hw : ∀ d ∈ tables_1, d.before a0 Z = true) (ws : List Jvm.Cond)  (ca_ : Addr) (kc_ : ClassId) (ba_ : Addr) (kb_ : ClassId) (c0_ : Int32) (h0 : Heap) (n0 : Nat) (O0 : Old Z n0 h0) (pr0 : Arv Z h0 ca_ kc_ .char (1 : Int32) [(.int c0_)] (.int 0)) (pr1 : Arv Z h0 ba_ kb_ .byte (1 : Int32) [(.int 0)] (.int 0)) (pr2 : ca_ ≠ ba_) (pr3 : n0 ≤ ba_) (pr4 : (255 : Int32) < c0_) :
    oMet l Z yM1 jdk_52_method_21_code 7 (some .int) ws ({ frames := 0, cells := 0, slots := 0, locals := 0 } : Room) 0 0 #[(.ref ca_), (.int (0 : Int32)), (.ref ba_), (.int (0 : Int32)), (.int (1 : Int32))] h0 (own_Q_cmp5_1_0 Z  ca_ kc_ ba_ kb_ c0_ h0 n0) := by
  refine oenter own_pn1 #[.val (.ref ca_), .val (.int (0 : Int32)), .val (.ref ba_), .val (.int (0 : Int32)), .val (.int (1 : Int32)), .unset, .unset] (fun m => by first | (simp [entryFrame, mkF, argsToLocals, Value.category]; done) | rfl) ?_
  intro p e s m below meth c s₁ X0 hx hZ hby hml hret hown0 hnm hlk e0
  have hown : s.vm.findClass "java/lang/StringUTF16" = some m.cls := hown0
  have N0 := Fr.nil n0
  refine o_iconst X0 hx (0 : Int32) (hb hby d2_0) rfl ?_
  refine o_istore X0 hx (l' := #[.val (.ref ca_), .val (.int (0 : Int32)), .val (.ref ba_), .val (.int (0 : Int32)), .val (.int (1 : Int32)), .val (.int (0 : Int32)), .unset]) (hb hby d2_1) rfl ?_
  refine o_iload X0 hx (hb hby d2_3) rfl ?_
  refine o_iload X0 hx (hb hby d2_5) rfl ?_
  refine o_icmpNo X0 hx (hb hby d2_7) (tlt (by decide : (0 : Int32) < (1 : Int32))).2.1 ?_
  refine o_aloadN X0 hx (hb hby d2_10) rfl rfl ?_
  refine o_iloadN X0 hx (hb hby d2_11) rfl ?_
  obtain ⟨cl1, Ar1, q1, S1, N1z, H1, G1⟩ := (id pr0)
  have hi1 := inb_of (j := (0 : Int32)) S1 ⟨by decide, by decide⟩
  have ha1 := Has.at (v := (.int c0_)) H1 hi1 rfl
  refine ogo (S' := s₁.setTop (mkF m 13 #[.val (.ref ca_), .val (.int (0 : Int32)), .val (.ref ba_), .val (.int (0 : Int32)), .val (.int (1 : Int32)), .val (.int (0 : Int32)), .unset] [(.int c0_)])) (X0.caload hx (j := (0 : Int32)) (v := (.int c0_)) (by rw [e0]; exact Ar1.1) (State.isArrayOf_alike hZ.alike Ar1.2.1) Ar1.2.2 hi1 ha1 (g := (mkF m 12 #[.val (.ref ca_), .val (.int (0 : Int32)), .val (.ref ba_), .val (.int (0 : Int32)), .val (.int (1 : Int32)), .val (.int (0 : Int32)), .unset] [(.int (0 : Int32)), (.ref ca_)])) rfl rfl (hb hby d2_12)) ?_
  refine o_istore X0 hx (l' := #[.val (.ref ca_), .val (.int (0 : Int32)), .val (.ref ba_), .val (.int (0 : Int32)), .val (.int (1 : Int32)), .val (.int (0 : Int32)), .val (.int c0_)]) (hb hby d2_13) rfl ?_
  refine o_iload X0 hx (hb hby d2_15) rfl ?_
  refine o_sipush X0 hx (255 : Int32) (hb hby d2_17) rfl ?_
  refine o_icmpNo X0 hx (hb hby d2_20) (tlt pr4).2.2.2 ?_
  refine o_iload X0 hx (hb hby d2_23) rfl ?_
  refine oend X0 hlk (v := some (.int (0 : Int32))) (fun h => by rw [hret] at h; cases h) (fun fs hr => retOut X0 hx (t := .int) (i := .ireturn) hret rfl (Or.inl ⟨rfl, Or.inl rfl, _, rfl⟩) (hb hby d2_25) hr) (by decide) (by decide) ?_
  show own_Q_cmp5_1_0 Z _ _ _ _ _ h0 n0 _ s₁.heap _
  rw [e0]
  exact ⟨rfl, N0, (Keep.refl h0 [ba_])⟩
theorem d5_0 : decode jdk_52_method_3_code 0 = .ok (.iload_n 0, 1) := by decide +kernel
theorem d5_1 : decode jdk_52_method_3_code 1 = .ok (.ifCond .ge 11, 3) := by decide +kernel
theorem d5_12 : decode jdk_52_method_3_code 12 = .ok (.iload_n 0, 1) := by decide +kernel
theorem d5_13 : decode jdk_52_method_3_code 13 = .ok (.ldc 20, 2) := by decide +kernel
theorem d5_15 : decode jdk_52_method_3_code 15 = .ok (.if_icmp .lt 40, 3) := by decide +kernel
theorem d5_55 : decode jdk_52_method_3_code 55 = .ok (.iload_n 0, 1) := by decide +kernel
theorem d5_56 : decode jdk_52_method_3_code 56 = .ok (.iconst 1, 1) := by decide +kernel
theorem d5_57 : decode jdk_52_method_3_code 57 = .ok (.ishl, 1) := by decide +kernel
theorem d5_58 : decode jdk_52_method_3_code 58 = .ok (.ireturn, 1) := by decide +kernel
def own_Q_nbl_1 (Z : State)   (h0 : Heap) (n0 : Nat) (v : Option Value) (h : Heap) (L : List Loc) : Prop := (v = some (.int (2 : Int32))) ∧ (Fr n0 L) ∧ (h = h0)
abbrev yM4 : MethodName := ⟨"java/lang/StringUTF16", "newBytesLength", "(I)I"⟩
set_option maxRecDepth 65536 in
set_option maxHeartbeats 40000000 in
theorem rm_nbl_1 (l : Launch) (Z : State) (a0 : Array Value) (hw : ∀ d ∈ tables_1, d.before a0 Z = true) (ws : List Jvm.Cond)   (h0 : Heap) (n0 : Nat) (O0 : Old Z n0 h0)  :
    oMet l Z yM4 jdk_52_method_3_code 1 (some .int) ws ({ frames := 0, cells := 0, slots := 0, locals := 0 } : Room) 0 0 #[(.int (1 : Int32))] h0 (own_Q_nbl_1 Z   h0 n0) := by
  refine oenter own_pn1 #[.val (.int (1 : Int32))] (fun m => by first | (simp [entryFrame, mkF, argsToLocals, Value.category]; done) | rfl) ?_
  intro p e s m below meth c s₁ X0 hx hZ hby hml hret hown0 hnm hlk e0
  have hown : s.vm.findClass "java/lang/StringUTF16" = some m.cls := hown0
  have N0 := Fr.nil n0
  have w101 := hw _ (List.mem_of_getElem? (i := 101) rfl)
  refine o_iloadN X0 hx (hb hby d5_0) rfl ?_
  refine o_ifYes X0 hx 12 (hb hby d5_1) (flt (by decide : ¬ ((1 : Int32) < (0 : Int32)))).2.1 (by decide) (by decide) ?_
  refine o_iloadN X0 hx (hb hby d5_12) rfl ?_
  refine ogo (S' := s₁.setTop (mkF m 15 #[.val (.int (1 : Int32))] [(.int (1073741823 : Int32)), (.int (1 : Int32))])) (X0.ldcInt hx hown (mvT hZ w101) (g := (mkF m 13 #[.val (.int (1 : Int32))] [(.int (1 : Int32))])) rfl (hb hby d5_13)) ?_
  refine o_icmpYes X0 hx 55 (hb hby d5_15) (tlt (by decide : (1 : Int32) < (1073741823 : Int32))).1 (by decide) (by decide) ?_
  refine o_iloadN X0 hx (hb hby d5_55) rfl ?_
  refine o_iconst X0 hx (1 : Int32) (hb hby d5_56) rfl ?_
  refine o_ishl X0 hx (hb hby d5_57) ?_
  refine oend X0 hlk (v := some (.int (2 : Int32))) (fun h => by rw [hret] at h; cases h) (fun fs hr => retOut X0 hx (t := .int) (i := .ireturn) hret rfl (Or.inl ⟨rfl, Or.inl rfl, _, rfl⟩) (hb hby d5_58) hr) (by decide) (by decide) ?_
  show own_Q_nbl_1 Z  h0 n0 _ s₁.heap _
  rw [e0]
  exact ⟨rfl, N0, rfl⟩
theorem own_pd1 : parseMethodDescriptor "(I)I" = some ⟨[.int], some .int⟩ := by decide +kernel
theorem d6_0 : decode jdk_52_method_2_code 0 = .ok (.iload_n 0, 1) := by decide +kernel
theorem d6_1 : decode jdk_52_method_2_code 1 = .ok (.invokestatic 11, 3) := by decide +kernel
theorem d6_4 : decode jdk_52_method_2_code 4 = .ok (.newarray .byte, 2) := by decide +kernel
theorem d6_6 : decode jdk_52_method_2_code 6 = .ok (.areturn, 1) := by decide +kernel
def own_Q_nbf_1 (Z : State)   (h0 : Heap) (n0 : Nat) (v : Option Value) (h : Heap) (L : List Loc) : Prop := ∃ ba_ : Addr, ∃ kb_ : ClassId, (v = some (.ref ba_)) ∧ (Fr n0 L) ∧ (Keep h0 h []) ∧ (h0.size ≤ ba_) ∧ (Arv Z h ba_ kb_ .byte (2 : Int32) [(.int 0), (.int 0)] (.int 0))
abbrev yM5 : MethodName := ⟨"java/lang/StringUTF16", "newBytesFor", "(I)[B"⟩
set_option maxRecDepth 65536 in
set_option maxHeartbeats 40000000 in
theorem rm_nbf_1 (l : Launch) (Z : State) (a0 : Array Value) (hw : ∀ d ∈ tables_1, d.before a0 Z = true) (ws : List Jvm.Cond)   (h0 : Heap) (n0 : Nat) (O0 : Old Z n0 h0)  :
    oMet l Z yM5 jdk_52_method_2_code 1 (some (.array .byte)) ws ({ frames := 1, cells := 1, slots := 2, locals := 12 } : Room) 1 2 #[(.int (1 : Int32))] h0 (own_Q_nbf_1 Z   h0 n0) := by
  refine oenter own_pn1 #[.val (.int (1 : Int32))] (fun m => by first | (simp [entryFrame, mkF, argsToLocals, Value.category]; done) | rfl) ?_
  intro p e s m below meth c s₁ X0 hx hZ hby hml hret hown0 hnm hlk e0
  have hown : s.vm.findClass "java/lang/StringUTF16" = some m.cls := hown0
  have N0 := Fr.nil n0
  have w20 := hw _ (List.mem_of_getElem? (i := 20) rfl)
  have w62 := hw _ (List.mem_of_getElem? (i := 62) rfl)
  have w98 := hw _ (List.mem_of_getElem? (i := 98) rfl)
  have w99 := hw _ (List.mem_of_getElem? (i := 99) rfl)
  have w100 := hw _ (List.mem_of_getElem? (i := 100) rfl)
  refine o_iloadN X0 hx (hb hby d6_0) rfl ?_
  obtain ⟨_, _, ⟨T1, L1, kc1, n1⟩, -, X1, ⟨Lc1, hQ1, l1, y1, z1⟩, st1⟩ := Jvm.LawKit.callS X0 hx (y := yM4) hown (mvT hZ w98) (mvT hZ w99) (mvT hZ w62) (mvT hZ w100) (by decide) (backOf (W := 0) (rm_nbl_1 l Z a0 hw []   h0 n0 O0 ) hZ w100 w62 (by decide) (by decide)) (g := (mkF m 1 #[.val (.int (1 : Int32))] [(.int (1 : Int32))])) rfl (by rw [hml]; rfl) (argsL := [(.int (1 : Int32))]) (rest := []) (lenOf own_pd1 rfl) rfl (by show 2 * 0 + _ ≤ _; exact Nat.le_of_eq rfl) (hb hby d6_1) (fun _ _ => ⟨rfl, e0, (by decide : 0 + 0 ≤ _), (by decide : 0 + 0 ≤ _)⟩)
  dsimp only [Pt.U, Pt.locs, Pt.cells, Pt.slots] at X1 l1 y1 z1 st1 hQ1
  subst l1 y1 z1
  obtain ⟨rfl, Nq1, e1⟩ := hQ1
  have N1 := Fr.app N0 Nq1
  refine ogo (S' := T1.setTop (mkF m 4 #[.val (.int (1 : Int32))] [(.int (2 : Int32))])) st1 ?_
  obtain ⟨T2, _, k2, X2, rfl, E2, A2, Ex2, st2⟩ := newPE (aty := .byte) X1 hx hZ w20 e1 (g := (mkF m 4 #[.val (.int (1 : Int32))] [(.int (2 : Int32))])) rfl (hb hby d6_4) rfl (by decide) (cap := 2) (by decide) (by decide) (by decide) (by decide) (ad := "[B") rfl
  obtain ⟨b2, g2⟩ : ∃ z, z = h0.size := ⟨_, rfl⟩
  rw [← g2] at A2 Ex2 st2
  have n0_b2 : n0 ≤ b2 := Nat.le_trans (Nat.le_trans (Nat.le_of_eq O0.1.symm) O0.2.1) (Nat.le_trans (Nat.le_refl _) (Nat.le_of_eq g2.symm))
  have V2 : Arv Z T2.heap b2 k2 .byte (2 : Int32) [(.int 0), (.int 0)] (.int 0) := (Arv.new A2 (by decide)).pad (pad_rep [] (.int 0) 2)
  refine ogo (S' := T2.setTop (mkF m 6 #[.val (.int (1 : Int32))] [(.ref b2)])) st2 ?_
  refine oend X2 hlk (v := some (.ref b2)) (fun h => by rw [hret] at h; cases h) (fun fs hr => retOut X2 hx (t := (.array .byte)) (i := .areturn) hret rfl (Or.inr (Or.inr (Or.inr (Or.inr ⟨rfl, rfl, rfl⟩)))) (hb hby d6_6) hr) (by decide) (by decide) ?_
  show own_Q_nbf_1 Z  h0 n0 _ T2.heap _
  exact ⟨b2, k2, rfl, N1, ((Keep.refl h0 []).ext E2), (Nat.le_trans (Nat.le_refl _) (Nat.le_of_eq g2.symm)), V2⟩
theorem d7_0 : decode jdk_52_method_4_code 0 = .ok (.getstatic 44, 3) := by decide +kernel
theorem d7_3 : decode jdk_52_method_4_code 3 = .ok (.ifCond .ne 25, 3) := by decide +kernel
theorem d7_28 : decode jdk_52_method_4_code 28 = .ok (.iload_n 1, 1) := by decide +kernel
theorem d7_29 : decode jdk_52_method_4_code 29 = .ok (.iconst 1, 1) := by decide +kernel
theorem d7_30 : decode jdk_52_method_4_code 30 = .ok (.ishl, 1) := by decide +kernel
theorem d7_31 : decode jdk_52_method_4_code 31 = .ok (.istore_n 1, 1) := by decide +kernel
theorem d7_32 : decode jdk_52_method_4_code 32 = .ok (.aload_n 0, 1) := by decide +kernel
theorem d7_33 : decode jdk_52_method_4_code 33 = .ok (.iload_n 1, 1) := by decide +kernel
theorem d7_34 : decode jdk_52_method_4_code 34 = .ok (.iinc 1 1, 3) := by decide +kernel
theorem d7_37 : decode jdk_52_method_4_code 37 = .ok (.iload_n 2, 1) := by decide +kernel
theorem d7_38 : decode jdk_52_method_4_code 38 = .ok (.getstatic 59, 3) := by decide +kernel
theorem d7_41 : decode jdk_52_method_4_code 41 = .ok (.ishr, 1) := by decide +kernel
theorem d7_42 : decode jdk_52_method_4_code 42 = .ok (.i2b, 1) := by decide +kernel
theorem d7_43 : decode jdk_52_method_4_code 43 = .ok (.bastore, 1) := by decide +kernel
theorem d7_44 : decode jdk_52_method_4_code 44 = .ok (.aload_n 0, 1) := by decide +kernel
theorem d7_45 : decode jdk_52_method_4_code 45 = .ok (.iload_n 1, 1) := by decide +kernel
theorem d7_46 : decode jdk_52_method_4_code 46 = .ok (.iload_n 2, 1) := by decide +kernel
theorem d7_47 : decode jdk_52_method_4_code 47 = .ok (.getstatic 63, 3) := by decide +kernel
theorem d7_50 : decode jdk_52_method_4_code 50 = .ok (.ishr, 1) := by decide +kernel
theorem d7_51 : decode jdk_52_method_4_code 51 = .ok (.i2b, 1) := by decide +kernel
theorem d7_52 : decode jdk_52_method_4_code 52 = .ok (.bastore, 1) := by decide +kernel
theorem d7_53 : decode jdk_52_method_4_code 53 = .ok (.return_, 1) := by decide +kernel
def own_Q_putch_1_0 (Z : State) (z_CS : Int32) (v_FMT : Value) (ba_ : Addr) (kb_ : ClassId) (c_ : Int32) (e0_ : Int32) (e1_ : Int32) (h0 : Heap) (n0 : Nat) (v : Option Value) (h : Heap) (L : List Loc) : Prop := (v = none) ∧ (Fr n0 L) ∧ (Keep h0 h [ba_]) ∧ (Arv Z h ba_ kb_ .byte (2 : Int32) [(.int (c_ >>> ((0 : Int32) &&& 31)).toInt8.toInt32), (.int (c_ >>> ((8 : Int32) &&& 31)).toInt8.toInt32)] (.int 0))
abbrev yM6 : MethodName := ⟨"java/lang/StringUTF16", "putChar", "([BII)V"⟩
set_option maxRecDepth 65536 in
set_option maxHeartbeats 40000000 in
theorem rm_putch_1_0 (l : Launch) (Z : State) (a0 : Array Value) (hw : ∀ d ∈ tables_1, d.before a0 Z = true) (ws : List Jvm.Cond) (z_CS : Int32) (v_FMT : Value) (ba_ : Addr) (kb_ : ClassId) (c_ : Int32) (e0_ : Int32) (e1_ : Int32) (h0 : Heap) (n0 : Nat) (SB : own_Start Z z_CS v_FMT) (O0 : Old Z n0 h0) (pr0 : Arv Z h0 ba_ kb_ .byte (2 : Int32) [(.int e0_), (.int e1_)] (.int 0)) (pr1 : n0 ≤ ba_) :
    oMet l Z yM6 jdk_52_method_4_code 3 none ws ({ frames := 0, cells := 0, slots := 0, locals := 0 } : Room) 0 0 #[(.ref ba_), (.int (0 : Int32)), (.int c_)] h0 (own_Q_putch_1_0 Z z_CS v_FMT ba_ kb_ c_ e0_ e1_ h0 n0) := by
  refine oenter own_pn1 #[.val (.ref ba_), .val (.int (0 : Int32)), .val (.int c_)] (fun m => by first | (simp [entryFrame, mkF, argsToLocals, Value.category]; done) | rfl) ?_
  intro p e s m below meth c s₁ X0 hx hZ hby hml hret hown0 hnm hlk e0
  have hown : s.vm.findClass "java/lang/StringUTF16" = some m.cls := hown0
  have N0 := Fr.nil n0
  obtain ⟨S_CS, H_CS, S__assertionsDisabled, S_HI_BYTE_SHIFT, S_LO_BYTE_SHIFT, S_FMT, R_FMT⟩ := (id SB)
  have w105 := hw _ (List.mem_of_getElem? (i := 105) rfl)
  have w106 := hw _ (List.mem_of_getElem? (i := 106) rfl)
  have w107 := hw _ (List.mem_of_getElem? (i := 107) rfl)
  obtain ⟨T1, X1, e1, st1⟩ := getS2 X0 hx hZ hown (host := "") (Or.inl w105) Via.refl e0 (Sta.ext O0.2 S__assertionsDisabled) (g := (mkF m 0 #[.val (.ref ba_), .val (.int (0 : Int32)), .val (.int c_)] [])) rfl (hb hby d7_0)
  refine ogo (S' := T1.setTop (mkF m 3 #[.val (.ref ba_), .val (.int (0 : Int32)), .val (.int c_)] [(.int (1 : Int32))])) st1 ?_
  refine o_ifYes X1 hx 28 (hb hby d7_3) (feq (by decide : ¬ ((1 : Int32) = (0 : Int32)))).2 (by decide) (by decide) ?_
  refine o_iloadN X1 hx (hb hby d7_28) rfl ?_
  refine o_iconst X1 hx (1 : Int32) (hb hby d7_29) rfl ?_
  refine o_ishl X1 hx (hb hby d7_30) ?_
  refine o_istoreN X1 hx (l' := #[.val (.ref ba_), .val (.int (0 : Int32)), .val (.int c_)]) (hb hby d7_31) rfl ?_
  refine o_aloadN X1 hx (hb hby d7_32) rfl rfl ?_
  refine o_iloadN X1 hx (hb hby d7_33) rfl ?_
  refine o_iinc X1 hx (l' := #[.val (.ref ba_), .val (.int (1 : Int32)), .val (.int c_)]) (hb hby d7_34) rfl rfl ?_
  refine o_iloadN X1 hx (hb hby d7_37) rfl ?_
  obtain ⟨T2, X2, e2, st2⟩ := getS2 X1 hx hZ hown (host := "") (Or.inl w106) Via.refl e1 (Sta.ext O0.2 S_HI_BYTE_SHIFT) (g := (mkF m 38 #[.val (.ref ba_), .val (.int (1 : Int32)), .val (.int c_)] [(.int c_), (.int (0 : Int32)), (.ref ba_)])) rfl (hb hby d7_38)
  refine ogo (S' := T2.setTop (mkF m 41 #[.val (.ref ba_), .val (.int (1 : Int32)), .val (.int c_)] [(.int (0 : Int32)), (.int c_), (.int (0 : Int32)), (.ref ba_)])) st2 ?_
  refine o_ishr X2 hx (hb hby d7_41) ?_
  refine o_i2b X2 hx (hb hby d7_42) ?_
  obtain ⟨cl3, Ar3, q3, S3, N3z, H3, G3⟩ := (id pr0)
  obtain ⟨T3, _, X3, rfl, W3, st3⟩ := stB X2 hx hZ e2 Ar3 (j := (0 : Int32)) (inb_of S3 ⟨by decide, by decide⟩) (g := (mkF m 43 #[.val (.ref ba_), .val (.int (1 : Int32)), .val (.int c_)] [(.int (c_ >>> ((0 : Int32) &&& 31)).toInt8.toInt32), (.int (0 : Int32)), (.ref ba_)])) rfl rfl (hb hby d7_43)
  rw [own_narb] at W3
  have V3 : Arv Z T3.heap ba_ kb_ .byte (2 : Int32) [(.int (c_ >>> ((0 : Int32) &&& 31)).toInt8.toInt32), (.int e1_)] (.int 0) := Arv.set Ar3 q3 S3 N3z H3 G3 (fits_nar_byte _) W3 0 rfl (Nat.le_of_ble_eq_true rfl)
  have N3 := Fr.snoc X3 N0 pr1
  refine ogo (S' := T3.setTop (mkF m 44 #[.val (.ref ba_), .val (.int (1 : Int32)), .val (.int c_)] [])) st3 ?_
  refine o_aloadN X3 hx (hb hby d7_44) rfl rfl ?_
  refine o_iloadN X3 hx (hb hby d7_45) rfl ?_
  refine o_iloadN X3 hx (hb hby d7_46) rfl ?_
  obtain ⟨T4, X4, e4, st4⟩ := getS2 X3 hx hZ hown (host := "") (Or.inl w107) Via.refl rfl (Sta.ext (O0.wr W3 pr1).2 S_LO_BYTE_SHIFT) (g := (mkF m 47 #[.val (.ref ba_), .val (.int (1 : Int32)), .val (.int c_)] [(.int c_), (.int (1 : Int32)), (.ref ba_)])) rfl (hb hby d7_47)
  refine ogo (S' := T4.setTop (mkF m 50 #[.val (.ref ba_), .val (.int (1 : Int32)), .val (.int c_)] [(.int (8 : Int32)), (.int c_), (.int (1 : Int32)), (.ref ba_)])) st4 ?_
  refine o_ishr X4 hx (hb hby d7_50) ?_
  refine o_i2b X4 hx (hb hby d7_51) ?_
  obtain ⟨cl5, Ar5, q5, S5, N5z, H5, G5⟩ := (id V3)
  obtain ⟨T5, _, X5, rfl, W5, st5⟩ := stB X4 hx hZ e4 Ar5 (j := (1 : Int32)) (inb_of S5 ⟨by decide, by decide⟩) (g := (mkF m 52 #[.val (.ref ba_), .val (.int (1 : Int32)), .val (.int c_)] [(.int (c_ >>> ((8 : Int32) &&& 31)).toInt8.toInt32), (.int (1 : Int32)), (.ref ba_)])) rfl rfl (hb hby d7_52)
  rw [own_narb] at W5
  have V5 : Arv Z T5.heap ba_ kb_ .byte (2 : Int32) [(.int (c_ >>> ((0 : Int32) &&& 31)).toInt8.toInt32), (.int (c_ >>> ((8 : Int32) &&& 31)).toInt8.toInt32)] (.int 0) := Arv.set Ar5 q5 S5 N5z H5 G5 (fits_nar_byte _) W5 1 rfl (Nat.le_of_ble_eq_true rfl)
  have N5 := Fr.snoc X5 N3 pr1
  refine ogo (S' := T5.setTop (mkF m 53 #[.val (.ref ba_), .val (.int (1 : Int32)), .val (.int c_)] [])) st5 ?_
  refine oend X5 hlk (v := none) (fun _ => rfl) (fun fs hr => X5.returnOut hx hret (hb hby d7_53) hr) (by decide) (by decide) ?_
  show own_Q_putch_1_0 Z _ _ _ _ _ _ _ h0 n0 _ T5.heap _
  exact ⟨rfl, N5, (((Keep.refl h0 [ba_]).wr W3 (Or.inl (List.mem_of_getElem? (i := 0) rfl))).wr W5 (Or.inl (List.mem_of_getElem? (i := 0) rfl))), V5⟩
theorem own_pd2 : parseMethodDescriptor "(I)[B" = some ⟨[.int], some (.array .byte)⟩ := by decide +kernel
theorem own_pd3 : parseMethodDescriptor "([BII)V" = some ⟨[(.array .byte), .int, .int], none⟩ := by decide +kernel
theorem d8_0 : decode jdk_52_method_14_code 0 = .ok (.iload_n 2, 1) := by decide +kernel
theorem d8_1 : decode jdk_52_method_14_code 1 = .ok (.invokestatic 107, 3) := by decide +kernel
theorem d8_4 : decode jdk_52_method_14_code 4 = .ok (.astore_n 3, 1) := by decide +kernel
theorem d8_5 : decode jdk_52_method_14_code 5 = .ok (.iconst 0, 1) := by decide +kernel
theorem d8_6 : decode jdk_52_method_14_code 6 = .ok (.istore 4, 2) := by decide +kernel
theorem d8_8 : decode jdk_52_method_14_code 8 = .ok (.iload 4, 2) := by decide +kernel
theorem d8_10 : decode jdk_52_method_14_code 10 = .ok (.iload_n 2, 1) := by decide +kernel
theorem d8_11 : decode jdk_52_method_14_code 11 = .ok (.if_icmp .ge 21, 3) := by decide +kernel
theorem d8_14 : decode jdk_52_method_14_code 14 = .ok (.aload_n 3, 1) := by decide +kernel
theorem d8_15 : decode jdk_52_method_14_code 15 = .ok (.iload 4, 2) := by decide +kernel
theorem d8_17 : decode jdk_52_method_14_code 17 = .ok (.aload_n 0, 1) := by decide +kernel
theorem d8_18 : decode jdk_52_method_14_code 18 = .ok (.iload_n 1, 1) := by decide +kernel
theorem d8_19 : decode jdk_52_method_14_code 19 = .ok (.caload, 1) := by decide +kernel
theorem d8_20 : decode jdk_52_method_14_code 20 = .ok (.invokestatic 111, 3) := by decide +kernel
theorem d8_23 : decode jdk_52_method_14_code 23 = .ok (.iinc 1 1, 3) := by decide +kernel
theorem d8_26 : decode jdk_52_method_14_code 26 = .ok (.iinc 4 1, 3) := by decide +kernel
theorem d8_29 : decode jdk_52_method_14_code 29 = .ok (.goto (-21), 3) := by decide +kernel
theorem d8_32 : decode jdk_52_method_14_code 32 = .ok (.aload_n 3, 1) := by decide +kernel
theorem d8_33 : decode jdk_52_method_14_code 33 = .ok (.areturn, 1) := by decide +kernel
def own_Q_tob_1 (Z : State) (z_CS : Int32) (v_FMT : Value) (ca_ : Addr) (kc_ : ClassId) (c0_ : Int32) (h0 : Heap) (n0 : Nat) (v : Option Value) (h : Heap) (L : List Loc) : Prop := ∃ ba_ : Addr, ∃ kb_ : ClassId, (v = some (.ref ba_)) ∧ (Fr n0 L) ∧ (Keep h0 h []) ∧ (h0.size ≤ ba_) ∧ (Arv Z h ba_ kb_ .byte (2 : Int32) [(.int (c0_ >>> ((0 : Int32) &&& 31)).toInt8.toInt32), (.int (c0_ >>> ((8 : Int32) &&& 31)).toInt8.toInt32)] (.int 0))
abbrev yM7 : MethodName := ⟨"java/lang/StringUTF16", "toBytes", "([CII)[B"⟩
set_option maxRecDepth 65536 in
set_option maxHeartbeats 40000000 in
theorem rm_tob_1 (l : Launch) (Z : State) (a0 : Array Value) (hw : ∀ d ∈ tables_1, d.before a0 Z = true) (ws : List Jvm.Cond) (z_CS : Int32) (v_FMT : Value) (ca_ : Addr) (kc_ : ClassId) (c0_ : Int32) (h0 : Heap) (n0 : Nat) (SB : own_Start Z z_CS v_FMT) (O0 : Old Z n0 h0) (pr0 : Arv Z h0 ca_ kc_ .char (1 : Int32) [(.int c0_)] (.int 0)) :
    oMet l Z yM7 jdk_52_method_14_code 5 (some (.array .byte)) ws ({ frames := 2, cells := 1, slots := 2, locals := 24 } : Room) 1 2 #[(.ref ca_), (.int (0 : Int32)), (.int (1 : Int32))] h0 (own_Q_tob_1 Z z_CS v_FMT ca_ kc_ c0_ h0 n0) := by
  refine oenter own_pn1 #[.val (.ref ca_), .val (.int (0 : Int32)), .val (.int (1 : Int32)), .unset, .unset] (fun m => by first | (simp [entryFrame, mkF, argsToLocals, Value.category]; done) | rfl) ?_
  intro p e s m below meth c s₁ X0 hx hZ hby hml hret hown0 hnm hlk e0
  have hown : s.vm.findClass "java/lang/StringUTF16" = some m.cls := hown0
  have N0 := Fr.nil n0
  obtain ⟨S_CS, H_CS, S__assertionsDisabled, S_HI_BYTE_SHIFT, S_LO_BYTE_SHIFT, S_FMT, R_FMT⟩ := (id SB)
  have w62 := hw _ (List.mem_of_getElem? (i := 62) rfl)
  have w95 := hw _ (List.mem_of_getElem? (i := 95) rfl)
  have w96 := hw _ (List.mem_of_getElem? (i := 96) rfl)
  have w97 := hw _ (List.mem_of_getElem? (i := 97) rfl)
  have w102 := hw _ (List.mem_of_getElem? (i := 102) rfl)
  have w103 := hw _ (List.mem_of_getElem? (i := 103) rfl)
  have w104 := hw _ (List.mem_of_getElem? (i := 104) rfl)
  refine o_iloadN X0 hx (hb hby d8_0) rfl ?_
  obtain ⟨_, _, ⟨T1, L1, kc1, n1⟩, -, X1, ⟨Lc1, hQ1, l1, y1, z1⟩, st1⟩ := Jvm.LawKit.callS X0 hx (y := yM5) hown (mvT hZ w95) (mvT hZ w96) (mvT hZ w62) (mvT hZ w97) (by decide) (backOf (W := 0) (rm_nbf_1 l Z a0 hw []   h0 n0 O0 ) hZ w97 w62 (by decide) (by decide)) (g := (mkF m 1 #[.val (.ref ca_), .val (.int (0 : Int32)), .val (.int (1 : Int32)), .unset, .unset] [(.int (1 : Int32))])) rfl (by rw [hml]; rfl) (argsL := [(.int (1 : Int32))]) (rest := []) (lenOf own_pd2 rfl) rfl (by show 2 * 0 + _ ≤ _; exact Nat.le_of_eq rfl) (hb hby d8_1) (fun _ _ => ⟨rfl, e0, (by decide : 0 + 1 ≤ _), (by decide : 0 + 2 ≤ _)⟩)
  dsimp only [Pt.U, Pt.locs, Pt.cells, Pt.slots] at X1 l1 y1 z1 st1 hQ1
  subst l1 y1 z1
  obtain ⟨ba_1, kb_1, rfl, Nq1, K1, p1_0, p1_1⟩ := hQ1
  have N1 := Fr.app N0 Nq1
  have n0_ba_1 : n0 ≤ ba_1 := Nat.le_trans (Nat.le_trans (Nat.le_of_eq O0.1.symm) O0.2.1) (Nat.le_trans (Nat.le_refl _) p1_0)
  refine ogo (S' := T1.setTop (mkF m 4 #[.val (.ref ca_), .val (.int (0 : Int32)), .val (.int (1 : Int32)), .unset, .unset] [(.ref ba_1)])) st1 ?_
  refine o_astoreN X1 hx (l' := #[.val (.ref ca_), .val (.int (0 : Int32)), .val (.int (1 : Int32)), .val (.ref ba_1), .unset]) (hb hby d8_4) rfl rfl ?_
  refine o_iconst X1 hx (0 : Int32) (hb hby d8_5) rfl ?_
  refine o_istore X1 hx (l' := #[.val (.ref ca_), .val (.int (0 : Int32)), .val (.int (1 : Int32)), .val (.ref ba_1), .val (.int (0 : Int32))]) (hb hby d8_6) rfl ?_
  refine o_iload X1 hx (hb hby d8_8) rfl ?_
  refine o_iloadN X1 hx (hb hby d8_10) rfl ?_
  refine o_icmpNo X1 hx (hb hby d8_11) (tlt (by decide : (0 : Int32) < (1 : Int32))).2.1 ?_
  refine o_aloadN X1 hx (hb hby d8_14) rfl rfl ?_
  refine o_iload X1 hx (hb hby d8_15) rfl ?_
  refine o_aloadN X1 hx (hb hby d8_17) rfl rfl ?_
  refine o_iloadN X1 hx (hb hby d8_18) rfl ?_
  obtain ⟨cl2, Ar2, q2, S2, N2z, H2, G2⟩ := (id (pr0.keep K1 nin0))
  have hi2 := inb_of (j := (0 : Int32)) S2 ⟨by decide, by decide⟩
  have ha2 := Has.at (v := (.int c0_)) H2 hi2 rfl
  refine ogo (S' := T1.setTop (mkF m 20 #[.val (.ref ca_), .val (.int (0 : Int32)), .val (.int (1 : Int32)), .val (.ref ba_1), .val (.int (0 : Int32))] [(.int c0_), (.int (0 : Int32)), (.ref ba_1)])) (X1.caload hx (j := (0 : Int32)) (v := (.int c0_)) Ar2.1 (State.isArrayOf_alike hZ.alike Ar2.2.1) Ar2.2.2 hi2 ha2 (g := (mkF m 19 #[.val (.ref ca_), .val (.int (0 : Int32)), .val (.int (1 : Int32)), .val (.ref ba_1), .val (.int (0 : Int32))] [(.int (0 : Int32)), (.ref ca_), (.int (0 : Int32)), (.ref ba_1)])) rfl rfl (hb hby d8_19)) ?_
  obtain ⟨_, _, ⟨T3, L3, kc3, n3⟩, -, X3, ⟨Lc3, hQ3, l3, y3, z3⟩, st3⟩ := Jvm.LawKit.callS X1 hx (y := yM6) hown (mvT hZ w102) (mvT hZ w103) (mvT hZ w62) (mvT hZ w104) (by decide) (backOf (W := 0) (rm_putch_1_0 l Z a0 hw [] z_CS v_FMT ba_1 kb_1 c0_ 0 0 T1.heap n0 SB (O0.keep K1 all0) p1_1 n0_ba_1) hZ w104 w62 (by decide) (by decide)) (g := (mkF m 20 #[.val (.ref ca_), .val (.int (0 : Int32)), .val (.int (1 : Int32)), .val (.ref ba_1), .val (.int (0 : Int32))] [(.int c0_), (.int (0 : Int32)), (.ref ba_1)])) rfl (by rw [hml]; rfl) (argsL := [(.ref ba_1), (.int (0 : Int32)), (.int c0_)]) (rest := []) (lenOf own_pd3 rfl) rfl (by show 2 * 0 + _ ≤ _; exact Nat.le_of_eq rfl) (hb hby d8_20) (fun _ _ => ⟨rfl, rfl, (by decide : 1 + 0 ≤ _), (by decide : 2 + 0 ≤ _)⟩)
  dsimp only [Pt.U, Pt.locs, Pt.cells, Pt.slots] at X3 l3 y3 z3 st3 hQ3
  subst l3 y3 z3
  obtain ⟨rfl, Nq3, K3, p3_0⟩ := hQ3
  have N3 := Fr.app N1 Nq3
  refine ogo (S' := T3.setTop (mkF m 23 #[.val (.ref ca_), .val (.int (0 : Int32)), .val (.int (1 : Int32)), .val (.ref ba_1), .val (.int (0 : Int32))] [])) st3 ?_
  refine o_iinc X3 hx (l' := #[.val (.ref ca_), .val (.int (1 : Int32)), .val (.int (1 : Int32)), .val (.ref ba_1), .val (.int (0 : Int32))]) (hb hby d8_23) rfl rfl ?_
  refine o_iinc X3 hx (l' := #[.val (.ref ca_), .val (.int (1 : Int32)), .val (.int (1 : Int32)), .val (.ref ba_1), .val (.int (1 : Int32))]) (hb hby d8_26) rfl rfl ?_
  refine o_goto X3 hx 8 (hb hby d8_29) (by decide) (by decide) ?_
  refine o_iload X3 hx (hb hby d8_8) rfl ?_
  refine o_iloadN X3 hx (hb hby d8_10) rfl ?_
  refine o_icmpYes X3 hx 32 (hb hby d8_11) (flt (by decide : ¬ ((1 : Int32) < (1 : Int32)))).2.1 (by decide) (by decide) ?_
  refine o_aloadN X3 hx (hb hby d8_32) rfl rfl ?_
  refine oend X3 hlk (v := some (.ref ba_1)) (fun h => by rw [hret] at h; cases h) (fun fs hr => retOut X3 hx (t := (.array .byte)) (i := .areturn) hret rfl (Or.inr (Or.inr (Or.inr (Or.inr ⟨rfl, rfl, rfl⟩)))) (hb hby d8_33) hr) (by decide) (by decide) ?_
  show own_Q_tob_1 Z _ _ _ _ _ h0 n0 _ T3.heap _
  exact ⟨ba_1, kb_1, rfl, N3, (((Keep.refl h0 []).trans K1 all0).trans K3 (allS (Or.inr (Nat.le_trans (Nat.le_refl _) p1_0)) all0)), (Nat.le_trans (Nat.le_refl _) p1_0), p3_0⟩
theorem d9_0 : decode jdk_52_method_5_code 0 = .ok (.getstatic 44, 3) := by decide +kernel
theorem d9_3 : decode jdk_52_method_5_code 3 = .ok (.ifCond .ne 25, 3) := by decide +kernel
theorem d9_28 : decode jdk_52_method_5_code 28 = .ok (.iload_n 1, 1) := by decide +kernel
theorem d9_29 : decode jdk_52_method_5_code 29 = .ok (.iconst 1, 1) := by decide +kernel
theorem d9_30 : decode jdk_52_method_5_code 30 = .ok (.ishl, 1) := by decide +kernel
theorem d9_31 : decode jdk_52_method_5_code 31 = .ok (.istore_n 1, 1) := by decide +kernel
theorem d9_32 : decode jdk_52_method_5_code 32 = .ok (.aload_n 0, 1) := by decide +kernel
theorem d9_33 : decode jdk_52_method_5_code 33 = .ok (.iload_n 1, 1) := by decide +kernel
theorem d9_34 : decode jdk_52_method_5_code 34 = .ok (.iinc 1 1, 3) := by decide +kernel
theorem d9_37 : decode jdk_52_method_5_code 37 = .ok (.baload, 1) := by decide +kernel
theorem d9_38 : decode jdk_52_method_5_code 38 = .ok (.sipush 255, 3) := by decide +kernel
theorem d9_41 : decode jdk_52_method_5_code 41 = .ok (.iand, 1) := by decide +kernel
theorem d9_42 : decode jdk_52_method_5_code 42 = .ok (.getstatic 59, 3) := by decide +kernel
theorem d9_45 : decode jdk_52_method_5_code 45 = .ok (.ishl, 1) := by decide +kernel
theorem d9_46 : decode jdk_52_method_5_code 46 = .ok (.aload_n 0, 1) := by decide +kernel
theorem d9_47 : decode jdk_52_method_5_code 47 = .ok (.iload_n 1, 1) := by decide +kernel
theorem d9_48 : decode jdk_52_method_5_code 48 = .ok (.baload, 1) := by decide +kernel
theorem d9_49 : decode jdk_52_method_5_code 49 = .ok (.sipush 255, 3) := by decide +kernel
theorem d9_52 : decode jdk_52_method_5_code 52 = .ok (.iand, 1) := by decide +kernel
theorem d9_53 : decode jdk_52_method_5_code 53 = .ok (.getstatic 63, 3) := by decide +kernel
theorem d9_56 : decode jdk_52_method_5_code 56 = .ok (.ishl, 1) := by decide +kernel
theorem d9_57 : decode jdk_52_method_5_code 57 = .ok (.ior, 1) := by decide +kernel
theorem d9_58 : decode jdk_52_method_5_code 58 = .ok (.i2c, 1) := by decide +kernel
theorem d9_59 : decode jdk_52_method_5_code 59 = .ok (.ireturn, 1) := by decide +kernel
def own_Q_getch_1_0 (Z : State) (z_CS : Int32) (v_FMT : Value) (ba_ : Addr) (kb_ : ClassId) (c0_ : Int32) (h0 : Heap) (n0 : Nat) (v : Option Value) (h : Heap) (L : List Loc) : Prop := (v = some (.int c0_)) ∧ (Fr n0 L) ∧ (h = h0)
abbrev yM8 : MethodName := ⟨"java/lang/StringUTF16", "getChar", "([BI)C"⟩
set_option maxRecDepth 65536 in
set_option maxHeartbeats 40000000 in
theorem rm_getch_1_0 (l : Launch) (Z : State) (a0 : Array Value) (hw : ∀ d ∈ tables_1, d.before a0 Z = true) (ws : List Jvm.Cond) (z_CS : Int32) (v_FMT : Value) (ba_ : Addr) (kb_ : ClassId) (c0_ : Int32) (h0 : Heap) (n0 : Nat) (SB : own_Start Z z_CS v_FMT) (O0 : Old Z n0 h0) (pr0 : Arv Z h0 ba_ kb_ .byte (2 : Int32) [(.int (c0_ >>> ((0 : Int32) &&& 31)).toInt8.toInt32), (.int (c0_ >>> ((8 : Int32) &&& 31)).toInt8.toInt32)] (.int 0)) (pr1 : own_c16 c0_) :
    oMet l Z yM8 jdk_52_method_5_code 2 (some .char) ws ({ frames := 0, cells := 0, slots := 0, locals := 0 } : Room) 0 0 #[(.ref ba_), (.int (0 : Int32))] h0 (own_Q_getch_1_0 Z z_CS v_FMT ba_ kb_ c0_ h0 n0) := by
  refine oenter own_pn1 #[.val (.ref ba_), .val (.int (0 : Int32))] (fun m => by first | (simp [entryFrame, mkF, argsToLocals, Value.category]; done) | rfl) ?_
  intro p e s m below meth c s₁ X0 hx hZ hby hml hret hown0 hnm hlk e0
  have hown : s.vm.findClass "java/lang/StringUTF16" = some m.cls := hown0
  have N0 := Fr.nil n0
  obtain ⟨S_CS, H_CS, S__assertionsDisabled, S_HI_BYTE_SHIFT, S_LO_BYTE_SHIFT, S_FMT, R_FMT⟩ := (id SB)
  have w105 := hw _ (List.mem_of_getElem? (i := 105) rfl)
  have w106 := hw _ (List.mem_of_getElem? (i := 106) rfl)
  have w107 := hw _ (List.mem_of_getElem? (i := 107) rfl)
  obtain ⟨T1, X1, e1, st1⟩ := getS2 X0 hx hZ hown (host := "") (Or.inl w105) Via.refl e0 (Sta.ext O0.2 S__assertionsDisabled) (g := (mkF m 0 #[.val (.ref ba_), .val (.int (0 : Int32))] [])) rfl (hb hby d9_0)
  refine ogo (S' := T1.setTop (mkF m 3 #[.val (.ref ba_), .val (.int (0 : Int32))] [(.int (1 : Int32))])) st1 ?_
  refine o_ifYes X1 hx 28 (hb hby d9_3) (feq (by decide : ¬ ((1 : Int32) = (0 : Int32)))).2 (by decide) (by decide) ?_
  refine o_iloadN X1 hx (hb hby d9_28) rfl ?_
  refine o_iconst X1 hx (1 : Int32) (hb hby d9_29) rfl ?_
  refine o_ishl X1 hx (hb hby d9_30) ?_
  refine o_istoreN X1 hx (l' := #[.val (.ref ba_), .val (.int (0 : Int32))]) (hb hby d9_31) rfl ?_
  refine o_aloadN X1 hx (hb hby d9_32) rfl rfl ?_
  refine o_iloadN X1 hx (hb hby d9_33) rfl ?_
  refine o_iinc X1 hx (l' := #[.val (.ref ba_), .val (.int (1 : Int32))]) (hb hby d9_34) rfl rfl ?_
  obtain ⟨cl2, Ar2, q2, S2, N2z, H2, G2⟩ := (id pr0)
  have hi2 := inb_of (j := (0 : Int32)) S2 ⟨by decide, by decide⟩
  have ha2 := Has.at (v := (.int (c0_ >>> ((0 : Int32) &&& 31)).toInt8.toInt32)) H2 hi2 rfl
  refine ogo (S' := T1.setTop (mkF m 38 #[.val (.ref ba_), .val (.int (1 : Int32))] [(.int (c0_ >>> ((0 : Int32) &&& 31)).toInt8.toInt32)])) (X1.baloadBytes hx (j := (0 : Int32)) (v := (.int (c0_ >>> ((0 : Int32) &&& 31)).toInt8.toInt32)) (by rw [e1]; exact Ar2.1) (State.isArrayOf_alike hZ.alike Ar2.2.1) Ar2.2.2 hi2 ha2 (g := (mkF m 37 #[.val (.ref ba_), .val (.int (1 : Int32))] [(.int (0 : Int32)), (.ref ba_)])) rfl rfl (hb hby d9_37)) ?_
  refine o_sipush X1 hx (255 : Int32) (hb hby d9_38) rfl ?_
  refine o_iand X1 hx (hb hby d9_41) ?_
  obtain ⟨T3, X3, e3, st3⟩ := getS2 X1 hx hZ hown (host := "") (Or.inl w106) Via.refl e1 (Sta.ext O0.2 S_HI_BYTE_SHIFT) (g := (mkF m 42 #[.val (.ref ba_), .val (.int (1 : Int32))] [(.int ((c0_ >>> ((0 : Int32) &&& 31)).toInt8.toInt32 &&& (255 : Int32)))])) rfl (hb hby d9_42)
  refine ogo (S' := T3.setTop (mkF m 45 #[.val (.ref ba_), .val (.int (1 : Int32))] [(.int (0 : Int32)), (.int ((c0_ >>> ((0 : Int32) &&& 31)).toInt8.toInt32 &&& (255 : Int32)))])) st3 ?_
  refine o_ishl X3 hx (hb hby d9_45) ?_
  refine o_aloadN X3 hx (hb hby d9_46) rfl rfl ?_
  refine o_iloadN X3 hx (hb hby d9_47) rfl ?_
  obtain ⟨cl4, Ar4, q4, S4, N4z, H4, G4⟩ := (id pr0)
  have hi4 := inb_of (j := (1 : Int32)) S4 ⟨by decide, by decide⟩
  have ha4 := Has.at (v := (.int (c0_ >>> ((8 : Int32) &&& 31)).toInt8.toInt32)) H4 hi4 rfl
  refine ogo (S' := T3.setTop (mkF m 49 #[.val (.ref ba_), .val (.int (1 : Int32))] [(.int (c0_ >>> ((8 : Int32) &&& 31)).toInt8.toInt32), (.int (((c0_ >>> ((0 : Int32) &&& 31)).toInt8.toInt32 &&& (255 : Int32)) <<< ((0 : Int32) &&& 31)))])) (X3.baloadBytes hx (j := (1 : Int32)) (v := (.int (c0_ >>> ((8 : Int32) &&& 31)).toInt8.toInt32)) (by rw [e3]; exact Ar4.1) (State.isArrayOf_alike hZ.alike Ar4.2.1) Ar4.2.2 hi4 ha4 (g := (mkF m 48 #[.val (.ref ba_), .val (.int (1 : Int32))] [(.int (1 : Int32)), (.ref ba_), (.int (((c0_ >>> ((0 : Int32) &&& 31)).toInt8.toInt32 &&& (255 : Int32)) <<< ((0 : Int32) &&& 31)))])) rfl rfl (hb hby d9_48)) ?_
  refine o_sipush X3 hx (255 : Int32) (hb hby d9_49) rfl ?_
  refine o_iand X3 hx (hb hby d9_52) ?_
  obtain ⟨T5, X5, e5, st5⟩ := getS2 X3 hx hZ hown (host := "") (Or.inl w107) Via.refl e3 (Sta.ext O0.2 S_LO_BYTE_SHIFT) (g := (mkF m 53 #[.val (.ref ba_), .val (.int (1 : Int32))] [(.int ((c0_ >>> ((8 : Int32) &&& 31)).toInt8.toInt32 &&& (255 : Int32))), (.int (((c0_ >>> ((0 : Int32) &&& 31)).toInt8.toInt32 &&& (255 : Int32)) <<< ((0 : Int32) &&& 31)))])) rfl (hb hby d9_53)
  refine ogo (S' := T5.setTop (mkF m 56 #[.val (.ref ba_), .val (.int (1 : Int32))] [(.int (8 : Int32)), (.int ((c0_ >>> ((8 : Int32) &&& 31)).toInt8.toInt32 &&& (255 : Int32))), (.int (((c0_ >>> ((0 : Int32) &&& 31)).toInt8.toInt32 &&& (255 : Int32)) <<< ((0 : Int32) &&& 31)))])) st5 ?_
  refine o_ishl X5 hx (hb hby d9_56) ?_
  refine o_ior X5 hx (hb hby d9_57) ?_
  refine o_i2c X5 hx (hb hby d9_58) ?_
  rw [own_u16 pr1]
  refine oend X5 hlk (v := some (.int c0_)) (fun h => by rw [hret] at h; cases h) (fun fs hr => retN X5 hx (t := .char) hret (by simp) (hb hby d9_59) (by rw [(own_nar16 pr1)]; exact hr)) (by decide) (by decide) ?_
  show own_Q_getch_1_0 Z _ _ _ _ _ h0 n0 _ T5.heap _
  rw [e5]
  exact ⟨rfl, N0, rfl⟩
theorem own_pd4 : parseMethodDescriptor "([CII)[B" = some ⟨[(.array .char), .int, .int], some (.array .byte)⟩ := by decide +kernel
theorem own_pd5 : parseMethodDescriptor "([BI)C" = some ⟨[(.array .byte), .int], some .char⟩ := by decide +kernel
theorem d3_20 : decode jdk_52_method_16_code 20 = .ok (.aload_n 0, 1) := by decide +kernel
theorem d3_21 : decode jdk_52_method_16_code 21 = .ok (.iload_n 1, 1) := by decide +kernel
theorem d3_22 : decode jdk_52_method_16_code 22 = .ok (.iload_n 2, 1) := by decide +kernel
theorem d3_23 : decode jdk_52_method_16_code 23 = .ok (.invokestatic 119, 3) := by decide +kernel
theorem d3_26 : decode jdk_52_method_16_code 26 = .ok (.astore 5, 2) := by decide +kernel
theorem d3_28 : decode jdk_52_method_16_code 28 = .ok (.aload 5, 2) := by decide +kernel
theorem d3_30 : decode jdk_52_method_16_code 30 = .ok (.iload 4, 2) := by decide +kernel
theorem d3_32 : decode jdk_52_method_16_code 32 = .ok (.invokestatic 71, 3) := by decide +kernel
theorem d3_35 : decode jdk_52_method_16_code 35 = .ok (.sipush 255, 3) := by decide +kernel
theorem d3_38 : decode jdk_52_method_16_code 38 = .ok (.if_icmp .gt 16, 3) := by decide +kernel
theorem d3_54 : decode jdk_52_method_16_code 54 = .ok (.aload 5, 2) := by decide +kernel
theorem d3_56 : decode jdk_52_method_16_code 56 = .ok (.areturn, 1) := by decide +kernel
def own_Q_cmp3_1_0 (Z : State) (z_CS : Int32) (v_FMT : Value) (ca_ : Addr) (kc_ : ClassId) (c0_ : Int32) (h0 : Heap) (n0 : Nat) (v : Option Value) (h : Heap) (L : List Loc) : Prop := ∃ ba_ : Addr, ∃ kb_ : ClassId, (v = some (.ref ba_)) ∧ (Fr n0 L) ∧ (Keep h0 h []) ∧ (h0.size ≤ ba_) ∧ (Arv Z h ba_ kb_ .byte (2 : Int32) [(.int (c0_ >>> ((0 : Int32) &&& 31)).toInt8.toInt32), (.int (c0_ >>> ((8 : Int32) &&& 31)).toInt8.toInt32)] (.int 0))
set_option maxRecDepth 65536 in
set_option maxHeartbeats 40000000 in
theorem rm_cmp3_1_0 (l : Launch) (Z : State) (a0 : Array Value) (hw : ∀ d ∈ tables_1, d.before a0 Z = true) (ws : List Jvm.Cond) (z_CS : Int32) (v_FMT : Value) (ca_ : Addr) (kc_ : ClassId) (c0_ : Int32) (h0 : Heap) (n0 : Nat) (SB : own_Start Z z_CS v_FMT) (O0 : Old Z n0 h0) (pr0 : Arv Z h0 ca_ kc_ .char (1 : Int32) [(.int c0_)] (.int 0)) (pr1 : own_c16 c0_) (pr2 : (255 : Int32) < c0_) :
    oMet l Z yM2 jdk_52_method_16_code 6 (some (.array .byte)) ws ({ frames := 3, cells := 2, slots := 3, locals := 40 } : Room) 2 3 #[(.ref ca_), (.int (0 : Int32)), (.int (1 : Int32))] h0 (own_Q_cmp3_1_0 Z z_CS v_FMT ca_ kc_ c0_ h0 n0) := by
  refine oenter own_pn1 #[.val (.ref ca_), .val (.int (0 : Int32)), .val (.int (1 : Int32)), .unset, .unset, .unset] (fun m => by first | (simp [entryFrame, mkF, argsToLocals, Value.category]; done) | rfl) ?_
  intro p e s m below meth c s₁ X0 hx hZ hby hml hret hown0 hnm hlk e0
  have hown : s.vm.findClass "java/lang/StringUTF16" = some m.cls := hown0
  have N0 := Fr.nil n0
  obtain ⟨S_CS, H_CS, S__assertionsDisabled, S_HI_BYTE_SHIFT, S_LO_BYTE_SHIFT, S_FMT, R_FMT⟩ := (id SB)
  have w20 := hw _ (List.mem_of_getElem? (i := 20) rfl)
  have w62 := hw _ (List.mem_of_getElem? (i := 62) rfl)
  have w64 := hw _ (List.mem_of_getElem? (i := 64) rfl)
  have w65 := hw _ (List.mem_of_getElem? (i := 65) rfl)
  have w66 := hw _ (List.mem_of_getElem? (i := 66) rfl)
  have w92 := hw _ (List.mem_of_getElem? (i := 92) rfl)
  have w93 := hw _ (List.mem_of_getElem? (i := 93) rfl)
  have w94 := hw _ (List.mem_of_getElem? (i := 94) rfl)
  have w108 := hw _ (List.mem_of_getElem? (i := 108) rfl)
  have w109 := hw _ (List.mem_of_getElem? (i := 109) rfl)
  have w110 := hw _ (List.mem_of_getElem? (i := 110) rfl)
  refine o_iloadN X0 hx (hb hby d3_0) rfl ?_
  obtain ⟨T1, _, k1, X1, rfl, E1, A1, Ex1, st1⟩ := newPE (aty := .byte) X0 hx hZ w20 e0 (g := (mkF m 1 #[.val (.ref ca_), .val (.int (0 : Int32)), .val (.int (1 : Int32)), .unset, .unset, .unset] [(.int (1 : Int32))])) rfl (hb hby d3_1) rfl (by decide) (cap := 1) (by decide) (by decide) (by decide) (by decide) (ad := "[B") rfl
  obtain ⟨b1, g1⟩ : ∃ z, z = h0.size := ⟨_, rfl⟩
  rw [← g1] at A1 Ex1 st1
  have n0_b1 : n0 ≤ b1 := Nat.le_trans (Nat.le_trans (Nat.le_of_eq O0.1.symm) O0.2.1) (Nat.le_trans (Nat.le_refl _) (Nat.le_of_eq g1.symm))
  have V1 : Arv Z T1.heap b1 k1 .byte (1 : Int32) [(.int 0)] (.int 0) := (Arv.new A1 (by decide)).pad (pad_rep [] (.int 0) 1)
  refine ogo (S' := T1.setTop (mkF m 3 #[.val (.ref ca_), .val (.int (0 : Int32)), .val (.int (1 : Int32)), .unset, .unset, .unset] [(.ref b1)])) st1 ?_
  refine o_astoreN X1 hx (l' := #[.val (.ref ca_), .val (.int (0 : Int32)), .val (.int (1 : Int32)), .val (.ref b1), .unset, .unset]) (hb hby d3_3) rfl rfl ?_
  refine o_aloadN X1 hx (hb hby d3_4) rfl rfl ?_
  refine o_iloadN X1 hx (hb hby d3_5) rfl ?_
  refine o_aloadN X1 hx (hb hby d3_6) rfl rfl ?_
  refine o_iconst X1 hx (0 : Int32) (hb hby d3_7) rfl ?_
  refine o_iloadN X1 hx (hb hby d3_8) rfl ?_
  obtain ⟨_, _, ⟨T2, L2, kc2, n2⟩, -, X2, ⟨Lc2, hQ2, l2, y2, z2⟩, st2⟩ := Jvm.LawKit.callS X1 hx (y := yM1) hown (mvT hZ w64) (mvT hZ w65) (mvT hZ w62) (mvT hZ w66) (by decide) (backOf (W := 0) (rm_cmp5_1_0 l Z a0 hw []  ca_ kc_ b1 k1 c0_ T1.heap n0 (O0.ext E1) (pr0.ext E1) V1 (Nat.ne_of_lt (Nat.lt_of_lt_of_le (Nat.lt_of_lt_of_le pr0.lt (Nat.le_refl _)) (Nat.le_of_eq g1.symm))) n0_b1 pr2) hZ w66 w62 (by decide) (by decide)) (g := (mkF m 9 #[.val (.ref ca_), .val (.int (0 : Int32)), .val (.int (1 : Int32)), .val (.ref b1), .unset, .unset] [(.int (1 : Int32)), (.int (0 : Int32)), (.ref b1), (.int (0 : Int32)), (.ref ca_)])) rfl (by rw [hml]; rfl) (argsL := [(.ref ca_), (.int (0 : Int32)), (.ref b1), (.int (0 : Int32)), (.int (1 : Int32))]) (rest := []) (lenOf own_pd0 rfl) rfl (by show 2 * 0 + _ ≤ _; exact Nat.le_of_eq rfl) (hb hby d3_9) (fun _ _ => ⟨rfl, rfl, (by decide : 1 + 0 ≤ _), (by decide : 1 + 0 ≤ _)⟩)
  dsimp only [Pt.U, Pt.locs, Pt.cells, Pt.slots] at X2 l2 y2 z2 st2 hQ2
  subst l2 y2 z2
  obtain ⟨rfl, Nq2, K2⟩ := hQ2
  have N2 := Fr.app N0 Nq2
  refine ogo (S' := T2.setTop (mkF m 12 #[.val (.ref ca_), .val (.int (0 : Int32)), .val (.int (1 : Int32)), .val (.ref b1), .unset, .unset] [(.int (0 : Int32))])) st2 ?_
  refine o_istore X2 hx (l' := #[.val (.ref ca_), .val (.int (0 : Int32)), .val (.int (1 : Int32)), .val (.ref b1), .val (.int (0 : Int32)), .unset]) (hb hby d3_12) rfl ?_
  refine o_iload X2 hx (hb hby d3_14) rfl ?_
  refine o_iloadN X2 hx (hb hby d3_16) rfl ?_
  refine o_icmpNo X2 hx (hb hby d3_17) (feq (by decide : ¬ ((0 : Int32) = (1 : Int32)))).1 ?_
  refine o_aloadN X2 hx (hb hby d3_20) rfl rfl ?_
  refine o_iloadN X2 hx (hb hby d3_21) rfl ?_
  refine o_iloadN X2 hx (hb hby d3_22) rfl ?_
  have c4 := ((pr0.ext E1).keep K2 (ninS (Nat.ne_of_lt (Nat.lt_of_lt_of_le (Nat.lt_of_lt_of_le pr0.lt (Nat.le_refl _)) (Nat.le_of_eq g1.symm))) nin0))
  obtain ⟨_, _, ⟨T3, L3, kc3, n3⟩, -, X3, ⟨Lc3, hQ3, l3, y3, z3⟩, st3⟩ := Jvm.LawKit.callS X2 hx (y := yM7) hown (mvT hZ w92) (mvT hZ w93) (mvT hZ w62) (mvT hZ w94) (by decide) (backOf (W := 0) (rm_tob_1 l Z a0 hw [] z_CS v_FMT ca_ kc_ c0_ T2.heap n0 SB ((O0.ext E1).keep K2 (allS n0_b1 all0)) c4) hZ w94 w62 (by decide) (by decide)) (g := (mkF m 23 #[.val (.ref ca_), .val (.int (0 : Int32)), .val (.int (1 : Int32)), .val (.ref b1), .val (.int (0 : Int32)), .unset] [(.int (1 : Int32)), (.int (0 : Int32)), (.ref ca_)])) rfl (by rw [hml]; rfl) (argsL := [(.ref ca_), (.int (0 : Int32)), (.int (1 : Int32))]) (rest := []) (lenOf own_pd4 rfl) rfl (by show 2 * 0 + _ ≤ _; exact Nat.le_of_eq rfl) (hb hby d3_23) (fun _ _ => ⟨rfl, rfl, (by decide : 1 + 1 ≤ _), (by decide : 1 + 2 ≤ _)⟩)
  dsimp only [Pt.U, Pt.locs, Pt.cells, Pt.slots] at X3 l3 y3 z3 st3 hQ3
  subst l3 y3 z3
  obtain ⟨ba_3, kb_3, rfl, Nq3, K3, p3_0, p3_1⟩ := hQ3
  have N3 := Fr.app N2 Nq3
  have n0_ba_3 : n0 ≤ ba_3 := Nat.le_trans (Nat.le_trans (Nat.le_of_eq O0.1.symm) O0.2.1) (Nat.le_trans (Nat.le_trans E1.1 K2.1) p3_0)
  refine ogo (S' := T3.setTop (mkF m 26 #[.val (.ref ca_), .val (.int (0 : Int32)), .val (.int (1 : Int32)), .val (.ref b1), .val (.int (0 : Int32)), .unset] [(.ref ba_3)])) st3 ?_
  refine o_astore X3 hx (l' := #[.val (.ref ca_), .val (.int (0 : Int32)), .val (.int (1 : Int32)), .val (.ref b1), .val (.int (0 : Int32)), .val (.ref ba_3)]) (hb hby d3_26) rfl rfl ?_
  refine o_aload X3 hx (hb hby d3_28) rfl rfl ?_
  refine o_iload X3 hx (hb hby d3_30) rfl ?_
  obtain ⟨_, _, ⟨T5, L5, kc5, n5⟩, -, X5, ⟨Lc5, hQ5, l5, y5, z5⟩, st5⟩ := Jvm.LawKit.callS X3 hx (y := yM8) hown (mvT hZ w108) (mvT hZ w109) (mvT hZ w62) (mvT hZ w110) (by decide) (backOf (W := 0) (rm_getch_1_0 l Z a0 hw [] z_CS v_FMT ba_3 kb_3 c0_ T3.heap n0 SB (((O0.ext E1).keep K2 (allS n0_b1 all0)).keep K3 all0) p3_1 pr1) hZ w110 w62 (by decide) (by decide)) (g := (mkF m 32 #[.val (.ref ca_), .val (.int (0 : Int32)), .val (.int (1 : Int32)), .val (.ref b1), .val (.int (0 : Int32)), .val (.ref ba_3)] [(.int (0 : Int32)), (.ref ba_3)])) rfl (by rw [hml]; rfl) (argsL := [(.ref ba_3), (.int (0 : Int32))]) (rest := []) (lenOf own_pd5 rfl) rfl (by show 2 * 0 + _ ≤ _; exact Nat.le_of_eq rfl) (hb hby d3_32) (fun _ _ => ⟨rfl, rfl, (by decide : 2 + 0 ≤ _), (by decide : 3 + 0 ≤ _)⟩)
  dsimp only [Pt.U, Pt.locs, Pt.cells, Pt.slots] at X5 l5 y5 z5 st5 hQ5
  subst l5 y5 z5
  obtain ⟨rfl, Nq5, e5⟩ := hQ5
  have N5 := Fr.app N3 Nq5
  refine ogo (S' := T5.setTop (mkF m 35 #[.val (.ref ca_), .val (.int (0 : Int32)), .val (.int (1 : Int32)), .val (.ref b1), .val (.int (0 : Int32)), .val (.ref ba_3)] [(.int c0_)])) st5 ?_
  refine o_sipush X5 hx (255 : Int32) (hb hby d3_35) rfl ?_
  refine o_icmpYes X5 hx 54 (hb hby d3_38) (tlt pr2).2.2.1 (by decide) (by decide) ?_
  refine o_aload X5 hx (hb hby d3_54) rfl rfl ?_
  refine oend X5 hlk (v := some (.ref ba_3)) (fun h => by rw [hret] at h; cases h) (fun fs hr => retOut X5 hx (t := (.array .byte)) (i := .areturn) hret rfl (Or.inr (Or.inr (Or.inr (Or.inr ⟨rfl, rfl, rfl⟩)))) (hb hby d3_56) hr) (by decide) (by decide) ?_
  show own_Q_cmp3_1_0 Z _ _ _ _ _ h0 n0 _ T5.heap _
  rw [e5]
  exact ⟨ba_3, kb_3, rfl, N5, ((((Keep.refl h0 []).ext E1).trans K2 (allS (Or.inr (Nat.le_trans (Nat.le_refl _) (Nat.le_of_eq g1.symm))) all0)).trans K3 all0), (Nat.le_trans (Nat.le_trans E1.1 K2.1) p3_0), p3_1⟩
theorem own_pd6 : parseMethodDescriptor "([BI)B" = some ⟨[(.array .byte), .int], some .byte⟩ := by decide +kernel
theorem d10_0 : decode jdk_42_method_149_code 0 = .ok (.aload_n 0, 1) := by decide +kernel
theorem d10_1 : decode jdk_42_method_149_code 1 = .ok (.invokespecial 1, 3) := by decide +kernel
theorem d10_4 : decode jdk_42_method_149_code 4 = .ok (.iload_n 3, 1) := by decide +kernel
theorem d10_5 : decode jdk_42_method_149_code 5 = .ok (.ifCond .ne 22, 3) := by decide +kernel
theorem d10_27 : decode jdk_42_method_149_code 27 = .ok (.getstatic 38, 3) := by decide +kernel
theorem d10_30 : decode jdk_42_method_149_code 30 = .ok (.ifCond .eq 28, 3) := by decide +kernel
theorem d10_33 : decode jdk_42_method_149_code 33 = .ok (.aload_n 1, 1) := by decide +kernel
theorem d10_34 : decode jdk_42_method_149_code 34 = .ok (.iload_n 2, 1) := by decide +kernel
theorem d10_35 : decode jdk_42_method_149_code 35 = .ok (.iload_n 3, 1) := by decide +kernel
theorem d10_36 : decode jdk_42_method_149_code 36 = .ok (.invokestatic 177, 3) := by decide +kernel
theorem d10_39 : decode jdk_42_method_149_code 39 = .ok (.astore 5, 2) := by decide +kernel
theorem d10_41 : decode jdk_42_method_149_code 41 = .ok (.aload_n 0, 1) := by decide +kernel
theorem d10_42 : decode jdk_42_method_149_code 42 = .ok (.aload 5, 2) := by decide +kernel
theorem d10_44 : decode jdk_42_method_149_code 44 = .ok (.iload_n 3, 1) := by decide +kernel
theorem d10_45 : decode jdk_42_method_149_code 45 = .ok (.invokestatic 47, 3) := by decide +kernel
theorem d10_48 : decode jdk_42_method_149_code 48 = .ok (.putfield 15, 3) := by decide +kernel
theorem d10_51 : decode jdk_42_method_149_code 51 = .ok (.aload_n 0, 1) := by decide +kernel
theorem d10_52 : decode jdk_42_method_149_code 52 = .ok (.aload 5, 2) := by decide +kernel
theorem d10_54 : decode jdk_42_method_149_code 54 = .ok (.putfield 9, 3) := by decide +kernel
theorem d10_57 : decode jdk_42_method_149_code 57 = .ok (.return_, 1) := by decide +kernel
theorem own_pn2 : plainName "java/lang/String" = true := by first | (simp [plainName, overriddenIn]; done) | decide +kernel
def own_Q_new4e_1 (Z : State) (z_CS : Int32) (v_FMT : Value) (x_ : Addr) (ca_ : Addr) (kc_ : ClassId) (c0_ : Int32) (h0 : Heap) (n0 : Nat) (v : Option Value) (h : Heap) (L : List Loc) : Prop := ∃ ba_ : Addr, ∃ kb_ : ClassId, ∃ cd_ : Int32, ∃ z_ : Int32, ∃ vs_ : List Value, (v = none) ∧ (Fr n0 L) ∧ (Keep h0 h [x_]) ∧ (h0.size ≤ ba_) ∧ (Arv Z h ba_ kb_ .byte z_ vs_ (.int 0)) ∧ (Exa Z h x_ "java/lang/String") ∧ (Fld Z h x_ "java/lang/String" "value" "[B" (.ref ba_)) ∧ (Fld Z h x_ "java/lang/String" "coder" "B" (.int cd_)) ∧ (own_enc1 c0_ cd_ z_ vs_)
abbrev yM9 : MethodName := ⟨"java/lang/String", "<init>", "([CIILjava/lang/Void;)V"⟩
set_option maxRecDepth 65536 in
set_option maxHeartbeats 40000000 in
theorem rm_new4e_1 (l : Launch) (Z : State) (a0 : Array Value) (hw : ∀ d ∈ tables_1, d.before a0 Z = true) (ws : List Jvm.Cond) (z_CS : Int32) (v_FMT : Value) (x_ : Addr) (ca_ : Addr) (kc_ : ClassId) (c0_ : Int32) (h0 : Heap) (n0 : Nat) (SB : own_Start Z z_CS v_FMT) (O0 : Old Z n0 h0) (pr0 : Exa Z h0 x_ "java/lang/String") (pr1 : Fld Z h0 x_ "java/lang/String" "value" "[B" .null) (pr2 : Fld Z h0 x_ "java/lang/String" "coder" "B" (.int (0 : Int32))) (pr3 : Arv Z h0 ca_ kc_ .char (1 : Int32) [(.int c0_)] (.int 0)) (pr4 : n0 ≤ x_) (pr5 : own_c16 c0_) :
    oMet l Z yM9 jdk_42_method_149_code 6 none ws ({ frames := 4, cells := 2, slots := 3, locals := 57 } : Room) 2 3 #[(.ref x_), (.ref ca_), (.int (0 : Int32)), (.int (1 : Int32)), .null] h0 (own_Q_new4e_1 Z z_CS v_FMT x_ ca_ kc_ c0_ h0 n0) := by
  refine oenter own_pn2 #[.val (.ref x_), .val (.ref ca_), .val (.int (0 : Int32)), .val (.int (1 : Int32)), .val .null, .unset] (fun m => by first | (simp [entryFrame, mkF, argsToLocals, Value.category]; done) | rfl) ?_
  intro p e s m below meth c s₁ X0 hx hZ hby hml hret hown0 hnm hlk e0
  have hown : s.vm.findClass "java/lang/String" = some m.cls := hown0
  have N0 := Fr.nil n0
  obtain ⟨S_CS, H_CS, S__assertionsDisabled, S_HI_BYTE_SHIFT, S_LO_BYTE_SHIFT, S_FMT, R_FMT⟩ := (id SB)
  have w6 := hw _ (List.mem_of_getElem? (i := 6) rfl)
  have w16 := hw _ (List.mem_of_getElem? (i := 16) rfl)
  have w17 := hw _ (List.mem_of_getElem? (i := 17) rfl)
  have w18 := hw _ (List.mem_of_getElem? (i := 18) rfl)
  have w21 := hw _ (List.mem_of_getElem? (i := 21) rfl)
  have w22 := hw _ (List.mem_of_getElem? (i := 22) rfl)
  have w25 := hw _ (List.mem_of_getElem? (i := 25) rfl)
  have w26 := hw _ (List.mem_of_getElem? (i := 26) rfl)
  have w37 := hw _ (List.mem_of_getElem? (i := 37) rfl)
  have w60 := hw _ (List.mem_of_getElem? (i := 60) rfl)
  have w61 := hw _ (List.mem_of_getElem? (i := 61) rfl)
  have w62 := hw _ (List.mem_of_getElem? (i := 62) rfl)
  have w63 := hw _ (List.mem_of_getElem? (i := 63) rfl)
  have w67 := hw _ (List.mem_of_getElem? (i := 67) rfl)
  have w68 := hw _ (List.mem_of_getElem? (i := 68) rfl)
  have w69 := hw _ (List.mem_of_getElem? (i := 69) rfl)
  refine o_aloadN X0 hx (hb hby d10_0) rfl rfl ?_
  obtain ⟨T1, X1, e1, st1⟩ := initO X0 hx hZ hown w16 w17 w18 e0 (g := (mkF m 1 #[.val (.ref x_), .val (.ref ca_), .val (.int (0 : Int32)), .val (.int (1 : Int32)), .val .null, .unset] [(.ref x_)])) rfl (by rw [hml]; rfl) rfl (hb hby d10_1) (by decide) (W := 0) (by show 2 * 0 + _ ≤ _; exact Nat.le_of_eq rfl) (by decide)
  refine ogo (S' := T1.setTop (mkF m 4 #[.val (.ref x_), .val (.ref ca_), .val (.int (0 : Int32)), .val (.int (1 : Int32)), .val .null, .unset] [])) st1 ?_
  refine o_iloadN X1 hx (hb hby d10_4) rfl ?_
  refine o_ifYes X1 hx 27 (hb hby d10_5) (feq (by decide : ¬ ((1 : Int32) = (0 : Int32)))).2 (by decide) (by decide) ?_
  obtain ⟨T2, X2, e2, st2⟩ := getS2 X1 hx hZ hown (host := "") (Or.inl w37) Via.refl e1 (Sta.ext O0.2 S_CS) (g := (mkF m 27 #[.val (.ref x_), .val (.ref ca_), .val (.int (0 : Int32)), .val (.int (1 : Int32)), .val .null, .unset] [])) rfl (hb hby d10_27)
  refine ogo (S' := T2.setTop (mkF m 30 #[.val (.ref x_), .val (.ref ca_), .val (.int (0 : Int32)), .val (.int (1 : Int32)), .val .null, .unset] [(.int z_CS)])) st2 ?_
  refine o_ifNo X2 hx (hb hby d10_30) (feq H_CS).1 ?_
  refine o_aloadN X2 hx (hb hby d10_33) rfl rfl ?_
  refine o_iloadN X2 hx (hb hby d10_34) rfl ?_
  refine o_iloadN X2 hx (hb hby d10_35) rfl ?_
  by_cases hc3 : (255 : Int32) < c0_
  · obtain ⟨_, _, ⟨T4, L4, kc4, n4⟩, -, X4, ⟨Lc4, hQ4, l4, y4, z4⟩, st4⟩ := Jvm.LawKit.callS X2 hx (y := yM2) hown (mvT hZ w60) (mvT hZ w61) (mvT hZ w62) (mvT hZ w63) (by decide) (backOf (W := 0) (rm_cmp3_1_0 l Z a0 hw [] z_CS v_FMT ca_ kc_ c0_ h0 n0 SB O0 pr3 pr5 hc3) hZ w63 w62 (by decide) (by decide)) (g := (mkF m 36 #[.val (.ref x_), .val (.ref ca_), .val (.int (0 : Int32)), .val (.int (1 : Int32)), .val .null, .unset] [(.int (1 : Int32)), (.int (0 : Int32)), (.ref ca_)])) rfl (by rw [hml]; rfl) (argsL := [(.ref ca_), (.int (0 : Int32)), (.int (1 : Int32))]) (rest := []) (lenOf own_pd4 rfl) rfl (by show 2 * 0 + _ ≤ _; exact Nat.le_of_eq rfl) (hb hby d10_36) (fun _ _ => ⟨rfl, e2, (by decide : 0 + 2 ≤ _), (by decide : 0 + 3 ≤ _)⟩)
    dsimp only [Pt.U, Pt.locs, Pt.cells, Pt.slots] at X4 l4 y4 z4 st4 hQ4
    subst l4 y4 z4
    obtain ⟨ba_4, kb_4, rfl, Nq4, K4, p4_0, p4_1⟩ := hQ4
    have N4 := Fr.app N0 Nq4
    have n0_ba_4 : n0 ≤ ba_4 := Nat.le_trans (Nat.le_trans (Nat.le_of_eq O0.1.symm) O0.2.1) (Nat.le_trans (Nat.le_refl _) p4_0)
    refine ogo (S' := T4.setTop (mkF m 39 #[.val (.ref x_), .val (.ref ca_), .val (.int (0 : Int32)), .val (.int (1 : Int32)), .val .null, .unset] [(.ref ba_4)])) st4 ?_
    refine o_astore X4 hx (l' := #[.val (.ref x_), .val (.ref ca_), .val (.int (0 : Int32)), .val (.int (1 : Int32)), .val .null, .val (.ref ba_4)]) (hb hby d10_39) rfl rfl ?_
    refine o_aloadN X4 hx (hb hby d10_41) rfl rfl ?_
    refine o_aload X4 hx (hb hby d10_42) rfl rfl ?_
    refine o_iloadN X4 hx (hb hby d10_44) rfl ?_
    obtain ⟨_, _, ⟨T5, L5, kc5, n5⟩, -, X5, ⟨Lc5, hQ5, l5, y5, z5⟩, st5⟩ := Jvm.LawKit.callS X4 hx (y := yM3) hown (mvT hZ w67) (mvT hZ w68) (mvT hZ w62) (mvT hZ w69) (by decide) (backOf (W := 1) (rm_codl16_1 l Z a0 hw []  ba_4 kb_4 [(.int (c0_ >>> ((0 : Int32) &&& 31)).toInt8.toInt32), (.int (c0_ >>> ((8 : Int32) &&& 31)).toInt8.toInt32)] T4.heap n0 (O0.keep K4 all0) p4_1) hZ w69 w62 (by decide) (by decide)) (g := (mkF m 45 #[.val (.ref x_), .val (.ref ca_), .val (.int (0 : Int32)), .val (.int (1 : Int32)), .val .null, .val (.ref ba_4)] [(.int (1 : Int32)), (.ref ba_4), (.ref x_)])) rfl (by rw [hml]; rfl) (argsL := [(.ref ba_4), (.int (1 : Int32))]) (rest := [(.ref x_)]) (lenOf own_pd6 rfl) rfl (by show 2 * 0 + _ ≤ _; exact Nat.le_of_eq rfl) (hb hby d10_45) (fun _ _ => ⟨rfl, rfl, (by decide : 2 + 0 ≤ _), (by decide : 3 + 0 ≤ _)⟩)
    dsimp only [Pt.U, Pt.locs, Pt.cells, Pt.slots] at X5 l5 y5 z5 st5 hQ5
    subst l5 y5 z5
    obtain ⟨rfl, Nq5, e5⟩ := hQ5
    have N5 := Fr.app N4 Nq5
    refine ogo (S' := T5.setTop (mkF m 48 #[.val (.ref x_), .val (.ref ca_), .val (.int (0 : Int32)), .val (.int (1 : Int32)), .val .null, .val (.ref ba_4)] [(.int (1 : Int32)), (.ref x_)])) st5 ?_
    obtain ⟨T6, _, X6, rfl, W6, st6⟩ := putFN X5 hx hZ hown w26 Via.refl e5 (pr2.keep K4 nin0) (pr0.keep K4) (Or.inr ⟨w22, rfl, hnm⟩) w6 (ty := .byte) (v' := (.int (1 : Int32))) (by decide) rfl (by decide) (g := (mkF m 48 #[.val (.ref x_), .val (.ref ca_), .val (.int (0 : Int32)), .val (.int (1 : Int32)), .val .null, .val (.ref ba_4)] [(.int (1 : Int32)), (.ref x_)])) rfl rfl (hb hby d10_48)
    have N6 := Fr.snoc X6 N5 pr4
    have F6 := Fld.same W6 (pr2.keep K4 nin0)
    refine ogo (S' := T6.setTop (mkF m 51 #[.val (.ref x_), .val (.ref ca_), .val (.int (0 : Int32)), .val (.int (1 : Int32)), .val .null, .val (.ref ba_4)] [])) st6 ?_
    refine o_aloadN X6 hx (hb hby d10_51) rfl rfl ?_
    refine o_aload X6 hx (hb hby d10_52) rfl rfl ?_
    have c8 := (Fld.other W6 (pr1.keep K4 nin0) (Or.inr (slot_ne (Or.inr w21) (Or.inr w22) (by decide) (t := (.array .byte)) (t' := .byte) (by decide) (by decide))))
    obtain ⟨T7, _, X7, rfl, W7, st7⟩ := putF X6 hx hZ hown (host := "") (Or.inl w25) Via.refl rfl c8 (Exa.wr W6 (pr0.keep K4)) (Or.inr ⟨w21, rfl, hnm⟩) w6 (ty := (.array .byte)) (by decide) rfl rfl (g := (mkF m 54 #[.val (.ref x_), .val (.ref ca_), .val (.int (0 : Int32)), .val (.int (1 : Int32)), .val .null, .val (.ref ba_4)] [(.ref ba_4), (.ref x_)])) rfl rfl (hb hby d10_54)
    have N7 := Fr.snoc X7 N6 pr4
    have F7 := Fld.same W7 c8
    refine ogo (S' := T7.setTop (mkF m 57 #[.val (.ref x_), .val (.ref ca_), .val (.int (0 : Int32)), .val (.int (1 : Int32)), .val .null, .val (.ref ba_4)] [])) st7 ?_
    have c9 := ((p4_1.other W6 (Nat.ne_of_gt (Nat.lt_of_lt_of_le (Nat.lt_of_lt_of_le pr0.lt (Nat.le_refl _)) p4_0))).other W7 (Nat.ne_of_gt (Nat.lt_of_lt_of_le (Nat.lt_of_lt_of_le pr0.lt (Nat.le_refl _)) p4_0)))
    have c10 := (Fld.other W7 F6 (Or.inr (slot_ne (Or.inr w22) (Or.inr w21) (by decide) (t := .byte) (t' := (.array .byte)) (by decide) (by decide))))
    refine oend X7 hlk (v := none) (fun _ => rfl) (fun fs hr => X7.returnOut hx hret (hb hby d10_57) hr) (by decide) (by decide) ?_
    show own_Q_new4e_1 Z _ _ _ _ _ _ h0 n0 _ T7.heap _
    exact ⟨ba_4, kb_4, (1 : Int32), (2 : Int32), [(.int (c0_ >>> ((0 : Int32) &&& 31)).toInt8.toInt32), (.int (c0_ >>> ((8 : Int32) &&& 31)).toInt8.toInt32)], rfl, N7, ((((Keep.refl h0 [x_]).trans K4 all0).wr W6 (Or.inl (List.mem_of_getElem? (i := 0) rfl))).wr W7 (Or.inl (List.mem_of_getElem? (i := 0) rfl))), (Nat.le_trans (Nat.le_refl _) p4_0), c9, (Exa.wr W7 (Exa.wr W6 (pr0.keep K4))), F7, c10, (Or.inr ⟨rfl, rfl, rfl⟩)⟩
  · obtain ⟨_, _, ⟨T11, L11, kc11, n11⟩, -, X11, ⟨Lc11, hQ11, l11, y11, z11⟩, st11⟩ := Jvm.LawKit.callS X2 hx (y := yM2) hown (mvT hZ w60) (mvT hZ w61) (mvT hZ w62) (mvT hZ w63) (by decide) (backOf (W := 0) (rm_cmp3_1 l Z a0 hw []  ca_ kc_ c0_ h0 n0 O0 pr3 hc3) hZ w63 w62 (by decide) (by decide)) (g := (mkF m 36 #[.val (.ref x_), .val (.ref ca_), .val (.int (0 : Int32)), .val (.int (1 : Int32)), .val .null, .unset] [(.int (1 : Int32)), (.int (0 : Int32)), (.ref ca_)])) rfl (by rw [hml]; rfl) (argsL := [(.ref ca_), (.int (0 : Int32)), (.int (1 : Int32))]) (rest := []) (lenOf own_pd4 rfl) rfl (by show 2 * 0 + _ ≤ _; exact Nat.le_of_eq rfl) (hb hby d10_36) (fun _ _ => ⟨rfl, e2, (by decide : 0 + 1 ≤ _), (by decide : 0 + 1 ≤ _)⟩)
    dsimp only [Pt.U, Pt.locs, Pt.cells, Pt.slots] at X11 l11 y11 z11 st11 hQ11
    subst l11 y11 z11
    obtain ⟨ba_11, kb_11, rfl, Nq11, K11, p11_0, p11_1⟩ := hQ11
    have N11 := Fr.app N0 Nq11
    have n0_ba_11 : n0 ≤ ba_11 := Nat.le_trans (Nat.le_trans (Nat.le_of_eq O0.1.symm) O0.2.1) (Nat.le_trans (Nat.le_refl _) p11_0)
    refine ogo (S' := T11.setTop (mkF m 39 #[.val (.ref x_), .val (.ref ca_), .val (.int (0 : Int32)), .val (.int (1 : Int32)), .val .null, .unset] [(.ref ba_11)])) st11 ?_
    refine o_astore X11 hx (l' := #[.val (.ref x_), .val (.ref ca_), .val (.int (0 : Int32)), .val (.int (1 : Int32)), .val .null, .val (.ref ba_11)]) (hb hby d10_39) rfl rfl ?_
    refine o_aloadN X11 hx (hb hby d10_41) rfl rfl ?_
    refine o_aload X11 hx (hb hby d10_42) rfl rfl ?_
    refine o_iloadN X11 hx (hb hby d10_44) rfl ?_
    obtain ⟨_, _, ⟨T12, L12, kc12, n12⟩, -, X12, ⟨Lc12, hQ12, l12, y12, z12⟩, st12⟩ := Jvm.LawKit.callS X11 hx (y := yM3) hown (mvT hZ w67) (mvT hZ w68) (mvT hZ w62) (mvT hZ w69) (by decide) (backOf (W := 1) (rm_codl_1 l Z a0 hw []  ba_11 kb_11 [(.int c0_.toInt8.toInt32)] T11.heap n0 (O0.keep K11 all0) p11_1) hZ w69 w62 (by decide) (by decide)) (g := (mkF m 45 #[.val (.ref x_), .val (.ref ca_), .val (.int (0 : Int32)), .val (.int (1 : Int32)), .val .null, .val (.ref ba_11)] [(.int (1 : Int32)), (.ref ba_11), (.ref x_)])) rfl (by rw [hml]; rfl) (argsL := [(.ref ba_11), (.int (1 : Int32))]) (rest := [(.ref x_)]) (lenOf own_pd6 rfl) rfl (by show 2 * 0 + _ ≤ _; exact Nat.le_of_eq rfl) (hb hby d10_45) (fun _ _ => ⟨rfl, rfl, (by decide : 1 + 0 ≤ _), (by decide : 1 + 0 ≤ _)⟩)
    dsimp only [Pt.U, Pt.locs, Pt.cells, Pt.slots] at X12 l12 y12 z12 st12 hQ12
    subst l12 y12 z12
    obtain ⟨rfl, Nq12, e12⟩ := hQ12
    have N12 := Fr.app N11 Nq12
    refine ogo (S' := T12.setTop (mkF m 48 #[.val (.ref x_), .val (.ref ca_), .val (.int (0 : Int32)), .val (.int (1 : Int32)), .val .null, .val (.ref ba_11)] [(.int (0 : Int32)), (.ref x_)])) st12 ?_
    obtain ⟨T13, _, X13, rfl, W13, st13⟩ := putFN X12 hx hZ hown w26 Via.refl e12 (pr2.keep K11 nin0) (pr0.keep K11) (Or.inr ⟨w22, rfl, hnm⟩) w6 (ty := .byte) (v' := (.int (0 : Int32))) (by decide) rfl (by decide) (g := (mkF m 48 #[.val (.ref x_), .val (.ref ca_), .val (.int (0 : Int32)), .val (.int (1 : Int32)), .val .null, .val (.ref ba_11)] [(.int (0 : Int32)), (.ref x_)])) rfl rfl (hb hby d10_48)
    have N13 := Fr.snoc X13 N12 pr4
    have F13 := Fld.same W13 (pr2.keep K11 nin0)
    refine ogo (S' := T13.setTop (mkF m 51 #[.val (.ref x_), .val (.ref ca_), .val (.int (0 : Int32)), .val (.int (1 : Int32)), .val .null, .val (.ref ba_11)] [])) st13 ?_
    refine o_aloadN X13 hx (hb hby d10_51) rfl rfl ?_
    refine o_aload X13 hx (hb hby d10_52) rfl rfl ?_
    have c15 := (Fld.other W13 (pr1.keep K11 nin0) (Or.inr (slot_ne (Or.inr w21) (Or.inr w22) (by decide) (t := (.array .byte)) (t' := .byte) (by decide) (by decide))))
    obtain ⟨T14, _, X14, rfl, W14, st14⟩ := putF X13 hx hZ hown (host := "") (Or.inl w25) Via.refl rfl c15 (Exa.wr W13 (pr0.keep K11)) (Or.inr ⟨w21, rfl, hnm⟩) w6 (ty := (.array .byte)) (by decide) rfl rfl (g := (mkF m 54 #[.val (.ref x_), .val (.ref ca_), .val (.int (0 : Int32)), .val (.int (1 : Int32)), .val .null, .val (.ref ba_11)] [(.ref ba_11), (.ref x_)])) rfl rfl (hb hby d10_54)
    have N14 := Fr.snoc X14 N13 pr4
    have F14 := Fld.same W14 c15
    refine ogo (S' := T14.setTop (mkF m 57 #[.val (.ref x_), .val (.ref ca_), .val (.int (0 : Int32)), .val (.int (1 : Int32)), .val .null, .val (.ref ba_11)] [])) st14 ?_
    have c16 := ((p11_1.other W13 (Nat.ne_of_gt (Nat.lt_of_lt_of_le (Nat.lt_of_lt_of_le pr0.lt (Nat.le_refl _)) p11_0))).other W14 (Nat.ne_of_gt (Nat.lt_of_lt_of_le (Nat.lt_of_lt_of_le pr0.lt (Nat.le_refl _)) p11_0)))
    have c17 := (Fld.other W14 F13 (Or.inr (slot_ne (Or.inr w22) (Or.inr w21) (by decide) (t := .byte) (t' := (.array .byte)) (by decide) (by decide))))
    refine oend X14 hlk (v := none) (fun _ => rfl) (fun fs hr => X14.returnOut hx hret (hb hby d10_57) hr) (by decide) (by decide) ?_
    show own_Q_new4e_1 Z _ _ _ _ _ _ h0 n0 _ T14.heap _
    exact ⟨ba_11, kb_11, (0 : Int32), (1 : Int32), [(.int c0_.toInt8.toInt32)], rfl, N14, ((((Keep.refl h0 [x_]).trans K11 all0).wr W13 (Or.inl (List.mem_of_getElem? (i := 0) rfl))).wr W14 (Or.inl (List.mem_of_getElem? (i := 0) rfl))), (Nat.le_trans (Nat.le_refl _) p11_0), c16, (Exa.wr W14 (Exa.wr W13 (pr0.keep K11))), F14, c17, (Or.inl ⟨hc3, rfl, rfl, rfl⟩)⟩
theorem own_pd7 : parseMethodDescriptor "([CIILjava/lang/Void;)V" = some ⟨[(.array .char), .int, .int, (.object "java/lang/Void")], none⟩ := by decide +kernel
theorem d11_0 : decode jdk_42_method_3_code 0 = .ok (.aload_n 0, 1) := by decide +kernel
theorem d11_1 : decode jdk_42_method_3_code 1 = .ok (.aload_n 1, 1) := by decide +kernel
theorem d11_2 : decode jdk_42_method_3_code 2 = .ok (.iconst 0, 1) := by decide +kernel
theorem d11_3 : decode jdk_42_method_3_code 3 = .ok (.aload_n 1, 1) := by decide +kernel
theorem d11_4 : decode jdk_42_method_3_code 4 = .ok (.arraylength, 1) := by decide +kernel
theorem d11_5 : decode jdk_42_method_3_code 5 = .ok (.aconst_null, 1) := by decide +kernel
theorem d11_6 : decode jdk_42_method_3_code 6 = .ok (.invokespecial 27, 3) := by decide +kernel
theorem d11_9 : decode jdk_42_method_3_code 9 = .ok (.return_, 1) := by decide +kernel
def own_Q_new1e_1 (Z : State) (z_CS : Int32) (v_FMT : Value) (x_ : Addr) (ca_ : Addr) (kc_ : ClassId) (c0_ : Int32) (h0 : Heap) (n0 : Nat) (v : Option Value) (h : Heap) (L : List Loc) : Prop := ∃ ba_ : Addr, ∃ kb_ : ClassId, ∃ cd_ : Int32, ∃ z_ : Int32, ∃ vs_ : List Value, (v = none) ∧ (Fr n0 L) ∧ (Keep h0 h [x_]) ∧ (h0.size ≤ ba_) ∧ (Arv Z h ba_ kb_ .byte z_ vs_ (.int 0)) ∧ (Exa Z h x_ "java/lang/String") ∧ (Fld Z h x_ "java/lang/String" "value" "[B" (.ref ba_)) ∧ (Fld Z h x_ "java/lang/String" "coder" "B" (.int cd_)) ∧ (own_enc1 c0_ cd_ z_ vs_)
abbrev yM10 : MethodName := ⟨"java/lang/String", "<init>", "([C)V"⟩
set_option maxRecDepth 65536 in
set_option maxHeartbeats 40000000 in
theorem rm_new1e_1 (l : Launch) (Z : State) (a0 : Array Value) (hw : ∀ d ∈ tables_1, d.before a0 Z = true) (ws : List Jvm.Cond) (z_CS : Int32) (v_FMT : Value) (x_ : Addr) (ca_ : Addr) (kc_ : ClassId) (c0_ : Int32) (h0 : Heap) (n0 : Nat) (SB : own_Start Z z_CS v_FMT) (O0 : Old Z n0 h0) (pr0 : Exa Z h0 x_ "java/lang/String") (pr1 : Fld Z h0 x_ "java/lang/String" "value" "[B" .null) (pr2 : Fld Z h0 x_ "java/lang/String" "coder" "B" (.int (0 : Int32))) (pr3 : Arv Z h0 ca_ kc_ .char (1 : Int32) [(.int c0_)] (.int 0)) (pr4 : n0 ≤ x_) (pr5 : own_c16 c0_) :
    oMet l Z yM10 jdk_42_method_3_code 2 none ws ({ frames := 5, cells := 2, slots := 3, locals := 74 } : Room) 2 3 #[(.ref x_), (.ref ca_)] h0 (own_Q_new1e_1 Z z_CS v_FMT x_ ca_ kc_ c0_ h0 n0) := by
  refine oenter own_pn2 #[.val (.ref x_), .val (.ref ca_)] (fun m => by first | (simp [entryFrame, mkF, argsToLocals, Value.category]; done) | rfl) ?_
  intro p e s m below meth c s₁ X0 hx hZ hby hml hret hown0 hnm hlk e0
  have hown : s.vm.findClass "java/lang/String" = some m.cls := hown0
  have N0 := Fr.nil n0
  obtain ⟨S_CS, H_CS, S__assertionsDisabled, S_HI_BYTE_SHIFT, S_LO_BYTE_SHIFT, S_FMT, R_FMT⟩ := (id SB)
  have w7 := hw _ (List.mem_of_getElem? (i := 7) rfl)
  have w12 := hw _ (List.mem_of_getElem? (i := 12) rfl)
  have w13 := hw _ (List.mem_of_getElem? (i := 13) rfl)
  have w15 := hw _ (List.mem_of_getElem? (i := 15) rfl)
  refine o_aloadN X0 hx (hb hby d11_0) rfl rfl ?_
  refine o_aloadN X0 hx (hb hby d11_1) rfl rfl ?_
  refine o_iconst X0 hx (0 : Int32) (hb hby d11_2) rfl ?_
  refine o_aloadN X0 hx (hb hby d11_3) rfl rfl ?_
  obtain ⟨cl1, Ar1, -, S1, N1z, -, -⟩ := (id pr3)
  refine ogo (S' := s₁.setTop (mkF m 5 #[.val (.ref x_), .val (.ref ca_)] [(.int (1 : Int32)), (.int (0 : Int32)), (.ref ca_), (.ref x_)])) (fun _ kt_ => X0.arraylength hx (by rw [e0]; exact Ar1.1) (State.isArrayOf_alike hZ.alike Ar1.2.1) (g := (mkF m 4 #[.val (.ref x_), .val (.ref ca_)] [(.ref ca_), (.int (0 : Int32)), (.ref ca_), (.ref x_)])) rfl rfl (hb hby d11_4) _ (by rw [len_of S1 N1z]; exact kt_)) ?_
  refine o_aconst_null X0 hx (hb hby d11_5) ?_
  obtain ⟨_, _, ⟨T2, L2, kc2, n2⟩, -, X2, ⟨Lc2, hQ2, l2, y2, z2⟩, st2⟩ := X0.specialBack hx (y := yM9) rfl hown (mvT hZ w12) (mvT hZ w13) (mvT hZ w15) (by decide) (backOf (W := 0) (rm_new4e_1 l Z a0 hw [] z_CS v_FMT x_ ca_ kc_ c0_ h0 n0 SB O0 pr0 pr1 pr2 pr3 pr4 pr5) hZ w15 w7 (by decide) (by decide)) (g := (mkF m 6 #[.val (.ref x_), .val (.ref ca_)] [.null, (.int (1 : Int32)), (.int (0 : Int32)), (.ref ca_), (.ref x_)])) rfl (by rw [hml]; rfl) (Steps.refl _) (a := x_) (argsL := [(.ref ca_), (.int (0 : Int32)), (.int (1 : Int32)), .null]) (rest := []) (lenOf own_pd7 rfl) rfl (by show 2 * 0 + _ ≤ _; exact Nat.le_of_eq rfl) (hb hby d11_6) (fun _ _ => ⟨rfl, e0, (by decide : 0 + 2 ≤ _), (by decide : 0 + 3 ≤ _)⟩)
  dsimp only [Pt.U, Pt.locs, Pt.cells, Pt.slots] at X2 l2 y2 z2 st2 hQ2
  subst l2 y2 z2
  obtain ⟨ba_2, kb_2, cd_2, z_2, vs_2, rfl, Nq2, K2, p2_0, p2_1, p2_2, p2_3, p2_4, p2_5⟩ := hQ2
  have N2 := Fr.app N0 Nq2
  have n0_ba_2 : n0 ≤ ba_2 := Nat.le_trans (Nat.le_trans (Nat.le_of_eq O0.1.symm) O0.2.1) (Nat.le_trans (Nat.le_refl _) p2_0)
  refine otr (S' := T2.setTop (mkF m 9 #[.val (.ref x_), .val (.ref ca_)] [])) st2 ?_
  refine oend X2 hlk (v := none) (fun _ => rfl) (fun fs hr => X2.returnOut hx hret (hb hby d11_9) hr) (by decide) (by decide) ?_
  show own_Q_new1e_1 Z _ _ _ _ _ _ h0 n0 _ T2.heap _
  exact ⟨ba_2, kb_2, cd_2, z_2, vs_2, rfl, N2, ((Keep.refl h0 [x_]).trans K2 (allS (Or.inl (List.mem_of_getElem? (i := 0) rfl)) all0)), (Nat.le_trans (Nat.le_refl _) p2_0), p2_1, p2_2, p2_3, p2_4, p2_5⟩
def own_Q_cmp5_2 (Z : State)  (ca_ : Addr) (kc_ : ClassId) (ba_ : Addr) (kb_ : ClassId) (c0_ : Int32) (c1_ : Int32) (h0 : Heap) (n0 : Nat) (v : Option Value) (h : Heap) (L : List Loc) : Prop := (v = some (.int (2 : Int32))) ∧ (Fr n0 L) ∧ (Keep h0 h [ba_]) ∧ (Arv Z h ba_ kb_ .byte (2 : Int32) [(.int c0_.toInt8.toInt32), (.int c1_.toInt8.toInt32)] (.int 0))
set_option maxRecDepth 65536 in
set_option maxHeartbeats 40000000 in
theorem rm_cmp5_2 (l : Launch) (Z : State) (a0 : Array Value) (hw : ∀ d ∈ tables_1, d.before a0 Z = true) (ws : List Jvm.Cond)  (ca_ : Addr) (kc_ : ClassId) (ba_ : Addr) (kb_ : ClassId) (c0_ : Int32) (c1_ : Int32) (h0 : Heap) (n0 : Nat) (O0 : Old Z n0 h0) (pr0 : Arv Z h0 ca_ kc_ .char (2 : Int32) [(.int c0_), (.int c1_)] (.int 0)) (pr1 : Arv Z h0 ba_ kb_ .byte (2 : Int32) [(.int 0), (.int 0)] (.int 0)) (pr2 : ca_ ≠ ba_) (pr3 : n0 ≤ ba_) (pr4 : ¬ ((255 : Int32) < c0_)) (pr5 : ¬ ((255 : Int32) < c1_)) :
    oMet l Z yM1 jdk_52_method_21_code 7 (some .int) ws ({ frames := 0, cells := 0, slots := 0, locals := 0 } : Room) 0 0 #[(.ref ca_), (.int (0 : Int32)), (.ref ba_), (.int (0 : Int32)), (.int (2 : Int32))] h0 (own_Q_cmp5_2 Z  ca_ kc_ ba_ kb_ c0_ c1_ h0 n0) := by
  refine oenter own_pn1 #[.val (.ref ca_), .val (.int (0 : Int32)), .val (.ref ba_), .val (.int (0 : Int32)), .val (.int (2 : Int32)), .unset, .unset] (fun m => by first | (simp [entryFrame, mkF, argsToLocals, Value.category]; done) | rfl) ?_
  intro p e s m below meth c s₁ X0 hx hZ hby hml hret hown0 hnm hlk e0
  have hown : s.vm.findClass "java/lang/StringUTF16" = some m.cls := hown0
  have N0 := Fr.nil n0
  refine o_iconst X0 hx (0 : Int32) (hb hby d2_0) rfl ?_
  refine o_istore X0 hx (l' := #[.val (.ref ca_), .val (.int (0 : Int32)), .val (.ref ba_), .val (.int (0 : Int32)), .val (.int (2 : Int32)), .val (.int (0 : Int32)), .unset]) (hb hby d2_1) rfl ?_
  refine o_iload X0 hx (hb hby d2_3) rfl ?_
  refine o_iload X0 hx (hb hby d2_5) rfl ?_
  refine o_icmpNo X0 hx (hb hby d2_7) (tlt (by decide : (0 : Int32) < (2 : Int32))).2.1 ?_
  refine o_aloadN X0 hx (hb hby d2_10) rfl rfl ?_
  refine o_iloadN X0 hx (hb hby d2_11) rfl ?_
  obtain ⟨cl1, Ar1, q1, S1, N1z, H1, G1⟩ := (id pr0)
  have hi1 := inb_of (j := (0 : Int32)) S1 ⟨by decide, by decide⟩
  have ha1 := Has.at (v := (.int c0_)) H1 hi1 rfl
  refine ogo (S' := s₁.setTop (mkF m 13 #[.val (.ref ca_), .val (.int (0 : Int32)), .val (.ref ba_), .val (.int (0 : Int32)), .val (.int (2 : Int32)), .val (.int (0 : Int32)), .unset] [(.int c0_)])) (X0.caload hx (j := (0 : Int32)) (v := (.int c0_)) (by rw [e0]; exact Ar1.1) (State.isArrayOf_alike hZ.alike Ar1.2.1) Ar1.2.2 hi1 ha1 (g := (mkF m 12 #[.val (.ref ca_), .val (.int (0 : Int32)), .val (.ref ba_), .val (.int (0 : Int32)), .val (.int (2 : Int32)), .val (.int (0 : Int32)), .unset] [(.int (0 : Int32)), (.ref ca_)])) rfl rfl (hb hby d2_12)) ?_
  refine o_istore X0 hx (l' := #[.val (.ref ca_), .val (.int (0 : Int32)), .val (.ref ba_), .val (.int (0 : Int32)), .val (.int (2 : Int32)), .val (.int (0 : Int32)), .val (.int c0_)]) (hb hby d2_13) rfl ?_
  refine o_iload X0 hx (hb hby d2_15) rfl ?_
  refine o_sipush X0 hx (255 : Int32) (hb hby d2_17) rfl ?_
  refine o_icmpYes X0 hx 26 (hb hby d2_20) (flt pr4).2.2.2 (by decide) (by decide) ?_
  refine o_aloadN X0 hx (hb hby d2_26) rfl rfl ?_
  refine o_iloadN X0 hx (hb hby d2_27) rfl ?_
  refine o_iload X0 hx (hb hby d2_28) rfl ?_
  refine o_i2b X0 hx (hb hby d2_30) ?_
  obtain ⟨cl2, Ar2, q2, S2, N2z, H2, G2⟩ := (id pr1)
  obtain ⟨T2, _, X2, rfl, W2, st2⟩ := stB X0 hx hZ e0 Ar2 (j := (0 : Int32)) (inb_of S2 ⟨by decide, by decide⟩) (g := (mkF m 31 #[.val (.ref ca_), .val (.int (0 : Int32)), .val (.ref ba_), .val (.int (0 : Int32)), .val (.int (2 : Int32)), .val (.int (0 : Int32)), .val (.int c0_)] [(.int c0_.toInt8.toInt32), (.int (0 : Int32)), (.ref ba_)])) rfl rfl (hb hby d2_31)
  rw [own_narb] at W2
  have V2 : Arv Z T2.heap ba_ kb_ .byte (2 : Int32) [(.int c0_.toInt8.toInt32), (.int 0)] (.int 0) := Arv.set Ar2 q2 S2 N2z H2 G2 (fits_nar_byte _) W2 0 rfl (Nat.le_of_ble_eq_true rfl)
  have N2 := Fr.snoc X2 N0 pr3
  refine ogo (S' := T2.setTop (mkF m 32 #[.val (.ref ca_), .val (.int (0 : Int32)), .val (.ref ba_), .val (.int (0 : Int32)), .val (.int (2 : Int32)), .val (.int (0 : Int32)), .val (.int c0_)] [])) st2 ?_
  refine o_iinc X2 hx (l' := #[.val (.ref ca_), .val (.int (1 : Int32)), .val (.ref ba_), .val (.int (0 : Int32)), .val (.int (2 : Int32)), .val (.int (0 : Int32)), .val (.int c0_)]) (hb hby d2_32) rfl rfl ?_
  refine o_iinc X2 hx (l' := #[.val (.ref ca_), .val (.int (1 : Int32)), .val (.ref ba_), .val (.int (1 : Int32)), .val (.int (2 : Int32)), .val (.int (0 : Int32)), .val (.int c0_)]) (hb hby d2_35) rfl rfl ?_
  refine o_iinc X2 hx (l' := #[.val (.ref ca_), .val (.int (1 : Int32)), .val (.ref ba_), .val (.int (1 : Int32)), .val (.int (2 : Int32)), .val (.int (1 : Int32)), .val (.int c0_)]) (hb hby d2_38) rfl rfl ?_
  refine o_goto X2 hx 3 (hb hby d2_41) (by decide) (by decide) ?_
  refine o_iload X2 hx (hb hby d2_3) rfl ?_
  refine o_iload X2 hx (hb hby d2_5) rfl ?_
  refine o_icmpNo X2 hx (hb hby d2_7) (tlt (by decide : (1 : Int32) < (2 : Int32))).2.1 ?_
  refine o_aloadN X2 hx (hb hby d2_10) rfl rfl ?_
  refine o_iloadN X2 hx (hb hby d2_11) rfl ?_
  obtain ⟨cl3, Ar3, q3, S3, N3z, H3, G3⟩ := (id (pr0.other W2 pr2))
  have hi3 := inb_of (j := (1 : Int32)) S3 ⟨by decide, by decide⟩
  have ha3 := Has.at (v := (.int c1_)) H3 hi3 rfl
  refine ogo (S' := T2.setTop (mkF m 13 #[.val (.ref ca_), .val (.int (1 : Int32)), .val (.ref ba_), .val (.int (1 : Int32)), .val (.int (2 : Int32)), .val (.int (1 : Int32)), .val (.int c0_)] [(.int c1_)])) (X2.caload hx (j := (1 : Int32)) (v := (.int c1_)) Ar3.1 (State.isArrayOf_alike hZ.alike Ar3.2.1) Ar3.2.2 hi3 ha3 (g := (mkF m 12 #[.val (.ref ca_), .val (.int (1 : Int32)), .val (.ref ba_), .val (.int (1 : Int32)), .val (.int (2 : Int32)), .val (.int (1 : Int32)), .val (.int c0_)] [(.int (1 : Int32)), (.ref ca_)])) rfl rfl (hb hby d2_12)) ?_
  refine o_istore X2 hx (l' := #[.val (.ref ca_), .val (.int (1 : Int32)), .val (.ref ba_), .val (.int (1 : Int32)), .val (.int (2 : Int32)), .val (.int (1 : Int32)), .val (.int c1_)]) (hb hby d2_13) rfl ?_
  refine o_iload X2 hx (hb hby d2_15) rfl ?_
  refine o_sipush X2 hx (255 : Int32) (hb hby d2_17) rfl ?_
  refine o_icmpYes X2 hx 26 (hb hby d2_20) (flt pr5).2.2.2 (by decide) (by decide) ?_
  refine o_aloadN X2 hx (hb hby d2_26) rfl rfl ?_
  refine o_iloadN X2 hx (hb hby d2_27) rfl ?_
  refine o_iload X2 hx (hb hby d2_28) rfl ?_
  refine o_i2b X2 hx (hb hby d2_30) ?_
  obtain ⟨cl4, Ar4, q4, S4, N4z, H4, G4⟩ := (id V2)
  obtain ⟨T4, _, X4, rfl, W4, st4⟩ := stB X2 hx hZ rfl Ar4 (j := (1 : Int32)) (inb_of S4 ⟨by decide, by decide⟩) (g := (mkF m 31 #[.val (.ref ca_), .val (.int (1 : Int32)), .val (.ref ba_), .val (.int (1 : Int32)), .val (.int (2 : Int32)), .val (.int (1 : Int32)), .val (.int c1_)] [(.int c1_.toInt8.toInt32), (.int (1 : Int32)), (.ref ba_)])) rfl rfl (hb hby d2_31)
  rw [own_narb] at W4
  have V4 : Arv Z T4.heap ba_ kb_ .byte (2 : Int32) [(.int c0_.toInt8.toInt32), (.int c1_.toInt8.toInt32)] (.int 0) := Arv.set Ar4 q4 S4 N4z H4 G4 (fits_nar_byte _) W4 1 rfl (Nat.le_of_ble_eq_true rfl)
  have N4 := Fr.snoc X4 N2 pr3
  refine ogo (S' := T4.setTop (mkF m 32 #[.val (.ref ca_), .val (.int (1 : Int32)), .val (.ref ba_), .val (.int (1 : Int32)), .val (.int (2 : Int32)), .val (.int (1 : Int32)), .val (.int c1_)] [])) st4 ?_
  refine o_iinc X4 hx (l' := #[.val (.ref ca_), .val (.int (2 : Int32)), .val (.ref ba_), .val (.int (1 : Int32)), .val (.int (2 : Int32)), .val (.int (1 : Int32)), .val (.int c1_)]) (hb hby d2_32) rfl rfl ?_
  refine o_iinc X4 hx (l' := #[.val (.ref ca_), .val (.int (2 : Int32)), .val (.ref ba_), .val (.int (2 : Int32)), .val (.int (2 : Int32)), .val (.int (1 : Int32)), .val (.int c1_)]) (hb hby d2_35) rfl rfl ?_
  refine o_iinc X4 hx (l' := #[.val (.ref ca_), .val (.int (2 : Int32)), .val (.ref ba_), .val (.int (2 : Int32)), .val (.int (2 : Int32)), .val (.int (2 : Int32)), .val (.int c1_)]) (hb hby d2_38) rfl rfl ?_
  refine o_goto X4 hx 3 (hb hby d2_41) (by decide) (by decide) ?_
  refine o_iload X4 hx (hb hby d2_3) rfl ?_
  refine o_iload X4 hx (hb hby d2_5) rfl ?_
  refine o_icmpYes X4 hx 44 (hb hby d2_7) (flt (by decide : ¬ ((2 : Int32) < (2 : Int32)))).2.1 (by decide) (by decide) ?_
  refine o_iload X4 hx (hb hby d2_44) rfl ?_
  refine oend X4 hlk (v := some (.int (2 : Int32))) (fun h => by rw [hret] at h; cases h) (fun fs hr => retOut X4 hx (t := .int) (i := .ireturn) hret rfl (Or.inl ⟨rfl, Or.inl rfl, _, rfl⟩) (hb hby d2_46) hr) (by decide) (by decide) ?_
  show own_Q_cmp5_2 Z _ _ _ _ _ _ h0 n0 _ T4.heap _
  exact ⟨rfl, N4, (((Keep.refl h0 [ba_]).wr W2 (Or.inl (List.mem_of_getElem? (i := 0) rfl))).wr W4 (Or.inl (List.mem_of_getElem? (i := 0) rfl))), V4⟩
def own_Q_cmp3_2 (Z : State)  (ca_ : Addr) (kc_ : ClassId) (c0_ : Int32) (c1_ : Int32) (h0 : Heap) (n0 : Nat) (v : Option Value) (h : Heap) (L : List Loc) : Prop := ∃ ba_ : Addr, ∃ kb_ : ClassId, (v = some (.ref ba_)) ∧ (Fr n0 L) ∧ (Keep h0 h []) ∧ (h0.size ≤ ba_) ∧ (Arv Z h ba_ kb_ .byte (2 : Int32) [(.int c0_.toInt8.toInt32), (.int c1_.toInt8.toInt32)] (.int 0))
set_option maxRecDepth 65536 in
set_option maxHeartbeats 40000000 in
theorem rm_cmp3_2 (l : Launch) (Z : State) (a0 : Array Value) (hw : ∀ d ∈ tables_1, d.before a0 Z = true) (ws : List Jvm.Cond)  (ca_ : Addr) (kc_ : ClassId) (c0_ : Int32) (c1_ : Int32) (h0 : Heap) (n0 : Nat) (O0 : Old Z n0 h0) (pr0 : Arv Z h0 ca_ kc_ .char (2 : Int32) [(.int c0_), (.int c1_)] (.int 0)) (pr1 : ¬ ((255 : Int32) < c0_)) (pr2 : ¬ ((255 : Int32) < c1_)) :
    oMet l Z yM2 jdk_52_method_16_code 6 (some (.array .byte)) ws ({ frames := 1, cells := 1, slots := 2, locals := 18 } : Room) 1 2 #[(.ref ca_), (.int (0 : Int32)), (.int (2 : Int32))] h0 (own_Q_cmp3_2 Z  ca_ kc_ c0_ c1_ h0 n0) := by
  refine oenter own_pn1 #[.val (.ref ca_), .val (.int (0 : Int32)), .val (.int (2 : Int32)), .unset, .unset, .unset] (fun m => by first | (simp [entryFrame, mkF, argsToLocals, Value.category]; done) | rfl) ?_
  intro p e s m below meth c s₁ X0 hx hZ hby hml hret hown0 hnm hlk e0
  have hown : s.vm.findClass "java/lang/StringUTF16" = some m.cls := hown0
  have N0 := Fr.nil n0
  have w20 := hw _ (List.mem_of_getElem? (i := 20) rfl)
  have w62 := hw _ (List.mem_of_getElem? (i := 62) rfl)
  have w64 := hw _ (List.mem_of_getElem? (i := 64) rfl)
  have w65 := hw _ (List.mem_of_getElem? (i := 65) rfl)
  have w66 := hw _ (List.mem_of_getElem? (i := 66) rfl)
  refine o_iloadN X0 hx (hb hby d3_0) rfl ?_
  obtain ⟨T1, _, k1, X1, rfl, E1, A1, Ex1, st1⟩ := newPE (aty := .byte) X0 hx hZ w20 e0 (g := (mkF m 1 #[.val (.ref ca_), .val (.int (0 : Int32)), .val (.int (2 : Int32)), .unset, .unset, .unset] [(.int (2 : Int32))])) rfl (hb hby d3_1) rfl (by decide) (cap := 2) (by decide) (by decide) (by decide) (by decide) (ad := "[B") rfl
  obtain ⟨b1, g1⟩ : ∃ z, z = h0.size := ⟨_, rfl⟩
  rw [← g1] at A1 Ex1 st1
  have n0_b1 : n0 ≤ b1 := Nat.le_trans (Nat.le_trans (Nat.le_of_eq O0.1.symm) O0.2.1) (Nat.le_trans (Nat.le_refl _) (Nat.le_of_eq g1.symm))
  have V1 : Arv Z T1.heap b1 k1 .byte (2 : Int32) [(.int 0), (.int 0)] (.int 0) := (Arv.new A1 (by decide)).pad (pad_rep [] (.int 0) 2)
  refine ogo (S' := T1.setTop (mkF m 3 #[.val (.ref ca_), .val (.int (0 : Int32)), .val (.int (2 : Int32)), .unset, .unset, .unset] [(.ref b1)])) st1 ?_
  refine o_astoreN X1 hx (l' := #[.val (.ref ca_), .val (.int (0 : Int32)), .val (.int (2 : Int32)), .val (.ref b1), .unset, .unset]) (hb hby d3_3) rfl rfl ?_
  refine o_aloadN X1 hx (hb hby d3_4) rfl rfl ?_
  refine o_iloadN X1 hx (hb hby d3_5) rfl ?_
  refine o_aloadN X1 hx (hb hby d3_6) rfl rfl ?_
  refine o_iconst X1 hx (0 : Int32) (hb hby d3_7) rfl ?_
  refine o_iloadN X1 hx (hb hby d3_8) rfl ?_
  obtain ⟨_, _, ⟨T2, L2, kc2, n2⟩, -, X2, ⟨Lc2, hQ2, l2, y2, z2⟩, st2⟩ := Jvm.LawKit.callS X1 hx (y := yM1) hown (mvT hZ w64) (mvT hZ w65) (mvT hZ w62) (mvT hZ w66) (by decide) (backOf (W := 0) (rm_cmp5_2 l Z a0 hw []  ca_ kc_ b1 k1 c0_ c1_ T1.heap n0 (O0.ext E1) (pr0.ext E1) V1 (Nat.ne_of_lt (Nat.lt_of_lt_of_le (Nat.lt_of_lt_of_le pr0.lt (Nat.le_refl _)) (Nat.le_of_eq g1.symm))) n0_b1 pr1 pr2) hZ w66 w62 (by decide) (by decide)) (g := (mkF m 9 #[.val (.ref ca_), .val (.int (0 : Int32)), .val (.int (2 : Int32)), .val (.ref b1), .unset, .unset] [(.int (2 : Int32)), (.int (0 : Int32)), (.ref b1), (.int (0 : Int32)), (.ref ca_)])) rfl (by rw [hml]; rfl) (argsL := [(.ref ca_), (.int (0 : Int32)), (.ref b1), (.int (0 : Int32)), (.int (2 : Int32))]) (rest := []) (lenOf own_pd0 rfl) rfl (by show 2 * 0 + _ ≤ _; exact Nat.le_of_eq rfl) (hb hby d3_9) (fun _ _ => ⟨rfl, rfl, (by decide : 1 + 0 ≤ _), (by decide : 2 + 0 ≤ _)⟩)
  dsimp only [Pt.U, Pt.locs, Pt.cells, Pt.slots] at X2 l2 y2 z2 st2 hQ2
  subst l2 y2 z2
  obtain ⟨rfl, Nq2, K2, p2_0⟩ := hQ2
  have N2 := Fr.app N0 Nq2
  refine ogo (S' := T2.setTop (mkF m 12 #[.val (.ref ca_), .val (.int (0 : Int32)), .val (.int (2 : Int32)), .val (.ref b1), .unset, .unset] [(.int (2 : Int32))])) st2 ?_
  refine o_istore X2 hx (l' := #[.val (.ref ca_), .val (.int (0 : Int32)), .val (.int (2 : Int32)), .val (.ref b1), .val (.int (2 : Int32)), .unset]) (hb hby d3_12) rfl ?_
  refine o_iload X2 hx (hb hby d3_14) rfl ?_
  refine o_iloadN X2 hx (hb hby d3_16) rfl ?_
  refine o_icmpYes X2 hx 57 (hb hby d3_17) (teq (by decide : (2 : Int32) = (2 : Int32))).1 (by decide) (by decide) ?_
  refine o_aloadN X2 hx (hb hby d3_57) rfl rfl ?_
  refine oend X2 hlk (v := some (.ref b1)) (fun h => by rw [hret] at h; cases h) (fun fs hr => retOut X2 hx (t := (.array .byte)) (i := .areturn) hret rfl (Or.inr (Or.inr (Or.inr (Or.inr ⟨rfl, rfl, rfl⟩)))) (hb hby d3_58) hr) (by decide) (by decide) ?_
  show own_Q_cmp3_2 Z _ _ _ _ h0 n0 _ T2.heap _
  exact ⟨b1, k1, rfl, N2, (((Keep.refl h0 []).ext E1).trans K2 (allS (Or.inr (Nat.le_trans (Nat.le_refl _) (Nat.le_of_eq g1.symm))) all0)), (Nat.le_trans (Nat.le_refl _) (Nat.le_of_eq g1.symm)), p2_0⟩
def own_Q_codl_2 (Z : State)  (ba_ : Addr) (kb_ : ClassId) (vs_ : List Value) (h0 : Heap) (n0 : Nat) (v : Option Value) (h : Heap) (L : List Loc) : Prop := (v = some (.int (0 : Int32))) ∧ (Fr n0 L) ∧ (h = h0)
set_option maxRecDepth 65536 in
set_option maxHeartbeats 40000000 in
theorem rm_codl_2 (l : Launch) (Z : State) (a0 : Array Value) (hw : ∀ d ∈ tables_1, d.before a0 Z = true) (ws : List Jvm.Cond)  (ba_ : Addr) (kb_ : ClassId) (vs_ : List Value) (h0 : Heap) (n0 : Nat) (O0 : Old Z n0 h0) (pr0 : Arv Z h0 ba_ kb_ .byte (2 : Int32) vs_ (.int 0)) :
    oMet l Z yM3 jdk_52_method_15_code 2 (some .byte) ws ({ frames := 0, cells := 0, slots := 0, locals := 0 } : Room) 0 0 #[(.ref ba_), (.int (2 : Int32))] h0 (own_Q_codl_2 Z  ba_ kb_ vs_ h0 n0) := by
  refine oenter own_pn1 #[.val (.ref ba_), .val (.int (2 : Int32))] (fun m => by first | (simp [entryFrame, mkF, argsToLocals, Value.category]; done) | rfl) ?_
  intro p e s m below meth c s₁ X0 hx hZ hby hml hret hown0 hnm hlk e0
  have hown : s.vm.findClass "java/lang/StringUTF16" = some m.cls := hown0
  have N0 := Fr.nil n0
  refine o_iloadN X0 hx (hb hby d4_0) rfl ?_
  refine o_aloadN X0 hx (hb hby d4_1) rfl rfl ?_
  obtain ⟨cl1, Ar1, -, S1, N1z, -, -⟩ := (id pr0)
  refine ogo (S' := s₁.setTop (mkF m 3 #[.val (.ref ba_), .val (.int (2 : Int32))] [(.int (2 : Int32)), (.int (2 : Int32))])) (fun _ kt_ => X0.arraylength hx (by rw [e0]; exact Ar1.1) (State.isArrayOf_alike hZ.alike Ar1.2.1) (g := (mkF m 2 #[.val (.ref ba_), .val (.int (2 : Int32))] [(.ref ba_), (.int (2 : Int32))])) rfl rfl (hb hby d4_2) _ (by rw [len_of S1 N1z]; exact kt_)) ?_
  refine o_isub X0 hx (hb hby d4_3) ?_
  refine o_bipush X0 hx (31 : Int32) (hb hby d4_4) rfl ?_
  refine o_iushr X0 hx (hb hby d4_6) ?_
  refine o_i2b X0 hx (hb hby d4_7) ?_
  refine oend X0 hlk (v := some (.int (0 : Int32))) (fun h => by rw [hret] at h; cases h) (fun fs hr => retN X0 hx (t := .byte) hret (by simp) (hb hby d4_8) hr) (by decide) (by decide) ?_
  show own_Q_codl_2 Z _ _ _ h0 n0 _ s₁.heap _
  rw [e0]
  exact ⟨rfl, N0, rfl⟩
def own_Q_codl16_2 (Z : State)  (ba_ : Addr) (kb_ : ClassId) (vs_ : List Value) (h0 : Heap) (n0 : Nat) (v : Option Value) (h : Heap) (L : List Loc) : Prop := (v = some (.int (1 : Int32))) ∧ (Fr n0 L) ∧ (h = h0)
set_option maxRecDepth 65536 in
set_option maxHeartbeats 40000000 in
theorem rm_codl16_2 (l : Launch) (Z : State) (a0 : Array Value) (hw : ∀ d ∈ tables_1, d.before a0 Z = true) (ws : List Jvm.Cond)  (ba_ : Addr) (kb_ : ClassId) (vs_ : List Value) (h0 : Heap) (n0 : Nat) (O0 : Old Z n0 h0) (pr0 : Arv Z h0 ba_ kb_ .byte (4 : Int32) vs_ (.int 0)) :
    oMet l Z yM3 jdk_52_method_15_code 2 (some .byte) ws ({ frames := 0, cells := 0, slots := 0, locals := 0 } : Room) 0 0 #[(.ref ba_), (.int (2 : Int32))] h0 (own_Q_codl16_2 Z  ba_ kb_ vs_ h0 n0) := by
  refine oenter own_pn1 #[.val (.ref ba_), .val (.int (2 : Int32))] (fun m => by first | (simp [entryFrame, mkF, argsToLocals, Value.category]; done) | rfl) ?_
  intro p e s m below meth c s₁ X0 hx hZ hby hml hret hown0 hnm hlk e0
  have hown : s.vm.findClass "java/lang/StringUTF16" = some m.cls := hown0
  have N0 := Fr.nil n0
  refine o_iloadN X0 hx (hb hby d4_0) rfl ?_
  refine o_aloadN X0 hx (hb hby d4_1) rfl rfl ?_
  obtain ⟨cl1, Ar1, -, S1, N1z, -, -⟩ := (id pr0)
  refine ogo (S' := s₁.setTop (mkF m 3 #[.val (.ref ba_), .val (.int (2 : Int32))] [(.int (4 : Int32)), (.int (2 : Int32))])) (fun _ kt_ => X0.arraylength hx (by rw [e0]; exact Ar1.1) (State.isArrayOf_alike hZ.alike Ar1.2.1) (g := (mkF m 2 #[.val (.ref ba_), .val (.int (2 : Int32))] [(.ref ba_), (.int (2 : Int32))])) rfl rfl (hb hby d4_2) _ (by rw [len_of S1 N1z]; exact kt_)) ?_
  refine o_isub X0 hx (hb hby d4_3) ?_
  refine o_bipush X0 hx (31 : Int32) (hb hby d4_4) rfl ?_
  refine o_iushr X0 hx (hb hby d4_6) ?_
  refine o_i2b X0 hx (hb hby d4_7) ?_
  refine oend X0 hlk (v := some (.int (1 : Int32))) (fun h => by rw [hret] at h; cases h) (fun fs hr => retN X0 hx (t := .byte) hret (by simp) (hb hby d4_8) hr) (by decide) (by decide) ?_
  show own_Q_codl16_2 Z _ _ _ h0 n0 _ s₁.heap _
  rw [e0]
  exact ⟨rfl, N0, rfl⟩
def own_Q_cmp5_2_0 (Z : State)  (ca_ : Addr) (kc_ : ClassId) (ba_ : Addr) (kb_ : ClassId) (c0_ : Int32) (c1_ : Int32) (h0 : Heap) (n0 : Nat) (v : Option Value) (h : Heap) (L : List Loc) : Prop := (v = some (.int (0 : Int32))) ∧ (Fr n0 L) ∧ (Keep h0 h [ba_])
set_option maxRecDepth 65536 in
set_option maxHeartbeats 40000000 in
theorem rm_cmp5_2_0 (l : Launch) (Z : State) (a0 : Array Value) (hw : ∀ d ∈ tables_1, d.before a0 Z = true) (ws : List Jvm.Cond)  (ca_ : Addr) (kc_ : ClassId) (ba_ : Addr) (kb_ : ClassId) (c0_ : Int32) (c1_ : Int32) (h0 : Heap) (n0 : Nat) (O0 : Old Z n0 h0) (pr0 : Arv Z h0 ca_ kc_ .char (2 : Int32) [(.int c0_), (.int c1_)] (.int 0)) (pr1 : Arv Z h0 ba_ kb_ .byte (2 : Int32) [(.int 0), (.int 0)] (.int 0)) (pr2 : ca_ ≠ ba_) (pr3 : n0 ≤ ba_) (pr4 : (255 : Int32) < c0_) :
    oMet l Z yM1 jdk_52_method_21_code 7 (some .int) ws ({ frames := 0, cells := 0, slots := 0, locals := 0 } : Room) 0 0 #[(.ref ca_), (.int (0 : Int32)), (.ref ba_), (.int (0 : Int32)), (.int (2 : Int32))] h0 (own_Q_cmp5_2_0 Z  ca_ kc_ ba_ kb_ c0_ c1_ h0 n0) := by
  refine oenter own_pn1 #[.val (.ref ca_), .val (.int (0 : Int32)), .val (.ref ba_), .val (.int (0 : Int32)), .val (.int (2 : Int32)), .unset, .unset] (fun m => by first | (simp [entryFrame, mkF, argsToLocals, Value.category]; done) | rfl) ?_
  intro p e s m below meth c s₁ X0 hx hZ hby hml hret hown0 hnm hlk e0
  have hown : s.vm.findClass "java/lang/StringUTF16" = some m.cls := hown0
  have N0 := Fr.nil n0
  refine o_iconst X0 hx (0 : Int32) (hb hby d2_0) rfl ?_
  refine o_istore X0 hx (l' := #[.val (.ref ca_), .val (.int (0 : Int32)), .val (.ref ba_), .val (.int (0 : Int32)), .val (.int (2 : Int32)), .val (.int (0 : Int32)), .unset]) (hb hby d2_1) rfl ?_
  refine o_iload X0 hx (hb hby d2_3) rfl ?_
  refine o_iload X0 hx (hb hby d2_5) rfl ?_
  refine o_icmpNo X0 hx (hb hby d2_7) (tlt (by decide : (0 : Int32) < (2 : Int32))).2.1 ?_
  refine o_aloadN X0 hx (hb hby d2_10) rfl rfl ?_
  refine o_iloadN X0 hx (hb hby d2_11) rfl ?_
  obtain ⟨cl1, Ar1, q1, S1, N1z, H1, G1⟩ := (id pr0)
  have hi1 := inb_of (j := (0 : Int32)) S1 ⟨by decide, by decide⟩
  have ha1 := Has.at (v := (.int c0_)) H1 hi1 rfl
  refine ogo (S' := s₁.setTop (mkF m 13 #[.val (.ref ca_), .val (.int (0 : Int32)), .val (.ref ba_), .val (.int (0 : Int32)), .val (.int (2 : Int32)), .val (.int (0 : Int32)), .unset] [(.int c0_)])) (X0.caload hx (j := (0 : Int32)) (v := (.int c0_)) (by rw [e0]; exact Ar1.1) (State.isArrayOf_alike hZ.alike Ar1.2.1) Ar1.2.2 hi1 ha1 (g := (mkF m 12 #[.val (.ref ca_), .val (.int (0 : Int32)), .val (.ref ba_), .val (.int (0 : Int32)), .val (.int (2 : Int32)), .val (.int (0 : Int32)), .unset] [(.int (0 : Int32)), (.ref ca_)])) rfl rfl (hb hby d2_12)) ?_
  refine o_istore X0 hx (l' := #[.val (.ref ca_), .val (.int (0 : Int32)), .val (.ref ba_), .val (.int (0 : Int32)), .val (.int (2 : Int32)), .val (.int (0 : Int32)), .val (.int c0_)]) (hb hby d2_13) rfl ?_
  refine o_iload X0 hx (hb hby d2_15) rfl ?_
  refine o_sipush X0 hx (255 : Int32) (hb hby d2_17) rfl ?_
  refine o_icmpNo X0 hx (hb hby d2_20) (tlt pr4).2.2.2 ?_
  refine o_iload X0 hx (hb hby d2_23) rfl ?_
  refine oend X0 hlk (v := some (.int (0 : Int32))) (fun h => by rw [hret] at h; cases h) (fun fs hr => retOut X0 hx (t := .int) (i := .ireturn) hret rfl (Or.inl ⟨rfl, Or.inl rfl, _, rfl⟩) (hb hby d2_25) hr) (by decide) (by decide) ?_
  show own_Q_cmp5_2_0 Z _ _ _ _ _ _ h0 n0 _ s₁.heap _
  rw [e0]
  exact ⟨rfl, N0, (Keep.refl h0 [ba_])⟩
def own_Q_nbl_2 (Z : State)   (h0 : Heap) (n0 : Nat) (v : Option Value) (h : Heap) (L : List Loc) : Prop := (v = some (.int (4 : Int32))) ∧ (Fr n0 L) ∧ (h = h0)
set_option maxRecDepth 65536 in
set_option maxHeartbeats 40000000 in
theorem rm_nbl_2 (l : Launch) (Z : State) (a0 : Array Value) (hw : ∀ d ∈ tables_1, d.before a0 Z = true) (ws : List Jvm.Cond)   (h0 : Heap) (n0 : Nat) (O0 : Old Z n0 h0)  :
    oMet l Z yM4 jdk_52_method_3_code 1 (some .int) ws ({ frames := 0, cells := 0, slots := 0, locals := 0 } : Room) 0 0 #[(.int (2 : Int32))] h0 (own_Q_nbl_2 Z   h0 n0) := by
  refine oenter own_pn1 #[.val (.int (2 : Int32))] (fun m => by first | (simp [entryFrame, mkF, argsToLocals, Value.category]; done) | rfl) ?_
  intro p e s m below meth c s₁ X0 hx hZ hby hml hret hown0 hnm hlk e0
  have hown : s.vm.findClass "java/lang/StringUTF16" = some m.cls := hown0
  have N0 := Fr.nil n0
  have w101 := hw _ (List.mem_of_getElem? (i := 101) rfl)
  refine o_iloadN X0 hx (hb hby d5_0) rfl ?_
  refine o_ifYes X0 hx 12 (hb hby d5_1) (flt (by decide : ¬ ((2 : Int32) < (0 : Int32)))).2.1 (by decide) (by decide) ?_
  refine o_iloadN X0 hx (hb hby d5_12) rfl ?_
  refine ogo (S' := s₁.setTop (mkF m 15 #[.val (.int (2 : Int32))] [(.int (1073741823 : Int32)), (.int (2 : Int32))])) (X0.ldcInt hx hown (mvT hZ w101) (g := (mkF m 13 #[.val (.int (2 : Int32))] [(.int (2 : Int32))])) rfl (hb hby d5_13)) ?_
  refine o_icmpYes X0 hx 55 (hb hby d5_15) (tlt (by decide : (2 : Int32) < (1073741823 : Int32))).1 (by decide) (by decide) ?_
  refine o_iloadN X0 hx (hb hby d5_55) rfl ?_
  refine o_iconst X0 hx (1 : Int32) (hb hby d5_56) rfl ?_
  refine o_ishl X0 hx (hb hby d5_57) ?_
  refine oend X0 hlk (v := some (.int (4 : Int32))) (fun h => by rw [hret] at h; cases h) (fun fs hr => retOut X0 hx (t := .int) (i := .ireturn) hret rfl (Or.inl ⟨rfl, Or.inl rfl, _, rfl⟩) (hb hby d5_58) hr) (by decide) (by decide) ?_
  show own_Q_nbl_2 Z  h0 n0 _ s₁.heap _
  rw [e0]
  exact ⟨rfl, N0, rfl⟩
def own_Q_nbf_2 (Z : State)   (h0 : Heap) (n0 : Nat) (v : Option Value) (h : Heap) (L : List Loc) : Prop := ∃ ba_ : Addr, ∃ kb_ : ClassId, (v = some (.ref ba_)) ∧ (Fr n0 L) ∧ (Keep h0 h []) ∧ (h0.size ≤ ba_) ∧ (Arv Z h ba_ kb_ .byte (4 : Int32) [(.int 0), (.int 0), (.int 0), (.int 0)] (.int 0))
set_option maxRecDepth 65536 in
set_option maxHeartbeats 40000000 in
theorem rm_nbf_2 (l : Launch) (Z : State) (a0 : Array Value) (hw : ∀ d ∈ tables_1, d.before a0 Z = true) (ws : List Jvm.Cond)   (h0 : Heap) (n0 : Nat) (O0 : Old Z n0 h0)  :
    oMet l Z yM5 jdk_52_method_2_code 1 (some (.array .byte)) ws ({ frames := 1, cells := 1, slots := 4, locals := 12 } : Room) 1 4 #[(.int (2 : Int32))] h0 (own_Q_nbf_2 Z   h0 n0) := by
  refine oenter own_pn1 #[.val (.int (2 : Int32))] (fun m => by first | (simp [entryFrame, mkF, argsToLocals, Value.category]; done) | rfl) ?_
  intro p e s m below meth c s₁ X0 hx hZ hby hml hret hown0 hnm hlk e0
  have hown : s.vm.findClass "java/lang/StringUTF16" = some m.cls := hown0
  have N0 := Fr.nil n0
  have w20 := hw _ (List.mem_of_getElem? (i := 20) rfl)
  have w62 := hw _ (List.mem_of_getElem? (i := 62) rfl)
  have w98 := hw _ (List.mem_of_getElem? (i := 98) rfl)
  have w99 := hw _ (List.mem_of_getElem? (i := 99) rfl)
  have w100 := hw _ (List.mem_of_getElem? (i := 100) rfl)
  refine o_iloadN X0 hx (hb hby d6_0) rfl ?_
  obtain ⟨_, _, ⟨T1, L1, kc1, n1⟩, -, X1, ⟨Lc1, hQ1, l1, y1, z1⟩, st1⟩ := Jvm.LawKit.callS X0 hx (y := yM4) hown (mvT hZ w98) (mvT hZ w99) (mvT hZ w62) (mvT hZ w100) (by decide) (backOf (W := 0) (rm_nbl_2 l Z a0 hw []   h0 n0 O0 ) hZ w100 w62 (by decide) (by decide)) (g := (mkF m 1 #[.val (.int (2 : Int32))] [(.int (2 : Int32))])) rfl (by rw [hml]; rfl) (argsL := [(.int (2 : Int32))]) (rest := []) (lenOf own_pd1 rfl) rfl (by show 2 * 0 + _ ≤ _; exact Nat.le_of_eq rfl) (hb hby d6_1) (fun _ _ => ⟨rfl, e0, (by decide : 0 + 0 ≤ _), (by decide : 0 + 0 ≤ _)⟩)
  dsimp only [Pt.U, Pt.locs, Pt.cells, Pt.slots] at X1 l1 y1 z1 st1 hQ1
  subst l1 y1 z1
  obtain ⟨rfl, Nq1, e1⟩ := hQ1
  have N1 := Fr.app N0 Nq1
  refine ogo (S' := T1.setTop (mkF m 4 #[.val (.int (2 : Int32))] [(.int (4 : Int32))])) st1 ?_
  obtain ⟨T2, _, k2, X2, rfl, E2, A2, Ex2, st2⟩ := newPE (aty := .byte) X1 hx hZ w20 e1 (g := (mkF m 4 #[.val (.int (2 : Int32))] [(.int (4 : Int32))])) rfl (hb hby d6_4) rfl (by decide) (cap := 4) (by decide) (by decide) (by decide) (by decide) (ad := "[B") rfl
  obtain ⟨b2, g2⟩ : ∃ z, z = h0.size := ⟨_, rfl⟩
  rw [← g2] at A2 Ex2 st2
  have n0_b2 : n0 ≤ b2 := Nat.le_trans (Nat.le_trans (Nat.le_of_eq O0.1.symm) O0.2.1) (Nat.le_trans (Nat.le_refl _) (Nat.le_of_eq g2.symm))
  have V2 : Arv Z T2.heap b2 k2 .byte (4 : Int32) [(.int 0), (.int 0), (.int 0), (.int 0)] (.int 0) := (Arv.new A2 (by decide)).pad (pad_rep [] (.int 0) 4)
  refine ogo (S' := T2.setTop (mkF m 6 #[.val (.int (2 : Int32))] [(.ref b2)])) st2 ?_
  refine oend X2 hlk (v := some (.ref b2)) (fun h => by rw [hret] at h; cases h) (fun fs hr => retOut X2 hx (t := (.array .byte)) (i := .areturn) hret rfl (Or.inr (Or.inr (Or.inr (Or.inr ⟨rfl, rfl, rfl⟩)))) (hb hby d6_6) hr) (by decide) (by decide) ?_
  show own_Q_nbf_2 Z  h0 n0 _ T2.heap _
  exact ⟨b2, k2, rfl, N1, ((Keep.refl h0 []).ext E2), (Nat.le_trans (Nat.le_refl _) (Nat.le_of_eq g2.symm)), V2⟩
def own_Q_putch_2_0 (Z : State) (z_CS : Int32) (v_FMT : Value) (ba_ : Addr) (kb_ : ClassId) (c_ : Int32) (e0_ : Int32) (e1_ : Int32) (e2_ : Int32) (e3_ : Int32) (h0 : Heap) (n0 : Nat) (v : Option Value) (h : Heap) (L : List Loc) : Prop := (v = none) ∧ (Fr n0 L) ∧ (Keep h0 h [ba_]) ∧ (Arv Z h ba_ kb_ .byte (4 : Int32) [(.int (c_ >>> ((0 : Int32) &&& 31)).toInt8.toInt32), (.int (c_ >>> ((8 : Int32) &&& 31)).toInt8.toInt32), (.int e2_), (.int e3_)] (.int 0))
set_option maxRecDepth 65536 in
set_option maxHeartbeats 40000000 in
theorem rm_putch_2_0 (l : Launch) (Z : State) (a0 : Array Value) (hw : ∀ d ∈ tables_1, d.before a0 Z = true) (ws : List Jvm.Cond) (z_CS : Int32) (v_FMT : Value) (ba_ : Addr) (kb_ : ClassId) (c_ : Int32) (e0_ : Int32) (e1_ : Int32) (e2_ : Int32) (e3_ : Int32) (h0 : Heap) (n0 : Nat) (SB : own_Start Z z_CS v_FMT) (O0 : Old Z n0 h0) (pr0 : Arv Z h0 ba_ kb_ .byte (4 : Int32) [(.int e0_), (.int e1_), (.int e2_), (.int e3_)] (.int 0)) (pr1 : n0 ≤ ba_) :
    oMet l Z yM6 jdk_52_method_4_code 3 none ws ({ frames := 0, cells := 0, slots := 0, locals := 0 } : Room) 0 0 #[(.ref ba_), (.int (0 : Int32)), (.int c_)] h0 (own_Q_putch_2_0 Z z_CS v_FMT ba_ kb_ c_ e0_ e1_ e2_ e3_ h0 n0) := by
  refine oenter own_pn1 #[.val (.ref ba_), .val (.int (0 : Int32)), .val (.int c_)] (fun m => by first | (simp [entryFrame, mkF, argsToLocals, Value.category]; done) | rfl) ?_
  intro p e s m below meth c s₁ X0 hx hZ hby hml hret hown0 hnm hlk e0
  have hown : s.vm.findClass "java/lang/StringUTF16" = some m.cls := hown0
  have N0 := Fr.nil n0
  obtain ⟨S_CS, H_CS, S__assertionsDisabled, S_HI_BYTE_SHIFT, S_LO_BYTE_SHIFT, S_FMT, R_FMT⟩ := (id SB)
  have w105 := hw _ (List.mem_of_getElem? (i := 105) rfl)
  have w106 := hw _ (List.mem_of_getElem? (i := 106) rfl)
  have w107 := hw _ (List.mem_of_getElem? (i := 107) rfl)
  obtain ⟨T1, X1, e1, st1⟩ := getS2 X0 hx hZ hown (host := "") (Or.inl w105) Via.refl e0 (Sta.ext O0.2 S__assertionsDisabled) (g := (mkF m 0 #[.val (.ref ba_), .val (.int (0 : Int32)), .val (.int c_)] [])) rfl (hb hby d7_0)
  refine ogo (S' := T1.setTop (mkF m 3 #[.val (.ref ba_), .val (.int (0 : Int32)), .val (.int c_)] [(.int (1 : Int32))])) st1 ?_
  refine o_ifYes X1 hx 28 (hb hby d7_3) (feq (by decide : ¬ ((1 : Int32) = (0 : Int32)))).2 (by decide) (by decide) ?_
  refine o_iloadN X1 hx (hb hby d7_28) rfl ?_
  refine o_iconst X1 hx (1 : Int32) (hb hby d7_29) rfl ?_
  refine o_ishl X1 hx (hb hby d7_30) ?_
  refine o_istoreN X1 hx (l' := #[.val (.ref ba_), .val (.int (0 : Int32)), .val (.int c_)]) (hb hby d7_31) rfl ?_
  refine o_aloadN X1 hx (hb hby d7_32) rfl rfl ?_
  refine o_iloadN X1 hx (hb hby d7_33) rfl ?_
  refine o_iinc X1 hx (l' := #[.val (.ref ba_), .val (.int (1 : Int32)), .val (.int c_)]) (hb hby d7_34) rfl rfl ?_
  refine o_iloadN X1 hx (hb hby d7_37) rfl ?_
  obtain ⟨T2, X2, e2, st2⟩ := getS2 X1 hx hZ hown (host := "") (Or.inl w106) Via.refl e1 (Sta.ext O0.2 S_HI_BYTE_SHIFT) (g := (mkF m 38 #[.val (.ref ba_), .val (.int (1 : Int32)), .val (.int c_)] [(.int c_), (.int (0 : Int32)), (.ref ba_)])) rfl (hb hby d7_38)
  refine ogo (S' := T2.setTop (mkF m 41 #[.val (.ref ba_), .val (.int (1 : Int32)), .val (.int c_)] [(.int (0 : Int32)), (.int c_), (.int (0 : Int32)), (.ref ba_)])) st2 ?_
  refine o_ishr X2 hx (hb hby d7_41) ?_
  refine o_i2b X2 hx (hb hby d7_42) ?_
  obtain ⟨cl3, Ar3, q3, S3, N3z, H3, G3⟩ := (id pr0)
  obtain ⟨T3, _, X3, rfl, W3, st3⟩ := stB X2 hx hZ e2 Ar3 (j := (0 : Int32)) (inb_of S3 ⟨by decide, by decide⟩) (g := (mkF m 43 #[.val (.ref ba_), .val (.int (1 : Int32)), .val (.int c_)] [(.int (c_ >>> ((0 : Int32) &&& 31)).toInt8.toInt32), (.int (0 : Int32)), (.ref ba_)])) rfl rfl (hb hby d7_43)
  rw [own_narb] at W3
  have V3 : Arv Z T3.heap ba_ kb_ .byte (4 : Int32) [(.int (c_ >>> ((0 : Int32) &&& 31)).toInt8.toInt32), (.int e1_), (.int e2_), (.int e3_)] (.int 0) := Arv.set Ar3 q3 S3 N3z H3 G3 (fits_nar_byte _) W3 0 rfl (Nat.le_of_ble_eq_true rfl)
  have N3 := Fr.snoc X3 N0 pr1
  refine ogo (S' := T3.setTop (mkF m 44 #[.val (.ref ba_), .val (.int (1 : Int32)), .val (.int c_)] [])) st3 ?_
  refine o_aloadN X3 hx (hb hby d7_44) rfl rfl ?_
  refine o_iloadN X3 hx (hb hby d7_45) rfl ?_
  refine o_iloadN X3 hx (hb hby d7_46) rfl ?_
  obtain ⟨T4, X4, e4, st4⟩ := getS2 X3 hx hZ hown (host := "") (Or.inl w107) Via.refl rfl (Sta.ext (O0.wr W3 pr1).2 S_LO_BYTE_SHIFT) (g := (mkF m 47 #[.val (.ref ba_), .val (.int (1 : Int32)), .val (.int c_)] [(.int c_), (.int (1 : Int32)), (.ref ba_)])) rfl (hb hby d7_47)
  refine ogo (S' := T4.setTop (mkF m 50 #[.val (.ref ba_), .val (.int (1 : Int32)), .val (.int c_)] [(.int (8 : Int32)), (.int c_), (.int (1 : Int32)), (.ref ba_)])) st4 ?_
  refine o_ishr X4 hx (hb hby d7_50) ?_
  refine o_i2b X4 hx (hb hby d7_51) ?_
  obtain ⟨cl5, Ar5, q5, S5, N5z, H5, G5⟩ := (id V3)
  obtain ⟨T5, _, X5, rfl, W5, st5⟩ := stB X4 hx hZ e4 Ar5 (j := (1 : Int32)) (inb_of S5 ⟨by decide, by decide⟩) (g := (mkF m 52 #[.val (.ref ba_), .val (.int (1 : Int32)), .val (.int c_)] [(.int (c_ >>> ((8 : Int32) &&& 31)).toInt8.toInt32), (.int (1 : Int32)), (.ref ba_)])) rfl rfl (hb hby d7_52)
  rw [own_narb] at W5
  have V5 : Arv Z T5.heap ba_ kb_ .byte (4 : Int32) [(.int (c_ >>> ((0 : Int32) &&& 31)).toInt8.toInt32), (.int (c_ >>> ((8 : Int32) &&& 31)).toInt8.toInt32), (.int e2_), (.int e3_)] (.int 0) := Arv.set Ar5 q5 S5 N5z H5 G5 (fits_nar_byte _) W5 1 rfl (Nat.le_of_ble_eq_true rfl)
  have N5 := Fr.snoc X5 N3 pr1
  refine ogo (S' := T5.setTop (mkF m 53 #[.val (.ref ba_), .val (.int (1 : Int32)), .val (.int c_)] [])) st5 ?_
  refine oend X5 hlk (v := none) (fun _ => rfl) (fun fs hr => X5.returnOut hx hret (hb hby d7_53) hr) (by decide) (by decide) ?_
  show own_Q_putch_2_0 Z _ _ _ _ _ _ _ _ _ h0 n0 _ T5.heap _
  exact ⟨rfl, N5, (((Keep.refl h0 [ba_]).wr W3 (Or.inl (List.mem_of_getElem? (i := 0) rfl))).wr W5 (Or.inl (List.mem_of_getElem? (i := 0) rfl))), V5⟩
def own_Q_putch_2_1 (Z : State) (z_CS : Int32) (v_FMT : Value) (ba_ : Addr) (kb_ : ClassId) (c_ : Int32) (e0_ : Int32) (e1_ : Int32) (e2_ : Int32) (e3_ : Int32) (h0 : Heap) (n0 : Nat) (v : Option Value) (h : Heap) (L : List Loc) : Prop := (v = none) ∧ (Fr n0 L) ∧ (Keep h0 h [ba_]) ∧ (Arv Z h ba_ kb_ .byte (4 : Int32) [(.int e0_), (.int e1_), (.int (c_ >>> ((0 : Int32) &&& 31)).toInt8.toInt32), (.int (c_ >>> ((8 : Int32) &&& 31)).toInt8.toInt32)] (.int 0))
set_option maxRecDepth 65536 in
set_option maxHeartbeats 40000000 in
theorem rm_putch_2_1 (l : Launch) (Z : State) (a0 : Array Value) (hw : ∀ d ∈ tables_1, d.before a0 Z = true) (ws : List Jvm.Cond) (z_CS : Int32) (v_FMT : Value) (ba_ : Addr) (kb_ : ClassId) (c_ : Int32) (e0_ : Int32) (e1_ : Int32) (e2_ : Int32) (e3_ : Int32) (h0 : Heap) (n0 : Nat) (SB : own_Start Z z_CS v_FMT) (O0 : Old Z n0 h0) (pr0 : Arv Z h0 ba_ kb_ .byte (4 : Int32) [(.int e0_), (.int e1_), (.int e2_), (.int e3_)] (.int 0)) (pr1 : n0 ≤ ba_) :
    oMet l Z yM6 jdk_52_method_4_code 3 none ws ({ frames := 0, cells := 0, slots := 0, locals := 0 } : Room) 0 0 #[(.ref ba_), (.int (1 : Int32)), (.int c_)] h0 (own_Q_putch_2_1 Z z_CS v_FMT ba_ kb_ c_ e0_ e1_ e2_ e3_ h0 n0) := by
  refine oenter own_pn1 #[.val (.ref ba_), .val (.int (1 : Int32)), .val (.int c_)] (fun m => by first | (simp [entryFrame, mkF, argsToLocals, Value.category]; done) | rfl) ?_
  intro p e s m below meth c s₁ X0 hx hZ hby hml hret hown0 hnm hlk e0
  have hown : s.vm.findClass "java/lang/StringUTF16" = some m.cls := hown0
  have N0 := Fr.nil n0
  obtain ⟨S_CS, H_CS, S__assertionsDisabled, S_HI_BYTE_SHIFT, S_LO_BYTE_SHIFT, S_FMT, R_FMT⟩ := (id SB)
  have w105 := hw _ (List.mem_of_getElem? (i := 105) rfl)
  have w106 := hw _ (List.mem_of_getElem? (i := 106) rfl)
  have w107 := hw _ (List.mem_of_getElem? (i := 107) rfl)
  obtain ⟨T1, X1, e1, st1⟩ := getS2 X0 hx hZ hown (host := "") (Or.inl w105) Via.refl e0 (Sta.ext O0.2 S__assertionsDisabled) (g := (mkF m 0 #[.val (.ref ba_), .val (.int (1 : Int32)), .val (.int c_)] [])) rfl (hb hby d7_0)
  refine ogo (S' := T1.setTop (mkF m 3 #[.val (.ref ba_), .val (.int (1 : Int32)), .val (.int c_)] [(.int (1 : Int32))])) st1 ?_
  refine o_ifYes X1 hx 28 (hb hby d7_3) (feq (by decide : ¬ ((1 : Int32) = (0 : Int32)))).2 (by decide) (by decide) ?_
  refine o_iloadN X1 hx (hb hby d7_28) rfl ?_
  refine o_iconst X1 hx (1 : Int32) (hb hby d7_29) rfl ?_
  refine o_ishl X1 hx (hb hby d7_30) ?_
  refine o_istoreN X1 hx (l' := #[.val (.ref ba_), .val (.int (2 : Int32)), .val (.int c_)]) (hb hby d7_31) rfl ?_
  refine o_aloadN X1 hx (hb hby d7_32) rfl rfl ?_
  refine o_iloadN X1 hx (hb hby d7_33) rfl ?_
  refine o_iinc X1 hx (l' := #[.val (.ref ba_), .val (.int (3 : Int32)), .val (.int c_)]) (hb hby d7_34) rfl rfl ?_
  refine o_iloadN X1 hx (hb hby d7_37) rfl ?_
  obtain ⟨T2, X2, e2, st2⟩ := getS2 X1 hx hZ hown (host := "") (Or.inl w106) Via.refl e1 (Sta.ext O0.2 S_HI_BYTE_SHIFT) (g := (mkF m 38 #[.val (.ref ba_), .val (.int (3 : Int32)), .val (.int c_)] [(.int c_), (.int (2 : Int32)), (.ref ba_)])) rfl (hb hby d7_38)
  refine ogo (S' := T2.setTop (mkF m 41 #[.val (.ref ba_), .val (.int (3 : Int32)), .val (.int c_)] [(.int (0 : Int32)), (.int c_), (.int (2 : Int32)), (.ref ba_)])) st2 ?_
  refine o_ishr X2 hx (hb hby d7_41) ?_
  refine o_i2b X2 hx (hb hby d7_42) ?_
  obtain ⟨cl3, Ar3, q3, S3, N3z, H3, G3⟩ := (id pr0)
  obtain ⟨T3, _, X3, rfl, W3, st3⟩ := stB X2 hx hZ e2 Ar3 (j := (2 : Int32)) (inb_of S3 ⟨by decide, by decide⟩) (g := (mkF m 43 #[.val (.ref ba_), .val (.int (3 : Int32)), .val (.int c_)] [(.int (c_ >>> ((0 : Int32) &&& 31)).toInt8.toInt32), (.int (2 : Int32)), (.ref ba_)])) rfl rfl (hb hby d7_43)
  rw [own_narb] at W3
  have V3 : Arv Z T3.heap ba_ kb_ .byte (4 : Int32) [(.int e0_), (.int e1_), (.int (c_ >>> ((0 : Int32) &&& 31)).toInt8.toInt32), (.int e3_)] (.int 0) := Arv.set Ar3 q3 S3 N3z H3 G3 (fits_nar_byte _) W3 2 rfl (Nat.le_of_ble_eq_true rfl)
  have N3 := Fr.snoc X3 N0 pr1
  refine ogo (S' := T3.setTop (mkF m 44 #[.val (.ref ba_), .val (.int (3 : Int32)), .val (.int c_)] [])) st3 ?_
  refine o_aloadN X3 hx (hb hby d7_44) rfl rfl ?_
  refine o_iloadN X3 hx (hb hby d7_45) rfl ?_
  refine o_iloadN X3 hx (hb hby d7_46) rfl ?_
  obtain ⟨T4, X4, e4, st4⟩ := getS2 X3 hx hZ hown (host := "") (Or.inl w107) Via.refl rfl (Sta.ext (O0.wr W3 pr1).2 S_LO_BYTE_SHIFT) (g := (mkF m 47 #[.val (.ref ba_), .val (.int (3 : Int32)), .val (.int c_)] [(.int c_), (.int (3 : Int32)), (.ref ba_)])) rfl (hb hby d7_47)
  refine ogo (S' := T4.setTop (mkF m 50 #[.val (.ref ba_), .val (.int (3 : Int32)), .val (.int c_)] [(.int (8 : Int32)), (.int c_), (.int (3 : Int32)), (.ref ba_)])) st4 ?_
  refine o_ishr X4 hx (hb hby d7_50) ?_
  refine o_i2b X4 hx (hb hby d7_51) ?_
  obtain ⟨cl5, Ar5, q5, S5, N5z, H5, G5⟩ := (id V3)
  obtain ⟨T5, _, X5, rfl, W5, st5⟩ := stB X4 hx hZ e4 Ar5 (j := (3 : Int32)) (inb_of S5 ⟨by decide, by decide⟩) (g := (mkF m 52 #[.val (.ref ba_), .val (.int (3 : Int32)), .val (.int c_)] [(.int (c_ >>> ((8 : Int32) &&& 31)).toInt8.toInt32), (.int (3 : Int32)), (.ref ba_)])) rfl rfl (hb hby d7_52)
  rw [own_narb] at W5
  have V5 : Arv Z T5.heap ba_ kb_ .byte (4 : Int32) [(.int e0_), (.int e1_), (.int (c_ >>> ((0 : Int32) &&& 31)).toInt8.toInt32), (.int (c_ >>> ((8 : Int32) &&& 31)).toInt8.toInt32)] (.int 0) := Arv.set Ar5 q5 S5 N5z H5 G5 (fits_nar_byte _) W5 3 rfl (Nat.le_of_ble_eq_true rfl)
  have N5 := Fr.snoc X5 N3 pr1
  refine ogo (S' := T5.setTop (mkF m 53 #[.val (.ref ba_), .val (.int (3 : Int32)), .val (.int c_)] [])) st5 ?_
  refine oend X5 hlk (v := none) (fun _ => rfl) (fun fs hr => X5.returnOut hx hret (hb hby d7_53) hr) (by decide) (by decide) ?_
  show own_Q_putch_2_1 Z _ _ _ _ _ _ _ _ _ h0 n0 _ T5.heap _
  exact ⟨rfl, N5, (((Keep.refl h0 [ba_]).wr W3 (Or.inl (List.mem_of_getElem? (i := 0) rfl))).wr W5 (Or.inl (List.mem_of_getElem? (i := 0) rfl))), V5⟩
def own_Q_tob_2 (Z : State) (z_CS : Int32) (v_FMT : Value) (ca_ : Addr) (kc_ : ClassId) (c0_ : Int32) (c1_ : Int32) (h0 : Heap) (n0 : Nat) (v : Option Value) (h : Heap) (L : List Loc) : Prop := ∃ ba_ : Addr, ∃ kb_ : ClassId, (v = some (.ref ba_)) ∧ (Fr n0 L) ∧ (Keep h0 h []) ∧ (h0.size ≤ ba_) ∧ (Arv Z h ba_ kb_ .byte (4 : Int32) [(.int (c0_ >>> ((0 : Int32) &&& 31)).toInt8.toInt32), (.int (c0_ >>> ((8 : Int32) &&& 31)).toInt8.toInt32), (.int (c1_ >>> ((0 : Int32) &&& 31)).toInt8.toInt32), (.int (c1_ >>> ((8 : Int32) &&& 31)).toInt8.toInt32)] (.int 0))
set_option maxRecDepth 65536 in
set_option maxHeartbeats 40000000 in
theorem rm_tob_2 (l : Launch) (Z : State) (a0 : Array Value) (hw : ∀ d ∈ tables_1, d.before a0 Z = true) (ws : List Jvm.Cond) (z_CS : Int32) (v_FMT : Value) (ca_ : Addr) (kc_ : ClassId) (c0_ : Int32) (c1_ : Int32) (h0 : Heap) (n0 : Nat) (SB : own_Start Z z_CS v_FMT) (O0 : Old Z n0 h0) (pr0 : Arv Z h0 ca_ kc_ .char (2 : Int32) [(.int c0_), (.int c1_)] (.int 0)) :
    oMet l Z yM7 jdk_52_method_14_code 5 (some (.array .byte)) ws ({ frames := 2, cells := 1, slots := 4, locals := 24 } : Room) 1 4 #[(.ref ca_), (.int (0 : Int32)), (.int (2 : Int32))] h0 (own_Q_tob_2 Z z_CS v_FMT ca_ kc_ c0_ c1_ h0 n0) := by
  refine oenter own_pn1 #[.val (.ref ca_), .val (.int (0 : Int32)), .val (.int (2 : Int32)), .unset, .unset] (fun m => by first | (simp [entryFrame, mkF, argsToLocals, Value.category]; done) | rfl) ?_
  intro p e s m below meth c s₁ X0 hx hZ hby hml hret hown0 hnm hlk e0
  have hown : s.vm.findClass "java/lang/StringUTF16" = some m.cls := hown0
  have N0 := Fr.nil n0
  obtain ⟨S_CS, H_CS, S__assertionsDisabled, S_HI_BYTE_SHIFT, S_LO_BYTE_SHIFT, S_FMT, R_FMT⟩ := (id SB)
  have w62 := hw _ (List.mem_of_getElem? (i := 62) rfl)
  have w95 := hw _ (List.mem_of_getElem? (i := 95) rfl)
  have w96 := hw _ (List.mem_of_getElem? (i := 96) rfl)
  have w97 := hw _ (List.mem_of_getElem? (i := 97) rfl)
  have w102 := hw _ (List.mem_of_getElem? (i := 102) rfl)
  have w103 := hw _ (List.mem_of_getElem? (i := 103) rfl)
  have w104 := hw _ (List.mem_of_getElem? (i := 104) rfl)
  refine o_iloadN X0 hx (hb hby d8_0) rfl ?_
  obtain ⟨_, _, ⟨T1, L1, kc1, n1⟩, -, X1, ⟨Lc1, hQ1, l1, y1, z1⟩, st1⟩ := Jvm.LawKit.callS X0 hx (y := yM5) hown (mvT hZ w95) (mvT hZ w96) (mvT hZ w62) (mvT hZ w97) (by decide) (backOf (W := 0) (rm_nbf_2 l Z a0 hw []   h0 n0 O0 ) hZ w97 w62 (by decide) (by decide)) (g := (mkF m 1 #[.val (.ref ca_), .val (.int (0 : Int32)), .val (.int (2 : Int32)), .unset, .unset] [(.int (2 : Int32))])) rfl (by rw [hml]; rfl) (argsL := [(.int (2 : Int32))]) (rest := []) (lenOf own_pd2 rfl) rfl (by show 2 * 0 + _ ≤ _; exact Nat.le_of_eq rfl) (hb hby d8_1) (fun _ _ => ⟨rfl, e0, (by decide : 0 + 1 ≤ _), (by decide : 0 + 4 ≤ _)⟩)
  dsimp only [Pt.U, Pt.locs, Pt.cells, Pt.slots] at X1 l1 y1 z1 st1 hQ1
  subst l1 y1 z1
  obtain ⟨ba_1, kb_1, rfl, Nq1, K1, p1_0, p1_1⟩ := hQ1
  have N1 := Fr.app N0 Nq1
  have n0_ba_1 : n0 ≤ ba_1 := Nat.le_trans (Nat.le_trans (Nat.le_of_eq O0.1.symm) O0.2.1) (Nat.le_trans (Nat.le_refl _) p1_0)
  refine ogo (S' := T1.setTop (mkF m 4 #[.val (.ref ca_), .val (.int (0 : Int32)), .val (.int (2 : Int32)), .unset, .unset] [(.ref ba_1)])) st1 ?_
  refine o_astoreN X1 hx (l' := #[.val (.ref ca_), .val (.int (0 : Int32)), .val (.int (2 : Int32)), .val (.ref ba_1), .unset]) (hb hby d8_4) rfl rfl ?_
  refine o_iconst X1 hx (0 : Int32) (hb hby d8_5) rfl ?_
  refine o_istore X1 hx (l' := #[.val (.ref ca_), .val (.int (0 : Int32)), .val (.int (2 : Int32)), .val (.ref ba_1), .val (.int (0 : Int32))]) (hb hby d8_6) rfl ?_
  refine o_iload X1 hx (hb hby d8_8) rfl ?_
  refine o_iloadN X1 hx (hb hby d8_10) rfl ?_
  refine o_icmpNo X1 hx (hb hby d8_11) (tlt (by decide : (0 : Int32) < (2 : Int32))).2.1 ?_
  refine o_aloadN X1 hx (hb hby d8_14) rfl rfl ?_
  refine o_iload X1 hx (hb hby d8_15) rfl ?_
  refine o_aloadN X1 hx (hb hby d8_17) rfl rfl ?_
  refine o_iloadN X1 hx (hb hby d8_18) rfl ?_
  obtain ⟨cl2, Ar2, q2, S2, N2z, H2, G2⟩ := (id (pr0.keep K1 nin0))
  have hi2 := inb_of (j := (0 : Int32)) S2 ⟨by decide, by decide⟩
  have ha2 := Has.at (v := (.int c0_)) H2 hi2 rfl
  refine ogo (S' := T1.setTop (mkF m 20 #[.val (.ref ca_), .val (.int (0 : Int32)), .val (.int (2 : Int32)), .val (.ref ba_1), .val (.int (0 : Int32))] [(.int c0_), (.int (0 : Int32)), (.ref ba_1)])) (X1.caload hx (j := (0 : Int32)) (v := (.int c0_)) Ar2.1 (State.isArrayOf_alike hZ.alike Ar2.2.1) Ar2.2.2 hi2 ha2 (g := (mkF m 19 #[.val (.ref ca_), .val (.int (0 : Int32)), .val (.int (2 : Int32)), .val (.ref ba_1), .val (.int (0 : Int32))] [(.int (0 : Int32)), (.ref ca_), (.int (0 : Int32)), (.ref ba_1)])) rfl rfl (hb hby d8_19)) ?_
  obtain ⟨_, _, ⟨T3, L3, kc3, n3⟩, -, X3, ⟨Lc3, hQ3, l3, y3, z3⟩, st3⟩ := Jvm.LawKit.callS X1 hx (y := yM6) hown (mvT hZ w102) (mvT hZ w103) (mvT hZ w62) (mvT hZ w104) (by decide) (backOf (W := 0) (rm_putch_2_0 l Z a0 hw [] z_CS v_FMT ba_1 kb_1 c0_ 0 0 0 0 T1.heap n0 SB (O0.keep K1 all0) p1_1 n0_ba_1) hZ w104 w62 (by decide) (by decide)) (g := (mkF m 20 #[.val (.ref ca_), .val (.int (0 : Int32)), .val (.int (2 : Int32)), .val (.ref ba_1), .val (.int (0 : Int32))] [(.int c0_), (.int (0 : Int32)), (.ref ba_1)])) rfl (by rw [hml]; rfl) (argsL := [(.ref ba_1), (.int (0 : Int32)), (.int c0_)]) (rest := []) (lenOf own_pd3 rfl) rfl (by show 2 * 0 + _ ≤ _; exact Nat.le_of_eq rfl) (hb hby d8_20) (fun _ _ => ⟨rfl, rfl, (by decide : 1 + 0 ≤ _), (by decide : 4 + 0 ≤ _)⟩)
  dsimp only [Pt.U, Pt.locs, Pt.cells, Pt.slots] at X3 l3 y3 z3 st3 hQ3
  subst l3 y3 z3
  obtain ⟨rfl, Nq3, K3, p3_0⟩ := hQ3
  have N3 := Fr.app N1 Nq3
  refine ogo (S' := T3.setTop (mkF m 23 #[.val (.ref ca_), .val (.int (0 : Int32)), .val (.int (2 : Int32)), .val (.ref ba_1), .val (.int (0 : Int32))] [])) st3 ?_
  refine o_iinc X3 hx (l' := #[.val (.ref ca_), .val (.int (1 : Int32)), .val (.int (2 : Int32)), .val (.ref ba_1), .val (.int (0 : Int32))]) (hb hby d8_23) rfl rfl ?_
  refine o_iinc X3 hx (l' := #[.val (.ref ca_), .val (.int (1 : Int32)), .val (.int (2 : Int32)), .val (.ref ba_1), .val (.int (1 : Int32))]) (hb hby d8_26) rfl rfl ?_
  refine o_goto X3 hx 8 (hb hby d8_29) (by decide) (by decide) ?_
  refine o_iload X3 hx (hb hby d8_8) rfl ?_
  refine o_iloadN X3 hx (hb hby d8_10) rfl ?_
  refine o_icmpNo X3 hx (hb hby d8_11) (tlt (by decide : (1 : Int32) < (2 : Int32))).2.1 ?_
  refine o_aloadN X3 hx (hb hby d8_14) rfl rfl ?_
  refine o_iload X3 hx (hb hby d8_15) rfl ?_
  refine o_aloadN X3 hx (hb hby d8_17) rfl rfl ?_
  refine o_iloadN X3 hx (hb hby d8_18) rfl ?_
  have c4 := ((pr0.keep K1 nin0).keep K3 (ninS (Nat.ne_of_lt (Nat.lt_of_lt_of_le (Nat.lt_of_lt_of_le pr0.lt (Nat.le_refl _)) p1_0)) nin0))
  obtain ⟨cl5, Ar5, q5, S5, N5z, H5, G5⟩ := (id c4)
  have hi5 := inb_of (j := (1 : Int32)) S5 ⟨by decide, by decide⟩
  have ha5 := Has.at (v := (.int c1_)) H5 hi5 rfl
  refine ogo (S' := T3.setTop (mkF m 20 #[.val (.ref ca_), .val (.int (1 : Int32)), .val (.int (2 : Int32)), .val (.ref ba_1), .val (.int (1 : Int32))] [(.int c1_), (.int (1 : Int32)), (.ref ba_1)])) (X3.caload hx (j := (1 : Int32)) (v := (.int c1_)) Ar5.1 (State.isArrayOf_alike hZ.alike Ar5.2.1) Ar5.2.2 hi5 ha5 (g := (mkF m 19 #[.val (.ref ca_), .val (.int (1 : Int32)), .val (.int (2 : Int32)), .val (.ref ba_1), .val (.int (1 : Int32))] [(.int (1 : Int32)), (.ref ca_), (.int (1 : Int32)), (.ref ba_1)])) rfl rfl (hb hby d8_19)) ?_
  obtain ⟨_, _, ⟨T6, L6, kc6, n6⟩, -, X6, ⟨Lc6, hQ6, l6, y6, z6⟩, st6⟩ := Jvm.LawKit.callS X3 hx (y := yM6) hown (mvT hZ w102) (mvT hZ w103) (mvT hZ w62) (mvT hZ w104) (by decide) (backOf (W := 0) (rm_putch_2_1 l Z a0 hw [] z_CS v_FMT ba_1 kb_1 c1_ ((c0_ >>> ((0 : Int32) &&& 31)).toInt8.toInt32) ((c0_ >>> ((8 : Int32) &&& 31)).toInt8.toInt32) 0 0 T3.heap n0 SB ((O0.keep K1 all0).keep K3 (allS n0_ba_1 all0)) p3_0 n0_ba_1) hZ w104 w62 (by decide) (by decide)) (g := (mkF m 20 #[.val (.ref ca_), .val (.int (1 : Int32)), .val (.int (2 : Int32)), .val (.ref ba_1), .val (.int (1 : Int32))] [(.int c1_), (.int (1 : Int32)), (.ref ba_1)])) rfl (by rw [hml]; rfl) (argsL := [(.ref ba_1), (.int (1 : Int32)), (.int c1_)]) (rest := []) (lenOf own_pd3 rfl) rfl (by show 2 * 0 + _ ≤ _; exact Nat.le_of_eq rfl) (hb hby d8_20) (fun _ _ => ⟨rfl, rfl, (by decide : 1 + 0 ≤ _), (by decide : 4 + 0 ≤ _)⟩)
  dsimp only [Pt.U, Pt.locs, Pt.cells, Pt.slots] at X6 l6 y6 z6 st6 hQ6
  subst l6 y6 z6
  obtain ⟨rfl, Nq6, K6, p6_0⟩ := hQ6
  have N6 := Fr.app N3 Nq6
  refine ogo (S' := T6.setTop (mkF m 23 #[.val (.ref ca_), .val (.int (1 : Int32)), .val (.int (2 : Int32)), .val (.ref ba_1), .val (.int (1 : Int32))] [])) st6 ?_
  refine o_iinc X6 hx (l' := #[.val (.ref ca_), .val (.int (2 : Int32)), .val (.int (2 : Int32)), .val (.ref ba_1), .val (.int (1 : Int32))]) (hb hby d8_23) rfl rfl ?_
  refine o_iinc X6 hx (l' := #[.val (.ref ca_), .val (.int (2 : Int32)), .val (.int (2 : Int32)), .val (.ref ba_1), .val (.int (2 : Int32))]) (hb hby d8_26) rfl rfl ?_
  refine o_goto X6 hx 8 (hb hby d8_29) (by decide) (by decide) ?_
  refine o_iload X6 hx (hb hby d8_8) rfl ?_
  refine o_iloadN X6 hx (hb hby d8_10) rfl ?_
  refine o_icmpYes X6 hx 32 (hb hby d8_11) (flt (by decide : ¬ ((2 : Int32) < (2 : Int32)))).2.1 (by decide) (by decide) ?_
  refine o_aloadN X6 hx (hb hby d8_32) rfl rfl ?_
  refine oend X6 hlk (v := some (.ref ba_1)) (fun h => by rw [hret] at h; cases h) (fun fs hr => retOut X6 hx (t := (.array .byte)) (i := .areturn) hret rfl (Or.inr (Or.inr (Or.inr (Or.inr ⟨rfl, rfl, rfl⟩)))) (hb hby d8_33) hr) (by decide) (by decide) ?_
  show own_Q_tob_2 Z _ _ _ _ _ _ h0 n0 _ T6.heap _
  exact ⟨ba_1, kb_1, rfl, N6, ((((Keep.refl h0 []).trans K1 all0).trans K3 (allS (Or.inr (Nat.le_trans (Nat.le_refl _) p1_0)) all0)).trans K6 (allS (Or.inr (Nat.le_trans (Nat.le_refl _) p1_0)) all0)), (Nat.le_trans (Nat.le_refl _) p1_0), p6_0⟩
def own_Q_getch_2_0 (Z : State) (z_CS : Int32) (v_FMT : Value) (ba_ : Addr) (kb_ : ClassId) (c0_ : Int32) (c1_ : Int32) (h0 : Heap) (n0 : Nat) (v : Option Value) (h : Heap) (L : List Loc) : Prop := (v = some (.int c0_)) ∧ (Fr n0 L) ∧ (h = h0)
set_option maxRecDepth 65536 in
set_option maxHeartbeats 40000000 in
theorem rm_getch_2_0 (l : Launch) (Z : State) (a0 : Array Value) (hw : ∀ d ∈ tables_1, d.before a0 Z = true) (ws : List Jvm.Cond) (z_CS : Int32) (v_FMT : Value) (ba_ : Addr) (kb_ : ClassId) (c0_ : Int32) (c1_ : Int32) (h0 : Heap) (n0 : Nat) (SB : own_Start Z z_CS v_FMT) (O0 : Old Z n0 h0) (pr0 : Arv Z h0 ba_ kb_ .byte (4 : Int32) [(.int (c0_ >>> ((0 : Int32) &&& 31)).toInt8.toInt32), (.int (c0_ >>> ((8 : Int32) &&& 31)).toInt8.toInt32), (.int (c1_ >>> ((0 : Int32) &&& 31)).toInt8.toInt32), (.int (c1_ >>> ((8 : Int32) &&& 31)).toInt8.toInt32)] (.int 0)) (pr1 : own_c16 c0_) :
    oMet l Z yM8 jdk_52_method_5_code 2 (some .char) ws ({ frames := 0, cells := 0, slots := 0, locals := 0 } : Room) 0 0 #[(.ref ba_), (.int (0 : Int32))] h0 (own_Q_getch_2_0 Z z_CS v_FMT ba_ kb_ c0_ c1_ h0 n0) := by
  refine oenter own_pn1 #[.val (.ref ba_), .val (.int (0 : Int32))] (fun m => by first | (simp [entryFrame, mkF, argsToLocals, Value.category]; done) | rfl) ?_
  intro p e s m below meth c s₁ X0 hx hZ hby hml hret hown0 hnm hlk e0
  have hown : s.vm.findClass "java/lang/StringUTF16" = some m.cls := hown0
  have N0 := Fr.nil n0
  obtain ⟨S_CS, H_CS, S__assertionsDisabled, S_HI_BYTE_SHIFT, S_LO_BYTE_SHIFT, S_FMT, R_FMT⟩ := (id SB)
  have w105 := hw _ (List.mem_of_getElem? (i := 105) rfl)
  have w106 := hw _ (List.mem_of_getElem? (i := 106) rfl)
  have w107 := hw _ (List.mem_of_getElem? (i := 107) rfl)
  obtain ⟨T1, X1, e1, st1⟩ := getS2 X0 hx hZ hown (host := "") (Or.inl w105) Via.refl e0 (Sta.ext O0.2 S__assertionsDisabled) (g := (mkF m 0 #[.val (.ref ba_), .val (.int (0 : Int32))] [])) rfl (hb hby d9_0)
  refine ogo (S' := T1.setTop (mkF m 3 #[.val (.ref ba_), .val (.int (0 : Int32))] [(.int (1 : Int32))])) st1 ?_
  refine o_ifYes X1 hx 28 (hb hby d9_3) (feq (by decide : ¬ ((1 : Int32) = (0 : Int32)))).2 (by decide) (by decide) ?_
  refine o_iloadN X1 hx (hb hby d9_28) rfl ?_
  refine o_iconst X1 hx (1 : Int32) (hb hby d9_29) rfl ?_
  refine o_ishl X1 hx (hb hby d9_30) ?_
  refine o_istoreN X1 hx (l' := #[.val (.ref ba_), .val (.int (0 : Int32))]) (hb hby d9_31) rfl ?_
  refine o_aloadN X1 hx (hb hby d9_32) rfl rfl ?_
  refine o_iloadN X1 hx (hb hby d9_33) rfl ?_
  refine o_iinc X1 hx (l' := #[.val (.ref ba_), .val (.int (1 : Int32))]) (hb hby d9_34) rfl rfl ?_
  obtain ⟨cl2, Ar2, q2, S2, N2z, H2, G2⟩ := (id pr0)
  have hi2 := inb_of (j := (0 : Int32)) S2 ⟨by decide, by decide⟩
  have ha2 := Has.at (v := (.int (c0_ >>> ((0 : Int32) &&& 31)).toInt8.toInt32)) H2 hi2 rfl
  refine ogo (S' := T1.setTop (mkF m 38 #[.val (.ref ba_), .val (.int (1 : Int32))] [(.int (c0_ >>> ((0 : Int32) &&& 31)).toInt8.toInt32)])) (X1.baloadBytes hx (j := (0 : Int32)) (v := (.int (c0_ >>> ((0 : Int32) &&& 31)).toInt8.toInt32)) (by rw [e1]; exact Ar2.1) (State.isArrayOf_alike hZ.alike Ar2.2.1) Ar2.2.2 hi2 ha2 (g := (mkF m 37 #[.val (.ref ba_), .val (.int (1 : Int32))] [(.int (0 : Int32)), (.ref ba_)])) rfl rfl (hb hby d9_37)) ?_
  refine o_sipush X1 hx (255 : Int32) (hb hby d9_38) rfl ?_
  refine o_iand X1 hx (hb hby d9_41) ?_
  obtain ⟨T3, X3, e3, st3⟩ := getS2 X1 hx hZ hown (host := "") (Or.inl w106) Via.refl e1 (Sta.ext O0.2 S_HI_BYTE_SHIFT) (g := (mkF m 42 #[.val (.ref ba_), .val (.int (1 : Int32))] [(.int ((c0_ >>> ((0 : Int32) &&& 31)).toInt8.toInt32 &&& (255 : Int32)))])) rfl (hb hby d9_42)
  refine ogo (S' := T3.setTop (mkF m 45 #[.val (.ref ba_), .val (.int (1 : Int32))] [(.int (0 : Int32)), (.int ((c0_ >>> ((0 : Int32) &&& 31)).toInt8.toInt32 &&& (255 : Int32)))])) st3 ?_
  refine o_ishl X3 hx (hb hby d9_45) ?_
  refine o_aloadN X3 hx (hb hby d9_46) rfl rfl ?_
  refine o_iloadN X3 hx (hb hby d9_47) rfl ?_
  obtain ⟨cl4, Ar4, q4, S4, N4z, H4, G4⟩ := (id pr0)
  have hi4 := inb_of (j := (1 : Int32)) S4 ⟨by decide, by decide⟩
  have ha4 := Has.at (v := (.int (c0_ >>> ((8 : Int32) &&& 31)).toInt8.toInt32)) H4 hi4 rfl
  refine ogo (S' := T3.setTop (mkF m 49 #[.val (.ref ba_), .val (.int (1 : Int32))] [(.int (c0_ >>> ((8 : Int32) &&& 31)).toInt8.toInt32), (.int (((c0_ >>> ((0 : Int32) &&& 31)).toInt8.toInt32 &&& (255 : Int32)) <<< ((0 : Int32) &&& 31)))])) (X3.baloadBytes hx (j := (1 : Int32)) (v := (.int (c0_ >>> ((8 : Int32) &&& 31)).toInt8.toInt32)) (by rw [e3]; exact Ar4.1) (State.isArrayOf_alike hZ.alike Ar4.2.1) Ar4.2.2 hi4 ha4 (g := (mkF m 48 #[.val (.ref ba_), .val (.int (1 : Int32))] [(.int (1 : Int32)), (.ref ba_), (.int (((c0_ >>> ((0 : Int32) &&& 31)).toInt8.toInt32 &&& (255 : Int32)) <<< ((0 : Int32) &&& 31)))])) rfl rfl (hb hby d9_48)) ?_
  refine o_sipush X3 hx (255 : Int32) (hb hby d9_49) rfl ?_
  refine o_iand X3 hx (hb hby d9_52) ?_
  obtain ⟨T5, X5, e5, st5⟩ := getS2 X3 hx hZ hown (host := "") (Or.inl w107) Via.refl e3 (Sta.ext O0.2 S_LO_BYTE_SHIFT) (g := (mkF m 53 #[.val (.ref ba_), .val (.int (1 : Int32))] [(.int ((c0_ >>> ((8 : Int32) &&& 31)).toInt8.toInt32 &&& (255 : Int32))), (.int (((c0_ >>> ((0 : Int32) &&& 31)).toInt8.toInt32 &&& (255 : Int32)) <<< ((0 : Int32) &&& 31)))])) rfl (hb hby d9_53)
  refine ogo (S' := T5.setTop (mkF m 56 #[.val (.ref ba_), .val (.int (1 : Int32))] [(.int (8 : Int32)), (.int ((c0_ >>> ((8 : Int32) &&& 31)).toInt8.toInt32 &&& (255 : Int32))), (.int (((c0_ >>> ((0 : Int32) &&& 31)).toInt8.toInt32 &&& (255 : Int32)) <<< ((0 : Int32) &&& 31)))])) st5 ?_
  refine o_ishl X5 hx (hb hby d9_56) ?_
  refine o_ior X5 hx (hb hby d9_57) ?_
  refine o_i2c X5 hx (hb hby d9_58) ?_
  rw [own_u16 pr1]
  refine oend X5 hlk (v := some (.int c0_)) (fun h => by rw [hret] at h; cases h) (fun fs hr => retN X5 hx (t := .char) hret (by simp) (hb hby d9_59) (by rw [(own_nar16 pr1)]; exact hr)) (by decide) (by decide) ?_
  show own_Q_getch_2_0 Z _ _ _ _ _ _ h0 n0 _ T5.heap _
  rw [e5]
  exact ⟨rfl, N0, rfl⟩
def own_Q_cmp3_2_0 (Z : State) (z_CS : Int32) (v_FMT : Value) (ca_ : Addr) (kc_ : ClassId) (c0_ : Int32) (c1_ : Int32) (h0 : Heap) (n0 : Nat) (v : Option Value) (h : Heap) (L : List Loc) : Prop := ∃ ba_ : Addr, ∃ kb_ : ClassId, (v = some (.ref ba_)) ∧ (Fr n0 L) ∧ (Keep h0 h []) ∧ (h0.size ≤ ba_) ∧ (Arv Z h ba_ kb_ .byte (4 : Int32) [(.int (c0_ >>> ((0 : Int32) &&& 31)).toInt8.toInt32), (.int (c0_ >>> ((8 : Int32) &&& 31)).toInt8.toInt32), (.int (c1_ >>> ((0 : Int32) &&& 31)).toInt8.toInt32), (.int (c1_ >>> ((8 : Int32) &&& 31)).toInt8.toInt32)] (.int 0))
set_option maxRecDepth 65536 in
set_option maxHeartbeats 40000000 in
theorem rm_cmp3_2_0 (l : Launch) (Z : State) (a0 : Array Value) (hw : ∀ d ∈ tables_1, d.before a0 Z = true) (ws : List Jvm.Cond) (z_CS : Int32) (v_FMT : Value) (ca_ : Addr) (kc_ : ClassId) (c0_ : Int32) (c1_ : Int32) (h0 : Heap) (n0 : Nat) (SB : own_Start Z z_CS v_FMT) (O0 : Old Z n0 h0) (pr0 : Arv Z h0 ca_ kc_ .char (2 : Int32) [(.int c0_), (.int c1_)] (.int 0)) (pr1 : own_c16 c0_) (pr2 : (255 : Int32) < c0_) :
    oMet l Z yM2 jdk_52_method_16_code 6 (some (.array .byte)) ws ({ frames := 3, cells := 2, slots := 6, locals := 40 } : Room) 2 6 #[(.ref ca_), (.int (0 : Int32)), (.int (2 : Int32))] h0 (own_Q_cmp3_2_0 Z z_CS v_FMT ca_ kc_ c0_ c1_ h0 n0) := by
  refine oenter own_pn1 #[.val (.ref ca_), .val (.int (0 : Int32)), .val (.int (2 : Int32)), .unset, .unset, .unset] (fun m => by first | (simp [entryFrame, mkF, argsToLocals, Value.category]; done) | rfl) ?_
  intro p e s m below meth c s₁ X0 hx hZ hby hml hret hown0 hnm hlk e0
  have hown : s.vm.findClass "java/lang/StringUTF16" = some m.cls := hown0
  have N0 := Fr.nil n0
  obtain ⟨S_CS, H_CS, S__assertionsDisabled, S_HI_BYTE_SHIFT, S_LO_BYTE_SHIFT, S_FMT, R_FMT⟩ := (id SB)
  have w20 := hw _ (List.mem_of_getElem? (i := 20) rfl)
  have w62 := hw _ (List.mem_of_getElem? (i := 62) rfl)
  have w64 := hw _ (List.mem_of_getElem? (i := 64) rfl)
  have w65 := hw _ (List.mem_of_getElem? (i := 65) rfl)
  have w66 := hw _ (List.mem_of_getElem? (i := 66) rfl)
  have w92 := hw _ (List.mem_of_getElem? (i := 92) rfl)
  have w93 := hw _ (List.mem_of_getElem? (i := 93) rfl)
  have w94 := hw _ (List.mem_of_getElem? (i := 94) rfl)
  have w108 := hw _ (List.mem_of_getElem? (i := 108) rfl)
  have w109 := hw _ (List.mem_of_getElem? (i := 109) rfl)
  have w110 := hw _ (List.mem_of_getElem? (i := 110) rfl)
  refine o_iloadN X0 hx (hb hby d3_0) rfl ?_
  obtain ⟨T1, _, k1, X1, rfl, E1, A1, Ex1, st1⟩ := newPE (aty := .byte) X0 hx hZ w20 e0 (g := (mkF m 1 #[.val (.ref ca_), .val (.int (0 : Int32)), .val (.int (2 : Int32)), .unset, .unset, .unset] [(.int (2 : Int32))])) rfl (hb hby d3_1) rfl (by decide) (cap := 2) (by decide) (by decide) (by decide) (by decide) (ad := "[B") rfl
  obtain ⟨b1, g1⟩ : ∃ z, z = h0.size := ⟨_, rfl⟩
  rw [← g1] at A1 Ex1 st1
  have n0_b1 : n0 ≤ b1 := Nat.le_trans (Nat.le_trans (Nat.le_of_eq O0.1.symm) O0.2.1) (Nat.le_trans (Nat.le_refl _) (Nat.le_of_eq g1.symm))
  have V1 : Arv Z T1.heap b1 k1 .byte (2 : Int32) [(.int 0), (.int 0)] (.int 0) := (Arv.new A1 (by decide)).pad (pad_rep [] (.int 0) 2)
  refine ogo (S' := T1.setTop (mkF m 3 #[.val (.ref ca_), .val (.int (0 : Int32)), .val (.int (2 : Int32)), .unset, .unset, .unset] [(.ref b1)])) st1 ?_
  refine o_astoreN X1 hx (l' := #[.val (.ref ca_), .val (.int (0 : Int32)), .val (.int (2 : Int32)), .val (.ref b1), .unset, .unset]) (hb hby d3_3) rfl rfl ?_
  refine o_aloadN X1 hx (hb hby d3_4) rfl rfl ?_
  refine o_iloadN X1 hx (hb hby d3_5) rfl ?_
  refine o_aloadN X1 hx (hb hby d3_6) rfl rfl ?_
  refine o_iconst X1 hx (0 : Int32) (hb hby d3_7) rfl ?_
  refine o_iloadN X1 hx (hb hby d3_8) rfl ?_
  obtain ⟨_, _, ⟨T2, L2, kc2, n2⟩, -, X2, ⟨Lc2, hQ2, l2, y2, z2⟩, st2⟩ := Jvm.LawKit.callS X1 hx (y := yM1) hown (mvT hZ w64) (mvT hZ w65) (mvT hZ w62) (mvT hZ w66) (by decide) (backOf (W := 0) (rm_cmp5_2_0 l Z a0 hw []  ca_ kc_ b1 k1 c0_ c1_ T1.heap n0 (O0.ext E1) (pr0.ext E1) V1 (Nat.ne_of_lt (Nat.lt_of_lt_of_le (Nat.lt_of_lt_of_le pr0.lt (Nat.le_refl _)) (Nat.le_of_eq g1.symm))) n0_b1 pr2) hZ w66 w62 (by decide) (by decide)) (g := (mkF m 9 #[.val (.ref ca_), .val (.int (0 : Int32)), .val (.int (2 : Int32)), .val (.ref b1), .unset, .unset] [(.int (2 : Int32)), (.int (0 : Int32)), (.ref b1), (.int (0 : Int32)), (.ref ca_)])) rfl (by rw [hml]; rfl) (argsL := [(.ref ca_), (.int (0 : Int32)), (.ref b1), (.int (0 : Int32)), (.int (2 : Int32))]) (rest := []) (lenOf own_pd0 rfl) rfl (by show 2 * 0 + _ ≤ _; exact Nat.le_of_eq rfl) (hb hby d3_9) (fun _ _ => ⟨rfl, rfl, (by decide : 1 + 0 ≤ _), (by decide : 2 + 0 ≤ _)⟩)
  dsimp only [Pt.U, Pt.locs, Pt.cells, Pt.slots] at X2 l2 y2 z2 st2 hQ2
  subst l2 y2 z2
  obtain ⟨rfl, Nq2, K2⟩ := hQ2
  have N2 := Fr.app N0 Nq2
  refine ogo (S' := T2.setTop (mkF m 12 #[.val (.ref ca_), .val (.int (0 : Int32)), .val (.int (2 : Int32)), .val (.ref b1), .unset, .unset] [(.int (0 : Int32))])) st2 ?_
  refine o_istore X2 hx (l' := #[.val (.ref ca_), .val (.int (0 : Int32)), .val (.int (2 : Int32)), .val (.ref b1), .val (.int (0 : Int32)), .unset]) (hb hby d3_12) rfl ?_
  refine o_iload X2 hx (hb hby d3_14) rfl ?_
  refine o_iloadN X2 hx (hb hby d3_16) rfl ?_
  refine o_icmpNo X2 hx (hb hby d3_17) (feq (by decide : ¬ ((0 : Int32) = (2 : Int32)))).1 ?_
  refine o_aloadN X2 hx (hb hby d3_20) rfl rfl ?_
  refine o_iloadN X2 hx (hb hby d3_21) rfl ?_
  refine o_iloadN X2 hx (hb hby d3_22) rfl ?_
  have c4 := ((pr0.ext E1).keep K2 (ninS (Nat.ne_of_lt (Nat.lt_of_lt_of_le (Nat.lt_of_lt_of_le pr0.lt (Nat.le_refl _)) (Nat.le_of_eq g1.symm))) nin0))
  obtain ⟨_, _, ⟨T3, L3, kc3, n3⟩, -, X3, ⟨Lc3, hQ3, l3, y3, z3⟩, st3⟩ := Jvm.LawKit.callS X2 hx (y := yM7) hown (mvT hZ w92) (mvT hZ w93) (mvT hZ w62) (mvT hZ w94) (by decide) (backOf (W := 0) (rm_tob_2 l Z a0 hw [] z_CS v_FMT ca_ kc_ c0_ c1_ T2.heap n0 SB ((O0.ext E1).keep K2 (allS n0_b1 all0)) c4) hZ w94 w62 (by decide) (by decide)) (g := (mkF m 23 #[.val (.ref ca_), .val (.int (0 : Int32)), .val (.int (2 : Int32)), .val (.ref b1), .val (.int (0 : Int32)), .unset] [(.int (2 : Int32)), (.int (0 : Int32)), (.ref ca_)])) rfl (by rw [hml]; rfl) (argsL := [(.ref ca_), (.int (0 : Int32)), (.int (2 : Int32))]) (rest := []) (lenOf own_pd4 rfl) rfl (by show 2 * 0 + _ ≤ _; exact Nat.le_of_eq rfl) (hb hby d3_23) (fun _ _ => ⟨rfl, rfl, (by decide : 1 + 1 ≤ _), (by decide : 2 + 4 ≤ _)⟩)
  dsimp only [Pt.U, Pt.locs, Pt.cells, Pt.slots] at X3 l3 y3 z3 st3 hQ3
  subst l3 y3 z3
  obtain ⟨ba_3, kb_3, rfl, Nq3, K3, p3_0, p3_1⟩ := hQ3
  have N3 := Fr.app N2 Nq3
  have n0_ba_3 : n0 ≤ ba_3 := Nat.le_trans (Nat.le_trans (Nat.le_of_eq O0.1.symm) O0.2.1) (Nat.le_trans (Nat.le_trans E1.1 K2.1) p3_0)
  refine ogo (S' := T3.setTop (mkF m 26 #[.val (.ref ca_), .val (.int (0 : Int32)), .val (.int (2 : Int32)), .val (.ref b1), .val (.int (0 : Int32)), .unset] [(.ref ba_3)])) st3 ?_
  refine o_astore X3 hx (l' := #[.val (.ref ca_), .val (.int (0 : Int32)), .val (.int (2 : Int32)), .val (.ref b1), .val (.int (0 : Int32)), .val (.ref ba_3)]) (hb hby d3_26) rfl rfl ?_
  refine o_aload X3 hx (hb hby d3_28) rfl rfl ?_
  refine o_iload X3 hx (hb hby d3_30) rfl ?_
  obtain ⟨_, _, ⟨T5, L5, kc5, n5⟩, -, X5, ⟨Lc5, hQ5, l5, y5, z5⟩, st5⟩ := Jvm.LawKit.callS X3 hx (y := yM8) hown (mvT hZ w108) (mvT hZ w109) (mvT hZ w62) (mvT hZ w110) (by decide) (backOf (W := 0) (rm_getch_2_0 l Z a0 hw [] z_CS v_FMT ba_3 kb_3 c0_ c1_ T3.heap n0 SB (((O0.ext E1).keep K2 (allS n0_b1 all0)).keep K3 all0) p3_1 pr1) hZ w110 w62 (by decide) (by decide)) (g := (mkF m 32 #[.val (.ref ca_), .val (.int (0 : Int32)), .val (.int (2 : Int32)), .val (.ref b1), .val (.int (0 : Int32)), .val (.ref ba_3)] [(.int (0 : Int32)), (.ref ba_3)])) rfl (by rw [hml]; rfl) (argsL := [(.ref ba_3), (.int (0 : Int32))]) (rest := []) (lenOf own_pd5 rfl) rfl (by show 2 * 0 + _ ≤ _; exact Nat.le_of_eq rfl) (hb hby d3_32) (fun _ _ => ⟨rfl, rfl, (by decide : 2 + 0 ≤ _), (by decide : 6 + 0 ≤ _)⟩)
  dsimp only [Pt.U, Pt.locs, Pt.cells, Pt.slots] at X5 l5 y5 z5 st5 hQ5
  subst l5 y5 z5
  obtain ⟨rfl, Nq5, e5⟩ := hQ5
  have N5 := Fr.app N3 Nq5
  refine ogo (S' := T5.setTop (mkF m 35 #[.val (.ref ca_), .val (.int (0 : Int32)), .val (.int (2 : Int32)), .val (.ref b1), .val (.int (0 : Int32)), .val (.ref ba_3)] [(.int c0_)])) st5 ?_
  refine o_sipush X5 hx (255 : Int32) (hb hby d3_35) rfl ?_
  refine o_icmpYes X5 hx 54 (hb hby d3_38) (tlt pr2).2.2.1 (by decide) (by decide) ?_
  refine o_aload X5 hx (hb hby d3_54) rfl rfl ?_
  refine oend X5 hlk (v := some (.ref ba_3)) (fun h => by rw [hret] at h; cases h) (fun fs hr => retOut X5 hx (t := (.array .byte)) (i := .areturn) hret rfl (Or.inr (Or.inr (Or.inr (Or.inr ⟨rfl, rfl, rfl⟩)))) (hb hby d3_56) hr) (by decide) (by decide) ?_
  show own_Q_cmp3_2_0 Z _ _ _ _ _ _ h0 n0 _ T5.heap _
  rw [e5]
  exact ⟨ba_3, kb_3, rfl, N5, ((((Keep.refl h0 []).ext E1).trans K2 (allS (Or.inr (Nat.le_trans (Nat.le_refl _) (Nat.le_of_eq g1.symm))) all0)).trans K3 all0), (Nat.le_trans (Nat.le_trans E1.1 K2.1) p3_0), p3_1⟩
def own_Q_cmp5_2_1 (Z : State)  (ca_ : Addr) (kc_ : ClassId) (ba_ : Addr) (kb_ : ClassId) (c0_ : Int32) (c1_ : Int32) (h0 : Heap) (n0 : Nat) (v : Option Value) (h : Heap) (L : List Loc) : Prop := (v = some (.int (1 : Int32))) ∧ (Fr n0 L) ∧ (Keep h0 h [ba_])
set_option maxRecDepth 65536 in
set_option maxHeartbeats 40000000 in
theorem rm_cmp5_2_1 (l : Launch) (Z : State) (a0 : Array Value) (hw : ∀ d ∈ tables_1, d.before a0 Z = true) (ws : List Jvm.Cond)  (ca_ : Addr) (kc_ : ClassId) (ba_ : Addr) (kb_ : ClassId) (c0_ : Int32) (c1_ : Int32) (h0 : Heap) (n0 : Nat) (O0 : Old Z n0 h0) (pr0 : Arv Z h0 ca_ kc_ .char (2 : Int32) [(.int c0_), (.int c1_)] (.int 0)) (pr1 : Arv Z h0 ba_ kb_ .byte (2 : Int32) [(.int 0), (.int 0)] (.int 0)) (pr2 : ca_ ≠ ba_) (pr3 : n0 ≤ ba_) (pr4 : ¬ ((255 : Int32) < c0_)) (pr5 : (255 : Int32) < c1_) :
    oMet l Z yM1 jdk_52_method_21_code 7 (some .int) ws ({ frames := 0, cells := 0, slots := 0, locals := 0 } : Room) 0 0 #[(.ref ca_), (.int (0 : Int32)), (.ref ba_), (.int (0 : Int32)), (.int (2 : Int32))] h0 (own_Q_cmp5_2_1 Z  ca_ kc_ ba_ kb_ c0_ c1_ h0 n0) := by
  refine oenter own_pn1 #[.val (.ref ca_), .val (.int (0 : Int32)), .val (.ref ba_), .val (.int (0 : Int32)), .val (.int (2 : Int32)), .unset, .unset] (fun m => by first | (simp [entryFrame, mkF, argsToLocals, Value.category]; done) | rfl) ?_
  intro p e s m below meth c s₁ X0 hx hZ hby hml hret hown0 hnm hlk e0
  have hown : s.vm.findClass "java/lang/StringUTF16" = some m.cls := hown0
  have N0 := Fr.nil n0
  refine o_iconst X0 hx (0 : Int32) (hb hby d2_0) rfl ?_
  refine o_istore X0 hx (l' := #[.val (.ref ca_), .val (.int (0 : Int32)), .val (.ref ba_), .val (.int (0 : Int32)), .val (.int (2 : Int32)), .val (.int (0 : Int32)), .unset]) (hb hby d2_1) rfl ?_
  refine o_iload X0 hx (hb hby d2_3) rfl ?_
  refine o_iload X0 hx (hb hby d2_5) rfl ?_
  refine o_icmpNo X0 hx (hb hby d2_7) (tlt (by decide : (0 : Int32) < (2 : Int32))).2.1 ?_
  refine o_aloadN X0 hx (hb hby d2_10) rfl rfl ?_
  refine o_iloadN X0 hx (hb hby d2_11) rfl ?_
  obtain ⟨cl1, Ar1, q1, S1, N1z, H1, G1⟩ := (id pr0)
  have hi1 := inb_of (j := (0 : Int32)) S1 ⟨by decide, by decide⟩
  have ha1 := Has.at (v := (.int c0_)) H1 hi1 rfl
  refine ogo (S' := s₁.setTop (mkF m 13 #[.val (.ref ca_), .val (.int (0 : Int32)), .val (.ref ba_), .val (.int (0 : Int32)), .val (.int (2 : Int32)), .val (.int (0 : Int32)), .unset] [(.int c0_)])) (X0.caload hx (j := (0 : Int32)) (v := (.int c0_)) (by rw [e0]; exact Ar1.1) (State.isArrayOf_alike hZ.alike Ar1.2.1) Ar1.2.2 hi1 ha1 (g := (mkF m 12 #[.val (.ref ca_), .val (.int (0 : Int32)), .val (.ref ba_), .val (.int (0 : Int32)), .val (.int (2 : Int32)), .val (.int (0 : Int32)), .unset] [(.int (0 : Int32)), (.ref ca_)])) rfl rfl (hb hby d2_12)) ?_
  refine o_istore X0 hx (l' := #[.val (.ref ca_), .val (.int (0 : Int32)), .val (.ref ba_), .val (.int (0 : Int32)), .val (.int (2 : Int32)), .val (.int (0 : Int32)), .val (.int c0_)]) (hb hby d2_13) rfl ?_
  refine o_iload X0 hx (hb hby d2_15) rfl ?_
  refine o_sipush X0 hx (255 : Int32) (hb hby d2_17) rfl ?_
  refine o_icmpYes X0 hx 26 (hb hby d2_20) (flt pr4).2.2.2 (by decide) (by decide) ?_
  refine o_aloadN X0 hx (hb hby d2_26) rfl rfl ?_
  refine o_iloadN X0 hx (hb hby d2_27) rfl ?_
  refine o_iload X0 hx (hb hby d2_28) rfl ?_
  refine o_i2b X0 hx (hb hby d2_30) ?_
  obtain ⟨cl2, Ar2, q2, S2, N2z, H2, G2⟩ := (id pr1)
  obtain ⟨T2, _, X2, rfl, W2, st2⟩ := stB X0 hx hZ e0 Ar2 (j := (0 : Int32)) (inb_of S2 ⟨by decide, by decide⟩) (g := (mkF m 31 #[.val (.ref ca_), .val (.int (0 : Int32)), .val (.ref ba_), .val (.int (0 : Int32)), .val (.int (2 : Int32)), .val (.int (0 : Int32)), .val (.int c0_)] [(.int c0_.toInt8.toInt32), (.int (0 : Int32)), (.ref ba_)])) rfl rfl (hb hby d2_31)
  rw [own_narb] at W2
  have V2 : Arv Z T2.heap ba_ kb_ .byte (2 : Int32) [(.int c0_.toInt8.toInt32), (.int 0)] (.int 0) := Arv.set Ar2 q2 S2 N2z H2 G2 (fits_nar_byte _) W2 0 rfl (Nat.le_of_ble_eq_true rfl)
  have N2 := Fr.snoc X2 N0 pr3
  refine ogo (S' := T2.setTop (mkF m 32 #[.val (.ref ca_), .val (.int (0 : Int32)), .val (.ref ba_), .val (.int (0 : Int32)), .val (.int (2 : Int32)), .val (.int (0 : Int32)), .val (.int c0_)] [])) st2 ?_
  refine o_iinc X2 hx (l' := #[.val (.ref ca_), .val (.int (1 : Int32)), .val (.ref ba_), .val (.int (0 : Int32)), .val (.int (2 : Int32)), .val (.int (0 : Int32)), .val (.int c0_)]) (hb hby d2_32) rfl rfl ?_
  refine o_iinc X2 hx (l' := #[.val (.ref ca_), .val (.int (1 : Int32)), .val (.ref ba_), .val (.int (1 : Int32)), .val (.int (2 : Int32)), .val (.int (0 : Int32)), .val (.int c0_)]) (hb hby d2_35) rfl rfl ?_
  refine o_iinc X2 hx (l' := #[.val (.ref ca_), .val (.int (1 : Int32)), .val (.ref ba_), .val (.int (1 : Int32)), .val (.int (2 : Int32)), .val (.int (1 : Int32)), .val (.int c0_)]) (hb hby d2_38) rfl rfl ?_
  refine o_goto X2 hx 3 (hb hby d2_41) (by decide) (by decide) ?_
  refine o_iload X2 hx (hb hby d2_3) rfl ?_
  refine o_iload X2 hx (hb hby d2_5) rfl ?_
  refine o_icmpNo X2 hx (hb hby d2_7) (tlt (by decide : (1 : Int32) < (2 : Int32))).2.1 ?_
  refine o_aloadN X2 hx (hb hby d2_10) rfl rfl ?_
  refine o_iloadN X2 hx (hb hby d2_11) rfl ?_
  obtain ⟨cl3, Ar3, q3, S3, N3z, H3, G3⟩ := (id (pr0.other W2 pr2))
  have hi3 := inb_of (j := (1 : Int32)) S3 ⟨by decide, by decide⟩
  have ha3 := Has.at (v := (.int c1_)) H3 hi3 rfl
  refine ogo (S' := T2.setTop (mkF m 13 #[.val (.ref ca_), .val (.int (1 : Int32)), .val (.ref ba_), .val (.int (1 : Int32)), .val (.int (2 : Int32)), .val (.int (1 : Int32)), .val (.int c0_)] [(.int c1_)])) (X2.caload hx (j := (1 : Int32)) (v := (.int c1_)) Ar3.1 (State.isArrayOf_alike hZ.alike Ar3.2.1) Ar3.2.2 hi3 ha3 (g := (mkF m 12 #[.val (.ref ca_), .val (.int (1 : Int32)), .val (.ref ba_), .val (.int (1 : Int32)), .val (.int (2 : Int32)), .val (.int (1 : Int32)), .val (.int c0_)] [(.int (1 : Int32)), (.ref ca_)])) rfl rfl (hb hby d2_12)) ?_
  refine o_istore X2 hx (l' := #[.val (.ref ca_), .val (.int (1 : Int32)), .val (.ref ba_), .val (.int (1 : Int32)), .val (.int (2 : Int32)), .val (.int (1 : Int32)), .val (.int c1_)]) (hb hby d2_13) rfl ?_
  refine o_iload X2 hx (hb hby d2_15) rfl ?_
  refine o_sipush X2 hx (255 : Int32) (hb hby d2_17) rfl ?_
  refine o_icmpNo X2 hx (hb hby d2_20) (tlt pr5).2.2.2 ?_
  refine o_iload X2 hx (hb hby d2_23) rfl ?_
  refine oend X2 hlk (v := some (.int (1 : Int32))) (fun h => by rw [hret] at h; cases h) (fun fs hr => retOut X2 hx (t := .int) (i := .ireturn) hret rfl (Or.inl ⟨rfl, Or.inl rfl, _, rfl⟩) (hb hby d2_25) hr) (by decide) (by decide) ?_
  show own_Q_cmp5_2_1 Z _ _ _ _ _ _ h0 n0 _ T2.heap _
  exact ⟨rfl, N2, ((Keep.refl h0 [ba_]).wr W2 (Or.inl (List.mem_of_getElem? (i := 0) rfl)))⟩
def own_Q_getch_2_1 (Z : State) (z_CS : Int32) (v_FMT : Value) (ba_ : Addr) (kb_ : ClassId) (c0_ : Int32) (c1_ : Int32) (h0 : Heap) (n0 : Nat) (v : Option Value) (h : Heap) (L : List Loc) : Prop := (v = some (.int c1_)) ∧ (Fr n0 L) ∧ (h = h0)
set_option maxRecDepth 65536 in
set_option maxHeartbeats 40000000 in
theorem rm_getch_2_1 (l : Launch) (Z : State) (a0 : Array Value) (hw : ∀ d ∈ tables_1, d.before a0 Z = true) (ws : List Jvm.Cond) (z_CS : Int32) (v_FMT : Value) (ba_ : Addr) (kb_ : ClassId) (c0_ : Int32) (c1_ : Int32) (h0 : Heap) (n0 : Nat) (SB : own_Start Z z_CS v_FMT) (O0 : Old Z n0 h0) (pr0 : Arv Z h0 ba_ kb_ .byte (4 : Int32) [(.int (c0_ >>> ((0 : Int32) &&& 31)).toInt8.toInt32), (.int (c0_ >>> ((8 : Int32) &&& 31)).toInt8.toInt32), (.int (c1_ >>> ((0 : Int32) &&& 31)).toInt8.toInt32), (.int (c1_ >>> ((8 : Int32) &&& 31)).toInt8.toInt32)] (.int 0)) (pr1 : own_c16 c1_) :
    oMet l Z yM8 jdk_52_method_5_code 2 (some .char) ws ({ frames := 0, cells := 0, slots := 0, locals := 0 } : Room) 0 0 #[(.ref ba_), (.int (1 : Int32))] h0 (own_Q_getch_2_1 Z z_CS v_FMT ba_ kb_ c0_ c1_ h0 n0) := by
  refine oenter own_pn1 #[.val (.ref ba_), .val (.int (1 : Int32))] (fun m => by first | (simp [entryFrame, mkF, argsToLocals, Value.category]; done) | rfl) ?_
  intro p e s m below meth c s₁ X0 hx hZ hby hml hret hown0 hnm hlk e0
  have hown : s.vm.findClass "java/lang/StringUTF16" = some m.cls := hown0
  have N0 := Fr.nil n0
  obtain ⟨S_CS, H_CS, S__assertionsDisabled, S_HI_BYTE_SHIFT, S_LO_BYTE_SHIFT, S_FMT, R_FMT⟩ := (id SB)
  have w105 := hw _ (List.mem_of_getElem? (i := 105) rfl)
  have w106 := hw _ (List.mem_of_getElem? (i := 106) rfl)
  have w107 := hw _ (List.mem_of_getElem? (i := 107) rfl)
  obtain ⟨T1, X1, e1, st1⟩ := getS2 X0 hx hZ hown (host := "") (Or.inl w105) Via.refl e0 (Sta.ext O0.2 S__assertionsDisabled) (g := (mkF m 0 #[.val (.ref ba_), .val (.int (1 : Int32))] [])) rfl (hb hby d9_0)
  refine ogo (S' := T1.setTop (mkF m 3 #[.val (.ref ba_), .val (.int (1 : Int32))] [(.int (1 : Int32))])) st1 ?_
  refine o_ifYes X1 hx 28 (hb hby d9_3) (feq (by decide : ¬ ((1 : Int32) = (0 : Int32)))).2 (by decide) (by decide) ?_
  refine o_iloadN X1 hx (hb hby d9_28) rfl ?_
  refine o_iconst X1 hx (1 : Int32) (hb hby d9_29) rfl ?_
  refine o_ishl X1 hx (hb hby d9_30) ?_
  refine o_istoreN X1 hx (l' := #[.val (.ref ba_), .val (.int (2 : Int32))]) (hb hby d9_31) rfl ?_
  refine o_aloadN X1 hx (hb hby d9_32) rfl rfl ?_
  refine o_iloadN X1 hx (hb hby d9_33) rfl ?_
  refine o_iinc X1 hx (l' := #[.val (.ref ba_), .val (.int (3 : Int32))]) (hb hby d9_34) rfl rfl ?_
  obtain ⟨cl2, Ar2, q2, S2, N2z, H2, G2⟩ := (id pr0)
  have hi2 := inb_of (j := (2 : Int32)) S2 ⟨by decide, by decide⟩
  have ha2 := Has.at (v := (.int (c1_ >>> ((0 : Int32) &&& 31)).toInt8.toInt32)) H2 hi2 rfl
  refine ogo (S' := T1.setTop (mkF m 38 #[.val (.ref ba_), .val (.int (3 : Int32))] [(.int (c1_ >>> ((0 : Int32) &&& 31)).toInt8.toInt32)])) (X1.baloadBytes hx (j := (2 : Int32)) (v := (.int (c1_ >>> ((0 : Int32) &&& 31)).toInt8.toInt32)) (by rw [e1]; exact Ar2.1) (State.isArrayOf_alike hZ.alike Ar2.2.1) Ar2.2.2 hi2 ha2 (g := (mkF m 37 #[.val (.ref ba_), .val (.int (3 : Int32))] [(.int (2 : Int32)), (.ref ba_)])) rfl rfl (hb hby d9_37)) ?_
  refine o_sipush X1 hx (255 : Int32) (hb hby d9_38) rfl ?_
  refine o_iand X1 hx (hb hby d9_41) ?_
  obtain ⟨T3, X3, e3, st3⟩ := getS2 X1 hx hZ hown (host := "") (Or.inl w106) Via.refl e1 (Sta.ext O0.2 S_HI_BYTE_SHIFT) (g := (mkF m 42 #[.val (.ref ba_), .val (.int (3 : Int32))] [(.int ((c1_ >>> ((0 : Int32) &&& 31)).toInt8.toInt32 &&& (255 : Int32)))])) rfl (hb hby d9_42)
  refine ogo (S' := T3.setTop (mkF m 45 #[.val (.ref ba_), .val (.int (3 : Int32))] [(.int (0 : Int32)), (.int ((c1_ >>> ((0 : Int32) &&& 31)).toInt8.toInt32 &&& (255 : Int32)))])) st3 ?_
  refine o_ishl X3 hx (hb hby d9_45) ?_
  refine o_aloadN X3 hx (hb hby d9_46) rfl rfl ?_
  refine o_iloadN X3 hx (hb hby d9_47) rfl ?_
  obtain ⟨cl4, Ar4, q4, S4, N4z, H4, G4⟩ := (id pr0)
  have hi4 := inb_of (j := (3 : Int32)) S4 ⟨by decide, by decide⟩
  have ha4 := Has.at (v := (.int (c1_ >>> ((8 : Int32) &&& 31)).toInt8.toInt32)) H4 hi4 rfl
  refine ogo (S' := T3.setTop (mkF m 49 #[.val (.ref ba_), .val (.int (3 : Int32))] [(.int (c1_ >>> ((8 : Int32) &&& 31)).toInt8.toInt32), (.int (((c1_ >>> ((0 : Int32) &&& 31)).toInt8.toInt32 &&& (255 : Int32)) <<< ((0 : Int32) &&& 31)))])) (X3.baloadBytes hx (j := (3 : Int32)) (v := (.int (c1_ >>> ((8 : Int32) &&& 31)).toInt8.toInt32)) (by rw [e3]; exact Ar4.1) (State.isArrayOf_alike hZ.alike Ar4.2.1) Ar4.2.2 hi4 ha4 (g := (mkF m 48 #[.val (.ref ba_), .val (.int (3 : Int32))] [(.int (3 : Int32)), (.ref ba_), (.int (((c1_ >>> ((0 : Int32) &&& 31)).toInt8.toInt32 &&& (255 : Int32)) <<< ((0 : Int32) &&& 31)))])) rfl rfl (hb hby d9_48)) ?_
  refine o_sipush X3 hx (255 : Int32) (hb hby d9_49) rfl ?_
  refine o_iand X3 hx (hb hby d9_52) ?_
  obtain ⟨T5, X5, e5, st5⟩ := getS2 X3 hx hZ hown (host := "") (Or.inl w107) Via.refl e3 (Sta.ext O0.2 S_LO_BYTE_SHIFT) (g := (mkF m 53 #[.val (.ref ba_), .val (.int (3 : Int32))] [(.int ((c1_ >>> ((8 : Int32) &&& 31)).toInt8.toInt32 &&& (255 : Int32))), (.int (((c1_ >>> ((0 : Int32) &&& 31)).toInt8.toInt32 &&& (255 : Int32)) <<< ((0 : Int32) &&& 31)))])) rfl (hb hby d9_53)
  refine ogo (S' := T5.setTop (mkF m 56 #[.val (.ref ba_), .val (.int (3 : Int32))] [(.int (8 : Int32)), (.int ((c1_ >>> ((8 : Int32) &&& 31)).toInt8.toInt32 &&& (255 : Int32))), (.int (((c1_ >>> ((0 : Int32) &&& 31)).toInt8.toInt32 &&& (255 : Int32)) <<< ((0 : Int32) &&& 31)))])) st5 ?_
  refine o_ishl X5 hx (hb hby d9_56) ?_
  refine o_ior X5 hx (hb hby d9_57) ?_
  refine o_i2c X5 hx (hb hby d9_58) ?_
  rw [own_u16 pr1]
  refine oend X5 hlk (v := some (.int c1_)) (fun h => by rw [hret] at h; cases h) (fun fs hr => retN X5 hx (t := .char) hret (by simp) (hb hby d9_59) (by rw [(own_nar16 pr1)]; exact hr)) (by decide) (by decide) ?_
  show own_Q_getch_2_1 Z _ _ _ _ _ _ h0 n0 _ T5.heap _
  rw [e5]
  exact ⟨rfl, N0, rfl⟩
def own_Q_cmp3_2_1 (Z : State) (z_CS : Int32) (v_FMT : Value) (ca_ : Addr) (kc_ : ClassId) (c0_ : Int32) (c1_ : Int32) (h0 : Heap) (n0 : Nat) (v : Option Value) (h : Heap) (L : List Loc) : Prop := ∃ ba_ : Addr, ∃ kb_ : ClassId, (v = some (.ref ba_)) ∧ (Fr n0 L) ∧ (Keep h0 h []) ∧ (h0.size ≤ ba_) ∧ (Arv Z h ba_ kb_ .byte (4 : Int32) [(.int (c0_ >>> ((0 : Int32) &&& 31)).toInt8.toInt32), (.int (c0_ >>> ((8 : Int32) &&& 31)).toInt8.toInt32), (.int (c1_ >>> ((0 : Int32) &&& 31)).toInt8.toInt32), (.int (c1_ >>> ((8 : Int32) &&& 31)).toInt8.toInt32)] (.int 0))
set_option maxRecDepth 65536 in
set_option maxHeartbeats 40000000 in
theorem rm_cmp3_2_1 (l : Launch) (Z : State) (a0 : Array Value) (hw : ∀ d ∈ tables_1, d.before a0 Z = true) (ws : List Jvm.Cond) (z_CS : Int32) (v_FMT : Value) (ca_ : Addr) (kc_ : ClassId) (c0_ : Int32) (c1_ : Int32) (h0 : Heap) (n0 : Nat) (SB : own_Start Z z_CS v_FMT) (O0 : Old Z n0 h0) (pr0 : Arv Z h0 ca_ kc_ .char (2 : Int32) [(.int c0_), (.int c1_)] (.int 0)) (pr1 : own_c16 c1_) (pr2 : ¬ ((255 : Int32) < c0_)) (pr3 : (255 : Int32) < c1_) :
    oMet l Z yM2 jdk_52_method_16_code 6 (some (.array .byte)) ws ({ frames := 3, cells := 2, slots := 6, locals := 40 } : Room) 2 6 #[(.ref ca_), (.int (0 : Int32)), (.int (2 : Int32))] h0 (own_Q_cmp3_2_1 Z z_CS v_FMT ca_ kc_ c0_ c1_ h0 n0) := by
  refine oenter own_pn1 #[.val (.ref ca_), .val (.int (0 : Int32)), .val (.int (2 : Int32)), .unset, .unset, .unset] (fun m => by first | (simp [entryFrame, mkF, argsToLocals, Value.category]; done) | rfl) ?_
  intro p e s m below meth c s₁ X0 hx hZ hby hml hret hown0 hnm hlk e0
  have hown : s.vm.findClass "java/lang/StringUTF16" = some m.cls := hown0
  have N0 := Fr.nil n0
  obtain ⟨S_CS, H_CS, S__assertionsDisabled, S_HI_BYTE_SHIFT, S_LO_BYTE_SHIFT, S_FMT, R_FMT⟩ := (id SB)
  have w20 := hw _ (List.mem_of_getElem? (i := 20) rfl)
  have w62 := hw _ (List.mem_of_getElem? (i := 62) rfl)
  have w64 := hw _ (List.mem_of_getElem? (i := 64) rfl)
  have w65 := hw _ (List.mem_of_getElem? (i := 65) rfl)
  have w66 := hw _ (List.mem_of_getElem? (i := 66) rfl)
  have w92 := hw _ (List.mem_of_getElem? (i := 92) rfl)
  have w93 := hw _ (List.mem_of_getElem? (i := 93) rfl)
  have w94 := hw _ (List.mem_of_getElem? (i := 94) rfl)
  have w108 := hw _ (List.mem_of_getElem? (i := 108) rfl)
  have w109 := hw _ (List.mem_of_getElem? (i := 109) rfl)
  have w110 := hw _ (List.mem_of_getElem? (i := 110) rfl)
  refine o_iloadN X0 hx (hb hby d3_0) rfl ?_
  obtain ⟨T1, _, k1, X1, rfl, E1, A1, Ex1, st1⟩ := newPE (aty := .byte) X0 hx hZ w20 e0 (g := (mkF m 1 #[.val (.ref ca_), .val (.int (0 : Int32)), .val (.int (2 : Int32)), .unset, .unset, .unset] [(.int (2 : Int32))])) rfl (hb hby d3_1) rfl (by decide) (cap := 2) (by decide) (by decide) (by decide) (by decide) (ad := "[B") rfl
  obtain ⟨b1, g1⟩ : ∃ z, z = h0.size := ⟨_, rfl⟩
  rw [← g1] at A1 Ex1 st1
  have n0_b1 : n0 ≤ b1 := Nat.le_trans (Nat.le_trans (Nat.le_of_eq O0.1.symm) O0.2.1) (Nat.le_trans (Nat.le_refl _) (Nat.le_of_eq g1.symm))
  have V1 : Arv Z T1.heap b1 k1 .byte (2 : Int32) [(.int 0), (.int 0)] (.int 0) := (Arv.new A1 (by decide)).pad (pad_rep [] (.int 0) 2)
  refine ogo (S' := T1.setTop (mkF m 3 #[.val (.ref ca_), .val (.int (0 : Int32)), .val (.int (2 : Int32)), .unset, .unset, .unset] [(.ref b1)])) st1 ?_
  refine o_astoreN X1 hx (l' := #[.val (.ref ca_), .val (.int (0 : Int32)), .val (.int (2 : Int32)), .val (.ref b1), .unset, .unset]) (hb hby d3_3) rfl rfl ?_
  refine o_aloadN X1 hx (hb hby d3_4) rfl rfl ?_
  refine o_iloadN X1 hx (hb hby d3_5) rfl ?_
  refine o_aloadN X1 hx (hb hby d3_6) rfl rfl ?_
  refine o_iconst X1 hx (0 : Int32) (hb hby d3_7) rfl ?_
  refine o_iloadN X1 hx (hb hby d3_8) rfl ?_
  obtain ⟨_, _, ⟨T2, L2, kc2, n2⟩, -, X2, ⟨Lc2, hQ2, l2, y2, z2⟩, st2⟩ := Jvm.LawKit.callS X1 hx (y := yM1) hown (mvT hZ w64) (mvT hZ w65) (mvT hZ w62) (mvT hZ w66) (by decide) (backOf (W := 0) (rm_cmp5_2_1 l Z a0 hw []  ca_ kc_ b1 k1 c0_ c1_ T1.heap n0 (O0.ext E1) (pr0.ext E1) V1 (Nat.ne_of_lt (Nat.lt_of_lt_of_le (Nat.lt_of_lt_of_le pr0.lt (Nat.le_refl _)) (Nat.le_of_eq g1.symm))) n0_b1 pr2 pr3) hZ w66 w62 (by decide) (by decide)) (g := (mkF m 9 #[.val (.ref ca_), .val (.int (0 : Int32)), .val (.int (2 : Int32)), .val (.ref b1), .unset, .unset] [(.int (2 : Int32)), (.int (0 : Int32)), (.ref b1), (.int (0 : Int32)), (.ref ca_)])) rfl (by rw [hml]; rfl) (argsL := [(.ref ca_), (.int (0 : Int32)), (.ref b1), (.int (0 : Int32)), (.int (2 : Int32))]) (rest := []) (lenOf own_pd0 rfl) rfl (by show 2 * 0 + _ ≤ _; exact Nat.le_of_eq rfl) (hb hby d3_9) (fun _ _ => ⟨rfl, rfl, (by decide : 1 + 0 ≤ _), (by decide : 2 + 0 ≤ _)⟩)
  dsimp only [Pt.U, Pt.locs, Pt.cells, Pt.slots] at X2 l2 y2 z2 st2 hQ2
  subst l2 y2 z2
  obtain ⟨rfl, Nq2, K2⟩ := hQ2
  have N2 := Fr.app N0 Nq2
  refine ogo (S' := T2.setTop (mkF m 12 #[.val (.ref ca_), .val (.int (0 : Int32)), .val (.int (2 : Int32)), .val (.ref b1), .unset, .unset] [(.int (1 : Int32))])) st2 ?_
  refine o_istore X2 hx (l' := #[.val (.ref ca_), .val (.int (0 : Int32)), .val (.int (2 : Int32)), .val (.ref b1), .val (.int (1 : Int32)), .unset]) (hb hby d3_12) rfl ?_
  refine o_iload X2 hx (hb hby d3_14) rfl ?_
  refine o_iloadN X2 hx (hb hby d3_16) rfl ?_
  refine o_icmpNo X2 hx (hb hby d3_17) (feq (by decide : ¬ ((1 : Int32) = (2 : Int32)))).1 ?_
  refine o_aloadN X2 hx (hb hby d3_20) rfl rfl ?_
  refine o_iloadN X2 hx (hb hby d3_21) rfl ?_
  refine o_iloadN X2 hx (hb hby d3_22) rfl ?_
  have c4 := ((pr0.ext E1).keep K2 (ninS (Nat.ne_of_lt (Nat.lt_of_lt_of_le (Nat.lt_of_lt_of_le pr0.lt (Nat.le_refl _)) (Nat.le_of_eq g1.symm))) nin0))
  obtain ⟨_, _, ⟨T3, L3, kc3, n3⟩, -, X3, ⟨Lc3, hQ3, l3, y3, z3⟩, st3⟩ := Jvm.LawKit.callS X2 hx (y := yM7) hown (mvT hZ w92) (mvT hZ w93) (mvT hZ w62) (mvT hZ w94) (by decide) (backOf (W := 0) (rm_tob_2 l Z a0 hw [] z_CS v_FMT ca_ kc_ c0_ c1_ T2.heap n0 SB ((O0.ext E1).keep K2 (allS n0_b1 all0)) c4) hZ w94 w62 (by decide) (by decide)) (g := (mkF m 23 #[.val (.ref ca_), .val (.int (0 : Int32)), .val (.int (2 : Int32)), .val (.ref b1), .val (.int (1 : Int32)), .unset] [(.int (2 : Int32)), (.int (0 : Int32)), (.ref ca_)])) rfl (by rw [hml]; rfl) (argsL := [(.ref ca_), (.int (0 : Int32)), (.int (2 : Int32))]) (rest := []) (lenOf own_pd4 rfl) rfl (by show 2 * 0 + _ ≤ _; exact Nat.le_of_eq rfl) (hb hby d3_23) (fun _ _ => ⟨rfl, rfl, (by decide : 1 + 1 ≤ _), (by decide : 2 + 4 ≤ _)⟩)
  dsimp only [Pt.U, Pt.locs, Pt.cells, Pt.slots] at X3 l3 y3 z3 st3 hQ3
  subst l3 y3 z3
  obtain ⟨ba_3, kb_3, rfl, Nq3, K3, p3_0, p3_1⟩ := hQ3
  have N3 := Fr.app N2 Nq3
  have n0_ba_3 : n0 ≤ ba_3 := Nat.le_trans (Nat.le_trans (Nat.le_of_eq O0.1.symm) O0.2.1) (Nat.le_trans (Nat.le_trans E1.1 K2.1) p3_0)
  refine ogo (S' := T3.setTop (mkF m 26 #[.val (.ref ca_), .val (.int (0 : Int32)), .val (.int (2 : Int32)), .val (.ref b1), .val (.int (1 : Int32)), .unset] [(.ref ba_3)])) st3 ?_
  refine o_astore X3 hx (l' := #[.val (.ref ca_), .val (.int (0 : Int32)), .val (.int (2 : Int32)), .val (.ref b1), .val (.int (1 : Int32)), .val (.ref ba_3)]) (hb hby d3_26) rfl rfl ?_
  refine o_aload X3 hx (hb hby d3_28) rfl rfl ?_
  refine o_iload X3 hx (hb hby d3_30) rfl ?_
  obtain ⟨_, _, ⟨T5, L5, kc5, n5⟩, -, X5, ⟨Lc5, hQ5, l5, y5, z5⟩, st5⟩ := Jvm.LawKit.callS X3 hx (y := yM8) hown (mvT hZ w108) (mvT hZ w109) (mvT hZ w62) (mvT hZ w110) (by decide) (backOf (W := 0) (rm_getch_2_1 l Z a0 hw [] z_CS v_FMT ba_3 kb_3 c0_ c1_ T3.heap n0 SB (((O0.ext E1).keep K2 (allS n0_b1 all0)).keep K3 all0) p3_1 pr1) hZ w110 w62 (by decide) (by decide)) (g := (mkF m 32 #[.val (.ref ca_), .val (.int (0 : Int32)), .val (.int (2 : Int32)), .val (.ref b1), .val (.int (1 : Int32)), .val (.ref ba_3)] [(.int (1 : Int32)), (.ref ba_3)])) rfl (by rw [hml]; rfl) (argsL := [(.ref ba_3), (.int (1 : Int32))]) (rest := []) (lenOf own_pd5 rfl) rfl (by show 2 * 0 + _ ≤ _; exact Nat.le_of_eq rfl) (hb hby d3_32) (fun _ _ => ⟨rfl, rfl, (by decide : 2 + 0 ≤ _), (by decide : 6 + 0 ≤ _)⟩)
  dsimp only [Pt.U, Pt.locs, Pt.cells, Pt.slots] at X5 l5 y5 z5 st5 hQ5
  subst l5 y5 z5
  obtain ⟨rfl, Nq5, e5⟩ := hQ5
  have N5 := Fr.app N3 Nq5
  refine ogo (S' := T5.setTop (mkF m 35 #[.val (.ref ca_), .val (.int (0 : Int32)), .val (.int (2 : Int32)), .val (.ref b1), .val (.int (1 : Int32)), .val (.ref ba_3)] [(.int c1_)])) st5 ?_
  refine o_sipush X5 hx (255 : Int32) (hb hby d3_35) rfl ?_
  refine o_icmpYes X5 hx 54 (hb hby d3_38) (tlt pr3).2.2.1 (by decide) (by decide) ?_
  refine o_aload X5 hx (hb hby d3_54) rfl rfl ?_
  refine oend X5 hlk (v := some (.ref ba_3)) (fun h => by rw [hret] at h; cases h) (fun fs hr => retOut X5 hx (t := (.array .byte)) (i := .areturn) hret rfl (Or.inr (Or.inr (Or.inr (Or.inr ⟨rfl, rfl, rfl⟩)))) (hb hby d3_56) hr) (by decide) (by decide) ?_
  show own_Q_cmp3_2_1 Z _ _ _ _ _ _ h0 n0 _ T5.heap _
  rw [e5]
  exact ⟨ba_3, kb_3, rfl, N5, ((((Keep.refl h0 []).ext E1).trans K2 (allS (Or.inr (Nat.le_trans (Nat.le_refl _) (Nat.le_of_eq g1.symm))) all0)).trans K3 all0), (Nat.le_trans (Nat.le_trans E1.1 K2.1) p3_0), p3_1⟩
def own_Q_new4e_2 (Z : State) (z_CS : Int32) (v_FMT : Value) (x_ : Addr) (ca_ : Addr) (kc_ : ClassId) (c0_ : Int32) (c1_ : Int32) (h0 : Heap) (n0 : Nat) (v : Option Value) (h : Heap) (L : List Loc) : Prop := ∃ ba_ : Addr, ∃ kb_ : ClassId, ∃ cd_ : Int32, ∃ z_ : Int32, ∃ vs_ : List Value, (v = none) ∧ (Fr n0 L) ∧ (Keep h0 h [x_]) ∧ (h0.size ≤ ba_) ∧ (Arv Z h ba_ kb_ .byte z_ vs_ (.int 0)) ∧ (Exa Z h x_ "java/lang/String") ∧ (Fld Z h x_ "java/lang/String" "value" "[B" (.ref ba_)) ∧ (Fld Z h x_ "java/lang/String" "coder" "B" (.int cd_)) ∧ (own_enc2 c0_ c1_ cd_ z_ vs_)
set_option maxRecDepth 65536 in
set_option maxHeartbeats 40000000 in
theorem rm_new4e_2 (l : Launch) (Z : State) (a0 : Array Value) (hw : ∀ d ∈ tables_1, d.before a0 Z = true) (ws : List Jvm.Cond) (z_CS : Int32) (v_FMT : Value) (x_ : Addr) (ca_ : Addr) (kc_ : ClassId) (c0_ : Int32) (c1_ : Int32) (h0 : Heap) (n0 : Nat) (SB : own_Start Z z_CS v_FMT) (O0 : Old Z n0 h0) (pr0 : Exa Z h0 x_ "java/lang/String") (pr1 : Fld Z h0 x_ "java/lang/String" "value" "[B" .null) (pr2 : Fld Z h0 x_ "java/lang/String" "coder" "B" (.int (0 : Int32))) (pr3 : Arv Z h0 ca_ kc_ .char (2 : Int32) [(.int c0_), (.int c1_)] (.int 0)) (pr4 : n0 ≤ x_) (pr5 : own_c16 c0_) (pr6 : own_c16 c1_) :
    oMet l Z yM9 jdk_42_method_149_code 6 none ws ({ frames := 4, cells := 2, slots := 6, locals := 57 } : Room) 2 6 #[(.ref x_), (.ref ca_), (.int (0 : Int32)), (.int (2 : Int32)), .null] h0 (own_Q_new4e_2 Z z_CS v_FMT x_ ca_ kc_ c0_ c1_ h0 n0) := by
  refine oenter own_pn2 #[.val (.ref x_), .val (.ref ca_), .val (.int (0 : Int32)), .val (.int (2 : Int32)), .val .null, .unset] (fun m => by first | (simp [entryFrame, mkF, argsToLocals, Value.category]; done) | rfl) ?_
  intro p e s m below meth c s₁ X0 hx hZ hby hml hret hown0 hnm hlk e0
  have hown : s.vm.findClass "java/lang/String" = some m.cls := hown0
  have N0 := Fr.nil n0
  obtain ⟨S_CS, H_CS, S__assertionsDisabled, S_HI_BYTE_SHIFT, S_LO_BYTE_SHIFT, S_FMT, R_FMT⟩ := (id SB)
  have w6 := hw _ (List.mem_of_getElem? (i := 6) rfl)
  have w16 := hw _ (List.mem_of_getElem? (i := 16) rfl)
  have w17 := hw _ (List.mem_of_getElem? (i := 17) rfl)
  have w18 := hw _ (List.mem_of_getElem? (i := 18) rfl)
  have w21 := hw _ (List.mem_of_getElem? (i := 21) rfl)
  have w22 := hw _ (List.mem_of_getElem? (i := 22) rfl)
  have w25 := hw _ (List.mem_of_getElem? (i := 25) rfl)
  have w26 := hw _ (List.mem_of_getElem? (i := 26) rfl)
  have w37 := hw _ (List.mem_of_getElem? (i := 37) rfl)
  have w60 := hw _ (List.mem_of_getElem? (i := 60) rfl)
  have w61 := hw _ (List.mem_of_getElem? (i := 61) rfl)
  have w62 := hw _ (List.mem_of_getElem? (i := 62) rfl)
  have w63 := hw _ (List.mem_of_getElem? (i := 63) rfl)
  have w67 := hw _ (List.mem_of_getElem? (i := 67) rfl)
  have w68 := hw _ (List.mem_of_getElem? (i := 68) rfl)
  have w69 := hw _ (List.mem_of_getElem? (i := 69) rfl)
  refine o_aloadN X0 hx (hb hby d10_0) rfl rfl ?_
  obtain ⟨T1, X1, e1, st1⟩ := initO X0 hx hZ hown w16 w17 w18 e0 (g := (mkF m 1 #[.val (.ref x_), .val (.ref ca_), .val (.int (0 : Int32)), .val (.int (2 : Int32)), .val .null, .unset] [(.ref x_)])) rfl (by rw [hml]; rfl) rfl (hb hby d10_1) (by decide) (W := 0) (by show 2 * 0 + _ ≤ _; exact Nat.le_of_eq rfl) (by decide)
  refine ogo (S' := T1.setTop (mkF m 4 #[.val (.ref x_), .val (.ref ca_), .val (.int (0 : Int32)), .val (.int (2 : Int32)), .val .null, .unset] [])) st1 ?_
  refine o_iloadN X1 hx (hb hby d10_4) rfl ?_
  refine o_ifYes X1 hx 27 (hb hby d10_5) (feq (by decide : ¬ ((2 : Int32) = (0 : Int32)))).2 (by decide) (by decide) ?_
  obtain ⟨T2, X2, e2, st2⟩ := getS2 X1 hx hZ hown (host := "") (Or.inl w37) Via.refl e1 (Sta.ext O0.2 S_CS) (g := (mkF m 27 #[.val (.ref x_), .val (.ref ca_), .val (.int (0 : Int32)), .val (.int (2 : Int32)), .val .null, .unset] [])) rfl (hb hby d10_27)
  refine ogo (S' := T2.setTop (mkF m 30 #[.val (.ref x_), .val (.ref ca_), .val (.int (0 : Int32)), .val (.int (2 : Int32)), .val .null, .unset] [(.int z_CS)])) st2 ?_
  refine o_ifNo X2 hx (hb hby d10_30) (feq H_CS).1 ?_
  refine o_aloadN X2 hx (hb hby d10_33) rfl rfl ?_
  refine o_iloadN X2 hx (hb hby d10_34) rfl ?_
  refine o_iloadN X2 hx (hb hby d10_35) rfl ?_
  by_cases hc3 : (255 : Int32) < c0_
  · obtain ⟨_, _, ⟨T4, L4, kc4, n4⟩, -, X4, ⟨Lc4, hQ4, l4, y4, z4⟩, st4⟩ := Jvm.LawKit.callS X2 hx (y := yM2) hown (mvT hZ w60) (mvT hZ w61) (mvT hZ w62) (mvT hZ w63) (by decide) (backOf (W := 0) (rm_cmp3_2_0 l Z a0 hw [] z_CS v_FMT ca_ kc_ c0_ c1_ h0 n0 SB O0 pr3 pr5 hc3) hZ w63 w62 (by decide) (by decide)) (g := (mkF m 36 #[.val (.ref x_), .val (.ref ca_), .val (.int (0 : Int32)), .val (.int (2 : Int32)), .val .null, .unset] [(.int (2 : Int32)), (.int (0 : Int32)), (.ref ca_)])) rfl (by rw [hml]; rfl) (argsL := [(.ref ca_), (.int (0 : Int32)), (.int (2 : Int32))]) (rest := []) (lenOf own_pd4 rfl) rfl (by show 2 * 0 + _ ≤ _; exact Nat.le_of_eq rfl) (hb hby d10_36) (fun _ _ => ⟨rfl, e2, (by decide : 0 + 2 ≤ _), (by decide : 0 + 6 ≤ _)⟩)
    dsimp only [Pt.U, Pt.locs, Pt.cells, Pt.slots] at X4 l4 y4 z4 st4 hQ4
    subst l4 y4 z4
    obtain ⟨ba_4, kb_4, rfl, Nq4, K4, p4_0, p4_1⟩ := hQ4
    have N4 := Fr.app N0 Nq4
    have n0_ba_4 : n0 ≤ ba_4 := Nat.le_trans (Nat.le_trans (Nat.le_of_eq O0.1.symm) O0.2.1) (Nat.le_trans (Nat.le_refl _) p4_0)
    refine ogo (S' := T4.setTop (mkF m 39 #[.val (.ref x_), .val (.ref ca_), .val (.int (0 : Int32)), .val (.int (2 : Int32)), .val .null, .unset] [(.ref ba_4)])) st4 ?_
    refine o_astore X4 hx (l' := #[.val (.ref x_), .val (.ref ca_), .val (.int (0 : Int32)), .val (.int (2 : Int32)), .val .null, .val (.ref ba_4)]) (hb hby d10_39) rfl rfl ?_
    refine o_aloadN X4 hx (hb hby d10_41) rfl rfl ?_
    refine o_aload X4 hx (hb hby d10_42) rfl rfl ?_
    refine o_iloadN X4 hx (hb hby d10_44) rfl ?_
    obtain ⟨_, _, ⟨T5, L5, kc5, n5⟩, -, X5, ⟨Lc5, hQ5, l5, y5, z5⟩, st5⟩ := Jvm.LawKit.callS X4 hx (y := yM3) hown (mvT hZ w67) (mvT hZ w68) (mvT hZ w62) (mvT hZ w69) (by decide) (backOf (W := 1) (rm_codl16_2 l Z a0 hw []  ba_4 kb_4 [(.int (c0_ >>> ((0 : Int32) &&& 31)).toInt8.toInt32), (.int (c0_ >>> ((8 : Int32) &&& 31)).toInt8.toInt32), (.int (c1_ >>> ((0 : Int32) &&& 31)).toInt8.toInt32), (.int (c1_ >>> ((8 : Int32) &&& 31)).toInt8.toInt32)] T4.heap n0 (O0.keep K4 all0) p4_1) hZ w69 w62 (by decide) (by decide)) (g := (mkF m 45 #[.val (.ref x_), .val (.ref ca_), .val (.int (0 : Int32)), .val (.int (2 : Int32)), .val .null, .val (.ref ba_4)] [(.int (2 : Int32)), (.ref ba_4), (.ref x_)])) rfl (by rw [hml]; rfl) (argsL := [(.ref ba_4), (.int (2 : Int32))]) (rest := [(.ref x_)]) (lenOf own_pd6 rfl) rfl (by show 2 * 0 + _ ≤ _; exact Nat.le_of_eq rfl) (hb hby d10_45) (fun _ _ => ⟨rfl, rfl, (by decide : 2 + 0 ≤ _), (by decide : 6 + 0 ≤ _)⟩)
    dsimp only [Pt.U, Pt.locs, Pt.cells, Pt.slots] at X5 l5 y5 z5 st5 hQ5
    subst l5 y5 z5
    obtain ⟨rfl, Nq5, e5⟩ := hQ5
    have N5 := Fr.app N4 Nq5
    refine ogo (S' := T5.setTop (mkF m 48 #[.val (.ref x_), .val (.ref ca_), .val (.int (0 : Int32)), .val (.int (2 : Int32)), .val .null, .val (.ref ba_4)] [(.int (1 : Int32)), (.ref x_)])) st5 ?_
    obtain ⟨T6, _, X6, rfl, W6, st6⟩ := putFN X5 hx hZ hown w26 Via.refl e5 (pr2.keep K4 nin0) (pr0.keep K4) (Or.inr ⟨w22, rfl, hnm⟩) w6 (ty := .byte) (v' := (.int (1 : Int32))) (by decide) rfl (by decide) (g := (mkF m 48 #[.val (.ref x_), .val (.ref ca_), .val (.int (0 : Int32)), .val (.int (2 : Int32)), .val .null, .val (.ref ba_4)] [(.int (1 : Int32)), (.ref x_)])) rfl rfl (hb hby d10_48)
    have N6 := Fr.snoc X6 N5 pr4
    have F6 := Fld.same W6 (pr2.keep K4 nin0)
    refine ogo (S' := T6.setTop (mkF m 51 #[.val (.ref x_), .val (.ref ca_), .val (.int (0 : Int32)), .val (.int (2 : Int32)), .val .null, .val (.ref ba_4)] [])) st6 ?_
    refine o_aloadN X6 hx (hb hby d10_51) rfl rfl ?_
    refine o_aload X6 hx (hb hby d10_52) rfl rfl ?_
    have c8 := (Fld.other W6 (pr1.keep K4 nin0) (Or.inr (slot_ne (Or.inr w21) (Or.inr w22) (by decide) (t := (.array .byte)) (t' := .byte) (by decide) (by decide))))
    obtain ⟨T7, _, X7, rfl, W7, st7⟩ := putF X6 hx hZ hown (host := "") (Or.inl w25) Via.refl rfl c8 (Exa.wr W6 (pr0.keep K4)) (Or.inr ⟨w21, rfl, hnm⟩) w6 (ty := (.array .byte)) (by decide) rfl rfl (g := (mkF m 54 #[.val (.ref x_), .val (.ref ca_), .val (.int (0 : Int32)), .val (.int (2 : Int32)), .val .null, .val (.ref ba_4)] [(.ref ba_4), (.ref x_)])) rfl rfl (hb hby d10_54)
    have N7 := Fr.snoc X7 N6 pr4
    have F7 := Fld.same W7 c8
    refine ogo (S' := T7.setTop (mkF m 57 #[.val (.ref x_), .val (.ref ca_), .val (.int (0 : Int32)), .val (.int (2 : Int32)), .val .null, .val (.ref ba_4)] [])) st7 ?_
    have c9 := ((p4_1.other W6 (Nat.ne_of_gt (Nat.lt_of_lt_of_le (Nat.lt_of_lt_of_le pr0.lt (Nat.le_refl _)) p4_0))).other W7 (Nat.ne_of_gt (Nat.lt_of_lt_of_le (Nat.lt_of_lt_of_le pr0.lt (Nat.le_refl _)) p4_0)))
    have c10 := (Fld.other W7 F6 (Or.inr (slot_ne (Or.inr w22) (Or.inr w21) (by decide) (t := .byte) (t' := (.array .byte)) (by decide) (by decide))))
    refine oend X7 hlk (v := none) (fun _ => rfl) (fun fs hr => X7.returnOut hx hret (hb hby d10_57) hr) (by decide) (by decide) ?_
    show own_Q_new4e_2 Z _ _ _ _ _ _ _ h0 n0 _ T7.heap _
    exact ⟨ba_4, kb_4, (1 : Int32), (4 : Int32), [(.int (c0_ >>> ((0 : Int32) &&& 31)).toInt8.toInt32), (.int (c0_ >>> ((8 : Int32) &&& 31)).toInt8.toInt32), (.int (c1_ >>> ((0 : Int32) &&& 31)).toInt8.toInt32), (.int (c1_ >>> ((8 : Int32) &&& 31)).toInt8.toInt32)], rfl, N7, ((((Keep.refl h0 [x_]).trans K4 all0).wr W6 (Or.inl (List.mem_of_getElem? (i := 0) rfl))).wr W7 (Or.inl (List.mem_of_getElem? (i := 0) rfl))), (Nat.le_trans (Nat.le_refl _) p4_0), c9, (Exa.wr W7 (Exa.wr W6 (pr0.keep K4))), F7, c10, (Or.inr ⟨rfl, rfl, rfl⟩)⟩
  · by_cases hc11 : (255 : Int32) < c1_
    · obtain ⟨_, _, ⟨T12, L12, kc12, n12⟩, -, X12, ⟨Lc12, hQ12, l12, y12, z12⟩, st12⟩ := Jvm.LawKit.callS X2 hx (y := yM2) hown (mvT hZ w60) (mvT hZ w61) (mvT hZ w62) (mvT hZ w63) (by decide) (backOf (W := 0) (rm_cmp3_2_1 l Z a0 hw [] z_CS v_FMT ca_ kc_ c0_ c1_ h0 n0 SB O0 pr3 pr6 hc3 hc11) hZ w63 w62 (by decide) (by decide)) (g := (mkF m 36 #[.val (.ref x_), .val (.ref ca_), .val (.int (0 : Int32)), .val (.int (2 : Int32)), .val .null, .unset] [(.int (2 : Int32)), (.int (0 : Int32)), (.ref ca_)])) rfl (by rw [hml]; rfl) (argsL := [(.ref ca_), (.int (0 : Int32)), (.int (2 : Int32))]) (rest := []) (lenOf own_pd4 rfl) rfl (by show 2 * 0 + _ ≤ _; exact Nat.le_of_eq rfl) (hb hby d10_36) (fun _ _ => ⟨rfl, e2, (by decide : 0 + 2 ≤ _), (by decide : 0 + 6 ≤ _)⟩)
      dsimp only [Pt.U, Pt.locs, Pt.cells, Pt.slots] at X12 l12 y12 z12 st12 hQ12
      subst l12 y12 z12
      obtain ⟨ba_12, kb_12, rfl, Nq12, K12, p12_0, p12_1⟩ := hQ12
      have N12 := Fr.app N0 Nq12
      have n0_ba_12 : n0 ≤ ba_12 := Nat.le_trans (Nat.le_trans (Nat.le_of_eq O0.1.symm) O0.2.1) (Nat.le_trans (Nat.le_refl _) p12_0)
      refine ogo (S' := T12.setTop (mkF m 39 #[.val (.ref x_), .val (.ref ca_), .val (.int (0 : Int32)), .val (.int (2 : Int32)), .val .null, .unset] [(.ref ba_12)])) st12 ?_
      refine o_astore X12 hx (l' := #[.val (.ref x_), .val (.ref ca_), .val (.int (0 : Int32)), .val (.int (2 : Int32)), .val .null, .val (.ref ba_12)]) (hb hby d10_39) rfl rfl ?_
      refine o_aloadN X12 hx (hb hby d10_41) rfl rfl ?_
      refine o_aload X12 hx (hb hby d10_42) rfl rfl ?_
      refine o_iloadN X12 hx (hb hby d10_44) rfl ?_
      obtain ⟨_, _, ⟨T13, L13, kc13, n13⟩, -, X13, ⟨Lc13, hQ13, l13, y13, z13⟩, st13⟩ := Jvm.LawKit.callS X12 hx (y := yM3) hown (mvT hZ w67) (mvT hZ w68) (mvT hZ w62) (mvT hZ w69) (by decide) (backOf (W := 1) (rm_codl16_2 l Z a0 hw []  ba_12 kb_12 [(.int (c0_ >>> ((0 : Int32) &&& 31)).toInt8.toInt32), (.int (c0_ >>> ((8 : Int32) &&& 31)).toInt8.toInt32), (.int (c1_ >>> ((0 : Int32) &&& 31)).toInt8.toInt32), (.int (c1_ >>> ((8 : Int32) &&& 31)).toInt8.toInt32)] T12.heap n0 (O0.keep K12 all0) p12_1) hZ w69 w62 (by decide) (by decide)) (g := (mkF m 45 #[.val (.ref x_), .val (.ref ca_), .val (.int (0 : Int32)), .val (.int (2 : Int32)), .val .null, .val (.ref ba_12)] [(.int (2 : Int32)), (.ref ba_12), (.ref x_)])) rfl (by rw [hml]; rfl) (argsL := [(.ref ba_12), (.int (2 : Int32))]) (rest := [(.ref x_)]) (lenOf own_pd6 rfl) rfl (by show 2 * 0 + _ ≤ _; exact Nat.le_of_eq rfl) (hb hby d10_45) (fun _ _ => ⟨rfl, rfl, (by decide : 2 + 0 ≤ _), (by decide : 6 + 0 ≤ _)⟩)
      dsimp only [Pt.U, Pt.locs, Pt.cells, Pt.slots] at X13 l13 y13 z13 st13 hQ13
      subst l13 y13 z13
      obtain ⟨rfl, Nq13, e13⟩ := hQ13
      have N13 := Fr.app N12 Nq13
      refine ogo (S' := T13.setTop (mkF m 48 #[.val (.ref x_), .val (.ref ca_), .val (.int (0 : Int32)), .val (.int (2 : Int32)), .val .null, .val (.ref ba_12)] [(.int (1 : Int32)), (.ref x_)])) st13 ?_
      obtain ⟨T14, _, X14, rfl, W14, st14⟩ := putFN X13 hx hZ hown w26 Via.refl e13 (pr2.keep K12 nin0) (pr0.keep K12) (Or.inr ⟨w22, rfl, hnm⟩) w6 (ty := .byte) (v' := (.int (1 : Int32))) (by decide) rfl (by decide) (g := (mkF m 48 #[.val (.ref x_), .val (.ref ca_), .val (.int (0 : Int32)), .val (.int (2 : Int32)), .val .null, .val (.ref ba_12)] [(.int (1 : Int32)), (.ref x_)])) rfl rfl (hb hby d10_48)
      have N14 := Fr.snoc X14 N13 pr4
      have F14 := Fld.same W14 (pr2.keep K12 nin0)
      refine ogo (S' := T14.setTop (mkF m 51 #[.val (.ref x_), .val (.ref ca_), .val (.int (0 : Int32)), .val (.int (2 : Int32)), .val .null, .val (.ref ba_12)] [])) st14 ?_
      refine o_aloadN X14 hx (hb hby d10_51) rfl rfl ?_
      refine o_aload X14 hx (hb hby d10_52) rfl rfl ?_
      have c16 := (Fld.other W14 (pr1.keep K12 nin0) (Or.inr (slot_ne (Or.inr w21) (Or.inr w22) (by decide) (t := (.array .byte)) (t' := .byte) (by decide) (by decide))))
      obtain ⟨T15, _, X15, rfl, W15, st15⟩ := putF X14 hx hZ hown (host := "") (Or.inl w25) Via.refl rfl c16 (Exa.wr W14 (pr0.keep K12)) (Or.inr ⟨w21, rfl, hnm⟩) w6 (ty := (.array .byte)) (by decide) rfl rfl (g := (mkF m 54 #[.val (.ref x_), .val (.ref ca_), .val (.int (0 : Int32)), .val (.int (2 : Int32)), .val .null, .val (.ref ba_12)] [(.ref ba_12), (.ref x_)])) rfl rfl (hb hby d10_54)
      have N15 := Fr.snoc X15 N14 pr4
      have F15 := Fld.same W15 c16
      refine ogo (S' := T15.setTop (mkF m 57 #[.val (.ref x_), .val (.ref ca_), .val (.int (0 : Int32)), .val (.int (2 : Int32)), .val .null, .val (.ref ba_12)] [])) st15 ?_
      have c17 := ((p12_1.other W14 (Nat.ne_of_gt (Nat.lt_of_lt_of_le (Nat.lt_of_lt_of_le pr0.lt (Nat.le_refl _)) p12_0))).other W15 (Nat.ne_of_gt (Nat.lt_of_lt_of_le (Nat.lt_of_lt_of_le pr0.lt (Nat.le_refl _)) p12_0)))
      have c18 := (Fld.other W15 F14 (Or.inr (slot_ne (Or.inr w22) (Or.inr w21) (by decide) (t := .byte) (t' := (.array .byte)) (by decide) (by decide))))
      refine oend X15 hlk (v := none) (fun _ => rfl) (fun fs hr => X15.returnOut hx hret (hb hby d10_57) hr) (by decide) (by decide) ?_
      show own_Q_new4e_2 Z _ _ _ _ _ _ _ h0 n0 _ T15.heap _
      exact ⟨ba_12, kb_12, (1 : Int32), (4 : Int32), [(.int (c0_ >>> ((0 : Int32) &&& 31)).toInt8.toInt32), (.int (c0_ >>> ((8 : Int32) &&& 31)).toInt8.toInt32), (.int (c1_ >>> ((0 : Int32) &&& 31)).toInt8.toInt32), (.int (c1_ >>> ((8 : Int32) &&& 31)).toInt8.toInt32)], rfl, N15, ((((Keep.refl h0 [x_]).trans K12 all0).wr W14 (Or.inl (List.mem_of_getElem? (i := 0) rfl))).wr W15 (Or.inl (List.mem_of_getElem? (i := 0) rfl))), (Nat.le_trans (Nat.le_refl _) p12_0), c17, (Exa.wr W15 (Exa.wr W14 (pr0.keep K12))), F15, c18, (Or.inr ⟨rfl, rfl, rfl⟩)⟩
    · obtain ⟨_, _, ⟨T19, L19, kc19, n19⟩, -, X19, ⟨Lc19, hQ19, l19, y19, z19⟩, st19⟩ := Jvm.LawKit.callS X2 hx (y := yM2) hown (mvT hZ w60) (mvT hZ w61) (mvT hZ w62) (mvT hZ w63) (by decide) (backOf (W := 0) (rm_cmp3_2 l Z a0 hw []  ca_ kc_ c0_ c1_ h0 n0 O0 pr3 hc3 hc11) hZ w63 w62 (by decide) (by decide)) (g := (mkF m 36 #[.val (.ref x_), .val (.ref ca_), .val (.int (0 : Int32)), .val (.int (2 : Int32)), .val .null, .unset] [(.int (2 : Int32)), (.int (0 : Int32)), (.ref ca_)])) rfl (by rw [hml]; rfl) (argsL := [(.ref ca_), (.int (0 : Int32)), (.int (2 : Int32))]) (rest := []) (lenOf own_pd4 rfl) rfl (by show 2 * 0 + _ ≤ _; exact Nat.le_of_eq rfl) (hb hby d10_36) (fun _ _ => ⟨rfl, e2, (by decide : 0 + 1 ≤ _), (by decide : 0 + 2 ≤ _)⟩)
      dsimp only [Pt.U, Pt.locs, Pt.cells, Pt.slots] at X19 l19 y19 z19 st19 hQ19
      subst l19 y19 z19
      obtain ⟨ba_19, kb_19, rfl, Nq19, K19, p19_0, p19_1⟩ := hQ19
      have N19 := Fr.app N0 Nq19
      have n0_ba_19 : n0 ≤ ba_19 := Nat.le_trans (Nat.le_trans (Nat.le_of_eq O0.1.symm) O0.2.1) (Nat.le_trans (Nat.le_refl _) p19_0)
      refine ogo (S' := T19.setTop (mkF m 39 #[.val (.ref x_), .val (.ref ca_), .val (.int (0 : Int32)), .val (.int (2 : Int32)), .val .null, .unset] [(.ref ba_19)])) st19 ?_
      refine o_astore X19 hx (l' := #[.val (.ref x_), .val (.ref ca_), .val (.int (0 : Int32)), .val (.int (2 : Int32)), .val .null, .val (.ref ba_19)]) (hb hby d10_39) rfl rfl ?_
      refine o_aloadN X19 hx (hb hby d10_41) rfl rfl ?_
      refine o_aload X19 hx (hb hby d10_42) rfl rfl ?_
      refine o_iloadN X19 hx (hb hby d10_44) rfl ?_
      obtain ⟨_, _, ⟨T20, L20, kc20, n20⟩, -, X20, ⟨Lc20, hQ20, l20, y20, z20⟩, st20⟩ := Jvm.LawKit.callS X19 hx (y := yM3) hown (mvT hZ w67) (mvT hZ w68) (mvT hZ w62) (mvT hZ w69) (by decide) (backOf (W := 1) (rm_codl_2 l Z a0 hw []  ba_19 kb_19 [(.int c0_.toInt8.toInt32), (.int c1_.toInt8.toInt32)] T19.heap n0 (O0.keep K19 all0) p19_1) hZ w69 w62 (by decide) (by decide)) (g := (mkF m 45 #[.val (.ref x_), .val (.ref ca_), .val (.int (0 : Int32)), .val (.int (2 : Int32)), .val .null, .val (.ref ba_19)] [(.int (2 : Int32)), (.ref ba_19), (.ref x_)])) rfl (by rw [hml]; rfl) (argsL := [(.ref ba_19), (.int (2 : Int32))]) (rest := [(.ref x_)]) (lenOf own_pd6 rfl) rfl (by show 2 * 0 + _ ≤ _; exact Nat.le_of_eq rfl) (hb hby d10_45) (fun _ _ => ⟨rfl, rfl, (by decide : 1 + 0 ≤ _), (by decide : 2 + 0 ≤ _)⟩)
      dsimp only [Pt.U, Pt.locs, Pt.cells, Pt.slots] at X20 l20 y20 z20 st20 hQ20
      subst l20 y20 z20
      obtain ⟨rfl, Nq20, e20⟩ := hQ20
      have N20 := Fr.app N19 Nq20
      refine ogo (S' := T20.setTop (mkF m 48 #[.val (.ref x_), .val (.ref ca_), .val (.int (0 : Int32)), .val (.int (2 : Int32)), .val .null, .val (.ref ba_19)] [(.int (0 : Int32)), (.ref x_)])) st20 ?_
      obtain ⟨T21, _, X21, rfl, W21, st21⟩ := putFN X20 hx hZ hown w26 Via.refl e20 (pr2.keep K19 nin0) (pr0.keep K19) (Or.inr ⟨w22, rfl, hnm⟩) w6 (ty := .byte) (v' := (.int (0 : Int32))) (by decide) rfl (by decide) (g := (mkF m 48 #[.val (.ref x_), .val (.ref ca_), .val (.int (0 : Int32)), .val (.int (2 : Int32)), .val .null, .val (.ref ba_19)] [(.int (0 : Int32)), (.ref x_)])) rfl rfl (hb hby d10_48)
      have N21 := Fr.snoc X21 N20 pr4
      have F21 := Fld.same W21 (pr2.keep K19 nin0)
      refine ogo (S' := T21.setTop (mkF m 51 #[.val (.ref x_), .val (.ref ca_), .val (.int (0 : Int32)), .val (.int (2 : Int32)), .val .null, .val (.ref ba_19)] [])) st21 ?_
      refine o_aloadN X21 hx (hb hby d10_51) rfl rfl ?_
      refine o_aload X21 hx (hb hby d10_52) rfl rfl ?_
      have c23 := (Fld.other W21 (pr1.keep K19 nin0) (Or.inr (slot_ne (Or.inr w21) (Or.inr w22) (by decide) (t := (.array .byte)) (t' := .byte) (by decide) (by decide))))
      obtain ⟨T22, _, X22, rfl, W22, st22⟩ := putF X21 hx hZ hown (host := "") (Or.inl w25) Via.refl rfl c23 (Exa.wr W21 (pr0.keep K19)) (Or.inr ⟨w21, rfl, hnm⟩) w6 (ty := (.array .byte)) (by decide) rfl rfl (g := (mkF m 54 #[.val (.ref x_), .val (.ref ca_), .val (.int (0 : Int32)), .val (.int (2 : Int32)), .val .null, .val (.ref ba_19)] [(.ref ba_19), (.ref x_)])) rfl rfl (hb hby d10_54)
      have N22 := Fr.snoc X22 N21 pr4
      have F22 := Fld.same W22 c23
      refine ogo (S' := T22.setTop (mkF m 57 #[.val (.ref x_), .val (.ref ca_), .val (.int (0 : Int32)), .val (.int (2 : Int32)), .val .null, .val (.ref ba_19)] [])) st22 ?_
      have c24 := ((p19_1.other W21 (Nat.ne_of_gt (Nat.lt_of_lt_of_le (Nat.lt_of_lt_of_le pr0.lt (Nat.le_refl _)) p19_0))).other W22 (Nat.ne_of_gt (Nat.lt_of_lt_of_le (Nat.lt_of_lt_of_le pr0.lt (Nat.le_refl _)) p19_0)))
      have c25 := (Fld.other W22 F21 (Or.inr (slot_ne (Or.inr w22) (Or.inr w21) (by decide) (t := .byte) (t' := (.array .byte)) (by decide) (by decide))))
      refine oend X22 hlk (v := none) (fun _ => rfl) (fun fs hr => X22.returnOut hx hret (hb hby d10_57) hr) (by decide) (by decide) ?_
      show own_Q_new4e_2 Z _ _ _ _ _ _ _ h0 n0 _ T22.heap _
      exact ⟨ba_19, kb_19, (0 : Int32), (2 : Int32), [(.int c0_.toInt8.toInt32), (.int c1_.toInt8.toInt32)], rfl, N22, ((((Keep.refl h0 [x_]).trans K19 all0).wr W21 (Or.inl (List.mem_of_getElem? (i := 0) rfl))).wr W22 (Or.inl (List.mem_of_getElem? (i := 0) rfl))), (Nat.le_trans (Nat.le_refl _) p19_0), c24, (Exa.wr W22 (Exa.wr W21 (pr0.keep K19))), F22, c25, (Or.inl ⟨hc3, hc11, rfl, rfl, rfl⟩)⟩
def own_Q_new1e_2 (Z : State) (z_CS : Int32) (v_FMT : Value) (x_ : Addr) (ca_ : Addr) (kc_ : ClassId) (c0_ : Int32) (c1_ : Int32) (h0 : Heap) (n0 : Nat) (v : Option Value) (h : Heap) (L : List Loc) : Prop := ∃ ba_ : Addr, ∃ kb_ : ClassId, ∃ cd_ : Int32, ∃ z_ : Int32, ∃ vs_ : List Value, (v = none) ∧ (Fr n0 L) ∧ (Keep h0 h [x_]) ∧ (h0.size ≤ ba_) ∧ (Arv Z h ba_ kb_ .byte z_ vs_ (.int 0)) ∧ (Exa Z h x_ "java/lang/String") ∧ (Fld Z h x_ "java/lang/String" "value" "[B" (.ref ba_)) ∧ (Fld Z h x_ "java/lang/String" "coder" "B" (.int cd_)) ∧ (own_enc2 c0_ c1_ cd_ z_ vs_)
set_option maxRecDepth 65536 in
set_option maxHeartbeats 40000000 in
theorem rm_new1e_2 (l : Launch) (Z : State) (a0 : Array Value) (hw : ∀ d ∈ tables_1, d.before a0 Z = true) (ws : List Jvm.Cond) (z_CS : Int32) (v_FMT : Value) (x_ : Addr) (ca_ : Addr) (kc_ : ClassId) (c0_ : Int32) (c1_ : Int32) (h0 : Heap) (n0 : Nat) (SB : own_Start Z z_CS v_FMT) (O0 : Old Z n0 h0) (pr0 : Exa Z h0 x_ "java/lang/String") (pr1 : Fld Z h0 x_ "java/lang/String" "value" "[B" .null) (pr2 : Fld Z h0 x_ "java/lang/String" "coder" "B" (.int (0 : Int32))) (pr3 : Arv Z h0 ca_ kc_ .char (2 : Int32) [(.int c0_), (.int c1_)] (.int 0)) (pr4 : n0 ≤ x_) (pr5 : own_c16 c0_) (pr6 : own_c16 c1_) :
    oMet l Z yM10 jdk_42_method_3_code 2 none ws ({ frames := 5, cells := 2, slots := 6, locals := 74 } : Room) 2 6 #[(.ref x_), (.ref ca_)] h0 (own_Q_new1e_2 Z z_CS v_FMT x_ ca_ kc_ c0_ c1_ h0 n0) := by
  refine oenter own_pn2 #[.val (.ref x_), .val (.ref ca_)] (fun m => by first | (simp [entryFrame, mkF, argsToLocals, Value.category]; done) | rfl) ?_
  intro p e s m below meth c s₁ X0 hx hZ hby hml hret hown0 hnm hlk e0
  have hown : s.vm.findClass "java/lang/String" = some m.cls := hown0
  have N0 := Fr.nil n0
  obtain ⟨S_CS, H_CS, S__assertionsDisabled, S_HI_BYTE_SHIFT, S_LO_BYTE_SHIFT, S_FMT, R_FMT⟩ := (id SB)
  have w7 := hw _ (List.mem_of_getElem? (i := 7) rfl)
  have w12 := hw _ (List.mem_of_getElem? (i := 12) rfl)
  have w13 := hw _ (List.mem_of_getElem? (i := 13) rfl)
  have w15 := hw _ (List.mem_of_getElem? (i := 15) rfl)
  refine o_aloadN X0 hx (hb hby d11_0) rfl rfl ?_
  refine o_aloadN X0 hx (hb hby d11_1) rfl rfl ?_
  refine o_iconst X0 hx (0 : Int32) (hb hby d11_2) rfl ?_
  refine o_aloadN X0 hx (hb hby d11_3) rfl rfl ?_
  obtain ⟨cl1, Ar1, -, S1, N1z, -, -⟩ := (id pr3)
  refine ogo (S' := s₁.setTop (mkF m 5 #[.val (.ref x_), .val (.ref ca_)] [(.int (2 : Int32)), (.int (0 : Int32)), (.ref ca_), (.ref x_)])) (fun _ kt_ => X0.arraylength hx (by rw [e0]; exact Ar1.1) (State.isArrayOf_alike hZ.alike Ar1.2.1) (g := (mkF m 4 #[.val (.ref x_), .val (.ref ca_)] [(.ref ca_), (.int (0 : Int32)), (.ref ca_), (.ref x_)])) rfl rfl (hb hby d11_4) _ (by rw [len_of S1 N1z]; exact kt_)) ?_
  refine o_aconst_null X0 hx (hb hby d11_5) ?_
  obtain ⟨_, _, ⟨T2, L2, kc2, n2⟩, -, X2, ⟨Lc2, hQ2, l2, y2, z2⟩, st2⟩ := X0.specialBack hx (y := yM9) rfl hown (mvT hZ w12) (mvT hZ w13) (mvT hZ w15) (by decide) (backOf (W := 0) (rm_new4e_2 l Z a0 hw [] z_CS v_FMT x_ ca_ kc_ c0_ c1_ h0 n0 SB O0 pr0 pr1 pr2 pr3 pr4 pr5 pr6) hZ w15 w7 (by decide) (by decide)) (g := (mkF m 6 #[.val (.ref x_), .val (.ref ca_)] [.null, (.int (2 : Int32)), (.int (0 : Int32)), (.ref ca_), (.ref x_)])) rfl (by rw [hml]; rfl) (Steps.refl _) (a := x_) (argsL := [(.ref ca_), (.int (0 : Int32)), (.int (2 : Int32)), .null]) (rest := []) (lenOf own_pd7 rfl) rfl (by show 2 * 0 + _ ≤ _; exact Nat.le_of_eq rfl) (hb hby d11_6) (fun _ _ => ⟨rfl, e0, (by decide : 0 + 2 ≤ _), (by decide : 0 + 6 ≤ _)⟩)
  dsimp only [Pt.U, Pt.locs, Pt.cells, Pt.slots] at X2 l2 y2 z2 st2 hQ2
  subst l2 y2 z2
  obtain ⟨ba_2, kb_2, cd_2, z_2, vs_2, rfl, Nq2, K2, p2_0, p2_1, p2_2, p2_3, p2_4, p2_5⟩ := hQ2
  have N2 := Fr.app N0 Nq2
  have n0_ba_2 : n0 ≤ ba_2 := Nat.le_trans (Nat.le_trans (Nat.le_of_eq O0.1.symm) O0.2.1) (Nat.le_trans (Nat.le_refl _) p2_0)
  refine otr (S' := T2.setTop (mkF m 9 #[.val (.ref x_), .val (.ref ca_)] [])) st2 ?_
  refine oend X2 hlk (v := none) (fun _ => rfl) (fun fs hr => X2.returnOut hx hret (hb hby d11_9) hr) (by decide) (by decide) ?_
  show own_Q_new1e_2 Z _ _ _ _ _ _ _ h0 n0 _ T2.heap _
  exact ⟨ba_2, kb_2, cd_2, z_2, vs_2, rfl, N2, ((Keep.refl h0 [x_]).trans K2 (allS (Or.inl (List.mem_of_getElem? (i := 0) rfl)) all0)), (Nat.le_trans (Nat.le_refl _) p2_0), p2_1, p2_2, p2_3, p2_4, p2_5⟩
def own_Q_cmp5_3 (Z : State)  (ca_ : Addr) (kc_ : ClassId) (ba_ : Addr) (kb_ : ClassId) (c0_ : Int32) (c1_ : Int32) (c2_ : Int32) (h0 : Heap) (n0 : Nat) (v : Option Value) (h : Heap) (L : List Loc) : Prop := (v = some (.int (3 : Int32))) ∧ (Fr n0 L) ∧ (Keep h0 h [ba_]) ∧ (Arv Z h ba_ kb_ .byte (3 : Int32) [(.int c0_.toInt8.toInt32), (.int c1_.toInt8.toInt32), (.int c2_.toInt8.toInt32)] (.int 0))
set_option maxRecDepth 65536 in
set_option maxHeartbeats 40000000 in
theorem rm_cmp5_3 (l : Launch) (Z : State) (a0 : Array Value) (hw : ∀ d ∈ tables_1, d.before a0 Z = true) (ws : List Jvm.Cond)  (ca_ : Addr) (kc_ : ClassId) (ba_ : Addr) (kb_ : ClassId) (c0_ : Int32) (c1_ : Int32) (c2_ : Int32) (h0 : Heap) (n0 : Nat) (O0 : Old Z n0 h0) (pr0 : Arv Z h0 ca_ kc_ .char (3 : Int32) [(.int c0_), (.int c1_), (.int c2_)] (.int 0)) (pr1 : Arv Z h0 ba_ kb_ .byte (3 : Int32) [(.int 0), (.int 0), (.int 0)] (.int 0)) (pr2 : ca_ ≠ ba_) (pr3 : n0 ≤ ba_) (pr4 : ¬ ((255 : Int32) < c0_)) (pr5 : ¬ ((255 : Int32) < c1_)) (pr6 : ¬ ((255 : Int32) < c2_)) :
    oMet l Z yM1 jdk_52_method_21_code 7 (some .int) ws ({ frames := 0, cells := 0, slots := 0, locals := 0 } : Room) 0 0 #[(.ref ca_), (.int (0 : Int32)), (.ref ba_), (.int (0 : Int32)), (.int (3 : Int32))] h0 (own_Q_cmp5_3 Z  ca_ kc_ ba_ kb_ c0_ c1_ c2_ h0 n0) := by
  refine oenter own_pn1 #[.val (.ref ca_), .val (.int (0 : Int32)), .val (.ref ba_), .val (.int (0 : Int32)), .val (.int (3 : Int32)), .unset, .unset] (fun m => by first | (simp [entryFrame, mkF, argsToLocals, Value.category]; done) | rfl) ?_
  intro p e s m below meth c s₁ X0 hx hZ hby hml hret hown0 hnm hlk e0
  have hown : s.vm.findClass "java/lang/StringUTF16" = some m.cls := hown0
  have N0 := Fr.nil n0
  refine o_iconst X0 hx (0 : Int32) (hb hby d2_0) rfl ?_
  refine o_istore X0 hx (l' := #[.val (.ref ca_), .val (.int (0 : Int32)), .val (.ref ba_), .val (.int (0 : Int32)), .val (.int (3 : Int32)), .val (.int (0 : Int32)), .unset]) (hb hby d2_1) rfl ?_
  refine o_iload X0 hx (hb hby d2_3) rfl ?_
  refine o_iload X0 hx (hb hby d2_5) rfl ?_
  refine o_icmpNo X0 hx (hb hby d2_7) (tlt (by decide : (0 : Int32) < (3 : Int32))).2.1 ?_
  refine o_aloadN X0 hx (hb hby d2_10) rfl rfl ?_
  refine o_iloadN X0 hx (hb hby d2_11) rfl ?_
  obtain ⟨cl1, Ar1, q1, S1, N1z, H1, G1⟩ := (id pr0)
  have hi1 := inb_of (j := (0 : Int32)) S1 ⟨by decide, by decide⟩
  have ha1 := Has.at (v := (.int c0_)) H1 hi1 rfl
  refine ogo (S' := s₁.setTop (mkF m 13 #[.val (.ref ca_), .val (.int (0 : Int32)), .val (.ref ba_), .val (.int (0 : Int32)), .val (.int (3 : Int32)), .val (.int (0 : Int32)), .unset] [(.int c0_)])) (X0.caload hx (j := (0 : Int32)) (v := (.int c0_)) (by rw [e0]; exact Ar1.1) (State.isArrayOf_alike hZ.alike Ar1.2.1) Ar1.2.2 hi1 ha1 (g := (mkF m 12 #[.val (.ref ca_), .val (.int (0 : Int32)), .val (.ref ba_), .val (.int (0 : Int32)), .val (.int (3 : Int32)), .val (.int (0 : Int32)), .unset] [(.int (0 : Int32)), (.ref ca_)])) rfl rfl (hb hby d2_12)) ?_
  refine o_istore X0 hx (l' := #[.val (.ref ca_), .val (.int (0 : Int32)), .val (.ref ba_), .val (.int (0 : Int32)), .val (.int (3 : Int32)), .val (.int (0 : Int32)), .val (.int c0_)]) (hb hby d2_13) rfl ?_
  refine o_iload X0 hx (hb hby d2_15) rfl ?_
  refine o_sipush X0 hx (255 : Int32) (hb hby d2_17) rfl ?_
  refine o_icmpYes X0 hx 26 (hb hby d2_20) (flt pr4).2.2.2 (by decide) (by decide) ?_
  refine o_aloadN X0 hx (hb hby d2_26) rfl rfl ?_
  refine o_iloadN X0 hx (hb hby d2_27) rfl ?_
  refine o_iload X0 hx (hb hby d2_28) rfl ?_
  refine o_i2b X0 hx (hb hby d2_30) ?_
  obtain ⟨cl2, Ar2, q2, S2, N2z, H2, G2⟩ := (id pr1)
  obtain ⟨T2, _, X2, rfl, W2, st2⟩ := stB X0 hx hZ e0 Ar2 (j := (0 : Int32)) (inb_of S2 ⟨by decide, by decide⟩) (g := (mkF m 31 #[.val (.ref ca_), .val (.int (0 : Int32)), .val (.ref ba_), .val (.int (0 : Int32)), .val (.int (3 : Int32)), .val (.int (0 : Int32)), .val (.int c0_)] [(.int c0_.toInt8.toInt32), (.int (0 : Int32)), (.ref ba_)])) rfl rfl (hb hby d2_31)
  rw [own_narb] at W2
  have V2 : Arv Z T2.heap ba_ kb_ .byte (3 : Int32) [(.int c0_.toInt8.toInt32), (.int 0), (.int 0)] (.int 0) := Arv.set Ar2 q2 S2 N2z H2 G2 (fits_nar_byte _) W2 0 rfl (Nat.le_of_ble_eq_true rfl)
  have N2 := Fr.snoc X2 N0 pr3
  refine ogo (S' := T2.setTop (mkF m 32 #[.val (.ref ca_), .val (.int (0 : Int32)), .val (.ref ba_), .val (.int (0 : Int32)), .val (.int (3 : Int32)), .val (.int (0 : Int32)), .val (.int c0_)] [])) st2 ?_
  refine o_iinc X2 hx (l' := #[.val (.ref ca_), .val (.int (1 : Int32)), .val (.ref ba_), .val (.int (0 : Int32)), .val (.int (3 : Int32)), .val (.int (0 : Int32)), .val (.int c0_)]) (hb hby d2_32) rfl rfl ?_
  refine o_iinc X2 hx (l' := #[.val (.ref ca_), .val (.int (1 : Int32)), .val (.ref ba_), .val (.int (1 : Int32)), .val (.int (3 : Int32)), .val (.int (0 : Int32)), .val (.int c0_)]) (hb hby d2_35) rfl rfl ?_
  refine o_iinc X2 hx (l' := #[.val (.ref ca_), .val (.int (1 : Int32)), .val (.ref ba_), .val (.int (1 : Int32)), .val (.int (3 : Int32)), .val (.int (1 : Int32)), .val (.int c0_)]) (hb hby d2_38) rfl rfl ?_
  refine o_goto X2 hx 3 (hb hby d2_41) (by decide) (by decide) ?_
  refine o_iload X2 hx (hb hby d2_3) rfl ?_
  refine o_iload X2 hx (hb hby d2_5) rfl ?_
  refine o_icmpNo X2 hx (hb hby d2_7) (tlt (by decide : (1 : Int32) < (3 : Int32))).2.1 ?_
  refine o_aloadN X2 hx (hb hby d2_10) rfl rfl ?_
  refine o_iloadN X2 hx (hb hby d2_11) rfl ?_
  obtain ⟨cl3, Ar3, q3, S3, N3z, H3, G3⟩ := (id (pr0.other W2 pr2))
  have hi3 := inb_of (j := (1 : Int32)) S3 ⟨by decide, by decide⟩
  have ha3 := Has.at (v := (.int c1_)) H3 hi3 rfl
  refine ogo (S' := T2.setTop (mkF m 13 #[.val (.ref ca_), .val (.int (1 : Int32)), .val (.ref ba_), .val (.int (1 : Int32)), .val (.int (3 : Int32)), .val (.int (1 : Int32)), .val (.int c0_)] [(.int c1_)])) (X2.caload hx (j := (1 : Int32)) (v := (.int c1_)) Ar3.1 (State.isArrayOf_alike hZ.alike Ar3.2.1) Ar3.2.2 hi3 ha3 (g := (mkF m 12 #[.val (.ref ca_), .val (.int (1 : Int32)), .val (.ref ba_), .val (.int (1 : Int32)), .val (.int (3 : Int32)), .val (.int (1 : Int32)), .val (.int c0_)] [(.int (1 : Int32)), (.ref ca_)])) rfl rfl (hb hby d2_12)) ?_
  refine o_istore X2 hx (l' := #[.val (.ref ca_), .val (.int (1 : Int32)), .val (.ref ba_), .val (.int (1 : Int32)), .val (.int (3 : Int32)), .val (.int (1 : Int32)), .val (.int c1_)]) (hb hby d2_13) rfl ?_
  refine o_iload X2 hx (hb hby d2_15) rfl ?_
  refine o_sipush X2 hx (255 : Int32) (hb hby d2_17) rfl ?_
  refine o_icmpYes X2 hx 26 (hb hby d2_20) (flt pr5).2.2.2 (by decide) (by decide) ?_
  refine o_aloadN X2 hx (hb hby d2_26) rfl rfl ?_
  refine o_iloadN X2 hx (hb hby d2_27) rfl ?_
  refine o_iload X2 hx (hb hby d2_28) rfl ?_
  refine o_i2b X2 hx (hb hby d2_30) ?_
  obtain ⟨cl4, Ar4, q4, S4, N4z, H4, G4⟩ := (id V2)
  obtain ⟨T4, _, X4, rfl, W4, st4⟩ := stB X2 hx hZ rfl Ar4 (j := (1 : Int32)) (inb_of S4 ⟨by decide, by decide⟩) (g := (mkF m 31 #[.val (.ref ca_), .val (.int (1 : Int32)), .val (.ref ba_), .val (.int (1 : Int32)), .val (.int (3 : Int32)), .val (.int (1 : Int32)), .val (.int c1_)] [(.int c1_.toInt8.toInt32), (.int (1 : Int32)), (.ref ba_)])) rfl rfl (hb hby d2_31)
  rw [own_narb] at W4
  have V4 : Arv Z T4.heap ba_ kb_ .byte (3 : Int32) [(.int c0_.toInt8.toInt32), (.int c1_.toInt8.toInt32), (.int 0)] (.int 0) := Arv.set Ar4 q4 S4 N4z H4 G4 (fits_nar_byte _) W4 1 rfl (Nat.le_of_ble_eq_true rfl)
  have N4 := Fr.snoc X4 N2 pr3
  refine ogo (S' := T4.setTop (mkF m 32 #[.val (.ref ca_), .val (.int (1 : Int32)), .val (.ref ba_), .val (.int (1 : Int32)), .val (.int (3 : Int32)), .val (.int (1 : Int32)), .val (.int c1_)] [])) st4 ?_
  refine o_iinc X4 hx (l' := #[.val (.ref ca_), .val (.int (2 : Int32)), .val (.ref ba_), .val (.int (1 : Int32)), .val (.int (3 : Int32)), .val (.int (1 : Int32)), .val (.int c1_)]) (hb hby d2_32) rfl rfl ?_
  refine o_iinc X4 hx (l' := #[.val (.ref ca_), .val (.int (2 : Int32)), .val (.ref ba_), .val (.int (2 : Int32)), .val (.int (3 : Int32)), .val (.int (1 : Int32)), .val (.int c1_)]) (hb hby d2_35) rfl rfl ?_
  refine o_iinc X4 hx (l' := #[.val (.ref ca_), .val (.int (2 : Int32)), .val (.ref ba_), .val (.int (2 : Int32)), .val (.int (3 : Int32)), .val (.int (2 : Int32)), .val (.int c1_)]) (hb hby d2_38) rfl rfl ?_
  refine o_goto X4 hx 3 (hb hby d2_41) (by decide) (by decide) ?_
  refine o_iload X4 hx (hb hby d2_3) rfl ?_
  refine o_iload X4 hx (hb hby d2_5) rfl ?_
  refine o_icmpNo X4 hx (hb hby d2_7) (tlt (by decide : (2 : Int32) < (3 : Int32))).2.1 ?_
  refine o_aloadN X4 hx (hb hby d2_10) rfl rfl ?_
  refine o_iloadN X4 hx (hb hby d2_11) rfl ?_
  obtain ⟨cl5, Ar5, q5, S5, N5z, H5, G5⟩ := (id ((pr0.other W2 pr2).other W4 pr2))
  have hi5 := inb_of (j := (2 : Int32)) S5 ⟨by decide, by decide⟩
  have ha5 := Has.at (v := (.int c2_)) H5 hi5 rfl
  refine ogo (S' := T4.setTop (mkF m 13 #[.val (.ref ca_), .val (.int (2 : Int32)), .val (.ref ba_), .val (.int (2 : Int32)), .val (.int (3 : Int32)), .val (.int (2 : Int32)), .val (.int c1_)] [(.int c2_)])) (X4.caload hx (j := (2 : Int32)) (v := (.int c2_)) Ar5.1 (State.isArrayOf_alike hZ.alike Ar5.2.1) Ar5.2.2 hi5 ha5 (g := (mkF m 12 #[.val (.ref ca_), .val (.int (2 : Int32)), .val (.ref ba_), .val (.int (2 : Int32)), .val (.int (3 : Int32)), .val (.int (2 : Int32)), .val (.int c1_)] [(.int (2 : Int32)), (.ref ca_)])) rfl rfl (hb hby d2_12)) ?_
  refine o_istore X4 hx (l' := #[.val (.ref ca_), .val (.int (2 : Int32)), .val (.ref ba_), .val (.int (2 : Int32)), .val (.int (3 : Int32)), .val (.int (2 : Int32)), .val (.int c2_)]) (hb hby d2_13) rfl ?_
  refine o_iload X4 hx (hb hby d2_15) rfl ?_
  refine o_sipush X4 hx (255 : Int32) (hb hby d2_17) rfl ?_
  refine o_icmpYes X4 hx 26 (hb hby d2_20) (flt pr6).2.2.2 (by decide) (by decide) ?_
  refine o_aloadN X4 hx (hb hby d2_26) rfl rfl ?_
  refine o_iloadN X4 hx (hb hby d2_27) rfl ?_
  refine o_iload X4 hx (hb hby d2_28) rfl ?_
  refine o_i2b X4 hx (hb hby d2_30) ?_
  obtain ⟨cl6, Ar6, q6, S6, N6z, H6, G6⟩ := (id V4)
  obtain ⟨T6, _, X6, rfl, W6, st6⟩ := stB X4 hx hZ rfl Ar6 (j := (2 : Int32)) (inb_of S6 ⟨by decide, by decide⟩) (g := (mkF m 31 #[.val (.ref ca_), .val (.int (2 : Int32)), .val (.ref ba_), .val (.int (2 : Int32)), .val (.int (3 : Int32)), .val (.int (2 : Int32)), .val (.int c2_)] [(.int c2_.toInt8.toInt32), (.int (2 : Int32)), (.ref ba_)])) rfl rfl (hb hby d2_31)
  rw [own_narb] at W6
  have V6 : Arv Z T6.heap ba_ kb_ .byte (3 : Int32) [(.int c0_.toInt8.toInt32), (.int c1_.toInt8.toInt32), (.int c2_.toInt8.toInt32)] (.int 0) := Arv.set Ar6 q6 S6 N6z H6 G6 (fits_nar_byte _) W6 2 rfl (Nat.le_of_ble_eq_true rfl)
  have N6 := Fr.snoc X6 N4 pr3
  refine ogo (S' := T6.setTop (mkF m 32 #[.val (.ref ca_), .val (.int (2 : Int32)), .val (.ref ba_), .val (.int (2 : Int32)), .val (.int (3 : Int32)), .val (.int (2 : Int32)), .val (.int c2_)] [])) st6 ?_
  refine o_iinc X6 hx (l' := #[.val (.ref ca_), .val (.int (3 : Int32)), .val (.ref ba_), .val (.int (2 : Int32)), .val (.int (3 : Int32)), .val (.int (2 : Int32)), .val (.int c2_)]) (hb hby d2_32) rfl rfl ?_
  refine o_iinc X6 hx (l' := #[.val (.ref ca_), .val (.int (3 : Int32)), .val (.ref ba_), .val (.int (3 : Int32)), .val (.int (3 : Int32)), .val (.int (2 : Int32)), .val (.int c2_)]) (hb hby d2_35) rfl rfl ?_
  refine o_iinc X6 hx (l' := #[.val (.ref ca_), .val (.int (3 : Int32)), .val (.ref ba_), .val (.int (3 : Int32)), .val (.int (3 : Int32)), .val (.int (3 : Int32)), .val (.int c2_)]) (hb hby d2_38) rfl rfl ?_
  refine o_goto X6 hx 3 (hb hby d2_41) (by decide) (by decide) ?_
  refine o_iload X6 hx (hb hby d2_3) rfl ?_
  refine o_iload X6 hx (hb hby d2_5) rfl ?_
  refine o_icmpYes X6 hx 44 (hb hby d2_7) (flt (by decide : ¬ ((3 : Int32) < (3 : Int32)))).2.1 (by decide) (by decide) ?_
  refine o_iload X6 hx (hb hby d2_44) rfl ?_
  refine oend X6 hlk (v := some (.int (3 : Int32))) (fun h => by rw [hret] at h; cases h) (fun fs hr => retOut X6 hx (t := .int) (i := .ireturn) hret rfl (Or.inl ⟨rfl, Or.inl rfl, _, rfl⟩) (hb hby d2_46) hr) (by decide) (by decide) ?_
  show own_Q_cmp5_3 Z _ _ _ _ _ _ _ h0 n0 _ T6.heap _
  exact ⟨rfl, N6, ((((Keep.refl h0 [ba_]).wr W2 (Or.inl (List.mem_of_getElem? (i := 0) rfl))).wr W4 (Or.inl (List.mem_of_getElem? (i := 0) rfl))).wr W6 (Or.inl (List.mem_of_getElem? (i := 0) rfl))), V6⟩
def own_Q_cmp3_3 (Z : State)  (ca_ : Addr) (kc_ : ClassId) (c0_ : Int32) (c1_ : Int32) (c2_ : Int32) (h0 : Heap) (n0 : Nat) (v : Option Value) (h : Heap) (L : List Loc) : Prop := ∃ ba_ : Addr, ∃ kb_ : ClassId, (v = some (.ref ba_)) ∧ (Fr n0 L) ∧ (Keep h0 h []) ∧ (h0.size ≤ ba_) ∧ (Arv Z h ba_ kb_ .byte (3 : Int32) [(.int c0_.toInt8.toInt32), (.int c1_.toInt8.toInt32), (.int c2_.toInt8.toInt32)] (.int 0))
set_option maxRecDepth 65536 in
set_option maxHeartbeats 40000000 in
theorem rm_cmp3_3 (l : Launch) (Z : State) (a0 : Array Value) (hw : ∀ d ∈ tables_1, d.before a0 Z = true) (ws : List Jvm.Cond)  (ca_ : Addr) (kc_ : ClassId) (c0_ : Int32) (c1_ : Int32) (c2_ : Int32) (h0 : Heap) (n0 : Nat) (O0 : Old Z n0 h0) (pr0 : Arv Z h0 ca_ kc_ .char (3 : Int32) [(.int c0_), (.int c1_), (.int c2_)] (.int 0)) (pr1 : ¬ ((255 : Int32) < c0_)) (pr2 : ¬ ((255 : Int32) < c1_)) (pr3 : ¬ ((255 : Int32) < c2_)) :
    oMet l Z yM2 jdk_52_method_16_code 6 (some (.array .byte)) ws ({ frames := 1, cells := 1, slots := 3, locals := 18 } : Room) 1 3 #[(.ref ca_), (.int (0 : Int32)), (.int (3 : Int32))] h0 (own_Q_cmp3_3 Z  ca_ kc_ c0_ c1_ c2_ h0 n0) := by
  refine oenter own_pn1 #[.val (.ref ca_), .val (.int (0 : Int32)), .val (.int (3 : Int32)), .unset, .unset, .unset] (fun m => by first | (simp [entryFrame, mkF, argsToLocals, Value.category]; done) | rfl) ?_
  intro p e s m below meth c s₁ X0 hx hZ hby hml hret hown0 hnm hlk e0
  have hown : s.vm.findClass "java/lang/StringUTF16" = some m.cls := hown0
  have N0 := Fr.nil n0
  have w20 := hw _ (List.mem_of_getElem? (i := 20) rfl)
  have w62 := hw _ (List.mem_of_getElem? (i := 62) rfl)
  have w64 := hw _ (List.mem_of_getElem? (i := 64) rfl)
  have w65 := hw _ (List.mem_of_getElem? (i := 65) rfl)
  have w66 := hw _ (List.mem_of_getElem? (i := 66) rfl)
  refine o_iloadN X0 hx (hb hby d3_0) rfl ?_
  obtain ⟨T1, _, k1, X1, rfl, E1, A1, Ex1, st1⟩ := newPE (aty := .byte) X0 hx hZ w20 e0 (g := (mkF m 1 #[.val (.ref ca_), .val (.int (0 : Int32)), .val (.int (3 : Int32)), .unset, .unset, .unset] [(.int (3 : Int32))])) rfl (hb hby d3_1) rfl (by decide) (cap := 3) (by decide) (by decide) (by decide) (by decide) (ad := "[B") rfl
  obtain ⟨b1, g1⟩ : ∃ z, z = h0.size := ⟨_, rfl⟩
  rw [← g1] at A1 Ex1 st1
  have n0_b1 : n0 ≤ b1 := Nat.le_trans (Nat.le_trans (Nat.le_of_eq O0.1.symm) O0.2.1) (Nat.le_trans (Nat.le_refl _) (Nat.le_of_eq g1.symm))
  have V1 : Arv Z T1.heap b1 k1 .byte (3 : Int32) [(.int 0), (.int 0), (.int 0)] (.int 0) := (Arv.new A1 (by decide)).pad (pad_rep [] (.int 0) 3)
  refine ogo (S' := T1.setTop (mkF m 3 #[.val (.ref ca_), .val (.int (0 : Int32)), .val (.int (3 : Int32)), .unset, .unset, .unset] [(.ref b1)])) st1 ?_
  refine o_astoreN X1 hx (l' := #[.val (.ref ca_), .val (.int (0 : Int32)), .val (.int (3 : Int32)), .val (.ref b1), .unset, .unset]) (hb hby d3_3) rfl rfl ?_
  refine o_aloadN X1 hx (hb hby d3_4) rfl rfl ?_
  refine o_iloadN X1 hx (hb hby d3_5) rfl ?_
  refine o_aloadN X1 hx (hb hby d3_6) rfl rfl ?_
  refine o_iconst X1 hx (0 : Int32) (hb hby d3_7) rfl ?_
  refine o_iloadN X1 hx (hb hby d3_8) rfl ?_
  obtain ⟨_, _, ⟨T2, L2, kc2, n2⟩, -, X2, ⟨Lc2, hQ2, l2, y2, z2⟩, st2⟩ := Jvm.LawKit.callS X1 hx (y := yM1) hown (mvT hZ w64) (mvT hZ w65) (mvT hZ w62) (mvT hZ w66) (by decide) (backOf (W := 0) (rm_cmp5_3 l Z a0 hw []  ca_ kc_ b1 k1 c0_ c1_ c2_ T1.heap n0 (O0.ext E1) (pr0.ext E1) V1 (Nat.ne_of_lt (Nat.lt_of_lt_of_le (Nat.lt_of_lt_of_le pr0.lt (Nat.le_refl _)) (Nat.le_of_eq g1.symm))) n0_b1 pr1 pr2 pr3) hZ w66 w62 (by decide) (by decide)) (g := (mkF m 9 #[.val (.ref ca_), .val (.int (0 : Int32)), .val (.int (3 : Int32)), .val (.ref b1), .unset, .unset] [(.int (3 : Int32)), (.int (0 : Int32)), (.ref b1), (.int (0 : Int32)), (.ref ca_)])) rfl (by rw [hml]; rfl) (argsL := [(.ref ca_), (.int (0 : Int32)), (.ref b1), (.int (0 : Int32)), (.int (3 : Int32))]) (rest := []) (lenOf own_pd0 rfl) rfl (by show 2 * 0 + _ ≤ _; exact Nat.le_of_eq rfl) (hb hby d3_9) (fun _ _ => ⟨rfl, rfl, (by decide : 1 + 0 ≤ _), (by decide : 3 + 0 ≤ _)⟩)
  dsimp only [Pt.U, Pt.locs, Pt.cells, Pt.slots] at X2 l2 y2 z2 st2 hQ2
  subst l2 y2 z2
  obtain ⟨rfl, Nq2, K2, p2_0⟩ := hQ2
  have N2 := Fr.app N0 Nq2
  refine ogo (S' := T2.setTop (mkF m 12 #[.val (.ref ca_), .val (.int (0 : Int32)), .val (.int (3 : Int32)), .val (.ref b1), .unset, .unset] [(.int (3 : Int32))])) st2 ?_
  refine o_istore X2 hx (l' := #[.val (.ref ca_), .val (.int (0 : Int32)), .val (.int (3 : Int32)), .val (.ref b1), .val (.int (3 : Int32)), .unset]) (hb hby d3_12) rfl ?_
  refine o_iload X2 hx (hb hby d3_14) rfl ?_
  refine o_iloadN X2 hx (hb hby d3_16) rfl ?_
  refine o_icmpYes X2 hx 57 (hb hby d3_17) (teq (by decide : (3 : Int32) = (3 : Int32))).1 (by decide) (by decide) ?_
  refine o_aloadN X2 hx (hb hby d3_57) rfl rfl ?_
  refine oend X2 hlk (v := some (.ref b1)) (fun h => by rw [hret] at h; cases h) (fun fs hr => retOut X2 hx (t := (.array .byte)) (i := .areturn) hret rfl (Or.inr (Or.inr (Or.inr (Or.inr ⟨rfl, rfl, rfl⟩)))) (hb hby d3_58) hr) (by decide) (by decide) ?_
  show own_Q_cmp3_3 Z _ _ _ _ _ h0 n0 _ T2.heap _
  exact ⟨b1, k1, rfl, N2, (((Keep.refl h0 []).ext E1).trans K2 (allS (Or.inr (Nat.le_trans (Nat.le_refl _) (Nat.le_of_eq g1.symm))) all0)), (Nat.le_trans (Nat.le_refl _) (Nat.le_of_eq g1.symm)), p2_0⟩
def own_Q_codl_3 (Z : State)  (ba_ : Addr) (kb_ : ClassId) (vs_ : List Value) (h0 : Heap) (n0 : Nat) (v : Option Value) (h : Heap) (L : List Loc) : Prop := (v = some (.int (0 : Int32))) ∧ (Fr n0 L) ∧ (h = h0)
set_option maxRecDepth 65536 in
set_option maxHeartbeats 40000000 in
theorem rm_codl_3 (l : Launch) (Z : State) (a0 : Array Value) (hw : ∀ d ∈ tables_1, d.before a0 Z = true) (ws : List Jvm.Cond)  (ba_ : Addr) (kb_ : ClassId) (vs_ : List Value) (h0 : Heap) (n0 : Nat) (O0 : Old Z n0 h0) (pr0 : Arv Z h0 ba_ kb_ .byte (3 : Int32) vs_ (.int 0)) :
    oMet l Z yM3 jdk_52_method_15_code 2 (some .byte) ws ({ frames := 0, cells := 0, slots := 0, locals := 0 } : Room) 0 0 #[(.ref ba_), (.int (3 : Int32))] h0 (own_Q_codl_3 Z  ba_ kb_ vs_ h0 n0) := by
  refine oenter own_pn1 #[.val (.ref ba_), .val (.int (3 : Int32))] (fun m => by first | (simp [entryFrame, mkF, argsToLocals, Value.category]; done) | rfl) ?_
  intro p e s m below meth c s₁ X0 hx hZ hby hml hret hown0 hnm hlk e0
  have hown : s.vm.findClass "java/lang/StringUTF16" = some m.cls := hown0
  have N0 := Fr.nil n0
  refine o_iloadN X0 hx (hb hby d4_0) rfl ?_
  refine o_aloadN X0 hx (hb hby d4_1) rfl rfl ?_
  obtain ⟨cl1, Ar1, -, S1, N1z, -, -⟩ := (id pr0)
  refine ogo (S' := s₁.setTop (mkF m 3 #[.val (.ref ba_), .val (.int (3 : Int32))] [(.int (3 : Int32)), (.int (3 : Int32))])) (fun _ kt_ => X0.arraylength hx (by rw [e0]; exact Ar1.1) (State.isArrayOf_alike hZ.alike Ar1.2.1) (g := (mkF m 2 #[.val (.ref ba_), .val (.int (3 : Int32))] [(.ref ba_), (.int (3 : Int32))])) rfl rfl (hb hby d4_2) _ (by rw [len_of S1 N1z]; exact kt_)) ?_
  refine o_isub X0 hx (hb hby d4_3) ?_
  refine o_bipush X0 hx (31 : Int32) (hb hby d4_4) rfl ?_
  refine o_iushr X0 hx (hb hby d4_6) ?_
  refine o_i2b X0 hx (hb hby d4_7) ?_
  refine oend X0 hlk (v := some (.int (0 : Int32))) (fun h => by rw [hret] at h; cases h) (fun fs hr => retN X0 hx (t := .byte) hret (by simp) (hb hby d4_8) hr) (by decide) (by decide) ?_
  show own_Q_codl_3 Z _ _ _ h0 n0 _ s₁.heap _
  rw [e0]
  exact ⟨rfl, N0, rfl⟩
def own_Q_codl16_3 (Z : State)  (ba_ : Addr) (kb_ : ClassId) (vs_ : List Value) (h0 : Heap) (n0 : Nat) (v : Option Value) (h : Heap) (L : List Loc) : Prop := (v = some (.int (1 : Int32))) ∧ (Fr n0 L) ∧ (h = h0)
set_option maxRecDepth 65536 in
set_option maxHeartbeats 40000000 in
theorem rm_codl16_3 (l : Launch) (Z : State) (a0 : Array Value) (hw : ∀ d ∈ tables_1, d.before a0 Z = true) (ws : List Jvm.Cond)  (ba_ : Addr) (kb_ : ClassId) (vs_ : List Value) (h0 : Heap) (n0 : Nat) (O0 : Old Z n0 h0) (pr0 : Arv Z h0 ba_ kb_ .byte (6 : Int32) vs_ (.int 0)) :
    oMet l Z yM3 jdk_52_method_15_code 2 (some .byte) ws ({ frames := 0, cells := 0, slots := 0, locals := 0 } : Room) 0 0 #[(.ref ba_), (.int (3 : Int32))] h0 (own_Q_codl16_3 Z  ba_ kb_ vs_ h0 n0) := by
  refine oenter own_pn1 #[.val (.ref ba_), .val (.int (3 : Int32))] (fun m => by first | (simp [entryFrame, mkF, argsToLocals, Value.category]; done) | rfl) ?_
  intro p e s m below meth c s₁ X0 hx hZ hby hml hret hown0 hnm hlk e0
  have hown : s.vm.findClass "java/lang/StringUTF16" = some m.cls := hown0
  have N0 := Fr.nil n0
  refine o_iloadN X0 hx (hb hby d4_0) rfl ?_
  refine o_aloadN X0 hx (hb hby d4_1) rfl rfl ?_
  obtain ⟨cl1, Ar1, -, S1, N1z, -, -⟩ := (id pr0)
  refine ogo (S' := s₁.setTop (mkF m 3 #[.val (.ref ba_), .val (.int (3 : Int32))] [(.int (6 : Int32)), (.int (3 : Int32))])) (fun _ kt_ => X0.arraylength hx (by rw [e0]; exact Ar1.1) (State.isArrayOf_alike hZ.alike Ar1.2.1) (g := (mkF m 2 #[.val (.ref ba_), .val (.int (3 : Int32))] [(.ref ba_), (.int (3 : Int32))])) rfl rfl (hb hby d4_2) _ (by rw [len_of S1 N1z]; exact kt_)) ?_
  refine o_isub X0 hx (hb hby d4_3) ?_
  refine o_bipush X0 hx (31 : Int32) (hb hby d4_4) rfl ?_
  refine o_iushr X0 hx (hb hby d4_6) ?_
  refine o_i2b X0 hx (hb hby d4_7) ?_
  refine oend X0 hlk (v := some (.int (1 : Int32))) (fun h => by rw [hret] at h; cases h) (fun fs hr => retN X0 hx (t := .byte) hret (by simp) (hb hby d4_8) hr) (by decide) (by decide) ?_
  show own_Q_codl16_3 Z _ _ _ h0 n0 _ s₁.heap _
  rw [e0]
  exact ⟨rfl, N0, rfl⟩
def own_Q_cmp5_3_0 (Z : State)  (ca_ : Addr) (kc_ : ClassId) (ba_ : Addr) (kb_ : ClassId) (c0_ : Int32) (c1_ : Int32) (c2_ : Int32) (h0 : Heap) (n0 : Nat) (v : Option Value) (h : Heap) (L : List Loc) : Prop := (v = some (.int (0 : Int32))) ∧ (Fr n0 L) ∧ (Keep h0 h [ba_])
set_option maxRecDepth 65536 in
set_option maxHeartbeats 40000000 in
theorem rm_cmp5_3_0 (l : Launch) (Z : State) (a0 : Array Value) (hw : ∀ d ∈ tables_1, d.before a0 Z = true) (ws : List Jvm.Cond)  (ca_ : Addr) (kc_ : ClassId) (ba_ : Addr) (kb_ : ClassId) (c0_ : Int32) (c1_ : Int32) (c2_ : Int32) (h0 : Heap) (n0 : Nat) (O0 : Old Z n0 h0) (pr0 : Arv Z h0 ca_ kc_ .char (3 : Int32) [(.int c0_), (.int c1_), (.int c2_)] (.int 0)) (pr1 : Arv Z h0 ba_ kb_ .byte (3 : Int32) [(.int 0), (.int 0), (.int 0)] (.int 0)) (pr2 : ca_ ≠ ba_) (pr3 : n0 ≤ ba_) (pr4 : (255 : Int32) < c0_) :
    oMet l Z yM1 jdk_52_method_21_code 7 (some .int) ws ({ frames := 0, cells := 0, slots := 0, locals := 0 } : Room) 0 0 #[(.ref ca_), (.int (0 : Int32)), (.ref ba_), (.int (0 : Int32)), (.int (3 : Int32))] h0 (own_Q_cmp5_3_0 Z  ca_ kc_ ba_ kb_ c0_ c1_ c2_ h0 n0) := by
  refine oenter own_pn1 #[.val (.ref ca_), .val (.int (0 : Int32)), .val (.ref ba_), .val (.int (0 : Int32)), .val (.int (3 : Int32)), .unset, .unset] (fun m => by first | (simp [entryFrame, mkF, argsToLocals, Value.category]; done) | rfl) ?_
  intro p e s m below meth c s₁ X0 hx hZ hby hml hret hown0 hnm hlk e0
  have hown : s.vm.findClass "java/lang/StringUTF16" = some m.cls := hown0
  have N0 := Fr.nil n0
  refine o_iconst X0 hx (0 : Int32) (hb hby d2_0) rfl ?_
  refine o_istore X0 hx (l' := #[.val (.ref ca_), .val (.int (0 : Int32)), .val (.ref ba_), .val (.int (0 : Int32)), .val (.int (3 : Int32)), .val (.int (0 : Int32)), .unset]) (hb hby d2_1) rfl ?_
  refine o_iload X0 hx (hb hby d2_3) rfl ?_
  refine o_iload X0 hx (hb hby d2_5) rfl ?_
  refine o_icmpNo X0 hx (hb hby d2_7) (tlt (by decide : (0 : Int32) < (3 : Int32))).2.1 ?_
  refine o_aloadN X0 hx (hb hby d2_10) rfl rfl ?_
  refine o_iloadN X0 hx (hb hby d2_11) rfl ?_
  obtain ⟨cl1, Ar1, q1, S1, N1z, H1, G1⟩ := (id pr0)
  have hi1 := inb_of (j := (0 : Int32)) S1 ⟨by decide, by decide⟩
  have ha1 := Has.at (v := (.int c0_)) H1 hi1 rfl
  refine ogo (S' := s₁.setTop (mkF m 13 #[.val (.ref ca_), .val (.int (0 : Int32)), .val (.ref ba_), .val (.int (0 : Int32)), .val (.int (3 : Int32)), .val (.int (0 : Int32)), .unset] [(.int c0_)])) (X0.caload hx (j := (0 : Int32)) (v := (.int c0_)) (by rw [e0]; exact Ar1.1) (State.isArrayOf_alike hZ.alike Ar1.2.1) Ar1.2.2 hi1 ha1 (g := (mkF m 12 #[.val (.ref ca_), .val (.int (0 : Int32)), .val (.ref ba_), .val (.int (0 : Int32)), .val (.int (3 : Int32)), .val (.int (0 : Int32)), .unset] [(.int (0 : Int32)), (.ref ca_)])) rfl rfl (hb hby d2_12)) ?_
  refine o_istore X0 hx (l' := #[.val (.ref ca_), .val (.int (0 : Int32)), .val (.ref ba_), .val (.int (0 : Int32)), .val (.int (3 : Int32)), .val (.int (0 : Int32)), .val (.int c0_)]) (hb hby d2_13) rfl ?_
  refine o_iload X0 hx (hb hby d2_15) rfl ?_
  refine o_sipush X0 hx (255 : Int32) (hb hby d2_17) rfl ?_
  refine o_icmpNo X0 hx (hb hby d2_20) (tlt pr4).2.2.2 ?_
  refine o_iload X0 hx (hb hby d2_23) rfl ?_
  refine oend X0 hlk (v := some (.int (0 : Int32))) (fun h => by rw [hret] at h; cases h) (fun fs hr => retOut X0 hx (t := .int) (i := .ireturn) hret rfl (Or.inl ⟨rfl, Or.inl rfl, _, rfl⟩) (hb hby d2_25) hr) (by decide) (by decide) ?_
  show own_Q_cmp5_3_0 Z _ _ _ _ _ _ _ h0 n0 _ s₁.heap _
  rw [e0]
  exact ⟨rfl, N0, (Keep.refl h0 [ba_])⟩
def own_Q_nbl_3 (Z : State)   (h0 : Heap) (n0 : Nat) (v : Option Value) (h : Heap) (L : List Loc) : Prop := (v = some (.int (6 : Int32))) ∧ (Fr n0 L) ∧ (h = h0)
set_option maxRecDepth 65536 in
set_option maxHeartbeats 40000000 in
theorem rm_nbl_3 (l : Launch) (Z : State) (a0 : Array Value) (hw : ∀ d ∈ tables_1, d.before a0 Z = true) (ws : List Jvm.Cond)   (h0 : Heap) (n0 : Nat) (O0 : Old Z n0 h0)  :
    oMet l Z yM4 jdk_52_method_3_code 1 (some .int) ws ({ frames := 0, cells := 0, slots := 0, locals := 0 } : Room) 0 0 #[(.int (3 : Int32))] h0 (own_Q_nbl_3 Z   h0 n0) := by
  refine oenter own_pn1 #[.val (.int (3 : Int32))] (fun m => by first | (simp [entryFrame, mkF, argsToLocals, Value.category]; done) | rfl) ?_
  intro p e s m below meth c s₁ X0 hx hZ hby hml hret hown0 hnm hlk e0
  have hown : s.vm.findClass "java/lang/StringUTF16" = some m.cls := hown0
  have N0 := Fr.nil n0
  have w101 := hw _ (List.mem_of_getElem? (i := 101) rfl)
  refine o_iloadN X0 hx (hb hby d5_0) rfl ?_
  refine o_ifYes X0 hx 12 (hb hby d5_1) (flt (by decide : ¬ ((3 : Int32) < (0 : Int32)))).2.1 (by decide) (by decide) ?_
  refine o_iloadN X0 hx (hb hby d5_12) rfl ?_
  refine ogo (S' := s₁.setTop (mkF m 15 #[.val (.int (3 : Int32))] [(.int (1073741823 : Int32)), (.int (3 : Int32))])) (X0.ldcInt hx hown (mvT hZ w101) (g := (mkF m 13 #[.val (.int (3 : Int32))] [(.int (3 : Int32))])) rfl (hb hby d5_13)) ?_
  refine o_icmpYes X0 hx 55 (hb hby d5_15) (tlt (by decide : (3 : Int32) < (1073741823 : Int32))).1 (by decide) (by decide) ?_
  refine o_iloadN X0 hx (hb hby d5_55) rfl ?_
  refine o_iconst X0 hx (1 : Int32) (hb hby d5_56) rfl ?_
  refine o_ishl X0 hx (hb hby d5_57) ?_
  refine oend X0 hlk (v := some (.int (6 : Int32))) (fun h => by rw [hret] at h; cases h) (fun fs hr => retOut X0 hx (t := .int) (i := .ireturn) hret rfl (Or.inl ⟨rfl, Or.inl rfl, _, rfl⟩) (hb hby d5_58) hr) (by decide) (by decide) ?_
  show own_Q_nbl_3 Z  h0 n0 _ s₁.heap _
  rw [e0]
  exact ⟨rfl, N0, rfl⟩
def own_Q_nbf_3 (Z : State)   (h0 : Heap) (n0 : Nat) (v : Option Value) (h : Heap) (L : List Loc) : Prop := ∃ ba_ : Addr, ∃ kb_ : ClassId, (v = some (.ref ba_)) ∧ (Fr n0 L) ∧ (Keep h0 h []) ∧ (h0.size ≤ ba_) ∧ (Arv Z h ba_ kb_ .byte (6 : Int32) [(.int 0), (.int 0), (.int 0), (.int 0), (.int 0), (.int 0)] (.int 0))
set_option maxRecDepth 65536 in
set_option maxHeartbeats 40000000 in
theorem rm_nbf_3 (l : Launch) (Z : State) (a0 : Array Value) (hw : ∀ d ∈ tables_1, d.before a0 Z = true) (ws : List Jvm.Cond)   (h0 : Heap) (n0 : Nat) (O0 : Old Z n0 h0)  :
    oMet l Z yM5 jdk_52_method_2_code 1 (some (.array .byte)) ws ({ frames := 1, cells := 1, slots := 6, locals := 12 } : Room) 1 6 #[(.int (3 : Int32))] h0 (own_Q_nbf_3 Z   h0 n0) := by
  refine oenter own_pn1 #[.val (.int (3 : Int32))] (fun m => by first | (simp [entryFrame, mkF, argsToLocals, Value.category]; done) | rfl) ?_
  intro p e s m below meth c s₁ X0 hx hZ hby hml hret hown0 hnm hlk e0
  have hown : s.vm.findClass "java/lang/StringUTF16" = some m.cls := hown0
  have N0 := Fr.nil n0
  have w20 := hw _ (List.mem_of_getElem? (i := 20) rfl)
  have w62 := hw _ (List.mem_of_getElem? (i := 62) rfl)
  have w98 := hw _ (List.mem_of_getElem? (i := 98) rfl)
  have w99 := hw _ (List.mem_of_getElem? (i := 99) rfl)
  have w100 := hw _ (List.mem_of_getElem? (i := 100) rfl)
  refine o_iloadN X0 hx (hb hby d6_0) rfl ?_
  obtain ⟨_, _, ⟨T1, L1, kc1, n1⟩, -, X1, ⟨Lc1, hQ1, l1, y1, z1⟩, st1⟩ := Jvm.LawKit.callS X0 hx (y := yM4) hown (mvT hZ w98) (mvT hZ w99) (mvT hZ w62) (mvT hZ w100) (by decide) (backOf (W := 0) (rm_nbl_3 l Z a0 hw []   h0 n0 O0 ) hZ w100 w62 (by decide) (by decide)) (g := (mkF m 1 #[.val (.int (3 : Int32))] [(.int (3 : Int32))])) rfl (by rw [hml]; rfl) (argsL := [(.int (3 : Int32))]) (rest := []) (lenOf own_pd1 rfl) rfl (by show 2 * 0 + _ ≤ _; exact Nat.le_of_eq rfl) (hb hby d6_1) (fun _ _ => ⟨rfl, e0, (by decide : 0 + 0 ≤ _), (by decide : 0 + 0 ≤ _)⟩)
  dsimp only [Pt.U, Pt.locs, Pt.cells, Pt.slots] at X1 l1 y1 z1 st1 hQ1
  subst l1 y1 z1
  obtain ⟨rfl, Nq1, e1⟩ := hQ1
  have N1 := Fr.app N0 Nq1
  refine ogo (S' := T1.setTop (mkF m 4 #[.val (.int (3 : Int32))] [(.int (6 : Int32))])) st1 ?_
  obtain ⟨T2, _, k2, X2, rfl, E2, A2, Ex2, st2⟩ := newPE (aty := .byte) X1 hx hZ w20 e1 (g := (mkF m 4 #[.val (.int (3 : Int32))] [(.int (6 : Int32))])) rfl (hb hby d6_4) rfl (by decide) (cap := 6) (by decide) (by decide) (by decide) (by decide) (ad := "[B") rfl
  obtain ⟨b2, g2⟩ : ∃ z, z = h0.size := ⟨_, rfl⟩
  rw [← g2] at A2 Ex2 st2
  have n0_b2 : n0 ≤ b2 := Nat.le_trans (Nat.le_trans (Nat.le_of_eq O0.1.symm) O0.2.1) (Nat.le_trans (Nat.le_refl _) (Nat.le_of_eq g2.symm))
  have V2 : Arv Z T2.heap b2 k2 .byte (6 : Int32) [(.int 0), (.int 0), (.int 0), (.int 0), (.int 0), (.int 0)] (.int 0) := (Arv.new A2 (by decide)).pad (pad_rep [] (.int 0) 6)
  refine ogo (S' := T2.setTop (mkF m 6 #[.val (.int (3 : Int32))] [(.ref b2)])) st2 ?_
  refine oend X2 hlk (v := some (.ref b2)) (fun h => by rw [hret] at h; cases h) (fun fs hr => retOut X2 hx (t := (.array .byte)) (i := .areturn) hret rfl (Or.inr (Or.inr (Or.inr (Or.inr ⟨rfl, rfl, rfl⟩)))) (hb hby d6_6) hr) (by decide) (by decide) ?_
  show own_Q_nbf_3 Z  h0 n0 _ T2.heap _
  exact ⟨b2, k2, rfl, N1, ((Keep.refl h0 []).ext E2), (Nat.le_trans (Nat.le_refl _) (Nat.le_of_eq g2.symm)), V2⟩
def own_Q_putch_3_0 (Z : State) (z_CS : Int32) (v_FMT : Value) (ba_ : Addr) (kb_ : ClassId) (c_ : Int32) (e0_ : Int32) (e1_ : Int32) (e2_ : Int32) (e3_ : Int32) (e4_ : Int32) (e5_ : Int32) (h0 : Heap) (n0 : Nat) (v : Option Value) (h : Heap) (L : List Loc) : Prop := (v = none) ∧ (Fr n0 L) ∧ (Keep h0 h [ba_]) ∧ (Arv Z h ba_ kb_ .byte (6 : Int32) [(.int (c_ >>> ((0 : Int32) &&& 31)).toInt8.toInt32), (.int (c_ >>> ((8 : Int32) &&& 31)).toInt8.toInt32), (.int e2_), (.int e3_), (.int e4_), (.int e5_)] (.int 0))
set_option maxRecDepth 65536 in
set_option maxHeartbeats 40000000 in
theorem rm_putch_3_0 (l : Launch) (Z : State) (a0 : Array Value) (hw : ∀ d ∈ tables_1, d.before a0 Z = true) (ws : List Jvm.Cond) (z_CS : Int32) (v_FMT : Value) (ba_ : Addr) (kb_ : ClassId) (c_ : Int32) (e0_ : Int32) (e1_ : Int32) (e2_ : Int32) (e3_ : Int32) (e4_ : Int32) (e5_ : Int32) (h0 : Heap) (n0 : Nat) (SB : own_Start Z z_CS v_FMT) (O0 : Old Z n0 h0) (pr0 : Arv Z h0 ba_ kb_ .byte (6 : Int32) [(.int e0_), (.int e1_), (.int e2_), (.int e3_), (.int e4_), (.int e5_)] (.int 0)) (pr1 : n0 ≤ ba_) :
    oMet l Z yM6 jdk_52_method_4_code 3 none ws ({ frames := 0, cells := 0, slots := 0, locals := 0 } : Room) 0 0 #[(.ref ba_), (.int (0 : Int32)), (.int c_)] h0 (own_Q_putch_3_0 Z z_CS v_FMT ba_ kb_ c_ e0_ e1_ e2_ e3_ e4_ e5_ h0 n0) := by
  refine oenter own_pn1 #[.val (.ref ba_), .val (.int (0 : Int32)), .val (.int c_)] (fun m => by first | (simp [entryFrame, mkF, argsToLocals, Value.category]; done) | rfl) ?_
  intro p e s m below meth c s₁ X0 hx hZ hby hml hret hown0 hnm hlk e0
  have hown : s.vm.findClass "java/lang/StringUTF16" = some m.cls := hown0
  have N0 := Fr.nil n0
  obtain ⟨S_CS, H_CS, S__assertionsDisabled, S_HI_BYTE_SHIFT, S_LO_BYTE_SHIFT, S_FMT, R_FMT⟩ := (id SB)
  have w105 := hw _ (List.mem_of_getElem? (i := 105) rfl)
  have w106 := hw _ (List.mem_of_getElem? (i := 106) rfl)
  have w107 := hw _ (List.mem_of_getElem? (i := 107) rfl)
  obtain ⟨T1, X1, e1, st1⟩ := getS2 X0 hx hZ hown (host := "") (Or.inl w105) Via.refl e0 (Sta.ext O0.2 S__assertionsDisabled) (g := (mkF m 0 #[.val (.ref ba_), .val (.int (0 : Int32)), .val (.int c_)] [])) rfl (hb hby d7_0)
  refine ogo (S' := T1.setTop (mkF m 3 #[.val (.ref ba_), .val (.int (0 : Int32)), .val (.int c_)] [(.int (1 : Int32))])) st1 ?_
  refine o_ifYes X1 hx 28 (hb hby d7_3) (feq (by decide : ¬ ((1 : Int32) = (0 : Int32)))).2 (by decide) (by decide) ?_
  refine o_iloadN X1 hx (hb hby d7_28) rfl ?_
  refine o_iconst X1 hx (1 : Int32) (hb hby d7_29) rfl ?_
  refine o_ishl X1 hx (hb hby d7_30) ?_
  refine o_istoreN X1 hx (l' := #[.val (.ref ba_), .val (.int (0 : Int32)), .val (.int c_)]) (hb hby d7_31) rfl ?_
  refine o_aloadN X1 hx (hb hby d7_32) rfl rfl ?_
  refine o_iloadN X1 hx (hb hby d7_33) rfl ?_
  refine o_iinc X1 hx (l' := #[.val (.ref ba_), .val (.int (1 : Int32)), .val (.int c_)]) (hb hby d7_34) rfl rfl ?_
  refine o_iloadN X1 hx (hb hby d7_37) rfl ?_
  obtain ⟨T2, X2, e2, st2⟩ := getS2 X1 hx hZ hown (host := "") (Or.inl w106) Via.refl e1 (Sta.ext O0.2 S_HI_BYTE_SHIFT) (g := (mkF m 38 #[.val (.ref ba_), .val (.int (1 : Int32)), .val (.int c_)] [(.int c_), (.int (0 : Int32)), (.ref ba_)])) rfl (hb hby d7_38)
  refine ogo (S' := T2.setTop (mkF m 41 #[.val (.ref ba_), .val (.int (1 : Int32)), .val (.int c_)] [(.int (0 : Int32)), (.int c_), (.int (0 : Int32)), (.ref ba_)])) st2 ?_
  refine o_ishr X2 hx (hb hby d7_41) ?_
  refine o_i2b X2 hx (hb hby d7_42) ?_
  obtain ⟨cl3, Ar3, q3, S3, N3z, H3, G3⟩ := (id pr0)
  obtain ⟨T3, _, X3, rfl, W3, st3⟩ := stB X2 hx hZ e2 Ar3 (j := (0 : Int32)) (inb_of S3 ⟨by decide, by decide⟩) (g := (mkF m 43 #[.val (.ref ba_), .val (.int (1 : Int32)), .val (.int c_)] [(.int (c_ >>> ((0 : Int32) &&& 31)).toInt8.toInt32), (.int (0 : Int32)), (.ref ba_)])) rfl rfl (hb hby d7_43)
  rw [own_narb] at W3
  have V3 : Arv Z T3.heap ba_ kb_ .byte (6 : Int32) [(.int (c_ >>> ((0 : Int32) &&& 31)).toInt8.toInt32), (.int e1_), (.int e2_), (.int e3_), (.int e4_), (.int e5_)] (.int 0) := Arv.set Ar3 q3 S3 N3z H3 G3 (fits_nar_byte _) W3 0 rfl (Nat.le_of_ble_eq_true rfl)
  have N3 := Fr.snoc X3 N0 pr1
  refine ogo (S' := T3.setTop (mkF m 44 #[.val (.ref ba_), .val (.int (1 : Int32)), .val (.int c_)] [])) st3 ?_
  refine o_aloadN X3 hx (hb hby d7_44) rfl rfl ?_
  refine o_iloadN X3 hx (hb hby d7_45) rfl ?_
  refine o_iloadN X3 hx (hb hby d7_46) rfl ?_
  obtain ⟨T4, X4, e4, st4⟩ := getS2 X3 hx hZ hown (host := "") (Or.inl w107) Via.refl rfl (Sta.ext (O0.wr W3 pr1).2 S_LO_BYTE_SHIFT) (g := (mkF m 47 #[.val (.ref ba_), .val (.int (1 : Int32)), .val (.int c_)] [(.int c_), (.int (1 : Int32)), (.ref ba_)])) rfl (hb hby d7_47)
  refine ogo (S' := T4.setTop (mkF m 50 #[.val (.ref ba_), .val (.int (1 : Int32)), .val (.int c_)] [(.int (8 : Int32)), (.int c_), (.int (1 : Int32)), (.ref ba_)])) st4 ?_
  refine o_ishr X4 hx (hb hby d7_50) ?_
  refine o_i2b X4 hx (hb hby d7_51) ?_
  obtain ⟨cl5, Ar5, q5, S5, N5z, H5, G5⟩ := (id V3)
  obtain ⟨T5, _, X5, rfl, W5, st5⟩ := stB X4 hx hZ e4 Ar5 (j := (1 : Int32)) (inb_of S5 ⟨by decide, by decide⟩) (g := (mkF m 52 #[.val (.ref ba_), .val (.int (1 : Int32)), .val (.int c_)] [(.int (c_ >>> ((8 : Int32) &&& 31)).toInt8.toInt32), (.int (1 : Int32)), (.ref ba_)])) rfl rfl (hb hby d7_52)
  rw [own_narb] at W5
  have V5 : Arv Z T5.heap ba_ kb_ .byte (6 : Int32) [(.int (c_ >>> ((0 : Int32) &&& 31)).toInt8.toInt32), (.int (c_ >>> ((8 : Int32) &&& 31)).toInt8.toInt32), (.int e2_), (.int e3_), (.int e4_), (.int e5_)] (.int 0) := Arv.set Ar5 q5 S5 N5z H5 G5 (fits_nar_byte _) W5 1 rfl (Nat.le_of_ble_eq_true rfl)
  have N5 := Fr.snoc X5 N3 pr1
  refine ogo (S' := T5.setTop (mkF m 53 #[.val (.ref ba_), .val (.int (1 : Int32)), .val (.int c_)] [])) st5 ?_
  refine oend X5 hlk (v := none) (fun _ => rfl) (fun fs hr => X5.returnOut hx hret (hb hby d7_53) hr) (by decide) (by decide) ?_
  show own_Q_putch_3_0 Z _ _ _ _ _ _ _ _ _ _ _ h0 n0 _ T5.heap _
  exact ⟨rfl, N5, (((Keep.refl h0 [ba_]).wr W3 (Or.inl (List.mem_of_getElem? (i := 0) rfl))).wr W5 (Or.inl (List.mem_of_getElem? (i := 0) rfl))), V5⟩
def own_Q_putch_3_1 (Z : State) (z_CS : Int32) (v_FMT : Value) (ba_ : Addr) (kb_ : ClassId) (c_ : Int32) (e0_ : Int32) (e1_ : Int32) (e2_ : Int32) (e3_ : Int32) (e4_ : Int32) (e5_ : Int32) (h0 : Heap) (n0 : Nat) (v : Option Value) (h : Heap) (L : List Loc) : Prop := (v = none) ∧ (Fr n0 L) ∧ (Keep h0 h [ba_]) ∧ (Arv Z h ba_ kb_ .byte (6 : Int32) [(.int e0_), (.int e1_), (.int (c_ >>> ((0 : Int32) &&& 31)).toInt8.toInt32), (.int (c_ >>> ((8 : Int32) &&& 31)).toInt8.toInt32), (.int e4_), (.int e5_)] (.int 0))
set_option maxRecDepth 65536 in
set_option maxHeartbeats 40000000 in
theorem rm_putch_3_1 (l : Launch) (Z : State) (a0 : Array Value) (hw : ∀ d ∈ tables_1, d.before a0 Z = true) (ws : List Jvm.Cond) (z_CS : Int32) (v_FMT : Value) (ba_ : Addr) (kb_ : ClassId) (c_ : Int32) (e0_ : Int32) (e1_ : Int32) (e2_ : Int32) (e3_ : Int32) (e4_ : Int32) (e5_ : Int32) (h0 : Heap) (n0 : Nat) (SB : own_Start Z z_CS v_FMT) (O0 : Old Z n0 h0) (pr0 : Arv Z h0 ba_ kb_ .byte (6 : Int32) [(.int e0_), (.int e1_), (.int e2_), (.int e3_), (.int e4_), (.int e5_)] (.int 0)) (pr1 : n0 ≤ ba_) :
    oMet l Z yM6 jdk_52_method_4_code 3 none ws ({ frames := 0, cells := 0, slots := 0, locals := 0 } : Room) 0 0 #[(.ref ba_), (.int (1 : Int32)), (.int c_)] h0 (own_Q_putch_3_1 Z z_CS v_FMT ba_ kb_ c_ e0_ e1_ e2_ e3_ e4_ e5_ h0 n0) := by
  refine oenter own_pn1 #[.val (.ref ba_), .val (.int (1 : Int32)), .val (.int c_)] (fun m => by first | (simp [entryFrame, mkF, argsToLocals, Value.category]; done) | rfl) ?_
  intro p e s m below meth c s₁ X0 hx hZ hby hml hret hown0 hnm hlk e0
  have hown : s.vm.findClass "java/lang/StringUTF16" = some m.cls := hown0
  have N0 := Fr.nil n0
  obtain ⟨S_CS, H_CS, S__assertionsDisabled, S_HI_BYTE_SHIFT, S_LO_BYTE_SHIFT, S_FMT, R_FMT⟩ := (id SB)
  have w105 := hw _ (List.mem_of_getElem? (i := 105) rfl)
  have w106 := hw _ (List.mem_of_getElem? (i := 106) rfl)
  have w107 := hw _ (List.mem_of_getElem? (i := 107) rfl)
  obtain ⟨T1, X1, e1, st1⟩ := getS2 X0 hx hZ hown (host := "") (Or.inl w105) Via.refl e0 (Sta.ext O0.2 S__assertionsDisabled) (g := (mkF m 0 #[.val (.ref ba_), .val (.int (1 : Int32)), .val (.int c_)] [])) rfl (hb hby d7_0)
  refine ogo (S' := T1.setTop (mkF m 3 #[.val (.ref ba_), .val (.int (1 : Int32)), .val (.int c_)] [(.int (1 : Int32))])) st1 ?_
  refine o_ifYes X1 hx 28 (hb hby d7_3) (feq (by decide : ¬ ((1 : Int32) = (0 : Int32)))).2 (by decide) (by decide) ?_
  refine o_iloadN X1 hx (hb hby d7_28) rfl ?_
  refine o_iconst X1 hx (1 : Int32) (hb hby d7_29) rfl ?_
  refine o_ishl X1 hx (hb hby d7_30) ?_
  refine o_istoreN X1 hx (l' := #[.val (.ref ba_), .val (.int (2 : Int32)), .val (.int c_)]) (hb hby d7_31) rfl ?_
  refine o_aloadN X1 hx (hb hby d7_32) rfl rfl ?_
  refine o_iloadN X1 hx (hb hby d7_33) rfl ?_
  refine o_iinc X1 hx (l' := #[.val (.ref ba_), .val (.int (3 : Int32)), .val (.int c_)]) (hb hby d7_34) rfl rfl ?_
  refine o_iloadN X1 hx (hb hby d7_37) rfl ?_
  obtain ⟨T2, X2, e2, st2⟩ := getS2 X1 hx hZ hown (host := "") (Or.inl w106) Via.refl e1 (Sta.ext O0.2 S_HI_BYTE_SHIFT) (g := (mkF m 38 #[.val (.ref ba_), .val (.int (3 : Int32)), .val (.int c_)] [(.int c_), (.int (2 : Int32)), (.ref ba_)])) rfl (hb hby d7_38)
  refine ogo (S' := T2.setTop (mkF m 41 #[.val (.ref ba_), .val (.int (3 : Int32)), .val (.int c_)] [(.int (0 : Int32)), (.int c_), (.int (2 : Int32)), (.ref ba_)])) st2 ?_
  refine o_ishr X2 hx (hb hby d7_41) ?_
  refine o_i2b X2 hx (hb hby d7_42) ?_
  obtain ⟨cl3, Ar3, q3, S3, N3z, H3, G3⟩ := (id pr0)
  obtain ⟨T3, _, X3, rfl, W3, st3⟩ := stB X2 hx hZ e2 Ar3 (j := (2 : Int32)) (inb_of S3 ⟨by decide, by decide⟩) (g := (mkF m 43 #[.val (.ref ba_), .val (.int (3 : Int32)), .val (.int c_)] [(.int (c_ >>> ((0 : Int32) &&& 31)).toInt8.toInt32), (.int (2 : Int32)), (.ref ba_)])) rfl rfl (hb hby d7_43)
  rw [own_narb] at W3
  have V3 : Arv Z T3.heap ba_ kb_ .byte (6 : Int32) [(.int e0_), (.int e1_), (.int (c_ >>> ((0 : Int32) &&& 31)).toInt8.toInt32), (.int e3_), (.int e4_), (.int e5_)] (.int 0) := Arv.set Ar3 q3 S3 N3z H3 G3 (fits_nar_byte _) W3 2 rfl (Nat.le_of_ble_eq_true rfl)
  have N3 := Fr.snoc X3 N0 pr1
  refine ogo (S' := T3.setTop (mkF m 44 #[.val (.ref ba_), .val (.int (3 : Int32)), .val (.int c_)] [])) st3 ?_
  refine o_aloadN X3 hx (hb hby d7_44) rfl rfl ?_
  refine o_iloadN X3 hx (hb hby d7_45) rfl ?_
  refine o_iloadN X3 hx (hb hby d7_46) rfl ?_
  obtain ⟨T4, X4, e4, st4⟩ := getS2 X3 hx hZ hown (host := "") (Or.inl w107) Via.refl rfl (Sta.ext (O0.wr W3 pr1).2 S_LO_BYTE_SHIFT) (g := (mkF m 47 #[.val (.ref ba_), .val (.int (3 : Int32)), .val (.int c_)] [(.int c_), (.int (3 : Int32)), (.ref ba_)])) rfl (hb hby d7_47)
  refine ogo (S' := T4.setTop (mkF m 50 #[.val (.ref ba_), .val (.int (3 : Int32)), .val (.int c_)] [(.int (8 : Int32)), (.int c_), (.int (3 : Int32)), (.ref ba_)])) st4 ?_
  refine o_ishr X4 hx (hb hby d7_50) ?_
  refine o_i2b X4 hx (hb hby d7_51) ?_
  obtain ⟨cl5, Ar5, q5, S5, N5z, H5, G5⟩ := (id V3)
  obtain ⟨T5, _, X5, rfl, W5, st5⟩ := stB X4 hx hZ e4 Ar5 (j := (3 : Int32)) (inb_of S5 ⟨by decide, by decide⟩) (g := (mkF m 52 #[.val (.ref ba_), .val (.int (3 : Int32)), .val (.int c_)] [(.int (c_ >>> ((8 : Int32) &&& 31)).toInt8.toInt32), (.int (3 : Int32)), (.ref ba_)])) rfl rfl (hb hby d7_52)
  rw [own_narb] at W5
  have V5 : Arv Z T5.heap ba_ kb_ .byte (6 : Int32) [(.int e0_), (.int e1_), (.int (c_ >>> ((0 : Int32) &&& 31)).toInt8.toInt32), (.int (c_ >>> ((8 : Int32) &&& 31)).toInt8.toInt32), (.int e4_), (.int e5_)] (.int 0) := Arv.set Ar5 q5 S5 N5z H5 G5 (fits_nar_byte _) W5 3 rfl (Nat.le_of_ble_eq_true rfl)
  have N5 := Fr.snoc X5 N3 pr1
  refine ogo (S' := T5.setTop (mkF m 53 #[.val (.ref ba_), .val (.int (3 : Int32)), .val (.int c_)] [])) st5 ?_
  refine oend X5 hlk (v := none) (fun _ => rfl) (fun fs hr => X5.returnOut hx hret (hb hby d7_53) hr) (by decide) (by decide) ?_
  show own_Q_putch_3_1 Z _ _ _ _ _ _ _ _ _ _ _ h0 n0 _ T5.heap _
  exact ⟨rfl, N5, (((Keep.refl h0 [ba_]).wr W3 (Or.inl (List.mem_of_getElem? (i := 0) rfl))).wr W5 (Or.inl (List.mem_of_getElem? (i := 0) rfl))), V5⟩
def own_Q_putch_3_2 (Z : State) (z_CS : Int32) (v_FMT : Value) (ba_ : Addr) (kb_ : ClassId) (c_ : Int32) (e0_ : Int32) (e1_ : Int32) (e2_ : Int32) (e3_ : Int32) (e4_ : Int32) (e5_ : Int32) (h0 : Heap) (n0 : Nat) (v : Option Value) (h : Heap) (L : List Loc) : Prop := (v = none) ∧ (Fr n0 L) ∧ (Keep h0 h [ba_]) ∧ (Arv Z h ba_ kb_ .byte (6 : Int32) [(.int e0_), (.int e1_), (.int e2_), (.int e3_), (.int (c_ >>> ((0 : Int32) &&& 31)).toInt8.toInt32), (.int (c_ >>> ((8 : Int32) &&& 31)).toInt8.toInt32)] (.int 0))
set_option maxRecDepth 65536 in
set_option maxHeartbeats 40000000 in
theorem rm_putch_3_2 (l : Launch) (Z : State) (a0 : Array Value) (hw : ∀ d ∈ tables_1, d.before a0 Z = true) (ws : List Jvm.Cond) (z_CS : Int32) (v_FMT : Value) (ba_ : Addr) (kb_ : ClassId) (c_ : Int32) (e0_ : Int32) (e1_ : Int32) (e2_ : Int32) (e3_ : Int32) (e4_ : Int32) (e5_ : Int32) (h0 : Heap) (n0 : Nat) (SB : own_Start Z z_CS v_FMT) (O0 : Old Z n0 h0) (pr0 : Arv Z h0 ba_ kb_ .byte (6 : Int32) [(.int e0_), (.int e1_), (.int e2_), (.int e3_), (.int e4_), (.int e5_)] (.int 0)) (pr1 : n0 ≤ ba_) :
    oMet l Z yM6 jdk_52_method_4_code 3 none ws ({ frames := 0, cells := 0, slots := 0, locals := 0 } : Room) 0 0 #[(.ref ba_), (.int (2 : Int32)), (.int c_)] h0 (own_Q_putch_3_2 Z z_CS v_FMT ba_ kb_ c_ e0_ e1_ e2_ e3_ e4_ e5_ h0 n0) := by
  refine oenter own_pn1 #[.val (.ref ba_), .val (.int (2 : Int32)), .val (.int c_)] (fun m => by first | (simp [entryFrame, mkF, argsToLocals, Value.category]; done) | rfl) ?_
  intro p e s m below meth c s₁ X0 hx hZ hby hml hret hown0 hnm hlk e0
  have hown : s.vm.findClass "java/lang/StringUTF16" = some m.cls := hown0
  have N0 := Fr.nil n0
  obtain ⟨S_CS, H_CS, S__assertionsDisabled, S_HI_BYTE_SHIFT, S_LO_BYTE_SHIFT, S_FMT, R_FMT⟩ := (id SB)
  have w105 := hw _ (List.mem_of_getElem? (i := 105) rfl)
  have w106 := hw _ (List.mem_of_getElem? (i := 106) rfl)
  have w107 := hw _ (List.mem_of_getElem? (i := 107) rfl)
  obtain ⟨T1, X1, e1, st1⟩ := getS2 X0 hx hZ hown (host := "") (Or.inl w105) Via.refl e0 (Sta.ext O0.2 S__assertionsDisabled) (g := (mkF m 0 #[.val (.ref ba_), .val (.int (2 : Int32)), .val (.int c_)] [])) rfl (hb hby d7_0)
  refine ogo (S' := T1.setTop (mkF m 3 #[.val (.ref ba_), .val (.int (2 : Int32)), .val (.int c_)] [(.int (1 : Int32))])) st1 ?_
  refine o_ifYes X1 hx 28 (hb hby d7_3) (feq (by decide : ¬ ((1 : Int32) = (0 : Int32)))).2 (by decide) (by decide) ?_
  refine o_iloadN X1 hx (hb hby d7_28) rfl ?_
  refine o_iconst X1 hx (1 : Int32) (hb hby d7_29) rfl ?_
  refine o_ishl X1 hx (hb hby d7_30) ?_
  refine o_istoreN X1 hx (l' := #[.val (.ref ba_), .val (.int (4 : Int32)), .val (.int c_)]) (hb hby d7_31) rfl ?_
  refine o_aloadN X1 hx (hb hby d7_32) rfl rfl ?_
  refine o_iloadN X1 hx (hb hby d7_33) rfl ?_
  refine o_iinc X1 hx (l' := #[.val (.ref ba_), .val (.int (5 : Int32)), .val (.int c_)]) (hb hby d7_34) rfl rfl ?_
  refine o_iloadN X1 hx (hb hby d7_37) rfl ?_
  obtain ⟨T2, X2, e2, st2⟩ := getS2 X1 hx hZ hown (host := "") (Or.inl w106) Via.refl e1 (Sta.ext O0.2 S_HI_BYTE_SHIFT) (g := (mkF m 38 #[.val (.ref ba_), .val (.int (5 : Int32)), .val (.int c_)] [(.int c_), (.int (4 : Int32)), (.ref ba_)])) rfl (hb hby d7_38)
  refine ogo (S' := T2.setTop (mkF m 41 #[.val (.ref ba_), .val (.int (5 : Int32)), .val (.int c_)] [(.int (0 : Int32)), (.int c_), (.int (4 : Int32)), (.ref ba_)])) st2 ?_
  refine o_ishr X2 hx (hb hby d7_41) ?_
  refine o_i2b X2 hx (hb hby d7_42) ?_
  obtain ⟨cl3, Ar3, q3, S3, N3z, H3, G3⟩ := (id pr0)
  obtain ⟨T3, _, X3, rfl, W3, st3⟩ := stB X2 hx hZ e2 Ar3 (j := (4 : Int32)) (inb_of S3 ⟨by decide, by decide⟩) (g := (mkF m 43 #[.val (.ref ba_), .val (.int (5 : Int32)), .val (.int c_)] [(.int (c_ >>> ((0 : Int32) &&& 31)).toInt8.toInt32), (.int (4 : Int32)), (.ref ba_)])) rfl rfl (hb hby d7_43)
  rw [own_narb] at W3
  have V3 : Arv Z T3.heap ba_ kb_ .byte (6 : Int32) [(.int e0_), (.int e1_), (.int e2_), (.int e3_), (.int (c_ >>> ((0 : Int32) &&& 31)).toInt8.toInt32), (.int e5_)] (.int 0) := Arv.set Ar3 q3 S3 N3z H3 G3 (fits_nar_byte _) W3 4 rfl (Nat.le_of_ble_eq_true rfl)
  have N3 := Fr.snoc X3 N0 pr1
  refine ogo (S' := T3.setTop (mkF m 44 #[.val (.ref ba_), .val (.int (5 : Int32)), .val (.int c_)] [])) st3 ?_
  refine o_aloadN X3 hx (hb hby d7_44) rfl rfl ?_
  refine o_iloadN X3 hx (hb hby d7_45) rfl ?_
  refine o_iloadN X3 hx (hb hby d7_46) rfl ?_
  obtain ⟨T4, X4, e4, st4⟩ := getS2 X3 hx hZ hown (host := "") (Or.inl w107) Via.refl rfl (Sta.ext (O0.wr W3 pr1).2 S_LO_BYTE_SHIFT) (g := (mkF m 47 #[.val (.ref ba_), .val (.int (5 : Int32)), .val (.int c_)] [(.int c_), (.int (5 : Int32)), (.ref ba_)])) rfl (hb hby d7_47)
  refine ogo (S' := T4.setTop (mkF m 50 #[.val (.ref ba_), .val (.int (5 : Int32)), .val (.int c_)] [(.int (8 : Int32)), (.int c_), (.int (5 : Int32)), (.ref ba_)])) st4 ?_
  refine o_ishr X4 hx (hb hby d7_50) ?_
  refine o_i2b X4 hx (hb hby d7_51) ?_
  obtain ⟨cl5, Ar5, q5, S5, N5z, H5, G5⟩ := (id V3)
  obtain ⟨T5, _, X5, rfl, W5, st5⟩ := stB X4 hx hZ e4 Ar5 (j := (5 : Int32)) (inb_of S5 ⟨by decide, by decide⟩) (g := (mkF m 52 #[.val (.ref ba_), .val (.int (5 : Int32)), .val (.int c_)] [(.int (c_ >>> ((8 : Int32) &&& 31)).toInt8.toInt32), (.int (5 : Int32)), (.ref ba_)])) rfl rfl (hb hby d7_52)
  rw [own_narb] at W5
  have V5 : Arv Z T5.heap ba_ kb_ .byte (6 : Int32) [(.int e0_), (.int e1_), (.int e2_), (.int e3_), (.int (c_ >>> ((0 : Int32) &&& 31)).toInt8.toInt32), (.int (c_ >>> ((8 : Int32) &&& 31)).toInt8.toInt32)] (.int 0) := Arv.set Ar5 q5 S5 N5z H5 G5 (fits_nar_byte _) W5 5 rfl (Nat.le_of_ble_eq_true rfl)
  have N5 := Fr.snoc X5 N3 pr1
  refine ogo (S' := T5.setTop (mkF m 53 #[.val (.ref ba_), .val (.int (5 : Int32)), .val (.int c_)] [])) st5 ?_
  refine oend X5 hlk (v := none) (fun _ => rfl) (fun fs hr => X5.returnOut hx hret (hb hby d7_53) hr) (by decide) (by decide) ?_
  show own_Q_putch_3_2 Z _ _ _ _ _ _ _ _ _ _ _ h0 n0 _ T5.heap _
  exact ⟨rfl, N5, (((Keep.refl h0 [ba_]).wr W3 (Or.inl (List.mem_of_getElem? (i := 0) rfl))).wr W5 (Or.inl (List.mem_of_getElem? (i := 0) rfl))), V5⟩
def own_Q_tob_3 (Z : State) (z_CS : Int32) (v_FMT : Value) (ca_ : Addr) (kc_ : ClassId) (c0_ : Int32) (c1_ : Int32) (c2_ : Int32) (h0 : Heap) (n0 : Nat) (v : Option Value) (h : Heap) (L : List Loc) : Prop := ∃ ba_ : Addr, ∃ kb_ : ClassId, (v = some (.ref ba_)) ∧ (Fr n0 L) ∧ (Keep h0 h []) ∧ (h0.size ≤ ba_) ∧ (Arv Z h ba_ kb_ .byte (6 : Int32) [(.int (c0_ >>> ((0 : Int32) &&& 31)).toInt8.toInt32), (.int (c0_ >>> ((8 : Int32) &&& 31)).toInt8.toInt32), (.int (c1_ >>> ((0 : Int32) &&& 31)).toInt8.toInt32), (.int (c1_ >>> ((8 : Int32) &&& 31)).toInt8.toInt32), (.int (c2_ >>> ((0 : Int32) &&& 31)).toInt8.toInt32), (.int (c2_ >>> ((8 : Int32) &&& 31)).toInt8.toInt32)] (.int 0))
set_option maxRecDepth 65536 in
set_option maxHeartbeats 40000000 in
theorem rm_tob_3 (l : Launch) (Z : State) (a0 : Array Value) (hw : ∀ d ∈ tables_1, d.before a0 Z = true) (ws : List Jvm.Cond) (z_CS : Int32) (v_FMT : Value) (ca_ : Addr) (kc_ : ClassId) (c0_ : Int32) (c1_ : Int32) (c2_ : Int32) (h0 : Heap) (n0 : Nat) (SB : own_Start Z z_CS v_FMT) (O0 : Old Z n0 h0) (pr0 : Arv Z h0 ca_ kc_ .char (3 : Int32) [(.int c0_), (.int c1_), (.int c2_)] (.int 0)) :
    oMet l Z yM7 jdk_52_method_14_code 5 (some (.array .byte)) ws ({ frames := 2, cells := 1, slots := 6, locals := 24 } : Room) 1 6 #[(.ref ca_), (.int (0 : Int32)), (.int (3 : Int32))] h0 (own_Q_tob_3 Z z_CS v_FMT ca_ kc_ c0_ c1_ c2_ h0 n0) := by
  refine oenter own_pn1 #[.val (.ref ca_), .val (.int (0 : Int32)), .val (.int (3 : Int32)), .unset, .unset] (fun m => by first | (simp [entryFrame, mkF, argsToLocals, Value.category]; done) | rfl) ?_
  intro p e s m below meth c s₁ X0 hx hZ hby hml hret hown0 hnm hlk e0
  have hown : s.vm.findClass "java/lang/StringUTF16" = some m.cls := hown0
  have N0 := Fr.nil n0
  obtain ⟨S_CS, H_CS, S__assertionsDisabled, S_HI_BYTE_SHIFT, S_LO_BYTE_SHIFT, S_FMT, R_FMT⟩ := (id SB)
  have w62 := hw _ (List.mem_of_getElem? (i := 62) rfl)
  have w95 := hw _ (List.mem_of_getElem? (i := 95) rfl)
  have w96 := hw _ (List.mem_of_getElem? (i := 96) rfl)
  have w97 := hw _ (List.mem_of_getElem? (i := 97) rfl)
  have w102 := hw _ (List.mem_of_getElem? (i := 102) rfl)
  have w103 := hw _ (List.mem_of_getElem? (i := 103) rfl)
  have w104 := hw _ (List.mem_of_getElem? (i := 104) rfl)
  refine o_iloadN X0 hx (hb hby d8_0) rfl ?_
  obtain ⟨_, _, ⟨T1, L1, kc1, n1⟩, -, X1, ⟨Lc1, hQ1, l1, y1, z1⟩, st1⟩ := Jvm.LawKit.callS X0 hx (y := yM5) hown (mvT hZ w95) (mvT hZ w96) (mvT hZ w62) (mvT hZ w97) (by decide) (backOf (W := 0) (rm_nbf_3 l Z a0 hw []   h0 n0 O0 ) hZ w97 w62 (by decide) (by decide)) (g := (mkF m 1 #[.val (.ref ca_), .val (.int (0 : Int32)), .val (.int (3 : Int32)), .unset, .unset] [(.int (3 : Int32))])) rfl (by rw [hml]; rfl) (argsL := [(.int (3 : Int32))]) (rest := []) (lenOf own_pd2 rfl) rfl (by show 2 * 0 + _ ≤ _; exact Nat.le_of_eq rfl) (hb hby d8_1) (fun _ _ => ⟨rfl, e0, (by decide : 0 + 1 ≤ _), (by decide : 0 + 6 ≤ _)⟩)
  dsimp only [Pt.U, Pt.locs, Pt.cells, Pt.slots] at X1 l1 y1 z1 st1 hQ1
  subst l1 y1 z1
  obtain ⟨ba_1, kb_1, rfl, Nq1, K1, p1_0, p1_1⟩ := hQ1
  have N1 := Fr.app N0 Nq1
  have n0_ba_1 : n0 ≤ ba_1 := Nat.le_trans (Nat.le_trans (Nat.le_of_eq O0.1.symm) O0.2.1) (Nat.le_trans (Nat.le_refl _) p1_0)
  refine ogo (S' := T1.setTop (mkF m 4 #[.val (.ref ca_), .val (.int (0 : Int32)), .val (.int (3 : Int32)), .unset, .unset] [(.ref ba_1)])) st1 ?_
  refine o_astoreN X1 hx (l' := #[.val (.ref ca_), .val (.int (0 : Int32)), .val (.int (3 : Int32)), .val (.ref ba_1), .unset]) (hb hby d8_4) rfl rfl ?_
  refine o_iconst X1 hx (0 : Int32) (hb hby d8_5) rfl ?_
  refine o_istore X1 hx (l' := #[.val (.ref ca_), .val (.int (0 : Int32)), .val (.int (3 : Int32)), .val (.ref ba_1), .val (.int (0 : Int32))]) (hb hby d8_6) rfl ?_
  refine o_iload X1 hx (hb hby d8_8) rfl ?_
  refine o_iloadN X1 hx (hb hby d8_10) rfl ?_
  refine o_icmpNo X1 hx (hb hby d8_11) (tlt (by decide : (0 : Int32) < (3 : Int32))).2.1 ?_
  refine o_aloadN X1 hx (hb hby d8_14) rfl rfl ?_
  refine o_iload X1 hx (hb hby d8_15) rfl ?_
  refine o_aloadN X1 hx (hb hby d8_17) rfl rfl ?_
  refine o_iloadN X1 hx (hb hby d8_18) rfl ?_
  obtain ⟨cl2, Ar2, q2, S2, N2z, H2, G2⟩ := (id (pr0.keep K1 nin0))
  have hi2 := inb_of (j := (0 : Int32)) S2 ⟨by decide, by decide⟩
  have ha2 := Has.at (v := (.int c0_)) H2 hi2 rfl
  refine ogo (S' := T1.setTop (mkF m 20 #[.val (.ref ca_), .val (.int (0 : Int32)), .val (.int (3 : Int32)), .val (.ref ba_1), .val (.int (0 : Int32))] [(.int c0_), (.int (0 : Int32)), (.ref ba_1)])) (X1.caload hx (j := (0 : Int32)) (v := (.int c0_)) Ar2.1 (State.isArrayOf_alike hZ.alike Ar2.2.1) Ar2.2.2 hi2 ha2 (g := (mkF m 19 #[.val (.ref ca_), .val (.int (0 : Int32)), .val (.int (3 : Int32)), .val (.ref ba_1), .val (.int (0 : Int32))] [(.int (0 : Int32)), (.ref ca_), (.int (0 : Int32)), (.ref ba_1)])) rfl rfl (hb hby d8_19)) ?_
  obtain ⟨_, _, ⟨T3, L3, kc3, n3⟩, -, X3, ⟨Lc3, hQ3, l3, y3, z3⟩, st3⟩ := Jvm.LawKit.callS X1 hx (y := yM6) hown (mvT hZ w102) (mvT hZ w103) (mvT hZ w62) (mvT hZ w104) (by decide) (backOf (W := 0) (rm_putch_3_0 l Z a0 hw [] z_CS v_FMT ba_1 kb_1 c0_ 0 0 0 0 0 0 T1.heap n0 SB (O0.keep K1 all0) p1_1 n0_ba_1) hZ w104 w62 (by decide) (by decide)) (g := (mkF m 20 #[.val (.ref ca_), .val (.int (0 : Int32)), .val (.int (3 : Int32)), .val (.ref ba_1), .val (.int (0 : Int32))] [(.int c0_), (.int (0 : Int32)), (.ref ba_1)])) rfl (by rw [hml]; rfl) (argsL := [(.ref ba_1), (.int (0 : Int32)), (.int c0_)]) (rest := []) (lenOf own_pd3 rfl) rfl (by show 2 * 0 + _ ≤ _; exact Nat.le_of_eq rfl) (hb hby d8_20) (fun _ _ => ⟨rfl, rfl, (by decide : 1 + 0 ≤ _), (by decide : 6 + 0 ≤ _)⟩)
  dsimp only [Pt.U, Pt.locs, Pt.cells, Pt.slots] at X3 l3 y3 z3 st3 hQ3
  subst l3 y3 z3
  obtain ⟨rfl, Nq3, K3, p3_0⟩ := hQ3
  have N3 := Fr.app N1 Nq3
  refine ogo (S' := T3.setTop (mkF m 23 #[.val (.ref ca_), .val (.int (0 : Int32)), .val (.int (3 : Int32)), .val (.ref ba_1), .val (.int (0 : Int32))] [])) st3 ?_
  refine o_iinc X3 hx (l' := #[.val (.ref ca_), .val (.int (1 : Int32)), .val (.int (3 : Int32)), .val (.ref ba_1), .val (.int (0 : Int32))]) (hb hby d8_23) rfl rfl ?_
  refine o_iinc X3 hx (l' := #[.val (.ref ca_), .val (.int (1 : Int32)), .val (.int (3 : Int32)), .val (.ref ba_1), .val (.int (1 : Int32))]) (hb hby d8_26) rfl rfl ?_
  refine o_goto X3 hx 8 (hb hby d8_29) (by decide) (by decide) ?_
  refine o_iload X3 hx (hb hby d8_8) rfl ?_
  refine o_iloadN X3 hx (hb hby d8_10) rfl ?_
  refine o_icmpNo X3 hx (hb hby d8_11) (tlt (by decide : (1 : Int32) < (3 : Int32))).2.1 ?_
  refine o_aloadN X3 hx (hb hby d8_14) rfl rfl ?_
  refine o_iload X3 hx (hb hby d8_15) rfl ?_
  refine o_aloadN X3 hx (hb hby d8_17) rfl rfl ?_
  refine o_iloadN X3 hx (hb hby d8_18) rfl ?_
  have c4 := ((pr0.keep K1 nin0).keep K3 (ninS (Nat.ne_of_lt (Nat.lt_of_lt_of_le (Nat.lt_of_lt_of_le pr0.lt (Nat.le_refl _)) p1_0)) nin0))
  obtain ⟨cl5, Ar5, q5, S5, N5z, H5, G5⟩ := (id c4)
  have hi5 := inb_of (j := (1 : Int32)) S5 ⟨by decide, by decide⟩
  have ha5 := Has.at (v := (.int c1_)) H5 hi5 rfl
  refine ogo (S' := T3.setTop (mkF m 20 #[.val (.ref ca_), .val (.int (1 : Int32)), .val (.int (3 : Int32)), .val (.ref ba_1), .val (.int (1 : Int32))] [(.int c1_), (.int (1 : Int32)), (.ref ba_1)])) (X3.caload hx (j := (1 : Int32)) (v := (.int c1_)) Ar5.1 (State.isArrayOf_alike hZ.alike Ar5.2.1) Ar5.2.2 hi5 ha5 (g := (mkF m 19 #[.val (.ref ca_), .val (.int (1 : Int32)), .val (.int (3 : Int32)), .val (.ref ba_1), .val (.int (1 : Int32))] [(.int (1 : Int32)), (.ref ca_), (.int (1 : Int32)), (.ref ba_1)])) rfl rfl (hb hby d8_19)) ?_
  obtain ⟨_, _, ⟨T6, L6, kc6, n6⟩, -, X6, ⟨Lc6, hQ6, l6, y6, z6⟩, st6⟩ := Jvm.LawKit.callS X3 hx (y := yM6) hown (mvT hZ w102) (mvT hZ w103) (mvT hZ w62) (mvT hZ w104) (by decide) (backOf (W := 0) (rm_putch_3_1 l Z a0 hw [] z_CS v_FMT ba_1 kb_1 c1_ ((c0_ >>> ((0 : Int32) &&& 31)).toInt8.toInt32) ((c0_ >>> ((8 : Int32) &&& 31)).toInt8.toInt32) 0 0 0 0 T3.heap n0 SB ((O0.keep K1 all0).keep K3 (allS n0_ba_1 all0)) p3_0 n0_ba_1) hZ w104 w62 (by decide) (by decide)) (g := (mkF m 20 #[.val (.ref ca_), .val (.int (1 : Int32)), .val (.int (3 : Int32)), .val (.ref ba_1), .val (.int (1 : Int32))] [(.int c1_), (.int (1 : Int32)), (.ref ba_1)])) rfl (by rw [hml]; rfl) (argsL := [(.ref ba_1), (.int (1 : Int32)), (.int c1_)]) (rest := []) (lenOf own_pd3 rfl) rfl (by show 2 * 0 + _ ≤ _; exact Nat.le_of_eq rfl) (hb hby d8_20) (fun _ _ => ⟨rfl, rfl, (by decide : 1 + 0 ≤ _), (by decide : 6 + 0 ≤ _)⟩)
  dsimp only [Pt.U, Pt.locs, Pt.cells, Pt.slots] at X6 l6 y6 z6 st6 hQ6
  subst l6 y6 z6
  obtain ⟨rfl, Nq6, K6, p6_0⟩ := hQ6
  have N6 := Fr.app N3 Nq6
  refine ogo (S' := T6.setTop (mkF m 23 #[.val (.ref ca_), .val (.int (1 : Int32)), .val (.int (3 : Int32)), .val (.ref ba_1), .val (.int (1 : Int32))] [])) st6 ?_
  refine o_iinc X6 hx (l' := #[.val (.ref ca_), .val (.int (2 : Int32)), .val (.int (3 : Int32)), .val (.ref ba_1), .val (.int (1 : Int32))]) (hb hby d8_23) rfl rfl ?_
  refine o_iinc X6 hx (l' := #[.val (.ref ca_), .val (.int (2 : Int32)), .val (.int (3 : Int32)), .val (.ref ba_1), .val (.int (2 : Int32))]) (hb hby d8_26) rfl rfl ?_
  refine o_goto X6 hx 8 (hb hby d8_29) (by decide) (by decide) ?_
  refine o_iload X6 hx (hb hby d8_8) rfl ?_
  refine o_iloadN X6 hx (hb hby d8_10) rfl ?_
  refine o_icmpNo X6 hx (hb hby d8_11) (tlt (by decide : (2 : Int32) < (3 : Int32))).2.1 ?_
  refine o_aloadN X6 hx (hb hby d8_14) rfl rfl ?_
  refine o_iload X6 hx (hb hby d8_15) rfl ?_
  refine o_aloadN X6 hx (hb hby d8_17) rfl rfl ?_
  refine o_iloadN X6 hx (hb hby d8_18) rfl ?_
  have c7 := (c4.keep K6 (ninS (Nat.ne_of_lt (Nat.lt_of_lt_of_le (Nat.lt_of_lt_of_le pr0.lt (Nat.le_refl _)) p1_0)) nin0))
  obtain ⟨cl8, Ar8, q8, S8, N8z, H8, G8⟩ := (id c7)
  have hi8 := inb_of (j := (2 : Int32)) S8 ⟨by decide, by decide⟩
  have ha8 := Has.at (v := (.int c2_)) H8 hi8 rfl
  refine ogo (S' := T6.setTop (mkF m 20 #[.val (.ref ca_), .val (.int (2 : Int32)), .val (.int (3 : Int32)), .val (.ref ba_1), .val (.int (2 : Int32))] [(.int c2_), (.int (2 : Int32)), (.ref ba_1)])) (X6.caload hx (j := (2 : Int32)) (v := (.int c2_)) Ar8.1 (State.isArrayOf_alike hZ.alike Ar8.2.1) Ar8.2.2 hi8 ha8 (g := (mkF m 19 #[.val (.ref ca_), .val (.int (2 : Int32)), .val (.int (3 : Int32)), .val (.ref ba_1), .val (.int (2 : Int32))] [(.int (2 : Int32)), (.ref ca_), (.int (2 : Int32)), (.ref ba_1)])) rfl rfl (hb hby d8_19)) ?_
  have c10 := (((O0.keep K1 all0).keep K3 (allS n0_ba_1 all0)).keep K6 (allS n0_ba_1 all0))
  obtain ⟨_, _, ⟨T9, L9, kc9, n9⟩, -, X9, ⟨Lc9, hQ9, l9, y9, z9⟩, st9⟩ := Jvm.LawKit.callS X6 hx (y := yM6) hown (mvT hZ w102) (mvT hZ w103) (mvT hZ w62) (mvT hZ w104) (by decide) (backOf (W := 0) (rm_putch_3_2 l Z a0 hw [] z_CS v_FMT ba_1 kb_1 c2_ ((c0_ >>> ((0 : Int32) &&& 31)).toInt8.toInt32) ((c0_ >>> ((8 : Int32) &&& 31)).toInt8.toInt32) ((c1_ >>> ((0 : Int32) &&& 31)).toInt8.toInt32) ((c1_ >>> ((8 : Int32) &&& 31)).toInt8.toInt32) 0 0 T6.heap n0 SB c10 p6_0 n0_ba_1) hZ w104 w62 (by decide) (by decide)) (g := (mkF m 20 #[.val (.ref ca_), .val (.int (2 : Int32)), .val (.int (3 : Int32)), .val (.ref ba_1), .val (.int (2 : Int32))] [(.int c2_), (.int (2 : Int32)), (.ref ba_1)])) rfl (by rw [hml]; rfl) (argsL := [(.ref ba_1), (.int (2 : Int32)), (.int c2_)]) (rest := []) (lenOf own_pd3 rfl) rfl (by show 2 * 0 + _ ≤ _; exact Nat.le_of_eq rfl) (hb hby d8_20) (fun _ _ => ⟨rfl, rfl, (by decide : 1 + 0 ≤ _), (by decide : 6 + 0 ≤ _)⟩)
  dsimp only [Pt.U, Pt.locs, Pt.cells, Pt.slots] at X9 l9 y9 z9 st9 hQ9
  subst l9 y9 z9
  obtain ⟨rfl, Nq9, K9, p9_0⟩ := hQ9
  have N9 := Fr.app N6 Nq9
  refine ogo (S' := T9.setTop (mkF m 23 #[.val (.ref ca_), .val (.int (2 : Int32)), .val (.int (3 : Int32)), .val (.ref ba_1), .val (.int (2 : Int32))] [])) st9 ?_
  refine o_iinc X9 hx (l' := #[.val (.ref ca_), .val (.int (3 : Int32)), .val (.int (3 : Int32)), .val (.ref ba_1), .val (.int (2 : Int32))]) (hb hby d8_23) rfl rfl ?_
  refine o_iinc X9 hx (l' := #[.val (.ref ca_), .val (.int (3 : Int32)), .val (.int (3 : Int32)), .val (.ref ba_1), .val (.int (3 : Int32))]) (hb hby d8_26) rfl rfl ?_
  refine o_goto X9 hx 8 (hb hby d8_29) (by decide) (by decide) ?_
  refine o_iload X9 hx (hb hby d8_8) rfl ?_
  refine o_iloadN X9 hx (hb hby d8_10) rfl ?_
  refine o_icmpYes X9 hx 32 (hb hby d8_11) (flt (by decide : ¬ ((3 : Int32) < (3 : Int32)))).2.1 (by decide) (by decide) ?_
  refine o_aloadN X9 hx (hb hby d8_32) rfl rfl ?_
  refine oend X9 hlk (v := some (.ref ba_1)) (fun h => by rw [hret] at h; cases h) (fun fs hr => retOut X9 hx (t := (.array .byte)) (i := .areturn) hret rfl (Or.inr (Or.inr (Or.inr (Or.inr ⟨rfl, rfl, rfl⟩)))) (hb hby d8_33) hr) (by decide) (by decide) ?_
  show own_Q_tob_3 Z _ _ _ _ _ _ _ h0 n0 _ T9.heap _
  exact ⟨ba_1, kb_1, rfl, N9, (((((Keep.refl h0 []).trans K1 all0).trans K3 (allS (Or.inr (Nat.le_trans (Nat.le_refl _) p1_0)) all0)).trans K6 (allS (Or.inr (Nat.le_trans (Nat.le_refl _) p1_0)) all0)).trans K9 (allS (Or.inr (Nat.le_trans (Nat.le_refl _) p1_0)) all0)), (Nat.le_trans (Nat.le_refl _) p1_0), p9_0⟩
def own_Q_getch_3_0 (Z : State) (z_CS : Int32) (v_FMT : Value) (ba_ : Addr) (kb_ : ClassId) (c0_ : Int32) (c1_ : Int32) (c2_ : Int32) (h0 : Heap) (n0 : Nat) (v : Option Value) (h : Heap) (L : List Loc) : Prop := (v = some (.int c0_)) ∧ (Fr n0 L) ∧ (h = h0)
set_option maxRecDepth 65536 in
set_option maxHeartbeats 40000000 in
theorem rm_getch_3_0 (l : Launch) (Z : State) (a0 : Array Value) (hw : ∀ d ∈ tables_1, d.before a0 Z = true) (ws : List Jvm.Cond) (z_CS : Int32) (v_FMT : Value) (ba_ : Addr) (kb_ : ClassId) (c0_ : Int32) (c1_ : Int32) (c2_ : Int32) (h0 : Heap) (n0 : Nat) (SB : own_Start Z z_CS v_FMT) (O0 : Old Z n0 h0) (pr0 : Arv Z h0 ba_ kb_ .byte (6 : Int32) [(.int (c0_ >>> ((0 : Int32) &&& 31)).toInt8.toInt32), (.int (c0_ >>> ((8 : Int32) &&& 31)).toInt8.toInt32), (.int (c1_ >>> ((0 : Int32) &&& 31)).toInt8.toInt32), (.int (c1_ >>> ((8 : Int32) &&& 31)).toInt8.toInt32), (.int (c2_ >>> ((0 : Int32) &&& 31)).toInt8.toInt32), (.int (c2_ >>> ((8 : Int32) &&& 31)).toInt8.toInt32)] (.int 0)) (pr1 : own_c16 c0_) :
    oMet l Z yM8 jdk_52_method_5_code 2 (some .char) ws ({ frames := 0, cells := 0, slots := 0, locals := 0 } : Room) 0 0 #[(.ref ba_), (.int (0 : Int32))] h0 (own_Q_getch_3_0 Z z_CS v_FMT ba_ kb_ c0_ c1_ c2_ h0 n0) := by
  refine oenter own_pn1 #[.val (.ref ba_), .val (.int (0 : Int32))] (fun m => by first | (simp [entryFrame, mkF, argsToLocals, Value.category]; done) | rfl) ?_
  intro p e s m below meth c s₁ X0 hx hZ hby hml hret hown0 hnm hlk e0
  have hown : s.vm.findClass "java/lang/StringUTF16" = some m.cls := hown0
  have N0 := Fr.nil n0
  obtain ⟨S_CS, H_CS, S__assertionsDisabled, S_HI_BYTE_SHIFT, S_LO_BYTE_SHIFT, S_FMT, R_FMT⟩ := (id SB)
  have w105 := hw _ (List.mem_of_getElem? (i := 105) rfl)
  have w106 := hw _ (List.mem_of_getElem? (i := 106) rfl)
  have w107 := hw _ (List.mem_of_getElem? (i := 107) rfl)
  obtain ⟨T1, X1, e1, st1⟩ := getS2 X0 hx hZ hown (host := "") (Or.inl w105) Via.refl e0 (Sta.ext O0.2 S__assertionsDisabled) (g := (mkF m 0 #[.val (.ref ba_), .val (.int (0 : Int32))] [])) rfl (hb hby d9_0)
  refine ogo (S' := T1.setTop (mkF m 3 #[.val (.ref ba_), .val (.int (0 : Int32))] [(.int (1 : Int32))])) st1 ?_
  refine o_ifYes X1 hx 28 (hb hby d9_3) (feq (by decide : ¬ ((1 : Int32) = (0 : Int32)))).2 (by decide) (by decide) ?_
  refine o_iloadN X1 hx (hb hby d9_28) rfl ?_
  refine o_iconst X1 hx (1 : Int32) (hb hby d9_29) rfl ?_
  refine o_ishl X1 hx (hb hby d9_30) ?_
  refine o_istoreN X1 hx (l' := #[.val (.ref ba_), .val (.int (0 : Int32))]) (hb hby d9_31) rfl ?_
  refine o_aloadN X1 hx (hb hby d9_32) rfl rfl ?_
  refine o_iloadN X1 hx (hb hby d9_33) rfl ?_
  refine o_iinc X1 hx (l' := #[.val (.ref ba_), .val (.int (1 : Int32))]) (hb hby d9_34) rfl rfl ?_
  obtain ⟨cl2, Ar2, q2, S2, N2z, H2, G2⟩ := (id pr0)
  have hi2 := inb_of (j := (0 : Int32)) S2 ⟨by decide, by decide⟩
  have ha2 := Has.at (v := (.int (c0_ >>> ((0 : Int32) &&& 31)).toInt8.toInt32)) H2 hi2 rfl
  refine ogo (S' := T1.setTop (mkF m 38 #[.val (.ref ba_), .val (.int (1 : Int32))] [(.int (c0_ >>> ((0 : Int32) &&& 31)).toInt8.toInt32)])) (X1.baloadBytes hx (j := (0 : Int32)) (v := (.int (c0_ >>> ((0 : Int32) &&& 31)).toInt8.toInt32)) (by rw [e1]; exact Ar2.1) (State.isArrayOf_alike hZ.alike Ar2.2.1) Ar2.2.2 hi2 ha2 (g := (mkF m 37 #[.val (.ref ba_), .val (.int (1 : Int32))] [(.int (0 : Int32)), (.ref ba_)])) rfl rfl (hb hby d9_37)) ?_
  refine o_sipush X1 hx (255 : Int32) (hb hby d9_38) rfl ?_
  refine o_iand X1 hx (hb hby d9_41) ?_
  obtain ⟨T3, X3, e3, st3⟩ := getS2 X1 hx hZ hown (host := "") (Or.inl w106) Via.refl e1 (Sta.ext O0.2 S_HI_BYTE_SHIFT) (g := (mkF m 42 #[.val (.ref ba_), .val (.int (1 : Int32))] [(.int ((c0_ >>> ((0 : Int32) &&& 31)).toInt8.toInt32 &&& (255 : Int32)))])) rfl (hb hby d9_42)
  refine ogo (S' := T3.setTop (mkF m 45 #[.val (.ref ba_), .val (.int (1 : Int32))] [(.int (0 : Int32)), (.int ((c0_ >>> ((0 : Int32) &&& 31)).toInt8.toInt32 &&& (255 : Int32)))])) st3 ?_
  refine o_ishl X3 hx (hb hby d9_45) ?_
  refine o_aloadN X3 hx (hb hby d9_46) rfl rfl ?_
  refine o_iloadN X3 hx (hb hby d9_47) rfl ?_
  obtain ⟨cl4, Ar4, q4, S4, N4z, H4, G4⟩ := (id pr0)
  have hi4 := inb_of (j := (1 : Int32)) S4 ⟨by decide, by decide⟩
  have ha4 := Has.at (v := (.int (c0_ >>> ((8 : Int32) &&& 31)).toInt8.toInt32)) H4 hi4 rfl
  refine ogo (S' := T3.setTop (mkF m 49 #[.val (.ref ba_), .val (.int (1 : Int32))] [(.int (c0_ >>> ((8 : Int32) &&& 31)).toInt8.toInt32), (.int (((c0_ >>> ((0 : Int32) &&& 31)).toInt8.toInt32 &&& (255 : Int32)) <<< ((0 : Int32) &&& 31)))])) (X3.baloadBytes hx (j := (1 : Int32)) (v := (.int (c0_ >>> ((8 : Int32) &&& 31)).toInt8.toInt32)) (by rw [e3]; exact Ar4.1) (State.isArrayOf_alike hZ.alike Ar4.2.1) Ar4.2.2 hi4 ha4 (g := (mkF m 48 #[.val (.ref ba_), .val (.int (1 : Int32))] [(.int (1 : Int32)), (.ref ba_), (.int (((c0_ >>> ((0 : Int32) &&& 31)).toInt8.toInt32 &&& (255 : Int32)) <<< ((0 : Int32) &&& 31)))])) rfl rfl (hb hby d9_48)) ?_
  refine o_sipush X3 hx (255 : Int32) (hb hby d9_49) rfl ?_
  refine o_iand X3 hx (hb hby d9_52) ?_
  obtain ⟨T5, X5, e5, st5⟩ := getS2 X3 hx hZ hown (host := "") (Or.inl w107) Via.refl e3 (Sta.ext O0.2 S_LO_BYTE_SHIFT) (g := (mkF m 53 #[.val (.ref ba_), .val (.int (1 : Int32))] [(.int ((c0_ >>> ((8 : Int32) &&& 31)).toInt8.toInt32 &&& (255 : Int32))), (.int (((c0_ >>> ((0 : Int32) &&& 31)).toInt8.toInt32 &&& (255 : Int32)) <<< ((0 : Int32) &&& 31)))])) rfl (hb hby d9_53)
  refine ogo (S' := T5.setTop (mkF m 56 #[.val (.ref ba_), .val (.int (1 : Int32))] [(.int (8 : Int32)), (.int ((c0_ >>> ((8 : Int32) &&& 31)).toInt8.toInt32 &&& (255 : Int32))), (.int (((c0_ >>> ((0 : Int32) &&& 31)).toInt8.toInt32 &&& (255 : Int32)) <<< ((0 : Int32) &&& 31)))])) st5 ?_
  refine o_ishl X5 hx (hb hby d9_56) ?_
  refine o_ior X5 hx (hb hby d9_57) ?_
  refine o_i2c X5 hx (hb hby d9_58) ?_
  rw [own_u16 pr1]
  refine oend X5 hlk (v := some (.int c0_)) (fun h => by rw [hret] at h; cases h) (fun fs hr => retN X5 hx (t := .char) hret (by simp) (hb hby d9_59) (by rw [(own_nar16 pr1)]; exact hr)) (by decide) (by decide) ?_
  show own_Q_getch_3_0 Z _ _ _ _ _ _ _ h0 n0 _ T5.heap _
  rw [e5]
  exact ⟨rfl, N0, rfl⟩
def own_Q_cmp3_3_0 (Z : State) (z_CS : Int32) (v_FMT : Value) (ca_ : Addr) (kc_ : ClassId) (c0_ : Int32) (c1_ : Int32) (c2_ : Int32) (h0 : Heap) (n0 : Nat) (v : Option Value) (h : Heap) (L : List Loc) : Prop := ∃ ba_ : Addr, ∃ kb_ : ClassId, (v = some (.ref ba_)) ∧ (Fr n0 L) ∧ (Keep h0 h []) ∧ (h0.size ≤ ba_) ∧ (Arv Z h ba_ kb_ .byte (6 : Int32) [(.int (c0_ >>> ((0 : Int32) &&& 31)).toInt8.toInt32), (.int (c0_ >>> ((8 : Int32) &&& 31)).toInt8.toInt32), (.int (c1_ >>> ((0 : Int32) &&& 31)).toInt8.toInt32), (.int (c1_ >>> ((8 : Int32) &&& 31)).toInt8.toInt32), (.int (c2_ >>> ((0 : Int32) &&& 31)).toInt8.toInt32), (.int (c2_ >>> ((8 : Int32) &&& 31)).toInt8.toInt32)] (.int 0))
set_option maxRecDepth 65536 in
set_option maxHeartbeats 40000000 in
theorem rm_cmp3_3_0 (l : Launch) (Z : State) (a0 : Array Value) (hw : ∀ d ∈ tables_1, d.before a0 Z = true) (ws : List Jvm.Cond) (z_CS : Int32) (v_FMT : Value) (ca_ : Addr) (kc_ : ClassId) (c0_ : Int32) (c1_ : Int32) (c2_ : Int32) (h0 : Heap) (n0 : Nat) (SB : own_Start Z z_CS v_FMT) (O0 : Old Z n0 h0) (pr0 : Arv Z h0 ca_ kc_ .char (3 : Int32) [(.int c0_), (.int c1_), (.int c2_)] (.int 0)) (pr1 : own_c16 c0_) (pr2 : (255 : Int32) < c0_) :
    oMet l Z yM2 jdk_52_method_16_code 6 (some (.array .byte)) ws ({ frames := 3, cells := 2, slots := 9, locals := 40 } : Room) 2 9 #[(.ref ca_), (.int (0 : Int32)), (.int (3 : Int32))] h0 (own_Q_cmp3_3_0 Z z_CS v_FMT ca_ kc_ c0_ c1_ c2_ h0 n0) := by
  refine oenter own_pn1 #[.val (.ref ca_), .val (.int (0 : Int32)), .val (.int (3 : Int32)), .unset, .unset, .unset] (fun m => by first | (simp [entryFrame, mkF, argsToLocals, Value.category]; done) | rfl) ?_
  intro p e s m below meth c s₁ X0 hx hZ hby hml hret hown0 hnm hlk e0
  have hown : s.vm.findClass "java/lang/StringUTF16" = some m.cls := hown0
  have N0 := Fr.nil n0
  obtain ⟨S_CS, H_CS, S__assertionsDisabled, S_HI_BYTE_SHIFT, S_LO_BYTE_SHIFT, S_FMT, R_FMT⟩ := (id SB)
  have w20 := hw _ (List.mem_of_getElem? (i := 20) rfl)
  have w62 := hw _ (List.mem_of_getElem? (i := 62) rfl)
  have w64 := hw _ (List.mem_of_getElem? (i := 64) rfl)
  have w65 := hw _ (List.mem_of_getElem? (i := 65) rfl)
  have w66 := hw _ (List.mem_of_getElem? (i := 66) rfl)
  have w92 := hw _ (List.mem_of_getElem? (i := 92) rfl)
  have w93 := hw _ (List.mem_of_getElem? (i := 93) rfl)
  have w94 := hw _ (List.mem_of_getElem? (i := 94) rfl)
  have w108 := hw _ (List.mem_of_getElem? (i := 108) rfl)
  have w109 := hw _ (List.mem_of_getElem? (i := 109) rfl)
  have w110 := hw _ (List.mem_of_getElem? (i := 110) rfl)
  refine o_iloadN X0 hx (hb hby d3_0) rfl ?_
  obtain ⟨T1, _, k1, X1, rfl, E1, A1, Ex1, st1⟩ := newPE (aty := .byte) X0 hx hZ w20 e0 (g := (mkF m 1 #[.val (.ref ca_), .val (.int (0 : Int32)), .val (.int (3 : Int32)), .unset, .unset, .unset] [(.int (3 : Int32))])) rfl (hb hby d3_1) rfl (by decide) (cap := 3) (by decide) (by decide) (by decide) (by decide) (ad := "[B") rfl
  obtain ⟨b1, g1⟩ : ∃ z, z = h0.size := ⟨_, rfl⟩
  rw [← g1] at A1 Ex1 st1
  have n0_b1 : n0 ≤ b1 := Nat.le_trans (Nat.le_trans (Nat.le_of_eq O0.1.symm) O0.2.1) (Nat.le_trans (Nat.le_refl _) (Nat.le_of_eq g1.symm))
  have V1 : Arv Z T1.heap b1 k1 .byte (3 : Int32) [(.int 0), (.int 0), (.int 0)] (.int 0) := (Arv.new A1 (by decide)).pad (pad_rep [] (.int 0) 3)
  refine ogo (S' := T1.setTop (mkF m 3 #[.val (.ref ca_), .val (.int (0 : Int32)), .val (.int (3 : Int32)), .unset, .unset, .unset] [(.ref b1)])) st1 ?_
  refine o_astoreN X1 hx (l' := #[.val (.ref ca_), .val (.int (0 : Int32)), .val (.int (3 : Int32)), .val (.ref b1), .unset, .unset]) (hb hby d3_3) rfl rfl ?_
  refine o_aloadN X1 hx (hb hby d3_4) rfl rfl ?_
  refine o_iloadN X1 hx (hb hby d3_5) rfl ?_
  refine o_aloadN X1 hx (hb hby d3_6) rfl rfl ?_
  refine o_iconst X1 hx (0 : Int32) (hb hby d3_7) rfl ?_
  refine o_iloadN X1 hx (hb hby d3_8) rfl ?_
  obtain ⟨_, _, ⟨T2, L2, kc2, n2⟩, -, X2, ⟨Lc2, hQ2, l2, y2, z2⟩, st2⟩ := Jvm.LawKit.callS X1 hx (y := yM1) hown (mvT hZ w64) (mvT hZ w65) (mvT hZ w62) (mvT hZ w66) (by decide) (backOf (W := 0) (rm_cmp5_3_0 l Z a0 hw []  ca_ kc_ b1 k1 c0_ c1_ c2_ T1.heap n0 (O0.ext E1) (pr0.ext E1) V1 (Nat.ne_of_lt (Nat.lt_of_lt_of_le (Nat.lt_of_lt_of_le pr0.lt (Nat.le_refl _)) (Nat.le_of_eq g1.symm))) n0_b1 pr2) hZ w66 w62 (by decide) (by decide)) (g := (mkF m 9 #[.val (.ref ca_), .val (.int (0 : Int32)), .val (.int (3 : Int32)), .val (.ref b1), .unset, .unset] [(.int (3 : Int32)), (.int (0 : Int32)), (.ref b1), (.int (0 : Int32)), (.ref ca_)])) rfl (by rw [hml]; rfl) (argsL := [(.ref ca_), (.int (0 : Int32)), (.ref b1), (.int (0 : Int32)), (.int (3 : Int32))]) (rest := []) (lenOf own_pd0 rfl) rfl (by show 2 * 0 + _ ≤ _; exact Nat.le_of_eq rfl) (hb hby d3_9) (fun _ _ => ⟨rfl, rfl, (by decide : 1 + 0 ≤ _), (by decide : 3 + 0 ≤ _)⟩)
  dsimp only [Pt.U, Pt.locs, Pt.cells, Pt.slots] at X2 l2 y2 z2 st2 hQ2
  subst l2 y2 z2
  obtain ⟨rfl, Nq2, K2⟩ := hQ2
  have N2 := Fr.app N0 Nq2
  refine ogo (S' := T2.setTop (mkF m 12 #[.val (.ref ca_), .val (.int (0 : Int32)), .val (.int (3 : Int32)), .val (.ref b1), .unset, .unset] [(.int (0 : Int32))])) st2 ?_
  refine o_istore X2 hx (l' := #[.val (.ref ca_), .val (.int (0 : Int32)), .val (.int (3 : Int32)), .val (.ref b1), .val (.int (0 : Int32)), .unset]) (hb hby d3_12) rfl ?_
  refine o_iload X2 hx (hb hby d3_14) rfl ?_
  refine o_iloadN X2 hx (hb hby d3_16) rfl ?_
  refine o_icmpNo X2 hx (hb hby d3_17) (feq (by decide : ¬ ((0 : Int32) = (3 : Int32)))).1 ?_
  refine o_aloadN X2 hx (hb hby d3_20) rfl rfl ?_
  refine o_iloadN X2 hx (hb hby d3_21) rfl ?_
  refine o_iloadN X2 hx (hb hby d3_22) rfl ?_
  have c4 := ((pr0.ext E1).keep K2 (ninS (Nat.ne_of_lt (Nat.lt_of_lt_of_le (Nat.lt_of_lt_of_le pr0.lt (Nat.le_refl _)) (Nat.le_of_eq g1.symm))) nin0))
  obtain ⟨_, _, ⟨T3, L3, kc3, n3⟩, -, X3, ⟨Lc3, hQ3, l3, y3, z3⟩, st3⟩ := Jvm.LawKit.callS X2 hx (y := yM7) hown (mvT hZ w92) (mvT hZ w93) (mvT hZ w62) (mvT hZ w94) (by decide) (backOf (W := 0) (rm_tob_3 l Z a0 hw [] z_CS v_FMT ca_ kc_ c0_ c1_ c2_ T2.heap n0 SB ((O0.ext E1).keep K2 (allS n0_b1 all0)) c4) hZ w94 w62 (by decide) (by decide)) (g := (mkF m 23 #[.val (.ref ca_), .val (.int (0 : Int32)), .val (.int (3 : Int32)), .val (.ref b1), .val (.int (0 : Int32)), .unset] [(.int (3 : Int32)), (.int (0 : Int32)), (.ref ca_)])) rfl (by rw [hml]; rfl) (argsL := [(.ref ca_), (.int (0 : Int32)), (.int (3 : Int32))]) (rest := []) (lenOf own_pd4 rfl) rfl (by show 2 * 0 + _ ≤ _; exact Nat.le_of_eq rfl) (hb hby d3_23) (fun _ _ => ⟨rfl, rfl, (by decide : 1 + 1 ≤ _), (by decide : 3 + 6 ≤ _)⟩)
  dsimp only [Pt.U, Pt.locs, Pt.cells, Pt.slots] at X3 l3 y3 z3 st3 hQ3
  subst l3 y3 z3
  obtain ⟨ba_3, kb_3, rfl, Nq3, K3, p3_0, p3_1⟩ := hQ3
  have N3 := Fr.app N2 Nq3
  have n0_ba_3 : n0 ≤ ba_3 := Nat.le_trans (Nat.le_trans (Nat.le_of_eq O0.1.symm) O0.2.1) (Nat.le_trans (Nat.le_trans E1.1 K2.1) p3_0)
  refine ogo (S' := T3.setTop (mkF m 26 #[.val (.ref ca_), .val (.int (0 : Int32)), .val (.int (3 : Int32)), .val (.ref b1), .val (.int (0 : Int32)), .unset] [(.ref ba_3)])) st3 ?_
  refine o_astore X3 hx (l' := #[.val (.ref ca_), .val (.int (0 : Int32)), .val (.int (3 : Int32)), .val (.ref b1), .val (.int (0 : Int32)), .val (.ref ba_3)]) (hb hby d3_26) rfl rfl ?_
  refine o_aload X3 hx (hb hby d3_28) rfl rfl ?_
  refine o_iload X3 hx (hb hby d3_30) rfl ?_
  obtain ⟨_, _, ⟨T5, L5, kc5, n5⟩, -, X5, ⟨Lc5, hQ5, l5, y5, z5⟩, st5⟩ := Jvm.LawKit.callS X3 hx (y := yM8) hown (mvT hZ w108) (mvT hZ w109) (mvT hZ w62) (mvT hZ w110) (by decide) (backOf (W := 0) (rm_getch_3_0 l Z a0 hw [] z_CS v_FMT ba_3 kb_3 c0_ c1_ c2_ T3.heap n0 SB (((O0.ext E1).keep K2 (allS n0_b1 all0)).keep K3 all0) p3_1 pr1) hZ w110 w62 (by decide) (by decide)) (g := (mkF m 32 #[.val (.ref ca_), .val (.int (0 : Int32)), .val (.int (3 : Int32)), .val (.ref b1), .val (.int (0 : Int32)), .val (.ref ba_3)] [(.int (0 : Int32)), (.ref ba_3)])) rfl (by rw [hml]; rfl) (argsL := [(.ref ba_3), (.int (0 : Int32))]) (rest := []) (lenOf own_pd5 rfl) rfl (by show 2 * 0 + _ ≤ _; exact Nat.le_of_eq rfl) (hb hby d3_32) (fun _ _ => ⟨rfl, rfl, (by decide : 2 + 0 ≤ _), (by decide : 9 + 0 ≤ _)⟩)
  dsimp only [Pt.U, Pt.locs, Pt.cells, Pt.slots] at X5 l5 y5 z5 st5 hQ5
  subst l5 y5 z5
  obtain ⟨rfl, Nq5, e5⟩ := hQ5
  have N5 := Fr.app N3 Nq5
  refine ogo (S' := T5.setTop (mkF m 35 #[.val (.ref ca_), .val (.int (0 : Int32)), .val (.int (3 : Int32)), .val (.ref b1), .val (.int (0 : Int32)), .val (.ref ba_3)] [(.int c0_)])) st5 ?_
  refine o_sipush X5 hx (255 : Int32) (hb hby d3_35) rfl ?_
  refine o_icmpYes X5 hx 54 (hb hby d3_38) (tlt pr2).2.2.1 (by decide) (by decide) ?_
  refine o_aload X5 hx (hb hby d3_54) rfl rfl ?_
  refine oend X5 hlk (v := some (.ref ba_3)) (fun h => by rw [hret] at h; cases h) (fun fs hr => retOut X5 hx (t := (.array .byte)) (i := .areturn) hret rfl (Or.inr (Or.inr (Or.inr (Or.inr ⟨rfl, rfl, rfl⟩)))) (hb hby d3_56) hr) (by decide) (by decide) ?_
  show own_Q_cmp3_3_0 Z _ _ _ _ _ _ _ h0 n0 _ T5.heap _
  rw [e5]
  exact ⟨ba_3, kb_3, rfl, N5, ((((Keep.refl h0 []).ext E1).trans K2 (allS (Or.inr (Nat.le_trans (Nat.le_refl _) (Nat.le_of_eq g1.symm))) all0)).trans K3 all0), (Nat.le_trans (Nat.le_trans E1.1 K2.1) p3_0), p3_1⟩
def own_Q_cmp5_3_1 (Z : State)  (ca_ : Addr) (kc_ : ClassId) (ba_ : Addr) (kb_ : ClassId) (c0_ : Int32) (c1_ : Int32) (c2_ : Int32) (h0 : Heap) (n0 : Nat) (v : Option Value) (h : Heap) (L : List Loc) : Prop := (v = some (.int (1 : Int32))) ∧ (Fr n0 L) ∧ (Keep h0 h [ba_])
set_option maxRecDepth 65536 in
set_option maxHeartbeats 40000000 in
theorem rm_cmp5_3_1 (l : Launch) (Z : State) (a0 : Array Value) (hw : ∀ d ∈ tables_1, d.before a0 Z = true) (ws : List Jvm.Cond)  (ca_ : Addr) (kc_ : ClassId) (ba_ : Addr) (kb_ : ClassId) (c0_ : Int32) (c1_ : Int32) (c2_ : Int32) (h0 : Heap) (n0 : Nat) (O0 : Old Z n0 h0) (pr0 : Arv Z h0 ca_ kc_ .char (3 : Int32) [(.int c0_), (.int c1_), (.int c2_)] (.int 0)) (pr1 : Arv Z h0 ba_ kb_ .byte (3 : Int32) [(.int 0), (.int 0), (.int 0)] (.int 0)) (pr2 : ca_ ≠ ba_) (pr3 : n0 ≤ ba_) (pr4 : ¬ ((255 : Int32) < c0_)) (pr5 : (255 : Int32) < c1_) :
    oMet l Z yM1 jdk_52_method_21_code 7 (some .int) ws ({ frames := 0, cells := 0, slots := 0, locals := 0 } : Room) 0 0 #[(.ref ca_), (.int (0 : Int32)), (.ref ba_), (.int (0 : Int32)), (.int (3 : Int32))] h0 (own_Q_cmp5_3_1 Z  ca_ kc_ ba_ kb_ c0_ c1_ c2_ h0 n0) := by
  refine oenter own_pn1 #[.val (.ref ca_), .val (.int (0 : Int32)), .val (.ref ba_), .val (.int (0 : Int32)), .val (.int (3 : Int32)), .unset, .unset] (fun m => by first | (simp [entryFrame, mkF, argsToLocals, Value.category]; done) | rfl) ?_
  intro p e s m below meth c s₁ X0 hx hZ hby hml hret hown0 hnm hlk e0
  have hown : s.vm.findClass "java/lang/StringUTF16" = some m.cls := hown0
  have N0 := Fr.nil n0
  refine o_iconst X0 hx (0 : Int32) (hb hby d2_0) rfl ?_
  refine o_istore X0 hx (l' := #[.val (.ref ca_), .val (.int (0 : Int32)), .val (.ref ba_), .val (.int (0 : Int32)), .val (.int (3 : Int32)), .val (.int (0 : Int32)), .unset]) (hb hby d2_1) rfl ?_
  refine o_iload X0 hx (hb hby d2_3) rfl ?_
  refine o_iload X0 hx (hb hby d2_5) rfl ?_
  refine o_icmpNo X0 hx (hb hby d2_7) (tlt (by decide : (0 : Int32) < (3 : Int32))).2.1 ?_
  refine o_aloadN X0 hx (hb hby d2_10) rfl rfl ?_
  refine o_iloadN X0 hx (hb hby d2_11) rfl ?_
  obtain ⟨cl1, Ar1, q1, S1, N1z, H1, G1⟩ := (id pr0)
  have hi1 := inb_of (j := (0 : Int32)) S1 ⟨by decide, by decide⟩
  have ha1 := Has.at (v := (.int c0_)) H1 hi1 rfl
  refine ogo (S' := s₁.setTop (mkF m 13 #[.val (.ref ca_), .val (.int (0 : Int32)), .val (.ref ba_), .val (.int (0 : Int32)), .val (.int (3 : Int32)), .val (.int (0 : Int32)), .unset] [(.int c0_)])) (X0.caload hx (j := (0 : Int32)) (v := (.int c0_)) (by rw [e0]; exact Ar1.1) (State.isArrayOf_alike hZ.alike Ar1.2.1) Ar1.2.2 hi1 ha1 (g := (mkF m 12 #[.val (.ref ca_), .val (.int (0 : Int32)), .val (.ref ba_), .val (.int (0 : Int32)), .val (.int (3 : Int32)), .val (.int (0 : Int32)), .unset] [(.int (0 : Int32)), (.ref ca_)])) rfl rfl (hb hby d2_12)) ?_
  refine o_istore X0 hx (l' := #[.val (.ref ca_), .val (.int (0 : Int32)), .val (.ref ba_), .val (.int (0 : Int32)), .val (.int (3 : Int32)), .val (.int (0 : Int32)), .val (.int c0_)]) (hb hby d2_13) rfl ?_
  refine o_iload X0 hx (hb hby d2_15) rfl ?_
  refine o_sipush X0 hx (255 : Int32) (hb hby d2_17) rfl ?_
  refine o_icmpYes X0 hx 26 (hb hby d2_20) (flt pr4).2.2.2 (by decide) (by decide) ?_
  refine o_aloadN X0 hx (hb hby d2_26) rfl rfl ?_
  refine o_iloadN X0 hx (hb hby d2_27) rfl ?_
  refine o_iload X0 hx (hb hby d2_28) rfl ?_
  refine o_i2b X0 hx (hb hby d2_30) ?_
  obtain ⟨cl2, Ar2, q2, S2, N2z, H2, G2⟩ := (id pr1)
  obtain ⟨T2, _, X2, rfl, W2, st2⟩ := stB X0 hx hZ e0 Ar2 (j := (0 : Int32)) (inb_of S2 ⟨by decide, by decide⟩) (g := (mkF m 31 #[.val (.ref ca_), .val (.int (0 : Int32)), .val (.ref ba_), .val (.int (0 : Int32)), .val (.int (3 : Int32)), .val (.int (0 : Int32)), .val (.int c0_)] [(.int c0_.toInt8.toInt32), (.int (0 : Int32)), (.ref ba_)])) rfl rfl (hb hby d2_31)
  rw [own_narb] at W2
  have V2 : Arv Z T2.heap ba_ kb_ .byte (3 : Int32) [(.int c0_.toInt8.toInt32), (.int 0), (.int 0)] (.int 0) := Arv.set Ar2 q2 S2 N2z H2 G2 (fits_nar_byte _) W2 0 rfl (Nat.le_of_ble_eq_true rfl)
  have N2 := Fr.snoc X2 N0 pr3
  refine ogo (S' := T2.setTop (mkF m 32 #[.val (.ref ca_), .val (.int (0 : Int32)), .val (.ref ba_), .val (.int (0 : Int32)), .val (.int (3 : Int32)), .val (.int (0 : Int32)), .val (.int c0_)] [])) st2 ?_
  refine o_iinc X2 hx (l' := #[.val (.ref ca_), .val (.int (1 : Int32)), .val (.ref ba_), .val (.int (0 : Int32)), .val (.int (3 : Int32)), .val (.int (0 : Int32)), .val (.int c0_)]) (hb hby d2_32) rfl rfl ?_
  refine o_iinc X2 hx (l' := #[.val (.ref ca_), .val (.int (1 : Int32)), .val (.ref ba_), .val (.int (1 : Int32)), .val (.int (3 : Int32)), .val (.int (0 : Int32)), .val (.int c0_)]) (hb hby d2_35) rfl rfl ?_
  refine o_iinc X2 hx (l' := #[.val (.ref ca_), .val (.int (1 : Int32)), .val (.ref ba_), .val (.int (1 : Int32)), .val (.int (3 : Int32)), .val (.int (1 : Int32)), .val (.int c0_)]) (hb hby d2_38) rfl rfl ?_
  refine o_goto X2 hx 3 (hb hby d2_41) (by decide) (by decide) ?_
  refine o_iload X2 hx (hb hby d2_3) rfl ?_
  refine o_iload X2 hx (hb hby d2_5) rfl ?_
  refine o_icmpNo X2 hx (hb hby d2_7) (tlt (by decide : (1 : Int32) < (3 : Int32))).2.1 ?_
  refine o_aloadN X2 hx (hb hby d2_10) rfl rfl ?_
  refine o_iloadN X2 hx (hb hby d2_11) rfl ?_
  obtain ⟨cl3, Ar3, q3, S3, N3z, H3, G3⟩ := (id (pr0.other W2 pr2))
  have hi3 := inb_of (j := (1 : Int32)) S3 ⟨by decide, by decide⟩
  have ha3 := Has.at (v := (.int c1_)) H3 hi3 rfl
  refine ogo (S' := T2.setTop (mkF m 13 #[.val (.ref ca_), .val (.int (1 : Int32)), .val (.ref ba_), .val (.int (1 : Int32)), .val (.int (3 : Int32)), .val (.int (1 : Int32)), .val (.int c0_)] [(.int c1_)])) (X2.caload hx (j := (1 : Int32)) (v := (.int c1_)) Ar3.1 (State.isArrayOf_alike hZ.alike Ar3.2.1) Ar3.2.2 hi3 ha3 (g := (mkF m 12 #[.val (.ref ca_), .val (.int (1 : Int32)), .val (.ref ba_), .val (.int (1 : Int32)), .val (.int (3 : Int32)), .val (.int (1 : Int32)), .val (.int c0_)] [(.int (1 : Int32)), (.ref ca_)])) rfl rfl (hb hby d2_12)) ?_
  refine o_istore X2 hx (l' := #[.val (.ref ca_), .val (.int (1 : Int32)), .val (.ref ba_), .val (.int (1 : Int32)), .val (.int (3 : Int32)), .val (.int (1 : Int32)), .val (.int c1_)]) (hb hby d2_13) rfl ?_
  refine o_iload X2 hx (hb hby d2_15) rfl ?_
  refine o_sipush X2 hx (255 : Int32) (hb hby d2_17) rfl ?_
  refine o_icmpNo X2 hx (hb hby d2_20) (tlt pr5).2.2.2 ?_
  refine o_iload X2 hx (hb hby d2_23) rfl ?_
  refine oend X2 hlk (v := some (.int (1 : Int32))) (fun h => by rw [hret] at h; cases h) (fun fs hr => retOut X2 hx (t := .int) (i := .ireturn) hret rfl (Or.inl ⟨rfl, Or.inl rfl, _, rfl⟩) (hb hby d2_25) hr) (by decide) (by decide) ?_
  show own_Q_cmp5_3_1 Z _ _ _ _ _ _ _ h0 n0 _ T2.heap _
  exact ⟨rfl, N2, ((Keep.refl h0 [ba_]).wr W2 (Or.inl (List.mem_of_getElem? (i := 0) rfl)))⟩
def own_Q_getch_3_1 (Z : State) (z_CS : Int32) (v_FMT : Value) (ba_ : Addr) (kb_ : ClassId) (c0_ : Int32) (c1_ : Int32) (c2_ : Int32) (h0 : Heap) (n0 : Nat) (v : Option Value) (h : Heap) (L : List Loc) : Prop := (v = some (.int c1_)) ∧ (Fr n0 L) ∧ (h = h0)
set_option maxRecDepth 65536 in
set_option maxHeartbeats 40000000 in
theorem rm_getch_3_1 (l : Launch) (Z : State) (a0 : Array Value) (hw : ∀ d ∈ tables_1, d.before a0 Z = true) (ws : List Jvm.Cond) (z_CS : Int32) (v_FMT : Value) (ba_ : Addr) (kb_ : ClassId) (c0_ : Int32) (c1_ : Int32) (c2_ : Int32) (h0 : Heap) (n0 : Nat) (SB : own_Start Z z_CS v_FMT) (O0 : Old Z n0 h0) (pr0 : Arv Z h0 ba_ kb_ .byte (6 : Int32) [(.int (c0_ >>> ((0 : Int32) &&& 31)).toInt8.toInt32), (.int (c0_ >>> ((8 : Int32) &&& 31)).toInt8.toInt32), (.int (c1_ >>> ((0 : Int32) &&& 31)).toInt8.toInt32), (.int (c1_ >>> ((8 : Int32) &&& 31)).toInt8.toInt32), (.int (c2_ >>> ((0 : Int32) &&& 31)).toInt8.toInt32), (.int (c2_ >>> ((8 : Int32) &&& 31)).toInt8.toInt32)] (.int 0)) (pr1 : own_c16 c1_) :
    oMet l Z yM8 jdk_52_method_5_code 2 (some .char) ws ({ frames := 0, cells := 0, slots := 0, locals := 0 } : Room) 0 0 #[(.ref ba_), (.int (1 : Int32))] h0 (own_Q_getch_3_1 Z z_CS v_FMT ba_ kb_ c0_ c1_ c2_ h0 n0) := by
  refine oenter own_pn1 #[.val (.ref ba_), .val (.int (1 : Int32))] (fun m => by first | (simp [entryFrame, mkF, argsToLocals, Value.category]; done) | rfl) ?_
  intro p e s m below meth c s₁ X0 hx hZ hby hml hret hown0 hnm hlk e0
  have hown : s.vm.findClass "java/lang/StringUTF16" = some m.cls := hown0
  have N0 := Fr.nil n0
  obtain ⟨S_CS, H_CS, S__assertionsDisabled, S_HI_BYTE_SHIFT, S_LO_BYTE_SHIFT, S_FMT, R_FMT⟩ := (id SB)
  have w105 := hw _ (List.mem_of_getElem? (i := 105) rfl)
  have w106 := hw _ (List.mem_of_getElem? (i := 106) rfl)
  have w107 := hw _ (List.mem_of_getElem? (i := 107) rfl)
  obtain ⟨T1, X1, e1, st1⟩ := getS2 X0 hx hZ hown (host := "") (Or.inl w105) Via.refl e0 (Sta.ext O0.2 S__assertionsDisabled) (g := (mkF m 0 #[.val (.ref ba_), .val (.int (1 : Int32))] [])) rfl (hb hby d9_0)
  refine ogo (S' := T1.setTop (mkF m 3 #[.val (.ref ba_), .val (.int (1 : Int32))] [(.int (1 : Int32))])) st1 ?_
  refine o_ifYes X1 hx 28 (hb hby d9_3) (feq (by decide : ¬ ((1 : Int32) = (0 : Int32)))).2 (by decide) (by decide) ?_
  refine o_iloadN X1 hx (hb hby d9_28) rfl ?_
  refine o_iconst X1 hx (1 : Int32) (hb hby d9_29) rfl ?_
  refine o_ishl X1 hx (hb hby d9_30) ?_
  refine o_istoreN X1 hx (l' := #[.val (.ref ba_), .val (.int (2 : Int32))]) (hb hby d9_31) rfl ?_
  refine o_aloadN X1 hx (hb hby d9_32) rfl rfl ?_
  refine o_iloadN X1 hx (hb hby d9_33) rfl ?_
  refine o_iinc X1 hx (l' := #[.val (.ref ba_), .val (.int (3 : Int32))]) (hb hby d9_34) rfl rfl ?_
  obtain ⟨cl2, Ar2, q2, S2, N2z, H2, G2⟩ := (id pr0)
  have hi2 := inb_of (j := (2 : Int32)) S2 ⟨by decide, by decide⟩
  have ha2 := Has.at (v := (.int (c1_ >>> ((0 : Int32) &&& 31)).toInt8.toInt32)) H2 hi2 rfl
  refine ogo (S' := T1.setTop (mkF m 38 #[.val (.ref ba_), .val (.int (3 : Int32))] [(.int (c1_ >>> ((0 : Int32) &&& 31)).toInt8.toInt32)])) (X1.baloadBytes hx (j := (2 : Int32)) (v := (.int (c1_ >>> ((0 : Int32) &&& 31)).toInt8.toInt32)) (by rw [e1]; exact Ar2.1) (State.isArrayOf_alike hZ.alike Ar2.2.1) Ar2.2.2 hi2 ha2 (g := (mkF m 37 #[.val (.ref ba_), .val (.int (3 : Int32))] [(.int (2 : Int32)), (.ref ba_)])) rfl rfl (hb hby d9_37)) ?_
  refine o_sipush X1 hx (255 : Int32) (hb hby d9_38) rfl ?_
  refine o_iand X1 hx (hb hby d9_41) ?_
  obtain ⟨T3, X3, e3, st3⟩ := getS2 X1 hx hZ hown (host := "") (Or.inl w106) Via.refl e1 (Sta.ext O0.2 S_HI_BYTE_SHIFT) (g := (mkF m 42 #[.val (.ref ba_), .val (.int (3 : Int32))] [(.int ((c1_ >>> ((0 : Int32) &&& 31)).toInt8.toInt32 &&& (255 : Int32)))])) rfl (hb hby d9_42)
  refine ogo (S' := T3.setTop (mkF m 45 #[.val (.ref ba_), .val (.int (3 : Int32))] [(.int (0 : Int32)), (.int ((c1_ >>> ((0 : Int32) &&& 31)).toInt8.toInt32 &&& (255 : Int32)))])) st3 ?_
  refine o_ishl X3 hx (hb hby d9_45) ?_
  refine o_aloadN X3 hx (hb hby d9_46) rfl rfl ?_
  refine o_iloadN X3 hx (hb hby d9_47) rfl ?_
  obtain ⟨cl4, Ar4, q4, S4, N4z, H4, G4⟩ := (id pr0)
  have hi4 := inb_of (j := (3 : Int32)) S4 ⟨by decide, by decide⟩
  have ha4 := Has.at (v := (.int (c1_ >>> ((8 : Int32) &&& 31)).toInt8.toInt32)) H4 hi4 rfl
  refine ogo (S' := T3.setTop (mkF m 49 #[.val (.ref ba_), .val (.int (3 : Int32))] [(.int (c1_ >>> ((8 : Int32) &&& 31)).toInt8.toInt32), (.int (((c1_ >>> ((0 : Int32) &&& 31)).toInt8.toInt32 &&& (255 : Int32)) <<< ((0 : Int32) &&& 31)))])) (X3.baloadBytes hx (j := (3 : Int32)) (v := (.int (c1_ >>> ((8 : Int32) &&& 31)).toInt8.toInt32)) (by rw [e3]; exact Ar4.1) (State.isArrayOf_alike hZ.alike Ar4.2.1) Ar4.2.2 hi4 ha4 (g := (mkF m 48 #[.val (.ref ba_), .val (.int (3 : Int32))] [(.int (3 : Int32)), (.ref ba_), (.int (((c1_ >>> ((0 : Int32) &&& 31)).toInt8.toInt32 &&& (255 : Int32)) <<< ((0 : Int32) &&& 31)))])) rfl rfl (hb hby d9_48)) ?_
  refine o_sipush X3 hx (255 : Int32) (hb hby d9_49) rfl ?_
  refine o_iand X3 hx (hb hby d9_52) ?_
  obtain ⟨T5, X5, e5, st5⟩ := getS2 X3 hx hZ hown (host := "") (Or.inl w107) Via.refl e3 (Sta.ext O0.2 S_LO_BYTE_SHIFT) (g := (mkF m 53 #[.val (.ref ba_), .val (.int (3 : Int32))] [(.int ((c1_ >>> ((8 : Int32) &&& 31)).toInt8.toInt32 &&& (255 : Int32))), (.int (((c1_ >>> ((0 : Int32) &&& 31)).toInt8.toInt32 &&& (255 : Int32)) <<< ((0 : Int32) &&& 31)))])) rfl (hb hby d9_53)
  refine ogo (S' := T5.setTop (mkF m 56 #[.val (.ref ba_), .val (.int (3 : Int32))] [(.int (8 : Int32)), (.int ((c1_ >>> ((8 : Int32) &&& 31)).toInt8.toInt32 &&& (255 : Int32))), (.int (((c1_ >>> ((0 : Int32) &&& 31)).toInt8.toInt32 &&& (255 : Int32)) <<< ((0 : Int32) &&& 31)))])) st5 ?_
  refine o_ishl X5 hx (hb hby d9_56) ?_
  refine o_ior X5 hx (hb hby d9_57) ?_
  refine o_i2c X5 hx (hb hby d9_58) ?_
  rw [own_u16 pr1]
  refine oend X5 hlk (v := some (.int c1_)) (fun h => by rw [hret] at h; cases h) (fun fs hr => retN X5 hx (t := .char) hret (by simp) (hb hby d9_59) (by rw [(own_nar16 pr1)]; exact hr)) (by decide) (by decide) ?_
  show own_Q_getch_3_1 Z _ _ _ _ _ _ _ h0 n0 _ T5.heap _
  rw [e5]
  exact ⟨rfl, N0, rfl⟩
def own_Q_cmp3_3_1 (Z : State) (z_CS : Int32) (v_FMT : Value) (ca_ : Addr) (kc_ : ClassId) (c0_ : Int32) (c1_ : Int32) (c2_ : Int32) (h0 : Heap) (n0 : Nat) (v : Option Value) (h : Heap) (L : List Loc) : Prop := ∃ ba_ : Addr, ∃ kb_ : ClassId, (v = some (.ref ba_)) ∧ (Fr n0 L) ∧ (Keep h0 h []) ∧ (h0.size ≤ ba_) ∧ (Arv Z h ba_ kb_ .byte (6 : Int32) [(.int (c0_ >>> ((0 : Int32) &&& 31)).toInt8.toInt32), (.int (c0_ >>> ((8 : Int32) &&& 31)).toInt8.toInt32), (.int (c1_ >>> ((0 : Int32) &&& 31)).toInt8.toInt32), (.int (c1_ >>> ((8 : Int32) &&& 31)).toInt8.toInt32), (.int (c2_ >>> ((0 : Int32) &&& 31)).toInt8.toInt32), (.int (c2_ >>> ((8 : Int32) &&& 31)).toInt8.toInt32)] (.int 0))
set_option maxRecDepth 65536 in
set_option maxHeartbeats 40000000 in
theorem rm_cmp3_3_1 (l : Launch) (Z : State) (a0 : Array Value) (hw : ∀ d ∈ tables_1, d.before a0 Z = true) (ws : List Jvm.Cond) (z_CS : Int32) (v_FMT : Value) (ca_ : Addr) (kc_ : ClassId) (c0_ : Int32) (c1_ : Int32) (c2_ : Int32) (h0 : Heap) (n0 : Nat) (SB : own_Start Z z_CS v_FMT) (O0 : Old Z n0 h0) (pr0 : Arv Z h0 ca_ kc_ .char (3 : Int32) [(.int c0_), (.int c1_), (.int c2_)] (.int 0)) (pr1 : own_c16 c1_) (pr2 : ¬ ((255 : Int32) < c0_)) (pr3 : (255 : Int32) < c1_) :
    oMet l Z yM2 jdk_52_method_16_code 6 (some (.array .byte)) ws ({ frames := 3, cells := 2, slots := 9, locals := 40 } : Room) 2 9 #[(.ref ca_), (.int (0 : Int32)), (.int (3 : Int32))] h0 (own_Q_cmp3_3_1 Z z_CS v_FMT ca_ kc_ c0_ c1_ c2_ h0 n0) := by
  refine oenter own_pn1 #[.val (.ref ca_), .val (.int (0 : Int32)), .val (.int (3 : Int32)), .unset, .unset, .unset] (fun m => by first | (simp [entryFrame, mkF, argsToLocals, Value.category]; done) | rfl) ?_
  intro p e s m below meth c s₁ X0 hx hZ hby hml hret hown0 hnm hlk e0
  have hown : s.vm.findClass "java/lang/StringUTF16" = some m.cls := hown0
  have N0 := Fr.nil n0
  obtain ⟨S_CS, H_CS, S__assertionsDisabled, S_HI_BYTE_SHIFT, S_LO_BYTE_SHIFT, S_FMT, R_FMT⟩ := (id SB)
  have w20 := hw _ (List.mem_of_getElem? (i := 20) rfl)
  have w62 := hw _ (List.mem_of_getElem? (i := 62) rfl)
  have w64 := hw _ (List.mem_of_getElem? (i := 64) rfl)
  have w65 := hw _ (List.mem_of_getElem? (i := 65) rfl)
  have w66 := hw _ (List.mem_of_getElem? (i := 66) rfl)
  have w92 := hw _ (List.mem_of_getElem? (i := 92) rfl)
  have w93 := hw _ (List.mem_of_getElem? (i := 93) rfl)
  have w94 := hw _ (List.mem_of_getElem? (i := 94) rfl)
  have w108 := hw _ (List.mem_of_getElem? (i := 108) rfl)
  have w109 := hw _ (List.mem_of_getElem? (i := 109) rfl)
  have w110 := hw _ (List.mem_of_getElem? (i := 110) rfl)
  refine o_iloadN X0 hx (hb hby d3_0) rfl ?_
  obtain ⟨T1, _, k1, X1, rfl, E1, A1, Ex1, st1⟩ := newPE (aty := .byte) X0 hx hZ w20 e0 (g := (mkF m 1 #[.val (.ref ca_), .val (.int (0 : Int32)), .val (.int (3 : Int32)), .unset, .unset, .unset] [(.int (3 : Int32))])) rfl (hb hby d3_1) rfl (by decide) (cap := 3) (by decide) (by decide) (by decide) (by decide) (ad := "[B") rfl
  obtain ⟨b1, g1⟩ : ∃ z, z = h0.size := ⟨_, rfl⟩
  rw [← g1] at A1 Ex1 st1
  have n0_b1 : n0 ≤ b1 := Nat.le_trans (Nat.le_trans (Nat.le_of_eq O0.1.symm) O0.2.1) (Nat.le_trans (Nat.le_refl _) (Nat.le_of_eq g1.symm))
  have V1 : Arv Z T1.heap b1 k1 .byte (3 : Int32) [(.int 0), (.int 0), (.int 0)] (.int 0) := (Arv.new A1 (by decide)).pad (pad_rep [] (.int 0) 3)
  refine ogo (S' := T1.setTop (mkF m 3 #[.val (.ref ca_), .val (.int (0 : Int32)), .val (.int (3 : Int32)), .unset, .unset, .unset] [(.ref b1)])) st1 ?_
  refine o_astoreN X1 hx (l' := #[.val (.ref ca_), .val (.int (0 : Int32)), .val (.int (3 : Int32)), .val (.ref b1), .unset, .unset]) (hb hby d3_3) rfl rfl ?_
  refine o_aloadN X1 hx (hb hby d3_4) rfl rfl ?_
  refine o_iloadN X1 hx (hb hby d3_5) rfl ?_
  refine o_aloadN X1 hx (hb hby d3_6) rfl rfl ?_
  refine o_iconst X1 hx (0 : Int32) (hb hby d3_7) rfl ?_
  refine o_iloadN X1 hx (hb hby d3_8) rfl ?_
  obtain ⟨_, _, ⟨T2, L2, kc2, n2⟩, -, X2, ⟨Lc2, hQ2, l2, y2, z2⟩, st2⟩ := Jvm.LawKit.callS X1 hx (y := yM1) hown (mvT hZ w64) (mvT hZ w65) (mvT hZ w62) (mvT hZ w66) (by decide) (backOf (W := 0) (rm_cmp5_3_1 l Z a0 hw []  ca_ kc_ b1 k1 c0_ c1_ c2_ T1.heap n0 (O0.ext E1) (pr0.ext E1) V1 (Nat.ne_of_lt (Nat.lt_of_lt_of_le (Nat.lt_of_lt_of_le pr0.lt (Nat.le_refl _)) (Nat.le_of_eq g1.symm))) n0_b1 pr2 pr3) hZ w66 w62 (by decide) (by decide)) (g := (mkF m 9 #[.val (.ref ca_), .val (.int (0 : Int32)), .val (.int (3 : Int32)), .val (.ref b1), .unset, .unset] [(.int (3 : Int32)), (.int (0 : Int32)), (.ref b1), (.int (0 : Int32)), (.ref ca_)])) rfl (by rw [hml]; rfl) (argsL := [(.ref ca_), (.int (0 : Int32)), (.ref b1), (.int (0 : Int32)), (.int (3 : Int32))]) (rest := []) (lenOf own_pd0 rfl) rfl (by show 2 * 0 + _ ≤ _; exact Nat.le_of_eq rfl) (hb hby d3_9) (fun _ _ => ⟨rfl, rfl, (by decide : 1 + 0 ≤ _), (by decide : 3 + 0 ≤ _)⟩)
  dsimp only [Pt.U, Pt.locs, Pt.cells, Pt.slots] at X2 l2 y2 z2 st2 hQ2
  subst l2 y2 z2
  obtain ⟨rfl, Nq2, K2⟩ := hQ2
  have N2 := Fr.app N0 Nq2
  refine ogo (S' := T2.setTop (mkF m 12 #[.val (.ref ca_), .val (.int (0 : Int32)), .val (.int (3 : Int32)), .val (.ref b1), .unset, .unset] [(.int (1 : Int32))])) st2 ?_
  refine o_istore X2 hx (l' := #[.val (.ref ca_), .val (.int (0 : Int32)), .val (.int (3 : Int32)), .val (.ref b1), .val (.int (1 : Int32)), .unset]) (hb hby d3_12) rfl ?_
  refine o_iload X2 hx (hb hby d3_14) rfl ?_
  refine o_iloadN X2 hx (hb hby d3_16) rfl ?_
  refine o_icmpNo X2 hx (hb hby d3_17) (feq (by decide : ¬ ((1 : Int32) = (3 : Int32)))).1 ?_
  refine o_aloadN X2 hx (hb hby d3_20) rfl rfl ?_
  refine o_iloadN X2 hx (hb hby d3_21) rfl ?_
  refine o_iloadN X2 hx (hb hby d3_22) rfl ?_
  have c4 := ((pr0.ext E1).keep K2 (ninS (Nat.ne_of_lt (Nat.lt_of_lt_of_le (Nat.lt_of_lt_of_le pr0.lt (Nat.le_refl _)) (Nat.le_of_eq g1.symm))) nin0))
  obtain ⟨_, _, ⟨T3, L3, kc3, n3⟩, -, X3, ⟨Lc3, hQ3, l3, y3, z3⟩, st3⟩ := Jvm.LawKit.callS X2 hx (y := yM7) hown (mvT hZ w92) (mvT hZ w93) (mvT hZ w62) (mvT hZ w94) (by decide) (backOf (W := 0) (rm_tob_3 l Z a0 hw [] z_CS v_FMT ca_ kc_ c0_ c1_ c2_ T2.heap n0 SB ((O0.ext E1).keep K2 (allS n0_b1 all0)) c4) hZ w94 w62 (by decide) (by decide)) (g := (mkF m 23 #[.val (.ref ca_), .val (.int (0 : Int32)), .val (.int (3 : Int32)), .val (.ref b1), .val (.int (1 : Int32)), .unset] [(.int (3 : Int32)), (.int (0 : Int32)), (.ref ca_)])) rfl (by rw [hml]; rfl) (argsL := [(.ref ca_), (.int (0 : Int32)), (.int (3 : Int32))]) (rest := []) (lenOf own_pd4 rfl) rfl (by show 2 * 0 + _ ≤ _; exact Nat.le_of_eq rfl) (hb hby d3_23) (fun _ _ => ⟨rfl, rfl, (by decide : 1 + 1 ≤ _), (by decide : 3 + 6 ≤ _)⟩)
  dsimp only [Pt.U, Pt.locs, Pt.cells, Pt.slots] at X3 l3 y3 z3 st3 hQ3
  subst l3 y3 z3
  obtain ⟨ba_3, kb_3, rfl, Nq3, K3, p3_0, p3_1⟩ := hQ3
  have N3 := Fr.app N2 Nq3
  have n0_ba_3 : n0 ≤ ba_3 := Nat.le_trans (Nat.le_trans (Nat.le_of_eq O0.1.symm) O0.2.1) (Nat.le_trans (Nat.le_trans E1.1 K2.1) p3_0)
  refine ogo (S' := T3.setTop (mkF m 26 #[.val (.ref ca_), .val (.int (0 : Int32)), .val (.int (3 : Int32)), .val (.ref b1), .val (.int (1 : Int32)), .unset] [(.ref ba_3)])) st3 ?_
  refine o_astore X3 hx (l' := #[.val (.ref ca_), .val (.int (0 : Int32)), .val (.int (3 : Int32)), .val (.ref b1), .val (.int (1 : Int32)), .val (.ref ba_3)]) (hb hby d3_26) rfl rfl ?_
  refine o_aload X3 hx (hb hby d3_28) rfl rfl ?_
  refine o_iload X3 hx (hb hby d3_30) rfl ?_
  obtain ⟨_, _, ⟨T5, L5, kc5, n5⟩, -, X5, ⟨Lc5, hQ5, l5, y5, z5⟩, st5⟩ := Jvm.LawKit.callS X3 hx (y := yM8) hown (mvT hZ w108) (mvT hZ w109) (mvT hZ w62) (mvT hZ w110) (by decide) (backOf (W := 0) (rm_getch_3_1 l Z a0 hw [] z_CS v_FMT ba_3 kb_3 c0_ c1_ c2_ T3.heap n0 SB (((O0.ext E1).keep K2 (allS n0_b1 all0)).keep K3 all0) p3_1 pr1) hZ w110 w62 (by decide) (by decide)) (g := (mkF m 32 #[.val (.ref ca_), .val (.int (0 : Int32)), .val (.int (3 : Int32)), .val (.ref b1), .val (.int (1 : Int32)), .val (.ref ba_3)] [(.int (1 : Int32)), (.ref ba_3)])) rfl (by rw [hml]; rfl) (argsL := [(.ref ba_3), (.int (1 : Int32))]) (rest := []) (lenOf own_pd5 rfl) rfl (by show 2 * 0 + _ ≤ _; exact Nat.le_of_eq rfl) (hb hby d3_32) (fun _ _ => ⟨rfl, rfl, (by decide : 2 + 0 ≤ _), (by decide : 9 + 0 ≤ _)⟩)
  dsimp only [Pt.U, Pt.locs, Pt.cells, Pt.slots] at X5 l5 y5 z5 st5 hQ5
  subst l5 y5 z5
  obtain ⟨rfl, Nq5, e5⟩ := hQ5
  have N5 := Fr.app N3 Nq5
  refine ogo (S' := T5.setTop (mkF m 35 #[.val (.ref ca_), .val (.int (0 : Int32)), .val (.int (3 : Int32)), .val (.ref b1), .val (.int (1 : Int32)), .val (.ref ba_3)] [(.int c1_)])) st5 ?_
  refine o_sipush X5 hx (255 : Int32) (hb hby d3_35) rfl ?_
  refine o_icmpYes X5 hx 54 (hb hby d3_38) (tlt pr3).2.2.1 (by decide) (by decide) ?_
  refine o_aload X5 hx (hb hby d3_54) rfl rfl ?_
  refine oend X5 hlk (v := some (.ref ba_3)) (fun h => by rw [hret] at h; cases h) (fun fs hr => retOut X5 hx (t := (.array .byte)) (i := .areturn) hret rfl (Or.inr (Or.inr (Or.inr (Or.inr ⟨rfl, rfl, rfl⟩)))) (hb hby d3_56) hr) (by decide) (by decide) ?_
  show own_Q_cmp3_3_1 Z _ _ _ _ _ _ _ h0 n0 _ T5.heap _
  rw [e5]
  exact ⟨ba_3, kb_3, rfl, N5, ((((Keep.refl h0 []).ext E1).trans K2 (allS (Or.inr (Nat.le_trans (Nat.le_refl _) (Nat.le_of_eq g1.symm))) all0)).trans K3 all0), (Nat.le_trans (Nat.le_trans E1.1 K2.1) p3_0), p3_1⟩
def own_Q_cmp5_3_2 (Z : State)  (ca_ : Addr) (kc_ : ClassId) (ba_ : Addr) (kb_ : ClassId) (c0_ : Int32) (c1_ : Int32) (c2_ : Int32) (h0 : Heap) (n0 : Nat) (v : Option Value) (h : Heap) (L : List Loc) : Prop := (v = some (.int (2 : Int32))) ∧ (Fr n0 L) ∧ (Keep h0 h [ba_])
set_option maxRecDepth 65536 in
set_option maxHeartbeats 40000000 in
theorem rm_cmp5_3_2 (l : Launch) (Z : State) (a0 : Array Value) (hw : ∀ d ∈ tables_1, d.before a0 Z = true) (ws : List Jvm.Cond)  (ca_ : Addr) (kc_ : ClassId) (ba_ : Addr) (kb_ : ClassId) (c0_ : Int32) (c1_ : Int32) (c2_ : Int32) (h0 : Heap) (n0 : Nat) (O0 : Old Z n0 h0) (pr0 : Arv Z h0 ca_ kc_ .char (3 : Int32) [(.int c0_), (.int c1_), (.int c2_)] (.int 0)) (pr1 : Arv Z h0 ba_ kb_ .byte (3 : Int32) [(.int 0), (.int 0), (.int 0)] (.int 0)) (pr2 : ca_ ≠ ba_) (pr3 : n0 ≤ ba_) (pr4 : ¬ ((255 : Int32) < c0_)) (pr5 : ¬ ((255 : Int32) < c1_)) (pr6 : (255 : Int32) < c2_) :
    oMet l Z yM1 jdk_52_method_21_code 7 (some .int) ws ({ frames := 0, cells := 0, slots := 0, locals := 0 } : Room) 0 0 #[(.ref ca_), (.int (0 : Int32)), (.ref ba_), (.int (0 : Int32)), (.int (3 : Int32))] h0 (own_Q_cmp5_3_2 Z  ca_ kc_ ba_ kb_ c0_ c1_ c2_ h0 n0) := by
  refine oenter own_pn1 #[.val (.ref ca_), .val (.int (0 : Int32)), .val (.ref ba_), .val (.int (0 : Int32)), .val (.int (3 : Int32)), .unset, .unset] (fun m => by first | (simp [entryFrame, mkF, argsToLocals, Value.category]; done) | rfl) ?_
  intro p e s m below meth c s₁ X0 hx hZ hby hml hret hown0 hnm hlk e0
  have hown : s.vm.findClass "java/lang/StringUTF16" = some m.cls := hown0
  have N0 := Fr.nil n0
  refine o_iconst X0 hx (0 : Int32) (hb hby d2_0) rfl ?_
  refine o_istore X0 hx (l' := #[.val (.ref ca_), .val (.int (0 : Int32)), .val (.ref ba_), .val (.int (0 : Int32)), .val (.int (3 : Int32)), .val (.int (0 : Int32)), .unset]) (hb hby d2_1) rfl ?_
  refine o_iload X0 hx (hb hby d2_3) rfl ?_
  refine o_iload X0 hx (hb hby d2_5) rfl ?_
  refine o_icmpNo X0 hx (hb hby d2_7) (tlt (by decide : (0 : Int32) < (3 : Int32))).2.1 ?_
  refine o_aloadN X0 hx (hb hby d2_10) rfl rfl ?_
  refine o_iloadN X0 hx (hb hby d2_11) rfl ?_
  obtain ⟨cl1, Ar1, q1, S1, N1z, H1, G1⟩ := (id pr0)
  have hi1 := inb_of (j := (0 : Int32)) S1 ⟨by decide, by decide⟩
  have ha1 := Has.at (v := (.int c0_)) H1 hi1 rfl
  refine ogo (S' := s₁.setTop (mkF m 13 #[.val (.ref ca_), .val (.int (0 : Int32)), .val (.ref ba_), .val (.int (0 : Int32)), .val (.int (3 : Int32)), .val (.int (0 : Int32)), .unset] [(.int c0_)])) (X0.caload hx (j := (0 : Int32)) (v := (.int c0_)) (by rw [e0]; exact Ar1.1) (State.isArrayOf_alike hZ.alike Ar1.2.1) Ar1.2.2 hi1 ha1 (g := (mkF m 12 #[.val (.ref ca_), .val (.int (0 : Int32)), .val (.ref ba_), .val (.int (0 : Int32)), .val (.int (3 : Int32)), .val (.int (0 : Int32)), .unset] [(.int (0 : Int32)), (.ref ca_)])) rfl rfl (hb hby d2_12)) ?_
  refine o_istore X0 hx (l' := #[.val (.ref ca_), .val (.int (0 : Int32)), .val (.ref ba_), .val (.int (0 : Int32)), .val (.int (3 : Int32)), .val (.int (0 : Int32)), .val (.int c0_)]) (hb hby d2_13) rfl ?_
  refine o_iload X0 hx (hb hby d2_15) rfl ?_
  refine o_sipush X0 hx (255 : Int32) (hb hby d2_17) rfl ?_
  refine o_icmpYes X0 hx 26 (hb hby d2_20) (flt pr4).2.2.2 (by decide) (by decide) ?_
  refine o_aloadN X0 hx (hb hby d2_26) rfl rfl ?_
  refine o_iloadN X0 hx (hb hby d2_27) rfl ?_
  refine o_iload X0 hx (hb hby d2_28) rfl ?_
  refine o_i2b X0 hx (hb hby d2_30) ?_
  obtain ⟨cl2, Ar2, q2, S2, N2z, H2, G2⟩ := (id pr1)
  obtain ⟨T2, _, X2, rfl, W2, st2⟩ := stB X0 hx hZ e0 Ar2 (j := (0 : Int32)) (inb_of S2 ⟨by decide, by decide⟩) (g := (mkF m 31 #[.val (.ref ca_), .val (.int (0 : Int32)), .val (.ref ba_), .val (.int (0 : Int32)), .val (.int (3 : Int32)), .val (.int (0 : Int32)), .val (.int c0_)] [(.int c0_.toInt8.toInt32), (.int (0 : Int32)), (.ref ba_)])) rfl rfl (hb hby d2_31)
  rw [own_narb] at W2
  have V2 : Arv Z T2.heap ba_ kb_ .byte (3 : Int32) [(.int c0_.toInt8.toInt32), (.int 0), (.int 0)] (.int 0) := Arv.set Ar2 q2 S2 N2z H2 G2 (fits_nar_byte _) W2 0 rfl (Nat.le_of_ble_eq_true rfl)
  have N2 := Fr.snoc X2 N0 pr3
  refine ogo (S' := T2.setTop (mkF m 32 #[.val (.ref ca_), .val (.int (0 : Int32)), .val (.ref ba_), .val (.int (0 : Int32)), .val (.int (3 : Int32)), .val (.int (0 : Int32)), .val (.int c0_)] [])) st2 ?_
  refine o_iinc X2 hx (l' := #[.val (.ref ca_), .val (.int (1 : Int32)), .val (.ref ba_), .val (.int (0 : Int32)), .val (.int (3 : Int32)), .val (.int (0 : Int32)), .val (.int c0_)]) (hb hby d2_32) rfl rfl ?_
  refine o_iinc X2 hx (l' := #[.val (.ref ca_), .val (.int (1 : Int32)), .val (.ref ba_), .val (.int (1 : Int32)), .val (.int (3 : Int32)), .val (.int (0 : Int32)), .val (.int c0_)]) (hb hby d2_35) rfl rfl ?_
  refine o_iinc X2 hx (l' := #[.val (.ref ca_), .val (.int (1 : Int32)), .val (.ref ba_), .val (.int (1 : Int32)), .val (.int (3 : Int32)), .val (.int (1 : Int32)), .val (.int c0_)]) (hb hby d2_38) rfl rfl ?_
  refine o_goto X2 hx 3 (hb hby d2_41) (by decide) (by decide) ?_
  refine o_iload X2 hx (hb hby d2_3) rfl ?_
  refine o_iload X2 hx (hb hby d2_5) rfl ?_
  refine o_icmpNo X2 hx (hb hby d2_7) (tlt (by decide : (1 : Int32) < (3 : Int32))).2.1 ?_
  refine o_aloadN X2 hx (hb hby d2_10) rfl rfl ?_
  refine o_iloadN X2 hx (hb hby d2_11) rfl ?_
  obtain ⟨cl3, Ar3, q3, S3, N3z, H3, G3⟩ := (id (pr0.other W2 pr2))
  have hi3 := inb_of (j := (1 : Int32)) S3 ⟨by decide, by decide⟩
  have ha3 := Has.at (v := (.int c1_)) H3 hi3 rfl
  refine ogo (S' := T2.setTop (mkF m 13 #[.val (.ref ca_), .val (.int (1 : Int32)), .val (.ref ba_), .val (.int (1 : Int32)), .val (.int (3 : Int32)), .val (.int (1 : Int32)), .val (.int c0_)] [(.int c1_)])) (X2.caload hx (j := (1 : Int32)) (v := (.int c1_)) Ar3.1 (State.isArrayOf_alike hZ.alike Ar3.2.1) Ar3.2.2 hi3 ha3 (g := (mkF m 12 #[.val (.ref ca_), .val (.int (1 : Int32)), .val (.ref ba_), .val (.int (1 : Int32)), .val (.int (3 : Int32)), .val (.int (1 : Int32)), .val (.int c0_)] [(.int (1 : Int32)), (.ref ca_)])) rfl rfl (hb hby d2_12)) ?_
  refine o_istore X2 hx (l' := #[.val (.ref ca_), .val (.int (1 : Int32)), .val (.ref ba_), .val (.int (1 : Int32)), .val (.int (3 : Int32)), .val (.int (1 : Int32)), .val (.int c1_)]) (hb hby d2_13) rfl ?_
  refine o_iload X2 hx (hb hby d2_15) rfl ?_
  refine o_sipush X2 hx (255 : Int32) (hb hby d2_17) rfl ?_
  refine o_icmpYes X2 hx 26 (hb hby d2_20) (flt pr5).2.2.2 (by decide) (by decide) ?_
  refine o_aloadN X2 hx (hb hby d2_26) rfl rfl ?_
  refine o_iloadN X2 hx (hb hby d2_27) rfl ?_
  refine o_iload X2 hx (hb hby d2_28) rfl ?_
  refine o_i2b X2 hx (hb hby d2_30) ?_
  obtain ⟨cl4, Ar4, q4, S4, N4z, H4, G4⟩ := (id V2)
  obtain ⟨T4, _, X4, rfl, W4, st4⟩ := stB X2 hx hZ rfl Ar4 (j := (1 : Int32)) (inb_of S4 ⟨by decide, by decide⟩) (g := (mkF m 31 #[.val (.ref ca_), .val (.int (1 : Int32)), .val (.ref ba_), .val (.int (1 : Int32)), .val (.int (3 : Int32)), .val (.int (1 : Int32)), .val (.int c1_)] [(.int c1_.toInt8.toInt32), (.int (1 : Int32)), (.ref ba_)])) rfl rfl (hb hby d2_31)
  rw [own_narb] at W4
  have V4 : Arv Z T4.heap ba_ kb_ .byte (3 : Int32) [(.int c0_.toInt8.toInt32), (.int c1_.toInt8.toInt32), (.int 0)] (.int 0) := Arv.set Ar4 q4 S4 N4z H4 G4 (fits_nar_byte _) W4 1 rfl (Nat.le_of_ble_eq_true rfl)
  have N4 := Fr.snoc X4 N2 pr3
  refine ogo (S' := T4.setTop (mkF m 32 #[.val (.ref ca_), .val (.int (1 : Int32)), .val (.ref ba_), .val (.int (1 : Int32)), .val (.int (3 : Int32)), .val (.int (1 : Int32)), .val (.int c1_)] [])) st4 ?_
  refine o_iinc X4 hx (l' := #[.val (.ref ca_), .val (.int (2 : Int32)), .val (.ref ba_), .val (.int (1 : Int32)), .val (.int (3 : Int32)), .val (.int (1 : Int32)), .val (.int c1_)]) (hb hby d2_32) rfl rfl ?_
  refine o_iinc X4 hx (l' := #[.val (.ref ca_), .val (.int (2 : Int32)), .val (.ref ba_), .val (.int (2 : Int32)), .val (.int (3 : Int32)), .val (.int (1 : Int32)), .val (.int c1_)]) (hb hby d2_35) rfl rfl ?_
  refine o_iinc X4 hx (l' := #[.val (.ref ca_), .val (.int (2 : Int32)), .val (.ref ba_), .val (.int (2 : Int32)), .val (.int (3 : Int32)), .val (.int (2 : Int32)), .val (.int c1_)]) (hb hby d2_38) rfl rfl ?_
  refine o_goto X4 hx 3 (hb hby d2_41) (by decide) (by decide) ?_
  refine o_iload X4 hx (hb hby d2_3) rfl ?_
  refine o_iload X4 hx (hb hby d2_5) rfl ?_
  refine o_icmpNo X4 hx (hb hby d2_7) (tlt (by decide : (2 : Int32) < (3 : Int32))).2.1 ?_
  refine o_aloadN X4 hx (hb hby d2_10) rfl rfl ?_
  refine o_iloadN X4 hx (hb hby d2_11) rfl ?_
  obtain ⟨cl5, Ar5, q5, S5, N5z, H5, G5⟩ := (id ((pr0.other W2 pr2).other W4 pr2))
  have hi5 := inb_of (j := (2 : Int32)) S5 ⟨by decide, by decide⟩
  have ha5 := Has.at (v := (.int c2_)) H5 hi5 rfl
  refine ogo (S' := T4.setTop (mkF m 13 #[.val (.ref ca_), .val (.int (2 : Int32)), .val (.ref ba_), .val (.int (2 : Int32)), .val (.int (3 : Int32)), .val (.int (2 : Int32)), .val (.int c1_)] [(.int c2_)])) (X4.caload hx (j := (2 : Int32)) (v := (.int c2_)) Ar5.1 (State.isArrayOf_alike hZ.alike Ar5.2.1) Ar5.2.2 hi5 ha5 (g := (mkF m 12 #[.val (.ref ca_), .val (.int (2 : Int32)), .val (.ref ba_), .val (.int (2 : Int32)), .val (.int (3 : Int32)), .val (.int (2 : Int32)), .val (.int c1_)] [(.int (2 : Int32)), (.ref ca_)])) rfl rfl (hb hby d2_12)) ?_
  refine o_istore X4 hx (l' := #[.val (.ref ca_), .val (.int (2 : Int32)), .val (.ref ba_), .val (.int (2 : Int32)), .val (.int (3 : Int32)), .val (.int (2 : Int32)), .val (.int c2_)]) (hb hby d2_13) rfl ?_
  refine o_iload X4 hx (hb hby d2_15) rfl ?_
  refine o_sipush X4 hx (255 : Int32) (hb hby d2_17) rfl ?_
  refine o_icmpNo X4 hx (hb hby d2_20) (tlt pr6).2.2.2 ?_
  refine o_iload X4 hx (hb hby d2_23) rfl ?_
  refine oend X4 hlk (v := some (.int (2 : Int32))) (fun h => by rw [hret] at h; cases h) (fun fs hr => retOut X4 hx (t := .int) (i := .ireturn) hret rfl (Or.inl ⟨rfl, Or.inl rfl, _, rfl⟩) (hb hby d2_25) hr) (by decide) (by decide) ?_
  show own_Q_cmp5_3_2 Z _ _ _ _ _ _ _ h0 n0 _ T4.heap _
  exact ⟨rfl, N4, (((Keep.refl h0 [ba_]).wr W2 (Or.inl (List.mem_of_getElem? (i := 0) rfl))).wr W4 (Or.inl (List.mem_of_getElem? (i := 0) rfl)))⟩
def own_Q_getch_3_2 (Z : State) (z_CS : Int32) (v_FMT : Value) (ba_ : Addr) (kb_ : ClassId) (c0_ : Int32) (c1_ : Int32) (c2_ : Int32) (h0 : Heap) (n0 : Nat) (v : Option Value) (h : Heap) (L : List Loc) : Prop := (v = some (.int c2_)) ∧ (Fr n0 L) ∧ (h = h0)
set_option maxRecDepth 65536 in
set_option maxHeartbeats 40000000 in
theorem rm_getch_3_2 (l : Launch) (Z : State) (a0 : Array Value) (hw : ∀ d ∈ tables_1, d.before a0 Z = true) (ws : List Jvm.Cond) (z_CS : Int32) (v_FMT : Value) (ba_ : Addr) (kb_ : ClassId) (c0_ : Int32) (c1_ : Int32) (c2_ : Int32) (h0 : Heap) (n0 : Nat) (SB : own_Start Z z_CS v_FMT) (O0 : Old Z n0 h0) (pr0 : Arv Z h0 ba_ kb_ .byte (6 : Int32) [(.int (c0_ >>> ((0 : Int32) &&& 31)).toInt8.toInt32), (.int (c0_ >>> ((8 : Int32) &&& 31)).toInt8.toInt32), (.int (c1_ >>> ((0 : Int32) &&& 31)).toInt8.toInt32), (.int (c1_ >>> ((8 : Int32) &&& 31)).toInt8.toInt32), (.int (c2_ >>> ((0 : Int32) &&& 31)).toInt8.toInt32), (.int (c2_ >>> ((8 : Int32) &&& 31)).toInt8.toInt32)] (.int 0)) (pr1 : own_c16 c2_) :
    oMet l Z yM8 jdk_52_method_5_code 2 (some .char) ws ({ frames := 0, cells := 0, slots := 0, locals := 0 } : Room) 0 0 #[(.ref ba_), (.int (2 : Int32))] h0 (own_Q_getch_3_2 Z z_CS v_FMT ba_ kb_ c0_ c1_ c2_ h0 n0) := by
  refine oenter own_pn1 #[.val (.ref ba_), .val (.int (2 : Int32))] (fun m => by first | (simp [entryFrame, mkF, argsToLocals, Value.category]; done) | rfl) ?_
  intro p e s m below meth c s₁ X0 hx hZ hby hml hret hown0 hnm hlk e0
  have hown : s.vm.findClass "java/lang/StringUTF16" = some m.cls := hown0
  have N0 := Fr.nil n0
  obtain ⟨S_CS, H_CS, S__assertionsDisabled, S_HI_BYTE_SHIFT, S_LO_BYTE_SHIFT, S_FMT, R_FMT⟩ := (id SB)
  have w105 := hw _ (List.mem_of_getElem? (i := 105) rfl)
  have w106 := hw _ (List.mem_of_getElem? (i := 106) rfl)
  have w107 := hw _ (List.mem_of_getElem? (i := 107) rfl)
  obtain ⟨T1, X1, e1, st1⟩ := getS2 X0 hx hZ hown (host := "") (Or.inl w105) Via.refl e0 (Sta.ext O0.2 S__assertionsDisabled) (g := (mkF m 0 #[.val (.ref ba_), .val (.int (2 : Int32))] [])) rfl (hb hby d9_0)
  refine ogo (S' := T1.setTop (mkF m 3 #[.val (.ref ba_), .val (.int (2 : Int32))] [(.int (1 : Int32))])) st1 ?_
  refine o_ifYes X1 hx 28 (hb hby d9_3) (feq (by decide : ¬ ((1 : Int32) = (0 : Int32)))).2 (by decide) (by decide) ?_
  refine o_iloadN X1 hx (hb hby d9_28) rfl ?_
  refine o_iconst X1 hx (1 : Int32) (hb hby d9_29) rfl ?_
  refine o_ishl X1 hx (hb hby d9_30) ?_
  refine o_istoreN X1 hx (l' := #[.val (.ref ba_), .val (.int (4 : Int32))]) (hb hby d9_31) rfl ?_
  refine o_aloadN X1 hx (hb hby d9_32) rfl rfl ?_
  refine o_iloadN X1 hx (hb hby d9_33) rfl ?_
  refine o_iinc X1 hx (l' := #[.val (.ref ba_), .val (.int (5 : Int32))]) (hb hby d9_34) rfl rfl ?_
  obtain ⟨cl2, Ar2, q2, S2, N2z, H2, G2⟩ := (id pr0)
  have hi2 := inb_of (j := (4 : Int32)) S2 ⟨by decide, by decide⟩
  have ha2 := Has.at (v := (.int (c2_ >>> ((0 : Int32) &&& 31)).toInt8.toInt32)) H2 hi2 rfl
  refine ogo (S' := T1.setTop (mkF m 38 #[.val (.ref ba_), .val (.int (5 : Int32))] [(.int (c2_ >>> ((0 : Int32) &&& 31)).toInt8.toInt32)])) (X1.baloadBytes hx (j := (4 : Int32)) (v := (.int (c2_ >>> ((0 : Int32) &&& 31)).toInt8.toInt32)) (by rw [e1]; exact Ar2.1) (State.isArrayOf_alike hZ.alike Ar2.2.1) Ar2.2.2 hi2 ha2 (g := (mkF m 37 #[.val (.ref ba_), .val (.int (5 : Int32))] [(.int (4 : Int32)), (.ref ba_)])) rfl rfl (hb hby d9_37)) ?_
  refine o_sipush X1 hx (255 : Int32) (hb hby d9_38) rfl ?_
  refine o_iand X1 hx (hb hby d9_41) ?_
  obtain ⟨T3, X3, e3, st3⟩ := getS2 X1 hx hZ hown (host := "") (Or.inl w106) Via.refl e1 (Sta.ext O0.2 S_HI_BYTE_SHIFT) (g := (mkF m 42 #[.val (.ref ba_), .val (.int (5 : Int32))] [(.int ((c2_ >>> ((0 : Int32) &&& 31)).toInt8.toInt32 &&& (255 : Int32)))])) rfl (hb hby d9_42)
  refine ogo (S' := T3.setTop (mkF m 45 #[.val (.ref ba_), .val (.int (5 : Int32))] [(.int (0 : Int32)), (.int ((c2_ >>> ((0 : Int32) &&& 31)).toInt8.toInt32 &&& (255 : Int32)))])) st3 ?_
  refine o_ishl X3 hx (hb hby d9_45) ?_
  refine o_aloadN X3 hx (hb hby d9_46) rfl rfl ?_
  refine o_iloadN X3 hx (hb hby d9_47) rfl ?_
  obtain ⟨cl4, Ar4, q4, S4, N4z, H4, G4⟩ := (id pr0)
  have hi4 := inb_of (j := (5 : Int32)) S4 ⟨by decide, by decide⟩
  have ha4 := Has.at (v := (.int (c2_ >>> ((8 : Int32) &&& 31)).toInt8.toInt32)) H4 hi4 rfl
  refine ogo (S' := T3.setTop (mkF m 49 #[.val (.ref ba_), .val (.int (5 : Int32))] [(.int (c2_ >>> ((8 : Int32) &&& 31)).toInt8.toInt32), (.int (((c2_ >>> ((0 : Int32) &&& 31)).toInt8.toInt32 &&& (255 : Int32)) <<< ((0 : Int32) &&& 31)))])) (X3.baloadBytes hx (j := (5 : Int32)) (v := (.int (c2_ >>> ((8 : Int32) &&& 31)).toInt8.toInt32)) (by rw [e3]; exact Ar4.1) (State.isArrayOf_alike hZ.alike Ar4.2.1) Ar4.2.2 hi4 ha4 (g := (mkF m 48 #[.val (.ref ba_), .val (.int (5 : Int32))] [(.int (5 : Int32)), (.ref ba_), (.int (((c2_ >>> ((0 : Int32) &&& 31)).toInt8.toInt32 &&& (255 : Int32)) <<< ((0 : Int32) &&& 31)))])) rfl rfl (hb hby d9_48)) ?_
  refine o_sipush X3 hx (255 : Int32) (hb hby d9_49) rfl ?_
  refine o_iand X3 hx (hb hby d9_52) ?_
  obtain ⟨T5, X5, e5, st5⟩ := getS2 X3 hx hZ hown (host := "") (Or.inl w107) Via.refl e3 (Sta.ext O0.2 S_LO_BYTE_SHIFT) (g := (mkF m 53 #[.val (.ref ba_), .val (.int (5 : Int32))] [(.int ((c2_ >>> ((8 : Int32) &&& 31)).toInt8.toInt32 &&& (255 : Int32))), (.int (((c2_ >>> ((0 : Int32) &&& 31)).toInt8.toInt32 &&& (255 : Int32)) <<< ((0 : Int32) &&& 31)))])) rfl (hb hby d9_53)
  refine ogo (S' := T5.setTop (mkF m 56 #[.val (.ref ba_), .val (.int (5 : Int32))] [(.int (8 : Int32)), (.int ((c2_ >>> ((8 : Int32) &&& 31)).toInt8.toInt32 &&& (255 : Int32))), (.int (((c2_ >>> ((0 : Int32) &&& 31)).toInt8.toInt32 &&& (255 : Int32)) <<< ((0 : Int32) &&& 31)))])) st5 ?_
  refine o_ishl X5 hx (hb hby d9_56) ?_
  refine o_ior X5 hx (hb hby d9_57) ?_
  refine o_i2c X5 hx (hb hby d9_58) ?_
  rw [own_u16 pr1]
  refine oend X5 hlk (v := some (.int c2_)) (fun h => by rw [hret] at h; cases h) (fun fs hr => retN X5 hx (t := .char) hret (by simp) (hb hby d9_59) (by rw [(own_nar16 pr1)]; exact hr)) (by decide) (by decide) ?_
  show own_Q_getch_3_2 Z _ _ _ _ _ _ _ h0 n0 _ T5.heap _
  rw [e5]
  exact ⟨rfl, N0, rfl⟩
def own_Q_cmp3_3_2 (Z : State) (z_CS : Int32) (v_FMT : Value) (ca_ : Addr) (kc_ : ClassId) (c0_ : Int32) (c1_ : Int32) (c2_ : Int32) (h0 : Heap) (n0 : Nat) (v : Option Value) (h : Heap) (L : List Loc) : Prop := ∃ ba_ : Addr, ∃ kb_ : ClassId, (v = some (.ref ba_)) ∧ (Fr n0 L) ∧ (Keep h0 h []) ∧ (h0.size ≤ ba_) ∧ (Arv Z h ba_ kb_ .byte (6 : Int32) [(.int (c0_ >>> ((0 : Int32) &&& 31)).toInt8.toInt32), (.int (c0_ >>> ((8 : Int32) &&& 31)).toInt8.toInt32), (.int (c1_ >>> ((0 : Int32) &&& 31)).toInt8.toInt32), (.int (c1_ >>> ((8 : Int32) &&& 31)).toInt8.toInt32), (.int (c2_ >>> ((0 : Int32) &&& 31)).toInt8.toInt32), (.int (c2_ >>> ((8 : Int32) &&& 31)).toInt8.toInt32)] (.int 0))
set_option maxRecDepth 65536 in
set_option maxHeartbeats 40000000 in
theorem rm_cmp3_3_2 (l : Launch) (Z : State) (a0 : Array Value) (hw : ∀ d ∈ tables_1, d.before a0 Z = true) (ws : List Jvm.Cond) (z_CS : Int32) (v_FMT : Value) (ca_ : Addr) (kc_ : ClassId) (c0_ : Int32) (c1_ : Int32) (c2_ : Int32) (h0 : Heap) (n0 : Nat) (SB : own_Start Z z_CS v_FMT) (O0 : Old Z n0 h0) (pr0 : Arv Z h0 ca_ kc_ .char (3 : Int32) [(.int c0_), (.int c1_), (.int c2_)] (.int 0)) (pr1 : own_c16 c2_) (pr2 : ¬ ((255 : Int32) < c0_)) (pr3 : ¬ ((255 : Int32) < c1_)) (pr4 : (255 : Int32) < c2_) :
    oMet l Z yM2 jdk_52_method_16_code 6 (some (.array .byte)) ws ({ frames := 3, cells := 2, slots := 9, locals := 40 } : Room) 2 9 #[(.ref ca_), (.int (0 : Int32)), (.int (3 : Int32))] h0 (own_Q_cmp3_3_2 Z z_CS v_FMT ca_ kc_ c0_ c1_ c2_ h0 n0) := by
  refine oenter own_pn1 #[.val (.ref ca_), .val (.int (0 : Int32)), .val (.int (3 : Int32)), .unset, .unset, .unset] (fun m => by first | (simp [entryFrame, mkF, argsToLocals, Value.category]; done) | rfl) ?_
  intro p e s m below meth c s₁ X0 hx hZ hby hml hret hown0 hnm hlk e0
  have hown : s.vm.findClass "java/lang/StringUTF16" = some m.cls := hown0
  have N0 := Fr.nil n0
  obtain ⟨S_CS, H_CS, S__assertionsDisabled, S_HI_BYTE_SHIFT, S_LO_BYTE_SHIFT, S_FMT, R_FMT⟩ := (id SB)
  have w20 := hw _ (List.mem_of_getElem? (i := 20) rfl)
  have w62 := hw _ (List.mem_of_getElem? (i := 62) rfl)
  have w64 := hw _ (List.mem_of_getElem? (i := 64) rfl)
  have w65 := hw _ (List.mem_of_getElem? (i := 65) rfl)
  have w66 := hw _ (List.mem_of_getElem? (i := 66) rfl)
  have w92 := hw _ (List.mem_of_getElem? (i := 92) rfl)
  have w93 := hw _ (List.mem_of_getElem? (i := 93) rfl)
  have w94 := hw _ (List.mem_of_getElem? (i := 94) rfl)
  have w108 := hw _ (List.mem_of_getElem? (i := 108) rfl)
  have w109 := hw _ (List.mem_of_getElem? (i := 109) rfl)
  have w110 := hw _ (List.mem_of_getElem? (i := 110) rfl)
  refine o_iloadN X0 hx (hb hby d3_0) rfl ?_
  obtain ⟨T1, _, k1, X1, rfl, E1, A1, Ex1, st1⟩ := newPE (aty := .byte) X0 hx hZ w20 e0 (g := (mkF m 1 #[.val (.ref ca_), .val (.int (0 : Int32)), .val (.int (3 : Int32)), .unset, .unset, .unset] [(.int (3 : Int32))])) rfl (hb hby d3_1) rfl (by decide) (cap := 3) (by decide) (by decide) (by decide) (by decide) (ad := "[B") rfl
  obtain ⟨b1, g1⟩ : ∃ z, z = h0.size := ⟨_, rfl⟩
  rw [← g1] at A1 Ex1 st1
  have n0_b1 : n0 ≤ b1 := Nat.le_trans (Nat.le_trans (Nat.le_of_eq O0.1.symm) O0.2.1) (Nat.le_trans (Nat.le_refl _) (Nat.le_of_eq g1.symm))
  have V1 : Arv Z T1.heap b1 k1 .byte (3 : Int32) [(.int 0), (.int 0), (.int 0)] (.int 0) := (Arv.new A1 (by decide)).pad (pad_rep [] (.int 0) 3)
  refine ogo (S' := T1.setTop (mkF m 3 #[.val (.ref ca_), .val (.int (0 : Int32)), .val (.int (3 : Int32)), .unset, .unset, .unset] [(.ref b1)])) st1 ?_
  refine o_astoreN X1 hx (l' := #[.val (.ref ca_), .val (.int (0 : Int32)), .val (.int (3 : Int32)), .val (.ref b1), .unset, .unset]) (hb hby d3_3) rfl rfl ?_
  refine o_aloadN X1 hx (hb hby d3_4) rfl rfl ?_
  refine o_iloadN X1 hx (hb hby d3_5) rfl ?_
  refine o_aloadN X1 hx (hb hby d3_6) rfl rfl ?_
  refine o_iconst X1 hx (0 : Int32) (hb hby d3_7) rfl ?_
  refine o_iloadN X1 hx (hb hby d3_8) rfl ?_
  obtain ⟨_, _, ⟨T2, L2, kc2, n2⟩, -, X2, ⟨Lc2, hQ2, l2, y2, z2⟩, st2⟩ := Jvm.LawKit.callS X1 hx (y := yM1) hown (mvT hZ w64) (mvT hZ w65) (mvT hZ w62) (mvT hZ w66) (by decide) (backOf (W := 0) (rm_cmp5_3_2 l Z a0 hw []  ca_ kc_ b1 k1 c0_ c1_ c2_ T1.heap n0 (O0.ext E1) (pr0.ext E1) V1 (Nat.ne_of_lt (Nat.lt_of_lt_of_le (Nat.lt_of_lt_of_le pr0.lt (Nat.le_refl _)) (Nat.le_of_eq g1.symm))) n0_b1 pr2 pr3 pr4) hZ w66 w62 (by decide) (by decide)) (g := (mkF m 9 #[.val (.ref ca_), .val (.int (0 : Int32)), .val (.int (3 : Int32)), .val (.ref b1), .unset, .unset] [(.int (3 : Int32)), (.int (0 : Int32)), (.ref b1), (.int (0 : Int32)), (.ref ca_)])) rfl (by rw [hml]; rfl) (argsL := [(.ref ca_), (.int (0 : Int32)), (.ref b1), (.int (0 : Int32)), (.int (3 : Int32))]) (rest := []) (lenOf own_pd0 rfl) rfl (by show 2 * 0 + _ ≤ _; exact Nat.le_of_eq rfl) (hb hby d3_9) (fun _ _ => ⟨rfl, rfl, (by decide : 1 + 0 ≤ _), (by decide : 3 + 0 ≤ _)⟩)
  dsimp only [Pt.U, Pt.locs, Pt.cells, Pt.slots] at X2 l2 y2 z2 st2 hQ2
  subst l2 y2 z2
  obtain ⟨rfl, Nq2, K2⟩ := hQ2
  have N2 := Fr.app N0 Nq2
  refine ogo (S' := T2.setTop (mkF m 12 #[.val (.ref ca_), .val (.int (0 : Int32)), .val (.int (3 : Int32)), .val (.ref b1), .unset, .unset] [(.int (2 : Int32))])) st2 ?_
  refine o_istore X2 hx (l' := #[.val (.ref ca_), .val (.int (0 : Int32)), .val (.int (3 : Int32)), .val (.ref b1), .val (.int (2 : Int32)), .unset]) (hb hby d3_12) rfl ?_
  refine o_iload X2 hx (hb hby d3_14) rfl ?_
  refine o_iloadN X2 hx (hb hby d3_16) rfl ?_
  refine o_icmpNo X2 hx (hb hby d3_17) (feq (by decide : ¬ ((2 : Int32) = (3 : Int32)))).1 ?_
  refine o_aloadN X2 hx (hb hby d3_20) rfl rfl ?_
  refine o_iloadN X2 hx (hb hby d3_21) rfl ?_
  refine o_iloadN X2 hx (hb hby d3_22) rfl ?_
  have c4 := ((pr0.ext E1).keep K2 (ninS (Nat.ne_of_lt (Nat.lt_of_lt_of_le (Nat.lt_of_lt_of_le pr0.lt (Nat.le_refl _)) (Nat.le_of_eq g1.symm))) nin0))
  obtain ⟨_, _, ⟨T3, L3, kc3, n3⟩, -, X3, ⟨Lc3, hQ3, l3, y3, z3⟩, st3⟩ := Jvm.LawKit.callS X2 hx (y := yM7) hown (mvT hZ w92) (mvT hZ w93) (mvT hZ w62) (mvT hZ w94) (by decide) (backOf (W := 0) (rm_tob_3 l Z a0 hw [] z_CS v_FMT ca_ kc_ c0_ c1_ c2_ T2.heap n0 SB ((O0.ext E1).keep K2 (allS n0_b1 all0)) c4) hZ w94 w62 (by decide) (by decide)) (g := (mkF m 23 #[.val (.ref ca_), .val (.int (0 : Int32)), .val (.int (3 : Int32)), .val (.ref b1), .val (.int (2 : Int32)), .unset] [(.int (3 : Int32)), (.int (0 : Int32)), (.ref ca_)])) rfl (by rw [hml]; rfl) (argsL := [(.ref ca_), (.int (0 : Int32)), (.int (3 : Int32))]) (rest := []) (lenOf own_pd4 rfl) rfl (by show 2 * 0 + _ ≤ _; exact Nat.le_of_eq rfl) (hb hby d3_23) (fun _ _ => ⟨rfl, rfl, (by decide : 1 + 1 ≤ _), (by decide : 3 + 6 ≤ _)⟩)
  dsimp only [Pt.U, Pt.locs, Pt.cells, Pt.slots] at X3 l3 y3 z3 st3 hQ3
  subst l3 y3 z3
  obtain ⟨ba_3, kb_3, rfl, Nq3, K3, p3_0, p3_1⟩ := hQ3
  have N3 := Fr.app N2 Nq3
  have n0_ba_3 : n0 ≤ ba_3 := Nat.le_trans (Nat.le_trans (Nat.le_of_eq O0.1.symm) O0.2.1) (Nat.le_trans (Nat.le_trans E1.1 K2.1) p3_0)
  refine ogo (S' := T3.setTop (mkF m 26 #[.val (.ref ca_), .val (.int (0 : Int32)), .val (.int (3 : Int32)), .val (.ref b1), .val (.int (2 : Int32)), .unset] [(.ref ba_3)])) st3 ?_
  refine o_astore X3 hx (l' := #[.val (.ref ca_), .val (.int (0 : Int32)), .val (.int (3 : Int32)), .val (.ref b1), .val (.int (2 : Int32)), .val (.ref ba_3)]) (hb hby d3_26) rfl rfl ?_
  refine o_aload X3 hx (hb hby d3_28) rfl rfl ?_
  refine o_iload X3 hx (hb hby d3_30) rfl ?_
  obtain ⟨_, _, ⟨T5, L5, kc5, n5⟩, -, X5, ⟨Lc5, hQ5, l5, y5, z5⟩, st5⟩ := Jvm.LawKit.callS X3 hx (y := yM8) hown (mvT hZ w108) (mvT hZ w109) (mvT hZ w62) (mvT hZ w110) (by decide) (backOf (W := 0) (rm_getch_3_2 l Z a0 hw [] z_CS v_FMT ba_3 kb_3 c0_ c1_ c2_ T3.heap n0 SB (((O0.ext E1).keep K2 (allS n0_b1 all0)).keep K3 all0) p3_1 pr1) hZ w110 w62 (by decide) (by decide)) (g := (mkF m 32 #[.val (.ref ca_), .val (.int (0 : Int32)), .val (.int (3 : Int32)), .val (.ref b1), .val (.int (2 : Int32)), .val (.ref ba_3)] [(.int (2 : Int32)), (.ref ba_3)])) rfl (by rw [hml]; rfl) (argsL := [(.ref ba_3), (.int (2 : Int32))]) (rest := []) (lenOf own_pd5 rfl) rfl (by show 2 * 0 + _ ≤ _; exact Nat.le_of_eq rfl) (hb hby d3_32) (fun _ _ => ⟨rfl, rfl, (by decide : 2 + 0 ≤ _), (by decide : 9 + 0 ≤ _)⟩)
  dsimp only [Pt.U, Pt.locs, Pt.cells, Pt.slots] at X5 l5 y5 z5 st5 hQ5
  subst l5 y5 z5
  obtain ⟨rfl, Nq5, e5⟩ := hQ5
  have N5 := Fr.app N3 Nq5
  refine ogo (S' := T5.setTop (mkF m 35 #[.val (.ref ca_), .val (.int (0 : Int32)), .val (.int (3 : Int32)), .val (.ref b1), .val (.int (2 : Int32)), .val (.ref ba_3)] [(.int c2_)])) st5 ?_
  refine o_sipush X5 hx (255 : Int32) (hb hby d3_35) rfl ?_
  refine o_icmpYes X5 hx 54 (hb hby d3_38) (tlt pr4).2.2.1 (by decide) (by decide) ?_
  refine o_aload X5 hx (hb hby d3_54) rfl rfl ?_
  refine oend X5 hlk (v := some (.ref ba_3)) (fun h => by rw [hret] at h; cases h) (fun fs hr => retOut X5 hx (t := (.array .byte)) (i := .areturn) hret rfl (Or.inr (Or.inr (Or.inr (Or.inr ⟨rfl, rfl, rfl⟩)))) (hb hby d3_56) hr) (by decide) (by decide) ?_
  show own_Q_cmp3_3_2 Z _ _ _ _ _ _ _ h0 n0 _ T5.heap _
  rw [e5]
  exact ⟨ba_3, kb_3, rfl, N5, ((((Keep.refl h0 []).ext E1).trans K2 (allS (Or.inr (Nat.le_trans (Nat.le_refl _) (Nat.le_of_eq g1.symm))) all0)).trans K3 all0), (Nat.le_trans (Nat.le_trans E1.1 K2.1) p3_0), p3_1⟩
def own_Q_new4e_3 (Z : State) (z_CS : Int32) (v_FMT : Value) (x_ : Addr) (ca_ : Addr) (kc_ : ClassId) (c0_ : Int32) (c1_ : Int32) (c2_ : Int32) (h0 : Heap) (n0 : Nat) (v : Option Value) (h : Heap) (L : List Loc) : Prop := ∃ ba_ : Addr, ∃ kb_ : ClassId, ∃ cd_ : Int32, ∃ z_ : Int32, ∃ vs_ : List Value, (v = none) ∧ (Fr n0 L) ∧ (Keep h0 h [x_]) ∧ (h0.size ≤ ba_) ∧ (Arv Z h ba_ kb_ .byte z_ vs_ (.int 0)) ∧ (Exa Z h x_ "java/lang/String") ∧ (Fld Z h x_ "java/lang/String" "value" "[B" (.ref ba_)) ∧ (Fld Z h x_ "java/lang/String" "coder" "B" (.int cd_)) ∧ (own_enc3 c0_ c1_ c2_ cd_ z_ vs_)
set_option maxRecDepth 65536 in
set_option maxHeartbeats 40000000 in
theorem rm_new4e_3 (l : Launch) (Z : State) (a0 : Array Value) (hw : ∀ d ∈ tables_1, d.before a0 Z = true) (ws : List Jvm.Cond) (z_CS : Int32) (v_FMT : Value) (x_ : Addr) (ca_ : Addr) (kc_ : ClassId) (c0_ : Int32) (c1_ : Int32) (c2_ : Int32) (h0 : Heap) (n0 : Nat) (SB : own_Start Z z_CS v_FMT) (O0 : Old Z n0 h0) (pr0 : Exa Z h0 x_ "java/lang/String") (pr1 : Fld Z h0 x_ "java/lang/String" "value" "[B" .null) (pr2 : Fld Z h0 x_ "java/lang/String" "coder" "B" (.int (0 : Int32))) (pr3 : Arv Z h0 ca_ kc_ .char (3 : Int32) [(.int c0_), (.int c1_), (.int c2_)] (.int 0)) (pr4 : n0 ≤ x_) (pr5 : own_c16 c0_) (pr6 : own_c16 c1_) (pr7 : own_c16 c2_) :
    oMet l Z yM9 jdk_42_method_149_code 6 none ws ({ frames := 4, cells := 2, slots := 9, locals := 57 } : Room) 2 9 #[(.ref x_), (.ref ca_), (.int (0 : Int32)), (.int (3 : Int32)), .null] h0 (own_Q_new4e_3 Z z_CS v_FMT x_ ca_ kc_ c0_ c1_ c2_ h0 n0) := by
  refine oenter own_pn2 #[.val (.ref x_), .val (.ref ca_), .val (.int (0 : Int32)), .val (.int (3 : Int32)), .val .null, .unset] (fun m => by first | (simp [entryFrame, mkF, argsToLocals, Value.category]; done) | rfl) ?_
  intro p e s m below meth c s₁ X0 hx hZ hby hml hret hown0 hnm hlk e0
  have hown : s.vm.findClass "java/lang/String" = some m.cls := hown0
  have N0 := Fr.nil n0
  obtain ⟨S_CS, H_CS, S__assertionsDisabled, S_HI_BYTE_SHIFT, S_LO_BYTE_SHIFT, S_FMT, R_FMT⟩ := (id SB)
  have w6 := hw _ (List.mem_of_getElem? (i := 6) rfl)
  have w16 := hw _ (List.mem_of_getElem? (i := 16) rfl)
  have w17 := hw _ (List.mem_of_getElem? (i := 17) rfl)
  have w18 := hw _ (List.mem_of_getElem? (i := 18) rfl)
  have w21 := hw _ (List.mem_of_getElem? (i := 21) rfl)
  have w22 := hw _ (List.mem_of_getElem? (i := 22) rfl)
  have w25 := hw _ (List.mem_of_getElem? (i := 25) rfl)
  have w26 := hw _ (List.mem_of_getElem? (i := 26) rfl)
  have w37 := hw _ (List.mem_of_getElem? (i := 37) rfl)
  have w60 := hw _ (List.mem_of_getElem? (i := 60) rfl)
  have w61 := hw _ (List.mem_of_getElem? (i := 61) rfl)
  have w62 := hw _ (List.mem_of_getElem? (i := 62) rfl)
  have w63 := hw _ (List.mem_of_getElem? (i := 63) rfl)
  have w67 := hw _ (List.mem_of_getElem? (i := 67) rfl)
  have w68 := hw _ (List.mem_of_getElem? (i := 68) rfl)
  have w69 := hw _ (List.mem_of_getElem? (i := 69) rfl)
  refine o_aloadN X0 hx (hb hby d10_0) rfl rfl ?_
  obtain ⟨T1, X1, e1, st1⟩ := initO X0 hx hZ hown w16 w17 w18 e0 (g := (mkF m 1 #[.val (.ref x_), .val (.ref ca_), .val (.int (0 : Int32)), .val (.int (3 : Int32)), .val .null, .unset] [(.ref x_)])) rfl (by rw [hml]; rfl) rfl (hb hby d10_1) (by decide) (W := 0) (by show 2 * 0 + _ ≤ _; exact Nat.le_of_eq rfl) (by decide)
  refine ogo (S' := T1.setTop (mkF m 4 #[.val (.ref x_), .val (.ref ca_), .val (.int (0 : Int32)), .val (.int (3 : Int32)), .val .null, .unset] [])) st1 ?_
  refine o_iloadN X1 hx (hb hby d10_4) rfl ?_
  refine o_ifYes X1 hx 27 (hb hby d10_5) (feq (by decide : ¬ ((3 : Int32) = (0 : Int32)))).2 (by decide) (by decide) ?_
  obtain ⟨T2, X2, e2, st2⟩ := getS2 X1 hx hZ hown (host := "") (Or.inl w37) Via.refl e1 (Sta.ext O0.2 S_CS) (g := (mkF m 27 #[.val (.ref x_), .val (.ref ca_), .val (.int (0 : Int32)), .val (.int (3 : Int32)), .val .null, .unset] [])) rfl (hb hby d10_27)
  refine ogo (S' := T2.setTop (mkF m 30 #[.val (.ref x_), .val (.ref ca_), .val (.int (0 : Int32)), .val (.int (3 : Int32)), .val .null, .unset] [(.int z_CS)])) st2 ?_
  refine o_ifNo X2 hx (hb hby d10_30) (feq H_CS).1 ?_
  refine o_aloadN X2 hx (hb hby d10_33) rfl rfl ?_
  refine o_iloadN X2 hx (hb hby d10_34) rfl ?_
  refine o_iloadN X2 hx (hb hby d10_35) rfl ?_
  by_cases hc3 : (255 : Int32) < c0_
  · obtain ⟨_, _, ⟨T4, L4, kc4, n4⟩, -, X4, ⟨Lc4, hQ4, l4, y4, z4⟩, st4⟩ := Jvm.LawKit.callS X2 hx (y := yM2) hown (mvT hZ w60) (mvT hZ w61) (mvT hZ w62) (mvT hZ w63) (by decide) (backOf (W := 0) (rm_cmp3_3_0 l Z a0 hw [] z_CS v_FMT ca_ kc_ c0_ c1_ c2_ h0 n0 SB O0 pr3 pr5 hc3) hZ w63 w62 (by decide) (by decide)) (g := (mkF m 36 #[.val (.ref x_), .val (.ref ca_), .val (.int (0 : Int32)), .val (.int (3 : Int32)), .val .null, .unset] [(.int (3 : Int32)), (.int (0 : Int32)), (.ref ca_)])) rfl (by rw [hml]; rfl) (argsL := [(.ref ca_), (.int (0 : Int32)), (.int (3 : Int32))]) (rest := []) (lenOf own_pd4 rfl) rfl (by show 2 * 0 + _ ≤ _; exact Nat.le_of_eq rfl) (hb hby d10_36) (fun _ _ => ⟨rfl, e2, (by decide : 0 + 2 ≤ _), (by decide : 0 + 9 ≤ _)⟩)
    dsimp only [Pt.U, Pt.locs, Pt.cells, Pt.slots] at X4 l4 y4 z4 st4 hQ4
    subst l4 y4 z4
    obtain ⟨ba_4, kb_4, rfl, Nq4, K4, p4_0, p4_1⟩ := hQ4
    have N4 := Fr.app N0 Nq4
    have n0_ba_4 : n0 ≤ ba_4 := Nat.le_trans (Nat.le_trans (Nat.le_of_eq O0.1.symm) O0.2.1) (Nat.le_trans (Nat.le_refl _) p4_0)
    refine ogo (S' := T4.setTop (mkF m 39 #[.val (.ref x_), .val (.ref ca_), .val (.int (0 : Int32)), .val (.int (3 : Int32)), .val .null, .unset] [(.ref ba_4)])) st4 ?_
    refine o_astore X4 hx (l' := #[.val (.ref x_), .val (.ref ca_), .val (.int (0 : Int32)), .val (.int (3 : Int32)), .val .null, .val (.ref ba_4)]) (hb hby d10_39) rfl rfl ?_
    refine o_aloadN X4 hx (hb hby d10_41) rfl rfl ?_
    refine o_aload X4 hx (hb hby d10_42) rfl rfl ?_
    refine o_iloadN X4 hx (hb hby d10_44) rfl ?_
    obtain ⟨_, _, ⟨T5, L5, kc5, n5⟩, -, X5, ⟨Lc5, hQ5, l5, y5, z5⟩, st5⟩ := Jvm.LawKit.callS X4 hx (y := yM3) hown (mvT hZ w67) (mvT hZ w68) (mvT hZ w62) (mvT hZ w69) (by decide) (backOf (W := 1) (rm_codl16_3 l Z a0 hw []  ba_4 kb_4 [(.int (c0_ >>> ((0 : Int32) &&& 31)).toInt8.toInt32), (.int (c0_ >>> ((8 : Int32) &&& 31)).toInt8.toInt32), (.int (c1_ >>> ((0 : Int32) &&& 31)).toInt8.toInt32), (.int (c1_ >>> ((8 : Int32) &&& 31)).toInt8.toInt32), (.int (c2_ >>> ((0 : Int32) &&& 31)).toInt8.toInt32), (.int (c2_ >>> ((8 : Int32) &&& 31)).toInt8.toInt32)] T4.heap n0 (O0.keep K4 all0) p4_1) hZ w69 w62 (by decide) (by decide)) (g := (mkF m 45 #[.val (.ref x_), .val (.ref ca_), .val (.int (0 : Int32)), .val (.int (3 : Int32)), .val .null, .val (.ref ba_4)] [(.int (3 : Int32)), (.ref ba_4), (.ref x_)])) rfl (by rw [hml]; rfl) (argsL := [(.ref ba_4), (.int (3 : Int32))]) (rest := [(.ref x_)]) (lenOf own_pd6 rfl) rfl (by show 2 * 0 + _ ≤ _; exact Nat.le_of_eq rfl) (hb hby d10_45) (fun _ _ => ⟨rfl, rfl, (by decide : 2 + 0 ≤ _), (by decide : 9 + 0 ≤ _)⟩)
    dsimp only [Pt.U, Pt.locs, Pt.cells, Pt.slots] at X5 l5 y5 z5 st5 hQ5
    subst l5 y5 z5
    obtain ⟨rfl, Nq5, e5⟩ := hQ5
    have N5 := Fr.app N4 Nq5
    refine ogo (S' := T5.setTop (mkF m 48 #[.val (.ref x_), .val (.ref ca_), .val (.int (0 : Int32)), .val (.int (3 : Int32)), .val .null, .val (.ref ba_4)] [(.int (1 : Int32)), (.ref x_)])) st5 ?_
    obtain ⟨T6, _, X6, rfl, W6, st6⟩ := putFN X5 hx hZ hown w26 Via.refl e5 (pr2.keep K4 nin0) (pr0.keep K4) (Or.inr ⟨w22, rfl, hnm⟩) w6 (ty := .byte) (v' := (.int (1 : Int32))) (by decide) rfl (by decide) (g := (mkF m 48 #[.val (.ref x_), .val (.ref ca_), .val (.int (0 : Int32)), .val (.int (3 : Int32)), .val .null, .val (.ref ba_4)] [(.int (1 : Int32)), (.ref x_)])) rfl rfl (hb hby d10_48)
    have N6 := Fr.snoc X6 N5 pr4
    have F6 := Fld.same W6 (pr2.keep K4 nin0)
    refine ogo (S' := T6.setTop (mkF m 51 #[.val (.ref x_), .val (.ref ca_), .val (.int (0 : Int32)), .val (.int (3 : Int32)), .val .null, .val (.ref ba_4)] [])) st6 ?_
    refine o_aloadN X6 hx (hb hby d10_51) rfl rfl ?_
    refine o_aload X6 hx (hb hby d10_52) rfl rfl ?_
    have c8 := (Fld.other W6 (pr1.keep K4 nin0) (Or.inr (slot_ne (Or.inr w21) (Or.inr w22) (by decide) (t := (.array .byte)) (t' := .byte) (by decide) (by decide))))
    obtain ⟨T7, _, X7, rfl, W7, st7⟩ := putF X6 hx hZ hown (host := "") (Or.inl w25) Via.refl rfl c8 (Exa.wr W6 (pr0.keep K4)) (Or.inr ⟨w21, rfl, hnm⟩) w6 (ty := (.array .byte)) (by decide) rfl rfl (g := (mkF m 54 #[.val (.ref x_), .val (.ref ca_), .val (.int (0 : Int32)), .val (.int (3 : Int32)), .val .null, .val (.ref ba_4)] [(.ref ba_4), (.ref x_)])) rfl rfl (hb hby d10_54)
    have N7 := Fr.snoc X7 N6 pr4
    have F7 := Fld.same W7 c8
    refine ogo (S' := T7.setTop (mkF m 57 #[.val (.ref x_), .val (.ref ca_), .val (.int (0 : Int32)), .val (.int (3 : Int32)), .val .null, .val (.ref ba_4)] [])) st7 ?_
    have c9 := ((p4_1.other W6 (Nat.ne_of_gt (Nat.lt_of_lt_of_le (Nat.lt_of_lt_of_le pr0.lt (Nat.le_refl _)) p4_0))).other W7 (Nat.ne_of_gt (Nat.lt_of_lt_of_le (Nat.lt_of_lt_of_le pr0.lt (Nat.le_refl _)) p4_0)))
    have c10 := (Fld.other W7 F6 (Or.inr (slot_ne (Or.inr w22) (Or.inr w21) (by decide) (t := .byte) (t' := (.array .byte)) (by decide) (by decide))))
    refine oend X7 hlk (v := none) (fun _ => rfl) (fun fs hr => X7.returnOut hx hret (hb hby d10_57) hr) (by decide) (by decide) ?_
    show own_Q_new4e_3 Z _ _ _ _ _ _ _ _ h0 n0 _ T7.heap _
    exact ⟨ba_4, kb_4, (1 : Int32), (6 : Int32), [(.int (c0_ >>> ((0 : Int32) &&& 31)).toInt8.toInt32), (.int (c0_ >>> ((8 : Int32) &&& 31)).toInt8.toInt32), (.int (c1_ >>> ((0 : Int32) &&& 31)).toInt8.toInt32), (.int (c1_ >>> ((8 : Int32) &&& 31)).toInt8.toInt32), (.int (c2_ >>> ((0 : Int32) &&& 31)).toInt8.toInt32), (.int (c2_ >>> ((8 : Int32) &&& 31)).toInt8.toInt32)], rfl, N7, ((((Keep.refl h0 [x_]).trans K4 all0).wr W6 (Or.inl (List.mem_of_getElem? (i := 0) rfl))).wr W7 (Or.inl (List.mem_of_getElem? (i := 0) rfl))), (Nat.le_trans (Nat.le_refl _) p4_0), c9, (Exa.wr W7 (Exa.wr W6 (pr0.keep K4))), F7, c10, (Or.inr ⟨rfl, rfl, rfl⟩)⟩
  · by_cases hc11 : (255 : Int32) < c1_
    · obtain ⟨_, _, ⟨T12, L12, kc12, n12⟩, -, X12, ⟨Lc12, hQ12, l12, y12, z12⟩, st12⟩ := Jvm.LawKit.callS X2 hx (y := yM2) hown (mvT hZ w60) (mvT hZ w61) (mvT hZ w62) (mvT hZ w63) (by decide) (backOf (W := 0) (rm_cmp3_3_1 l Z a0 hw [] z_CS v_FMT ca_ kc_ c0_ c1_ c2_ h0 n0 SB O0 pr3 pr6 hc3 hc11) hZ w63 w62 (by decide) (by decide)) (g := (mkF m 36 #[.val (.ref x_), .val (.ref ca_), .val (.int (0 : Int32)), .val (.int (3 : Int32)), .val .null, .unset] [(.int (3 : Int32)), (.int (0 : Int32)), (.ref ca_)])) rfl (by rw [hml]; rfl) (argsL := [(.ref ca_), (.int (0 : Int32)), (.int (3 : Int32))]) (rest := []) (lenOf own_pd4 rfl) rfl (by show 2 * 0 + _ ≤ _; exact Nat.le_of_eq rfl) (hb hby d10_36) (fun _ _ => ⟨rfl, e2, (by decide : 0 + 2 ≤ _), (by decide : 0 + 9 ≤ _)⟩)
      dsimp only [Pt.U, Pt.locs, Pt.cells, Pt.slots] at X12 l12 y12 z12 st12 hQ12
      subst l12 y12 z12
      obtain ⟨ba_12, kb_12, rfl, Nq12, K12, p12_0, p12_1⟩ := hQ12
      have N12 := Fr.app N0 Nq12
      have n0_ba_12 : n0 ≤ ba_12 := Nat.le_trans (Nat.le_trans (Nat.le_of_eq O0.1.symm) O0.2.1) (Nat.le_trans (Nat.le_refl _) p12_0)
      refine ogo (S' := T12.setTop (mkF m 39 #[.val (.ref x_), .val (.ref ca_), .val (.int (0 : Int32)), .val (.int (3 : Int32)), .val .null, .unset] [(.ref ba_12)])) st12 ?_
      refine o_astore X12 hx (l' := #[.val (.ref x_), .val (.ref ca_), .val (.int (0 : Int32)), .val (.int (3 : Int32)), .val .null, .val (.ref ba_12)]) (hb hby d10_39) rfl rfl ?_
      refine o_aloadN X12 hx (hb hby d10_41) rfl rfl ?_
      refine o_aload X12 hx (hb hby d10_42) rfl rfl ?_
      refine o_iloadN X12 hx (hb hby d10_44) rfl ?_
      obtain ⟨_, _, ⟨T13, L13, kc13, n13⟩, -, X13, ⟨Lc13, hQ13, l13, y13, z13⟩, st13⟩ := Jvm.LawKit.callS X12 hx (y := yM3) hown (mvT hZ w67) (mvT hZ w68) (mvT hZ w62) (mvT hZ w69) (by decide) (backOf (W := 1) (rm_codl16_3 l Z a0 hw []  ba_12 kb_12 [(.int (c0_ >>> ((0 : Int32) &&& 31)).toInt8.toInt32), (.int (c0_ >>> ((8 : Int32) &&& 31)).toInt8.toInt32), (.int (c1_ >>> ((0 : Int32) &&& 31)).toInt8.toInt32), (.int (c1_ >>> ((8 : Int32) &&& 31)).toInt8.toInt32), (.int (c2_ >>> ((0 : Int32) &&& 31)).toInt8.toInt32), (.int (c2_ >>> ((8 : Int32) &&& 31)).toInt8.toInt32)] T12.heap n0 (O0.keep K12 all0) p12_1) hZ w69 w62 (by decide) (by decide)) (g := (mkF m 45 #[.val (.ref x_), .val (.ref ca_), .val (.int (0 : Int32)), .val (.int (3 : Int32)), .val .null, .val (.ref ba_12)] [(.int (3 : Int32)), (.ref ba_12), (.ref x_)])) rfl (by rw [hml]; rfl) (argsL := [(.ref ba_12), (.int (3 : Int32))]) (rest := [(.ref x_)]) (lenOf own_pd6 rfl) rfl (by show 2 * 0 + _ ≤ _; exact Nat.le_of_eq rfl) (hb hby d10_45) (fun _ _ => ⟨rfl, rfl, (by decide : 2 + 0 ≤ _), (by decide : 9 + 0 ≤ _)⟩)
      dsimp only [Pt.U, Pt.locs, Pt.cells, Pt.slots] at X13 l13 y13 z13 st13 hQ13
      subst l13 y13 z13
      obtain ⟨rfl, Nq13, e13⟩ := hQ13
      have N13 := Fr.app N12 Nq13
      refine ogo (S' := T13.setTop (mkF m 48 #[.val (.ref x_), .val (.ref ca_), .val (.int (0 : Int32)), .val (.int (3 : Int32)), .val .null, .val (.ref ba_12)] [(.int (1 : Int32)), (.ref x_)])) st13 ?_
      obtain ⟨T14, _, X14, rfl, W14, st14⟩ := putFN X13 hx hZ hown w26 Via.refl e13 (pr2.keep K12 nin0) (pr0.keep K12) (Or.inr ⟨w22, rfl, hnm⟩) w6 (ty := .byte) (v' := (.int (1 : Int32))) (by decide) rfl (by decide) (g := (mkF m 48 #[.val (.ref x_), .val (.ref ca_), .val (.int (0 : Int32)), .val (.int (3 : Int32)), .val .null, .val (.ref ba_12)] [(.int (1 : Int32)), (.ref x_)])) rfl rfl (hb hby d10_48)
      have N14 := Fr.snoc X14 N13 pr4
      have F14 := Fld.same W14 (pr2.keep K12 nin0)
      refine ogo (S' := T14.setTop (mkF m 51 #[.val (.ref x_), .val (.ref ca_), .val (.int (0 : Int32)), .val (.int (3 : Int32)), .val .null, .val (.ref ba_12)] [])) st14 ?_
      refine o_aloadN X14 hx (hb hby d10_51) rfl rfl ?_
      refine o_aload X14 hx (hb hby d10_52) rfl rfl ?_
      have c16 := (Fld.other W14 (pr1.keep K12 nin0) (Or.inr (slot_ne (Or.inr w21) (Or.inr w22) (by decide) (t := (.array .byte)) (t' := .byte) (by decide) (by decide))))
      obtain ⟨T15, _, X15, rfl, W15, st15⟩ := putF X14 hx hZ hown (host := "") (Or.inl w25) Via.refl rfl c16 (Exa.wr W14 (pr0.keep K12)) (Or.inr ⟨w21, rfl, hnm⟩) w6 (ty := (.array .byte)) (by decide) rfl rfl (g := (mkF m 54 #[.val (.ref x_), .val (.ref ca_), .val (.int (0 : Int32)), .val (.int (3 : Int32)), .val .null, .val (.ref ba_12)] [(.ref ba_12), (.ref x_)])) rfl rfl (hb hby d10_54)
      have N15 := Fr.snoc X15 N14 pr4
      have F15 := Fld.same W15 c16
      refine ogo (S' := T15.setTop (mkF m 57 #[.val (.ref x_), .val (.ref ca_), .val (.int (0 : Int32)), .val (.int (3 : Int32)), .val .null, .val (.ref ba_12)] [])) st15 ?_
      have c17 := ((p12_1.other W14 (Nat.ne_of_gt (Nat.lt_of_lt_of_le (Nat.lt_of_lt_of_le pr0.lt (Nat.le_refl _)) p12_0))).other W15 (Nat.ne_of_gt (Nat.lt_of_lt_of_le (Nat.lt_of_lt_of_le pr0.lt (Nat.le_refl _)) p12_0)))
      have c18 := (Fld.other W15 F14 (Or.inr (slot_ne (Or.inr w22) (Or.inr w21) (by decide) (t := .byte) (t' := (.array .byte)) (by decide) (by decide))))
      refine oend X15 hlk (v := none) (fun _ => rfl) (fun fs hr => X15.returnOut hx hret (hb hby d10_57) hr) (by decide) (by decide) ?_
      show own_Q_new4e_3 Z _ _ _ _ _ _ _ _ h0 n0 _ T15.heap _
      exact ⟨ba_12, kb_12, (1 : Int32), (6 : Int32), [(.int (c0_ >>> ((0 : Int32) &&& 31)).toInt8.toInt32), (.int (c0_ >>> ((8 : Int32) &&& 31)).toInt8.toInt32), (.int (c1_ >>> ((0 : Int32) &&& 31)).toInt8.toInt32), (.int (c1_ >>> ((8 : Int32) &&& 31)).toInt8.toInt32), (.int (c2_ >>> ((0 : Int32) &&& 31)).toInt8.toInt32), (.int (c2_ >>> ((8 : Int32) &&& 31)).toInt8.toInt32)], rfl, N15, ((((Keep.refl h0 [x_]).trans K12 all0).wr W14 (Or.inl (List.mem_of_getElem? (i := 0) rfl))).wr W15 (Or.inl (List.mem_of_getElem? (i := 0) rfl))), (Nat.le_trans (Nat.le_refl _) p12_0), c17, (Exa.wr W15 (Exa.wr W14 (pr0.keep K12))), F15, c18, (Or.inr ⟨rfl, rfl, rfl⟩)⟩
    · by_cases hc19 : (255 : Int32) < c2_
      · obtain ⟨_, _, ⟨T20, L20, kc20, n20⟩, -, X20, ⟨Lc20, hQ20, l20, y20, z20⟩, st20⟩ := Jvm.LawKit.callS X2 hx (y := yM2) hown (mvT hZ w60) (mvT hZ w61) (mvT hZ w62) (mvT hZ w63) (by decide) (backOf (W := 0) (rm_cmp3_3_2 l Z a0 hw [] z_CS v_FMT ca_ kc_ c0_ c1_ c2_ h0 n0 SB O0 pr3 pr7 hc3 hc11 hc19) hZ w63 w62 (by decide) (by decide)) (g := (mkF m 36 #[.val (.ref x_), .val (.ref ca_), .val (.int (0 : Int32)), .val (.int (3 : Int32)), .val .null, .unset] [(.int (3 : Int32)), (.int (0 : Int32)), (.ref ca_)])) rfl (by rw [hml]; rfl) (argsL := [(.ref ca_), (.int (0 : Int32)), (.int (3 : Int32))]) (rest := []) (lenOf own_pd4 rfl) rfl (by show 2 * 0 + _ ≤ _; exact Nat.le_of_eq rfl) (hb hby d10_36) (fun _ _ => ⟨rfl, e2, (by decide : 0 + 2 ≤ _), (by decide : 0 + 9 ≤ _)⟩)
        dsimp only [Pt.U, Pt.locs, Pt.cells, Pt.slots] at X20 l20 y20 z20 st20 hQ20
        subst l20 y20 z20
        obtain ⟨ba_20, kb_20, rfl, Nq20, K20, p20_0, p20_1⟩ := hQ20
        have N20 := Fr.app N0 Nq20
        have n0_ba_20 : n0 ≤ ba_20 := Nat.le_trans (Nat.le_trans (Nat.le_of_eq O0.1.symm) O0.2.1) (Nat.le_trans (Nat.le_refl _) p20_0)
        refine ogo (S' := T20.setTop (mkF m 39 #[.val (.ref x_), .val (.ref ca_), .val (.int (0 : Int32)), .val (.int (3 : Int32)), .val .null, .unset] [(.ref ba_20)])) st20 ?_
        refine o_astore X20 hx (l' := #[.val (.ref x_), .val (.ref ca_), .val (.int (0 : Int32)), .val (.int (3 : Int32)), .val .null, .val (.ref ba_20)]) (hb hby d10_39) rfl rfl ?_
        refine o_aloadN X20 hx (hb hby d10_41) rfl rfl ?_
        refine o_aload X20 hx (hb hby d10_42) rfl rfl ?_
        refine o_iloadN X20 hx (hb hby d10_44) rfl ?_
        obtain ⟨_, _, ⟨T21, L21, kc21, n21⟩, -, X21, ⟨Lc21, hQ21, l21, y21, z21⟩, st21⟩ := Jvm.LawKit.callS X20 hx (y := yM3) hown (mvT hZ w67) (mvT hZ w68) (mvT hZ w62) (mvT hZ w69) (by decide) (backOf (W := 1) (rm_codl16_3 l Z a0 hw []  ba_20 kb_20 [(.int (c0_ >>> ((0 : Int32) &&& 31)).toInt8.toInt32), (.int (c0_ >>> ((8 : Int32) &&& 31)).toInt8.toInt32), (.int (c1_ >>> ((0 : Int32) &&& 31)).toInt8.toInt32), (.int (c1_ >>> ((8 : Int32) &&& 31)).toInt8.toInt32), (.int (c2_ >>> ((0 : Int32) &&& 31)).toInt8.toInt32), (.int (c2_ >>> ((8 : Int32) &&& 31)).toInt8.toInt32)] T20.heap n0 (O0.keep K20 all0) p20_1) hZ w69 w62 (by decide) (by decide)) (g := (mkF m 45 #[.val (.ref x_), .val (.ref ca_), .val (.int (0 : Int32)), .val (.int (3 : Int32)), .val .null, .val (.ref ba_20)] [(.int (3 : Int32)), (.ref ba_20), (.ref x_)])) rfl (by rw [hml]; rfl) (argsL := [(.ref ba_20), (.int (3 : Int32))]) (rest := [(.ref x_)]) (lenOf own_pd6 rfl) rfl (by show 2 * 0 + _ ≤ _; exact Nat.le_of_eq rfl) (hb hby d10_45) (fun _ _ => ⟨rfl, rfl, (by decide : 2 + 0 ≤ _), (by decide : 9 + 0 ≤ _)⟩)
        dsimp only [Pt.U, Pt.locs, Pt.cells, Pt.slots] at X21 l21 y21 z21 st21 hQ21
        subst l21 y21 z21
        obtain ⟨rfl, Nq21, e21⟩ := hQ21
        have N21 := Fr.app N20 Nq21
        refine ogo (S' := T21.setTop (mkF m 48 #[.val (.ref x_), .val (.ref ca_), .val (.int (0 : Int32)), .val (.int (3 : Int32)), .val .null, .val (.ref ba_20)] [(.int (1 : Int32)), (.ref x_)])) st21 ?_
        obtain ⟨T22, _, X22, rfl, W22, st22⟩ := putFN X21 hx hZ hown w26 Via.refl e21 (pr2.keep K20 nin0) (pr0.keep K20) (Or.inr ⟨w22, rfl, hnm⟩) w6 (ty := .byte) (v' := (.int (1 : Int32))) (by decide) rfl (by decide) (g := (mkF m 48 #[.val (.ref x_), .val (.ref ca_), .val (.int (0 : Int32)), .val (.int (3 : Int32)), .val .null, .val (.ref ba_20)] [(.int (1 : Int32)), (.ref x_)])) rfl rfl (hb hby d10_48)
        have N22 := Fr.snoc X22 N21 pr4
        have F22 := Fld.same W22 (pr2.keep K20 nin0)
        refine ogo (S' := T22.setTop (mkF m 51 #[.val (.ref x_), .val (.ref ca_), .val (.int (0 : Int32)), .val (.int (3 : Int32)), .val .null, .val (.ref ba_20)] [])) st22 ?_
        refine o_aloadN X22 hx (hb hby d10_51) rfl rfl ?_
        refine o_aload X22 hx (hb hby d10_52) rfl rfl ?_
        have c24 := (Fld.other W22 (pr1.keep K20 nin0) (Or.inr (slot_ne (Or.inr w21) (Or.inr w22) (by decide) (t := (.array .byte)) (t' := .byte) (by decide) (by decide))))
        obtain ⟨T23, _, X23, rfl, W23, st23⟩ := putF X22 hx hZ hown (host := "") (Or.inl w25) Via.refl rfl c24 (Exa.wr W22 (pr0.keep K20)) (Or.inr ⟨w21, rfl, hnm⟩) w6 (ty := (.array .byte)) (by decide) rfl rfl (g := (mkF m 54 #[.val (.ref x_), .val (.ref ca_), .val (.int (0 : Int32)), .val (.int (3 : Int32)), .val .null, .val (.ref ba_20)] [(.ref ba_20), (.ref x_)])) rfl rfl (hb hby d10_54)
        have N23 := Fr.snoc X23 N22 pr4
        have F23 := Fld.same W23 c24
        refine ogo (S' := T23.setTop (mkF m 57 #[.val (.ref x_), .val (.ref ca_), .val (.int (0 : Int32)), .val (.int (3 : Int32)), .val .null, .val (.ref ba_20)] [])) st23 ?_
        have c25 := ((p20_1.other W22 (Nat.ne_of_gt (Nat.lt_of_lt_of_le (Nat.lt_of_lt_of_le pr0.lt (Nat.le_refl _)) p20_0))).other W23 (Nat.ne_of_gt (Nat.lt_of_lt_of_le (Nat.lt_of_lt_of_le pr0.lt (Nat.le_refl _)) p20_0)))
        have c26 := (Fld.other W23 F22 (Or.inr (slot_ne (Or.inr w22) (Or.inr w21) (by decide) (t := .byte) (t' := (.array .byte)) (by decide) (by decide))))
        refine oend X23 hlk (v := none) (fun _ => rfl) (fun fs hr => X23.returnOut hx hret (hb hby d10_57) hr) (by decide) (by decide) ?_
        show own_Q_new4e_3 Z _ _ _ _ _ _ _ _ h0 n0 _ T23.heap _
        exact ⟨ba_20, kb_20, (1 : Int32), (6 : Int32), [(.int (c0_ >>> ((0 : Int32) &&& 31)).toInt8.toInt32), (.int (c0_ >>> ((8 : Int32) &&& 31)).toInt8.toInt32), (.int (c1_ >>> ((0 : Int32) &&& 31)).toInt8.toInt32), (.int (c1_ >>> ((8 : Int32) &&& 31)).toInt8.toInt32), (.int (c2_ >>> ((0 : Int32) &&& 31)).toInt8.toInt32), (.int (c2_ >>> ((8 : Int32) &&& 31)).toInt8.toInt32)], rfl, N23, ((((Keep.refl h0 [x_]).trans K20 all0).wr W22 (Or.inl (List.mem_of_getElem? (i := 0) rfl))).wr W23 (Or.inl (List.mem_of_getElem? (i := 0) rfl))), (Nat.le_trans (Nat.le_refl _) p20_0), c25, (Exa.wr W23 (Exa.wr W22 (pr0.keep K20))), F23, c26, (Or.inr ⟨rfl, rfl, rfl⟩)⟩
      · obtain ⟨_, _, ⟨T27, L27, kc27, n27⟩, -, X27, ⟨Lc27, hQ27, l27, y27, z27⟩, st27⟩ := Jvm.LawKit.callS X2 hx (y := yM2) hown (mvT hZ w60) (mvT hZ w61) (mvT hZ w62) (mvT hZ w63) (by decide) (backOf (W := 0) (rm_cmp3_3 l Z a0 hw []  ca_ kc_ c0_ c1_ c2_ h0 n0 O0 pr3 hc3 hc11 hc19) hZ w63 w62 (by decide) (by decide)) (g := (mkF m 36 #[.val (.ref x_), .val (.ref ca_), .val (.int (0 : Int32)), .val (.int (3 : Int32)), .val .null, .unset] [(.int (3 : Int32)), (.int (0 : Int32)), (.ref ca_)])) rfl (by rw [hml]; rfl) (argsL := [(.ref ca_), (.int (0 : Int32)), (.int (3 : Int32))]) (rest := []) (lenOf own_pd4 rfl) rfl (by show 2 * 0 + _ ≤ _; exact Nat.le_of_eq rfl) (hb hby d10_36) (fun _ _ => ⟨rfl, e2, (by decide : 0 + 1 ≤ _), (by decide : 0 + 3 ≤ _)⟩)
        dsimp only [Pt.U, Pt.locs, Pt.cells, Pt.slots] at X27 l27 y27 z27 st27 hQ27
        subst l27 y27 z27
        obtain ⟨ba_27, kb_27, rfl, Nq27, K27, p27_0, p27_1⟩ := hQ27
        have N27 := Fr.app N0 Nq27
        have n0_ba_27 : n0 ≤ ba_27 := Nat.le_trans (Nat.le_trans (Nat.le_of_eq O0.1.symm) O0.2.1) (Nat.le_trans (Nat.le_refl _) p27_0)
        refine ogo (S' := T27.setTop (mkF m 39 #[.val (.ref x_), .val (.ref ca_), .val (.int (0 : Int32)), .val (.int (3 : Int32)), .val .null, .unset] [(.ref ba_27)])) st27 ?_
        refine o_astore X27 hx (l' := #[.val (.ref x_), .val (.ref ca_), .val (.int (0 : Int32)), .val (.int (3 : Int32)), .val .null, .val (.ref ba_27)]) (hb hby d10_39) rfl rfl ?_
        refine o_aloadN X27 hx (hb hby d10_41) rfl rfl ?_
        refine o_aload X27 hx (hb hby d10_42) rfl rfl ?_
        refine o_iloadN X27 hx (hb hby d10_44) rfl ?_
        obtain ⟨_, _, ⟨T28, L28, kc28, n28⟩, -, X28, ⟨Lc28, hQ28, l28, y28, z28⟩, st28⟩ := Jvm.LawKit.callS X27 hx (y := yM3) hown (mvT hZ w67) (mvT hZ w68) (mvT hZ w62) (mvT hZ w69) (by decide) (backOf (W := 1) (rm_codl_3 l Z a0 hw []  ba_27 kb_27 [(.int c0_.toInt8.toInt32), (.int c1_.toInt8.toInt32), (.int c2_.toInt8.toInt32)] T27.heap n0 (O0.keep K27 all0) p27_1) hZ w69 w62 (by decide) (by decide)) (g := (mkF m 45 #[.val (.ref x_), .val (.ref ca_), .val (.int (0 : Int32)), .val (.int (3 : Int32)), .val .null, .val (.ref ba_27)] [(.int (3 : Int32)), (.ref ba_27), (.ref x_)])) rfl (by rw [hml]; rfl) (argsL := [(.ref ba_27), (.int (3 : Int32))]) (rest := [(.ref x_)]) (lenOf own_pd6 rfl) rfl (by show 2 * 0 + _ ≤ _; exact Nat.le_of_eq rfl) (hb hby d10_45) (fun _ _ => ⟨rfl, rfl, (by decide : 1 + 0 ≤ _), (by decide : 3 + 0 ≤ _)⟩)
        dsimp only [Pt.U, Pt.locs, Pt.cells, Pt.slots] at X28 l28 y28 z28 st28 hQ28
        subst l28 y28 z28
        obtain ⟨rfl, Nq28, e28⟩ := hQ28
        have N28 := Fr.app N27 Nq28
        refine ogo (S' := T28.setTop (mkF m 48 #[.val (.ref x_), .val (.ref ca_), .val (.int (0 : Int32)), .val (.int (3 : Int32)), .val .null, .val (.ref ba_27)] [(.int (0 : Int32)), (.ref x_)])) st28 ?_
        obtain ⟨T29, _, X29, rfl, W29, st29⟩ := putFN X28 hx hZ hown w26 Via.refl e28 (pr2.keep K27 nin0) (pr0.keep K27) (Or.inr ⟨w22, rfl, hnm⟩) w6 (ty := .byte) (v' := (.int (0 : Int32))) (by decide) rfl (by decide) (g := (mkF m 48 #[.val (.ref x_), .val (.ref ca_), .val (.int (0 : Int32)), .val (.int (3 : Int32)), .val .null, .val (.ref ba_27)] [(.int (0 : Int32)), (.ref x_)])) rfl rfl (hb hby d10_48)
        have N29 := Fr.snoc X29 N28 pr4
        have F29 := Fld.same W29 (pr2.keep K27 nin0)
        refine ogo (S' := T29.setTop (mkF m 51 #[.val (.ref x_), .val (.ref ca_), .val (.int (0 : Int32)), .val (.int (3 : Int32)), .val .null, .val (.ref ba_27)] [])) st29 ?_
        refine o_aloadN X29 hx (hb hby d10_51) rfl rfl ?_
        refine o_aload X29 hx (hb hby d10_52) rfl rfl ?_
        have c31 := (Fld.other W29 (pr1.keep K27 nin0) (Or.inr (slot_ne (Or.inr w21) (Or.inr w22) (by decide) (t := (.array .byte)) (t' := .byte) (by decide) (by decide))))
        obtain ⟨T30, _, X30, rfl, W30, st30⟩ := putF X29 hx hZ hown (host := "") (Or.inl w25) Via.refl rfl c31 (Exa.wr W29 (pr0.keep K27)) (Or.inr ⟨w21, rfl, hnm⟩) w6 (ty := (.array .byte)) (by decide) rfl rfl (g := (mkF m 54 #[.val (.ref x_), .val (.ref ca_), .val (.int (0 : Int32)), .val (.int (3 : Int32)), .val .null, .val (.ref ba_27)] [(.ref ba_27), (.ref x_)])) rfl rfl (hb hby d10_54)
        have N30 := Fr.snoc X30 N29 pr4
        have F30 := Fld.same W30 c31
        refine ogo (S' := T30.setTop (mkF m 57 #[.val (.ref x_), .val (.ref ca_), .val (.int (0 : Int32)), .val (.int (3 : Int32)), .val .null, .val (.ref ba_27)] [])) st30 ?_
        have c32 := ((p27_1.other W29 (Nat.ne_of_gt (Nat.lt_of_lt_of_le (Nat.lt_of_lt_of_le pr0.lt (Nat.le_refl _)) p27_0))).other W30 (Nat.ne_of_gt (Nat.lt_of_lt_of_le (Nat.lt_of_lt_of_le pr0.lt (Nat.le_refl _)) p27_0)))
        have c33 := (Fld.other W30 F29 (Or.inr (slot_ne (Or.inr w22) (Or.inr w21) (by decide) (t := .byte) (t' := (.array .byte)) (by decide) (by decide))))
        refine oend X30 hlk (v := none) (fun _ => rfl) (fun fs hr => X30.returnOut hx hret (hb hby d10_57) hr) (by decide) (by decide) ?_
        show own_Q_new4e_3 Z _ _ _ _ _ _ _ _ h0 n0 _ T30.heap _
        exact ⟨ba_27, kb_27, (0 : Int32), (3 : Int32), [(.int c0_.toInt8.toInt32), (.int c1_.toInt8.toInt32), (.int c2_.toInt8.toInt32)], rfl, N30, ((((Keep.refl h0 [x_]).trans K27 all0).wr W29 (Or.inl (List.mem_of_getElem? (i := 0) rfl))).wr W30 (Or.inl (List.mem_of_getElem? (i := 0) rfl))), (Nat.le_trans (Nat.le_refl _) p27_0), c32, (Exa.wr W30 (Exa.wr W29 (pr0.keep K27))), F30, c33, (Or.inl ⟨hc3, hc11, hc19, rfl, rfl, rfl⟩)⟩
def own_Q_new1e_3 (Z : State) (z_CS : Int32) (v_FMT : Value) (x_ : Addr) (ca_ : Addr) (kc_ : ClassId) (c0_ : Int32) (c1_ : Int32) (c2_ : Int32) (h0 : Heap) (n0 : Nat) (v : Option Value) (h : Heap) (L : List Loc) : Prop := ∃ ba_ : Addr, ∃ kb_ : ClassId, ∃ cd_ : Int32, ∃ z_ : Int32, ∃ vs_ : List Value, (v = none) ∧ (Fr n0 L) ∧ (Keep h0 h [x_]) ∧ (h0.size ≤ ba_) ∧ (Arv Z h ba_ kb_ .byte z_ vs_ (.int 0)) ∧ (Exa Z h x_ "java/lang/String") ∧ (Fld Z h x_ "java/lang/String" "value" "[B" (.ref ba_)) ∧ (Fld Z h x_ "java/lang/String" "coder" "B" (.int cd_)) ∧ (own_enc3 c0_ c1_ c2_ cd_ z_ vs_)
set_option maxRecDepth 65536 in
set_option maxHeartbeats 40000000 in
theorem rm_new1e_3 (l : Launch) (Z : State) (a0 : Array Value) (hw : ∀ d ∈ tables_1, d.before a0 Z = true) (ws : List Jvm.Cond) (z_CS : Int32) (v_FMT : Value) (x_ : Addr) (ca_ : Addr) (kc_ : ClassId) (c0_ : Int32) (c1_ : Int32) (c2_ : Int32) (h0 : Heap) (n0 : Nat) (SB : own_Start Z z_CS v_FMT) (O0 : Old Z n0 h0) (pr0 : Exa Z h0 x_ "java/lang/String") (pr1 : Fld Z h0 x_ "java/lang/String" "value" "[B" .null) (pr2 : Fld Z h0 x_ "java/lang/String" "coder" "B" (.int (0 : Int32))) (pr3 : Arv Z h0 ca_ kc_ .char (3 : Int32) [(.int c0_), (.int c1_), (.int c2_)] (.int 0)) (pr4 : n0 ≤ x_) (pr5 : own_c16 c0_) (pr6 : own_c16 c1_) (pr7 : own_c16 c2_) :
    oMet l Z yM10 jdk_42_method_3_code 2 none ws ({ frames := 5, cells := 2, slots := 9, locals := 74 } : Room) 2 9 #[(.ref x_), (.ref ca_)] h0 (own_Q_new1e_3 Z z_CS v_FMT x_ ca_ kc_ c0_ c1_ c2_ h0 n0) := by
  refine oenter own_pn2 #[.val (.ref x_), .val (.ref ca_)] (fun m => by first | (simp [entryFrame, mkF, argsToLocals, Value.category]; done) | rfl) ?_
  intro p e s m below meth c s₁ X0 hx hZ hby hml hret hown0 hnm hlk e0
  have hown : s.vm.findClass "java/lang/String" = some m.cls := hown0
  have N0 := Fr.nil n0
  obtain ⟨S_CS, H_CS, S__assertionsDisabled, S_HI_BYTE_SHIFT, S_LO_BYTE_SHIFT, S_FMT, R_FMT⟩ := (id SB)
  have w7 := hw _ (List.mem_of_getElem? (i := 7) rfl)
  have w12 := hw _ (List.mem_of_getElem? (i := 12) rfl)
  have w13 := hw _ (List.mem_of_getElem? (i := 13) rfl)
  have w15 := hw _ (List.mem_of_getElem? (i := 15) rfl)
  refine o_aloadN X0 hx (hb hby d11_0) rfl rfl ?_
  refine o_aloadN X0 hx (hb hby d11_1) rfl rfl ?_
  refine o_iconst X0 hx (0 : Int32) (hb hby d11_2) rfl ?_
  refine o_aloadN X0 hx (hb hby d11_3) rfl rfl ?_
  obtain ⟨cl1, Ar1, -, S1, N1z, -, -⟩ := (id pr3)
  refine ogo (S' := s₁.setTop (mkF m 5 #[.val (.ref x_), .val (.ref ca_)] [(.int (3 : Int32)), (.int (0 : Int32)), (.ref ca_), (.ref x_)])) (fun _ kt_ => X0.arraylength hx (by rw [e0]; exact Ar1.1) (State.isArrayOf_alike hZ.alike Ar1.2.1) (g := (mkF m 4 #[.val (.ref x_), .val (.ref ca_)] [(.ref ca_), (.int (0 : Int32)), (.ref ca_), (.ref x_)])) rfl rfl (hb hby d11_4) _ (by rw [len_of S1 N1z]; exact kt_)) ?_
  refine o_aconst_null X0 hx (hb hby d11_5) ?_
  obtain ⟨_, _, ⟨T2, L2, kc2, n2⟩, -, X2, ⟨Lc2, hQ2, l2, y2, z2⟩, st2⟩ := X0.specialBack hx (y := yM9) rfl hown (mvT hZ w12) (mvT hZ w13) (mvT hZ w15) (by decide) (backOf (W := 0) (rm_new4e_3 l Z a0 hw [] z_CS v_FMT x_ ca_ kc_ c0_ c1_ c2_ h0 n0 SB O0 pr0 pr1 pr2 pr3 pr4 pr5 pr6 pr7) hZ w15 w7 (by decide) (by decide)) (g := (mkF m 6 #[.val (.ref x_), .val (.ref ca_)] [.null, (.int (3 : Int32)), (.int (0 : Int32)), (.ref ca_), (.ref x_)])) rfl (by rw [hml]; rfl) (Steps.refl _) (a := x_) (argsL := [(.ref ca_), (.int (0 : Int32)), (.int (3 : Int32)), .null]) (rest := []) (lenOf own_pd7 rfl) rfl (by show 2 * 0 + _ ≤ _; exact Nat.le_of_eq rfl) (hb hby d11_6) (fun _ _ => ⟨rfl, e0, (by decide : 0 + 2 ≤ _), (by decide : 0 + 9 ≤ _)⟩)
  dsimp only [Pt.U, Pt.locs, Pt.cells, Pt.slots] at X2 l2 y2 z2 st2 hQ2
  subst l2 y2 z2
  obtain ⟨ba_2, kb_2, cd_2, z_2, vs_2, rfl, Nq2, K2, p2_0, p2_1, p2_2, p2_3, p2_4, p2_5⟩ := hQ2
  have N2 := Fr.app N0 Nq2
  have n0_ba_2 : n0 ≤ ba_2 := Nat.le_trans (Nat.le_trans (Nat.le_of_eq O0.1.symm) O0.2.1) (Nat.le_trans (Nat.le_refl _) p2_0)
  refine otr (S' := T2.setTop (mkF m 9 #[.val (.ref x_), .val (.ref ca_)] [])) st2 ?_
  refine oend X2 hlk (v := none) (fun _ => rfl) (fun fs hr => X2.returnOut hx hret (hb hby d11_9) hr) (by decide) (by decide) ?_
  show own_Q_new1e_3 Z _ _ _ _ _ _ _ _ h0 n0 _ T2.heap _
  exact ⟨ba_2, kb_2, cd_2, z_2, vs_2, rfl, N2, ((Keep.refl h0 [x_]).trans K2 (allS (Or.inl (List.mem_of_getElem? (i := 0) rfl)) all0)), (Nat.le_trans (Nat.le_refl _) p2_0), p2_1, p2_2, p2_3, p2_4, p2_5⟩
theorem d10_8 : decode jdk_42_method_149_code 8 = .ok (.aload_n 0, 1) := by decide +kernel
theorem d10_9 : decode jdk_42_method_149_code 9 = .ok (.ldc 7, 2) := by decide +kernel
theorem d10_11 : decode jdk_42_method_149_code 11 = .ok (.getfield 9, 3) := by decide +kernel
theorem d10_14 : decode jdk_42_method_149_code 14 = .ok (.putfield 9, 3) := by decide +kernel
theorem d10_17 : decode jdk_42_method_149_code 17 = .ok (.aload_n 0, 1) := by decide +kernel
theorem d10_18 : decode jdk_42_method_149_code 18 = .ok (.ldc 7, 2) := by decide +kernel
theorem d10_20 : decode jdk_42_method_149_code 20 = .ok (.getfield 15, 3) := by decide +kernel
theorem d10_23 : decode jdk_42_method_149_code 23 = .ok (.putfield 15, 3) := by decide +kernel
theorem d10_26 : decode jdk_42_method_149_code 26 = .ok (.return_, 1) := by decide +kernel
def own_Q_new4z (Z : State)  (x_ : Addr) (ca_ : Addr) (h0 : Heap) (n0 : Nat) (v : Option Value) (h : Heap) (L : List Loc) : Prop := ∃ ba_ : Addr, ∃ kb_ : ClassId, (v = none) ∧ (Fr n0 L) ∧ (Keep h0 h [x_]) ∧ (ba_ < h.size) ∧ (Arv Z h ba_ kb_ .byte (0 : Int32) [] (.int 0)) ∧ (Exa Z h x_ "java/lang/String") ∧ (Fld Z h x_ "java/lang/String" "value" "[B" (.ref ba_)) ∧ (Fld Z h x_ "java/lang/String" "coder" "B" (.int (0 : Int32)))
set_option maxRecDepth 65536 in
set_option maxHeartbeats 40000000 in
theorem rm_new4z (l : Launch) (Z : State) (a0 : Array Value) (hw : ∀ d ∈ tables_1, d.before a0 Z = true) (ws : List Jvm.Cond)  (x_ : Addr) (ca_ : Addr) (h0 : Heap) (n0 : Nat) (O0 : Old Z n0 h0) (pr0 : Exa Z h0 x_ "java/lang/String") (pr1 : Fld Z h0 x_ "java/lang/String" "value" "[B" .null) (pr2 : Fld Z h0 x_ "java/lang/String" "coder" "B" (.int (0 : Int32))) (pr3 : n0 ≤ x_) :
    oMetS l Z yM9 jdk_42_method_149_code 6 none ws ({ frames := 1, cells := 4, slots := 8, locals := 12 } : Room) 4 8 #[(.ref x_), (.ref ca_), (.int (0 : Int32)), (.int (0 : Int32)), .null] h0 (own_Q_new4z Z  x_ ca_ h0 n0) := by
  refine oenterS own_pn2 #[.val (.ref x_), .val (.ref ca_), .val (.int (0 : Int32)), .val (.int (0 : Int32)), .val .null, .unset] (fun m => by first | (simp [entryFrame, mkF, argsToLocals, Value.category]; done) | rfl) ?_
  intro p e s m below meth c s₁ X0 hx hZ hby hml hret hown0 hnm hlk e0 hs0 H0 hS0
  have hEL := own_EW hw
  have wS := own_wS hw
  have hown : s.vm.findClass "java/lang/String" = some m.cls := hown0
  have N0 := Fr.nil n0
  have w6 := hw _ (List.mem_of_getElem? (i := 6) rfl)
  have w16 := hw _ (List.mem_of_getElem? (i := 16) rfl)
  have w17 := hw _ (List.mem_of_getElem? (i := 17) rfl)
  have w18 := hw _ (List.mem_of_getElem? (i := 18) rfl)
  have w19 := hw _ (List.mem_of_getElem? (i := 19) rfl)
  have w21 := hw _ (List.mem_of_getElem? (i := 21) rfl)
  have w22 := hw _ (List.mem_of_getElem? (i := 22) rfl)
  have w25 := hw _ (List.mem_of_getElem? (i := 25) rfl)
  have w26 := hw _ (List.mem_of_getElem? (i := 26) rfl)
  refine o_aloadN X0 hx (hb hby d10_0) rfl rfl ?_
  obtain ⟨T1, X1, e1, st1⟩ := initO X0 hx hZ hown w16 w17 w18 e0 (g := (mkF m 1 #[.val (.ref x_), .val (.ref ca_), .val (.int (0 : Int32)), .val (.int (0 : Int32)), .val .null, .unset] [(.ref x_)])) rfl (by rw [hml]; rfl) rfl (hb hby d10_1) (by decide) (W := 0) (by show 2 * 0 + _ ≤ _; exact Nat.le_of_eq rfl) (by decide)
  refine ogo (S' := T1.setTop (mkF m 4 #[.val (.ref x_), .val (.ref ca_), .val (.int (0 : Int32)), .val (.int (0 : Int32)), .val .null, .unset] [])) st1 ?_
  refine o_iloadN X1 hx (hb hby d10_4) rfl ?_
  refine o_ifNo X1 hx (hb hby d10_5) (teq (by decide : (0 : Int32) = (0 : Int32))).2 ?_
  refine o_aloadN X1 hx (hb hby d10_8) rfl rfl ?_
  obtain ⟨a2, T2, _, ks2, b2, kk2, X2, rfl, E2, hS2, hk2, hZ2, hown2, Ex2, Fc2, Fv2, Va2, la2, lb2, C2, -, Nx2, st2⟩ := ldcCH X1 hx hZ hown w19 wS e1 hS0 (Nat.zero_le _) hEL (List.mem_of_getElem? (i := 0) rfl) H0 (vs := []) (z := (0 : Int32)) ⟨by decide, by decide⟩ (by decide) rfl (g := (mkF m 9 #[.val (.ref x_), .val (.ref ca_), .val (.int (0 : Int32)), .val (.int (0 : Int32)), .val .null, .unset] [(.ref x_)])) rfl (hb hby d10_9) (n := 0) (by decide) (by decide) (by decide) (by decide)
  have H3 := C2.1
  have c4 := (CHr.safe C2 (Nat.lt_of_lt_of_le pr0.lt (Nat.le_refl _)) (own_safe hZ.alike pr0 pr1))
  refine ogo (S' := T2.setTop (mkF m 11 #[.val (.ref x_), .val (.ref ca_), .val (.int (0 : Int32)), .val (.int (0 : Int32)), .val .null, .unset] [(.ref a2), (.ref x_)])) st2 ?_
  obtain ⟨T5, X5, e5, st5⟩ := getF X2 hx hZ2 hown2 (host := "") (Or.inl w25) Via.refl rfl Fv2 (g := (mkF m 11 #[.val (.ref x_), .val (.ref ca_), .val (.int (0 : Int32)), .val (.int (0 : Int32)), .val .null, .unset] [(.ref a2), (.ref x_)])) rfl rfl (hb hby d10_11)
  refine ogo (S' := T5.setTop (mkF m 14 #[.val (.ref x_), .val (.ref ca_), .val (.int (0 : Int32)), .val (.int (0 : Int32)), .val .null, .unset] [(.ref b2), (.ref x_)])) st5 ?_
  obtain ⟨T6, _, X6, rfl, W6, st6⟩ := putF X5 hx hZ2 hown2 (host := "") (Or.inl w25) Via.refl e5 (Fld.ext E2 pr1) (Exa.ext E2 pr0) (Or.inr ⟨w21, rfl, hnm⟩) w6 (ty := (.array .byte)) (by decide) rfl rfl (g := (mkF m 14 #[.val (.ref x_), .val (.ref ca_), .val (.int (0 : Int32)), .val (.int (0 : Int32)), .val .null, .unset] [(.ref b2), (.ref x_)])) rfl rfl (hb hby d10_14)
  have N6 := Fr.snoc X6 N0 pr3
  have H7 := CHv.wr W6 c4 H3
  have F6 := Fld.same W6 (Fld.ext E2 pr1)
  refine ogo (S' := T6.setTop (mkF m 17 #[.val (.ref x_), .val (.ref ca_), .val (.int (0 : Int32)), .val (.int (0 : Int32)), .val .null, .unset] [])) st6 ?_
  refine o_aloadN X6 hx (hb hby d10_17) rfl rfl ?_
  obtain ⟨a8, T8, _, ks8, b8, kk8, X8, rfl, E8, hS8, hk8, hZ8, hown8, Ex8, Fc8, Fv8, Va8, la8, lb8, C8, -, Nx8, st8⟩ := ldcCH X6 hx hZ2 hown2 w19 wS rfl hS2 (Nat.le_trans hk2 (Keep.of_wr W6).1) hEL (List.mem_of_getElem? (i := 0) rfl) H7 (vs := []) (z := (0 : Int32)) ⟨by decide, by decide⟩ (by decide) rfl (g := (mkF m 18 #[.val (.ref x_), .val (.ref ca_), .val (.int (0 : Int32)), .val (.int (0 : Int32)), .val .null, .unset] [(.ref x_)])) rfl (hb hby d10_18) (n := 0) (by decide) (by decide) (by decide) (by decide)
  have H9 := C8.1
  have c10 := (CHr.safe C8 (Nat.lt_of_lt_of_le pr0.lt (Nat.le_trans E2.1 (Keep.of_wr W6).1)) (Safe.wr W6 c4 H3 c4))
  refine ogo (S' := T8.setTop (mkF m 20 #[.val (.ref x_), .val (.ref ca_), .val (.int (0 : Int32)), .val (.int (0 : Int32)), .val .null, .unset] [(.ref a8), (.ref x_)])) st8 ?_
  obtain ⟨T11, X11, e11, st11⟩ := getF X8 hx hZ8 hown8 (host := "") (Or.inl w26) Via.refl rfl Fc8 (g := (mkF m 20 #[.val (.ref x_), .val (.ref ca_), .val (.int (0 : Int32)), .val (.int (0 : Int32)), .val .null, .unset] [(.ref a8), (.ref x_)])) rfl rfl (hb hby d10_20)
  refine ogo (S' := T11.setTop (mkF m 23 #[.val (.ref x_), .val (.ref ca_), .val (.int (0 : Int32)), .val (.int (0 : Int32)), .val .null, .unset] [(.int (0 : Int32)), (.ref x_)])) st11 ?_
  have c13 := (Fld.ext E8 (Fld.other W6 (Fld.ext E2 pr2) (Or.inr (slot_ne (Or.inr w22) (Or.inr w21) (by decide) (t := .byte) (t' := (.array .byte)) (by decide) (by decide)))))
  obtain ⟨T12, _, X12, rfl, W12, st12⟩ := putFN X11 hx hZ8 hown8 w26 Via.refl e11 c13 (Exa.ext E8 (Exa.wr W6 (Exa.ext E2 pr0))) (Or.inr ⟨w22, rfl, hnm⟩) w6 (ty := .byte) (v' := (.int (0 : Int32))) (by decide) rfl (by decide) (g := (mkF m 23 #[.val (.ref x_), .val (.ref ca_), .val (.int (0 : Int32)), .val (.int (0 : Int32)), .val .null, .unset] [(.int (0 : Int32)), (.ref x_)])) rfl rfl (hb hby d10_23)
  have N12 := Fr.snoc X12 N6 pr3
  have H14 := CHv.wr W12 c10 H9
  have F12 := Fld.same W12 c13
  refine ogo (S' := T12.setTop (mkF m 26 #[.val (.ref x_), .val (.ref ca_), .val (.int (0 : Int32)), .val (.int (0 : Int32)), .val .null, .unset] [])) st12 ?_
  have c15 := (((Va2.other W6 (Ne.symm (Nx2 _ c4).2)).ext E8).other W12 (Ne.symm (Nx2 _ c4).2))
  have c16 := (Fld.other W12 (Fld.ext E8 F6) (Or.inr (slot_ne (Or.inr w21) (Or.inr w22) (by decide) (t := (.array .byte)) (t' := .byte) (by decide) (by decide))))
  refine oendS X12 hlk hS8 (Nat.le_trans hk8 (Keep.of_wr W12).1) rfl hZ8 hEL hs0 (CHr.trans (CHr.trans (CHr.trans (CHr.trans (CHr.refl H0) C2) (CHr.wr W6 c4 H3)) C8) (CHr.wr W12 c10 H9)) (v := none) (fun _ => rfl) (fun fs hr => X12.returnOut hx hret (hb hby d10_26) hr) (by decide) (by decide) ?_
  show own_Q_new4z Z _ _ h0 n0 _ T12.heap _
  exact ⟨b2, kk2, rfl, N12, (((((Keep.refl h0 [x_]).ext E2).wr W6 (Or.inl (List.mem_of_getElem? (i := 0) rfl))).ext E8).wr W12 (Or.inl (List.mem_of_getElem? (i := 0) rfl))), (Nat.lt_of_lt_of_le lb2 (Nat.le_trans (Nat.le_trans (Keep.of_wr W6).1 E8.1) (Keep.of_wr W12).1)), c15, (Exa.wr W12 (Exa.ext E8 (Exa.wr W6 (Exa.ext E2 pr0)))), c16, F12⟩
def own_Q_new1z (Z : State)  (x_ : Addr) (ca_ : Addr) (kc_ : ClassId) (h0 : Heap) (n0 : Nat) (v : Option Value) (h : Heap) (L : List Loc) : Prop := ∃ ba_ : Addr, ∃ kb_ : ClassId, (v = none) ∧ (Fr n0 L) ∧ (Keep h0 h [x_]) ∧ (ba_ < h.size) ∧ (Arv Z h ba_ kb_ .byte (0 : Int32) [] (.int 0)) ∧ (Exa Z h x_ "java/lang/String") ∧ (Fld Z h x_ "java/lang/String" "value" "[B" (.ref ba_)) ∧ (Fld Z h x_ "java/lang/String" "coder" "B" (.int (0 : Int32)))
set_option maxRecDepth 65536 in
set_option maxHeartbeats 40000000 in
theorem rm_new1z (l : Launch) (Z : State) (a0 : Array Value) (hw : ∀ d ∈ tables_1, d.before a0 Z = true) (ws : List Jvm.Cond)  (x_ : Addr) (ca_ : Addr) (kc_ : ClassId) (h0 : Heap) (n0 : Nat) (O0 : Old Z n0 h0) (pr0 : Exa Z h0 x_ "java/lang/String") (pr1 : Fld Z h0 x_ "java/lang/String" "value" "[B" .null) (pr2 : Fld Z h0 x_ "java/lang/String" "coder" "B" (.int (0 : Int32))) (pr3 : n0 ≤ x_) (pr4 : Arv Z h0 ca_ kc_ .char (0 : Int32) [] (.int 0)) :
    oMetS l Z yM10 jdk_42_method_3_code 2 none ws ({ frames := 2, cells := 4, slots := 8, locals := 29 } : Room) 4 8 #[(.ref x_), (.ref ca_)] h0 (own_Q_new1z Z  x_ ca_ kc_ h0 n0) := by
  refine oenterS own_pn2 #[.val (.ref x_), .val (.ref ca_)] (fun m => by first | (simp [entryFrame, mkF, argsToLocals, Value.category]; done) | rfl) ?_
  intro p e s m below meth c s₁ X0 hx hZ hby hml hret hown0 hnm hlk e0 hs0 H0 hS0
  have hEL := own_EW hw
  have wS := own_wS hw
  have hown : s.vm.findClass "java/lang/String" = some m.cls := hown0
  have N0 := Fr.nil n0
  have w7 := hw _ (List.mem_of_getElem? (i := 7) rfl)
  have w12 := hw _ (List.mem_of_getElem? (i := 12) rfl)
  have w13 := hw _ (List.mem_of_getElem? (i := 13) rfl)
  have w15 := hw _ (List.mem_of_getElem? (i := 15) rfl)
  refine o_aloadN X0 hx (hb hby d11_0) rfl rfl ?_
  refine o_aloadN X0 hx (hb hby d11_1) rfl rfl ?_
  refine o_iconst X0 hx (0 : Int32) (hb hby d11_2) rfl ?_
  refine o_aloadN X0 hx (hb hby d11_3) rfl rfl ?_
  obtain ⟨cl1, Ar1, -, S1, N1z, -, -⟩ := (id pr4)
  refine ogo (S' := s₁.setTop (mkF m 5 #[.val (.ref x_), .val (.ref ca_)] [(.int (0 : Int32)), (.int (0 : Int32)), (.ref ca_), (.ref x_)])) (fun _ kt_ => X0.arraylength hx (by rw [e0]; exact Ar1.1) (State.isArrayOf_alike hZ.alike Ar1.2.1) (g := (mkF m 4 #[.val (.ref x_), .val (.ref ca_)] [(.ref ca_), (.int (0 : Int32)), (.ref ca_), (.ref x_)])) rfl rfl (hb hby d11_4) _ (by rw [len_of S1 N1z]; exact kt_)) ?_
  refine o_aconst_null X0 hx (hb hby d11_5) ?_
  obtain ⟨_, _, ⟨T2, L2, kc2, n2⟩, -, X2, hSi2, hgr2, ⟨Lc2, hQ2, l2, y2, z2, C2⟩, st2⟩ := X0.specialBackS hx (y := yM9) rfl hown (mvT hZ w12) (mvT hZ w13) (mvT hZ w15) (by decide) (backOfSH (W := 0) (rm_new4z l Z a0 hw []  x_ ca_ h0 n0 O0 pr0 pr1 pr2 pr3) hZ w15 w7 (by decide) (by decide) hEL H0) (g := (mkF m 6 #[.val (.ref x_), .val (.ref ca_)] [.null, (.int (0 : Int32)), (.int (0 : Int32)), (.ref ca_), (.ref x_)])) rfl (by rw [hml]; rfl) (Steps.refl _) (a := x_) (argsL := [(.ref ca_), (.int (0 : Int32)), (.int (0 : Int32)), .null]) (rest := []) (lenOf own_pd7 rfl) rfl (by show 2 * 0 + _ ≤ _; exact Nat.le_of_eq rfl) (hb hby d11_6) (fun _ _ => ⟨rfl, e0, (by decide : 0 + 4 ≤ _), (by decide : 0 + 8 ≤ _)⟩)
  dsimp only [Pt.U, Pt.locs, Pt.cells, Pt.slots] at X2 l2 y2 z2 st2 hQ2 hSi2 hgr2 C2
  subst l2 y2 z2
  obtain ⟨ba_2, kb_2, rfl, Nq2, K2, p2_0, p2_1, p2_2, p2_3, p2_4⟩ := hQ2
  have N2 := Fr.app N0 Nq2
  have X2 : Stand p l e ({ frames := 2, cells := 4, slots := 8, locals := 29 } : Room) (s.setVm T2.vm) m #[(.ref x_), (.ref ca_)] below meth c T2 _ _ _ := X2
  have hS2 := foldS hS0 (by rw [e0]; exact (Nat.zero_le _)) hSi2 hgr2
  have hZ2 : Z.Warmed39 T2.vm := State.Warmed39.trans (t := s) hZ hSi2.1
  have hown2 : T2.vm.findClass "java/lang/String" = some m.cls := by rw [hSi2.1.alike.findClass]; exact hown
  have H3 := C2.1
  refine otr (S' := T2.setTop (mkF m 9 #[.val (.ref x_), .val (.ref ca_)] [])) st2 ?_
  refine oendS X2 hlk hS2 (Nat.le_refl _) rfl hZ2 hEL hs0 (CHr.trans (CHr.refl H0) C2) (v := none) (fun _ => rfl) (fun fs hr => X2.returnOut hx hret (hb hby d11_9) hr) (by decide) (by decide) ?_
  show own_Q_new1z Z _ _ _ h0 n0 _ T2.heap _
  exact ⟨ba_2, kb_2, rfl, N2, ((Keep.refl h0 [x_]).trans K2 (allS (Or.inl (List.mem_of_getElem? (i := 0) rfl)) all0)), (Nat.lt_of_lt_of_le p2_0 (Nat.le_refl _)), p2_1, p2_2, p2_3, p2_4⟩
theorem d12_0 : decode jdk_42_method_152_code 0 = .ok (.getstatic 38, 3) := by decide +kernel
theorem d12_3 : decode jdk_42_method_152_code 3 = .ok (.ifCond .eq 10, 3) := by decide +kernel
theorem d12_6 : decode jdk_42_method_152_code 6 = .ok (.aload_n 0, 1) := by decide +kernel
theorem d12_7 : decode jdk_42_method_152_code 7 = .ok (.getfield 15, 3) := by decide +kernel
theorem d12_10 : decode jdk_42_method_152_code 10 = .ok (.goto 4, 3) := by decide +kernel
theorem d12_14 : decode jdk_42_method_152_code 14 = .ok (.ireturn, 1) := by decide +kernel
def own_Q_coder (Z : State) (z_CS : Int32) (v_FMT : Value) (x_ : Addr) (h0 : Heap) (n0 : Nat) (v : Option Value) (h : Heap) (L : List Loc) : Prop := (v = some (.int (0 : Int32))) ∧ (Fr n0 L) ∧ (h = h0)
abbrev yM11 : MethodName := ⟨"java/lang/String", "coder", "()B"⟩
set_option maxRecDepth 65536 in
set_option maxHeartbeats 40000000 in
theorem rm_coder (l : Launch) (Z : State) (a0 : Array Value) (hw : ∀ d ∈ tables_1, d.before a0 Z = true) (ws : List Jvm.Cond) (z_CS : Int32) (v_FMT : Value) (x_ : Addr) (h0 : Heap) (n0 : Nat) (SB : own_Start Z z_CS v_FMT) (O0 : Old Z n0 h0) (pr0 : Fld Z h0 x_ "java/lang/String" "coder" "B" (.int (0 : Int32))) :
    oMet l Z yM11 jdk_42_method_152_code 1 (some .byte) ws ({ frames := 0, cells := 0, slots := 0, locals := 0 } : Room) 0 0 #[(.ref x_)] h0 (own_Q_coder Z z_CS v_FMT x_ h0 n0) := by
  refine oenter own_pn2 #[.val (.ref x_)] (fun m => by first | (simp [entryFrame, mkF, argsToLocals, Value.category]; done) | rfl) ?_
  intro p e s m below meth c s₁ X0 hx hZ hby hml hret hown0 hnm hlk e0
  have hown : s.vm.findClass "java/lang/String" = some m.cls := hown0
  have N0 := Fr.nil n0
  obtain ⟨S_CS, H_CS, S__assertionsDisabled, S_HI_BYTE_SHIFT, S_LO_BYTE_SHIFT, S_FMT, R_FMT⟩ := (id SB)
  have w26 := hw _ (List.mem_of_getElem? (i := 26) rfl)
  have w37 := hw _ (List.mem_of_getElem? (i := 37) rfl)
  obtain ⟨T1, X1, e1, st1⟩ := getS2 X0 hx hZ hown (host := "") (Or.inl w37) Via.refl e0 (Sta.ext O0.2 S_CS) (g := (mkF m 0 #[.val (.ref x_)] [])) rfl (hb hby d12_0)
  refine ogo (S' := T1.setTop (mkF m 3 #[.val (.ref x_)] [(.int z_CS)])) st1 ?_
  refine o_ifNo X1 hx (hb hby d12_3) (feq H_CS).1 ?_
  refine o_aloadN X1 hx (hb hby d12_6) rfl rfl ?_
  obtain ⟨T2, X2, e2, st2⟩ := getF X1 hx hZ hown (host := "") (Or.inl w26) Via.refl e1 pr0 (g := (mkF m 7 #[.val (.ref x_)] [(.ref x_)])) rfl rfl (hb hby d12_7)
  refine ogo (S' := T2.setTop (mkF m 10 #[.val (.ref x_)] [(.int (0 : Int32))])) st2 ?_
  refine o_goto X2 hx 14 (hb hby d12_10) (by decide) (by decide) ?_
  refine oend X2 hlk (v := some (.int (0 : Int32))) (fun h => by rw [hret] at h; cases h) (fun fs hr => retN X2 hx (t := .byte) hret (by simp) (hb hby d12_14) hr) (by decide) (by decide) ?_
  show own_Q_coder Z _ _ _ h0 n0 _ T2.heap _
  rw [e2]
  exact ⟨rfl, N0, rfl⟩
theorem own_pd8 : parseMethodDescriptor "()B" = some ⟨[], some .byte⟩ := by decide +kernel
theorem d13_0 : decode jdk_42_method_54_code 0 = .ok (.aload_n 0, 1) := by decide +kernel
theorem d13_1 : decode jdk_42_method_54_code 1 = .ok (.getfield 9, 3) := by decide +kernel
theorem d13_4 : decode jdk_42_method_54_code 4 = .ok (.arraylength, 1) := by decide +kernel
theorem d13_5 : decode jdk_42_method_54_code 5 = .ok (.aload_n 0, 1) := by decide +kernel
theorem d13_6 : decode jdk_42_method_54_code 6 = .ok (.invokevirtual 335, 3) := by decide +kernel
theorem d13_9 : decode jdk_42_method_54_code 9 = .ok (.ishr, 1) := by decide +kernel
theorem d13_10 : decode jdk_42_method_54_code 10 = .ok (.ireturn, 1) := by decide +kernel
def own_Q_len_0 (Z : State) (z_CS : Int32) (v_FMT : Value) (x_ : Addr) (ba_ : Addr) (kb_ : ClassId) (vs_ : List Value) (h0 : Heap) (n0 : Nat) (v : Option Value) (h : Heap) (L : List Loc) : Prop := (v = some (.int (0 : Int32))) ∧ (Fr n0 L) ∧ (h = h0)
abbrev yM12 : MethodName := ⟨"java/lang/String", "length", "()I"⟩
set_option maxRecDepth 65536 in
set_option maxHeartbeats 40000000 in
theorem rm_len_0 (l : Launch) (Z : State) (a0 : Array Value) (hw : ∀ d ∈ tables_1, d.before a0 Z = true) (ws : List Jvm.Cond) (z_CS : Int32) (v_FMT : Value) (x_ : Addr) (ba_ : Addr) (kb_ : ClassId) (vs_ : List Value) (h0 : Heap) (n0 : Nat) (SB : own_Start Z z_CS v_FMT) (O0 : Old Z n0 h0) (pr0 : Exa Z h0 x_ "java/lang/String") (pr1 : Fld Z h0 x_ "java/lang/String" "coder" "B" (.int (0 : Int32))) (pr2 : Fld Z h0 x_ "java/lang/String" "value" "[B" (.ref ba_)) (pr3 : Arv Z h0 ba_ kb_ .byte (0 : Int32) vs_ (.int 0)) :
    oMet l Z yM12 jdk_42_method_54_code 1 (some .int) ws ({ frames := 1, cells := 0, slots := 0, locals := 13 } : Room) 0 0 #[(.ref x_)] h0 (own_Q_len_0 Z z_CS v_FMT x_ ba_ kb_ vs_ h0 n0) := by
  refine oenter own_pn2 #[.val (.ref x_)] (fun m => by first | (simp [entryFrame, mkF, argsToLocals, Value.category]; done) | rfl) ?_
  intro p e s m below meth c s₁ X0 hx hZ hby hml hret hown0 hnm hlk e0
  have hown : s.vm.findClass "java/lang/String" = some m.cls := hown0
  have N0 := Fr.nil n0
  obtain ⟨S_CS, H_CS, S__assertionsDisabled, S_HI_BYTE_SHIFT, S_LO_BYTE_SHIFT, S_FMT, R_FMT⟩ := (id SB)
  have w7 := hw _ (List.mem_of_getElem? (i := 7) rfl)
  have w25 := hw _ (List.mem_of_getElem? (i := 25) rfl)
  have w32 := hw _ (List.mem_of_getElem? (i := 32) rfl)
  have w33 := hw _ (List.mem_of_getElem? (i := 33) rfl)
  have w34 := hw _ (List.mem_of_getElem? (i := 34) rfl)
  have w35 := hw _ (List.mem_of_getElem? (i := 35) rfl)
  have w36 := hw _ (List.mem_of_getElem? (i := 36) rfl)
  refine o_aloadN X0 hx (hb hby d13_0) rfl rfl ?_
  obtain ⟨T1, X1, e1, st1⟩ := getF X0 hx hZ hown (host := "") (Or.inl w25) Via.refl e0 pr2 (g := (mkF m 1 #[.val (.ref x_)] [(.ref x_)])) rfl rfl (hb hby d13_1)
  refine ogo (S' := T1.setTop (mkF m 4 #[.val (.ref x_)] [(.ref ba_)])) st1 ?_
  obtain ⟨cl2, Ar2, -, S2, N2z, -, -⟩ := (id pr3)
  refine ogo (S' := T1.setTop (mkF m 5 #[.val (.ref x_)] [(.int (0 : Int32))])) (fun _ kt_ => X1.arraylength hx (by rw [e1]; exact Ar2.1) (State.isArrayOf_alike hZ.alike Ar2.2.1) (g := (mkF m 4 #[.val (.ref x_)] [(.ref ba_)])) rfl rfl (hb hby d13_4) _ (by rw [len_of S2 N2z]; exact kt_)) ?_
  refine o_aloadN X1 hx (hb hby d13_5) rfl rfl ?_
  obtain ⟨cq3, kq3, q3a, q3b, q3c⟩ := isOf hZ e1 pr0
  obtain ⟨_, _, ⟨T3, L3, kc3, n3⟩, -, X3, ⟨Lc3, hQ3, l3, y3, z3⟩, st3⟩ := X1.virtualBack hx (y := yM11) (z := yM11) hown (mvT hZ w32) (mvT hZ w33) (notFace_of_selects (args := #[]) (mvT hZ w35)) (mvT hZ w35) (mvT hZ w34) (by decide) (backOf (W := 1) (rm_coder l Z a0 hw [] z_CS v_FMT x_ h0 n0 SB O0 pr1) hZ w36 w7 (by decide) (by decide)) q3a q3c (g := (mkF m 6 #[.val (.ref x_)] [(.ref x_), (.int (0 : Int32))])) rfl (by rw [hml]; rfl) (Steps.refl _) (argsL := []) (rest := [(.int (0 : Int32))]) (lenOf own_pd8 rfl) rfl (by show 2 * 0 + _ ≤ _; exact Nat.le_of_eq rfl) (hb hby d13_6) (fun _ _ => ⟨rfl, e1, (by decide : 0 + 0 ≤ _), (by decide : 0 + 0 ≤ _)⟩)
  dsimp only [Pt.U, Pt.locs, Pt.cells, Pt.slots] at X3 l3 y3 z3 st3 hQ3
  subst l3 y3 z3
  obtain ⟨rfl, Nq3, e3⟩ := hQ3
  have N3 := Fr.app N0 Nq3
  refine otr (S' := T3.setTop (mkF m 9 #[.val (.ref x_)] [(.int (0 : Int32)), (.int (0 : Int32))])) st3 ?_
  refine o_ishr X3 hx (hb hby d13_9) ?_
  refine oend X3 hlk (v := some (.int (0 : Int32))) (fun h => by rw [hret] at h; cases h) (fun fs hr => retOut X3 hx (t := .int) (i := .ireturn) hret rfl (Or.inl ⟨rfl, Or.inl rfl, _, rfl⟩) (hb hby d13_10) hr) (by decide) (by decide) ?_
  show own_Q_len_0 Z _ _ _ _ _ _ h0 n0 _ T3.heap _
  rw [e3]
  exact ⟨rfl, N3, rfl⟩
theorem own_pd9 : parseMethodDescriptor "()I" = some ⟨[], some .int⟩ := by decide +kernel
theorem d14_0 : decode prog_8_method_4_code 0 = .ok (.aload_n 0, 1) := by decide +kernel
theorem d14_1 : decode prog_8_method_4_code 1 = .ok (.getfield 25, 3) := by decide +kernel
theorem d14_4 : decode prog_8_method_4_code 4 = .ok (.aload_n 0, 1) := by decide +kernel
theorem d14_5 : decode prog_8_method_4_code 5 = .ok (.getfield 7, 3) := by decide +kernel
theorem d14_8 : decode prog_8_method_4_code 8 = .ok (.invokevirtual 29, 3) := by decide +kernel
theorem d14_11 : decode prog_8_method_4_code 11 = .ok (.if_icmp .ge 22, 3) := by decide +kernel
theorem d14_33 : decode prog_8_method_4_code 33 = .ok (.iconst 0, 1) := by decide +kernel
theorem d14_34 : decode prog_8_method_4_code 34 = .ok (.istore_n 2, 1) := by decide +kernel
theorem d14_35 : decode prog_8_method_4_code 35 = .ok (.iload_n 2, 1) := by decide +kernel
theorem d14_36 : decode prog_8_method_4_code 36 = .ok (.ifCond .eq 13, 3) := by decide +kernel
theorem d14_49 : decode prog_8_method_4_code 49 = .ok (.iload_n 2, 1) := by decide +kernel
theorem d14_50 : decode prog_8_method_4_code 50 = .ok (.ireturn, 1) := by decide +kernel
def own_Q_skipZ (Z : State) (z_CS : Int32) (v_FMT : Value) (t_ : Addr) (x_ : Addr) (ba_ : Addr) (kb_ : ClassId) (u_ : Int32) (h0 : Heap) (n0 : Nat) (v : Option Value) (h : Heap) (L : List Loc) : Prop := (v = some (.int (0 : Int32))) ∧ (Fr n0 L) ∧ (h = h0)
abbrev yM13 : MethodName := ⟨"com/example/rowfold/rowfold/Literal", "skip", "(C)Z"⟩
set_option maxRecDepth 65536 in
set_option maxHeartbeats 40000000 in
theorem rm_skipZ (l : Launch) (Z : State) (a0 : Array Value) (hw : ∀ d ∈ tables_1, d.before a0 Z = true) (ws : List Jvm.Cond) (z_CS : Int32) (v_FMT : Value) (t_ : Addr) (x_ : Addr) (ba_ : Addr) (kb_ : ClassId) (u_ : Int32) (h0 : Heap) (n0 : Nat) (SB : own_Start Z z_CS v_FMT) (O0 : Old Z n0 h0) (pr0 : Exa Z h0 t_ "com/example/rowfold/rowfold/Literal") (pr1 : Fld Z h0 t_ "com/example/rowfold/rowfold/Literal" "text" "Ljava/lang/String;" (.ref x_)) (pr2 : Fld Z h0 t_ "com/example/rowfold/rowfold/Literal" "at" "I" (.int (0 : Int32))) (pr3 : Exa Z h0 x_ "java/lang/String") (pr4 : Fld Z h0 x_ "java/lang/String" "coder" "B" (.int (0 : Int32))) (pr5 : Fld Z h0 x_ "java/lang/String" "value" "[B" (.ref ba_)) (pr6 : Arv Z h0 ba_ kb_ .byte (0 : Int32) [] (.int 0)) :
    oMet l Z yM13 prog_8_method_4_code 3 (some .boolean) ws ({ frames := 2, cells := 0, slots := 0, locals := 26 } : Room) 0 0 #[(.ref t_), (.int u_)] h0 (own_Q_skipZ Z z_CS v_FMT t_ x_ ba_ kb_ u_ h0 n0) := by
  refine oenter own_pn0 #[.val (.ref t_), .val (.int u_), .unset] (fun m => by first | (simp [entryFrame, mkF, argsToLocals, Value.category]; done) | rfl) ?_
  intro p e s m below meth c s₁ X0 hx hZ hby hml hret hown0 hnm hlk e0
  have hown : s.vm.findClass "com/example/rowfold/rowfold/Literal" = some m.cls := hown0
  have N0 := Fr.nil n0
  obtain ⟨S_CS, H_CS, S__assertionsDisabled, S_HI_BYTE_SHIFT, S_LO_BYTE_SHIFT, S_FMT, R_FMT⟩ := (id SB)
  have w7 := hw _ (List.mem_of_getElem? (i := 7) rfl)
  have w28 := hw _ (List.mem_of_getElem? (i := 28) rfl)
  have w29 := hw _ (List.mem_of_getElem? (i := 29) rfl)
  have w30 := hw _ (List.mem_of_getElem? (i := 30) rfl)
  have w31 := hw _ (List.mem_of_getElem? (i := 31) rfl)
  have w45 := hw _ (List.mem_of_getElem? (i := 45) rfl)
  have w52 := hw _ (List.mem_of_getElem? (i := 52) rfl)
  have w54 := hw _ (List.mem_of_getElem? (i := 54) rfl)
  refine o_aloadN X0 hx (hb hby d14_0) rfl rfl ?_
  obtain ⟨T1, X1, e1, st1⟩ := getF X0 hx hZ hown (host := "") (Or.inl w52) Via.refl e0 pr2 (g := (mkF m 1 #[.val (.ref t_), .val (.int u_), .unset] [(.ref t_)])) rfl rfl (hb hby d14_1)
  refine ogo (S' := T1.setTop (mkF m 4 #[.val (.ref t_), .val (.int u_), .unset] [(.int (0 : Int32))])) st1 ?_
  refine o_aloadN X1 hx (hb hby d14_4) rfl rfl ?_
  obtain ⟨T2, X2, e2, st2⟩ := getF X1 hx hZ hown (host := "") (Or.inl w45) Via.refl e1 pr1 (g := (mkF m 5 #[.val (.ref t_), .val (.int u_), .unset] [(.ref t_), (.int (0 : Int32))])) rfl rfl (hb hby d14_5)
  refine ogo (S' := T2.setTop (mkF m 8 #[.val (.ref t_), .val (.int u_), .unset] [(.ref x_), (.int (0 : Int32))])) st2 ?_
  obtain ⟨cq3, kq3, q3a, q3b, q3c⟩ := isOf hZ e2 pr3
  obtain ⟨_, _, ⟨T3, L3, kc3, n3⟩, -, X3, ⟨Lc3, hQ3, l3, y3, z3⟩, st3⟩ := X2.virtualBack hx (y := yM12) (z := yM12) hown (mvT hZ w54) (mvT hZ w28) (notFace_of_selects (args := #[]) (mvT hZ w30)) (mvT hZ w30) (mvT hZ w29) (by decide) (backOf (W := 1) (rm_len_0 l Z a0 hw [] z_CS v_FMT x_ ba_ kb_ [] h0 n0 SB O0 pr3 pr4 pr5 pr6) hZ w31 w7 (by decide) (by decide)) q3a q3c (g := (mkF m 8 #[.val (.ref t_), .val (.int u_), .unset] [(.ref x_), (.int (0 : Int32))])) rfl (by rw [hml]; rfl) (Steps.refl _) (argsL := []) (rest := [(.int (0 : Int32))]) (lenOf own_pd9 rfl) rfl (by show 2 * 0 + _ ≤ _; exact Nat.le_of_eq rfl) (hb hby d14_8) (fun _ _ => ⟨rfl, e2, (by decide : 0 + 0 ≤ _), (by decide : 0 + 0 ≤ _)⟩)
  dsimp only [Pt.U, Pt.locs, Pt.cells, Pt.slots] at X3 l3 y3 z3 st3 hQ3
  subst l3 y3 z3
  obtain ⟨rfl, Nq3, e3⟩ := hQ3
  have N3 := Fr.app N0 Nq3
  refine otr (S' := T3.setTop (mkF m 11 #[.val (.ref t_), .val (.int u_), .unset] [(.int (0 : Int32)), (.int (0 : Int32))])) st3 ?_
  refine o_icmpYes X3 hx 33 (hb hby d14_11) (flt (by decide : ¬ ((0 : Int32) < (0 : Int32)))).2.1 (by decide) (by decide) ?_
  refine o_iconst X3 hx (0 : Int32) (hb hby d14_33) rfl ?_
  refine o_istoreN X3 hx (l' := #[.val (.ref t_), .val (.int u_), .val (.int (0 : Int32))]) (hb hby d14_34) rfl ?_
  refine o_iloadN X3 hx (hb hby d14_35) rfl ?_
  refine o_ifYes X3 hx 49 (hb hby d14_36) (teq (by decide : (0 : Int32) = (0 : Int32))).1 (by decide) (by decide) ?_
  refine o_iloadN X3 hx (hb hby d14_49) rfl ?_
  refine oend X3 hlk (v := some (.int (0 : Int32))) (fun h => by rw [hret] at h; cases h) (fun fs hr => retN X3 hx (t := .boolean) hret (by simp) (hb hby d14_50) hr) (by decide) (by decide) ?_
  show own_Q_skipZ Z _ _ _ _ _ _ _ h0 n0 _ T3.heap _
  rw [e3]
  exact ⟨rfl, N3, rfl⟩
theorem d15_0 : decode prog_8_method_6_code 0 = .ok (.aload_n 0, 1) := by decide +kernel
theorem d15_1 : decode prog_8_method_6_code 1 = .ok (.getfield 25, 3) := by decide +kernel
theorem d15_4 : decode prog_8_method_6_code 4 = .ok (.aload_n 0, 1) := by decide +kernel
theorem d15_5 : decode prog_8_method_6_code 5 = .ok (.getfield 7, 3) := by decide +kernel
theorem d15_8 : decode prog_8_method_6_code 8 = .ok (.invokevirtual 29, 3) := by decide +kernel
theorem d15_11 : decode prog_8_method_6_code 11 = .ok (.if_icmp .eq 10, 3) := by decide +kernel
theorem d15_21 : decode prog_8_method_6_code 21 = .ok (.return_, 1) := by decide +kernel
def own_Q_expend_0 (Z : State) (z_CS : Int32) (v_FMT : Value) (t_ : Addr) (x_ : Addr) (ba_ : Addr) (kb_ : ClassId) (h0 : Heap) (n0 : Nat) (v : Option Value) (h : Heap) (L : List Loc) : Prop := (v = none) ∧ (Fr n0 L) ∧ (h = h0)
abbrev yM14 : MethodName := ⟨"com/example/rowfold/rowfold/Literal", "expectEnd", "()V"⟩
set_option maxRecDepth 65536 in
set_option maxHeartbeats 40000000 in
theorem rm_expend_0 (l : Launch) (Z : State) (a0 : Array Value) (hw : ∀ d ∈ tables_1, d.before a0 Z = true) (ws : List Jvm.Cond) (z_CS : Int32) (v_FMT : Value) (t_ : Addr) (x_ : Addr) (ba_ : Addr) (kb_ : ClassId) (h0 : Heap) (n0 : Nat) (SB : own_Start Z z_CS v_FMT) (O0 : Old Z n0 h0) (pr0 : Exa Z h0 t_ "com/example/rowfold/rowfold/Literal") (pr1 : Fld Z h0 t_ "com/example/rowfold/rowfold/Literal" "text" "Ljava/lang/String;" (.ref x_)) (pr2 : Fld Z h0 t_ "com/example/rowfold/rowfold/Literal" "at" "I" (.int (0 : Int32))) (pr3 : Exa Z h0 x_ "java/lang/String") (pr4 : Fld Z h0 x_ "java/lang/String" "coder" "B" (.int (0 : Int32))) (pr5 : Fld Z h0 x_ "java/lang/String" "value" "[B" (.ref ba_)) (pr6 : Arv Z h0 ba_ kb_ .byte (0 : Int32) [] (.int 0)) :
    oMet l Z yM14 prog_8_method_6_code 1 none ws ({ frames := 2, cells := 0, slots := 0, locals := 26 } : Room) 0 0 #[(.ref t_)] h0 (own_Q_expend_0 Z z_CS v_FMT t_ x_ ba_ kb_ h0 n0) := by
  refine oenter own_pn0 #[.val (.ref t_)] (fun m => by first | (simp [entryFrame, mkF, argsToLocals, Value.category]; done) | rfl) ?_
  intro p e s m below meth c s₁ X0 hx hZ hby hml hret hown0 hnm hlk e0
  have hown : s.vm.findClass "com/example/rowfold/rowfold/Literal" = some m.cls := hown0
  have N0 := Fr.nil n0
  obtain ⟨S_CS, H_CS, S__assertionsDisabled, S_HI_BYTE_SHIFT, S_LO_BYTE_SHIFT, S_FMT, R_FMT⟩ := (id SB)
  have w7 := hw _ (List.mem_of_getElem? (i := 7) rfl)
  have w28 := hw _ (List.mem_of_getElem? (i := 28) rfl)
  have w29 := hw _ (List.mem_of_getElem? (i := 29) rfl)
  have w30 := hw _ (List.mem_of_getElem? (i := 30) rfl)
  have w31 := hw _ (List.mem_of_getElem? (i := 31) rfl)
  have w45 := hw _ (List.mem_of_getElem? (i := 45) rfl)
  have w52 := hw _ (List.mem_of_getElem? (i := 52) rfl)
  have w54 := hw _ (List.mem_of_getElem? (i := 54) rfl)
  refine o_aloadN X0 hx (hb hby d15_0) rfl rfl ?_
  obtain ⟨T1, X1, e1, st1⟩ := getF X0 hx hZ hown (host := "") (Or.inl w52) Via.refl e0 pr2 (g := (mkF m 1 #[.val (.ref t_)] [(.ref t_)])) rfl rfl (hb hby d15_1)
  refine ogo (S' := T1.setTop (mkF m 4 #[.val (.ref t_)] [(.int (0 : Int32))])) st1 ?_
  refine o_aloadN X1 hx (hb hby d15_4) rfl rfl ?_
  obtain ⟨T2, X2, e2, st2⟩ := getF X1 hx hZ hown (host := "") (Or.inl w45) Via.refl e1 pr1 (g := (mkF m 5 #[.val (.ref t_)] [(.ref t_), (.int (0 : Int32))])) rfl rfl (hb hby d15_5)
  refine ogo (S' := T2.setTop (mkF m 8 #[.val (.ref t_)] [(.ref x_), (.int (0 : Int32))])) st2 ?_
  obtain ⟨cq3, kq3, q3a, q3b, q3c⟩ := isOf hZ e2 pr3
  obtain ⟨_, _, ⟨T3, L3, kc3, n3⟩, -, X3, ⟨Lc3, hQ3, l3, y3, z3⟩, st3⟩ := X2.virtualBack hx (y := yM12) (z := yM12) hown (mvT hZ w54) (mvT hZ w28) (notFace_of_selects (args := #[]) (mvT hZ w30)) (mvT hZ w30) (mvT hZ w29) (by decide) (backOf (W := 1) (rm_len_0 l Z a0 hw [] z_CS v_FMT x_ ba_ kb_ [] h0 n0 SB O0 pr3 pr4 pr5 pr6) hZ w31 w7 (by decide) (by decide)) q3a q3c (g := (mkF m 8 #[.val (.ref t_)] [(.ref x_), (.int (0 : Int32))])) rfl (by rw [hml]; rfl) (Steps.refl _) (argsL := []) (rest := [(.int (0 : Int32))]) (lenOf own_pd9 rfl) rfl (by show 2 * 0 + _ ≤ _; exact Nat.le_of_eq rfl) (hb hby d15_8) (fun _ _ => ⟨rfl, e2, (by decide : 0 + 0 ≤ _), (by decide : 0 + 0 ≤ _)⟩)
  dsimp only [Pt.U, Pt.locs, Pt.cells, Pt.slots] at X3 l3 y3 z3 st3 hQ3
  subst l3 y3 z3
  obtain ⟨rfl, Nq3, e3⟩ := hQ3
  have N3 := Fr.app N0 Nq3
  refine otr (S' := T3.setTop (mkF m 11 #[.val (.ref t_)] [(.int (0 : Int32)), (.int (0 : Int32))])) st3 ?_
  refine o_icmpYes X3 hx 21 (hb hby d15_11) (teq (by decide : (0 : Int32) = (0 : Int32))).1 (by decide) (by decide) ?_
  refine oend X3 hlk (v := none) (fun _ => rfl) (fun fs hr => X3.returnOut hx hret (hb hby d15_21) hr) (by decide) (by decide) ?_
  show own_Q_expend_0 Z _ _ _ _ _ _ h0 n0 _ T3.heap _
  rw [e3]
  exact ⟨rfl, N3, rfl⟩
def own_Q_coder0 (Z : State) (z_CS : Int32) (v_FMT : Value) (x_ : Addr) (h0 : Heap) (n0 : Nat) (v : Option Value) (h : Heap) (L : List Loc) : Prop := (v = some (.int (0 : Int32))) ∧ (Fr n0 L) ∧ (h = h0)
set_option maxRecDepth 65536 in
set_option maxHeartbeats 40000000 in
theorem rm_coder0 (l : Launch) (Z : State) (a0 : Array Value) (hw : ∀ d ∈ tables_1, d.before a0 Z = true) (ws : List Jvm.Cond) (z_CS : Int32) (v_FMT : Value) (x_ : Addr) (h0 : Heap) (n0 : Nat) (SB : own_Start Z z_CS v_FMT) (O0 : Old Z n0 h0) (pr0 : Fld Z h0 x_ "java/lang/String" "coder" "B" (.int (0 : Int32))) :
    oMet l Z yM11 jdk_42_method_152_code 1 (some .byte) ws ({ frames := 0, cells := 0, slots := 0, locals := 0 } : Room) 0 0 #[(.ref x_)] h0 (own_Q_coder0 Z z_CS v_FMT x_ h0 n0) := by
  refine oenter own_pn2 #[.val (.ref x_)] (fun m => by first | (simp [entryFrame, mkF, argsToLocals, Value.category]; done) | rfl) ?_
  intro p e s m below meth c s₁ X0 hx hZ hby hml hret hown0 hnm hlk e0
  have hown : s.vm.findClass "java/lang/String" = some m.cls := hown0
  have N0 := Fr.nil n0
  obtain ⟨S_CS, H_CS, S__assertionsDisabled, S_HI_BYTE_SHIFT, S_LO_BYTE_SHIFT, S_FMT, R_FMT⟩ := (id SB)
  have w26 := hw _ (List.mem_of_getElem? (i := 26) rfl)
  have w37 := hw _ (List.mem_of_getElem? (i := 37) rfl)
  obtain ⟨T1, X1, e1, st1⟩ := getS2 X0 hx hZ hown (host := "") (Or.inl w37) Via.refl e0 (Sta.ext O0.2 S_CS) (g := (mkF m 0 #[.val (.ref x_)] [])) rfl (hb hby d12_0)
  refine ogo (S' := T1.setTop (mkF m 3 #[.val (.ref x_)] [(.int z_CS)])) st1 ?_
  refine o_ifNo X1 hx (hb hby d12_3) (feq H_CS).1 ?_
  refine o_aloadN X1 hx (hb hby d12_6) rfl rfl ?_
  obtain ⟨T2, X2, e2, st2⟩ := getF X1 hx hZ hown (host := "") (Or.inl w26) Via.refl e1 pr0 (g := (mkF m 7 #[.val (.ref x_)] [(.ref x_)])) rfl rfl (hb hby d12_7)
  refine ogo (S' := T2.setTop (mkF m 10 #[.val (.ref x_)] [(.int (0 : Int32))])) st2 ?_
  refine o_goto X2 hx 14 (hb hby d12_10) (by decide) (by decide) ?_
  refine oend X2 hlk (v := some (.int (0 : Int32))) (fun h => by rw [hret] at h; cases h) (fun fs hr => retN X2 hx (t := .byte) hret (by simp) (hb hby d12_14) hr) (by decide) (by decide) ?_
  show own_Q_coder0 Z _ _ _ h0 n0 _ T2.heap _
  rw [e2]
  exact ⟨rfl, N0, rfl⟩
def own_Q_coder1 (Z : State) (z_CS : Int32) (v_FMT : Value) (x_ : Addr) (h0 : Heap) (n0 : Nat) (v : Option Value) (h : Heap) (L : List Loc) : Prop := (v = some (.int (1 : Int32))) ∧ (Fr n0 L) ∧ (h = h0)
set_option maxRecDepth 65536 in
set_option maxHeartbeats 40000000 in
theorem rm_coder1 (l : Launch) (Z : State) (a0 : Array Value) (hw : ∀ d ∈ tables_1, d.before a0 Z = true) (ws : List Jvm.Cond) (z_CS : Int32) (v_FMT : Value) (x_ : Addr) (h0 : Heap) (n0 : Nat) (SB : own_Start Z z_CS v_FMT) (O0 : Old Z n0 h0) (pr0 : Fld Z h0 x_ "java/lang/String" "coder" "B" (.int (1 : Int32))) :
    oMet l Z yM11 jdk_42_method_152_code 1 (some .byte) ws ({ frames := 0, cells := 0, slots := 0, locals := 0 } : Room) 0 0 #[(.ref x_)] h0 (own_Q_coder1 Z z_CS v_FMT x_ h0 n0) := by
  refine oenter own_pn2 #[.val (.ref x_)] (fun m => by first | (simp [entryFrame, mkF, argsToLocals, Value.category]; done) | rfl) ?_
  intro p e s m below meth c s₁ X0 hx hZ hby hml hret hown0 hnm hlk e0
  have hown : s.vm.findClass "java/lang/String" = some m.cls := hown0
  have N0 := Fr.nil n0
  obtain ⟨S_CS, H_CS, S__assertionsDisabled, S_HI_BYTE_SHIFT, S_LO_BYTE_SHIFT, S_FMT, R_FMT⟩ := (id SB)
  have w26 := hw _ (List.mem_of_getElem? (i := 26) rfl)
  have w37 := hw _ (List.mem_of_getElem? (i := 37) rfl)
  obtain ⟨T1, X1, e1, st1⟩ := getS2 X0 hx hZ hown (host := "") (Or.inl w37) Via.refl e0 (Sta.ext O0.2 S_CS) (g := (mkF m 0 #[.val (.ref x_)] [])) rfl (hb hby d12_0)
  refine ogo (S' := T1.setTop (mkF m 3 #[.val (.ref x_)] [(.int z_CS)])) st1 ?_
  refine o_ifNo X1 hx (hb hby d12_3) (feq H_CS).1 ?_
  refine o_aloadN X1 hx (hb hby d12_6) rfl rfl ?_
  obtain ⟨T2, X2, e2, st2⟩ := getF X1 hx hZ hown (host := "") (Or.inl w26) Via.refl e1 pr0 (g := (mkF m 7 #[.val (.ref x_)] [(.ref x_)])) rfl rfl (hb hby d12_7)
  refine ogo (S' := T2.setTop (mkF m 10 #[.val (.ref x_)] [(.int (1 : Int32))])) st2 ?_
  refine o_goto X2 hx 14 (hb hby d12_10) (by decide) (by decide) ?_
  refine oend X2 hlk (v := some (.int (1 : Int32))) (fun h => by rw [hret] at h; cases h) (fun fs hr => retN X2 hx (t := .byte) hret (by simp) (hb hby d12_14) hr) (by decide) (by decide) ?_
  show own_Q_coder1 Z _ _ _ h0 n0 _ T2.heap _
  rw [e2]
  exact ⟨rfl, N0, rfl⟩
def own_Q_elen_1 (Z : State) (z_CS : Int32) (v_FMT : Value) (x_ : Addr) (ba_ : Addr) (kb_ : ClassId) (cd_ : Int32) (z_ : Int32) (vs_ : List Value) (c0_ : Int32) (h0 : Heap) (n0 : Nat) (v : Option Value) (h : Heap) (L : List Loc) : Prop := (v = some (.int (1 : Int32))) ∧ (Fr n0 L) ∧ (h = h0)
set_option maxRecDepth 65536 in
set_option maxHeartbeats 40000000 in
theorem rm_elen_1 (l : Launch) (Z : State) (a0 : Array Value) (hw : ∀ d ∈ tables_1, d.before a0 Z = true) (ws : List Jvm.Cond) (z_CS : Int32) (v_FMT : Value) (x_ : Addr) (ba_ : Addr) (kb_ : ClassId) (cd_ : Int32) (z_ : Int32) (vs_ : List Value) (c0_ : Int32) (h0 : Heap) (n0 : Nat) (SB : own_Start Z z_CS v_FMT) (O0 : Old Z n0 h0) (pr0 : Exa Z h0 x_ "java/lang/String") (pr1 : Fld Z h0 x_ "java/lang/String" "coder" "B" (.int cd_)) (pr2 : Fld Z h0 x_ "java/lang/String" "value" "[B" (.ref ba_)) (pr3 : Arv Z h0 ba_ kb_ .byte z_ vs_ (.int 0)) (pr4 : own_enc1 c0_ cd_ z_ vs_) :
    oMet l Z yM12 jdk_42_method_54_code 1 (some .int) ws ({ frames := 1, cells := 0, slots := 0, locals := 13 } : Room) 0 0 #[(.ref x_)] h0 (own_Q_elen_1 Z z_CS v_FMT x_ ba_ kb_ cd_ z_ vs_ c0_ h0 n0) := by
  refine oenter own_pn2 #[.val (.ref x_)] (fun m => by first | (simp [entryFrame, mkF, argsToLocals, Value.category]; done) | rfl) ?_
  intro p e s m below meth c s₁ X0 hx hZ hby hml hret hown0 hnm hlk e0
  have hown : s.vm.findClass "java/lang/String" = some m.cls := hown0
  have N0 := Fr.nil n0
  obtain ⟨S_CS, H_CS, S__assertionsDisabled, S_HI_BYTE_SHIFT, S_LO_BYTE_SHIFT, S_FMT, R_FMT⟩ := (id SB)
  have w7 := hw _ (List.mem_of_getElem? (i := 7) rfl)
  have w25 := hw _ (List.mem_of_getElem? (i := 25) rfl)
  have w32 := hw _ (List.mem_of_getElem? (i := 32) rfl)
  have w33 := hw _ (List.mem_of_getElem? (i := 33) rfl)
  have w34 := hw _ (List.mem_of_getElem? (i := 34) rfl)
  have w35 := hw _ (List.mem_of_getElem? (i := 35) rfl)
  have w36 := hw _ (List.mem_of_getElem? (i := 36) rfl)
  rcases pr4 with ⟨hs0, rfl, rfl, rfl⟩ | ⟨rfl, rfl, rfl⟩
  · refine o_aloadN X0 hx (hb hby d13_0) rfl rfl ?_
    obtain ⟨T1, X1, e1, st1⟩ := getF X0 hx hZ hown (host := "") (Or.inl w25) Via.refl e0 pr2 (g := (mkF m 1 #[.val (.ref x_)] [(.ref x_)])) rfl rfl (hb hby d13_1)
    refine ogo (S' := T1.setTop (mkF m 4 #[.val (.ref x_)] [(.ref ba_)])) st1 ?_
    obtain ⟨cl2, Ar2, -, S2, N2z, -, -⟩ := (id pr3)
    refine ogo (S' := T1.setTop (mkF m 5 #[.val (.ref x_)] [(.int (1 : Int32))])) (fun _ kt_ => X1.arraylength hx (by rw [e1]; exact Ar2.1) (State.isArrayOf_alike hZ.alike Ar2.2.1) (g := (mkF m 4 #[.val (.ref x_)] [(.ref ba_)])) rfl rfl (hb hby d13_4) _ (by rw [len_of S2 N2z]; exact kt_)) ?_
    refine o_aloadN X1 hx (hb hby d13_5) rfl rfl ?_
    obtain ⟨cq3, kq3, q3a, q3b, q3c⟩ := isOf hZ e1 pr0
    obtain ⟨_, _, ⟨T3, L3, kc3, n3⟩, -, X3, ⟨Lc3, hQ3, l3, y3, z3⟩, st3⟩ := X1.virtualBack hx (y := yM11) (z := yM11) hown (mvT hZ w32) (mvT hZ w33) (notFace_of_selects (args := #[]) (mvT hZ w35)) (mvT hZ w35) (mvT hZ w34) (by decide) (backOf (W := 1) (rm_coder0 l Z a0 hw [] z_CS v_FMT x_ h0 n0 SB O0 pr1) hZ w36 w7 (by decide) (by decide)) q3a q3c (g := (mkF m 6 #[.val (.ref x_)] [(.ref x_), (.int (1 : Int32))])) rfl (by rw [hml]; rfl) (Steps.refl _) (argsL := []) (rest := [(.int (1 : Int32))]) (lenOf own_pd8 rfl) rfl (by show 2 * 0 + _ ≤ _; exact Nat.le_of_eq rfl) (hb hby d13_6) (fun _ _ => ⟨rfl, e1, (by decide : 0 + 0 ≤ _), (by decide : 0 + 0 ≤ _)⟩)
    dsimp only [Pt.U, Pt.locs, Pt.cells, Pt.slots] at X3 l3 y3 z3 st3 hQ3
    subst l3 y3 z3
    obtain ⟨rfl, Nq3, e3⟩ := hQ3
    have N3 := Fr.app N0 Nq3
    refine otr (S' := T3.setTop (mkF m 9 #[.val (.ref x_)] [(.int (0 : Int32)), (.int (1 : Int32))])) st3 ?_
    refine o_ishr X3 hx (hb hby d13_9) ?_
    refine oend X3 hlk (v := some (.int (1 : Int32))) (fun h => by rw [hret] at h; cases h) (fun fs hr => retOut X3 hx (t := .int) (i := .ireturn) hret rfl (Or.inl ⟨rfl, Or.inl rfl, _, rfl⟩) (hb hby d13_10) hr) (by decide) (by decide) ?_
    show own_Q_elen_1 Z _ _ _ _ _ _ _ _ _ h0 n0 _ T3.heap _
    rw [e3]
    exact ⟨rfl, N3, rfl⟩
  · refine o_aloadN X0 hx (hb hby d13_0) rfl rfl ?_
    obtain ⟨T4, X4, e4, st4⟩ := getF X0 hx hZ hown (host := "") (Or.inl w25) Via.refl e0 pr2 (g := (mkF m 1 #[.val (.ref x_)] [(.ref x_)])) rfl rfl (hb hby d13_1)
    refine ogo (S' := T4.setTop (mkF m 4 #[.val (.ref x_)] [(.ref ba_)])) st4 ?_
    obtain ⟨cl5, Ar5, -, S5, N5z, -, -⟩ := (id pr3)
    refine ogo (S' := T4.setTop (mkF m 5 #[.val (.ref x_)] [(.int (2 : Int32))])) (fun _ kt_ => X4.arraylength hx (by rw [e4]; exact Ar5.1) (State.isArrayOf_alike hZ.alike Ar5.2.1) (g := (mkF m 4 #[.val (.ref x_)] [(.ref ba_)])) rfl rfl (hb hby d13_4) _ (by rw [len_of S5 N5z]; exact kt_)) ?_
    refine o_aloadN X4 hx (hb hby d13_5) rfl rfl ?_
    obtain ⟨cq6, kq6, q6a, q6b, q6c⟩ := isOf hZ e4 pr0
    obtain ⟨_, _, ⟨T6, L6, kc6, n6⟩, -, X6, ⟨Lc6, hQ6, l6, y6, z6⟩, st6⟩ := X4.virtualBack hx (y := yM11) (z := yM11) hown (mvT hZ w32) (mvT hZ w33) (notFace_of_selects (args := #[]) (mvT hZ w35)) (mvT hZ w35) (mvT hZ w34) (by decide) (backOf (W := 1) (rm_coder1 l Z a0 hw [] z_CS v_FMT x_ h0 n0 SB O0 pr1) hZ w36 w7 (by decide) (by decide)) q6a q6c (g := (mkF m 6 #[.val (.ref x_)] [(.ref x_), (.int (2 : Int32))])) rfl (by rw [hml]; rfl) (Steps.refl _) (argsL := []) (rest := [(.int (2 : Int32))]) (lenOf own_pd8 rfl) rfl (by show 2 * 0 + _ ≤ _; exact Nat.le_of_eq rfl) (hb hby d13_6) (fun _ _ => ⟨rfl, e4, (by decide : 0 + 0 ≤ _), (by decide : 0 + 0 ≤ _)⟩)
    dsimp only [Pt.U, Pt.locs, Pt.cells, Pt.slots] at X6 l6 y6 z6 st6 hQ6
    subst l6 y6 z6
    obtain ⟨rfl, Nq6, e6⟩ := hQ6
    have N6 := Fr.app N0 Nq6
    refine otr (S' := T6.setTop (mkF m 9 #[.val (.ref x_)] [(.int (1 : Int32)), (.int (2 : Int32))])) st6 ?_
    refine o_ishr X6 hx (hb hby d13_9) ?_
    refine oend X6 hlk (v := some (.int (1 : Int32))) (fun h => by rw [hret] at h; cases h) (fun fs hr => retOut X6 hx (t := .int) (i := .ireturn) hret rfl (Or.inl ⟨rfl, Or.inl rfl, _, rfl⟩) (hb hby d13_10) hr) (by decide) (by decide) ?_
    show own_Q_elen_1 Z _ _ _ _ _ _ _ _ _ h0 n0 _ T6.heap _
    rw [e6]
    exact ⟨rfl, N6, rfl⟩
def own_Q_expend_1 (Z : State) (z_CS : Int32) (v_FMT : Value) (t_ : Addr) (x_ : Addr) (ba_ : Addr) (kb_ : ClassId) (cd_ : Int32) (z_ : Int32) (vs_ : List Value) (c0_ : Int32) (h0 : Heap) (n0 : Nat) (v : Option Value) (h : Heap) (L : List Loc) : Prop := (v = none) ∧ (Fr n0 L) ∧ (h = h0)
set_option maxRecDepth 65536 in
set_option maxHeartbeats 40000000 in
theorem rm_expend_1 (l : Launch) (Z : State) (a0 : Array Value) (hw : ∀ d ∈ tables_1, d.before a0 Z = true) (ws : List Jvm.Cond) (z_CS : Int32) (v_FMT : Value) (t_ : Addr) (x_ : Addr) (ba_ : Addr) (kb_ : ClassId) (cd_ : Int32) (z_ : Int32) (vs_ : List Value) (c0_ : Int32) (h0 : Heap) (n0 : Nat) (SB : own_Start Z z_CS v_FMT) (O0 : Old Z n0 h0) (pr0 : Exa Z h0 t_ "com/example/rowfold/rowfold/Literal") (pr1 : Fld Z h0 t_ "com/example/rowfold/rowfold/Literal" "text" "Ljava/lang/String;" (.ref x_)) (pr2 : Fld Z h0 t_ "com/example/rowfold/rowfold/Literal" "at" "I" (.int (1 : Int32))) (pr3 : Exa Z h0 x_ "java/lang/String") (pr4 : Fld Z h0 x_ "java/lang/String" "coder" "B" (.int cd_)) (pr5 : Fld Z h0 x_ "java/lang/String" "value" "[B" (.ref ba_)) (pr6 : Arv Z h0 ba_ kb_ .byte z_ vs_ (.int 0)) (pr7 : own_enc1 c0_ cd_ z_ vs_) :
    oMet l Z yM14 prog_8_method_6_code 1 none ws ({ frames := 2, cells := 0, slots := 0, locals := 26 } : Room) 0 0 #[(.ref t_)] h0 (own_Q_expend_1 Z z_CS v_FMT t_ x_ ba_ kb_ cd_ z_ vs_ c0_ h0 n0) := by
  refine oenter own_pn0 #[.val (.ref t_)] (fun m => by first | (simp [entryFrame, mkF, argsToLocals, Value.category]; done) | rfl) ?_
  intro p e s m below meth c s₁ X0 hx hZ hby hml hret hown0 hnm hlk e0
  have hown : s.vm.findClass "com/example/rowfold/rowfold/Literal" = some m.cls := hown0
  have N0 := Fr.nil n0
  obtain ⟨S_CS, H_CS, S__assertionsDisabled, S_HI_BYTE_SHIFT, S_LO_BYTE_SHIFT, S_FMT, R_FMT⟩ := (id SB)
  have w7 := hw _ (List.mem_of_getElem? (i := 7) rfl)
  have w28 := hw _ (List.mem_of_getElem? (i := 28) rfl)
  have w29 := hw _ (List.mem_of_getElem? (i := 29) rfl)
  have w30 := hw _ (List.mem_of_getElem? (i := 30) rfl)
  have w31 := hw _ (List.mem_of_getElem? (i := 31) rfl)
  have w45 := hw _ (List.mem_of_getElem? (i := 45) rfl)
  have w52 := hw _ (List.mem_of_getElem? (i := 52) rfl)
  have w54 := hw _ (List.mem_of_getElem? (i := 54) rfl)
  refine o_aloadN X0 hx (hb hby d15_0) rfl rfl ?_
  obtain ⟨T1, X1, e1, st1⟩ := getF X0 hx hZ hown (host := "") (Or.inl w52) Via.refl e0 pr2 (g := (mkF m 1 #[.val (.ref t_)] [(.ref t_)])) rfl rfl (hb hby d15_1)
  refine ogo (S' := T1.setTop (mkF m 4 #[.val (.ref t_)] [(.int (1 : Int32))])) st1 ?_
  refine o_aloadN X1 hx (hb hby d15_4) rfl rfl ?_
  obtain ⟨T2, X2, e2, st2⟩ := getF X1 hx hZ hown (host := "") (Or.inl w45) Via.refl e1 pr1 (g := (mkF m 5 #[.val (.ref t_)] [(.ref t_), (.int (1 : Int32))])) rfl rfl (hb hby d15_5)
  refine ogo (S' := T2.setTop (mkF m 8 #[.val (.ref t_)] [(.ref x_), (.int (1 : Int32))])) st2 ?_
  obtain ⟨cq3, kq3, q3a, q3b, q3c⟩ := isOf hZ e2 pr3
  obtain ⟨_, _, ⟨T3, L3, kc3, n3⟩, -, X3, ⟨Lc3, hQ3, l3, y3, z3⟩, st3⟩ := X2.virtualBack hx (y := yM12) (z := yM12) hown (mvT hZ w54) (mvT hZ w28) (notFace_of_selects (args := #[]) (mvT hZ w30)) (mvT hZ w30) (mvT hZ w29) (by decide) (backOf (W := 1) (rm_elen_1 l Z a0 hw [] z_CS v_FMT x_ ba_ kb_ cd_ z_ vs_ c0_ h0 n0 SB O0 pr3 pr4 pr5 pr6 pr7) hZ w31 w7 (by decide) (by decide)) q3a q3c (g := (mkF m 8 #[.val (.ref t_)] [(.ref x_), (.int (1 : Int32))])) rfl (by rw [hml]; rfl) (Steps.refl _) (argsL := []) (rest := [(.int (1 : Int32))]) (lenOf own_pd9 rfl) rfl (by show 2 * 0 + _ ≤ _; exact Nat.le_of_eq rfl) (hb hby d15_8) (fun _ _ => ⟨rfl, e2, (by decide : 0 + 0 ≤ _), (by decide : 0 + 0 ≤ _)⟩)
  dsimp only [Pt.U, Pt.locs, Pt.cells, Pt.slots] at X3 l3 y3 z3 st3 hQ3
  subst l3 y3 z3
  obtain ⟨rfl, Nq3, e3⟩ := hQ3
  have N3 := Fr.app N0 Nq3
  refine otr (S' := T3.setTop (mkF m 11 #[.val (.ref t_)] [(.int (1 : Int32)), (.int (1 : Int32))])) st3 ?_
  refine o_icmpYes X3 hx 21 (hb hby d15_11) (teq (by decide : (1 : Int32) = (1 : Int32))).1 (by decide) (by decide) ?_
  refine oend X3 hlk (v := none) (fun _ => rfl) (fun fs hr => X3.returnOut hx hret (hb hby d15_21) hr) (by decide) (by decide) ?_
  show own_Q_expend_1 Z _ _ _ _ _ _ _ _ _ _ h0 n0 _ T3.heap _
  rw [e3]
  exact ⟨rfl, N3, rfl⟩
def own_Q_elen_2 (Z : State) (z_CS : Int32) (v_FMT : Value) (x_ : Addr) (ba_ : Addr) (kb_ : ClassId) (cd_ : Int32) (z_ : Int32) (vs_ : List Value) (c0_ : Int32) (c1_ : Int32) (h0 : Heap) (n0 : Nat) (v : Option Value) (h : Heap) (L : List Loc) : Prop := (v = some (.int (2 : Int32))) ∧ (Fr n0 L) ∧ (h = h0)
set_option maxRecDepth 65536 in
set_option maxHeartbeats 40000000 in
theorem rm_elen_2 (l : Launch) (Z : State) (a0 : Array Value) (hw : ∀ d ∈ tables_1, d.before a0 Z = true) (ws : List Jvm.Cond) (z_CS : Int32) (v_FMT : Value) (x_ : Addr) (ba_ : Addr) (kb_ : ClassId) (cd_ : Int32) (z_ : Int32) (vs_ : List Value) (c0_ : Int32) (c1_ : Int32) (h0 : Heap) (n0 : Nat) (SB : own_Start Z z_CS v_FMT) (O0 : Old Z n0 h0) (pr0 : Exa Z h0 x_ "java/lang/String") (pr1 : Fld Z h0 x_ "java/lang/String" "coder" "B" (.int cd_)) (pr2 : Fld Z h0 x_ "java/lang/String" "value" "[B" (.ref ba_)) (pr3 : Arv Z h0 ba_ kb_ .byte z_ vs_ (.int 0)) (pr4 : own_enc2 c0_ c1_ cd_ z_ vs_) :
    oMet l Z yM12 jdk_42_method_54_code 1 (some .int) ws ({ frames := 1, cells := 0, slots := 0, locals := 13 } : Room) 0 0 #[(.ref x_)] h0 (own_Q_elen_2 Z z_CS v_FMT x_ ba_ kb_ cd_ z_ vs_ c0_ c1_ h0 n0) := by
  refine oenter own_pn2 #[.val (.ref x_)] (fun m => by first | (simp [entryFrame, mkF, argsToLocals, Value.category]; done) | rfl) ?_
  intro p e s m below meth c s₁ X0 hx hZ hby hml hret hown0 hnm hlk e0
  have hown : s.vm.findClass "java/lang/String" = some m.cls := hown0
  have N0 := Fr.nil n0
  obtain ⟨S_CS, H_CS, S__assertionsDisabled, S_HI_BYTE_SHIFT, S_LO_BYTE_SHIFT, S_FMT, R_FMT⟩ := (id SB)
  have w7 := hw _ (List.mem_of_getElem? (i := 7) rfl)
  have w25 := hw _ (List.mem_of_getElem? (i := 25) rfl)
  have w32 := hw _ (List.mem_of_getElem? (i := 32) rfl)
  have w33 := hw _ (List.mem_of_getElem? (i := 33) rfl)
  have w34 := hw _ (List.mem_of_getElem? (i := 34) rfl)
  have w35 := hw _ (List.mem_of_getElem? (i := 35) rfl)
  have w36 := hw _ (List.mem_of_getElem? (i := 36) rfl)
  rcases pr4 with ⟨hs0, hs1, rfl, rfl, rfl⟩ | ⟨rfl, rfl, rfl⟩
  · refine o_aloadN X0 hx (hb hby d13_0) rfl rfl ?_
    obtain ⟨T1, X1, e1, st1⟩ := getF X0 hx hZ hown (host := "") (Or.inl w25) Via.refl e0 pr2 (g := (mkF m 1 #[.val (.ref x_)] [(.ref x_)])) rfl rfl (hb hby d13_1)
    refine ogo (S' := T1.setTop (mkF m 4 #[.val (.ref x_)] [(.ref ba_)])) st1 ?_
    obtain ⟨cl2, Ar2, -, S2, N2z, -, -⟩ := (id pr3)
    refine ogo (S' := T1.setTop (mkF m 5 #[.val (.ref x_)] [(.int (2 : Int32))])) (fun _ kt_ => X1.arraylength hx (by rw [e1]; exact Ar2.1) (State.isArrayOf_alike hZ.alike Ar2.2.1) (g := (mkF m 4 #[.val (.ref x_)] [(.ref ba_)])) rfl rfl (hb hby d13_4) _ (by rw [len_of S2 N2z]; exact kt_)) ?_
    refine o_aloadN X1 hx (hb hby d13_5) rfl rfl ?_
    obtain ⟨cq3, kq3, q3a, q3b, q3c⟩ := isOf hZ e1 pr0
    obtain ⟨_, _, ⟨T3, L3, kc3, n3⟩, -, X3, ⟨Lc3, hQ3, l3, y3, z3⟩, st3⟩ := X1.virtualBack hx (y := yM11) (z := yM11) hown (mvT hZ w32) (mvT hZ w33) (notFace_of_selects (args := #[]) (mvT hZ w35)) (mvT hZ w35) (mvT hZ w34) (by decide) (backOf (W := 1) (rm_coder0 l Z a0 hw [] z_CS v_FMT x_ h0 n0 SB O0 pr1) hZ w36 w7 (by decide) (by decide)) q3a q3c (g := (mkF m 6 #[.val (.ref x_)] [(.ref x_), (.int (2 : Int32))])) rfl (by rw [hml]; rfl) (Steps.refl _) (argsL := []) (rest := [(.int (2 : Int32))]) (lenOf own_pd8 rfl) rfl (by show 2 * 0 + _ ≤ _; exact Nat.le_of_eq rfl) (hb hby d13_6) (fun _ _ => ⟨rfl, e1, (by decide : 0 + 0 ≤ _), (by decide : 0 + 0 ≤ _)⟩)
    dsimp only [Pt.U, Pt.locs, Pt.cells, Pt.slots] at X3 l3 y3 z3 st3 hQ3
    subst l3 y3 z3
    obtain ⟨rfl, Nq3, e3⟩ := hQ3
    have N3 := Fr.app N0 Nq3
    refine otr (S' := T3.setTop (mkF m 9 #[.val (.ref x_)] [(.int (0 : Int32)), (.int (2 : Int32))])) st3 ?_
    refine o_ishr X3 hx (hb hby d13_9) ?_
    refine oend X3 hlk (v := some (.int (2 : Int32))) (fun h => by rw [hret] at h; cases h) (fun fs hr => retOut X3 hx (t := .int) (i := .ireturn) hret rfl (Or.inl ⟨rfl, Or.inl rfl, _, rfl⟩) (hb hby d13_10) hr) (by decide) (by decide) ?_
    show own_Q_elen_2 Z _ _ _ _ _ _ _ _ _ _ h0 n0 _ T3.heap _
    rw [e3]
    exact ⟨rfl, N3, rfl⟩
  · refine o_aloadN X0 hx (hb hby d13_0) rfl rfl ?_
    obtain ⟨T4, X4, e4, st4⟩ := getF X0 hx hZ hown (host := "") (Or.inl w25) Via.refl e0 pr2 (g := (mkF m 1 #[.val (.ref x_)] [(.ref x_)])) rfl rfl (hb hby d13_1)
    refine ogo (S' := T4.setTop (mkF m 4 #[.val (.ref x_)] [(.ref ba_)])) st4 ?_
    obtain ⟨cl5, Ar5, -, S5, N5z, -, -⟩ := (id pr3)
    refine ogo (S' := T4.setTop (mkF m 5 #[.val (.ref x_)] [(.int (4 : Int32))])) (fun _ kt_ => X4.arraylength hx (by rw [e4]; exact Ar5.1) (State.isArrayOf_alike hZ.alike Ar5.2.1) (g := (mkF m 4 #[.val (.ref x_)] [(.ref ba_)])) rfl rfl (hb hby d13_4) _ (by rw [len_of S5 N5z]; exact kt_)) ?_
    refine o_aloadN X4 hx (hb hby d13_5) rfl rfl ?_
    obtain ⟨cq6, kq6, q6a, q6b, q6c⟩ := isOf hZ e4 pr0
    obtain ⟨_, _, ⟨T6, L6, kc6, n6⟩, -, X6, ⟨Lc6, hQ6, l6, y6, z6⟩, st6⟩ := X4.virtualBack hx (y := yM11) (z := yM11) hown (mvT hZ w32) (mvT hZ w33) (notFace_of_selects (args := #[]) (mvT hZ w35)) (mvT hZ w35) (mvT hZ w34) (by decide) (backOf (W := 1) (rm_coder1 l Z a0 hw [] z_CS v_FMT x_ h0 n0 SB O0 pr1) hZ w36 w7 (by decide) (by decide)) q6a q6c (g := (mkF m 6 #[.val (.ref x_)] [(.ref x_), (.int (4 : Int32))])) rfl (by rw [hml]; rfl) (Steps.refl _) (argsL := []) (rest := [(.int (4 : Int32))]) (lenOf own_pd8 rfl) rfl (by show 2 * 0 + _ ≤ _; exact Nat.le_of_eq rfl) (hb hby d13_6) (fun _ _ => ⟨rfl, e4, (by decide : 0 + 0 ≤ _), (by decide : 0 + 0 ≤ _)⟩)
    dsimp only [Pt.U, Pt.locs, Pt.cells, Pt.slots] at X6 l6 y6 z6 st6 hQ6
    subst l6 y6 z6
    obtain ⟨rfl, Nq6, e6⟩ := hQ6
    have N6 := Fr.app N0 Nq6
    refine otr (S' := T6.setTop (mkF m 9 #[.val (.ref x_)] [(.int (1 : Int32)), (.int (4 : Int32))])) st6 ?_
    refine o_ishr X6 hx (hb hby d13_9) ?_
    refine oend X6 hlk (v := some (.int (2 : Int32))) (fun h => by rw [hret] at h; cases h) (fun fs hr => retOut X6 hx (t := .int) (i := .ireturn) hret rfl (Or.inl ⟨rfl, Or.inl rfl, _, rfl⟩) (hb hby d13_10) hr) (by decide) (by decide) ?_
    show own_Q_elen_2 Z _ _ _ _ _ _ _ _ _ _ h0 n0 _ T6.heap _
    rw [e6]
    exact ⟨rfl, N6, rfl⟩
def own_Q_expend_2 (Z : State) (z_CS : Int32) (v_FMT : Value) (t_ : Addr) (x_ : Addr) (ba_ : Addr) (kb_ : ClassId) (cd_ : Int32) (z_ : Int32) (vs_ : List Value) (c0_ : Int32) (c1_ : Int32) (h0 : Heap) (n0 : Nat) (v : Option Value) (h : Heap) (L : List Loc) : Prop := (v = none) ∧ (Fr n0 L) ∧ (h = h0)
set_option maxRecDepth 65536 in
set_option maxHeartbeats 40000000 in
theorem rm_expend_2 (l : Launch) (Z : State) (a0 : Array Value) (hw : ∀ d ∈ tables_1, d.before a0 Z = true) (ws : List Jvm.Cond) (z_CS : Int32) (v_FMT : Value) (t_ : Addr) (x_ : Addr) (ba_ : Addr) (kb_ : ClassId) (cd_ : Int32) (z_ : Int32) (vs_ : List Value) (c0_ : Int32) (c1_ : Int32) (h0 : Heap) (n0 : Nat) (SB : own_Start Z z_CS v_FMT) (O0 : Old Z n0 h0) (pr0 : Exa Z h0 t_ "com/example/rowfold/rowfold/Literal") (pr1 : Fld Z h0 t_ "com/example/rowfold/rowfold/Literal" "text" "Ljava/lang/String;" (.ref x_)) (pr2 : Fld Z h0 t_ "com/example/rowfold/rowfold/Literal" "at" "I" (.int (2 : Int32))) (pr3 : Exa Z h0 x_ "java/lang/String") (pr4 : Fld Z h0 x_ "java/lang/String" "coder" "B" (.int cd_)) (pr5 : Fld Z h0 x_ "java/lang/String" "value" "[B" (.ref ba_)) (pr6 : Arv Z h0 ba_ kb_ .byte z_ vs_ (.int 0)) (pr7 : own_enc2 c0_ c1_ cd_ z_ vs_) :
    oMet l Z yM14 prog_8_method_6_code 1 none ws ({ frames := 2, cells := 0, slots := 0, locals := 26 } : Room) 0 0 #[(.ref t_)] h0 (own_Q_expend_2 Z z_CS v_FMT t_ x_ ba_ kb_ cd_ z_ vs_ c0_ c1_ h0 n0) := by
  refine oenter own_pn0 #[.val (.ref t_)] (fun m => by first | (simp [entryFrame, mkF, argsToLocals, Value.category]; done) | rfl) ?_
  intro p e s m below meth c s₁ X0 hx hZ hby hml hret hown0 hnm hlk e0
  have hown : s.vm.findClass "com/example/rowfold/rowfold/Literal" = some m.cls := hown0
  have N0 := Fr.nil n0
  obtain ⟨S_CS, H_CS, S__assertionsDisabled, S_HI_BYTE_SHIFT, S_LO_BYTE_SHIFT, S_FMT, R_FMT⟩ := (id SB)
  have w7 := hw _ (List.mem_of_getElem? (i := 7) rfl)
  have w28 := hw _ (List.mem_of_getElem? (i := 28) rfl)
  have w29 := hw _ (List.mem_of_getElem? (i := 29) rfl)
  have w30 := hw _ (List.mem_of_getElem? (i := 30) rfl)
  have w31 := hw _ (List.mem_of_getElem? (i := 31) rfl)
  have w45 := hw _ (List.mem_of_getElem? (i := 45) rfl)
  have w52 := hw _ (List.mem_of_getElem? (i := 52) rfl)
  have w54 := hw _ (List.mem_of_getElem? (i := 54) rfl)
  refine o_aloadN X0 hx (hb hby d15_0) rfl rfl ?_
  obtain ⟨T1, X1, e1, st1⟩ := getF X0 hx hZ hown (host := "") (Or.inl w52) Via.refl e0 pr2 (g := (mkF m 1 #[.val (.ref t_)] [(.ref t_)])) rfl rfl (hb hby d15_1)
  refine ogo (S' := T1.setTop (mkF m 4 #[.val (.ref t_)] [(.int (2 : Int32))])) st1 ?_
  refine o_aloadN X1 hx (hb hby d15_4) rfl rfl ?_
  obtain ⟨T2, X2, e2, st2⟩ := getF X1 hx hZ hown (host := "") (Or.inl w45) Via.refl e1 pr1 (g := (mkF m 5 #[.val (.ref t_)] [(.ref t_), (.int (2 : Int32))])) rfl rfl (hb hby d15_5)
  refine ogo (S' := T2.setTop (mkF m 8 #[.val (.ref t_)] [(.ref x_), (.int (2 : Int32))])) st2 ?_
  obtain ⟨cq3, kq3, q3a, q3b, q3c⟩ := isOf hZ e2 pr3
  obtain ⟨_, _, ⟨T3, L3, kc3, n3⟩, -, X3, ⟨Lc3, hQ3, l3, y3, z3⟩, st3⟩ := X2.virtualBack hx (y := yM12) (z := yM12) hown (mvT hZ w54) (mvT hZ w28) (notFace_of_selects (args := #[]) (mvT hZ w30)) (mvT hZ w30) (mvT hZ w29) (by decide) (backOf (W := 1) (rm_elen_2 l Z a0 hw [] z_CS v_FMT x_ ba_ kb_ cd_ z_ vs_ c0_ c1_ h0 n0 SB O0 pr3 pr4 pr5 pr6 pr7) hZ w31 w7 (by decide) (by decide)) q3a q3c (g := (mkF m 8 #[.val (.ref t_)] [(.ref x_), (.int (2 : Int32))])) rfl (by rw [hml]; rfl) (Steps.refl _) (argsL := []) (rest := [(.int (2 : Int32))]) (lenOf own_pd9 rfl) rfl (by show 2 * 0 + _ ≤ _; exact Nat.le_of_eq rfl) (hb hby d15_8) (fun _ _ => ⟨rfl, e2, (by decide : 0 + 0 ≤ _), (by decide : 0 + 0 ≤ _)⟩)
  dsimp only [Pt.U, Pt.locs, Pt.cells, Pt.slots] at X3 l3 y3 z3 st3 hQ3
  subst l3 y3 z3
  obtain ⟨rfl, Nq3, e3⟩ := hQ3
  have N3 := Fr.app N0 Nq3
  refine otr (S' := T3.setTop (mkF m 11 #[.val (.ref t_)] [(.int (2 : Int32)), (.int (2 : Int32))])) st3 ?_
  refine o_icmpYes X3 hx 21 (hb hby d15_11) (teq (by decide : (2 : Int32) = (2 : Int32))).1 (by decide) (by decide) ?_
  refine oend X3 hlk (v := none) (fun _ => rfl) (fun fs hr => X3.returnOut hx hret (hb hby d15_21) hr) (by decide) (by decide) ?_
  show own_Q_expend_2 Z _ _ _ _ _ _ _ _ _ _ _ h0 n0 _ T3.heap _
  rw [e3]
  exact ⟨rfl, N3, rfl⟩
def own_Q_elen_3 (Z : State) (z_CS : Int32) (v_FMT : Value) (x_ : Addr) (ba_ : Addr) (kb_ : ClassId) (cd_ : Int32) (z_ : Int32) (vs_ : List Value) (c0_ : Int32) (c1_ : Int32) (c2_ : Int32) (h0 : Heap) (n0 : Nat) (v : Option Value) (h : Heap) (L : List Loc) : Prop := (v = some (.int (3 : Int32))) ∧ (Fr n0 L) ∧ (h = h0)
set_option maxRecDepth 65536 in
set_option maxHeartbeats 40000000 in
theorem rm_elen_3 (l : Launch) (Z : State) (a0 : Array Value) (hw : ∀ d ∈ tables_1, d.before a0 Z = true) (ws : List Jvm.Cond) (z_CS : Int32) (v_FMT : Value) (x_ : Addr) (ba_ : Addr) (kb_ : ClassId) (cd_ : Int32) (z_ : Int32) (vs_ : List Value) (c0_ : Int32) (c1_ : Int32) (c2_ : Int32) (h0 : Heap) (n0 : Nat) (SB : own_Start Z z_CS v_FMT) (O0 : Old Z n0 h0) (pr0 : Exa Z h0 x_ "java/lang/String") (pr1 : Fld Z h0 x_ "java/lang/String" "coder" "B" (.int cd_)) (pr2 : Fld Z h0 x_ "java/lang/String" "value" "[B" (.ref ba_)) (pr3 : Arv Z h0 ba_ kb_ .byte z_ vs_ (.int 0)) (pr4 : own_enc3 c0_ c1_ c2_ cd_ z_ vs_) :
    oMet l Z yM12 jdk_42_method_54_code 1 (some .int) ws ({ frames := 1, cells := 0, slots := 0, locals := 13 } : Room) 0 0 #[(.ref x_)] h0 (own_Q_elen_3 Z z_CS v_FMT x_ ba_ kb_ cd_ z_ vs_ c0_ c1_ c2_ h0 n0) := by
  refine oenter own_pn2 #[.val (.ref x_)] (fun m => by first | (simp [entryFrame, mkF, argsToLocals, Value.category]; done) | rfl) ?_
  intro p e s m below meth c s₁ X0 hx hZ hby hml hret hown0 hnm hlk e0
  have hown : s.vm.findClass "java/lang/String" = some m.cls := hown0
  have N0 := Fr.nil n0
  obtain ⟨S_CS, H_CS, S__assertionsDisabled, S_HI_BYTE_SHIFT, S_LO_BYTE_SHIFT, S_FMT, R_FMT⟩ := (id SB)
  have w7 := hw _ (List.mem_of_getElem? (i := 7) rfl)
  have w25 := hw _ (List.mem_of_getElem? (i := 25) rfl)
  have w32 := hw _ (List.mem_of_getElem? (i := 32) rfl)
  have w33 := hw _ (List.mem_of_getElem? (i := 33) rfl)
  have w34 := hw _ (List.mem_of_getElem? (i := 34) rfl)
  have w35 := hw _ (List.mem_of_getElem? (i := 35) rfl)
  have w36 := hw _ (List.mem_of_getElem? (i := 36) rfl)
  rcases pr4 with ⟨hs0, hs1, hs2, rfl, rfl, rfl⟩ | ⟨rfl, rfl, rfl⟩
  · refine o_aloadN X0 hx (hb hby d13_0) rfl rfl ?_
    obtain ⟨T1, X1, e1, st1⟩ := getF X0 hx hZ hown (host := "") (Or.inl w25) Via.refl e0 pr2 (g := (mkF m 1 #[.val (.ref x_)] [(.ref x_)])) rfl rfl (hb hby d13_1)
    refine ogo (S' := T1.setTop (mkF m 4 #[.val (.ref x_)] [(.ref ba_)])) st1 ?_
    obtain ⟨cl2, Ar2, -, S2, N2z, -, -⟩ := (id pr3)
    refine ogo (S' := T1.setTop (mkF m 5 #[.val (.ref x_)] [(.int (3 : Int32))])) (fun _ kt_ => X1.arraylength hx (by rw [e1]; exact Ar2.1) (State.isArrayOf_alike hZ.alike Ar2.2.1) (g := (mkF m 4 #[.val (.ref x_)] [(.ref ba_)])) rfl rfl (hb hby d13_4) _ (by rw [len_of S2 N2z]; exact kt_)) ?_
    refine o_aloadN X1 hx (hb hby d13_5) rfl rfl ?_
    obtain ⟨cq3, kq3, q3a, q3b, q3c⟩ := isOf hZ e1 pr0
    obtain ⟨_, _, ⟨T3, L3, kc3, n3⟩, -, X3, ⟨Lc3, hQ3, l3, y3, z3⟩, st3⟩ := X1.virtualBack hx (y := yM11) (z := yM11) hown (mvT hZ w32) (mvT hZ w33) (notFace_of_selects (args := #[]) (mvT hZ w35)) (mvT hZ w35) (mvT hZ w34) (by decide) (backOf (W := 1) (rm_coder0 l Z a0 hw [] z_CS v_FMT x_ h0 n0 SB O0 pr1) hZ w36 w7 (by decide) (by decide)) q3a q3c (g := (mkF m 6 #[.val (.ref x_)] [(.ref x_), (.int (3 : Int32))])) rfl (by rw [hml]; rfl) (Steps.refl _) (argsL := []) (rest := [(.int (3 : Int32))]) (lenOf own_pd8 rfl) rfl (by show 2 * 0 + _ ≤ _; exact Nat.le_of_eq rfl) (hb hby d13_6) (fun _ _ => ⟨rfl, e1, (by decide : 0 + 0 ≤ _), (by decide : 0 + 0 ≤ _)⟩)
    dsimp only [Pt.U, Pt.locs, Pt.cells, Pt.slots] at X3 l3 y3 z3 st3 hQ3
    subst l3 y3 z3
    obtain ⟨rfl, Nq3, e3⟩ := hQ3
    have N3 := Fr.app N0 Nq3
    refine otr (S' := T3.setTop (mkF m 9 #[.val (.ref x_)] [(.int (0 : Int32)), (.int (3 : Int32))])) st3 ?_
    refine o_ishr X3 hx (hb hby d13_9) ?_
    refine oend X3 hlk (v := some (.int (3 : Int32))) (fun h => by rw [hret] at h; cases h) (fun fs hr => retOut X3 hx (t := .int) (i := .ireturn) hret rfl (Or.inl ⟨rfl, Or.inl rfl, _, rfl⟩) (hb hby d13_10) hr) (by decide) (by decide) ?_
    show own_Q_elen_3 Z _ _ _ _ _ _ _ _ _ _ _ h0 n0 _ T3.heap _
    rw [e3]
    exact ⟨rfl, N3, rfl⟩
  · refine o_aloadN X0 hx (hb hby d13_0) rfl rfl ?_
    obtain ⟨T4, X4, e4, st4⟩ := getF X0 hx hZ hown (host := "") (Or.inl w25) Via.refl e0 pr2 (g := (mkF m 1 #[.val (.ref x_)] [(.ref x_)])) rfl rfl (hb hby d13_1)
    refine ogo (S' := T4.setTop (mkF m 4 #[.val (.ref x_)] [(.ref ba_)])) st4 ?_
    obtain ⟨cl5, Ar5, -, S5, N5z, -, -⟩ := (id pr3)
    refine ogo (S' := T4.setTop (mkF m 5 #[.val (.ref x_)] [(.int (6 : Int32))])) (fun _ kt_ => X4.arraylength hx (by rw [e4]; exact Ar5.1) (State.isArrayOf_alike hZ.alike Ar5.2.1) (g := (mkF m 4 #[.val (.ref x_)] [(.ref ba_)])) rfl rfl (hb hby d13_4) _ (by rw [len_of S5 N5z]; exact kt_)) ?_
    refine o_aloadN X4 hx (hb hby d13_5) rfl rfl ?_
    obtain ⟨cq6, kq6, q6a, q6b, q6c⟩ := isOf hZ e4 pr0
    obtain ⟨_, _, ⟨T6, L6, kc6, n6⟩, -, X6, ⟨Lc6, hQ6, l6, y6, z6⟩, st6⟩ := X4.virtualBack hx (y := yM11) (z := yM11) hown (mvT hZ w32) (mvT hZ w33) (notFace_of_selects (args := #[]) (mvT hZ w35)) (mvT hZ w35) (mvT hZ w34) (by decide) (backOf (W := 1) (rm_coder1 l Z a0 hw [] z_CS v_FMT x_ h0 n0 SB O0 pr1) hZ w36 w7 (by decide) (by decide)) q6a q6c (g := (mkF m 6 #[.val (.ref x_)] [(.ref x_), (.int (6 : Int32))])) rfl (by rw [hml]; rfl) (Steps.refl _) (argsL := []) (rest := [(.int (6 : Int32))]) (lenOf own_pd8 rfl) rfl (by show 2 * 0 + _ ≤ _; exact Nat.le_of_eq rfl) (hb hby d13_6) (fun _ _ => ⟨rfl, e4, (by decide : 0 + 0 ≤ _), (by decide : 0 + 0 ≤ _)⟩)
    dsimp only [Pt.U, Pt.locs, Pt.cells, Pt.slots] at X6 l6 y6 z6 st6 hQ6
    subst l6 y6 z6
    obtain ⟨rfl, Nq6, e6⟩ := hQ6
    have N6 := Fr.app N0 Nq6
    refine otr (S' := T6.setTop (mkF m 9 #[.val (.ref x_)] [(.int (1 : Int32)), (.int (6 : Int32))])) st6 ?_
    refine o_ishr X6 hx (hb hby d13_9) ?_
    refine oend X6 hlk (v := some (.int (3 : Int32))) (fun h => by rw [hret] at h; cases h) (fun fs hr => retOut X6 hx (t := .int) (i := .ireturn) hret rfl (Or.inl ⟨rfl, Or.inl rfl, _, rfl⟩) (hb hby d13_10) hr) (by decide) (by decide) ?_
    show own_Q_elen_3 Z _ _ _ _ _ _ _ _ _ _ _ h0 n0 _ T6.heap _
    rw [e6]
    exact ⟨rfl, N6, rfl⟩
def own_Q_expend_3 (Z : State) (z_CS : Int32) (v_FMT : Value) (t_ : Addr) (x_ : Addr) (ba_ : Addr) (kb_ : ClassId) (cd_ : Int32) (z_ : Int32) (vs_ : List Value) (c0_ : Int32) (c1_ : Int32) (c2_ : Int32) (h0 : Heap) (n0 : Nat) (v : Option Value) (h : Heap) (L : List Loc) : Prop := (v = none) ∧ (Fr n0 L) ∧ (h = h0)
set_option maxRecDepth 65536 in
set_option maxHeartbeats 40000000 in
theorem rm_expend_3 (l : Launch) (Z : State) (a0 : Array Value) (hw : ∀ d ∈ tables_1, d.before a0 Z = true) (ws : List Jvm.Cond) (z_CS : Int32) (v_FMT : Value) (t_ : Addr) (x_ : Addr) (ba_ : Addr) (kb_ : ClassId) (cd_ : Int32) (z_ : Int32) (vs_ : List Value) (c0_ : Int32) (c1_ : Int32) (c2_ : Int32) (h0 : Heap) (n0 : Nat) (SB : own_Start Z z_CS v_FMT) (O0 : Old Z n0 h0) (pr0 : Exa Z h0 t_ "com/example/rowfold/rowfold/Literal") (pr1 : Fld Z h0 t_ "com/example/rowfold/rowfold/Literal" "text" "Ljava/lang/String;" (.ref x_)) (pr2 : Fld Z h0 t_ "com/example/rowfold/rowfold/Literal" "at" "I" (.int (3 : Int32))) (pr3 : Exa Z h0 x_ "java/lang/String") (pr4 : Fld Z h0 x_ "java/lang/String" "coder" "B" (.int cd_)) (pr5 : Fld Z h0 x_ "java/lang/String" "value" "[B" (.ref ba_)) (pr6 : Arv Z h0 ba_ kb_ .byte z_ vs_ (.int 0)) (pr7 : own_enc3 c0_ c1_ c2_ cd_ z_ vs_) :
    oMet l Z yM14 prog_8_method_6_code 1 none ws ({ frames := 2, cells := 0, slots := 0, locals := 26 } : Room) 0 0 #[(.ref t_)] h0 (own_Q_expend_3 Z z_CS v_FMT t_ x_ ba_ kb_ cd_ z_ vs_ c0_ c1_ c2_ h0 n0) := by
  refine oenter own_pn0 #[.val (.ref t_)] (fun m => by first | (simp [entryFrame, mkF, argsToLocals, Value.category]; done) | rfl) ?_
  intro p e s m below meth c s₁ X0 hx hZ hby hml hret hown0 hnm hlk e0
  have hown : s.vm.findClass "com/example/rowfold/rowfold/Literal" = some m.cls := hown0
  have N0 := Fr.nil n0
  obtain ⟨S_CS, H_CS, S__assertionsDisabled, S_HI_BYTE_SHIFT, S_LO_BYTE_SHIFT, S_FMT, R_FMT⟩ := (id SB)
  have w7 := hw _ (List.mem_of_getElem? (i := 7) rfl)
  have w28 := hw _ (List.mem_of_getElem? (i := 28) rfl)
  have w29 := hw _ (List.mem_of_getElem? (i := 29) rfl)
  have w30 := hw _ (List.mem_of_getElem? (i := 30) rfl)
  have w31 := hw _ (List.mem_of_getElem? (i := 31) rfl)
  have w45 := hw _ (List.mem_of_getElem? (i := 45) rfl)
  have w52 := hw _ (List.mem_of_getElem? (i := 52) rfl)
  have w54 := hw _ (List.mem_of_getElem? (i := 54) rfl)
  refine o_aloadN X0 hx (hb hby d15_0) rfl rfl ?_
  obtain ⟨T1, X1, e1, st1⟩ := getF X0 hx hZ hown (host := "") (Or.inl w52) Via.refl e0 pr2 (g := (mkF m 1 #[.val (.ref t_)] [(.ref t_)])) rfl rfl (hb hby d15_1)
  refine ogo (S' := T1.setTop (mkF m 4 #[.val (.ref t_)] [(.int (3 : Int32))])) st1 ?_
  refine o_aloadN X1 hx (hb hby d15_4) rfl rfl ?_
  obtain ⟨T2, X2, e2, st2⟩ := getF X1 hx hZ hown (host := "") (Or.inl w45) Via.refl e1 pr1 (g := (mkF m 5 #[.val (.ref t_)] [(.ref t_), (.int (3 : Int32))])) rfl rfl (hb hby d15_5)
  refine ogo (S' := T2.setTop (mkF m 8 #[.val (.ref t_)] [(.ref x_), (.int (3 : Int32))])) st2 ?_
  obtain ⟨cq3, kq3, q3a, q3b, q3c⟩ := isOf hZ e2 pr3
  obtain ⟨_, _, ⟨T3, L3, kc3, n3⟩, -, X3, ⟨Lc3, hQ3, l3, y3, z3⟩, st3⟩ := X2.virtualBack hx (y := yM12) (z := yM12) hown (mvT hZ w54) (mvT hZ w28) (notFace_of_selects (args := #[]) (mvT hZ w30)) (mvT hZ w30) (mvT hZ w29) (by decide) (backOf (W := 1) (rm_elen_3 l Z a0 hw [] z_CS v_FMT x_ ba_ kb_ cd_ z_ vs_ c0_ c1_ c2_ h0 n0 SB O0 pr3 pr4 pr5 pr6 pr7) hZ w31 w7 (by decide) (by decide)) q3a q3c (g := (mkF m 8 #[.val (.ref t_)] [(.ref x_), (.int (3 : Int32))])) rfl (by rw [hml]; rfl) (Steps.refl _) (argsL := []) (rest := [(.int (3 : Int32))]) (lenOf own_pd9 rfl) rfl (by show 2 * 0 + _ ≤ _; exact Nat.le_of_eq rfl) (hb hby d15_8) (fun _ _ => ⟨rfl, e2, (by decide : 0 + 0 ≤ _), (by decide : 0 + 0 ≤ _)⟩)
  dsimp only [Pt.U, Pt.locs, Pt.cells, Pt.slots] at X3 l3 y3 z3 st3 hQ3
  subst l3 y3 z3
  obtain ⟨rfl, Nq3, e3⟩ := hQ3
  have N3 := Fr.app N0 Nq3
  refine otr (S' := T3.setTop (mkF m 11 #[.val (.ref t_)] [(.int (3 : Int32)), (.int (3 : Int32))])) st3 ?_
  refine o_icmpYes X3 hx 21 (hb hby d15_11) (teq (by decide : (3 : Int32) = (3 : Int32))).1 (by decide) (by decide) ?_
  refine oend X3 hlk (v := none) (fun _ => rfl) (fun fs hr => X3.returnOut hx hret (hb hby d15_21) hr) (by decide) (by decide) ?_
  show own_Q_expend_3 Z _ _ _ _ _ _ _ _ _ _ _ _ h0 n0 _ T3.heap _
  rw [e3]
  exact ⟨rfl, N3, rfl⟩
def own_Q_skipE_1 (Z : State) (z_CS : Int32) (v_FMT : Value) (t_ : Addr) (x_ : Addr) (ba_ : Addr) (kb_ : ClassId) (cd_ : Int32) (z_ : Int32) (vs_ : List Value) (c0_ : Int32) (u_ : Int32) (h0 : Heap) (n0 : Nat) (v : Option Value) (h : Heap) (L : List Loc) : Prop := (v = some (.int (0 : Int32))) ∧ (Fr n0 L) ∧ (h = h0)
set_option maxRecDepth 65536 in
set_option maxHeartbeats 40000000 in
theorem rm_skipE_1 (l : Launch) (Z : State) (a0 : Array Value) (hw : ∀ d ∈ tables_1, d.before a0 Z = true) (ws : List Jvm.Cond) (z_CS : Int32) (v_FMT : Value) (t_ : Addr) (x_ : Addr) (ba_ : Addr) (kb_ : ClassId) (cd_ : Int32) (z_ : Int32) (vs_ : List Value) (c0_ : Int32) (u_ : Int32) (h0 : Heap) (n0 : Nat) (SB : own_Start Z z_CS v_FMT) (O0 : Old Z n0 h0) (pr0 : Exa Z h0 t_ "com/example/rowfold/rowfold/Literal") (pr1 : Fld Z h0 t_ "com/example/rowfold/rowfold/Literal" "text" "Ljava/lang/String;" (.ref x_)) (pr2 : Fld Z h0 t_ "com/example/rowfold/rowfold/Literal" "at" "I" (.int (1 : Int32))) (pr3 : Exa Z h0 x_ "java/lang/String") (pr4 : Fld Z h0 x_ "java/lang/String" "coder" "B" (.int cd_)) (pr5 : Fld Z h0 x_ "java/lang/String" "value" "[B" (.ref ba_)) (pr6 : Arv Z h0 ba_ kb_ .byte z_ vs_ (.int 0)) (pr7 : own_enc1 c0_ cd_ z_ vs_) :
    oMet l Z yM13 prog_8_method_4_code 3 (some .boolean) ws ({ frames := 2, cells := 0, slots := 0, locals := 26 } : Room) 0 0 #[(.ref t_), (.int u_)] h0 (own_Q_skipE_1 Z z_CS v_FMT t_ x_ ba_ kb_ cd_ z_ vs_ c0_ u_ h0 n0) := by
  refine oenter own_pn0 #[.val (.ref t_), .val (.int u_), .unset] (fun m => by first | (simp [entryFrame, mkF, argsToLocals, Value.category]; done) | rfl) ?_
  intro p e s m below meth c s₁ X0 hx hZ hby hml hret hown0 hnm hlk e0
  have hown : s.vm.findClass "com/example/rowfold/rowfold/Literal" = some m.cls := hown0
  have N0 := Fr.nil n0
  obtain ⟨S_CS, H_CS, S__assertionsDisabled, S_HI_BYTE_SHIFT, S_LO_BYTE_SHIFT, S_FMT, R_FMT⟩ := (id SB)
  have w7 := hw _ (List.mem_of_getElem? (i := 7) rfl)
  have w28 := hw _ (List.mem_of_getElem? (i := 28) rfl)
  have w29 := hw _ (List.mem_of_getElem? (i := 29) rfl)
  have w30 := hw _ (List.mem_of_getElem? (i := 30) rfl)
  have w31 := hw _ (List.mem_of_getElem? (i := 31) rfl)
  have w45 := hw _ (List.mem_of_getElem? (i := 45) rfl)
  have w52 := hw _ (List.mem_of_getElem? (i := 52) rfl)
  have w54 := hw _ (List.mem_of_getElem? (i := 54) rfl)
  refine o_aloadN X0 hx (hb hby d14_0) rfl rfl ?_
  obtain ⟨T1, X1, e1, st1⟩ := getF X0 hx hZ hown (host := "") (Or.inl w52) Via.refl e0 pr2 (g := (mkF m 1 #[.val (.ref t_), .val (.int u_), .unset] [(.ref t_)])) rfl rfl (hb hby d14_1)
  refine ogo (S' := T1.setTop (mkF m 4 #[.val (.ref t_), .val (.int u_), .unset] [(.int (1 : Int32))])) st1 ?_
  refine o_aloadN X1 hx (hb hby d14_4) rfl rfl ?_
  obtain ⟨T2, X2, e2, st2⟩ := getF X1 hx hZ hown (host := "") (Or.inl w45) Via.refl e1 pr1 (g := (mkF m 5 #[.val (.ref t_), .val (.int u_), .unset] [(.ref t_), (.int (1 : Int32))])) rfl rfl (hb hby d14_5)
  refine ogo (S' := T2.setTop (mkF m 8 #[.val (.ref t_), .val (.int u_), .unset] [(.ref x_), (.int (1 : Int32))])) st2 ?_
  obtain ⟨cq3, kq3, q3a, q3b, q3c⟩ := isOf hZ e2 pr3
  obtain ⟨_, _, ⟨T3, L3, kc3, n3⟩, -, X3, ⟨Lc3, hQ3, l3, y3, z3⟩, st3⟩ := X2.virtualBack hx (y := yM12) (z := yM12) hown (mvT hZ w54) (mvT hZ w28) (notFace_of_selects (args := #[]) (mvT hZ w30)) (mvT hZ w30) (mvT hZ w29) (by decide) (backOf (W := 1) (rm_elen_1 l Z a0 hw [] z_CS v_FMT x_ ba_ kb_ cd_ z_ vs_ c0_ h0 n0 SB O0 pr3 pr4 pr5 pr6 pr7) hZ w31 w7 (by decide) (by decide)) q3a q3c (g := (mkF m 8 #[.val (.ref t_), .val (.int u_), .unset] [(.ref x_), (.int (1 : Int32))])) rfl (by rw [hml]; rfl) (Steps.refl _) (argsL := []) (rest := [(.int (1 : Int32))]) (lenOf own_pd9 rfl) rfl (by show 2 * 0 + _ ≤ _; exact Nat.le_of_eq rfl) (hb hby d14_8) (fun _ _ => ⟨rfl, e2, (by decide : 0 + 0 ≤ _), (by decide : 0 + 0 ≤ _)⟩)
  dsimp only [Pt.U, Pt.locs, Pt.cells, Pt.slots] at X3 l3 y3 z3 st3 hQ3
  subst l3 y3 z3
  obtain ⟨rfl, Nq3, e3⟩ := hQ3
  have N3 := Fr.app N0 Nq3
  refine otr (S' := T3.setTop (mkF m 11 #[.val (.ref t_), .val (.int u_), .unset] [(.int (1 : Int32)), (.int (1 : Int32))])) st3 ?_
  refine o_icmpYes X3 hx 33 (hb hby d14_11) (flt (by decide : ¬ ((1 : Int32) < (1 : Int32)))).2.1 (by decide) (by decide) ?_
  refine o_iconst X3 hx (0 : Int32) (hb hby d14_33) rfl ?_
  refine o_istoreN X3 hx (l' := #[.val (.ref t_), .val (.int u_), .val (.int (0 : Int32))]) (hb hby d14_34) rfl ?_
  refine o_iloadN X3 hx (hb hby d14_35) rfl ?_
  refine o_ifYes X3 hx 49 (hb hby d14_36) (teq (by decide : (0 : Int32) = (0 : Int32))).1 (by decide) (by decide) ?_
  refine o_iloadN X3 hx (hb hby d14_49) rfl ?_
  refine oend X3 hlk (v := some (.int (0 : Int32))) (fun h => by rw [hret] at h; cases h) (fun fs hr => retN X3 hx (t := .boolean) hret (by simp) (hb hby d14_50) hr) (by decide) (by decide) ?_
  show own_Q_skipE_1 Z _ _ _ _ _ _ _ _ _ _ _ h0 n0 _ T3.heap _
  rw [e3]
  exact ⟨rfl, N3, rfl⟩
theorem d16_0 : decode jdk_42_method_154_code 0 = .ok (.getstatic 38, 3) := by decide +kernel
theorem d16_3 : decode jdk_42_method_154_code 3 = .ok (.ifCond .eq 14, 3) := by decide +kernel
theorem d16_6 : decode jdk_42_method_154_code 6 = .ok (.aload_n 0, 1) := by decide +kernel
theorem d16_7 : decode jdk_42_method_154_code 7 = .ok (.getfield 15, 3) := by decide +kernel
theorem d16_10 : decode jdk_42_method_154_code 10 = .ok (.ifCond .ne 7, 3) := by decide +kernel
theorem d16_13 : decode jdk_42_method_154_code 13 = .ok (.iconst 1, 1) := by decide +kernel
theorem d16_14 : decode jdk_42_method_154_code 14 = .ok (.goto 4, 3) := by decide +kernel
theorem d16_18 : decode jdk_42_method_154_code 18 = .ok (.ireturn, 1) := by decide +kernel
def own_Q_isl1_0 (Z : State) (z_CS : Int32) (v_FMT : Value) (x_ : Addr) (h0 : Heap) (n0 : Nat) (v : Option Value) (h : Heap) (L : List Loc) : Prop := (v = some (.int (1 : Int32))) ∧ (Fr n0 L) ∧ (h = h0)
abbrev yM15 : MethodName := ⟨"java/lang/String", "isLatin1", "()Z"⟩
set_option maxRecDepth 65536 in
set_option maxHeartbeats 40000000 in
theorem rm_isl1_0 (l : Launch) (Z : State) (a0 : Array Value) (hw : ∀ d ∈ tables_1, d.before a0 Z = true) (ws : List Jvm.Cond) (z_CS : Int32) (v_FMT : Value) (x_ : Addr) (h0 : Heap) (n0 : Nat) (SB : own_Start Z z_CS v_FMT) (O0 : Old Z n0 h0) (pr0 : Fld Z h0 x_ "java/lang/String" "coder" "B" (.int (0 : Int32))) :
    oMet l Z yM15 jdk_42_method_154_code 1 (some .boolean) ws ({ frames := 0, cells := 0, slots := 0, locals := 0 } : Room) 0 0 #[(.ref x_)] h0 (own_Q_isl1_0 Z z_CS v_FMT x_ h0 n0) := by
  refine oenter own_pn2 #[.val (.ref x_)] (fun m => by first | (simp [entryFrame, mkF, argsToLocals, Value.category]; done) | rfl) ?_
  intro p e s m below meth c s₁ X0 hx hZ hby hml hret hown0 hnm hlk e0
  have hown : s.vm.findClass "java/lang/String" = some m.cls := hown0
  have N0 := Fr.nil n0
  obtain ⟨S_CS, H_CS, S__assertionsDisabled, S_HI_BYTE_SHIFT, S_LO_BYTE_SHIFT, S_FMT, R_FMT⟩ := (id SB)
  have w26 := hw _ (List.mem_of_getElem? (i := 26) rfl)
  have w37 := hw _ (List.mem_of_getElem? (i := 37) rfl)
  obtain ⟨T1, X1, e1, st1⟩ := getS2 X0 hx hZ hown (host := "") (Or.inl w37) Via.refl e0 (Sta.ext O0.2 S_CS) (g := (mkF m 0 #[.val (.ref x_)] [])) rfl (hb hby d16_0)
  refine ogo (S' := T1.setTop (mkF m 3 #[.val (.ref x_)] [(.int z_CS)])) st1 ?_
  refine o_ifNo X1 hx (hb hby d16_3) (feq H_CS).1 ?_
  refine o_aloadN X1 hx (hb hby d16_6) rfl rfl ?_
  obtain ⟨T2, X2, e2, st2⟩ := getF X1 hx hZ hown (host := "") (Or.inl w26) Via.refl e1 pr0 (g := (mkF m 7 #[.val (.ref x_)] [(.ref x_)])) rfl rfl (hb hby d16_7)
  refine ogo (S' := T2.setTop (mkF m 10 #[.val (.ref x_)] [(.int (0 : Int32))])) st2 ?_
  refine o_ifNo X2 hx (hb hby d16_10) (teq (by decide : (0 : Int32) = (0 : Int32))).2 ?_
  refine o_iconst X2 hx (1 : Int32) (hb hby d16_13) rfl ?_
  refine o_goto X2 hx 18 (hb hby d16_14) (by decide) (by decide) ?_
  refine oend X2 hlk (v := some (.int (1 : Int32))) (fun h => by rw [hret] at h; cases h) (fun fs hr => retN X2 hx (t := .boolean) hret (by simp) (hb hby d16_18) hr) (by decide) (by decide) ?_
  show own_Q_isl1_0 Z _ _ _ h0 n0 _ T2.heap _
  rw [e2]
  exact ⟨rfl, N0, rfl⟩
theorem d16_17 : decode jdk_42_method_154_code 17 = .ok (.iconst 0, 1) := by decide +kernel
def own_Q_isl1_1 (Z : State) (z_CS : Int32) (v_FMT : Value) (x_ : Addr) (h0 : Heap) (n0 : Nat) (v : Option Value) (h : Heap) (L : List Loc) : Prop := (v = some (.int (0 : Int32))) ∧ (Fr n0 L) ∧ (h = h0)
set_option maxRecDepth 65536 in
set_option maxHeartbeats 40000000 in
theorem rm_isl1_1 (l : Launch) (Z : State) (a0 : Array Value) (hw : ∀ d ∈ tables_1, d.before a0 Z = true) (ws : List Jvm.Cond) (z_CS : Int32) (v_FMT : Value) (x_ : Addr) (h0 : Heap) (n0 : Nat) (SB : own_Start Z z_CS v_FMT) (O0 : Old Z n0 h0) (pr0 : Fld Z h0 x_ "java/lang/String" "coder" "B" (.int (1 : Int32))) :
    oMet l Z yM15 jdk_42_method_154_code 1 (some .boolean) ws ({ frames := 0, cells := 0, slots := 0, locals := 0 } : Room) 0 0 #[(.ref x_)] h0 (own_Q_isl1_1 Z z_CS v_FMT x_ h0 n0) := by
  refine oenter own_pn2 #[.val (.ref x_)] (fun m => by first | (simp [entryFrame, mkF, argsToLocals, Value.category]; done) | rfl) ?_
  intro p e s m below meth c s₁ X0 hx hZ hby hml hret hown0 hnm hlk e0
  have hown : s.vm.findClass "java/lang/String" = some m.cls := hown0
  have N0 := Fr.nil n0
  obtain ⟨S_CS, H_CS, S__assertionsDisabled, S_HI_BYTE_SHIFT, S_LO_BYTE_SHIFT, S_FMT, R_FMT⟩ := (id SB)
  have w26 := hw _ (List.mem_of_getElem? (i := 26) rfl)
  have w37 := hw _ (List.mem_of_getElem? (i := 37) rfl)
  obtain ⟨T1, X1, e1, st1⟩ := getS2 X0 hx hZ hown (host := "") (Or.inl w37) Via.refl e0 (Sta.ext O0.2 S_CS) (g := (mkF m 0 #[.val (.ref x_)] [])) rfl (hb hby d16_0)
  refine ogo (S' := T1.setTop (mkF m 3 #[.val (.ref x_)] [(.int z_CS)])) st1 ?_
  refine o_ifNo X1 hx (hb hby d16_3) (feq H_CS).1 ?_
  refine o_aloadN X1 hx (hb hby d16_6) rfl rfl ?_
  obtain ⟨T2, X2, e2, st2⟩ := getF X1 hx hZ hown (host := "") (Or.inl w26) Via.refl e1 pr0 (g := (mkF m 7 #[.val (.ref x_)] [(.ref x_)])) rfl rfl (hb hby d16_7)
  refine ogo (S' := T2.setTop (mkF m 10 #[.val (.ref x_)] [(.int (1 : Int32))])) st2 ?_
  refine o_ifYes X2 hx 17 (hb hby d16_10) (feq (by decide : ¬ ((1 : Int32) = (0 : Int32)))).2 (by decide) (by decide) ?_
  refine o_iconst X2 hx (0 : Int32) (hb hby d16_17) rfl ?_
  refine oend X2 hlk (v := some (.int (0 : Int32))) (fun h => by rw [hret] at h; cases h) (fun fs hr => retN X2 hx (t := .boolean) hret (by simp) (hb hby d16_18) hr) (by decide) (by decide) ?_
  show own_Q_isl1_1 Z _ _ _ h0 n0 _ T2.heap _
  rw [e2]
  exact ⟨rfl, N0, rfl⟩
theorem d17_0 : decode jdk_41_method_11_code 0 = .ok (.iload_n 0, 1) := by decide +kernel
theorem d17_1 : decode jdk_41_method_11_code 1 = .ok (.ifCond .lt 8, 3) := by decide +kernel
theorem d17_4 : decode jdk_41_method_11_code 4 = .ok (.iload_n 0, 1) := by decide +kernel
theorem d17_5 : decode jdk_41_method_11_code 5 = .ok (.iload_n 1, 1) := by decide +kernel
theorem d17_6 : decode jdk_41_method_11_code 6 = .ok (.if_icmp .lt 10, 3) := by decide +kernel
theorem d17_16 : decode jdk_41_method_11_code 16 = .ok (.iload_n 0, 1) := by decide +kernel
theorem d17_17 : decode jdk_41_method_11_code 17 = .ok (.ireturn, 1) := by decide +kernel
theorem own_pn3 : plainName "jdk/internal/util/Preconditions" = true := by first | (simp [plainName, overriddenIn]; done) | decide +kernel
def own_Q_pci (Z : State)  (i_ : Int32) (n_ : Int32) (f_ : Value) (h0 : Heap) (n0 : Nat) (v : Option Value) (h : Heap) (L : List Loc) : Prop := (v = some (.int i_)) ∧ (Fr n0 L) ∧ (h = h0)
abbrev yM16 : MethodName := ⟨"jdk/internal/util/Preconditions", "checkIndex", "(IILjava/util/function/BiFunction;)I"⟩
set_option maxRecDepth 65536 in
set_option maxHeartbeats 40000000 in
theorem rm_pci (l : Launch) (Z : State) (a0 : Array Value) (hw : ∀ d ∈ tables_1, d.before a0 Z = true) (ws : List Jvm.Cond)  (i_ : Int32) (n_ : Int32) (f_ : Value) (h0 : Heap) (n0 : Nat) (O0 : Old Z n0 h0) (pr0 : ¬ (i_ < (0 : Int32))) (pr1 : i_ < n_) (pr2 : f_.isRef = true) (pr3 : f_.category = 1) :
    oMet l Z yM16 jdk_41_method_11_code 3 (some .int) ws ({ frames := 0, cells := 0, slots := 0, locals := 0 } : Room) 0 0 #[(.int i_), (.int n_), f_] h0 (own_Q_pci Z  i_ n_ f_ h0 n0) := by
  refine oenter own_pn3 #[.val (.int i_), .val (.int n_), .val f_] (fun m => by first | (simp [entryFrame, mkF, argsToLocals, Value.category, pr3]; done) | rfl | (cases f_ <;> first | rfl | (cases pr2))) ?_
  intro p e s m below meth c s₁ X0 hx hZ hby hml hret hown0 hnm hlk e0
  have hown : s.vm.findClass "jdk/internal/util/Preconditions" = some m.cls := hown0
  have N0 := Fr.nil n0
  refine o_iloadN X0 hx (hb hby d17_0) rfl ?_
  refine o_ifNo X0 hx (hb hby d17_1) (flt pr0).1 ?_
  refine o_iloadN X0 hx (hb hby d17_4) rfl ?_
  refine o_iloadN X0 hx (hb hby d17_5) rfl ?_
  refine o_icmpYes X0 hx 16 (hb hby d17_6) (tlt pr1).1 (by decide) (by decide) ?_
  refine o_iloadN X0 hx (hb hby d17_16) rfl ?_
  refine oend X0 hlk (v := some (.int i_)) (fun h => by rw [hret] at h; cases h) (fun fs hr => retOut X0 hx (t := .int) (i := .ireturn) hret rfl (Or.inl ⟨rfl, Or.inl rfl, _, rfl⟩) (hb hby d17_17) hr) (by decide) (by decide) ?_
  show own_Q_pci Z _ _ _ h0 n0 _ s₁.heap _
  rw [e0]
  exact ⟨rfl, N0, rfl⟩
theorem own_pd10 : parseMethodDescriptor "(IILjava/util/function/BiFunction;)I" = some ⟨[.int, .int, (.object "java/util/function/BiFunction")], some .int⟩ := by decide +kernel
theorem d18_0 : decode jdk_42_method_155_code 0 = .ok (.iload_n 0, 1) := by decide +kernel
theorem d18_1 : decode jdk_42_method_155_code 1 = .ok (.iload_n 1, 1) := by decide +kernel
theorem d18_2 : decode jdk_42_method_155_code 2 = .ok (.getstatic 1053, 3) := by decide +kernel
theorem d18_5 : decode jdk_42_method_155_code 5 = .ok (.invokestatic 1059, 3) := by decide +kernel
theorem d18_8 : decode jdk_42_method_155_code 8 = .ok (.pop, 1) := by decide +kernel
theorem d18_9 : decode jdk_42_method_155_code 9 = .ok (.return_, 1) := by decide +kernel
def own_Q_sci (Z : State) (z_CS : Int32) (v_FMT : Value) (i_ : Int32) (n_ : Int32) (h0 : Heap) (n0 : Nat) (v : Option Value) (h : Heap) (L : List Loc) : Prop := (v = none) ∧ (Fr n0 L) ∧ (h = h0)
abbrev yM17 : MethodName := ⟨"java/lang/String", "checkIndex", "(II)V"⟩
set_option maxRecDepth 65536 in
set_option maxHeartbeats 40000000 in
theorem rm_sci (l : Launch) (Z : State) (a0 : Array Value) (hw : ∀ d ∈ tables_1, d.before a0 Z = true) (ws : List Jvm.Cond) (z_CS : Int32) (v_FMT : Value) (i_ : Int32) (n_ : Int32) (h0 : Heap) (n0 : Nat) (SB : own_Start Z z_CS v_FMT) (O0 : Old Z n0 h0) (pr0 : ¬ (i_ < (0 : Int32))) (pr1 : i_ < n_) :
    oMet l Z yM17 jdk_42_method_155_code 2 none ws ({ frames := 1, cells := 0, slots := 0, locals := 14 } : Room) 0 0 #[(.int i_), (.int n_)] h0 (own_Q_sci Z z_CS v_FMT i_ n_ h0 n0) := by
  refine oenter own_pn2 #[.val (.int i_), .val (.int n_)] (fun m => by first | (simp [entryFrame, mkF, argsToLocals, Value.category]; done) | rfl) ?_
  intro p e s m below meth c s₁ X0 hx hZ hby hml hret hown0 hnm hlk e0
  have hown : s.vm.findClass "java/lang/String" = some m.cls := hown0
  have N0 := Fr.nil n0
  obtain ⟨S_CS, H_CS, S__assertionsDisabled, S_HI_BYTE_SHIFT, S_LO_BYTE_SHIFT, S_FMT, R_FMT⟩ := (id SB)
  have w87 := hw _ (List.mem_of_getElem? (i := 87) rfl)
  have w88 := hw _ (List.mem_of_getElem? (i := 88) rfl)
  have w89 := hw _ (List.mem_of_getElem? (i := 89) rfl)
  have w90 := hw _ (List.mem_of_getElem? (i := 90) rfl)
  have w91 := hw _ (List.mem_of_getElem? (i := 91) rfl)
  refine o_iloadN X0 hx (hb hby d18_0) rfl ?_
  refine o_iloadN X0 hx (hb hby d18_1) rfl ?_
  obtain ⟨T1, X1, e1, st1⟩ := getS2 X0 hx hZ hown (host := "") (Or.inl w87) Via.refl e0 (Sta.ext O0.2 S_FMT) (g := (mkF m 2 #[.val (.int i_), .val (.int n_)] [(.int n_), (.int i_)])) rfl (hb hby d18_2)
  refine ogo (S' := T1.setTop (mkF m 5 #[.val (.int i_), .val (.int n_)] [v_FMT, (.int n_), (.int i_)])) st1 ?_
  obtain ⟨_, _, ⟨T2, L2, kc2, n2⟩, -, X2, ⟨Lc2, hQ2, l2, y2, z2⟩, st2⟩ := Jvm.LawKit.callS X1 hx (y := yM16) hown (mvT hZ w89) (mvT hZ w90) (mvT hZ w88) (mvT hZ w91) (by decide) (backOf (W := 0) (rm_pci l Z a0 hw []  i_ n_ v_FMT h0 n0 O0 pr0 pr1 R_FMT (own_cat R_FMT)) hZ w91 w88 (by decide) (by decide)) (g := (mkF m 5 #[.val (.int i_), .val (.int n_)] [v_FMT, (.int n_), (.int i_)])) rfl (by rw [hml]; rfl) (argsL := [(.int i_), (.int n_), v_FMT]) (rest := []) (lenOf own_pd10 rfl) rfl (by show 2 * 0 + _ ≤ _; exact Nat.le_of_eq rfl) (hb hby d18_5) (fun _ _ => ⟨rfl, e1, (by decide : 0 + 0 ≤ _), (by decide : 0 + 0 ≤ _)⟩)
  dsimp only [Pt.U, Pt.locs, Pt.cells, Pt.slots] at X2 l2 y2 z2 st2 hQ2
  subst l2 y2 z2
  obtain ⟨rfl, Nq2, e2⟩ := hQ2
  have N2 := Fr.app N0 Nq2
  refine ogo (S' := T2.setTop (mkF m 8 #[.val (.int i_), .val (.int n_)] [(.int i_)])) st2 ?_
  refine o_pop X2 hx (hb hby d18_8) rfl ?_
  refine oend X2 hlk (v := none) (fun _ => rfl) (fun fs hr => X2.returnOut hx hret (hb hby d18_9) hr) (by decide) (by decide) ?_
  show own_Q_sci Z _ _ _ _ h0 n0 _ T2.heap _
  rw [e2]
  exact ⟨rfl, N2, rfl⟩
theorem own_pd11 : parseMethodDescriptor "(II)V" = some ⟨[.int, .int], none⟩ := by decide +kernel
theorem d19_0 : decode jdk_43_method_2_code 0 = .ok (.iload_n 1, 1) := by decide +kernel
theorem d19_1 : decode jdk_43_method_2_code 1 = .ok (.aload_n 0, 1) := by decide +kernel
theorem d19_2 : decode jdk_43_method_2_code 2 = .ok (.arraylength, 1) := by decide +kernel
theorem d19_3 : decode jdk_43_method_2_code 3 = .ok (.invokestatic 9, 3) := by decide +kernel
theorem d19_6 : decode jdk_43_method_2_code 6 = .ok (.aload_n 0, 1) := by decide +kernel
theorem d19_7 : decode jdk_43_method_2_code 7 = .ok (.iload_n 1, 1) := by decide +kernel
theorem d19_8 : decode jdk_43_method_2_code 8 = .ok (.baload, 1) := by decide +kernel
theorem d19_9 : decode jdk_43_method_2_code 9 = .ok (.sipush 255, 3) := by decide +kernel
theorem d19_12 : decode jdk_43_method_2_code 12 = .ok (.iand, 1) := by decide +kernel
theorem d19_13 : decode jdk_43_method_2_code 13 = .ok (.i2c, 1) := by decide +kernel
theorem d19_14 : decode jdk_43_method_2_code 14 = .ok (.ireturn, 1) := by decide +kernel
theorem own_pn4 : plainName "java/lang/StringLatin1" = true := by first | (simp [plainName, overriddenIn]; done) | decide +kernel
def own_Q_l1c_1_0 (Z : State) (z_CS : Int32) (v_FMT : Value) (ba_ : Addr) (kb_ : ClassId) (c0_ : Int32) (h0 : Heap) (n0 : Nat) (v : Option Value) (h : Heap) (L : List Loc) : Prop := (v = some (.int c0_)) ∧ (Fr n0 L) ∧ (h = h0)
abbrev yM18 : MethodName := ⟨"java/lang/StringLatin1", "charAt", "([BI)C"⟩
set_option maxRecDepth 65536 in
set_option maxHeartbeats 40000000 in
theorem rm_l1c_1_0 (l : Launch) (Z : State) (a0 : Array Value) (hw : ∀ d ∈ tables_1, d.before a0 Z = true) (ws : List Jvm.Cond) (z_CS : Int32) (v_FMT : Value) (ba_ : Addr) (kb_ : ClassId) (c0_ : Int32) (h0 : Heap) (n0 : Nat) (SB : own_Start Z z_CS v_FMT) (O0 : Old Z n0 h0) (pr0 : Arv Z h0 ba_ kb_ .byte (1 : Int32) [(.int c0_.toInt8.toInt32)] (.int 0)) (pr1 : ¬ (c0_ < (0 : Int32))) (pr2 : ¬ ((255 : Int32) < c0_)) :
    oMet l Z yM18 jdk_43_method_2_code 2 (some .char) ws ({ frames := 2, cells := 0, slots := 0, locals := 27 } : Room) 0 0 #[(.ref ba_), (.int (0 : Int32))] h0 (own_Q_l1c_1_0 Z z_CS v_FMT ba_ kb_ c0_ h0 n0) := by
  refine oenter own_pn4 #[.val (.ref ba_), .val (.int (0 : Int32))] (fun m => by first | (simp [entryFrame, mkF, argsToLocals, Value.category]; done) | rfl) ?_
  intro p e s m below meth c s₁ X0 hx hZ hby hml hret hown0 hnm hlk e0
  have hown : s.vm.findClass "java/lang/StringLatin1" = some m.cls := hown0
  have N0 := Fr.nil n0
  obtain ⟨S_CS, H_CS, S__assertionsDisabled, S_HI_BYTE_SHIFT, S_LO_BYTE_SHIFT, S_FMT, R_FMT⟩ := (id SB)
  have w7 := hw _ (List.mem_of_getElem? (i := 7) rfl)
  have w84 := hw _ (List.mem_of_getElem? (i := 84) rfl)
  have w85 := hw _ (List.mem_of_getElem? (i := 85) rfl)
  have w86 := hw _ (List.mem_of_getElem? (i := 86) rfl)
  refine o_iloadN X0 hx (hb hby d19_0) rfl ?_
  refine o_aloadN X0 hx (hb hby d19_1) rfl rfl ?_
  obtain ⟨cl1, Ar1, -, S1, N1z, -, -⟩ := (id pr0)
  refine ogo (S' := s₁.setTop (mkF m 3 #[.val (.ref ba_), .val (.int (0 : Int32))] [(.int (1 : Int32)), (.int (0 : Int32))])) (fun _ kt_ => X0.arraylength hx (by rw [e0]; exact Ar1.1) (State.isArrayOf_alike hZ.alike Ar1.2.1) (g := (mkF m 2 #[.val (.ref ba_), .val (.int (0 : Int32))] [(.ref ba_), (.int (0 : Int32))])) rfl rfl (hb hby d19_2) _ (by rw [len_of S1 N1z]; exact kt_)) ?_
  obtain ⟨_, _, ⟨T2, L2, kc2, n2⟩, -, X2, ⟨Lc2, hQ2, l2, y2, z2⟩, st2⟩ := Jvm.LawKit.callS X0 hx (y := yM17) hown (mvT hZ w84) (mvT hZ w85) (mvT hZ w7) (mvT hZ w86) (by decide) (backOf (W := 0) (rm_sci l Z a0 hw [] z_CS v_FMT (0 : Int32) (1 : Int32) h0 n0 SB O0 (by decide) (by decide)) hZ w86 w7 (by decide) (by decide)) (g := (mkF m 3 #[.val (.ref ba_), .val (.int (0 : Int32))] [(.int (1 : Int32)), (.int (0 : Int32))])) rfl (by rw [hml]; rfl) (argsL := [(.int (0 : Int32)), (.int (1 : Int32))]) (rest := []) (lenOf own_pd11 rfl) rfl (by show 2 * 0 + _ ≤ _; exact Nat.le_of_eq rfl) (hb hby d19_3) (fun _ _ => ⟨rfl, e0, (by decide : 0 + 0 ≤ _), (by decide : 0 + 0 ≤ _)⟩)
  dsimp only [Pt.U, Pt.locs, Pt.cells, Pt.slots] at X2 l2 y2 z2 st2 hQ2
  subst l2 y2 z2
  obtain ⟨rfl, Nq2, e2⟩ := hQ2
  have N2 := Fr.app N0 Nq2
  refine ogo (S' := T2.setTop (mkF m 6 #[.val (.ref ba_), .val (.int (0 : Int32))] [])) st2 ?_
  refine o_aloadN X2 hx (hb hby d19_6) rfl rfl ?_
  refine o_iloadN X2 hx (hb hby d19_7) rfl ?_
  obtain ⟨cl3, Ar3, q3, S3, N3z, H3, G3⟩ := (id pr0)
  have hi3 := inb_of (j := (0 : Int32)) S3 ⟨by decide, by decide⟩
  have ha3 := Has.at (v := (.int c0_.toInt8.toInt32)) H3 hi3 rfl
  refine ogo (S' := T2.setTop (mkF m 9 #[.val (.ref ba_), .val (.int (0 : Int32))] [(.int c0_.toInt8.toInt32)])) (X2.baloadBytes hx (j := (0 : Int32)) (v := (.int c0_.toInt8.toInt32)) (by rw [e2]; exact Ar3.1) (State.isArrayOf_alike hZ.alike Ar3.2.1) Ar3.2.2 hi3 ha3 (g := (mkF m 8 #[.val (.ref ba_), .val (.int (0 : Int32))] [(.int (0 : Int32)), (.ref ba_)])) rfl rfl (hb hby d19_8)) ?_
  refine o_sipush X2 hx (255 : Int32) (hb hby d19_9) rfl ?_
  refine o_iand X2 hx (hb hby d19_12) ?_
  refine o_i2c X2 hx (hb hby d19_13) ?_
  rw [own_char pr1 pr2]
  refine oend X2 hlk (v := some (.int c0_)) (fun h => by rw [hret] at h; cases h) (fun fs hr => retN X2 hx (t := .char) hret (by simp) (hb hby d19_14) (by rw [(own_narsm pr1 pr2)]; exact hr)) (by decide) (by decide) ?_
  show own_Q_l1c_1_0 Z _ _ _ _ _ h0 n0 _ T2.heap _
  rw [e2]
  exact ⟨rfl, N2, rfl⟩
theorem d20_0 : decode jdk_52_method_6_code 0 = .ok (.aload_n 0, 1) := by decide +kernel
theorem d20_1 : decode jdk_52_method_6_code 1 = .ok (.arraylength, 1) := by decide +kernel
theorem d20_2 : decode jdk_52_method_6_code 2 = .ok (.iconst 1, 1) := by decide +kernel
theorem d20_3 : decode jdk_52_method_6_code 3 = .ok (.ishr, 1) := by decide +kernel
theorem d20_4 : decode jdk_52_method_6_code 4 = .ok (.ireturn, 1) := by decide +kernel
def own_Q_u16len_1 (Z : State)  (ba_ : Addr) (kb_ : ClassId) (vs_ : List Value) (h0 : Heap) (n0 : Nat) (v : Option Value) (h : Heap) (L : List Loc) : Prop := (v = some (.int (1 : Int32))) ∧ (Fr n0 L) ∧ (h = h0)
abbrev yM19 : MethodName := ⟨"java/lang/StringUTF16", "length", "([B)I"⟩
set_option maxRecDepth 65536 in
set_option maxHeartbeats 40000000 in
theorem rm_u16len_1 (l : Launch) (Z : State) (a0 : Array Value) (hw : ∀ d ∈ tables_1, d.before a0 Z = true) (ws : List Jvm.Cond)  (ba_ : Addr) (kb_ : ClassId) (vs_ : List Value) (h0 : Heap) (n0 : Nat) (O0 : Old Z n0 h0) (pr0 : Arv Z h0 ba_ kb_ .byte (2 : Int32) vs_ (.int 0)) :
    oMet l Z yM19 jdk_52_method_6_code 1 (some .int) ws ({ frames := 0, cells := 0, slots := 0, locals := 0 } : Room) 0 0 #[(.ref ba_)] h0 (own_Q_u16len_1 Z  ba_ kb_ vs_ h0 n0) := by
  refine oenter own_pn1 #[.val (.ref ba_)] (fun m => by first | (simp [entryFrame, mkF, argsToLocals, Value.category]; done) | rfl) ?_
  intro p e s m below meth c s₁ X0 hx hZ hby hml hret hown0 hnm hlk e0
  have hown : s.vm.findClass "java/lang/StringUTF16" = some m.cls := hown0
  have N0 := Fr.nil n0
  refine o_aloadN X0 hx (hb hby d20_0) rfl rfl ?_
  obtain ⟨cl1, Ar1, -, S1, N1z, -, -⟩ := (id pr0)
  refine ogo (S' := s₁.setTop (mkF m 2 #[.val (.ref ba_)] [(.int (2 : Int32))])) (fun _ kt_ => X0.arraylength hx (by rw [e0]; exact Ar1.1) (State.isArrayOf_alike hZ.alike Ar1.2.1) (g := (mkF m 1 #[.val (.ref ba_)] [(.ref ba_)])) rfl rfl (hb hby d20_1) _ (by rw [len_of S1 N1z]; exact kt_)) ?_
  refine o_iconst X0 hx (1 : Int32) (hb hby d20_2) rfl ?_
  refine o_ishr X0 hx (hb hby d20_3) ?_
  refine oend X0 hlk (v := some (.int (1 : Int32))) (fun h => by rw [hret] at h; cases h) (fun fs hr => retOut X0 hx (t := .int) (i := .ireturn) hret rfl (Or.inl ⟨rfl, Or.inl rfl, _, rfl⟩) (hb hby d20_4) hr) (by decide) (by decide) ?_
  show own_Q_u16len_1 Z _ _ _ h0 n0 _ s₁.heap _
  rw [e0]
  exact ⟨rfl, N0, rfl⟩
theorem own_pd12 : parseMethodDescriptor "([B)I" = some ⟨[(.array .byte)], some .int⟩ := by decide +kernel
theorem d21_0 : decode jdk_52_method_91_code 0 = .ok (.iload_n 0, 1) := by decide +kernel
theorem d21_1 : decode jdk_52_method_91_code 1 = .ok (.aload_n 1, 1) := by decide +kernel
theorem d21_2 : decode jdk_52_method_91_code 2 = .ok (.invokestatic 48, 3) := by decide +kernel
theorem d21_5 : decode jdk_52_method_91_code 5 = .ok (.invokestatic 414, 3) := by decide +kernel
theorem d21_8 : decode jdk_52_method_91_code 8 = .ok (.return_, 1) := by decide +kernel
def own_Q_u16ci_1_0 (Z : State) (z_CS : Int32) (v_FMT : Value) (ba_ : Addr) (kb_ : ClassId) (vs_ : List Value) (h0 : Heap) (n0 : Nat) (v : Option Value) (h : Heap) (L : List Loc) : Prop := (v = none) ∧ (Fr n0 L) ∧ (h = h0)
abbrev yM20 : MethodName := ⟨"java/lang/StringUTF16", "checkIndex", "(I[B)V"⟩
set_option maxRecDepth 65536 in
set_option maxHeartbeats 40000000 in
theorem rm_u16ci_1_0 (l : Launch) (Z : State) (a0 : Array Value) (hw : ∀ d ∈ tables_1, d.before a0 Z = true) (ws : List Jvm.Cond) (z_CS : Int32) (v_FMT : Value) (ba_ : Addr) (kb_ : ClassId) (vs_ : List Value) (h0 : Heap) (n0 : Nat) (SB : own_Start Z z_CS v_FMT) (O0 : Old Z n0 h0) (pr0 : Arv Z h0 ba_ kb_ .byte (2 : Int32) vs_ (.int 0)) :
    oMet l Z yM20 jdk_52_method_91_code 2 none ws ({ frames := 2, cells := 0, slots := 0, locals := 27 } : Room) 0 0 #[(.int (0 : Int32)), (.ref ba_)] h0 (own_Q_u16ci_1_0 Z z_CS v_FMT ba_ kb_ vs_ h0 n0) := by
  refine oenter own_pn1 #[.val (.int (0 : Int32)), .val (.ref ba_)] (fun m => by first | (simp [entryFrame, mkF, argsToLocals, Value.category]; done) | rfl) ?_
  intro p e s m below meth c s₁ X0 hx hZ hby hml hret hown0 hnm hlk e0
  have hown : s.vm.findClass "java/lang/StringUTF16" = some m.cls := hown0
  have N0 := Fr.nil n0
  obtain ⟨S_CS, H_CS, S__assertionsDisabled, S_HI_BYTE_SHIFT, S_LO_BYTE_SHIFT, S_FMT, R_FMT⟩ := (id SB)
  have w7 := hw _ (List.mem_of_getElem? (i := 7) rfl)
  have w62 := hw _ (List.mem_of_getElem? (i := 62) rfl)
  have w85 := hw _ (List.mem_of_getElem? (i := 85) rfl)
  have w86 := hw _ (List.mem_of_getElem? (i := 86) rfl)
  have w117 := hw _ (List.mem_of_getElem? (i := 117) rfl)
  have w118 := hw _ (List.mem_of_getElem? (i := 118) rfl)
  have w119 := hw _ (List.mem_of_getElem? (i := 119) rfl)
  have w120 := hw _ (List.mem_of_getElem? (i := 120) rfl)
  refine o_iloadN X0 hx (hb hby d21_0) rfl ?_
  refine o_aloadN X0 hx (hb hby d21_1) rfl rfl ?_
  obtain ⟨_, _, ⟨T1, L1, kc1, n1⟩, -, X1, ⟨Lc1, hQ1, l1, y1, z1⟩, st1⟩ := Jvm.LawKit.callS X0 hx (y := yM19) hown (mvT hZ w117) (mvT hZ w118) (mvT hZ w62) (mvT hZ w119) (by decide) (backOf (W := 1) (rm_u16len_1 l Z a0 hw []  ba_ kb_ vs_ h0 n0 O0 pr0) hZ w119 w62 (by decide) (by decide)) (g := (mkF m 2 #[.val (.int (0 : Int32)), .val (.ref ba_)] [(.ref ba_), (.int (0 : Int32))])) rfl (by rw [hml]; rfl) (argsL := [(.ref ba_)]) (rest := [(.int (0 : Int32))]) (lenOf own_pd12 rfl) rfl (by show 2 * 0 + _ ≤ _; exact Nat.le_of_eq rfl) (hb hby d21_2) (fun _ _ => ⟨rfl, e0, (by decide : 0 + 0 ≤ _), (by decide : 0 + 0 ≤ _)⟩)
  dsimp only [Pt.U, Pt.locs, Pt.cells, Pt.slots] at X1 l1 y1 z1 st1 hQ1
  subst l1 y1 z1
  obtain ⟨rfl, Nq1, e1⟩ := hQ1
  have N1 := Fr.app N0 Nq1
  refine ogo (S' := T1.setTop (mkF m 5 #[.val (.int (0 : Int32)), .val (.ref ba_)] [(.int (1 : Int32)), (.int (0 : Int32))])) st1 ?_
  obtain ⟨_, _, ⟨T2, L2, kc2, n2⟩, -, X2, ⟨Lc2, hQ2, l2, y2, z2⟩, st2⟩ := Jvm.LawKit.callS X1 hx (y := yM17) hown (mvT hZ w120) (mvT hZ w85) (mvT hZ w7) (mvT hZ w86) (by decide) (backOf (W := 0) (rm_sci l Z a0 hw [] z_CS v_FMT (0 : Int32) (1 : Int32) h0 n0 SB O0 (by decide) (by decide)) hZ w86 w7 (by decide) (by decide)) (g := (mkF m 5 #[.val (.int (0 : Int32)), .val (.ref ba_)] [(.int (1 : Int32)), (.int (0 : Int32))])) rfl (by rw [hml]; rfl) (argsL := [(.int (0 : Int32)), (.int (1 : Int32))]) (rest := []) (lenOf own_pd11 rfl) rfl (by show 2 * 0 + _ ≤ _; exact Nat.le_of_eq rfl) (hb hby d21_5) (fun _ _ => ⟨rfl, e1, (by decide : 0 + 0 ≤ _), (by decide : 0 + 0 ≤ _)⟩)
  dsimp only [Pt.U, Pt.locs, Pt.cells, Pt.slots] at X2 l2 y2 z2 st2 hQ2
  subst l2 y2 z2
  obtain ⟨rfl, Nq2, e2⟩ := hQ2
  have N2 := Fr.app N1 Nq2
  refine ogo (S' := T2.setTop (mkF m 8 #[.val (.int (0 : Int32)), .val (.ref ba_)] [])) st2 ?_
  refine oend X2 hlk (v := none) (fun _ => rfl) (fun fs hr => X2.returnOut hx hret (hb hby d21_8) hr) (by decide) (by decide) ?_
  show own_Q_u16ci_1_0 Z _ _ _ _ _ h0 n0 _ T2.heap _
  rw [e2]
  exact ⟨rfl, N2, rfl⟩
theorem own_pd13 : parseMethodDescriptor "(I[B)V" = some ⟨[.int, (.array .byte)], none⟩ := by decide +kernel
theorem d22_0 : decode jdk_52_method_83_code 0 = .ok (.iload_n 1, 1) := by decide +kernel
theorem d22_1 : decode jdk_52_method_83_code 1 = .ok (.aload_n 0, 1) := by decide +kernel
theorem d22_2 : decode jdk_52_method_83_code 2 = .ok (.invokestatic 67, 3) := by decide +kernel
theorem d22_5 : decode jdk_52_method_83_code 5 = .ok (.aload_n 0, 1) := by decide +kernel
theorem d22_6 : decode jdk_52_method_83_code 6 = .ok (.iload_n 1, 1) := by decide +kernel
theorem d22_7 : decode jdk_52_method_83_code 7 = .ok (.invokestatic 71, 3) := by decide +kernel
theorem d22_10 : decode jdk_52_method_83_code 10 = .ok (.ireturn, 1) := by decide +kernel
def own_Q_u16cat_1_0 (Z : State) (z_CS : Int32) (v_FMT : Value) (ba_ : Addr) (kb_ : ClassId) (c0_ : Int32) (h0 : Heap) (n0 : Nat) (v : Option Value) (h : Heap) (L : List Loc) : Prop := (v = some (.int c0_)) ∧ (Fr n0 L) ∧ (h = h0)
abbrev yM21 : MethodName := ⟨"java/lang/StringUTF16", "charAt", "([BI)C"⟩
set_option maxRecDepth 65536 in
set_option maxHeartbeats 40000000 in
theorem rm_u16cat_1_0 (l : Launch) (Z : State) (a0 : Array Value) (hw : ∀ d ∈ tables_1, d.before a0 Z = true) (ws : List Jvm.Cond) (z_CS : Int32) (v_FMT : Value) (ba_ : Addr) (kb_ : ClassId) (c0_ : Int32) (h0 : Heap) (n0 : Nat) (SB : own_Start Z z_CS v_FMT) (O0 : Old Z n0 h0) (pr0 : Arv Z h0 ba_ kb_ .byte (2 : Int32) [(.int (c0_ >>> ((0 : Int32) &&& 31)).toInt8.toInt32), (.int (c0_ >>> ((8 : Int32) &&& 31)).toInt8.toInt32)] (.int 0)) (pr1 : own_c16 c0_) :
    oMet l Z yM21 jdk_52_method_83_code 2 (some .char) ws ({ frames := 3, cells := 0, slots := 0, locals := 40 } : Room) 0 0 #[(.ref ba_), (.int (0 : Int32))] h0 (own_Q_u16cat_1_0 Z z_CS v_FMT ba_ kb_ c0_ h0 n0) := by
  refine oenter own_pn1 #[.val (.ref ba_), .val (.int (0 : Int32))] (fun m => by first | (simp [entryFrame, mkF, argsToLocals, Value.category]; done) | rfl) ?_
  intro p e s m below meth c s₁ X0 hx hZ hby hml hret hown0 hnm hlk e0
  have hown : s.vm.findClass "java/lang/StringUTF16" = some m.cls := hown0
  have N0 := Fr.nil n0
  obtain ⟨S_CS, H_CS, S__assertionsDisabled, S_HI_BYTE_SHIFT, S_LO_BYTE_SHIFT, S_FMT, R_FMT⟩ := (id SB)
  have w62 := hw _ (List.mem_of_getElem? (i := 62) rfl)
  have w108 := hw _ (List.mem_of_getElem? (i := 108) rfl)
  have w109 := hw _ (List.mem_of_getElem? (i := 109) rfl)
  have w110 := hw _ (List.mem_of_getElem? (i := 110) rfl)
  have w114 := hw _ (List.mem_of_getElem? (i := 114) rfl)
  have w115 := hw _ (List.mem_of_getElem? (i := 115) rfl)
  have w116 := hw _ (List.mem_of_getElem? (i := 116) rfl)
  refine o_iloadN X0 hx (hb hby d22_0) rfl ?_
  refine o_aloadN X0 hx (hb hby d22_1) rfl rfl ?_
  obtain ⟨_, _, ⟨T1, L1, kc1, n1⟩, -, X1, ⟨Lc1, hQ1, l1, y1, z1⟩, st1⟩ := Jvm.LawKit.callS X0 hx (y := yM20) hown (mvT hZ w114) (mvT hZ w115) (mvT hZ w62) (mvT hZ w116) (by decide) (backOf (W := 0) (rm_u16ci_1_0 l Z a0 hw [] z_CS v_FMT ba_ kb_ [(.int (c0_ >>> ((0 : Int32) &&& 31)).toInt8.toInt32), (.int (c0_ >>> ((8 : Int32) &&& 31)).toInt8.toInt32)] h0 n0 SB O0 pr0) hZ w116 w62 (by decide) (by decide)) (g := (mkF m 2 #[.val (.ref ba_), .val (.int (0 : Int32))] [(.ref ba_), (.int (0 : Int32))])) rfl (by rw [hml]; rfl) (argsL := [(.int (0 : Int32)), (.ref ba_)]) (rest := []) (lenOf own_pd13 rfl) rfl (by show 2 * 0 + _ ≤ _; exact Nat.le_of_eq rfl) (hb hby d22_2) (fun _ _ => ⟨rfl, e0, (by decide : 0 + 0 ≤ _), (by decide : 0 + 0 ≤ _)⟩)
  dsimp only [Pt.U, Pt.locs, Pt.cells, Pt.slots] at X1 l1 y1 z1 st1 hQ1
  subst l1 y1 z1
  obtain ⟨rfl, Nq1, e1⟩ := hQ1
  have N1 := Fr.app N0 Nq1
  refine ogo (S' := T1.setTop (mkF m 5 #[.val (.ref ba_), .val (.int (0 : Int32))] [])) st1 ?_
  refine o_aloadN X1 hx (hb hby d22_5) rfl rfl ?_
  refine o_iloadN X1 hx (hb hby d22_6) rfl ?_
  obtain ⟨_, _, ⟨T2, L2, kc2, n2⟩, -, X2, ⟨Lc2, hQ2, l2, y2, z2⟩, st2⟩ := Jvm.LawKit.callS X1 hx (y := yM8) hown (mvT hZ w108) (mvT hZ w109) (mvT hZ w62) (mvT hZ w110) (by decide) (backOf (W := 0) (rm_getch_1_0 l Z a0 hw [] z_CS v_FMT ba_ kb_ c0_ h0 n0 SB O0 pr0 pr1) hZ w110 w62 (by decide) (by decide)) (g := (mkF m 7 #[.val (.ref ba_), .val (.int (0 : Int32))] [(.int (0 : Int32)), (.ref ba_)])) rfl (by rw [hml]; rfl) (argsL := [(.ref ba_), (.int (0 : Int32))]) (rest := []) (lenOf own_pd5 rfl) rfl (by show 2 * 0 + _ ≤ _; exact Nat.le_of_eq rfl) (hb hby d22_7) (fun _ _ => ⟨rfl, e1, (by decide : 0 + 0 ≤ _), (by decide : 0 + 0 ≤ _)⟩)
  dsimp only [Pt.U, Pt.locs, Pt.cells, Pt.slots] at X2 l2 y2 z2 st2 hQ2
  subst l2 y2 z2
  obtain ⟨rfl, Nq2, e2⟩ := hQ2
  have N2 := Fr.app N1 Nq2
  refine ogo (S' := T2.setTop (mkF m 10 #[.val (.ref ba_), .val (.int (0 : Int32))] [(.int c0_)])) st2 ?_
  refine oend X2 hlk (v := some (.int c0_)) (fun h => by rw [hret] at h; cases h) (fun fs hr => retN X2 hx (t := .char) hret (by simp) (hb hby d22_10) (by rw [(own_nar16 pr1)]; exact hr)) (by decide) (by decide) ?_
  show own_Q_u16cat_1_0 Z _ _ _ _ _ h0 n0 _ T2.heap _
  rw [e2]
  exact ⟨rfl, N2, rfl⟩
theorem own_pd14 : parseMethodDescriptor "()Z" = some ⟨[], some .boolean⟩ := by decide +kernel
theorem d23_0 : decode jdk_42_method_56_code 0 = .ok (.aload_n 0, 1) := by decide +kernel
theorem d23_1 : decode jdk_42_method_56_code 1 = .ok (.invokevirtual 492, 3) := by decide +kernel
theorem d23_4 : decode jdk_42_method_56_code 4 = .ok (.ifCond .eq 12, 3) := by decide +kernel
theorem d23_7 : decode jdk_42_method_56_code 7 = .ok (.aload_n 0, 1) := by decide +kernel
theorem d23_8 : decode jdk_42_method_56_code 8 = .ok (.getfield 9, 3) := by decide +kernel
theorem d23_11 : decode jdk_42_method_56_code 11 = .ok (.iload_n 1, 1) := by decide +kernel
theorem d23_12 : decode jdk_42_method_56_code 12 = .ok (.invokestatic 495, 3) := by decide +kernel
theorem d23_15 : decode jdk_42_method_56_code 15 = .ok (.ireturn, 1) := by decide +kernel
theorem d23_16 : decode jdk_42_method_56_code 16 = .ok (.aload_n 0, 1) := by decide +kernel
theorem d23_17 : decode jdk_42_method_56_code 17 = .ok (.getfield 9, 3) := by decide +kernel
theorem d23_20 : decode jdk_42_method_56_code 20 = .ok (.iload_n 1, 1) := by decide +kernel
theorem d23_21 : decode jdk_42_method_56_code 21 = .ok (.invokestatic 498, 3) := by decide +kernel
theorem d23_24 : decode jdk_42_method_56_code 24 = .ok (.ireturn, 1) := by decide +kernel
def own_Q_ecat_1_0 (Z : State) (z_CS : Int32) (v_FMT : Value) (x_ : Addr) (ba_ : Addr) (kb_ : ClassId) (cd_ : Int32) (z_ : Int32) (vs_ : List Value) (c0_ : Int32) (h0 : Heap) (n0 : Nat) (v : Option Value) (h : Heap) (L : List Loc) : Prop := (v = some (.int c0_)) ∧ (Fr n0 L) ∧ (h = h0)
abbrev yM22 : MethodName := ⟨"java/lang/String", "charAt", "(I)C"⟩
set_option maxRecDepth 65536 in
set_option maxHeartbeats 40000000 in
theorem rm_ecat_1_0 (l : Launch) (Z : State) (a0 : Array Value) (hw : ∀ d ∈ tables_1, d.before a0 Z = true) (ws : List Jvm.Cond) (z_CS : Int32) (v_FMT : Value) (x_ : Addr) (ba_ : Addr) (kb_ : ClassId) (cd_ : Int32) (z_ : Int32) (vs_ : List Value) (c0_ : Int32) (h0 : Heap) (n0 : Nat) (SB : own_Start Z z_CS v_FMT) (O0 : Old Z n0 h0) (pr0 : Exa Z h0 x_ "java/lang/String") (pr1 : Fld Z h0 x_ "java/lang/String" "coder" "B" (.int cd_)) (pr2 : Fld Z h0 x_ "java/lang/String" "value" "[B" (.ref ba_)) (pr3 : Arv Z h0 ba_ kb_ .byte z_ vs_ (.int 0)) (pr4 : own_enc1 c0_ cd_ z_ vs_) (pr5 : own_c16 c0_) :
    oMet l Z yM22 jdk_42_method_56_code 2 (some .char) ws ({ frames := 4, cells := 0, slots := 0, locals := 53 } : Room) 0 0 #[(.ref x_), (.int (0 : Int32))] h0 (own_Q_ecat_1_0 Z z_CS v_FMT x_ ba_ kb_ cd_ z_ vs_ c0_ h0 n0) := by
  refine oenter own_pn2 #[.val (.ref x_), .val (.int (0 : Int32))] (fun m => by first | (simp [entryFrame, mkF, argsToLocals, Value.category]; done) | rfl) ?_
  intro p e s m below meth c s₁ X0 hx hZ hby hml hret hown0 hnm hlk e0
  have hown : s.vm.findClass "java/lang/String" = some m.cls := hown0
  have N0 := Fr.nil n0
  obtain ⟨S_CS, H_CS, S__assertionsDisabled, S_HI_BYTE_SHIFT, S_LO_BYTE_SHIFT, S_FMT, R_FMT⟩ := (id SB)
  have w7 := hw _ (List.mem_of_getElem? (i := 7) rfl)
  have w25 := hw _ (List.mem_of_getElem? (i := 25) rfl)
  have w62 := hw _ (List.mem_of_getElem? (i := 62) rfl)
  have w75 := hw _ (List.mem_of_getElem? (i := 75) rfl)
  have w76 := hw _ (List.mem_of_getElem? (i := 76) rfl)
  have w77 := hw _ (List.mem_of_getElem? (i := 77) rfl)
  have w78 := hw _ (List.mem_of_getElem? (i := 78) rfl)
  have w79 := hw _ (List.mem_of_getElem? (i := 79) rfl)
  have w80 := hw _ (List.mem_of_getElem? (i := 80) rfl)
  have w81 := hw _ (List.mem_of_getElem? (i := 81) rfl)
  have w82 := hw _ (List.mem_of_getElem? (i := 82) rfl)
  have w83 := hw _ (List.mem_of_getElem? (i := 83) rfl)
  have w111 := hw _ (List.mem_of_getElem? (i := 111) rfl)
  have w112 := hw _ (List.mem_of_getElem? (i := 112) rfl)
  have w113 := hw _ (List.mem_of_getElem? (i := 113) rfl)
  rcases pr4 with ⟨hs0, rfl, rfl, rfl⟩ | ⟨rfl, rfl, rfl⟩
  · refine o_aloadN X0 hx (hb hby d23_0) rfl rfl ?_
    obtain ⟨cq1, kq1, q1a, q1b, q1c⟩ := isOf hZ e0 pr0
    obtain ⟨_, _, ⟨T1, L1, kc1, n1⟩, -, X1, ⟨Lc1, hQ1, l1, y1, z1⟩, st1⟩ := X0.virtualBack hx (y := yM15) (z := yM15) hown (mvT hZ w75) (mvT hZ w76) (notFace_of_selects (args := #[]) (mvT hZ w78)) (mvT hZ w78) (mvT hZ w77) (by decide) (backOf (W := 0) (rm_isl1_0 l Z a0 hw [] z_CS v_FMT x_ h0 n0 SB O0 pr1) hZ w79 w7 (by decide) (by decide)) q1a q1c (g := (mkF m 1 #[.val (.ref x_), .val (.int (0 : Int32))] [(.ref x_)])) rfl (by rw [hml]; rfl) (Steps.refl _) (argsL := []) (rest := []) (lenOf own_pd14 rfl) rfl (by show 2 * 0 + _ ≤ _; exact Nat.le_of_eq rfl) (hb hby d23_1) (fun _ _ => ⟨rfl, e0, (by decide : 0 + 0 ≤ _), (by decide : 0 + 0 ≤ _)⟩)
    dsimp only [Pt.U, Pt.locs, Pt.cells, Pt.slots] at X1 l1 y1 z1 st1 hQ1
    subst l1 y1 z1
    obtain ⟨rfl, Nq1, e1⟩ := hQ1
    have N1 := Fr.app N0 Nq1
    refine otr (S' := T1.setTop (mkF m 4 #[.val (.ref x_), .val (.int (0 : Int32))] [(.int (1 : Int32))])) st1 ?_
    refine o_ifNo X1 hx (hb hby d23_4) (feq (by decide : ¬ ((1 : Int32) = (0 : Int32)))).1 ?_
    refine o_aloadN X1 hx (hb hby d23_7) rfl rfl ?_
    obtain ⟨T2, X2, e2, st2⟩ := getF X1 hx hZ hown (host := "") (Or.inl w25) Via.refl e1 pr2 (g := (mkF m 8 #[.val (.ref x_), .val (.int (0 : Int32))] [(.ref x_)])) rfl rfl (hb hby d23_8)
    refine ogo (S' := T2.setTop (mkF m 11 #[.val (.ref x_), .val (.int (0 : Int32))] [(.ref ba_)])) st2 ?_
    refine o_iloadN X2 hx (hb hby d23_11) rfl ?_
    obtain ⟨_, _, ⟨T3, L3, kc3, n3⟩, -, X3, ⟨Lc3, hQ3, l3, y3, z3⟩, st3⟩ := Jvm.LawKit.callS X2 hx (y := yM18) hown (mvT hZ w80) (mvT hZ w81) (mvT hZ w82) (mvT hZ w83) (by decide) (backOf (W := 0) (rm_l1c_1_0 l Z a0 hw [] z_CS v_FMT ba_ kb_ c0_ h0 n0 SB O0 pr3 (own_c16n pr5) hs0) hZ w83 w82 (by decide) (by decide)) (g := (mkF m 12 #[.val (.ref x_), .val (.int (0 : Int32))] [(.int (0 : Int32)), (.ref ba_)])) rfl (by rw [hml]; rfl) (argsL := [(.ref ba_), (.int (0 : Int32))]) (rest := []) (lenOf own_pd5 rfl) rfl (by show 2 * 0 + _ ≤ _; exact Nat.le_of_eq rfl) (hb hby d23_12) (fun _ _ => ⟨rfl, e2, (by decide : 0 + 0 ≤ _), (by decide : 0 + 0 ≤ _)⟩)
    dsimp only [Pt.U, Pt.locs, Pt.cells, Pt.slots] at X3 l3 y3 z3 st3 hQ3
    subst l3 y3 z3
    obtain ⟨rfl, Nq3, e3⟩ := hQ3
    have N3 := Fr.app N1 Nq3
    refine ogo (S' := T3.setTop (mkF m 15 #[.val (.ref x_), .val (.int (0 : Int32))] [(.int c0_)])) st3 ?_
    refine oend X3 hlk (v := some (.int c0_)) (fun h => by rw [hret] at h; cases h) (fun fs hr => retN X3 hx (t := .char) hret (by simp) (hb hby d23_15) (by rw [(own_nar16 pr5)]; exact hr)) (by decide) (by decide) ?_
    show own_Q_ecat_1_0 Z _ _ _ _ _ _ _ _ _ h0 n0 _ T3.heap _
    rw [e3]
    exact ⟨rfl, N3, rfl⟩
  · refine o_aloadN X0 hx (hb hby d23_0) rfl rfl ?_
    obtain ⟨cq4, kq4, q4a, q4b, q4c⟩ := isOf hZ e0 pr0
    obtain ⟨_, _, ⟨T4, L4, kc4, n4⟩, -, X4, ⟨Lc4, hQ4, l4, y4, z4⟩, st4⟩ := X0.virtualBack hx (y := yM15) (z := yM15) hown (mvT hZ w75) (mvT hZ w76) (notFace_of_selects (args := #[]) (mvT hZ w78)) (mvT hZ w78) (mvT hZ w77) (by decide) (backOf (W := 0) (rm_isl1_1 l Z a0 hw [] z_CS v_FMT x_ h0 n0 SB O0 pr1) hZ w79 w7 (by decide) (by decide)) q4a q4c (g := (mkF m 1 #[.val (.ref x_), .val (.int (0 : Int32))] [(.ref x_)])) rfl (by rw [hml]; rfl) (Steps.refl _) (argsL := []) (rest := []) (lenOf own_pd14 rfl) rfl (by show 2 * 0 + _ ≤ _; exact Nat.le_of_eq rfl) (hb hby d23_1) (fun _ _ => ⟨rfl, e0, (by decide : 0 + 0 ≤ _), (by decide : 0 + 0 ≤ _)⟩)
    dsimp only [Pt.U, Pt.locs, Pt.cells, Pt.slots] at X4 l4 y4 z4 st4 hQ4
    subst l4 y4 z4
    obtain ⟨rfl, Nq4, e4⟩ := hQ4
    have N4 := Fr.app N0 Nq4
    refine otr (S' := T4.setTop (mkF m 4 #[.val (.ref x_), .val (.int (0 : Int32))] [(.int (0 : Int32))])) st4 ?_
    refine o_ifYes X4 hx 16 (hb hby d23_4) (teq (by decide : (0 : Int32) = (0 : Int32))).1 (by decide) (by decide) ?_
    refine o_aloadN X4 hx (hb hby d23_16) rfl rfl ?_
    obtain ⟨T5, X5, e5, st5⟩ := getF X4 hx hZ hown (host := "") (Or.inl w25) Via.refl e4 pr2 (g := (mkF m 17 #[.val (.ref x_), .val (.int (0 : Int32))] [(.ref x_)])) rfl rfl (hb hby d23_17)
    refine ogo (S' := T5.setTop (mkF m 20 #[.val (.ref x_), .val (.int (0 : Int32))] [(.ref ba_)])) st5 ?_
    refine o_iloadN X5 hx (hb hby d23_20) rfl ?_
    obtain ⟨_, _, ⟨T6, L6, kc6, n6⟩, -, X6, ⟨Lc6, hQ6, l6, y6, z6⟩, st6⟩ := Jvm.LawKit.callS X5 hx (y := yM21) hown (mvT hZ w111) (mvT hZ w112) (mvT hZ w62) (mvT hZ w113) (by decide) (backOf (W := 0) (rm_u16cat_1_0 l Z a0 hw [] z_CS v_FMT ba_ kb_ c0_ h0 n0 SB O0 pr3 pr5) hZ w113 w62 (by decide) (by decide)) (g := (mkF m 21 #[.val (.ref x_), .val (.int (0 : Int32))] [(.int (0 : Int32)), (.ref ba_)])) rfl (by rw [hml]; rfl) (argsL := [(.ref ba_), (.int (0 : Int32))]) (rest := []) (lenOf own_pd5 rfl) rfl (by show 2 * 0 + _ ≤ _; exact Nat.le_of_eq rfl) (hb hby d23_21) (fun _ _ => ⟨rfl, e5, (by decide : 0 + 0 ≤ _), (by decide : 0 + 0 ≤ _)⟩)
    dsimp only [Pt.U, Pt.locs, Pt.cells, Pt.slots] at X6 l6 y6 z6 st6 hQ6
    subst l6 y6 z6
    obtain ⟨rfl, Nq6, e6⟩ := hQ6
    have N6 := Fr.app N4 Nq6
    refine ogo (S' := T6.setTop (mkF m 24 #[.val (.ref x_), .val (.int (0 : Int32))] [(.int c0_)])) st6 ?_
    refine oend X6 hlk (v := some (.int c0_)) (fun h => by rw [hret] at h; cases h) (fun fs hr => retN X6 hx (t := .char) hret (by simp) (hb hby d23_24) (by rw [(own_nar16 pr5)]; exact hr)) (by decide) (by decide) ?_
    show own_Q_ecat_1_0 Z _ _ _ _ _ _ _ _ _ h0 n0 _ T6.heap _
    rw [e6]
    exact ⟨rfl, N6, rfl⟩
theorem own_pd15 : parseMethodDescriptor "(I)C" = some ⟨[.int], some .char⟩ := by decide +kernel
theorem d14_14 : decode prog_8_method_4_code 14 = .ok (.aload_n 0, 1) := by decide +kernel
theorem d14_15 : decode prog_8_method_4_code 15 = .ok (.getfield 7, 3) := by decide +kernel
theorem d14_18 : decode prog_8_method_4_code 18 = .ok (.aload_n 0, 1) := by decide +kernel
theorem d14_19 : decode prog_8_method_4_code 19 = .ok (.getfield 25, 3) := by decide +kernel
theorem d14_22 : decode prog_8_method_4_code 22 = .ok (.invokevirtual 39, 3) := by decide +kernel
theorem d14_25 : decode prog_8_method_4_code 25 = .ok (.iload_n 1, 1) := by decide +kernel
theorem d14_26 : decode prog_8_method_4_code 26 = .ok (.if_icmp .ne 7, 3) := by decide +kernel
theorem d14_29 : decode prog_8_method_4_code 29 = .ok (.iconst 1, 1) := by decide +kernel
theorem d14_30 : decode prog_8_method_4_code 30 = .ok (.goto 4, 3) := by decide +kernel
theorem d14_39 : decode prog_8_method_4_code 39 = .ok (.aload_n 0, 1) := by decide +kernel
theorem d14_40 : decode prog_8_method_4_code 40 = .ok (.dup, 1) := by decide +kernel
theorem d14_41 : decode prog_8_method_4_code 41 = .ok (.getfield 25, 3) := by decide +kernel
theorem d14_44 : decode prog_8_method_4_code 44 = .ok (.iconst 1, 1) := by decide +kernel
theorem d14_45 : decode prog_8_method_4_code 45 = .ok (.iadd, 1) := by decide +kernel
theorem d14_46 : decode prog_8_method_4_code 46 = .ok (.putfield 25, 3) := by decide +kernel
def own_Q_skipT_1_0 (Z : State) (z_CS : Int32) (v_FMT : Value) (t_ : Addr) (x_ : Addr) (ba_ : Addr) (kb_ : ClassId) (cd_ : Int32) (z_ : Int32) (vs_ : List Value) (c0_ : Int32) (u_ : Int32) (h0 : Heap) (n0 : Nat) (v : Option Value) (h : Heap) (L : List Loc) : Prop := (v = some (.int (1 : Int32))) ∧ (Fr n0 L) ∧ (Keep h0 h [t_]) ∧ (Exa Z h t_ "com/example/rowfold/rowfold/Literal") ∧ (Fld Z h t_ "com/example/rowfold/rowfold/Literal" "text" "Ljava/lang/String;" (.ref x_)) ∧ (Fld Z h t_ "com/example/rowfold/rowfold/Literal" "at" "I" (.int (1 : Int32)))
set_option maxRecDepth 65536 in
set_option maxHeartbeats 40000000 in
theorem rm_skipT_1_0 (l : Launch) (Z : State) (a0 : Array Value) (hw : ∀ d ∈ tables_1, d.before a0 Z = true) (ws : List Jvm.Cond) (z_CS : Int32) (v_FMT : Value) (t_ : Addr) (x_ : Addr) (ba_ : Addr) (kb_ : ClassId) (cd_ : Int32) (z_ : Int32) (vs_ : List Value) (c0_ : Int32) (u_ : Int32) (h0 : Heap) (n0 : Nat) (SB : own_Start Z z_CS v_FMT) (O0 : Old Z n0 h0) (pr0 : Exa Z h0 t_ "com/example/rowfold/rowfold/Literal") (pr1 : Fld Z h0 t_ "com/example/rowfold/rowfold/Literal" "text" "Ljava/lang/String;" (.ref x_)) (pr2 : Fld Z h0 t_ "com/example/rowfold/rowfold/Literal" "at" "I" (.int (0 : Int32))) (pr3 : Exa Z h0 x_ "java/lang/String") (pr4 : Fld Z h0 x_ "java/lang/String" "coder" "B" (.int cd_)) (pr5 : Fld Z h0 x_ "java/lang/String" "value" "[B" (.ref ba_)) (pr6 : Arv Z h0 ba_ kb_ .byte z_ vs_ (.int 0)) (pr7 : own_enc1 c0_ cd_ z_ vs_) (pr8 : own_c16 c0_) (pr9 : c0_ = u_) (pr10 : n0 ≤ t_) :
    oMet l Z yM13 prog_8_method_4_code 3 (some .boolean) ws ({ frames := 5, cells := 0, slots := 0, locals := 66 } : Room) 0 0 #[(.ref t_), (.int u_)] h0 (own_Q_skipT_1_0 Z z_CS v_FMT t_ x_ ba_ kb_ cd_ z_ vs_ c0_ u_ h0 n0) := by
  refine oenter own_pn0 #[.val (.ref t_), .val (.int u_), .unset] (fun m => by first | (simp [entryFrame, mkF, argsToLocals, Value.category]; done) | rfl) ?_
  intro p e s m below meth c s₁ X0 hx hZ hby hml hret hown0 hnm hlk e0
  have hown : s.vm.findClass "com/example/rowfold/rowfold/Literal" = some m.cls := hown0
  have N0 := Fr.nil n0
  obtain ⟨S_CS, H_CS, S__assertionsDisabled, S_HI_BYTE_SHIFT, S_LO_BYTE_SHIFT, S_FMT, R_FMT⟩ := (id SB)
  have w7 := hw _ (List.mem_of_getElem? (i := 7) rfl)
  have w28 := hw _ (List.mem_of_getElem? (i := 28) rfl)
  have w29 := hw _ (List.mem_of_getElem? (i := 29) rfl)
  have w30 := hw _ (List.mem_of_getElem? (i := 30) rfl)
  have w31 := hw _ (List.mem_of_getElem? (i := 31) rfl)
  have w39 := hw _ (List.mem_of_getElem? (i := 39) rfl)
  have w45 := hw _ (List.mem_of_getElem? (i := 45) rfl)
  have w46 := hw _ (List.mem_of_getElem? (i := 46) rfl)
  have w52 := hw _ (List.mem_of_getElem? (i := 52) rfl)
  have w53 := hw _ (List.mem_of_getElem? (i := 53) rfl)
  have w54 := hw _ (List.mem_of_getElem? (i := 54) rfl)
  have w70 := hw _ (List.mem_of_getElem? (i := 70) rfl)
  have w71 := hw _ (List.mem_of_getElem? (i := 71) rfl)
  have w72 := hw _ (List.mem_of_getElem? (i := 72) rfl)
  have w73 := hw _ (List.mem_of_getElem? (i := 73) rfl)
  have w74 := hw _ (List.mem_of_getElem? (i := 74) rfl)
  refine o_aloadN X0 hx (hb hby d14_0) rfl rfl ?_
  obtain ⟨T1, X1, e1, st1⟩ := getF X0 hx hZ hown (host := "") (Or.inl w52) Via.refl e0 pr2 (g := (mkF m 1 #[.val (.ref t_), .val (.int u_), .unset] [(.ref t_)])) rfl rfl (hb hby d14_1)
  refine ogo (S' := T1.setTop (mkF m 4 #[.val (.ref t_), .val (.int u_), .unset] [(.int (0 : Int32))])) st1 ?_
  refine o_aloadN X1 hx (hb hby d14_4) rfl rfl ?_
  obtain ⟨T2, X2, e2, st2⟩ := getF X1 hx hZ hown (host := "") (Or.inl w45) Via.refl e1 pr1 (g := (mkF m 5 #[.val (.ref t_), .val (.int u_), .unset] [(.ref t_), (.int (0 : Int32))])) rfl rfl (hb hby d14_5)
  refine ogo (S' := T2.setTop (mkF m 8 #[.val (.ref t_), .val (.int u_), .unset] [(.ref x_), (.int (0 : Int32))])) st2 ?_
  obtain ⟨cq3, kq3, q3a, q3b, q3c⟩ := isOf hZ e2 pr3
  obtain ⟨_, _, ⟨T3, L3, kc3, n3⟩, -, X3, ⟨Lc3, hQ3, l3, y3, z3⟩, st3⟩ := X2.virtualBack hx (y := yM12) (z := yM12) hown (mvT hZ w54) (mvT hZ w28) (notFace_of_selects (args := #[]) (mvT hZ w30)) (mvT hZ w30) (mvT hZ w29) (by decide) (backOf (W := 1) (rm_elen_1 l Z a0 hw [] z_CS v_FMT x_ ba_ kb_ cd_ z_ vs_ c0_ h0 n0 SB O0 pr3 pr4 pr5 pr6 pr7) hZ w31 w7 (by decide) (by decide)) q3a q3c (g := (mkF m 8 #[.val (.ref t_), .val (.int u_), .unset] [(.ref x_), (.int (0 : Int32))])) rfl (by rw [hml]; rfl) (Steps.refl _) (argsL := []) (rest := [(.int (0 : Int32))]) (lenOf own_pd9 rfl) rfl (by show 2 * 0 + _ ≤ _; exact Nat.le_of_eq rfl) (hb hby d14_8) (fun _ _ => ⟨rfl, e2, (by decide : 0 + 0 ≤ _), (by decide : 0 + 0 ≤ _)⟩)
  dsimp only [Pt.U, Pt.locs, Pt.cells, Pt.slots] at X3 l3 y3 z3 st3 hQ3
  subst l3 y3 z3
  obtain ⟨rfl, Nq3, e3⟩ := hQ3
  have N3 := Fr.app N0 Nq3
  refine otr (S' := T3.setTop (mkF m 11 #[.val (.ref t_), .val (.int u_), .unset] [(.int (1 : Int32)), (.int (0 : Int32))])) st3 ?_
  refine o_icmpNo X3 hx (hb hby d14_11) (tlt (by decide : (0 : Int32) < (1 : Int32))).2.1 ?_
  refine o_aloadN X3 hx (hb hby d14_14) rfl rfl ?_
  obtain ⟨T4, X4, e4, st4⟩ := getF X3 hx hZ hown (host := "") (Or.inl w45) Via.refl e3 pr1 (g := (mkF m 15 #[.val (.ref t_), .val (.int u_), .unset] [(.ref t_)])) rfl rfl (hb hby d14_15)
  refine ogo (S' := T4.setTop (mkF m 18 #[.val (.ref t_), .val (.int u_), .unset] [(.ref x_)])) st4 ?_
  refine o_aloadN X4 hx (hb hby d14_18) rfl rfl ?_
  obtain ⟨T5, X5, e5, st5⟩ := getF X4 hx hZ hown (host := "") (Or.inl w52) Via.refl e4 pr2 (g := (mkF m 19 #[.val (.ref t_), .val (.int u_), .unset] [(.ref t_), (.ref x_)])) rfl rfl (hb hby d14_19)
  refine ogo (S' := T5.setTop (mkF m 22 #[.val (.ref t_), .val (.int u_), .unset] [(.int (0 : Int32)), (.ref x_)])) st5 ?_
  obtain ⟨cq6, kq6, q6a, q6b, q6c⟩ := isOf hZ e5 pr3
  obtain ⟨_, _, ⟨T6, L6, kc6, n6⟩, -, X6, ⟨Lc6, hQ6, l6, y6, z6⟩, st6⟩ := X5.virtualBack hx (y := yM22) (z := yM22) hown (mvT hZ w70) (mvT hZ w71) (notFace_of_selects (args := #[]) (mvT hZ w73)) (mvT hZ w73) (mvT hZ w72) (by decide) (backOf (W := 0) (rm_ecat_1_0 l Z a0 hw [] z_CS v_FMT x_ ba_ kb_ cd_ z_ vs_ c0_ h0 n0 SB O0 pr3 pr4 pr5 pr6 pr7 pr8) hZ w74 w7 (by decide) (by decide)) q6a q6c (g := (mkF m 22 #[.val (.ref t_), .val (.int u_), .unset] [(.int (0 : Int32)), (.ref x_)])) rfl (by rw [hml]; rfl) (Steps.refl _) (argsL := [(.int (0 : Int32))]) (rest := []) (lenOf own_pd15 rfl) rfl (by show 2 * 0 + _ ≤ _; exact Nat.le_of_eq rfl) (hb hby d14_22) (fun _ _ => ⟨rfl, e5, (by decide : 0 + 0 ≤ _), (by decide : 0 + 0 ≤ _)⟩)
  dsimp only [Pt.U, Pt.locs, Pt.cells, Pt.slots] at X6 l6 y6 z6 st6 hQ6
  subst l6 y6 z6
  obtain ⟨rfl, Nq6, e6⟩ := hQ6
  have N6 := Fr.app N3 Nq6
  refine otr (S' := T6.setTop (mkF m 25 #[.val (.ref t_), .val (.int u_), .unset] [(.int c0_)])) st6 ?_
  refine o_iloadN X6 hx (hb hby d14_25) rfl ?_
  refine o_icmpNo X6 hx (hb hby d14_26) (teq pr9).2 ?_
  refine o_iconst X6 hx (1 : Int32) (hb hby d14_29) rfl ?_
  refine o_goto X6 hx 34 (hb hby d14_30) (by decide) (by decide) ?_
  refine o_istoreN X6 hx (l' := #[.val (.ref t_), .val (.int u_), .val (.int (1 : Int32))]) (hb hby d14_34) rfl ?_
  refine o_iloadN X6 hx (hb hby d14_35) rfl ?_
  refine o_ifNo X6 hx (hb hby d14_36) (feq (by decide : ¬ ((1 : Int32) = (0 : Int32)))).1 ?_
  refine o_aloadN X6 hx (hb hby d14_39) rfl rfl ?_
  refine o_dup X6 hx (hb hby d14_40) rfl ?_
  obtain ⟨T7, X7, e7, st7⟩ := getF X6 hx hZ hown (host := "") (Or.inl w52) Via.refl e6 pr2 (g := (mkF m 41 #[.val (.ref t_), .val (.int u_), .val (.int (1 : Int32))] [(.ref t_), (.ref t_)])) rfl rfl (hb hby d14_41)
  refine ogo (S' := T7.setTop (mkF m 44 #[.val (.ref t_), .val (.int u_), .val (.int (1 : Int32))] [(.int (0 : Int32)), (.ref t_)])) st7 ?_
  refine o_iconst X7 hx (1 : Int32) (hb hby d14_44) rfl ?_
  refine o_iadd X7 hx (hb hby d14_45) ?_
  obtain ⟨T8, _, X8, rfl, W8, st8⟩ := putF X7 hx hZ hown (host := "") (Or.inl w52) Via.refl e7 pr2 pr0 (Or.inl w53) w39 (ty := .int) (by decide) rfl rfl (g := (mkF m 46 #[.val (.ref t_), .val (.int u_), .val (.int (1 : Int32))] [(.int (1 : Int32)), (.ref t_)])) rfl rfl (hb hby d14_46)
  have N8 := Fr.snoc X8 N6 pr10
  have F8 := Fld.same W8 pr2
  refine ogo (S' := T8.setTop (mkF m 49 #[.val (.ref t_), .val (.int u_), .val (.int (1 : Int32))] [])) st8 ?_
  refine o_iloadN X8 hx (hb hby d14_49) rfl ?_
  have c9 := (Fld.other W8 pr1 (Or.inr (slot_ne (Or.inr w46) (Or.inl w53) (by decide) (t := (.object "java/lang/String")) (t' := .int) (by decide) (by decide))))
  refine oend X8 hlk (v := some (.int (1 : Int32))) (fun h => by rw [hret] at h; cases h) (fun fs hr => retN X8 hx (t := .boolean) hret (by simp) (hb hby d14_50) hr) (by decide) (by decide) ?_
  show own_Q_skipT_1_0 Z _ _ _ _ _ _ _ _ _ _ _ h0 n0 _ T8.heap _
  exact ⟨rfl, N8, ((Keep.refl h0 [t_]).wr W8 (Or.inl (List.mem_of_getElem? (i := 0) rfl))), (Exa.wr W8 pr0), c9, F8⟩
def own_Q_skipE_2 (Z : State) (z_CS : Int32) (v_FMT : Value) (t_ : Addr) (x_ : Addr) (ba_ : Addr) (kb_ : ClassId) (cd_ : Int32) (z_ : Int32) (vs_ : List Value) (c0_ : Int32) (c1_ : Int32) (u_ : Int32) (h0 : Heap) (n0 : Nat) (v : Option Value) (h : Heap) (L : List Loc) : Prop := (v = some (.int (0 : Int32))) ∧ (Fr n0 L) ∧ (h = h0)
set_option maxRecDepth 65536 in
set_option maxHeartbeats 40000000 in
theorem rm_skipE_2 (l : Launch) (Z : State) (a0 : Array Value) (hw : ∀ d ∈ tables_1, d.before a0 Z = true) (ws : List Jvm.Cond) (z_CS : Int32) (v_FMT : Value) (t_ : Addr) (x_ : Addr) (ba_ : Addr) (kb_ : ClassId) (cd_ : Int32) (z_ : Int32) (vs_ : List Value) (c0_ : Int32) (c1_ : Int32) (u_ : Int32) (h0 : Heap) (n0 : Nat) (SB : own_Start Z z_CS v_FMT) (O0 : Old Z n0 h0) (pr0 : Exa Z h0 t_ "com/example/rowfold/rowfold/Literal") (pr1 : Fld Z h0 t_ "com/example/rowfold/rowfold/Literal" "text" "Ljava/lang/String;" (.ref x_)) (pr2 : Fld Z h0 t_ "com/example/rowfold/rowfold/Literal" "at" "I" (.int (2 : Int32))) (pr3 : Exa Z h0 x_ "java/lang/String") (pr4 : Fld Z h0 x_ "java/lang/String" "coder" "B" (.int cd_)) (pr5 : Fld Z h0 x_ "java/lang/String" "value" "[B" (.ref ba_)) (pr6 : Arv Z h0 ba_ kb_ .byte z_ vs_ (.int 0)) (pr7 : own_enc2 c0_ c1_ cd_ z_ vs_) :
    oMet l Z yM13 prog_8_method_4_code 3 (some .boolean) ws ({ frames := 2, cells := 0, slots := 0, locals := 26 } : Room) 0 0 #[(.ref t_), (.int u_)] h0 (own_Q_skipE_2 Z z_CS v_FMT t_ x_ ba_ kb_ cd_ z_ vs_ c0_ c1_ u_ h0 n0) := by
  refine oenter own_pn0 #[.val (.ref t_), .val (.int u_), .unset] (fun m => by first | (simp [entryFrame, mkF, argsToLocals, Value.category]; done) | rfl) ?_
  intro p e s m below meth c s₁ X0 hx hZ hby hml hret hown0 hnm hlk e0
  have hown : s.vm.findClass "com/example/rowfold/rowfold/Literal" = some m.cls := hown0
  have N0 := Fr.nil n0
  obtain ⟨S_CS, H_CS, S__assertionsDisabled, S_HI_BYTE_SHIFT, S_LO_BYTE_SHIFT, S_FMT, R_FMT⟩ := (id SB)
  have w7 := hw _ (List.mem_of_getElem? (i := 7) rfl)
  have w28 := hw _ (List.mem_of_getElem? (i := 28) rfl)
  have w29 := hw _ (List.mem_of_getElem? (i := 29) rfl)
  have w30 := hw _ (List.mem_of_getElem? (i := 30) rfl)
  have w31 := hw _ (List.mem_of_getElem? (i := 31) rfl)
  have w45 := hw _ (List.mem_of_getElem? (i := 45) rfl)
  have w52 := hw _ (List.mem_of_getElem? (i := 52) rfl)
  have w54 := hw _ (List.mem_of_getElem? (i := 54) rfl)
  refine o_aloadN X0 hx (hb hby d14_0) rfl rfl ?_
  obtain ⟨T1, X1, e1, st1⟩ := getF X0 hx hZ hown (host := "") (Or.inl w52) Via.refl e0 pr2 (g := (mkF m 1 #[.val (.ref t_), .val (.int u_), .unset] [(.ref t_)])) rfl rfl (hb hby d14_1)
  refine ogo (S' := T1.setTop (mkF m 4 #[.val (.ref t_), .val (.int u_), .unset] [(.int (2 : Int32))])) st1 ?_
  refine o_aloadN X1 hx (hb hby d14_4) rfl rfl ?_
  obtain ⟨T2, X2, e2, st2⟩ := getF X1 hx hZ hown (host := "") (Or.inl w45) Via.refl e1 pr1 (g := (mkF m 5 #[.val (.ref t_), .val (.int u_), .unset] [(.ref t_), (.int (2 : Int32))])) rfl rfl (hb hby d14_5)
  refine ogo (S' := T2.setTop (mkF m 8 #[.val (.ref t_), .val (.int u_), .unset] [(.ref x_), (.int (2 : Int32))])) st2 ?_
  obtain ⟨cq3, kq3, q3a, q3b, q3c⟩ := isOf hZ e2 pr3
  obtain ⟨_, _, ⟨T3, L3, kc3, n3⟩, -, X3, ⟨Lc3, hQ3, l3, y3, z3⟩, st3⟩ := X2.virtualBack hx (y := yM12) (z := yM12) hown (mvT hZ w54) (mvT hZ w28) (notFace_of_selects (args := #[]) (mvT hZ w30)) (mvT hZ w30) (mvT hZ w29) (by decide) (backOf (W := 1) (rm_elen_2 l Z a0 hw [] z_CS v_FMT x_ ba_ kb_ cd_ z_ vs_ c0_ c1_ h0 n0 SB O0 pr3 pr4 pr5 pr6 pr7) hZ w31 w7 (by decide) (by decide)) q3a q3c (g := (mkF m 8 #[.val (.ref t_), .val (.int u_), .unset] [(.ref x_), (.int (2 : Int32))])) rfl (by rw [hml]; rfl) (Steps.refl _) (argsL := []) (rest := [(.int (2 : Int32))]) (lenOf own_pd9 rfl) rfl (by show 2 * 0 + _ ≤ _; exact Nat.le_of_eq rfl) (hb hby d14_8) (fun _ _ => ⟨rfl, e2, (by decide : 0 + 0 ≤ _), (by decide : 0 + 0 ≤ _)⟩)
  dsimp only [Pt.U, Pt.locs, Pt.cells, Pt.slots] at X3 l3 y3 z3 st3 hQ3
  subst l3 y3 z3
  obtain ⟨rfl, Nq3, e3⟩ := hQ3
  have N3 := Fr.app N0 Nq3
  refine otr (S' := T3.setTop (mkF m 11 #[.val (.ref t_), .val (.int u_), .unset] [(.int (2 : Int32)), (.int (2 : Int32))])) st3 ?_
  refine o_icmpYes X3 hx 33 (hb hby d14_11) (flt (by decide : ¬ ((2 : Int32) < (2 : Int32)))).2.1 (by decide) (by decide) ?_
  refine o_iconst X3 hx (0 : Int32) (hb hby d14_33) rfl ?_
  refine o_istoreN X3 hx (l' := #[.val (.ref t_), .val (.int u_), .val (.int (0 : Int32))]) (hb hby d14_34) rfl ?_
  refine o_iloadN X3 hx (hb hby d14_35) rfl ?_
  refine o_ifYes X3 hx 49 (hb hby d14_36) (teq (by decide : (0 : Int32) = (0 : Int32))).1 (by decide) (by decide) ?_
  refine o_iloadN X3 hx (hb hby d14_49) rfl ?_
  refine oend X3 hlk (v := some (.int (0 : Int32))) (fun h => by rw [hret] at h; cases h) (fun fs hr => retN X3 hx (t := .boolean) hret (by simp) (hb hby d14_50) hr) (by decide) (by decide) ?_
  show own_Q_skipE_2 Z _ _ _ _ _ _ _ _ _ _ _ _ h0 n0 _ T3.heap _
  rw [e3]
  exact ⟨rfl, N3, rfl⟩
def own_Q_l1c_2_0 (Z : State) (z_CS : Int32) (v_FMT : Value) (ba_ : Addr) (kb_ : ClassId) (c0_ : Int32) (c1_ : Int32) (h0 : Heap) (n0 : Nat) (v : Option Value) (h : Heap) (L : List Loc) : Prop := (v = some (.int c0_)) ∧ (Fr n0 L) ∧ (h = h0)
set_option maxRecDepth 65536 in
set_option maxHeartbeats 40000000 in
theorem rm_l1c_2_0 (l : Launch) (Z : State) (a0 : Array Value) (hw : ∀ d ∈ tables_1, d.before a0 Z = true) (ws : List Jvm.Cond) (z_CS : Int32) (v_FMT : Value) (ba_ : Addr) (kb_ : ClassId) (c0_ : Int32) (c1_ : Int32) (h0 : Heap) (n0 : Nat) (SB : own_Start Z z_CS v_FMT) (O0 : Old Z n0 h0) (pr0 : Arv Z h0 ba_ kb_ .byte (2 : Int32) [(.int c0_.toInt8.toInt32), (.int c1_.toInt8.toInt32)] (.int 0)) (pr1 : ¬ (c0_ < (0 : Int32))) (pr2 : ¬ ((255 : Int32) < c0_)) :
    oMet l Z yM18 jdk_43_method_2_code 2 (some .char) ws ({ frames := 2, cells := 0, slots := 0, locals := 27 } : Room) 0 0 #[(.ref ba_), (.int (0 : Int32))] h0 (own_Q_l1c_2_0 Z z_CS v_FMT ba_ kb_ c0_ c1_ h0 n0) := by
  refine oenter own_pn4 #[.val (.ref ba_), .val (.int (0 : Int32))] (fun m => by first | (simp [entryFrame, mkF, argsToLocals, Value.category]; done) | rfl) ?_
  intro p e s m below meth c s₁ X0 hx hZ hby hml hret hown0 hnm hlk e0
  have hown : s.vm.findClass "java/lang/StringLatin1" = some m.cls := hown0
  have N0 := Fr.nil n0
  obtain ⟨S_CS, H_CS, S__assertionsDisabled, S_HI_BYTE_SHIFT, S_LO_BYTE_SHIFT, S_FMT, R_FMT⟩ := (id SB)
  have w7 := hw _ (List.mem_of_getElem? (i := 7) rfl)
  have w84 := hw _ (List.mem_of_getElem? (i := 84) rfl)
  have w85 := hw _ (List.mem_of_getElem? (i := 85) rfl)
  have w86 := hw _ (List.mem_of_getElem? (i := 86) rfl)
  refine o_iloadN X0 hx (hb hby d19_0) rfl ?_
  refine o_aloadN X0 hx (hb hby d19_1) rfl rfl ?_
  obtain ⟨cl1, Ar1, -, S1, N1z, -, -⟩ := (id pr0)
  refine ogo (S' := s₁.setTop (mkF m 3 #[.val (.ref ba_), .val (.int (0 : Int32))] [(.int (2 : Int32)), (.int (0 : Int32))])) (fun _ kt_ => X0.arraylength hx (by rw [e0]; exact Ar1.1) (State.isArrayOf_alike hZ.alike Ar1.2.1) (g := (mkF m 2 #[.val (.ref ba_), .val (.int (0 : Int32))] [(.ref ba_), (.int (0 : Int32))])) rfl rfl (hb hby d19_2) _ (by rw [len_of S1 N1z]; exact kt_)) ?_
  obtain ⟨_, _, ⟨T2, L2, kc2, n2⟩, -, X2, ⟨Lc2, hQ2, l2, y2, z2⟩, st2⟩ := Jvm.LawKit.callS X0 hx (y := yM17) hown (mvT hZ w84) (mvT hZ w85) (mvT hZ w7) (mvT hZ w86) (by decide) (backOf (W := 0) (rm_sci l Z a0 hw [] z_CS v_FMT (0 : Int32) (2 : Int32) h0 n0 SB O0 (by decide) (by decide)) hZ w86 w7 (by decide) (by decide)) (g := (mkF m 3 #[.val (.ref ba_), .val (.int (0 : Int32))] [(.int (2 : Int32)), (.int (0 : Int32))])) rfl (by rw [hml]; rfl) (argsL := [(.int (0 : Int32)), (.int (2 : Int32))]) (rest := []) (lenOf own_pd11 rfl) rfl (by show 2 * 0 + _ ≤ _; exact Nat.le_of_eq rfl) (hb hby d19_3) (fun _ _ => ⟨rfl, e0, (by decide : 0 + 0 ≤ _), (by decide : 0 + 0 ≤ _)⟩)
  dsimp only [Pt.U, Pt.locs, Pt.cells, Pt.slots] at X2 l2 y2 z2 st2 hQ2
  subst l2 y2 z2
  obtain ⟨rfl, Nq2, e2⟩ := hQ2
  have N2 := Fr.app N0 Nq2
  refine ogo (S' := T2.setTop (mkF m 6 #[.val (.ref ba_), .val (.int (0 : Int32))] [])) st2 ?_
  refine o_aloadN X2 hx (hb hby d19_6) rfl rfl ?_
  refine o_iloadN X2 hx (hb hby d19_7) rfl ?_
  obtain ⟨cl3, Ar3, q3, S3, N3z, H3, G3⟩ := (id pr0)
  have hi3 := inb_of (j := (0 : Int32)) S3 ⟨by decide, by decide⟩
  have ha3 := Has.at (v := (.int c0_.toInt8.toInt32)) H3 hi3 rfl
  refine ogo (S' := T2.setTop (mkF m 9 #[.val (.ref ba_), .val (.int (0 : Int32))] [(.int c0_.toInt8.toInt32)])) (X2.baloadBytes hx (j := (0 : Int32)) (v := (.int c0_.toInt8.toInt32)) (by rw [e2]; exact Ar3.1) (State.isArrayOf_alike hZ.alike Ar3.2.1) Ar3.2.2 hi3 ha3 (g := (mkF m 8 #[.val (.ref ba_), .val (.int (0 : Int32))] [(.int (0 : Int32)), (.ref ba_)])) rfl rfl (hb hby d19_8)) ?_
  refine o_sipush X2 hx (255 : Int32) (hb hby d19_9) rfl ?_
  refine o_iand X2 hx (hb hby d19_12) ?_
  refine o_i2c X2 hx (hb hby d19_13) ?_
  rw [own_char pr1 pr2]
  refine oend X2 hlk (v := some (.int c0_)) (fun h => by rw [hret] at h; cases h) (fun fs hr => retN X2 hx (t := .char) hret (by simp) (hb hby d19_14) (by rw [(own_narsm pr1 pr2)]; exact hr)) (by decide) (by decide) ?_
  show own_Q_l1c_2_0 Z _ _ _ _ _ _ h0 n0 _ T2.heap _
  rw [e2]
  exact ⟨rfl, N2, rfl⟩
def own_Q_u16len_2 (Z : State)  (ba_ : Addr) (kb_ : ClassId) (vs_ : List Value) (h0 : Heap) (n0 : Nat) (v : Option Value) (h : Heap) (L : List Loc) : Prop := (v = some (.int (2 : Int32))) ∧ (Fr n0 L) ∧ (h = h0)
set_option maxRecDepth 65536 in
set_option maxHeartbeats 40000000 in
theorem rm_u16len_2 (l : Launch) (Z : State) (a0 : Array Value) (hw : ∀ d ∈ tables_1, d.before a0 Z = true) (ws : List Jvm.Cond)  (ba_ : Addr) (kb_ : ClassId) (vs_ : List Value) (h0 : Heap) (n0 : Nat) (O0 : Old Z n0 h0) (pr0 : Arv Z h0 ba_ kb_ .byte (4 : Int32) vs_ (.int 0)) :
    oMet l Z yM19 jdk_52_method_6_code 1 (some .int) ws ({ frames := 0, cells := 0, slots := 0, locals := 0 } : Room) 0 0 #[(.ref ba_)] h0 (own_Q_u16len_2 Z  ba_ kb_ vs_ h0 n0) := by
  refine oenter own_pn1 #[.val (.ref ba_)] (fun m => by first | (simp [entryFrame, mkF, argsToLocals, Value.category]; done) | rfl) ?_
  intro p e s m below meth c s₁ X0 hx hZ hby hml hret hown0 hnm hlk e0
  have hown : s.vm.findClass "java/lang/StringUTF16" = some m.cls := hown0
  have N0 := Fr.nil n0
  refine o_aloadN X0 hx (hb hby d20_0) rfl rfl ?_
  obtain ⟨cl1, Ar1, -, S1, N1z, -, -⟩ := (id pr0)
  refine ogo (S' := s₁.setTop (mkF m 2 #[.val (.ref ba_)] [(.int (4 : Int32))])) (fun _ kt_ => X0.arraylength hx (by rw [e0]; exact Ar1.1) (State.isArrayOf_alike hZ.alike Ar1.2.1) (g := (mkF m 1 #[.val (.ref ba_)] [(.ref ba_)])) rfl rfl (hb hby d20_1) _ (by rw [len_of S1 N1z]; exact kt_)) ?_
  refine o_iconst X0 hx (1 : Int32) (hb hby d20_2) rfl ?_
  refine o_ishr X0 hx (hb hby d20_3) ?_
  refine oend X0 hlk (v := some (.int (2 : Int32))) (fun h => by rw [hret] at h; cases h) (fun fs hr => retOut X0 hx (t := .int) (i := .ireturn) hret rfl (Or.inl ⟨rfl, Or.inl rfl, _, rfl⟩) (hb hby d20_4) hr) (by decide) (by decide) ?_
  show own_Q_u16len_2 Z _ _ _ h0 n0 _ s₁.heap _
  rw [e0]
  exact ⟨rfl, N0, rfl⟩
def own_Q_u16ci_2_0 (Z : State) (z_CS : Int32) (v_FMT : Value) (ba_ : Addr) (kb_ : ClassId) (vs_ : List Value) (h0 : Heap) (n0 : Nat) (v : Option Value) (h : Heap) (L : List Loc) : Prop := (v = none) ∧ (Fr n0 L) ∧ (h = h0)
set_option maxRecDepth 65536 in
set_option maxHeartbeats 40000000 in
theorem rm_u16ci_2_0 (l : Launch) (Z : State) (a0 : Array Value) (hw : ∀ d ∈ tables_1, d.before a0 Z = true) (ws : List Jvm.Cond) (z_CS : Int32) (v_FMT : Value) (ba_ : Addr) (kb_ : ClassId) (vs_ : List Value) (h0 : Heap) (n0 : Nat) (SB : own_Start Z z_CS v_FMT) (O0 : Old Z n0 h0) (pr0 : Arv Z h0 ba_ kb_ .byte (4 : Int32) vs_ (.int 0)) :
    oMet l Z yM20 jdk_52_method_91_code 2 none ws ({ frames := 2, cells := 0, slots := 0, locals := 27 } : Room) 0 0 #[(.int (0 : Int32)), (.ref ba_)] h0 (own_Q_u16ci_2_0 Z z_CS v_FMT ba_ kb_ vs_ h0 n0) := by
  refine oenter own_pn1 #[.val (.int (0 : Int32)), .val (.ref ba_)] (fun m => by first | (simp [entryFrame, mkF, argsToLocals, Value.category]; done) | rfl) ?_
  intro p e s m below meth c s₁ X0 hx hZ hby hml hret hown0 hnm hlk e0
  have hown : s.vm.findClass "java/lang/StringUTF16" = some m.cls := hown0
  have N0 := Fr.nil n0
  obtain ⟨S_CS, H_CS, S__assertionsDisabled, S_HI_BYTE_SHIFT, S_LO_BYTE_SHIFT, S_FMT, R_FMT⟩ := (id SB)
  have w7 := hw _ (List.mem_of_getElem? (i := 7) rfl)
  have w62 := hw _ (List.mem_of_getElem? (i := 62) rfl)
  have w85 := hw _ (List.mem_of_getElem? (i := 85) rfl)
  have w86 := hw _ (List.mem_of_getElem? (i := 86) rfl)
  have w117 := hw _ (List.mem_of_getElem? (i := 117) rfl)
  have w118 := hw _ (List.mem_of_getElem? (i := 118) rfl)
  have w119 := hw _ (List.mem_of_getElem? (i := 119) rfl)
  have w120 := hw _ (List.mem_of_getElem? (i := 120) rfl)
  refine o_iloadN X0 hx (hb hby d21_0) rfl ?_
  refine o_aloadN X0 hx (hb hby d21_1) rfl rfl ?_
  obtain ⟨_, _, ⟨T1, L1, kc1, n1⟩, -, X1, ⟨Lc1, hQ1, l1, y1, z1⟩, st1⟩ := Jvm.LawKit.callS X0 hx (y := yM19) hown (mvT hZ w117) (mvT hZ w118) (mvT hZ w62) (mvT hZ w119) (by decide) (backOf (W := 1) (rm_u16len_2 l Z a0 hw []  ba_ kb_ vs_ h0 n0 O0 pr0) hZ w119 w62 (by decide) (by decide)) (g := (mkF m 2 #[.val (.int (0 : Int32)), .val (.ref ba_)] [(.ref ba_), (.int (0 : Int32))])) rfl (by rw [hml]; rfl) (argsL := [(.ref ba_)]) (rest := [(.int (0 : Int32))]) (lenOf own_pd12 rfl) rfl (by show 2 * 0 + _ ≤ _; exact Nat.le_of_eq rfl) (hb hby d21_2) (fun _ _ => ⟨rfl, e0, (by decide : 0 + 0 ≤ _), (by decide : 0 + 0 ≤ _)⟩)
  dsimp only [Pt.U, Pt.locs, Pt.cells, Pt.slots] at X1 l1 y1 z1 st1 hQ1
  subst l1 y1 z1
  obtain ⟨rfl, Nq1, e1⟩ := hQ1
  have N1 := Fr.app N0 Nq1
  refine ogo (S' := T1.setTop (mkF m 5 #[.val (.int (0 : Int32)), .val (.ref ba_)] [(.int (2 : Int32)), (.int (0 : Int32))])) st1 ?_
  obtain ⟨_, _, ⟨T2, L2, kc2, n2⟩, -, X2, ⟨Lc2, hQ2, l2, y2, z2⟩, st2⟩ := Jvm.LawKit.callS X1 hx (y := yM17) hown (mvT hZ w120) (mvT hZ w85) (mvT hZ w7) (mvT hZ w86) (by decide) (backOf (W := 0) (rm_sci l Z a0 hw [] z_CS v_FMT (0 : Int32) (2 : Int32) h0 n0 SB O0 (by decide) (by decide)) hZ w86 w7 (by decide) (by decide)) (g := (mkF m 5 #[.val (.int (0 : Int32)), .val (.ref ba_)] [(.int (2 : Int32)), (.int (0 : Int32))])) rfl (by rw [hml]; rfl) (argsL := [(.int (0 : Int32)), (.int (2 : Int32))]) (rest := []) (lenOf own_pd11 rfl) rfl (by show 2 * 0 + _ ≤ _; exact Nat.le_of_eq rfl) (hb hby d21_5) (fun _ _ => ⟨rfl, e1, (by decide : 0 + 0 ≤ _), (by decide : 0 + 0 ≤ _)⟩)
  dsimp only [Pt.U, Pt.locs, Pt.cells, Pt.slots] at X2 l2 y2 z2 st2 hQ2
  subst l2 y2 z2
  obtain ⟨rfl, Nq2, e2⟩ := hQ2
  have N2 := Fr.app N1 Nq2
  refine ogo (S' := T2.setTop (mkF m 8 #[.val (.int (0 : Int32)), .val (.ref ba_)] [])) st2 ?_
  refine oend X2 hlk (v := none) (fun _ => rfl) (fun fs hr => X2.returnOut hx hret (hb hby d21_8) hr) (by decide) (by decide) ?_
  show own_Q_u16ci_2_0 Z _ _ _ _ _ h0 n0 _ T2.heap _
  rw [e2]
  exact ⟨rfl, N2, rfl⟩
def own_Q_u16cat_2_0 (Z : State) (z_CS : Int32) (v_FMT : Value) (ba_ : Addr) (kb_ : ClassId) (c0_ : Int32) (c1_ : Int32) (h0 : Heap) (n0 : Nat) (v : Option Value) (h : Heap) (L : List Loc) : Prop := (v = some (.int c0_)) ∧ (Fr n0 L) ∧ (h = h0)
set_option maxRecDepth 65536 in
set_option maxHeartbeats 40000000 in
theorem rm_u16cat_2_0 (l : Launch) (Z : State) (a0 : Array Value) (hw : ∀ d ∈ tables_1, d.before a0 Z = true) (ws : List Jvm.Cond) (z_CS : Int32) (v_FMT : Value) (ba_ : Addr) (kb_ : ClassId) (c0_ : Int32) (c1_ : Int32) (h0 : Heap) (n0 : Nat) (SB : own_Start Z z_CS v_FMT) (O0 : Old Z n0 h0) (pr0 : Arv Z h0 ba_ kb_ .byte (4 : Int32) [(.int (c0_ >>> ((0 : Int32) &&& 31)).toInt8.toInt32), (.int (c0_ >>> ((8 : Int32) &&& 31)).toInt8.toInt32), (.int (c1_ >>> ((0 : Int32) &&& 31)).toInt8.toInt32), (.int (c1_ >>> ((8 : Int32) &&& 31)).toInt8.toInt32)] (.int 0)) (pr1 : own_c16 c0_) :
    oMet l Z yM21 jdk_52_method_83_code 2 (some .char) ws ({ frames := 3, cells := 0, slots := 0, locals := 40 } : Room) 0 0 #[(.ref ba_), (.int (0 : Int32))] h0 (own_Q_u16cat_2_0 Z z_CS v_FMT ba_ kb_ c0_ c1_ h0 n0) := by
  refine oenter own_pn1 #[.val (.ref ba_), .val (.int (0 : Int32))] (fun m => by first | (simp [entryFrame, mkF, argsToLocals, Value.category]; done) | rfl) ?_
  intro p e s m below meth c s₁ X0 hx hZ hby hml hret hown0 hnm hlk e0
  have hown : s.vm.findClass "java/lang/StringUTF16" = some m.cls := hown0
  have N0 := Fr.nil n0
  obtain ⟨S_CS, H_CS, S__assertionsDisabled, S_HI_BYTE_SHIFT, S_LO_BYTE_SHIFT, S_FMT, R_FMT⟩ := (id SB)
  have w62 := hw _ (List.mem_of_getElem? (i := 62) rfl)
  have w108 := hw _ (List.mem_of_getElem? (i := 108) rfl)
  have w109 := hw _ (List.mem_of_getElem? (i := 109) rfl)
  have w110 := hw _ (List.mem_of_getElem? (i := 110) rfl)
  have w114 := hw _ (List.mem_of_getElem? (i := 114) rfl)
  have w115 := hw _ (List.mem_of_getElem? (i := 115) rfl)
  have w116 := hw _ (List.mem_of_getElem? (i := 116) rfl)
  refine o_iloadN X0 hx (hb hby d22_0) rfl ?_
  refine o_aloadN X0 hx (hb hby d22_1) rfl rfl ?_
  obtain ⟨_, _, ⟨T1, L1, kc1, n1⟩, -, X1, ⟨Lc1, hQ1, l1, y1, z1⟩, st1⟩ := Jvm.LawKit.callS X0 hx (y := yM20) hown (mvT hZ w114) (mvT hZ w115) (mvT hZ w62) (mvT hZ w116) (by decide) (backOf (W := 0) (rm_u16ci_2_0 l Z a0 hw [] z_CS v_FMT ba_ kb_ [(.int (c0_ >>> ((0 : Int32) &&& 31)).toInt8.toInt32), (.int (c0_ >>> ((8 : Int32) &&& 31)).toInt8.toInt32), (.int (c1_ >>> ((0 : Int32) &&& 31)).toInt8.toInt32), (.int (c1_ >>> ((8 : Int32) &&& 31)).toInt8.toInt32)] h0 n0 SB O0 pr0) hZ w116 w62 (by decide) (by decide)) (g := (mkF m 2 #[.val (.ref ba_), .val (.int (0 : Int32))] [(.ref ba_), (.int (0 : Int32))])) rfl (by rw [hml]; rfl) (argsL := [(.int (0 : Int32)), (.ref ba_)]) (rest := []) (lenOf own_pd13 rfl) rfl (by show 2 * 0 + _ ≤ _; exact Nat.le_of_eq rfl) (hb hby d22_2) (fun _ _ => ⟨rfl, e0, (by decide : 0 + 0 ≤ _), (by decide : 0 + 0 ≤ _)⟩)
  dsimp only [Pt.U, Pt.locs, Pt.cells, Pt.slots] at X1 l1 y1 z1 st1 hQ1
  subst l1 y1 z1
  obtain ⟨rfl, Nq1, e1⟩ := hQ1
  have N1 := Fr.app N0 Nq1
  refine ogo (S' := T1.setTop (mkF m 5 #[.val (.ref ba_), .val (.int (0 : Int32))] [])) st1 ?_
  refine o_aloadN X1 hx (hb hby d22_5) rfl rfl ?_
  refine o_iloadN X1 hx (hb hby d22_6) rfl ?_
  obtain ⟨_, _, ⟨T2, L2, kc2, n2⟩, -, X2, ⟨Lc2, hQ2, l2, y2, z2⟩, st2⟩ := Jvm.LawKit.callS X1 hx (y := yM8) hown (mvT hZ w108) (mvT hZ w109) (mvT hZ w62) (mvT hZ w110) (by decide) (backOf (W := 0) (rm_getch_2_0 l Z a0 hw [] z_CS v_FMT ba_ kb_ c0_ c1_ h0 n0 SB O0 pr0 pr1) hZ w110 w62 (by decide) (by decide)) (g := (mkF m 7 #[.val (.ref ba_), .val (.int (0 : Int32))] [(.int (0 : Int32)), (.ref ba_)])) rfl (by rw [hml]; rfl) (argsL := [(.ref ba_), (.int (0 : Int32))]) (rest := []) (lenOf own_pd5 rfl) rfl (by show 2 * 0 + _ ≤ _; exact Nat.le_of_eq rfl) (hb hby d22_7) (fun _ _ => ⟨rfl, e1, (by decide : 0 + 0 ≤ _), (by decide : 0 + 0 ≤ _)⟩)
  dsimp only [Pt.U, Pt.locs, Pt.cells, Pt.slots] at X2 l2 y2 z2 st2 hQ2
  subst l2 y2 z2
  obtain ⟨rfl, Nq2, e2⟩ := hQ2
  have N2 := Fr.app N1 Nq2
  refine ogo (S' := T2.setTop (mkF m 10 #[.val (.ref ba_), .val (.int (0 : Int32))] [(.int c0_)])) st2 ?_
  refine oend X2 hlk (v := some (.int c0_)) (fun h => by rw [hret] at h; cases h) (fun fs hr => retN X2 hx (t := .char) hret (by simp) (hb hby d22_10) (by rw [(own_nar16 pr1)]; exact hr)) (by decide) (by decide) ?_
  show own_Q_u16cat_2_0 Z _ _ _ _ _ _ h0 n0 _ T2.heap _
  rw [e2]
  exact ⟨rfl, N2, rfl⟩
def own_Q_ecat_2_0 (Z : State) (z_CS : Int32) (v_FMT : Value) (x_ : Addr) (ba_ : Addr) (kb_ : ClassId) (cd_ : Int32) (z_ : Int32) (vs_ : List Value) (c0_ : Int32) (c1_ : Int32) (h0 : Heap) (n0 : Nat) (v : Option Value) (h : Heap) (L : List Loc) : Prop := (v = some (.int c0_)) ∧ (Fr n0 L) ∧ (h = h0)
set_option maxRecDepth 65536 in
set_option maxHeartbeats 40000000 in
theorem rm_ecat_2_0 (l : Launch) (Z : State) (a0 : Array Value) (hw : ∀ d ∈ tables_1, d.before a0 Z = true) (ws : List Jvm.Cond) (z_CS : Int32) (v_FMT : Value) (x_ : Addr) (ba_ : Addr) (kb_ : ClassId) (cd_ : Int32) (z_ : Int32) (vs_ : List Value) (c0_ : Int32) (c1_ : Int32) (h0 : Heap) (n0 : Nat) (SB : own_Start Z z_CS v_FMT) (O0 : Old Z n0 h0) (pr0 : Exa Z h0 x_ "java/lang/String") (pr1 : Fld Z h0 x_ "java/lang/String" "coder" "B" (.int cd_)) (pr2 : Fld Z h0 x_ "java/lang/String" "value" "[B" (.ref ba_)) (pr3 : Arv Z h0 ba_ kb_ .byte z_ vs_ (.int 0)) (pr4 : own_enc2 c0_ c1_ cd_ z_ vs_) (pr5 : own_c16 c0_) :
    oMet l Z yM22 jdk_42_method_56_code 2 (some .char) ws ({ frames := 4, cells := 0, slots := 0, locals := 53 } : Room) 0 0 #[(.ref x_), (.int (0 : Int32))] h0 (own_Q_ecat_2_0 Z z_CS v_FMT x_ ba_ kb_ cd_ z_ vs_ c0_ c1_ h0 n0) := by
  refine oenter own_pn2 #[.val (.ref x_), .val (.int (0 : Int32))] (fun m => by first | (simp [entryFrame, mkF, argsToLocals, Value.category]; done) | rfl) ?_
  intro p e s m below meth c s₁ X0 hx hZ hby hml hret hown0 hnm hlk e0
  have hown : s.vm.findClass "java/lang/String" = some m.cls := hown0
  have N0 := Fr.nil n0
  obtain ⟨S_CS, H_CS, S__assertionsDisabled, S_HI_BYTE_SHIFT, S_LO_BYTE_SHIFT, S_FMT, R_FMT⟩ := (id SB)
  have w7 := hw _ (List.mem_of_getElem? (i := 7) rfl)
  have w25 := hw _ (List.mem_of_getElem? (i := 25) rfl)
  have w62 := hw _ (List.mem_of_getElem? (i := 62) rfl)
  have w75 := hw _ (List.mem_of_getElem? (i := 75) rfl)
  have w76 := hw _ (List.mem_of_getElem? (i := 76) rfl)
  have w77 := hw _ (List.mem_of_getElem? (i := 77) rfl)
  have w78 := hw _ (List.mem_of_getElem? (i := 78) rfl)
  have w79 := hw _ (List.mem_of_getElem? (i := 79) rfl)
  have w80 := hw _ (List.mem_of_getElem? (i := 80) rfl)
  have w81 := hw _ (List.mem_of_getElem? (i := 81) rfl)
  have w82 := hw _ (List.mem_of_getElem? (i := 82) rfl)
  have w83 := hw _ (List.mem_of_getElem? (i := 83) rfl)
  have w111 := hw _ (List.mem_of_getElem? (i := 111) rfl)
  have w112 := hw _ (List.mem_of_getElem? (i := 112) rfl)
  have w113 := hw _ (List.mem_of_getElem? (i := 113) rfl)
  rcases pr4 with ⟨hs0, hs1, rfl, rfl, rfl⟩ | ⟨rfl, rfl, rfl⟩
  · refine o_aloadN X0 hx (hb hby d23_0) rfl rfl ?_
    obtain ⟨cq1, kq1, q1a, q1b, q1c⟩ := isOf hZ e0 pr0
    obtain ⟨_, _, ⟨T1, L1, kc1, n1⟩, -, X1, ⟨Lc1, hQ1, l1, y1, z1⟩, st1⟩ := X0.virtualBack hx (y := yM15) (z := yM15) hown (mvT hZ w75) (mvT hZ w76) (notFace_of_selects (args := #[]) (mvT hZ w78)) (mvT hZ w78) (mvT hZ w77) (by decide) (backOf (W := 0) (rm_isl1_0 l Z a0 hw [] z_CS v_FMT x_ h0 n0 SB O0 pr1) hZ w79 w7 (by decide) (by decide)) q1a q1c (g := (mkF m 1 #[.val (.ref x_), .val (.int (0 : Int32))] [(.ref x_)])) rfl (by rw [hml]; rfl) (Steps.refl _) (argsL := []) (rest := []) (lenOf own_pd14 rfl) rfl (by show 2 * 0 + _ ≤ _; exact Nat.le_of_eq rfl) (hb hby d23_1) (fun _ _ => ⟨rfl, e0, (by decide : 0 + 0 ≤ _), (by decide : 0 + 0 ≤ _)⟩)
    dsimp only [Pt.U, Pt.locs, Pt.cells, Pt.slots] at X1 l1 y1 z1 st1 hQ1
    subst l1 y1 z1
    obtain ⟨rfl, Nq1, e1⟩ := hQ1
    have N1 := Fr.app N0 Nq1
    refine otr (S' := T1.setTop (mkF m 4 #[.val (.ref x_), .val (.int (0 : Int32))] [(.int (1 : Int32))])) st1 ?_
    refine o_ifNo X1 hx (hb hby d23_4) (feq (by decide : ¬ ((1 : Int32) = (0 : Int32)))).1 ?_
    refine o_aloadN X1 hx (hb hby d23_7) rfl rfl ?_
    obtain ⟨T2, X2, e2, st2⟩ := getF X1 hx hZ hown (host := "") (Or.inl w25) Via.refl e1 pr2 (g := (mkF m 8 #[.val (.ref x_), .val (.int (0 : Int32))] [(.ref x_)])) rfl rfl (hb hby d23_8)
    refine ogo (S' := T2.setTop (mkF m 11 #[.val (.ref x_), .val (.int (0 : Int32))] [(.ref ba_)])) st2 ?_
    refine o_iloadN X2 hx (hb hby d23_11) rfl ?_
    obtain ⟨_, _, ⟨T3, L3, kc3, n3⟩, -, X3, ⟨Lc3, hQ3, l3, y3, z3⟩, st3⟩ := Jvm.LawKit.callS X2 hx (y := yM18) hown (mvT hZ w80) (mvT hZ w81) (mvT hZ w82) (mvT hZ w83) (by decide) (backOf (W := 0) (rm_l1c_2_0 l Z a0 hw [] z_CS v_FMT ba_ kb_ c0_ c1_ h0 n0 SB O0 pr3 (own_c16n pr5) hs0) hZ w83 w82 (by decide) (by decide)) (g := (mkF m 12 #[.val (.ref x_), .val (.int (0 : Int32))] [(.int (0 : Int32)), (.ref ba_)])) rfl (by rw [hml]; rfl) (argsL := [(.ref ba_), (.int (0 : Int32))]) (rest := []) (lenOf own_pd5 rfl) rfl (by show 2 * 0 + _ ≤ _; exact Nat.le_of_eq rfl) (hb hby d23_12) (fun _ _ => ⟨rfl, e2, (by decide : 0 + 0 ≤ _), (by decide : 0 + 0 ≤ _)⟩)
    dsimp only [Pt.U, Pt.locs, Pt.cells, Pt.slots] at X3 l3 y3 z3 st3 hQ3
    subst l3 y3 z3
    obtain ⟨rfl, Nq3, e3⟩ := hQ3
    have N3 := Fr.app N1 Nq3
    refine ogo (S' := T3.setTop (mkF m 15 #[.val (.ref x_), .val (.int (0 : Int32))] [(.int c0_)])) st3 ?_
    refine oend X3 hlk (v := some (.int c0_)) (fun h => by rw [hret] at h; cases h) (fun fs hr => retN X3 hx (t := .char) hret (by simp) (hb hby d23_15) (by rw [(own_nar16 pr5)]; exact hr)) (by decide) (by decide) ?_
    show own_Q_ecat_2_0 Z _ _ _ _ _ _ _ _ _ _ h0 n0 _ T3.heap _
    rw [e3]
    exact ⟨rfl, N3, rfl⟩
  · refine o_aloadN X0 hx (hb hby d23_0) rfl rfl ?_
    obtain ⟨cq4, kq4, q4a, q4b, q4c⟩ := isOf hZ e0 pr0
    obtain ⟨_, _, ⟨T4, L4, kc4, n4⟩, -, X4, ⟨Lc4, hQ4, l4, y4, z4⟩, st4⟩ := X0.virtualBack hx (y := yM15) (z := yM15) hown (mvT hZ w75) (mvT hZ w76) (notFace_of_selects (args := #[]) (mvT hZ w78)) (mvT hZ w78) (mvT hZ w77) (by decide) (backOf (W := 0) (rm_isl1_1 l Z a0 hw [] z_CS v_FMT x_ h0 n0 SB O0 pr1) hZ w79 w7 (by decide) (by decide)) q4a q4c (g := (mkF m 1 #[.val (.ref x_), .val (.int (0 : Int32))] [(.ref x_)])) rfl (by rw [hml]; rfl) (Steps.refl _) (argsL := []) (rest := []) (lenOf own_pd14 rfl) rfl (by show 2 * 0 + _ ≤ _; exact Nat.le_of_eq rfl) (hb hby d23_1) (fun _ _ => ⟨rfl, e0, (by decide : 0 + 0 ≤ _), (by decide : 0 + 0 ≤ _)⟩)
    dsimp only [Pt.U, Pt.locs, Pt.cells, Pt.slots] at X4 l4 y4 z4 st4 hQ4
    subst l4 y4 z4
    obtain ⟨rfl, Nq4, e4⟩ := hQ4
    have N4 := Fr.app N0 Nq4
    refine otr (S' := T4.setTop (mkF m 4 #[.val (.ref x_), .val (.int (0 : Int32))] [(.int (0 : Int32))])) st4 ?_
    refine o_ifYes X4 hx 16 (hb hby d23_4) (teq (by decide : (0 : Int32) = (0 : Int32))).1 (by decide) (by decide) ?_
    refine o_aloadN X4 hx (hb hby d23_16) rfl rfl ?_
    obtain ⟨T5, X5, e5, st5⟩ := getF X4 hx hZ hown (host := "") (Or.inl w25) Via.refl e4 pr2 (g := (mkF m 17 #[.val (.ref x_), .val (.int (0 : Int32))] [(.ref x_)])) rfl rfl (hb hby d23_17)
    refine ogo (S' := T5.setTop (mkF m 20 #[.val (.ref x_), .val (.int (0 : Int32))] [(.ref ba_)])) st5 ?_
    refine o_iloadN X5 hx (hb hby d23_20) rfl ?_
    obtain ⟨_, _, ⟨T6, L6, kc6, n6⟩, -, X6, ⟨Lc6, hQ6, l6, y6, z6⟩, st6⟩ := Jvm.LawKit.callS X5 hx (y := yM21) hown (mvT hZ w111) (mvT hZ w112) (mvT hZ w62) (mvT hZ w113) (by decide) (backOf (W := 0) (rm_u16cat_2_0 l Z a0 hw [] z_CS v_FMT ba_ kb_ c0_ c1_ h0 n0 SB O0 pr3 pr5) hZ w113 w62 (by decide) (by decide)) (g := (mkF m 21 #[.val (.ref x_), .val (.int (0 : Int32))] [(.int (0 : Int32)), (.ref ba_)])) rfl (by rw [hml]; rfl) (argsL := [(.ref ba_), (.int (0 : Int32))]) (rest := []) (lenOf own_pd5 rfl) rfl (by show 2 * 0 + _ ≤ _; exact Nat.le_of_eq rfl) (hb hby d23_21) (fun _ _ => ⟨rfl, e5, (by decide : 0 + 0 ≤ _), (by decide : 0 + 0 ≤ _)⟩)
    dsimp only [Pt.U, Pt.locs, Pt.cells, Pt.slots] at X6 l6 y6 z6 st6 hQ6
    subst l6 y6 z6
    obtain ⟨rfl, Nq6, e6⟩ := hQ6
    have N6 := Fr.app N4 Nq6
    refine ogo (S' := T6.setTop (mkF m 24 #[.val (.ref x_), .val (.int (0 : Int32))] [(.int c0_)])) st6 ?_
    refine oend X6 hlk (v := some (.int c0_)) (fun h => by rw [hret] at h; cases h) (fun fs hr => retN X6 hx (t := .char) hret (by simp) (hb hby d23_24) (by rw [(own_nar16 pr5)]; exact hr)) (by decide) (by decide) ?_
    show own_Q_ecat_2_0 Z _ _ _ _ _ _ _ _ _ _ h0 n0 _ T6.heap _
    rw [e6]
    exact ⟨rfl, N6, rfl⟩
def own_Q_skipT_2_0 (Z : State) (z_CS : Int32) (v_FMT : Value) (t_ : Addr) (x_ : Addr) (ba_ : Addr) (kb_ : ClassId) (cd_ : Int32) (z_ : Int32) (vs_ : List Value) (c0_ : Int32) (c1_ : Int32) (u_ : Int32) (h0 : Heap) (n0 : Nat) (v : Option Value) (h : Heap) (L : List Loc) : Prop := (v = some (.int (1 : Int32))) ∧ (Fr n0 L) ∧ (Keep h0 h [t_]) ∧ (Exa Z h t_ "com/example/rowfold/rowfold/Literal") ∧ (Fld Z h t_ "com/example/rowfold/rowfold/Literal" "text" "Ljava/lang/String;" (.ref x_)) ∧ (Fld Z h t_ "com/example/rowfold/rowfold/Literal" "at" "I" (.int (1 : Int32)))
set_option maxRecDepth 65536 in
set_option maxHeartbeats 40000000 in
theorem rm_skipT_2_0 (l : Launch) (Z : State) (a0 : Array Value) (hw : ∀ d ∈ tables_1, d.before a0 Z = true) (ws : List Jvm.Cond) (z_CS : Int32) (v_FMT : Value) (t_ : Addr) (x_ : Addr) (ba_ : Addr) (kb_ : ClassId) (cd_ : Int32) (z_ : Int32) (vs_ : List Value) (c0_ : Int32) (c1_ : Int32) (u_ : Int32) (h0 : Heap) (n0 : Nat) (SB : own_Start Z z_CS v_FMT) (O0 : Old Z n0 h0) (pr0 : Exa Z h0 t_ "com/example/rowfold/rowfold/Literal") (pr1 : Fld Z h0 t_ "com/example/rowfold/rowfold/Literal" "text" "Ljava/lang/String;" (.ref x_)) (pr2 : Fld Z h0 t_ "com/example/rowfold/rowfold/Literal" "at" "I" (.int (0 : Int32))) (pr3 : Exa Z h0 x_ "java/lang/String") (pr4 : Fld Z h0 x_ "java/lang/String" "coder" "B" (.int cd_)) (pr5 : Fld Z h0 x_ "java/lang/String" "value" "[B" (.ref ba_)) (pr6 : Arv Z h0 ba_ kb_ .byte z_ vs_ (.int 0)) (pr7 : own_enc2 c0_ c1_ cd_ z_ vs_) (pr8 : own_c16 c0_) (pr9 : c0_ = u_) (pr10 : n0 ≤ t_) :
    oMet l Z yM13 prog_8_method_4_code 3 (some .boolean) ws ({ frames := 5, cells := 0, slots := 0, locals := 66 } : Room) 0 0 #[(.ref t_), (.int u_)] h0 (own_Q_skipT_2_0 Z z_CS v_FMT t_ x_ ba_ kb_ cd_ z_ vs_ c0_ c1_ u_ h0 n0) := by
  refine oenter own_pn0 #[.val (.ref t_), .val (.int u_), .unset] (fun m => by first | (simp [entryFrame, mkF, argsToLocals, Value.category]; done) | rfl) ?_
  intro p e s m below meth c s₁ X0 hx hZ hby hml hret hown0 hnm hlk e0
  have hown : s.vm.findClass "com/example/rowfold/rowfold/Literal" = some m.cls := hown0
  have N0 := Fr.nil n0
  obtain ⟨S_CS, H_CS, S__assertionsDisabled, S_HI_BYTE_SHIFT, S_LO_BYTE_SHIFT, S_FMT, R_FMT⟩ := (id SB)
  have w7 := hw _ (List.mem_of_getElem? (i := 7) rfl)
  have w28 := hw _ (List.mem_of_getElem? (i := 28) rfl)
  have w29 := hw _ (List.mem_of_getElem? (i := 29) rfl)
  have w30 := hw _ (List.mem_of_getElem? (i := 30) rfl)
  have w31 := hw _ (List.mem_of_getElem? (i := 31) rfl)
  have w39 := hw _ (List.mem_of_getElem? (i := 39) rfl)
  have w45 := hw _ (List.mem_of_getElem? (i := 45) rfl)
  have w46 := hw _ (List.mem_of_getElem? (i := 46) rfl)
  have w52 := hw _ (List.mem_of_getElem? (i := 52) rfl)
  have w53 := hw _ (List.mem_of_getElem? (i := 53) rfl)
  have w54 := hw _ (List.mem_of_getElem? (i := 54) rfl)
  have w70 := hw _ (List.mem_of_getElem? (i := 70) rfl)
  have w71 := hw _ (List.mem_of_getElem? (i := 71) rfl)
  have w72 := hw _ (List.mem_of_getElem? (i := 72) rfl)
  have w73 := hw _ (List.mem_of_getElem? (i := 73) rfl)
  have w74 := hw _ (List.mem_of_getElem? (i := 74) rfl)
  refine o_aloadN X0 hx (hb hby d14_0) rfl rfl ?_
  obtain ⟨T1, X1, e1, st1⟩ := getF X0 hx hZ hown (host := "") (Or.inl w52) Via.refl e0 pr2 (g := (mkF m 1 #[.val (.ref t_), .val (.int u_), .unset] [(.ref t_)])) rfl rfl (hb hby d14_1)
  refine ogo (S' := T1.setTop (mkF m 4 #[.val (.ref t_), .val (.int u_), .unset] [(.int (0 : Int32))])) st1 ?_
  refine o_aloadN X1 hx (hb hby d14_4) rfl rfl ?_
  obtain ⟨T2, X2, e2, st2⟩ := getF X1 hx hZ hown (host := "") (Or.inl w45) Via.refl e1 pr1 (g := (mkF m 5 #[.val (.ref t_), .val (.int u_), .unset] [(.ref t_), (.int (0 : Int32))])) rfl rfl (hb hby d14_5)
  refine ogo (S' := T2.setTop (mkF m 8 #[.val (.ref t_), .val (.int u_), .unset] [(.ref x_), (.int (0 : Int32))])) st2 ?_
  obtain ⟨cq3, kq3, q3a, q3b, q3c⟩ := isOf hZ e2 pr3
  obtain ⟨_, _, ⟨T3, L3, kc3, n3⟩, -, X3, ⟨Lc3, hQ3, l3, y3, z3⟩, st3⟩ := X2.virtualBack hx (y := yM12) (z := yM12) hown (mvT hZ w54) (mvT hZ w28) (notFace_of_selects (args := #[]) (mvT hZ w30)) (mvT hZ w30) (mvT hZ w29) (by decide) (backOf (W := 1) (rm_elen_2 l Z a0 hw [] z_CS v_FMT x_ ba_ kb_ cd_ z_ vs_ c0_ c1_ h0 n0 SB O0 pr3 pr4 pr5 pr6 pr7) hZ w31 w7 (by decide) (by decide)) q3a q3c (g := (mkF m 8 #[.val (.ref t_), .val (.int u_), .unset] [(.ref x_), (.int (0 : Int32))])) rfl (by rw [hml]; rfl) (Steps.refl _) (argsL := []) (rest := [(.int (0 : Int32))]) (lenOf own_pd9 rfl) rfl (by show 2 * 0 + _ ≤ _; exact Nat.le_of_eq rfl) (hb hby d14_8) (fun _ _ => ⟨rfl, e2, (by decide : 0 + 0 ≤ _), (by decide : 0 + 0 ≤ _)⟩)
  dsimp only [Pt.U, Pt.locs, Pt.cells, Pt.slots] at X3 l3 y3 z3 st3 hQ3
  subst l3 y3 z3
  obtain ⟨rfl, Nq3, e3⟩ := hQ3
  have N3 := Fr.app N0 Nq3
  refine otr (S' := T3.setTop (mkF m 11 #[.val (.ref t_), .val (.int u_), .unset] [(.int (2 : Int32)), (.int (0 : Int32))])) st3 ?_
  refine o_icmpNo X3 hx (hb hby d14_11) (tlt (by decide : (0 : Int32) < (2 : Int32))).2.1 ?_
  refine o_aloadN X3 hx (hb hby d14_14) rfl rfl ?_
  obtain ⟨T4, X4, e4, st4⟩ := getF X3 hx hZ hown (host := "") (Or.inl w45) Via.refl e3 pr1 (g := (mkF m 15 #[.val (.ref t_), .val (.int u_), .unset] [(.ref t_)])) rfl rfl (hb hby d14_15)
  refine ogo (S' := T4.setTop (mkF m 18 #[.val (.ref t_), .val (.int u_), .unset] [(.ref x_)])) st4 ?_
  refine o_aloadN X4 hx (hb hby d14_18) rfl rfl ?_
  obtain ⟨T5, X5, e5, st5⟩ := getF X4 hx hZ hown (host := "") (Or.inl w52) Via.refl e4 pr2 (g := (mkF m 19 #[.val (.ref t_), .val (.int u_), .unset] [(.ref t_), (.ref x_)])) rfl rfl (hb hby d14_19)
  refine ogo (S' := T5.setTop (mkF m 22 #[.val (.ref t_), .val (.int u_), .unset] [(.int (0 : Int32)), (.ref x_)])) st5 ?_
  obtain ⟨cq6, kq6, q6a, q6b, q6c⟩ := isOf hZ e5 pr3
  obtain ⟨_, _, ⟨T6, L6, kc6, n6⟩, -, X6, ⟨Lc6, hQ6, l6, y6, z6⟩, st6⟩ := X5.virtualBack hx (y := yM22) (z := yM22) hown (mvT hZ w70) (mvT hZ w71) (notFace_of_selects (args := #[]) (mvT hZ w73)) (mvT hZ w73) (mvT hZ w72) (by decide) (backOf (W := 0) (rm_ecat_2_0 l Z a0 hw [] z_CS v_FMT x_ ba_ kb_ cd_ z_ vs_ c0_ c1_ h0 n0 SB O0 pr3 pr4 pr5 pr6 pr7 pr8) hZ w74 w7 (by decide) (by decide)) q6a q6c (g := (mkF m 22 #[.val (.ref t_), .val (.int u_), .unset] [(.int (0 : Int32)), (.ref x_)])) rfl (by rw [hml]; rfl) (Steps.refl _) (argsL := [(.int (0 : Int32))]) (rest := []) (lenOf own_pd15 rfl) rfl (by show 2 * 0 + _ ≤ _; exact Nat.le_of_eq rfl) (hb hby d14_22) (fun _ _ => ⟨rfl, e5, (by decide : 0 + 0 ≤ _), (by decide : 0 + 0 ≤ _)⟩)
  dsimp only [Pt.U, Pt.locs, Pt.cells, Pt.slots] at X6 l6 y6 z6 st6 hQ6
  subst l6 y6 z6
  obtain ⟨rfl, Nq6, e6⟩ := hQ6
  have N6 := Fr.app N3 Nq6
  refine otr (S' := T6.setTop (mkF m 25 #[.val (.ref t_), .val (.int u_), .unset] [(.int c0_)])) st6 ?_
  refine o_iloadN X6 hx (hb hby d14_25) rfl ?_
  refine o_icmpNo X6 hx (hb hby d14_26) (teq pr9).2 ?_
  refine o_iconst X6 hx (1 : Int32) (hb hby d14_29) rfl ?_
  refine o_goto X6 hx 34 (hb hby d14_30) (by decide) (by decide) ?_
  refine o_istoreN X6 hx (l' := #[.val (.ref t_), .val (.int u_), .val (.int (1 : Int32))]) (hb hby d14_34) rfl ?_
  refine o_iloadN X6 hx (hb hby d14_35) rfl ?_
  refine o_ifNo X6 hx (hb hby d14_36) (feq (by decide : ¬ ((1 : Int32) = (0 : Int32)))).1 ?_
  refine o_aloadN X6 hx (hb hby d14_39) rfl rfl ?_
  refine o_dup X6 hx (hb hby d14_40) rfl ?_
  obtain ⟨T7, X7, e7, st7⟩ := getF X6 hx hZ hown (host := "") (Or.inl w52) Via.refl e6 pr2 (g := (mkF m 41 #[.val (.ref t_), .val (.int u_), .val (.int (1 : Int32))] [(.ref t_), (.ref t_)])) rfl rfl (hb hby d14_41)
  refine ogo (S' := T7.setTop (mkF m 44 #[.val (.ref t_), .val (.int u_), .val (.int (1 : Int32))] [(.int (0 : Int32)), (.ref t_)])) st7 ?_
  refine o_iconst X7 hx (1 : Int32) (hb hby d14_44) rfl ?_
  refine o_iadd X7 hx (hb hby d14_45) ?_
  obtain ⟨T8, _, X8, rfl, W8, st8⟩ := putF X7 hx hZ hown (host := "") (Or.inl w52) Via.refl e7 pr2 pr0 (Or.inl w53) w39 (ty := .int) (by decide) rfl rfl (g := (mkF m 46 #[.val (.ref t_), .val (.int u_), .val (.int (1 : Int32))] [(.int (1 : Int32)), (.ref t_)])) rfl rfl (hb hby d14_46)
  have N8 := Fr.snoc X8 N6 pr10
  have F8 := Fld.same W8 pr2
  refine ogo (S' := T8.setTop (mkF m 49 #[.val (.ref t_), .val (.int u_), .val (.int (1 : Int32))] [])) st8 ?_
  refine o_iloadN X8 hx (hb hby d14_49) rfl ?_
  have c9 := (Fld.other W8 pr1 (Or.inr (slot_ne (Or.inr w46) (Or.inl w53) (by decide) (t := (.object "java/lang/String")) (t' := .int) (by decide) (by decide))))
  refine oend X8 hlk (v := some (.int (1 : Int32))) (fun h => by rw [hret] at h; cases h) (fun fs hr => retN X8 hx (t := .boolean) hret (by simp) (hb hby d14_50) hr) (by decide) (by decide) ?_
  show own_Q_skipT_2_0 Z _ _ _ _ _ _ _ _ _ _ _ _ h0 n0 _ T8.heap _
  exact ⟨rfl, N8, ((Keep.refl h0 [t_]).wr W8 (Or.inl (List.mem_of_getElem? (i := 0) rfl))), (Exa.wr W8 pr0), c9, F8⟩
def own_Q_l1c_2_1 (Z : State) (z_CS : Int32) (v_FMT : Value) (ba_ : Addr) (kb_ : ClassId) (c0_ : Int32) (c1_ : Int32) (h0 : Heap) (n0 : Nat) (v : Option Value) (h : Heap) (L : List Loc) : Prop := (v = some (.int c1_)) ∧ (Fr n0 L) ∧ (h = h0)
set_option maxRecDepth 65536 in
set_option maxHeartbeats 40000000 in
theorem rm_l1c_2_1 (l : Launch) (Z : State) (a0 : Array Value) (hw : ∀ d ∈ tables_1, d.before a0 Z = true) (ws : List Jvm.Cond) (z_CS : Int32) (v_FMT : Value) (ba_ : Addr) (kb_ : ClassId) (c0_ : Int32) (c1_ : Int32) (h0 : Heap) (n0 : Nat) (SB : own_Start Z z_CS v_FMT) (O0 : Old Z n0 h0) (pr0 : Arv Z h0 ba_ kb_ .byte (2 : Int32) [(.int c0_.toInt8.toInt32), (.int c1_.toInt8.toInt32)] (.int 0)) (pr1 : ¬ (c1_ < (0 : Int32))) (pr2 : ¬ ((255 : Int32) < c1_)) :
    oMet l Z yM18 jdk_43_method_2_code 2 (some .char) ws ({ frames := 2, cells := 0, slots := 0, locals := 27 } : Room) 0 0 #[(.ref ba_), (.int (1 : Int32))] h0 (own_Q_l1c_2_1 Z z_CS v_FMT ba_ kb_ c0_ c1_ h0 n0) := by
  refine oenter own_pn4 #[.val (.ref ba_), .val (.int (1 : Int32))] (fun m => by first | (simp [entryFrame, mkF, argsToLocals, Value.category]; done) | rfl) ?_
  intro p e s m below meth c s₁ X0 hx hZ hby hml hret hown0 hnm hlk e0
  have hown : s.vm.findClass "java/lang/StringLatin1" = some m.cls := hown0
  have N0 := Fr.nil n0
  obtain ⟨S_CS, H_CS, S__assertionsDisabled, S_HI_BYTE_SHIFT, S_LO_BYTE_SHIFT, S_FMT, R_FMT⟩ := (id SB)
  have w7 := hw _ (List.mem_of_getElem? (i := 7) rfl)
  have w84 := hw _ (List.mem_of_getElem? (i := 84) rfl)
  have w85 := hw _ (List.mem_of_getElem? (i := 85) rfl)
  have w86 := hw _ (List.mem_of_getElem? (i := 86) rfl)
  refine o_iloadN X0 hx (hb hby d19_0) rfl ?_
  refine o_aloadN X0 hx (hb hby d19_1) rfl rfl ?_
  obtain ⟨cl1, Ar1, -, S1, N1z, -, -⟩ := (id pr0)
  refine ogo (S' := s₁.setTop (mkF m 3 #[.val (.ref ba_), .val (.int (1 : Int32))] [(.int (2 : Int32)), (.int (1 : Int32))])) (fun _ kt_ => X0.arraylength hx (by rw [e0]; exact Ar1.1) (State.isArrayOf_alike hZ.alike Ar1.2.1) (g := (mkF m 2 #[.val (.ref ba_), .val (.int (1 : Int32))] [(.ref ba_), (.int (1 : Int32))])) rfl rfl (hb hby d19_2) _ (by rw [len_of S1 N1z]; exact kt_)) ?_
  obtain ⟨_, _, ⟨T2, L2, kc2, n2⟩, -, X2, ⟨Lc2, hQ2, l2, y2, z2⟩, st2⟩ := Jvm.LawKit.callS X0 hx (y := yM17) hown (mvT hZ w84) (mvT hZ w85) (mvT hZ w7) (mvT hZ w86) (by decide) (backOf (W := 0) (rm_sci l Z a0 hw [] z_CS v_FMT (1 : Int32) (2 : Int32) h0 n0 SB O0 (by decide) (by decide)) hZ w86 w7 (by decide) (by decide)) (g := (mkF m 3 #[.val (.ref ba_), .val (.int (1 : Int32))] [(.int (2 : Int32)), (.int (1 : Int32))])) rfl (by rw [hml]; rfl) (argsL := [(.int (1 : Int32)), (.int (2 : Int32))]) (rest := []) (lenOf own_pd11 rfl) rfl (by show 2 * 0 + _ ≤ _; exact Nat.le_of_eq rfl) (hb hby d19_3) (fun _ _ => ⟨rfl, e0, (by decide : 0 + 0 ≤ _), (by decide : 0 + 0 ≤ _)⟩)
  dsimp only [Pt.U, Pt.locs, Pt.cells, Pt.slots] at X2 l2 y2 z2 st2 hQ2
  subst l2 y2 z2
  obtain ⟨rfl, Nq2, e2⟩ := hQ2
  have N2 := Fr.app N0 Nq2
  refine ogo (S' := T2.setTop (mkF m 6 #[.val (.ref ba_), .val (.int (1 : Int32))] [])) st2 ?_
  refine o_aloadN X2 hx (hb hby d19_6) rfl rfl ?_
  refine o_iloadN X2 hx (hb hby d19_7) rfl ?_
  obtain ⟨cl3, Ar3, q3, S3, N3z, H3, G3⟩ := (id pr0)
  have hi3 := inb_of (j := (1 : Int32)) S3 ⟨by decide, by decide⟩
  have ha3 := Has.at (v := (.int c1_.toInt8.toInt32)) H3 hi3 rfl
  refine ogo (S' := T2.setTop (mkF m 9 #[.val (.ref ba_), .val (.int (1 : Int32))] [(.int c1_.toInt8.toInt32)])) (X2.baloadBytes hx (j := (1 : Int32)) (v := (.int c1_.toInt8.toInt32)) (by rw [e2]; exact Ar3.1) (State.isArrayOf_alike hZ.alike Ar3.2.1) Ar3.2.2 hi3 ha3 (g := (mkF m 8 #[.val (.ref ba_), .val (.int (1 : Int32))] [(.int (1 : Int32)), (.ref ba_)])) rfl rfl (hb hby d19_8)) ?_
  refine o_sipush X2 hx (255 : Int32) (hb hby d19_9) rfl ?_
  refine o_iand X2 hx (hb hby d19_12) ?_
  refine o_i2c X2 hx (hb hby d19_13) ?_
  rw [own_char pr1 pr2]
  refine oend X2 hlk (v := some (.int c1_)) (fun h => by rw [hret] at h; cases h) (fun fs hr => retN X2 hx (t := .char) hret (by simp) (hb hby d19_14) (by rw [(own_narsm pr1 pr2)]; exact hr)) (by decide) (by decide) ?_
  show own_Q_l1c_2_1 Z _ _ _ _ _ _ h0 n0 _ T2.heap _
  rw [e2]
  exact ⟨rfl, N2, rfl⟩
def own_Q_u16ci_2_1 (Z : State) (z_CS : Int32) (v_FMT : Value) (ba_ : Addr) (kb_ : ClassId) (vs_ : List Value) (h0 : Heap) (n0 : Nat) (v : Option Value) (h : Heap) (L : List Loc) : Prop := (v = none) ∧ (Fr n0 L) ∧ (h = h0)
set_option maxRecDepth 65536 in
set_option maxHeartbeats 40000000 in
theorem rm_u16ci_2_1 (l : Launch) (Z : State) (a0 : Array Value) (hw : ∀ d ∈ tables_1, d.before a0 Z = true) (ws : List Jvm.Cond) (z_CS : Int32) (v_FMT : Value) (ba_ : Addr) (kb_ : ClassId) (vs_ : List Value) (h0 : Heap) (n0 : Nat) (SB : own_Start Z z_CS v_FMT) (O0 : Old Z n0 h0) (pr0 : Arv Z h0 ba_ kb_ .byte (4 : Int32) vs_ (.int 0)) :
    oMet l Z yM20 jdk_52_method_91_code 2 none ws ({ frames := 2, cells := 0, slots := 0, locals := 27 } : Room) 0 0 #[(.int (1 : Int32)), (.ref ba_)] h0 (own_Q_u16ci_2_1 Z z_CS v_FMT ba_ kb_ vs_ h0 n0) := by
  refine oenter own_pn1 #[.val (.int (1 : Int32)), .val (.ref ba_)] (fun m => by first | (simp [entryFrame, mkF, argsToLocals, Value.category]; done) | rfl) ?_
  intro p e s m below meth c s₁ X0 hx hZ hby hml hret hown0 hnm hlk e0
  have hown : s.vm.findClass "java/lang/StringUTF16" = some m.cls := hown0
  have N0 := Fr.nil n0
  obtain ⟨S_CS, H_CS, S__assertionsDisabled, S_HI_BYTE_SHIFT, S_LO_BYTE_SHIFT, S_FMT, R_FMT⟩ := (id SB)
  have w7 := hw _ (List.mem_of_getElem? (i := 7) rfl)
  have w62 := hw _ (List.mem_of_getElem? (i := 62) rfl)
  have w85 := hw _ (List.mem_of_getElem? (i := 85) rfl)
  have w86 := hw _ (List.mem_of_getElem? (i := 86) rfl)
  have w117 := hw _ (List.mem_of_getElem? (i := 117) rfl)
  have w118 := hw _ (List.mem_of_getElem? (i := 118) rfl)
  have w119 := hw _ (List.mem_of_getElem? (i := 119) rfl)
  have w120 := hw _ (List.mem_of_getElem? (i := 120) rfl)
  refine o_iloadN X0 hx (hb hby d21_0) rfl ?_
  refine o_aloadN X0 hx (hb hby d21_1) rfl rfl ?_
  obtain ⟨_, _, ⟨T1, L1, kc1, n1⟩, -, X1, ⟨Lc1, hQ1, l1, y1, z1⟩, st1⟩ := Jvm.LawKit.callS X0 hx (y := yM19) hown (mvT hZ w117) (mvT hZ w118) (mvT hZ w62) (mvT hZ w119) (by decide) (backOf (W := 1) (rm_u16len_2 l Z a0 hw []  ba_ kb_ vs_ h0 n0 O0 pr0) hZ w119 w62 (by decide) (by decide)) (g := (mkF m 2 #[.val (.int (1 : Int32)), .val (.ref ba_)] [(.ref ba_), (.int (1 : Int32))])) rfl (by rw [hml]; rfl) (argsL := [(.ref ba_)]) (rest := [(.int (1 : Int32))]) (lenOf own_pd12 rfl) rfl (by show 2 * 0 + _ ≤ _; exact Nat.le_of_eq rfl) (hb hby d21_2) (fun _ _ => ⟨rfl, e0, (by decide : 0 + 0 ≤ _), (by decide : 0 + 0 ≤ _)⟩)
  dsimp only [Pt.U, Pt.locs, Pt.cells, Pt.slots] at X1 l1 y1 z1 st1 hQ1
  subst l1 y1 z1
  obtain ⟨rfl, Nq1, e1⟩ := hQ1
  have N1 := Fr.app N0 Nq1
  refine ogo (S' := T1.setTop (mkF m 5 #[.val (.int (1 : Int32)), .val (.ref ba_)] [(.int (2 : Int32)), (.int (1 : Int32))])) st1 ?_
  obtain ⟨_, _, ⟨T2, L2, kc2, n2⟩, -, X2, ⟨Lc2, hQ2, l2, y2, z2⟩, st2⟩ := Jvm.LawKit.callS X1 hx (y := yM17) hown (mvT hZ w120) (mvT hZ w85) (mvT hZ w7) (mvT hZ w86) (by decide) (backOf (W := 0) (rm_sci l Z a0 hw [] z_CS v_FMT (1 : Int32) (2 : Int32) h0 n0 SB O0 (by decide) (by decide)) hZ w86 w7 (by decide) (by decide)) (g := (mkF m 5 #[.val (.int (1 : Int32)), .val (.ref ba_)] [(.int (2 : Int32)), (.int (1 : Int32))])) rfl (by rw [hml]; rfl) (argsL := [(.int (1 : Int32)), (.int (2 : Int32))]) (rest := []) (lenOf own_pd11 rfl) rfl (by show 2 * 0 + _ ≤ _; exact Nat.le_of_eq rfl) (hb hby d21_5) (fun _ _ => ⟨rfl, e1, (by decide : 0 + 0 ≤ _), (by decide : 0 + 0 ≤ _)⟩)
  dsimp only [Pt.U, Pt.locs, Pt.cells, Pt.slots] at X2 l2 y2 z2 st2 hQ2
  subst l2 y2 z2
  obtain ⟨rfl, Nq2, e2⟩ := hQ2
  have N2 := Fr.app N1 Nq2
  refine ogo (S' := T2.setTop (mkF m 8 #[.val (.int (1 : Int32)), .val (.ref ba_)] [])) st2 ?_
  refine oend X2 hlk (v := none) (fun _ => rfl) (fun fs hr => X2.returnOut hx hret (hb hby d21_8) hr) (by decide) (by decide) ?_
  show own_Q_u16ci_2_1 Z _ _ _ _ _ h0 n0 _ T2.heap _
  rw [e2]
  exact ⟨rfl, N2, rfl⟩
def own_Q_u16cat_2_1 (Z : State) (z_CS : Int32) (v_FMT : Value) (ba_ : Addr) (kb_ : ClassId) (c0_ : Int32) (c1_ : Int32) (h0 : Heap) (n0 : Nat) (v : Option Value) (h : Heap) (L : List Loc) : Prop := (v = some (.int c1_)) ∧ (Fr n0 L) ∧ (h = h0)
set_option maxRecDepth 65536 in
set_option maxHeartbeats 40000000 in
theorem rm_u16cat_2_1 (l : Launch) (Z : State) (a0 : Array Value) (hw : ∀ d ∈ tables_1, d.before a0 Z = true) (ws : List Jvm.Cond) (z_CS : Int32) (v_FMT : Value) (ba_ : Addr) (kb_ : ClassId) (c0_ : Int32) (c1_ : Int32) (h0 : Heap) (n0 : Nat) (SB : own_Start Z z_CS v_FMT) (O0 : Old Z n0 h0) (pr0 : Arv Z h0 ba_ kb_ .byte (4 : Int32) [(.int (c0_ >>> ((0 : Int32) &&& 31)).toInt8.toInt32), (.int (c0_ >>> ((8 : Int32) &&& 31)).toInt8.toInt32), (.int (c1_ >>> ((0 : Int32) &&& 31)).toInt8.toInt32), (.int (c1_ >>> ((8 : Int32) &&& 31)).toInt8.toInt32)] (.int 0)) (pr1 : own_c16 c1_) :
    oMet l Z yM21 jdk_52_method_83_code 2 (some .char) ws ({ frames := 3, cells := 0, slots := 0, locals := 40 } : Room) 0 0 #[(.ref ba_), (.int (1 : Int32))] h0 (own_Q_u16cat_2_1 Z z_CS v_FMT ba_ kb_ c0_ c1_ h0 n0) := by
  refine oenter own_pn1 #[.val (.ref ba_), .val (.int (1 : Int32))] (fun m => by first | (simp [entryFrame, mkF, argsToLocals, Value.category]; done) | rfl) ?_
  intro p e s m below meth c s₁ X0 hx hZ hby hml hret hown0 hnm hlk e0
  have hown : s.vm.findClass "java/lang/StringUTF16" = some m.cls := hown0
  have N0 := Fr.nil n0
  obtain ⟨S_CS, H_CS, S__assertionsDisabled, S_HI_BYTE_SHIFT, S_LO_BYTE_SHIFT, S_FMT, R_FMT⟩ := (id SB)
  have w62 := hw _ (List.mem_of_getElem? (i := 62) rfl)
  have w108 := hw _ (List.mem_of_getElem? (i := 108) rfl)
  have w109 := hw _ (List.mem_of_getElem? (i := 109) rfl)
  have w110 := hw _ (List.mem_of_getElem? (i := 110) rfl)
  have w114 := hw _ (List.mem_of_getElem? (i := 114) rfl)
  have w115 := hw _ (List.mem_of_getElem? (i := 115) rfl)
  have w116 := hw _ (List.mem_of_getElem? (i := 116) rfl)
  refine o_iloadN X0 hx (hb hby d22_0) rfl ?_
  refine o_aloadN X0 hx (hb hby d22_1) rfl rfl ?_
  obtain ⟨_, _, ⟨T1, L1, kc1, n1⟩, -, X1, ⟨Lc1, hQ1, l1, y1, z1⟩, st1⟩ := Jvm.LawKit.callS X0 hx (y := yM20) hown (mvT hZ w114) (mvT hZ w115) (mvT hZ w62) (mvT hZ w116) (by decide) (backOf (W := 0) (rm_u16ci_2_1 l Z a0 hw [] z_CS v_FMT ba_ kb_ [(.int (c0_ >>> ((0 : Int32) &&& 31)).toInt8.toInt32), (.int (c0_ >>> ((8 : Int32) &&& 31)).toInt8.toInt32), (.int (c1_ >>> ((0 : Int32) &&& 31)).toInt8.toInt32), (.int (c1_ >>> ((8 : Int32) &&& 31)).toInt8.toInt32)] h0 n0 SB O0 pr0) hZ w116 w62 (by decide) (by decide)) (g := (mkF m 2 #[.val (.ref ba_), .val (.int (1 : Int32))] [(.ref ba_), (.int (1 : Int32))])) rfl (by rw [hml]; rfl) (argsL := [(.int (1 : Int32)), (.ref ba_)]) (rest := []) (lenOf own_pd13 rfl) rfl (by show 2 * 0 + _ ≤ _; exact Nat.le_of_eq rfl) (hb hby d22_2) (fun _ _ => ⟨rfl, e0, (by decide : 0 + 0 ≤ _), (by decide : 0 + 0 ≤ _)⟩)
  dsimp only [Pt.U, Pt.locs, Pt.cells, Pt.slots] at X1 l1 y1 z1 st1 hQ1
  subst l1 y1 z1
  obtain ⟨rfl, Nq1, e1⟩ := hQ1
  have N1 := Fr.app N0 Nq1
  refine ogo (S' := T1.setTop (mkF m 5 #[.val (.ref ba_), .val (.int (1 : Int32))] [])) st1 ?_
  refine o_aloadN X1 hx (hb hby d22_5) rfl rfl ?_
  refine o_iloadN X1 hx (hb hby d22_6) rfl ?_
  obtain ⟨_, _, ⟨T2, L2, kc2, n2⟩, -, X2, ⟨Lc2, hQ2, l2, y2, z2⟩, st2⟩ := Jvm.LawKit.callS X1 hx (y := yM8) hown (mvT hZ w108) (mvT hZ w109) (mvT hZ w62) (mvT hZ w110) (by decide) (backOf (W := 0) (rm_getch_2_1 l Z a0 hw [] z_CS v_FMT ba_ kb_ c0_ c1_ h0 n0 SB O0 pr0 pr1) hZ w110 w62 (by decide) (by decide)) (g := (mkF m 7 #[.val (.ref ba_), .val (.int (1 : Int32))] [(.int (1 : Int32)), (.ref ba_)])) rfl (by rw [hml]; rfl) (argsL := [(.ref ba_), (.int (1 : Int32))]) (rest := []) (lenOf own_pd5 rfl) rfl (by show 2 * 0 + _ ≤ _; exact Nat.le_of_eq rfl) (hb hby d22_7) (fun _ _ => ⟨rfl, e1, (by decide : 0 + 0 ≤ _), (by decide : 0 + 0 ≤ _)⟩)
  dsimp only [Pt.U, Pt.locs, Pt.cells, Pt.slots] at X2 l2 y2 z2 st2 hQ2
  subst l2 y2 z2
  obtain ⟨rfl, Nq2, e2⟩ := hQ2
  have N2 := Fr.app N1 Nq2
  refine ogo (S' := T2.setTop (mkF m 10 #[.val (.ref ba_), .val (.int (1 : Int32))] [(.int c1_)])) st2 ?_
  refine oend X2 hlk (v := some (.int c1_)) (fun h => by rw [hret] at h; cases h) (fun fs hr => retN X2 hx (t := .char) hret (by simp) (hb hby d22_10) (by rw [(own_nar16 pr1)]; exact hr)) (by decide) (by decide) ?_
  show own_Q_u16cat_2_1 Z _ _ _ _ _ _ h0 n0 _ T2.heap _
  rw [e2]
  exact ⟨rfl, N2, rfl⟩
def own_Q_ecat_2_1 (Z : State) (z_CS : Int32) (v_FMT : Value) (x_ : Addr) (ba_ : Addr) (kb_ : ClassId) (cd_ : Int32) (z_ : Int32) (vs_ : List Value) (c0_ : Int32) (c1_ : Int32) (h0 : Heap) (n0 : Nat) (v : Option Value) (h : Heap) (L : List Loc) : Prop := (v = some (.int c1_)) ∧ (Fr n0 L) ∧ (h = h0)
set_option maxRecDepth 65536 in
set_option maxHeartbeats 40000000 in
theorem rm_ecat_2_1 (l : Launch) (Z : State) (a0 : Array Value) (hw : ∀ d ∈ tables_1, d.before a0 Z = true) (ws : List Jvm.Cond) (z_CS : Int32) (v_FMT : Value) (x_ : Addr) (ba_ : Addr) (kb_ : ClassId) (cd_ : Int32) (z_ : Int32) (vs_ : List Value) (c0_ : Int32) (c1_ : Int32) (h0 : Heap) (n0 : Nat) (SB : own_Start Z z_CS v_FMT) (O0 : Old Z n0 h0) (pr0 : Exa Z h0 x_ "java/lang/String") (pr1 : Fld Z h0 x_ "java/lang/String" "coder" "B" (.int cd_)) (pr2 : Fld Z h0 x_ "java/lang/String" "value" "[B" (.ref ba_)) (pr3 : Arv Z h0 ba_ kb_ .byte z_ vs_ (.int 0)) (pr4 : own_enc2 c0_ c1_ cd_ z_ vs_) (pr5 : own_c16 c1_) :
    oMet l Z yM22 jdk_42_method_56_code 2 (some .char) ws ({ frames := 4, cells := 0, slots := 0, locals := 53 } : Room) 0 0 #[(.ref x_), (.int (1 : Int32))] h0 (own_Q_ecat_2_1 Z z_CS v_FMT x_ ba_ kb_ cd_ z_ vs_ c0_ c1_ h0 n0) := by
  refine oenter own_pn2 #[.val (.ref x_), .val (.int (1 : Int32))] (fun m => by first | (simp [entryFrame, mkF, argsToLocals, Value.category]; done) | rfl) ?_
  intro p e s m below meth c s₁ X0 hx hZ hby hml hret hown0 hnm hlk e0
  have hown : s.vm.findClass "java/lang/String" = some m.cls := hown0
  have N0 := Fr.nil n0
  obtain ⟨S_CS, H_CS, S__assertionsDisabled, S_HI_BYTE_SHIFT, S_LO_BYTE_SHIFT, S_FMT, R_FMT⟩ := (id SB)
  have w7 := hw _ (List.mem_of_getElem? (i := 7) rfl)
  have w25 := hw _ (List.mem_of_getElem? (i := 25) rfl)
  have w62 := hw _ (List.mem_of_getElem? (i := 62) rfl)
  have w75 := hw _ (List.mem_of_getElem? (i := 75) rfl)
  have w76 := hw _ (List.mem_of_getElem? (i := 76) rfl)
  have w77 := hw _ (List.mem_of_getElem? (i := 77) rfl)
  have w78 := hw _ (List.mem_of_getElem? (i := 78) rfl)
  have w79 := hw _ (List.mem_of_getElem? (i := 79) rfl)
  have w80 := hw _ (List.mem_of_getElem? (i := 80) rfl)
  have w81 := hw _ (List.mem_of_getElem? (i := 81) rfl)
  have w82 := hw _ (List.mem_of_getElem? (i := 82) rfl)
  have w83 := hw _ (List.mem_of_getElem? (i := 83) rfl)
  have w111 := hw _ (List.mem_of_getElem? (i := 111) rfl)
  have w112 := hw _ (List.mem_of_getElem? (i := 112) rfl)
  have w113 := hw _ (List.mem_of_getElem? (i := 113) rfl)
  rcases pr4 with ⟨hs0, hs1, rfl, rfl, rfl⟩ | ⟨rfl, rfl, rfl⟩
  · refine o_aloadN X0 hx (hb hby d23_0) rfl rfl ?_
    obtain ⟨cq1, kq1, q1a, q1b, q1c⟩ := isOf hZ e0 pr0
    obtain ⟨_, _, ⟨T1, L1, kc1, n1⟩, -, X1, ⟨Lc1, hQ1, l1, y1, z1⟩, st1⟩ := X0.virtualBack hx (y := yM15) (z := yM15) hown (mvT hZ w75) (mvT hZ w76) (notFace_of_selects (args := #[]) (mvT hZ w78)) (mvT hZ w78) (mvT hZ w77) (by decide) (backOf (W := 0) (rm_isl1_0 l Z a0 hw [] z_CS v_FMT x_ h0 n0 SB O0 pr1) hZ w79 w7 (by decide) (by decide)) q1a q1c (g := (mkF m 1 #[.val (.ref x_), .val (.int (1 : Int32))] [(.ref x_)])) rfl (by rw [hml]; rfl) (Steps.refl _) (argsL := []) (rest := []) (lenOf own_pd14 rfl) rfl (by show 2 * 0 + _ ≤ _; exact Nat.le_of_eq rfl) (hb hby d23_1) (fun _ _ => ⟨rfl, e0, (by decide : 0 + 0 ≤ _), (by decide : 0 + 0 ≤ _)⟩)
    dsimp only [Pt.U, Pt.locs, Pt.cells, Pt.slots] at X1 l1 y1 z1 st1 hQ1
    subst l1 y1 z1
    obtain ⟨rfl, Nq1, e1⟩ := hQ1
    have N1 := Fr.app N0 Nq1
    refine otr (S' := T1.setTop (mkF m 4 #[.val (.ref x_), .val (.int (1 : Int32))] [(.int (1 : Int32))])) st1 ?_
    refine o_ifNo X1 hx (hb hby d23_4) (feq (by decide : ¬ ((1 : Int32) = (0 : Int32)))).1 ?_
    refine o_aloadN X1 hx (hb hby d23_7) rfl rfl ?_
    obtain ⟨T2, X2, e2, st2⟩ := getF X1 hx hZ hown (host := "") (Or.inl w25) Via.refl e1 pr2 (g := (mkF m 8 #[.val (.ref x_), .val (.int (1 : Int32))] [(.ref x_)])) rfl rfl (hb hby d23_8)
    refine ogo (S' := T2.setTop (mkF m 11 #[.val (.ref x_), .val (.int (1 : Int32))] [(.ref ba_)])) st2 ?_
    refine o_iloadN X2 hx (hb hby d23_11) rfl ?_
    obtain ⟨_, _, ⟨T3, L3, kc3, n3⟩, -, X3, ⟨Lc3, hQ3, l3, y3, z3⟩, st3⟩ := Jvm.LawKit.callS X2 hx (y := yM18) hown (mvT hZ w80) (mvT hZ w81) (mvT hZ w82) (mvT hZ w83) (by decide) (backOf (W := 0) (rm_l1c_2_1 l Z a0 hw [] z_CS v_FMT ba_ kb_ c0_ c1_ h0 n0 SB O0 pr3 (own_c16n pr5) hs1) hZ w83 w82 (by decide) (by decide)) (g := (mkF m 12 #[.val (.ref x_), .val (.int (1 : Int32))] [(.int (1 : Int32)), (.ref ba_)])) rfl (by rw [hml]; rfl) (argsL := [(.ref ba_), (.int (1 : Int32))]) (rest := []) (lenOf own_pd5 rfl) rfl (by show 2 * 0 + _ ≤ _; exact Nat.le_of_eq rfl) (hb hby d23_12) (fun _ _ => ⟨rfl, e2, (by decide : 0 + 0 ≤ _), (by decide : 0 + 0 ≤ _)⟩)
    dsimp only [Pt.U, Pt.locs, Pt.cells, Pt.slots] at X3 l3 y3 z3 st3 hQ3
    subst l3 y3 z3
    obtain ⟨rfl, Nq3, e3⟩ := hQ3
    have N3 := Fr.app N1 Nq3
    refine ogo (S' := T3.setTop (mkF m 15 #[.val (.ref x_), .val (.int (1 : Int32))] [(.int c1_)])) st3 ?_
    refine oend X3 hlk (v := some (.int c1_)) (fun h => by rw [hret] at h; cases h) (fun fs hr => retN X3 hx (t := .char) hret (by simp) (hb hby d23_15) (by rw [(own_nar16 pr5)]; exact hr)) (by decide) (by decide) ?_
    show own_Q_ecat_2_1 Z _ _ _ _ _ _ _ _ _ _ h0 n0 _ T3.heap _
    rw [e3]
    exact ⟨rfl, N3, rfl⟩
  · refine o_aloadN X0 hx (hb hby d23_0) rfl rfl ?_
    obtain ⟨cq4, kq4, q4a, q4b, q4c⟩ := isOf hZ e0 pr0
    obtain ⟨_, _, ⟨T4, L4, kc4, n4⟩, -, X4, ⟨Lc4, hQ4, l4, y4, z4⟩, st4⟩ := X0.virtualBack hx (y := yM15) (z := yM15) hown (mvT hZ w75) (mvT hZ w76) (notFace_of_selects (args := #[]) (mvT hZ w78)) (mvT hZ w78) (mvT hZ w77) (by decide) (backOf (W := 0) (rm_isl1_1 l Z a0 hw [] z_CS v_FMT x_ h0 n0 SB O0 pr1) hZ w79 w7 (by decide) (by decide)) q4a q4c (g := (mkF m 1 #[.val (.ref x_), .val (.int (1 : Int32))] [(.ref x_)])) rfl (by rw [hml]; rfl) (Steps.refl _) (argsL := []) (rest := []) (lenOf own_pd14 rfl) rfl (by show 2 * 0 + _ ≤ _; exact Nat.le_of_eq rfl) (hb hby d23_1) (fun _ _ => ⟨rfl, e0, (by decide : 0 + 0 ≤ _), (by decide : 0 + 0 ≤ _)⟩)
    dsimp only [Pt.U, Pt.locs, Pt.cells, Pt.slots] at X4 l4 y4 z4 st4 hQ4
    subst l4 y4 z4
    obtain ⟨rfl, Nq4, e4⟩ := hQ4
    have N4 := Fr.app N0 Nq4
    refine otr (S' := T4.setTop (mkF m 4 #[.val (.ref x_), .val (.int (1 : Int32))] [(.int (0 : Int32))])) st4 ?_
    refine o_ifYes X4 hx 16 (hb hby d23_4) (teq (by decide : (0 : Int32) = (0 : Int32))).1 (by decide) (by decide) ?_
    refine o_aloadN X4 hx (hb hby d23_16) rfl rfl ?_
    obtain ⟨T5, X5, e5, st5⟩ := getF X4 hx hZ hown (host := "") (Or.inl w25) Via.refl e4 pr2 (g := (mkF m 17 #[.val (.ref x_), .val (.int (1 : Int32))] [(.ref x_)])) rfl rfl (hb hby d23_17)
    refine ogo (S' := T5.setTop (mkF m 20 #[.val (.ref x_), .val (.int (1 : Int32))] [(.ref ba_)])) st5 ?_
    refine o_iloadN X5 hx (hb hby d23_20) rfl ?_
    obtain ⟨_, _, ⟨T6, L6, kc6, n6⟩, -, X6, ⟨Lc6, hQ6, l6, y6, z6⟩, st6⟩ := Jvm.LawKit.callS X5 hx (y := yM21) hown (mvT hZ w111) (mvT hZ w112) (mvT hZ w62) (mvT hZ w113) (by decide) (backOf (W := 0) (rm_u16cat_2_1 l Z a0 hw [] z_CS v_FMT ba_ kb_ c0_ c1_ h0 n0 SB O0 pr3 pr5) hZ w113 w62 (by decide) (by decide)) (g := (mkF m 21 #[.val (.ref x_), .val (.int (1 : Int32))] [(.int (1 : Int32)), (.ref ba_)])) rfl (by rw [hml]; rfl) (argsL := [(.ref ba_), (.int (1 : Int32))]) (rest := []) (lenOf own_pd5 rfl) rfl (by show 2 * 0 + _ ≤ _; exact Nat.le_of_eq rfl) (hb hby d23_21) (fun _ _ => ⟨rfl, e5, (by decide : 0 + 0 ≤ _), (by decide : 0 + 0 ≤ _)⟩)
    dsimp only [Pt.U, Pt.locs, Pt.cells, Pt.slots] at X6 l6 y6 z6 st6 hQ6
    subst l6 y6 z6
    obtain ⟨rfl, Nq6, e6⟩ := hQ6
    have N6 := Fr.app N4 Nq6
    refine ogo (S' := T6.setTop (mkF m 24 #[.val (.ref x_), .val (.int (1 : Int32))] [(.int c1_)])) st6 ?_
    refine oend X6 hlk (v := some (.int c1_)) (fun h => by rw [hret] at h; cases h) (fun fs hr => retN X6 hx (t := .char) hret (by simp) (hb hby d23_24) (by rw [(own_nar16 pr5)]; exact hr)) (by decide) (by decide) ?_
    show own_Q_ecat_2_1 Z _ _ _ _ _ _ _ _ _ _ h0 n0 _ T6.heap _
    rw [e6]
    exact ⟨rfl, N6, rfl⟩
def own_Q_skipT_2_1 (Z : State) (z_CS : Int32) (v_FMT : Value) (t_ : Addr) (x_ : Addr) (ba_ : Addr) (kb_ : ClassId) (cd_ : Int32) (z_ : Int32) (vs_ : List Value) (c0_ : Int32) (c1_ : Int32) (u_ : Int32) (h0 : Heap) (n0 : Nat) (v : Option Value) (h : Heap) (L : List Loc) : Prop := (v = some (.int (1 : Int32))) ∧ (Fr n0 L) ∧ (Keep h0 h [t_]) ∧ (Exa Z h t_ "com/example/rowfold/rowfold/Literal") ∧ (Fld Z h t_ "com/example/rowfold/rowfold/Literal" "text" "Ljava/lang/String;" (.ref x_)) ∧ (Fld Z h t_ "com/example/rowfold/rowfold/Literal" "at" "I" (.int (2 : Int32)))
set_option maxRecDepth 65536 in
set_option maxHeartbeats 40000000 in
theorem rm_skipT_2_1 (l : Launch) (Z : State) (a0 : Array Value) (hw : ∀ d ∈ tables_1, d.before a0 Z = true) (ws : List Jvm.Cond) (z_CS : Int32) (v_FMT : Value) (t_ : Addr) (x_ : Addr) (ba_ : Addr) (kb_ : ClassId) (cd_ : Int32) (z_ : Int32) (vs_ : List Value) (c0_ : Int32) (c1_ : Int32) (u_ : Int32) (h0 : Heap) (n0 : Nat) (SB : own_Start Z z_CS v_FMT) (O0 : Old Z n0 h0) (pr0 : Exa Z h0 t_ "com/example/rowfold/rowfold/Literal") (pr1 : Fld Z h0 t_ "com/example/rowfold/rowfold/Literal" "text" "Ljava/lang/String;" (.ref x_)) (pr2 : Fld Z h0 t_ "com/example/rowfold/rowfold/Literal" "at" "I" (.int (1 : Int32))) (pr3 : Exa Z h0 x_ "java/lang/String") (pr4 : Fld Z h0 x_ "java/lang/String" "coder" "B" (.int cd_)) (pr5 : Fld Z h0 x_ "java/lang/String" "value" "[B" (.ref ba_)) (pr6 : Arv Z h0 ba_ kb_ .byte z_ vs_ (.int 0)) (pr7 : own_enc2 c0_ c1_ cd_ z_ vs_) (pr8 : own_c16 c1_) (pr9 : c1_ = u_) (pr10 : n0 ≤ t_) :
    oMet l Z yM13 prog_8_method_4_code 3 (some .boolean) ws ({ frames := 5, cells := 0, slots := 0, locals := 66 } : Room) 0 0 #[(.ref t_), (.int u_)] h0 (own_Q_skipT_2_1 Z z_CS v_FMT t_ x_ ba_ kb_ cd_ z_ vs_ c0_ c1_ u_ h0 n0) := by
  refine oenter own_pn0 #[.val (.ref t_), .val (.int u_), .unset] (fun m => by first | (simp [entryFrame, mkF, argsToLocals, Value.category]; done) | rfl) ?_
  intro p e s m below meth c s₁ X0 hx hZ hby hml hret hown0 hnm hlk e0
  have hown : s.vm.findClass "com/example/rowfold/rowfold/Literal" = some m.cls := hown0
  have N0 := Fr.nil n0
  obtain ⟨S_CS, H_CS, S__assertionsDisabled, S_HI_BYTE_SHIFT, S_LO_BYTE_SHIFT, S_FMT, R_FMT⟩ := (id SB)
  have w7 := hw _ (List.mem_of_getElem? (i := 7) rfl)
  have w28 := hw _ (List.mem_of_getElem? (i := 28) rfl)
  have w29 := hw _ (List.mem_of_getElem? (i := 29) rfl)
  have w30 := hw _ (List.mem_of_getElem? (i := 30) rfl)
  have w31 := hw _ (List.mem_of_getElem? (i := 31) rfl)
  have w39 := hw _ (List.mem_of_getElem? (i := 39) rfl)
  have w45 := hw _ (List.mem_of_getElem? (i := 45) rfl)
  have w46 := hw _ (List.mem_of_getElem? (i := 46) rfl)
  have w52 := hw _ (List.mem_of_getElem? (i := 52) rfl)
  have w53 := hw _ (List.mem_of_getElem? (i := 53) rfl)
  have w54 := hw _ (List.mem_of_getElem? (i := 54) rfl)
  have w70 := hw _ (List.mem_of_getElem? (i := 70) rfl)
  have w71 := hw _ (List.mem_of_getElem? (i := 71) rfl)
  have w72 := hw _ (List.mem_of_getElem? (i := 72) rfl)
  have w73 := hw _ (List.mem_of_getElem? (i := 73) rfl)
  have w74 := hw _ (List.mem_of_getElem? (i := 74) rfl)
  refine o_aloadN X0 hx (hb hby d14_0) rfl rfl ?_
  obtain ⟨T1, X1, e1, st1⟩ := getF X0 hx hZ hown (host := "") (Or.inl w52) Via.refl e0 pr2 (g := (mkF m 1 #[.val (.ref t_), .val (.int u_), .unset] [(.ref t_)])) rfl rfl (hb hby d14_1)
  refine ogo (S' := T1.setTop (mkF m 4 #[.val (.ref t_), .val (.int u_), .unset] [(.int (1 : Int32))])) st1 ?_
  refine o_aloadN X1 hx (hb hby d14_4) rfl rfl ?_
  obtain ⟨T2, X2, e2, st2⟩ := getF X1 hx hZ hown (host := "") (Or.inl w45) Via.refl e1 pr1 (g := (mkF m 5 #[.val (.ref t_), .val (.int u_), .unset] [(.ref t_), (.int (1 : Int32))])) rfl rfl (hb hby d14_5)
  refine ogo (S' := T2.setTop (mkF m 8 #[.val (.ref t_), .val (.int u_), .unset] [(.ref x_), (.int (1 : Int32))])) st2 ?_
  obtain ⟨cq3, kq3, q3a, q3b, q3c⟩ := isOf hZ e2 pr3
  obtain ⟨_, _, ⟨T3, L3, kc3, n3⟩, -, X3, ⟨Lc3, hQ3, l3, y3, z3⟩, st3⟩ := X2.virtualBack hx (y := yM12) (z := yM12) hown (mvT hZ w54) (mvT hZ w28) (notFace_of_selects (args := #[]) (mvT hZ w30)) (mvT hZ w30) (mvT hZ w29) (by decide) (backOf (W := 1) (rm_elen_2 l Z a0 hw [] z_CS v_FMT x_ ba_ kb_ cd_ z_ vs_ c0_ c1_ h0 n0 SB O0 pr3 pr4 pr5 pr6 pr7) hZ w31 w7 (by decide) (by decide)) q3a q3c (g := (mkF m 8 #[.val (.ref t_), .val (.int u_), .unset] [(.ref x_), (.int (1 : Int32))])) rfl (by rw [hml]; rfl) (Steps.refl _) (argsL := []) (rest := [(.int (1 : Int32))]) (lenOf own_pd9 rfl) rfl (by show 2 * 0 + _ ≤ _; exact Nat.le_of_eq rfl) (hb hby d14_8) (fun _ _ => ⟨rfl, e2, (by decide : 0 + 0 ≤ _), (by decide : 0 + 0 ≤ _)⟩)
  dsimp only [Pt.U, Pt.locs, Pt.cells, Pt.slots] at X3 l3 y3 z3 st3 hQ3
  subst l3 y3 z3
  obtain ⟨rfl, Nq3, e3⟩ := hQ3
  have N3 := Fr.app N0 Nq3
  refine otr (S' := T3.setTop (mkF m 11 #[.val (.ref t_), .val (.int u_), .unset] [(.int (2 : Int32)), (.int (1 : Int32))])) st3 ?_
  refine o_icmpNo X3 hx (hb hby d14_11) (tlt (by decide : (1 : Int32) < (2 : Int32))).2.1 ?_
  refine o_aloadN X3 hx (hb hby d14_14) rfl rfl ?_
  obtain ⟨T4, X4, e4, st4⟩ := getF X3 hx hZ hown (host := "") (Or.inl w45) Via.refl e3 pr1 (g := (mkF m 15 #[.val (.ref t_), .val (.int u_), .unset] [(.ref t_)])) rfl rfl (hb hby d14_15)
  refine ogo (S' := T4.setTop (mkF m 18 #[.val (.ref t_), .val (.int u_), .unset] [(.ref x_)])) st4 ?_
  refine o_aloadN X4 hx (hb hby d14_18) rfl rfl ?_
  obtain ⟨T5, X5, e5, st5⟩ := getF X4 hx hZ hown (host := "") (Or.inl w52) Via.refl e4 pr2 (g := (mkF m 19 #[.val (.ref t_), .val (.int u_), .unset] [(.ref t_), (.ref x_)])) rfl rfl (hb hby d14_19)
  refine ogo (S' := T5.setTop (mkF m 22 #[.val (.ref t_), .val (.int u_), .unset] [(.int (1 : Int32)), (.ref x_)])) st5 ?_
  obtain ⟨cq6, kq6, q6a, q6b, q6c⟩ := isOf hZ e5 pr3
  obtain ⟨_, _, ⟨T6, L6, kc6, n6⟩, -, X6, ⟨Lc6, hQ6, l6, y6, z6⟩, st6⟩ := X5.virtualBack hx (y := yM22) (z := yM22) hown (mvT hZ w70) (mvT hZ w71) (notFace_of_selects (args := #[]) (mvT hZ w73)) (mvT hZ w73) (mvT hZ w72) (by decide) (backOf (W := 0) (rm_ecat_2_1 l Z a0 hw [] z_CS v_FMT x_ ba_ kb_ cd_ z_ vs_ c0_ c1_ h0 n0 SB O0 pr3 pr4 pr5 pr6 pr7 pr8) hZ w74 w7 (by decide) (by decide)) q6a q6c (g := (mkF m 22 #[.val (.ref t_), .val (.int u_), .unset] [(.int (1 : Int32)), (.ref x_)])) rfl (by rw [hml]; rfl) (Steps.refl _) (argsL := [(.int (1 : Int32))]) (rest := []) (lenOf own_pd15 rfl) rfl (by show 2 * 0 + _ ≤ _; exact Nat.le_of_eq rfl) (hb hby d14_22) (fun _ _ => ⟨rfl, e5, (by decide : 0 + 0 ≤ _), (by decide : 0 + 0 ≤ _)⟩)
  dsimp only [Pt.U, Pt.locs, Pt.cells, Pt.slots] at X6 l6 y6 z6 st6 hQ6
  subst l6 y6 z6
  obtain ⟨rfl, Nq6, e6⟩ := hQ6
  have N6 := Fr.app N3 Nq6
  refine otr (S' := T6.setTop (mkF m 25 #[.val (.ref t_), .val (.int u_), .unset] [(.int c1_)])) st6 ?_
  refine o_iloadN X6 hx (hb hby d14_25) rfl ?_
  refine o_icmpNo X6 hx (hb hby d14_26) (teq pr9).2 ?_
  refine o_iconst X6 hx (1 : Int32) (hb hby d14_29) rfl ?_
  refine o_goto X6 hx 34 (hb hby d14_30) (by decide) (by decide) ?_
  refine o_istoreN X6 hx (l' := #[.val (.ref t_), .val (.int u_), .val (.int (1 : Int32))]) (hb hby d14_34) rfl ?_
  refine o_iloadN X6 hx (hb hby d14_35) rfl ?_
  refine o_ifNo X6 hx (hb hby d14_36) (feq (by decide : ¬ ((1 : Int32) = (0 : Int32)))).1 ?_
  refine o_aloadN X6 hx (hb hby d14_39) rfl rfl ?_
  refine o_dup X6 hx (hb hby d14_40) rfl ?_
  obtain ⟨T7, X7, e7, st7⟩ := getF X6 hx hZ hown (host := "") (Or.inl w52) Via.refl e6 pr2 (g := (mkF m 41 #[.val (.ref t_), .val (.int u_), .val (.int (1 : Int32))] [(.ref t_), (.ref t_)])) rfl rfl (hb hby d14_41)
  refine ogo (S' := T7.setTop (mkF m 44 #[.val (.ref t_), .val (.int u_), .val (.int (1 : Int32))] [(.int (1 : Int32)), (.ref t_)])) st7 ?_
  refine o_iconst X7 hx (1 : Int32) (hb hby d14_44) rfl ?_
  refine o_iadd X7 hx (hb hby d14_45) ?_
  obtain ⟨T8, _, X8, rfl, W8, st8⟩ := putF X7 hx hZ hown (host := "") (Or.inl w52) Via.refl e7 pr2 pr0 (Or.inl w53) w39 (ty := .int) (by decide) rfl rfl (g := (mkF m 46 #[.val (.ref t_), .val (.int u_), .val (.int (1 : Int32))] [(.int (2 : Int32)), (.ref t_)])) rfl rfl (hb hby d14_46)
  have N8 := Fr.snoc X8 N6 pr10
  have F8 := Fld.same W8 pr2
  refine ogo (S' := T8.setTop (mkF m 49 #[.val (.ref t_), .val (.int u_), .val (.int (1 : Int32))] [])) st8 ?_
  refine o_iloadN X8 hx (hb hby d14_49) rfl ?_
  have c9 := (Fld.other W8 pr1 (Or.inr (slot_ne (Or.inr w46) (Or.inl w53) (by decide) (t := (.object "java/lang/String")) (t' := .int) (by decide) (by decide))))
  refine oend X8 hlk (v := some (.int (1 : Int32))) (fun h => by rw [hret] at h; cases h) (fun fs hr => retN X8 hx (t := .boolean) hret (by simp) (hb hby d14_50) hr) (by decide) (by decide) ?_
  show own_Q_skipT_2_1 Z _ _ _ _ _ _ _ _ _ _ _ _ h0 n0 _ T8.heap _
  exact ⟨rfl, N8, ((Keep.refl h0 [t_]).wr W8 (Or.inl (List.mem_of_getElem? (i := 0) rfl))), (Exa.wr W8 pr0), c9, F8⟩
def own_Q_skipE_3 (Z : State) (z_CS : Int32) (v_FMT : Value) (t_ : Addr) (x_ : Addr) (ba_ : Addr) (kb_ : ClassId) (cd_ : Int32) (z_ : Int32) (vs_ : List Value) (c0_ : Int32) (c1_ : Int32) (c2_ : Int32) (u_ : Int32) (h0 : Heap) (n0 : Nat) (v : Option Value) (h : Heap) (L : List Loc) : Prop := (v = some (.int (0 : Int32))) ∧ (Fr n0 L) ∧ (h = h0)
set_option maxRecDepth 65536 in
set_option maxHeartbeats 40000000 in
theorem rm_skipE_3 (l : Launch) (Z : State) (a0 : Array Value) (hw : ∀ d ∈ tables_1, d.before a0 Z = true) (ws : List Jvm.Cond) (z_CS : Int32) (v_FMT : Value) (t_ : Addr) (x_ : Addr) (ba_ : Addr) (kb_ : ClassId) (cd_ : Int32) (z_ : Int32) (vs_ : List Value) (c0_ : Int32) (c1_ : Int32) (c2_ : Int32) (u_ : Int32) (h0 : Heap) (n0 : Nat) (SB : own_Start Z z_CS v_FMT) (O0 : Old Z n0 h0) (pr0 : Exa Z h0 t_ "com/example/rowfold/rowfold/Literal") (pr1 : Fld Z h0 t_ "com/example/rowfold/rowfold/Literal" "text" "Ljava/lang/String;" (.ref x_)) (pr2 : Fld Z h0 t_ "com/example/rowfold/rowfold/Literal" "at" "I" (.int (3 : Int32))) (pr3 : Exa Z h0 x_ "java/lang/String") (pr4 : Fld Z h0 x_ "java/lang/String" "coder" "B" (.int cd_)) (pr5 : Fld Z h0 x_ "java/lang/String" "value" "[B" (.ref ba_)) (pr6 : Arv Z h0 ba_ kb_ .byte z_ vs_ (.int 0)) (pr7 : own_enc3 c0_ c1_ c2_ cd_ z_ vs_) :
    oMet l Z yM13 prog_8_method_4_code 3 (some .boolean) ws ({ frames := 2, cells := 0, slots := 0, locals := 26 } : Room) 0 0 #[(.ref t_), (.int u_)] h0 (own_Q_skipE_3 Z z_CS v_FMT t_ x_ ba_ kb_ cd_ z_ vs_ c0_ c1_ c2_ u_ h0 n0) := by
  refine oenter own_pn0 #[.val (.ref t_), .val (.int u_), .unset] (fun m => by first | (simp [entryFrame, mkF, argsToLocals, Value.category]; done) | rfl) ?_
  intro p e s m below meth c s₁ X0 hx hZ hby hml hret hown0 hnm hlk e0
  have hown : s.vm.findClass "com/example/rowfold/rowfold/Literal" = some m.cls := hown0
  have N0 := Fr.nil n0
  obtain ⟨S_CS, H_CS, S__assertionsDisabled, S_HI_BYTE_SHIFT, S_LO_BYTE_SHIFT, S_FMT, R_FMT⟩ := (id SB)
  have w7 := hw _ (List.mem_of_getElem? (i := 7) rfl)
  have w28 := hw _ (List.mem_of_getElem? (i := 28) rfl)
  have w29 := hw _ (List.mem_of_getElem? (i := 29) rfl)
  have w30 := hw _ (List.mem_of_getElem? (i := 30) rfl)
  have w31 := hw _ (List.mem_of_getElem? (i := 31) rfl)
  have w45 := hw _ (List.mem_of_getElem? (i := 45) rfl)
  have w52 := hw _ (List.mem_of_getElem? (i := 52) rfl)
  have w54 := hw _ (List.mem_of_getElem? (i := 54) rfl)
  refine o_aloadN X0 hx (hb hby d14_0) rfl rfl ?_
  obtain ⟨T1, X1, e1, st1⟩ := getF X0 hx hZ hown (host := "") (Or.inl w52) Via.refl e0 pr2 (g := (mkF m 1 #[.val (.ref t_), .val (.int u_), .unset] [(.ref t_)])) rfl rfl (hb hby d14_1)
  refine ogo (S' := T1.setTop (mkF m 4 #[.val (.ref t_), .val (.int u_), .unset] [(.int (3 : Int32))])) st1 ?_
  refine o_aloadN X1 hx (hb hby d14_4) rfl rfl ?_
  obtain ⟨T2, X2, e2, st2⟩ := getF X1 hx hZ hown (host := "") (Or.inl w45) Via.refl e1 pr1 (g := (mkF m 5 #[.val (.ref t_), .val (.int u_), .unset] [(.ref t_), (.int (3 : Int32))])) rfl rfl (hb hby d14_5)
  refine ogo (S' := T2.setTop (mkF m 8 #[.val (.ref t_), .val (.int u_), .unset] [(.ref x_), (.int (3 : Int32))])) st2 ?_
  obtain ⟨cq3, kq3, q3a, q3b, q3c⟩ := isOf hZ e2 pr3
  obtain ⟨_, _, ⟨T3, L3, kc3, n3⟩, -, X3, ⟨Lc3, hQ3, l3, y3, z3⟩, st3⟩ := X2.virtualBack hx (y := yM12) (z := yM12) hown (mvT hZ w54) (mvT hZ w28) (notFace_of_selects (args := #[]) (mvT hZ w30)) (mvT hZ w30) (mvT hZ w29) (by decide) (backOf (W := 1) (rm_elen_3 l Z a0 hw [] z_CS v_FMT x_ ba_ kb_ cd_ z_ vs_ c0_ c1_ c2_ h0 n0 SB O0 pr3 pr4 pr5 pr6 pr7) hZ w31 w7 (by decide) (by decide)) q3a q3c (g := (mkF m 8 #[.val (.ref t_), .val (.int u_), .unset] [(.ref x_), (.int (3 : Int32))])) rfl (by rw [hml]; rfl) (Steps.refl _) (argsL := []) (rest := [(.int (3 : Int32))]) (lenOf own_pd9 rfl) rfl (by show 2 * 0 + _ ≤ _; exact Nat.le_of_eq rfl) (hb hby d14_8) (fun _ _ => ⟨rfl, e2, (by decide : 0 + 0 ≤ _), (by decide : 0 + 0 ≤ _)⟩)
  dsimp only [Pt.U, Pt.locs, Pt.cells, Pt.slots] at X3 l3 y3 z3 st3 hQ3
  subst l3 y3 z3
  obtain ⟨rfl, Nq3, e3⟩ := hQ3
  have N3 := Fr.app N0 Nq3
  refine otr (S' := T3.setTop (mkF m 11 #[.val (.ref t_), .val (.int u_), .unset] [(.int (3 : Int32)), (.int (3 : Int32))])) st3 ?_
  refine o_icmpYes X3 hx 33 (hb hby d14_11) (flt (by decide : ¬ ((3 : Int32) < (3 : Int32)))).2.1 (by decide) (by decide) ?_
  refine o_iconst X3 hx (0 : Int32) (hb hby d14_33) rfl ?_
  refine o_istoreN X3 hx (l' := #[.val (.ref t_), .val (.int u_), .val (.int (0 : Int32))]) (hb hby d14_34) rfl ?_
  refine o_iloadN X3 hx (hb hby d14_35) rfl ?_
  refine o_ifYes X3 hx 49 (hb hby d14_36) (teq (by decide : (0 : Int32) = (0 : Int32))).1 (by decide) (by decide) ?_
  refine o_iloadN X3 hx (hb hby d14_49) rfl ?_
  refine oend X3 hlk (v := some (.int (0 : Int32))) (fun h => by rw [hret] at h; cases h) (fun fs hr => retN X3 hx (t := .boolean) hret (by simp) (hb hby d14_50) hr) (by decide) (by decide) ?_
  show own_Q_skipE_3 Z _ _ _ _ _ _ _ _ _ _ _ _ _ h0 n0 _ T3.heap _
  rw [e3]
  exact ⟨rfl, N3, rfl⟩
def own_Q_l1c_3_0 (Z : State) (z_CS : Int32) (v_FMT : Value) (ba_ : Addr) (kb_ : ClassId) (c0_ : Int32) (c1_ : Int32) (c2_ : Int32) (h0 : Heap) (n0 : Nat) (v : Option Value) (h : Heap) (L : List Loc) : Prop := (v = some (.int c0_)) ∧ (Fr n0 L) ∧ (h = h0)
set_option maxRecDepth 65536 in
set_option maxHeartbeats 40000000 in
theorem rm_l1c_3_0 (l : Launch) (Z : State) (a0 : Array Value) (hw : ∀ d ∈ tables_1, d.before a0 Z = true) (ws : List Jvm.Cond) (z_CS : Int32) (v_FMT : Value) (ba_ : Addr) (kb_ : ClassId) (c0_ : Int32) (c1_ : Int32) (c2_ : Int32) (h0 : Heap) (n0 : Nat) (SB : own_Start Z z_CS v_FMT) (O0 : Old Z n0 h0) (pr0 : Arv Z h0 ba_ kb_ .byte (3 : Int32) [(.int c0_.toInt8.toInt32), (.int c1_.toInt8.toInt32), (.int c2_.toInt8.toInt32)] (.int 0)) (pr1 : ¬ (c0_ < (0 : Int32))) (pr2 : ¬ ((255 : Int32) < c0_)) :
    oMet l Z yM18 jdk_43_method_2_code 2 (some .char) ws ({ frames := 2, cells := 0, slots := 0, locals := 27 } : Room) 0 0 #[(.ref ba_), (.int (0 : Int32))] h0 (own_Q_l1c_3_0 Z z_CS v_FMT ba_ kb_ c0_ c1_ c2_ h0 n0) := by
  refine oenter own_pn4 #[.val (.ref ba_), .val (.int (0 : Int32))] (fun m => by first | (simp [entryFrame, mkF, argsToLocals, Value.category]; done) | rfl) ?_
  intro p e s m below meth c s₁ X0 hx hZ hby hml hret hown0 hnm hlk e0
  have hown : s.vm.findClass "java/lang/StringLatin1" = some m.cls := hown0
  have N0 := Fr.nil n0
  obtain ⟨S_CS, H_CS, S__assertionsDisabled, S_HI_BYTE_SHIFT, S_LO_BYTE_SHIFT, S_FMT, R_FMT⟩ := (id SB)
  have w7 := hw _ (List.mem_of_getElem? (i := 7) rfl)
  have w84 := hw _ (List.mem_of_getElem? (i := 84) rfl)
  have w85 := hw _ (List.mem_of_getElem? (i := 85) rfl)
  have w86 := hw _ (List.mem_of_getElem? (i := 86) rfl)
  refine o_iloadN X0 hx (hb hby d19_0) rfl ?_
  refine o_aloadN X0 hx (hb hby d19_1) rfl rfl ?_
  obtain ⟨cl1, Ar1, -, S1, N1z, -, -⟩ := (id pr0)
  refine ogo (S' := s₁.setTop (mkF m 3 #[.val (.ref ba_), .val (.int (0 : Int32))] [(.int (3 : Int32)), (.int (0 : Int32))])) (fun _ kt_ => X0.arraylength hx (by rw [e0]; exact Ar1.1) (State.isArrayOf_alike hZ.alike Ar1.2.1) (g := (mkF m 2 #[.val (.ref ba_), .val (.int (0 : Int32))] [(.ref ba_), (.int (0 : Int32))])) rfl rfl (hb hby d19_2) _ (by rw [len_of S1 N1z]; exact kt_)) ?_
  obtain ⟨_, _, ⟨T2, L2, kc2, n2⟩, -, X2, ⟨Lc2, hQ2, l2, y2, z2⟩, st2⟩ := Jvm.LawKit.callS X0 hx (y := yM17) hown (mvT hZ w84) (mvT hZ w85) (mvT hZ w7) (mvT hZ w86) (by decide) (backOf (W := 0) (rm_sci l Z a0 hw [] z_CS v_FMT (0 : Int32) (3 : Int32) h0 n0 SB O0 (by decide) (by decide)) hZ w86 w7 (by decide) (by decide)) (g := (mkF m 3 #[.val (.ref ba_), .val (.int (0 : Int32))] [(.int (3 : Int32)), (.int (0 : Int32))])) rfl (by rw [hml]; rfl) (argsL := [(.int (0 : Int32)), (.int (3 : Int32))]) (rest := []) (lenOf own_pd11 rfl) rfl (by show 2 * 0 + _ ≤ _; exact Nat.le_of_eq rfl) (hb hby d19_3) (fun _ _ => ⟨rfl, e0, (by decide : 0 + 0 ≤ _), (by decide : 0 + 0 ≤ _)⟩)
  dsimp only [Pt.U, Pt.locs, Pt.cells, Pt.slots] at X2 l2 y2 z2 st2 hQ2
  subst l2 y2 z2
  obtain ⟨rfl, Nq2, e2⟩ := hQ2
  have N2 := Fr.app N0 Nq2
  refine ogo (S' := T2.setTop (mkF m 6 #[.val (.ref ba_), .val (.int (0 : Int32))] [])) st2 ?_
  refine o_aloadN X2 hx (hb hby d19_6) rfl rfl ?_
  refine o_iloadN X2 hx (hb hby d19_7) rfl ?_
  obtain ⟨cl3, Ar3, q3, S3, N3z, H3, G3⟩ := (id pr0)
  have hi3 := inb_of (j := (0 : Int32)) S3 ⟨by decide, by decide⟩
  have ha3 := Has.at (v := (.int c0_.toInt8.toInt32)) H3 hi3 rfl
  refine ogo (S' := T2.setTop (mkF m 9 #[.val (.ref ba_), .val (.int (0 : Int32))] [(.int c0_.toInt8.toInt32)])) (X2.baloadBytes hx (j := (0 : Int32)) (v := (.int c0_.toInt8.toInt32)) (by rw [e2]; exact Ar3.1) (State.isArrayOf_alike hZ.alike Ar3.2.1) Ar3.2.2 hi3 ha3 (g := (mkF m 8 #[.val (.ref ba_), .val (.int (0 : Int32))] [(.int (0 : Int32)), (.ref ba_)])) rfl rfl (hb hby d19_8)) ?_
  refine o_sipush X2 hx (255 : Int32) (hb hby d19_9) rfl ?_
  refine o_iand X2 hx (hb hby d19_12) ?_
  refine o_i2c X2 hx (hb hby d19_13) ?_
  rw [own_char pr1 pr2]
  refine oend X2 hlk (v := some (.int c0_)) (fun h => by rw [hret] at h; cases h) (fun fs hr => retN X2 hx (t := .char) hret (by simp) (hb hby d19_14) (by rw [(own_narsm pr1 pr2)]; exact hr)) (by decide) (by decide) ?_
  show own_Q_l1c_3_0 Z _ _ _ _ _ _ _ h0 n0 _ T2.heap _
  rw [e2]
  exact ⟨rfl, N2, rfl⟩
def own_Q_u16len_3 (Z : State)  (ba_ : Addr) (kb_ : ClassId) (vs_ : List Value) (h0 : Heap) (n0 : Nat) (v : Option Value) (h : Heap) (L : List Loc) : Prop := (v = some (.int (3 : Int32))) ∧ (Fr n0 L) ∧ (h = h0)
set_option maxRecDepth 65536 in
set_option maxHeartbeats 40000000 in
theorem rm_u16len_3 (l : Launch) (Z : State) (a0 : Array Value) (hw : ∀ d ∈ tables_1, d.before a0 Z = true) (ws : List Jvm.Cond)  (ba_ : Addr) (kb_ : ClassId) (vs_ : List Value) (h0 : Heap) (n0 : Nat) (O0 : Old Z n0 h0) (pr0 : Arv Z h0 ba_ kb_ .byte (6 : Int32) vs_ (.int 0)) :
    oMet l Z yM19 jdk_52_method_6_code 1 (some .int) ws ({ frames := 0, cells := 0, slots := 0, locals := 0 } : Room) 0 0 #[(.ref ba_)] h0 (own_Q_u16len_3 Z  ba_ kb_ vs_ h0 n0) := by
  refine oenter own_pn1 #[.val (.ref ba_)] (fun m => by first | (simp [entryFrame, mkF, argsToLocals, Value.category]; done) | rfl) ?_
  intro p e s m below meth c s₁ X0 hx hZ hby hml hret hown0 hnm hlk e0
  have hown : s.vm.findClass "java/lang/StringUTF16" = some m.cls := hown0
  have N0 := Fr.nil n0
  refine o_aloadN X0 hx (hb hby d20_0) rfl rfl ?_
  obtain ⟨cl1, Ar1, -, S1, N1z, -, -⟩ := (id pr0)
  refine ogo (S' := s₁.setTop (mkF m 2 #[.val (.ref ba_)] [(.int (6 : Int32))])) (fun _ kt_ => X0.arraylength hx (by rw [e0]; exact Ar1.1) (State.isArrayOf_alike hZ.alike Ar1.2.1) (g := (mkF m 1 #[.val (.ref ba_)] [(.ref ba_)])) rfl rfl (hb hby d20_1) _ (by rw [len_of S1 N1z]; exact kt_)) ?_
  refine o_iconst X0 hx (1 : Int32) (hb hby d20_2) rfl ?_
  refine o_ishr X0 hx (hb hby d20_3) ?_
  refine oend X0 hlk (v := some (.int (3 : Int32))) (fun h => by rw [hret] at h; cases h) (fun fs hr => retOut X0 hx (t := .int) (i := .ireturn) hret rfl (Or.inl ⟨rfl, Or.inl rfl, _, rfl⟩) (hb hby d20_4) hr) (by decide) (by decide) ?_
  show own_Q_u16len_3 Z _ _ _ h0 n0 _ s₁.heap _
  rw [e0]
  exact ⟨rfl, N0, rfl⟩
def own_Q_u16ci_3_0 (Z : State) (z_CS : Int32) (v_FMT : Value) (ba_ : Addr) (kb_ : ClassId) (vs_ : List Value) (h0 : Heap) (n0 : Nat) (v : Option Value) (h : Heap) (L : List Loc) : Prop := (v = none) ∧ (Fr n0 L) ∧ (h = h0)
set_option maxRecDepth 65536 in
set_option maxHeartbeats 40000000 in
theorem rm_u16ci_3_0 (l : Launch) (Z : State) (a0 : Array Value) (hw : ∀ d ∈ tables_1, d.before a0 Z = true) (ws : List Jvm.Cond) (z_CS : Int32) (v_FMT : Value) (ba_ : Addr) (kb_ : ClassId) (vs_ : List Value) (h0 : Heap) (n0 : Nat) (SB : own_Start Z z_CS v_FMT) (O0 : Old Z n0 h0) (pr0 : Arv Z h0 ba_ kb_ .byte (6 : Int32) vs_ (.int 0)) :
    oMet l Z yM20 jdk_52_method_91_code 2 none ws ({ frames := 2, cells := 0, slots := 0, locals := 27 } : Room) 0 0 #[(.int (0 : Int32)), (.ref ba_)] h0 (own_Q_u16ci_3_0 Z z_CS v_FMT ba_ kb_ vs_ h0 n0) := by
  refine oenter own_pn1 #[.val (.int (0 : Int32)), .val (.ref ba_)] (fun m => by first | (simp [entryFrame, mkF, argsToLocals, Value.category]; done) | rfl) ?_
  intro p e s m below meth c s₁ X0 hx hZ hby hml hret hown0 hnm hlk e0
  have hown : s.vm.findClass "java/lang/StringUTF16" = some m.cls := hown0
  have N0 := Fr.nil n0
  obtain ⟨S_CS, H_CS, S__assertionsDisabled, S_HI_BYTE_SHIFT, S_LO_BYTE_SHIFT, S_FMT, R_FMT⟩ := (id SB)
  have w7 := hw _ (List.mem_of_getElem? (i := 7) rfl)
  have w62 := hw _ (List.mem_of_getElem? (i := 62) rfl)
  have w85 := hw _ (List.mem_of_getElem? (i := 85) rfl)
  have w86 := hw _ (List.mem_of_getElem? (i := 86) rfl)
  have w117 := hw _ (List.mem_of_getElem? (i := 117) rfl)
  have w118 := hw _ (List.mem_of_getElem? (i := 118) rfl)
  have w119 := hw _ (List.mem_of_getElem? (i := 119) rfl)
  have w120 := hw _ (List.mem_of_getElem? (i := 120) rfl)
  refine o_iloadN X0 hx (hb hby d21_0) rfl ?_
  refine o_aloadN X0 hx (hb hby d21_1) rfl rfl ?_
  obtain ⟨_, _, ⟨T1, L1, kc1, n1⟩, -, X1, ⟨Lc1, hQ1, l1, y1, z1⟩, st1⟩ := Jvm.LawKit.callS X0 hx (y := yM19) hown (mvT hZ w117) (mvT hZ w118) (mvT hZ w62) (mvT hZ w119) (by decide) (backOf (W := 1) (rm_u16len_3 l Z a0 hw []  ba_ kb_ vs_ h0 n0 O0 pr0) hZ w119 w62 (by decide) (by decide)) (g := (mkF m 2 #[.val (.int (0 : Int32)), .val (.ref ba_)] [(.ref ba_), (.int (0 : Int32))])) rfl (by rw [hml]; rfl) (argsL := [(.ref ba_)]) (rest := [(.int (0 : Int32))]) (lenOf own_pd12 rfl) rfl (by show 2 * 0 + _ ≤ _; exact Nat.le_of_eq rfl) (hb hby d21_2) (fun _ _ => ⟨rfl, e0, (by decide : 0 + 0 ≤ _), (by decide : 0 + 0 ≤ _)⟩)
  dsimp only [Pt.U, Pt.locs, Pt.cells, Pt.slots] at X1 l1 y1 z1 st1 hQ1
  subst l1 y1 z1
  obtain ⟨rfl, Nq1, e1⟩ := hQ1
  have N1 := Fr.app N0 Nq1
  refine ogo (S' := T1.setTop (mkF m 5 #[.val (.int (0 : Int32)), .val (.ref ba_)] [(.int (3 : Int32)), (.int (0 : Int32))])) st1 ?_
  obtain ⟨_, _, ⟨T2, L2, kc2, n2⟩, -, X2, ⟨Lc2, hQ2, l2, y2, z2⟩, st2⟩ := Jvm.LawKit.callS X1 hx (y := yM17) hown (mvT hZ w120) (mvT hZ w85) (mvT hZ w7) (mvT hZ w86) (by decide) (backOf (W := 0) (rm_sci l Z a0 hw [] z_CS v_FMT (0 : Int32) (3 : Int32) h0 n0 SB O0 (by decide) (by decide)) hZ w86 w7 (by decide) (by decide)) (g := (mkF m 5 #[.val (.int (0 : Int32)), .val (.ref ba_)] [(.int (3 : Int32)), (.int (0 : Int32))])) rfl (by rw [hml]; rfl) (argsL := [(.int (0 : Int32)), (.int (3 : Int32))]) (rest := []) (lenOf own_pd11 rfl) rfl (by show 2 * 0 + _ ≤ _; exact Nat.le_of_eq rfl) (hb hby d21_5) (fun _ _ => ⟨rfl, e1, (by decide : 0 + 0 ≤ _), (by decide : 0 + 0 ≤ _)⟩)
  dsimp only [Pt.U, Pt.locs, Pt.cells, Pt.slots] at X2 l2 y2 z2 st2 hQ2
  subst l2 y2 z2
  obtain ⟨rfl, Nq2, e2⟩ := hQ2
  have N2 := Fr.app N1 Nq2
  refine ogo (S' := T2.setTop (mkF m 8 #[.val (.int (0 : Int32)), .val (.ref ba_)] [])) st2 ?_
  refine oend X2 hlk (v := none) (fun _ => rfl) (fun fs hr => X2.returnOut hx hret (hb hby d21_8) hr) (by decide) (by decide) ?_
  show own_Q_u16ci_3_0 Z _ _ _ _ _ h0 n0 _ T2.heap _
  rw [e2]
  exact ⟨rfl, N2, rfl⟩
def own_Q_u16cat_3_0 (Z : State) (z_CS : Int32) (v_FMT : Value) (ba_ : Addr) (kb_ : ClassId) (c0_ : Int32) (c1_ : Int32) (c2_ : Int32) (h0 : Heap) (n0 : Nat) (v : Option Value) (h : Heap) (L : List Loc) : Prop := (v = some (.int c0_)) ∧ (Fr n0 L) ∧ (h = h0)
set_option maxRecDepth 65536 in
set_option maxHeartbeats 40000000 in
theorem rm_u16cat_3_0 (l : Launch) (Z : State) (a0 : Array Value) (hw : ∀ d ∈ tables_1, d.before a0 Z = true) (ws : List Jvm.Cond) (z_CS : Int32) (v_FMT : Value) (ba_ : Addr) (kb_ : ClassId) (c0_ : Int32) (c1_ : Int32) (c2_ : Int32) (h0 : Heap) (n0 : Nat) (SB : own_Start Z z_CS v_FMT) (O0 : Old Z n0 h0) (pr0 : Arv Z h0 ba_ kb_ .byte (6 : Int32) [(.int (c0_ >>> ((0 : Int32) &&& 31)).toInt8.toInt32), (.int (c0_ >>> ((8 : Int32) &&& 31)).toInt8.toInt32), (.int (c1_ >>> ((0 : Int32) &&& 31)).toInt8.toInt32), (.int (c1_ >>> ((8 : Int32) &&& 31)).toInt8.toInt32), (.int (c2_ >>> ((0 : Int32) &&& 31)).toInt8.toInt32), (.int (c2_ >>> ((8 : Int32) &&& 31)).toInt8.toInt32)] (.int 0)) (pr1 : own_c16 c0_) :
    oMet l Z yM21 jdk_52_method_83_code 2 (some .char) ws ({ frames := 3, cells := 0, slots := 0, locals := 40 } : Room) 0 0 #[(.ref ba_), (.int (0 : Int32))] h0 (own_Q_u16cat_3_0 Z z_CS v_FMT ba_ kb_ c0_ c1_ c2_ h0 n0) := by
  refine oenter own_pn1 #[.val (.ref ba_), .val (.int (0 : Int32))] (fun m => by first | (simp [entryFrame, mkF, argsToLocals, Value.category]; done) | rfl) ?_
  intro p e s m below meth c s₁ X0 hx hZ hby hml hret hown0 hnm hlk e0
  have hown : s.vm.findClass "java/lang/StringUTF16" = some m.cls := hown0
  have N0 := Fr.nil n0
  obtain ⟨S_CS, H_CS, S__assertionsDisabled, S_HI_BYTE_SHIFT, S_LO_BYTE_SHIFT, S_FMT, R_FMT⟩ := (id SB)
  have w62 := hw _ (List.mem_of_getElem? (i := 62) rfl)
  have w108 := hw _ (List.mem_of_getElem? (i := 108) rfl)
  have w109 := hw _ (List.mem_of_getElem? (i := 109) rfl)
  have w110 := hw _ (List.mem_of_getElem? (i := 110) rfl)
  have w114 := hw _ (List.mem_of_getElem? (i := 114) rfl)
  have w115 := hw _ (List.mem_of_getElem? (i := 115) rfl)
  have w116 := hw _ (List.mem_of_getElem? (i := 116) rfl)
  refine o_iloadN X0 hx (hb hby d22_0) rfl ?_
  refine o_aloadN X0 hx (hb hby d22_1) rfl rfl ?_
  obtain ⟨_, _, ⟨T1, L1, kc1, n1⟩, -, X1, ⟨Lc1, hQ1, l1, y1, z1⟩, st1⟩ := Jvm.LawKit.callS X0 hx (y := yM20) hown (mvT hZ w114) (mvT hZ w115) (mvT hZ w62) (mvT hZ w116) (by decide) (backOf (W := 0) (rm_u16ci_3_0 l Z a0 hw [] z_CS v_FMT ba_ kb_ [(.int (c0_ >>> ((0 : Int32) &&& 31)).toInt8.toInt32), (.int (c0_ >>> ((8 : Int32) &&& 31)).toInt8.toInt32), (.int (c1_ >>> ((0 : Int32) &&& 31)).toInt8.toInt32), (.int (c1_ >>> ((8 : Int32) &&& 31)).toInt8.toInt32), (.int (c2_ >>> ((0 : Int32) &&& 31)).toInt8.toInt32), (.int (c2_ >>> ((8 : Int32) &&& 31)).toInt8.toInt32)] h0 n0 SB O0 pr0) hZ w116 w62 (by decide) (by decide)) (g := (mkF m 2 #[.val (.ref ba_), .val (.int (0 : Int32))] [(.ref ba_), (.int (0 : Int32))])) rfl (by rw [hml]; rfl) (argsL := [(.int (0 : Int32)), (.ref ba_)]) (rest := []) (lenOf own_pd13 rfl) rfl (by show 2 * 0 + _ ≤ _; exact Nat.le_of_eq rfl) (hb hby d22_2) (fun _ _ => ⟨rfl, e0, (by decide : 0 + 0 ≤ _), (by decide : 0 + 0 ≤ _)⟩)
  dsimp only [Pt.U, Pt.locs, Pt.cells, Pt.slots] at X1 l1 y1 z1 st1 hQ1
  subst l1 y1 z1
  obtain ⟨rfl, Nq1, e1⟩ := hQ1
  have N1 := Fr.app N0 Nq1
  refine ogo (S' := T1.setTop (mkF m 5 #[.val (.ref ba_), .val (.int (0 : Int32))] [])) st1 ?_
  refine o_aloadN X1 hx (hb hby d22_5) rfl rfl ?_
  refine o_iloadN X1 hx (hb hby d22_6) rfl ?_
  obtain ⟨_, _, ⟨T2, L2, kc2, n2⟩, -, X2, ⟨Lc2, hQ2, l2, y2, z2⟩, st2⟩ := Jvm.LawKit.callS X1 hx (y := yM8) hown (mvT hZ w108) (mvT hZ w109) (mvT hZ w62) (mvT hZ w110) (by decide) (backOf (W := 0) (rm_getch_3_0 l Z a0 hw [] z_CS v_FMT ba_ kb_ c0_ c1_ c2_ h0 n0 SB O0 pr0 pr1) hZ w110 w62 (by decide) (by decide)) (g := (mkF m 7 #[.val (.ref ba_), .val (.int (0 : Int32))] [(.int (0 : Int32)), (.ref ba_)])) rfl (by rw [hml]; rfl) (argsL := [(.ref ba_), (.int (0 : Int32))]) (rest := []) (lenOf own_pd5 rfl) rfl (by show 2 * 0 + _ ≤ _; exact Nat.le_of_eq rfl) (hb hby d22_7) (fun _ _ => ⟨rfl, e1, (by decide : 0 + 0 ≤ _), (by decide : 0 + 0 ≤ _)⟩)
  dsimp only [Pt.U, Pt.locs, Pt.cells, Pt.slots] at X2 l2 y2 z2 st2 hQ2
  subst l2 y2 z2
  obtain ⟨rfl, Nq2, e2⟩ := hQ2
  have N2 := Fr.app N1 Nq2
  refine ogo (S' := T2.setTop (mkF m 10 #[.val (.ref ba_), .val (.int (0 : Int32))] [(.int c0_)])) st2 ?_
  refine oend X2 hlk (v := some (.int c0_)) (fun h => by rw [hret] at h; cases h) (fun fs hr => retN X2 hx (t := .char) hret (by simp) (hb hby d22_10) (by rw [(own_nar16 pr1)]; exact hr)) (by decide) (by decide) ?_
  show own_Q_u16cat_3_0 Z _ _ _ _ _ _ _ h0 n0 _ T2.heap _
  rw [e2]
  exact ⟨rfl, N2, rfl⟩
def own_Q_ecat_3_0 (Z : State) (z_CS : Int32) (v_FMT : Value) (x_ : Addr) (ba_ : Addr) (kb_ : ClassId) (cd_ : Int32) (z_ : Int32) (vs_ : List Value) (c0_ : Int32) (c1_ : Int32) (c2_ : Int32) (h0 : Heap) (n0 : Nat) (v : Option Value) (h : Heap) (L : List Loc) : Prop := (v = some (.int c0_)) ∧ (Fr n0 L) ∧ (h = h0)
set_option maxRecDepth 65536 in
set_option maxHeartbeats 40000000 in
theorem rm_ecat_3_0 (l : Launch) (Z : State) (a0 : Array Value) (hw : ∀ d ∈ tables_1, d.before a0 Z = true) (ws : List Jvm.Cond) (z_CS : Int32) (v_FMT : Value) (x_ : Addr) (ba_ : Addr) (kb_ : ClassId) (cd_ : Int32) (z_ : Int32) (vs_ : List Value) (c0_ : Int32) (c1_ : Int32) (c2_ : Int32) (h0 : Heap) (n0 : Nat) (SB : own_Start Z z_CS v_FMT) (O0 : Old Z n0 h0) (pr0 : Exa Z h0 x_ "java/lang/String") (pr1 : Fld Z h0 x_ "java/lang/String" "coder" "B" (.int cd_)) (pr2 : Fld Z h0 x_ "java/lang/String" "value" "[B" (.ref ba_)) (pr3 : Arv Z h0 ba_ kb_ .byte z_ vs_ (.int 0)) (pr4 : own_enc3 c0_ c1_ c2_ cd_ z_ vs_) (pr5 : own_c16 c0_) :
    oMet l Z yM22 jdk_42_method_56_code 2 (some .char) ws ({ frames := 4, cells := 0, slots := 0, locals := 53 } : Room) 0 0 #[(.ref x_), (.int (0 : Int32))] h0 (own_Q_ecat_3_0 Z z_CS v_FMT x_ ba_ kb_ cd_ z_ vs_ c0_ c1_ c2_ h0 n0) := by
  refine oenter own_pn2 #[.val (.ref x_), .val (.int (0 : Int32))] (fun m => by first | (simp [entryFrame, mkF, argsToLocals, Value.category]; done) | rfl) ?_
  intro p e s m below meth c s₁ X0 hx hZ hby hml hret hown0 hnm hlk e0
  have hown : s.vm.findClass "java/lang/String" = some m.cls := hown0
  have N0 := Fr.nil n0
  obtain ⟨S_CS, H_CS, S__assertionsDisabled, S_HI_BYTE_SHIFT, S_LO_BYTE_SHIFT, S_FMT, R_FMT⟩ := (id SB)
  have w7 := hw _ (List.mem_of_getElem? (i := 7) rfl)
  have w25 := hw _ (List.mem_of_getElem? (i := 25) rfl)
  have w62 := hw _ (List.mem_of_getElem? (i := 62) rfl)
  have w75 := hw _ (List.mem_of_getElem? (i := 75) rfl)
  have w76 := hw _ (List.mem_of_getElem? (i := 76) rfl)
  have w77 := hw _ (List.mem_of_getElem? (i := 77) rfl)
  have w78 := hw _ (List.mem_of_getElem? (i := 78) rfl)
  have w79 := hw _ (List.mem_of_getElem? (i := 79) rfl)
  have w80 := hw _ (List.mem_of_getElem? (i := 80) rfl)
  have w81 := hw _ (List.mem_of_getElem? (i := 81) rfl)
  have w82 := hw _ (List.mem_of_getElem? (i := 82) rfl)
  have w83 := hw _ (List.mem_of_getElem? (i := 83) rfl)
  have w111 := hw _ (List.mem_of_getElem? (i := 111) rfl)
  have w112 := hw _ (List.mem_of_getElem? (i := 112) rfl)
  have w113 := hw _ (List.mem_of_getElem? (i := 113) rfl)
  rcases pr4 with ⟨hs0, hs1, hs2, rfl, rfl, rfl⟩ | ⟨rfl, rfl, rfl⟩
  · refine o_aloadN X0 hx (hb hby d23_0) rfl rfl ?_
    obtain ⟨cq1, kq1, q1a, q1b, q1c⟩ := isOf hZ e0 pr0
    obtain ⟨_, _, ⟨T1, L1, kc1, n1⟩, -, X1, ⟨Lc1, hQ1, l1, y1, z1⟩, st1⟩ := X0.virtualBack hx (y := yM15) (z := yM15) hown (mvT hZ w75) (mvT hZ w76) (notFace_of_selects (args := #[]) (mvT hZ w78)) (mvT hZ w78) (mvT hZ w77) (by decide) (backOf (W := 0) (rm_isl1_0 l Z a0 hw [] z_CS v_FMT x_ h0 n0 SB O0 pr1) hZ w79 w7 (by decide) (by decide)) q1a q1c (g := (mkF m 1 #[.val (.ref x_), .val (.int (0 : Int32))] [(.ref x_)])) rfl (by rw [hml]; rfl) (Steps.refl _) (argsL := []) (rest := []) (lenOf own_pd14 rfl) rfl (by show 2 * 0 + _ ≤ _; exact Nat.le_of_eq rfl) (hb hby d23_1) (fun _ _ => ⟨rfl, e0, (by decide : 0 + 0 ≤ _), (by decide : 0 + 0 ≤ _)⟩)
    dsimp only [Pt.U, Pt.locs, Pt.cells, Pt.slots] at X1 l1 y1 z1 st1 hQ1
    subst l1 y1 z1
    obtain ⟨rfl, Nq1, e1⟩ := hQ1
    have N1 := Fr.app N0 Nq1
    refine otr (S' := T1.setTop (mkF m 4 #[.val (.ref x_), .val (.int (0 : Int32))] [(.int (1 : Int32))])) st1 ?_
    refine o_ifNo X1 hx (hb hby d23_4) (feq (by decide : ¬ ((1 : Int32) = (0 : Int32)))).1 ?_
    refine o_aloadN X1 hx (hb hby d23_7) rfl rfl ?_
    obtain ⟨T2, X2, e2, st2⟩ := getF X1 hx hZ hown (host := "") (Or.inl w25) Via.refl e1 pr2 (g := (mkF m 8 #[.val (.ref x_), .val (.int (0 : Int32))] [(.ref x_)])) rfl rfl (hb hby d23_8)
    refine ogo (S' := T2.setTop (mkF m 11 #[.val (.ref x_), .val (.int (0 : Int32))] [(.ref ba_)])) st2 ?_
    refine o_iloadN X2 hx (hb hby d23_11) rfl ?_
    obtain ⟨_, _, ⟨T3, L3, kc3, n3⟩, -, X3, ⟨Lc3, hQ3, l3, y3, z3⟩, st3⟩ := Jvm.LawKit.callS X2 hx (y := yM18) hown (mvT hZ w80) (mvT hZ w81) (mvT hZ w82) (mvT hZ w83) (by decide) (backOf (W := 0) (rm_l1c_3_0 l Z a0 hw [] z_CS v_FMT ba_ kb_ c0_ c1_ c2_ h0 n0 SB O0 pr3 (own_c16n pr5) hs0) hZ w83 w82 (by decide) (by decide)) (g := (mkF m 12 #[.val (.ref x_), .val (.int (0 : Int32))] [(.int (0 : Int32)), (.ref ba_)])) rfl (by rw [hml]; rfl) (argsL := [(.ref ba_), (.int (0 : Int32))]) (rest := []) (lenOf own_pd5 rfl) rfl (by show 2 * 0 + _ ≤ _; exact Nat.le_of_eq rfl) (hb hby d23_12) (fun _ _ => ⟨rfl, e2, (by decide : 0 + 0 ≤ _), (by decide : 0 + 0 ≤ _)⟩)
    dsimp only [Pt.U, Pt.locs, Pt.cells, Pt.slots] at X3 l3 y3 z3 st3 hQ3
    subst l3 y3 z3
    obtain ⟨rfl, Nq3, e3⟩ := hQ3
    have N3 := Fr.app N1 Nq3
    refine ogo (S' := T3.setTop (mkF m 15 #[.val (.ref x_), .val (.int (0 : Int32))] [(.int c0_)])) st3 ?_
    refine oend X3 hlk (v := some (.int c0_)) (fun h => by rw [hret] at h; cases h) (fun fs hr => retN X3 hx (t := .char) hret (by simp) (hb hby d23_15) (by rw [(own_nar16 pr5)]; exact hr)) (by decide) (by decide) ?_
    show own_Q_ecat_3_0 Z _ _ _ _ _ _ _ _ _ _ _ h0 n0 _ T3.heap _
    rw [e3]
    exact ⟨rfl, N3, rfl⟩
  · refine o_aloadN X0 hx (hb hby d23_0) rfl rfl ?_
    obtain ⟨cq4, kq4, q4a, q4b, q4c⟩ := isOf hZ e0 pr0
    obtain ⟨_, _, ⟨T4, L4, kc4, n4⟩, -, X4, ⟨Lc4, hQ4, l4, y4, z4⟩, st4⟩ := X0.virtualBack hx (y := yM15) (z := yM15) hown (mvT hZ w75) (mvT hZ w76) (notFace_of_selects (args := #[]) (mvT hZ w78)) (mvT hZ w78) (mvT hZ w77) (by decide) (backOf (W := 0) (rm_isl1_1 l Z a0 hw [] z_CS v_FMT x_ h0 n0 SB O0 pr1) hZ w79 w7 (by decide) (by decide)) q4a q4c (g := (mkF m 1 #[.val (.ref x_), .val (.int (0 : Int32))] [(.ref x_)])) rfl (by rw [hml]; rfl) (Steps.refl _) (argsL := []) (rest := []) (lenOf own_pd14 rfl) rfl (by show 2 * 0 + _ ≤ _; exact Nat.le_of_eq rfl) (hb hby d23_1) (fun _ _ => ⟨rfl, e0, (by decide : 0 + 0 ≤ _), (by decide : 0 + 0 ≤ _)⟩)
    dsimp only [Pt.U, Pt.locs, Pt.cells, Pt.slots] at X4 l4 y4 z4 st4 hQ4
    subst l4 y4 z4
    obtain ⟨rfl, Nq4, e4⟩ := hQ4
    have N4 := Fr.app N0 Nq4
    refine otr (S' := T4.setTop (mkF m 4 #[.val (.ref x_), .val (.int (0 : Int32))] [(.int (0 : Int32))])) st4 ?_
    refine o_ifYes X4 hx 16 (hb hby d23_4) (teq (by decide : (0 : Int32) = (0 : Int32))).1 (by decide) (by decide) ?_
    refine o_aloadN X4 hx (hb hby d23_16) rfl rfl ?_
    obtain ⟨T5, X5, e5, st5⟩ := getF X4 hx hZ hown (host := "") (Or.inl w25) Via.refl e4 pr2 (g := (mkF m 17 #[.val (.ref x_), .val (.int (0 : Int32))] [(.ref x_)])) rfl rfl (hb hby d23_17)
    refine ogo (S' := T5.setTop (mkF m 20 #[.val (.ref x_), .val (.int (0 : Int32))] [(.ref ba_)])) st5 ?_
    refine o_iloadN X5 hx (hb hby d23_20) rfl ?_
    obtain ⟨_, _, ⟨T6, L6, kc6, n6⟩, -, X6, ⟨Lc6, hQ6, l6, y6, z6⟩, st6⟩ := Jvm.LawKit.callS X5 hx (y := yM21) hown (mvT hZ w111) (mvT hZ w112) (mvT hZ w62) (mvT hZ w113) (by decide) (backOf (W := 0) (rm_u16cat_3_0 l Z a0 hw [] z_CS v_FMT ba_ kb_ c0_ c1_ c2_ h0 n0 SB O0 pr3 pr5) hZ w113 w62 (by decide) (by decide)) (g := (mkF m 21 #[.val (.ref x_), .val (.int (0 : Int32))] [(.int (0 : Int32)), (.ref ba_)])) rfl (by rw [hml]; rfl) (argsL := [(.ref ba_), (.int (0 : Int32))]) (rest := []) (lenOf own_pd5 rfl) rfl (by show 2 * 0 + _ ≤ _; exact Nat.le_of_eq rfl) (hb hby d23_21) (fun _ _ => ⟨rfl, e5, (by decide : 0 + 0 ≤ _), (by decide : 0 + 0 ≤ _)⟩)
    dsimp only [Pt.U, Pt.locs, Pt.cells, Pt.slots] at X6 l6 y6 z6 st6 hQ6
    subst l6 y6 z6
    obtain ⟨rfl, Nq6, e6⟩ := hQ6
    have N6 := Fr.app N4 Nq6
    refine ogo (S' := T6.setTop (mkF m 24 #[.val (.ref x_), .val (.int (0 : Int32))] [(.int c0_)])) st6 ?_
    refine oend X6 hlk (v := some (.int c0_)) (fun h => by rw [hret] at h; cases h) (fun fs hr => retN X6 hx (t := .char) hret (by simp) (hb hby d23_24) (by rw [(own_nar16 pr5)]; exact hr)) (by decide) (by decide) ?_
    show own_Q_ecat_3_0 Z _ _ _ _ _ _ _ _ _ _ _ h0 n0 _ T6.heap _
    rw [e6]
    exact ⟨rfl, N6, rfl⟩
def own_Q_skipT_3_0 (Z : State) (z_CS : Int32) (v_FMT : Value) (t_ : Addr) (x_ : Addr) (ba_ : Addr) (kb_ : ClassId) (cd_ : Int32) (z_ : Int32) (vs_ : List Value) (c0_ : Int32) (c1_ : Int32) (c2_ : Int32) (u_ : Int32) (h0 : Heap) (n0 : Nat) (v : Option Value) (h : Heap) (L : List Loc) : Prop := (v = some (.int (1 : Int32))) ∧ (Fr n0 L) ∧ (Keep h0 h [t_]) ∧ (Exa Z h t_ "com/example/rowfold/rowfold/Literal") ∧ (Fld Z h t_ "com/example/rowfold/rowfold/Literal" "text" "Ljava/lang/String;" (.ref x_)) ∧ (Fld Z h t_ "com/example/rowfold/rowfold/Literal" "at" "I" (.int (1 : Int32)))
set_option maxRecDepth 65536 in
set_option maxHeartbeats 40000000 in
theorem rm_skipT_3_0 (l : Launch) (Z : State) (a0 : Array Value) (hw : ∀ d ∈ tables_1, d.before a0 Z = true) (ws : List Jvm.Cond) (z_CS : Int32) (v_FMT : Value) (t_ : Addr) (x_ : Addr) (ba_ : Addr) (kb_ : ClassId) (cd_ : Int32) (z_ : Int32) (vs_ : List Value) (c0_ : Int32) (c1_ : Int32) (c2_ : Int32) (u_ : Int32) (h0 : Heap) (n0 : Nat) (SB : own_Start Z z_CS v_FMT) (O0 : Old Z n0 h0) (pr0 : Exa Z h0 t_ "com/example/rowfold/rowfold/Literal") (pr1 : Fld Z h0 t_ "com/example/rowfold/rowfold/Literal" "text" "Ljava/lang/String;" (.ref x_)) (pr2 : Fld Z h0 t_ "com/example/rowfold/rowfold/Literal" "at" "I" (.int (0 : Int32))) (pr3 : Exa Z h0 x_ "java/lang/String") (pr4 : Fld Z h0 x_ "java/lang/String" "coder" "B" (.int cd_)) (pr5 : Fld Z h0 x_ "java/lang/String" "value" "[B" (.ref ba_)) (pr6 : Arv Z h0 ba_ kb_ .byte z_ vs_ (.int 0)) (pr7 : own_enc3 c0_ c1_ c2_ cd_ z_ vs_) (pr8 : own_c16 c0_) (pr9 : c0_ = u_) (pr10 : n0 ≤ t_) :
    oMet l Z yM13 prog_8_method_4_code 3 (some .boolean) ws ({ frames := 5, cells := 0, slots := 0, locals := 66 } : Room) 0 0 #[(.ref t_), (.int u_)] h0 (own_Q_skipT_3_0 Z z_CS v_FMT t_ x_ ba_ kb_ cd_ z_ vs_ c0_ c1_ c2_ u_ h0 n0) := by
  refine oenter own_pn0 #[.val (.ref t_), .val (.int u_), .unset] (fun m => by first | (simp [entryFrame, mkF, argsToLocals, Value.category]; done) | rfl) ?_
  intro p e s m below meth c s₁ X0 hx hZ hby hml hret hown0 hnm hlk e0
  have hown : s.vm.findClass "com/example/rowfold/rowfold/Literal" = some m.cls := hown0
  have N0 := Fr.nil n0
  obtain ⟨S_CS, H_CS, S__assertionsDisabled, S_HI_BYTE_SHIFT, S_LO_BYTE_SHIFT, S_FMT, R_FMT⟩ := (id SB)
  have w7 := hw _ (List.mem_of_getElem? (i := 7) rfl)
  have w28 := hw _ (List.mem_of_getElem? (i := 28) rfl)
  have w29 := hw _ (List.mem_of_getElem? (i := 29) rfl)
  have w30 := hw _ (List.mem_of_getElem? (i := 30) rfl)
  have w31 := hw _ (List.mem_of_getElem? (i := 31) rfl)
  have w39 := hw _ (List.mem_of_getElem? (i := 39) rfl)
  have w45 := hw _ (List.mem_of_getElem? (i := 45) rfl)
  have w46 := hw _ (List.mem_of_getElem? (i := 46) rfl)
  have w52 := hw _ (List.mem_of_getElem? (i := 52) rfl)
  have w53 := hw _ (List.mem_of_getElem? (i := 53) rfl)
  have w54 := hw _ (List.mem_of_getElem? (i := 54) rfl)
  have w70 := hw _ (List.mem_of_getElem? (i := 70) rfl)
  have w71 := hw _ (List.mem_of_getElem? (i := 71) rfl)
  have w72 := hw _ (List.mem_of_getElem? (i := 72) rfl)
  have w73 := hw _ (List.mem_of_getElem? (i := 73) rfl)
  have w74 := hw _ (List.mem_of_getElem? (i := 74) rfl)
  refine o_aloadN X0 hx (hb hby d14_0) rfl rfl ?_
  obtain ⟨T1, X1, e1, st1⟩ := getF X0 hx hZ hown (host := "") (Or.inl w52) Via.refl e0 pr2 (g := (mkF m 1 #[.val (.ref t_), .val (.int u_), .unset] [(.ref t_)])) rfl rfl (hb hby d14_1)
  refine ogo (S' := T1.setTop (mkF m 4 #[.val (.ref t_), .val (.int u_), .unset] [(.int (0 : Int32))])) st1 ?_
  refine o_aloadN X1 hx (hb hby d14_4) rfl rfl ?_
  obtain ⟨T2, X2, e2, st2⟩ := getF X1 hx hZ hown (host := "") (Or.inl w45) Via.refl e1 pr1 (g := (mkF m 5 #[.val (.ref t_), .val (.int u_), .unset] [(.ref t_), (.int (0 : Int32))])) rfl rfl (hb hby d14_5)
  refine ogo (S' := T2.setTop (mkF m 8 #[.val (.ref t_), .val (.int u_), .unset] [(.ref x_), (.int (0 : Int32))])) st2 ?_
  obtain ⟨cq3, kq3, q3a, q3b, q3c⟩ := isOf hZ e2 pr3
  obtain ⟨_, _, ⟨T3, L3, kc3, n3⟩, -, X3, ⟨Lc3, hQ3, l3, y3, z3⟩, st3⟩ := X2.virtualBack hx (y := yM12) (z := yM12) hown (mvT hZ w54) (mvT hZ w28) (notFace_of_selects (args := #[]) (mvT hZ w30)) (mvT hZ w30) (mvT hZ w29) (by decide) (backOf (W := 1) (rm_elen_3 l Z a0 hw [] z_CS v_FMT x_ ba_ kb_ cd_ z_ vs_ c0_ c1_ c2_ h0 n0 SB O0 pr3 pr4 pr5 pr6 pr7) hZ w31 w7 (by decide) (by decide)) q3a q3c (g := (mkF m 8 #[.val (.ref t_), .val (.int u_), .unset] [(.ref x_), (.int (0 : Int32))])) rfl (by rw [hml]; rfl) (Steps.refl _) (argsL := []) (rest := [(.int (0 : Int32))]) (lenOf own_pd9 rfl) rfl (by show 2 * 0 + _ ≤ _; exact Nat.le_of_eq rfl) (hb hby d14_8) (fun _ _ => ⟨rfl, e2, (by decide : 0 + 0 ≤ _), (by decide : 0 + 0 ≤ _)⟩)
  dsimp only [Pt.U, Pt.locs, Pt.cells, Pt.slots] at X3 l3 y3 z3 st3 hQ3
  subst l3 y3 z3
  obtain ⟨rfl, Nq3, e3⟩ := hQ3
  have N3 := Fr.app N0 Nq3
  refine otr (S' := T3.setTop (mkF m 11 #[.val (.ref t_), .val (.int u_), .unset] [(.int (3 : Int32)), (.int (0 : Int32))])) st3 ?_
  refine o_icmpNo X3 hx (hb hby d14_11) (tlt (by decide : (0 : Int32) < (3 : Int32))).2.1 ?_
  refine o_aloadN X3 hx (hb hby d14_14) rfl rfl ?_
  obtain ⟨T4, X4, e4, st4⟩ := getF X3 hx hZ hown (host := "") (Or.inl w45) Via.refl e3 pr1 (g := (mkF m 15 #[.val (.ref t_), .val (.int u_), .unset] [(.ref t_)])) rfl rfl (hb hby d14_15)
  refine ogo (S' := T4.setTop (mkF m 18 #[.val (.ref t_), .val (.int u_), .unset] [(.ref x_)])) st4 ?_
  refine o_aloadN X4 hx (hb hby d14_18) rfl rfl ?_
  obtain ⟨T5, X5, e5, st5⟩ := getF X4 hx hZ hown (host := "") (Or.inl w52) Via.refl e4 pr2 (g := (mkF m 19 #[.val (.ref t_), .val (.int u_), .unset] [(.ref t_), (.ref x_)])) rfl rfl (hb hby d14_19)
  refine ogo (S' := T5.setTop (mkF m 22 #[.val (.ref t_), .val (.int u_), .unset] [(.int (0 : Int32)), (.ref x_)])) st5 ?_
  obtain ⟨cq6, kq6, q6a, q6b, q6c⟩ := isOf hZ e5 pr3
  obtain ⟨_, _, ⟨T6, L6, kc6, n6⟩, -, X6, ⟨Lc6, hQ6, l6, y6, z6⟩, st6⟩ := X5.virtualBack hx (y := yM22) (z := yM22) hown (mvT hZ w70) (mvT hZ w71) (notFace_of_selects (args := #[]) (mvT hZ w73)) (mvT hZ w73) (mvT hZ w72) (by decide) (backOf (W := 0) (rm_ecat_3_0 l Z a0 hw [] z_CS v_FMT x_ ba_ kb_ cd_ z_ vs_ c0_ c1_ c2_ h0 n0 SB O0 pr3 pr4 pr5 pr6 pr7 pr8) hZ w74 w7 (by decide) (by decide)) q6a q6c (g := (mkF m 22 #[.val (.ref t_), .val (.int u_), .unset] [(.int (0 : Int32)), (.ref x_)])) rfl (by rw [hml]; rfl) (Steps.refl _) (argsL := [(.int (0 : Int32))]) (rest := []) (lenOf own_pd15 rfl) rfl (by show 2 * 0 + _ ≤ _; exact Nat.le_of_eq rfl) (hb hby d14_22) (fun _ _ => ⟨rfl, e5, (by decide : 0 + 0 ≤ _), (by decide : 0 + 0 ≤ _)⟩)
  dsimp only [Pt.U, Pt.locs, Pt.cells, Pt.slots] at X6 l6 y6 z6 st6 hQ6
  subst l6 y6 z6
  obtain ⟨rfl, Nq6, e6⟩ := hQ6
  have N6 := Fr.app N3 Nq6
  refine otr (S' := T6.setTop (mkF m 25 #[.val (.ref t_), .val (.int u_), .unset] [(.int c0_)])) st6 ?_
  refine o_iloadN X6 hx (hb hby d14_25) rfl ?_
  refine o_icmpNo X6 hx (hb hby d14_26) (teq pr9).2 ?_
  refine o_iconst X6 hx (1 : Int32) (hb hby d14_29) rfl ?_
  refine o_goto X6 hx 34 (hb hby d14_30) (by decide) (by decide) ?_
  refine o_istoreN X6 hx (l' := #[.val (.ref t_), .val (.int u_), .val (.int (1 : Int32))]) (hb hby d14_34) rfl ?_
  refine o_iloadN X6 hx (hb hby d14_35) rfl ?_
  refine o_ifNo X6 hx (hb hby d14_36) (feq (by decide : ¬ ((1 : Int32) = (0 : Int32)))).1 ?_
  refine o_aloadN X6 hx (hb hby d14_39) rfl rfl ?_
  refine o_dup X6 hx (hb hby d14_40) rfl ?_
  obtain ⟨T7, X7, e7, st7⟩ := getF X6 hx hZ hown (host := "") (Or.inl w52) Via.refl e6 pr2 (g := (mkF m 41 #[.val (.ref t_), .val (.int u_), .val (.int (1 : Int32))] [(.ref t_), (.ref t_)])) rfl rfl (hb hby d14_41)
  refine ogo (S' := T7.setTop (mkF m 44 #[.val (.ref t_), .val (.int u_), .val (.int (1 : Int32))] [(.int (0 : Int32)), (.ref t_)])) st7 ?_
  refine o_iconst X7 hx (1 : Int32) (hb hby d14_44) rfl ?_
  refine o_iadd X7 hx (hb hby d14_45) ?_
  obtain ⟨T8, _, X8, rfl, W8, st8⟩ := putF X7 hx hZ hown (host := "") (Or.inl w52) Via.refl e7 pr2 pr0 (Or.inl w53) w39 (ty := .int) (by decide) rfl rfl (g := (mkF m 46 #[.val (.ref t_), .val (.int u_), .val (.int (1 : Int32))] [(.int (1 : Int32)), (.ref t_)])) rfl rfl (hb hby d14_46)
  have N8 := Fr.snoc X8 N6 pr10
  have F8 := Fld.same W8 pr2
  refine ogo (S' := T8.setTop (mkF m 49 #[.val (.ref t_), .val (.int u_), .val (.int (1 : Int32))] [])) st8 ?_
  refine o_iloadN X8 hx (hb hby d14_49) rfl ?_
  have c9 := (Fld.other W8 pr1 (Or.inr (slot_ne (Or.inr w46) (Or.inl w53) (by decide) (t := (.object "java/lang/String")) (t' := .int) (by decide) (by decide))))
  refine oend X8 hlk (v := some (.int (1 : Int32))) (fun h => by rw [hret] at h; cases h) (fun fs hr => retN X8 hx (t := .boolean) hret (by simp) (hb hby d14_50) hr) (by decide) (by decide) ?_
  show own_Q_skipT_3_0 Z _ _ _ _ _ _ _ _ _ _ _ _ _ h0 n0 _ T8.heap _
  exact ⟨rfl, N8, ((Keep.refl h0 [t_]).wr W8 (Or.inl (List.mem_of_getElem? (i := 0) rfl))), (Exa.wr W8 pr0), c9, F8⟩
def own_Q_l1c_3_1 (Z : State) (z_CS : Int32) (v_FMT : Value) (ba_ : Addr) (kb_ : ClassId) (c0_ : Int32) (c1_ : Int32) (c2_ : Int32) (h0 : Heap) (n0 : Nat) (v : Option Value) (h : Heap) (L : List Loc) : Prop := (v = some (.int c1_)) ∧ (Fr n0 L) ∧ (h = h0)
set_option maxRecDepth 65536 in
set_option maxHeartbeats 40000000 in
theorem rm_l1c_3_1 (l : Launch) (Z : State) (a0 : Array Value) (hw : ∀ d ∈ tables_1, d.before a0 Z = true) (ws : List Jvm.Cond) (z_CS : Int32) (v_FMT : Value) (ba_ : Addr) (kb_ : ClassId) (c0_ : Int32) (c1_ : Int32) (c2_ : Int32) (h0 : Heap) (n0 : Nat) (SB : own_Start Z z_CS v_FMT) (O0 : Old Z n0 h0) (pr0 : Arv Z h0 ba_ kb_ .byte (3 : Int32) [(.int c0_.toInt8.toInt32), (.int c1_.toInt8.toInt32), (.int c2_.toInt8.toInt32)] (.int 0)) (pr1 : ¬ (c1_ < (0 : Int32))) (pr2 : ¬ ((255 : Int32) < c1_)) :
    oMet l Z yM18 jdk_43_method_2_code 2 (some .char) ws ({ frames := 2, cells := 0, slots := 0, locals := 27 } : Room) 0 0 #[(.ref ba_), (.int (1 : Int32))] h0 (own_Q_l1c_3_1 Z z_CS v_FMT ba_ kb_ c0_ c1_ c2_ h0 n0) := by
  refine oenter own_pn4 #[.val (.ref ba_), .val (.int (1 : Int32))] (fun m => by first | (simp [entryFrame, mkF, argsToLocals, Value.category]; done) | rfl) ?_
  intro p e s m below meth c s₁ X0 hx hZ hby hml hret hown0 hnm hlk e0
  have hown : s.vm.findClass "java/lang/StringLatin1" = some m.cls := hown0
  have N0 := Fr.nil n0
  obtain ⟨S_CS, H_CS, S__assertionsDisabled, S_HI_BYTE_SHIFT, S_LO_BYTE_SHIFT, S_FMT, R_FMT⟩ := (id SB)
  have w7 := hw _ (List.mem_of_getElem? (i := 7) rfl)
  have w84 := hw _ (List.mem_of_getElem? (i := 84) rfl)
  have w85 := hw _ (List.mem_of_getElem? (i := 85) rfl)
  have w86 := hw _ (List.mem_of_getElem? (i := 86) rfl)
  refine o_iloadN X0 hx (hb hby d19_0) rfl ?_
  refine o_aloadN X0 hx (hb hby d19_1) rfl rfl ?_
  obtain ⟨cl1, Ar1, -, S1, N1z, -, -⟩ := (id pr0)
  refine ogo (S' := s₁.setTop (mkF m 3 #[.val (.ref ba_), .val (.int (1 : Int32))] [(.int (3 : Int32)), (.int (1 : Int32))])) (fun _ kt_ => X0.arraylength hx (by rw [e0]; exact Ar1.1) (State.isArrayOf_alike hZ.alike Ar1.2.1) (g := (mkF m 2 #[.val (.ref ba_), .val (.int (1 : Int32))] [(.ref ba_), (.int (1 : Int32))])) rfl rfl (hb hby d19_2) _ (by rw [len_of S1 N1z]; exact kt_)) ?_
  obtain ⟨_, _, ⟨T2, L2, kc2, n2⟩, -, X2, ⟨Lc2, hQ2, l2, y2, z2⟩, st2⟩ := Jvm.LawKit.callS X0 hx (y := yM17) hown (mvT hZ w84) (mvT hZ w85) (mvT hZ w7) (mvT hZ w86) (by decide) (backOf (W := 0) (rm_sci l Z a0 hw [] z_CS v_FMT (1 : Int32) (3 : Int32) h0 n0 SB O0 (by decide) (by decide)) hZ w86 w7 (by decide) (by decide)) (g := (mkF m 3 #[.val (.ref ba_), .val (.int (1 : Int32))] [(.int (3 : Int32)), (.int (1 : Int32))])) rfl (by rw [hml]; rfl) (argsL := [(.int (1 : Int32)), (.int (3 : Int32))]) (rest := []) (lenOf own_pd11 rfl) rfl (by show 2 * 0 + _ ≤ _; exact Nat.le_of_eq rfl) (hb hby d19_3) (fun _ _ => ⟨rfl, e0, (by decide : 0 + 0 ≤ _), (by decide : 0 + 0 ≤ _)⟩)
  dsimp only [Pt.U, Pt.locs, Pt.cells, Pt.slots] at X2 l2 y2 z2 st2 hQ2
  subst l2 y2 z2
  obtain ⟨rfl, Nq2, e2⟩ := hQ2
  have N2 := Fr.app N0 Nq2
  refine ogo (S' := T2.setTop (mkF m 6 #[.val (.ref ba_), .val (.int (1 : Int32))] [])) st2 ?_
  refine o_aloadN X2 hx (hb hby d19_6) rfl rfl ?_
  refine o_iloadN X2 hx (hb hby d19_7) rfl ?_
  obtain ⟨cl3, Ar3, q3, S3, N3z, H3, G3⟩ := (id pr0)
  have hi3 := inb_of (j := (1 : Int32)) S3 ⟨by decide, by decide⟩
  have ha3 := Has.at (v := (.int c1_.toInt8.toInt32)) H3 hi3 rfl
  refine ogo (S' := T2.setTop (mkF m 9 #[.val (.ref ba_), .val (.int (1 : Int32))] [(.int c1_.toInt8.toInt32)])) (X2.baloadBytes hx (j := (1 : Int32)) (v := (.int c1_.toInt8.toInt32)) (by rw [e2]; exact Ar3.1) (State.isArrayOf_alike hZ.alike Ar3.2.1) Ar3.2.2 hi3 ha3 (g := (mkF m 8 #[.val (.ref ba_), .val (.int (1 : Int32))] [(.int (1 : Int32)), (.ref ba_)])) rfl rfl (hb hby d19_8)) ?_
  refine o_sipush X2 hx (255 : Int32) (hb hby d19_9) rfl ?_
  refine o_iand X2 hx (hb hby d19_12) ?_
  refine o_i2c X2 hx (hb hby d19_13) ?_
  rw [own_char pr1 pr2]
  refine oend X2 hlk (v := some (.int c1_)) (fun h => by rw [hret] at h; cases h) (fun fs hr => retN X2 hx (t := .char) hret (by simp) (hb hby d19_14) (by rw [(own_narsm pr1 pr2)]; exact hr)) (by decide) (by decide) ?_
  show own_Q_l1c_3_1 Z _ _ _ _ _ _ _ h0 n0 _ T2.heap _
  rw [e2]
  exact ⟨rfl, N2, rfl⟩
def own_Q_u16ci_3_1 (Z : State) (z_CS : Int32) (v_FMT : Value) (ba_ : Addr) (kb_ : ClassId) (vs_ : List Value) (h0 : Heap) (n0 : Nat) (v : Option Value) (h : Heap) (L : List Loc) : Prop := (v = none) ∧ (Fr n0 L) ∧ (h = h0)
set_option maxRecDepth 65536 in
set_option maxHeartbeats 40000000 in
theorem rm_u16ci_3_1 (l : Launch) (Z : State) (a0 : Array Value) (hw : ∀ d ∈ tables_1, d.before a0 Z = true) (ws : List Jvm.Cond) (z_CS : Int32) (v_FMT : Value) (ba_ : Addr) (kb_ : ClassId) (vs_ : List Value) (h0 : Heap) (n0 : Nat) (SB : own_Start Z z_CS v_FMT) (O0 : Old Z n0 h0) (pr0 : Arv Z h0 ba_ kb_ .byte (6 : Int32) vs_ (.int 0)) :
    oMet l Z yM20 jdk_52_method_91_code 2 none ws ({ frames := 2, cells := 0, slots := 0, locals := 27 } : Room) 0 0 #[(.int (1 : Int32)), (.ref ba_)] h0 (own_Q_u16ci_3_1 Z z_CS v_FMT ba_ kb_ vs_ h0 n0) := by
  refine oenter own_pn1 #[.val (.int (1 : Int32)), .val (.ref ba_)] (fun m => by first | (simp [entryFrame, mkF, argsToLocals, Value.category]; done) | rfl) ?_
  intro p e s m below meth c s₁ X0 hx hZ hby hml hret hown0 hnm hlk e0
  have hown : s.vm.findClass "java/lang/StringUTF16" = some m.cls := hown0
  have N0 := Fr.nil n0
  obtain ⟨S_CS, H_CS, S__assertionsDisabled, S_HI_BYTE_SHIFT, S_LO_BYTE_SHIFT, S_FMT, R_FMT⟩ := (id SB)
  have w7 := hw _ (List.mem_of_getElem? (i := 7) rfl)
  have w62 := hw _ (List.mem_of_getElem? (i := 62) rfl)
  have w85 := hw _ (List.mem_of_getElem? (i := 85) rfl)
  have w86 := hw _ (List.mem_of_getElem? (i := 86) rfl)
  have w117 := hw _ (List.mem_of_getElem? (i := 117) rfl)
  have w118 := hw _ (List.mem_of_getElem? (i := 118) rfl)
  have w119 := hw _ (List.mem_of_getElem? (i := 119) rfl)
  have w120 := hw _ (List.mem_of_getElem? (i := 120) rfl)
  refine o_iloadN X0 hx (hb hby d21_0) rfl ?_
  refine o_aloadN X0 hx (hb hby d21_1) rfl rfl ?_
  obtain ⟨_, _, ⟨T1, L1, kc1, n1⟩, -, X1, ⟨Lc1, hQ1, l1, y1, z1⟩, st1⟩ := Jvm.LawKit.callS X0 hx (y := yM19) hown (mvT hZ w117) (mvT hZ w118) (mvT hZ w62) (mvT hZ w119) (by decide) (backOf (W := 1) (rm_u16len_3 l Z a0 hw []  ba_ kb_ vs_ h0 n0 O0 pr0) hZ w119 w62 (by decide) (by decide)) (g := (mkF m 2 #[.val (.int (1 : Int32)), .val (.ref ba_)] [(.ref ba_), (.int (1 : Int32))])) rfl (by rw [hml]; rfl) (argsL := [(.ref ba_)]) (rest := [(.int (1 : Int32))]) (lenOf own_pd12 rfl) rfl (by show 2 * 0 + _ ≤ _; exact Nat.le_of_eq rfl) (hb hby d21_2) (fun _ _ => ⟨rfl, e0, (by decide : 0 + 0 ≤ _), (by decide : 0 + 0 ≤ _)⟩)
  dsimp only [Pt.U, Pt.locs, Pt.cells, Pt.slots] at X1 l1 y1 z1 st1 hQ1
  subst l1 y1 z1
  obtain ⟨rfl, Nq1, e1⟩ := hQ1
  have N1 := Fr.app N0 Nq1
  refine ogo (S' := T1.setTop (mkF m 5 #[.val (.int (1 : Int32)), .val (.ref ba_)] [(.int (3 : Int32)), (.int (1 : Int32))])) st1 ?_
  obtain ⟨_, _, ⟨T2, L2, kc2, n2⟩, -, X2, ⟨Lc2, hQ2, l2, y2, z2⟩, st2⟩ := Jvm.LawKit.callS X1 hx (y := yM17) hown (mvT hZ w120) (mvT hZ w85) (mvT hZ w7) (mvT hZ w86) (by decide) (backOf (W := 0) (rm_sci l Z a0 hw [] z_CS v_FMT (1 : Int32) (3 : Int32) h0 n0 SB O0 (by decide) (by decide)) hZ w86 w7 (by decide) (by decide)) (g := (mkF m 5 #[.val (.int (1 : Int32)), .val (.ref ba_)] [(.int (3 : Int32)), (.int (1 : Int32))])) rfl (by rw [hml]; rfl) (argsL := [(.int (1 : Int32)), (.int (3 : Int32))]) (rest := []) (lenOf own_pd11 rfl) rfl (by show 2 * 0 + _ ≤ _; exact Nat.le_of_eq rfl) (hb hby d21_5) (fun _ _ => ⟨rfl, e1, (by decide : 0 + 0 ≤ _), (by decide : 0 + 0 ≤ _)⟩)
  dsimp only [Pt.U, Pt.locs, Pt.cells, Pt.slots] at X2 l2 y2 z2 st2 hQ2
  subst l2 y2 z2
  obtain ⟨rfl, Nq2, e2⟩ := hQ2
  have N2 := Fr.app N1 Nq2
  refine ogo (S' := T2.setTop (mkF m 8 #[.val (.int (1 : Int32)), .val (.ref ba_)] [])) st2 ?_
  refine oend X2 hlk (v := none) (fun _ => rfl) (fun fs hr => X2.returnOut hx hret (hb hby d21_8) hr) (by decide) (by decide) ?_
  show own_Q_u16ci_3_1 Z _ _ _ _ _ h0 n0 _ T2.heap _
  rw [e2]
  exact ⟨rfl, N2, rfl⟩
def own_Q_u16cat_3_1 (Z : State) (z_CS : Int32) (v_FMT : Value) (ba_ : Addr) (kb_ : ClassId) (c0_ : Int32) (c1_ : Int32) (c2_ : Int32) (h0 : Heap) (n0 : Nat) (v : Option Value) (h : Heap) (L : List Loc) : Prop := (v = some (.int c1_)) ∧ (Fr n0 L) ∧ (h = h0)
set_option maxRecDepth 65536 in
set_option maxHeartbeats 40000000 in
theorem rm_u16cat_3_1 (l : Launch) (Z : State) (a0 : Array Value) (hw : ∀ d ∈ tables_1, d.before a0 Z = true) (ws : List Jvm.Cond) (z_CS : Int32) (v_FMT : Value) (ba_ : Addr) (kb_ : ClassId) (c0_ : Int32) (c1_ : Int32) (c2_ : Int32) (h0 : Heap) (n0 : Nat) (SB : own_Start Z z_CS v_FMT) (O0 : Old Z n0 h0) (pr0 : Arv Z h0 ba_ kb_ .byte (6 : Int32) [(.int (c0_ >>> ((0 : Int32) &&& 31)).toInt8.toInt32), (.int (c0_ >>> ((8 : Int32) &&& 31)).toInt8.toInt32), (.int (c1_ >>> ((0 : Int32) &&& 31)).toInt8.toInt32), (.int (c1_ >>> ((8 : Int32) &&& 31)).toInt8.toInt32), (.int (c2_ >>> ((0 : Int32) &&& 31)).toInt8.toInt32), (.int (c2_ >>> ((8 : Int32) &&& 31)).toInt8.toInt32)] (.int 0)) (pr1 : own_c16 c1_) :
    oMet l Z yM21 jdk_52_method_83_code 2 (some .char) ws ({ frames := 3, cells := 0, slots := 0, locals := 40 } : Room) 0 0 #[(.ref ba_), (.int (1 : Int32))] h0 (own_Q_u16cat_3_1 Z z_CS v_FMT ba_ kb_ c0_ c1_ c2_ h0 n0) := by
  refine oenter own_pn1 #[.val (.ref ba_), .val (.int (1 : Int32))] (fun m => by first | (simp [entryFrame, mkF, argsToLocals, Value.category]; done) | rfl) ?_
  intro p e s m below meth c s₁ X0 hx hZ hby hml hret hown0 hnm hlk e0
  have hown : s.vm.findClass "java/lang/StringUTF16" = some m.cls := hown0
  have N0 := Fr.nil n0
  obtain ⟨S_CS, H_CS, S__assertionsDisabled, S_HI_BYTE_SHIFT, S_LO_BYTE_SHIFT, S_FMT, R_FMT⟩ := (id SB)
  have w62 := hw _ (List.mem_of_getElem? (i := 62) rfl)
  have w108 := hw _ (List.mem_of_getElem? (i := 108) rfl)
  have w109 := hw _ (List.mem_of_getElem? (i := 109) rfl)
  have w110 := hw _ (List.mem_of_getElem? (i := 110) rfl)
  have w114 := hw _ (List.mem_of_getElem? (i := 114) rfl)
  have w115 := hw _ (List.mem_of_getElem? (i := 115) rfl)
  have w116 := hw _ (List.mem_of_getElem? (i := 116) rfl)
  refine o_iloadN X0 hx (hb hby d22_0) rfl ?_
  refine o_aloadN X0 hx (hb hby d22_1) rfl rfl ?_
  obtain ⟨_, _, ⟨T1, L1, kc1, n1⟩, -, X1, ⟨Lc1, hQ1, l1, y1, z1⟩, st1⟩ := Jvm.LawKit.callS X0 hx (y := yM20) hown (mvT hZ w114) (mvT hZ w115) (mvT hZ w62) (mvT hZ w116) (by decide) (backOf (W := 0) (rm_u16ci_3_1 l Z a0 hw [] z_CS v_FMT ba_ kb_ [(.int (c0_ >>> ((0 : Int32) &&& 31)).toInt8.toInt32), (.int (c0_ >>> ((8 : Int32) &&& 31)).toInt8.toInt32), (.int (c1_ >>> ((0 : Int32) &&& 31)).toInt8.toInt32), (.int (c1_ >>> ((8 : Int32) &&& 31)).toInt8.toInt32), (.int (c2_ >>> ((0 : Int32) &&& 31)).toInt8.toInt32), (.int (c2_ >>> ((8 : Int32) &&& 31)).toInt8.toInt32)] h0 n0 SB O0 pr0) hZ w116 w62 (by decide) (by decide)) (g := (mkF m 2 #[.val (.ref ba_), .val (.int (1 : Int32))] [(.ref ba_), (.int (1 : Int32))])) rfl (by rw [hml]; rfl) (argsL := [(.int (1 : Int32)), (.ref ba_)]) (rest := []) (lenOf own_pd13 rfl) rfl (by show 2 * 0 + _ ≤ _; exact Nat.le_of_eq rfl) (hb hby d22_2) (fun _ _ => ⟨rfl, e0, (by decide : 0 + 0 ≤ _), (by decide : 0 + 0 ≤ _)⟩)
  dsimp only [Pt.U, Pt.locs, Pt.cells, Pt.slots] at X1 l1 y1 z1 st1 hQ1
  subst l1 y1 z1
  obtain ⟨rfl, Nq1, e1⟩ := hQ1
  have N1 := Fr.app N0 Nq1
  refine ogo (S' := T1.setTop (mkF m 5 #[.val (.ref ba_), .val (.int (1 : Int32))] [])) st1 ?_
  refine o_aloadN X1 hx (hb hby d22_5) rfl rfl ?_
  refine o_iloadN X1 hx (hb hby d22_6) rfl ?_
  obtain ⟨_, _, ⟨T2, L2, kc2, n2⟩, -, X2, ⟨Lc2, hQ2, l2, y2, z2⟩, st2⟩ := Jvm.LawKit.callS X1 hx (y := yM8) hown (mvT hZ w108) (mvT hZ w109) (mvT hZ w62) (mvT hZ w110) (by decide) (backOf (W := 0) (rm_getch_3_1 l Z a0 hw [] z_CS v_FMT ba_ kb_ c0_ c1_ c2_ h0 n0 SB O0 pr0 pr1) hZ w110 w62 (by decide) (by decide)) (g := (mkF m 7 #[.val (.ref ba_), .val (.int (1 : Int32))] [(.int (1 : Int32)), (.ref ba_)])) rfl (by rw [hml]; rfl) (argsL := [(.ref ba_), (.int (1 : Int32))]) (rest := []) (lenOf own_pd5 rfl) rfl (by show 2 * 0 + _ ≤ _; exact Nat.le_of_eq rfl) (hb hby d22_7) (fun _ _ => ⟨rfl, e1, (by decide : 0 + 0 ≤ _), (by decide : 0 + 0 ≤ _)⟩)
  dsimp only [Pt.U, Pt.locs, Pt.cells, Pt.slots] at X2 l2 y2 z2 st2 hQ2
  subst l2 y2 z2
  obtain ⟨rfl, Nq2, e2⟩ := hQ2
  have N2 := Fr.app N1 Nq2
  refine ogo (S' := T2.setTop (mkF m 10 #[.val (.ref ba_), .val (.int (1 : Int32))] [(.int c1_)])) st2 ?_
  refine oend X2 hlk (v := some (.int c1_)) (fun h => by rw [hret] at h; cases h) (fun fs hr => retN X2 hx (t := .char) hret (by simp) (hb hby d22_10) (by rw [(own_nar16 pr1)]; exact hr)) (by decide) (by decide) ?_
  show own_Q_u16cat_3_1 Z _ _ _ _ _ _ _ h0 n0 _ T2.heap _
  rw [e2]
  exact ⟨rfl, N2, rfl⟩
def own_Q_ecat_3_1 (Z : State) (z_CS : Int32) (v_FMT : Value) (x_ : Addr) (ba_ : Addr) (kb_ : ClassId) (cd_ : Int32) (z_ : Int32) (vs_ : List Value) (c0_ : Int32) (c1_ : Int32) (c2_ : Int32) (h0 : Heap) (n0 : Nat) (v : Option Value) (h : Heap) (L : List Loc) : Prop := (v = some (.int c1_)) ∧ (Fr n0 L) ∧ (h = h0)
set_option maxRecDepth 65536 in
set_option maxHeartbeats 40000000 in
theorem rm_ecat_3_1 (l : Launch) (Z : State) (a0 : Array Value) (hw : ∀ d ∈ tables_1, d.before a0 Z = true) (ws : List Jvm.Cond) (z_CS : Int32) (v_FMT : Value) (x_ : Addr) (ba_ : Addr) (kb_ : ClassId) (cd_ : Int32) (z_ : Int32) (vs_ : List Value) (c0_ : Int32) (c1_ : Int32) (c2_ : Int32) (h0 : Heap) (n0 : Nat) (SB : own_Start Z z_CS v_FMT) (O0 : Old Z n0 h0) (pr0 : Exa Z h0 x_ "java/lang/String") (pr1 : Fld Z h0 x_ "java/lang/String" "coder" "B" (.int cd_)) (pr2 : Fld Z h0 x_ "java/lang/String" "value" "[B" (.ref ba_)) (pr3 : Arv Z h0 ba_ kb_ .byte z_ vs_ (.int 0)) (pr4 : own_enc3 c0_ c1_ c2_ cd_ z_ vs_) (pr5 : own_c16 c1_) :
    oMet l Z yM22 jdk_42_method_56_code 2 (some .char) ws ({ frames := 4, cells := 0, slots := 0, locals := 53 } : Room) 0 0 #[(.ref x_), (.int (1 : Int32))] h0 (own_Q_ecat_3_1 Z z_CS v_FMT x_ ba_ kb_ cd_ z_ vs_ c0_ c1_ c2_ h0 n0) := by
  refine oenter own_pn2 #[.val (.ref x_), .val (.int (1 : Int32))] (fun m => by first | (simp [entryFrame, mkF, argsToLocals, Value.category]; done) | rfl) ?_
  intro p e s m below meth c s₁ X0 hx hZ hby hml hret hown0 hnm hlk e0
  have hown : s.vm.findClass "java/lang/String" = some m.cls := hown0
  have N0 := Fr.nil n0
  obtain ⟨S_CS, H_CS, S__assertionsDisabled, S_HI_BYTE_SHIFT, S_LO_BYTE_SHIFT, S_FMT, R_FMT⟩ := (id SB)
  have w7 := hw _ (List.mem_of_getElem? (i := 7) rfl)
  have w25 := hw _ (List.mem_of_getElem? (i := 25) rfl)
  have w62 := hw _ (List.mem_of_getElem? (i := 62) rfl)
  have w75 := hw _ (List.mem_of_getElem? (i := 75) rfl)
  have w76 := hw _ (List.mem_of_getElem? (i := 76) rfl)
  have w77 := hw _ (List.mem_of_getElem? (i := 77) rfl)
  have w78 := hw _ (List.mem_of_getElem? (i := 78) rfl)
  have w79 := hw _ (List.mem_of_getElem? (i := 79) rfl)
  have w80 := hw _ (List.mem_of_getElem? (i := 80) rfl)
  have w81 := hw _ (List.mem_of_getElem? (i := 81) rfl)
  have w82 := hw _ (List.mem_of_getElem? (i := 82) rfl)
  have w83 := hw _ (List.mem_of_getElem? (i := 83) rfl)
  have w111 := hw _ (List.mem_of_getElem? (i := 111) rfl)
  have w112 := hw _ (List.mem_of_getElem? (i := 112) rfl)
  have w113 := hw _ (List.mem_of_getElem? (i := 113) rfl)
  rcases pr4 with ⟨hs0, hs1, hs2, rfl, rfl, rfl⟩ | ⟨rfl, rfl, rfl⟩
  · refine o_aloadN X0 hx (hb hby d23_0) rfl rfl ?_
    obtain ⟨cq1, kq1, q1a, q1b, q1c⟩ := isOf hZ e0 pr0
    obtain ⟨_, _, ⟨T1, L1, kc1, n1⟩, -, X1, ⟨Lc1, hQ1, l1, y1, z1⟩, st1⟩ := X0.virtualBack hx (y := yM15) (z := yM15) hown (mvT hZ w75) (mvT hZ w76) (notFace_of_selects (args := #[]) (mvT hZ w78)) (mvT hZ w78) (mvT hZ w77) (by decide) (backOf (W := 0) (rm_isl1_0 l Z a0 hw [] z_CS v_FMT x_ h0 n0 SB O0 pr1) hZ w79 w7 (by decide) (by decide)) q1a q1c (g := (mkF m 1 #[.val (.ref x_), .val (.int (1 : Int32))] [(.ref x_)])) rfl (by rw [hml]; rfl) (Steps.refl _) (argsL := []) (rest := []) (lenOf own_pd14 rfl) rfl (by show 2 * 0 + _ ≤ _; exact Nat.le_of_eq rfl) (hb hby d23_1) (fun _ _ => ⟨rfl, e0, (by decide : 0 + 0 ≤ _), (by decide : 0 + 0 ≤ _)⟩)
    dsimp only [Pt.U, Pt.locs, Pt.cells, Pt.slots] at X1 l1 y1 z1 st1 hQ1
    subst l1 y1 z1
    obtain ⟨rfl, Nq1, e1⟩ := hQ1
    have N1 := Fr.app N0 Nq1
    refine otr (S' := T1.setTop (mkF m 4 #[.val (.ref x_), .val (.int (1 : Int32))] [(.int (1 : Int32))])) st1 ?_
    refine o_ifNo X1 hx (hb hby d23_4) (feq (by decide : ¬ ((1 : Int32) = (0 : Int32)))).1 ?_
    refine o_aloadN X1 hx (hb hby d23_7) rfl rfl ?_
    obtain ⟨T2, X2, e2, st2⟩ := getF X1 hx hZ hown (host := "") (Or.inl w25) Via.refl e1 pr2 (g := (mkF m 8 #[.val (.ref x_), .val (.int (1 : Int32))] [(.ref x_)])) rfl rfl (hb hby d23_8)
    refine ogo (S' := T2.setTop (mkF m 11 #[.val (.ref x_), .val (.int (1 : Int32))] [(.ref ba_)])) st2 ?_
    refine o_iloadN X2 hx (hb hby d23_11) rfl ?_
    obtain ⟨_, _, ⟨T3, L3, kc3, n3⟩, -, X3, ⟨Lc3, hQ3, l3, y3, z3⟩, st3⟩ := Jvm.LawKit.callS X2 hx (y := yM18) hown (mvT hZ w80) (mvT hZ w81) (mvT hZ w82) (mvT hZ w83) (by decide) (backOf (W := 0) (rm_l1c_3_1 l Z a0 hw [] z_CS v_FMT ba_ kb_ c0_ c1_ c2_ h0 n0 SB O0 pr3 (own_c16n pr5) hs1) hZ w83 w82 (by decide) (by decide)) (g := (mkF m 12 #[.val (.ref x_), .val (.int (1 : Int32))] [(.int (1 : Int32)), (.ref ba_)])) rfl (by rw [hml]; rfl) (argsL := [(.ref ba_), (.int (1 : Int32))]) (rest := []) (lenOf own_pd5 rfl) rfl (by show 2 * 0 + _ ≤ _; exact Nat.le_of_eq rfl) (hb hby d23_12) (fun _ _ => ⟨rfl, e2, (by decide : 0 + 0 ≤ _), (by decide : 0 + 0 ≤ _)⟩)
    dsimp only [Pt.U, Pt.locs, Pt.cells, Pt.slots] at X3 l3 y3 z3 st3 hQ3
    subst l3 y3 z3
    obtain ⟨rfl, Nq3, e3⟩ := hQ3
    have N3 := Fr.app N1 Nq3
    refine ogo (S' := T3.setTop (mkF m 15 #[.val (.ref x_), .val (.int (1 : Int32))] [(.int c1_)])) st3 ?_
    refine oend X3 hlk (v := some (.int c1_)) (fun h => by rw [hret] at h; cases h) (fun fs hr => retN X3 hx (t := .char) hret (by simp) (hb hby d23_15) (by rw [(own_nar16 pr5)]; exact hr)) (by decide) (by decide) ?_
    show own_Q_ecat_3_1 Z _ _ _ _ _ _ _ _ _ _ _ h0 n0 _ T3.heap _
    rw [e3]
    exact ⟨rfl, N3, rfl⟩
  · refine o_aloadN X0 hx (hb hby d23_0) rfl rfl ?_
    obtain ⟨cq4, kq4, q4a, q4b, q4c⟩ := isOf hZ e0 pr0
    obtain ⟨_, _, ⟨T4, L4, kc4, n4⟩, -, X4, ⟨Lc4, hQ4, l4, y4, z4⟩, st4⟩ := X0.virtualBack hx (y := yM15) (z := yM15) hown (mvT hZ w75) (mvT hZ w76) (notFace_of_selects (args := #[]) (mvT hZ w78)) (mvT hZ w78) (mvT hZ w77) (by decide) (backOf (W := 0) (rm_isl1_1 l Z a0 hw [] z_CS v_FMT x_ h0 n0 SB O0 pr1) hZ w79 w7 (by decide) (by decide)) q4a q4c (g := (mkF m 1 #[.val (.ref x_), .val (.int (1 : Int32))] [(.ref x_)])) rfl (by rw [hml]; rfl) (Steps.refl _) (argsL := []) (rest := []) (lenOf own_pd14 rfl) rfl (by show 2 * 0 + _ ≤ _; exact Nat.le_of_eq rfl) (hb hby d23_1) (fun _ _ => ⟨rfl, e0, (by decide : 0 + 0 ≤ _), (by decide : 0 + 0 ≤ _)⟩)
    dsimp only [Pt.U, Pt.locs, Pt.cells, Pt.slots] at X4 l4 y4 z4 st4 hQ4
    subst l4 y4 z4
    obtain ⟨rfl, Nq4, e4⟩ := hQ4
    have N4 := Fr.app N0 Nq4
    refine otr (S' := T4.setTop (mkF m 4 #[.val (.ref x_), .val (.int (1 : Int32))] [(.int (0 : Int32))])) st4 ?_
    refine o_ifYes X4 hx 16 (hb hby d23_4) (teq (by decide : (0 : Int32) = (0 : Int32))).1 (by decide) (by decide) ?_
    refine o_aloadN X4 hx (hb hby d23_16) rfl rfl ?_
    obtain ⟨T5, X5, e5, st5⟩ := getF X4 hx hZ hown (host := "") (Or.inl w25) Via.refl e4 pr2 (g := (mkF m 17 #[.val (.ref x_), .val (.int (1 : Int32))] [(.ref x_)])) rfl rfl (hb hby d23_17)
    refine ogo (S' := T5.setTop (mkF m 20 #[.val (.ref x_), .val (.int (1 : Int32))] [(.ref ba_)])) st5 ?_
    refine o_iloadN X5 hx (hb hby d23_20) rfl ?_
    obtain ⟨_, _, ⟨T6, L6, kc6, n6⟩, -, X6, ⟨Lc6, hQ6, l6, y6, z6⟩, st6⟩ := Jvm.LawKit.callS X5 hx (y := yM21) hown (mvT hZ w111) (mvT hZ w112) (mvT hZ w62) (mvT hZ w113) (by decide) (backOf (W := 0) (rm_u16cat_3_1 l Z a0 hw [] z_CS v_FMT ba_ kb_ c0_ c1_ c2_ h0 n0 SB O0 pr3 pr5) hZ w113 w62 (by decide) (by decide)) (g := (mkF m 21 #[.val (.ref x_), .val (.int (1 : Int32))] [(.int (1 : Int32)), (.ref ba_)])) rfl (by rw [hml]; rfl) (argsL := [(.ref ba_), (.int (1 : Int32))]) (rest := []) (lenOf own_pd5 rfl) rfl (by show 2 * 0 + _ ≤ _; exact Nat.le_of_eq rfl) (hb hby d23_21) (fun _ _ => ⟨rfl, e5, (by decide : 0 + 0 ≤ _), (by decide : 0 + 0 ≤ _)⟩)
    dsimp only [Pt.U, Pt.locs, Pt.cells, Pt.slots] at X6 l6 y6 z6 st6 hQ6
    subst l6 y6 z6
    obtain ⟨rfl, Nq6, e6⟩ := hQ6
    have N6 := Fr.app N4 Nq6
    refine ogo (S' := T6.setTop (mkF m 24 #[.val (.ref x_), .val (.int (1 : Int32))] [(.int c1_)])) st6 ?_
    refine oend X6 hlk (v := some (.int c1_)) (fun h => by rw [hret] at h; cases h) (fun fs hr => retN X6 hx (t := .char) hret (by simp) (hb hby d23_24) (by rw [(own_nar16 pr5)]; exact hr)) (by decide) (by decide) ?_
    show own_Q_ecat_3_1 Z _ _ _ _ _ _ _ _ _ _ _ h0 n0 _ T6.heap _
    rw [e6]
    exact ⟨rfl, N6, rfl⟩
def own_Q_skipT_3_1 (Z : State) (z_CS : Int32) (v_FMT : Value) (t_ : Addr) (x_ : Addr) (ba_ : Addr) (kb_ : ClassId) (cd_ : Int32) (z_ : Int32) (vs_ : List Value) (c0_ : Int32) (c1_ : Int32) (c2_ : Int32) (u_ : Int32) (h0 : Heap) (n0 : Nat) (v : Option Value) (h : Heap) (L : List Loc) : Prop := (v = some (.int (1 : Int32))) ∧ (Fr n0 L) ∧ (Keep h0 h [t_]) ∧ (Exa Z h t_ "com/example/rowfold/rowfold/Literal") ∧ (Fld Z h t_ "com/example/rowfold/rowfold/Literal" "text" "Ljava/lang/String;" (.ref x_)) ∧ (Fld Z h t_ "com/example/rowfold/rowfold/Literal" "at" "I" (.int (2 : Int32)))
set_option maxRecDepth 65536 in
set_option maxHeartbeats 40000000 in
theorem rm_skipT_3_1 (l : Launch) (Z : State) (a0 : Array Value) (hw : ∀ d ∈ tables_1, d.before a0 Z = true) (ws : List Jvm.Cond) (z_CS : Int32) (v_FMT : Value) (t_ : Addr) (x_ : Addr) (ba_ : Addr) (kb_ : ClassId) (cd_ : Int32) (z_ : Int32) (vs_ : List Value) (c0_ : Int32) (c1_ : Int32) (c2_ : Int32) (u_ : Int32) (h0 : Heap) (n0 : Nat) (SB : own_Start Z z_CS v_FMT) (O0 : Old Z n0 h0) (pr0 : Exa Z h0 t_ "com/example/rowfold/rowfold/Literal") (pr1 : Fld Z h0 t_ "com/example/rowfold/rowfold/Literal" "text" "Ljava/lang/String;" (.ref x_)) (pr2 : Fld Z h0 t_ "com/example/rowfold/rowfold/Literal" "at" "I" (.int (1 : Int32))) (pr3 : Exa Z h0 x_ "java/lang/String") (pr4 : Fld Z h0 x_ "java/lang/String" "coder" "B" (.int cd_)) (pr5 : Fld Z h0 x_ "java/lang/String" "value" "[B" (.ref ba_)) (pr6 : Arv Z h0 ba_ kb_ .byte z_ vs_ (.int 0)) (pr7 : own_enc3 c0_ c1_ c2_ cd_ z_ vs_) (pr8 : own_c16 c1_) (pr9 : c1_ = u_) (pr10 : n0 ≤ t_) :
    oMet l Z yM13 prog_8_method_4_code 3 (some .boolean) ws ({ frames := 5, cells := 0, slots := 0, locals := 66 } : Room) 0 0 #[(.ref t_), (.int u_)] h0 (own_Q_skipT_3_1 Z z_CS v_FMT t_ x_ ba_ kb_ cd_ z_ vs_ c0_ c1_ c2_ u_ h0 n0) := by
  refine oenter own_pn0 #[.val (.ref t_), .val (.int u_), .unset] (fun m => by first | (simp [entryFrame, mkF, argsToLocals, Value.category]; done) | rfl) ?_
  intro p e s m below meth c s₁ X0 hx hZ hby hml hret hown0 hnm hlk e0
  have hown : s.vm.findClass "com/example/rowfold/rowfold/Literal" = some m.cls := hown0
  have N0 := Fr.nil n0
  obtain ⟨S_CS, H_CS, S__assertionsDisabled, S_HI_BYTE_SHIFT, S_LO_BYTE_SHIFT, S_FMT, R_FMT⟩ := (id SB)
  have w7 := hw _ (List.mem_of_getElem? (i := 7) rfl)
  have w28 := hw _ (List.mem_of_getElem? (i := 28) rfl)
  have w29 := hw _ (List.mem_of_getElem? (i := 29) rfl)
  have w30 := hw _ (List.mem_of_getElem? (i := 30) rfl)
  have w31 := hw _ (List.mem_of_getElem? (i := 31) rfl)
  have w39 := hw _ (List.mem_of_getElem? (i := 39) rfl)
  have w45 := hw _ (List.mem_of_getElem? (i := 45) rfl)
  have w46 := hw _ (List.mem_of_getElem? (i := 46) rfl)
  have w52 := hw _ (List.mem_of_getElem? (i := 52) rfl)
  have w53 := hw _ (List.mem_of_getElem? (i := 53) rfl)
  have w54 := hw _ (List.mem_of_getElem? (i := 54) rfl)
  have w70 := hw _ (List.mem_of_getElem? (i := 70) rfl)
  have w71 := hw _ (List.mem_of_getElem? (i := 71) rfl)
  have w72 := hw _ (List.mem_of_getElem? (i := 72) rfl)
  have w73 := hw _ (List.mem_of_getElem? (i := 73) rfl)
  have w74 := hw _ (List.mem_of_getElem? (i := 74) rfl)
  refine o_aloadN X0 hx (hb hby d14_0) rfl rfl ?_
  obtain ⟨T1, X1, e1, st1⟩ := getF X0 hx hZ hown (host := "") (Or.inl w52) Via.refl e0 pr2 (g := (mkF m 1 #[.val (.ref t_), .val (.int u_), .unset] [(.ref t_)])) rfl rfl (hb hby d14_1)
  refine ogo (S' := T1.setTop (mkF m 4 #[.val (.ref t_), .val (.int u_), .unset] [(.int (1 : Int32))])) st1 ?_
  refine o_aloadN X1 hx (hb hby d14_4) rfl rfl ?_
  obtain ⟨T2, X2, e2, st2⟩ := getF X1 hx hZ hown (host := "") (Or.inl w45) Via.refl e1 pr1 (g := (mkF m 5 #[.val (.ref t_), .val (.int u_), .unset] [(.ref t_), (.int (1 : Int32))])) rfl rfl (hb hby d14_5)
  refine ogo (S' := T2.setTop (mkF m 8 #[.val (.ref t_), .val (.int u_), .unset] [(.ref x_), (.int (1 : Int32))])) st2 ?_
  obtain ⟨cq3, kq3, q3a, q3b, q3c⟩ := isOf hZ e2 pr3
  obtain ⟨_, _, ⟨T3, L3, kc3, n3⟩, -, X3, ⟨Lc3, hQ3, l3, y3, z3⟩, st3⟩ := X2.virtualBack hx (y := yM12) (z := yM12) hown (mvT hZ w54) (mvT hZ w28) (notFace_of_selects (args := #[]) (mvT hZ w30)) (mvT hZ w30) (mvT hZ w29) (by decide) (backOf (W := 1) (rm_elen_3 l Z a0 hw [] z_CS v_FMT x_ ba_ kb_ cd_ z_ vs_ c0_ c1_ c2_ h0 n0 SB O0 pr3 pr4 pr5 pr6 pr7) hZ w31 w7 (by decide) (by decide)) q3a q3c (g := (mkF m 8 #[.val (.ref t_), .val (.int u_), .unset] [(.ref x_), (.int (1 : Int32))])) rfl (by rw [hml]; rfl) (Steps.refl _) (argsL := []) (rest := [(.int (1 : Int32))]) (lenOf own_pd9 rfl) rfl (by show 2 * 0 + _ ≤ _; exact Nat.le_of_eq rfl) (hb hby d14_8) (fun _ _ => ⟨rfl, e2, (by decide : 0 + 0 ≤ _), (by decide : 0 + 0 ≤ _)⟩)
  dsimp only [Pt.U, Pt.locs, Pt.cells, Pt.slots] at X3 l3 y3 z3 st3 hQ3
  subst l3 y3 z3
  obtain ⟨rfl, Nq3, e3⟩ := hQ3
  have N3 := Fr.app N0 Nq3
  refine otr (S' := T3.setTop (mkF m 11 #[.val (.ref t_), .val (.int u_), .unset] [(.int (3 : Int32)), (.int (1 : Int32))])) st3 ?_
  refine o_icmpNo X3 hx (hb hby d14_11) (tlt (by decide : (1 : Int32) < (3 : Int32))).2.1 ?_
  refine o_aloadN X3 hx (hb hby d14_14) rfl rfl ?_
  obtain ⟨T4, X4, e4, st4⟩ := getF X3 hx hZ hown (host := "") (Or.inl w45) Via.refl e3 pr1 (g := (mkF m 15 #[.val (.ref t_), .val (.int u_), .unset] [(.ref t_)])) rfl rfl (hb hby d14_15)
  refine ogo (S' := T4.setTop (mkF m 18 #[.val (.ref t_), .val (.int u_), .unset] [(.ref x_)])) st4 ?_
  refine o_aloadN X4 hx (hb hby d14_18) rfl rfl ?_
  obtain ⟨T5, X5, e5, st5⟩ := getF X4 hx hZ hown (host := "") (Or.inl w52) Via.refl e4 pr2 (g := (mkF m 19 #[.val (.ref t_), .val (.int u_), .unset] [(.ref t_), (.ref x_)])) rfl rfl (hb hby d14_19)
  refine ogo (S' := T5.setTop (mkF m 22 #[.val (.ref t_), .val (.int u_), .unset] [(.int (1 : Int32)), (.ref x_)])) st5 ?_
  obtain ⟨cq6, kq6, q6a, q6b, q6c⟩ := isOf hZ e5 pr3
  obtain ⟨_, _, ⟨T6, L6, kc6, n6⟩, -, X6, ⟨Lc6, hQ6, l6, y6, z6⟩, st6⟩ := X5.virtualBack hx (y := yM22) (z := yM22) hown (mvT hZ w70) (mvT hZ w71) (notFace_of_selects (args := #[]) (mvT hZ w73)) (mvT hZ w73) (mvT hZ w72) (by decide) (backOf (W := 0) (rm_ecat_3_1 l Z a0 hw [] z_CS v_FMT x_ ba_ kb_ cd_ z_ vs_ c0_ c1_ c2_ h0 n0 SB O0 pr3 pr4 pr5 pr6 pr7 pr8) hZ w74 w7 (by decide) (by decide)) q6a q6c (g := (mkF m 22 #[.val (.ref t_), .val (.int u_), .unset] [(.int (1 : Int32)), (.ref x_)])) rfl (by rw [hml]; rfl) (Steps.refl _) (argsL := [(.int (1 : Int32))]) (rest := []) (lenOf own_pd15 rfl) rfl (by show 2 * 0 + _ ≤ _; exact Nat.le_of_eq rfl) (hb hby d14_22) (fun _ _ => ⟨rfl, e5, (by decide : 0 + 0 ≤ _), (by decide : 0 + 0 ≤ _)⟩)
  dsimp only [Pt.U, Pt.locs, Pt.cells, Pt.slots] at X6 l6 y6 z6 st6 hQ6
  subst l6 y6 z6
  obtain ⟨rfl, Nq6, e6⟩ := hQ6
  have N6 := Fr.app N3 Nq6
  refine otr (S' := T6.setTop (mkF m 25 #[.val (.ref t_), .val (.int u_), .unset] [(.int c1_)])) st6 ?_
  refine o_iloadN X6 hx (hb hby d14_25) rfl ?_
  refine o_icmpNo X6 hx (hb hby d14_26) (teq pr9).2 ?_
  refine o_iconst X6 hx (1 : Int32) (hb hby d14_29) rfl ?_
  refine o_goto X6 hx 34 (hb hby d14_30) (by decide) (by decide) ?_
  refine o_istoreN X6 hx (l' := #[.val (.ref t_), .val (.int u_), .val (.int (1 : Int32))]) (hb hby d14_34) rfl ?_
  refine o_iloadN X6 hx (hb hby d14_35) rfl ?_
  refine o_ifNo X6 hx (hb hby d14_36) (feq (by decide : ¬ ((1 : Int32) = (0 : Int32)))).1 ?_
  refine o_aloadN X6 hx (hb hby d14_39) rfl rfl ?_
  refine o_dup X6 hx (hb hby d14_40) rfl ?_
  obtain ⟨T7, X7, e7, st7⟩ := getF X6 hx hZ hown (host := "") (Or.inl w52) Via.refl e6 pr2 (g := (mkF m 41 #[.val (.ref t_), .val (.int u_), .val (.int (1 : Int32))] [(.ref t_), (.ref t_)])) rfl rfl (hb hby d14_41)
  refine ogo (S' := T7.setTop (mkF m 44 #[.val (.ref t_), .val (.int u_), .val (.int (1 : Int32))] [(.int (1 : Int32)), (.ref t_)])) st7 ?_
  refine o_iconst X7 hx (1 : Int32) (hb hby d14_44) rfl ?_
  refine o_iadd X7 hx (hb hby d14_45) ?_
  obtain ⟨T8, _, X8, rfl, W8, st8⟩ := putF X7 hx hZ hown (host := "") (Or.inl w52) Via.refl e7 pr2 pr0 (Or.inl w53) w39 (ty := .int) (by decide) rfl rfl (g := (mkF m 46 #[.val (.ref t_), .val (.int u_), .val (.int (1 : Int32))] [(.int (2 : Int32)), (.ref t_)])) rfl rfl (hb hby d14_46)
  have N8 := Fr.snoc X8 N6 pr10
  have F8 := Fld.same W8 pr2
  refine ogo (S' := T8.setTop (mkF m 49 #[.val (.ref t_), .val (.int u_), .val (.int (1 : Int32))] [])) st8 ?_
  refine o_iloadN X8 hx (hb hby d14_49) rfl ?_
  have c9 := (Fld.other W8 pr1 (Or.inr (slot_ne (Or.inr w46) (Or.inl w53) (by decide) (t := (.object "java/lang/String")) (t' := .int) (by decide) (by decide))))
  refine oend X8 hlk (v := some (.int (1 : Int32))) (fun h => by rw [hret] at h; cases h) (fun fs hr => retN X8 hx (t := .boolean) hret (by simp) (hb hby d14_50) hr) (by decide) (by decide) ?_
  show own_Q_skipT_3_1 Z _ _ _ _ _ _ _ _ _ _ _ _ _ h0 n0 _ T8.heap _
  exact ⟨rfl, N8, ((Keep.refl h0 [t_]).wr W8 (Or.inl (List.mem_of_getElem? (i := 0) rfl))), (Exa.wr W8 pr0), c9, F8⟩
def own_Q_l1c_3_2 (Z : State) (z_CS : Int32) (v_FMT : Value) (ba_ : Addr) (kb_ : ClassId) (c0_ : Int32) (c1_ : Int32) (c2_ : Int32) (h0 : Heap) (n0 : Nat) (v : Option Value) (h : Heap) (L : List Loc) : Prop := (v = some (.int c2_)) ∧ (Fr n0 L) ∧ (h = h0)
set_option maxRecDepth 65536 in
set_option maxHeartbeats 40000000 in
theorem rm_l1c_3_2 (l : Launch) (Z : State) (a0 : Array Value) (hw : ∀ d ∈ tables_1, d.before a0 Z = true) (ws : List Jvm.Cond) (z_CS : Int32) (v_FMT : Value) (ba_ : Addr) (kb_ : ClassId) (c0_ : Int32) (c1_ : Int32) (c2_ : Int32) (h0 : Heap) (n0 : Nat) (SB : own_Start Z z_CS v_FMT) (O0 : Old Z n0 h0) (pr0 : Arv Z h0 ba_ kb_ .byte (3 : Int32) [(.int c0_.toInt8.toInt32), (.int c1_.toInt8.toInt32), (.int c2_.toInt8.toInt32)] (.int 0)) (pr1 : ¬ (c2_ < (0 : Int32))) (pr2 : ¬ ((255 : Int32) < c2_)) :
    oMet l Z yM18 jdk_43_method_2_code 2 (some .char) ws ({ frames := 2, cells := 0, slots := 0, locals := 27 } : Room) 0 0 #[(.ref ba_), (.int (2 : Int32))] h0 (own_Q_l1c_3_2 Z z_CS v_FMT ba_ kb_ c0_ c1_ c2_ h0 n0) := by
  refine oenter own_pn4 #[.val (.ref ba_), .val (.int (2 : Int32))] (fun m => by first | (simp [entryFrame, mkF, argsToLocals, Value.category]; done) | rfl) ?_
  intro p e s m below meth c s₁ X0 hx hZ hby hml hret hown0 hnm hlk e0
  have hown : s.vm.findClass "java/lang/StringLatin1" = some m.cls := hown0
  have N0 := Fr.nil n0
  obtain ⟨S_CS, H_CS, S__assertionsDisabled, S_HI_BYTE_SHIFT, S_LO_BYTE_SHIFT, S_FMT, R_FMT⟩ := (id SB)
  have w7 := hw _ (List.mem_of_getElem? (i := 7) rfl)
  have w84 := hw _ (List.mem_of_getElem? (i := 84) rfl)
  have w85 := hw _ (List.mem_of_getElem? (i := 85) rfl)
  have w86 := hw _ (List.mem_of_getElem? (i := 86) rfl)
  refine o_iloadN X0 hx (hb hby d19_0) rfl ?_
  refine o_aloadN X0 hx (hb hby d19_1) rfl rfl ?_
  obtain ⟨cl1, Ar1, -, S1, N1z, -, -⟩ := (id pr0)
  refine ogo (S' := s₁.setTop (mkF m 3 #[.val (.ref ba_), .val (.int (2 : Int32))] [(.int (3 : Int32)), (.int (2 : Int32))])) (fun _ kt_ => X0.arraylength hx (by rw [e0]; exact Ar1.1) (State.isArrayOf_alike hZ.alike Ar1.2.1) (g := (mkF m 2 #[.val (.ref ba_), .val (.int (2 : Int32))] [(.ref ba_), (.int (2 : Int32))])) rfl rfl (hb hby d19_2) _ (by rw [len_of S1 N1z]; exact kt_)) ?_
  obtain ⟨_, _, ⟨T2, L2, kc2, n2⟩, -, X2, ⟨Lc2, hQ2, l2, y2, z2⟩, st2⟩ := Jvm.LawKit.callS X0 hx (y := yM17) hown (mvT hZ w84) (mvT hZ w85) (mvT hZ w7) (mvT hZ w86) (by decide) (backOf (W := 0) (rm_sci l Z a0 hw [] z_CS v_FMT (2 : Int32) (3 : Int32) h0 n0 SB O0 (by decide) (by decide)) hZ w86 w7 (by decide) (by decide)) (g := (mkF m 3 #[.val (.ref ba_), .val (.int (2 : Int32))] [(.int (3 : Int32)), (.int (2 : Int32))])) rfl (by rw [hml]; rfl) (argsL := [(.int (2 : Int32)), (.int (3 : Int32))]) (rest := []) (lenOf own_pd11 rfl) rfl (by show 2 * 0 + _ ≤ _; exact Nat.le_of_eq rfl) (hb hby d19_3) (fun _ _ => ⟨rfl, e0, (by decide : 0 + 0 ≤ _), (by decide : 0 + 0 ≤ _)⟩)
  dsimp only [Pt.U, Pt.locs, Pt.cells, Pt.slots] at X2 l2 y2 z2 st2 hQ2
  subst l2 y2 z2
  obtain ⟨rfl, Nq2, e2⟩ := hQ2
  have N2 := Fr.app N0 Nq2
  refine ogo (S' := T2.setTop (mkF m 6 #[.val (.ref ba_), .val (.int (2 : Int32))] [])) st2 ?_
  refine o_aloadN X2 hx (hb hby d19_6) rfl rfl ?_
  refine o_iloadN X2 hx (hb hby d19_7) rfl ?_
  obtain ⟨cl3, Ar3, q3, S3, N3z, H3, G3⟩ := (id pr0)
  have hi3 := inb_of (j := (2 : Int32)) S3 ⟨by decide, by decide⟩
  have ha3 := Has.at (v := (.int c2_.toInt8.toInt32)) H3 hi3 rfl
  refine ogo (S' := T2.setTop (mkF m 9 #[.val (.ref ba_), .val (.int (2 : Int32))] [(.int c2_.toInt8.toInt32)])) (X2.baloadBytes hx (j := (2 : Int32)) (v := (.int c2_.toInt8.toInt32)) (by rw [e2]; exact Ar3.1) (State.isArrayOf_alike hZ.alike Ar3.2.1) Ar3.2.2 hi3 ha3 (g := (mkF m 8 #[.val (.ref ba_), .val (.int (2 : Int32))] [(.int (2 : Int32)), (.ref ba_)])) rfl rfl (hb hby d19_8)) ?_
  refine o_sipush X2 hx (255 : Int32) (hb hby d19_9) rfl ?_
  refine o_iand X2 hx (hb hby d19_12) ?_
  refine o_i2c X2 hx (hb hby d19_13) ?_
  rw [own_char pr1 pr2]
  refine oend X2 hlk (v := some (.int c2_)) (fun h => by rw [hret] at h; cases h) (fun fs hr => retN X2 hx (t := .char) hret (by simp) (hb hby d19_14) (by rw [(own_narsm pr1 pr2)]; exact hr)) (by decide) (by decide) ?_
  show own_Q_l1c_3_2 Z _ _ _ _ _ _ _ h0 n0 _ T2.heap _
  rw [e2]
  exact ⟨rfl, N2, rfl⟩
def own_Q_u16ci_3_2 (Z : State) (z_CS : Int32) (v_FMT : Value) (ba_ : Addr) (kb_ : ClassId) (vs_ : List Value) (h0 : Heap) (n0 : Nat) (v : Option Value) (h : Heap) (L : List Loc) : Prop := (v = none) ∧ (Fr n0 L) ∧ (h = h0)
set_option maxRecDepth 65536 in
set_option maxHeartbeats 40000000 in
theorem rm_u16ci_3_2 (l : Launch) (Z : State) (a0 : Array Value) (hw : ∀ d ∈ tables_1, d.before a0 Z = true) (ws : List Jvm.Cond) (z_CS : Int32) (v_FMT : Value) (ba_ : Addr) (kb_ : ClassId) (vs_ : List Value) (h0 : Heap) (n0 : Nat) (SB : own_Start Z z_CS v_FMT) (O0 : Old Z n0 h0) (pr0 : Arv Z h0 ba_ kb_ .byte (6 : Int32) vs_ (.int 0)) :
    oMet l Z yM20 jdk_52_method_91_code 2 none ws ({ frames := 2, cells := 0, slots := 0, locals := 27 } : Room) 0 0 #[(.int (2 : Int32)), (.ref ba_)] h0 (own_Q_u16ci_3_2 Z z_CS v_FMT ba_ kb_ vs_ h0 n0) := by
  refine oenter own_pn1 #[.val (.int (2 : Int32)), .val (.ref ba_)] (fun m => by first | (simp [entryFrame, mkF, argsToLocals, Value.category]; done) | rfl) ?_
  intro p e s m below meth c s₁ X0 hx hZ hby hml hret hown0 hnm hlk e0
  have hown : s.vm.findClass "java/lang/StringUTF16" = some m.cls := hown0
  have N0 := Fr.nil n0
  obtain ⟨S_CS, H_CS, S__assertionsDisabled, S_HI_BYTE_SHIFT, S_LO_BYTE_SHIFT, S_FMT, R_FMT⟩ := (id SB)
  have w7 := hw _ (List.mem_of_getElem? (i := 7) rfl)
  have w62 := hw _ (List.mem_of_getElem? (i := 62) rfl)
  have w85 := hw _ (List.mem_of_getElem? (i := 85) rfl)
  have w86 := hw _ (List.mem_of_getElem? (i := 86) rfl)
  have w117 := hw _ (List.mem_of_getElem? (i := 117) rfl)
  have w118 := hw _ (List.mem_of_getElem? (i := 118) rfl)
  have w119 := hw _ (List.mem_of_getElem? (i := 119) rfl)
  have w120 := hw _ (List.mem_of_getElem? (i := 120) rfl)
  refine o_iloadN X0 hx (hb hby d21_0) rfl ?_
  refine o_aloadN X0 hx (hb hby d21_1) rfl rfl ?_
  obtain ⟨_, _, ⟨T1, L1, kc1, n1⟩, -, X1, ⟨Lc1, hQ1, l1, y1, z1⟩, st1⟩ := Jvm.LawKit.callS X0 hx (y := yM19) hown (mvT hZ w117) (mvT hZ w118) (mvT hZ w62) (mvT hZ w119) (by decide) (backOf (W := 1) (rm_u16len_3 l Z a0 hw []  ba_ kb_ vs_ h0 n0 O0 pr0) hZ w119 w62 (by decide) (by decide)) (g := (mkF m 2 #[.val (.int (2 : Int32)), .val (.ref ba_)] [(.ref ba_), (.int (2 : Int32))])) rfl (by rw [hml]; rfl) (argsL := [(.ref ba_)]) (rest := [(.int (2 : Int32))]) (lenOf own_pd12 rfl) rfl (by show 2 * 0 + _ ≤ _; exact Nat.le_of_eq rfl) (hb hby d21_2) (fun _ _ => ⟨rfl, e0, (by decide : 0 + 0 ≤ _), (by decide : 0 + 0 ≤ _)⟩)
  dsimp only [Pt.U, Pt.locs, Pt.cells, Pt.slots] at X1 l1 y1 z1 st1 hQ1
  subst l1 y1 z1
  obtain ⟨rfl, Nq1, e1⟩ := hQ1
  have N1 := Fr.app N0 Nq1
  refine ogo (S' := T1.setTop (mkF m 5 #[.val (.int (2 : Int32)), .val (.ref ba_)] [(.int (3 : Int32)), (.int (2 : Int32))])) st1 ?_
  obtain ⟨_, _, ⟨T2, L2, kc2, n2⟩, -, X2, ⟨Lc2, hQ2, l2, y2, z2⟩, st2⟩ := Jvm.LawKit.callS X1 hx (y := yM17) hown (mvT hZ w120) (mvT hZ w85) (mvT hZ w7) (mvT hZ w86) (by decide) (backOf (W := 0) (rm_sci l Z a0 hw [] z_CS v_FMT (2 : Int32) (3 : Int32) h0 n0 SB O0 (by decide) (by decide)) hZ w86 w7 (by decide) (by decide)) (g := (mkF m 5 #[.val (.int (2 : Int32)), .val (.ref ba_)] [(.int (3 : Int32)), (.int (2 : Int32))])) rfl (by rw [hml]; rfl) (argsL := [(.int (2 : Int32)), (.int (3 : Int32))]) (rest := []) (lenOf own_pd11 rfl) rfl (by show 2 * 0 + _ ≤ _; exact Nat.le_of_eq rfl) (hb hby d21_5) (fun _ _ => ⟨rfl, e1, (by decide : 0 + 0 ≤ _), (by decide : 0 + 0 ≤ _)⟩)
  dsimp only [Pt.U, Pt.locs, Pt.cells, Pt.slots] at X2 l2 y2 z2 st2 hQ2
  subst l2 y2 z2
  obtain ⟨rfl, Nq2, e2⟩ := hQ2
  have N2 := Fr.app N1 Nq2
  refine ogo (S' := T2.setTop (mkF m 8 #[.val (.int (2 : Int32)), .val (.ref ba_)] [])) st2 ?_
  refine oend X2 hlk (v := none) (fun _ => rfl) (fun fs hr => X2.returnOut hx hret (hb hby d21_8) hr) (by decide) (by decide) ?_
  show own_Q_u16ci_3_2 Z _ _ _ _ _ h0 n0 _ T2.heap _
  rw [e2]
  exact ⟨rfl, N2, rfl⟩
def own_Q_u16cat_3_2 (Z : State) (z_CS : Int32) (v_FMT : Value) (ba_ : Addr) (kb_ : ClassId) (c0_ : Int32) (c1_ : Int32) (c2_ : Int32) (h0 : Heap) (n0 : Nat) (v : Option Value) (h : Heap) (L : List Loc) : Prop := (v = some (.int c2_)) ∧ (Fr n0 L) ∧ (h = h0)
set_option maxRecDepth 65536 in
set_option maxHeartbeats 40000000 in
theorem rm_u16cat_3_2 (l : Launch) (Z : State) (a0 : Array Value) (hw : ∀ d ∈ tables_1, d.before a0 Z = true) (ws : List Jvm.Cond) (z_CS : Int32) (v_FMT : Value) (ba_ : Addr) (kb_ : ClassId) (c0_ : Int32) (c1_ : Int32) (c2_ : Int32) (h0 : Heap) (n0 : Nat) (SB : own_Start Z z_CS v_FMT) (O0 : Old Z n0 h0) (pr0 : Arv Z h0 ba_ kb_ .byte (6 : Int32) [(.int (c0_ >>> ((0 : Int32) &&& 31)).toInt8.toInt32), (.int (c0_ >>> ((8 : Int32) &&& 31)).toInt8.toInt32), (.int (c1_ >>> ((0 : Int32) &&& 31)).toInt8.toInt32), (.int (c1_ >>> ((8 : Int32) &&& 31)).toInt8.toInt32), (.int (c2_ >>> ((0 : Int32) &&& 31)).toInt8.toInt32), (.int (c2_ >>> ((8 : Int32) &&& 31)).toInt8.toInt32)] (.int 0)) (pr1 : own_c16 c2_) :
    oMet l Z yM21 jdk_52_method_83_code 2 (some .char) ws ({ frames := 3, cells := 0, slots := 0, locals := 40 } : Room) 0 0 #[(.ref ba_), (.int (2 : Int32))] h0 (own_Q_u16cat_3_2 Z z_CS v_FMT ba_ kb_ c0_ c1_ c2_ h0 n0) := by
  refine oenter own_pn1 #[.val (.ref ba_), .val (.int (2 : Int32))] (fun m => by first | (simp [entryFrame, mkF, argsToLocals, Value.category]; done) | rfl) ?_
  intro p e s m below meth c s₁ X0 hx hZ hby hml hret hown0 hnm hlk e0
  have hown : s.vm.findClass "java/lang/StringUTF16" = some m.cls := hown0
  have N0 := Fr.nil n0
  obtain ⟨S_CS, H_CS, S__assertionsDisabled, S_HI_BYTE_SHIFT, S_LO_BYTE_SHIFT, S_FMT, R_FMT⟩ := (id SB)
  have w62 := hw _ (List.mem_of_getElem? (i := 62) rfl)
  have w108 := hw _ (List.mem_of_getElem? (i := 108) rfl)
  have w109 := hw _ (List.mem_of_getElem? (i := 109) rfl)
  have w110 := hw _ (List.mem_of_getElem? (i := 110) rfl)
  have w114 := hw _ (List.mem_of_getElem? (i := 114) rfl)
  have w115 := hw _ (List.mem_of_getElem? (i := 115) rfl)
  have w116 := hw _ (List.mem_of_getElem? (i := 116) rfl)
  refine o_iloadN X0 hx (hb hby d22_0) rfl ?_
  refine o_aloadN X0 hx (hb hby d22_1) rfl rfl ?_
  obtain ⟨_, _, ⟨T1, L1, kc1, n1⟩, -, X1, ⟨Lc1, hQ1, l1, y1, z1⟩, st1⟩ := Jvm.LawKit.callS X0 hx (y := yM20) hown (mvT hZ w114) (mvT hZ w115) (mvT hZ w62) (mvT hZ w116) (by decide) (backOf (W := 0) (rm_u16ci_3_2 l Z a0 hw [] z_CS v_FMT ba_ kb_ [(.int (c0_ >>> ((0 : Int32) &&& 31)).toInt8.toInt32), (.int (c0_ >>> ((8 : Int32) &&& 31)).toInt8.toInt32), (.int (c1_ >>> ((0 : Int32) &&& 31)).toInt8.toInt32), (.int (c1_ >>> ((8 : Int32) &&& 31)).toInt8.toInt32), (.int (c2_ >>> ((0 : Int32) &&& 31)).toInt8.toInt32), (.int (c2_ >>> ((8 : Int32) &&& 31)).toInt8.toInt32)] h0 n0 SB O0 pr0) hZ w116 w62 (by decide) (by decide)) (g := (mkF m 2 #[.val (.ref ba_), .val (.int (2 : Int32))] [(.ref ba_), (.int (2 : Int32))])) rfl (by rw [hml]; rfl) (argsL := [(.int (2 : Int32)), (.ref ba_)]) (rest := []) (lenOf own_pd13 rfl) rfl (by show 2 * 0 + _ ≤ _; exact Nat.le_of_eq rfl) (hb hby d22_2) (fun _ _ => ⟨rfl, e0, (by decide : 0 + 0 ≤ _), (by decide : 0 + 0 ≤ _)⟩)
  dsimp only [Pt.U, Pt.locs, Pt.cells, Pt.slots] at X1 l1 y1 z1 st1 hQ1
  subst l1 y1 z1
  obtain ⟨rfl, Nq1, e1⟩ := hQ1
  have N1 := Fr.app N0 Nq1
  refine ogo (S' := T1.setTop (mkF m 5 #[.val (.ref ba_), .val (.int (2 : Int32))] [])) st1 ?_
  refine o_aloadN X1 hx (hb hby d22_5) rfl rfl ?_
  refine o_iloadN X1 hx (hb hby d22_6) rfl ?_
  obtain ⟨_, _, ⟨T2, L2, kc2, n2⟩, -, X2, ⟨Lc2, hQ2, l2, y2, z2⟩, st2⟩ := Jvm.LawKit.callS X1 hx (y := yM8) hown (mvT hZ w108) (mvT hZ w109) (mvT hZ w62) (mvT hZ w110) (by decide) (backOf (W := 0) (rm_getch_3_2 l Z a0 hw [] z_CS v_FMT ba_ kb_ c0_ c1_ c2_ h0 n0 SB O0 pr0 pr1) hZ w110 w62 (by decide) (by decide)) (g := (mkF m 7 #[.val (.ref ba_), .val (.int (2 : Int32))] [(.int (2 : Int32)), (.ref ba_)])) rfl (by rw [hml]; rfl) (argsL := [(.ref ba_), (.int (2 : Int32))]) (rest := []) (lenOf own_pd5 rfl) rfl (by show 2 * 0 + _ ≤ _; exact Nat.le_of_eq rfl) (hb hby d22_7) (fun _ _ => ⟨rfl, e1, (by decide : 0 + 0 ≤ _), (by decide : 0 + 0 ≤ _)⟩)
  dsimp only [Pt.U, Pt.locs, Pt.cells, Pt.slots] at X2 l2 y2 z2 st2 hQ2
  subst l2 y2 z2
  obtain ⟨rfl, Nq2, e2⟩ := hQ2
  have N2 := Fr.app N1 Nq2
  refine ogo (S' := T2.setTop (mkF m 10 #[.val (.ref ba_), .val (.int (2 : Int32))] [(.int c2_)])) st2 ?_
  refine oend X2 hlk (v := some (.int c2_)) (fun h => by rw [hret] at h; cases h) (fun fs hr => retN X2 hx (t := .char) hret (by simp) (hb hby d22_10) (by rw [(own_nar16 pr1)]; exact hr)) (by decide) (by decide) ?_
  show own_Q_u16cat_3_2 Z _ _ _ _ _ _ _ h0 n0 _ T2.heap _
  rw [e2]
  exact ⟨rfl, N2, rfl⟩
def own_Q_ecat_3_2 (Z : State) (z_CS : Int32) (v_FMT : Value) (x_ : Addr) (ba_ : Addr) (kb_ : ClassId) (cd_ : Int32) (z_ : Int32) (vs_ : List Value) (c0_ : Int32) (c1_ : Int32) (c2_ : Int32) (h0 : Heap) (n0 : Nat) (v : Option Value) (h : Heap) (L : List Loc) : Prop := (v = some (.int c2_)) ∧ (Fr n0 L) ∧ (h = h0)
set_option maxRecDepth 65536 in
set_option maxHeartbeats 40000000 in
theorem rm_ecat_3_2 (l : Launch) (Z : State) (a0 : Array Value) (hw : ∀ d ∈ tables_1, d.before a0 Z = true) (ws : List Jvm.Cond) (z_CS : Int32) (v_FMT : Value) (x_ : Addr) (ba_ : Addr) (kb_ : ClassId) (cd_ : Int32) (z_ : Int32) (vs_ : List Value) (c0_ : Int32) (c1_ : Int32) (c2_ : Int32) (h0 : Heap) (n0 : Nat) (SB : own_Start Z z_CS v_FMT) (O0 : Old Z n0 h0) (pr0 : Exa Z h0 x_ "java/lang/String") (pr1 : Fld Z h0 x_ "java/lang/String" "coder" "B" (.int cd_)) (pr2 : Fld Z h0 x_ "java/lang/String" "value" "[B" (.ref ba_)) (pr3 : Arv Z h0 ba_ kb_ .byte z_ vs_ (.int 0)) (pr4 : own_enc3 c0_ c1_ c2_ cd_ z_ vs_) (pr5 : own_c16 c2_) :
    oMet l Z yM22 jdk_42_method_56_code 2 (some .char) ws ({ frames := 4, cells := 0, slots := 0, locals := 53 } : Room) 0 0 #[(.ref x_), (.int (2 : Int32))] h0 (own_Q_ecat_3_2 Z z_CS v_FMT x_ ba_ kb_ cd_ z_ vs_ c0_ c1_ c2_ h0 n0) := by
  refine oenter own_pn2 #[.val (.ref x_), .val (.int (2 : Int32))] (fun m => by first | (simp [entryFrame, mkF, argsToLocals, Value.category]; done) | rfl) ?_
  intro p e s m below meth c s₁ X0 hx hZ hby hml hret hown0 hnm hlk e0
  have hown : s.vm.findClass "java/lang/String" = some m.cls := hown0
  have N0 := Fr.nil n0
  obtain ⟨S_CS, H_CS, S__assertionsDisabled, S_HI_BYTE_SHIFT, S_LO_BYTE_SHIFT, S_FMT, R_FMT⟩ := (id SB)
  have w7 := hw _ (List.mem_of_getElem? (i := 7) rfl)
  have w25 := hw _ (List.mem_of_getElem? (i := 25) rfl)
  have w62 := hw _ (List.mem_of_getElem? (i := 62) rfl)
  have w75 := hw _ (List.mem_of_getElem? (i := 75) rfl)
  have w76 := hw _ (List.mem_of_getElem? (i := 76) rfl)
  have w77 := hw _ (List.mem_of_getElem? (i := 77) rfl)
  have w78 := hw _ (List.mem_of_getElem? (i := 78) rfl)
  have w79 := hw _ (List.mem_of_getElem? (i := 79) rfl)
  have w80 := hw _ (List.mem_of_getElem? (i := 80) rfl)
  have w81 := hw _ (List.mem_of_getElem? (i := 81) rfl)
  have w82 := hw _ (List.mem_of_getElem? (i := 82) rfl)
  have w83 := hw _ (List.mem_of_getElem? (i := 83) rfl)
  have w111 := hw _ (List.mem_of_getElem? (i := 111) rfl)
  have w112 := hw _ (List.mem_of_getElem? (i := 112) rfl)
  have w113 := hw _ (List.mem_of_getElem? (i := 113) rfl)
  rcases pr4 with ⟨hs0, hs1, hs2, rfl, rfl, rfl⟩ | ⟨rfl, rfl, rfl⟩
  · refine o_aloadN X0 hx (hb hby d23_0) rfl rfl ?_
    obtain ⟨cq1, kq1, q1a, q1b, q1c⟩ := isOf hZ e0 pr0
    obtain ⟨_, _, ⟨T1, L1, kc1, n1⟩, -, X1, ⟨Lc1, hQ1, l1, y1, z1⟩, st1⟩ := X0.virtualBack hx (y := yM15) (z := yM15) hown (mvT hZ w75) (mvT hZ w76) (notFace_of_selects (args := #[]) (mvT hZ w78)) (mvT hZ w78) (mvT hZ w77) (by decide) (backOf (W := 0) (rm_isl1_0 l Z a0 hw [] z_CS v_FMT x_ h0 n0 SB O0 pr1) hZ w79 w7 (by decide) (by decide)) q1a q1c (g := (mkF m 1 #[.val (.ref x_), .val (.int (2 : Int32))] [(.ref x_)])) rfl (by rw [hml]; rfl) (Steps.refl _) (argsL := []) (rest := []) (lenOf own_pd14 rfl) rfl (by show 2 * 0 + _ ≤ _; exact Nat.le_of_eq rfl) (hb hby d23_1) (fun _ _ => ⟨rfl, e0, (by decide : 0 + 0 ≤ _), (by decide : 0 + 0 ≤ _)⟩)
    dsimp only [Pt.U, Pt.locs, Pt.cells, Pt.slots] at X1 l1 y1 z1 st1 hQ1
    subst l1 y1 z1
    obtain ⟨rfl, Nq1, e1⟩ := hQ1
    have N1 := Fr.app N0 Nq1
    refine otr (S' := T1.setTop (mkF m 4 #[.val (.ref x_), .val (.int (2 : Int32))] [(.int (1 : Int32))])) st1 ?_
    refine o_ifNo X1 hx (hb hby d23_4) (feq (by decide : ¬ ((1 : Int32) = (0 : Int32)))).1 ?_
    refine o_aloadN X1 hx (hb hby d23_7) rfl rfl ?_
    obtain ⟨T2, X2, e2, st2⟩ := getF X1 hx hZ hown (host := "") (Or.inl w25) Via.refl e1 pr2 (g := (mkF m 8 #[.val (.ref x_), .val (.int (2 : Int32))] [(.ref x_)])) rfl rfl (hb hby d23_8)
    refine ogo (S' := T2.setTop (mkF m 11 #[.val (.ref x_), .val (.int (2 : Int32))] [(.ref ba_)])) st2 ?_
    refine o_iloadN X2 hx (hb hby d23_11) rfl ?_
    obtain ⟨_, _, ⟨T3, L3, kc3, n3⟩, -, X3, ⟨Lc3, hQ3, l3, y3, z3⟩, st3⟩ := Jvm.LawKit.callS X2 hx (y := yM18) hown (mvT hZ w80) (mvT hZ w81) (mvT hZ w82) (mvT hZ w83) (by decide) (backOf (W := 0) (rm_l1c_3_2 l Z a0 hw [] z_CS v_FMT ba_ kb_ c0_ c1_ c2_ h0 n0 SB O0 pr3 (own_c16n pr5) hs2) hZ w83 w82 (by decide) (by decide)) (g := (mkF m 12 #[.val (.ref x_), .val (.int (2 : Int32))] [(.int (2 : Int32)), (.ref ba_)])) rfl (by rw [hml]; rfl) (argsL := [(.ref ba_), (.int (2 : Int32))]) (rest := []) (lenOf own_pd5 rfl) rfl (by show 2 * 0 + _ ≤ _; exact Nat.le_of_eq rfl) (hb hby d23_12) (fun _ _ => ⟨rfl, e2, (by decide : 0 + 0 ≤ _), (by decide : 0 + 0 ≤ _)⟩)
    dsimp only [Pt.U, Pt.locs, Pt.cells, Pt.slots] at X3 l3 y3 z3 st3 hQ3
    subst l3 y3 z3
    obtain ⟨rfl, Nq3, e3⟩ := hQ3
    have N3 := Fr.app N1 Nq3
    refine ogo (S' := T3.setTop (mkF m 15 #[.val (.ref x_), .val (.int (2 : Int32))] [(.int c2_)])) st3 ?_
    refine oend X3 hlk (v := some (.int c2_)) (fun h => by rw [hret] at h; cases h) (fun fs hr => retN X3 hx (t := .char) hret (by simp) (hb hby d23_15) (by rw [(own_nar16 pr5)]; exact hr)) (by decide) (by decide) ?_
    show own_Q_ecat_3_2 Z _ _ _ _ _ _ _ _ _ _ _ h0 n0 _ T3.heap _
    rw [e3]
    exact ⟨rfl, N3, rfl⟩
  · refine o_aloadN X0 hx (hb hby d23_0) rfl rfl ?_
    obtain ⟨cq4, kq4, q4a, q4b, q4c⟩ := isOf hZ e0 pr0
    obtain ⟨_, _, ⟨T4, L4, kc4, n4⟩, -, X4, ⟨Lc4, hQ4, l4, y4, z4⟩, st4⟩ := X0.virtualBack hx (y := yM15) (z := yM15) hown (mvT hZ w75) (mvT hZ w76) (notFace_of_selects (args := #[]) (mvT hZ w78)) (mvT hZ w78) (mvT hZ w77) (by decide) (backOf (W := 0) (rm_isl1_1 l Z a0 hw [] z_CS v_FMT x_ h0 n0 SB O0 pr1) hZ w79 w7 (by decide) (by decide)) q4a q4c (g := (mkF m 1 #[.val (.ref x_), .val (.int (2 : Int32))] [(.ref x_)])) rfl (by rw [hml]; rfl) (Steps.refl _) (argsL := []) (rest := []) (lenOf own_pd14 rfl) rfl (by show 2 * 0 + _ ≤ _; exact Nat.le_of_eq rfl) (hb hby d23_1) (fun _ _ => ⟨rfl, e0, (by decide : 0 + 0 ≤ _), (by decide : 0 + 0 ≤ _)⟩)
    dsimp only [Pt.U, Pt.locs, Pt.cells, Pt.slots] at X4 l4 y4 z4 st4 hQ4
    subst l4 y4 z4
    obtain ⟨rfl, Nq4, e4⟩ := hQ4
    have N4 := Fr.app N0 Nq4
    refine otr (S' := T4.setTop (mkF m 4 #[.val (.ref x_), .val (.int (2 : Int32))] [(.int (0 : Int32))])) st4 ?_
    refine o_ifYes X4 hx 16 (hb hby d23_4) (teq (by decide : (0 : Int32) = (0 : Int32))).1 (by decide) (by decide) ?_
    refine o_aloadN X4 hx (hb hby d23_16) rfl rfl ?_
    obtain ⟨T5, X5, e5, st5⟩ := getF X4 hx hZ hown (host := "") (Or.inl w25) Via.refl e4 pr2 (g := (mkF m 17 #[.val (.ref x_), .val (.int (2 : Int32))] [(.ref x_)])) rfl rfl (hb hby d23_17)
    refine ogo (S' := T5.setTop (mkF m 20 #[.val (.ref x_), .val (.int (2 : Int32))] [(.ref ba_)])) st5 ?_
    refine o_iloadN X5 hx (hb hby d23_20) rfl ?_
    obtain ⟨_, _, ⟨T6, L6, kc6, n6⟩, -, X6, ⟨Lc6, hQ6, l6, y6, z6⟩, st6⟩ := Jvm.LawKit.callS X5 hx (y := yM21) hown (mvT hZ w111) (mvT hZ w112) (mvT hZ w62) (mvT hZ w113) (by decide) (backOf (W := 0) (rm_u16cat_3_2 l Z a0 hw [] z_CS v_FMT ba_ kb_ c0_ c1_ c2_ h0 n0 SB O0 pr3 pr5) hZ w113 w62 (by decide) (by decide)) (g := (mkF m 21 #[.val (.ref x_), .val (.int (2 : Int32))] [(.int (2 : Int32)), (.ref ba_)])) rfl (by rw [hml]; rfl) (argsL := [(.ref ba_), (.int (2 : Int32))]) (rest := []) (lenOf own_pd5 rfl) rfl (by show 2 * 0 + _ ≤ _; exact Nat.le_of_eq rfl) (hb hby d23_21) (fun _ _ => ⟨rfl, e5, (by decide : 0 + 0 ≤ _), (by decide : 0 + 0 ≤ _)⟩)
    dsimp only [Pt.U, Pt.locs, Pt.cells, Pt.slots] at X6 l6 y6 z6 st6 hQ6
    subst l6 y6 z6
    obtain ⟨rfl, Nq6, e6⟩ := hQ6
    have N6 := Fr.app N4 Nq6
    refine ogo (S' := T6.setTop (mkF m 24 #[.val (.ref x_), .val (.int (2 : Int32))] [(.int c2_)])) st6 ?_
    refine oend X6 hlk (v := some (.int c2_)) (fun h => by rw [hret] at h; cases h) (fun fs hr => retN X6 hx (t := .char) hret (by simp) (hb hby d23_24) (by rw [(own_nar16 pr5)]; exact hr)) (by decide) (by decide) ?_
    show own_Q_ecat_3_2 Z _ _ _ _ _ _ _ _ _ _ _ h0 n0 _ T6.heap _
    rw [e6]
    exact ⟨rfl, N6, rfl⟩
def own_Q_skipT_3_2 (Z : State) (z_CS : Int32) (v_FMT : Value) (t_ : Addr) (x_ : Addr) (ba_ : Addr) (kb_ : ClassId) (cd_ : Int32) (z_ : Int32) (vs_ : List Value) (c0_ : Int32) (c1_ : Int32) (c2_ : Int32) (u_ : Int32) (h0 : Heap) (n0 : Nat) (v : Option Value) (h : Heap) (L : List Loc) : Prop := (v = some (.int (1 : Int32))) ∧ (Fr n0 L) ∧ (Keep h0 h [t_]) ∧ (Exa Z h t_ "com/example/rowfold/rowfold/Literal") ∧ (Fld Z h t_ "com/example/rowfold/rowfold/Literal" "text" "Ljava/lang/String;" (.ref x_)) ∧ (Fld Z h t_ "com/example/rowfold/rowfold/Literal" "at" "I" (.int (3 : Int32)))
set_option maxRecDepth 65536 in
set_option maxHeartbeats 40000000 in
theorem rm_skipT_3_2 (l : Launch) (Z : State) (a0 : Array Value) (hw : ∀ d ∈ tables_1, d.before a0 Z = true) (ws : List Jvm.Cond) (z_CS : Int32) (v_FMT : Value) (t_ : Addr) (x_ : Addr) (ba_ : Addr) (kb_ : ClassId) (cd_ : Int32) (z_ : Int32) (vs_ : List Value) (c0_ : Int32) (c1_ : Int32) (c2_ : Int32) (u_ : Int32) (h0 : Heap) (n0 : Nat) (SB : own_Start Z z_CS v_FMT) (O0 : Old Z n0 h0) (pr0 : Exa Z h0 t_ "com/example/rowfold/rowfold/Literal") (pr1 : Fld Z h0 t_ "com/example/rowfold/rowfold/Literal" "text" "Ljava/lang/String;" (.ref x_)) (pr2 : Fld Z h0 t_ "com/example/rowfold/rowfold/Literal" "at" "I" (.int (2 : Int32))) (pr3 : Exa Z h0 x_ "java/lang/String") (pr4 : Fld Z h0 x_ "java/lang/String" "coder" "B" (.int cd_)) (pr5 : Fld Z h0 x_ "java/lang/String" "value" "[B" (.ref ba_)) (pr6 : Arv Z h0 ba_ kb_ .byte z_ vs_ (.int 0)) (pr7 : own_enc3 c0_ c1_ c2_ cd_ z_ vs_) (pr8 : own_c16 c2_) (pr9 : c2_ = u_) (pr10 : n0 ≤ t_) :
    oMet l Z yM13 prog_8_method_4_code 3 (some .boolean) ws ({ frames := 5, cells := 0, slots := 0, locals := 66 } : Room) 0 0 #[(.ref t_), (.int u_)] h0 (own_Q_skipT_3_2 Z z_CS v_FMT t_ x_ ba_ kb_ cd_ z_ vs_ c0_ c1_ c2_ u_ h0 n0) := by
  refine oenter own_pn0 #[.val (.ref t_), .val (.int u_), .unset] (fun m => by first | (simp [entryFrame, mkF, argsToLocals, Value.category]; done) | rfl) ?_
  intro p e s m below meth c s₁ X0 hx hZ hby hml hret hown0 hnm hlk e0
  have hown : s.vm.findClass "com/example/rowfold/rowfold/Literal" = some m.cls := hown0
  have N0 := Fr.nil n0
  obtain ⟨S_CS, H_CS, S__assertionsDisabled, S_HI_BYTE_SHIFT, S_LO_BYTE_SHIFT, S_FMT, R_FMT⟩ := (id SB)
  have w7 := hw _ (List.mem_of_getElem? (i := 7) rfl)
  have w28 := hw _ (List.mem_of_getElem? (i := 28) rfl)
  have w29 := hw _ (List.mem_of_getElem? (i := 29) rfl)
  have w30 := hw _ (List.mem_of_getElem? (i := 30) rfl)
  have w31 := hw _ (List.mem_of_getElem? (i := 31) rfl)
  have w39 := hw _ (List.mem_of_getElem? (i := 39) rfl)
  have w45 := hw _ (List.mem_of_getElem? (i := 45) rfl)
  have w46 := hw _ (List.mem_of_getElem? (i := 46) rfl)
  have w52 := hw _ (List.mem_of_getElem? (i := 52) rfl)
  have w53 := hw _ (List.mem_of_getElem? (i := 53) rfl)
  have w54 := hw _ (List.mem_of_getElem? (i := 54) rfl)
  have w70 := hw _ (List.mem_of_getElem? (i := 70) rfl)
  have w71 := hw _ (List.mem_of_getElem? (i := 71) rfl)
  have w72 := hw _ (List.mem_of_getElem? (i := 72) rfl)
  have w73 := hw _ (List.mem_of_getElem? (i := 73) rfl)
  have w74 := hw _ (List.mem_of_getElem? (i := 74) rfl)
  refine o_aloadN X0 hx (hb hby d14_0) rfl rfl ?_
  obtain ⟨T1, X1, e1, st1⟩ := getF X0 hx hZ hown (host := "") (Or.inl w52) Via.refl e0 pr2 (g := (mkF m 1 #[.val (.ref t_), .val (.int u_), .unset] [(.ref t_)])) rfl rfl (hb hby d14_1)
  refine ogo (S' := T1.setTop (mkF m 4 #[.val (.ref t_), .val (.int u_), .unset] [(.int (2 : Int32))])) st1 ?_
  refine o_aloadN X1 hx (hb hby d14_4) rfl rfl ?_
  obtain ⟨T2, X2, e2, st2⟩ := getF X1 hx hZ hown (host := "") (Or.inl w45) Via.refl e1 pr1 (g := (mkF m 5 #[.val (.ref t_), .val (.int u_), .unset] [(.ref t_), (.int (2 : Int32))])) rfl rfl (hb hby d14_5)
  refine ogo (S' := T2.setTop (mkF m 8 #[.val (.ref t_), .val (.int u_), .unset] [(.ref x_), (.int (2 : Int32))])) st2 ?_
  obtain ⟨cq3, kq3, q3a, q3b, q3c⟩ := isOf hZ e2 pr3
  obtain ⟨_, _, ⟨T3, L3, kc3, n3⟩, -, X3, ⟨Lc3, hQ3, l3, y3, z3⟩, st3⟩ := X2.virtualBack hx (y := yM12) (z := yM12) hown (mvT hZ w54) (mvT hZ w28) (notFace_of_selects (args := #[]) (mvT hZ w30)) (mvT hZ w30) (mvT hZ w29) (by decide) (backOf (W := 1) (rm_elen_3 l Z a0 hw [] z_CS v_FMT x_ ba_ kb_ cd_ z_ vs_ c0_ c1_ c2_ h0 n0 SB O0 pr3 pr4 pr5 pr6 pr7) hZ w31 w7 (by decide) (by decide)) q3a q3c (g := (mkF m 8 #[.val (.ref t_), .val (.int u_), .unset] [(.ref x_), (.int (2 : Int32))])) rfl (by rw [hml]; rfl) (Steps.refl _) (argsL := []) (rest := [(.int (2 : Int32))]) (lenOf own_pd9 rfl) rfl (by show 2 * 0 + _ ≤ _; exact Nat.le_of_eq rfl) (hb hby d14_8) (fun _ _ => ⟨rfl, e2, (by decide : 0 + 0 ≤ _), (by decide : 0 + 0 ≤ _)⟩)
  dsimp only [Pt.U, Pt.locs, Pt.cells, Pt.slots] at X3 l3 y3 z3 st3 hQ3
  subst l3 y3 z3
  obtain ⟨rfl, Nq3, e3⟩ := hQ3
  have N3 := Fr.app N0 Nq3
  refine otr (S' := T3.setTop (mkF m 11 #[.val (.ref t_), .val (.int u_), .unset] [(.int (3 : Int32)), (.int (2 : Int32))])) st3 ?_
  refine o_icmpNo X3 hx (hb hby d14_11) (tlt (by decide : (2 : Int32) < (3 : Int32))).2.1 ?_
  refine o_aloadN X3 hx (hb hby d14_14) rfl rfl ?_
  obtain ⟨T4, X4, e4, st4⟩ := getF X3 hx hZ hown (host := "") (Or.inl w45) Via.refl e3 pr1 (g := (mkF m 15 #[.val (.ref t_), .val (.int u_), .unset] [(.ref t_)])) rfl rfl (hb hby d14_15)
  refine ogo (S' := T4.setTop (mkF m 18 #[.val (.ref t_), .val (.int u_), .unset] [(.ref x_)])) st4 ?_
  refine o_aloadN X4 hx (hb hby d14_18) rfl rfl ?_
  obtain ⟨T5, X5, e5, st5⟩ := getF X4 hx hZ hown (host := "") (Or.inl w52) Via.refl e4 pr2 (g := (mkF m 19 #[.val (.ref t_), .val (.int u_), .unset] [(.ref t_), (.ref x_)])) rfl rfl (hb hby d14_19)
  refine ogo (S' := T5.setTop (mkF m 22 #[.val (.ref t_), .val (.int u_), .unset] [(.int (2 : Int32)), (.ref x_)])) st5 ?_
  obtain ⟨cq6, kq6, q6a, q6b, q6c⟩ := isOf hZ e5 pr3
  obtain ⟨_, _, ⟨T6, L6, kc6, n6⟩, -, X6, ⟨Lc6, hQ6, l6, y6, z6⟩, st6⟩ := X5.virtualBack hx (y := yM22) (z := yM22) hown (mvT hZ w70) (mvT hZ w71) (notFace_of_selects (args := #[]) (mvT hZ w73)) (mvT hZ w73) (mvT hZ w72) (by decide) (backOf (W := 0) (rm_ecat_3_2 l Z a0 hw [] z_CS v_FMT x_ ba_ kb_ cd_ z_ vs_ c0_ c1_ c2_ h0 n0 SB O0 pr3 pr4 pr5 pr6 pr7 pr8) hZ w74 w7 (by decide) (by decide)) q6a q6c (g := (mkF m 22 #[.val (.ref t_), .val (.int u_), .unset] [(.int (2 : Int32)), (.ref x_)])) rfl (by rw [hml]; rfl) (Steps.refl _) (argsL := [(.int (2 : Int32))]) (rest := []) (lenOf own_pd15 rfl) rfl (by show 2 * 0 + _ ≤ _; exact Nat.le_of_eq rfl) (hb hby d14_22) (fun _ _ => ⟨rfl, e5, (by decide : 0 + 0 ≤ _), (by decide : 0 + 0 ≤ _)⟩)
  dsimp only [Pt.U, Pt.locs, Pt.cells, Pt.slots] at X6 l6 y6 z6 st6 hQ6
  subst l6 y6 z6
  obtain ⟨rfl, Nq6, e6⟩ := hQ6
  have N6 := Fr.app N3 Nq6
  refine otr (S' := T6.setTop (mkF m 25 #[.val (.ref t_), .val (.int u_), .unset] [(.int c2_)])) st6 ?_
  refine o_iloadN X6 hx (hb hby d14_25) rfl ?_
  refine o_icmpNo X6 hx (hb hby d14_26) (teq pr9).2 ?_
  refine o_iconst X6 hx (1 : Int32) (hb hby d14_29) rfl ?_
  refine o_goto X6 hx 34 (hb hby d14_30) (by decide) (by decide) ?_
  refine o_istoreN X6 hx (l' := #[.val (.ref t_), .val (.int u_), .val (.int (1 : Int32))]) (hb hby d14_34) rfl ?_
  refine o_iloadN X6 hx (hb hby d14_35) rfl ?_
  refine o_ifNo X6 hx (hb hby d14_36) (feq (by decide : ¬ ((1 : Int32) = (0 : Int32)))).1 ?_
  refine o_aloadN X6 hx (hb hby d14_39) rfl rfl ?_
  refine o_dup X6 hx (hb hby d14_40) rfl ?_
  obtain ⟨T7, X7, e7, st7⟩ := getF X6 hx hZ hown (host := "") (Or.inl w52) Via.refl e6 pr2 (g := (mkF m 41 #[.val (.ref t_), .val (.int u_), .val (.int (1 : Int32))] [(.ref t_), (.ref t_)])) rfl rfl (hb hby d14_41)
  refine ogo (S' := T7.setTop (mkF m 44 #[.val (.ref t_), .val (.int u_), .val (.int (1 : Int32))] [(.int (2 : Int32)), (.ref t_)])) st7 ?_
  refine o_iconst X7 hx (1 : Int32) (hb hby d14_44) rfl ?_
  refine o_iadd X7 hx (hb hby d14_45) ?_
  obtain ⟨T8, _, X8, rfl, W8, st8⟩ := putF X7 hx hZ hown (host := "") (Or.inl w52) Via.refl e7 pr2 pr0 (Or.inl w53) w39 (ty := .int) (by decide) rfl rfl (g := (mkF m 46 #[.val (.ref t_), .val (.int u_), .val (.int (1 : Int32))] [(.int (3 : Int32)), (.ref t_)])) rfl rfl (hb hby d14_46)
  have N8 := Fr.snoc X8 N6 pr10
  have F8 := Fld.same W8 pr2
  refine ogo (S' := T8.setTop (mkF m 49 #[.val (.ref t_), .val (.int u_), .val (.int (1 : Int32))] [])) st8 ?_
  refine o_iloadN X8 hx (hb hby d14_49) rfl ?_
  have c9 := (Fld.other W8 pr1 (Or.inr (slot_ne (Or.inr w46) (Or.inl w53) (by decide) (t := (.object "java/lang/String")) (t' := .int) (by decide) (by decide))))
  refine oend X8 hlk (v := some (.int (1 : Int32))) (fun h => by rw [hret] at h; cases h) (fun fs hr => retN X8 hx (t := .boolean) hret (by simp) (hb hby d14_50) hr) (by decide) (by decide) ?_
  show own_Q_skipT_3_2 Z _ _ _ _ _ _ _ _ _ _ _ _ _ h0 n0 _ T8.heap _
  exact ⟨rfl, N8, ((Keep.refl h0 [t_]).wr W8 (Or.inl (List.mem_of_getElem? (i := 0) rfl))), (Exa.wr W8 pr0), c9, F8⟩
theorem own_pd16 : parseMethodDescriptor "([C)V" = some ⟨[(.array .char)], none⟩ := by decide +kernel
theorem d24_0 : decode method_2_code 0 = .ok (.iload_n 0, 1) := by decide +kernel
theorem d24_1 : decode method_2_code 1 = .ok (.ifCond .ne 14, 3) := by decide +kernel
theorem d24_4 : decode method_2_code 4 = .ok (.new 7, 3) := by decide +kernel
theorem d24_7 : decode method_2_code 7 = .ok (.dup, 1) := by decide +kernel
theorem d24_8 : decode method_2_code 8 = .ok (.iconst 0, 1) := by decide +kernel
theorem d24_9 : decode method_2_code 9 = .ok (.newarray .char, 2) := by decide +kernel
theorem d24_11 : decode method_2_code 11 = .ok (.invokespecial 9, 3) := by decide +kernel
theorem d24_14 : decode method_2_code 14 = .ok (.areturn, 1) := by decide +kernel
theorem own_pn5 : plainName "com/example/rowfold/rowfold/LiteralExpectEndPinLaw" = true := by first | (simp [plainName, overriddenIn]; done) | decide +kernel
def own_Q_text_0 (Z : State) (z_CS : Int32) (v_FMT : Value) (c0_ : Int32) (c1_ : Int32) (c2_ : Int32) (h0 : Heap) (n0 : Nat) (v : Option Value) (h : Heap) (L : List Loc) : Prop := ∃ x_ : Addr, ∃ ba_ : Addr, ∃ kb_ : ClassId, (v = some (.ref x_)) ∧ (Fr n0 L) ∧ (Keep h0 h []) ∧ (h0.size ≤ x_) ∧ (ba_ < h.size) ∧ (Arv Z h ba_ kb_ .byte (0 : Int32) [] (.int 0)) ∧ (Exa Z h x_ "java/lang/String") ∧ (Fld Z h x_ "java/lang/String" "value" "[B" (.ref ba_)) ∧ (Fld Z h x_ "java/lang/String" "coder" "B" (.int (0 : Int32)))
abbrev yM23 : MethodName := ⟨"com/example/rowfold/rowfold/LiteralExpectEndPinLaw", "text", "(ICCC)Ljava/lang/String;"⟩
set_option maxRecDepth 65536 in
set_option maxHeartbeats 40000000 in
theorem rm_text_0 (l : Launch) (Z : State) (a0 : Array Value) (hw : ∀ d ∈ tables_1, d.before a0 Z = true) (ws : List Jvm.Cond) (z_CS : Int32) (v_FMT : Value) (c0_ : Int32) (c1_ : Int32) (c2_ : Int32) (h0 : Heap) (n0 : Nat) (SB : own_Start Z z_CS v_FMT) (O0 : Old Z n0 h0)  :
    oMetS l Z yM23 method_2_code 4 (some (.object "java/lang/String")) ws ({ frames := 3, cells := 6, slots := 12, locals := 43 } : Room) 6 12 #[(.int (0 : Int32)), (.int c0_), (.int c1_), (.int c2_)] h0 (own_Q_text_0 Z z_CS v_FMT c0_ c1_ c2_ h0 n0) := by
  refine oenterS own_pn5 #[.val (.int (0 : Int32)), .val (.int c0_), .val (.int c1_), .val (.int c2_)] (fun m => by first | (simp [entryFrame, mkF, argsToLocals, Value.category]; done) | rfl) ?_
  intro p e s m below meth c s₁ X0 hx hZ hby hml hret hown0 hnm hlk e0 hs0 H0 hS0
  have hEL := own_EW hw
  have wS := own_wS hw
  have hown : s.vm.findClass "com/example/rowfold/rowfold/LiteralExpectEndPinLaw" = some m.cls := hown0
  have N0 := Fr.nil n0
  obtain ⟨S_CS, H_CS, S__assertionsDisabled, S_HI_BYTE_SHIFT, S_LO_BYTE_SHIFT, S_FMT, R_FMT⟩ := (id SB)
  have w5 := hw _ (List.mem_of_getElem? (i := 5) rfl)
  have w6 := hw _ (List.mem_of_getElem? (i := 6) rfl)
  have w7 := hw _ (List.mem_of_getElem? (i := 7) rfl)
  have w8 := hw _ (List.mem_of_getElem? (i := 8) rfl)
  have w9 := hw _ (List.mem_of_getElem? (i := 9) rfl)
  have w10 := hw _ (List.mem_of_getElem? (i := 10) rfl)
  have w11 := hw _ (List.mem_of_getElem? (i := 11) rfl)
  have w21 := hw _ (List.mem_of_getElem? (i := 21) rfl)
  have w22 := hw _ (List.mem_of_getElem? (i := 22) rfl)
  refine o_iloadN X0 hx (hb hby d24_0) rfl ?_
  refine o_ifNo X0 hx (hb hby d24_1) (teq (by decide : (0 : Int32) = (0 : Int32))).2 ?_
  obtain ⟨T1, _, X1, rfl, E1, A1, D1, -, st1⟩ := newO X0 hx hZ hown w5 w6 w7 e0 (g := (mkF m 4 #[.val (.int (0 : Int32)), .val (.int c0_), .val (.int c1_), .val (.int c2_)] [])) rfl (hb hby d24_4) (by decide) (by decide)
  obtain ⟨b1, g1⟩ : ∃ z, z = h0.size := ⟨_, rfl⟩
  rw [← g1] at A1 D1 st1
  have n0_b1 : n0 ≤ b1 := Nat.le_trans (Nat.le_trans (Nat.le_of_eq O0.1.symm) O0.2.1) (Nat.le_trans (Nat.le_refl _) (Nat.le_of_eq g1.symm))
  have H2 := CHv.ext E1 H0
  have F1_value : Fld Z T1.heap b1 "java/lang/String" "value" "[B" .null := D1 (Or.inr w21) (ty := (.array .byte)) (by decide)
  have F1_coder : Fld Z T1.heap b1 "java/lang/String" "coder" "B" (.int (0 : Int32)) := D1 (Or.inr w22) (ty := .byte) (by decide)
  refine ogo (S' := T1.setTop (mkF m 7 #[.val (.int (0 : Int32)), .val (.int c0_), .val (.int c1_), .val (.int c2_)] [(.ref b1)])) st1 ?_
  refine o_dup X1 hx (hb hby d24_7) rfl ?_
  refine o_iconst X1 hx (0 : Int32) (hb hby d24_8) rfl ?_
  obtain ⟨T3, _, k3, X3, rfl, E3, A3, Ex3, st3⟩ := newPE (aty := .char) X1 hx hZ w8 rfl (g := (mkF m 9 #[.val (.int (0 : Int32)), .val (.int c0_), .val (.int c1_), .val (.int c2_)] [(.int (0 : Int32)), (.ref b1), (.ref b1)])) rfl (hb hby d24_9) rfl (by decide) (cap := 0) (by decide) (by decide) (by decide) (by decide) (ad := "[C") rfl
  obtain ⟨b3, g3⟩ : ∃ z, z = T1.heap.size := ⟨_, rfl⟩
  rw [← g3] at A3 Ex3 st3
  have n0_b3 : n0 ≤ b3 := Nat.le_trans (Nat.le_trans (Nat.le_of_eq O0.1.symm) O0.2.1) (Nat.le_trans E1.1 (Nat.le_of_eq g3.symm))
  have H4 := CHv.ext E3 H2
  have V3 : Arv Z T3.heap b3 k3 .char (0 : Int32) [] (.int 0) := (Arv.new A3 (by decide)).pad (pad_rep [] (.int 0) 0)
  refine ogo (S' := T3.setTop (mkF m 11 #[.val (.int (0 : Int32)), .val (.int c0_), .val (.int c1_), .val (.int c2_)] [(.ref b3), (.ref b1), (.ref b1)])) st3 ?_
  obtain ⟨_, _, ⟨T5, L5, kc5, n5⟩, -, X5, hSi5, hgr5, ⟨Lc5, hQ5, l5, y5, z5, C5⟩, st5⟩ := X3.specialBackS hx (y := yM10) rfl hown (mvT hZ w9) (mvT hZ w10) (mvT hZ w11) (by decide) (backOfSH (W := 1) (rm_new1z l Z a0 hw []  b1 b3 k3 T3.heap n0 ((O0.ext E1).ext E3) (Exa.ext E3 A1) (Fld.ext E3 F1_value) (Fld.ext E3 F1_coder) n0_b1 V3) hZ w11 w7 (by decide) (by decide) hEL H4) (g := (mkF m 11 #[.val (.int (0 : Int32)), .val (.int c0_), .val (.int c1_), .val (.int c2_)] [(.ref b3), (.ref b1), (.ref b1)])) rfl (by rw [hml]; rfl) (Steps.refl _) (a := b1) (argsL := [(.ref b3)]) (rest := [(.ref b1)]) (lenOf own_pd16 rfl) rfl (by show 2 * 0 + _ ≤ _; exact Nat.le_of_eq rfl) (hb hby d24_11) (fun _ _ => ⟨rfl, rfl, (by decide : 2 + 4 ≤ _), (by decide : 4 + 8 ≤ _)⟩)
  dsimp only [Pt.U, Pt.locs, Pt.cells, Pt.slots] at X5 l5 y5 z5 st5 hQ5 hSi5 hgr5 C5
  subst l5 y5 z5
  obtain ⟨ba_5, kb_5, rfl, Nq5, K5, p5_0, p5_1, p5_2, p5_3, p5_4⟩ := hQ5
  have N5 := Fr.app N0 Nq5
  have X5 : Stand p l e ({ frames := 3, cells := 6, slots := 12, locals := 43 } : Room) (s.setVm T5.vm) m #[(.int (0 : Int32)), (.int c0_), (.int c1_), (.int c2_)] below meth c T5 _ _ _ := X5
  have hS5 := foldS hS0 (Nat.le_trans (Nat.zero_le _) (Nat.le_trans E1.1 E3.1)) hSi5 hgr5
  have hZ5 : Z.Warmed39 T5.vm := State.Warmed39.trans (t := s) hZ hSi5.1
  have hown5 : T5.vm.findClass "com/example/rowfold/rowfold/LiteralExpectEndPinLaw" = some m.cls := by rw [hSi5.1.alike.findClass]; exact hown
  have H6 := C5.1
  refine otr (S' := T5.setTop (mkF m 14 #[.val (.int (0 : Int32)), .val (.int c0_), .val (.int c1_), .val (.int c2_)] [(.ref b1)])) st5 ?_
  refine oendS X5 hlk hS5 (Nat.le_refl _) rfl hZ5 hEL hs0 (CHr.trans (CHr.trans (CHr.trans (CHr.refl H0) (CHr.ext E1 H0)) (CHr.ext E3 H2)) C5) (v := some (.ref b1)) (fun h => by rw [hret] at h; cases h) (fun fs hr => retOut X5 hx (t := (.object "java/lang/String")) (i := .areturn) hret rfl (Or.inr (Or.inr (Or.inr (Or.inr ⟨rfl, rfl, rfl⟩)))) (hb hby d24_14) hr) (by decide) (by decide) ?_
  show own_Q_text_0 Z _ _ _ _ _ h0 n0 _ T5.heap _
  exact ⟨b1, ba_5, kb_5, rfl, N5, ((((Keep.refl h0 []).ext E1).ext E3).trans K5 (allS (Or.inr (Nat.le_trans (Nat.le_refl _) (Nat.le_of_eq g1.symm))) all0)), (Nat.le_trans (Nat.le_refl _) (Nat.le_of_eq g1.symm)), (Nat.lt_of_lt_of_le p5_0 (Nat.le_refl _)), p5_1, p5_2, p5_3, p5_4⟩
theorem d24_15 : decode method_2_code 15 = .ok (.iload_n 0, 1) := by decide +kernel
theorem d24_16 : decode method_2_code 16 = .ok (.iconst 1, 1) := by decide +kernel
theorem d24_17 : decode method_2_code 17 = .ok (.if_icmp .ne 18, 3) := by decide +kernel
theorem d24_20 : decode method_2_code 20 = .ok (.new 7, 3) := by decide +kernel
theorem d24_23 : decode method_2_code 23 = .ok (.dup, 1) := by decide +kernel
theorem d24_24 : decode method_2_code 24 = .ok (.iconst 1, 1) := by decide +kernel
theorem d24_25 : decode method_2_code 25 = .ok (.newarray .char, 2) := by decide +kernel
theorem d24_27 : decode method_2_code 27 = .ok (.dup, 1) := by decide +kernel
theorem d24_28 : decode method_2_code 28 = .ok (.iconst 0, 1) := by decide +kernel
theorem d24_29 : decode method_2_code 29 = .ok (.iload_n 1, 1) := by decide +kernel
theorem d24_30 : decode method_2_code 30 = .ok (.castore, 1) := by decide +kernel
theorem d24_31 : decode method_2_code 31 = .ok (.invokespecial 9, 3) := by decide +kernel
theorem d24_34 : decode method_2_code 34 = .ok (.areturn, 1) := by decide +kernel
def own_Q_text_1 (Z : State) (z_CS : Int32) (v_FMT : Value) (c0_ : Int32) (c1_ : Int32) (c2_ : Int32) (h0 : Heap) (n0 : Nat) (v : Option Value) (h : Heap) (L : List Loc) : Prop := ∃ x_ : Addr, ∃ ba_ : Addr, ∃ kb_ : ClassId, ∃ cd_ : Int32, ∃ z_ : Int32, ∃ vs_ : List Value, (v = some (.ref x_)) ∧ (Fr n0 L) ∧ (Keep h0 h []) ∧ (h0.size ≤ x_) ∧ (h0.size ≤ ba_) ∧ (Arv Z h ba_ kb_ .byte z_ vs_ (.int 0)) ∧ (Exa Z h x_ "java/lang/String") ∧ (Fld Z h x_ "java/lang/String" "value" "[B" (.ref ba_)) ∧ (Fld Z h x_ "java/lang/String" "coder" "B" (.int cd_)) ∧ (own_enc1 c0_ cd_ z_ vs_)
set_option maxRecDepth 65536 in
set_option maxHeartbeats 40000000 in
theorem rm_text_1 (l : Launch) (Z : State) (a0 : Array Value) (hw : ∀ d ∈ tables_1, d.before a0 Z = true) (ws : List Jvm.Cond) (z_CS : Int32) (v_FMT : Value) (c0_ : Int32) (c1_ : Int32) (c2_ : Int32) (h0 : Heap) (n0 : Nat) (SB : own_Start Z z_CS v_FMT) (O0 : Old Z n0 h0) (pr0 : own_c16 c0_) (pr1 : nar .char c0_ = c0_) :
    oMet l Z yM23 method_2_code 4 (some (.object "java/lang/String")) ws ({ frames := 6, cells := 4, slots := 8, locals := 88 } : Room) 4 8 #[(.int (1 : Int32)), (.int c0_), (.int c1_), (.int c2_)] h0 (own_Q_text_1 Z z_CS v_FMT c0_ c1_ c2_ h0 n0) := by
  refine oenter own_pn5 #[.val (.int (1 : Int32)), .val (.int c0_), .val (.int c1_), .val (.int c2_)] (fun m => by first | (simp [entryFrame, mkF, argsToLocals, Value.category]; done) | rfl) ?_
  intro p e s m below meth c s₁ X0 hx hZ hby hml hret hown0 hnm hlk e0
  have hown : s.vm.findClass "com/example/rowfold/rowfold/LiteralExpectEndPinLaw" = some m.cls := hown0
  have N0 := Fr.nil n0
  obtain ⟨S_CS, H_CS, S__assertionsDisabled, S_HI_BYTE_SHIFT, S_LO_BYTE_SHIFT, S_FMT, R_FMT⟩ := (id SB)
  have w5 := hw _ (List.mem_of_getElem? (i := 5) rfl)
  have w6 := hw _ (List.mem_of_getElem? (i := 6) rfl)
  have w7 := hw _ (List.mem_of_getElem? (i := 7) rfl)
  have w8 := hw _ (List.mem_of_getElem? (i := 8) rfl)
  have w9 := hw _ (List.mem_of_getElem? (i := 9) rfl)
  have w10 := hw _ (List.mem_of_getElem? (i := 10) rfl)
  have w11 := hw _ (List.mem_of_getElem? (i := 11) rfl)
  have w21 := hw _ (List.mem_of_getElem? (i := 21) rfl)
  have w22 := hw _ (List.mem_of_getElem? (i := 22) rfl)
  refine o_iloadN X0 hx (hb hby d24_0) rfl ?_
  refine o_ifYes X0 hx 15 (hb hby d24_1) (feq (by decide : ¬ ((1 : Int32) = (0 : Int32)))).2 (by decide) (by decide) ?_
  refine o_iloadN X0 hx (hb hby d24_15) rfl ?_
  refine o_iconst X0 hx (1 : Int32) (hb hby d24_16) rfl ?_
  refine o_icmpNo X0 hx (hb hby d24_17) (teq (by decide : (1 : Int32) = (1 : Int32))).2 ?_
  obtain ⟨T1, _, X1, rfl, E1, A1, D1, -, st1⟩ := newO X0 hx hZ hown w5 w6 w7 e0 (g := (mkF m 20 #[.val (.int (1 : Int32)), .val (.int c0_), .val (.int c1_), .val (.int c2_)] [])) rfl (hb hby d24_20) (by decide) (by decide)
  obtain ⟨b1, g1⟩ : ∃ z, z = h0.size := ⟨_, rfl⟩
  rw [← g1] at A1 D1 st1
  have n0_b1 : n0 ≤ b1 := Nat.le_trans (Nat.le_trans (Nat.le_of_eq O0.1.symm) O0.2.1) (Nat.le_trans (Nat.le_refl _) (Nat.le_of_eq g1.symm))
  have F1_value : Fld Z T1.heap b1 "java/lang/String" "value" "[B" .null := D1 (Or.inr w21) (ty := (.array .byte)) (by decide)
  have F1_coder : Fld Z T1.heap b1 "java/lang/String" "coder" "B" (.int (0 : Int32)) := D1 (Or.inr w22) (ty := .byte) (by decide)
  refine ogo (S' := T1.setTop (mkF m 23 #[.val (.int (1 : Int32)), .val (.int c0_), .val (.int c1_), .val (.int c2_)] [(.ref b1)])) st1 ?_
  refine o_dup X1 hx (hb hby d24_23) rfl ?_
  refine o_iconst X1 hx (1 : Int32) (hb hby d24_24) rfl ?_
  obtain ⟨T2, _, k2, X2, rfl, E2, A2, Ex2, st2⟩ := newPE (aty := .char) X1 hx hZ w8 rfl (g := (mkF m 25 #[.val (.int (1 : Int32)), .val (.int c0_), .val (.int c1_), .val (.int c2_)] [(.int (1 : Int32)), (.ref b1), (.ref b1)])) rfl (hb hby d24_25) rfl (by decide) (cap := 1) (by decide) (by decide) (by decide) (by decide) (ad := "[C") rfl
  obtain ⟨b2, g2⟩ : ∃ z, z = T1.heap.size := ⟨_, rfl⟩
  rw [← g2] at A2 Ex2 st2
  have n0_b2 : n0 ≤ b2 := Nat.le_trans (Nat.le_trans (Nat.le_of_eq O0.1.symm) O0.2.1) (Nat.le_trans E1.1 (Nat.le_of_eq g2.symm))
  have V2 : Arv Z T2.heap b2 k2 .char (1 : Int32) [(.int 0)] (.int 0) := (Arv.new A2 (by decide)).pad (pad_rep [] (.int 0) 1)
  refine ogo (S' := T2.setTop (mkF m 27 #[.val (.int (1 : Int32)), .val (.int c0_), .val (.int c1_), .val (.int c2_)] [(.ref b2), (.ref b1), (.ref b1)])) st2 ?_
  refine o_dup X2 hx (hb hby d24_27) rfl ?_
  refine o_iconst X2 hx (0 : Int32) (hb hby d24_28) rfl ?_
  refine o_iloadN X2 hx (hb hby d24_29) rfl ?_
  obtain ⟨cl3, Ar3, q3, S3, N3z, H3, G3⟩ := (id V2)
  obtain ⟨T3, _, X3, rfl, W3, st3⟩ := stC X2 hx hZ rfl Ar3 (j := (0 : Int32)) (inb_of S3 ⟨by decide, by decide⟩) (g := (mkF m 30 #[.val (.int (1 : Int32)), .val (.int c0_), .val (.int c1_), .val (.int c2_)] [(.int c0_), (.int (0 : Int32)), (.ref b2), (.ref b2), (.ref b1), (.ref b1)])) rfl rfl (hb hby d24_30)
  rw [pr1] at W3
  have V3 : Arv Z T3.heap b2 k2 .char (1 : Int32) [(.int c0_)] (.int 0) := Arv.set Ar3 q3 S3 N3z H3 G3 (by have q := fits_nar_char c0_; rw [pr1] at q; exact q) W3 0 rfl (Nat.le_of_ble_eq_true rfl)
  have N3 := Fr.snoc X3 N0 n0_b2
  refine ogo (S' := T3.setTop (mkF m 31 #[.val (.int (1 : Int32)), .val (.int c0_), .val (.int c1_), .val (.int c2_)] [(.ref b2), (.ref b1), (.ref b1)])) st3 ?_
  have c5 := (Fld.other W3 (Fld.ext E2 F1_value) (Or.inl (Nat.ne_of_lt (Nat.lt_of_lt_of_le (Nat.lt_of_lt_of_le A1.lt (Nat.le_refl _)) (Nat.le_of_eq g2.symm)))))
  have c6 := (Fld.other W3 (Fld.ext E2 F1_coder) (Or.inl (Nat.ne_of_lt (Nat.lt_of_lt_of_le (Nat.lt_of_lt_of_le A1.lt (Nat.le_refl _)) (Nat.le_of_eq g2.symm)))))
  obtain ⟨_, _, ⟨T4, L4, kc4, n4⟩, -, X4, ⟨Lc4, hQ4, l4, y4, z4⟩, st4⟩ := X3.specialBack hx (y := yM10) rfl hown (mvT hZ w9) (mvT hZ w10) (mvT hZ w11) (by decide) (backOf (W := 1) (rm_new1e_1 l Z a0 hw [] z_CS v_FMT b1 b2 k2 c0_ T3.heap n0 SB (((O0.ext E1).ext E2).wr W3 n0_b2) (Exa.wr W3 (Exa.ext E2 A1)) c5 c6 V3 n0_b1 pr0) hZ w11 w7 (by decide) (by decide)) (g := (mkF m 31 #[.val (.int (1 : Int32)), .val (.int c0_), .val (.int c1_), .val (.int c2_)] [(.ref b2), (.ref b1), (.ref b1)])) rfl (by rw [hml]; rfl) (Steps.refl _) (a := b1) (argsL := [(.ref b2)]) (rest := [(.ref b1)]) (lenOf own_pd16 rfl) rfl (by show 2 * 0 + _ ≤ _; exact Nat.le_of_eq rfl) (hb hby d24_31) (fun _ _ => ⟨rfl, rfl, (by decide : 2 + 2 ≤ _), (by decide : 5 + 3 ≤ _)⟩)
  dsimp only [Pt.U, Pt.locs, Pt.cells, Pt.slots] at X4 l4 y4 z4 st4 hQ4
  subst l4 y4 z4
  obtain ⟨ba_4, kb_4, cd_4, z_4, vs_4, rfl, Nq4, K4, p4_0, p4_1, p4_2, p4_3, p4_4, p4_5⟩ := hQ4
  have N4 := Fr.app N3 Nq4
  have n0_ba_4 : n0 ≤ ba_4 := Nat.le_trans (Nat.le_trans (Nat.le_of_eq O0.1.symm) O0.2.1) (Nat.le_trans (Nat.le_trans (Nat.le_trans E1.1 E2.1) (Keep.of_wr W3).1) p4_0)
  refine otr (S' := T4.setTop (mkF m 34 #[.val (.int (1 : Int32)), .val (.int c0_), .val (.int c1_), .val (.int c2_)] [(.ref b1)])) st4 ?_
  refine oend X4 hlk (v := some (.ref b1)) (fun h => by rw [hret] at h; cases h) (fun fs hr => retOut X4 hx (t := (.object "java/lang/String")) (i := .areturn) hret rfl (Or.inr (Or.inr (Or.inr (Or.inr ⟨rfl, rfl, rfl⟩)))) (hb hby d24_34) hr) (by decide) (by decide) ?_
  show own_Q_text_1 Z _ _ _ _ _ h0 n0 _ T4.heap _
  exact ⟨b1, ba_4, kb_4, cd_4, z_4, vs_4, rfl, N4, (((((Keep.refl h0 []).ext E1).ext E2).wr W3 (Or.inr (Nat.le_trans E1.1 (Nat.le_of_eq g2.symm)))).trans K4 (allS (Or.inr (Nat.le_trans (Nat.le_refl _) (Nat.le_of_eq g1.symm))) all0)), (Nat.le_trans (Nat.le_refl _) (Nat.le_of_eq g1.symm)), (Nat.le_trans (Nat.le_trans (Nat.le_trans E1.1 E2.1) (Keep.of_wr W3).1) p4_0), p4_1, p4_2, p4_3, p4_4, p4_5⟩
theorem d24_35 : decode method_2_code 35 = .ok (.iload_n 0, 1) := by decide +kernel
theorem d24_36 : decode method_2_code 36 = .ok (.iconst 2, 1) := by decide +kernel
theorem d24_37 : decode method_2_code 37 = .ok (.if_icmp .ne 22, 3) := by decide +kernel
theorem d24_40 : decode method_2_code 40 = .ok (.new 7, 3) := by decide +kernel
theorem d24_43 : decode method_2_code 43 = .ok (.dup, 1) := by decide +kernel
theorem d24_44 : decode method_2_code 44 = .ok (.iconst 2, 1) := by decide +kernel
theorem d24_45 : decode method_2_code 45 = .ok (.newarray .char, 2) := by decide +kernel
theorem d24_47 : decode method_2_code 47 = .ok (.dup, 1) := by decide +kernel
theorem d24_48 : decode method_2_code 48 = .ok (.iconst 0, 1) := by decide +kernel
theorem d24_49 : decode method_2_code 49 = .ok (.iload_n 1, 1) := by decide +kernel
theorem d24_50 : decode method_2_code 50 = .ok (.castore, 1) := by decide +kernel
theorem d24_51 : decode method_2_code 51 = .ok (.dup, 1) := by decide +kernel
theorem d24_52 : decode method_2_code 52 = .ok (.iconst 1, 1) := by decide +kernel
theorem d24_53 : decode method_2_code 53 = .ok (.iload_n 2, 1) := by decide +kernel
theorem d24_54 : decode method_2_code 54 = .ok (.castore, 1) := by decide +kernel
theorem d24_55 : decode method_2_code 55 = .ok (.invokespecial 9, 3) := by decide +kernel
theorem d24_58 : decode method_2_code 58 = .ok (.areturn, 1) := by decide +kernel
def own_Q_text_2 (Z : State) (z_CS : Int32) (v_FMT : Value) (c0_ : Int32) (c1_ : Int32) (c2_ : Int32) (h0 : Heap) (n0 : Nat) (v : Option Value) (h : Heap) (L : List Loc) : Prop := ∃ x_ : Addr, ∃ ba_ : Addr, ∃ kb_ : ClassId, ∃ cd_ : Int32, ∃ z_ : Int32, ∃ vs_ : List Value, (v = some (.ref x_)) ∧ (Fr n0 L) ∧ (Keep h0 h []) ∧ (h0.size ≤ x_) ∧ (h0.size ≤ ba_) ∧ (Arv Z h ba_ kb_ .byte z_ vs_ (.int 0)) ∧ (Exa Z h x_ "java/lang/String") ∧ (Fld Z h x_ "java/lang/String" "value" "[B" (.ref ba_)) ∧ (Fld Z h x_ "java/lang/String" "coder" "B" (.int cd_)) ∧ (own_enc2 c0_ c1_ cd_ z_ vs_)
set_option maxRecDepth 65536 in
set_option maxHeartbeats 40000000 in
theorem rm_text_2 (l : Launch) (Z : State) (a0 : Array Value) (hw : ∀ d ∈ tables_1, d.before a0 Z = true) (ws : List Jvm.Cond) (z_CS : Int32) (v_FMT : Value) (c0_ : Int32) (c1_ : Int32) (c2_ : Int32) (h0 : Heap) (n0 : Nat) (SB : own_Start Z z_CS v_FMT) (O0 : Old Z n0 h0) (pr0 : own_c16 c0_) (pr1 : own_c16 c1_) (pr2 : nar .char c0_ = c0_) (pr3 : nar .char c1_ = c1_) :
    oMet l Z yM23 method_2_code 4 (some (.object "java/lang/String")) ws ({ frames := 6, cells := 4, slots := 12, locals := 88 } : Room) 4 12 #[(.int (2 : Int32)), (.int c0_), (.int c1_), (.int c2_)] h0 (own_Q_text_2 Z z_CS v_FMT c0_ c1_ c2_ h0 n0) := by
  refine oenter own_pn5 #[.val (.int (2 : Int32)), .val (.int c0_), .val (.int c1_), .val (.int c2_)] (fun m => by first | (simp [entryFrame, mkF, argsToLocals, Value.category]; done) | rfl) ?_
  intro p e s m below meth c s₁ X0 hx hZ hby hml hret hown0 hnm hlk e0
  have hown : s.vm.findClass "com/example/rowfold/rowfold/LiteralExpectEndPinLaw" = some m.cls := hown0
  have N0 := Fr.nil n0
  obtain ⟨S_CS, H_CS, S__assertionsDisabled, S_HI_BYTE_SHIFT, S_LO_BYTE_SHIFT, S_FMT, R_FMT⟩ := (id SB)
  have w5 := hw _ (List.mem_of_getElem? (i := 5) rfl)
  have w6 := hw _ (List.mem_of_getElem? (i := 6) rfl)
  have w7 := hw _ (List.mem_of_getElem? (i := 7) rfl)
  have w8 := hw _ (List.mem_of_getElem? (i := 8) rfl)
  have w9 := hw _ (List.mem_of_getElem? (i := 9) rfl)
  have w10 := hw _ (List.mem_of_getElem? (i := 10) rfl)
  have w11 := hw _ (List.mem_of_getElem? (i := 11) rfl)
  have w21 := hw _ (List.mem_of_getElem? (i := 21) rfl)
  have w22 := hw _ (List.mem_of_getElem? (i := 22) rfl)
  refine o_iloadN X0 hx (hb hby d24_0) rfl ?_
  refine o_ifYes X0 hx 15 (hb hby d24_1) (feq (by decide : ¬ ((2 : Int32) = (0 : Int32)))).2 (by decide) (by decide) ?_
  refine o_iloadN X0 hx (hb hby d24_15) rfl ?_
  refine o_iconst X0 hx (1 : Int32) (hb hby d24_16) rfl ?_
  refine o_icmpYes X0 hx 35 (hb hby d24_17) (feq (by decide : ¬ ((2 : Int32) = (1 : Int32)))).2 (by decide) (by decide) ?_
  refine o_iloadN X0 hx (hb hby d24_35) rfl ?_
  refine o_iconst X0 hx (2 : Int32) (hb hby d24_36) rfl ?_
  refine o_icmpNo X0 hx (hb hby d24_37) (teq (by decide : (2 : Int32) = (2 : Int32))).2 ?_
  obtain ⟨T1, _, X1, rfl, E1, A1, D1, -, st1⟩ := newO X0 hx hZ hown w5 w6 w7 e0 (g := (mkF m 40 #[.val (.int (2 : Int32)), .val (.int c0_), .val (.int c1_), .val (.int c2_)] [])) rfl (hb hby d24_40) (by decide) (by decide)
  obtain ⟨b1, g1⟩ : ∃ z, z = h0.size := ⟨_, rfl⟩
  rw [← g1] at A1 D1 st1
  have n0_b1 : n0 ≤ b1 := Nat.le_trans (Nat.le_trans (Nat.le_of_eq O0.1.symm) O0.2.1) (Nat.le_trans (Nat.le_refl _) (Nat.le_of_eq g1.symm))
  have F1_value : Fld Z T1.heap b1 "java/lang/String" "value" "[B" .null := D1 (Or.inr w21) (ty := (.array .byte)) (by decide)
  have F1_coder : Fld Z T1.heap b1 "java/lang/String" "coder" "B" (.int (0 : Int32)) := D1 (Or.inr w22) (ty := .byte) (by decide)
  refine ogo (S' := T1.setTop (mkF m 43 #[.val (.int (2 : Int32)), .val (.int c0_), .val (.int c1_), .val (.int c2_)] [(.ref b1)])) st1 ?_
  refine o_dup X1 hx (hb hby d24_43) rfl ?_
  refine o_iconst X1 hx (2 : Int32) (hb hby d24_44) rfl ?_
  obtain ⟨T2, _, k2, X2, rfl, E2, A2, Ex2, st2⟩ := newPE (aty := .char) X1 hx hZ w8 rfl (g := (mkF m 45 #[.val (.int (2 : Int32)), .val (.int c0_), .val (.int c1_), .val (.int c2_)] [(.int (2 : Int32)), (.ref b1), (.ref b1)])) rfl (hb hby d24_45) rfl (by decide) (cap := 2) (by decide) (by decide) (by decide) (by decide) (ad := "[C") rfl
  obtain ⟨b2, g2⟩ : ∃ z, z = T1.heap.size := ⟨_, rfl⟩
  rw [← g2] at A2 Ex2 st2
  have n0_b2 : n0 ≤ b2 := Nat.le_trans (Nat.le_trans (Nat.le_of_eq O0.1.symm) O0.2.1) (Nat.le_trans E1.1 (Nat.le_of_eq g2.symm))
  have V2 : Arv Z T2.heap b2 k2 .char (2 : Int32) [(.int 0), (.int 0)] (.int 0) := (Arv.new A2 (by decide)).pad (pad_rep [] (.int 0) 2)
  refine ogo (S' := T2.setTop (mkF m 47 #[.val (.int (2 : Int32)), .val (.int c0_), .val (.int c1_), .val (.int c2_)] [(.ref b2), (.ref b1), (.ref b1)])) st2 ?_
  refine o_dup X2 hx (hb hby d24_47) rfl ?_
  refine o_iconst X2 hx (0 : Int32) (hb hby d24_48) rfl ?_
  refine o_iloadN X2 hx (hb hby d24_49) rfl ?_
  obtain ⟨cl3, Ar3, q3, S3, N3z, H3, G3⟩ := (id V2)
  obtain ⟨T3, _, X3, rfl, W3, st3⟩ := stC X2 hx hZ rfl Ar3 (j := (0 : Int32)) (inb_of S3 ⟨by decide, by decide⟩) (g := (mkF m 50 #[.val (.int (2 : Int32)), .val (.int c0_), .val (.int c1_), .val (.int c2_)] [(.int c0_), (.int (0 : Int32)), (.ref b2), (.ref b2), (.ref b1), (.ref b1)])) rfl rfl (hb hby d24_50)
  rw [pr2] at W3
  have V3 : Arv Z T3.heap b2 k2 .char (2 : Int32) [(.int c0_), (.int 0)] (.int 0) := Arv.set Ar3 q3 S3 N3z H3 G3 (by have q := fits_nar_char c0_; rw [pr2] at q; exact q) W3 0 rfl (Nat.le_of_ble_eq_true rfl)
  have N3 := Fr.snoc X3 N0 n0_b2
  refine ogo (S' := T3.setTop (mkF m 51 #[.val (.int (2 : Int32)), .val (.int c0_), .val (.int c1_), .val (.int c2_)] [(.ref b2), (.ref b1), (.ref b1)])) st3 ?_
  refine o_dup X3 hx (hb hby d24_51) rfl ?_
  refine o_iconst X3 hx (1 : Int32) (hb hby d24_52) rfl ?_
  refine o_iloadN X3 hx (hb hby d24_53) rfl ?_
  obtain ⟨cl4, Ar4, q4, S4, N4z, H4, G4⟩ := (id V3)
  obtain ⟨T4, _, X4, rfl, W4, st4⟩ := stC X3 hx hZ rfl Ar4 (j := (1 : Int32)) (inb_of S4 ⟨by decide, by decide⟩) (g := (mkF m 54 #[.val (.int (2 : Int32)), .val (.int c0_), .val (.int c1_), .val (.int c2_)] [(.int c1_), (.int (1 : Int32)), (.ref b2), (.ref b2), (.ref b1), (.ref b1)])) rfl rfl (hb hby d24_54)
  rw [pr3] at W4
  have V4 : Arv Z T4.heap b2 k2 .char (2 : Int32) [(.int c0_), (.int c1_)] (.int 0) := Arv.set Ar4 q4 S4 N4z H4 G4 (by have q := fits_nar_char c1_; rw [pr3] at q; exact q) W4 1 rfl (Nat.le_of_ble_eq_true rfl)
  have N4 := Fr.snoc X4 N3 n0_b2
  refine ogo (S' := T4.setTop (mkF m 55 #[.val (.int (2 : Int32)), .val (.int c0_), .val (.int c1_), .val (.int c2_)] [(.ref b2), (.ref b1), (.ref b1)])) st4 ?_
  have c6 := (Fld.other W4 (Fld.other W3 (Fld.ext E2 F1_value) (Or.inl (Nat.ne_of_lt (Nat.lt_of_lt_of_le (Nat.lt_of_lt_of_le A1.lt (Nat.le_refl _)) (Nat.le_of_eq g2.symm))))) (Or.inl (Nat.ne_of_lt (Nat.lt_of_lt_of_le (Nat.lt_of_lt_of_le A1.lt (Nat.le_refl _)) (Nat.le_of_eq g2.symm)))))
  have c7 := (Fld.other W4 (Fld.other W3 (Fld.ext E2 F1_coder) (Or.inl (Nat.ne_of_lt (Nat.lt_of_lt_of_le (Nat.lt_of_lt_of_le A1.lt (Nat.le_refl _)) (Nat.le_of_eq g2.symm))))) (Or.inl (Nat.ne_of_lt (Nat.lt_of_lt_of_le (Nat.lt_of_lt_of_le A1.lt (Nat.le_refl _)) (Nat.le_of_eq g2.symm)))))
  obtain ⟨_, _, ⟨T5, L5, kc5, n5⟩, -, X5, ⟨Lc5, hQ5, l5, y5, z5⟩, st5⟩ := X4.specialBack hx (y := yM10) rfl hown (mvT hZ w9) (mvT hZ w10) (mvT hZ w11) (by decide) (backOf (W := 1) (rm_new1e_2 l Z a0 hw [] z_CS v_FMT b1 b2 k2 c0_ c1_ T4.heap n0 SB ((((O0.ext E1).ext E2).wr W3 n0_b2).wr W4 n0_b2) (Exa.wr W4 (Exa.wr W3 (Exa.ext E2 A1))) c6 c7 V4 n0_b1 pr0 pr1) hZ w11 w7 (by decide) (by decide)) (g := (mkF m 55 #[.val (.int (2 : Int32)), .val (.int c0_), .val (.int c1_), .val (.int c2_)] [(.ref b2), (.ref b1), (.ref b1)])) rfl (by rw [hml]; rfl) (Steps.refl _) (a := b1) (argsL := [(.ref b2)]) (rest := [(.ref b1)]) (lenOf own_pd16 rfl) rfl (by show 2 * 0 + _ ≤ _; exact Nat.le_of_eq rfl) (hb hby d24_55) (fun _ _ => ⟨rfl, rfl, (by decide : 2 + 2 ≤ _), (by decide : 6 + 6 ≤ _)⟩)
  dsimp only [Pt.U, Pt.locs, Pt.cells, Pt.slots] at X5 l5 y5 z5 st5 hQ5
  subst l5 y5 z5
  obtain ⟨ba_5, kb_5, cd_5, z_5, vs_5, rfl, Nq5, K5, p5_0, p5_1, p5_2, p5_3, p5_4, p5_5⟩ := hQ5
  have N5 := Fr.app N4 Nq5
  have n0_ba_5 : n0 ≤ ba_5 := Nat.le_trans (Nat.le_trans (Nat.le_of_eq O0.1.symm) O0.2.1) (Nat.le_trans (Nat.le_trans (Nat.le_trans (Nat.le_trans E1.1 E2.1) (Keep.of_wr W3).1) (Keep.of_wr W4).1) p5_0)
  refine otr (S' := T5.setTop (mkF m 58 #[.val (.int (2 : Int32)), .val (.int c0_), .val (.int c1_), .val (.int c2_)] [(.ref b1)])) st5 ?_
  refine oend X5 hlk (v := some (.ref b1)) (fun h => by rw [hret] at h; cases h) (fun fs hr => retOut X5 hx (t := (.object "java/lang/String")) (i := .areturn) hret rfl (Or.inr (Or.inr (Or.inr (Or.inr ⟨rfl, rfl, rfl⟩)))) (hb hby d24_58) hr) (by decide) (by decide) ?_
  show own_Q_text_2 Z _ _ _ _ _ h0 n0 _ T5.heap _
  exact ⟨b1, ba_5, kb_5, cd_5, z_5, vs_5, rfl, N5, ((((((Keep.refl h0 []).ext E1).ext E2).wr W3 (Or.inr (Nat.le_trans E1.1 (Nat.le_of_eq g2.symm)))).wr W4 (Or.inr (Nat.le_trans E1.1 (Nat.le_of_eq g2.symm)))).trans K5 (allS (Or.inr (Nat.le_trans (Nat.le_refl _) (Nat.le_of_eq g1.symm))) all0)), (Nat.le_trans (Nat.le_refl _) (Nat.le_of_eq g1.symm)), (Nat.le_trans (Nat.le_trans (Nat.le_trans (Nat.le_trans E1.1 E2.1) (Keep.of_wr W3).1) (Keep.of_wr W4).1) p5_0), p5_1, p5_2, p5_3, p5_4, p5_5⟩
theorem d24_59 : decode method_2_code 59 = .ok (.new 7, 3) := by decide +kernel
theorem d24_62 : decode method_2_code 62 = .ok (.dup, 1) := by decide +kernel
theorem d24_63 : decode method_2_code 63 = .ok (.iconst 3, 1) := by decide +kernel
theorem d24_64 : decode method_2_code 64 = .ok (.newarray .char, 2) := by decide +kernel
theorem d24_66 : decode method_2_code 66 = .ok (.dup, 1) := by decide +kernel
theorem d24_67 : decode method_2_code 67 = .ok (.iconst 0, 1) := by decide +kernel
theorem d24_68 : decode method_2_code 68 = .ok (.iload_n 1, 1) := by decide +kernel
theorem d24_69 : decode method_2_code 69 = .ok (.castore, 1) := by decide +kernel
theorem d24_70 : decode method_2_code 70 = .ok (.dup, 1) := by decide +kernel
theorem d24_71 : decode method_2_code 71 = .ok (.iconst 1, 1) := by decide +kernel
theorem d24_72 : decode method_2_code 72 = .ok (.iload_n 2, 1) := by decide +kernel
theorem d24_73 : decode method_2_code 73 = .ok (.castore, 1) := by decide +kernel
theorem d24_74 : decode method_2_code 74 = .ok (.dup, 1) := by decide +kernel
theorem d24_75 : decode method_2_code 75 = .ok (.iconst 2, 1) := by decide +kernel
theorem d24_76 : decode method_2_code 76 = .ok (.iload_n 3, 1) := by decide +kernel
theorem d24_77 : decode method_2_code 77 = .ok (.castore, 1) := by decide +kernel
theorem d24_78 : decode method_2_code 78 = .ok (.invokespecial 9, 3) := by decide +kernel
theorem d24_81 : decode method_2_code 81 = .ok (.areturn, 1) := by decide +kernel
def own_Q_text_3 (Z : State) (z_CS : Int32) (v_FMT : Value) (c0_ : Int32) (c1_ : Int32) (c2_ : Int32) (h0 : Heap) (n0 : Nat) (v : Option Value) (h : Heap) (L : List Loc) : Prop := ∃ x_ : Addr, ∃ ba_ : Addr, ∃ kb_ : ClassId, ∃ cd_ : Int32, ∃ z_ : Int32, ∃ vs_ : List Value, (v = some (.ref x_)) ∧ (Fr n0 L) ∧ (Keep h0 h []) ∧ (h0.size ≤ x_) ∧ (h0.size ≤ ba_) ∧ (Arv Z h ba_ kb_ .byte z_ vs_ (.int 0)) ∧ (Exa Z h x_ "java/lang/String") ∧ (Fld Z h x_ "java/lang/String" "value" "[B" (.ref ba_)) ∧ (Fld Z h x_ "java/lang/String" "coder" "B" (.int cd_)) ∧ (own_enc3 c0_ c1_ c2_ cd_ z_ vs_)
set_option maxRecDepth 65536 in
set_option maxHeartbeats 40000000 in
theorem rm_text_3 (l : Launch) (Z : State) (a0 : Array Value) (hw : ∀ d ∈ tables_1, d.before a0 Z = true) (ws : List Jvm.Cond) (z_CS : Int32) (v_FMT : Value) (c0_ : Int32) (c1_ : Int32) (c2_ : Int32) (h0 : Heap) (n0 : Nat) (SB : own_Start Z z_CS v_FMT) (O0 : Old Z n0 h0) (pr0 : own_c16 c0_) (pr1 : own_c16 c1_) (pr2 : own_c16 c2_) (pr3 : nar .char c0_ = c0_) (pr4 : nar .char c1_ = c1_) (pr5 : nar .char c2_ = c2_) :
    oMet l Z yM23 method_2_code 4 (some (.object "java/lang/String")) ws ({ frames := 6, cells := 4, slots := 16, locals := 88 } : Room) 4 16 #[(.int (3 : Int32)), (.int c0_), (.int c1_), (.int c2_)] h0 (own_Q_text_3 Z z_CS v_FMT c0_ c1_ c2_ h0 n0) := by
  refine oenter own_pn5 #[.val (.int (3 : Int32)), .val (.int c0_), .val (.int c1_), .val (.int c2_)] (fun m => by first | (simp [entryFrame, mkF, argsToLocals, Value.category]; done) | rfl) ?_
  intro p e s m below meth c s₁ X0 hx hZ hby hml hret hown0 hnm hlk e0
  have hown : s.vm.findClass "com/example/rowfold/rowfold/LiteralExpectEndPinLaw" = some m.cls := hown0
  have N0 := Fr.nil n0
  obtain ⟨S_CS, H_CS, S__assertionsDisabled, S_HI_BYTE_SHIFT, S_LO_BYTE_SHIFT, S_FMT, R_FMT⟩ := (id SB)
  have w5 := hw _ (List.mem_of_getElem? (i := 5) rfl)
  have w6 := hw _ (List.mem_of_getElem? (i := 6) rfl)
  have w7 := hw _ (List.mem_of_getElem? (i := 7) rfl)
  have w8 := hw _ (List.mem_of_getElem? (i := 8) rfl)
  have w9 := hw _ (List.mem_of_getElem? (i := 9) rfl)
  have w10 := hw _ (List.mem_of_getElem? (i := 10) rfl)
  have w11 := hw _ (List.mem_of_getElem? (i := 11) rfl)
  have w21 := hw _ (List.mem_of_getElem? (i := 21) rfl)
  have w22 := hw _ (List.mem_of_getElem? (i := 22) rfl)
  refine o_iloadN X0 hx (hb hby d24_0) rfl ?_
  refine o_ifYes X0 hx 15 (hb hby d24_1) (feq (by decide : ¬ ((3 : Int32) = (0 : Int32)))).2 (by decide) (by decide) ?_
  refine o_iloadN X0 hx (hb hby d24_15) rfl ?_
  refine o_iconst X0 hx (1 : Int32) (hb hby d24_16) rfl ?_
  refine o_icmpYes X0 hx 35 (hb hby d24_17) (feq (by decide : ¬ ((3 : Int32) = (1 : Int32)))).2 (by decide) (by decide) ?_
  refine o_iloadN X0 hx (hb hby d24_35) rfl ?_
  refine o_iconst X0 hx (2 : Int32) (hb hby d24_36) rfl ?_
  refine o_icmpYes X0 hx 59 (hb hby d24_37) (feq (by decide : ¬ ((3 : Int32) = (2 : Int32)))).2 (by decide) (by decide) ?_
  obtain ⟨T1, _, X1, rfl, E1, A1, D1, -, st1⟩ := newO X0 hx hZ hown w5 w6 w7 e0 (g := (mkF m 59 #[.val (.int (3 : Int32)), .val (.int c0_), .val (.int c1_), .val (.int c2_)] [])) rfl (hb hby d24_59) (by decide) (by decide)
  obtain ⟨b1, g1⟩ : ∃ z, z = h0.size := ⟨_, rfl⟩
  rw [← g1] at A1 D1 st1
  have n0_b1 : n0 ≤ b1 := Nat.le_trans (Nat.le_trans (Nat.le_of_eq O0.1.symm) O0.2.1) (Nat.le_trans (Nat.le_refl _) (Nat.le_of_eq g1.symm))
  have F1_value : Fld Z T1.heap b1 "java/lang/String" "value" "[B" .null := D1 (Or.inr w21) (ty := (.array .byte)) (by decide)
  have F1_coder : Fld Z T1.heap b1 "java/lang/String" "coder" "B" (.int (0 : Int32)) := D1 (Or.inr w22) (ty := .byte) (by decide)
  refine ogo (S' := T1.setTop (mkF m 62 #[.val (.int (3 : Int32)), .val (.int c0_), .val (.int c1_), .val (.int c2_)] [(.ref b1)])) st1 ?_
  refine o_dup X1 hx (hb hby d24_62) rfl ?_
  refine o_iconst X1 hx (3 : Int32) (hb hby d24_63) rfl ?_
  obtain ⟨T2, _, k2, X2, rfl, E2, A2, Ex2, st2⟩ := newPE (aty := .char) X1 hx hZ w8 rfl (g := (mkF m 64 #[.val (.int (3 : Int32)), .val (.int c0_), .val (.int c1_), .val (.int c2_)] [(.int (3 : Int32)), (.ref b1), (.ref b1)])) rfl (hb hby d24_64) rfl (by decide) (cap := 3) (by decide) (by decide) (by decide) (by decide) (ad := "[C") rfl
  obtain ⟨b2, g2⟩ : ∃ z, z = T1.heap.size := ⟨_, rfl⟩
  rw [← g2] at A2 Ex2 st2
  have n0_b2 : n0 ≤ b2 := Nat.le_trans (Nat.le_trans (Nat.le_of_eq O0.1.symm) O0.2.1) (Nat.le_trans E1.1 (Nat.le_of_eq g2.symm))
  have V2 : Arv Z T2.heap b2 k2 .char (3 : Int32) [(.int 0), (.int 0), (.int 0)] (.int 0) := (Arv.new A2 (by decide)).pad (pad_rep [] (.int 0) 3)
  refine ogo (S' := T2.setTop (mkF m 66 #[.val (.int (3 : Int32)), .val (.int c0_), .val (.int c1_), .val (.int c2_)] [(.ref b2), (.ref b1), (.ref b1)])) st2 ?_
  refine o_dup X2 hx (hb hby d24_66) rfl ?_
  refine o_iconst X2 hx (0 : Int32) (hb hby d24_67) rfl ?_
  refine o_iloadN X2 hx (hb hby d24_68) rfl ?_
  obtain ⟨cl3, Ar3, q3, S3, N3z, H3, G3⟩ := (id V2)
  obtain ⟨T3, _, X3, rfl, W3, st3⟩ := stC X2 hx hZ rfl Ar3 (j := (0 : Int32)) (inb_of S3 ⟨by decide, by decide⟩) (g := (mkF m 69 #[.val (.int (3 : Int32)), .val (.int c0_), .val (.int c1_), .val (.int c2_)] [(.int c0_), (.int (0 : Int32)), (.ref b2), (.ref b2), (.ref b1), (.ref b1)])) rfl rfl (hb hby d24_69)
  rw [pr3] at W3
  have V3 : Arv Z T3.heap b2 k2 .char (3 : Int32) [(.int c0_), (.int 0), (.int 0)] (.int 0) := Arv.set Ar3 q3 S3 N3z H3 G3 (by have q := fits_nar_char c0_; rw [pr3] at q; exact q) W3 0 rfl (Nat.le_of_ble_eq_true rfl)
  have N3 := Fr.snoc X3 N0 n0_b2
  refine ogo (S' := T3.setTop (mkF m 70 #[.val (.int (3 : Int32)), .val (.int c0_), .val (.int c1_), .val (.int c2_)] [(.ref b2), (.ref b1), (.ref b1)])) st3 ?_
  refine o_dup X3 hx (hb hby d24_70) rfl ?_
  refine o_iconst X3 hx (1 : Int32) (hb hby d24_71) rfl ?_
  refine o_iloadN X3 hx (hb hby d24_72) rfl ?_
  obtain ⟨cl4, Ar4, q4, S4, N4z, H4, G4⟩ := (id V3)
  obtain ⟨T4, _, X4, rfl, W4, st4⟩ := stC X3 hx hZ rfl Ar4 (j := (1 : Int32)) (inb_of S4 ⟨by decide, by decide⟩) (g := (mkF m 73 #[.val (.int (3 : Int32)), .val (.int c0_), .val (.int c1_), .val (.int c2_)] [(.int c1_), (.int (1 : Int32)), (.ref b2), (.ref b2), (.ref b1), (.ref b1)])) rfl rfl (hb hby d24_73)
  rw [pr4] at W4
  have V4 : Arv Z T4.heap b2 k2 .char (3 : Int32) [(.int c0_), (.int c1_), (.int 0)] (.int 0) := Arv.set Ar4 q4 S4 N4z H4 G4 (by have q := fits_nar_char c1_; rw [pr4] at q; exact q) W4 1 rfl (Nat.le_of_ble_eq_true rfl)
  have N4 := Fr.snoc X4 N3 n0_b2
  refine ogo (S' := T4.setTop (mkF m 74 #[.val (.int (3 : Int32)), .val (.int c0_), .val (.int c1_), .val (.int c2_)] [(.ref b2), (.ref b1), (.ref b1)])) st4 ?_
  refine o_dup X4 hx (hb hby d24_74) rfl ?_
  refine o_iconst X4 hx (2 : Int32) (hb hby d24_75) rfl ?_
  refine o_iloadN X4 hx (hb hby d24_76) rfl ?_
  obtain ⟨cl5, Ar5, q5, S5, N5z, H5, G5⟩ := (id V4)
  obtain ⟨T5, _, X5, rfl, W5, st5⟩ := stC X4 hx hZ rfl Ar5 (j := (2 : Int32)) (inb_of S5 ⟨by decide, by decide⟩) (g := (mkF m 77 #[.val (.int (3 : Int32)), .val (.int c0_), .val (.int c1_), .val (.int c2_)] [(.int c2_), (.int (2 : Int32)), (.ref b2), (.ref b2), (.ref b1), (.ref b1)])) rfl rfl (hb hby d24_77)
  rw [pr5] at W5
  have V5 : Arv Z T5.heap b2 k2 .char (3 : Int32) [(.int c0_), (.int c1_), (.int c2_)] (.int 0) := Arv.set Ar5 q5 S5 N5z H5 G5 (by have q := fits_nar_char c2_; rw [pr5] at q; exact q) W5 2 rfl (Nat.le_of_ble_eq_true rfl)
  have N5 := Fr.snoc X5 N4 n0_b2
  refine ogo (S' := T5.setTop (mkF m 78 #[.val (.int (3 : Int32)), .val (.int c0_), .val (.int c1_), .val (.int c2_)] [(.ref b2), (.ref b1), (.ref b1)])) st5 ?_
  have c7 := (((((O0.ext E1).ext E2).wr W3 n0_b2).wr W4 n0_b2).wr W5 n0_b2)
  have c8 := (Fld.other W5 (Fld.other W4 (Fld.other W3 (Fld.ext E2 F1_value) (Or.inl (Nat.ne_of_lt (Nat.lt_of_lt_of_le (Nat.lt_of_lt_of_le A1.lt (Nat.le_refl _)) (Nat.le_of_eq g2.symm))))) (Or.inl (Nat.ne_of_lt (Nat.lt_of_lt_of_le (Nat.lt_of_lt_of_le A1.lt (Nat.le_refl _)) (Nat.le_of_eq g2.symm))))) (Or.inl (Nat.ne_of_lt (Nat.lt_of_lt_of_le (Nat.lt_of_lt_of_le A1.lt (Nat.le_refl _)) (Nat.le_of_eq g2.symm)))))
  have c9 := (Fld.other W5 (Fld.other W4 (Fld.other W3 (Fld.ext E2 F1_coder) (Or.inl (Nat.ne_of_lt (Nat.lt_of_lt_of_le (Nat.lt_of_lt_of_le A1.lt (Nat.le_refl _)) (Nat.le_of_eq g2.symm))))) (Or.inl (Nat.ne_of_lt (Nat.lt_of_lt_of_le (Nat.lt_of_lt_of_le A1.lt (Nat.le_refl _)) (Nat.le_of_eq g2.symm))))) (Or.inl (Nat.ne_of_lt (Nat.lt_of_lt_of_le (Nat.lt_of_lt_of_le A1.lt (Nat.le_refl _)) (Nat.le_of_eq g2.symm)))))
  obtain ⟨_, _, ⟨T6, L6, kc6, n6⟩, -, X6, ⟨Lc6, hQ6, l6, y6, z6⟩, st6⟩ := X5.specialBack hx (y := yM10) rfl hown (mvT hZ w9) (mvT hZ w10) (mvT hZ w11) (by decide) (backOf (W := 1) (rm_new1e_3 l Z a0 hw [] z_CS v_FMT b1 b2 k2 c0_ c1_ c2_ T5.heap n0 SB c7 (Exa.wr W5 (Exa.wr W4 (Exa.wr W3 (Exa.ext E2 A1)))) c8 c9 V5 n0_b1 pr0 pr1 pr2) hZ w11 w7 (by decide) (by decide)) (g := (mkF m 78 #[.val (.int (3 : Int32)), .val (.int c0_), .val (.int c1_), .val (.int c2_)] [(.ref b2), (.ref b1), (.ref b1)])) rfl (by rw [hml]; rfl) (Steps.refl _) (a := b1) (argsL := [(.ref b2)]) (rest := [(.ref b1)]) (lenOf own_pd16 rfl) rfl (by show 2 * 0 + _ ≤ _; exact Nat.le_of_eq rfl) (hb hby d24_78) (fun _ _ => ⟨rfl, rfl, (by decide : 2 + 2 ≤ _), (by decide : 7 + 9 ≤ _)⟩)
  dsimp only [Pt.U, Pt.locs, Pt.cells, Pt.slots] at X6 l6 y6 z6 st6 hQ6
  subst l6 y6 z6
  obtain ⟨ba_6, kb_6, cd_6, z_6, vs_6, rfl, Nq6, K6, p6_0, p6_1, p6_2, p6_3, p6_4, p6_5⟩ := hQ6
  have N6 := Fr.app N5 Nq6
  have n0_ba_6 : n0 ≤ ba_6 := Nat.le_trans (Nat.le_trans (Nat.le_of_eq O0.1.symm) O0.2.1) (Nat.le_trans (Nat.le_trans (Nat.le_trans (Nat.le_trans (Nat.le_trans E1.1 E2.1) (Keep.of_wr W3).1) (Keep.of_wr W4).1) (Keep.of_wr W5).1) p6_0)
  refine otr (S' := T6.setTop (mkF m 81 #[.val (.int (3 : Int32)), .val (.int c0_), .val (.int c1_), .val (.int c2_)] [(.ref b1)])) st6 ?_
  refine oend X6 hlk (v := some (.ref b1)) (fun h => by rw [hret] at h; cases h) (fun fs hr => retOut X6 hx (t := (.object "java/lang/String")) (i := .areturn) hret rfl (Or.inr (Or.inr (Or.inr (Or.inr ⟨rfl, rfl, rfl⟩)))) (hb hby d24_81) hr) (by decide) (by decide) ?_
  show own_Q_text_3 Z _ _ _ _ _ h0 n0 _ T6.heap _
  exact ⟨b1, ba_6, kb_6, cd_6, z_6, vs_6, rfl, N6, (((((((Keep.refl h0 []).ext E1).ext E2).wr W3 (Or.inr (Nat.le_trans E1.1 (Nat.le_of_eq g2.symm)))).wr W4 (Or.inr (Nat.le_trans E1.1 (Nat.le_of_eq g2.symm)))).wr W5 (Or.inr (Nat.le_trans E1.1 (Nat.le_of_eq g2.symm)))).trans K6 (allS (Or.inr (Nat.le_trans (Nat.le_refl _) (Nat.le_of_eq g1.symm))) all0)), (Nat.le_trans (Nat.le_refl _) (Nat.le_of_eq g1.symm)), (Nat.le_trans (Nat.le_trans (Nat.le_trans (Nat.le_trans (Nat.le_trans E1.1 E2.1) (Keep.of_wr W3).1) (Keep.of_wr W4).1) (Keep.of_wr W5).1) p6_0), p6_1, p6_2, p6_3, p6_4, p6_5⟩
theorem own_pd17 : parseMethodDescriptor "(ICCC)Ljava/lang/String;" = some ⟨[.int, .char, .char, .char], some (.object "java/lang/String")⟩ := by decide +kernel
theorem own_pd18 : parseMethodDescriptor "(Ljava/lang/String;)V" = some ⟨[(.object "java/lang/String")], none⟩ := by decide +kernel
theorem own_pd19 : parseMethodDescriptor "()V" = some ⟨[], none⟩ := by decide +kernel
theorem own_pd20 : parseMethodDescriptor "(C)Z" = some ⟨[.char], some .boolean⟩ := by decide +kernel
def own_Q_law (Z : State) (z_CS : Int32) (v_FMT : Value) (n_ : Int32) (a_ : Int32) (b_ : Int32) (c_ : Int32) (h0 : Heap) (n0 : Nat) (v : Option Value) (h : Heap) (L : List Loc) : Prop := (v = some (.int (1 : Int32))) ∧ (Fr n0 L) ∧ (Keep h0 h [])
set_option maxRecDepth 65536 in
set_option maxHeartbeats 40000000 in
theorem rm_law (l : Launch) (Z : State) (a0 : Array Value) (hw : ∀ d ∈ tables_1, d.before a0 Z = true) (ws : List Jvm.Cond) (z_CS : Int32) (v_FMT : Value) (n_ : Int32) (a_ : Int32) (b_ : Int32) (c_ : Int32) (h0 : Heap) (n0 : Nat) (SB : own_Start Z z_CS v_FMT) (O0 : Old Z n0 h0)  :
    oMetS l Z x code maxLocals ret ws room_1 24 1152 #[(.int n_), (.int a_), (.int b_), (.int c_)] h0 (own_Q_law Z z_CS v_FMT n_ a_ b_ c_ h0 n0) := by
  refine oenterS own_pn5 #[.val (.int n_), .val (.int a_), .val (.int b_), .val (.int c_), .unset, .unset, .unset, .unset, .unset, .unset, .unset] (fun m => by first | (simp [entryFrame, mkF, argsToLocals, Value.category, maxLocals]; done) | rfl) ?_
  intro p e s m below meth c s₁ X0 hx hZ hby hml hret hown0 hnm hlk e0 hs0 H0 hS0
  have hEL := own_EW hw
  have wS := own_wS hw
  have hown : s.vm.findClass "com/example/rowfold/rowfold/LiteralExpectEndPinLaw" = some m.cls := hown0
  have N0 := Fr.nil n0
  obtain ⟨S_CS, H_CS, S__assertionsDisabled, S_HI_BYTE_SHIFT, S_LO_BYTE_SHIFT, S_FMT, R_FMT⟩ := (id SB)
  have w0 := hw _ (List.mem_of_getElem? (i := 0) rfl)
  have w1 := hw _ (List.mem_of_getElem? (i := 1) rfl)
  have w2 := hw _ (List.mem_of_getElem? (i := 2) rfl)
  have w3 := hw _ (List.mem_of_getElem? (i := 3) rfl)
  have w4 := hw _ (List.mem_of_getElem? (i := 4) rfl)
  have w7 := hw _ (List.mem_of_getElem? (i := 7) rfl)
  have w27 := hw _ (List.mem_of_getElem? (i := 27) rfl)
  have w28 := hw _ (List.mem_of_getElem? (i := 28) rfl)
  have w29 := hw _ (List.mem_of_getElem? (i := 29) rfl)
  have w30 := hw _ (List.mem_of_getElem? (i := 30) rfl)
  have w31 := hw _ (List.mem_of_getElem? (i := 31) rfl)
  have w38 := hw _ (List.mem_of_getElem? (i := 38) rfl)
  have w39 := hw _ (List.mem_of_getElem? (i := 39) rfl)
  have w40 := hw _ (List.mem_of_getElem? (i := 40) rfl)
  have w41 := hw _ (List.mem_of_getElem? (i := 41) rfl)
  have w42 := hw _ (List.mem_of_getElem? (i := 42) rfl)
  have w43 := hw _ (List.mem_of_getElem? (i := 43) rfl)
  have w46 := hw _ (List.mem_of_getElem? (i := 46) rfl)
  have w47 := hw _ (List.mem_of_getElem? (i := 47) rfl)
  have w48 := hw _ (List.mem_of_getElem? (i := 48) rfl)
  have w49 := hw _ (List.mem_of_getElem? (i := 49) rfl)
  have w50 := hw _ (List.mem_of_getElem? (i := 50) rfl)
  have w51 := hw _ (List.mem_of_getElem? (i := 51) rfl)
  have w53 := hw _ (List.mem_of_getElem? (i := 53) rfl)
  have w55 := hw _ (List.mem_of_getElem? (i := 55) rfl)
  have w56 := hw _ (List.mem_of_getElem? (i := 56) rfl)
  have w57 := hw _ (List.mem_of_getElem? (i := 57) rfl)
  have w58 := hw _ (List.mem_of_getElem? (i := 58) rfl)
  have w59 := hw _ (List.mem_of_getElem? (i := 59) rfl)
  refine o_iloadN X0 hx (hb hby at_0) rfl ?_
  refine o_iconst X0 hx (3 : Int32) (hb hby at_1) rfl ?_
  refine o_iand X0 hx (hb hby at_2) ?_
  refine o_istore X0 hx (l' := #[.val (.int n_), .val (.int a_), .val (.int b_), .val (.int c_), .val (.int (n_ &&& (3 : Int32))), .unset, .unset, .unset, .unset, .unset, .unset]) (hb hby at_3) rfl ?_
  refine o_iloadN X0 hx (hb hby at_5) rfl ?_
  refine ogo (S' := s₁.setTop (mkF m 8 #[.val (.int n_), .val (.int a_), .val (.int b_), .val (.int c_), .val (.int (n_ &&& (3 : Int32))), .unset, .unset, .unset, .unset, .unset, .unset] [(.int (65535 : Int32)), (.int a_)])) (X0.ldcInt hx hown (mvT hZ w0) (g := (mkF m 6 #[.val (.int n_), .val (.int a_), .val (.int b_), .val (.int c_), .val (.int (n_ &&& (3 : Int32))), .unset, .unset, .unset, .unset, .unset, .unset] [(.int a_)])) rfl (hb hby at_6)) ?_
  refine o_iand X0 hx (hb hby at_8) ?_
  refine o_i2c X0 hx (hb hby at_9) ?_
  refine o_istore X0 hx (l' := #[.val (.int n_), .val (.int a_), .val (.int b_), .val (.int c_), .val (.int (n_ &&& (3 : Int32))), .val (.int (nar .char (a_ &&& (65535 : Int32)))), .unset, .unset, .unset, .unset, .unset]) (hb hby at_10) rfl ?_
  generalize hgu0 : (nar .char (a_ &&& (65535 : Int32))) = u0
  have hcu0 : own_c16 u0 := hgu0 ▸ own_c16_i2c _
  refine o_iloadN X0 hx (hb hby at_12) rfl ?_
  refine ogo (S' := s₁.setTop (mkF m 15 #[.val (.int n_), .val (.int a_), .val (.int b_), .val (.int c_), .val (.int (n_ &&& (3 : Int32))), .val (.int u0), .unset, .unset, .unset, .unset, .unset] [(.int (65535 : Int32)), (.int b_)])) (X0.ldcInt hx hown (mvT hZ w0) (g := (mkF m 13 #[.val (.int n_), .val (.int a_), .val (.int b_), .val (.int c_), .val (.int (n_ &&& (3 : Int32))), .val (.int u0), .unset, .unset, .unset, .unset, .unset] [(.int b_)])) rfl (hb hby at_13)) ?_
  refine o_iand X0 hx (hb hby at_15) ?_
  refine o_i2c X0 hx (hb hby at_16) ?_
  refine o_istore X0 hx (l' := #[.val (.int n_), .val (.int a_), .val (.int b_), .val (.int c_), .val (.int (n_ &&& (3 : Int32))), .val (.int u0), .val (.int (nar .char (b_ &&& (65535 : Int32)))), .unset, .unset, .unset, .unset]) (hb hby at_17) rfl ?_
  generalize hgu1 : (nar .char (b_ &&& (65535 : Int32))) = u1
  have hcu1 : own_c16 u1 := hgu1 ▸ own_c16_i2c _
  refine o_iloadN X0 hx (hb hby at_19) rfl ?_
  refine ogo (S' := s₁.setTop (mkF m 22 #[.val (.int n_), .val (.int a_), .val (.int b_), .val (.int c_), .val (.int (n_ &&& (3 : Int32))), .val (.int u0), .val (.int u1), .unset, .unset, .unset, .unset] [(.int (65535 : Int32)), (.int c_)])) (X0.ldcInt hx hown (mvT hZ w0) (g := (mkF m 20 #[.val (.int n_), .val (.int a_), .val (.int b_), .val (.int c_), .val (.int (n_ &&& (3 : Int32))), .val (.int u0), .val (.int u1), .unset, .unset, .unset, .unset] [(.int c_)])) rfl (hb hby at_20)) ?_
  refine o_iand X0 hx (hb hby at_22) ?_
  refine o_i2c X0 hx (hb hby at_23) ?_
  refine o_istore X0 hx (l' := #[.val (.int n_), .val (.int a_), .val (.int b_), .val (.int c_), .val (.int (n_ &&& (3 : Int32))), .val (.int u0), .val (.int u1), .val (.int (nar .char (c_ &&& (65535 : Int32)))), .unset, .unset, .unset]) (hb hby at_24) rfl ?_
  generalize hgu2 : (nar .char (c_ &&& (65535 : Int32))) = u2
  have hcu2 : own_c16 u2 := hgu2 ▸ own_c16_i2c _
  rcases own_and3 n_ with hs1 | hs1 | hs1 | hs1
  · rw [hs1]
    refine o_iload X0 hx (hb hby at_26) rfl ?_
    refine o_iload X0 hx (hb hby at_28) rfl ?_
    refine o_iload X0 hx (hb hby at_30) rfl ?_
    refine o_iload X0 hx (hb hby at_32) rfl ?_
    obtain ⟨_, _, ⟨T2, L2, kc2, n2⟩, -, X2, hSi2, hgr2, ⟨Lc2, hQ2, l2, y2, z2, C2⟩, st2⟩ := callSS X0 hx (y := yM23) hown (mvT hZ w1) (mvT hZ w2) (mvT hZ w3) (mvT hZ w4) (by decide) (backOfSH (W := 0) (rm_text_0 l Z a0 hw [] z_CS v_FMT u0 u1 u2 h0 n0 SB O0 ) hZ w4 w3 (by decide) (by decide) hEL H0) (g := (mkF m 34 #[.val (.int n_), .val (.int a_), .val (.int b_), .val (.int c_), .val (.int (0 : Int32)), .val (.int u0), .val (.int u1), .val (.int u2), .unset, .unset, .unset] [(.int u2), (.int u1), (.int u0), (.int (0 : Int32))])) rfl (by rw [hml]; rfl) (argsL := [(.int (0 : Int32)), (.int u0), (.int u1), (.int u2)]) (rest := []) (lenOf own_pd17 rfl) rfl (by show 2 * 0 + _ ≤ _; exact Nat.le_of_eq rfl) (hb hby at_34) (fun _ _ => ⟨rfl, e0, (by decide : 0 + 6 ≤ _), (by decide : 0 + 12 ≤ _)⟩)
    dsimp only [Pt.U, Pt.locs, Pt.cells, Pt.slots] at X2 l2 y2 z2 st2 hQ2 hSi2 hgr2 C2
    subst l2 y2 z2
    obtain ⟨x_2, ba_2, kb_2, rfl, Nq2, K2, p2_0, p2_1, p2_2, p2_3, p2_4, p2_5⟩ := hQ2
    have N2 := Fr.app N0 Nq2
    have X2 : Stand p l e room_1 (s.setVm T2.vm) m #[(.int n_), (.int a_), (.int b_), (.int c_)] below meth c T2 _ _ _ := X2
    have hS2 := foldS hS0 (by rw [e0]; exact (Nat.zero_le _)) hSi2 hgr2
    have hZ2 : Z.Warmed39 T2.vm := State.Warmed39.trans (t := s) hZ hSi2.1
    have hown2 : T2.vm.findClass "com/example/rowfold/rowfold/LiteralExpectEndPinLaw" = some m.cls := by rw [hSi2.1.alike.findClass]; exact hown
    have H3 := C2.1
    have n0_x_2 : n0 ≤ x_2 := Nat.le_trans (Nat.le_trans (Nat.le_of_eq O0.1.symm) O0.2.1) (Nat.le_trans (Nat.le_refl _) p2_0)
    refine otr (S' := T2.setTop (mkF m 37 #[.val (.int n_), .val (.int a_), .val (.int b_), .val (.int c_), .val (.int (0 : Int32)), .val (.int u0), .val (.int u1), .val (.int u2), .unset, .unset, .unset] [(.ref x_2)])) st2 ?_
    refine o_astore X2 hx (l' := #[.val (.int n_), .val (.int a_), .val (.int b_), .val (.int c_), .val (.int (0 : Int32)), .val (.int u0), .val (.int u1), .val (.int u2), .val (.ref x_2), .unset, .unset]) (hb hby at_37) rfl rfl ?_
    refine o_aload X2 hx (hb hby at_39) rfl rfl ?_
    obtain ⟨cq4, kq4, q4a, q4b, q4c⟩ := isOf hZ2 rfl p2_3
    obtain ⟨_, _, ⟨T4, L4, kc4, n4⟩, -, X4, ⟨Lc4, hQ4, l4, y4, z4⟩, st4⟩ := X2.virtualBack hx (y := yM12) (z := yM12) hown2 (mvT hZ2 w27) (mvT hZ2 w28) (notFace_of_selects (args := #[]) (mvT hZ2 w30)) (mvT hZ2 w30) (mvT hZ2 w29) (by decide) (backOf (W := 0) (rm_len_0 l Z a0 hw [] z_CS v_FMT x_2 ba_2 kb_2 [] T2.heap n0 SB (O0.keep K2 all0) p2_3 p2_5 p2_4 p2_2) hZ2 w31 w7 (by decide) (by decide)) q4a q4c (g := (mkF m 41 #[.val (.int n_), .val (.int a_), .val (.int b_), .val (.int c_), .val (.int (0 : Int32)), .val (.int u0), .val (.int u1), .val (.int u2), .val (.ref x_2), .unset, .unset] [(.ref x_2)])) rfl (by rw [hml]; rfl) (Steps.refl _) (argsL := []) (rest := []) (lenOf own_pd9 rfl) rfl (by show 2 * 0 + _ ≤ _; exact Nat.le_of_eq rfl) (hb hby at_41) (fun _ _ => ⟨rfl, rfl, (by decide : 6 + 0 ≤ _), (by decide : 12 + 0 ≤ _)⟩)
    dsimp only [Pt.U, Pt.locs, Pt.cells, Pt.slots] at X4 l4 y4 z4 st4 hQ4
    subst l4 y4 z4
    obtain ⟨rfl, Nq4, e4⟩ := hQ4
    have N4 := Fr.app N2 Nq4
    refine otr (S' := T4.setTop (mkF m 44 #[.val (.int n_), .val (.int a_), .val (.int b_), .val (.int c_), .val (.int (0 : Int32)), .val (.int u0), .val (.int u1), .val (.int u2), .val (.ref x_2), .unset, .unset] [(.int (0 : Int32))])) st4 ?_
    refine o_iload X4 hx (hb hby at_44) rfl ?_
    refine o_icmpYes X4 hx 51 (hb hby at_46) (teq (by decide : (0 : Int32) = (0 : Int32))).1 (by decide) (by decide) ?_
    obtain ⟨T5, _, X5, rfl, E5, A5, D5, -, st5⟩ := newO X4 hx hZ2 hown2 w38 w39 w40 e4 (g := (mkF m 51 #[.val (.int n_), .val (.int a_), .val (.int b_), .val (.int c_), .val (.int (0 : Int32)), .val (.int u0), .val (.int u1), .val (.int u2), .val (.ref x_2), .unset, .unset] [])) rfl (hb hby at_51) (by decide) (by decide)
    obtain ⟨b5, g5⟩ : ∃ z, z = T2.heap.size := ⟨_, rfl⟩
    rw [← g5] at A5 D5 st5
    have n0_b5 : n0 ≤ b5 := Nat.le_trans (Nat.le_trans (Nat.le_of_eq O0.1.symm) O0.2.1) (Nat.le_trans K2.1 (Nat.le_of_eq g5.symm))
    have H6 := CHv.ext E5 H3
    have F5_text : Fld Z T5.heap b5 "com/example/rowfold/rowfold/Literal" "text" "Ljava/lang/String;" .null := D5 (Or.inr w46) (ty := (.object "java/lang/String")) (by decide)
    have F5_at : Fld Z T5.heap b5 "com/example/rowfold/rowfold/Literal" "at" "I" (.int (0 : Int32)) := D5 (Or.inl w53) (ty := .int) (by decide)
    refine ogo (S' := T5.setTop (mkF m 54 #[.val (.int n_), .val (.int a_), .val (.int b_), .val (.int c_), .val (.int (0 : Int32)), .val (.int u0), .val (.int u1), .val (.int u2), .val (.ref x_2), .unset, .unset] [(.ref b5)])) st5 ?_
    refine o_dup X5 hx (hb hby at_54) rfl ?_
    refine o_aload X5 hx (hb hby at_55) rfl rfl ?_
    obtain ⟨_, _, ⟨T7, L7, kc7, n7⟩, -, X7, ⟨Lc7, hQ7, l7, y7, z7⟩, st7⟩ := X5.specialBack hx (y := yM0) rfl hown2 (mvT hZ2 w41) (mvT hZ2 w42) (mvT hZ2 w43) (by decide) (backOf (W := 1) (rm_linit l Z a0 hw []  b5 x_2 T5.heap n0 ((O0.keep K2 all0).ext E5) A5 F5_text F5_at n0_b5) hZ2 w43 w40 (by decide) (by decide)) (g := (mkF m 57 #[.val (.int n_), .val (.int a_), .val (.int b_), .val (.int c_), .val (.int (0 : Int32)), .val (.int u0), .val (.int u1), .val (.int u2), .val (.ref x_2), .unset, .unset] [(.ref x_2), (.ref b5), (.ref b5)])) rfl (by rw [hml]; rfl) (Steps.refl _) (a := b5) (argsL := [(.ref x_2)]) (rest := [(.ref b5)]) (lenOf own_pd18 rfl) rfl (by show 2 * 0 + _ ≤ _; exact Nat.le_of_eq rfl) (hb hby at_57) (fun _ _ => ⟨rfl, rfl, (by decide : 7 + 0 ≤ _), (by decide : 14 + 0 ≤ _)⟩)
    dsimp only [Pt.U, Pt.locs, Pt.cells, Pt.slots] at X7 l7 y7 z7 st7 hQ7
    subst l7 y7 z7
    obtain ⟨rfl, Nq7, K7, p7_0, p7_1, p7_2⟩ := hQ7
    have N7 := Fr.app N4 Nq7
    have H8 := CHv.keep K7 (allS (Safe.exa hZ2.alike A5 (by decide) (by decide)) all0) H6
    refine otr (S' := T7.setTop (mkF m 60 #[.val (.int n_), .val (.int a_), .val (.int b_), .val (.int c_), .val (.int (0 : Int32)), .val (.int u0), .val (.int u1), .val (.int u2), .val (.ref x_2), .unset, .unset] [(.ref b5)])) st7 ?_
    refine o_astore X7 hx (l' := #[.val (.int n_), .val (.int a_), .val (.int b_), .val (.int c_), .val (.int (0 : Int32)), .val (.int u0), .val (.int u1), .val (.int u2), .val (.ref x_2), .val (.ref b5), .unset]) (hb hby at_60) rfl rfl ?_
    refine o_iconst X7 hx (1 : Int32) (hb hby at_62) rfl ?_
    refine o_istore X7 hx (l' := #[.val (.int n_), .val (.int a_), .val (.int b_), .val (.int c_), .val (.int (0 : Int32)), .val (.int u0), .val (.int u1), .val (.int u2), .val (.ref x_2), .val (.ref b5), .val (.int (1 : Int32))]) (hb hby at_63) rfl ?_
    refine o_iload X7 hx (hb hby at_65) rfl ?_
    refine o_iconst X7 hx (1 : Int32) (hb hby at_67) rfl ?_
    refine o_icmpYes X7 hx 93 (hb hby at_68) (tlt (by decide : (0 : Int32) < (1 : Int32))).1 (by decide) (by decide) ?_
    refine o_iload X7 hx (hb hby at_93) rfl ?_
    refine o_iconst X7 hx (2 : Int32) (hb hby at_95) rfl ?_
    refine o_icmpYes X7 hx 121 (hb hby at_96) (tlt (by decide : (0 : Int32) < (2 : Int32))).1 (by decide) (by decide) ?_
    refine o_iload X7 hx (hb hby at_121) rfl ?_
    refine o_iconst X7 hx (3 : Int32) (hb hby at_123) rfl ?_
    refine o_icmpYes X7 hx 149 (hb hby at_124) (tlt (by decide : (0 : Int32) < (3 : Int32))).1 (by decide) (by decide) ?_
    refine o_iload X7 hx (hb hby at_149) rfl ?_
    refine o_ifYes X7 hx 156 (hb hby at_151) (feq (by decide : ¬ ((1 : Int32) = (0 : Int32)))).2 (by decide) (by decide) ?_
    refine o_aload X7 hx (hb hby at_156) rfl rfl ?_
    have c10 := ((Fld.ext E5 p2_5).keep K7 (ninS (Nat.ne_of_lt (Nat.lt_of_lt_of_le (Nat.lt_of_lt_of_le p2_3.lt (Nat.le_refl _)) (Nat.le_of_eq g5.symm))) nin0))
    have c11 := ((Fld.ext E5 p2_4).keep K7 (ninS (Nat.ne_of_lt (Nat.lt_of_lt_of_le (Nat.lt_of_lt_of_le p2_3.lt (Nat.le_refl _)) (Nat.le_of_eq g5.symm))) nin0))
    have c12 := ((p2_2.ext E5).keep K7 (ninS (Nat.ne_of_lt (Nat.lt_of_lt_of_le (Nat.lt_of_lt_of_le p2_1 (Nat.le_refl _)) (Nat.le_of_eq g5.symm))) nin0))
    obtain ⟨cq9, kq9, q9a, q9b, q9c⟩ := isOf hZ2 rfl p7_0
    obtain ⟨_, _, ⟨T9, L9, kc9, n9⟩, -, X9, ⟨Lc9, hQ9, l9, y9, z9⟩, st9⟩ := X7.virtualBack hx (y := yM14) (z := yM14) hown2 (mvT hZ2 w47) (mvT hZ2 w48) (notFace_of_selects (args := #[]) (mvT hZ2 w50)) (mvT hZ2 w50) (mvT hZ2 w49) (by decide) (backOf (W := 0) (rm_expend_0 l Z a0 hw [] z_CS v_FMT b5 x_2 ba_2 kb_2 T7.heap n0 SB (((O0.keep K2 all0).ext E5).keep K7 (allS n0_b5 all0)) p7_0 p7_1 p7_2 ((Exa.ext E5 p2_3).keep K7) c10 c11 c12) hZ2 w51 w40 (by decide) (by decide)) q9a q9c (g := (mkF m 158 #[.val (.int n_), .val (.int a_), .val (.int b_), .val (.int c_), .val (.int (0 : Int32)), .val (.int u0), .val (.int u1), .val (.int u2), .val (.ref x_2), .val (.ref b5), .val (.int (1 : Int32))] [(.ref b5)])) rfl (by rw [hml]; rfl) (Steps.refl _) (argsL := []) (rest := []) (lenOf own_pd19 rfl) rfl (by show 2 * 0 + _ ≤ _; exact Nat.le_of_eq rfl) (hb hby at_158) (fun _ _ => ⟨rfl, rfl, (by decide : 7 + 0 ≤ _), (by decide : 14 + 0 ≤ _)⟩)
    dsimp only [Pt.U, Pt.locs, Pt.cells, Pt.slots] at X9 l9 y9 z9 st9 hQ9
    subst l9 y9 z9
    obtain ⟨rfl, Nq9, e9⟩ := hQ9
    have N9 := Fr.app N7 Nq9
    refine otr (S' := T9.setTop (mkF m 161 #[.val (.int n_), .val (.int a_), .val (.int b_), .val (.int c_), .val (.int (0 : Int32)), .val (.int u0), .val (.int u1), .val (.int u2), .val (.ref x_2), .val (.ref b5), .val (.int (1 : Int32))] [])) st9 ?_
    refine o_aload X9 hx (hb hby at_161) rfl rfl ?_
    obtain ⟨cq13, kq13, q13a, q13b, q13c⟩ := isOf hZ2 e9 p7_0
    obtain ⟨_, _, ⟨T13, L13, kc13, n13⟩, -, X13, ⟨Lc13, hQ13, l13, y13, z13⟩, st13⟩ := X9.virtualBack hx (y := yM14) (z := yM14) hown2 (mvT hZ2 w47) (mvT hZ2 w48) (notFace_of_selects (args := #[]) (mvT hZ2 w50)) (mvT hZ2 w50) (mvT hZ2 w49) (by decide) (backOf (W := 0) (rm_expend_0 l Z a0 hw [] z_CS v_FMT b5 x_2 ba_2 kb_2 T7.heap n0 SB (((O0.keep K2 all0).ext E5).keep K7 (allS n0_b5 all0)) p7_0 p7_1 p7_2 ((Exa.ext E5 p2_3).keep K7) c10 c11 c12) hZ2 w51 w40 (by decide) (by decide)) q13a q13c (g := (mkF m 163 #[.val (.int n_), .val (.int a_), .val (.int b_), .val (.int c_), .val (.int (0 : Int32)), .val (.int u0), .val (.int u1), .val (.int u2), .val (.ref x_2), .val (.ref b5), .val (.int (1 : Int32))] [(.ref b5)])) rfl (by rw [hml]; rfl) (Steps.refl _) (argsL := []) (rest := []) (lenOf own_pd19 rfl) rfl (by show 2 * 0 + _ ≤ _; exact Nat.le_of_eq rfl) (hb hby at_163) (fun _ _ => ⟨rfl, e9, (by decide : 7 + 0 ≤ _), (by decide : 14 + 0 ≤ _)⟩)
    dsimp only [Pt.U, Pt.locs, Pt.cells, Pt.slots] at X13 l13 y13 z13 st13 hQ13
    subst l13 y13 z13
    obtain ⟨rfl, Nq13, e13⟩ := hQ13
    have N13 := Fr.app N9 Nq13
    refine otr (S' := T13.setTop (mkF m 166 #[.val (.int n_), .val (.int a_), .val (.int b_), .val (.int c_), .val (.int (0 : Int32)), .val (.int u0), .val (.int u1), .val (.int u2), .val (.ref x_2), .val (.ref b5), .val (.int (1 : Int32))] [])) st13 ?_
    refine o_aload X13 hx (hb hby at_166) rfl rfl ?_
    refine o_iload X13 hx (hb hby at_168) rfl ?_
    obtain ⟨cq14, kq14, q14a, q14b, q14c⟩ := isOf hZ2 e13 p7_0
    obtain ⟨_, _, ⟨T14, L14, kc14, n14⟩, -, X14, ⟨Lc14, hQ14, l14, y14, z14⟩, st14⟩ := X13.virtualBack hx (y := yM13) (z := yM13) hown2 (mvT hZ2 w55) (mvT hZ2 w56) (notFace_of_selects (args := #[]) (mvT hZ2 w58)) (mvT hZ2 w58) (mvT hZ2 w57) (by decide) (backOf (W := 0) (rm_skipZ l Z a0 hw [] z_CS v_FMT b5 x_2 ba_2 kb_2 u0 T7.heap n0 SB (((O0.keep K2 all0).ext E5).keep K7 (allS n0_b5 all0)) p7_0 p7_1 p7_2 ((Exa.ext E5 p2_3).keep K7) c10 c11 c12) hZ2 w59 w40 (by decide) (by decide)) q14a q14c (g := (mkF m 170 #[.val (.int n_), .val (.int a_), .val (.int b_), .val (.int c_), .val (.int (0 : Int32)), .val (.int u0), .val (.int u1), .val (.int u2), .val (.ref x_2), .val (.ref b5), .val (.int (1 : Int32))] [(.int u0), (.ref b5)])) rfl (by rw [hml]; rfl) (Steps.refl _) (argsL := [(.int u0)]) (rest := []) (lenOf own_pd20 rfl) rfl (by show 2 * 0 + _ ≤ _; exact Nat.le_of_eq rfl) (hb hby at_170) (fun _ _ => ⟨rfl, e13, (by decide : 7 + 0 ≤ _), (by decide : 14 + 0 ≤ _)⟩)
    dsimp only [Pt.U, Pt.locs, Pt.cells, Pt.slots] at X14 l14 y14 z14 st14 hQ14
    subst l14 y14 z14
    obtain ⟨rfl, Nq14, e14⟩ := hQ14
    have N14 := Fr.app N13 Nq14
    refine otr (S' := T14.setTop (mkF m 173 #[.val (.int n_), .val (.int a_), .val (.int b_), .val (.int c_), .val (.int (0 : Int32)), .val (.int u0), .val (.int u1), .val (.int u2), .val (.ref x_2), .val (.ref b5), .val (.int (1 : Int32))] [(.int (0 : Int32))])) st14 ?_
    refine o_ifNo X14 hx (hb hby at_173) (teq (by decide : (0 : Int32) = (0 : Int32))).2 ?_
    refine o_iconst X14 hx (1 : Int32) (hb hby at_176) rfl ?_
    refine o_goto X14 hx 181 (hb hby at_177) (by decide) (by decide) ?_
    refine oendS X14 hlk hS2 (Nat.le_trans (Nat.le_refl _) (Nat.le_trans E5.1 K7.1)) e14 hZ2 hEL hs0 (CHr.trans (CHr.trans (CHr.trans (CHr.refl H0) C2) (CHr.ext E5 H3)) (CHr.keep K7 (allS (Safe.exa hZ2.alike A5 (by decide) (by decide)) all0) H6)) (v := some (.int (1 : Int32))) (fun h => by rw [hret] at h; cases h) (fun fs hr => retN X14 hx (t := .boolean) hret (by simp) (hb hby at_181) hr) (by decide) (by decide) ?_
    show own_Q_law Z _ _ _ _ _ _ h0 n0 _ T14.heap _
    rw [e14]
    exact ⟨rfl, N14, ((((Keep.refl h0 []).trans K2 all0).ext E5).trans K7 (allS (Or.inr (Nat.le_trans K2.1 (Nat.le_of_eq g5.symm))) all0))⟩
  · rw [hs1]
    refine o_iload X0 hx (hb hby at_26) rfl ?_
    refine o_iload X0 hx (hb hby at_28) rfl ?_
    refine o_iload X0 hx (hb hby at_30) rfl ?_
    refine o_iload X0 hx (hb hby at_32) rfl ?_
    obtain ⟨_, _, ⟨T15, L15, kc15, n15⟩, -, X15, ⟨Lc15, hQ15, l15, y15, z15⟩, st15⟩ := Jvm.LawKit.callS X0 hx (y := yM23) hown (mvT hZ w1) (mvT hZ w2) (mvT hZ w3) (mvT hZ w4) (by decide) (backOf (W := 0) (rm_text_1 l Z a0 hw [] z_CS v_FMT u0 u1 u2 h0 n0 SB O0 hcu0 (own_nar16 hcu0)) hZ w4 w3 (by decide) (by decide)) (g := (mkF m 34 #[.val (.int n_), .val (.int a_), .val (.int b_), .val (.int c_), .val (.int (1 : Int32)), .val (.int u0), .val (.int u1), .val (.int u2), .unset, .unset, .unset] [(.int u2), (.int u1), (.int u0), (.int (1 : Int32))])) rfl (by rw [hml]; rfl) (argsL := [(.int (1 : Int32)), (.int u0), (.int u1), (.int u2)]) (rest := []) (lenOf own_pd17 rfl) rfl (by show 2 * 0 + _ ≤ _; exact Nat.le_of_eq rfl) (hb hby at_34) (fun _ _ => ⟨rfl, e0, (by decide : 0 + 4 ≤ _), (by decide : 0 + 8 ≤ _)⟩)
    dsimp only [Pt.U, Pt.locs, Pt.cells, Pt.slots] at X15 l15 y15 z15 st15 hQ15
    subst l15 y15 z15
    obtain ⟨x_15, ba_15, kb_15, cd_15, z_15, vs_15, rfl, Nq15, K15, p15_0, p15_1, p15_2, p15_3, p15_4, p15_5, p15_6⟩ := hQ15
    have N15 := Fr.app N0 Nq15
    have H16 := CHv.keep K15 all0 H0
    have n0_x_15 : n0 ≤ x_15 := Nat.le_trans (Nat.le_trans (Nat.le_of_eq O0.1.symm) O0.2.1) (Nat.le_trans (Nat.le_refl _) p15_0)
    have n0_ba_15 : n0 ≤ ba_15 := Nat.le_trans (Nat.le_trans (Nat.le_of_eq O0.1.symm) O0.2.1) (Nat.le_trans (Nat.le_refl _) p15_1)
    refine ogo (S' := T15.setTop (mkF m 37 #[.val (.int n_), .val (.int a_), .val (.int b_), .val (.int c_), .val (.int (1 : Int32)), .val (.int u0), .val (.int u1), .val (.int u2), .unset, .unset, .unset] [(.ref x_15)])) st15 ?_
    refine o_astore X15 hx (l' := #[.val (.int n_), .val (.int a_), .val (.int b_), .val (.int c_), .val (.int (1 : Int32)), .val (.int u0), .val (.int u1), .val (.int u2), .val (.ref x_15), .unset, .unset]) (hb hby at_37) rfl rfl ?_
    refine o_aload X15 hx (hb hby at_39) rfl rfl ?_
    obtain ⟨cq17, kq17, q17a, q17b, q17c⟩ := isOf hZ rfl p15_3
    obtain ⟨_, _, ⟨T17, L17, kc17, n17⟩, -, X17, ⟨Lc17, hQ17, l17, y17, z17⟩, st17⟩ := X15.virtualBack hx (y := yM12) (z := yM12) hown (mvT hZ w27) (mvT hZ w28) (notFace_of_selects (args := #[]) (mvT hZ w30)) (mvT hZ w30) (mvT hZ w29) (by decide) (backOf (W := 0) (rm_elen_1 l Z a0 hw [] z_CS v_FMT x_15 ba_15 kb_15 cd_15 z_15 vs_15 u0 T15.heap n0 SB (O0.keep K15 all0) p15_3 p15_5 p15_4 p15_2 p15_6) hZ w31 w7 (by decide) (by decide)) q17a q17c (g := (mkF m 41 #[.val (.int n_), .val (.int a_), .val (.int b_), .val (.int c_), .val (.int (1 : Int32)), .val (.int u0), .val (.int u1), .val (.int u2), .val (.ref x_15), .unset, .unset] [(.ref x_15)])) rfl (by rw [hml]; rfl) (Steps.refl _) (argsL := []) (rest := []) (lenOf own_pd9 rfl) rfl (by show 2 * 0 + _ ≤ _; exact Nat.le_of_eq rfl) (hb hby at_41) (fun _ _ => ⟨rfl, rfl, (by decide : 4 + 0 ≤ _), (by decide : 8 + 0 ≤ _)⟩)
    dsimp only [Pt.U, Pt.locs, Pt.cells, Pt.slots] at X17 l17 y17 z17 st17 hQ17
    subst l17 y17 z17
    obtain ⟨rfl, Nq17, e17⟩ := hQ17
    have N17 := Fr.app N15 Nq17
    refine otr (S' := T17.setTop (mkF m 44 #[.val (.int n_), .val (.int a_), .val (.int b_), .val (.int c_), .val (.int (1 : Int32)), .val (.int u0), .val (.int u1), .val (.int u2), .val (.ref x_15), .unset, .unset] [(.int (1 : Int32))])) st17 ?_
    refine o_iload X17 hx (hb hby at_44) rfl ?_
    refine o_icmpYes X17 hx 51 (hb hby at_46) (teq (by decide : (1 : Int32) = (1 : Int32))).1 (by decide) (by decide) ?_
    obtain ⟨T18, _, X18, rfl, E18, A18, D18, -, st18⟩ := newO X17 hx hZ hown w38 w39 w40 e17 (g := (mkF m 51 #[.val (.int n_), .val (.int a_), .val (.int b_), .val (.int c_), .val (.int (1 : Int32)), .val (.int u0), .val (.int u1), .val (.int u2), .val (.ref x_15), .unset, .unset] [])) rfl (hb hby at_51) (by decide) (by decide)
    obtain ⟨b18, g18⟩ : ∃ z, z = T15.heap.size := ⟨_, rfl⟩
    rw [← g18] at A18 D18 st18
    have n0_b18 : n0 ≤ b18 := Nat.le_trans (Nat.le_trans (Nat.le_of_eq O0.1.symm) O0.2.1) (Nat.le_trans K15.1 (Nat.le_of_eq g18.symm))
    have H19 := CHv.ext E18 H16
    have F18_text : Fld Z T18.heap b18 "com/example/rowfold/rowfold/Literal" "text" "Ljava/lang/String;" .null := D18 (Or.inr w46) (ty := (.object "java/lang/String")) (by decide)
    have F18_at : Fld Z T18.heap b18 "com/example/rowfold/rowfold/Literal" "at" "I" (.int (0 : Int32)) := D18 (Or.inl w53) (ty := .int) (by decide)
    refine ogo (S' := T18.setTop (mkF m 54 #[.val (.int n_), .val (.int a_), .val (.int b_), .val (.int c_), .val (.int (1 : Int32)), .val (.int u0), .val (.int u1), .val (.int u2), .val (.ref x_15), .unset, .unset] [(.ref b18)])) st18 ?_
    refine o_dup X18 hx (hb hby at_54) rfl ?_
    refine o_aload X18 hx (hb hby at_55) rfl rfl ?_
    obtain ⟨_, _, ⟨T20, L20, kc20, n20⟩, -, X20, ⟨Lc20, hQ20, l20, y20, z20⟩, st20⟩ := X18.specialBack hx (y := yM0) rfl hown (mvT hZ w41) (mvT hZ w42) (mvT hZ w43) (by decide) (backOf (W := 1) (rm_linit l Z a0 hw []  b18 x_15 T18.heap n0 ((O0.keep K15 all0).ext E18) A18 F18_text F18_at n0_b18) hZ w43 w40 (by decide) (by decide)) (g := (mkF m 57 #[.val (.int n_), .val (.int a_), .val (.int b_), .val (.int c_), .val (.int (1 : Int32)), .val (.int u0), .val (.int u1), .val (.int u2), .val (.ref x_15), .unset, .unset] [(.ref x_15), (.ref b18), (.ref b18)])) rfl (by rw [hml]; rfl) (Steps.refl _) (a := b18) (argsL := [(.ref x_15)]) (rest := [(.ref b18)]) (lenOf own_pd18 rfl) rfl (by show 2 * 0 + _ ≤ _; exact Nat.le_of_eq rfl) (hb hby at_57) (fun _ _ => ⟨rfl, rfl, (by decide : 5 + 0 ≤ _), (by decide : 10 + 0 ≤ _)⟩)
    dsimp only [Pt.U, Pt.locs, Pt.cells, Pt.slots] at X20 l20 y20 z20 st20 hQ20
    subst l20 y20 z20
    obtain ⟨rfl, Nq20, K20, p20_0, p20_1, p20_2⟩ := hQ20
    have N20 := Fr.app N17 Nq20
    have H21 := CHv.keep K20 (allS (Safe.exa hZ.alike A18 (by decide) (by decide)) all0) H19
    refine otr (S' := T20.setTop (mkF m 60 #[.val (.int n_), .val (.int a_), .val (.int b_), .val (.int c_), .val (.int (1 : Int32)), .val (.int u0), .val (.int u1), .val (.int u2), .val (.ref x_15), .unset, .unset] [(.ref b18)])) st20 ?_
    refine o_astore X20 hx (l' := #[.val (.int n_), .val (.int a_), .val (.int b_), .val (.int c_), .val (.int (1 : Int32)), .val (.int u0), .val (.int u1), .val (.int u2), .val (.ref x_15), .val (.ref b18), .unset]) (hb hby at_60) rfl rfl ?_
    refine o_iconst X20 hx (1 : Int32) (hb hby at_62) rfl ?_
    refine o_istore X20 hx (l' := #[.val (.int n_), .val (.int a_), .val (.int b_), .val (.int c_), .val (.int (1 : Int32)), .val (.int u0), .val (.int u1), .val (.int u2), .val (.ref x_15), .val (.ref b18), .val (.int (1 : Int32))]) (hb hby at_63) rfl ?_
    refine o_iload X20 hx (hb hby at_65) rfl ?_
    refine o_iconst X20 hx (1 : Int32) (hb hby at_67) rfl ?_
    refine o_icmpNo X20 hx (hb hby at_68) (flt (by decide : ¬ ((1 : Int32) < (1 : Int32)))).1 ?_
    refine o_iload X20 hx (hb hby at_71) rfl ?_
    refine o_ifNo X20 hx (hb hby at_73) (feq (by decide : ¬ ((1 : Int32) = (0 : Int32)))).1 ?_
    refine o_aload X20 hx (hb hby at_76) rfl rfl ?_
    refine o_iload X20 hx (hb hby at_78) rfl ?_
    have c23 := ((Fld.ext E18 p15_5).keep K20 (ninS (Nat.ne_of_lt (Nat.lt_of_lt_of_le (Nat.lt_of_lt_of_le p15_3.lt (Nat.le_refl _)) (Nat.le_of_eq g18.symm))) nin0))
    have c24 := ((Fld.ext E18 p15_4).keep K20 (ninS (Nat.ne_of_lt (Nat.lt_of_lt_of_le (Nat.lt_of_lt_of_le p15_3.lt (Nat.le_refl _)) (Nat.le_of_eq g18.symm))) nin0))
    have c25 := ((p15_2.ext E18).keep K20 (ninS (Nat.ne_of_lt (Nat.lt_of_lt_of_le (Nat.lt_of_lt_of_le p15_2.lt (Nat.le_refl _)) (Nat.le_of_eq g18.symm))) nin0))
    obtain ⟨cq22, kq22, q22a, q22b, q22c⟩ := isOf hZ rfl p20_0
    obtain ⟨_, _, ⟨T22, L22, kc22, n22⟩, -, X22, ⟨Lc22, hQ22, l22, y22, z22⟩, st22⟩ := X20.virtualBack hx (y := yM13) (z := yM13) hown (mvT hZ w55) (mvT hZ w56) (notFace_of_selects (args := #[]) (mvT hZ w58)) (mvT hZ w58) (mvT hZ w57) (by decide) (backOf (W := 0) (rm_skipT_1_0 l Z a0 hw [] z_CS v_FMT b18 x_15 ba_15 kb_15 cd_15 z_15 vs_15 u0 u0 T20.heap n0 SB (((O0.keep K15 all0).ext E18).keep K20 (allS n0_b18 all0)) p20_0 p20_1 p20_2 ((Exa.ext E18 p15_3).keep K20) c23 c24 c25 p15_6 hcu0 rfl n0_b18) hZ w59 w40 (by decide) (by decide)) q22a q22c (g := (mkF m 80 #[.val (.int n_), .val (.int a_), .val (.int b_), .val (.int c_), .val (.int (1 : Int32)), .val (.int u0), .val (.int u1), .val (.int u2), .val (.ref x_15), .val (.ref b18), .val (.int (1 : Int32))] [(.int u0), (.ref b18)])) rfl (by rw [hml]; rfl) (Steps.refl _) (argsL := [(.int u0)]) (rest := []) (lenOf own_pd20 rfl) rfl (by show 2 * 0 + _ ≤ _; exact Nat.le_of_eq rfl) (hb hby at_80) (fun _ _ => ⟨rfl, rfl, (by decide : 5 + 0 ≤ _), (by decide : 10 + 0 ≤ _)⟩)
    dsimp only [Pt.U, Pt.locs, Pt.cells, Pt.slots] at X22 l22 y22 z22 st22 hQ22
    subst l22 y22 z22
    obtain ⟨rfl, Nq22, K22, p22_0, p22_1, p22_2⟩ := hQ22
    have N22 := Fr.app N20 Nq22
    have H26 := CHv.keep K22 (allS (Safe.exa hZ.alike p20_0 (by decide) (by decide)) all0) H21
    refine otr (S' := T22.setTop (mkF m 83 #[.val (.int n_), .val (.int a_), .val (.int b_), .val (.int c_), .val (.int (1 : Int32)), .val (.int u0), .val (.int u1), .val (.int u2), .val (.ref x_15), .val (.ref b18), .val (.int (1 : Int32))] [(.int (1 : Int32))])) st22 ?_
    refine o_ifNo X22 hx (hb hby at_83) (feq (by decide : ¬ ((1 : Int32) = (0 : Int32)))).1 ?_
    refine o_iconst X22 hx (1 : Int32) (hb hby at_86) rfl ?_
    refine o_goto X22 hx 91 (hb hby at_87) (by decide) (by decide) ?_
    refine o_istore X22 hx (l' := #[.val (.int n_), .val (.int a_), .val (.int b_), .val (.int c_), .val (.int (1 : Int32)), .val (.int u0), .val (.int u1), .val (.int u2), .val (.ref x_15), .val (.ref b18), .val (.int (1 : Int32))]) (hb hby at_91) rfl ?_
    refine o_iload X22 hx (hb hby at_93) rfl ?_
    refine o_iconst X22 hx (2 : Int32) (hb hby at_95) rfl ?_
    refine o_icmpYes X22 hx 121 (hb hby at_96) (tlt (by decide : (1 : Int32) < (2 : Int32))).1 (by decide) (by decide) ?_
    refine o_iload X22 hx (hb hby at_121) rfl ?_
    refine o_iconst X22 hx (3 : Int32) (hb hby at_123) rfl ?_
    refine o_icmpYes X22 hx 149 (hb hby at_124) (tlt (by decide : (1 : Int32) < (3 : Int32))).1 (by decide) (by decide) ?_
    refine o_iload X22 hx (hb hby at_149) rfl ?_
    refine o_ifYes X22 hx 156 (hb hby at_151) (feq (by decide : ¬ ((1 : Int32) = (0 : Int32)))).2 (by decide) (by decide) ?_
    refine o_aload X22 hx (hb hby at_156) rfl rfl ?_
    have c28 := ((((O0.keep K15 all0).ext E18).keep K20 (allS n0_b18 all0)).keep K22 (allS n0_b18 all0))
    have c29 := (c23.keep K22 (ninS (Nat.ne_of_lt (Nat.lt_of_lt_of_le (Nat.lt_of_lt_of_le p15_3.lt (Nat.le_refl _)) (Nat.le_of_eq g18.symm))) nin0))
    have c30 := (c24.keep K22 (ninS (Nat.ne_of_lt (Nat.lt_of_lt_of_le (Nat.lt_of_lt_of_le p15_3.lt (Nat.le_refl _)) (Nat.le_of_eq g18.symm))) nin0))
    have c31 := (c25.keep K22 (ninS (Nat.ne_of_lt (Nat.lt_of_lt_of_le (Nat.lt_of_lt_of_le p15_2.lt (Nat.le_refl _)) (Nat.le_of_eq g18.symm))) nin0))
    obtain ⟨cq27, kq27, q27a, q27b, q27c⟩ := isOf hZ rfl p22_0
    obtain ⟨_, _, ⟨T27, L27, kc27, n27⟩, -, X27, ⟨Lc27, hQ27, l27, y27, z27⟩, st27⟩ := X22.virtualBack hx (y := yM14) (z := yM14) hown (mvT hZ w47) (mvT hZ w48) (notFace_of_selects (args := #[]) (mvT hZ w50)) (mvT hZ w50) (mvT hZ w49) (by decide) (backOf (W := 0) (rm_expend_1 l Z a0 hw [] z_CS v_FMT b18 x_15 ba_15 kb_15 cd_15 z_15 vs_15 u0 T22.heap n0 SB c28 p22_0 p22_1 p22_2 (((Exa.ext E18 p15_3).keep K20).keep K22) c29 c30 c31 p15_6) hZ w51 w40 (by decide) (by decide)) q27a q27c (g := (mkF m 158 #[.val (.int n_), .val (.int a_), .val (.int b_), .val (.int c_), .val (.int (1 : Int32)), .val (.int u0), .val (.int u1), .val (.int u2), .val (.ref x_15), .val (.ref b18), .val (.int (1 : Int32))] [(.ref b18)])) rfl (by rw [hml]; rfl) (Steps.refl _) (argsL := []) (rest := []) (lenOf own_pd19 rfl) rfl (by show 2 * 0 + _ ≤ _; exact Nat.le_of_eq rfl) (hb hby at_158) (fun _ _ => ⟨rfl, rfl, (by decide : 5 + 0 ≤ _), (by decide : 10 + 0 ≤ _)⟩)
    dsimp only [Pt.U, Pt.locs, Pt.cells, Pt.slots] at X27 l27 y27 z27 st27 hQ27
    subst l27 y27 z27
    obtain ⟨rfl, Nq27, e27⟩ := hQ27
    have N27 := Fr.app N22 Nq27
    refine otr (S' := T27.setTop (mkF m 161 #[.val (.int n_), .val (.int a_), .val (.int b_), .val (.int c_), .val (.int (1 : Int32)), .val (.int u0), .val (.int u1), .val (.int u2), .val (.ref x_15), .val (.ref b18), .val (.int (1 : Int32))] [])) st27 ?_
    refine o_aload X27 hx (hb hby at_161) rfl rfl ?_
    obtain ⟨cq32, kq32, q32a, q32b, q32c⟩ := isOf hZ e27 p22_0
    obtain ⟨_, _, ⟨T32, L32, kc32, n32⟩, -, X32, ⟨Lc32, hQ32, l32, y32, z32⟩, st32⟩ := X27.virtualBack hx (y := yM14) (z := yM14) hown (mvT hZ w47) (mvT hZ w48) (notFace_of_selects (args := #[]) (mvT hZ w50)) (mvT hZ w50) (mvT hZ w49) (by decide) (backOf (W := 0) (rm_expend_1 l Z a0 hw [] z_CS v_FMT b18 x_15 ba_15 kb_15 cd_15 z_15 vs_15 u0 T22.heap n0 SB c28 p22_0 p22_1 p22_2 (((Exa.ext E18 p15_3).keep K20).keep K22) c29 c30 c31 p15_6) hZ w51 w40 (by decide) (by decide)) q32a q32c (g := (mkF m 163 #[.val (.int n_), .val (.int a_), .val (.int b_), .val (.int c_), .val (.int (1 : Int32)), .val (.int u0), .val (.int u1), .val (.int u2), .val (.ref x_15), .val (.ref b18), .val (.int (1 : Int32))] [(.ref b18)])) rfl (by rw [hml]; rfl) (Steps.refl _) (argsL := []) (rest := []) (lenOf own_pd19 rfl) rfl (by show 2 * 0 + _ ≤ _; exact Nat.le_of_eq rfl) (hb hby at_163) (fun _ _ => ⟨rfl, e27, (by decide : 5 + 0 ≤ _), (by decide : 10 + 0 ≤ _)⟩)
    dsimp only [Pt.U, Pt.locs, Pt.cells, Pt.slots] at X32 l32 y32 z32 st32 hQ32
    subst l32 y32 z32
    obtain ⟨rfl, Nq32, e32⟩ := hQ32
    have N32 := Fr.app N27 Nq32
    refine otr (S' := T32.setTop (mkF m 166 #[.val (.int n_), .val (.int a_), .val (.int b_), .val (.int c_), .val (.int (1 : Int32)), .val (.int u0), .val (.int u1), .val (.int u2), .val (.ref x_15), .val (.ref b18), .val (.int (1 : Int32))] [])) st32 ?_
    refine o_aload X32 hx (hb hby at_166) rfl rfl ?_
    refine o_iload X32 hx (hb hby at_168) rfl ?_
    obtain ⟨cq33, kq33, q33a, q33b, q33c⟩ := isOf hZ e32 p22_0
    obtain ⟨_, _, ⟨T33, L33, kc33, n33⟩, -, X33, ⟨Lc33, hQ33, l33, y33, z33⟩, st33⟩ := X32.virtualBack hx (y := yM13) (z := yM13) hown (mvT hZ w55) (mvT hZ w56) (notFace_of_selects (args := #[]) (mvT hZ w58)) (mvT hZ w58) (mvT hZ w57) (by decide) (backOf (W := 0) (rm_skipE_1 l Z a0 hw [] z_CS v_FMT b18 x_15 ba_15 kb_15 cd_15 z_15 vs_15 u0 u0 T22.heap n0 SB c28 p22_0 p22_1 p22_2 (((Exa.ext E18 p15_3).keep K20).keep K22) c29 c30 c31 p15_6) hZ w59 w40 (by decide) (by decide)) q33a q33c (g := (mkF m 170 #[.val (.int n_), .val (.int a_), .val (.int b_), .val (.int c_), .val (.int (1 : Int32)), .val (.int u0), .val (.int u1), .val (.int u2), .val (.ref x_15), .val (.ref b18), .val (.int (1 : Int32))] [(.int u0), (.ref b18)])) rfl (by rw [hml]; rfl) (Steps.refl _) (argsL := [(.int u0)]) (rest := []) (lenOf own_pd20 rfl) rfl (by show 2 * 0 + _ ≤ _; exact Nat.le_of_eq rfl) (hb hby at_170) (fun _ _ => ⟨rfl, e32, (by decide : 5 + 0 ≤ _), (by decide : 10 + 0 ≤ _)⟩)
    dsimp only [Pt.U, Pt.locs, Pt.cells, Pt.slots] at X33 l33 y33 z33 st33 hQ33
    subst l33 y33 z33
    obtain ⟨rfl, Nq33, e33⟩ := hQ33
    have N33 := Fr.app N32 Nq33
    refine otr (S' := T33.setTop (mkF m 173 #[.val (.int n_), .val (.int a_), .val (.int b_), .val (.int c_), .val (.int (1 : Int32)), .val (.int u0), .val (.int u1), .val (.int u2), .val (.ref x_15), .val (.ref b18), .val (.int (1 : Int32))] [(.int (0 : Int32))])) st33 ?_
    refine o_ifNo X33 hx (hb hby at_173) (teq (by decide : (0 : Int32) = (0 : Int32))).2 ?_
    refine o_iconst X33 hx (1 : Int32) (hb hby at_176) rfl ?_
    refine o_goto X33 hx 181 (hb hby at_177) (by decide) (by decide) ?_
    refine oendS X33 hlk hS0 (Nat.le_trans (Nat.zero_le _) (Nat.le_trans (Nat.le_trans (Nat.le_trans K15.1 E18.1) K20.1) K22.1)) e33 hZ hEL hs0 (CHr.trans (CHr.trans (CHr.trans (CHr.trans (CHr.refl H0) (CHr.keep K15 all0 H0)) (CHr.ext E18 H16)) (CHr.keep K20 (allS (Safe.exa hZ.alike A18 (by decide) (by decide)) all0) H19)) (CHr.keep K22 (allS (Safe.exa hZ.alike p20_0 (by decide) (by decide)) all0) H21)) (v := some (.int (1 : Int32))) (fun h => by rw [hret] at h; cases h) (fun fs hr => retN X33 hx (t := .boolean) hret (by simp) (hb hby at_181) hr) (by decide) (by decide) ?_
    show own_Q_law Z _ _ _ _ _ _ h0 n0 _ T33.heap _
    rw [e33]
    exact ⟨rfl, N33, (((((Keep.refl h0 []).trans K15 all0).ext E18).trans K20 (allS (Or.inr (Nat.le_trans K15.1 (Nat.le_of_eq g18.symm))) all0)).trans K22 (allS (Or.inr (Nat.le_trans K15.1 (Nat.le_of_eq g18.symm))) all0))⟩
  · rw [hs1]
    refine o_iload X0 hx (hb hby at_26) rfl ?_
    refine o_iload X0 hx (hb hby at_28) rfl ?_
    refine o_iload X0 hx (hb hby at_30) rfl ?_
    refine o_iload X0 hx (hb hby at_32) rfl ?_
    obtain ⟨_, _, ⟨T34, L34, kc34, n34⟩, -, X34, ⟨Lc34, hQ34, l34, y34, z34⟩, st34⟩ := Jvm.LawKit.callS X0 hx (y := yM23) hown (mvT hZ w1) (mvT hZ w2) (mvT hZ w3) (mvT hZ w4) (by decide) (backOf (W := 0) (rm_text_2 l Z a0 hw [] z_CS v_FMT u0 u1 u2 h0 n0 SB O0 hcu0 hcu1 (own_nar16 hcu0) (own_nar16 hcu1)) hZ w4 w3 (by decide) (by decide)) (g := (mkF m 34 #[.val (.int n_), .val (.int a_), .val (.int b_), .val (.int c_), .val (.int (2 : Int32)), .val (.int u0), .val (.int u1), .val (.int u2), .unset, .unset, .unset] [(.int u2), (.int u1), (.int u0), (.int (2 : Int32))])) rfl (by rw [hml]; rfl) (argsL := [(.int (2 : Int32)), (.int u0), (.int u1), (.int u2)]) (rest := []) (lenOf own_pd17 rfl) rfl (by show 2 * 0 + _ ≤ _; exact Nat.le_of_eq rfl) (hb hby at_34) (fun _ _ => ⟨rfl, e0, (by decide : 0 + 4 ≤ _), (by decide : 0 + 12 ≤ _)⟩)
    dsimp only [Pt.U, Pt.locs, Pt.cells, Pt.slots] at X34 l34 y34 z34 st34 hQ34
    subst l34 y34 z34
    obtain ⟨x_34, ba_34, kb_34, cd_34, z_34, vs_34, rfl, Nq34, K34, p34_0, p34_1, p34_2, p34_3, p34_4, p34_5, p34_6⟩ := hQ34
    have N34 := Fr.app N0 Nq34
    have H35 := CHv.keep K34 all0 H0
    have n0_x_34 : n0 ≤ x_34 := Nat.le_trans (Nat.le_trans (Nat.le_of_eq O0.1.symm) O0.2.1) (Nat.le_trans (Nat.le_refl _) p34_0)
    have n0_ba_34 : n0 ≤ ba_34 := Nat.le_trans (Nat.le_trans (Nat.le_of_eq O0.1.symm) O0.2.1) (Nat.le_trans (Nat.le_refl _) p34_1)
    refine ogo (S' := T34.setTop (mkF m 37 #[.val (.int n_), .val (.int a_), .val (.int b_), .val (.int c_), .val (.int (2 : Int32)), .val (.int u0), .val (.int u1), .val (.int u2), .unset, .unset, .unset] [(.ref x_34)])) st34 ?_
    refine o_astore X34 hx (l' := #[.val (.int n_), .val (.int a_), .val (.int b_), .val (.int c_), .val (.int (2 : Int32)), .val (.int u0), .val (.int u1), .val (.int u2), .val (.ref x_34), .unset, .unset]) (hb hby at_37) rfl rfl ?_
    refine o_aload X34 hx (hb hby at_39) rfl rfl ?_
    obtain ⟨cq36, kq36, q36a, q36b, q36c⟩ := isOf hZ rfl p34_3
    obtain ⟨_, _, ⟨T36, L36, kc36, n36⟩, -, X36, ⟨Lc36, hQ36, l36, y36, z36⟩, st36⟩ := X34.virtualBack hx (y := yM12) (z := yM12) hown (mvT hZ w27) (mvT hZ w28) (notFace_of_selects (args := #[]) (mvT hZ w30)) (mvT hZ w30) (mvT hZ w29) (by decide) (backOf (W := 0) (rm_elen_2 l Z a0 hw [] z_CS v_FMT x_34 ba_34 kb_34 cd_34 z_34 vs_34 u0 u1 T34.heap n0 SB (O0.keep K34 all0) p34_3 p34_5 p34_4 p34_2 p34_6) hZ w31 w7 (by decide) (by decide)) q36a q36c (g := (mkF m 41 #[.val (.int n_), .val (.int a_), .val (.int b_), .val (.int c_), .val (.int (2 : Int32)), .val (.int u0), .val (.int u1), .val (.int u2), .val (.ref x_34), .unset, .unset] [(.ref x_34)])) rfl (by rw [hml]; rfl) (Steps.refl _) (argsL := []) (rest := []) (lenOf own_pd9 rfl) rfl (by show 2 * 0 + _ ≤ _; exact Nat.le_of_eq rfl) (hb hby at_41) (fun _ _ => ⟨rfl, rfl, (by decide : 4 + 0 ≤ _), (by decide : 12 + 0 ≤ _)⟩)
    dsimp only [Pt.U, Pt.locs, Pt.cells, Pt.slots] at X36 l36 y36 z36 st36 hQ36
    subst l36 y36 z36
    obtain ⟨rfl, Nq36, e36⟩ := hQ36
    have N36 := Fr.app N34 Nq36
    refine otr (S' := T36.setTop (mkF m 44 #[.val (.int n_), .val (.int a_), .val (.int b_), .val (.int c_), .val (.int (2 : Int32)), .val (.int u0), .val (.int u1), .val (.int u2), .val (.ref x_34), .unset, .unset] [(.int (2 : Int32))])) st36 ?_
    refine o_iload X36 hx (hb hby at_44) rfl ?_
    refine o_icmpYes X36 hx 51 (hb hby at_46) (teq (by decide : (2 : Int32) = (2 : Int32))).1 (by decide) (by decide) ?_
    obtain ⟨T37, _, X37, rfl, E37, A37, D37, -, st37⟩ := newO X36 hx hZ hown w38 w39 w40 e36 (g := (mkF m 51 #[.val (.int n_), .val (.int a_), .val (.int b_), .val (.int c_), .val (.int (2 : Int32)), .val (.int u0), .val (.int u1), .val (.int u2), .val (.ref x_34), .unset, .unset] [])) rfl (hb hby at_51) (by decide) (by decide)
    obtain ⟨b37, g37⟩ : ∃ z, z = T34.heap.size := ⟨_, rfl⟩
    rw [← g37] at A37 D37 st37
    have n0_b37 : n0 ≤ b37 := Nat.le_trans (Nat.le_trans (Nat.le_of_eq O0.1.symm) O0.2.1) (Nat.le_trans K34.1 (Nat.le_of_eq g37.symm))
    have H38 := CHv.ext E37 H35
    have F37_text : Fld Z T37.heap b37 "com/example/rowfold/rowfold/Literal" "text" "Ljava/lang/String;" .null := D37 (Or.inr w46) (ty := (.object "java/lang/String")) (by decide)
    have F37_at : Fld Z T37.heap b37 "com/example/rowfold/rowfold/Literal" "at" "I" (.int (0 : Int32)) := D37 (Or.inl w53) (ty := .int) (by decide)
    refine ogo (S' := T37.setTop (mkF m 54 #[.val (.int n_), .val (.int a_), .val (.int b_), .val (.int c_), .val (.int (2 : Int32)), .val (.int u0), .val (.int u1), .val (.int u2), .val (.ref x_34), .unset, .unset] [(.ref b37)])) st37 ?_
    refine o_dup X37 hx (hb hby at_54) rfl ?_
    refine o_aload X37 hx (hb hby at_55) rfl rfl ?_
    obtain ⟨_, _, ⟨T39, L39, kc39, n39⟩, -, X39, ⟨Lc39, hQ39, l39, y39, z39⟩, st39⟩ := X37.specialBack hx (y := yM0) rfl hown (mvT hZ w41) (mvT hZ w42) (mvT hZ w43) (by decide) (backOf (W := 1) (rm_linit l Z a0 hw []  b37 x_34 T37.heap n0 ((O0.keep K34 all0).ext E37) A37 F37_text F37_at n0_b37) hZ w43 w40 (by decide) (by decide)) (g := (mkF m 57 #[.val (.int n_), .val (.int a_), .val (.int b_), .val (.int c_), .val (.int (2 : Int32)), .val (.int u0), .val (.int u1), .val (.int u2), .val (.ref x_34), .unset, .unset] [(.ref x_34), (.ref b37), (.ref b37)])) rfl (by rw [hml]; rfl) (Steps.refl _) (a := b37) (argsL := [(.ref x_34)]) (rest := [(.ref b37)]) (lenOf own_pd18 rfl) rfl (by show 2 * 0 + _ ≤ _; exact Nat.le_of_eq rfl) (hb hby at_57) (fun _ _ => ⟨rfl, rfl, (by decide : 5 + 0 ≤ _), (by decide : 14 + 0 ≤ _)⟩)
    dsimp only [Pt.U, Pt.locs, Pt.cells, Pt.slots] at X39 l39 y39 z39 st39 hQ39
    subst l39 y39 z39
    obtain ⟨rfl, Nq39, K39, p39_0, p39_1, p39_2⟩ := hQ39
    have N39 := Fr.app N36 Nq39
    have H40 := CHv.keep K39 (allS (Safe.exa hZ.alike A37 (by decide) (by decide)) all0) H38
    refine otr (S' := T39.setTop (mkF m 60 #[.val (.int n_), .val (.int a_), .val (.int b_), .val (.int c_), .val (.int (2 : Int32)), .val (.int u0), .val (.int u1), .val (.int u2), .val (.ref x_34), .unset, .unset] [(.ref b37)])) st39 ?_
    refine o_astore X39 hx (l' := #[.val (.int n_), .val (.int a_), .val (.int b_), .val (.int c_), .val (.int (2 : Int32)), .val (.int u0), .val (.int u1), .val (.int u2), .val (.ref x_34), .val (.ref b37), .unset]) (hb hby at_60) rfl rfl ?_
    refine o_iconst X39 hx (1 : Int32) (hb hby at_62) rfl ?_
    refine o_istore X39 hx (l' := #[.val (.int n_), .val (.int a_), .val (.int b_), .val (.int c_), .val (.int (2 : Int32)), .val (.int u0), .val (.int u1), .val (.int u2), .val (.ref x_34), .val (.ref b37), .val (.int (1 : Int32))]) (hb hby at_63) rfl ?_
    refine o_iload X39 hx (hb hby at_65) rfl ?_
    refine o_iconst X39 hx (1 : Int32) (hb hby at_67) rfl ?_
    refine o_icmpNo X39 hx (hb hby at_68) (flt (by decide : ¬ ((2 : Int32) < (1 : Int32)))).1 ?_
    refine o_iload X39 hx (hb hby at_71) rfl ?_
    refine o_ifNo X39 hx (hb hby at_73) (feq (by decide : ¬ ((1 : Int32) = (0 : Int32)))).1 ?_
    refine o_aload X39 hx (hb hby at_76) rfl rfl ?_
    refine o_iload X39 hx (hb hby at_78) rfl ?_
    have c42 := ((Fld.ext E37 p34_5).keep K39 (ninS (Nat.ne_of_lt (Nat.lt_of_lt_of_le (Nat.lt_of_lt_of_le p34_3.lt (Nat.le_refl _)) (Nat.le_of_eq g37.symm))) nin0))
    have c43 := ((Fld.ext E37 p34_4).keep K39 (ninS (Nat.ne_of_lt (Nat.lt_of_lt_of_le (Nat.lt_of_lt_of_le p34_3.lt (Nat.le_refl _)) (Nat.le_of_eq g37.symm))) nin0))
    have c44 := ((p34_2.ext E37).keep K39 (ninS (Nat.ne_of_lt (Nat.lt_of_lt_of_le (Nat.lt_of_lt_of_le p34_2.lt (Nat.le_refl _)) (Nat.le_of_eq g37.symm))) nin0))
    obtain ⟨cq41, kq41, q41a, q41b, q41c⟩ := isOf hZ rfl p39_0
    obtain ⟨_, _, ⟨T41, L41, kc41, n41⟩, -, X41, ⟨Lc41, hQ41, l41, y41, z41⟩, st41⟩ := X39.virtualBack hx (y := yM13) (z := yM13) hown (mvT hZ w55) (mvT hZ w56) (notFace_of_selects (args := #[]) (mvT hZ w58)) (mvT hZ w58) (mvT hZ w57) (by decide) (backOf (W := 0) (rm_skipT_2_0 l Z a0 hw [] z_CS v_FMT b37 x_34 ba_34 kb_34 cd_34 z_34 vs_34 u0 u1 u0 T39.heap n0 SB (((O0.keep K34 all0).ext E37).keep K39 (allS n0_b37 all0)) p39_0 p39_1 p39_2 ((Exa.ext E37 p34_3).keep K39) c42 c43 c44 p34_6 hcu0 rfl n0_b37) hZ w59 w40 (by decide) (by decide)) q41a q41c (g := (mkF m 80 #[.val (.int n_), .val (.int a_), .val (.int b_), .val (.int c_), .val (.int (2 : Int32)), .val (.int u0), .val (.int u1), .val (.int u2), .val (.ref x_34), .val (.ref b37), .val (.int (1 : Int32))] [(.int u0), (.ref b37)])) rfl (by rw [hml]; rfl) (Steps.refl _) (argsL := [(.int u0)]) (rest := []) (lenOf own_pd20 rfl) rfl (by show 2 * 0 + _ ≤ _; exact Nat.le_of_eq rfl) (hb hby at_80) (fun _ _ => ⟨rfl, rfl, (by decide : 5 + 0 ≤ _), (by decide : 14 + 0 ≤ _)⟩)
    dsimp only [Pt.U, Pt.locs, Pt.cells, Pt.slots] at X41 l41 y41 z41 st41 hQ41
    subst l41 y41 z41
    obtain ⟨rfl, Nq41, K41, p41_0, p41_1, p41_2⟩ := hQ41
    have N41 := Fr.app N39 Nq41
    have H45 := CHv.keep K41 (allS (Safe.exa hZ.alike p39_0 (by decide) (by decide)) all0) H40
    refine otr (S' := T41.setTop (mkF m 83 #[.val (.int n_), .val (.int a_), .val (.int b_), .val (.int c_), .val (.int (2 : Int32)), .val (.int u0), .val (.int u1), .val (.int u2), .val (.ref x_34), .val (.ref b37), .val (.int (1 : Int32))] [(.int (1 : Int32))])) st41 ?_
    refine o_ifNo X41 hx (hb hby at_83) (feq (by decide : ¬ ((1 : Int32) = (0 : Int32)))).1 ?_
    refine o_iconst X41 hx (1 : Int32) (hb hby at_86) rfl ?_
    refine o_goto X41 hx 91 (hb hby at_87) (by decide) (by decide) ?_
    refine o_istore X41 hx (l' := #[.val (.int n_), .val (.int a_), .val (.int b_), .val (.int c_), .val (.int (2 : Int32)), .val (.int u0), .val (.int u1), .val (.int u2), .val (.ref x_34), .val (.ref b37), .val (.int (1 : Int32))]) (hb hby at_91) rfl ?_
    refine o_iload X41 hx (hb hby at_93) rfl ?_
    refine o_iconst X41 hx (2 : Int32) (hb hby at_95) rfl ?_
    refine o_icmpNo X41 hx (hb hby at_96) (flt (by decide : ¬ ((2 : Int32) < (2 : Int32)))).1 ?_
    refine o_iload X41 hx (hb hby at_99) rfl ?_
    refine o_ifNo X41 hx (hb hby at_101) (feq (by decide : ¬ ((1 : Int32) = (0 : Int32)))).1 ?_
    refine o_aload X41 hx (hb hby at_104) rfl rfl ?_
    refine o_iload X41 hx (hb hby at_106) rfl ?_
    have c47 := ((((O0.keep K34 all0).ext E37).keep K39 (allS n0_b37 all0)).keep K41 (allS n0_b37 all0))
    have c48 := (c42.keep K41 (ninS (Nat.ne_of_lt (Nat.lt_of_lt_of_le (Nat.lt_of_lt_of_le p34_3.lt (Nat.le_refl _)) (Nat.le_of_eq g37.symm))) nin0))
    have c49 := (c43.keep K41 (ninS (Nat.ne_of_lt (Nat.lt_of_lt_of_le (Nat.lt_of_lt_of_le p34_3.lt (Nat.le_refl _)) (Nat.le_of_eq g37.symm))) nin0))
    have c50 := (c44.keep K41 (ninS (Nat.ne_of_lt (Nat.lt_of_lt_of_le (Nat.lt_of_lt_of_le p34_2.lt (Nat.le_refl _)) (Nat.le_of_eq g37.symm))) nin0))
    obtain ⟨cq46, kq46, q46a, q46b, q46c⟩ := isOf hZ rfl p41_0
    obtain ⟨_, _, ⟨T46, L46, kc46, n46⟩, -, X46, ⟨Lc46, hQ46, l46, y46, z46⟩, st46⟩ := X41.virtualBack hx (y := yM13) (z := yM13) hown (mvT hZ w55) (mvT hZ w56) (notFace_of_selects (args := #[]) (mvT hZ w58)) (mvT hZ w58) (mvT hZ w57) (by decide) (backOf (W := 0) (rm_skipT_2_1 l Z a0 hw [] z_CS v_FMT b37 x_34 ba_34 kb_34 cd_34 z_34 vs_34 u0 u1 u1 T41.heap n0 SB c47 p41_0 p41_1 p41_2 (((Exa.ext E37 p34_3).keep K39).keep K41) c48 c49 c50 p34_6 hcu1 rfl n0_b37) hZ w59 w40 (by decide) (by decide)) q46a q46c (g := (mkF m 108 #[.val (.int n_), .val (.int a_), .val (.int b_), .val (.int c_), .val (.int (2 : Int32)), .val (.int u0), .val (.int u1), .val (.int u2), .val (.ref x_34), .val (.ref b37), .val (.int (1 : Int32))] [(.int u1), (.ref b37)])) rfl (by rw [hml]; rfl) (Steps.refl _) (argsL := [(.int u1)]) (rest := []) (lenOf own_pd20 rfl) rfl (by show 2 * 0 + _ ≤ _; exact Nat.le_of_eq rfl) (hb hby at_108) (fun _ _ => ⟨rfl, rfl, (by decide : 5 + 0 ≤ _), (by decide : 14 + 0 ≤ _)⟩)
    dsimp only [Pt.U, Pt.locs, Pt.cells, Pt.slots] at X46 l46 y46 z46 st46 hQ46
    subst l46 y46 z46
    obtain ⟨rfl, Nq46, K46, p46_0, p46_1, p46_2⟩ := hQ46
    have N46 := Fr.app N41 Nq46
    have H51 := CHv.keep K46 (allS (Safe.exa hZ.alike p41_0 (by decide) (by decide)) all0) H45
    refine otr (S' := T46.setTop (mkF m 111 #[.val (.int n_), .val (.int a_), .val (.int b_), .val (.int c_), .val (.int (2 : Int32)), .val (.int u0), .val (.int u1), .val (.int u2), .val (.ref x_34), .val (.ref b37), .val (.int (1 : Int32))] [(.int (1 : Int32))])) st46 ?_
    refine o_ifNo X46 hx (hb hby at_111) (feq (by decide : ¬ ((1 : Int32) = (0 : Int32)))).1 ?_
    refine o_iconst X46 hx (1 : Int32) (hb hby at_114) rfl ?_
    refine o_goto X46 hx 119 (hb hby at_115) (by decide) (by decide) ?_
    refine o_istore X46 hx (l' := #[.val (.int n_), .val (.int a_), .val (.int b_), .val (.int c_), .val (.int (2 : Int32)), .val (.int u0), .val (.int u1), .val (.int u2), .val (.ref x_34), .val (.ref b37), .val (.int (1 : Int32))]) (hb hby at_119) rfl ?_
    refine o_iload X46 hx (hb hby at_121) rfl ?_
    refine o_iconst X46 hx (3 : Int32) (hb hby at_123) rfl ?_
    refine o_icmpYes X46 hx 149 (hb hby at_124) (tlt (by decide : (2 : Int32) < (3 : Int32))).1 (by decide) (by decide) ?_
    refine o_iload X46 hx (hb hby at_149) rfl ?_
    refine o_ifYes X46 hx 156 (hb hby at_151) (feq (by decide : ¬ ((1 : Int32) = (0 : Int32)))).2 (by decide) (by decide) ?_
    refine o_aload X46 hx (hb hby at_156) rfl rfl ?_
    have c53 := (c48.keep K46 (ninS (Nat.ne_of_lt (Nat.lt_of_lt_of_le (Nat.lt_of_lt_of_le p34_3.lt (Nat.le_refl _)) (Nat.le_of_eq g37.symm))) nin0))
    have c54 := (c49.keep K46 (ninS (Nat.ne_of_lt (Nat.lt_of_lt_of_le (Nat.lt_of_lt_of_le p34_3.lt (Nat.le_refl _)) (Nat.le_of_eq g37.symm))) nin0))
    have c55 := (c50.keep K46 (ninS (Nat.ne_of_lt (Nat.lt_of_lt_of_le (Nat.lt_of_lt_of_le p34_2.lt (Nat.le_refl _)) (Nat.le_of_eq g37.symm))) nin0))
    obtain ⟨cq52, kq52, q52a, q52b, q52c⟩ := isOf hZ rfl p46_0
    obtain ⟨_, _, ⟨T52, L52, kc52, n52⟩, -, X52, ⟨Lc52, hQ52, l52, y52, z52⟩, st52⟩ := X46.virtualBack hx (y := yM14) (z := yM14) hown (mvT hZ w47) (mvT hZ w48) (notFace_of_selects (args := #[]) (mvT hZ w50)) (mvT hZ w50) (mvT hZ w49) (by decide) (backOf (W := 0) (rm_expend_2 l Z a0 hw [] z_CS v_FMT b37 x_34 ba_34 kb_34 cd_34 z_34 vs_34 u0 u1 T46.heap n0 SB (c47.keep K46 (allS n0_b37 all0)) p46_0 p46_1 p46_2 ((((Exa.ext E37 p34_3).keep K39).keep K41).keep K46) c53 c54 c55 p34_6) hZ w51 w40 (by decide) (by decide)) q52a q52c (g := (mkF m 158 #[.val (.int n_), .val (.int a_), .val (.int b_), .val (.int c_), .val (.int (2 : Int32)), .val (.int u0), .val (.int u1), .val (.int u2), .val (.ref x_34), .val (.ref b37), .val (.int (1 : Int32))] [(.ref b37)])) rfl (by rw [hml]; rfl) (Steps.refl _) (argsL := []) (rest := []) (lenOf own_pd19 rfl) rfl (by show 2 * 0 + _ ≤ _; exact Nat.le_of_eq rfl) (hb hby at_158) (fun _ _ => ⟨rfl, rfl, (by decide : 5 + 0 ≤ _), (by decide : 14 + 0 ≤ _)⟩)
    dsimp only [Pt.U, Pt.locs, Pt.cells, Pt.slots] at X52 l52 y52 z52 st52 hQ52
    subst l52 y52 z52
    obtain ⟨rfl, Nq52, e52⟩ := hQ52
    have N52 := Fr.app N46 Nq52
    refine otr (S' := T52.setTop (mkF m 161 #[.val (.int n_), .val (.int a_), .val (.int b_), .val (.int c_), .val (.int (2 : Int32)), .val (.int u0), .val (.int u1), .val (.int u2), .val (.ref x_34), .val (.ref b37), .val (.int (1 : Int32))] [])) st52 ?_
    refine o_aload X52 hx (hb hby at_161) rfl rfl ?_
    obtain ⟨cq56, kq56, q56a, q56b, q56c⟩ := isOf hZ e52 p46_0
    obtain ⟨_, _, ⟨T56, L56, kc56, n56⟩, -, X56, ⟨Lc56, hQ56, l56, y56, z56⟩, st56⟩ := X52.virtualBack hx (y := yM14) (z := yM14) hown (mvT hZ w47) (mvT hZ w48) (notFace_of_selects (args := #[]) (mvT hZ w50)) (mvT hZ w50) (mvT hZ w49) (by decide) (backOf (W := 0) (rm_expend_2 l Z a0 hw [] z_CS v_FMT b37 x_34 ba_34 kb_34 cd_34 z_34 vs_34 u0 u1 T46.heap n0 SB (c47.keep K46 (allS n0_b37 all0)) p46_0 p46_1 p46_2 ((((Exa.ext E37 p34_3).keep K39).keep K41).keep K46) c53 c54 c55 p34_6) hZ w51 w40 (by decide) (by decide)) q56a q56c (g := (mkF m 163 #[.val (.int n_), .val (.int a_), .val (.int b_), .val (.int c_), .val (.int (2 : Int32)), .val (.int u0), .val (.int u1), .val (.int u2), .val (.ref x_34), .val (.ref b37), .val (.int (1 : Int32))] [(.ref b37)])) rfl (by rw [hml]; rfl) (Steps.refl _) (argsL := []) (rest := []) (lenOf own_pd19 rfl) rfl (by show 2 * 0 + _ ≤ _; exact Nat.le_of_eq rfl) (hb hby at_163) (fun _ _ => ⟨rfl, e52, (by decide : 5 + 0 ≤ _), (by decide : 14 + 0 ≤ _)⟩)
    dsimp only [Pt.U, Pt.locs, Pt.cells, Pt.slots] at X56 l56 y56 z56 st56 hQ56
    subst l56 y56 z56
    obtain ⟨rfl, Nq56, e56⟩ := hQ56
    have N56 := Fr.app N52 Nq56
    refine otr (S' := T56.setTop (mkF m 166 #[.val (.int n_), .val (.int a_), .val (.int b_), .val (.int c_), .val (.int (2 : Int32)), .val (.int u0), .val (.int u1), .val (.int u2), .val (.ref x_34), .val (.ref b37), .val (.int (1 : Int32))] [])) st56 ?_
    refine o_aload X56 hx (hb hby at_166) rfl rfl ?_
    refine o_iload X56 hx (hb hby at_168) rfl ?_
    obtain ⟨cq57, kq57, q57a, q57b, q57c⟩ := isOf hZ e56 p46_0
    obtain ⟨_, _, ⟨T57, L57, kc57, n57⟩, -, X57, ⟨Lc57, hQ57, l57, y57, z57⟩, st57⟩ := X56.virtualBack hx (y := yM13) (z := yM13) hown (mvT hZ w55) (mvT hZ w56) (notFace_of_selects (args := #[]) (mvT hZ w58)) (mvT hZ w58) (mvT hZ w57) (by decide) (backOf (W := 0) (rm_skipE_2 l Z a0 hw [] z_CS v_FMT b37 x_34 ba_34 kb_34 cd_34 z_34 vs_34 u0 u1 u0 T46.heap n0 SB (c47.keep K46 (allS n0_b37 all0)) p46_0 p46_1 p46_2 ((((Exa.ext E37 p34_3).keep K39).keep K41).keep K46) c53 c54 c55 p34_6) hZ w59 w40 (by decide) (by decide)) q57a q57c (g := (mkF m 170 #[.val (.int n_), .val (.int a_), .val (.int b_), .val (.int c_), .val (.int (2 : Int32)), .val (.int u0), .val (.int u1), .val (.int u2), .val (.ref x_34), .val (.ref b37), .val (.int (1 : Int32))] [(.int u0), (.ref b37)])) rfl (by rw [hml]; rfl) (Steps.refl _) (argsL := [(.int u0)]) (rest := []) (lenOf own_pd20 rfl) rfl (by show 2 * 0 + _ ≤ _; exact Nat.le_of_eq rfl) (hb hby at_170) (fun _ _ => ⟨rfl, e56, (by decide : 5 + 0 ≤ _), (by decide : 14 + 0 ≤ _)⟩)
    dsimp only [Pt.U, Pt.locs, Pt.cells, Pt.slots] at X57 l57 y57 z57 st57 hQ57
    subst l57 y57 z57
    obtain ⟨rfl, Nq57, e57⟩ := hQ57
    have N57 := Fr.app N56 Nq57
    refine otr (S' := T57.setTop (mkF m 173 #[.val (.int n_), .val (.int a_), .val (.int b_), .val (.int c_), .val (.int (2 : Int32)), .val (.int u0), .val (.int u1), .val (.int u2), .val (.ref x_34), .val (.ref b37), .val (.int (1 : Int32))] [(.int (0 : Int32))])) st57 ?_
    refine o_ifNo X57 hx (hb hby at_173) (teq (by decide : (0 : Int32) = (0 : Int32))).2 ?_
    refine o_iconst X57 hx (1 : Int32) (hb hby at_176) rfl ?_
    refine o_goto X57 hx 181 (hb hby at_177) (by decide) (by decide) ?_
    refine oendS X57 hlk hS0 (Nat.le_trans (Nat.zero_le _) (Nat.le_trans (Nat.le_trans (Nat.le_trans (Nat.le_trans K34.1 E37.1) K39.1) K41.1) K46.1)) e57 hZ hEL hs0 (CHr.trans (CHr.trans (CHr.trans (CHr.trans (CHr.trans (CHr.refl H0) (CHr.keep K34 all0 H0)) (CHr.ext E37 H35)) (CHr.keep K39 (allS (Safe.exa hZ.alike A37 (by decide) (by decide)) all0) H38)) (CHr.keep K41 (allS (Safe.exa hZ.alike p39_0 (by decide) (by decide)) all0) H40)) (CHr.keep K46 (allS (Safe.exa hZ.alike p41_0 (by decide) (by decide)) all0) H45)) (v := some (.int (1 : Int32))) (fun h => by rw [hret] at h; cases h) (fun fs hr => retN X57 hx (t := .boolean) hret (by simp) (hb hby at_181) hr) (by decide) (by decide) ?_
    show own_Q_law Z _ _ _ _ _ _ h0 n0 _ T57.heap _
    rw [e57]
    exact ⟨rfl, N57, ((((((Keep.refl h0 []).trans K34 all0).ext E37).trans K39 (allS (Or.inr (Nat.le_trans K34.1 (Nat.le_of_eq g37.symm))) all0)).trans K41 (allS (Or.inr (Nat.le_trans K34.1 (Nat.le_of_eq g37.symm))) all0)).trans K46 (allS (Or.inr (Nat.le_trans K34.1 (Nat.le_of_eq g37.symm))) all0))⟩
  · rw [hs1]
    refine o_iload X0 hx (hb hby at_26) rfl ?_
    refine o_iload X0 hx (hb hby at_28) rfl ?_
    refine o_iload X0 hx (hb hby at_30) rfl ?_
    refine o_iload X0 hx (hb hby at_32) rfl ?_
    obtain ⟨_, _, ⟨T58, L58, kc58, n58⟩, -, X58, ⟨Lc58, hQ58, l58, y58, z58⟩, st58⟩ := Jvm.LawKit.callS X0 hx (y := yM23) hown (mvT hZ w1) (mvT hZ w2) (mvT hZ w3) (mvT hZ w4) (by decide) (backOf (W := 0) (rm_text_3 l Z a0 hw [] z_CS v_FMT u0 u1 u2 h0 n0 SB O0 hcu0 hcu1 hcu2 (own_nar16 hcu0) (own_nar16 hcu1) (own_nar16 hcu2)) hZ w4 w3 (by decide) (by decide)) (g := (mkF m 34 #[.val (.int n_), .val (.int a_), .val (.int b_), .val (.int c_), .val (.int (3 : Int32)), .val (.int u0), .val (.int u1), .val (.int u2), .unset, .unset, .unset] [(.int u2), (.int u1), (.int u0), (.int (3 : Int32))])) rfl (by rw [hml]; rfl) (argsL := [(.int (3 : Int32)), (.int u0), (.int u1), (.int u2)]) (rest := []) (lenOf own_pd17 rfl) rfl (by show 2 * 0 + _ ≤ _; exact Nat.le_of_eq rfl) (hb hby at_34) (fun _ _ => ⟨rfl, e0, (by decide : 0 + 4 ≤ _), (by decide : 0 + 16 ≤ _)⟩)
    dsimp only [Pt.U, Pt.locs, Pt.cells, Pt.slots] at X58 l58 y58 z58 st58 hQ58
    subst l58 y58 z58
    obtain ⟨x_58, ba_58, kb_58, cd_58, z_58, vs_58, rfl, Nq58, K58, p58_0, p58_1, p58_2, p58_3, p58_4, p58_5, p58_6⟩ := hQ58
    have N58 := Fr.app N0 Nq58
    have H59 := CHv.keep K58 all0 H0
    have n0_x_58 : n0 ≤ x_58 := Nat.le_trans (Nat.le_trans (Nat.le_of_eq O0.1.symm) O0.2.1) (Nat.le_trans (Nat.le_refl _) p58_0)
    have n0_ba_58 : n0 ≤ ba_58 := Nat.le_trans (Nat.le_trans (Nat.le_of_eq O0.1.symm) O0.2.1) (Nat.le_trans (Nat.le_refl _) p58_1)
    refine ogo (S' := T58.setTop (mkF m 37 #[.val (.int n_), .val (.int a_), .val (.int b_), .val (.int c_), .val (.int (3 : Int32)), .val (.int u0), .val (.int u1), .val (.int u2), .unset, .unset, .unset] [(.ref x_58)])) st58 ?_
    refine o_astore X58 hx (l' := #[.val (.int n_), .val (.int a_), .val (.int b_), .val (.int c_), .val (.int (3 : Int32)), .val (.int u0), .val (.int u1), .val (.int u2), .val (.ref x_58), .unset, .unset]) (hb hby at_37) rfl rfl ?_
    refine o_aload X58 hx (hb hby at_39) rfl rfl ?_
    obtain ⟨cq60, kq60, q60a, q60b, q60c⟩ := isOf hZ rfl p58_3
    obtain ⟨_, _, ⟨T60, L60, kc60, n60⟩, -, X60, ⟨Lc60, hQ60, l60, y60, z60⟩, st60⟩ := X58.virtualBack hx (y := yM12) (z := yM12) hown (mvT hZ w27) (mvT hZ w28) (notFace_of_selects (args := #[]) (mvT hZ w30)) (mvT hZ w30) (mvT hZ w29) (by decide) (backOf (W := 0) (rm_elen_3 l Z a0 hw [] z_CS v_FMT x_58 ba_58 kb_58 cd_58 z_58 vs_58 u0 u1 u2 T58.heap n0 SB (O0.keep K58 all0) p58_3 p58_5 p58_4 p58_2 p58_6) hZ w31 w7 (by decide) (by decide)) q60a q60c (g := (mkF m 41 #[.val (.int n_), .val (.int a_), .val (.int b_), .val (.int c_), .val (.int (3 : Int32)), .val (.int u0), .val (.int u1), .val (.int u2), .val (.ref x_58), .unset, .unset] [(.ref x_58)])) rfl (by rw [hml]; rfl) (Steps.refl _) (argsL := []) (rest := []) (lenOf own_pd9 rfl) rfl (by show 2 * 0 + _ ≤ _; exact Nat.le_of_eq rfl) (hb hby at_41) (fun _ _ => ⟨rfl, rfl, (by decide : 4 + 0 ≤ _), (by decide : 16 + 0 ≤ _)⟩)
    dsimp only [Pt.U, Pt.locs, Pt.cells, Pt.slots] at X60 l60 y60 z60 st60 hQ60
    subst l60 y60 z60
    obtain ⟨rfl, Nq60, e60⟩ := hQ60
    have N60 := Fr.app N58 Nq60
    refine otr (S' := T60.setTop (mkF m 44 #[.val (.int n_), .val (.int a_), .val (.int b_), .val (.int c_), .val (.int (3 : Int32)), .val (.int u0), .val (.int u1), .val (.int u2), .val (.ref x_58), .unset, .unset] [(.int (3 : Int32))])) st60 ?_
    refine o_iload X60 hx (hb hby at_44) rfl ?_
    refine o_icmpYes X60 hx 51 (hb hby at_46) (teq (by decide : (3 : Int32) = (3 : Int32))).1 (by decide) (by decide) ?_
    obtain ⟨T61, _, X61, rfl, E61, A61, D61, -, st61⟩ := newO X60 hx hZ hown w38 w39 w40 e60 (g := (mkF m 51 #[.val (.int n_), .val (.int a_), .val (.int b_), .val (.int c_), .val (.int (3 : Int32)), .val (.int u0), .val (.int u1), .val (.int u2), .val (.ref x_58), .unset, .unset] [])) rfl (hb hby at_51) (by decide) (by decide)
    obtain ⟨b61, g61⟩ : ∃ z, z = T58.heap.size := ⟨_, rfl⟩
    rw [← g61] at A61 D61 st61
    have n0_b61 : n0 ≤ b61 := Nat.le_trans (Nat.le_trans (Nat.le_of_eq O0.1.symm) O0.2.1) (Nat.le_trans K58.1 (Nat.le_of_eq g61.symm))
    have H62 := CHv.ext E61 H59
    have F61_text : Fld Z T61.heap b61 "com/example/rowfold/rowfold/Literal" "text" "Ljava/lang/String;" .null := D61 (Or.inr w46) (ty := (.object "java/lang/String")) (by decide)
    have F61_at : Fld Z T61.heap b61 "com/example/rowfold/rowfold/Literal" "at" "I" (.int (0 : Int32)) := D61 (Or.inl w53) (ty := .int) (by decide)
    refine ogo (S' := T61.setTop (mkF m 54 #[.val (.int n_), .val (.int a_), .val (.int b_), .val (.int c_), .val (.int (3 : Int32)), .val (.int u0), .val (.int u1), .val (.int u2), .val (.ref x_58), .unset, .unset] [(.ref b61)])) st61 ?_
    refine o_dup X61 hx (hb hby at_54) rfl ?_
    refine o_aload X61 hx (hb hby at_55) rfl rfl ?_
    obtain ⟨_, _, ⟨T63, L63, kc63, n63⟩, -, X63, ⟨Lc63, hQ63, l63, y63, z63⟩, st63⟩ := X61.specialBack hx (y := yM0) rfl hown (mvT hZ w41) (mvT hZ w42) (mvT hZ w43) (by decide) (backOf (W := 1) (rm_linit l Z a0 hw []  b61 x_58 T61.heap n0 ((O0.keep K58 all0).ext E61) A61 F61_text F61_at n0_b61) hZ w43 w40 (by decide) (by decide)) (g := (mkF m 57 #[.val (.int n_), .val (.int a_), .val (.int b_), .val (.int c_), .val (.int (3 : Int32)), .val (.int u0), .val (.int u1), .val (.int u2), .val (.ref x_58), .unset, .unset] [(.ref x_58), (.ref b61), (.ref b61)])) rfl (by rw [hml]; rfl) (Steps.refl _) (a := b61) (argsL := [(.ref x_58)]) (rest := [(.ref b61)]) (lenOf own_pd18 rfl) rfl (by show 2 * 0 + _ ≤ _; exact Nat.le_of_eq rfl) (hb hby at_57) (fun _ _ => ⟨rfl, rfl, (by decide : 5 + 0 ≤ _), (by decide : 18 + 0 ≤ _)⟩)
    dsimp only [Pt.U, Pt.locs, Pt.cells, Pt.slots] at X63 l63 y63 z63 st63 hQ63
    subst l63 y63 z63
    obtain ⟨rfl, Nq63, K63, p63_0, p63_1, p63_2⟩ := hQ63
    have N63 := Fr.app N60 Nq63
    have H64 := CHv.keep K63 (allS (Safe.exa hZ.alike A61 (by decide) (by decide)) all0) H62
    refine otr (S' := T63.setTop (mkF m 60 #[.val (.int n_), .val (.int a_), .val (.int b_), .val (.int c_), .val (.int (3 : Int32)), .val (.int u0), .val (.int u1), .val (.int u2), .val (.ref x_58), .unset, .unset] [(.ref b61)])) st63 ?_
    refine o_astore X63 hx (l' := #[.val (.int n_), .val (.int a_), .val (.int b_), .val (.int c_), .val (.int (3 : Int32)), .val (.int u0), .val (.int u1), .val (.int u2), .val (.ref x_58), .val (.ref b61), .unset]) (hb hby at_60) rfl rfl ?_
    refine o_iconst X63 hx (1 : Int32) (hb hby at_62) rfl ?_
    refine o_istore X63 hx (l' := #[.val (.int n_), .val (.int a_), .val (.int b_), .val (.int c_), .val (.int (3 : Int32)), .val (.int u0), .val (.int u1), .val (.int u2), .val (.ref x_58), .val (.ref b61), .val (.int (1 : Int32))]) (hb hby at_63) rfl ?_
    refine o_iload X63 hx (hb hby at_65) rfl ?_
    refine o_iconst X63 hx (1 : Int32) (hb hby at_67) rfl ?_
    refine o_icmpNo X63 hx (hb hby at_68) (flt (by decide : ¬ ((3 : Int32) < (1 : Int32)))).1 ?_
    refine o_iload X63 hx (hb hby at_71) rfl ?_
    refine o_ifNo X63 hx (hb hby at_73) (feq (by decide : ¬ ((1 : Int32) = (0 : Int32)))).1 ?_
    refine o_aload X63 hx (hb hby at_76) rfl rfl ?_
    refine o_iload X63 hx (hb hby at_78) rfl ?_
    have c66 := ((Fld.ext E61 p58_5).keep K63 (ninS (Nat.ne_of_lt (Nat.lt_of_lt_of_le (Nat.lt_of_lt_of_le p58_3.lt (Nat.le_refl _)) (Nat.le_of_eq g61.symm))) nin0))
    have c67 := ((Fld.ext E61 p58_4).keep K63 (ninS (Nat.ne_of_lt (Nat.lt_of_lt_of_le (Nat.lt_of_lt_of_le p58_3.lt (Nat.le_refl _)) (Nat.le_of_eq g61.symm))) nin0))
    have c68 := ((p58_2.ext E61).keep K63 (ninS (Nat.ne_of_lt (Nat.lt_of_lt_of_le (Nat.lt_of_lt_of_le p58_2.lt (Nat.le_refl _)) (Nat.le_of_eq g61.symm))) nin0))
    obtain ⟨cq65, kq65, q65a, q65b, q65c⟩ := isOf hZ rfl p63_0
    obtain ⟨_, _, ⟨T65, L65, kc65, n65⟩, -, X65, ⟨Lc65, hQ65, l65, y65, z65⟩, st65⟩ := X63.virtualBack hx (y := yM13) (z := yM13) hown (mvT hZ w55) (mvT hZ w56) (notFace_of_selects (args := #[]) (mvT hZ w58)) (mvT hZ w58) (mvT hZ w57) (by decide) (backOf (W := 0) (rm_skipT_3_0 l Z a0 hw [] z_CS v_FMT b61 x_58 ba_58 kb_58 cd_58 z_58 vs_58 u0 u1 u2 u0 T63.heap n0 SB (((O0.keep K58 all0).ext E61).keep K63 (allS n0_b61 all0)) p63_0 p63_1 p63_2 ((Exa.ext E61 p58_3).keep K63) c66 c67 c68 p58_6 hcu0 rfl n0_b61) hZ w59 w40 (by decide) (by decide)) q65a q65c (g := (mkF m 80 #[.val (.int n_), .val (.int a_), .val (.int b_), .val (.int c_), .val (.int (3 : Int32)), .val (.int u0), .val (.int u1), .val (.int u2), .val (.ref x_58), .val (.ref b61), .val (.int (1 : Int32))] [(.int u0), (.ref b61)])) rfl (by rw [hml]; rfl) (Steps.refl _) (argsL := [(.int u0)]) (rest := []) (lenOf own_pd20 rfl) rfl (by show 2 * 0 + _ ≤ _; exact Nat.le_of_eq rfl) (hb hby at_80) (fun _ _ => ⟨rfl, rfl, (by decide : 5 + 0 ≤ _), (by decide : 18 + 0 ≤ _)⟩)
    dsimp only [Pt.U, Pt.locs, Pt.cells, Pt.slots] at X65 l65 y65 z65 st65 hQ65
    subst l65 y65 z65
    obtain ⟨rfl, Nq65, K65, p65_0, p65_1, p65_2⟩ := hQ65
    have N65 := Fr.app N63 Nq65
    have H69 := CHv.keep K65 (allS (Safe.exa hZ.alike p63_0 (by decide) (by decide)) all0) H64
    refine otr (S' := T65.setTop (mkF m 83 #[.val (.int n_), .val (.int a_), .val (.int b_), .val (.int c_), .val (.int (3 : Int32)), .val (.int u0), .val (.int u1), .val (.int u2), .val (.ref x_58), .val (.ref b61), .val (.int (1 : Int32))] [(.int (1 : Int32))])) st65 ?_
    refine o_ifNo X65 hx (hb hby at_83) (feq (by decide : ¬ ((1 : Int32) = (0 : Int32)))).1 ?_
    refine o_iconst X65 hx (1 : Int32) (hb hby at_86) rfl ?_
    refine o_goto X65 hx 91 (hb hby at_87) (by decide) (by decide) ?_
    refine o_istore X65 hx (l' := #[.val (.int n_), .val (.int a_), .val (.int b_), .val (.int c_), .val (.int (3 : Int32)), .val (.int u0), .val (.int u1), .val (.int u2), .val (.ref x_58), .val (.ref b61), .val (.int (1 : Int32))]) (hb hby at_91) rfl ?_
    refine o_iload X65 hx (hb hby at_93) rfl ?_
    refine o_iconst X65 hx (2 : Int32) (hb hby at_95) rfl ?_
    refine o_icmpNo X65 hx (hb hby at_96) (flt (by decide : ¬ ((3 : Int32) < (2 : Int32)))).1 ?_
    refine o_iload X65 hx (hb hby at_99) rfl ?_
    refine o_ifNo X65 hx (hb hby at_101) (feq (by decide : ¬ ((1 : Int32) = (0 : Int32)))).1 ?_
    refine o_aload X65 hx (hb hby at_104) rfl rfl ?_
    refine o_iload X65 hx (hb hby at_106) rfl ?_
    have c71 := ((((O0.keep K58 all0).ext E61).keep K63 (allS n0_b61 all0)).keep K65 (allS n0_b61 all0))
    have c72 := (c66.keep K65 (ninS (Nat.ne_of_lt (Nat.lt_of_lt_of_le (Nat.lt_of_lt_of_le p58_3.lt (Nat.le_refl _)) (Nat.le_of_eq g61.symm))) nin0))
    have c73 := (c67.keep K65 (ninS (Nat.ne_of_lt (Nat.lt_of_lt_of_le (Nat.lt_of_lt_of_le p58_3.lt (Nat.le_refl _)) (Nat.le_of_eq g61.symm))) nin0))
    have c74 := (c68.keep K65 (ninS (Nat.ne_of_lt (Nat.lt_of_lt_of_le (Nat.lt_of_lt_of_le p58_2.lt (Nat.le_refl _)) (Nat.le_of_eq g61.symm))) nin0))
    obtain ⟨cq70, kq70, q70a, q70b, q70c⟩ := isOf hZ rfl p65_0
    obtain ⟨_, _, ⟨T70, L70, kc70, n70⟩, -, X70, ⟨Lc70, hQ70, l70, y70, z70⟩, st70⟩ := X65.virtualBack hx (y := yM13) (z := yM13) hown (mvT hZ w55) (mvT hZ w56) (notFace_of_selects (args := #[]) (mvT hZ w58)) (mvT hZ w58) (mvT hZ w57) (by decide) (backOf (W := 0) (rm_skipT_3_1 l Z a0 hw [] z_CS v_FMT b61 x_58 ba_58 kb_58 cd_58 z_58 vs_58 u0 u1 u2 u1 T65.heap n0 SB c71 p65_0 p65_1 p65_2 (((Exa.ext E61 p58_3).keep K63).keep K65) c72 c73 c74 p58_6 hcu1 rfl n0_b61) hZ w59 w40 (by decide) (by decide)) q70a q70c (g := (mkF m 108 #[.val (.int n_), .val (.int a_), .val (.int b_), .val (.int c_), .val (.int (3 : Int32)), .val (.int u0), .val (.int u1), .val (.int u2), .val (.ref x_58), .val (.ref b61), .val (.int (1 : Int32))] [(.int u1), (.ref b61)])) rfl (by rw [hml]; rfl) (Steps.refl _) (argsL := [(.int u1)]) (rest := []) (lenOf own_pd20 rfl) rfl (by show 2 * 0 + _ ≤ _; exact Nat.le_of_eq rfl) (hb hby at_108) (fun _ _ => ⟨rfl, rfl, (by decide : 5 + 0 ≤ _), (by decide : 18 + 0 ≤ _)⟩)
    dsimp only [Pt.U, Pt.locs, Pt.cells, Pt.slots] at X70 l70 y70 z70 st70 hQ70
    subst l70 y70 z70
    obtain ⟨rfl, Nq70, K70, p70_0, p70_1, p70_2⟩ := hQ70
    have N70 := Fr.app N65 Nq70
    have H75 := CHv.keep K70 (allS (Safe.exa hZ.alike p65_0 (by decide) (by decide)) all0) H69
    refine otr (S' := T70.setTop (mkF m 111 #[.val (.int n_), .val (.int a_), .val (.int b_), .val (.int c_), .val (.int (3 : Int32)), .val (.int u0), .val (.int u1), .val (.int u2), .val (.ref x_58), .val (.ref b61), .val (.int (1 : Int32))] [(.int (1 : Int32))])) st70 ?_
    refine o_ifNo X70 hx (hb hby at_111) (feq (by decide : ¬ ((1 : Int32) = (0 : Int32)))).1 ?_
    refine o_iconst X70 hx (1 : Int32) (hb hby at_114) rfl ?_
    refine o_goto X70 hx 119 (hb hby at_115) (by decide) (by decide) ?_
    refine o_istore X70 hx (l' := #[.val (.int n_), .val (.int a_), .val (.int b_), .val (.int c_), .val (.int (3 : Int32)), .val (.int u0), .val (.int u1), .val (.int u2), .val (.ref x_58), .val (.ref b61), .val (.int (1 : Int32))]) (hb hby at_119) rfl ?_
    refine o_iload X70 hx (hb hby at_121) rfl ?_
    refine o_iconst X70 hx (3 : Int32) (hb hby at_123) rfl ?_
    refine o_icmpNo X70 hx (hb hby at_124) (flt (by decide : ¬ ((3 : Int32) < (3 : Int32)))).1 ?_
    refine o_iload X70 hx (hb hby at_127) rfl ?_
    refine o_ifNo X70 hx (hb hby at_129) (feq (by decide : ¬ ((1 : Int32) = (0 : Int32)))).1 ?_
    refine o_aload X70 hx (hb hby at_132) rfl rfl ?_
    refine o_iload X70 hx (hb hby at_134) rfl ?_
    have c77 := (c72.keep K70 (ninS (Nat.ne_of_lt (Nat.lt_of_lt_of_le (Nat.lt_of_lt_of_le p58_3.lt (Nat.le_refl _)) (Nat.le_of_eq g61.symm))) nin0))
    have c78 := (c73.keep K70 (ninS (Nat.ne_of_lt (Nat.lt_of_lt_of_le (Nat.lt_of_lt_of_le p58_3.lt (Nat.le_refl _)) (Nat.le_of_eq g61.symm))) nin0))
    have c79 := (c74.keep K70 (ninS (Nat.ne_of_lt (Nat.lt_of_lt_of_le (Nat.lt_of_lt_of_le p58_2.lt (Nat.le_refl _)) (Nat.le_of_eq g61.symm))) nin0))
    obtain ⟨cq76, kq76, q76a, q76b, q76c⟩ := isOf hZ rfl p70_0
    obtain ⟨_, _, ⟨T76, L76, kc76, n76⟩, -, X76, ⟨Lc76, hQ76, l76, y76, z76⟩, st76⟩ := X70.virtualBack hx (y := yM13) (z := yM13) hown (mvT hZ w55) (mvT hZ w56) (notFace_of_selects (args := #[]) (mvT hZ w58)) (mvT hZ w58) (mvT hZ w57) (by decide) (backOf (W := 0) (rm_skipT_3_2 l Z a0 hw [] z_CS v_FMT b61 x_58 ba_58 kb_58 cd_58 z_58 vs_58 u0 u1 u2 u2 T70.heap n0 SB (c71.keep K70 (allS n0_b61 all0)) p70_0 p70_1 p70_2 ((((Exa.ext E61 p58_3).keep K63).keep K65).keep K70) c77 c78 c79 p58_6 hcu2 rfl n0_b61) hZ w59 w40 (by decide) (by decide)) q76a q76c (g := (mkF m 136 #[.val (.int n_), .val (.int a_), .val (.int b_), .val (.int c_), .val (.int (3 : Int32)), .val (.int u0), .val (.int u1), .val (.int u2), .val (.ref x_58), .val (.ref b61), .val (.int (1 : Int32))] [(.int u2), (.ref b61)])) rfl (by rw [hml]; rfl) (Steps.refl _) (argsL := [(.int u2)]) (rest := []) (lenOf own_pd20 rfl) rfl (by show 2 * 0 + _ ≤ _; exact Nat.le_of_eq rfl) (hb hby at_136) (fun _ _ => ⟨rfl, rfl, (by decide : 5 + 0 ≤ _), (by decide : 18 + 0 ≤ _)⟩)
    dsimp only [Pt.U, Pt.locs, Pt.cells, Pt.slots] at X76 l76 y76 z76 st76 hQ76
    subst l76 y76 z76
    obtain ⟨rfl, Nq76, K76, p76_0, p76_1, p76_2⟩ := hQ76
    have N76 := Fr.app N70 Nq76
    have H80 := CHv.keep K76 (allS (Safe.exa hZ.alike p70_0 (by decide) (by decide)) all0) H75
    refine otr (S' := T76.setTop (mkF m 139 #[.val (.int n_), .val (.int a_), .val (.int b_), .val (.int c_), .val (.int (3 : Int32)), .val (.int u0), .val (.int u1), .val (.int u2), .val (.ref x_58), .val (.ref b61), .val (.int (1 : Int32))] [(.int (1 : Int32))])) st76 ?_
    refine o_ifNo X76 hx (hb hby at_139) (feq (by decide : ¬ ((1 : Int32) = (0 : Int32)))).1 ?_
    refine o_iconst X76 hx (1 : Int32) (hb hby at_142) rfl ?_
    refine o_goto X76 hx 147 (hb hby at_143) (by decide) (by decide) ?_
    refine o_istore X76 hx (l' := #[.val (.int n_), .val (.int a_), .val (.int b_), .val (.int c_), .val (.int (3 : Int32)), .val (.int u0), .val (.int u1), .val (.int u2), .val (.ref x_58), .val (.ref b61), .val (.int (1 : Int32))]) (hb hby at_147) rfl ?_
    refine o_iload X76 hx (hb hby at_149) rfl ?_
    refine o_ifYes X76 hx 156 (hb hby at_151) (feq (by decide : ¬ ((1 : Int32) = (0 : Int32)))).2 (by decide) (by decide) ?_
    refine o_aload X76 hx (hb hby at_156) rfl rfl ?_
    have c82 := ((c71.keep K70 (allS n0_b61 all0)).keep K76 (allS n0_b61 all0))
    have c83 := (((((Exa.ext E61 p58_3).keep K63).keep K65).keep K70).keep K76)
    have c84 := (c77.keep K76 (ninS (Nat.ne_of_lt (Nat.lt_of_lt_of_le (Nat.lt_of_lt_of_le p58_3.lt (Nat.le_refl _)) (Nat.le_of_eq g61.symm))) nin0))
    have c85 := (c78.keep K76 (ninS (Nat.ne_of_lt (Nat.lt_of_lt_of_le (Nat.lt_of_lt_of_le p58_3.lt (Nat.le_refl _)) (Nat.le_of_eq g61.symm))) nin0))
    have c86 := (c79.keep K76 (ninS (Nat.ne_of_lt (Nat.lt_of_lt_of_le (Nat.lt_of_lt_of_le p58_2.lt (Nat.le_refl _)) (Nat.le_of_eq g61.symm))) nin0))
    obtain ⟨cq81, kq81, q81a, q81b, q81c⟩ := isOf hZ rfl p76_0
    obtain ⟨_, _, ⟨T81, L81, kc81, n81⟩, -, X81, ⟨Lc81, hQ81, l81, y81, z81⟩, st81⟩ := X76.virtualBack hx (y := yM14) (z := yM14) hown (mvT hZ w47) (mvT hZ w48) (notFace_of_selects (args := #[]) (mvT hZ w50)) (mvT hZ w50) (mvT hZ w49) (by decide) (backOf (W := 0) (rm_expend_3 l Z a0 hw [] z_CS v_FMT b61 x_58 ba_58 kb_58 cd_58 z_58 vs_58 u0 u1 u2 T76.heap n0 SB c82 p76_0 p76_1 p76_2 c83 c84 c85 c86 p58_6) hZ w51 w40 (by decide) (by decide)) q81a q81c (g := (mkF m 158 #[.val (.int n_), .val (.int a_), .val (.int b_), .val (.int c_), .val (.int (3 : Int32)), .val (.int u0), .val (.int u1), .val (.int u2), .val (.ref x_58), .val (.ref b61), .val (.int (1 : Int32))] [(.ref b61)])) rfl (by rw [hml]; rfl) (Steps.refl _) (argsL := []) (rest := []) (lenOf own_pd19 rfl) rfl (by show 2 * 0 + _ ≤ _; exact Nat.le_of_eq rfl) (hb hby at_158) (fun _ _ => ⟨rfl, rfl, (by decide : 5 + 0 ≤ _), (by decide : 18 + 0 ≤ _)⟩)
    dsimp only [Pt.U, Pt.locs, Pt.cells, Pt.slots] at X81 l81 y81 z81 st81 hQ81
    subst l81 y81 z81
    obtain ⟨rfl, Nq81, e81⟩ := hQ81
    have N81 := Fr.app N76 Nq81
    refine otr (S' := T81.setTop (mkF m 161 #[.val (.int n_), .val (.int a_), .val (.int b_), .val (.int c_), .val (.int (3 : Int32)), .val (.int u0), .val (.int u1), .val (.int u2), .val (.ref x_58), .val (.ref b61), .val (.int (1 : Int32))] [])) st81 ?_
    refine o_aload X81 hx (hb hby at_161) rfl rfl ?_
    obtain ⟨cq87, kq87, q87a, q87b, q87c⟩ := isOf hZ e81 p76_0
    obtain ⟨_, _, ⟨T87, L87, kc87, n87⟩, -, X87, ⟨Lc87, hQ87, l87, y87, z87⟩, st87⟩ := X81.virtualBack hx (y := yM14) (z := yM14) hown (mvT hZ w47) (mvT hZ w48) (notFace_of_selects (args := #[]) (mvT hZ w50)) (mvT hZ w50) (mvT hZ w49) (by decide) (backOf (W := 0) (rm_expend_3 l Z a0 hw [] z_CS v_FMT b61 x_58 ba_58 kb_58 cd_58 z_58 vs_58 u0 u1 u2 T76.heap n0 SB c82 p76_0 p76_1 p76_2 c83 c84 c85 c86 p58_6) hZ w51 w40 (by decide) (by decide)) q87a q87c (g := (mkF m 163 #[.val (.int n_), .val (.int a_), .val (.int b_), .val (.int c_), .val (.int (3 : Int32)), .val (.int u0), .val (.int u1), .val (.int u2), .val (.ref x_58), .val (.ref b61), .val (.int (1 : Int32))] [(.ref b61)])) rfl (by rw [hml]; rfl) (Steps.refl _) (argsL := []) (rest := []) (lenOf own_pd19 rfl) rfl (by show 2 * 0 + _ ≤ _; exact Nat.le_of_eq rfl) (hb hby at_163) (fun _ _ => ⟨rfl, e81, (by decide : 5 + 0 ≤ _), (by decide : 18 + 0 ≤ _)⟩)
    dsimp only [Pt.U, Pt.locs, Pt.cells, Pt.slots] at X87 l87 y87 z87 st87 hQ87
    subst l87 y87 z87
    obtain ⟨rfl, Nq87, e87⟩ := hQ87
    have N87 := Fr.app N81 Nq87
    refine otr (S' := T87.setTop (mkF m 166 #[.val (.int n_), .val (.int a_), .val (.int b_), .val (.int c_), .val (.int (3 : Int32)), .val (.int u0), .val (.int u1), .val (.int u2), .val (.ref x_58), .val (.ref b61), .val (.int (1 : Int32))] [])) st87 ?_
    refine o_aload X87 hx (hb hby at_166) rfl rfl ?_
    refine o_iload X87 hx (hb hby at_168) rfl ?_
    obtain ⟨cq88, kq88, q88a, q88b, q88c⟩ := isOf hZ e87 p76_0
    obtain ⟨_, _, ⟨T88, L88, kc88, n88⟩, -, X88, ⟨Lc88, hQ88, l88, y88, z88⟩, st88⟩ := X87.virtualBack hx (y := yM13) (z := yM13) hown (mvT hZ w55) (mvT hZ w56) (notFace_of_selects (args := #[]) (mvT hZ w58)) (mvT hZ w58) (mvT hZ w57) (by decide) (backOf (W := 0) (rm_skipE_3 l Z a0 hw [] z_CS v_FMT b61 x_58 ba_58 kb_58 cd_58 z_58 vs_58 u0 u1 u2 u0 T76.heap n0 SB c82 p76_0 p76_1 p76_2 c83 c84 c85 c86 p58_6) hZ w59 w40 (by decide) (by decide)) q88a q88c (g := (mkF m 170 #[.val (.int n_), .val (.int a_), .val (.int b_), .val (.int c_), .val (.int (3 : Int32)), .val (.int u0), .val (.int u1), .val (.int u2), .val (.ref x_58), .val (.ref b61), .val (.int (1 : Int32))] [(.int u0), (.ref b61)])) rfl (by rw [hml]; rfl) (Steps.refl _) (argsL := [(.int u0)]) (rest := []) (lenOf own_pd20 rfl) rfl (by show 2 * 0 + _ ≤ _; exact Nat.le_of_eq rfl) (hb hby at_170) (fun _ _ => ⟨rfl, e87, (by decide : 5 + 0 ≤ _), (by decide : 18 + 0 ≤ _)⟩)
    dsimp only [Pt.U, Pt.locs, Pt.cells, Pt.slots] at X88 l88 y88 z88 st88 hQ88
    subst l88 y88 z88
    obtain ⟨rfl, Nq88, e88⟩ := hQ88
    have N88 := Fr.app N87 Nq88
    refine otr (S' := T88.setTop (mkF m 173 #[.val (.int n_), .val (.int a_), .val (.int b_), .val (.int c_), .val (.int (3 : Int32)), .val (.int u0), .val (.int u1), .val (.int u2), .val (.ref x_58), .val (.ref b61), .val (.int (1 : Int32))] [(.int (0 : Int32))])) st88 ?_
    refine o_ifNo X88 hx (hb hby at_173) (teq (by decide : (0 : Int32) = (0 : Int32))).2 ?_
    refine o_iconst X88 hx (1 : Int32) (hb hby at_176) rfl ?_
    refine o_goto X88 hx 181 (hb hby at_177) (by decide) (by decide) ?_
    refine oendS X88 hlk hS0 (Nat.le_trans (Nat.zero_le _) (Nat.le_trans (Nat.le_trans (Nat.le_trans (Nat.le_trans (Nat.le_trans K58.1 E61.1) K63.1) K65.1) K70.1) K76.1)) e88 hZ hEL hs0 (CHr.trans (CHr.trans (CHr.trans (CHr.trans (CHr.trans (CHr.trans (CHr.refl H0) (CHr.keep K58 all0 H0)) (CHr.ext E61 H59)) (CHr.keep K63 (allS (Safe.exa hZ.alike A61 (by decide) (by decide)) all0) H62)) (CHr.keep K65 (allS (Safe.exa hZ.alike p63_0 (by decide) (by decide)) all0) H64)) (CHr.keep K70 (allS (Safe.exa hZ.alike p65_0 (by decide) (by decide)) all0) H69)) (CHr.keep K76 (allS (Safe.exa hZ.alike p70_0 (by decide) (by decide)) all0) H75)) (v := some (.int (1 : Int32))) (fun h => by rw [hret] at h; cases h) (fun fs hr => retN X88 hx (t := .boolean) hret (by simp) (hb hby at_181) hr) (by decide) (by decide) ?_
    show own_Q_law Z _ _ _ _ _ _ h0 n0 _ T88.heap _
    rw [e88]
    exact ⟨rfl, N88, (((((((Keep.refl h0 []).trans K58 all0).ext E61).trans K63 (allS (Or.inr (Nat.le_trans K58.1 (Nat.le_of_eq g61.symm))) all0)).trans K65 (allS (Or.inr (Nat.le_trans K58.1 (Nat.le_of_eq g61.symm))) all0)).trans K70 (allS (Or.inr (Nat.le_trans K58.1 (Nat.le_of_eq g61.symm))) all0)).trans K76 (allS (Or.inr (Nat.le_trans K58.1 (Nat.le_of_eq g61.symm))) all0))⟩
set_option maxRecDepth 65536 in
set_option maxHeartbeats 40000000 in
theorem comes_1 {Post : Tables → Env → Array Value → State → Outcome → State → Prop} (hpost : ∀ tb e args s v u, (limb_1_1.after args s (.returned v) u = true ∧ limb_1_2.after args s (.returned v) u = true ∧ True) → ReturnedEndW s (.returned v) u (Jvm.fieldLocs frame_1_writes args s ++ Jvm.arrayLocs frame_1_arrays args s ++ Jvm.staticLocs frame_1_statics s) 24 1152 → Post tb e args s (.returned v) u) :
    ArmFor flags0 classFile x code maxLocals ret World_1 tables_1 room_1 Calls_1 rest_1 Pre_1 Post := by
  intro l hfl _ _ p e ha hc hk s m args below hf hA hF happ hP
  obtain ⟨hcalls, hrest, hpre⟩ := hP
  obtain ⟨-, -, -, hnamed, -, -, -, hat⟩ := (Spec.applies_iff hf).mp happ
  obtain ⟨hg, hn⟩ := and_e (Cond.before_iff.mp (show (Jvm.Cond.and given_1 narrow_1).before args s = true from hpre))
  obtain ⟨g0, gr0⟩ := and_e hg
  obtain ⟨g1, gr1⟩ := and_e gr0
  obtain ⟨g2, gr2⟩ := and_e gr1
  obtain ⟨g3, gr3⟩ := and_e gr2
  obtain ⟨w0, w1, w2, w3, rfl⟩ : ∃ w0 w1 w2 w3 : Value, args = #[w0, w1, w2, w3] := by
    have hs : args.size = 4 := by simpa [Cond.value, given_1] using g0
    obtain ⟨L⟩ := args
    match L, hs with
    | [w0, w1, w2, w3], _ => exact ⟨w0, w1, w2, w3, rfl⟩
  have hw := fun d (hd : d ∈ tables_1) => atoms_spec (ws := Jvm.Cond.code x code maxLocals ret :: tables_1) hat d (List.mem_cons_of_mem _ hd)
  obtain ⟨hsets, hown0⟩ := atoms_of _ (rest_1_c_eq ▸ (show rest_1_c.before _ s = true from hrest))
  have hfit : Fit s := fun {y c} hc i hi => by
    obtain ⟨ha, rfl⟩ := Array.getElem?_eq_some_iff.mp hc
    have q := List.all_eq_true.mp ((Array.all_eq_true_iff_forall_mem.mp hF) _ (Array.getElem_mem ha)) i (List.mem_range.mpr hi)
    simpa [Array.getElem?_eq_getElem hi] using q
  obtain ⟨i0, ei0⟩ := is_v g1
  obtain rfl : w0 = (.int i0) := Option.some.inj ei0
  obtain ⟨i1, ei1⟩ := is_v g2
  obtain rfl : w1 = (.int i1) := Option.some.inj ei1
  obtain ⟨i2, ei2⟩ := is_v g3
  obtain rfl : w2 = (.int i2) := Option.some.inj ei2
  obtain ⟨i3, ei3⟩ := is_v gr3
  obtain rfl : w3 = (.int i3) := Option.some.inj ei3
  obtain ⟨z_CS, ev_CS⟩ := is_v (Cond.before_iff.mp (hsets _ (List.mem_of_getElem? (i := 1) rfl)))
  have n_CS := not_v (Cond.before_iff.mp (hsets _ (List.mem_of_getElem? (i := 2) rfl)))
  obtain ⟨v_FMT, ev_FMT, rf_FMT⟩ := isR_v (Cond.before_iff.mp (hsets _ (List.mem_of_getElem? (i := 8) rfl)))
  have hcw : Jvm.Lit.compactW.before _ s = true := (hsets _ (List.mem_of_getElem? (i := 2) rfl))
  have hCH : CHv s own_EL s.vm s.heap := CHv.start (own_EW hw) (fun q hq => hcalls.1 q hq) hcw (hw _ (List.mem_of_getElem? (i := 20) rfl)) (hw _ (List.mem_of_getElem? (i := 6) rfl))
  have SB : own_Start s z_CS v_FMT := ⟨(Sta.start ev_CS (Or.inl (hsets _ (List.mem_of_getElem? (i := 0) rfl)))), (gotF (Cond.eq_ints ev_CS (Term.int_eval (0))) n_CS), (Sta.start (Cond.eq_int (hsets _ (List.mem_of_getElem? (i := 12) rfl)) rfl) (Or.inl (hsets _ (List.mem_of_getElem? (i := 11) rfl)))), (Sta.start (Cond.eq_int (hsets _ (List.mem_of_getElem? (i := 15) rfl)) rfl) (Or.inl (hsets _ (List.mem_of_getElem? (i := 14) rfl)))), (Sta.start (Cond.eq_int (hsets _ (List.mem_of_getElem? (i := 18) rfl)) rfl) (Or.inl (hsets _ (List.mem_of_getElem? (i := 17) rfl)))), (Sta.start ev_FMT (Or.inl (hsets _ (List.mem_of_getElem? (i := 7) rfl)))), rf_FMT⟩
  obtain ⟨n, o, h1, h2, h3, _, L, rfl, ⟨rfl, N, -⟩, -, hq⟩ := rm_law l s _ hw tables_1 z_CS v_FMT i0 i1 i2 i3 s.heap s.heap.size SB (Old.start s)  p e ha hc hk s m _ below hf ((Spec.applies_iff_loose hf).mp happ).1 ⟨rfl, State.Warmed39.refl s, rfl, hCH⟩ trivial
  refine ⟨n, _, h1, h2, h3, hpost _ _ _ _ _ _ ⟨Cond.after_iff.mpr rfl, Cond.after_iff.mpr (eq_i res_at (Term.int_eval (1)) rfl), trivial⟩ ⟨hq.1, hq.2.1, hq.2.2.1, (hq.2.2.2.sift fun y hy => Or.inr (N y hy)).mono (by decide) (by decide)⟩⟩
theorem main_1_1 : Claimed_1_1 := comes_1 fun _ _ _ _ _ _ h hF => ⟨h.1, hF⟩
theorem main_1_2 : Claimed_1_2 := comes_1 fun _ _ _ _ _ _ h hF => ⟨h.2.1, hF⟩
end Jvm.Pilot.@@N@@
namespace Jvm.Pilot.@@N@@
open Jvm Jvm.ClassFile Sem Op Lib Jvm.Free Jvm.Stand Jvm.Pilot.@@N@@.Jvm.D
/-! MADE BY PROGRAM (witnessworld.py) out of the Statement's table words and the real class files: 20 classes; the members and pool entries that the words name. The judged class is class 1, her method 2. -/
namespace start1
open Jvm.ClassFile
def u (s : String) : CpInfo := .utf8 (stringToUtf16 s)
/-- a pool by its gaps: so many unusable entries, then the entry; so many at the end -/
def gap : Nat → List CpInfo → List CpInfo
  | 0, r => r
  | n + 1, r => .unusable :: gap n r
def poolList (es : List (Nat × CpInfo)) (last : Nat) : List CpInfo := es.foldr (fun e r => gap e.1 (e.2 :: r)) (gap last [])
def pool (es : List (Nat × CpInfo)) (last : Nat) : Array CpInfo := ⟨poolList es last⟩
def fileOf (pool : Array CpInfo) (this : Nat) (attrs : Array Attribute := #[]) (ms : Array MethodInfo := #[]) (fl : Nat := 33) (sup : Nat := 0) (ifs : Array Nat := #[]) (fds : Array FieldInfo := #[]) : ClassFile where
  minorVersion := 0
  majorVersion := 65
  constantPool := pool
  accessFlags := fl
  thisClass := this
  superClass := sup
  interfaces := ifs
  fields := fds
  methods := ms
  attributes := attrs
def plain (name : String) (sup : Option ClassId) : Class where
  name := name
  kind := .ordinary
  loader := none
  accessFlags := 33
  super := sup
  interfaces := #[]
  cf := none
  fields := #[]
  methods := #[]
  instanceTypes := #[]
  staticTypes := #[]
  resolved := #[]
  callSites := []
  init := .initialized
  statics := none
  mirror := none

def pool0 : Array CpInfo := pool [(5, u "<init>"), (0, u "()V"), (1, .class_ 10), (1, u "java/lang/Object")] 113

def k0c0 : Code := { maxStack := 0, maxLocals := 1, code := object_method_1_code, exceptionTable := #[], attributes := #[] }
def k0m0 : Method := { name := "<init>", desc := "()V", sig := { parameters := [], returnType := none }, accessFlags := 1, code := some k0c0 }
/-- java/lang/Object -/
def k0 : Class := { plain "java/lang/Object" none with
  accessFlags := 33
  interfaces := #[]
  cf := some (fileOf pool0 8 #[] #[{ accessFlags := 1, nameIndex := 5, descriptorIndex := 6, attributes := #[] }] 33 0 #[] #[])
  fields := #[]
  methods := #[k0m0]
  instanceTypes := #[]
  staticTypes := #[]
  resolved := Array.replicate 124 none
  statics := none }

def pool1 : Array CpInfo := pool [(2, .class_ 4), (1, u "java/lang/Object"), (0, u "<init>"), (0, u "()V"), (0, .class_ 8), (0, u "java/lang/String"), (0, .methodref 7 10), (0, .nameAndType 5 11), (0, u "([C)V"), (0, .integer 65535), (0, .methodref 14 15), (0, .class_ 16), (0, .nameAndType 17 18), (0, u "com/example/rowfold/rowfold/LiteralExpectEndPinLaw"), (0, u "text"), (0, u "(ICCC)Ljava/lang/String;"), (0, .methodref 7 20), (0, .nameAndType 21 22), (0, u "length"), (0, u "()I"), (0, .class_ 24), (0, u "com/example/rowfold/rowfold/Literal"), (0, .methodref 23 26), (0, .nameAndType 5 27), (0, u "(Ljava/lang/String;)V"), (0, .methodref 23 29), (0, .nameAndType 30 31), (0, u "skip"), (0, u "(C)Z"), (0, .methodref 23 33), (0, .nameAndType 34 6), (0, u "expectEnd"), (3, u "law"), (0, u "(IIII)Z")] 2

def k1m0 : Method := { name := "<init>", desc := "()V", sig := { parameters := [], returnType := none }, accessFlags := 1, code := none }
def k1c1 : Code := { maxStack := 6, maxLocals := 4, code := method_2_code, exceptionTable := #[], attributes := #[] }
def k1m1 : Method := { name := "text", desc := "(ICCC)Ljava/lang/String;", sig := { parameters := [.int, .char, .char, .char], returnType := some (.object "java/lang/String") }, accessFlags := 10, code := some k1c1 }
def k1c2 : Code := { maxStack := 4, maxLocals := 11, code := code, exceptionTable := #[], attributes := #[] }
def k1m2 : Method := { name := "law", desc := "(IIII)Z", sig := { parameters := [.int, .int, .int, .int], returnType := some .boolean }, accessFlags := 9, code := some k1c2 }
/-- com/example/rowfold/rowfold/LiteralExpectEndPinLaw -/
def k1 : Class := { plain "com/example/rowfold/rowfold/LiteralExpectEndPinLaw" (some 0) with
  accessFlags := 49
  interfaces := #[]
  cf := some (fileOf pool1 14 #[] #[{ accessFlags := 1, nameIndex := 5, descriptorIndex := 6, attributes := #[] }, { accessFlags := 10, nameIndex := 17, descriptorIndex := 18, attributes := #[] }, { accessFlags := 9, nameIndex := 38, descriptorIndex := 39, attributes := #[] }] 49 2 #[] #[])
  fields := #[]
  methods := #[k1m0, k1m1, k1m2]
  instanceTypes := #[]
  staticTypes := #[]
  resolved := Array.replicate 42 none
  statics := none }

def pool2 : Array CpInfo := pool [(1, .class_ 2), (0, u "java/io/Serializable"), (0, .class_ 4), (0, u "java/lang/Object")] 2

/-- java/io/Serializable -/
def k2 : Class := { plain "java/io/Serializable" (some 0) with
  accessFlags := 1537
  interfaces := #[]
  cf := some (fileOf pool2 1 #[] #[] 1537 3 #[] #[])
  fields := #[]
  methods := #[]
  instanceTypes := #[]
  staticTypes := #[]
  resolved := Array.replicate 7 none
  statics := none }

def pool3 : Array CpInfo := pool [(1, .class_ 2), (0, u "java/lang/Comparable"), (0, .class_ 4), (0, u "java/lang/Object")] 7

/-- java/lang/Comparable -/
def k3 : Class := { plain "java/lang/Comparable" (some 0) with
  accessFlags := 1537
  interfaces := #[]
  cf := some (fileOf pool3 1 #[] #[] 1537 3 #[] #[])
  fields := #[]
  methods := #[]
  instanceTypes := #[]
  staticTypes := #[]
  resolved := Array.replicate 12 none
  statics := none }

def pool4 : Array CpInfo := pool [(2, .class_ 4), (1, u "java/lang/CharSequence"), (42, .class_ 48), (0, u "java/lang/CharSequence$1CodePointIterator"), (10, .class_ 60), (0, u "java/lang/CharSequence$1CharIterator"), (5, .class_ 67), (0, u "java/lang/Object")] 63

/-- java/lang/CharSequence -/
def k4 : Class := { plain "java/lang/CharSequence" (some 0) with
  accessFlags := 1537
  interfaces := #[]
  cf := some (fileOf pool4 2 #[.nestMembers #[47, 59]] #[] 1537 66 #[] #[])
  fields := #[]
  methods := #[]
  instanceTypes := #[]
  staticTypes := #[]
  resolved := Array.replicate 131 none
  statics := none }

def pool5 : Array CpInfo := pool [(1, .class_ 2), (0, u "java/lang/constant/Constable"), (0, .class_ 4), (0, u "java/lang/Object")] 6

/-- java/lang/constant/Constable -/
def k5 : Class := { plain "java/lang/constant/Constable" (some 0) with
  accessFlags := 1537
  interfaces := #[]
  cf := some (fileOf pool5 1 #[] #[] 1537 3 #[] #[])
  fields := #[]
  methods := #[]
  instanceTypes := #[]
  staticTypes := #[]
  resolved := Array.replicate 11 none
  statics := none }

def pool6 : Array CpInfo := pool [(1, .class_ 2), (0, u "java/lang/constant/ConstantDesc"), (0, .class_ 4), (0, u "java/lang/Object")] 32

/-- java/lang/constant/ConstantDesc -/
def k6 : Class := { plain "java/lang/constant/ConstantDesc" (some 0) with
  accessFlags := 1537
  interfaces := #[]
  cf := some (fileOf pool6 1 #[] #[] 1537 3 #[] #[])
  fields := #[]
  methods := #[]
  instanceTypes := #[]
  staticTypes := #[]
  resolved := Array.replicate 37 none
  statics := none }

def pool7 : Array CpInfo := pool [(1, .methodref 2 3), (0, .class_ 4), (0, .nameAndType 5 6), (0, u "java/lang/Object"), (0, u "<init>"), (0, u "()V"), (0, .string 8), (0, u ""), (0, .fieldref 10 11), (0, .class_ 12), (0, .nameAndType 13 14), (0, u "java/lang/String"), (0, u "value"), (0, u "[B"), (0, .fieldref 10 16), (0, .nameAndType 17 18), (0, u "coder"), (0, u "B"), (2, u "hash"), (0, u "I"), (2, u "hashIsZero"), (0, u "Z"), (0, .methodref 10 28), (0, .nameAndType 5 29), (0, u "([CIILjava/lang/Void;)V"), (8, .fieldref 10 39), (0, .nameAndType 40 26), (0, u "COMPACT_STRINGS"), (1, .class_ 44), (1, u "java/lang/StringUTF16"), (0, u "compress"), (1, .methodref 42 48), (0, .nameAndType 49 50), (0, u "coderFromArrayLen"), (0, u "([BI)B"), (56, .class_ 109), (1, u "java/lang/StringLatin1"), (32, u "()Z"), (34, .methodref 42 178), (0, .nameAndType 45 179), (0, u "([CII)[B"), (154, u "()I"), (0, .methodref 10 336), (0, .nameAndType 17 337), (0, u "()B"), (25, u "([BI)C"), (27, u "(II)V"), (35, u "(I)C"), (64, .methodref 10 493), (0, .nameAndType 494 142), (0, u "isLatin1"), (0, .methodref 107 496), (0, .nameAndType 497 363), (0, u "charAt"), (0, .methodref 42 496), (2, u "checkIndex"), (5, u "length"), (67, .class_ 576), (0, u "java/lang/CharSequence"), (22, u "CASE_INSENSITIVE_ORDER"), (0, u "Ljava/util/Comparator;"), (409, u "([C)V"), (42, .fieldref 1054 1055), (0, .class_ 1056), (0, .nameAndType 1057 1058), (0, u "jdk/internal/util/Preconditions"), (0, u "SIOOBE_FORMATTER"), (0, u "Ljava/util/function/BiFunction;"), (0, .methodref 1054 1060), (0, .nameAndType 501 1061), (0, u "(IILjava/util/function/BiFunction;)I"), (39, u "serialPersistentFields"), (0, u "[Ljava/io/ObjectStreamField;"), (0, .class_ 1104), (0, u "java/lang/String$CaseInsensitiveComparator"), (1, .class_ 1107), (0, u "java/io/Serializable"), (0, .class_ 1109), (0, u "java/lang/Comparable"), (0, .class_ 1111), (0, u "java/lang/constant/Constable"), (0, .class_ 1113), (0, u "java/lang/constant/ConstantDesc"), (2, u "serialVersionUID"), (0, u "J"), (3, u "REPL"), (0, u "C"), (2, u "LATIN1"), (1, u "UTF16")] 323

def k7m0 : Method := { name := "<init>", desc := "()V", sig := { parameters := [], returnType := none }, accessFlags := 1, code := none }
def k7c1 : Code := { maxStack := 5, maxLocals := 2, code := jdk_42_method_3_code, exceptionTable := #[], attributes := #[] }
def k7m1 : Method := { name := "<init>", desc := "([C)V", sig := { parameters := [(.array .char)], returnType := none }, accessFlags := 1, code := some k7c1 }
def k7c2 : Code := { maxStack := 2, maxLocals := 1, code := jdk_42_method_54_code, exceptionTable := #[], attributes := #[] }
def k7m2 : Method := { name := "length", desc := "()I", sig := { parameters := [], returnType := some .int }, accessFlags := 1, code := some k7c2 }
def k7c3 : Code := { maxStack := 2, maxLocals := 2, code := jdk_42_method_56_code, exceptionTable := #[], attributes := #[] }
def k7m3 : Method := { name := "charAt", desc := "(I)C", sig := { parameters := [.int], returnType := some .char }, accessFlags := 1, code := some k7c3 }
def k7c4 : Code := { maxStack := 4, maxLocals := 6, code := jdk_42_method_149_code, exceptionTable := #[], attributes := #[] }
def k7m4 : Method := { name := "<init>", desc := "([CIILjava/lang/Void;)V", sig := { parameters := [(.array .char), .int, .int, (.object "java/lang/Void")], returnType := none }, accessFlags := 2, code := some k7c4 }
def k7c5 : Code := { maxStack := 1, maxLocals := 1, code := jdk_42_method_152_code, exceptionTable := #[], attributes := #[] }
def k7m5 : Method := { name := "coder", desc := "()B", sig := { parameters := [], returnType := some .byte }, accessFlags := 0, code := some k7c5 }
def k7c6 : Code := { maxStack := 1, maxLocals := 1, code := jdk_42_method_154_code, exceptionTable := #[], attributes := #[] }
def k7m6 : Method := { name := "isLatin1", desc := "()Z", sig := { parameters := [], returnType := some .boolean }, accessFlags := 0, code := some k7c6 }
def k7c7 : Code := { maxStack := 3, maxLocals := 2, code := jdk_42_method_155_code, exceptionTable := #[], attributes := #[] }
def k7m7 : Method := { name := "checkIndex", desc := "(II)V", sig := { parameters := [.int, .int], returnType := none }, accessFlags := 8, code := some k7c7 }
/-- java/lang/String -/
def k7 : Class := { plain "java/lang/String" (some 0) with
  accessFlags := 49
  interfaces := #[2, 3, 4, 5, 6]
  cf := some (fileOf pool7 10 #[.nestMembers #[1103]] #[{ accessFlags := 1, nameIndex := 5, descriptorIndex := 6, attributes := #[] }, { accessFlags := 1, nameIndex := 5, descriptorIndex := 1010, attributes := #[] }, { accessFlags := 1, nameIndex := 507, descriptorIndex := 334, attributes := #[] }, { accessFlags := 1, nameIndex := 497, descriptorIndex := 427, attributes := #[] }, { accessFlags := 2, nameIndex := 5, descriptorIndex := 29, attributes := #[] }, { accessFlags := 0, nameIndex := 17, descriptorIndex := 337, attributes := #[] }, { accessFlags := 0, nameIndex := 494, descriptorIndex := 142, attributes := #[] }, { accessFlags := 8, nameIndex := 501, descriptorIndex := 391, attributes := #[] }] 49 2 #[1106, 1108, 575, 1110, 1112] #[{ accessFlags := 18, nameIndex := 13, descriptorIndex := 14, attributes := #[] }, { accessFlags := 18, nameIndex := 17, descriptorIndex := 18, attributes := #[] }, { accessFlags := 2, nameIndex := 21, descriptorIndex := 22, attributes := #[] }, { accessFlags := 2, nameIndex := 25, descriptorIndex := 26, attributes := #[] }, { accessFlags := 26, nameIndex := 1116, descriptorIndex := 1117, attributes := #[] }, { accessFlags := 24, nameIndex := 40, descriptorIndex := 26, attributes := #[] }, { accessFlags := 26, nameIndex := 1101, descriptorIndex := 1102, attributes := #[] }, { accessFlags := 26, nameIndex := 1121, descriptorIndex := 1122, attributes := #[] }, { accessFlags := 25, nameIndex := 599, descriptorIndex := 600, attributes := #[] }, { accessFlags := 24, nameIndex := 1125, descriptorIndex := 18, attributes := #[] }, { accessFlags := 24, nameIndex := 1127, descriptorIndex := 18, attributes := #[] }])
  fields := #[{ name := "value", type := (.array .byte), accessFlags := 18, slot := 0, constantValue := 0 }, { name := "coder", type := .byte, accessFlags := 18, slot := 1, constantValue := 0 }, { name := "hash", type := .int, accessFlags := 2, slot := 2, constantValue := 0 }, { name := "hashIsZero", type := .boolean, accessFlags := 2, slot := 3, constantValue := 0 }, { name := "serialVersionUID", type := .long, accessFlags := 26, slot := 0, constantValue := 0 }, { name := "COMPACT_STRINGS", type := .boolean, accessFlags := 24, slot := 1, constantValue := 0 }, { name := "serialPersistentFields", type := (.array (.object "java/io/ObjectStreamField")), accessFlags := 26, slot := 2, constantValue := 0 }, { name := "REPL", type := .char, accessFlags := 26, slot := 3, constantValue := 0 }, { name := "CASE_INSENSITIVE_ORDER", type := (.object "java/util/Comparator"), accessFlags := 25, slot := 4, constantValue := 0 }, { name := "LATIN1", type := .byte, accessFlags := 24, slot := 5, constantValue := 0 }, { name := "UTF16", type := .byte, accessFlags := 24, slot := 6, constantValue := 0 }]
  methods := #[k7m0, k7m1, k7m2, k7m3, k7m4, k7m5, k7m6, k7m7]
  instanceTypes := #[(.array .byte), .byte, .int, .boolean]
  staticTypes := #[.long, .boolean, (.array (.object "java/io/ObjectStreamField")), .char, (.object "java/util/Comparator"), .byte, .byte]
  resolved := Array.replicate 1451 none
  statics := some 0 }

def pool8 : Array CpInfo := pool [(1, .methodref 2 3), (0, .class_ 4), (0, .nameAndType 5 6), (0, u "java/lang/Object"), (0, u "<init>"), (0, u "()V"), (0, .fieldref 8 9), (0, .class_ 10), (0, .nameAndType 11 12), (0, u "com/example/rowfold/rowfold/Literal"), (0, u "text"), (0, u "Ljava/lang/String;"), (3, .class_ 18), (1, u "java/lang/String"), (6, .fieldref 8 26), (0, .nameAndType 27 28), (0, u "at"), (0, u "I"), (0, .methodref 16 30), (0, .nameAndType 31 32), (0, u "length"), (0, u "()I"), (6, .methodref 16 40), (0, .nameAndType 41 42), (0, u "charAt"), (0, u "(I)C"), (2, u "skip"), (0, u "(C)Z"), (44, u "(Ljava/lang/String;)V"), (4, u "expectEnd")] 21

def k8c0 : Code := { maxStack := 2, maxLocals := 2, code := prog_8_method_1_code, exceptionTable := #[], attributes := #[] }
def k8m0 : Method := { name := "<init>", desc := "(Ljava/lang/String;)V", sig := { parameters := [(.object "java/lang/String")], returnType := none }, accessFlags := 0, code := some k8c0 }
def k8c1 : Code := { maxStack := 3, maxLocals := 3, code := prog_8_method_4_code, exceptionTable := #[], attributes := #[] }
def k8m1 : Method := { name := "skip", desc := "(C)Z", sig := { parameters := [.char], returnType := some .boolean }, accessFlags := 0, code := some k8c1 }
def k8c2 : Code := { maxStack := 2, maxLocals := 1, code := prog_8_method_6_code, exceptionTable := #[], attributes := #[] }
def k8m2 : Method := { name := "expectEnd", desc := "()V", sig := { parameters := [], returnType := none }, accessFlags := 0, code := some k8c2 }
/-- com/example/rowfold/rowfold/Literal -/
def k8 : Class := { plain "com/example/rowfold/rowfold/Literal" (some 0) with
  accessFlags := 48
  interfaces := #[]
  cf := some (fileOf pool8 8 #[] #[{ accessFlags := 0, nameIndex := 5, descriptorIndex := 91, attributes := #[] }, { accessFlags := 0, nameIndex := 45, descriptorIndex := 46, attributes := #[] }, { accessFlags := 0, nameIndex := 96, descriptorIndex := 6, attributes := #[] }] 48 2 #[] #[{ accessFlags := 18, nameIndex := 11, descriptorIndex := 12, attributes := #[] }, { accessFlags := 2, nameIndex := 27, descriptorIndex := 28, attributes := #[] }])
  fields := #[{ name := "text", type := (.object "java/lang/String"), accessFlags := 18, slot := 0, constantValue := 0 }, { name := "at", type := .int, accessFlags := 2, slot := 1, constantValue := 0 }]
  methods := #[k8m0, k8m1, k8m2]
  instanceTypes := #[(.object "java/lang/String"), .int]
  staticTypes := #[]
  resolved := Array.replicate 118 none
  statics := none }

def pool9 : Array CpInfo := pool [(3, .class_ 4), (0, u "java/lang/String"), (1, .class_ 8), (1, u "java/lang/Object"), (0, u "<init>"), (0, u "()V"), (0, .methodref 12 13), (0, .class_ 14), (0, .nameAndType 15 16), (0, u "java/lang/StringUTF16"), (0, u "newBytesLength"), (0, u "(I)I"), (3, .integer 1073741823), (23, .fieldref 12 45), (0, .nameAndType 46 47), (0, u "$assertionsDisabled"), (0, u "Z"), (0, .methodref 12 49), (0, .nameAndType 50 51), (0, u "length"), (0, u "([B)I"), (7, .fieldref 12 60), (0, .nameAndType 61 62), (0, u "HI_BYTE_SHIFT"), (0, u "I"), (0, .fieldref 12 64), (0, .nameAndType 65 62), (0, u "LO_BYTE_SHIFT"), (1, .methodref 12 68), (0, .nameAndType 69 70), (0, u "checkIndex"), (0, u "(I[B)V"), (0, .methodref 12 72), (0, .nameAndType 73 74), (0, u "getChar"), (0, u "([BI)C"), (32, .methodref 12 108), (0, .nameAndType 109 110), (0, u "newBytesFor"), (0, u "(I)[B"), (0, .methodref 12 112), (0, .nameAndType 113 114), (0, u "putChar"), (0, u "([BII)V"), (0, .methodref 12 116), (0, .nameAndType 117 118), (0, u "compress"), (0, u "([CI[BII)I"), (0, .methodref 12 120), (0, .nameAndType 121 122), (0, u "toBytes"), (0, u "([CII)[B"), (138, u "coderFromArrayLen"), (0, u "([BI)B"), (106, .class_ 371), (1, u "java/lang/StringUTF16$LinesSpliterator"), (20, u "charAt"), (21, .methodref 3 415), (0, .nameAndType 69 416), (0, u "(II)V"), (13, u "MAX_LENGTH"), (196, .class_ 628), (0, u "java/lang/StringUTF16$CodePointsSpliterator"), (0, .class_ 630), (0, u "java/lang/StringUTF16$CharsSpliterator")] 4

def k9m0 : Method := { name := "<init>", desc := "()V", sig := { parameters := [], returnType := none }, accessFlags := 0, code := none }
def k9c1 : Code := { maxStack := 1, maxLocals := 1, code := jdk_52_method_2_code, exceptionTable := #[], attributes := #[] }
def k9m1 : Method := { name := "newBytesFor", desc := "(I)[B", sig := { parameters := [.int], returnType := some (.array .byte) }, accessFlags := 9, code := some k9c1 }
def k9c2 : Code := { maxStack := 4, maxLocals := 1, code := jdk_52_method_3_code, exceptionTable := #[], attributes := #[] }
def k9m2 : Method := { name := "newBytesLength", desc := "(I)I", sig := { parameters := [.int], returnType := some .int }, accessFlags := 9, code := some k9c2 }
def k9c3 : Code := { maxStack := 4, maxLocals := 3, code := jdk_52_method_4_code, exceptionTable := #[], attributes := #[] }
def k9m3 : Method := { name := "putChar", desc := "([BII)V", sig := { parameters := [(.array .byte), .int, .int], returnType := none }, accessFlags := 8, code := some k9c3 }
def k9c4 : Code := { maxStack := 3, maxLocals := 2, code := jdk_52_method_5_code, exceptionTable := #[], attributes := #[] }
def k9m4 : Method := { name := "getChar", desc := "([BI)C", sig := { parameters := [(.array .byte), .int], returnType := some .char }, accessFlags := 8, code := some k9c4 }
def k9c5 : Code := { maxStack := 2, maxLocals := 1, code := jdk_52_method_6_code, exceptionTable := #[], attributes := #[] }
def k9m5 : Method := { name := "length", desc := "([B)I", sig := { parameters := [(.array .byte)], returnType := some .int }, accessFlags := 9, code := some k9c5 }
def k9c6 : Code := { maxStack := 4, maxLocals := 5, code := jdk_52_method_14_code, exceptionTable := #[], attributes := #[] }
def k9m6 : Method := { name := "toBytes", desc := "([CII)[B", sig := { parameters := [(.array .char), .int, .int], returnType := some (.array .byte) }, accessFlags := 9, code := some k9c6 }
def k9c7 : Code := { maxStack := 2, maxLocals := 2, code := jdk_52_method_15_code, exceptionTable := #[], attributes := #[] }
def k9m7 : Method := { name := "coderFromArrayLen", desc := "([BI)B", sig := { parameters := [(.array .byte), .int], returnType := some .byte }, accessFlags := 8, code := some k9c7 }
def k9c8 : Code := { maxStack := 5, maxLocals := 6, code := jdk_52_method_16_code, exceptionTable := #[], attributes := #[] }
def k9m8 : Method := { name := "compress", desc := "([CII)[B", sig := { parameters := [(.array .char), .int, .int], returnType := some (.array .byte) }, accessFlags := 9, code := some k9c8 }
def k9c9 : Code := { maxStack := 3, maxLocals := 7, code := jdk_52_method_21_code, exceptionTable := #[], attributes := #[] }
def k9m9 : Method := { name := "compress", desc := "([CI[BII)I", sig := { parameters := [(.array .char), .int, (.array .byte), .int, .int], returnType := some .int }, accessFlags := 9, code := some k9c9 }
def k9c10 : Code := { maxStack := 2, maxLocals := 2, code := jdk_52_method_83_code, exceptionTable := #[], attributes := #[] }
def k9m10 : Method := { name := "charAt", desc := "([BI)C", sig := { parameters := [(.array .byte), .int], returnType := some .char }, accessFlags := 9, code := some k9c10 }
def k9c11 : Code := { maxStack := 2, maxLocals := 2, code := jdk_52_method_91_code, exceptionTable := #[], attributes := #[] }
def k9m11 : Method := { name := "checkIndex", desc := "(I[B)V", sig := { parameters := [.int, (.array .byte)], returnType := none }, accessFlags := 9, code := some k9c11 }
/-- java/lang/StringUTF16 -/
def k9 : Class := { plain "java/lang/StringUTF16" (some 0) with
  accessFlags := 48
  interfaces := #[]
  cf := some (fileOf pool9 12 #[.nestMembers #[627, 629, 369]] #[{ accessFlags := 0, nameIndex := 9, descriptorIndex := 10, attributes := #[] }, { accessFlags := 9, nameIndex := 109, descriptorIndex := 110, attributes := #[] }, { accessFlags := 9, nameIndex := 15, descriptorIndex := 16, attributes := #[] }, { accessFlags := 8, nameIndex := 113, descriptorIndex := 114, attributes := #[] }, { accessFlags := 8, nameIndex := 73, descriptorIndex := 74, attributes := #[] }, { accessFlags := 9, nameIndex := 50, descriptorIndex := 51, attributes := #[] }, { accessFlags := 9, nameIndex := 121, descriptorIndex := 122, attributes := #[] }, { accessFlags := 8, nameIndex := 261, descriptorIndex := 262, attributes := #[] }, { accessFlags := 9, nameIndex := 117, descriptorIndex := 122, attributes := #[] }, { accessFlags := 9, nameIndex := 117, descriptorIndex := 118, attributes := #[] }, { accessFlags := 9, nameIndex := 392, descriptorIndex := 74, attributes := #[] }, { accessFlags := 9, nameIndex := 69, descriptorIndex := 70, attributes := #[] }] 48 6 #[] #[{ accessFlags := 26, nameIndex := 61, descriptorIndex := 62, attributes := #[] }, { accessFlags := 26, nameIndex := 65, descriptorIndex := 62, attributes := #[] }, { accessFlags := 24, nameIndex := 430, descriptorIndex := 62, attributes := #[] }, { accessFlags := 4120, nameIndex := 46, descriptorIndex := 47, attributes := #[] }])
  fields := #[{ name := "HI_BYTE_SHIFT", type := .int, accessFlags := 26, slot := 0, constantValue := 0 }, { name := "LO_BYTE_SHIFT", type := .int, accessFlags := 26, slot := 1, constantValue := 0 }, { name := "MAX_LENGTH", type := .int, accessFlags := 24, slot := 2, constantValue := 0 }, { name := "$assertionsDisabled", type := .boolean, accessFlags := 4120, slot := 3, constantValue := 0 }]
  methods := #[k9m0, k9m1, k9m2, k9m3, k9m4, k9m5, k9m6, k9m7, k9m8, k9m9, k9m10, k9m11]
  instanceTypes := #[]
  staticTypes := #[.int, .int, .int, .boolean]
  resolved := Array.replicate 635 none
  statics := some 1 }

def pool10 : Array CpInfo := pool [(1, .class_ 2), (0, u "java/lang/String"), (1, .class_ 6), (1, u "java/lang/Object"), (0, u "<init>"), (0, u "()V"), (0, .methodref 1 10), (0, .nameAndType 11 12), (0, u "checkIndex"), (0, u "(II)V"), (1, .class_ 16), (1, u "java/lang/StringLatin1"), (36, u "([BI)C"), (67, u "$assertionsDisabled"), (0, u "Z"), (98, .class_ 223), (1, u "java/lang/StringLatin1$LinesSpliterator"), (28, u "charAt"), (137, .class_ 391), (0, u "java/lang/StringLatin1$CharsSpliterator")] 3

def k10m0 : Method := { name := "<init>", desc := "()V", sig := { parameters := [], returnType := none }, accessFlags := 0, code := none }
def k10c1 : Code := { maxStack := 2, maxLocals := 2, code := jdk_43_method_2_code, exceptionTable := #[], attributes := #[] }
def k10m1 : Method := { name := "charAt", desc := "([BI)C", sig := { parameters := [(.array .byte), .int], returnType := some .char }, accessFlags := 9, code := some k10c1 }
/-- java/lang/StringLatin1 -/
def k10 : Class := { plain "java/lang/StringLatin1" (some 0) with
  accessFlags := 48
  interfaces := #[]
  cf := some (fileOf pool10 14 #[.nestMembers #[390, 221]] #[{ accessFlags := 0, nameIndex := 7, descriptorIndex := 8, attributes := #[] }, { accessFlags := 9, nameIndex := 252, descriptorIndex := 53, attributes := #[] }] 48 4 #[] #[{ accessFlags := 4120, nameIndex := 121, descriptorIndex := 122, attributes := #[] }])
  fields := #[{ name := "$assertionsDisabled", type := .boolean, accessFlags := 4120, slot := 0, constantValue := 0 }]
  methods := #[k10m0, k10m1]
  instanceTypes := #[]
  staticTypes := #[.boolean]
  resolved := Array.replicate 395 none
  statics := none }

def pool11 : Array CpInfo := pool [(2, .class_ 4), (1, u "java/lang/Object"), (0, u "<init>"), (0, u "()V"), (17, .class_ 26), (1, u "jdk/internal/util/Preconditions"), (6, u "checkIndex"), (21, .class_ 56), (0, u "jdk/internal/util/Preconditions$4"), (57, .class_ 115), (0, u "jdk/internal/util/Preconditions$1"), (7, u "SIOOBE_FORMATTER"), (0, u "Ljava/util/function/BiFunction;"), (0, .class_ 126), (0, u "jdk/internal/util/Preconditions$2"), (3, u "AIOOBE_FORMATTER"), (0, .class_ 132), (0, u "jdk/internal/util/Preconditions$3"), (3, u "IOOBE_FORMATTER"), (41, u "(IILjava/util/function/BiFunction;)I")] 15

def k11m0 : Method := { name := "<init>", desc := "()V", sig := { parameters := [], returnType := none }, accessFlags := 1, code := none }
def k11c1 : Code := { maxStack := 3, maxLocals := 3, code := jdk_41_method_11_code, exceptionTable := #[], attributes := #[] }
def k11m1 : Method := { name := "checkIndex", desc := "(IILjava/util/function/BiFunction;)I", sig := { parameters := [.int, .int, (.object "java/util/function/BiFunction")], returnType := some .int }, accessFlags := 9, code := some k11c1 }
/-- jdk/internal/util/Preconditions -/
def k11 : Class := { plain "jdk/internal/util/Preconditions" (some 0) with
  accessFlags := 33
  interfaces := #[]
  cf := some (fileOf pool11 24 #[.nestMembers #[55, 131, 125, 114]] #[{ accessFlags := 1, nameIndex := 5, descriptorIndex := 6, attributes := #[] }, { accessFlags := 9, nameIndex := 33, descriptorIndex := 178, attributes := #[] }] 33 2 #[] #[{ accessFlags := 25, nameIndex := 123, descriptorIndex := 124, attributes := #[] }, { accessFlags := 25, nameIndex := 130, descriptorIndex := 124, attributes := #[] }, { accessFlags := 25, nameIndex := 136, descriptorIndex := 124, attributes := #[] }])
  fields := #[{ name := "SIOOBE_FORMATTER", type := (.object "java/util/function/BiFunction"), accessFlags := 25, slot := 0, constantValue := 0 }, { name := "AIOOBE_FORMATTER", type := (.object "java/util/function/BiFunction"), accessFlags := 25, slot := 1, constantValue := 0 }, { name := "IOOBE_FORMATTER", type := (.object "java/util/function/BiFunction"), accessFlags := 25, slot := 2, constantValue := 0 }]
  methods := #[k11m0, k11m1]
  instanceTypes := #[]
  staticTypes := #[(.object "java/util/function/BiFunction"), (.object "java/util/function/BiFunction"), (.object "java/util/function/BiFunction")]
  resolved := Array.replicate 194 none
  statics := some 2 }

def pool12 : Array CpInfo := pool [(9, u "<init>"), (6, .class_ 18), (1, u "java/lang/Object"), (0, u "()V"), (1, .class_ 23), (1, u "jdk/internal/util/ArraysSupport"), (0, u "LOG2_ARRAY_LONG_INDEX_SCALE"), (0, u "I"), (2, u "U"), (0, u "Ljdk/internal/misc/Unsafe;"), (8, u "BIG_ENDIAN"), (0, u "Z"), (8, u "LOG2_BYTE_BIT_SIZE"), (4, u "LOG2_ARRAY_INT_INDEX_SCALE"), (54, u "JLA"), (0, u "Ljdk/internal/access/JavaLangAccess;"), (11, u "LOG2_ARRAY_BOOLEAN_INDEX_SCALE"), (9, u "LOG2_ARRAY_BYTE_INDEX_SCALE"), (5, u "LOG2_ARRAY_CHAR_INDEX_SCALE"), (5, u "LOG2_ARRAY_SHORT_INDEX_SCALE"), (18, u "LOG2_ARRAY_FLOAT_INDEX_SCALE"), (24, u "LOG2_ARRAY_DOUBLE_INDEX_SCALE"), (89, u "T_BOOLEAN"), (2, u "T_CHAR"), (1, u "T_FLOAT"), (1, u "T_DOUBLE"), (1, u "T_BYTE"), (1, u "T_SHORT"), (1, u "T_INT"), (1, u "T_LONG"), (1, u "SOFT_MAX_ARRAY_LENGTH")] 83

def k12m0 : Method := { name := "<init>", desc := "()V", sig := { parameters := [], returnType := none }, accessFlags := 2, code := none }
/-- jdk/internal/util/ArraysSupport -/
def k12 : Class := { plain "jdk/internal/util/ArraysSupport" (some 0) with
  accessFlags := 33
  interfaces := #[]
  cf := some (fileOf pool12 21 #[] #[{ accessFlags := 2, nameIndex := 9, descriptorIndex := 19, attributes := #[] }] 33 16 #[] #[{ accessFlags := 24, nameIndex := 28, descriptorIndex := 29, attributes := #[] }, { accessFlags := 26, nameIndex := 38, descriptorIndex := 39, attributes := #[] }, { accessFlags := 25, nameIndex := 121, descriptorIndex := 25, attributes := #[] }, { accessFlags := 25, nameIndex := 131, descriptorIndex := 25, attributes := #[] }, { accessFlags := 25, nameIndex := 137, descriptorIndex := 25, attributes := #[] }, { accessFlags := 25, nameIndex := 143, descriptorIndex := 25, attributes := #[] }, { accessFlags := 25, nameIndex := 53, descriptorIndex := 25, attributes := #[] }, { accessFlags := 25, nameIndex := 24, descriptorIndex := 25, attributes := #[] }, { accessFlags := 25, nameIndex := 162, descriptorIndex := 25, attributes := #[] }, { accessFlags := 25, nameIndex := 187, descriptorIndex := 25, attributes := #[] }, { accessFlags := 26, nameIndex := 48, descriptorIndex := 25, attributes := #[] }, { accessFlags := 25, nameIndex := 277, descriptorIndex := 25, attributes := #[] }, { accessFlags := 25, nameIndex := 280, descriptorIndex := 25, attributes := #[] }, { accessFlags := 25, nameIndex := 282, descriptorIndex := 25, attributes := #[] }, { accessFlags := 25, nameIndex := 284, descriptorIndex := 25, attributes := #[] }, { accessFlags := 25, nameIndex := 286, descriptorIndex := 25, attributes := #[] }, { accessFlags := 25, nameIndex := 288, descriptorIndex := 25, attributes := #[] }, { accessFlags := 25, nameIndex := 290, descriptorIndex := 25, attributes := #[] }, { accessFlags := 25, nameIndex := 292, descriptorIndex := 25, attributes := #[] }, { accessFlags := 26, nameIndex := 108, descriptorIndex := 109, attributes := #[] }, { accessFlags := 25, nameIndex := 294, descriptorIndex := 25, attributes := #[] }])
  fields := #[{ name := "U", type := (.object "jdk/internal/misc/Unsafe"), accessFlags := 24, slot := 0, constantValue := 0 }, { name := "BIG_ENDIAN", type := .boolean, accessFlags := 26, slot := 1, constantValue := 0 }, { name := "LOG2_ARRAY_BOOLEAN_INDEX_SCALE", type := .int, accessFlags := 25, slot := 2, constantValue := 0 }, { name := "LOG2_ARRAY_BYTE_INDEX_SCALE", type := .int, accessFlags := 25, slot := 3, constantValue := 0 }, { name := "LOG2_ARRAY_CHAR_INDEX_SCALE", type := .int, accessFlags := 25, slot := 4, constantValue := 0 }, { name := "LOG2_ARRAY_SHORT_INDEX_SCALE", type := .int, accessFlags := 25, slot := 5, constantValue := 0 }, { name := "LOG2_ARRAY_INT_INDEX_SCALE", type := .int, accessFlags := 25, slot := 6, constantValue := 0 }, { name := "LOG2_ARRAY_LONG_INDEX_SCALE", type := .int, accessFlags := 25, slot := 7, constantValue := 0 }, { name := "LOG2_ARRAY_FLOAT_INDEX_SCALE", type := .int, accessFlags := 25, slot := 8, constantValue := 0 }, { name := "LOG2_ARRAY_DOUBLE_INDEX_SCALE", type := .int, accessFlags := 25, slot := 9, constantValue := 0 }, { name := "LOG2_BYTE_BIT_SIZE", type := .int, accessFlags := 26, slot := 10, constantValue := 0 }, { name := "T_BOOLEAN", type := .int, accessFlags := 25, slot := 11, constantValue := 0 }, { name := "T_CHAR", type := .int, accessFlags := 25, slot := 12, constantValue := 0 }, { name := "T_FLOAT", type := .int, accessFlags := 25, slot := 13, constantValue := 0 }, { name := "T_DOUBLE", type := .int, accessFlags := 25, slot := 14, constantValue := 0 }, { name := "T_BYTE", type := .int, accessFlags := 25, slot := 15, constantValue := 0 }, { name := "T_SHORT", type := .int, accessFlags := 25, slot := 16, constantValue := 0 }, { name := "T_INT", type := .int, accessFlags := 25, slot := 17, constantValue := 0 }, { name := "T_LONG", type := .int, accessFlags := 25, slot := 18, constantValue := 0 }, { name := "JLA", type := (.object "jdk/internal/access/JavaLangAccess"), accessFlags := 26, slot := 19, constantValue := 0 }, { name := "SOFT_MAX_ARRAY_LENGTH", type := .int, accessFlags := 25, slot := 20, constantValue := 0 }]
  methods := #[k12m0]
  instanceTypes := #[]
  staticTypes := #[(.object "jdk/internal/misc/Unsafe"), .boolean, .int, .int, .int, .int, .int, .int, .int, .int, .int, .int, .int, .int, .int, .int, .int, .int, .int, (.object "jdk/internal/access/JavaLangAccess"), .int]
  resolved := Array.replicate 378 none
  statics := none }

def pool13 : Array CpInfo := pool [(1, u "java/lang/Cloneable"), (0, .class_ 1), (0, u "java/lang/Object"), (0, .class_ 3)] 3

/-- java/lang/Cloneable -/
def k13 : Class := { plain "java/lang/Cloneable" (some 0) with
  accessFlags := 1537
  interfaces := #[]
  cf := some (fileOf pool13 2 #[] #[] 1537 4 #[] #[])
  fields := #[]
  methods := #[]
  instanceTypes := #[]
  staticTypes := #[]
  resolved := Array.replicate 8 none
  statics := none }

/-- the primitive byte -/
def k14 : Class := { plain "byte" none with kind := .primitive 'B', accessFlags := 0x411 }
/-- [B -/
def k15 : Class := { plain "[B" (some 0) with kind := .array 14 .byte, interfaces := #[13, 2], accessFlags := 1041 }

/-- the primitive char -/
def k16 : Class := { plain "char" none with kind := .primitive 'C', accessFlags := 0x411 }
/-- [C -/
def k17 : Class := { plain "[C" (some 0) with kind := .array 16 .char, interfaces := #[13, 2], accessFlags := 1041 }

/-- the primitive int -/
def k18 : Class := { plain "int" none with kind := .primitive 'I', accessFlags := 0x411 }
/-- [I -/
def k19 : Class := { plain "[I" (some 0) with kind := .array 18 .int, interfaces := #[13, 2], accessFlags := 1041 }

def heap : Heap := #[{ cls := 7, slots := #[.long 0, .int 1, .null, .int 0, .null, .int 0, .int 0], vm := .statics 7 },
  { cls := 9, slots := #[.int 0, .int 8, .int 0, .int 1], vm := .statics 9 },
  { cls := 11, slots := #[.null, .null, .null], vm := .statics 11 }]
def classes : Array Class := #[k0, k1, k2, k3, k4, k5, k6, k7, k8, k9, k10, k11, k12, k13, k14, k15, k16, k17, k18, k19]
def interned : List (Array UInt16 × Addr) := []
def slotsUsed : Nat := 14
def theMethod : MethodId := ⟨1, 2⟩
def args0 : Array Value := #[.int 3, .int 7, .int 5, .int 2]
def aboutOver (below : List Frame) : State where
  vm := { classes := classes, interned := interned.toArray }
  heap := heap
  slotsUsed := slotsUsed
  threads := #[{ frames := .invoking theMethod args0 :: below }]
def below0 : List Frame := [.native { method := ⟨0, 0⟩, args := #[] }]
def about1 : State := aboutOver below0
def p0 : Program := .bare "" "" ""
def e0 : Env := launch0.env 0 0 0
theorem w_frames : about1.frames = Frame.invoking theMethod args0 :: below0 := rfl
set_option maxRecDepth 65536 in
theorem w_args : argsFit about1.vm theMethod args0 = true := by decide +kernel
set_option maxRecDepth 65536 in
theorem w_heap : heapFits about1 = true := by decide +kernel
set_option maxRecDepth 65536 in
theorem w_runnable : about1.curStatus? = some .runnable := by decide +kernel
set_option maxRecDepth 65536 in
theorem w_alone : about1.alone = true := by decide +kernel
set_option maxRecDepth 65536 in
theorem w_named : about1.methodNamed? x = some theMethod := by decide +kernel
set_option maxRecDepth 65536 in
theorem w_hears : about1.hears theMethod below0 = true := by decide +kernel
set_option maxRecDepth 65536 in
theorem w_ripe : about1.ripe theMethod args0 below0 = true := by decide +kernel
theorem w_running : about1.status = .running := rfl
set_option maxRecDepth 65536 in
theorem w_room : about1.hasRoom e0.platform room_1 = true :=
  launch0.hasRoom_least _ room_1 (by decide +kernel) (by decide +kernel) (by decide +kernel) (by decide +kernel) (by decide +kernel) (by decide +kernel)
theorem allAtoms_all (ts : List Jvm.Cond) (a : Array Jvm.Value) (st : Jvm.State) : (allAtoms ts).before a st = ts.all (fun c => c.before a st) := by
  induction ts with
  | nil => rfl
  | cons c t ih =>
    show (Jvm.Cond.and c (allAtoms t)).before a st = _
    rw [Jvm.Cond.before_and, ih, List.all_cons]
def words1 : List Jvm.Cond := Jvm.Cond.code x code maxLocals ret :: tables_1
/-- a 'code' word, met by the world's own term for the bytes: nothing is compared byte by byte -/
theorem code_word {y : MethodName} {bytes : ByteArray} {mx : Nat} {rt : Option FieldType} {a : Array Value} {s : State} {m : MethodId} {meth : Method} {c : Code} (h1 : s.methodNamed? y = some m) (h2 : s.vm.method? m = some meth) (h3 : meth.code = some c) (h4 : c.code = bytes)
    (h5 : (c.maxLocals == mx && c.exceptionTable.isEmpty && decide (c.maxStack ≤ mostOperands) && decide (meth.sig.returnType = rt) && !meth.locks && decide (parseMethodDescriptor y.desc = some meth.sig)) = true) : (Jvm.Cond.code y bytes mx rt).before a s = true := by
  simp only [Bool.and_eq_true, beq_iff_eq, Bool.not_eq_true', decide_eq_true_eq] at h5
  obtain ⟨⟨⟨⟨⟨g1, g2⟩, g3⟩, g4⟩, g5⟩, g6⟩ := h5
  simp [Cond.before, Cond.holds, Cond.value, h1, h2, h3, h4, g1, g2, g3, g4, g5, g6]
def isCode : Jvm.Cond → Bool
  | .code _ _ _ _ => true
  | _ => false
theorem all_split {L : List Jvm.Cond} {P : Jvm.Cond → Bool} (h1 : L.all (fun c => isCode c || P c) = true) (h2 : ∀ c ∈ L.filter isCode, P c = true) : L.all P = true := by
  refine List.all_eq_true.mpr fun c hc => ?_
  have h := List.all_eq_true.mp h1 c hc
  rcases Bool.eq_false_or_eq_true (isCode c) with hi | hi
  · exact h2 c (List.mem_filter.mpr ⟨hc, hi⟩)
  · simpa [hi] using h
set_option maxRecDepth 65536 in
theorem w_c0 : (Jvm.Cond.code x code maxLocals ret).before args0 about1 = true := code_word (m := ⟨1, 2⟩) (meth := k1m2) (c := k1c2) (by decide +kernel) rfl rfl rfl (by decide +kernel)
set_option maxRecDepth 65536 in
theorem w_c1 : (Jvm.Cond.code ({ cls := "com/example/rowfold/rowfold/LiteralExpectEndPinLaw", name := "text", desc := "(ICCC)Ljava/lang/String;" } : Jvm.MethodName) method_2_code (4 : Nat) (Option.some (Jvm.ClassFile.FieldType.object "java/lang/String"))).before args0 about1 = true := code_word (m := ⟨1, 1⟩) (meth := k1m1) (c := k1c1) (by decide +kernel) rfl rfl rfl (by decide +kernel)
set_option maxRecDepth 65536 in
theorem w_c2 : (Jvm.Cond.code ({ cls := "java/lang/String", name := "<init>", desc := "([C)V" } : Jvm.MethodName) jdk_42_method_3_code (2 : Nat) (Option.none : Option Jvm.ClassFile.FieldType)).before args0 about1 = true := code_word (m := ⟨7, 1⟩) (meth := k7m1) (c := k7c1) (by decide +kernel) rfl rfl rfl (by decide +kernel)
set_option maxRecDepth 65536 in
theorem w_c3 : (Jvm.Cond.code ({ cls := "java/lang/String", name := "<init>", desc := "([CIILjava/lang/Void;)V" } : Jvm.MethodName) jdk_42_method_149_code (6 : Nat) (Option.none : Option Jvm.ClassFile.FieldType)).before args0 about1 = true := code_word (m := ⟨7, 4⟩) (meth := k7m4) (c := k7c4) (by decide +kernel) rfl rfl rfl (by decide +kernel)
set_option maxRecDepth 65536 in
theorem w_c4 : (Jvm.Cond.code ({ cls := "java/lang/Object", name := "<init>", desc := "()V" } : Jvm.MethodName) object_method_1_code (1 : Nat) (Option.none : Option Jvm.ClassFile.FieldType)).before args0 about1 = true := code_word (m := ⟨0, 0⟩) (meth := k0m0) (c := k0c0) (by decide +kernel) rfl rfl rfl (by decide +kernel)
set_option maxRecDepth 65536 in
theorem w_c5 : (Jvm.Cond.code ({ cls := "java/lang/String", name := "length", desc := "()I" } : Jvm.MethodName) jdk_42_method_54_code (1 : Nat) (Option.some Jvm.ClassFile.FieldType.int)).before args0 about1 = true := code_word (m := ⟨7, 2⟩) (meth := k7m2) (c := k7c2) (by decide +kernel) rfl rfl rfl (by decide +kernel)
set_option maxRecDepth 65536 in
theorem w_c6 : (Jvm.Cond.code ({ cls := "java/lang/String", name := "coder", desc := "()B" } : Jvm.MethodName) jdk_42_method_152_code (1 : Nat) (Option.some Jvm.ClassFile.FieldType.byte)).before args0 about1 = true := code_word (m := ⟨7, 5⟩) (meth := k7m5) (c := k7c5) (by decide +kernel) rfl rfl rfl (by decide +kernel)
set_option maxRecDepth 65536 in
theorem w_c7 : (Jvm.Cond.code ({ cls := "com/example/rowfold/rowfold/Literal", name := "<init>", desc := "(Ljava/lang/String;)V" } : Jvm.MethodName) prog_8_method_1_code (2 : Nat) (Option.none : Option Jvm.ClassFile.FieldType)).before args0 about1 = true := code_word (m := ⟨8, 0⟩) (meth := k8m0) (c := k8c0) (by decide +kernel) rfl rfl rfl (by decide +kernel)
set_option maxRecDepth 65536 in
theorem w_c8 : (Jvm.Cond.code ({ cls := "com/example/rowfold/rowfold/Literal", name := "expectEnd", desc := "()V" } : Jvm.MethodName) prog_8_method_6_code (1 : Nat) (Option.none : Option Jvm.ClassFile.FieldType)).before args0 about1 = true := code_word (m := ⟨8, 2⟩) (meth := k8m2) (c := k8c2) (by decide +kernel) rfl rfl rfl (by decide +kernel)
set_option maxRecDepth 65536 in
theorem w_c9 : (Jvm.Cond.code ({ cls := "com/example/rowfold/rowfold/Literal", name := "skip", desc := "(C)Z" } : Jvm.MethodName) prog_8_method_4_code (3 : Nat) (Option.some Jvm.ClassFile.FieldType.boolean)).before args0 about1 = true := code_word (m := ⟨8, 1⟩) (meth := k8m1) (c := k8c1) (by decide +kernel) rfl rfl rfl (by decide +kernel)
set_option maxRecDepth 65536 in
theorem w_c10 : (Jvm.Cond.code ({ cls := "java/lang/StringUTF16", name := "compress", desc := "([CII)[B" } : Jvm.MethodName) jdk_52_method_16_code (6 : Nat) (Option.some (Jvm.ClassFile.FieldType.array Jvm.ClassFile.FieldType.byte))).before args0 about1 = true := code_word (m := ⟨9, 8⟩) (meth := k9m8) (c := k9c8) (by decide +kernel) rfl rfl rfl (by decide +kernel)
set_option maxRecDepth 65536 in
theorem w_c11 : (Jvm.Cond.code ({ cls := "java/lang/StringUTF16", name := "compress", desc := "([CI[BII)I" } : Jvm.MethodName) jdk_52_method_21_code (7 : Nat) (Option.some Jvm.ClassFile.FieldType.int)).before args0 about1 = true := code_word (m := ⟨9, 9⟩) (meth := k9m9) (c := k9c9) (by decide +kernel) rfl rfl rfl (by decide +kernel)
set_option maxRecDepth 65536 in
theorem w_c12 : (Jvm.Cond.code ({ cls := "java/lang/StringUTF16", name := "coderFromArrayLen", desc := "([BI)B" } : Jvm.MethodName) jdk_52_method_15_code (2 : Nat) (Option.some Jvm.ClassFile.FieldType.byte)).before args0 about1 = true := code_word (m := ⟨9, 7⟩) (meth := k9m7) (c := k9c7) (by decide +kernel) rfl rfl rfl (by decide +kernel)
set_option maxRecDepth 65536 in
theorem w_c13 : (Jvm.Cond.code ({ cls := "java/lang/String", name := "charAt", desc := "(I)C" } : Jvm.MethodName) jdk_42_method_56_code (2 : Nat) (Option.some Jvm.ClassFile.FieldType.char)).before args0 about1 = true := code_word (m := ⟨7, 3⟩) (meth := k7m3) (c := k7c3) (by decide +kernel) rfl rfl rfl (by decide +kernel)
set_option maxRecDepth 65536 in
theorem w_c14 : (Jvm.Cond.code ({ cls := "java/lang/String", name := "isLatin1", desc := "()Z" } : Jvm.MethodName) jdk_42_method_154_code (1 : Nat) (Option.some Jvm.ClassFile.FieldType.boolean)).before args0 about1 = true := code_word (m := ⟨7, 6⟩) (meth := k7m6) (c := k7c6) (by decide +kernel) rfl rfl rfl (by decide +kernel)
set_option maxRecDepth 65536 in
theorem w_c15 : (Jvm.Cond.code ({ cls := "java/lang/StringLatin1", name := "charAt", desc := "([BI)C" } : Jvm.MethodName) jdk_43_method_2_code (2 : Nat) (Option.some Jvm.ClassFile.FieldType.char)).before args0 about1 = true := code_word (m := ⟨10, 1⟩) (meth := k10m1) (c := k10c1) (by decide +kernel) rfl rfl rfl (by decide +kernel)
set_option maxRecDepth 65536 in
theorem w_c16 : (Jvm.Cond.code ({ cls := "java/lang/String", name := "checkIndex", desc := "(II)V" } : Jvm.MethodName) jdk_42_method_155_code (2 : Nat) (Option.none : Option Jvm.ClassFile.FieldType)).before args0 about1 = true := code_word (m := ⟨7, 7⟩) (meth := k7m7) (c := k7c7) (by decide +kernel) rfl rfl rfl (by decide +kernel)
set_option maxRecDepth 65536 in
theorem w_c17 : (Jvm.Cond.code ({ cls := "jdk/internal/util/Preconditions", name := "checkIndex", desc := "(IILjava/util/function/BiFunction;)I" } : Jvm.MethodName) jdk_41_method_11_code (3 : Nat) (Option.some Jvm.ClassFile.FieldType.int)).before args0 about1 = true := code_word (m := ⟨11, 1⟩) (meth := k11m1) (c := k11c1) (by decide +kernel) rfl rfl rfl (by decide +kernel)
set_option maxRecDepth 65536 in
theorem w_c18 : (Jvm.Cond.code ({ cls := "java/lang/StringUTF16", name := "toBytes", desc := "([CII)[B" } : Jvm.MethodName) jdk_52_method_14_code (5 : Nat) (Option.some (Jvm.ClassFile.FieldType.array Jvm.ClassFile.FieldType.byte))).before args0 about1 = true := code_word (m := ⟨9, 6⟩) (meth := k9m6) (c := k9c6) (by decide +kernel) rfl rfl rfl (by decide +kernel)
set_option maxRecDepth 65536 in
theorem w_c19 : (Jvm.Cond.code ({ cls := "java/lang/StringUTF16", name := "newBytesFor", desc := "(I)[B" } : Jvm.MethodName) jdk_52_method_2_code (1 : Nat) (Option.some (Jvm.ClassFile.FieldType.array Jvm.ClassFile.FieldType.byte))).before args0 about1 = true := code_word (m := ⟨9, 1⟩) (meth := k9m1) (c := k9c1) (by decide +kernel) rfl rfl rfl (by decide +kernel)
set_option maxRecDepth 65536 in
theorem w_c20 : (Jvm.Cond.code ({ cls := "java/lang/StringUTF16", name := "newBytesLength", desc := "(I)I" } : Jvm.MethodName) jdk_52_method_3_code (1 : Nat) (Option.some Jvm.ClassFile.FieldType.int)).before args0 about1 = true := code_word (m := ⟨9, 2⟩) (meth := k9m2) (c := k9c2) (by decide +kernel) rfl rfl rfl (by decide +kernel)
set_option maxRecDepth 65536 in
theorem w_c21 : (Jvm.Cond.code ({ cls := "java/lang/StringUTF16", name := "putChar", desc := "([BII)V" } : Jvm.MethodName) jdk_52_method_4_code (3 : Nat) (Option.none : Option Jvm.ClassFile.FieldType)).before args0 about1 = true := code_word (m := ⟨9, 3⟩) (meth := k9m3) (c := k9c3) (by decide +kernel) rfl rfl rfl (by decide +kernel)
set_option maxRecDepth 65536 in
theorem w_c22 : (Jvm.Cond.code ({ cls := "java/lang/StringUTF16", name := "getChar", desc := "([BI)C" } : Jvm.MethodName) jdk_52_method_5_code (2 : Nat) (Option.some Jvm.ClassFile.FieldType.char)).before args0 about1 = true := code_word (m := ⟨9, 4⟩) (meth := k9m4) (c := k9c4) (by decide +kernel) rfl rfl rfl (by decide +kernel)
set_option maxRecDepth 65536 in
theorem w_c23 : (Jvm.Cond.code ({ cls := "java/lang/StringUTF16", name := "charAt", desc := "([BI)C" } : Jvm.MethodName) jdk_52_method_83_code (2 : Nat) (Option.some Jvm.ClassFile.FieldType.char)).before args0 about1 = true := code_word (m := ⟨9, 10⟩) (meth := k9m10) (c := k9c10) (by decide +kernel) rfl rfl rfl (by decide +kernel)
set_option maxRecDepth 65536 in
theorem w_c24 : (Jvm.Cond.code ({ cls := "java/lang/StringUTF16", name := "checkIndex", desc := "(I[B)V" } : Jvm.MethodName) jdk_52_method_91_code (2 : Nat) (Option.none : Option Jvm.ClassFile.FieldType)).before args0 about1 = true := code_word (m := ⟨9, 11⟩) (meth := k9m11) (c := k9c11) (by decide +kernel) rfl rfl rfl (by decide +kernel)
set_option maxRecDepth 65536 in
theorem w_c25 : (Jvm.Cond.code ({ cls := "java/lang/StringUTF16", name := "length", desc := "([B)I" } : Jvm.MethodName) jdk_52_method_6_code (1 : Nat) (Option.some Jvm.ClassFile.FieldType.int)).before args0 about1 = true := code_word (m := ⟨9, 5⟩) (meth := k9m5) (c := k9c5) (by decide +kernel) rfl rfl rfl (by decide +kernel)
def codes1 : List Jvm.Cond := [Jvm.Cond.code x code maxLocals ret, Jvm.Cond.code ({ cls := "com/example/rowfold/rowfold/LiteralExpectEndPinLaw", name := "text", desc := "(ICCC)Ljava/lang/String;" } : Jvm.MethodName) method_2_code (4 : Nat) (Option.some (Jvm.ClassFile.FieldType.object "java/lang/String")), Jvm.Cond.code ({ cls := "java/lang/String", name := "<init>", desc := "([C)V" } : Jvm.MethodName) jdk_42_method_3_code (2 : Nat) (Option.none : Option Jvm.ClassFile.FieldType), Jvm.Cond.code ({ cls := "java/lang/String", name := "<init>", desc := "([CIILjava/lang/Void;)V" } : Jvm.MethodName) jdk_42_method_149_code (6 : Nat) (Option.none : Option Jvm.ClassFile.FieldType), Jvm.Cond.code ({ cls := "java/lang/Object", name := "<init>", desc := "()V" } : Jvm.MethodName) object_method_1_code (1 : Nat) (Option.none : Option Jvm.ClassFile.FieldType), Jvm.Cond.code ({ cls := "java/lang/String", name := "length", desc := "()I" } : Jvm.MethodName) jdk_42_method_54_code (1 : Nat) (Option.some Jvm.ClassFile.FieldType.int), Jvm.Cond.code ({ cls := "java/lang/String", name := "coder", desc := "()B" } : Jvm.MethodName) jdk_42_method_152_code (1 : Nat) (Option.some Jvm.ClassFile.FieldType.byte), Jvm.Cond.code ({ cls := "com/example/rowfold/rowfold/Literal", name := "<init>", desc := "(Ljava/lang/String;)V" } : Jvm.MethodName) prog_8_method_1_code (2 : Nat) (Option.none : Option Jvm.ClassFile.FieldType), Jvm.Cond.code ({ cls := "com/example/rowfold/rowfold/Literal", name := "expectEnd", desc := "()V" } : Jvm.MethodName) prog_8_method_6_code (1 : Nat) (Option.none : Option Jvm.ClassFile.FieldType), Jvm.Cond.code ({ cls := "com/example/rowfold/rowfold/Literal", name := "skip", desc := "(C)Z" } : Jvm.MethodName) prog_8_method_4_code (3 : Nat) (Option.some Jvm.ClassFile.FieldType.boolean), Jvm.Cond.code ({ cls := "java/lang/StringUTF16", name := "compress", desc := "([CII)[B" } : Jvm.MethodName) jdk_52_method_16_code (6 : Nat) (Option.some (Jvm.ClassFile.FieldType.array Jvm.ClassFile.FieldType.byte)), Jvm.Cond.code ({ cls := "java/lang/StringUTF16", name := "compress", desc := "([CI[BII)I" } : Jvm.MethodName) jdk_52_method_21_code (7 : Nat) (Option.some Jvm.ClassFile.FieldType.int), Jvm.Cond.code ({ cls := "java/lang/StringUTF16", name := "coderFromArrayLen", desc := "([BI)B" } : Jvm.MethodName) jdk_52_method_15_code (2 : Nat) (Option.some Jvm.ClassFile.FieldType.byte), Jvm.Cond.code ({ cls := "java/lang/String", name := "charAt", desc := "(I)C" } : Jvm.MethodName) jdk_42_method_56_code (2 : Nat) (Option.some Jvm.ClassFile.FieldType.char), Jvm.Cond.code ({ cls := "java/lang/String", name := "isLatin1", desc := "()Z" } : Jvm.MethodName) jdk_42_method_154_code (1 : Nat) (Option.some Jvm.ClassFile.FieldType.boolean), Jvm.Cond.code ({ cls := "java/lang/StringLatin1", name := "charAt", desc := "([BI)C" } : Jvm.MethodName) jdk_43_method_2_code (2 : Nat) (Option.some Jvm.ClassFile.FieldType.char), Jvm.Cond.code ({ cls := "java/lang/String", name := "checkIndex", desc := "(II)V" } : Jvm.MethodName) jdk_42_method_155_code (2 : Nat) (Option.none : Option Jvm.ClassFile.FieldType), Jvm.Cond.code ({ cls := "jdk/internal/util/Preconditions", name := "checkIndex", desc := "(IILjava/util/function/BiFunction;)I" } : Jvm.MethodName) jdk_41_method_11_code (3 : Nat) (Option.some Jvm.ClassFile.FieldType.int), Jvm.Cond.code ({ cls := "java/lang/StringUTF16", name := "toBytes", desc := "([CII)[B" } : Jvm.MethodName) jdk_52_method_14_code (5 : Nat) (Option.some (Jvm.ClassFile.FieldType.array Jvm.ClassFile.FieldType.byte)), Jvm.Cond.code ({ cls := "java/lang/StringUTF16", name := "newBytesFor", desc := "(I)[B" } : Jvm.MethodName) jdk_52_method_2_code (1 : Nat) (Option.some (Jvm.ClassFile.FieldType.array Jvm.ClassFile.FieldType.byte)), Jvm.Cond.code ({ cls := "java/lang/StringUTF16", name := "newBytesLength", desc := "(I)I" } : Jvm.MethodName) jdk_52_method_3_code (1 : Nat) (Option.some Jvm.ClassFile.FieldType.int), Jvm.Cond.code ({ cls := "java/lang/StringUTF16", name := "putChar", desc := "([BII)V" } : Jvm.MethodName) jdk_52_method_4_code (3 : Nat) (Option.none : Option Jvm.ClassFile.FieldType), Jvm.Cond.code ({ cls := "java/lang/StringUTF16", name := "getChar", desc := "([BI)C" } : Jvm.MethodName) jdk_52_method_5_code (2 : Nat) (Option.some Jvm.ClassFile.FieldType.char), Jvm.Cond.code ({ cls := "java/lang/StringUTF16", name := "charAt", desc := "([BI)C" } : Jvm.MethodName) jdk_52_method_83_code (2 : Nat) (Option.some Jvm.ClassFile.FieldType.char), Jvm.Cond.code ({ cls := "java/lang/StringUTF16", name := "checkIndex", desc := "(I[B)V" } : Jvm.MethodName) jdk_52_method_91_code (2 : Nat) (Option.none : Option Jvm.ClassFile.FieldType), Jvm.Cond.code ({ cls := "java/lang/StringUTF16", name := "length", desc := "([B)I" } : Jvm.MethodName) jdk_52_method_6_code (1 : Nat) (Option.some Jvm.ClassFile.FieldType.int)]
set_option maxRecDepth 65536 in
theorem codes_eq : words1.filter isCode = codes1 := rfl
theorem w_codes : ∀ c ∈ words1.filter isCode, c.before args0 about1 = true := by
  rw [codes_eq]
  intro c hc
  simp only [codes1, List.mem_cons, List.not_mem_nil, or_false] at hc
  rcases hc with rfl | rfl | rfl | rfl | rfl | rfl | rfl | rfl | rfl | rfl | rfl | rfl | rfl | rfl | rfl | rfl | rfl | rfl | rfl | rfl | rfl | rfl | rfl | rfl | rfl | rfl
  · exact w_c0
  · exact w_c1
  · exact w_c2
  · exact w_c3
  · exact w_c4
  · exact w_c5
  · exact w_c6
  · exact w_c7
  · exact w_c8
  · exact w_c9
  · exact w_c10
  · exact w_c11
  · exact w_c12
  · exact w_c13
  · exact w_c14
  · exact w_c15
  · exact w_c16
  · exact w_c17
  · exact w_c18
  · exact w_c19
  · exact w_c20
  · exact w_c21
  · exact w_c22
  · exact w_c23
  · exact w_c24
  · exact w_c25
set_option maxRecDepth 65536 in
theorem w_t1 : (words1.take 24).all (fun c => isCode c || c.before args0 about1) = true := by decide +kernel
set_option maxRecDepth 65536 in
theorem w_t2 : ((words1.drop 24).take 24).all (fun c => isCode c || c.before args0 about1) = true := by decide +kernel
set_option maxRecDepth 65536 in
theorem w_t3 : (((words1.drop 24).drop 24).take 24).all (fun c => isCode c || c.before args0 about1) = true := by decide +kernel
set_option maxRecDepth 65536 in
theorem w_t4 : ((((words1.drop 24).drop 24).drop 24).take 24).all (fun c => isCode c || c.before args0 about1) = true := by decide +kernel
set_option maxRecDepth 65536 in
theorem w_t5 : (((((words1.drop 24).drop 24).drop 24).drop 24).take 24).all (fun c => isCode c || c.before args0 about1) = true := by decide +kernel
set_option maxRecDepth 65536 in
theorem w_t6 : (((((words1.drop 24).drop 24).drop 24).drop 24).drop 24).all (fun c => isCode c || c.before args0 about1) = true := by decide +kernel
theorem w_tables : (allAtoms (Jvm.Cond.code x code maxLocals ret :: tables_1)).before args0 about1 = true := by
  rw [allAtoms_all]
  show words1.all (fun c => c.before args0 about1) = true
  refine all_split ?_ w_codes
  rw [← List.take_append_drop 24 words1, List.all_append, w_t1, ← List.take_append_drop 24 (words1.drop 24), List.all_append, w_t2, ← List.take_append_drop 24 ((words1.drop 24).drop 24), List.all_append, w_t3, ← List.take_append_drop 24 (((words1.drop 24).drop 24).drop 24), List.all_append, w_t4, ← List.take_append_drop 24 ((((words1.drop 24).drop 24).drop 24).drop 24), List.all_append, w_t5, w_t6]
  rfl
set_option maxRecDepth 65536 in
theorem w_rest : rest_1_c.before args0 about1 = true := by decide +kernel
set_option maxRecDepth 65536 in
theorem w_case : (Jvm.Cond.and given_1 narrow_1).before args0 about1 = true := by decide +kernel
set_option maxRecDepth 65536 in
theorem w_consts : constsHeld consts_1 about1 := Jvm.Lit.constsHeldB_iff.mp (by decide +kernel)
theorem w_applies : (headSpec (Jvm.Cond.code x code maxLocals ret :: tables_1) room_1).applies x e0.platform about1 = true :=
  (Spec.applies_iff w_frames).mpr ⟨w_running, w_runnable, w_alone, w_named, w_hears, w_ripe, w_room, w_tables⟩
theorem atStart : AtStart classFile x code maxLocals ret World_1 tables_1 room_1 Calls_1 rest_1 Pre_1 launch0 p0 e0 about1 theMethod args0 below0 :=
  ⟨lists_1, trivial, launch0.admits_env _ _ _, launch0.least_env, fairChoices_fair.cas, fairChoices_fair.clock, w_frames, w_args, w_heap, w_applies, ⟨w_consts, trivial⟩, w_rest, w_case⟩
end start1
theorem witness_1 : WitnessClaimed_1 := ⟨start1.p0, start1.e0, start1.about1, start1.theMethod, start1.args0, start1.below0, start1.atStart⟩
end Jvm.Pilot.@@N@@
