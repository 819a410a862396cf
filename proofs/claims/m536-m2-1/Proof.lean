import JvmDerived
import JvmDerived.Pilot.@@N@@Statement
import JvmDerived.Pilot.@@N@@Code
set_option linter.unusedVariables false
set_option linter.unusedSimpArgs false
namespace Jvm.Pilot.@@N@@
open Jvm Jvm.ClassFile Sem Op Lib Jvm.Free Jvm.Stand Jvm.LawKit Jvm.RoadKit Bundle Jvm.Pilot.@@N@@.Jvm.D
/-- from the state S the run comes to an end of which Q holds -/
def Own (p : Program) (e : Env) (below : List Frame) (Q : State → Outcome → Prop) (S : State) : Prop := ∃ s₂ o, Steps p.tables e below S s₂ ∧ s₂.status = .running ∧ Ended s₂ below o ∧ Q s₂ o
theorem ogo {p : Program} {e : Env} {below : List Frame} {Q : State → Outcome → Prop} {S S' : State} (h : ∀ t, Steps p.tables e below S' t → Steps p.tables e below S t) (k : Own p e below Q S') : Own p e below Q S := by
  obtain ⟨t, o, k1, k2⟩ := k; exact ⟨t, o, h _ k1, k2⟩
theorem otr {p : Program} {e : Env} {below : List Frame} {Q : State → Outcome → Prop} {S S' : State} (h : Steps p.tables e below S S') (k : Own p e below Q S') : Own p e below Q S := by
  obtain ⟨t, o, k1, k2⟩ := k; exact ⟨t, o, h.trans k1, k2⟩
/-- what a contract says of the end: q of what is returned, of the heap and of the places written; the frame -/
abbrev oPost (q : Option Value → Heap → List Loc → Prop) (s : State) (cc ss : Nat) : State → Outcome → Prop := fun s₂ o => ∃ v L, o = .returned v ∧ q v s₂.heap L ∧ FrameEnd s o s₂ L cc ss
abbrev oMet (l : Launch) (Z : State) (y : MethodName) (code : ByteArray) (maxL : Nat) (ret : Option FieldType) (ws : List Jvm.Cond) (rm : Room) (cc ss : Nat) (as' : Array Value) (h0 : Heap) (q : Option Value → Heap → List Loc → Prop) : Prop :=
  MetFree l y (head1 (Jvm.Cond.code y code maxL ret :: ws) rm) (fun a U => a = as' ∧ Z.Warmed39 U.vm ∧ U.heap = h0) (fun _ _ _ _ _ => True) (fun _ U o U' => ∃ v L, o = .returned v ∧ q v U'.heap L ∧ FrameEnd U o U' L cc ss)
theorem oenter {l : Launch} {Z : State} {y : MethodName} {code : ByteArray} {maxL : Nat} {ret : Option FieldType} {ws : List Jvm.Cond} {rm : Room} {cc ss : Nat} {as' : Array Value} {h0 : Heap} {q : Option Value → Heap → List Loc → Prop} (pn : plainName y.cls = true) (Ls : Array Slot) (ef : ∀ m, entryFrame m as' maxL = mkF m 0 Ls [])
    (body : ∀ (p : Program) (e : Env) (s : State) (m : MethodId) (below : List Frame) (meth : Method) (c : Code) (s₁ : State), Stand p l e rm s m as' below meth c s₁ [] 0 0 → p.tables.exec = Jvm.exec → Z.Warmed39 s.vm → c.code = code → c.maxLocals = maxL → meth.sig.returnType = ret → s.vm.findClass y.cls = some m.cls → meth.name = y.name → meth.locks = false → s₁.heap = h0 → Own p e below (oPost q s cc ss) (s₁.setTop (mkF m 0 Ls []))) : oMet l Z y code maxL ret ws rm cc ss as' h0 q := by
  refine MetFree.of_bodySF (plainFor_of_name pn) hisR ?_
  intro p e s m args below meth c s₁ Bd hml0 hP hK
  obtain ⟨rfl, hZ, hh⟩ := hP
  have e0 : s₁.heap = h0 := by rw [← hh, Bd.state]; rfl
  obtain ⟨t, o, h1, h2⟩ := body p e s m below meth c s₁ (Stand.of_body Bd) Bd.exec hZ Bd.bytes hml0 Bd.returns (findClass_of_methodNamed Bd.named) (name_of_methodNamed Bd.named Bd.method).1 (BodyLoose.notSynchronized Bd) e0
  exact ⟨t, o, castTop (ef m) h1, h2⟩
def own_ushr (x y : Int32) : Int32 := (x.toUInt32 >>> (y &&& 31).toUInt32).toInt32
def own_ushrL (x : Int64) (y : Int32) : Int64 := (x.toUInt64 >>> (y &&& 0x3f).toInt64.toUInt64).toInt64
section Steps
variable {p : Program} {l : Launch} {e : Env} {R : Room} {s : State} {m : MethodId} {args : Array Value} {below : List Frame} {meth : Method} {c : Code} {T : State} {locs : List Loc} {cells slots : Nat} {Q : State → Outcome → Prop}
theorem oend {v : Option Value} {q : Option Value → Heap → List Loc → Prop} {cc ss : Nat} {S : State} (X : Stand p l e R s m args below meth c T locs cells slots) (hlk : meth.locks = false) (hv : meth.sig.returnType = none → v = none)
    (st : ∀ fs, (∀ (f : JFrame) (acts : List Action), f.method = m → f.locked = none → f.entered = [] → (doReturn e (T.setTop f) acts v).1 = T.setFrames fs) → Steps p.tables e below S (T.setFrames fs)) (hc : cells ≤ cc) (hs : slots ≤ ss) (hq : q v T.heap locs) : Own p e below (oPost q s cc ss) S := by
  obtain ⟨fs, hr, hrun, hended, hW, hsame⟩ := X.leave (v := v) hv hlk
  exact ⟨_, _, st fs hr, hrun, hended, _, _, rfl, hq, ⟨_, rfl⟩, hW, hsame.mono hc hs⟩
theorem o_aloadN (X : Stand p l e R s m args below meth c T locs cells slots) (hx : p.tables.exec = Jvm.exec) {pc : Nat} {L : Array Slot} {S : List Value} {i : Fin 4} {v : Value} (hd : decode c.code pc = .ok (.aload_n i, 1)) (hl : L[i.val]? = some (.val v)) (hv : v.isRef = true) (k : Own p e below Q (T.setTop (mkF m (pc + 1) L (v :: S)))) : Own p e below Q (T.setTop (mkF m pc L S)) :=
  ogo (fun _ k => XS.aloadN X.here hx rfl hd hl hv k) k
theorem o_aload (X : Stand p l e R s m args below meth c T locs cells slots) (hx : p.tables.exec = Jvm.exec) {pc : Nat} {L : Array Slot} {S : List Value} {i : Nat} {v : Value} (hd : decode c.code pc = .ok (.aload i, 2)) (hl : L[i]? = some (.val v)) (hv : v.isRef = true) (k : Own p e below Q (T.setTop (mkF m (pc + 2) L (v :: S)))) : Own p e below Q (T.setTop (mkF m pc L S)) :=
  ogo (fun _ k => XS.aload X.here hx rfl hd hl hv k) k
theorem o_iloadN (X : Stand p l e R s m args below meth c T locs cells slots) (hx : p.tables.exec = Jvm.exec) {pc : Nat} {L : Array Slot} {S : List Value} {i : Fin 4} {v : Int32} (hd : decode c.code pc = .ok (.iload_n i, 1)) (hl : L[i.val]? = some (.val (.int v))) (k : Own p e below Q (T.setTop (mkF m (pc + 1) L ((.int v) :: S)))) : Own p e below Q (T.setTop (mkF m pc L S)) :=
  ogo (fun _ k => XS.iloadN X.here hx rfl hd hl k) k
theorem o_iload (X : Stand p l e R s m args below meth c T locs cells slots) (hx : p.tables.exec = Jvm.exec) {pc : Nat} {L : Array Slot} {S : List Value} {i : Nat} {v : Int32} (hd : decode c.code pc = .ok (.iload i, 2)) (hl : L[i]? = some (.val (.int v))) (k : Own p e below Q (T.setTop (mkF m (pc + 2) L ((.int v) :: S)))) : Own p e below Q (T.setTop (mkF m pc L S)) :=
  ogo (fun _ k => XS.iload X.here hx rfl hd hl k) k
theorem o_lloadN (X : Stand p l e R s m args below meth c T locs cells slots) (hx : p.tables.exec = Jvm.exec) {pc : Nat} {L : Array Slot} {S : List Value} {i : Fin 4} {v : Int64} (hd : decode c.code pc = .ok (.lload_n i, 1)) (hl : L[i.val]? = some (.val (.long v))) (k : Own p e below Q (T.setTop (mkF m (pc + 1) L ((.long v) :: S)))) : Own p e below Q (T.setTop (mkF m pc L S)) :=
  ogo (fun _ k => XS.lloadN X.here hx rfl hd hl k) k
theorem o_lload (X : Stand p l e R s m args below meth c T locs cells slots) (hx : p.tables.exec = Jvm.exec) {pc : Nat} {L : Array Slot} {S : List Value} {i : Nat} {v : Int64} (hd : decode c.code pc = .ok (.lload i, 2)) (hl : L[i]? = some (.val (.long v))) (k : Own p e below Q (T.setTop (mkF m (pc + 2) L ((.long v) :: S)))) : Own p e below Q (T.setTop (mkF m pc L S)) :=
  ogo (fun _ k => XS.lload X.here hx rfl hd hl k) k
theorem o_astoreN (X : Stand p l e R s m args below meth c T locs cells slots) (hx : p.tables.exec = Jvm.exec) {pc : Nat} {L : Array Slot} {S : List Value} {i : Fin 4} {v : Value} {l' : Array Slot} (hd : decode c.code pc = .ok (.astore_n i, 1)) (hv : v.isRef = true) (hl : storeLocals L i.val v = some l') (k : Own p e below Q (T.setTop (mkF m (pc + 1) l' S))) : Own p e below Q (T.setTop (mkF m pc L (v :: S))) :=
  ogo (fun _ k => XS.astoreN X.here hx rfl hd rfl hv hl k) k
theorem o_astore (X : Stand p l e R s m args below meth c T locs cells slots) (hx : p.tables.exec = Jvm.exec) {pc : Nat} {L : Array Slot} {S : List Value} {i : Nat} {v : Value} {l' : Array Slot} (hd : decode c.code pc = .ok (.astore i, 2)) (hv : v.isRef = true) (hl : storeLocals L i v = some l') (k : Own p e below Q (T.setTop (mkF m (pc + 2) l' S))) : Own p e below Q (T.setTop (mkF m pc L (v :: S))) :=
  ogo (fun _ k => XS.astore X.here hx rfl hd rfl hv hl k) k
theorem o_istoreN (X : Stand p l e R s m args below meth c T locs cells slots) (hx : p.tables.exec = Jvm.exec) {pc : Nat} {L : Array Slot} {S : List Value} {i : Fin 4} {v : Int32} {l' : Array Slot} (hd : decode c.code pc = .ok (.istore_n i, 1)) (hl : storeLocals L i.val (.int v) = some l') (k : Own p e below Q (T.setTop (mkF m (pc + 1) l' S))) : Own p e below Q (T.setTop (mkF m pc L ((.int v) :: S))) :=
  ogo (fun _ k => XS.istoreN X.here hx rfl hd rfl hl k) k
theorem o_istore (X : Stand p l e R s m args below meth c T locs cells slots) (hx : p.tables.exec = Jvm.exec) {pc : Nat} {L : Array Slot} {S : List Value} {i : Nat} {v : Int32} {l' : Array Slot} (hd : decode c.code pc = .ok (.istore i, 2)) (hl : storeLocals L i (.int v) = some l') (k : Own p e below Q (T.setTop (mkF m (pc + 2) l' S))) : Own p e below Q (T.setTop (mkF m pc L ((.int v) :: S))) :=
  ogo (fun _ k => XS.istore X.here hx rfl hd rfl hl k) k
theorem o_lstoreN (X : Stand p l e R s m args below meth c T locs cells slots) (hx : p.tables.exec = Jvm.exec) {pc : Nat} {L : Array Slot} {S : List Value} {i : Fin 4} {v : Int64} {l' : Array Slot} (hd : decode c.code pc = .ok (.lstore_n i, 1)) (hl : storeLocals L i.val (.long v) = some l') (k : Own p e below Q (T.setTop (mkF m (pc + 1) l' S))) : Own p e below Q (T.setTop (mkF m pc L ((.long v) :: S))) :=
  ogo (fun _ k => XS.lstoreN X.here hx rfl hd rfl hl k) k
theorem o_lstore (X : Stand p l e R s m args below meth c T locs cells slots) (hx : p.tables.exec = Jvm.exec) {pc : Nat} {L : Array Slot} {S : List Value} {i : Nat} {v : Int64} {l' : Array Slot} (hd : decode c.code pc = .ok (.lstore i, 2)) (hl : storeLocals L i (.long v) = some l') (k : Own p e below Q (T.setTop (mkF m (pc + 2) l' S))) : Own p e below Q (T.setTop (mkF m pc L ((.long v) :: S))) :=
  ogo (fun _ k => XS.lstore X.here hx rfl hd rfl hl k) k
theorem o_iconst (X : Stand p l e R s m args below meth c T locs cells slots) (hx : p.tables.exec = Jvm.exec) {pc : Nat} {L : Array Slot} {S : List Value} {i : Int} (v : Int32) (hd : decode c.code pc = .ok (.iconst i, 1)) (hv : Int32.ofInt i = v) (k : Own p e below Q (T.setTop (mkF m (pc + 1) L (.int v :: S)))) : Own p e below Q (T.setTop (mkF m pc L S)) := by
  subst hv; exact ogo (fun _ k => XS.iconst X.here hx rfl hd k) k
theorem o_bipush (X : Stand p l e R s m args below meth c T locs cells slots) (hx : p.tables.exec = Jvm.exec) {pc : Nat} {L : Array Slot} {S : List Value} {i : Int} (v : Int32) (hd : decode c.code pc = .ok (.bipush i, 2)) (hv : (Int8.ofInt i).toInt32 = v) (k : Own p e below Q (T.setTop (mkF m (pc + 2) L (.int v :: S)))) : Own p e below Q (T.setTop (mkF m pc L S)) := by
  subst hv; exact ogo (fun _ k => XS.bipush X.here hx rfl hd k) k
theorem o_sipush (X : Stand p l e R s m args below meth c T locs cells slots) (hx : p.tables.exec = Jvm.exec) {pc : Nat} {L : Array Slot} {S : List Value} {i : Int} (v : Int32) (hd : decode c.code pc = .ok (.sipush i, 3)) (hv : (Int16.ofInt i).toInt32 = v) (k : Own p e below Q (T.setTop (mkF m (pc + 3) L (.int v :: S)))) : Own p e below Q (T.setTop (mkF m pc L S)) := by
  subst hv; exact ogo (fun _ k => XS.sipush X.here hx rfl hd k) k
theorem o_lconst (X : Stand p l e R s m args below meth c T locs cells slots) (hx : p.tables.exec = Jvm.exec) {pc : Nat} {L : Array Slot} {S : List Value} {i : Fin 2} (v : Int64) (hd : decode c.code pc = .ok (.lconst i, 1)) (hv : Int64.ofNat i = v) (k : Own p e below Q (T.setTop (mkF m (pc + 1) L (.long v :: S)))) : Own p e below Q (T.setTop (mkF m pc L S)) := by
  subst hv; exact ogo (fun _ k => XS.lconst X.here hx rfl hd k) k
theorem o_aconst_null (X : Stand p l e R s m args below meth c T locs cells slots) (hx : p.tables.exec = Jvm.exec) {pc : Nat} {L : Array Slot} {S : List Value} (hd : decode c.code pc = .ok (.aconst_null, 1)) (k : Own p e below Q (T.setTop (mkF m (pc + 1) L (.null :: S)))) : Own p e below Q (T.setTop (mkF m pc L S)) :=
  ogo (fun _ k => XS.aconstNull X.here hx rfl hd k) k
theorem o_iadd (X : Stand p l e R s m args below meth c T locs cells slots) (hx : p.tables.exec = Jvm.exec) {pc : Nat} {L : Array Slot} {S : List Value} {x y : Int32} (hd : decode c.code pc = .ok (.iadd, 1)) (k : Own p e below Q (T.setTop (mkF m (pc + 1) L (.int (x + y) :: S)))) : Own p e below Q (T.setTop (mkF m pc L (.int y :: .int x :: S))) :=
  ogo (fun _ k => XS.iadd X.here hx rfl hd rfl k) k
theorem o_isub (X : Stand p l e R s m args below meth c T locs cells slots) (hx : p.tables.exec = Jvm.exec) {pc : Nat} {L : Array Slot} {S : List Value} {x y : Int32} (hd : decode c.code pc = .ok (.isub, 1)) (k : Own p e below Q (T.setTop (mkF m (pc + 1) L (.int (x - y) :: S)))) : Own p e below Q (T.setTop (mkF m pc L (.int y :: .int x :: S))) :=
  ogo (fun _ k => XS.isub X.here hx rfl hd rfl k) k
theorem o_imul (X : Stand p l e R s m args below meth c T locs cells slots) (hx : p.tables.exec = Jvm.exec) {pc : Nat} {L : Array Slot} {S : List Value} {x y : Int32} (hd : decode c.code pc = .ok (.imul, 1)) (k : Own p e below Q (T.setTop (mkF m (pc + 1) L (.int (x * y) :: S)))) : Own p e below Q (T.setTop (mkF m pc L (.int y :: .int x :: S))) :=
  ogo (fun _ k => XS.imul X.here hx rfl hd rfl k) k
theorem o_iand (X : Stand p l e R s m args below meth c T locs cells slots) (hx : p.tables.exec = Jvm.exec) {pc : Nat} {L : Array Slot} {S : List Value} {x y : Int32} (hd : decode c.code pc = .ok (.iand, 1)) (k : Own p e below Q (T.setTop (mkF m (pc + 1) L (.int (x &&& y) :: S)))) : Own p e below Q (T.setTop (mkF m pc L (.int y :: .int x :: S))) :=
  ogo (fun _ k => XS.iand X.here hx rfl hd rfl k) k
theorem o_ior (X : Stand p l e R s m args below meth c T locs cells slots) (hx : p.tables.exec = Jvm.exec) {pc : Nat} {L : Array Slot} {S : List Value} {x y : Int32} (hd : decode c.code pc = .ok (.ior, 1)) (k : Own p e below Q (T.setTop (mkF m (pc + 1) L (.int (x ||| y) :: S)))) : Own p e below Q (T.setTop (mkF m pc L (.int y :: .int x :: S))) :=
  ogo (fun _ k => XS.ior X.here hx rfl hd rfl k) k
theorem o_ixor (X : Stand p l e R s m args below meth c T locs cells slots) (hx : p.tables.exec = Jvm.exec) {pc : Nat} {L : Array Slot} {S : List Value} {x y : Int32} (hd : decode c.code pc = .ok (.ixor, 1)) (k : Own p e below Q (T.setTop (mkF m (pc + 1) L (.int (x ^^^ y) :: S)))) : Own p e below Q (T.setTop (mkF m pc L (.int y :: .int x :: S))) :=
  ogo (fun _ k => XS.ixor X.here hx rfl hd rfl k) k
theorem o_ladd (X : Stand p l e R s m args below meth c T locs cells slots) (hx : p.tables.exec = Jvm.exec) {pc : Nat} {L : Array Slot} {S : List Value} {x y : Int64} (hd : decode c.code pc = .ok (.ladd, 1)) (k : Own p e below Q (T.setTop (mkF m (pc + 1) L (.long (x + y) :: S)))) : Own p e below Q (T.setTop (mkF m pc L (.long y :: .long x :: S))) :=
  ogo (fun _ k => XS.ladd X.here hx rfl hd rfl k) k
theorem o_lsub (X : Stand p l e R s m args below meth c T locs cells slots) (hx : p.tables.exec = Jvm.exec) {pc : Nat} {L : Array Slot} {S : List Value} {x y : Int64} (hd : decode c.code pc = .ok (.lsub, 1)) (k : Own p e below Q (T.setTop (mkF m (pc + 1) L (.long (x - y) :: S)))) : Own p e below Q (T.setTop (mkF m pc L (.long y :: .long x :: S))) :=
  ogo (fun _ k => XS.lsub X.here hx rfl hd rfl k) k
theorem o_lmul (X : Stand p l e R s m args below meth c T locs cells slots) (hx : p.tables.exec = Jvm.exec) {pc : Nat} {L : Array Slot} {S : List Value} {x y : Int64} (hd : decode c.code pc = .ok (.lmul, 1)) (k : Own p e below Q (T.setTop (mkF m (pc + 1) L (.long (x * y) :: S)))) : Own p e below Q (T.setTop (mkF m pc L (.long y :: .long x :: S))) :=
  ogo (fun _ k => XS.lmul X.here hx rfl hd rfl k) k
theorem o_land (X : Stand p l e R s m args below meth c T locs cells slots) (hx : p.tables.exec = Jvm.exec) {pc : Nat} {L : Array Slot} {S : List Value} {x y : Int64} (hd : decode c.code pc = .ok (.land, 1)) (k : Own p e below Q (T.setTop (mkF m (pc + 1) L (.long (x &&& y) :: S)))) : Own p e below Q (T.setTop (mkF m pc L (.long y :: .long x :: S))) :=
  ogo (fun _ k => XS.land X.here hx rfl hd rfl k) k
theorem o_lor (X : Stand p l e R s m args below meth c T locs cells slots) (hx : p.tables.exec = Jvm.exec) {pc : Nat} {L : Array Slot} {S : List Value} {x y : Int64} (hd : decode c.code pc = .ok (.lor, 1)) (k : Own p e below Q (T.setTop (mkF m (pc + 1) L (.long (x ||| y) :: S)))) : Own p e below Q (T.setTop (mkF m pc L (.long y :: .long x :: S))) :=
  ogo (fun _ k => XS.lor X.here hx rfl hd rfl k) k
theorem o_lxor (X : Stand p l e R s m args below meth c T locs cells slots) (hx : p.tables.exec = Jvm.exec) {pc : Nat} {L : Array Slot} {S : List Value} {x y : Int64} (hd : decode c.code pc = .ok (.lxor, 1)) (k : Own p e below Q (T.setTop (mkF m (pc + 1) L (.long (x ^^^ y) :: S)))) : Own p e below Q (T.setTop (mkF m pc L (.long y :: .long x :: S))) :=
  ogo (fun _ k => XS.lxor X.here hx rfl hd rfl k) k
theorem o_ishl (X : Stand p l e R s m args below meth c T locs cells slots) (hx : p.tables.exec = Jvm.exec) {pc : Nat} {L : Array Slot} {S : List Value} {x : Int32} {y : Int32} (hd : decode c.code pc = .ok (.ishl, 1)) (k : Own p e below Q (T.setTop (mkF m (pc + 1) L (.int (x <<< (y &&& 31)) :: S)))) : Own p e below Q (T.setTop (mkF m pc L (.int y :: .int x :: S))) :=
  ogo (fun _ k => XS.ishl X.here hx rfl hd rfl k) k
theorem o_ishr (X : Stand p l e R s m args below meth c T locs cells slots) (hx : p.tables.exec = Jvm.exec) {pc : Nat} {L : Array Slot} {S : List Value} {x : Int32} {y : Int32} (hd : decode c.code pc = .ok (.ishr, 1)) (k : Own p e below Q (T.setTop (mkF m (pc + 1) L (.int (x >>> (y &&& 31)) :: S)))) : Own p e below Q (T.setTop (mkF m pc L (.int y :: .int x :: S))) :=
  ogo (fun _ k => XS.ishr X.here hx rfl hd rfl k) k
theorem o_iushr (X : Stand p l e R s m args below meth c T locs cells slots) (hx : p.tables.exec = Jvm.exec) {pc : Nat} {L : Array Slot} {S : List Value} {x : Int32} {y : Int32} (hd : decode c.code pc = .ok (.iushr, 1)) (k : Own p e below Q (T.setTop (mkF m (pc + 1) L (.int (own_ushr x y) :: S)))) : Own p e below Q (T.setTop (mkF m pc L (.int y :: .int x :: S))) :=
  ogo (fun _ k => XS.iushr X.here hx rfl hd rfl k) k
theorem o_lshl (X : Stand p l e R s m args below meth c T locs cells slots) (hx : p.tables.exec = Jvm.exec) {pc : Nat} {L : Array Slot} {S : List Value} {x : Int64} {y : Int32} (hd : decode c.code pc = .ok (.lshl, 1)) (k : Own p e below Q (T.setTop (mkF m (pc + 1) L (.long (x <<< (y &&& 0x3f).toInt64) :: S)))) : Own p e below Q (T.setTop (mkF m pc L (.int y :: .long x :: S))) :=
  ogo (fun _ k => XS.lshl X.here hx rfl hd rfl k) k
theorem o_lshr (X : Stand p l e R s m args below meth c T locs cells slots) (hx : p.tables.exec = Jvm.exec) {pc : Nat} {L : Array Slot} {S : List Value} {x : Int64} {y : Int32} (hd : decode c.code pc = .ok (.lshr, 1)) (k : Own p e below Q (T.setTop (mkF m (pc + 1) L (.long (x >>> (y &&& 0x3f).toInt64) :: S)))) : Own p e below Q (T.setTop (mkF m pc L (.int y :: .long x :: S))) :=
  ogo (fun _ k => XS.lshr X.here hx rfl hd rfl k) k
theorem o_lushr (X : Stand p l e R s m args below meth c T locs cells slots) (hx : p.tables.exec = Jvm.exec) {pc : Nat} {L : Array Slot} {S : List Value} {x : Int64} {y : Int32} (hd : decode c.code pc = .ok (.lushr, 1)) (k : Own p e below Q (T.setTop (mkF m (pc + 1) L (.long (own_ushrL x y) :: S)))) : Own p e below Q (T.setTop (mkF m pc L (.int y :: .long x :: S))) :=
  ogo (fun _ k => XS.lushr X.here hx rfl hd rfl k) k
theorem o_ineg (X : Stand p l e R s m args below meth c T locs cells slots) (hx : p.tables.exec = Jvm.exec) {pc : Nat} {L : Array Slot} {S : List Value} {x : Int32} (hd : decode c.code pc = .ok (.ineg, 1)) (k : Own p e below Q (T.setTop (mkF m (pc + 1) L (.int (-x) :: S)))) : Own p e below Q (T.setTop (mkF m pc L (.int x :: S))) :=
  ogo (fun _ k => XS.ineg X.here hx rfl hd rfl k) k
theorem o_lneg (X : Stand p l e R s m args below meth c T locs cells slots) (hx : p.tables.exec = Jvm.exec) {pc : Nat} {L : Array Slot} {S : List Value} {x : Int64} (hd : decode c.code pc = .ok (.lneg, 1)) (k : Own p e below Q (T.setTop (mkF m (pc + 1) L (.long (-x) :: S)))) : Own p e below Q (T.setTop (mkF m pc L (.long x :: S))) :=
  ogo (fun _ k => XS.lneg X.here hx rfl hd rfl k) k
theorem o_i2l (X : Stand p l e R s m args below meth c T locs cells slots) (hx : p.tables.exec = Jvm.exec) {pc : Nat} {L : Array Slot} {S : List Value} {x : Int32} (hd : decode c.code pc = .ok (.i2l, 1)) (k : Own p e below Q (T.setTop (mkF m (pc + 1) L (.long (x.toInt64) :: S)))) : Own p e below Q (T.setTop (mkF m pc L (.int x :: S))) :=
  ogo (fun _ k => XS.i2l X.here hx rfl hd rfl k) k
theorem o_l2i (X : Stand p l e R s m args below meth c T locs cells slots) (hx : p.tables.exec = Jvm.exec) {pc : Nat} {L : Array Slot} {S : List Value} {x : Int64} (hd : decode c.code pc = .ok (.l2i, 1)) (k : Own p e below Q (T.setTop (mkF m (pc + 1) L (.int (x.toInt32) :: S)))) : Own p e below Q (T.setTop (mkF m pc L (.long x :: S))) :=
  ogo (fun _ k => XS.l2i X.here hx rfl hd rfl k) k
theorem o_i2b (X : Stand p l e R s m args below meth c T locs cells slots) (hx : p.tables.exec = Jvm.exec) {pc : Nat} {L : Array Slot} {S : List Value} {x : Int32} (hd : decode c.code pc = .ok (.i2b, 1)) (k : Own p e below Q (T.setTop (mkF m (pc + 1) L (.int (x.toInt8.toInt32) :: S)))) : Own p e below Q (T.setTop (mkF m pc L (.int x :: S))) :=
  ogo (fun _ k => XS.i2b X.here hx rfl hd rfl k) k
theorem o_i2s (X : Stand p l e R s m args below meth c T locs cells slots) (hx : p.tables.exec = Jvm.exec) {pc : Nat} {L : Array Slot} {S : List Value} {x : Int32} (hd : decode c.code pc = .ok (.i2s, 1)) (k : Own p e below Q (T.setTop (mkF m (pc + 1) L (.int (x.toInt16.toInt32) :: S)))) : Own p e below Q (T.setTop (mkF m pc L (.int x :: S))) :=
  ogo (fun _ k => XS.i2s X.here hx rfl hd rfl k) k
theorem o_i2c (X : Stand p l e R s m args below meth c T locs cells slots) (hx : p.tables.exec = Jvm.exec) {pc : Nat} {L : Array Slot} {S : List Value} {x : Int32} (hd : decode c.code pc = .ok (.i2c, 1)) (k : Own p e below Q (T.setTop (mkF m (pc + 1) L (.int (nar .char x) :: S)))) : Own p e below Q (T.setTop (mkF m pc L (.int x :: S))) :=
  ogo (fun _ k => XS.i2c X.here hx rfl hd rfl k) k
theorem o_lcmp (X : Stand p l e R s m args below meth c T locs cells slots) (hx : p.tables.exec = Jvm.exec) {pc : Nat} {L : Array Slot} {S : List Value} {x y : Int64} (hd : decode c.code pc = .ok (.lcmp, 1)) (k : Own p e below Q (T.setTop (mkF m (pc + 1) L (.int (lcmpW x y) :: S)))) : Own p e below Q (T.setTop (mkF m pc L (.long y :: .long x :: S))) :=
  ogo (fun _ k => XS.lcmp X.here hx rfl hd rfl k) k
theorem o_idiv (X : Stand p l e R s m args below meth c T locs cells slots) (hx : p.tables.exec = Jvm.exec) {pc : Nat} {L : Array Slot} {S : List Value} {x y : Int32} (hd : decode c.code pc = .ok (.idiv, 1)) (hy : y ≠ 0) (k : Own p e below Q (T.setTop (mkF m (pc + 1) L (.int (x / y) :: S)))) : Own p e below Q (T.setTop (mkF m pc L (.int y :: .int x :: S))) :=
  ogo (fun _ k => XS.idiv X.here hx rfl hd rfl hy k) k
theorem o_ldiv (X : Stand p l e R s m args below meth c T locs cells slots) (hx : p.tables.exec = Jvm.exec) {pc : Nat} {L : Array Slot} {S : List Value} {x y : Int64} (hd : decode c.code pc = .ok (.ldiv, 1)) (hy : y ≠ 0) (k : Own p e below Q (T.setTop (mkF m (pc + 1) L (.long (x / y) :: S)))) : Own p e below Q (T.setTop (mkF m pc L (.long y :: .long x :: S))) :=
  ogo (fun _ k => XS.ldiv X.here hx rfl hd rfl hy k) k
theorem o_lrem (X : Stand p l e R s m args below meth c T locs cells slots) (hx : p.tables.exec = Jvm.exec) {pc : Nat} {L : Array Slot} {S : List Value} {x y : Int64} (hd : decode c.code pc = .ok (.lrem, 1)) (hy : y ≠ 0) (k : Own p e below Q (T.setTop (mkF m (pc + 1) L (.long (x - (x / y) * y) :: S)))) : Own p e below Q (T.setTop (mkF m pc L (.long y :: .long x :: S))) :=
  ogo (fun _ k => XS.lrem X.here hx rfl hd rfl hy k) k
theorem o_irem (X : Stand p l e R s m args below meth c T locs cells slots) (hx : p.tables.exec = Jvm.exec) {pc : Nat} {L : Array Slot} {S : List Value} {x y : Int32} (hd : decode c.code pc = .ok (.irem, 1)) (hy : y ≠ 0) (k : Own p e below Q (T.setTop (mkF m (pc + 1) L (.int (x % y) :: S)))) : Own p e below Q (T.setTop (mkF m pc L (.int y :: .int x :: S))) :=
  ogo (fun _ k => iremM X hx rfl hd rfl hy k) k
theorem o_iinc (X : Stand p l e R s m args below meth c T locs cells slots) (hx : p.tables.exec = Jvm.exec) {pc : Nat} {L : Array Slot} {S : List Value} {i : Nat} {n : Int} {x : Int32} {l' : Array Slot} (hd : decode c.code pc = .ok (.iinc i n, 3)) (hl : L[i]? = some (.val (.int x))) (hl' : storeLocals L i (.int (x + Int32.ofInt n)) = some l') (k : Own p e below Q (T.setTop (mkF m (pc + 3) l' S))) : Own p e below Q (T.setTop (mkF m pc L S)) :=
  ogo (fun _ k => XS.iinc X.here hx rfl hd hl hl' k) k
theorem o_dup (X : Stand p l e R s m args below meth c T locs cells slots) (hx : p.tables.exec = Jvm.exec) {pc : Nat} {L : Array Slot} {S : List Value} {v : Value} (hd : decode c.code pc = .ok (.dup, 1)) (hc : v.category = 1) (k : Own p e below Q (T.setTop (mkF m (pc + 1) L (v :: v :: S)))) : Own p e below Q (T.setTop (mkF m pc L (v :: S))) :=
  ogo (fun _ k => XS.dup X.here hx rfl hd rfl hc k) k
theorem o_dup_x1 (X : Stand p l e R s m args below meth c T locs cells slots) (hx : p.tables.exec = Jvm.exec) {pc : Nat} {L : Array Slot} {S : List Value} {v w : Value} (hd : decode c.code pc = .ok (.dup_x1, 1)) (hc : v.category = 1) (hc' : w.category = 1) (k : Own p e below Q (T.setTop (mkF m (pc + 1) L (v :: w :: v :: S)))) : Own p e below Q (T.setTop (mkF m pc L (v :: w :: S))) :=
  ogo (fun _ k => XS.dupX1 X.here hx rfl hd rfl hc hc' k) k
theorem o_pop (X : Stand p l e R s m args below meth c T locs cells slots) (hx : p.tables.exec = Jvm.exec) {pc : Nat} {L : Array Slot} {S : List Value} {v : Value} (hd : decode c.code pc = .ok (.pop, 1)) (hc : v.category = 1) (k : Own p e below Q (T.setTop (mkF m (pc + 1) L S))) : Own p e below Q (T.setTop (mkF m pc L (v :: S))) :=
  ogo (fun _ k => XS.pop X.here hx rfl hd rfl hc k) k
theorem o_goto (X : Stand p l e R s m args below meth c T locs cells slots) (hx : p.tables.exec = Jvm.exec) {pc : Nat} {L : Array Slot} {S : List Value} {o : Int} (pc' : Nat) (hd : decode c.code pc = .ok (.goto o, 3)) (ho : 0 ≤ (pc : Int) + o) (hp : ((pc : Int) + o).toNat = pc') (k : Own p e below Q (T.setTop (mkF m (pc') L S))) : Own p e below Q (T.setTop (mkF m pc L S)) :=
  ogo (fun _ k => XS.goto X.here hx rfl rfl hd ho hp k) k
theorem o_ifYes (X : Stand p l e R s m args below meth c T locs cells slots) (hx : p.tables.exec = Jvm.exec) {pc : Nat} {L : Array Slot} {S : List Value} {cd : ClassFile.Cond} {x : Int32} {o : Int} (pc' : Nat) (hd : decode c.code pc = .ok (.ifCond cd o, 3)) (hc : if_icmp.holds cd x 0 = true) (ho : 0 ≤ (pc : Int) + o) (hp : ((pc : Int) + o).toNat = pc') (k : Own p e below Q (T.setTop (mkF m (pc') L S))) : Own p e below Q (T.setTop (mkF m pc L (.int x :: S))) :=
  ogo (fun _ k => XS.ifYes X.here hx rfl rfl hd rfl ((if0 _ _).trans hc) ho hp k) k
theorem o_ifNo (X : Stand p l e R s m args below meth c T locs cells slots) (hx : p.tables.exec = Jvm.exec) {pc : Nat} {L : Array Slot} {S : List Value} {cd : ClassFile.Cond} {x : Int32} {o : Int} (hd : decode c.code pc = .ok (.ifCond cd o, 3)) (hc : if_icmp.holds cd x 0 = false) (k : Own p e below Q (T.setTop (mkF m (pc + 3) L S))) : Own p e below Q (T.setTop (mkF m pc L (.int x :: S))) :=
  ogo (fun _ k => XS.ifNo X.here hx rfl hd rfl ((if0 _ _).trans hc) k) k
theorem o_icmpYes (X : Stand p l e R s m args below meth c T locs cells slots) (hx : p.tables.exec = Jvm.exec) {pc : Nat} {L : Array Slot} {S : List Value} {cd : ClassFile.Cond} {x y : Int32} {o : Int} (pc' : Nat) (hd : decode c.code pc = .ok (.if_icmp cd o, 3)) (hc : if_icmp.holds cd x y = true) (ho : 0 ≤ (pc : Int) + o) (hp : ((pc : Int) + o).toNat = pc') (k : Own p e below Q (T.setTop (mkF m (pc') L S))) : Own p e below Q (T.setTop (mkF m pc L (.int y :: .int x :: S))) :=
  ogo (fun _ k => XS.icmpYes X.here hx rfl rfl hd rfl hc ho hp k) k
theorem o_icmpNo (X : Stand p l e R s m args below meth c T locs cells slots) (hx : p.tables.exec = Jvm.exec) {pc : Nat} {L : Array Slot} {S : List Value} {cd : ClassFile.Cond} {x y : Int32} {o : Int} (hd : decode c.code pc = .ok (.if_icmp cd o, 3)) (hc : if_icmp.holds cd x y = false) (k : Own p e below Q (T.setTop (mkF m (pc + 3) L S))) : Own p e below Q (T.setTop (mkF m pc L (.int y :: .int x :: S))) :=
  ogo (fun _ k => XS.icmpNo X.here hx rfl hd rfl hc k) k
theorem o_ifnullYes (X : Stand p l e R s m args below meth c T locs cells slots) (hx : p.tables.exec = Jvm.exec) {pc : Nat} {L : Array Slot} {S : List Value} {o : Int} (pc' : Nat) (hd : decode c.code pc = .ok (.ifnull o, 3)) (ho : 0 ≤ (pc : Int) + o) (hp : ((pc : Int) + o).toNat = pc') (k : Own p e below Q (T.setTop (mkF m (pc') L S))) : Own p e below Q (T.setTop (mkF m pc L (.null :: S))) :=
  ogo (fun _ k => XS.ifnullYes X.here hx rfl rfl hd rfl ho hp k) k
theorem o_ifnullNo (X : Stand p l e R s m args below meth c T locs cells slots) (hx : p.tables.exec = Jvm.exec) {pc : Nat} {L : Array Slot} {S : List Value} {o : Int} {b : Addr} (hd : decode c.code pc = .ok (.ifnull o, 3)) (k : Own p e below Q (T.setTop (mkF m (pc + 3) L S))) : Own p e below Q (T.setTop (mkF m pc L (.ref b :: S))) :=
  ogo (fun _ k => XS.ifnullNo X.here hx rfl hd rfl k) k
theorem o_ifnonnullYes (X : Stand p l e R s m args below meth c T locs cells slots) (hx : p.tables.exec = Jvm.exec) {pc : Nat} {L : Array Slot} {S : List Value} {o : Int} {b : Addr} (pc' : Nat) (hd : decode c.code pc = .ok (.ifnonnull o, 3)) (ho : 0 ≤ (pc : Int) + o) (hp : ((pc : Int) + o).toNat = pc') (k : Own p e below Q (T.setTop (mkF m (pc') L S))) : Own p e below Q (T.setTop (mkF m pc L (.ref b :: S))) :=
  ogo (fun _ k => XS.ifnonnullYes X.here hx rfl rfl hd rfl ho hp k) k
theorem o_ifnonnullNo (X : Stand p l e R s m args below meth c T locs cells slots) (hx : p.tables.exec = Jvm.exec) {pc : Nat} {L : Array Slot} {S : List Value} {o : Int} (hd : decode c.code pc = .ok (.ifnonnull o, 3)) (k : Own p e below Q (T.setTop (mkF m (pc + 3) L S))) : Own p e below Q (T.setTop (mkF m pc L (.null :: S))) :=
  ogo (fun _ k => XS.ifnonnullNo X.here hx rfl hd rfl k) k
theorem o_acmp (X : Stand p l e R s m args below meth c T locs cells slots) (hx : p.tables.exec = Jvm.exec) {pc : Nat} {L : Array Slot} {S : List Value} {cd : ClassFile.ACond} {x y : Value} {o : Int} (pc' : Nat) (same : Bool) (h1 : x.isRef = true) (h2 : y.isRef = true) (hd : decode c.code pc = .ok (.if_acmp cd o, 3)) (hq : decide (x = y) = same) (ho : 0 ≤ (pc : Int) + o) (hp : pc' = if acV cd same = true then ((pc : Int) + o).toNat else pc + 3) (k : Own p e below Q (T.setTop (mkF m (pc') L S))) : Own p e below Q (T.setTop (mkF m pc L (y :: x :: S))) :=
  ogo (fun _ k => Jvm.RoadKit.acmp X hx rfl h1 h2 rfl hd rfl hq ho hp k) k
theorem o_tswIn (X : Stand p l e R s m args below meth c T locs cells slots) (hx : p.tables.exec = Jvm.exec) {pc : Nat} {L : Array Slot} {S : List Value} {d lo hi : Int} {offs : Array Int} {len : Nat} {o : Int} {i : Int32} (pc' : Nat) (hd : decode c.code pc = .ok (.tableswitch d lo hi offs, len)) (hin : ¬ (i.toInt < lo ∨ i.toInt > hi)) (hoff : offs[(i.toInt - lo).toNat]? = some o) (ho : 0 ≤ (pc : Int) + o) (hp : ((pc : Int) + o).toNat = pc') (k : Own p e below Q (T.setTop (mkF m (pc') L S))) : Own p e below Q (T.setTop (mkF m pc L (.int i :: S))) :=
  ogo (fun _ k => XS.tswIn X.here hx rfl rfl hd rfl hin hoff ho hp k) k
theorem o_tswOut (X : Stand p l e R s m args below meth c T locs cells slots) (hx : p.tables.exec = Jvm.exec) {pc : Nat} {L : Array Slot} {S : List Value} {d lo hi : Int} {offs : Array Int} {len : Nat} {i : Int32} (pc' : Nat) (hd : decode c.code pc = .ok (.tableswitch d lo hi offs, len)) (hout : i.toInt < lo ∨ i.toInt > hi) (ho : 0 ≤ (pc : Int) + d) (hp : ((pc : Int) + d).toNat = pc') (k : Own p e below Q (T.setTop (mkF m (pc') L S))) : Own p e below Q (T.setTop (mkF m pc L (.int i :: S))) :=
  ogo (fun _ k => XS.tswOut X.here hx rfl rfl hd rfl hout ho hp k) k
end Steps

theorem own_cat {v : Value} (h : v.isRef = true) : v.category = 1 := by cases v <;> simp_all [Value.isRef, Value.category]
theorem own_nar {C : String} {v : Value} (h : v.isRef = true) : narrow (.object C) v = v := by cases v <;> first | rfl | cases h
theorem own_fits {C : String} {v : Value} (h : v.isRef = true) : fits (.object C) v = true := by cases v <;> first | rfl | cases h
theorem own_narc (x : Int32) : nar .char (nar .char x) = nar .char x := by
  have h := c_i2c x
  have h' := c_i2c (nar .char x)
  refine Int32.toInt_inj.mp ?_
  show (nar .char x).toUInt32.toUInt16.toUInt32.toInt32.toInt = (nar .char x).toInt
  have e : (nar .char x).toInt = x.toUInt32.toUInt16.toUInt32.toInt32.toInt := rfl
  omega
theorem own_narb (x : Int32) : nar .byte x.toInt8.toInt32 = x.toInt8.toInt32 := by
  have h := c_i2b x
  have h' := c_i2b x.toInt8.toInt32
  refine Int32.toInt_inj.mp ?_
  show x.toInt8.toInt32.toInt8.toInt32.toInt = x.toInt8.toInt32.toInt
  omega
theorem own_eqref {args : Array Value} {s : State} {a b : Term} {z : Addr} (h : (Jvm.Cond.eq a b).value args s none s [] = some true) (hb : b.eval args s none [] s = some (.ref z)) : a.eval args s none [] s = some (.ref z) := by
  obtain ⟨x, y, h1, h2, k1, k2⟩ := cmp_v (Or.inl h)
  cases hb.symm.trans h2
  have q := gotT (eq_R h1 h2 k2.2 rfl) h
  rw [← q]; exact h1
theorem own_char {c : Int32} (h0 : ¬ (c < (0 : Int32))) (h1 : ¬ ((255 : Int32) < c)) : nar .char (c.toInt8.toInt32 &&& (255 : Int32)) = c := by
  rw [Int32.lt_iff_toInt_lt] at h0 h1
  have e0 : (0 : Int32).toInt = 0 := rfl
  have e1 : (255 : Int32).toInt = 255 := rfl
  have a := c_i2b c
  have b := c_mask c.toInt8.toInt32 (255 : Int32) 8 (by decide) (by decide)
  have d := c_i2c (c.toInt8.toInt32 &&& (255 : Int32))
  refine Int32.toInt_inj.mp ?_
  show (c.toInt8.toInt32 &&& (255 : Int32)).toUInt32.toUInt16.toUInt32.toInt32.toInt = c.toInt
  simp only [Nat.reducePow] at b
  omega
theorem own_narsm {c : Int32} (h0 : ¬ (c < (0 : Int32))) (h1 : ¬ ((255 : Int32) < c)) : nar .char c = c := by
  rw [Int32.lt_iff_toInt_lt] at h0 h1
  have e0 : (0 : Int32).toInt = 0 := rfl
  have e1 : (255 : Int32).toInt = 255 := rfl
  have d := c_i2c c
  refine Int32.toInt_inj.mp ?_
  show c.toUInt32.toUInt16.toUInt32.toInt32.toInt = c.toInt
  omega
def own_EL : List (String × Nat) := [("java/lang/String", 7)]
theorem own_EW {Z : State} {a0 : Array Value} (hw : ∀ d ∈ tables_1, d.before a0 Z = true) : EW Z a0 own_EL := (EW.cons (hw _ (List.mem_of_getElem? (i := 18) rfl)) (by decide) EW.nil)
theorem own_wS {Z : State} {a0 : Array Value} (hw : ∀ d ∈ tables_1, d.before a0 Z = true) : ∀ a ∈ Bundle.stringAtoms, a.before a0 Z = true := fun a ha => by
  simp only [Bundle.stringAtoms, List.mem_cons, List.not_mem_nil, or_false] at ha
  rcases ha with rfl | rfl | rfl | rfl | rfl | rfl | rfl
  · exact hw _ (List.mem_of_getElem? (i := 6) rfl)
  · exact hw _ (List.mem_of_getElem? (i := 5) rfl)
  · exact hw _ (List.mem_of_getElem? (i := 19) rfl)
  · exact hw _ (List.mem_of_getElem? (i := 20) rfl)
  · exact hw _ (List.mem_of_getElem? (i := 21) rfl)
  · exact hw _ (List.mem_of_getElem? (i := 22) rfl)
  · exact hw _ (List.mem_of_getElem? (i := 23) rfl)
theorem own_safe {Z : State} {EL : List (String × Nat)} {vm : Vm} {h : Heap} {x : Addr} (hal : Z.vm.Alike vm) (E : Exa Z h x "java/lang/String") (V : Fld Z h x "java/lang/String" "value" "[B" .null) : Safe Z EL vm h x := fun B => by
  obtain ⟨p, hp, u, a, hb, q, rfl, F, hy⟩ := B
  obtain ⟨cS, ⟨⟨s1, s2, s3, ⟨cv, kv, iv, s4, s4'⟩, -, s6, s7, s8, s9, s10, r⟩, hfS, hcS⟩, -, hB, -⟩ := F
  rcases hy with rfl | rfl
  · obtain ⟨cell, cf, k, i, f, h1, h2, -, -, -, -, h7⟩ := V
    obtain ⟨kv', z4⟩ := ff_back (U := Wst Z vm h) hal s4
    cases h2.symm.trans z4
    have e1 : some cell = some q.sC := h1.symm.trans s1
    cases e1
    rw [s8] at h7; cases h7
  · obtain ⟨cell, k, h1, h2, h3, -⟩ := E
    have e1 : some cell = some q.SA := h1.symm.trans s10
    cases e1
    have hB' : vm.findClass "[B" = some q.SA.cls := hB
    rw [hal.findClass] at hB'
    obtain ⟨k1, a1, a2⟩ := Vm.findClass_spec h2
    obtain ⟨k2, b1, b2⟩ := Vm.findClass_spec hB'
    cases a1.symm.trans b1
    exact absurd (a2.symm.trans b2) (by decide)
abbrev oPostS (Z : State) (q : Option Value → Heap → List Loc → Prop) (s : State) (cc ss : Nat) : State → Outcome → Prop := fun s₂ o => ∃ v L, o = .returned v ∧ q v s₂.heap L ∧ CHr Z own_EL s.vm s.heap s₂.vm s₂.heap ∧ ReturnedEndW s o s₂ L cc ss
abbrev oMetS (l : Launch) (Z : State) (y : MethodName) (code : ByteArray) (maxL : Nat) (ret : Option FieldType) (ws : List Jvm.Cond) (rm : Room) (cc ss : Nat) (as' : Array Value) (h0 : Heap) (q : Option Value → Heap → List Loc → Prop) : Prop :=
  MetFree l y (head1 (Jvm.Cond.code y code maxL ret :: ws) rm) (fun a U => a = as' ∧ Z.Warmed39 U.vm ∧ U.heap = h0 ∧ CHv Z own_EL U.vm h0) (fun _ _ _ _ _ => True) (fun _ U o U' => ∃ v L, o = .returned v ∧ q v U'.heap L ∧ CHr Z own_EL U.vm U.heap U'.vm U'.heap ∧ ReturnedEndW U o U' L cc ss)
theorem oenterS {l : Launch} {Z : State} {y : MethodName} {code : ByteArray} {maxL : Nat} {ret : Option FieldType} {ws : List Jvm.Cond} {rm : Room} {cc ss : Nat} {as' : Array Value} {h0 : Heap} {q : Option Value → Heap → List Loc → Prop} (pn : plainName y.cls = true) (Ls : Array Slot) (ef : ∀ m, entryFrame m as' maxL = mkF m 0 Ls [])
    (body : ∀ (p : Program) (e : Env) (s : State) (m : MethodId) (below : List Frame) (meth : Method) (c : Code) (s₁ : State), Stand p l e rm (s.setVm s.vm) m as' below meth c s₁ [] 0 0 → p.tables.exec = Jvm.exec → Z.Warmed39 s.vm → c.code = code → c.maxLocals = maxL → meth.sig.returnType = ret → s.vm.findClass y.cls = some m.cls → meth.name = y.name → meth.locks = false → s₁.heap = h0 → s.heap = h0 → CHv Z own_EL s.vm h0 → s.Since s.vm 0 → Own p e below (oPostS Z q s cc ss) (s₁.setTop (mkF m 0 Ls []))) : oMetS l Z y code maxL ret ws rm cc ss as' h0 q := by
  refine MetFree.of_bodySF (plainFor_of_name pn) hisR ?_
  intro p e s m args below meth c s₁ Bd hml0 hP hK
  obtain ⟨rfl, hZ, hh, H⟩ := hP
  have e0 : s₁.heap = h0 := by rw [← hh, Bd.state]; rfl
  obtain ⟨t, o, h1, h2⟩ := body p e s m below meth c s₁ (Stand.of_body Bd) Bd.exec hZ Bd.bytes hml0 Bd.returns (findClass_of_methodNamed Bd.named) (name_of_methodNamed Bd.named Bd.method).1 (BodyLoose.notSynchronized Bd) e0 hh H ((State.WarmedH.refl s).since 0)
  exact ⟨t, o, castTop (ef m) h1, h2⟩
theorem oendS {p : Program} {l : Launch} {e : Env} {R : Room} {s : State} {m : MethodId} {args : Array Value} {below : List Frame} {meth : Method} {c : Code} {T : State} {locs : List Loc} {cells slots : Nat} {Z : State} {a0 : Array Value} {vm0 : Vm} {k0 : Nat} {h h0 : Heap} {v : Option Value} {q : Option Value → Heap → List Loc → Prop} {cc ss : Nat} {S : State}
    (X : Stand p l e R (s.setVm vm0) m args below meth c T locs cells slots) (hlk : meth.locks = false) (hS : s.Since vm0 k0) (hk : k0 ≤ h.size) (eT : T.heap = h) (hZ : Z.Warmed39 vm0) (hEL : EW Z a0 own_EL) (hs0 : s.heap = h0) (C : CHr Z own_EL s.vm h0 vm0 h) (hv : meth.sig.returnType = none → v = none)
    (st : ∀ fs, (∀ (f : JFrame) (acts : List Action), f.method = m → f.locked = none → f.entered = [] → (doReturn e (T.setTop f) acts v).1 = T.setFrames fs) → Steps p.tables e below S (T.setFrames fs)) (hc : cells ≤ cc) (hs : slots ≤ ss) (hq : q v T.heap locs) : Own p e below (oPostS Z q s cc ss) S := by
  subst eT hs0
  obtain ⟨fs, hr, hrun, hended, hR⟩ := X.leaveW hS hk hv hlk
  have C2 : CHr Z own_EL s.vm s.heap T.vm T.heap := C.trans (CHv.at X hZ hEL C.1)
  exact ⟨_, _, st fs hr, hrun, hended, _, _, rfl, hq, C2, hR.1, hR.2.1, hR.2.2.1, hR.2.2.2.mono hc hs⟩
def own_ok (c : Int32) : Prop := ¬ (c < (0 : Int32)) ∧ ¬ ((255 : Int32) < c)
theorem own_ok_mk (y : Int32) : own_ok (nar .char (y &&& (255 : Int32))) := by
  have a := c_and y (255 : Int32) (by decide)
  have d := c_i2c (y &&& (255 : Int32))
  have e : (255 : Int32).toInt = 255 := rfl
  have e0 : (0 : Int32).toInt = 0 := rfl
  have q : (nar .char (y &&& (255 : Int32))).toInt = (y &&& (255 : Int32)).toUInt32.toUInt16.toUInt32.toInt32.toInt := rfl
  refine ⟨?_, ?_⟩ <;> rw [Int32.lt_iff_toInt_lt] <;> omega
theorem own_binj {c d : Int32} (hc : own_ok c) (hd : own_ok d) : c.toInt8.toInt32 = d.toInt8.toInt32 ↔ c = d := by
  refine ⟨fun h => ?_, fun h => by rw [h]⟩
  have a := own_char hc.1 hc.2
  have b := own_char hd.1 hd.2
  rw [← a, ← b, h]
def own_b (s t : List Int32) : Int32 := if s = t then 1 else 0
theorem own_bs (s : List Int32) : own_b s s = (1 : Int32) := if_pos rfl
theorem own_bt {s t : List Int32} (h : s = t) : own_b s t = (1 : Int32) := if_pos h
theorem own_bf {s t : List Int32} (h : ¬ s = t) : own_b s t = (0 : Int32) := if_neg h
theorem own_b1 {s t : List Int32} (h : ¬ own_b s t = (0 : Int32)) : own_b s t = (1 : Int32) := by
  unfold own_b at h ⊢; by_cases q : s = t
  · rw [if_pos q]
  · rw [if_neg q] at h; exact absurd rfl h
/-- a text, its length and its bytes -/
def own_sh (s : List Int32) (n : Int32) (vs : List Value) : Prop := (s = [] ∧ n = (0 : Int32) ∧ vs = []) ∨ (∃ c0, s = [c0] ∧ n = (1 : Int32) ∧ vs = [(.int c0.toInt8.toInt32)] ∧ own_ok c0) ∨ (∃ c0 c1, s = [c0, c1] ∧ n = (2 : Int32) ∧ vs = [(.int c0.toInt8.toInt32), (.int c1.toInt8.toInt32)] ∧ own_ok c0 ∧ own_ok c1)
def own_ms (x : Int32) : List Int32 := if ((own_ushr x (16 : Int32) &&& (3 : Int32)) % (3 : Int32)) = (0 : Int32) then [] else if ((own_ushr x (16 : Int32) &&& (3 : Int32)) % (3 : Int32)) = (1 : Int32) then [(nar .char (x &&& (255 : Int32)))] else [(nar .char (x &&& (255 : Int32))), (nar .char (own_ushr x (8 : Int32) &&& (255 : Int32)))]
def own_ml (x : Int32) : Int32 := if ((own_ushr x (16 : Int32) &&& (3 : Int32)) % (3 : Int32)) = (0 : Int32) then (0 : Int32) else if ((own_ushr x (16 : Int32) &&& (3 : Int32)) % (3 : Int32)) = (1 : Int32) then (1 : Int32) else (2 : Int32)
def own_mv (x : Int32) : List Value := if ((own_ushr x (16 : Int32) &&& (3 : Int32)) % (3 : Int32)) = (0 : Int32) then [] else if ((own_ushr x (16 : Int32) &&& (3 : Int32)) % (3 : Int32)) = (1 : Int32) then [(.int (nar .char (x &&& (255 : Int32))).toInt8.toInt32)] else [(.int (nar .char (x &&& (255 : Int32))).toInt8.toInt32), (.int (nar .char (own_ushr x (8 : Int32) &&& (255 : Int32))).toInt8.toInt32)]
theorem own_mk_sh (x : Int32) : own_sh (own_ms x) (own_ml x) (own_mv x) := by
  unfold own_ms own_ml own_mv
  by_cases h : ((own_ushr x (16 : Int32) &&& (3 : Int32)) % (3 : Int32)) = (0 : Int32)
  · simp only [if_pos h]; exact Or.inl ⟨rfl, rfl, rfl⟩
  · simp only [if_neg h]
    by_cases h1 : ((own_ushr x (16 : Int32) &&& (3 : Int32)) % (3 : Int32)) = (1 : Int32)
    · simp only [if_pos h1]; exact Or.inr (Or.inl ⟨_, rfl, rfl, rfl, own_ok_mk _⟩)
    · simp only [if_neg h1]; exact Or.inr (Or.inr ⟨_, _, rfl, rfl, rfl, own_ok_mk _, own_ok_mk _⟩)
theorem own_mk0 {x : Int32} (h : ((own_ushr x (16 : Int32) &&& (3 : Int32)) % (3 : Int32)) = (0 : Int32)) : own_ml x = (0 : Int32) ∧ own_mv x = [] := ⟨if_pos h, if_pos h⟩
theorem own_mk1 {x : Int32} (h : ¬ ((own_ushr x (16 : Int32) &&& (3 : Int32)) % (3 : Int32)) = (0 : Int32)) (h1 : ((own_ushr x (16 : Int32) &&& (3 : Int32)) % (3 : Int32)) = (1 : Int32)) : own_ml x = (1 : Int32) ∧ own_mv x = [(.int (nar .char (x &&& (255 : Int32))).toInt8.toInt32)] := ⟨(if_neg h).trans (if_pos h1), (if_neg h).trans (if_pos h1)⟩
theorem own_mk2 {x : Int32} (h : ¬ ((own_ushr x (16 : Int32) &&& (3 : Int32)) % (3 : Int32)) = (0 : Int32)) (h1 : ¬ ((own_ushr x (16 : Int32) &&& (3 : Int32)) % (3 : Int32)) = (1 : Int32)) : own_ml x = (2 : Int32) ∧ own_mv x = [(.int (nar .char (x &&& (255 : Int32))).toInt8.toInt32), (.int (nar .char (own_ushr x (8 : Int32) &&& (255 : Int32))).toInt8.toInt32)] := ⟨(if_neg h).trans (if_neg h1), (if_neg h).trans (if_neg h1)⟩
theorem own_eqnull {args : Array Value} {s : State} {a : Term} (h : (Jvm.Cond.eq a .null).value args s none s [] = some true) : a.eval args s none [] s = some .null := by
  obtain ⟨x, y, h1, h2, k1, k2⟩ := cmp_v (Or.inl h)
  have h2' : (Term.null).eval args s none [] s = some .null := rfl
  cases h2'.symm.trans h2
  have q := gotT (eq_R h1 h2 k2.2 rfl) h
  rw [← q]; exact h1
def own_Start (Z : State) (z_CS : Int32) (v_FMT : Value) (s_EMPTY : Addr) : Prop := (Sta Z Z.heap "java/lang/String" "COMPACT_STRINGS" "Z" (.int z_CS)) ∧ (¬ (z_CS = (0 : Int32))) ∧ (Sta Z Z.heap "jdk/internal/util/Preconditions" "SIOOBE_FORMATTER" "Ljava/util/function/BiFunction;" v_FMT) ∧ (v_FMT.isRef = true) ∧ (Sta Z Z.heap "java/util/Optional" "EMPTY" "Ljava/util/Optional;" (.ref s_EMPTY)) ∧ (Exa Z Z.heap s_EMPTY "java/util/Optional") ∧ (Fld Z Z.heap s_EMPTY "java/util/Optional" "value" "Ljava/lang/Object;" .null)
theorem d1_0 : decode jdk_42_method_149_code 0 = .ok (.aload_n 0, 1) := by decide +kernel
theorem d1_1 : decode jdk_42_method_149_code 1 = .ok (.invokespecial 1, 3) := by decide +kernel
theorem d1_4 : decode jdk_42_method_149_code 4 = .ok (.iload_n 3, 1) := by decide +kernel
theorem d1_5 : decode jdk_42_method_149_code 5 = .ok (.ifCond .ne 22, 3) := by decide +kernel
theorem d1_8 : decode jdk_42_method_149_code 8 = .ok (.aload_n 0, 1) := by decide +kernel
theorem d1_9 : decode jdk_42_method_149_code 9 = .ok (.ldc 7, 2) := by decide +kernel
theorem d1_11 : decode jdk_42_method_149_code 11 = .ok (.getfield 9, 3) := by decide +kernel
theorem d1_14 : decode jdk_42_method_149_code 14 = .ok (.putfield 9, 3) := by decide +kernel
theorem d1_17 : decode jdk_42_method_149_code 17 = .ok (.aload_n 0, 1) := by decide +kernel
theorem d1_18 : decode jdk_42_method_149_code 18 = .ok (.ldc 7, 2) := by decide +kernel
theorem d1_20 : decode jdk_42_method_149_code 20 = .ok (.getfield 15, 3) := by decide +kernel
theorem d1_23 : decode jdk_42_method_149_code 23 = .ok (.putfield 15, 3) := by decide +kernel
theorem d1_26 : decode jdk_42_method_149_code 26 = .ok (.return_, 1) := by decide +kernel
theorem own_pn0 : plainName "java/lang/String" = true := by first | (simp [plainName, overriddenIn]; done) | decide +kernel
def own_Q_new4z (Z : State)  (x_ : Addr) (ca_ : Addr) (h0 : Heap) (n0 : Nat) (v : Option Value) (h : Heap) (L : List Loc) : Prop := ∃ ba_ : Addr, ∃ kb_ : ClassId, (v = none) ∧ (Fr n0 L) ∧ (Keep h0 h [x_]) ∧ (ba_ < h.size) ∧ (Arv Z h ba_ kb_ .byte (0 : Int32) [] (.int 0)) ∧ (Exa Z h x_ "java/lang/String") ∧ (Fld Z h x_ "java/lang/String" "value" "[B" (.ref ba_)) ∧ (Fld Z h x_ "java/lang/String" "coder" "B" (.int (0 : Int32)))
abbrev yM0 : MethodName := ⟨"java/lang/String", "<init>", "([CIILjava/lang/Void;)V"⟩
set_option maxRecDepth 65536 in
set_option maxHeartbeats 40000000 in
theorem rm_new4z (l : Launch) (Z : State) (a0 : Array Value) (hw : ∀ d ∈ tables_1, d.before a0 Z = true) (ws : List Jvm.Cond)  (x_ : Addr) (ca_ : Addr) (h0 : Heap) (n0 : Nat) (O0 : Old Z n0 h0) (pr0 : Exa Z h0 x_ "java/lang/String") (pr1 : Fld Z h0 x_ "java/lang/String" "value" "[B" .null) (pr2 : Fld Z h0 x_ "java/lang/String" "coder" "B" (.int (0 : Int32))) (pr3 : n0 ≤ x_) :
    oMetS l Z yM0 jdk_42_method_149_code 6 none ws ({ frames := 1, cells := 4, slots := 8, locals := 12 } : Room) 4 8 #[(.ref x_), (.ref ca_), (.int (0 : Int32)), (.int (0 : Int32)), .null] h0 (own_Q_new4z Z  x_ ca_ h0 n0) := by
  refine oenterS own_pn0 #[.val (.ref x_), .val (.ref ca_), .val (.int (0 : Int32)), .val (.int (0 : Int32)), .val .null, .unset] (fun m => by first | (simp [entryFrame, mkF, argsToLocals, Value.category]; done) | rfl) ?_
  intro p e s m below meth c s₁ X0 hx hZ hby hml hret hown0 hnm hlk e0 hs0 H0 hS0
  have hEL := own_EW hw
  have wS := own_wS hw
  have hown : s.vm.findClass "java/lang/String" = some m.cls := hown0
  have N0 := Fr.nil n0
  have w5 := hw _ (List.mem_of_getElem? (i := 5) rfl)
  have w15 := hw _ (List.mem_of_getElem? (i := 15) rfl)
  have w16 := hw _ (List.mem_of_getElem? (i := 16) rfl)
  have w17 := hw _ (List.mem_of_getElem? (i := 17) rfl)
  have w18 := hw _ (List.mem_of_getElem? (i := 18) rfl)
  have w20 := hw _ (List.mem_of_getElem? (i := 20) rfl)
  have w21 := hw _ (List.mem_of_getElem? (i := 21) rfl)
  have w24 := hw _ (List.mem_of_getElem? (i := 24) rfl)
  have w25 := hw _ (List.mem_of_getElem? (i := 25) rfl)
  refine o_aloadN X0 hx (hb hby d1_0) rfl rfl ?_
  obtain ⟨T1, X1, e1, st1⟩ := initO X0 hx hZ hown w15 w16 w17 e0 (g := (mkF m 1 #[.val (.ref x_), .val (.ref ca_), .val (.int (0 : Int32)), .val (.int (0 : Int32)), .val .null, .unset] [(.ref x_)])) rfl (by rw [hml]; rfl) rfl (hb hby d1_1) (by decide) (W := 0) (by show 2 * 0 + _ ≤ _; exact Nat.le_of_eq rfl) (by decide)
  refine ogo (S' := T1.setTop (mkF m 4 #[.val (.ref x_), .val (.ref ca_), .val (.int (0 : Int32)), .val (.int (0 : Int32)), .val .null, .unset] [])) st1 ?_
  refine o_iloadN X1 hx (hb hby d1_4) rfl ?_
  refine o_ifNo X1 hx (hb hby d1_5) (teq (by decide : (0 : Int32) = (0 : Int32))).2 ?_
  refine o_aloadN X1 hx (hb hby d1_8) rfl rfl ?_
  obtain ⟨a2, T2, _, ks2, b2, kk2, X2, rfl, E2, hS2, hk2, hZ2, hown2, Ex2, Fc2, Fv2, Va2, la2, lb2, C2, -, Nx2, st2⟩ := ldcCH X1 hx hZ hown w18 wS e1 hS0 (Nat.zero_le _) hEL (List.mem_of_getElem? (i := 0) rfl) H0 (vs := []) (z := (0 : Int32)) ⟨by decide, by decide⟩ (by decide) rfl (g := (mkF m 9 #[.val (.ref x_), .val (.ref ca_), .val (.int (0 : Int32)), .val (.int (0 : Int32)), .val .null, .unset] [(.ref x_)])) rfl (hb hby d1_9) (n := 0) (by decide) (by decide) (by decide) (by decide)
  have H3 := C2.1
  have c4 := (CHr.safe C2 (Nat.lt_of_lt_of_le pr0.lt (Nat.le_refl _)) (own_safe hZ.alike pr0 pr1))
  refine ogo (S' := T2.setTop (mkF m 11 #[.val (.ref x_), .val (.ref ca_), .val (.int (0 : Int32)), .val (.int (0 : Int32)), .val .null, .unset] [(.ref a2), (.ref x_)])) st2 ?_
  obtain ⟨T5, X5, e5, st5⟩ := getF X2 hx hZ2 hown2 (host := "") (Or.inl w24) Via.refl rfl Fv2 (g := (mkF m 11 #[.val (.ref x_), .val (.ref ca_), .val (.int (0 : Int32)), .val (.int (0 : Int32)), .val .null, .unset] [(.ref a2), (.ref x_)])) rfl rfl (hb hby d1_11)
  refine ogo (S' := T5.setTop (mkF m 14 #[.val (.ref x_), .val (.ref ca_), .val (.int (0 : Int32)), .val (.int (0 : Int32)), .val .null, .unset] [(.ref b2), (.ref x_)])) st5 ?_
  obtain ⟨T6, _, X6, rfl, W6, st6⟩ := putF X5 hx hZ2 hown2 (host := "") (Or.inl w24) Via.refl e5 (Fld.ext E2 pr1) (Exa.ext E2 pr0) (Or.inr ⟨w20, rfl, hnm⟩) w5 (ty := (.array .byte)) (by decide) rfl rfl (g := (mkF m 14 #[.val (.ref x_), .val (.ref ca_), .val (.int (0 : Int32)), .val (.int (0 : Int32)), .val .null, .unset] [(.ref b2), (.ref x_)])) rfl rfl (hb hby d1_14)
  have N6 := Fr.snoc X6 N0 pr3
  have H7 := CHv.wr W6 c4 H3
  have F6 := Fld.same W6 (Fld.ext E2 pr1)
  refine ogo (S' := T6.setTop (mkF m 17 #[.val (.ref x_), .val (.ref ca_), .val (.int (0 : Int32)), .val (.int (0 : Int32)), .val .null, .unset] [])) st6 ?_
  refine o_aloadN X6 hx (hb hby d1_17) rfl rfl ?_
  obtain ⟨a8, T8, _, ks8, b8, kk8, X8, rfl, E8, hS8, hk8, hZ8, hown8, Ex8, Fc8, Fv8, Va8, la8, lb8, C8, -, Nx8, st8⟩ := ldcCH X6 hx hZ2 hown2 w18 wS rfl hS2 (Nat.le_trans hk2 (Keep.of_wr W6).1) hEL (List.mem_of_getElem? (i := 0) rfl) H7 (vs := []) (z := (0 : Int32)) ⟨by decide, by decide⟩ (by decide) rfl (g := (mkF m 18 #[.val (.ref x_), .val (.ref ca_), .val (.int (0 : Int32)), .val (.int (0 : Int32)), .val .null, .unset] [(.ref x_)])) rfl (hb hby d1_18) (n := 0) (by decide) (by decide) (by decide) (by decide)
  have H9 := C8.1
  have c10 := (CHr.safe C8 (Nat.lt_of_lt_of_le pr0.lt (Nat.le_trans E2.1 (Keep.of_wr W6).1)) (Safe.wr W6 c4 H3 c4))
  refine ogo (S' := T8.setTop (mkF m 20 #[.val (.ref x_), .val (.ref ca_), .val (.int (0 : Int32)), .val (.int (0 : Int32)), .val .null, .unset] [(.ref a8), (.ref x_)])) st8 ?_
  obtain ⟨T11, X11, e11, st11⟩ := getF X8 hx hZ8 hown8 (host := "") (Or.inl w25) Via.refl rfl Fc8 (g := (mkF m 20 #[.val (.ref x_), .val (.ref ca_), .val (.int (0 : Int32)), .val (.int (0 : Int32)), .val .null, .unset] [(.ref a8), (.ref x_)])) rfl rfl (hb hby d1_20)
  refine ogo (S' := T11.setTop (mkF m 23 #[.val (.ref x_), .val (.ref ca_), .val (.int (0 : Int32)), .val (.int (0 : Int32)), .val .null, .unset] [(.int (0 : Int32)), (.ref x_)])) st11 ?_
  have c13 := (Fld.ext E8 (Fld.other W6 (Fld.ext E2 pr2) (Or.inr (slot_ne (Or.inr w21) (Or.inr w20) (by decide) (t := .byte) (t' := (.array .byte)) (by decide) (by decide)))))
  obtain ⟨T12, _, X12, rfl, W12, st12⟩ := putFN X11 hx hZ8 hown8 w25 Via.refl e11 c13 (Exa.ext E8 (Exa.wr W6 (Exa.ext E2 pr0))) (Or.inr ⟨w21, rfl, hnm⟩) w5 (ty := .byte) (v' := (.int (0 : Int32))) (by decide) rfl (by decide) (g := (mkF m 23 #[.val (.ref x_), .val (.ref ca_), .val (.int (0 : Int32)), .val (.int (0 : Int32)), .val .null, .unset] [(.int (0 : Int32)), (.ref x_)])) rfl rfl (hb hby d1_23)
  have N12 := Fr.snoc X12 N6 pr3
  have H14 := CHv.wr W12 c10 H9
  have F12 := Fld.same W12 c13
  refine ogo (S' := T12.setTop (mkF m 26 #[.val (.ref x_), .val (.ref ca_), .val (.int (0 : Int32)), .val (.int (0 : Int32)), .val .null, .unset] [])) st12 ?_
  have c15 := (((Va2.other W6 (Ne.symm (Nx2 _ c4).2)).ext E8).other W12 (Ne.symm (Nx2 _ c4).2))
  have c16 := (Fld.other W12 (Fld.ext E8 F6) (Or.inr (slot_ne (Or.inr w20) (Or.inr w21) (by decide) (t := (.array .byte)) (t' := .byte) (by decide) (by decide))))
  refine oendS X12 hlk hS8 (Nat.le_trans hk8 (Keep.of_wr W12).1) rfl hZ8 hEL hs0 (CHr.trans (CHr.trans (CHr.trans (CHr.trans (CHr.refl H0) C2) (CHr.wr W6 c4 H3)) C8) (CHr.wr W12 c10 H9)) (v := none) (fun _ => rfl) (fun fs hr => X12.returnOut hx hret (hb hby d1_26) hr) (by decide) (by decide) ?_
  show own_Q_new4z Z _ _ h0 n0 _ T12.heap _
  exact ⟨b2, kk2, rfl, N12, (((((Keep.refl h0 [x_]).ext E2).wr W6 (Or.inl (List.mem_of_getElem? (i := 0) rfl))).ext E8).wr W12 (Or.inl (List.mem_of_getElem? (i := 0) rfl))), (Nat.lt_of_lt_of_le lb2 (Nat.le_trans (Nat.le_trans (Keep.of_wr W6).1 E8.1) (Keep.of_wr W12).1)), c15, (Exa.wr W12 (Exa.ext E8 (Exa.wr W6 (Exa.ext E2 pr0)))), c16, F12⟩
theorem own_pd0 : parseMethodDescriptor "([CIILjava/lang/Void;)V" = some ⟨[(.array .char), .int, .int, (.object "java/lang/Void")], none⟩ := by decide +kernel
theorem d2_0 : decode jdk_42_method_3_code 0 = .ok (.aload_n 0, 1) := by decide +kernel
theorem d2_1 : decode jdk_42_method_3_code 1 = .ok (.aload_n 1, 1) := by decide +kernel
theorem d2_2 : decode jdk_42_method_3_code 2 = .ok (.iconst 0, 1) := by decide +kernel
theorem d2_3 : decode jdk_42_method_3_code 3 = .ok (.aload_n 1, 1) := by decide +kernel
theorem d2_4 : decode jdk_42_method_3_code 4 = .ok (.arraylength, 1) := by decide +kernel
theorem d2_5 : decode jdk_42_method_3_code 5 = .ok (.aconst_null, 1) := by decide +kernel
theorem d2_6 : decode jdk_42_method_3_code 6 = .ok (.invokespecial 27, 3) := by decide +kernel
theorem d2_9 : decode jdk_42_method_3_code 9 = .ok (.return_, 1) := by decide +kernel
def own_Q_new1z (Z : State)  (x_ : Addr) (ca_ : Addr) (kc_ : ClassId) (h0 : Heap) (n0 : Nat) (v : Option Value) (h : Heap) (L : List Loc) : Prop := ∃ ba_ : Addr, ∃ kb_ : ClassId, (v = none) ∧ (Fr n0 L) ∧ (Keep h0 h [x_]) ∧ (ba_ < h.size) ∧ (Arv Z h ba_ kb_ .byte (0 : Int32) [] (.int 0)) ∧ (Exa Z h x_ "java/lang/String") ∧ (Fld Z h x_ "java/lang/String" "value" "[B" (.ref ba_)) ∧ (Fld Z h x_ "java/lang/String" "coder" "B" (.int (0 : Int32)))
abbrev yM1 : MethodName := ⟨"java/lang/String", "<init>", "([C)V"⟩
set_option maxRecDepth 65536 in
set_option maxHeartbeats 40000000 in
theorem rm_new1z (l : Launch) (Z : State) (a0 : Array Value) (hw : ∀ d ∈ tables_1, d.before a0 Z = true) (ws : List Jvm.Cond)  (x_ : Addr) (ca_ : Addr) (kc_ : ClassId) (h0 : Heap) (n0 : Nat) (O0 : Old Z n0 h0) (pr0 : Exa Z h0 x_ "java/lang/String") (pr1 : Fld Z h0 x_ "java/lang/String" "value" "[B" .null) (pr2 : Fld Z h0 x_ "java/lang/String" "coder" "B" (.int (0 : Int32))) (pr3 : n0 ≤ x_) (pr4 : Arv Z h0 ca_ kc_ .char (0 : Int32) [] (.int 0)) :
    oMetS l Z yM1 jdk_42_method_3_code 2 none ws ({ frames := 2, cells := 4, slots := 8, locals := 29 } : Room) 4 8 #[(.ref x_), (.ref ca_)] h0 (own_Q_new1z Z  x_ ca_ kc_ h0 n0) := by
  refine oenterS own_pn0 #[.val (.ref x_), .val (.ref ca_)] (fun m => by first | (simp [entryFrame, mkF, argsToLocals, Value.category]; done) | rfl) ?_
  intro p e s m below meth c s₁ X0 hx hZ hby hml hret hown0 hnm hlk e0 hs0 H0 hS0
  have hEL := own_EW hw
  have wS := own_wS hw
  have hown : s.vm.findClass "java/lang/String" = some m.cls := hown0
  have N0 := Fr.nil n0
  have w6 := hw _ (List.mem_of_getElem? (i := 6) rfl)
  have w11 := hw _ (List.mem_of_getElem? (i := 11) rfl)
  have w12 := hw _ (List.mem_of_getElem? (i := 12) rfl)
  have w14 := hw _ (List.mem_of_getElem? (i := 14) rfl)
  refine o_aloadN X0 hx (hb hby d2_0) rfl rfl ?_
  refine o_aloadN X0 hx (hb hby d2_1) rfl rfl ?_
  refine o_iconst X0 hx (0 : Int32) (hb hby d2_2) rfl ?_
  refine o_aloadN X0 hx (hb hby d2_3) rfl rfl ?_
  obtain ⟨cl1, Ar1, -, S1, N1z, -, -⟩ := (id pr4)
  refine ogo (S' := s₁.setTop (mkF m 5 #[.val (.ref x_), .val (.ref ca_)] [(.int (0 : Int32)), (.int (0 : Int32)), (.ref ca_), (.ref x_)])) (fun _ kt_ => X0.arraylength hx (by rw [e0]; exact Ar1.1) (State.isArrayOf_alike hZ.alike Ar1.2.1) (g := (mkF m 4 #[.val (.ref x_), .val (.ref ca_)] [(.ref ca_), (.int (0 : Int32)), (.ref ca_), (.ref x_)])) rfl rfl (hb hby d2_4) _ (by rw [len_of S1 N1z]; exact kt_)) ?_
  refine o_aconst_null X0 hx (hb hby d2_5) ?_
  obtain ⟨_, _, ⟨T2, L2, kc2, n2⟩, -, X2, hSi2, hgr2, ⟨Lc2, hQ2, l2, y2, z2, C2⟩, st2⟩ := X0.specialBackS hx (y := yM0) rfl hown (mvT hZ w11) (mvT hZ w12) (mvT hZ w14) (by decide) (backOfSH (W := 0) (rm_new4z l Z a0 hw []  x_ ca_ h0 n0 O0 pr0 pr1 pr2 pr3) hZ w14 w6 (by decide) (by decide) hEL H0) (g := (mkF m 6 #[.val (.ref x_), .val (.ref ca_)] [.null, (.int (0 : Int32)), (.int (0 : Int32)), (.ref ca_), (.ref x_)])) rfl (by rw [hml]; rfl) (Steps.refl _) (a := x_) (argsL := [(.ref ca_), (.int (0 : Int32)), (.int (0 : Int32)), .null]) (rest := []) (lenOf own_pd0 rfl) rfl (by show 2 * 0 + _ ≤ _; exact Nat.le_of_eq rfl) (hb hby d2_6) (fun _ _ => ⟨rfl, e0, (by decide : 0 + 4 ≤ _), (by decide : 0 + 8 ≤ _)⟩)
  dsimp only [Pt.U, Pt.locs, Pt.cells, Pt.slots] at X2 l2 y2 z2 st2 hQ2 hSi2 hgr2 C2
  subst l2 y2 z2
  obtain ⟨ba_2, kb_2, rfl, Nq2, K2, p2_0, p2_1, p2_2, p2_3, p2_4⟩ := hQ2
  have N2 := Fr.app N0 Nq2
  have X2 : Stand p l e ({ frames := 2, cells := 4, slots := 8, locals := 29 } : Room) (s.setVm T2.vm) m #[(.ref x_), (.ref ca_)] below meth c T2 _ _ _ := X2
  have hS2 := foldS hS0 (by rw [e0]; exact (Nat.zero_le _)) hSi2 hgr2
  have hZ2 : Z.Warmed39 T2.vm := State.Warmed39.trans (t := s) hZ hSi2.1
  have hown2 : T2.vm.findClass "java/lang/String" = some m.cls := by rw [hSi2.1.alike.findClass]; exact hown
  have H3 := C2.1
  refine otr (S' := T2.setTop (mkF m 9 #[.val (.ref x_), .val (.ref ca_)] [])) st2 ?_
  refine oendS X2 hlk hS2 (Nat.le_refl _) rfl hZ2 hEL hs0 (CHr.trans (CHr.refl H0) C2) (v := none) (fun _ => rfl) (fun fs hr => X2.returnOut hx hret (hb hby d2_9) hr) (by decide) (by decide) ?_
  show own_Q_new1z Z _ _ _ h0 n0 _ T2.heap _
  exact ⟨ba_2, kb_2, rfl, N2, ((Keep.refl h0 [x_]).trans K2 (allS (Or.inl (List.mem_of_getElem? (i := 0) rfl)) all0)), (Nat.lt_of_lt_of_le p2_0 (Nat.le_refl _)), p2_1, p2_2, p2_3, p2_4⟩
theorem d3_0 : decode jdk_52_method_21_code 0 = .ok (.iconst 0, 1) := by decide +kernel
theorem d3_1 : decode jdk_52_method_21_code 1 = .ok (.istore 5, 2) := by decide +kernel
theorem d3_3 : decode jdk_52_method_21_code 3 = .ok (.iload 5, 2) := by decide +kernel
theorem d3_5 : decode jdk_52_method_21_code 5 = .ok (.iload 4, 2) := by decide +kernel
theorem d3_7 : decode jdk_52_method_21_code 7 = .ok (.if_icmp .ge 37, 3) := by decide +kernel
theorem d3_10 : decode jdk_52_method_21_code 10 = .ok (.aload_n 0, 1) := by decide +kernel
theorem d3_11 : decode jdk_52_method_21_code 11 = .ok (.iload_n 1, 1) := by decide +kernel
theorem d3_12 : decode jdk_52_method_21_code 12 = .ok (.caload, 1) := by decide +kernel
theorem d3_13 : decode jdk_52_method_21_code 13 = .ok (.istore 6, 2) := by decide +kernel
theorem d3_15 : decode jdk_52_method_21_code 15 = .ok (.iload 6, 2) := by decide +kernel
theorem d3_17 : decode jdk_52_method_21_code 17 = .ok (.sipush 255, 3) := by decide +kernel
theorem d3_20 : decode jdk_52_method_21_code 20 = .ok (.if_icmp .le 6, 3) := by decide +kernel
theorem d3_26 : decode jdk_52_method_21_code 26 = .ok (.aload_n 2, 1) := by decide +kernel
theorem d3_27 : decode jdk_52_method_21_code 27 = .ok (.iload_n 3, 1) := by decide +kernel
theorem d3_28 : decode jdk_52_method_21_code 28 = .ok (.iload 6, 2) := by decide +kernel
theorem d3_30 : decode jdk_52_method_21_code 30 = .ok (.i2b, 1) := by decide +kernel
theorem d3_31 : decode jdk_52_method_21_code 31 = .ok (.bastore, 1) := by decide +kernel
theorem d3_32 : decode jdk_52_method_21_code 32 = .ok (.iinc 1 1, 3) := by decide +kernel
theorem d3_35 : decode jdk_52_method_21_code 35 = .ok (.iinc 3 1, 3) := by decide +kernel
theorem d3_38 : decode jdk_52_method_21_code 38 = .ok (.iinc 5 1, 3) := by decide +kernel
theorem d3_41 : decode jdk_52_method_21_code 41 = .ok (.goto (-38), 3) := by decide +kernel
theorem d3_44 : decode jdk_52_method_21_code 44 = .ok (.iload 4, 2) := by decide +kernel
theorem d3_46 : decode jdk_52_method_21_code 46 = .ok (.ireturn, 1) := by decide +kernel
theorem own_pn1 : plainName "java/lang/StringUTF16" = true := by first | (simp [plainName, overriddenIn]; done) | decide +kernel
def own_Q_cmp5_1 (Z : State)  (ca_ : Addr) (kc_ : ClassId) (ba_ : Addr) (kb_ : ClassId) (c0_ : Int32) (h0 : Heap) (n0 : Nat) (v : Option Value) (h : Heap) (L : List Loc) : Prop := (v = some (.int (1 : Int32))) ∧ (Fr n0 L) ∧ (Keep h0 h [ba_]) ∧ (Arv Z h ba_ kb_ .byte (1 : Int32) [(.int c0_.toInt8.toInt32)] (.int 0))
abbrev yM2 : MethodName := ⟨"java/lang/StringUTF16", "compress", "([CI[BII)I"⟩
set_option maxRecDepth 65536 in
set_option maxHeartbeats 40000000 in
theorem rm_cmp5_1 (l : Launch) (Z : State) (a0 : Array Value) (hw : ∀ d ∈ tables_1, d.before a0 Z = true) (ws : List Jvm.Cond)  (ca_ : Addr) (kc_ : ClassId) (ba_ : Addr) (kb_ : ClassId) (c0_ : Int32) (h0 : Heap) (n0 : Nat) (O0 : Old Z n0 h0) (pr0 : Arv Z h0 ca_ kc_ .char (1 : Int32) [(.int c0_)] (.int 0)) (pr1 : Arv Z h0 ba_ kb_ .byte (1 : Int32) [(.int 0)] (.int 0)) (pr2 : ca_ ≠ ba_) (pr3 : n0 ≤ ba_) (pr4 : ¬ ((255 : Int32) < c0_)) :
    oMet l Z yM2 jdk_52_method_21_code 7 (some .int) ws ({ frames := 0, cells := 0, slots := 0, locals := 0 } : Room) 0 0 #[(.ref ca_), (.int (0 : Int32)), (.ref ba_), (.int (0 : Int32)), (.int (1 : Int32))] h0 (own_Q_cmp5_1 Z  ca_ kc_ ba_ kb_ c0_ h0 n0) := by
  refine oenter own_pn1 #[.val (.ref ca_), .val (.int (0 : Int32)), .val (.ref ba_), .val (.int (0 : Int32)), .val (.int (1 : Int32)), .unset, .unset] (fun m => by first | (simp [entryFrame, mkF, argsToLocals, Value.category]; done) | rfl) ?_
  intro p e s m below meth c s₁ X0 hx hZ hby hml hret hown0 hnm hlk e0
  have hown : s.vm.findClass "java/lang/StringUTF16" = some m.cls := hown0
  have N0 := Fr.nil n0
  refine o_iconst X0 hx (0 : Int32) (hb hby d3_0) rfl ?_
  refine o_istore X0 hx (l' := #[.val (.ref ca_), .val (.int (0 : Int32)), .val (.ref ba_), .val (.int (0 : Int32)), .val (.int (1 : Int32)), .val (.int (0 : Int32)), .unset]) (hb hby d3_1) rfl ?_
  refine o_iload X0 hx (hb hby d3_3) rfl ?_
  refine o_iload X0 hx (hb hby d3_5) rfl ?_
  refine o_icmpNo X0 hx (hb hby d3_7) (tlt (by decide : (0 : Int32) < (1 : Int32))).2.1 ?_
  refine o_aloadN X0 hx (hb hby d3_10) rfl rfl ?_
  refine o_iloadN X0 hx (hb hby d3_11) rfl ?_
  obtain ⟨cl1, Ar1, q1, S1, N1z, H1, G1⟩ := (id pr0)
  have hi1 := inb_of (j := (0 : Int32)) S1 ⟨by decide, by decide⟩
  have ha1 := Has.at (v := (.int c0_)) H1 hi1 rfl
  refine ogo (S' := s₁.setTop (mkF m 13 #[.val (.ref ca_), .val (.int (0 : Int32)), .val (.ref ba_), .val (.int (0 : Int32)), .val (.int (1 : Int32)), .val (.int (0 : Int32)), .unset] [(.int c0_)])) (X0.caload hx (j := (0 : Int32)) (v := (.int c0_)) (by rw [e0]; exact Ar1.1) (State.isArrayOf_alike hZ.alike Ar1.2.1) Ar1.2.2 hi1 ha1 (g := (mkF m 12 #[.val (.ref ca_), .val (.int (0 : Int32)), .val (.ref ba_), .val (.int (0 : Int32)), .val (.int (1 : Int32)), .val (.int (0 : Int32)), .unset] [(.int (0 : Int32)), (.ref ca_)])) rfl rfl (hb hby d3_12)) ?_
  refine o_istore X0 hx (l' := #[.val (.ref ca_), .val (.int (0 : Int32)), .val (.ref ba_), .val (.int (0 : Int32)), .val (.int (1 : Int32)), .val (.int (0 : Int32)), .val (.int c0_)]) (hb hby d3_13) rfl ?_
  refine o_iload X0 hx (hb hby d3_15) rfl ?_
  refine o_sipush X0 hx (255 : Int32) (hb hby d3_17) rfl ?_
  refine o_icmpYes X0 hx 26 (hb hby d3_20) (flt pr4).2.2.2 (by decide) (by decide) ?_
  refine o_aloadN X0 hx (hb hby d3_26) rfl rfl ?_
  refine o_iloadN X0 hx (hb hby d3_27) rfl ?_
  refine o_iload X0 hx (hb hby d3_28) rfl ?_
  refine o_i2b X0 hx (hb hby d3_30) ?_
  obtain ⟨cl2, Ar2, q2, S2, N2z, H2, G2⟩ := (id pr1)
  obtain ⟨T2, _, X2, rfl, W2, st2⟩ := stB X0 hx hZ e0 Ar2 (j := (0 : Int32)) (inb_of S2 ⟨by decide, by decide⟩) (g := (mkF m 31 #[.val (.ref ca_), .val (.int (0 : Int32)), .val (.ref ba_), .val (.int (0 : Int32)), .val (.int (1 : Int32)), .val (.int (0 : Int32)), .val (.int c0_)] [(.int c0_.toInt8.toInt32), (.int (0 : Int32)), (.ref ba_)])) rfl rfl (hb hby d3_31)
  rw [own_narb] at W2
  have V2 : Arv Z T2.heap ba_ kb_ .byte (1 : Int32) [(.int c0_.toInt8.toInt32)] (.int 0) := Arv.set Ar2 q2 S2 N2z H2 G2 (fits_nar_byte _) W2 0 rfl (Nat.le_of_ble_eq_true rfl)
  have N2 := Fr.snoc X2 N0 pr3
  refine ogo (S' := T2.setTop (mkF m 32 #[.val (.ref ca_), .val (.int (0 : Int32)), .val (.ref ba_), .val (.int (0 : Int32)), .val (.int (1 : Int32)), .val (.int (0 : Int32)), .val (.int c0_)] [])) st2 ?_
  refine o_iinc X2 hx (l' := #[.val (.ref ca_), .val (.int (1 : Int32)), .val (.ref ba_), .val (.int (0 : Int32)), .val (.int (1 : Int32)), .val (.int (0 : Int32)), .val (.int c0_)]) (hb hby d3_32) rfl rfl ?_
  refine o_iinc X2 hx (l' := #[.val (.ref ca_), .val (.int (1 : Int32)), .val (.ref ba_), .val (.int (1 : Int32)), .val (.int (1 : Int32)), .val (.int (0 : Int32)), .val (.int c0_)]) (hb hby d3_35) rfl rfl ?_
  refine o_iinc X2 hx (l' := #[.val (.ref ca_), .val (.int (1 : Int32)), .val (.ref ba_), .val (.int (1 : Int32)), .val (.int (1 : Int32)), .val (.int (1 : Int32)), .val (.int c0_)]) (hb hby d3_38) rfl rfl ?_
  refine o_goto X2 hx 3 (hb hby d3_41) (by decide) (by decide) ?_
  refine o_iload X2 hx (hb hby d3_3) rfl ?_
  refine o_iload X2 hx (hb hby d3_5) rfl ?_
  refine o_icmpYes X2 hx 44 (hb hby d3_7) (flt (by decide : ¬ ((1 : Int32) < (1 : Int32)))).2.1 (by decide) (by decide) ?_
  refine o_iload X2 hx (hb hby d3_44) rfl ?_
  refine oend X2 hlk (v := some (.int (1 : Int32))) (fun h => by rw [hret] at h; cases h) (fun fs hr => retOut X2 hx (t := .int) (i := .ireturn) hret rfl (Or.inl ⟨rfl, Or.inl rfl, _, rfl⟩) (hb hby d3_46) hr) (by decide) (by decide) ?_
  show own_Q_cmp5_1 Z _ _ _ _ _ h0 n0 _ T2.heap _
  exact ⟨rfl, N2, ((Keep.refl h0 [ba_]).wr W2 (Or.inl (List.mem_of_getElem? (i := 0) rfl))), V2⟩
theorem own_pd1 : parseMethodDescriptor "([CI[BII)I" = some ⟨[(.array .char), .int, (.array .byte), .int, .int], some .int⟩ := by decide +kernel
theorem d4_0 : decode jdk_52_method_16_code 0 = .ok (.iload_n 2, 1) := by decide +kernel
theorem d4_1 : decode jdk_52_method_16_code 1 = .ok (.newarray .byte, 2) := by decide +kernel
theorem d4_3 : decode jdk_52_method_16_code 3 = .ok (.astore_n 3, 1) := by decide +kernel
theorem d4_4 : decode jdk_52_method_16_code 4 = .ok (.aload_n 0, 1) := by decide +kernel
theorem d4_5 : decode jdk_52_method_16_code 5 = .ok (.iload_n 1, 1) := by decide +kernel
theorem d4_6 : decode jdk_52_method_16_code 6 = .ok (.aload_n 3, 1) := by decide +kernel
theorem d4_7 : decode jdk_52_method_16_code 7 = .ok (.iconst 0, 1) := by decide +kernel
theorem d4_8 : decode jdk_52_method_16_code 8 = .ok (.iload_n 2, 1) := by decide +kernel
theorem d4_9 : decode jdk_52_method_16_code 9 = .ok (.invokestatic 115, 3) := by decide +kernel
theorem d4_12 : decode jdk_52_method_16_code 12 = .ok (.istore 4, 2) := by decide +kernel
theorem d4_14 : decode jdk_52_method_16_code 14 = .ok (.iload 4, 2) := by decide +kernel
theorem d4_16 : decode jdk_52_method_16_code 16 = .ok (.iload_n 2, 1) := by decide +kernel
theorem d4_17 : decode jdk_52_method_16_code 17 = .ok (.if_icmp .eq 40, 3) := by decide +kernel
theorem d4_57 : decode jdk_52_method_16_code 57 = .ok (.aload_n 3, 1) := by decide +kernel
theorem d4_58 : decode jdk_52_method_16_code 58 = .ok (.areturn, 1) := by decide +kernel
def own_Q_cmp3_1 (Z : State)  (ca_ : Addr) (kc_ : ClassId) (c0_ : Int32) (h0 : Heap) (n0 : Nat) (v : Option Value) (h : Heap) (L : List Loc) : Prop := ∃ ba_ : Addr, ∃ kb_ : ClassId, (v = some (.ref ba_)) ∧ (Fr n0 L) ∧ (Keep h0 h []) ∧ (h0.size ≤ ba_) ∧ (Arv Z h ba_ kb_ .byte (1 : Int32) [(.int c0_.toInt8.toInt32)] (.int 0))
abbrev yM3 : MethodName := ⟨"java/lang/StringUTF16", "compress", "([CII)[B"⟩
set_option maxRecDepth 65536 in
set_option maxHeartbeats 40000000 in
theorem rm_cmp3_1 (l : Launch) (Z : State) (a0 : Array Value) (hw : ∀ d ∈ tables_1, d.before a0 Z = true) (ws : List Jvm.Cond)  (ca_ : Addr) (kc_ : ClassId) (c0_ : Int32) (h0 : Heap) (n0 : Nat) (O0 : Old Z n0 h0) (pr0 : Arv Z h0 ca_ kc_ .char (1 : Int32) [(.int c0_)] (.int 0)) (pr1 : ¬ ((255 : Int32) < c0_)) :
    oMet l Z yM3 jdk_52_method_16_code 6 (some (.array .byte)) ws ({ frames := 1, cells := 1, slots := 1, locals := 18 } : Room) 1 1 #[(.ref ca_), (.int (0 : Int32)), (.int (1 : Int32))] h0 (own_Q_cmp3_1 Z  ca_ kc_ c0_ h0 n0) := by
  refine oenter own_pn1 #[.val (.ref ca_), .val (.int (0 : Int32)), .val (.int (1 : Int32)), .unset, .unset, .unset] (fun m => by first | (simp [entryFrame, mkF, argsToLocals, Value.category]; done) | rfl) ?_
  intro p e s m below meth c s₁ X0 hx hZ hby hml hret hown0 hnm hlk e0
  have hown : s.vm.findClass "java/lang/StringUTF16" = some m.cls := hown0
  have N0 := Fr.nil n0
  have w19 := hw _ (List.mem_of_getElem? (i := 19) rfl)
  have w120 := hw _ (List.mem_of_getElem? (i := 120) rfl)
  have w122 := hw _ (List.mem_of_getElem? (i := 122) rfl)
  have w123 := hw _ (List.mem_of_getElem? (i := 123) rfl)
  have w124 := hw _ (List.mem_of_getElem? (i := 124) rfl)
  refine o_iloadN X0 hx (hb hby d4_0) rfl ?_
  obtain ⟨T1, _, k1, X1, rfl, E1, A1, Ex1, st1⟩ := newPE (aty := .byte) X0 hx hZ w19 e0 (g := (mkF m 1 #[.val (.ref ca_), .val (.int (0 : Int32)), .val (.int (1 : Int32)), .unset, .unset, .unset] [(.int (1 : Int32))])) rfl (hb hby d4_1) rfl (by decide) (cap := 1) (by decide) (by decide) (by decide) (by decide) (ad := "[B") rfl
  obtain ⟨b1, g1⟩ : ∃ z, z = h0.size := ⟨_, rfl⟩
  rw [← g1] at A1 Ex1 st1
  have n0_b1 : n0 ≤ b1 := Nat.le_trans (Nat.le_trans (Nat.le_of_eq O0.1.symm) O0.2.1) (Nat.le_trans (Nat.le_refl _) (Nat.le_of_eq g1.symm))
  have V1 : Arv Z T1.heap b1 k1 .byte (1 : Int32) [(.int 0)] (.int 0) := (Arv.new A1 (by decide)).pad (pad_rep [] (.int 0) 1)
  refine ogo (S' := T1.setTop (mkF m 3 #[.val (.ref ca_), .val (.int (0 : Int32)), .val (.int (1 : Int32)), .unset, .unset, .unset] [(.ref b1)])) st1 ?_
  refine o_astoreN X1 hx (l' := #[.val (.ref ca_), .val (.int (0 : Int32)), .val (.int (1 : Int32)), .val (.ref b1), .unset, .unset]) (hb hby d4_3) rfl rfl ?_
  refine o_aloadN X1 hx (hb hby d4_4) rfl rfl ?_
  refine o_iloadN X1 hx (hb hby d4_5) rfl ?_
  refine o_aloadN X1 hx (hb hby d4_6) rfl rfl ?_
  refine o_iconst X1 hx (0 : Int32) (hb hby d4_7) rfl ?_
  refine o_iloadN X1 hx (hb hby d4_8) rfl ?_
  obtain ⟨_, _, ⟨T2, L2, kc2, n2⟩, -, X2, ⟨Lc2, hQ2, l2, y2, z2⟩, st2⟩ := Jvm.LawKit.callS X1 hx (y := yM2) hown (mvT hZ w122) (mvT hZ w123) (mvT hZ w120) (mvT hZ w124) (by decide) (backOf (W := 0) (rm_cmp5_1 l Z a0 hw []  ca_ kc_ b1 k1 c0_ T1.heap n0 (O0.ext E1) (pr0.ext E1) V1 (Nat.ne_of_lt (Nat.lt_of_lt_of_le (Nat.lt_of_lt_of_le pr0.lt (Nat.le_refl _)) (Nat.le_of_eq g1.symm))) n0_b1 pr1) hZ w124 w120 (by decide) (by decide)) (g := (mkF m 9 #[.val (.ref ca_), .val (.int (0 : Int32)), .val (.int (1 : Int32)), .val (.ref b1), .unset, .unset] [(.int (1 : Int32)), (.int (0 : Int32)), (.ref b1), (.int (0 : Int32)), (.ref ca_)])) rfl (by rw [hml]; rfl) (argsL := [(.ref ca_), (.int (0 : Int32)), (.ref b1), (.int (0 : Int32)), (.int (1 : Int32))]) (rest := []) (lenOf own_pd1 rfl) rfl (by show 2 * 0 + _ ≤ _; exact Nat.le_of_eq rfl) (hb hby d4_9) (fun _ _ => ⟨rfl, rfl, (by decide : 1 + 0 ≤ _), (by decide : 1 + 0 ≤ _)⟩)
  dsimp only [Pt.U, Pt.locs, Pt.cells, Pt.slots] at X2 l2 y2 z2 st2 hQ2
  subst l2 y2 z2
  obtain ⟨rfl, Nq2, K2, p2_0⟩ := hQ2
  have N2 := Fr.app N0 Nq2
  refine ogo (S' := T2.setTop (mkF m 12 #[.val (.ref ca_), .val (.int (0 : Int32)), .val (.int (1 : Int32)), .val (.ref b1), .unset, .unset] [(.int (1 : Int32))])) st2 ?_
  refine o_istore X2 hx (l' := #[.val (.ref ca_), .val (.int (0 : Int32)), .val (.int (1 : Int32)), .val (.ref b1), .val (.int (1 : Int32)), .unset]) (hb hby d4_12) rfl ?_
  refine o_iload X2 hx (hb hby d4_14) rfl ?_
  refine o_iloadN X2 hx (hb hby d4_16) rfl ?_
  refine o_icmpYes X2 hx 57 (hb hby d4_17) (teq (by decide : (1 : Int32) = (1 : Int32))).1 (by decide) (by decide) ?_
  refine o_aloadN X2 hx (hb hby d4_57) rfl rfl ?_
  refine oend X2 hlk (v := some (.ref b1)) (fun h => by rw [hret] at h; cases h) (fun fs hr => retOut X2 hx (t := (.array .byte)) (i := .areturn) hret rfl (Or.inr (Or.inr (Or.inr (Or.inr ⟨rfl, rfl, rfl⟩)))) (hb hby d4_58) hr) (by decide) (by decide) ?_
  show own_Q_cmp3_1 Z _ _ _ h0 n0 _ T2.heap _
  exact ⟨b1, k1, rfl, N2, (((Keep.refl h0 []).ext E1).trans K2 (allS (Or.inr (Nat.le_trans (Nat.le_refl _) (Nat.le_of_eq g1.symm))) all0)), (Nat.le_trans (Nat.le_refl _) (Nat.le_of_eq g1.symm)), p2_0⟩
theorem d5_0 : decode jdk_52_method_15_code 0 = .ok (.iload_n 1, 1) := by decide +kernel
theorem d5_1 : decode jdk_52_method_15_code 1 = .ok (.aload_n 0, 1) := by decide +kernel
theorem d5_2 : decode jdk_52_method_15_code 2 = .ok (.arraylength, 1) := by decide +kernel
theorem d5_3 : decode jdk_52_method_15_code 3 = .ok (.isub, 1) := by decide +kernel
theorem d5_4 : decode jdk_52_method_15_code 4 = .ok (.bipush 31, 2) := by decide +kernel
theorem d5_6 : decode jdk_52_method_15_code 6 = .ok (.iushr, 1) := by decide +kernel
theorem d5_7 : decode jdk_52_method_15_code 7 = .ok (.i2b, 1) := by decide +kernel
theorem d5_8 : decode jdk_52_method_15_code 8 = .ok (.ireturn, 1) := by decide +kernel
def own_Q_codl_1 (Z : State)  (ba_ : Addr) (kb_ : ClassId) (vs_ : List Value) (h0 : Heap) (n0 : Nat) (v : Option Value) (h : Heap) (L : List Loc) : Prop := (v = some (.int (0 : Int32))) ∧ (Fr n0 L) ∧ (h = h0)
abbrev yM4 : MethodName := ⟨"java/lang/StringUTF16", "coderFromArrayLen", "([BI)B"⟩
set_option maxRecDepth 65536 in
set_option maxHeartbeats 40000000 in
theorem rm_codl_1 (l : Launch) (Z : State) (a0 : Array Value) (hw : ∀ d ∈ tables_1, d.before a0 Z = true) (ws : List Jvm.Cond)  (ba_ : Addr) (kb_ : ClassId) (vs_ : List Value) (h0 : Heap) (n0 : Nat) (O0 : Old Z n0 h0) (pr0 : Arv Z h0 ba_ kb_ .byte (1 : Int32) vs_ (.int 0)) :
    oMet l Z yM4 jdk_52_method_15_code 2 (some .byte) ws ({ frames := 0, cells := 0, slots := 0, locals := 0 } : Room) 0 0 #[(.ref ba_), (.int (1 : Int32))] h0 (own_Q_codl_1 Z  ba_ kb_ vs_ h0 n0) := by
  refine oenter own_pn1 #[.val (.ref ba_), .val (.int (1 : Int32))] (fun m => by first | (simp [entryFrame, mkF, argsToLocals, Value.category]; done) | rfl) ?_
  intro p e s m below meth c s₁ X0 hx hZ hby hml hret hown0 hnm hlk e0
  have hown : s.vm.findClass "java/lang/StringUTF16" = some m.cls := hown0
  have N0 := Fr.nil n0
  refine o_iloadN X0 hx (hb hby d5_0) rfl ?_
  refine o_aloadN X0 hx (hb hby d5_1) rfl rfl ?_
  obtain ⟨cl1, Ar1, -, S1, N1z, -, -⟩ := (id pr0)
  refine ogo (S' := s₁.setTop (mkF m 3 #[.val (.ref ba_), .val (.int (1 : Int32))] [(.int (1 : Int32)), (.int (1 : Int32))])) (fun _ kt_ => X0.arraylength hx (by rw [e0]; exact Ar1.1) (State.isArrayOf_alike hZ.alike Ar1.2.1) (g := (mkF m 2 #[.val (.ref ba_), .val (.int (1 : Int32))] [(.ref ba_), (.int (1 : Int32))])) rfl rfl (hb hby d5_2) _ (by rw [len_of S1 N1z]; exact kt_)) ?_
  refine o_isub X0 hx (hb hby d5_3) ?_
  refine o_bipush X0 hx (31 : Int32) (hb hby d5_4) rfl ?_
  refine o_iushr X0 hx (hb hby d5_6) ?_
  refine o_i2b X0 hx (hb hby d5_7) ?_
  refine oend X0 hlk (v := some (.int (0 : Int32))) (fun h => by rw [hret] at h; cases h) (fun fs hr => retN X0 hx (t := .byte) hret (by simp) (hb hby d5_8) hr) (by decide) (by decide) ?_
  show own_Q_codl_1 Z _ _ _ h0 n0 _ s₁.heap _
  rw [e0]
  exact ⟨rfl, N0, rfl⟩
theorem own_pd2 : parseMethodDescriptor "([CII)[B" = some ⟨[(.array .char), .int, .int], some (.array .byte)⟩ := by decide +kernel
theorem own_pd3 : parseMethodDescriptor "([BI)B" = some ⟨[(.array .byte), .int], some .byte⟩ := by decide +kernel
theorem d1_27 : decode jdk_42_method_149_code 27 = .ok (.getstatic 38, 3) := by decide +kernel
theorem d1_30 : decode jdk_42_method_149_code 30 = .ok (.ifCond .eq 28, 3) := by decide +kernel
theorem d1_33 : decode jdk_42_method_149_code 33 = .ok (.aload_n 1, 1) := by decide +kernel
theorem d1_34 : decode jdk_42_method_149_code 34 = .ok (.iload_n 2, 1) := by decide +kernel
theorem d1_35 : decode jdk_42_method_149_code 35 = .ok (.iload_n 3, 1) := by decide +kernel
theorem d1_36 : decode jdk_42_method_149_code 36 = .ok (.invokestatic 177, 3) := by decide +kernel
theorem d1_39 : decode jdk_42_method_149_code 39 = .ok (.astore 5, 2) := by decide +kernel
theorem d1_41 : decode jdk_42_method_149_code 41 = .ok (.aload_n 0, 1) := by decide +kernel
theorem d1_42 : decode jdk_42_method_149_code 42 = .ok (.aload 5, 2) := by decide +kernel
theorem d1_44 : decode jdk_42_method_149_code 44 = .ok (.iload_n 3, 1) := by decide +kernel
theorem d1_45 : decode jdk_42_method_149_code 45 = .ok (.invokestatic 47, 3) := by decide +kernel
theorem d1_48 : decode jdk_42_method_149_code 48 = .ok (.putfield 15, 3) := by decide +kernel
theorem d1_51 : decode jdk_42_method_149_code 51 = .ok (.aload_n 0, 1) := by decide +kernel
theorem d1_52 : decode jdk_42_method_149_code 52 = .ok (.aload 5, 2) := by decide +kernel
theorem d1_54 : decode jdk_42_method_149_code 54 = .ok (.putfield 9, 3) := by decide +kernel
theorem d1_57 : decode jdk_42_method_149_code 57 = .ok (.return_, 1) := by decide +kernel
def own_Q_new4_1 (Z : State) (z_CS : Int32) (v_FMT : Value) (s_EMPTY : Addr) (x_ : Addr) (ca_ : Addr) (kc_ : ClassId) (c0_ : Int32) (h0 : Heap) (n0 : Nat) (v : Option Value) (h : Heap) (L : List Loc) : Prop := ∃ ba_ : Addr, ∃ kb_ : ClassId, (v = none) ∧ (Fr n0 L) ∧ (Keep h0 h [x_]) ∧ (h0.size ≤ ba_) ∧ (Arv Z h ba_ kb_ .byte (1 : Int32) [(.int c0_.toInt8.toInt32)] (.int 0)) ∧ (Exa Z h x_ "java/lang/String") ∧ (Fld Z h x_ "java/lang/String" "value" "[B" (.ref ba_)) ∧ (Fld Z h x_ "java/lang/String" "coder" "B" (.int (0 : Int32)))
set_option maxRecDepth 65536 in
set_option maxHeartbeats 40000000 in
theorem rm_new4_1 (l : Launch) (Z : State) (a0 : Array Value) (hw : ∀ d ∈ tables_1, d.before a0 Z = true) (ws : List Jvm.Cond) (z_CS : Int32) (v_FMT : Value) (s_EMPTY : Addr) (x_ : Addr) (ca_ : Addr) (kc_ : ClassId) (c0_ : Int32) (h0 : Heap) (n0 : Nat) (SB : own_Start Z z_CS v_FMT s_EMPTY) (O0 : Old Z n0 h0) (pr0 : Exa Z h0 x_ "java/lang/String") (pr1 : Fld Z h0 x_ "java/lang/String" "value" "[B" .null) (pr2 : Fld Z h0 x_ "java/lang/String" "coder" "B" (.int (0 : Int32))) (pr3 : Arv Z h0 ca_ kc_ .char (1 : Int32) [(.int c0_)] (.int 0)) (pr4 : n0 ≤ x_) (pr5 : ¬ ((255 : Int32) < c0_)) :
    oMet l Z yM0 jdk_42_method_149_code 6 none ws ({ frames := 2, cells := 1, slots := 1, locals := 35 } : Room) 1 1 #[(.ref x_), (.ref ca_), (.int (0 : Int32)), (.int (1 : Int32)), .null] h0 (own_Q_new4_1 Z z_CS v_FMT s_EMPTY x_ ca_ kc_ c0_ h0 n0) := by
  refine oenter own_pn0 #[.val (.ref x_), .val (.ref ca_), .val (.int (0 : Int32)), .val (.int (1 : Int32)), .val .null, .unset] (fun m => by first | (simp [entryFrame, mkF, argsToLocals, Value.category]; done) | rfl) ?_
  intro p e s m below meth c s₁ X0 hx hZ hby hml hret hown0 hnm hlk e0
  have hown : s.vm.findClass "java/lang/String" = some m.cls := hown0
  have N0 := Fr.nil n0
  obtain ⟨S_CS, H_CS, S_FMT, R_FMT, S_EMPTY, E_EMPTY, F_EMPTY⟩ := (id SB)
  have w5 := hw _ (List.mem_of_getElem? (i := 5) rfl)
  have w15 := hw _ (List.mem_of_getElem? (i := 15) rfl)
  have w16 := hw _ (List.mem_of_getElem? (i := 16) rfl)
  have w17 := hw _ (List.mem_of_getElem? (i := 17) rfl)
  have w20 := hw _ (List.mem_of_getElem? (i := 20) rfl)
  have w21 := hw _ (List.mem_of_getElem? (i := 21) rfl)
  have w24 := hw _ (List.mem_of_getElem? (i := 24) rfl)
  have w25 := hw _ (List.mem_of_getElem? (i := 25) rfl)
  have w97 := hw _ (List.mem_of_getElem? (i := 97) rfl)
  have w118 := hw _ (List.mem_of_getElem? (i := 118) rfl)
  have w119 := hw _ (List.mem_of_getElem? (i := 119) rfl)
  have w120 := hw _ (List.mem_of_getElem? (i := 120) rfl)
  have w121 := hw _ (List.mem_of_getElem? (i := 121) rfl)
  have w125 := hw _ (List.mem_of_getElem? (i := 125) rfl)
  have w126 := hw _ (List.mem_of_getElem? (i := 126) rfl)
  have w127 := hw _ (List.mem_of_getElem? (i := 127) rfl)
  refine o_aloadN X0 hx (hb hby d1_0) rfl rfl ?_
  obtain ⟨T1, X1, e1, st1⟩ := initO X0 hx hZ hown w15 w16 w17 e0 (g := (mkF m 1 #[.val (.ref x_), .val (.ref ca_), .val (.int (0 : Int32)), .val (.int (1 : Int32)), .val .null, .unset] [(.ref x_)])) rfl (by rw [hml]; rfl) rfl (hb hby d1_1) (by decide) (W := 0) (by show 2 * 0 + _ ≤ _; exact Nat.le_of_eq rfl) (by decide)
  refine ogo (S' := T1.setTop (mkF m 4 #[.val (.ref x_), .val (.ref ca_), .val (.int (0 : Int32)), .val (.int (1 : Int32)), .val .null, .unset] [])) st1 ?_
  refine o_iloadN X1 hx (hb hby d1_4) rfl ?_
  refine o_ifYes X1 hx 27 (hb hby d1_5) (feq (by decide : ¬ ((1 : Int32) = (0 : Int32)))).2 (by decide) (by decide) ?_
  obtain ⟨T2, X2, e2, st2⟩ := getS2 X1 hx hZ hown (host := "") (Or.inl w97) Via.refl e1 (Sta.ext O0.2 S_CS) (g := (mkF m 27 #[.val (.ref x_), .val (.ref ca_), .val (.int (0 : Int32)), .val (.int (1 : Int32)), .val .null, .unset] [])) rfl (hb hby d1_27)
  refine ogo (S' := T2.setTop (mkF m 30 #[.val (.ref x_), .val (.ref ca_), .val (.int (0 : Int32)), .val (.int (1 : Int32)), .val .null, .unset] [(.int z_CS)])) st2 ?_
  refine o_ifNo X2 hx (hb hby d1_30) (feq H_CS).1 ?_
  refine o_aloadN X2 hx (hb hby d1_33) rfl rfl ?_
  refine o_iloadN X2 hx (hb hby d1_34) rfl ?_
  refine o_iloadN X2 hx (hb hby d1_35) rfl ?_
  obtain ⟨_, _, ⟨T3, L3, kc3, n3⟩, -, X3, ⟨Lc3, hQ3, l3, y3, z3⟩, st3⟩ := Jvm.LawKit.callS X2 hx (y := yM3) hown (mvT hZ w118) (mvT hZ w119) (mvT hZ w120) (mvT hZ w121) (by decide) (backOf (W := 0) (rm_cmp3_1 l Z a0 hw []  ca_ kc_ c0_ h0 n0 O0 pr3 pr5) hZ w121 w120 (by decide) (by decide)) (g := (mkF m 36 #[.val (.ref x_), .val (.ref ca_), .val (.int (0 : Int32)), .val (.int (1 : Int32)), .val .null, .unset] [(.int (1 : Int32)), (.int (0 : Int32)), (.ref ca_)])) rfl (by rw [hml]; rfl) (argsL := [(.ref ca_), (.int (0 : Int32)), (.int (1 : Int32))]) (rest := []) (lenOf own_pd2 rfl) rfl (by show 2 * 0 + _ ≤ _; exact Nat.le_of_eq rfl) (hb hby d1_36) (fun _ _ => ⟨rfl, e2, (by decide : 0 + 1 ≤ _), (by decide : 0 + 1 ≤ _)⟩)
  dsimp only [Pt.U, Pt.locs, Pt.cells, Pt.slots] at X3 l3 y3 z3 st3 hQ3
  subst l3 y3 z3
  obtain ⟨ba_3, kb_3, rfl, Nq3, K3, p3_0, p3_1⟩ := hQ3
  have N3 := Fr.app N0 Nq3
  have n0_ba_3 : n0 ≤ ba_3 := Nat.le_trans (Nat.le_trans (Nat.le_of_eq O0.1.symm) O0.2.1) (Nat.le_trans (Nat.le_refl _) p3_0)
  refine ogo (S' := T3.setTop (mkF m 39 #[.val (.ref x_), .val (.ref ca_), .val (.int (0 : Int32)), .val (.int (1 : Int32)), .val .null, .unset] [(.ref ba_3)])) st3 ?_
  refine o_astore X3 hx (l' := #[.val (.ref x_), .val (.ref ca_), .val (.int (0 : Int32)), .val (.int (1 : Int32)), .val .null, .val (.ref ba_3)]) (hb hby d1_39) rfl rfl ?_
  refine o_aloadN X3 hx (hb hby d1_41) rfl rfl ?_
  refine o_aload X3 hx (hb hby d1_42) rfl rfl ?_
  refine o_iloadN X3 hx (hb hby d1_44) rfl ?_
  obtain ⟨_, _, ⟨T4, L4, kc4, n4⟩, -, X4, ⟨Lc4, hQ4, l4, y4, z4⟩, st4⟩ := Jvm.LawKit.callS X3 hx (y := yM4) hown (mvT hZ w125) (mvT hZ w126) (mvT hZ w120) (mvT hZ w127) (by decide) (backOf (W := 1) (rm_codl_1 l Z a0 hw []  ba_3 kb_3 [(.int c0_.toInt8.toInt32)] T3.heap n0 (O0.keep K3 all0) p3_1) hZ w127 w120 (by decide) (by decide)) (g := (mkF m 45 #[.val (.ref x_), .val (.ref ca_), .val (.int (0 : Int32)), .val (.int (1 : Int32)), .val .null, .val (.ref ba_3)] [(.int (1 : Int32)), (.ref ba_3), (.ref x_)])) rfl (by rw [hml]; rfl) (argsL := [(.ref ba_3), (.int (1 : Int32))]) (rest := [(.ref x_)]) (lenOf own_pd3 rfl) rfl (by show 2 * 0 + _ ≤ _; exact Nat.le_of_eq rfl) (hb hby d1_45) (fun _ _ => ⟨rfl, rfl, (by decide : 1 + 0 ≤ _), (by decide : 1 + 0 ≤ _)⟩)
  dsimp only [Pt.U, Pt.locs, Pt.cells, Pt.slots] at X4 l4 y4 z4 st4 hQ4
  subst l4 y4 z4
  obtain ⟨rfl, Nq4, e4⟩ := hQ4
  have N4 := Fr.app N3 Nq4
  refine ogo (S' := T4.setTop (mkF m 48 #[.val (.ref x_), .val (.ref ca_), .val (.int (0 : Int32)), .val (.int (1 : Int32)), .val .null, .val (.ref ba_3)] [(.int (0 : Int32)), (.ref x_)])) st4 ?_
  obtain ⟨T5, _, X5, rfl, W5, st5⟩ := putFN X4 hx hZ hown w25 Via.refl e4 (pr2.keep K3 nin0) (pr0.keep K3) (Or.inr ⟨w21, rfl, hnm⟩) w5 (ty := .byte) (v' := (.int (0 : Int32))) (by decide) rfl (by decide) (g := (mkF m 48 #[.val (.ref x_), .val (.ref ca_), .val (.int (0 : Int32)), .val (.int (1 : Int32)), .val .null, .val (.ref ba_3)] [(.int (0 : Int32)), (.ref x_)])) rfl rfl (hb hby d1_48)
  have N5 := Fr.snoc X5 N4 pr4
  have F5 := Fld.same W5 (pr2.keep K3 nin0)
  refine ogo (S' := T5.setTop (mkF m 51 #[.val (.ref x_), .val (.ref ca_), .val (.int (0 : Int32)), .val (.int (1 : Int32)), .val .null, .val (.ref ba_3)] [])) st5 ?_
  refine o_aloadN X5 hx (hb hby d1_51) rfl rfl ?_
  refine o_aload X5 hx (hb hby d1_52) rfl rfl ?_
  have c7 := (Fld.other W5 (pr1.keep K3 nin0) (Or.inr (slot_ne (Or.inr w20) (Or.inr w21) (by decide) (t := (.array .byte)) (t' := .byte) (by decide) (by decide))))
  obtain ⟨T6, _, X6, rfl, W6, st6⟩ := putF X5 hx hZ hown (host := "") (Or.inl w24) Via.refl rfl c7 (Exa.wr W5 (pr0.keep K3)) (Or.inr ⟨w20, rfl, hnm⟩) w5 (ty := (.array .byte)) (by decide) rfl rfl (g := (mkF m 54 #[.val (.ref x_), .val (.ref ca_), .val (.int (0 : Int32)), .val (.int (1 : Int32)), .val .null, .val (.ref ba_3)] [(.ref ba_3), (.ref x_)])) rfl rfl (hb hby d1_54)
  have N6 := Fr.snoc X6 N5 pr4
  have F6 := Fld.same W6 c7
  refine ogo (S' := T6.setTop (mkF m 57 #[.val (.ref x_), .val (.ref ca_), .val (.int (0 : Int32)), .val (.int (1 : Int32)), .val .null, .val (.ref ba_3)] [])) st6 ?_
  have c8 := ((p3_1.other W5 (Nat.ne_of_gt (Nat.lt_of_lt_of_le (Nat.lt_of_lt_of_le pr0.lt (Nat.le_refl _)) p3_0))).other W6 (Nat.ne_of_gt (Nat.lt_of_lt_of_le (Nat.lt_of_lt_of_le pr0.lt (Nat.le_refl _)) p3_0)))
  have c9 := (Fld.other W6 F5 (Or.inr (slot_ne (Or.inr w21) (Or.inr w20) (by decide) (t := .byte) (t' := (.array .byte)) (by decide) (by decide))))
  refine oend X6 hlk (v := none) (fun _ => rfl) (fun fs hr => X6.returnOut hx hret (hb hby d1_57) hr) (by decide) (by decide) ?_
  show own_Q_new4_1 Z _ _ _ _ _ _ _ h0 n0 _ T6.heap _
  exact ⟨ba_3, kb_3, rfl, N6, ((((Keep.refl h0 [x_]).trans K3 all0).wr W5 (Or.inl (List.mem_of_getElem? (i := 0) rfl))).wr W6 (Or.inl (List.mem_of_getElem? (i := 0) rfl))), (Nat.le_trans (Nat.le_refl _) p3_0), c8, (Exa.wr W6 (Exa.wr W5 (pr0.keep K3))), F6, c9⟩
def own_Q_new1_1 (Z : State) (z_CS : Int32) (v_FMT : Value) (s_EMPTY : Addr) (x_ : Addr) (ca_ : Addr) (kc_ : ClassId) (c0_ : Int32) (h0 : Heap) (n0 : Nat) (v : Option Value) (h : Heap) (L : List Loc) : Prop := ∃ ba_ : Addr, ∃ kb_ : ClassId, (v = none) ∧ (Fr n0 L) ∧ (Keep h0 h [x_]) ∧ (h0.size ≤ ba_) ∧ (Arv Z h ba_ kb_ .byte (1 : Int32) [(.int c0_.toInt8.toInt32)] (.int 0)) ∧ (Exa Z h x_ "java/lang/String") ∧ (Fld Z h x_ "java/lang/String" "value" "[B" (.ref ba_)) ∧ (Fld Z h x_ "java/lang/String" "coder" "B" (.int (0 : Int32)))
set_option maxRecDepth 65536 in
set_option maxHeartbeats 40000000 in
theorem rm_new1_1 (l : Launch) (Z : State) (a0 : Array Value) (hw : ∀ d ∈ tables_1, d.before a0 Z = true) (ws : List Jvm.Cond) (z_CS : Int32) (v_FMT : Value) (s_EMPTY : Addr) (x_ : Addr) (ca_ : Addr) (kc_ : ClassId) (c0_ : Int32) (h0 : Heap) (n0 : Nat) (SB : own_Start Z z_CS v_FMT s_EMPTY) (O0 : Old Z n0 h0) (pr0 : Exa Z h0 x_ "java/lang/String") (pr1 : Fld Z h0 x_ "java/lang/String" "value" "[B" .null) (pr2 : Fld Z h0 x_ "java/lang/String" "coder" "B" (.int (0 : Int32))) (pr3 : Arv Z h0 ca_ kc_ .char (1 : Int32) [(.int c0_)] (.int 0)) (pr4 : n0 ≤ x_) (pr5 : ¬ ((255 : Int32) < c0_)) :
    oMet l Z yM1 jdk_42_method_3_code 2 none ws ({ frames := 3, cells := 1, slots := 1, locals := 52 } : Room) 1 1 #[(.ref x_), (.ref ca_)] h0 (own_Q_new1_1 Z z_CS v_FMT s_EMPTY x_ ca_ kc_ c0_ h0 n0) := by
  refine oenter own_pn0 #[.val (.ref x_), .val (.ref ca_)] (fun m => by first | (simp [entryFrame, mkF, argsToLocals, Value.category]; done) | rfl) ?_
  intro p e s m below meth c s₁ X0 hx hZ hby hml hret hown0 hnm hlk e0
  have hown : s.vm.findClass "java/lang/String" = some m.cls := hown0
  have N0 := Fr.nil n0
  obtain ⟨S_CS, H_CS, S_FMT, R_FMT, S_EMPTY, E_EMPTY, F_EMPTY⟩ := (id SB)
  have w6 := hw _ (List.mem_of_getElem? (i := 6) rfl)
  have w11 := hw _ (List.mem_of_getElem? (i := 11) rfl)
  have w12 := hw _ (List.mem_of_getElem? (i := 12) rfl)
  have w14 := hw _ (List.mem_of_getElem? (i := 14) rfl)
  refine o_aloadN X0 hx (hb hby d2_0) rfl rfl ?_
  refine o_aloadN X0 hx (hb hby d2_1) rfl rfl ?_
  refine o_iconst X0 hx (0 : Int32) (hb hby d2_2) rfl ?_
  refine o_aloadN X0 hx (hb hby d2_3) rfl rfl ?_
  obtain ⟨cl1, Ar1, -, S1, N1z, -, -⟩ := (id pr3)
  refine ogo (S' := s₁.setTop (mkF m 5 #[.val (.ref x_), .val (.ref ca_)] [(.int (1 : Int32)), (.int (0 : Int32)), (.ref ca_), (.ref x_)])) (fun _ kt_ => X0.arraylength hx (by rw [e0]; exact Ar1.1) (State.isArrayOf_alike hZ.alike Ar1.2.1) (g := (mkF m 4 #[.val (.ref x_), .val (.ref ca_)] [(.ref ca_), (.int (0 : Int32)), (.ref ca_), (.ref x_)])) rfl rfl (hb hby d2_4) _ (by rw [len_of S1 N1z]; exact kt_)) ?_
  refine o_aconst_null X0 hx (hb hby d2_5) ?_
  obtain ⟨_, _, ⟨T2, L2, kc2, n2⟩, -, X2, ⟨Lc2, hQ2, l2, y2, z2⟩, st2⟩ := X0.specialBack hx (y := yM0) rfl hown (mvT hZ w11) (mvT hZ w12) (mvT hZ w14) (by decide) (backOf (W := 0) (rm_new4_1 l Z a0 hw [] z_CS v_FMT s_EMPTY x_ ca_ kc_ c0_ h0 n0 SB O0 pr0 pr1 pr2 pr3 pr4 pr5) hZ w14 w6 (by decide) (by decide)) (g := (mkF m 6 #[.val (.ref x_), .val (.ref ca_)] [.null, (.int (1 : Int32)), (.int (0 : Int32)), (.ref ca_), (.ref x_)])) rfl (by rw [hml]; rfl) (Steps.refl _) (a := x_) (argsL := [(.ref ca_), (.int (0 : Int32)), (.int (1 : Int32)), .null]) (rest := []) (lenOf own_pd0 rfl) rfl (by show 2 * 0 + _ ≤ _; exact Nat.le_of_eq rfl) (hb hby d2_6) (fun _ _ => ⟨rfl, e0, (by decide : 0 + 1 ≤ _), (by decide : 0 + 1 ≤ _)⟩)
  dsimp only [Pt.U, Pt.locs, Pt.cells, Pt.slots] at X2 l2 y2 z2 st2 hQ2
  subst l2 y2 z2
  obtain ⟨ba_2, kb_2, rfl, Nq2, K2, p2_0, p2_1, p2_2, p2_3, p2_4⟩ := hQ2
  have N2 := Fr.app N0 Nq2
  have n0_ba_2 : n0 ≤ ba_2 := Nat.le_trans (Nat.le_trans (Nat.le_of_eq O0.1.symm) O0.2.1) (Nat.le_trans (Nat.le_refl _) p2_0)
  refine otr (S' := T2.setTop (mkF m 9 #[.val (.ref x_), .val (.ref ca_)] [])) st2 ?_
  refine oend X2 hlk (v := none) (fun _ => rfl) (fun fs hr => X2.returnOut hx hret (hb hby d2_9) hr) (by decide) (by decide) ?_
  show own_Q_new1_1 Z _ _ _ _ _ _ _ h0 n0 _ T2.heap _
  exact ⟨ba_2, kb_2, rfl, N2, ((Keep.refl h0 [x_]).trans K2 (allS (Or.inl (List.mem_of_getElem? (i := 0) rfl)) all0)), (Nat.le_trans (Nat.le_refl _) p2_0), p2_1, p2_2, p2_3, p2_4⟩
def own_Q_cmp5_2 (Z : State)  (ca_ : Addr) (kc_ : ClassId) (ba_ : Addr) (kb_ : ClassId) (c0_ : Int32) (c1_ : Int32) (h0 : Heap) (n0 : Nat) (v : Option Value) (h : Heap) (L : List Loc) : Prop := (v = some (.int (2 : Int32))) ∧ (Fr n0 L) ∧ (Keep h0 h [ba_]) ∧ (Arv Z h ba_ kb_ .byte (2 : Int32) [(.int c0_.toInt8.toInt32), (.int c1_.toInt8.toInt32)] (.int 0))
set_option maxRecDepth 65536 in
set_option maxHeartbeats 40000000 in
theorem rm_cmp5_2 (l : Launch) (Z : State) (a0 : Array Value) (hw : ∀ d ∈ tables_1, d.before a0 Z = true) (ws : List Jvm.Cond)  (ca_ : Addr) (kc_ : ClassId) (ba_ : Addr) (kb_ : ClassId) (c0_ : Int32) (c1_ : Int32) (h0 : Heap) (n0 : Nat) (O0 : Old Z n0 h0) (pr0 : Arv Z h0 ca_ kc_ .char (2 : Int32) [(.int c0_), (.int c1_)] (.int 0)) (pr1 : Arv Z h0 ba_ kb_ .byte (2 : Int32) [(.int 0), (.int 0)] (.int 0)) (pr2 : ca_ ≠ ba_) (pr3 : n0 ≤ ba_) (pr4 : ¬ ((255 : Int32) < c0_)) (pr5 : ¬ ((255 : Int32) < c1_)) :
    oMet l Z yM2 jdk_52_method_21_code 7 (some .int) ws ({ frames := 0, cells := 0, slots := 0, locals := 0 } : Room) 0 0 #[(.ref ca_), (.int (0 : Int32)), (.ref ba_), (.int (0 : Int32)), (.int (2 : Int32))] h0 (own_Q_cmp5_2 Z  ca_ kc_ ba_ kb_ c0_ c1_ h0 n0) := by
  refine oenter own_pn1 #[.val (.ref ca_), .val (.int (0 : Int32)), .val (.ref ba_), .val (.int (0 : Int32)), .val (.int (2 : Int32)), .unset, .unset] (fun m => by first | (simp [entryFrame, mkF, argsToLocals, Value.category]; done) | rfl) ?_
  intro p e s m below meth c s₁ X0 hx hZ hby hml hret hown0 hnm hlk e0
  have hown : s.vm.findClass "java/lang/StringUTF16" = some m.cls := hown0
  have N0 := Fr.nil n0
  refine o_iconst X0 hx (0 : Int32) (hb hby d3_0) rfl ?_
  refine o_istore X0 hx (l' := #[.val (.ref ca_), .val (.int (0 : Int32)), .val (.ref ba_), .val (.int (0 : Int32)), .val (.int (2 : Int32)), .val (.int (0 : Int32)), .unset]) (hb hby d3_1) rfl ?_
  refine o_iload X0 hx (hb hby d3_3) rfl ?_
  refine o_iload X0 hx (hb hby d3_5) rfl ?_
  refine o_icmpNo X0 hx (hb hby d3_7) (tlt (by decide : (0 : Int32) < (2 : Int32))).2.1 ?_
  refine o_aloadN X0 hx (hb hby d3_10) rfl rfl ?_
  refine o_iloadN X0 hx (hb hby d3_11) rfl ?_
  obtain ⟨cl1, Ar1, q1, S1, N1z, H1, G1⟩ := (id pr0)
  have hi1 := inb_of (j := (0 : Int32)) S1 ⟨by decide, by decide⟩
  have ha1 := Has.at (v := (.int c0_)) H1 hi1 rfl
  refine ogo (S' := s₁.setTop (mkF m 13 #[.val (.ref ca_), .val (.int (0 : Int32)), .val (.ref ba_), .val (.int (0 : Int32)), .val (.int (2 : Int32)), .val (.int (0 : Int32)), .unset] [(.int c0_)])) (X0.caload hx (j := (0 : Int32)) (v := (.int c0_)) (by rw [e0]; exact Ar1.1) (State.isArrayOf_alike hZ.alike Ar1.2.1) Ar1.2.2 hi1 ha1 (g := (mkF m 12 #[.val (.ref ca_), .val (.int (0 : Int32)), .val (.ref ba_), .val (.int (0 : Int32)), .val (.int (2 : Int32)), .val (.int (0 : Int32)), .unset] [(.int (0 : Int32)), (.ref ca_)])) rfl rfl (hb hby d3_12)) ?_
  refine o_istore X0 hx (l' := #[.val (.ref ca_), .val (.int (0 : Int32)), .val (.ref ba_), .val (.int (0 : Int32)), .val (.int (2 : Int32)), .val (.int (0 : Int32)), .val (.int c0_)]) (hb hby d3_13) rfl ?_
  refine o_iload X0 hx (hb hby d3_15) rfl ?_
  refine o_sipush X0 hx (255 : Int32) (hb hby d3_17) rfl ?_
  refine o_icmpYes X0 hx 26 (hb hby d3_20) (flt pr4).2.2.2 (by decide) (by decide) ?_
  refine o_aloadN X0 hx (hb hby d3_26) rfl rfl ?_
  refine o_iloadN X0 hx (hb hby d3_27) rfl ?_
  refine o_iload X0 hx (hb hby d3_28) rfl ?_
  refine o_i2b X0 hx (hb hby d3_30) ?_
  obtain ⟨cl2, Ar2, q2, S2, N2z, H2, G2⟩ := (id pr1)
  obtain ⟨T2, _, X2, rfl, W2, st2⟩ := stB X0 hx hZ e0 Ar2 (j := (0 : Int32)) (inb_of S2 ⟨by decide, by decide⟩) (g := (mkF m 31 #[.val (.ref ca_), .val (.int (0 : Int32)), .val (.ref ba_), .val (.int (0 : Int32)), .val (.int (2 : Int32)), .val (.int (0 : Int32)), .val (.int c0_)] [(.int c0_.toInt8.toInt32), (.int (0 : Int32)), (.ref ba_)])) rfl rfl (hb hby d3_31)
  rw [own_narb] at W2
  have V2 : Arv Z T2.heap ba_ kb_ .byte (2 : Int32) [(.int c0_.toInt8.toInt32), (.int 0)] (.int 0) := Arv.set Ar2 q2 S2 N2z H2 G2 (fits_nar_byte _) W2 0 rfl (Nat.le_of_ble_eq_true rfl)
  have N2 := Fr.snoc X2 N0 pr3
  refine ogo (S' := T2.setTop (mkF m 32 #[.val (.ref ca_), .val (.int (0 : Int32)), .val (.ref ba_), .val (.int (0 : Int32)), .val (.int (2 : Int32)), .val (.int (0 : Int32)), .val (.int c0_)] [])) st2 ?_
  refine o_iinc X2 hx (l' := #[.val (.ref ca_), .val (.int (1 : Int32)), .val (.ref ba_), .val (.int (0 : Int32)), .val (.int (2 : Int32)), .val (.int (0 : Int32)), .val (.int c0_)]) (hb hby d3_32) rfl rfl ?_
  refine o_iinc X2 hx (l' := #[.val (.ref ca_), .val (.int (1 : Int32)), .val (.ref ba_), .val (.int (1 : Int32)), .val (.int (2 : Int32)), .val (.int (0 : Int32)), .val (.int c0_)]) (hb hby d3_35) rfl rfl ?_
  refine o_iinc X2 hx (l' := #[.val (.ref ca_), .val (.int (1 : Int32)), .val (.ref ba_), .val (.int (1 : Int32)), .val (.int (2 : Int32)), .val (.int (1 : Int32)), .val (.int c0_)]) (hb hby d3_38) rfl rfl ?_
  refine o_goto X2 hx 3 (hb hby d3_41) (by decide) (by decide) ?_
  refine o_iload X2 hx (hb hby d3_3) rfl ?_
  refine o_iload X2 hx (hb hby d3_5) rfl ?_
  refine o_icmpNo X2 hx (hb hby d3_7) (tlt (by decide : (1 : Int32) < (2 : Int32))).2.1 ?_
  refine o_aloadN X2 hx (hb hby d3_10) rfl rfl ?_
  refine o_iloadN X2 hx (hb hby d3_11) rfl ?_
  obtain ⟨cl3, Ar3, q3, S3, N3z, H3, G3⟩ := (id (pr0.other W2 pr2))
  have hi3 := inb_of (j := (1 : Int32)) S3 ⟨by decide, by decide⟩
  have ha3 := Has.at (v := (.int c1_)) H3 hi3 rfl
  refine ogo (S' := T2.setTop (mkF m 13 #[.val (.ref ca_), .val (.int (1 : Int32)), .val (.ref ba_), .val (.int (1 : Int32)), .val (.int (2 : Int32)), .val (.int (1 : Int32)), .val (.int c0_)] [(.int c1_)])) (X2.caload hx (j := (1 : Int32)) (v := (.int c1_)) Ar3.1 (State.isArrayOf_alike hZ.alike Ar3.2.1) Ar3.2.2 hi3 ha3 (g := (mkF m 12 #[.val (.ref ca_), .val (.int (1 : Int32)), .val (.ref ba_), .val (.int (1 : Int32)), .val (.int (2 : Int32)), .val (.int (1 : Int32)), .val (.int c0_)] [(.int (1 : Int32)), (.ref ca_)])) rfl rfl (hb hby d3_12)) ?_
  refine o_istore X2 hx (l' := #[.val (.ref ca_), .val (.int (1 : Int32)), .val (.ref ba_), .val (.int (1 : Int32)), .val (.int (2 : Int32)), .val (.int (1 : Int32)), .val (.int c1_)]) (hb hby d3_13) rfl ?_
  refine o_iload X2 hx (hb hby d3_15) rfl ?_
  refine o_sipush X2 hx (255 : Int32) (hb hby d3_17) rfl ?_
  refine o_icmpYes X2 hx 26 (hb hby d3_20) (flt pr5).2.2.2 (by decide) (by decide) ?_
  refine o_aloadN X2 hx (hb hby d3_26) rfl rfl ?_
  refine o_iloadN X2 hx (hb hby d3_27) rfl ?_
  refine o_iload X2 hx (hb hby d3_28) rfl ?_
  refine o_i2b X2 hx (hb hby d3_30) ?_
  obtain ⟨cl4, Ar4, q4, S4, N4z, H4, G4⟩ := (id V2)
  obtain ⟨T4, _, X4, rfl, W4, st4⟩ := stB X2 hx hZ rfl Ar4 (j := (1 : Int32)) (inb_of S4 ⟨by decide, by decide⟩) (g := (mkF m 31 #[.val (.ref ca_), .val (.int (1 : Int32)), .val (.ref ba_), .val (.int (1 : Int32)), .val (.int (2 : Int32)), .val (.int (1 : Int32)), .val (.int c1_)] [(.int c1_.toInt8.toInt32), (.int (1 : Int32)), (.ref ba_)])) rfl rfl (hb hby d3_31)
  rw [own_narb] at W4
  have V4 : Arv Z T4.heap ba_ kb_ .byte (2 : Int32) [(.int c0_.toInt8.toInt32), (.int c1_.toInt8.toInt32)] (.int 0) := Arv.set Ar4 q4 S4 N4z H4 G4 (fits_nar_byte _) W4 1 rfl (Nat.le_of_ble_eq_true rfl)
  have N4 := Fr.snoc X4 N2 pr3
  refine ogo (S' := T4.setTop (mkF m 32 #[.val (.ref ca_), .val (.int (1 : Int32)), .val (.ref ba_), .val (.int (1 : Int32)), .val (.int (2 : Int32)), .val (.int (1 : Int32)), .val (.int c1_)] [])) st4 ?_
  refine o_iinc X4 hx (l' := #[.val (.ref ca_), .val (.int (2 : Int32)), .val (.ref ba_), .val (.int (1 : Int32)), .val (.int (2 : Int32)), .val (.int (1 : Int32)), .val (.int c1_)]) (hb hby d3_32) rfl rfl ?_
  refine o_iinc X4 hx (l' := #[.val (.ref ca_), .val (.int (2 : Int32)), .val (.ref ba_), .val (.int (2 : Int32)), .val (.int (2 : Int32)), .val (.int (1 : Int32)), .val (.int c1_)]) (hb hby d3_35) rfl rfl ?_
  refine o_iinc X4 hx (l' := #[.val (.ref ca_), .val (.int (2 : Int32)), .val (.ref ba_), .val (.int (2 : Int32)), .val (.int (2 : Int32)), .val (.int (2 : Int32)), .val (.int c1_)]) (hb hby d3_38) rfl rfl ?_
  refine o_goto X4 hx 3 (hb hby d3_41) (by decide) (by decide) ?_
  refine o_iload X4 hx (hb hby d3_3) rfl ?_
  refine o_iload X4 hx (hb hby d3_5) rfl ?_
  refine o_icmpYes X4 hx 44 (hb hby d3_7) (flt (by decide : ¬ ((2 : Int32) < (2 : Int32)))).2.1 (by decide) (by decide) ?_
  refine o_iload X4 hx (hb hby d3_44) rfl ?_
  refine oend X4 hlk (v := some (.int (2 : Int32))) (fun h => by rw [hret] at h; cases h) (fun fs hr => retOut X4 hx (t := .int) (i := .ireturn) hret rfl (Or.inl ⟨rfl, Or.inl rfl, _, rfl⟩) (hb hby d3_46) hr) (by decide) (by decide) ?_
  show own_Q_cmp5_2 Z _ _ _ _ _ _ h0 n0 _ T4.heap _
  exact ⟨rfl, N4, (((Keep.refl h0 [ba_]).wr W2 (Or.inl (List.mem_of_getElem? (i := 0) rfl))).wr W4 (Or.inl (List.mem_of_getElem? (i := 0) rfl))), V4⟩
def own_Q_cmp3_2 (Z : State)  (ca_ : Addr) (kc_ : ClassId) (c0_ : Int32) (c1_ : Int32) (h0 : Heap) (n0 : Nat) (v : Option Value) (h : Heap) (L : List Loc) : Prop := ∃ ba_ : Addr, ∃ kb_ : ClassId, (v = some (.ref ba_)) ∧ (Fr n0 L) ∧ (Keep h0 h []) ∧ (h0.size ≤ ba_) ∧ (Arv Z h ba_ kb_ .byte (2 : Int32) [(.int c0_.toInt8.toInt32), (.int c1_.toInt8.toInt32)] (.int 0))
set_option maxRecDepth 65536 in
set_option maxHeartbeats 40000000 in
theorem rm_cmp3_2 (l : Launch) (Z : State) (a0 : Array Value) (hw : ∀ d ∈ tables_1, d.before a0 Z = true) (ws : List Jvm.Cond)  (ca_ : Addr) (kc_ : ClassId) (c0_ : Int32) (c1_ : Int32) (h0 : Heap) (n0 : Nat) (O0 : Old Z n0 h0) (pr0 : Arv Z h0 ca_ kc_ .char (2 : Int32) [(.int c0_), (.int c1_)] (.int 0)) (pr1 : ¬ ((255 : Int32) < c0_)) (pr2 : ¬ ((255 : Int32) < c1_)) :
    oMet l Z yM3 jdk_52_method_16_code 6 (some (.array .byte)) ws ({ frames := 1, cells := 1, slots := 2, locals := 18 } : Room) 1 2 #[(.ref ca_), (.int (0 : Int32)), (.int (2 : Int32))] h0 (own_Q_cmp3_2 Z  ca_ kc_ c0_ c1_ h0 n0) := by
  refine oenter own_pn1 #[.val (.ref ca_), .val (.int (0 : Int32)), .val (.int (2 : Int32)), .unset, .unset, .unset] (fun m => by first | (simp [entryFrame, mkF, argsToLocals, Value.category]; done) | rfl) ?_
  intro p e s m below meth c s₁ X0 hx hZ hby hml hret hown0 hnm hlk e0
  have hown : s.vm.findClass "java/lang/StringUTF16" = some m.cls := hown0
  have N0 := Fr.nil n0
  have w19 := hw _ (List.mem_of_getElem? (i := 19) rfl)
  have w120 := hw _ (List.mem_of_getElem? (i := 120) rfl)
  have w122 := hw _ (List.mem_of_getElem? (i := 122) rfl)
  have w123 := hw _ (List.mem_of_getElem? (i := 123) rfl)
  have w124 := hw _ (List.mem_of_getElem? (i := 124) rfl)
  refine o_iloadN X0 hx (hb hby d4_0) rfl ?_
  obtain ⟨T1, _, k1, X1, rfl, E1, A1, Ex1, st1⟩ := newPE (aty := .byte) X0 hx hZ w19 e0 (g := (mkF m 1 #[.val (.ref ca_), .val (.int (0 : Int32)), .val (.int (2 : Int32)), .unset, .unset, .unset] [(.int (2 : Int32))])) rfl (hb hby d4_1) rfl (by decide) (cap := 2) (by decide) (by decide) (by decide) (by decide) (ad := "[B") rfl
  obtain ⟨b1, g1⟩ : ∃ z, z = h0.size := ⟨_, rfl⟩
  rw [← g1] at A1 Ex1 st1
  have n0_b1 : n0 ≤ b1 := Nat.le_trans (Nat.le_trans (Nat.le_of_eq O0.1.symm) O0.2.1) (Nat.le_trans (Nat.le_refl _) (Nat.le_of_eq g1.symm))
  have V1 : Arv Z T1.heap b1 k1 .byte (2 : Int32) [(.int 0), (.int 0)] (.int 0) := (Arv.new A1 (by decide)).pad (pad_rep [] (.int 0) 2)
  refine ogo (S' := T1.setTop (mkF m 3 #[.val (.ref ca_), .val (.int (0 : Int32)), .val (.int (2 : Int32)), .unset, .unset, .unset] [(.ref b1)])) st1 ?_
  refine o_astoreN X1 hx (l' := #[.val (.ref ca_), .val (.int (0 : Int32)), .val (.int (2 : Int32)), .val (.ref b1), .unset, .unset]) (hb hby d4_3) rfl rfl ?_
  refine o_aloadN X1 hx (hb hby d4_4) rfl rfl ?_
  refine o_iloadN X1 hx (hb hby d4_5) rfl ?_
  refine o_aloadN X1 hx (hb hby d4_6) rfl rfl ?_
  refine o_iconst X1 hx (0 : Int32) (hb hby d4_7) rfl ?_
  refine o_iloadN X1 hx (hb hby d4_8) rfl ?_
  obtain ⟨_, _, ⟨T2, L2, kc2, n2⟩, -, X2, ⟨Lc2, hQ2, l2, y2, z2⟩, st2⟩ := Jvm.LawKit.callS X1 hx (y := yM2) hown (mvT hZ w122) (mvT hZ w123) (mvT hZ w120) (mvT hZ w124) (by decide) (backOf (W := 0) (rm_cmp5_2 l Z a0 hw []  ca_ kc_ b1 k1 c0_ c1_ T1.heap n0 (O0.ext E1) (pr0.ext E1) V1 (Nat.ne_of_lt (Nat.lt_of_lt_of_le (Nat.lt_of_lt_of_le pr0.lt (Nat.le_refl _)) (Nat.le_of_eq g1.symm))) n0_b1 pr1 pr2) hZ w124 w120 (by decide) (by decide)) (g := (mkF m 9 #[.val (.ref ca_), .val (.int (0 : Int32)), .val (.int (2 : Int32)), .val (.ref b1), .unset, .unset] [(.int (2 : Int32)), (.int (0 : Int32)), (.ref b1), (.int (0 : Int32)), (.ref ca_)])) rfl (by rw [hml]; rfl) (argsL := [(.ref ca_), (.int (0 : Int32)), (.ref b1), (.int (0 : Int32)), (.int (2 : Int32))]) (rest := []) (lenOf own_pd1 rfl) rfl (by show 2 * 0 + _ ≤ _; exact Nat.le_of_eq rfl) (hb hby d4_9) (fun _ _ => ⟨rfl, rfl, (by decide : 1 + 0 ≤ _), (by decide : 2 + 0 ≤ _)⟩)
  dsimp only [Pt.U, Pt.locs, Pt.cells, Pt.slots] at X2 l2 y2 z2 st2 hQ2
  subst l2 y2 z2
  obtain ⟨rfl, Nq2, K2, p2_0⟩ := hQ2
  have N2 := Fr.app N0 Nq2
  refine ogo (S' := T2.setTop (mkF m 12 #[.val (.ref ca_), .val (.int (0 : Int32)), .val (.int (2 : Int32)), .val (.ref b1), .unset, .unset] [(.int (2 : Int32))])) st2 ?_
  refine o_istore X2 hx (l' := #[.val (.ref ca_), .val (.int (0 : Int32)), .val (.int (2 : Int32)), .val (.ref b1), .val (.int (2 : Int32)), .unset]) (hb hby d4_12) rfl ?_
  refine o_iload X2 hx (hb hby d4_14) rfl ?_
  refine o_iloadN X2 hx (hb hby d4_16) rfl ?_
  refine o_icmpYes X2 hx 57 (hb hby d4_17) (teq (by decide : (2 : Int32) = (2 : Int32))).1 (by decide) (by decide) ?_
  refine o_aloadN X2 hx (hb hby d4_57) rfl rfl ?_
  refine oend X2 hlk (v := some (.ref b1)) (fun h => by rw [hret] at h; cases h) (fun fs hr => retOut X2 hx (t := (.array .byte)) (i := .areturn) hret rfl (Or.inr (Or.inr (Or.inr (Or.inr ⟨rfl, rfl, rfl⟩)))) (hb hby d4_58) hr) (by decide) (by decide) ?_
  show own_Q_cmp3_2 Z _ _ _ _ h0 n0 _ T2.heap _
  exact ⟨b1, k1, rfl, N2, (((Keep.refl h0 []).ext E1).trans K2 (allS (Or.inr (Nat.le_trans (Nat.le_refl _) (Nat.le_of_eq g1.symm))) all0)), (Nat.le_trans (Nat.le_refl _) (Nat.le_of_eq g1.symm)), p2_0⟩
def own_Q_codl_2 (Z : State)  (ba_ : Addr) (kb_ : ClassId) (vs_ : List Value) (h0 : Heap) (n0 : Nat) (v : Option Value) (h : Heap) (L : List Loc) : Prop := (v = some (.int (0 : Int32))) ∧ (Fr n0 L) ∧ (h = h0)
set_option maxRecDepth 65536 in
set_option maxHeartbeats 40000000 in
theorem rm_codl_2 (l : Launch) (Z : State) (a0 : Array Value) (hw : ∀ d ∈ tables_1, d.before a0 Z = true) (ws : List Jvm.Cond)  (ba_ : Addr) (kb_ : ClassId) (vs_ : List Value) (h0 : Heap) (n0 : Nat) (O0 : Old Z n0 h0) (pr0 : Arv Z h0 ba_ kb_ .byte (2 : Int32) vs_ (.int 0)) :
    oMet l Z yM4 jdk_52_method_15_code 2 (some .byte) ws ({ frames := 0, cells := 0, slots := 0, locals := 0 } : Room) 0 0 #[(.ref ba_), (.int (2 : Int32))] h0 (own_Q_codl_2 Z  ba_ kb_ vs_ h0 n0) := by
  refine oenter own_pn1 #[.val (.ref ba_), .val (.int (2 : Int32))] (fun m => by first | (simp [entryFrame, mkF, argsToLocals, Value.category]; done) | rfl) ?_
  intro p e s m below meth c s₁ X0 hx hZ hby hml hret hown0 hnm hlk e0
  have hown : s.vm.findClass "java/lang/StringUTF16" = some m.cls := hown0
  have N0 := Fr.nil n0
  refine o_iloadN X0 hx (hb hby d5_0) rfl ?_
  refine o_aloadN X0 hx (hb hby d5_1) rfl rfl ?_
  obtain ⟨cl1, Ar1, -, S1, N1z, -, -⟩ := (id pr0)
  refine ogo (S' := s₁.setTop (mkF m 3 #[.val (.ref ba_), .val (.int (2 : Int32))] [(.int (2 : Int32)), (.int (2 : Int32))])) (fun _ kt_ => X0.arraylength hx (by rw [e0]; exact Ar1.1) (State.isArrayOf_alike hZ.alike Ar1.2.1) (g := (mkF m 2 #[.val (.ref ba_), .val (.int (2 : Int32))] [(.ref ba_), (.int (2 : Int32))])) rfl rfl (hb hby d5_2) _ (by rw [len_of S1 N1z]; exact kt_)) ?_
  refine o_isub X0 hx (hb hby d5_3) ?_
  refine o_bipush X0 hx (31 : Int32) (hb hby d5_4) rfl ?_
  refine o_iushr X0 hx (hb hby d5_6) ?_
  refine o_i2b X0 hx (hb hby d5_7) ?_
  refine oend X0 hlk (v := some (.int (0 : Int32))) (fun h => by rw [hret] at h; cases h) (fun fs hr => retN X0 hx (t := .byte) hret (by simp) (hb hby d5_8) hr) (by decide) (by decide) ?_
  show own_Q_codl_2 Z _ _ _ h0 n0 _ s₁.heap _
  rw [e0]
  exact ⟨rfl, N0, rfl⟩
def own_Q_new4_2 (Z : State) (z_CS : Int32) (v_FMT : Value) (s_EMPTY : Addr) (x_ : Addr) (ca_ : Addr) (kc_ : ClassId) (c0_ : Int32) (c1_ : Int32) (h0 : Heap) (n0 : Nat) (v : Option Value) (h : Heap) (L : List Loc) : Prop := ∃ ba_ : Addr, ∃ kb_ : ClassId, (v = none) ∧ (Fr n0 L) ∧ (Keep h0 h [x_]) ∧ (h0.size ≤ ba_) ∧ (Arv Z h ba_ kb_ .byte (2 : Int32) [(.int c0_.toInt8.toInt32), (.int c1_.toInt8.toInt32)] (.int 0)) ∧ (Exa Z h x_ "java/lang/String") ∧ (Fld Z h x_ "java/lang/String" "value" "[B" (.ref ba_)) ∧ (Fld Z h x_ "java/lang/String" "coder" "B" (.int (0 : Int32)))
set_option maxRecDepth 65536 in
set_option maxHeartbeats 40000000 in
theorem rm_new4_2 (l : Launch) (Z : State) (a0 : Array Value) (hw : ∀ d ∈ tables_1, d.before a0 Z = true) (ws : List Jvm.Cond) (z_CS : Int32) (v_FMT : Value) (s_EMPTY : Addr) (x_ : Addr) (ca_ : Addr) (kc_ : ClassId) (c0_ : Int32) (c1_ : Int32) (h0 : Heap) (n0 : Nat) (SB : own_Start Z z_CS v_FMT s_EMPTY) (O0 : Old Z n0 h0) (pr0 : Exa Z h0 x_ "java/lang/String") (pr1 : Fld Z h0 x_ "java/lang/String" "value" "[B" .null) (pr2 : Fld Z h0 x_ "java/lang/String" "coder" "B" (.int (0 : Int32))) (pr3 : Arv Z h0 ca_ kc_ .char (2 : Int32) [(.int c0_), (.int c1_)] (.int 0)) (pr4 : n0 ≤ x_) (pr5 : ¬ ((255 : Int32) < c0_)) (pr6 : ¬ ((255 : Int32) < c1_)) :
    oMet l Z yM0 jdk_42_method_149_code 6 none ws ({ frames := 2, cells := 1, slots := 2, locals := 35 } : Room) 1 2 #[(.ref x_), (.ref ca_), (.int (0 : Int32)), (.int (2 : Int32)), .null] h0 (own_Q_new4_2 Z z_CS v_FMT s_EMPTY x_ ca_ kc_ c0_ c1_ h0 n0) := by
  refine oenter own_pn0 #[.val (.ref x_), .val (.ref ca_), .val (.int (0 : Int32)), .val (.int (2 : Int32)), .val .null, .unset] (fun m => by first | (simp [entryFrame, mkF, argsToLocals, Value.category]; done) | rfl) ?_
  intro p e s m below meth c s₁ X0 hx hZ hby hml hret hown0 hnm hlk e0
  have hown : s.vm.findClass "java/lang/String" = some m.cls := hown0
  have N0 := Fr.nil n0
  obtain ⟨S_CS, H_CS, S_FMT, R_FMT, S_EMPTY, E_EMPTY, F_EMPTY⟩ := (id SB)
  have w5 := hw _ (List.mem_of_getElem? (i := 5) rfl)
  have w15 := hw _ (List.mem_of_getElem? (i := 15) rfl)
  have w16 := hw _ (List.mem_of_getElem? (i := 16) rfl)
  have w17 := hw _ (List.mem_of_getElem? (i := 17) rfl)
  have w20 := hw _ (List.mem_of_getElem? (i := 20) rfl)
  have w21 := hw _ (List.mem_of_getElem? (i := 21) rfl)
  have w24 := hw _ (List.mem_of_getElem? (i := 24) rfl)
  have w25 := hw _ (List.mem_of_getElem? (i := 25) rfl)
  have w97 := hw _ (List.mem_of_getElem? (i := 97) rfl)
  have w118 := hw _ (List.mem_of_getElem? (i := 118) rfl)
  have w119 := hw _ (List.mem_of_getElem? (i := 119) rfl)
  have w120 := hw _ (List.mem_of_getElem? (i := 120) rfl)
  have w121 := hw _ (List.mem_of_getElem? (i := 121) rfl)
  have w125 := hw _ (List.mem_of_getElem? (i := 125) rfl)
  have w126 := hw _ (List.mem_of_getElem? (i := 126) rfl)
  have w127 := hw _ (List.mem_of_getElem? (i := 127) rfl)
  refine o_aloadN X0 hx (hb hby d1_0) rfl rfl ?_
  obtain ⟨T1, X1, e1, st1⟩ := initO X0 hx hZ hown w15 w16 w17 e0 (g := (mkF m 1 #[.val (.ref x_), .val (.ref ca_), .val (.int (0 : Int32)), .val (.int (2 : Int32)), .val .null, .unset] [(.ref x_)])) rfl (by rw [hml]; rfl) rfl (hb hby d1_1) (by decide) (W := 0) (by show 2 * 0 + _ ≤ _; exact Nat.le_of_eq rfl) (by decide)
  refine ogo (S' := T1.setTop (mkF m 4 #[.val (.ref x_), .val (.ref ca_), .val (.int (0 : Int32)), .val (.int (2 : Int32)), .val .null, .unset] [])) st1 ?_
  refine o_iloadN X1 hx (hb hby d1_4) rfl ?_
  refine o_ifYes X1 hx 27 (hb hby d1_5) (feq (by decide : ¬ ((2 : Int32) = (0 : Int32)))).2 (by decide) (by decide) ?_
  obtain ⟨T2, X2, e2, st2⟩ := getS2 X1 hx hZ hown (host := "") (Or.inl w97) Via.refl e1 (Sta.ext O0.2 S_CS) (g := (mkF m 27 #[.val (.ref x_), .val (.ref ca_), .val (.int (0 : Int32)), .val (.int (2 : Int32)), .val .null, .unset] [])) rfl (hb hby d1_27)
  refine ogo (S' := T2.setTop (mkF m 30 #[.val (.ref x_), .val (.ref ca_), .val (.int (0 : Int32)), .val (.int (2 : Int32)), .val .null, .unset] [(.int z_CS)])) st2 ?_
  refine o_ifNo X2 hx (hb hby d1_30) (feq H_CS).1 ?_
  refine o_aloadN X2 hx (hb hby d1_33) rfl rfl ?_
  refine o_iloadN X2 hx (hb hby d1_34) rfl ?_
  refine o_iloadN X2 hx (hb hby d1_35) rfl ?_
  obtain ⟨_, _, ⟨T3, L3, kc3, n3⟩, -, X3, ⟨Lc3, hQ3, l3, y3, z3⟩, st3⟩ := Jvm.LawKit.callS X2 hx (y := yM3) hown (mvT hZ w118) (mvT hZ w119) (mvT hZ w120) (mvT hZ w121) (by decide) (backOf (W := 0) (rm_cmp3_2 l Z a0 hw []  ca_ kc_ c0_ c1_ h0 n0 O0 pr3 pr5 pr6) hZ w121 w120 (by decide) (by decide)) (g := (mkF m 36 #[.val (.ref x_), .val (.ref ca_), .val (.int (0 : Int32)), .val (.int (2 : Int32)), .val .null, .unset] [(.int (2 : Int32)), (.int (0 : Int32)), (.ref ca_)])) rfl (by rw [hml]; rfl) (argsL := [(.ref ca_), (.int (0 : Int32)), (.int (2 : Int32))]) (rest := []) (lenOf own_pd2 rfl) rfl (by show 2 * 0 + _ ≤ _; exact Nat.le_of_eq rfl) (hb hby d1_36) (fun _ _ => ⟨rfl, e2, (by decide : 0 + 1 ≤ _), (by decide : 0 + 2 ≤ _)⟩)
  dsimp only [Pt.U, Pt.locs, Pt.cells, Pt.slots] at X3 l3 y3 z3 st3 hQ3
  subst l3 y3 z3
  obtain ⟨ba_3, kb_3, rfl, Nq3, K3, p3_0, p3_1⟩ := hQ3
  have N3 := Fr.app N0 Nq3
  have n0_ba_3 : n0 ≤ ba_3 := Nat.le_trans (Nat.le_trans (Nat.le_of_eq O0.1.symm) O0.2.1) (Nat.le_trans (Nat.le_refl _) p3_0)
  refine ogo (S' := T3.setTop (mkF m 39 #[.val (.ref x_), .val (.ref ca_), .val (.int (0 : Int32)), .val (.int (2 : Int32)), .val .null, .unset] [(.ref ba_3)])) st3 ?_
  refine o_astore X3 hx (l' := #[.val (.ref x_), .val (.ref ca_), .val (.int (0 : Int32)), .val (.int (2 : Int32)), .val .null, .val (.ref ba_3)]) (hb hby d1_39) rfl rfl ?_
  refine o_aloadN X3 hx (hb hby d1_41) rfl rfl ?_
  refine o_aload X3 hx (hb hby d1_42) rfl rfl ?_
  refine o_iloadN X3 hx (hb hby d1_44) rfl ?_
  obtain ⟨_, _, ⟨T4, L4, kc4, n4⟩, -, X4, ⟨Lc4, hQ4, l4, y4, z4⟩, st4⟩ := Jvm.LawKit.callS X3 hx (y := yM4) hown (mvT hZ w125) (mvT hZ w126) (mvT hZ w120) (mvT hZ w127) (by decide) (backOf (W := 1) (rm_codl_2 l Z a0 hw []  ba_3 kb_3 [(.int c0_.toInt8.toInt32), (.int c1_.toInt8.toInt32)] T3.heap n0 (O0.keep K3 all0) p3_1) hZ w127 w120 (by decide) (by decide)) (g := (mkF m 45 #[.val (.ref x_), .val (.ref ca_), .val (.int (0 : Int32)), .val (.int (2 : Int32)), .val .null, .val (.ref ba_3)] [(.int (2 : Int32)), (.ref ba_3), (.ref x_)])) rfl (by rw [hml]; rfl) (argsL := [(.ref ba_3), (.int (2 : Int32))]) (rest := [(.ref x_)]) (lenOf own_pd3 rfl) rfl (by show 2 * 0 + _ ≤ _; exact Nat.le_of_eq rfl) (hb hby d1_45) (fun _ _ => ⟨rfl, rfl, (by decide : 1 + 0 ≤ _), (by decide : 2 + 0 ≤ _)⟩)
  dsimp only [Pt.U, Pt.locs, Pt.cells, Pt.slots] at X4 l4 y4 z4 st4 hQ4
  subst l4 y4 z4
  obtain ⟨rfl, Nq4, e4⟩ := hQ4
  have N4 := Fr.app N3 Nq4
  refine ogo (S' := T4.setTop (mkF m 48 #[.val (.ref x_), .val (.ref ca_), .val (.int (0 : Int32)), .val (.int (2 : Int32)), .val .null, .val (.ref ba_3)] [(.int (0 : Int32)), (.ref x_)])) st4 ?_
  obtain ⟨T5, _, X5, rfl, W5, st5⟩ := putFN X4 hx hZ hown w25 Via.refl e4 (pr2.keep K3 nin0) (pr0.keep K3) (Or.inr ⟨w21, rfl, hnm⟩) w5 (ty := .byte) (v' := (.int (0 : Int32))) (by decide) rfl (by decide) (g := (mkF m 48 #[.val (.ref x_), .val (.ref ca_), .val (.int (0 : Int32)), .val (.int (2 : Int32)), .val .null, .val (.ref ba_3)] [(.int (0 : Int32)), (.ref x_)])) rfl rfl (hb hby d1_48)
  have N5 := Fr.snoc X5 N4 pr4
  have F5 := Fld.same W5 (pr2.keep K3 nin0)
  refine ogo (S' := T5.setTop (mkF m 51 #[.val (.ref x_), .val (.ref ca_), .val (.int (0 : Int32)), .val (.int (2 : Int32)), .val .null, .val (.ref ba_3)] [])) st5 ?_
  refine o_aloadN X5 hx (hb hby d1_51) rfl rfl ?_
  refine o_aload X5 hx (hb hby d1_52) rfl rfl ?_
  have c7 := (Fld.other W5 (pr1.keep K3 nin0) (Or.inr (slot_ne (Or.inr w20) (Or.inr w21) (by decide) (t := (.array .byte)) (t' := .byte) (by decide) (by decide))))
  obtain ⟨T6, _, X6, rfl, W6, st6⟩ := putF X5 hx hZ hown (host := "") (Or.inl w24) Via.refl rfl c7 (Exa.wr W5 (pr0.keep K3)) (Or.inr ⟨w20, rfl, hnm⟩) w5 (ty := (.array .byte)) (by decide) rfl rfl (g := (mkF m 54 #[.val (.ref x_), .val (.ref ca_), .val (.int (0 : Int32)), .val (.int (2 : Int32)), .val .null, .val (.ref ba_3)] [(.ref ba_3), (.ref x_)])) rfl rfl (hb hby d1_54)
  have N6 := Fr.snoc X6 N5 pr4
  have F6 := Fld.same W6 c7
  refine ogo (S' := T6.setTop (mkF m 57 #[.val (.ref x_), .val (.ref ca_), .val (.int (0 : Int32)), .val (.int (2 : Int32)), .val .null, .val (.ref ba_3)] [])) st6 ?_
  have c8 := ((p3_1.other W5 (Nat.ne_of_gt (Nat.lt_of_lt_of_le (Nat.lt_of_lt_of_le pr0.lt (Nat.le_refl _)) p3_0))).other W6 (Nat.ne_of_gt (Nat.lt_of_lt_of_le (Nat.lt_of_lt_of_le pr0.lt (Nat.le_refl _)) p3_0)))
  have c9 := (Fld.other W6 F5 (Or.inr (slot_ne (Or.inr w21) (Or.inr w20) (by decide) (t := .byte) (t' := (.array .byte)) (by decide) (by decide))))
  refine oend X6 hlk (v := none) (fun _ => rfl) (fun fs hr => X6.returnOut hx hret (hb hby d1_57) hr) (by decide) (by decide) ?_
  show own_Q_new4_2 Z _ _ _ _ _ _ _ _ h0 n0 _ T6.heap _
  exact ⟨ba_3, kb_3, rfl, N6, ((((Keep.refl h0 [x_]).trans K3 all0).wr W5 (Or.inl (List.mem_of_getElem? (i := 0) rfl))).wr W6 (Or.inl (List.mem_of_getElem? (i := 0) rfl))), (Nat.le_trans (Nat.le_refl _) p3_0), c8, (Exa.wr W6 (Exa.wr W5 (pr0.keep K3))), F6, c9⟩
def own_Q_new1_2 (Z : State) (z_CS : Int32) (v_FMT : Value) (s_EMPTY : Addr) (x_ : Addr) (ca_ : Addr) (kc_ : ClassId) (c0_ : Int32) (c1_ : Int32) (h0 : Heap) (n0 : Nat) (v : Option Value) (h : Heap) (L : List Loc) : Prop := ∃ ba_ : Addr, ∃ kb_ : ClassId, (v = none) ∧ (Fr n0 L) ∧ (Keep h0 h [x_]) ∧ (h0.size ≤ ba_) ∧ (Arv Z h ba_ kb_ .byte (2 : Int32) [(.int c0_.toInt8.toInt32), (.int c1_.toInt8.toInt32)] (.int 0)) ∧ (Exa Z h x_ "java/lang/String") ∧ (Fld Z h x_ "java/lang/String" "value" "[B" (.ref ba_)) ∧ (Fld Z h x_ "java/lang/String" "coder" "B" (.int (0 : Int32)))
set_option maxRecDepth 65536 in
set_option maxHeartbeats 40000000 in
theorem rm_new1_2 (l : Launch) (Z : State) (a0 : Array Value) (hw : ∀ d ∈ tables_1, d.before a0 Z = true) (ws : List Jvm.Cond) (z_CS : Int32) (v_FMT : Value) (s_EMPTY : Addr) (x_ : Addr) (ca_ : Addr) (kc_ : ClassId) (c0_ : Int32) (c1_ : Int32) (h0 : Heap) (n0 : Nat) (SB : own_Start Z z_CS v_FMT s_EMPTY) (O0 : Old Z n0 h0) (pr0 : Exa Z h0 x_ "java/lang/String") (pr1 : Fld Z h0 x_ "java/lang/String" "value" "[B" .null) (pr2 : Fld Z h0 x_ "java/lang/String" "coder" "B" (.int (0 : Int32))) (pr3 : Arv Z h0 ca_ kc_ .char (2 : Int32) [(.int c0_), (.int c1_)] (.int 0)) (pr4 : n0 ≤ x_) (pr5 : ¬ ((255 : Int32) < c0_)) (pr6 : ¬ ((255 : Int32) < c1_)) :
    oMet l Z yM1 jdk_42_method_3_code 2 none ws ({ frames := 3, cells := 1, slots := 2, locals := 52 } : Room) 1 2 #[(.ref x_), (.ref ca_)] h0 (own_Q_new1_2 Z z_CS v_FMT s_EMPTY x_ ca_ kc_ c0_ c1_ h0 n0) := by
  refine oenter own_pn0 #[.val (.ref x_), .val (.ref ca_)] (fun m => by first | (simp [entryFrame, mkF, argsToLocals, Value.category]; done) | rfl) ?_
  intro p e s m below meth c s₁ X0 hx hZ hby hml hret hown0 hnm hlk e0
  have hown : s.vm.findClass "java/lang/String" = some m.cls := hown0
  have N0 := Fr.nil n0
  obtain ⟨S_CS, H_CS, S_FMT, R_FMT, S_EMPTY, E_EMPTY, F_EMPTY⟩ := (id SB)
  have w6 := hw _ (List.mem_of_getElem? (i := 6) rfl)
  have w11 := hw _ (List.mem_of_getElem? (i := 11) rfl)
  have w12 := hw _ (List.mem_of_getElem? (i := 12) rfl)
  have w14 := hw _ (List.mem_of_getElem? (i := 14) rfl)
  refine o_aloadN X0 hx (hb hby d2_0) rfl rfl ?_
  refine o_aloadN X0 hx (hb hby d2_1) rfl rfl ?_
  refine o_iconst X0 hx (0 : Int32) (hb hby d2_2) rfl ?_
  refine o_aloadN X0 hx (hb hby d2_3) rfl rfl ?_
  obtain ⟨cl1, Ar1, -, S1, N1z, -, -⟩ := (id pr3)
  refine ogo (S' := s₁.setTop (mkF m 5 #[.val (.ref x_), .val (.ref ca_)] [(.int (2 : Int32)), (.int (0 : Int32)), (.ref ca_), (.ref x_)])) (fun _ kt_ => X0.arraylength hx (by rw [e0]; exact Ar1.1) (State.isArrayOf_alike hZ.alike Ar1.2.1) (g := (mkF m 4 #[.val (.ref x_), .val (.ref ca_)] [(.ref ca_), (.int (0 : Int32)), (.ref ca_), (.ref x_)])) rfl rfl (hb hby d2_4) _ (by rw [len_of S1 N1z]; exact kt_)) ?_
  refine o_aconst_null X0 hx (hb hby d2_5) ?_
  obtain ⟨_, _, ⟨T2, L2, kc2, n2⟩, -, X2, ⟨Lc2, hQ2, l2, y2, z2⟩, st2⟩ := X0.specialBack hx (y := yM0) rfl hown (mvT hZ w11) (mvT hZ w12) (mvT hZ w14) (by decide) (backOf (W := 0) (rm_new4_2 l Z a0 hw [] z_CS v_FMT s_EMPTY x_ ca_ kc_ c0_ c1_ h0 n0 SB O0 pr0 pr1 pr2 pr3 pr4 pr5 pr6) hZ w14 w6 (by decide) (by decide)) (g := (mkF m 6 #[.val (.ref x_), .val (.ref ca_)] [.null, (.int (2 : Int32)), (.int (0 : Int32)), (.ref ca_), (.ref x_)])) rfl (by rw [hml]; rfl) (Steps.refl _) (a := x_) (argsL := [(.ref ca_), (.int (0 : Int32)), (.int (2 : Int32)), .null]) (rest := []) (lenOf own_pd0 rfl) rfl (by show 2 * 0 + _ ≤ _; exact Nat.le_of_eq rfl) (hb hby d2_6) (fun _ _ => ⟨rfl, e0, (by decide : 0 + 1 ≤ _), (by decide : 0 + 2 ≤ _)⟩)
  dsimp only [Pt.U, Pt.locs, Pt.cells, Pt.slots] at X2 l2 y2 z2 st2 hQ2
  subst l2 y2 z2
  obtain ⟨ba_2, kb_2, rfl, Nq2, K2, p2_0, p2_1, p2_2, p2_3, p2_4⟩ := hQ2
  have N2 := Fr.app N0 Nq2
  have n0_ba_2 : n0 ≤ ba_2 := Nat.le_trans (Nat.le_trans (Nat.le_of_eq O0.1.symm) O0.2.1) (Nat.le_trans (Nat.le_refl _) p2_0)
  refine otr (S' := T2.setTop (mkF m 9 #[.val (.ref x_), .val (.ref ca_)] [])) st2 ?_
  refine oend X2 hlk (v := none) (fun _ => rfl) (fun fs hr => X2.returnOut hx hret (hb hby d2_9) hr) (by decide) (by decide) ?_
  show own_Q_new1_2 Z _ _ _ _ _ _ _ _ h0 n0 _ T2.heap _
  exact ⟨ba_2, kb_2, rfl, N2, ((Keep.refl h0 [x_]).trans K2 (allS (Or.inl (List.mem_of_getElem? (i := 0) rfl)) all0)), (Nat.le_trans (Nat.le_refl _) p2_0), p2_1, p2_2, p2_3, p2_4⟩
theorem own_pd4 : parseMethodDescriptor "([C)V" = some ⟨[(.array .char)], none⟩ := by decide +kernel
theorem d6_0 : decode method_2_code 0 = .ok (.iload_n 0, 1) := by decide +kernel
theorem d6_1 : decode method_2_code 1 = .ok (.bipush 16, 2) := by decide +kernel
theorem d6_3 : decode method_2_code 3 = .ok (.iushr, 1) := by decide +kernel
theorem d6_4 : decode method_2_code 4 = .ok (.iconst 3, 1) := by decide +kernel
theorem d6_5 : decode method_2_code 5 = .ok (.iand, 1) := by decide +kernel
theorem d6_6 : decode method_2_code 6 = .ok (.iconst 3, 1) := by decide +kernel
theorem d6_7 : decode method_2_code 7 = .ok (.irem, 1) := by decide +kernel
theorem d6_8 : decode method_2_code 8 = .ok (.istore_n 1, 1) := by decide +kernel
theorem d6_9 : decode method_2_code 9 = .ok (.iload_n 0, 1) := by decide +kernel
theorem d6_10 : decode method_2_code 10 = .ok (.sipush 255, 3) := by decide +kernel
theorem d6_13 : decode method_2_code 13 = .ok (.iand, 1) := by decide +kernel
theorem d6_14 : decode method_2_code 14 = .ok (.i2c, 1) := by decide +kernel
theorem d6_15 : decode method_2_code 15 = .ok (.istore_n 2, 1) := by decide +kernel
theorem d6_16 : decode method_2_code 16 = .ok (.iload_n 0, 1) := by decide +kernel
theorem d6_17 : decode method_2_code 17 = .ok (.bipush 8, 2) := by decide +kernel
theorem d6_19 : decode method_2_code 19 = .ok (.iushr, 1) := by decide +kernel
theorem d6_20 : decode method_2_code 20 = .ok (.sipush 255, 3) := by decide +kernel
theorem d6_23 : decode method_2_code 23 = .ok (.iand, 1) := by decide +kernel
theorem d6_24 : decode method_2_code 24 = .ok (.i2c, 1) := by decide +kernel
theorem d6_25 : decode method_2_code 25 = .ok (.istore_n 3, 1) := by decide +kernel
theorem d6_26 : decode method_2_code 26 = .ok (.iload_n 1, 1) := by decide +kernel
theorem d6_27 : decode method_2_code 27 = .ok (.ifCond .ne 14, 3) := by decide +kernel
theorem d6_30 : decode method_2_code 30 = .ok (.new 7, 3) := by decide +kernel
theorem d6_33 : decode method_2_code 33 = .ok (.dup, 1) := by decide +kernel
theorem d6_34 : decode method_2_code 34 = .ok (.iconst 0, 1) := by decide +kernel
theorem d6_35 : decode method_2_code 35 = .ok (.newarray .char, 2) := by decide +kernel
theorem d6_37 : decode method_2_code 37 = .ok (.invokespecial 9, 3) := by decide +kernel
theorem d6_40 : decode method_2_code 40 = .ok (.areturn, 1) := by decide +kernel
theorem d6_41 : decode method_2_code 41 = .ok (.iload_n 1, 1) := by decide +kernel
theorem d6_42 : decode method_2_code 42 = .ok (.iconst 1, 1) := by decide +kernel
theorem d6_43 : decode method_2_code 43 = .ok (.if_icmp .ne 18, 3) := by decide +kernel
theorem d6_46 : decode method_2_code 46 = .ok (.new 7, 3) := by decide +kernel
theorem d6_49 : decode method_2_code 49 = .ok (.dup, 1) := by decide +kernel
theorem d6_50 : decode method_2_code 50 = .ok (.iconst 1, 1) := by decide +kernel
theorem d6_51 : decode method_2_code 51 = .ok (.newarray .char, 2) := by decide +kernel
theorem d6_53 : decode method_2_code 53 = .ok (.dup, 1) := by decide +kernel
theorem d6_54 : decode method_2_code 54 = .ok (.iconst 0, 1) := by decide +kernel
theorem d6_55 : decode method_2_code 55 = .ok (.iload_n 2, 1) := by decide +kernel
theorem d6_56 : decode method_2_code 56 = .ok (.castore, 1) := by decide +kernel
theorem d6_57 : decode method_2_code 57 = .ok (.invokespecial 9, 3) := by decide +kernel
theorem d6_60 : decode method_2_code 60 = .ok (.areturn, 1) := by decide +kernel
theorem d6_61 : decode method_2_code 61 = .ok (.new 7, 3) := by decide +kernel
theorem d6_64 : decode method_2_code 64 = .ok (.dup, 1) := by decide +kernel
theorem d6_65 : decode method_2_code 65 = .ok (.iconst 2, 1) := by decide +kernel
theorem d6_66 : decode method_2_code 66 = .ok (.newarray .char, 2) := by decide +kernel
theorem d6_68 : decode method_2_code 68 = .ok (.dup, 1) := by decide +kernel
theorem d6_69 : decode method_2_code 69 = .ok (.iconst 0, 1) := by decide +kernel
theorem d6_70 : decode method_2_code 70 = .ok (.iload_n 2, 1) := by decide +kernel
theorem d6_71 : decode method_2_code 71 = .ok (.castore, 1) := by decide +kernel
theorem d6_72 : decode method_2_code 72 = .ok (.dup, 1) := by decide +kernel
theorem d6_73 : decode method_2_code 73 = .ok (.iconst 1, 1) := by decide +kernel
theorem d6_74 : decode method_2_code 74 = .ok (.iload_n 3, 1) := by decide +kernel
theorem d6_75 : decode method_2_code 75 = .ok (.castore, 1) := by decide +kernel
theorem d6_76 : decode method_2_code 76 = .ok (.invokespecial 9, 3) := by decide +kernel
theorem d6_79 : decode method_2_code 79 = .ok (.areturn, 1) := by decide +kernel
theorem own_pn2 : plainName "com/example/reliquary/reliquary/DeadLetterSelectionOnQueuePinLaw" = true := by first | (simp [plainName, overriddenIn]; done) | decide +kernel
def own_Q_mk (Z : State) (z_CS : Int32) (v_FMT : Value) (s_EMPTY : Addr) (x_ : Int32) (h0 : Heap) (n0 : Nat) (v : Option Value) (h : Heap) (L : List Loc) : Prop := ∃ r_ : Addr, ∃ ba_ : Addr, ∃ kb_ : ClassId, (v = some (.ref r_)) ∧ (Fr n0 L) ∧ (Keep h0 h []) ∧ (h0.size ≤ r_) ∧ (ba_ < h.size) ∧ (Exa Z h r_ "java/lang/String") ∧ (Fld Z h r_ "java/lang/String" "coder" "B" (.int (0 : Int32))) ∧ (Fld Z h r_ "java/lang/String" "value" "[B" (.ref ba_)) ∧ (Arv Z h ba_ kb_ .byte (own_ml x_) (own_mv x_) (.int 0)) ∧ (own_sh (own_ms x_) (own_ml x_) (own_mv x_))
abbrev yM5 : MethodName := ⟨"com/example/reliquary/reliquary/DeadLetterSelectionOnQueuePinLaw", "mk", "(I)Ljava/lang/String;"⟩
set_option maxRecDepth 65536 in
set_option maxHeartbeats 40000000 in
theorem rm_mk (l : Launch) (Z : State) (a0 : Array Value) (hw : ∀ d ∈ tables_1, d.before a0 Z = true) (ws : List Jvm.Cond) (z_CS : Int32) (v_FMT : Value) (s_EMPTY : Addr) (x_ : Int32) (h0 : Heap) (n0 : Nat) (SB : own_Start Z z_CS v_FMT s_EMPTY) (O0 : Old Z n0 h0)  :
    oMetS l Z yM5 method_2_code 4 (some (.object "java/lang/String")) ws ({ frames := 4, cells := 6, slots := 12, locals := 66 } : Room) 6 12 #[(.int x_)] h0 (own_Q_mk Z z_CS v_FMT s_EMPTY x_ h0 n0) := by
  refine oenterS own_pn2 #[.val (.int x_), .unset, .unset, .unset] (fun m => by first | (simp [entryFrame, mkF, argsToLocals, Value.category]; done) | rfl) ?_
  intro p e s m below meth c s₁ X0 hx hZ hby hml hret hown0 hnm hlk e0 hs0 H0 hS0
  have hEL := own_EW hw
  have wS := own_wS hw
  have hown : s.vm.findClass "com/example/reliquary/reliquary/DeadLetterSelectionOnQueuePinLaw" = some m.cls := hown0
  have N0 := Fr.nil n0
  obtain ⟨S_CS, H_CS, S_FMT, R_FMT, S_EMPTY, E_EMPTY, F_EMPTY⟩ := (id SB)
  have w4 := hw _ (List.mem_of_getElem? (i := 4) rfl)
  have w5 := hw _ (List.mem_of_getElem? (i := 5) rfl)
  have w6 := hw _ (List.mem_of_getElem? (i := 6) rfl)
  have w7 := hw _ (List.mem_of_getElem? (i := 7) rfl)
  have w8 := hw _ (List.mem_of_getElem? (i := 8) rfl)
  have w9 := hw _ (List.mem_of_getElem? (i := 9) rfl)
  have w10 := hw _ (List.mem_of_getElem? (i := 10) rfl)
  have w20 := hw _ (List.mem_of_getElem? (i := 20) rfl)
  have w21 := hw _ (List.mem_of_getElem? (i := 21) rfl)
  refine o_iloadN X0 hx (hb hby d6_0) rfl ?_
  refine o_bipush X0 hx (16 : Int32) (hb hby d6_1) rfl ?_
  refine o_iushr X0 hx (hb hby d6_3) ?_
  refine o_iconst X0 hx (3 : Int32) (hb hby d6_4) rfl ?_
  refine o_iand X0 hx (hb hby d6_5) ?_
  refine o_iconst X0 hx (3 : Int32) (hb hby d6_6) rfl ?_
  refine o_irem X0 hx (hb hby d6_7) (by decide) ?_
  refine o_istoreN X0 hx (l' := #[.val (.int x_), .val (.int (((own_ushr x_ (16 : Int32)) &&& (3 : Int32)) % (3 : Int32))), .unset, .unset]) (hb hby d6_8) rfl ?_
  refine o_iloadN X0 hx (hb hby d6_9) rfl ?_
  refine o_sipush X0 hx (255 : Int32) (hb hby d6_10) rfl ?_
  refine o_iand X0 hx (hb hby d6_13) ?_
  refine o_i2c X0 hx (hb hby d6_14) ?_
  refine o_istoreN X0 hx (l' := #[.val (.int x_), .val (.int (((own_ushr x_ (16 : Int32)) &&& (3 : Int32)) % (3 : Int32))), .val (.int (nar .char (x_ &&& (255 : Int32)))), .unset]) (hb hby d6_15) rfl ?_
  refine o_iloadN X0 hx (hb hby d6_16) rfl ?_
  refine o_bipush X0 hx (8 : Int32) (hb hby d6_17) rfl ?_
  refine o_iushr X0 hx (hb hby d6_19) ?_
  refine o_sipush X0 hx (255 : Int32) (hb hby d6_20) rfl ?_
  refine o_iand X0 hx (hb hby d6_23) ?_
  refine o_i2c X0 hx (hb hby d6_24) ?_
  refine o_istoreN X0 hx (l' := #[.val (.int x_), .val (.int (((own_ushr x_ (16 : Int32)) &&& (3 : Int32)) % (3 : Int32))), .val (.int (nar .char (x_ &&& (255 : Int32)))), .val (.int (nar .char ((own_ushr x_ (8 : Int32)) &&& (255 : Int32))))]) (hb hby d6_25) rfl ?_
  refine o_iloadN X0 hx (hb hby d6_26) rfl ?_
  by_cases hc1 : (((own_ushr x_ (16 : Int32)) &&& (3 : Int32)) % (3 : Int32)) = (0 : Int32)
  · refine o_ifNo X0 hx (hb hby d6_27) (teq hc1).2 ?_
    obtain ⟨T2, _, X2, rfl, E2, A2, D2, -, st2⟩ := newO X0 hx hZ hown w4 w5 w6 e0 (g := (mkF m 30 #[.val (.int x_), .val (.int (((own_ushr x_ (16 : Int32)) &&& (3 : Int32)) % (3 : Int32))), .val (.int (nar .char (x_ &&& (255 : Int32)))), .val (.int (nar .char ((own_ushr x_ (8 : Int32)) &&& (255 : Int32))))] [])) rfl (hb hby d6_30) (by decide) (by decide)
    obtain ⟨b2, g2⟩ : ∃ z, z = h0.size := ⟨_, rfl⟩
    rw [← g2] at A2 D2 st2
    have n0_b2 : n0 ≤ b2 := Nat.le_trans (Nat.le_trans (Nat.le_of_eq O0.1.symm) O0.2.1) (Nat.le_trans (Nat.le_refl _) (Nat.le_of_eq g2.symm))
    have H3 := CHv.ext E2 H0
    have F2_value : Fld Z T2.heap b2 "java/lang/String" "value" "[B" .null := D2 (Or.inr w20) (ty := (.array .byte)) (by decide)
    have F2_coder : Fld Z T2.heap b2 "java/lang/String" "coder" "B" (.int (0 : Int32)) := D2 (Or.inr w21) (ty := .byte) (by decide)
    refine ogo (S' := T2.setTop (mkF m 33 #[.val (.int x_), .val (.int (((own_ushr x_ (16 : Int32)) &&& (3 : Int32)) % (3 : Int32))), .val (.int (nar .char (x_ &&& (255 : Int32)))), .val (.int (nar .char ((own_ushr x_ (8 : Int32)) &&& (255 : Int32))))] [(.ref b2)])) st2 ?_
    refine o_dup X2 hx (hb hby d6_33) rfl ?_
    refine o_iconst X2 hx (0 : Int32) (hb hby d6_34) rfl ?_
    obtain ⟨T4, _, k4, X4, rfl, E4, A4, Ex4, st4⟩ := newPE (aty := .char) X2 hx hZ w7 rfl (g := (mkF m 35 #[.val (.int x_), .val (.int (((own_ushr x_ (16 : Int32)) &&& (3 : Int32)) % (3 : Int32))), .val (.int (nar .char (x_ &&& (255 : Int32)))), .val (.int (nar .char ((own_ushr x_ (8 : Int32)) &&& (255 : Int32))))] [(.int (0 : Int32)), (.ref b2), (.ref b2)])) rfl (hb hby d6_35) rfl (by decide) (cap := 0) (by decide) (by decide) (by decide) (by decide) (ad := "[C") rfl
    obtain ⟨b4, g4⟩ : ∃ z, z = T2.heap.size := ⟨_, rfl⟩
    rw [← g4] at A4 Ex4 st4
    have n0_b4 : n0 ≤ b4 := Nat.le_trans (Nat.le_trans (Nat.le_of_eq O0.1.symm) O0.2.1) (Nat.le_trans E2.1 (Nat.le_of_eq g4.symm))
    have H5 := CHv.ext E4 H3
    have V4 : Arv Z T4.heap b4 k4 .char (0 : Int32) [] (.int 0) := (Arv.new A4 (by decide)).pad (pad_rep [] (.int 0) 0)
    refine ogo (S' := T4.setTop (mkF m 37 #[.val (.int x_), .val (.int (((own_ushr x_ (16 : Int32)) &&& (3 : Int32)) % (3 : Int32))), .val (.int (nar .char (x_ &&& (255 : Int32)))), .val (.int (nar .char ((own_ushr x_ (8 : Int32)) &&& (255 : Int32))))] [(.ref b4), (.ref b2), (.ref b2)])) st4 ?_
    obtain ⟨_, _, ⟨T6, L6, kc6, n6⟩, -, X6, hSi6, hgr6, ⟨Lc6, hQ6, l6, y6, z6, C6⟩, st6⟩ := X4.specialBackS hx (y := yM1) rfl hown (mvT hZ w8) (mvT hZ w9) (mvT hZ w10) (by decide) (backOfSH (W := 1) (rm_new1z l Z a0 hw []  b2 b4 k4 T4.heap n0 ((O0.ext E2).ext E4) (Exa.ext E4 A2) (Fld.ext E4 F2_value) (Fld.ext E4 F2_coder) n0_b2 V4) hZ w10 w6 (by decide) (by decide) hEL H5) (g := (mkF m 37 #[.val (.int x_), .val (.int (((own_ushr x_ (16 : Int32)) &&& (3 : Int32)) % (3 : Int32))), .val (.int (nar .char (x_ &&& (255 : Int32)))), .val (.int (nar .char ((own_ushr x_ (8 : Int32)) &&& (255 : Int32))))] [(.ref b4), (.ref b2), (.ref b2)])) rfl (by rw [hml]; rfl) (Steps.refl _) (a := b2) (argsL := [(.ref b4)]) (rest := [(.ref b2)]) (lenOf own_pd4 rfl) rfl (by show 2 * 0 + _ ≤ _; exact Nat.le_of_eq rfl) (hb hby d6_37) (fun _ _ => ⟨rfl, rfl, (by decide : 2 + 4 ≤ _), (by decide : 4 + 8 ≤ _)⟩)
    dsimp only [Pt.U, Pt.locs, Pt.cells, Pt.slots] at X6 l6 y6 z6 st6 hQ6 hSi6 hgr6 C6
    subst l6 y6 z6
    obtain ⟨ba_6, kb_6, rfl, Nq6, K6, p6_0, p6_1, p6_2, p6_3, p6_4⟩ := hQ6
    have N6 := Fr.app N0 Nq6
    have X6 : Stand p l e ({ frames := 4, cells := 6, slots := 12, locals := 66 } : Room) (s.setVm T6.vm) m #[(.int x_)] below meth c T6 _ _ _ := X6
    have hS6 := foldS hS0 (Nat.le_trans (Nat.zero_le _) (Nat.le_trans E2.1 E4.1)) hSi6 hgr6
    have hZ6 : Z.Warmed39 T6.vm := State.Warmed39.trans (t := s) hZ hSi6.1
    have hown6 : T6.vm.findClass "com/example/reliquary/reliquary/DeadLetterSelectionOnQueuePinLaw" = some m.cls := by rw [hSi6.1.alike.findClass]; exact hown
    have H7 := C6.1
    refine otr (S' := T6.setTop (mkF m 40 #[.val (.int x_), .val (.int (((own_ushr x_ (16 : Int32)) &&& (3 : Int32)) % (3 : Int32))), .val (.int (nar .char (x_ &&& (255 : Int32)))), .val (.int (nar .char ((own_ushr x_ (8 : Int32)) &&& (255 : Int32))))] [(.ref b2)])) st6 ?_
    have mk_ := own_mk0 hc1
    refine oendS X6 hlk hS6 (Nat.le_refl _) rfl hZ6 hEL hs0 (CHr.trans (CHr.trans (CHr.trans (CHr.refl H0) (CHr.ext E2 H0)) (CHr.ext E4 H3)) C6) (v := some (.ref b2)) (fun h => by rw [hret] at h; cases h) (fun fs hr => retOut X6 hx (t := (.object "java/lang/String")) (i := .areturn) hret rfl (Or.inr (Or.inr (Or.inr (Or.inr ⟨rfl, rfl, rfl⟩)))) (hb hby d6_40) hr) (by decide) (by decide) ?_
    show own_Q_mk Z _ _ _ _ h0 n0 _ T6.heap _
    exact ⟨b2, ba_6, kb_6, rfl, N6, ((((Keep.refl h0 []).ext E2).ext E4).trans K6 (allS (Or.inr (Nat.le_trans (Nat.le_refl _) (Nat.le_of_eq g2.symm))) all0)), (Nat.le_trans (Nat.le_refl _) (Nat.le_of_eq g2.symm)), (Nat.lt_of_lt_of_le p6_0 (Nat.le_refl _)), p6_2, p6_4, p6_3, (by rw [mk_.1, mk_.2]; exact p6_1), (own_mk_sh x_)⟩
  · refine o_ifYes X0 hx 41 (hb hby d6_27) (feq hc1).2 (by decide) (by decide) ?_
    refine o_iloadN X0 hx (hb hby d6_41) rfl ?_
    refine o_iconst X0 hx (1 : Int32) (hb hby d6_42) rfl ?_
    by_cases hc8 : (((own_ushr x_ (16 : Int32)) &&& (3 : Int32)) % (3 : Int32)) = (1 : Int32)
    · refine o_icmpNo X0 hx (hb hby d6_43) (teq hc8).2 ?_
      obtain ⟨T9, _, X9, rfl, E9, A9, D9, -, st9⟩ := newO X0 hx hZ hown w4 w5 w6 e0 (g := (mkF m 46 #[.val (.int x_), .val (.int (((own_ushr x_ (16 : Int32)) &&& (3 : Int32)) % (3 : Int32))), .val (.int (nar .char (x_ &&& (255 : Int32)))), .val (.int (nar .char ((own_ushr x_ (8 : Int32)) &&& (255 : Int32))))] [])) rfl (hb hby d6_46) (by decide) (by decide)
      obtain ⟨b9, g9⟩ : ∃ z, z = h0.size := ⟨_, rfl⟩
      rw [← g9] at A9 D9 st9
      have n0_b9 : n0 ≤ b9 := Nat.le_trans (Nat.le_trans (Nat.le_of_eq O0.1.symm) O0.2.1) (Nat.le_trans (Nat.le_refl _) (Nat.le_of_eq g9.symm))
      have H10 := CHv.ext E9 H0
      have F9_value : Fld Z T9.heap b9 "java/lang/String" "value" "[B" .null := D9 (Or.inr w20) (ty := (.array .byte)) (by decide)
      have F9_coder : Fld Z T9.heap b9 "java/lang/String" "coder" "B" (.int (0 : Int32)) := D9 (Or.inr w21) (ty := .byte) (by decide)
      refine ogo (S' := T9.setTop (mkF m 49 #[.val (.int x_), .val (.int (((own_ushr x_ (16 : Int32)) &&& (3 : Int32)) % (3 : Int32))), .val (.int (nar .char (x_ &&& (255 : Int32)))), .val (.int (nar .char ((own_ushr x_ (8 : Int32)) &&& (255 : Int32))))] [(.ref b9)])) st9 ?_
      refine o_dup X9 hx (hb hby d6_49) rfl ?_
      refine o_iconst X9 hx (1 : Int32) (hb hby d6_50) rfl ?_
      obtain ⟨T11, _, k11, X11, rfl, E11, A11, Ex11, st11⟩ := newPE (aty := .char) X9 hx hZ w7 rfl (g := (mkF m 51 #[.val (.int x_), .val (.int (((own_ushr x_ (16 : Int32)) &&& (3 : Int32)) % (3 : Int32))), .val (.int (nar .char (x_ &&& (255 : Int32)))), .val (.int (nar .char ((own_ushr x_ (8 : Int32)) &&& (255 : Int32))))] [(.int (1 : Int32)), (.ref b9), (.ref b9)])) rfl (hb hby d6_51) rfl (by decide) (cap := 1) (by decide) (by decide) (by decide) (by decide) (ad := "[C") rfl
      obtain ⟨b11, g11⟩ : ∃ z, z = T9.heap.size := ⟨_, rfl⟩
      rw [← g11] at A11 Ex11 st11
      have n0_b11 : n0 ≤ b11 := Nat.le_trans (Nat.le_trans (Nat.le_of_eq O0.1.symm) O0.2.1) (Nat.le_trans E9.1 (Nat.le_of_eq g11.symm))
      have H12 := CHv.ext E11 H10
      have V11 : Arv Z T11.heap b11 k11 .char (1 : Int32) [(.int 0)] (.int 0) := (Arv.new A11 (by decide)).pad (pad_rep [] (.int 0) 1)
      refine ogo (S' := T11.setTop (mkF m 53 #[.val (.int x_), .val (.int (((own_ushr x_ (16 : Int32)) &&& (3 : Int32)) % (3 : Int32))), .val (.int (nar .char (x_ &&& (255 : Int32)))), .val (.int (nar .char ((own_ushr x_ (8 : Int32)) &&& (255 : Int32))))] [(.ref b11), (.ref b9), (.ref b9)])) st11 ?_
      refine o_dup X11 hx (hb hby d6_53) rfl ?_
      refine o_iconst X11 hx (0 : Int32) (hb hby d6_54) rfl ?_
      refine o_iloadN X11 hx (hb hby d6_55) rfl ?_
      obtain ⟨cl13, Ar13, q13, S13, N13z, H13, G13⟩ := (id V11)
      obtain ⟨T13, _, X13, rfl, W13, st13⟩ := stC X11 hx hZ rfl Ar13 (j := (0 : Int32)) (inb_of S13 ⟨by decide, by decide⟩) (g := (mkF m 56 #[.val (.int x_), .val (.int (((own_ushr x_ (16 : Int32)) &&& (3 : Int32)) % (3 : Int32))), .val (.int (nar .char (x_ &&& (255 : Int32)))), .val (.int (nar .char ((own_ushr x_ (8 : Int32)) &&& (255 : Int32))))] [(.int (nar .char (x_ &&& (255 : Int32)))), (.int (0 : Int32)), (.ref b11), (.ref b11), (.ref b9), (.ref b9)])) rfl rfl (hb hby d6_56)
      rw [own_narc] at W13
      have V13 : Arv Z T13.heap b11 k11 .char (1 : Int32) [(.int (nar .char (x_ &&& (255 : Int32))))] (.int 0) := Arv.set Ar13 q13 S13 N13z H13 G13 (fits_nar_char _) W13 0 rfl (Nat.le_of_ble_eq_true rfl)
      have N13 := Fr.snoc X13 N0 n0_b11
      have H14 := CHv.wr W13 (Safe.exa hZ.alike Ex11 (by decide) (by decide)) H12
      refine ogo (S' := T13.setTop (mkF m 57 #[.val (.int x_), .val (.int (((own_ushr x_ (16 : Int32)) &&& (3 : Int32)) % (3 : Int32))), .val (.int (nar .char (x_ &&& (255 : Int32)))), .val (.int (nar .char ((own_ushr x_ (8 : Int32)) &&& (255 : Int32))))] [(.ref b11), (.ref b9), (.ref b9)])) st13 ?_
      have c16 := (Fld.other W13 (Fld.ext E11 F9_value) (Or.inl (Nat.ne_of_lt (Nat.lt_of_lt_of_le (Nat.lt_of_lt_of_le A9.lt (Nat.le_refl _)) (Nat.le_of_eq g11.symm)))))
      have c17 := (Fld.other W13 (Fld.ext E11 F9_coder) (Or.inl (Nat.ne_of_lt (Nat.lt_of_lt_of_le (Nat.lt_of_lt_of_le A9.lt (Nat.le_refl _)) (Nat.le_of_eq g11.symm)))))
      have c18 := (Safe.wr W13 (Safe.exa hZ.alike Ex11 (by decide) (by decide)) H12 (Safe.ext E11 H10 (Safe.ext E9 H0 (Safe.new (Nat.le_of_eq g9.symm)))))
      obtain ⟨_, _, ⟨T15, L15, kc15, n15⟩, -, X15, ⟨Lc15, hQ15, l15, y15, z15⟩, st15⟩ := X13.specialBack hx (y := yM1) rfl hown (mvT hZ w8) (mvT hZ w9) (mvT hZ w10) (by decide) (backOf (W := 1) (rm_new1_1 l Z a0 hw [] z_CS v_FMT s_EMPTY b9 b11 k11 (nar .char (x_ &&& (255 : Int32))) T13.heap n0 SB (((O0.ext E9).ext E11).wr W13 n0_b11) (Exa.wr W13 (Exa.ext E11 A9)) c16 c17 V13 n0_b9 (own_ok_mk _).2) hZ w10 w6 (by decide) (by decide)) (g := (mkF m 57 #[.val (.int x_), .val (.int (((own_ushr x_ (16 : Int32)) &&& (3 : Int32)) % (3 : Int32))), .val (.int (nar .char (x_ &&& (255 : Int32)))), .val (.int (nar .char ((own_ushr x_ (8 : Int32)) &&& (255 : Int32))))] [(.ref b11), (.ref b9), (.ref b9)])) rfl (by rw [hml]; rfl) (Steps.refl _) (a := b9) (argsL := [(.ref b11)]) (rest := [(.ref b9)]) (lenOf own_pd4 rfl) rfl (by show 2 * 0 + _ ≤ _; exact Nat.le_of_eq rfl) (hb hby d6_57) (fun _ _ => ⟨rfl, rfl, (by decide : 2 + 1 ≤ _), (by decide : 5 + 1 ≤ _)⟩)
      dsimp only [Pt.U, Pt.locs, Pt.cells, Pt.slots] at X15 l15 y15 z15 st15 hQ15
      subst l15 y15 z15
      obtain ⟨ba_15, kb_15, rfl, Nq15, K15, p15_0, p15_1, p15_2, p15_3, p15_4⟩ := hQ15
      have N15 := Fr.app N13 Nq15
      have H19 := CHv.keep K15 (allS c18 all0) H14
      have n0_ba_15 : n0 ≤ ba_15 := Nat.le_trans (Nat.le_trans (Nat.le_of_eq O0.1.symm) O0.2.1) (Nat.le_trans (Nat.le_trans (Nat.le_trans E9.1 E11.1) (Keep.of_wr W13).1) p15_0)
      refine otr (S' := T15.setTop (mkF m 60 #[.val (.int x_), .val (.int (((own_ushr x_ (16 : Int32)) &&& (3 : Int32)) % (3 : Int32))), .val (.int (nar .char (x_ &&& (255 : Int32)))), .val (.int (nar .char ((own_ushr x_ (8 : Int32)) &&& (255 : Int32))))] [(.ref b9)])) st15 ?_
      have mk_ := own_mk1 hc1 hc8
      refine oendS X15 hlk hS0 (Nat.le_trans (Nat.zero_le _) (Nat.le_trans (Nat.le_trans (Nat.le_trans E9.1 E11.1) (Keep.of_wr W13).1) K15.1)) rfl hZ hEL hs0 (CHr.trans (CHr.trans (CHr.trans (CHr.trans (CHr.refl H0) (CHr.ext E9 H0)) (CHr.ext E11 H10)) (CHr.wr W13 (Safe.exa hZ.alike Ex11 (by decide) (by decide)) H12)) (CHr.keep K15 (allS c18 all0) H14)) (v := some (.ref b9)) (fun h => by rw [hret] at h; cases h) (fun fs hr => retOut X15 hx (t := (.object "java/lang/String")) (i := .areturn) hret rfl (Or.inr (Or.inr (Or.inr (Or.inr ⟨rfl, rfl, rfl⟩)))) (hb hby d6_60) hr) (by decide) (by decide) ?_
      show own_Q_mk Z _ _ _ _ h0 n0 _ T15.heap _
      exact ⟨b9, ba_15, kb_15, rfl, N15, (((((Keep.refl h0 []).ext E9).ext E11).wr W13 (Or.inr (Nat.le_trans E9.1 (Nat.le_of_eq g11.symm)))).trans K15 (allS (Or.inr (Nat.le_trans (Nat.le_refl _) (Nat.le_of_eq g9.symm))) all0)), (Nat.le_trans (Nat.le_refl _) (Nat.le_of_eq g9.symm)), (Nat.lt_of_lt_of_le p15_1.lt (Nat.le_refl _)), p15_2, p15_4, p15_3, (by rw [mk_.1, mk_.2]; exact p15_1), (own_mk_sh x_)⟩
    · refine o_icmpYes X0 hx 61 (hb hby d6_43) (feq hc8).2 (by decide) (by decide) ?_
      obtain ⟨T20, _, X20, rfl, E20, A20, D20, -, st20⟩ := newO X0 hx hZ hown w4 w5 w6 e0 (g := (mkF m 61 #[.val (.int x_), .val (.int (((own_ushr x_ (16 : Int32)) &&& (3 : Int32)) % (3 : Int32))), .val (.int (nar .char (x_ &&& (255 : Int32)))), .val (.int (nar .char ((own_ushr x_ (8 : Int32)) &&& (255 : Int32))))] [])) rfl (hb hby d6_61) (by decide) (by decide)
      obtain ⟨b20, g20⟩ : ∃ z, z = h0.size := ⟨_, rfl⟩
      rw [← g20] at A20 D20 st20
      have n0_b20 : n0 ≤ b20 := Nat.le_trans (Nat.le_trans (Nat.le_of_eq O0.1.symm) O0.2.1) (Nat.le_trans (Nat.le_refl _) (Nat.le_of_eq g20.symm))
      have H21 := CHv.ext E20 H0
      have F20_value : Fld Z T20.heap b20 "java/lang/String" "value" "[B" .null := D20 (Or.inr w20) (ty := (.array .byte)) (by decide)
      have F20_coder : Fld Z T20.heap b20 "java/lang/String" "coder" "B" (.int (0 : Int32)) := D20 (Or.inr w21) (ty := .byte) (by decide)
      refine ogo (S' := T20.setTop (mkF m 64 #[.val (.int x_), .val (.int (((own_ushr x_ (16 : Int32)) &&& (3 : Int32)) % (3 : Int32))), .val (.int (nar .char (x_ &&& (255 : Int32)))), .val (.int (nar .char ((own_ushr x_ (8 : Int32)) &&& (255 : Int32))))] [(.ref b20)])) st20 ?_
      refine o_dup X20 hx (hb hby d6_64) rfl ?_
      refine o_iconst X20 hx (2 : Int32) (hb hby d6_65) rfl ?_
      obtain ⟨T22, _, k22, X22, rfl, E22, A22, Ex22, st22⟩ := newPE (aty := .char) X20 hx hZ w7 rfl (g := (mkF m 66 #[.val (.int x_), .val (.int (((own_ushr x_ (16 : Int32)) &&& (3 : Int32)) % (3 : Int32))), .val (.int (nar .char (x_ &&& (255 : Int32)))), .val (.int (nar .char ((own_ushr x_ (8 : Int32)) &&& (255 : Int32))))] [(.int (2 : Int32)), (.ref b20), (.ref b20)])) rfl (hb hby d6_66) rfl (by decide) (cap := 2) (by decide) (by decide) (by decide) (by decide) (ad := "[C") rfl
      obtain ⟨b22, g22⟩ : ∃ z, z = T20.heap.size := ⟨_, rfl⟩
      rw [← g22] at A22 Ex22 st22
      have n0_b22 : n0 ≤ b22 := Nat.le_trans (Nat.le_trans (Nat.le_of_eq O0.1.symm) O0.2.1) (Nat.le_trans E20.1 (Nat.le_of_eq g22.symm))
      have H23 := CHv.ext E22 H21
      have V22 : Arv Z T22.heap b22 k22 .char (2 : Int32) [(.int 0), (.int 0)] (.int 0) := (Arv.new A22 (by decide)).pad (pad_rep [] (.int 0) 2)
      refine ogo (S' := T22.setTop (mkF m 68 #[.val (.int x_), .val (.int (((own_ushr x_ (16 : Int32)) &&& (3 : Int32)) % (3 : Int32))), .val (.int (nar .char (x_ &&& (255 : Int32)))), .val (.int (nar .char ((own_ushr x_ (8 : Int32)) &&& (255 : Int32))))] [(.ref b22), (.ref b20), (.ref b20)])) st22 ?_
      refine o_dup X22 hx (hb hby d6_68) rfl ?_
      refine o_iconst X22 hx (0 : Int32) (hb hby d6_69) rfl ?_
      refine o_iloadN X22 hx (hb hby d6_70) rfl ?_
      obtain ⟨cl24, Ar24, q24, S24, N24z, H24, G24⟩ := (id V22)
      obtain ⟨T24, _, X24, rfl, W24, st24⟩ := stC X22 hx hZ rfl Ar24 (j := (0 : Int32)) (inb_of S24 ⟨by decide, by decide⟩) (g := (mkF m 71 #[.val (.int x_), .val (.int (((own_ushr x_ (16 : Int32)) &&& (3 : Int32)) % (3 : Int32))), .val (.int (nar .char (x_ &&& (255 : Int32)))), .val (.int (nar .char ((own_ushr x_ (8 : Int32)) &&& (255 : Int32))))] [(.int (nar .char (x_ &&& (255 : Int32)))), (.int (0 : Int32)), (.ref b22), (.ref b22), (.ref b20), (.ref b20)])) rfl rfl (hb hby d6_71)
      rw [own_narc] at W24
      have V24 : Arv Z T24.heap b22 k22 .char (2 : Int32) [(.int (nar .char (x_ &&& (255 : Int32)))), (.int 0)] (.int 0) := Arv.set Ar24 q24 S24 N24z H24 G24 (fits_nar_char _) W24 0 rfl (Nat.le_of_ble_eq_true rfl)
      have N24 := Fr.snoc X24 N0 n0_b22
      have H25 := CHv.wr W24 (Safe.exa hZ.alike Ex22 (by decide) (by decide)) H23
      refine ogo (S' := T24.setTop (mkF m 72 #[.val (.int x_), .val (.int (((own_ushr x_ (16 : Int32)) &&& (3 : Int32)) % (3 : Int32))), .val (.int (nar .char (x_ &&& (255 : Int32)))), .val (.int (nar .char ((own_ushr x_ (8 : Int32)) &&& (255 : Int32))))] [(.ref b22), (.ref b20), (.ref b20)])) st24 ?_
      refine o_dup X24 hx (hb hby d6_72) rfl ?_
      refine o_iconst X24 hx (1 : Int32) (hb hby d6_73) rfl ?_
      refine o_iloadN X24 hx (hb hby d6_74) rfl ?_
      obtain ⟨cl26, Ar26, q26, S26, N26z, H26, G26⟩ := (id V24)
      obtain ⟨T26, _, X26, rfl, W26, st26⟩ := stC X24 hx hZ rfl Ar26 (j := (1 : Int32)) (inb_of S26 ⟨by decide, by decide⟩) (g := (mkF m 75 #[.val (.int x_), .val (.int (((own_ushr x_ (16 : Int32)) &&& (3 : Int32)) % (3 : Int32))), .val (.int (nar .char (x_ &&& (255 : Int32)))), .val (.int (nar .char ((own_ushr x_ (8 : Int32)) &&& (255 : Int32))))] [(.int (nar .char ((own_ushr x_ (8 : Int32)) &&& (255 : Int32)))), (.int (1 : Int32)), (.ref b22), (.ref b22), (.ref b20), (.ref b20)])) rfl rfl (hb hby d6_75)
      rw [own_narc] at W26
      have V26 : Arv Z T26.heap b22 k22 .char (2 : Int32) [(.int (nar .char (x_ &&& (255 : Int32)))), (.int (nar .char ((own_ushr x_ (8 : Int32)) &&& (255 : Int32))))] (.int 0) := Arv.set Ar26 q26 S26 N26z H26 G26 (fits_nar_char _) W26 1 rfl (Nat.le_of_ble_eq_true rfl)
      have N26 := Fr.snoc X26 N24 n0_b22
      have H27 := CHv.wr W26 (Safe.exa hZ.alike (Exa.wr W24 Ex22) (by decide) (by decide)) H25
      refine ogo (S' := T26.setTop (mkF m 76 #[.val (.int x_), .val (.int (((own_ushr x_ (16 : Int32)) &&& (3 : Int32)) % (3 : Int32))), .val (.int (nar .char (x_ &&& (255 : Int32)))), .val (.int (nar .char ((own_ushr x_ (8 : Int32)) &&& (255 : Int32))))] [(.ref b22), (.ref b20), (.ref b20)])) st26 ?_
      have c29 := (Fld.other W26 (Fld.other W24 (Fld.ext E22 F20_value) (Or.inl (Nat.ne_of_lt (Nat.lt_of_lt_of_le (Nat.lt_of_lt_of_le A20.lt (Nat.le_refl _)) (Nat.le_of_eq g22.symm))))) (Or.inl (Nat.ne_of_lt (Nat.lt_of_lt_of_le (Nat.lt_of_lt_of_le A20.lt (Nat.le_refl _)) (Nat.le_of_eq g22.symm)))))
      have c30 := (Fld.other W26 (Fld.other W24 (Fld.ext E22 F20_coder) (Or.inl (Nat.ne_of_lt (Nat.lt_of_lt_of_le (Nat.lt_of_lt_of_le A20.lt (Nat.le_refl _)) (Nat.le_of_eq g22.symm))))) (Or.inl (Nat.ne_of_lt (Nat.lt_of_lt_of_le (Nat.lt_of_lt_of_le A20.lt (Nat.le_refl _)) (Nat.le_of_eq g22.symm)))))
      have c31 := (Safe.wr W26 (Safe.exa hZ.alike (Exa.wr W24 Ex22) (by decide) (by decide)) H25 (Safe.wr W24 (Safe.exa hZ.alike Ex22 (by decide) (by decide)) H23 (Safe.ext E22 H21 (Safe.ext E20 H0 (Safe.new (Nat.le_of_eq g20.symm))))))
      obtain ⟨_, _, ⟨T28, L28, kc28, n28⟩, -, X28, ⟨Lc28, hQ28, l28, y28, z28⟩, st28⟩ := X26.specialBack hx (y := yM1) rfl hown (mvT hZ w8) (mvT hZ w9) (mvT hZ w10) (by decide) (backOf (W := 1) (rm_new1_2 l Z a0 hw [] z_CS v_FMT s_EMPTY b20 b22 k22 (nar .char (x_ &&& (255 : Int32))) (nar .char ((own_ushr x_ (8 : Int32)) &&& (255 : Int32))) T26.heap n0 SB ((((O0.ext E20).ext E22).wr W24 n0_b22).wr W26 n0_b22) (Exa.wr W26 (Exa.wr W24 (Exa.ext E22 A20))) c29 c30 V26 n0_b20 (own_ok_mk _).2 (own_ok_mk _).2) hZ w10 w6 (by decide) (by decide)) (g := (mkF m 76 #[.val (.int x_), .val (.int (((own_ushr x_ (16 : Int32)) &&& (3 : Int32)) % (3 : Int32))), .val (.int (nar .char (x_ &&& (255 : Int32)))), .val (.int (nar .char ((own_ushr x_ (8 : Int32)) &&& (255 : Int32))))] [(.ref b22), (.ref b20), (.ref b20)])) rfl (by rw [hml]; rfl) (Steps.refl _) (a := b20) (argsL := [(.ref b22)]) (rest := [(.ref b20)]) (lenOf own_pd4 rfl) rfl (by show 2 * 0 + _ ≤ _; exact Nat.le_of_eq rfl) (hb hby d6_76) (fun _ _ => ⟨rfl, rfl, (by decide : 2 + 1 ≤ _), (by decide : 6 + 2 ≤ _)⟩)
      dsimp only [Pt.U, Pt.locs, Pt.cells, Pt.slots] at X28 l28 y28 z28 st28 hQ28
      subst l28 y28 z28
      obtain ⟨ba_28, kb_28, rfl, Nq28, K28, p28_0, p28_1, p28_2, p28_3, p28_4⟩ := hQ28
      have N28 := Fr.app N26 Nq28
      have H32 := CHv.keep K28 (allS c31 all0) H27
      have n0_ba_28 : n0 ≤ ba_28 := Nat.le_trans (Nat.le_trans (Nat.le_of_eq O0.1.symm) O0.2.1) (Nat.le_trans (Nat.le_trans (Nat.le_trans (Nat.le_trans E20.1 E22.1) (Keep.of_wr W24).1) (Keep.of_wr W26).1) p28_0)
      refine otr (S' := T28.setTop (mkF m 79 #[.val (.int x_), .val (.int (((own_ushr x_ (16 : Int32)) &&& (3 : Int32)) % (3 : Int32))), .val (.int (nar .char (x_ &&& (255 : Int32)))), .val (.int (nar .char ((own_ushr x_ (8 : Int32)) &&& (255 : Int32))))] [(.ref b20)])) st28 ?_
      have mk_ := own_mk2 hc1 hc8
      refine oendS X28 hlk hS0 (Nat.le_trans (Nat.zero_le _) (Nat.le_trans (Nat.le_trans (Nat.le_trans (Nat.le_trans E20.1 E22.1) (Keep.of_wr W24).1) (Keep.of_wr W26).1) K28.1)) rfl hZ hEL hs0 (CHr.trans (CHr.trans (CHr.trans (CHr.trans (CHr.trans (CHr.refl H0) (CHr.ext E20 H0)) (CHr.ext E22 H21)) (CHr.wr W24 (Safe.exa hZ.alike Ex22 (by decide) (by decide)) H23)) (CHr.wr W26 (Safe.exa hZ.alike (Exa.wr W24 Ex22) (by decide) (by decide)) H25)) (CHr.keep K28 (allS c31 all0) H27)) (v := some (.ref b20)) (fun h => by rw [hret] at h; cases h) (fun fs hr => retOut X28 hx (t := (.object "java/lang/String")) (i := .areturn) hret rfl (Or.inr (Or.inr (Or.inr (Or.inr ⟨rfl, rfl, rfl⟩)))) (hb hby d6_79) hr) (by decide) (by decide) ?_
      show own_Q_mk Z _ _ _ _ h0 n0 _ T28.heap _
      exact ⟨b20, ba_28, kb_28, rfl, N28, ((((((Keep.refl h0 []).ext E20).ext E22).wr W24 (Or.inr (Nat.le_trans E20.1 (Nat.le_of_eq g22.symm)))).wr W26 (Or.inr (Nat.le_trans E20.1 (Nat.le_of_eq g22.symm)))).trans K28 (allS (Or.inr (Nat.le_trans (Nat.le_refl _) (Nat.le_of_eq g20.symm))) all0)), (Nat.le_trans (Nat.le_refl _) (Nat.le_of_eq g20.symm)), (Nat.lt_of_lt_of_le p28_1.lt (Nat.le_refl _)), p28_2, p28_4, p28_3, (by rw [mk_.1, mk_.2]; exact p28_1), (own_mk_sh x_)⟩
theorem d7_0 : decode jdk_42_method_152_code 0 = .ok (.getstatic 38, 3) := by decide +kernel
theorem d7_3 : decode jdk_42_method_152_code 3 = .ok (.ifCond .eq 10, 3) := by decide +kernel
theorem d7_6 : decode jdk_42_method_152_code 6 = .ok (.aload_n 0, 1) := by decide +kernel
theorem d7_7 : decode jdk_42_method_152_code 7 = .ok (.getfield 15, 3) := by decide +kernel
theorem d7_10 : decode jdk_42_method_152_code 10 = .ok (.goto 4, 3) := by decide +kernel
theorem d7_14 : decode jdk_42_method_152_code 14 = .ok (.ireturn, 1) := by decide +kernel
def own_Q_coder (Z : State) (z_CS : Int32) (v_FMT : Value) (s_EMPTY : Addr) (x_ : Addr) (h0 : Heap) (n0 : Nat) (v : Option Value) (h : Heap) (L : List Loc) : Prop := (v = some (.int (0 : Int32))) ∧ (Fr n0 L) ∧ (h = h0)
abbrev yM6 : MethodName := ⟨"java/lang/String", "coder", "()B"⟩
set_option maxRecDepth 65536 in
set_option maxHeartbeats 40000000 in
theorem rm_coder (l : Launch) (Z : State) (a0 : Array Value) (hw : ∀ d ∈ tables_1, d.before a0 Z = true) (ws : List Jvm.Cond) (z_CS : Int32) (v_FMT : Value) (s_EMPTY : Addr) (x_ : Addr) (h0 : Heap) (n0 : Nat) (SB : own_Start Z z_CS v_FMT s_EMPTY) (O0 : Old Z n0 h0) (pr0 : Fld Z h0 x_ "java/lang/String" "coder" "B" (.int (0 : Int32))) :
    oMet l Z yM6 jdk_42_method_152_code 1 (some .byte) ws ({ frames := 0, cells := 0, slots := 0, locals := 0 } : Room) 0 0 #[(.ref x_)] h0 (own_Q_coder Z z_CS v_FMT s_EMPTY x_ h0 n0) := by
  refine oenter own_pn0 #[.val (.ref x_)] (fun m => by first | (simp [entryFrame, mkF, argsToLocals, Value.category]; done) | rfl) ?_
  intro p e s m below meth c s₁ X0 hx hZ hby hml hret hown0 hnm hlk e0
  have hown : s.vm.findClass "java/lang/String" = some m.cls := hown0
  have N0 := Fr.nil n0
  obtain ⟨S_CS, H_CS, S_FMT, R_FMT, S_EMPTY, E_EMPTY, F_EMPTY⟩ := (id SB)
  have w25 := hw _ (List.mem_of_getElem? (i := 25) rfl)
  have w97 := hw _ (List.mem_of_getElem? (i := 97) rfl)
  obtain ⟨T1, X1, e1, st1⟩ := getS2 X0 hx hZ hown (host := "") (Or.inl w97) Via.refl e0 (Sta.ext O0.2 S_CS) (g := (mkF m 0 #[.val (.ref x_)] [])) rfl (hb hby d7_0)
  refine ogo (S' := T1.setTop (mkF m 3 #[.val (.ref x_)] [(.int z_CS)])) st1 ?_
  refine o_ifNo X1 hx (hb hby d7_3) (feq H_CS).1 ?_
  refine o_aloadN X1 hx (hb hby d7_6) rfl rfl ?_
  obtain ⟨T2, X2, e2, st2⟩ := getF X1 hx hZ hown (host := "") (Or.inl w25) Via.refl e1 pr0 (g := (mkF m 7 #[.val (.ref x_)] [(.ref x_)])) rfl rfl (hb hby d7_7)
  refine ogo (S' := T2.setTop (mkF m 10 #[.val (.ref x_)] [(.int (0 : Int32))])) st2 ?_
  refine o_goto X2 hx 14 (hb hby d7_10) (by decide) (by decide) ?_
  refine oend X2 hlk (v := some (.int (0 : Int32))) (fun h => by rw [hret] at h; cases h) (fun fs hr => retN X2 hx (t := .byte) hret (by simp) (hb hby d7_14) hr) (by decide) (by decide) ?_
  show own_Q_coder Z _ _ _ _ h0 n0 _ T2.heap _
  rw [e2]
  exact ⟨rfl, N0, rfl⟩
theorem own_pd5 : parseMethodDescriptor "()B" = some ⟨[], some .byte⟩ := by decide +kernel
theorem d8_0 : decode jdk_42_method_54_code 0 = .ok (.aload_n 0, 1) := by decide +kernel
theorem d8_1 : decode jdk_42_method_54_code 1 = .ok (.getfield 9, 3) := by decide +kernel
theorem d8_4 : decode jdk_42_method_54_code 4 = .ok (.arraylength, 1) := by decide +kernel
theorem d8_5 : decode jdk_42_method_54_code 5 = .ok (.aload_n 0, 1) := by decide +kernel
theorem d8_6 : decode jdk_42_method_54_code 6 = .ok (.invokevirtual 335, 3) := by decide +kernel
theorem d8_9 : decode jdk_42_method_54_code 9 = .ok (.ishr, 1) := by decide +kernel
theorem d8_10 : decode jdk_42_method_54_code 10 = .ok (.ireturn, 1) := by decide +kernel
def own_Q_len_0 (Z : State) (z_CS : Int32) (v_FMT : Value) (s_EMPTY : Addr) (x_ : Addr) (ba_ : Addr) (kb_ : ClassId) (vs_ : List Value) (h0 : Heap) (n0 : Nat) (v : Option Value) (h : Heap) (L : List Loc) : Prop := (v = some (.int (0 : Int32))) ∧ (Fr n0 L) ∧ (h = h0)
abbrev yM7 : MethodName := ⟨"java/lang/String", "length", "()I"⟩
set_option maxRecDepth 65536 in
set_option maxHeartbeats 40000000 in
theorem rm_len_0 (l : Launch) (Z : State) (a0 : Array Value) (hw : ∀ d ∈ tables_1, d.before a0 Z = true) (ws : List Jvm.Cond) (z_CS : Int32) (v_FMT : Value) (s_EMPTY : Addr) (x_ : Addr) (ba_ : Addr) (kb_ : ClassId) (vs_ : List Value) (h0 : Heap) (n0 : Nat) (SB : own_Start Z z_CS v_FMT s_EMPTY) (O0 : Old Z n0 h0) (pr0 : Exa Z h0 x_ "java/lang/String") (pr1 : Fld Z h0 x_ "java/lang/String" "coder" "B" (.int (0 : Int32))) (pr2 : Fld Z h0 x_ "java/lang/String" "value" "[B" (.ref ba_)) (pr3 : Arv Z h0 ba_ kb_ .byte (0 : Int32) vs_ (.int 0)) :
    oMet l Z yM7 jdk_42_method_54_code 1 (some .int) ws ({ frames := 1, cells := 0, slots := 0, locals := 13 } : Room) 0 0 #[(.ref x_)] h0 (own_Q_len_0 Z z_CS v_FMT s_EMPTY x_ ba_ kb_ vs_ h0 n0) := by
  refine oenter own_pn0 #[.val (.ref x_)] (fun m => by first | (simp [entryFrame, mkF, argsToLocals, Value.category]; done) | rfl) ?_
  intro p e s m below meth c s₁ X0 hx hZ hby hml hret hown0 hnm hlk e0
  have hown : s.vm.findClass "java/lang/String" = some m.cls := hown0
  have N0 := Fr.nil n0
  obtain ⟨S_CS, H_CS, S_FMT, R_FMT, S_EMPTY, E_EMPTY, F_EMPTY⟩ := (id SB)
  have w6 := hw _ (List.mem_of_getElem? (i := 6) rfl)
  have w24 := hw _ (List.mem_of_getElem? (i := 24) rfl)
  have w92 := hw _ (List.mem_of_getElem? (i := 92) rfl)
  have w93 := hw _ (List.mem_of_getElem? (i := 93) rfl)
  have w94 := hw _ (List.mem_of_getElem? (i := 94) rfl)
  have w95 := hw _ (List.mem_of_getElem? (i := 95) rfl)
  have w96 := hw _ (List.mem_of_getElem? (i := 96) rfl)
  refine o_aloadN X0 hx (hb hby d8_0) rfl rfl ?_
  obtain ⟨T1, X1, e1, st1⟩ := getF X0 hx hZ hown (host := "") (Or.inl w24) Via.refl e0 pr2 (g := (mkF m 1 #[.val (.ref x_)] [(.ref x_)])) rfl rfl (hb hby d8_1)
  refine ogo (S' := T1.setTop (mkF m 4 #[.val (.ref x_)] [(.ref ba_)])) st1 ?_
  obtain ⟨cl2, Ar2, -, S2, N2z, -, -⟩ := (id pr3)
  refine ogo (S' := T1.setTop (mkF m 5 #[.val (.ref x_)] [(.int (0 : Int32))])) (fun _ kt_ => X1.arraylength hx (by rw [e1]; exact Ar2.1) (State.isArrayOf_alike hZ.alike Ar2.2.1) (g := (mkF m 4 #[.val (.ref x_)] [(.ref ba_)])) rfl rfl (hb hby d8_4) _ (by rw [len_of S2 N2z]; exact kt_)) ?_
  refine o_aloadN X1 hx (hb hby d8_5) rfl rfl ?_
  obtain ⟨cq3, kq3, q3a, q3b, q3c⟩ := isOf hZ e1 pr0
  obtain ⟨_, _, ⟨T3, L3, kc3, n3⟩, -, X3, ⟨Lc3, hQ3, l3, y3, z3⟩, st3⟩ := X1.virtualBack hx (y := yM6) (z := yM6) hown (mvT hZ w92) (mvT hZ w93) (notFace_of_selects (args := #[]) (mvT hZ w95)) (mvT hZ w95) (mvT hZ w94) (by decide) (backOf (W := 1) (rm_coder l Z a0 hw [] z_CS v_FMT s_EMPTY x_ h0 n0 SB O0 pr1) hZ w96 w6 (by decide) (by decide)) q3a q3c (g := (mkF m 6 #[.val (.ref x_)] [(.ref x_), (.int (0 : Int32))])) rfl (by rw [hml]; rfl) (Steps.refl _) (argsL := []) (rest := [(.int (0 : Int32))]) (lenOf own_pd5 rfl) rfl (by show 2 * 0 + _ ≤ _; exact Nat.le_of_eq rfl) (hb hby d8_6) (fun _ _ => ⟨rfl, e1, (by decide : 0 + 0 ≤ _), (by decide : 0 + 0 ≤ _)⟩)
  dsimp only [Pt.U, Pt.locs, Pt.cells, Pt.slots] at X3 l3 y3 z3 st3 hQ3
  subst l3 y3 z3
  obtain ⟨rfl, Nq3, e3⟩ := hQ3
  have N3 := Fr.app N0 Nq3
  refine otr (S' := T3.setTop (mkF m 9 #[.val (.ref x_)] [(.int (0 : Int32)), (.int (0 : Int32))])) st3 ?_
  refine o_ishr X3 hx (hb hby d8_9) ?_
  refine oend X3 hlk (v := some (.int (0 : Int32))) (fun h => by rw [hret] at h; cases h) (fun fs hr => retOut X3 hx (t := .int) (i := .ireturn) hret rfl (Or.inl ⟨rfl, Or.inl rfl, _, rfl⟩) (hb hby d8_10) hr) (by decide) (by decide) ?_
  show own_Q_len_0 Z _ _ _ _ _ _ _ h0 n0 _ T3.heap _
  rw [e3]
  exact ⟨rfl, N3, rfl⟩
def own_Q_len_1 (Z : State) (z_CS : Int32) (v_FMT : Value) (s_EMPTY : Addr) (x_ : Addr) (ba_ : Addr) (kb_ : ClassId) (vs_ : List Value) (h0 : Heap) (n0 : Nat) (v : Option Value) (h : Heap) (L : List Loc) : Prop := (v = some (.int (1 : Int32))) ∧ (Fr n0 L) ∧ (h = h0)
set_option maxRecDepth 65536 in
set_option maxHeartbeats 40000000 in
theorem rm_len_1 (l : Launch) (Z : State) (a0 : Array Value) (hw : ∀ d ∈ tables_1, d.before a0 Z = true) (ws : List Jvm.Cond) (z_CS : Int32) (v_FMT : Value) (s_EMPTY : Addr) (x_ : Addr) (ba_ : Addr) (kb_ : ClassId) (vs_ : List Value) (h0 : Heap) (n0 : Nat) (SB : own_Start Z z_CS v_FMT s_EMPTY) (O0 : Old Z n0 h0) (pr0 : Exa Z h0 x_ "java/lang/String") (pr1 : Fld Z h0 x_ "java/lang/String" "coder" "B" (.int (0 : Int32))) (pr2 : Fld Z h0 x_ "java/lang/String" "value" "[B" (.ref ba_)) (pr3 : Arv Z h0 ba_ kb_ .byte (1 : Int32) vs_ (.int 0)) :
    oMet l Z yM7 jdk_42_method_54_code 1 (some .int) ws ({ frames := 1, cells := 0, slots := 0, locals := 13 } : Room) 0 0 #[(.ref x_)] h0 (own_Q_len_1 Z z_CS v_FMT s_EMPTY x_ ba_ kb_ vs_ h0 n0) := by
  refine oenter own_pn0 #[.val (.ref x_)] (fun m => by first | (simp [entryFrame, mkF, argsToLocals, Value.category]; done) | rfl) ?_
  intro p e s m below meth c s₁ X0 hx hZ hby hml hret hown0 hnm hlk e0
  have hown : s.vm.findClass "java/lang/String" = some m.cls := hown0
  have N0 := Fr.nil n0
  obtain ⟨S_CS, H_CS, S_FMT, R_FMT, S_EMPTY, E_EMPTY, F_EMPTY⟩ := (id SB)
  have w6 := hw _ (List.mem_of_getElem? (i := 6) rfl)
  have w24 := hw _ (List.mem_of_getElem? (i := 24) rfl)
  have w92 := hw _ (List.mem_of_getElem? (i := 92) rfl)
  have w93 := hw _ (List.mem_of_getElem? (i := 93) rfl)
  have w94 := hw _ (List.mem_of_getElem? (i := 94) rfl)
  have w95 := hw _ (List.mem_of_getElem? (i := 95) rfl)
  have w96 := hw _ (List.mem_of_getElem? (i := 96) rfl)
  refine o_aloadN X0 hx (hb hby d8_0) rfl rfl ?_
  obtain ⟨T1, X1, e1, st1⟩ := getF X0 hx hZ hown (host := "") (Or.inl w24) Via.refl e0 pr2 (g := (mkF m 1 #[.val (.ref x_)] [(.ref x_)])) rfl rfl (hb hby d8_1)
  refine ogo (S' := T1.setTop (mkF m 4 #[.val (.ref x_)] [(.ref ba_)])) st1 ?_
  obtain ⟨cl2, Ar2, -, S2, N2z, -, -⟩ := (id pr3)
  refine ogo (S' := T1.setTop (mkF m 5 #[.val (.ref x_)] [(.int (1 : Int32))])) (fun _ kt_ => X1.arraylength hx (by rw [e1]; exact Ar2.1) (State.isArrayOf_alike hZ.alike Ar2.2.1) (g := (mkF m 4 #[.val (.ref x_)] [(.ref ba_)])) rfl rfl (hb hby d8_4) _ (by rw [len_of S2 N2z]; exact kt_)) ?_
  refine o_aloadN X1 hx (hb hby d8_5) rfl rfl ?_
  obtain ⟨cq3, kq3, q3a, q3b, q3c⟩ := isOf hZ e1 pr0
  obtain ⟨_, _, ⟨T3, L3, kc3, n3⟩, -, X3, ⟨Lc3, hQ3, l3, y3, z3⟩, st3⟩ := X1.virtualBack hx (y := yM6) (z := yM6) hown (mvT hZ w92) (mvT hZ w93) (notFace_of_selects (args := #[]) (mvT hZ w95)) (mvT hZ w95) (mvT hZ w94) (by decide) (backOf (W := 1) (rm_coder l Z a0 hw [] z_CS v_FMT s_EMPTY x_ h0 n0 SB O0 pr1) hZ w96 w6 (by decide) (by decide)) q3a q3c (g := (mkF m 6 #[.val (.ref x_)] [(.ref x_), (.int (1 : Int32))])) rfl (by rw [hml]; rfl) (Steps.refl _) (argsL := []) (rest := [(.int (1 : Int32))]) (lenOf own_pd5 rfl) rfl (by show 2 * 0 + _ ≤ _; exact Nat.le_of_eq rfl) (hb hby d8_6) (fun _ _ => ⟨rfl, e1, (by decide : 0 + 0 ≤ _), (by decide : 0 + 0 ≤ _)⟩)
  dsimp only [Pt.U, Pt.locs, Pt.cells, Pt.slots] at X3 l3 y3 z3 st3 hQ3
  subst l3 y3 z3
  obtain ⟨rfl, Nq3, e3⟩ := hQ3
  have N3 := Fr.app N0 Nq3
  refine otr (S' := T3.setTop (mkF m 9 #[.val (.ref x_)] [(.int (0 : Int32)), (.int (1 : Int32))])) st3 ?_
  refine o_ishr X3 hx (hb hby d8_9) ?_
  refine oend X3 hlk (v := some (.int (1 : Int32))) (fun h => by rw [hret] at h; cases h) (fun fs hr => retOut X3 hx (t := .int) (i := .ireturn) hret rfl (Or.inl ⟨rfl, Or.inl rfl, _, rfl⟩) (hb hby d8_10) hr) (by decide) (by decide) ?_
  show own_Q_len_1 Z _ _ _ _ _ _ _ h0 n0 _ T3.heap _
  rw [e3]
  exact ⟨rfl, N3, rfl⟩
theorem d9_0 : decode jdk_42_method_154_code 0 = .ok (.getstatic 38, 3) := by decide +kernel
theorem d9_3 : decode jdk_42_method_154_code 3 = .ok (.ifCond .eq 14, 3) := by decide +kernel
theorem d9_6 : decode jdk_42_method_154_code 6 = .ok (.aload_n 0, 1) := by decide +kernel
theorem d9_7 : decode jdk_42_method_154_code 7 = .ok (.getfield 15, 3) := by decide +kernel
theorem d9_10 : decode jdk_42_method_154_code 10 = .ok (.ifCond .ne 7, 3) := by decide +kernel
theorem d9_13 : decode jdk_42_method_154_code 13 = .ok (.iconst 1, 1) := by decide +kernel
theorem d9_14 : decode jdk_42_method_154_code 14 = .ok (.goto 4, 3) := by decide +kernel
theorem d9_18 : decode jdk_42_method_154_code 18 = .ok (.ireturn, 1) := by decide +kernel
def own_Q_isl1 (Z : State) (z_CS : Int32) (v_FMT : Value) (s_EMPTY : Addr) (x_ : Addr) (h0 : Heap) (n0 : Nat) (v : Option Value) (h : Heap) (L : List Loc) : Prop := (v = some (.int (1 : Int32))) ∧ (Fr n0 L) ∧ (h = h0)
abbrev yM8 : MethodName := ⟨"java/lang/String", "isLatin1", "()Z"⟩
set_option maxRecDepth 65536 in
set_option maxHeartbeats 40000000 in
theorem rm_isl1 (l : Launch) (Z : State) (a0 : Array Value) (hw : ∀ d ∈ tables_1, d.before a0 Z = true) (ws : List Jvm.Cond) (z_CS : Int32) (v_FMT : Value) (s_EMPTY : Addr) (x_ : Addr) (h0 : Heap) (n0 : Nat) (SB : own_Start Z z_CS v_FMT s_EMPTY) (O0 : Old Z n0 h0) (pr0 : Fld Z h0 x_ "java/lang/String" "coder" "B" (.int (0 : Int32))) :
    oMet l Z yM8 jdk_42_method_154_code 1 (some .boolean) ws ({ frames := 0, cells := 0, slots := 0, locals := 0 } : Room) 0 0 #[(.ref x_)] h0 (own_Q_isl1 Z z_CS v_FMT s_EMPTY x_ h0 n0) := by
  refine oenter own_pn0 #[.val (.ref x_)] (fun m => by first | (simp [entryFrame, mkF, argsToLocals, Value.category]; done) | rfl) ?_
  intro p e s m below meth c s₁ X0 hx hZ hby hml hret hown0 hnm hlk e0
  have hown : s.vm.findClass "java/lang/String" = some m.cls := hown0
  have N0 := Fr.nil n0
  obtain ⟨S_CS, H_CS, S_FMT, R_FMT, S_EMPTY, E_EMPTY, F_EMPTY⟩ := (id SB)
  have w25 := hw _ (List.mem_of_getElem? (i := 25) rfl)
  have w97 := hw _ (List.mem_of_getElem? (i := 97) rfl)
  obtain ⟨T1, X1, e1, st1⟩ := getS2 X0 hx hZ hown (host := "") (Or.inl w97) Via.refl e0 (Sta.ext O0.2 S_CS) (g := (mkF m 0 #[.val (.ref x_)] [])) rfl (hb hby d9_0)
  refine ogo (S' := T1.setTop (mkF m 3 #[.val (.ref x_)] [(.int z_CS)])) st1 ?_
  refine o_ifNo X1 hx (hb hby d9_3) (feq H_CS).1 ?_
  refine o_aloadN X1 hx (hb hby d9_6) rfl rfl ?_
  obtain ⟨T2, X2, e2, st2⟩ := getF X1 hx hZ hown (host := "") (Or.inl w25) Via.refl e1 pr0 (g := (mkF m 7 #[.val (.ref x_)] [(.ref x_)])) rfl rfl (hb hby d9_7)
  refine ogo (S' := T2.setTop (mkF m 10 #[.val (.ref x_)] [(.int (0 : Int32))])) st2 ?_
  refine o_ifNo X2 hx (hb hby d9_10) (teq (by decide : (0 : Int32) = (0 : Int32))).2 ?_
  refine o_iconst X2 hx (1 : Int32) (hb hby d9_13) rfl ?_
  refine o_goto X2 hx 18 (hb hby d9_14) (by decide) (by decide) ?_
  refine oend X2 hlk (v := some (.int (1 : Int32))) (fun h => by rw [hret] at h; cases h) (fun fs hr => retN X2 hx (t := .boolean) hret (by simp) (hb hby d9_18) hr) (by decide) (by decide) ?_
  show own_Q_isl1 Z _ _ _ _ h0 n0 _ T2.heap _
  rw [e2]
  exact ⟨rfl, N0, rfl⟩
theorem d10_0 : decode jdk_41_method_11_code 0 = .ok (.iload_n 0, 1) := by decide +kernel
theorem d10_1 : decode jdk_41_method_11_code 1 = .ok (.ifCond .lt 8, 3) := by decide +kernel
theorem d10_4 : decode jdk_41_method_11_code 4 = .ok (.iload_n 0, 1) := by decide +kernel
theorem d10_5 : decode jdk_41_method_11_code 5 = .ok (.iload_n 1, 1) := by decide +kernel
theorem d10_6 : decode jdk_41_method_11_code 6 = .ok (.if_icmp .lt 10, 3) := by decide +kernel
theorem d10_16 : decode jdk_41_method_11_code 16 = .ok (.iload_n 0, 1) := by decide +kernel
theorem d10_17 : decode jdk_41_method_11_code 17 = .ok (.ireturn, 1) := by decide +kernel
theorem own_pn3 : plainName "jdk/internal/util/Preconditions" = true := by first | (simp [plainName, overriddenIn]; done) | decide +kernel
def own_Q_pci (Z : State)  (i_ : Int32) (n_ : Int32) (f_ : Value) (h0 : Heap) (n0 : Nat) (v : Option Value) (h : Heap) (L : List Loc) : Prop := (v = some (.int i_)) ∧ (Fr n0 L) ∧ (h = h0)
abbrev yM9 : MethodName := ⟨"jdk/internal/util/Preconditions", "checkIndex", "(IILjava/util/function/BiFunction;)I"⟩
set_option maxRecDepth 65536 in
set_option maxHeartbeats 40000000 in
theorem rm_pci (l : Launch) (Z : State) (a0 : Array Value) (hw : ∀ d ∈ tables_1, d.before a0 Z = true) (ws : List Jvm.Cond)  (i_ : Int32) (n_ : Int32) (f_ : Value) (h0 : Heap) (n0 : Nat) (O0 : Old Z n0 h0) (pr0 : ¬ (i_ < (0 : Int32))) (pr1 : i_ < n_) (pr2 : f_.isRef = true) (pr3 : f_.category = 1) :
    oMet l Z yM9 jdk_41_method_11_code 3 (some .int) ws ({ frames := 0, cells := 0, slots := 0, locals := 0 } : Room) 0 0 #[(.int i_), (.int n_), f_] h0 (own_Q_pci Z  i_ n_ f_ h0 n0) := by
  refine oenter own_pn3 #[.val (.int i_), .val (.int n_), .val f_] (fun m => by first | (simp [entryFrame, mkF, argsToLocals, Value.category, pr3]; done) | rfl | (cases f_ <;> first | (cases pr2; done) | rfl)) ?_
  intro p e s m below meth c s₁ X0 hx hZ hby hml hret hown0 hnm hlk e0
  have hown : s.vm.findClass "jdk/internal/util/Preconditions" = some m.cls := hown0
  have N0 := Fr.nil n0
  refine o_iloadN X0 hx (hb hby d10_0) rfl ?_
  refine o_ifNo X0 hx (hb hby d10_1) (flt pr0).1 ?_
  refine o_iloadN X0 hx (hb hby d10_4) rfl ?_
  refine o_iloadN X0 hx (hb hby d10_5) rfl ?_
  refine o_icmpYes X0 hx 16 (hb hby d10_6) (tlt pr1).1 (by decide) (by decide) ?_
  refine o_iloadN X0 hx (hb hby d10_16) rfl ?_
  refine oend X0 hlk (v := some (.int i_)) (fun h => by rw [hret] at h; cases h) (fun fs hr => retOut X0 hx (t := .int) (i := .ireturn) hret rfl (Or.inl ⟨rfl, Or.inl rfl, _, rfl⟩) (hb hby d10_17) hr) (by decide) (by decide) ?_
  show own_Q_pci Z _ _ _ h0 n0 _ s₁.heap _
  rw [e0]
  exact ⟨rfl, N0, rfl⟩
theorem own_pd6 : parseMethodDescriptor "(IILjava/util/function/BiFunction;)I" = some ⟨[.int, .int, (.object "java/util/function/BiFunction")], some .int⟩ := by decide +kernel
theorem d11_0 : decode jdk_42_method_155_code 0 = .ok (.iload_n 0, 1) := by decide +kernel
theorem d11_1 : decode jdk_42_method_155_code 1 = .ok (.iload_n 1, 1) := by decide +kernel
theorem d11_2 : decode jdk_42_method_155_code 2 = .ok (.getstatic 1053, 3) := by decide +kernel
theorem d11_5 : decode jdk_42_method_155_code 5 = .ok (.invokestatic 1059, 3) := by decide +kernel
theorem d11_8 : decode jdk_42_method_155_code 8 = .ok (.pop, 1) := by decide +kernel
theorem d11_9 : decode jdk_42_method_155_code 9 = .ok (.return_, 1) := by decide +kernel
def own_Q_sci (Z : State) (z_CS : Int32) (v_FMT : Value) (s_EMPTY : Addr) (i_ : Int32) (n_ : Int32) (h0 : Heap) (n0 : Nat) (v : Option Value) (h : Heap) (L : List Loc) : Prop := (v = none) ∧ (Fr n0 L) ∧ (h = h0)
abbrev yM10 : MethodName := ⟨"java/lang/String", "checkIndex", "(II)V"⟩
set_option maxRecDepth 65536 in
set_option maxHeartbeats 40000000 in
theorem rm_sci (l : Launch) (Z : State) (a0 : Array Value) (hw : ∀ d ∈ tables_1, d.before a0 Z = true) (ws : List Jvm.Cond) (z_CS : Int32) (v_FMT : Value) (s_EMPTY : Addr) (i_ : Int32) (n_ : Int32) (h0 : Heap) (n0 : Nat) (SB : own_Start Z z_CS v_FMT s_EMPTY) (O0 : Old Z n0 h0) (pr0 : ¬ (i_ < (0 : Int32))) (pr1 : i_ < n_) :
    oMet l Z yM10 jdk_42_method_155_code 2 none ws ({ frames := 1, cells := 0, slots := 0, locals := 14 } : Room) 0 0 #[(.int i_), (.int n_)] h0 (own_Q_sci Z z_CS v_FMT s_EMPTY i_ n_ h0 n0) := by
  refine oenter own_pn0 #[.val (.int i_), .val (.int n_)] (fun m => by first | (simp [entryFrame, mkF, argsToLocals, Value.category]; done) | rfl) ?_
  intro p e s m below meth c s₁ X0 hx hZ hby hml hret hown0 hnm hlk e0
  have hown : s.vm.findClass "java/lang/String" = some m.cls := hown0
  have N0 := Fr.nil n0
  obtain ⟨S_CS, H_CS, S_FMT, R_FMT, S_EMPTY, E_EMPTY, F_EMPTY⟩ := (id SB)
  have w148 := hw _ (List.mem_of_getElem? (i := 148) rfl)
  have w149 := hw _ (List.mem_of_getElem? (i := 149) rfl)
  have w150 := hw _ (List.mem_of_getElem? (i := 150) rfl)
  have w151 := hw _ (List.mem_of_getElem? (i := 151) rfl)
  have w152 := hw _ (List.mem_of_getElem? (i := 152) rfl)
  refine o_iloadN X0 hx (hb hby d11_0) rfl ?_
  refine o_iloadN X0 hx (hb hby d11_1) rfl ?_
  obtain ⟨T1, X1, e1, st1⟩ := getS2 X0 hx hZ hown (host := "") (Or.inl w148) Via.refl e0 (Sta.ext O0.2 S_FMT) (g := (mkF m 2 #[.val (.int i_), .val (.int n_)] [(.int n_), (.int i_)])) rfl (hb hby d11_2)
  refine ogo (S' := T1.setTop (mkF m 5 #[.val (.int i_), .val (.int n_)] [v_FMT, (.int n_), (.int i_)])) st1 ?_
  obtain ⟨_, _, ⟨T2, L2, kc2, n2⟩, -, X2, ⟨Lc2, hQ2, l2, y2, z2⟩, st2⟩ := Jvm.LawKit.callS X1 hx (y := yM9) hown (mvT hZ w150) (mvT hZ w151) (mvT hZ w149) (mvT hZ w152) (by decide) (backOf (W := 0) (rm_pci l Z a0 hw []  i_ n_ v_FMT h0 n0 O0 pr0 pr1 R_FMT (own_cat R_FMT)) hZ w152 w149 (by decide) (by decide)) (g := (mkF m 5 #[.val (.int i_), .val (.int n_)] [v_FMT, (.int n_), (.int i_)])) rfl (by rw [hml]; rfl) (argsL := [(.int i_), (.int n_), v_FMT]) (rest := []) (lenOf own_pd6 rfl) rfl (by show 2 * 0 + _ ≤ _; exact Nat.le_of_eq rfl) (hb hby d11_5) (fun _ _ => ⟨rfl, e1, (by decide : 0 + 0 ≤ _), (by decide : 0 + 0 ≤ _)⟩)
  dsimp only [Pt.U, Pt.locs, Pt.cells, Pt.slots] at X2 l2 y2 z2 st2 hQ2
  subst l2 y2 z2
  obtain ⟨rfl, Nq2, e2⟩ := hQ2
  have N2 := Fr.app N0 Nq2
  refine ogo (S' := T2.setTop (mkF m 8 #[.val (.int i_), .val (.int n_)] [(.int i_)])) st2 ?_
  refine o_pop X2 hx (hb hby d11_8) rfl ?_
  refine oend X2 hlk (v := none) (fun _ => rfl) (fun fs hr => X2.returnOut hx hret (hb hby d11_9) hr) (by decide) (by decide) ?_
  show own_Q_sci Z _ _ _ _ _ h0 n0 _ T2.heap _
  rw [e2]
  exact ⟨rfl, N2, rfl⟩
theorem own_pd7 : parseMethodDescriptor "(II)V" = some ⟨[.int, .int], none⟩ := by decide +kernel
theorem d12_0 : decode jdk_43_method_2_code 0 = .ok (.iload_n 1, 1) := by decide +kernel
theorem d12_1 : decode jdk_43_method_2_code 1 = .ok (.aload_n 0, 1) := by decide +kernel
theorem d12_2 : decode jdk_43_method_2_code 2 = .ok (.arraylength, 1) := by decide +kernel
theorem d12_3 : decode jdk_43_method_2_code 3 = .ok (.invokestatic 9, 3) := by decide +kernel
theorem d12_6 : decode jdk_43_method_2_code 6 = .ok (.aload_n 0, 1) := by decide +kernel
theorem d12_7 : decode jdk_43_method_2_code 7 = .ok (.iload_n 1, 1) := by decide +kernel
theorem d12_8 : decode jdk_43_method_2_code 8 = .ok (.baload, 1) := by decide +kernel
theorem d12_9 : decode jdk_43_method_2_code 9 = .ok (.sipush 255, 3) := by decide +kernel
theorem d12_12 : decode jdk_43_method_2_code 12 = .ok (.iand, 1) := by decide +kernel
theorem d12_13 : decode jdk_43_method_2_code 13 = .ok (.i2c, 1) := by decide +kernel
theorem d12_14 : decode jdk_43_method_2_code 14 = .ok (.ireturn, 1) := by decide +kernel
theorem own_pn4 : plainName "java/lang/StringLatin1" = true := by first | (simp [plainName, overriddenIn]; done) | decide +kernel
def own_Q_l1c_1_0 (Z : State) (z_CS : Int32) (v_FMT : Value) (s_EMPTY : Addr) (ba_ : Addr) (kb_ : ClassId) (c0_ : Int32) (h0 : Heap) (n0 : Nat) (v : Option Value) (h : Heap) (L : List Loc) : Prop := (v = some (.int c0_)) ∧ (Fr n0 L) ∧ (h = h0)
abbrev yM11 : MethodName := ⟨"java/lang/StringLatin1", "charAt", "([BI)C"⟩
set_option maxRecDepth 65536 in
set_option maxHeartbeats 40000000 in
theorem rm_l1c_1_0 (l : Launch) (Z : State) (a0 : Array Value) (hw : ∀ d ∈ tables_1, d.before a0 Z = true) (ws : List Jvm.Cond) (z_CS : Int32) (v_FMT : Value) (s_EMPTY : Addr) (ba_ : Addr) (kb_ : ClassId) (c0_ : Int32) (h0 : Heap) (n0 : Nat) (SB : own_Start Z z_CS v_FMT s_EMPTY) (O0 : Old Z n0 h0) (pr0 : Arv Z h0 ba_ kb_ .byte (1 : Int32) [(.int c0_.toInt8.toInt32)] (.int 0)) (pr1 : ¬ (c0_ < (0 : Int32))) (pr2 : ¬ ((255 : Int32) < c0_)) :
    oMet l Z yM11 jdk_43_method_2_code 2 (some .char) ws ({ frames := 2, cells := 0, slots := 0, locals := 27 } : Room) 0 0 #[(.ref ba_), (.int (0 : Int32))] h0 (own_Q_l1c_1_0 Z z_CS v_FMT s_EMPTY ba_ kb_ c0_ h0 n0) := by
  refine oenter own_pn4 #[.val (.ref ba_), .val (.int (0 : Int32))] (fun m => by first | (simp [entryFrame, mkF, argsToLocals, Value.category]; done) | rfl) ?_
  intro p e s m below meth c s₁ X0 hx hZ hby hml hret hown0 hnm hlk e0
  have hown : s.vm.findClass "java/lang/StringLatin1" = some m.cls := hown0
  have N0 := Fr.nil n0
  obtain ⟨S_CS, H_CS, S_FMT, R_FMT, S_EMPTY, E_EMPTY, F_EMPTY⟩ := (id SB)
  have w6 := hw _ (List.mem_of_getElem? (i := 6) rfl)
  have w145 := hw _ (List.mem_of_getElem? (i := 145) rfl)
  have w146 := hw _ (List.mem_of_getElem? (i := 146) rfl)
  have w147 := hw _ (List.mem_of_getElem? (i := 147) rfl)
  refine o_iloadN X0 hx (hb hby d12_0) rfl ?_
  refine o_aloadN X0 hx (hb hby d12_1) rfl rfl ?_
  obtain ⟨cl1, Ar1, -, S1, N1z, -, -⟩ := (id pr0)
  refine ogo (S' := s₁.setTop (mkF m 3 #[.val (.ref ba_), .val (.int (0 : Int32))] [(.int (1 : Int32)), (.int (0 : Int32))])) (fun _ kt_ => X0.arraylength hx (by rw [e0]; exact Ar1.1) (State.isArrayOf_alike hZ.alike Ar1.2.1) (g := (mkF m 2 #[.val (.ref ba_), .val (.int (0 : Int32))] [(.ref ba_), (.int (0 : Int32))])) rfl rfl (hb hby d12_2) _ (by rw [len_of S1 N1z]; exact kt_)) ?_
  obtain ⟨_, _, ⟨T2, L2, kc2, n2⟩, -, X2, ⟨Lc2, hQ2, l2, y2, z2⟩, st2⟩ := Jvm.LawKit.callS X0 hx (y := yM10) hown (mvT hZ w145) (mvT hZ w146) (mvT hZ w6) (mvT hZ w147) (by decide) (backOf (W := 0) (rm_sci l Z a0 hw [] z_CS v_FMT s_EMPTY (0 : Int32) (1 : Int32) h0 n0 SB O0 (by decide) (by decide)) hZ w147 w6 (by decide) (by decide)) (g := (mkF m 3 #[.val (.ref ba_), .val (.int (0 : Int32))] [(.int (1 : Int32)), (.int (0 : Int32))])) rfl (by rw [hml]; rfl) (argsL := [(.int (0 : Int32)), (.int (1 : Int32))]) (rest := []) (lenOf own_pd7 rfl) rfl (by show 2 * 0 + _ ≤ _; exact Nat.le_of_eq rfl) (hb hby d12_3) (fun _ _ => ⟨rfl, e0, (by decide : 0 + 0 ≤ _), (by decide : 0 + 0 ≤ _)⟩)
  dsimp only [Pt.U, Pt.locs, Pt.cells, Pt.slots] at X2 l2 y2 z2 st2 hQ2
  subst l2 y2 z2
  obtain ⟨rfl, Nq2, e2⟩ := hQ2
  have N2 := Fr.app N0 Nq2
  refine ogo (S' := T2.setTop (mkF m 6 #[.val (.ref ba_), .val (.int (0 : Int32))] [])) st2 ?_
  refine o_aloadN X2 hx (hb hby d12_6) rfl rfl ?_
  refine o_iloadN X2 hx (hb hby d12_7) rfl ?_
  obtain ⟨cl3, Ar3, q3, S3, N3z, H3, G3⟩ := (id pr0)
  have hi3 := inb_of (j := (0 : Int32)) S3 ⟨by decide, by decide⟩
  have ha3 := Has.at (v := (.int c0_.toInt8.toInt32)) H3 hi3 rfl
  refine ogo (S' := T2.setTop (mkF m 9 #[.val (.ref ba_), .val (.int (0 : Int32))] [(.int c0_.toInt8.toInt32)])) (X2.baloadBytes hx (j := (0 : Int32)) (v := (.int c0_.toInt8.toInt32)) (by rw [e2]; exact Ar3.1) (State.isArrayOf_alike hZ.alike Ar3.2.1) Ar3.2.2 hi3 ha3 (g := (mkF m 8 #[.val (.ref ba_), .val (.int (0 : Int32))] [(.int (0 : Int32)), (.ref ba_)])) rfl rfl (hb hby d12_8)) ?_
  refine o_sipush X2 hx (255 : Int32) (hb hby d12_9) rfl ?_
  refine o_iand X2 hx (hb hby d12_12) ?_
  refine o_i2c X2 hx (hb hby d12_13) ?_
  rw [own_char pr1 pr2]
  refine oend X2 hlk (v := some (.int c0_)) (fun h => by rw [hret] at h; cases h) (fun fs hr => retN X2 hx (t := .char) hret (by simp) (hb hby d12_14) (by rw [(own_narsm pr1 pr2)]; exact hr)) (by decide) (by decide) ?_
  show own_Q_l1c_1_0 Z _ _ _ _ _ _ h0 n0 _ T2.heap _
  rw [e2]
  exact ⟨rfl, N2, rfl⟩
theorem own_pd8 : parseMethodDescriptor "()Z" = some ⟨[], some .boolean⟩ := by decide +kernel
theorem own_pd9 : parseMethodDescriptor "([BI)C" = some ⟨[(.array .byte), .int], some .char⟩ := by decide +kernel
theorem d13_0 : decode jdk_42_method_56_code 0 = .ok (.aload_n 0, 1) := by decide +kernel
theorem d13_1 : decode jdk_42_method_56_code 1 = .ok (.invokevirtual 492, 3) := by decide +kernel
theorem d13_4 : decode jdk_42_method_56_code 4 = .ok (.ifCond .eq 12, 3) := by decide +kernel
theorem d13_7 : decode jdk_42_method_56_code 7 = .ok (.aload_n 0, 1) := by decide +kernel
theorem d13_8 : decode jdk_42_method_56_code 8 = .ok (.getfield 9, 3) := by decide +kernel
theorem d13_11 : decode jdk_42_method_56_code 11 = .ok (.iload_n 1, 1) := by decide +kernel
theorem d13_12 : decode jdk_42_method_56_code 12 = .ok (.invokestatic 495, 3) := by decide +kernel
theorem d13_15 : decode jdk_42_method_56_code 15 = .ok (.ireturn, 1) := by decide +kernel
def own_Q_cat_1_0 (Z : State) (z_CS : Int32) (v_FMT : Value) (s_EMPTY : Addr) (x_ : Addr) (ba_ : Addr) (kb_ : ClassId) (c0_ : Int32) (h0 : Heap) (n0 : Nat) (v : Option Value) (h : Heap) (L : List Loc) : Prop := (v = some (.int c0_)) ∧ (Fr n0 L) ∧ (h = h0)
abbrev yM12 : MethodName := ⟨"java/lang/String", "charAt", "(I)C"⟩
set_option maxRecDepth 65536 in
set_option maxHeartbeats 40000000 in
theorem rm_cat_1_0 (l : Launch) (Z : State) (a0 : Array Value) (hw : ∀ d ∈ tables_1, d.before a0 Z = true) (ws : List Jvm.Cond) (z_CS : Int32) (v_FMT : Value) (s_EMPTY : Addr) (x_ : Addr) (ba_ : Addr) (kb_ : ClassId) (c0_ : Int32) (h0 : Heap) (n0 : Nat) (SB : own_Start Z z_CS v_FMT s_EMPTY) (O0 : Old Z n0 h0) (pr0 : Exa Z h0 x_ "java/lang/String") (pr1 : Fld Z h0 x_ "java/lang/String" "coder" "B" (.int (0 : Int32))) (pr2 : Fld Z h0 x_ "java/lang/String" "value" "[B" (.ref ba_)) (pr3 : Arv Z h0 ba_ kb_ .byte (1 : Int32) [(.int c0_.toInt8.toInt32)] (.int 0)) (pr4 : ¬ (c0_ < (0 : Int32))) (pr5 : ¬ ((255 : Int32) < c0_)) :
    oMet l Z yM12 jdk_42_method_56_code 2 (some .char) ws ({ frames := 3, cells := 0, slots := 0, locals := 40 } : Room) 0 0 #[(.ref x_), (.int (0 : Int32))] h0 (own_Q_cat_1_0 Z z_CS v_FMT s_EMPTY x_ ba_ kb_ c0_ h0 n0) := by
  refine oenter own_pn0 #[.val (.ref x_), .val (.int (0 : Int32))] (fun m => by first | (simp [entryFrame, mkF, argsToLocals, Value.category]; done) | rfl) ?_
  intro p e s m below meth c s₁ X0 hx hZ hby hml hret hown0 hnm hlk e0
  have hown : s.vm.findClass "java/lang/String" = some m.cls := hown0
  have N0 := Fr.nil n0
  obtain ⟨S_CS, H_CS, S_FMT, R_FMT, S_EMPTY, E_EMPTY, F_EMPTY⟩ := (id SB)
  have w6 := hw _ (List.mem_of_getElem? (i := 6) rfl)
  have w24 := hw _ (List.mem_of_getElem? (i := 24) rfl)
  have w116 := hw _ (List.mem_of_getElem? (i := 116) rfl)
  have w137 := hw _ (List.mem_of_getElem? (i := 137) rfl)
  have w138 := hw _ (List.mem_of_getElem? (i := 138) rfl)
  have w139 := hw _ (List.mem_of_getElem? (i := 139) rfl)
  have w140 := hw _ (List.mem_of_getElem? (i := 140) rfl)
  have w141 := hw _ (List.mem_of_getElem? (i := 141) rfl)
  have w142 := hw _ (List.mem_of_getElem? (i := 142) rfl)
  have w143 := hw _ (List.mem_of_getElem? (i := 143) rfl)
  have w144 := hw _ (List.mem_of_getElem? (i := 144) rfl)
  refine o_aloadN X0 hx (hb hby d13_0) rfl rfl ?_
  obtain ⟨cq1, kq1, q1a, q1b, q1c⟩ := isOf hZ e0 pr0
  obtain ⟨_, _, ⟨T1, L1, kc1, n1⟩, -, X1, ⟨Lc1, hQ1, l1, y1, z1⟩, st1⟩ := X0.virtualBack hx (y := yM8) (z := yM8) hown (mvT hZ w137) (mvT hZ w138) (notFace_of_selects (args := #[]) (mvT hZ w140)) (mvT hZ w140) (mvT hZ w139) (by decide) (backOf (W := 0) (rm_isl1 l Z a0 hw [] z_CS v_FMT s_EMPTY x_ h0 n0 SB O0 pr1) hZ w141 w6 (by decide) (by decide)) q1a q1c (g := (mkF m 1 #[.val (.ref x_), .val (.int (0 : Int32))] [(.ref x_)])) rfl (by rw [hml]; rfl) (Steps.refl _) (argsL := []) (rest := []) (lenOf own_pd8 rfl) rfl (by show 2 * 0 + _ ≤ _; exact Nat.le_of_eq rfl) (hb hby d13_1) (fun _ _ => ⟨rfl, e0, (by decide : 0 + 0 ≤ _), (by decide : 0 + 0 ≤ _)⟩)
  dsimp only [Pt.U, Pt.locs, Pt.cells, Pt.slots] at X1 l1 y1 z1 st1 hQ1
  subst l1 y1 z1
  obtain ⟨rfl, Nq1, e1⟩ := hQ1
  have N1 := Fr.app N0 Nq1
  refine otr (S' := T1.setTop (mkF m 4 #[.val (.ref x_), .val (.int (0 : Int32))] [(.int (1 : Int32))])) st1 ?_
  refine o_ifNo X1 hx (hb hby d13_4) (feq (by decide : ¬ ((1 : Int32) = (0 : Int32)))).1 ?_
  refine o_aloadN X1 hx (hb hby d13_7) rfl rfl ?_
  obtain ⟨T2, X2, e2, st2⟩ := getF X1 hx hZ hown (host := "") (Or.inl w24) Via.refl e1 pr2 (g := (mkF m 8 #[.val (.ref x_), .val (.int (0 : Int32))] [(.ref x_)])) rfl rfl (hb hby d13_8)
  refine ogo (S' := T2.setTop (mkF m 11 #[.val (.ref x_), .val (.int (0 : Int32))] [(.ref ba_)])) st2 ?_
  refine o_iloadN X2 hx (hb hby d13_11) rfl ?_
  obtain ⟨_, _, ⟨T3, L3, kc3, n3⟩, -, X3, ⟨Lc3, hQ3, l3, y3, z3⟩, st3⟩ := Jvm.LawKit.callS X2 hx (y := yM11) hown (mvT hZ w142) (mvT hZ w143) (mvT hZ w116) (mvT hZ w144) (by decide) (backOf (W := 0) (rm_l1c_1_0 l Z a0 hw [] z_CS v_FMT s_EMPTY ba_ kb_ c0_ h0 n0 SB O0 pr3 pr4 pr5) hZ w144 w116 (by decide) (by decide)) (g := (mkF m 12 #[.val (.ref x_), .val (.int (0 : Int32))] [(.int (0 : Int32)), (.ref ba_)])) rfl (by rw [hml]; rfl) (argsL := [(.ref ba_), (.int (0 : Int32))]) (rest := []) (lenOf own_pd9 rfl) rfl (by show 2 * 0 + _ ≤ _; exact Nat.le_of_eq rfl) (hb hby d13_12) (fun _ _ => ⟨rfl, e2, (by decide : 0 + 0 ≤ _), (by decide : 0 + 0 ≤ _)⟩)
  dsimp only [Pt.U, Pt.locs, Pt.cells, Pt.slots] at X3 l3 y3 z3 st3 hQ3
  subst l3 y3 z3
  obtain ⟨rfl, Nq3, e3⟩ := hQ3
  have N3 := Fr.app N1 Nq3
  refine ogo (S' := T3.setTop (mkF m 15 #[.val (.ref x_), .val (.int (0 : Int32))] [(.int c0_)])) st3 ?_
  refine oend X3 hlk (v := some (.int c0_)) (fun h => by rw [hret] at h; cases h) (fun fs hr => retN X3 hx (t := .char) hret (by simp) (hb hby d13_15) (by rw [(own_narsm pr4 pr5)]; exact hr)) (by decide) (by decide) ?_
  show own_Q_cat_1_0 Z _ _ _ _ _ _ _ h0 n0 _ T3.heap _
  rw [e3]
  exact ⟨rfl, N3, rfl⟩
def own_Q_len_2 (Z : State) (z_CS : Int32) (v_FMT : Value) (s_EMPTY : Addr) (x_ : Addr) (ba_ : Addr) (kb_ : ClassId) (vs_ : List Value) (h0 : Heap) (n0 : Nat) (v : Option Value) (h : Heap) (L : List Loc) : Prop := (v = some (.int (2 : Int32))) ∧ (Fr n0 L) ∧ (h = h0)
set_option maxRecDepth 65536 in
set_option maxHeartbeats 40000000 in
theorem rm_len_2 (l : Launch) (Z : State) (a0 : Array Value) (hw : ∀ d ∈ tables_1, d.before a0 Z = true) (ws : List Jvm.Cond) (z_CS : Int32) (v_FMT : Value) (s_EMPTY : Addr) (x_ : Addr) (ba_ : Addr) (kb_ : ClassId) (vs_ : List Value) (h0 : Heap) (n0 : Nat) (SB : own_Start Z z_CS v_FMT s_EMPTY) (O0 : Old Z n0 h0) (pr0 : Exa Z h0 x_ "java/lang/String") (pr1 : Fld Z h0 x_ "java/lang/String" "coder" "B" (.int (0 : Int32))) (pr2 : Fld Z h0 x_ "java/lang/String" "value" "[B" (.ref ba_)) (pr3 : Arv Z h0 ba_ kb_ .byte (2 : Int32) vs_ (.int 0)) :
    oMet l Z yM7 jdk_42_method_54_code 1 (some .int) ws ({ frames := 1, cells := 0, slots := 0, locals := 13 } : Room) 0 0 #[(.ref x_)] h0 (own_Q_len_2 Z z_CS v_FMT s_EMPTY x_ ba_ kb_ vs_ h0 n0) := by
  refine oenter own_pn0 #[.val (.ref x_)] (fun m => by first | (simp [entryFrame, mkF, argsToLocals, Value.category]; done) | rfl) ?_
  intro p e s m below meth c s₁ X0 hx hZ hby hml hret hown0 hnm hlk e0
  have hown : s.vm.findClass "java/lang/String" = some m.cls := hown0
  have N0 := Fr.nil n0
  obtain ⟨S_CS, H_CS, S_FMT, R_FMT, S_EMPTY, E_EMPTY, F_EMPTY⟩ := (id SB)
  have w6 := hw _ (List.mem_of_getElem? (i := 6) rfl)
  have w24 := hw _ (List.mem_of_getElem? (i := 24) rfl)
  have w92 := hw _ (List.mem_of_getElem? (i := 92) rfl)
  have w93 := hw _ (List.mem_of_getElem? (i := 93) rfl)
  have w94 := hw _ (List.mem_of_getElem? (i := 94) rfl)
  have w95 := hw _ (List.mem_of_getElem? (i := 95) rfl)
  have w96 := hw _ (List.mem_of_getElem? (i := 96) rfl)
  refine o_aloadN X0 hx (hb hby d8_0) rfl rfl ?_
  obtain ⟨T1, X1, e1, st1⟩ := getF X0 hx hZ hown (host := "") (Or.inl w24) Via.refl e0 pr2 (g := (mkF m 1 #[.val (.ref x_)] [(.ref x_)])) rfl rfl (hb hby d8_1)
  refine ogo (S' := T1.setTop (mkF m 4 #[.val (.ref x_)] [(.ref ba_)])) st1 ?_
  obtain ⟨cl2, Ar2, -, S2, N2z, -, -⟩ := (id pr3)
  refine ogo (S' := T1.setTop (mkF m 5 #[.val (.ref x_)] [(.int (2 : Int32))])) (fun _ kt_ => X1.arraylength hx (by rw [e1]; exact Ar2.1) (State.isArrayOf_alike hZ.alike Ar2.2.1) (g := (mkF m 4 #[.val (.ref x_)] [(.ref ba_)])) rfl rfl (hb hby d8_4) _ (by rw [len_of S2 N2z]; exact kt_)) ?_
  refine o_aloadN X1 hx (hb hby d8_5) rfl rfl ?_
  obtain ⟨cq3, kq3, q3a, q3b, q3c⟩ := isOf hZ e1 pr0
  obtain ⟨_, _, ⟨T3, L3, kc3, n3⟩, -, X3, ⟨Lc3, hQ3, l3, y3, z3⟩, st3⟩ := X1.virtualBack hx (y := yM6) (z := yM6) hown (mvT hZ w92) (mvT hZ w93) (notFace_of_selects (args := #[]) (mvT hZ w95)) (mvT hZ w95) (mvT hZ w94) (by decide) (backOf (W := 1) (rm_coder l Z a0 hw [] z_CS v_FMT s_EMPTY x_ h0 n0 SB O0 pr1) hZ w96 w6 (by decide) (by decide)) q3a q3c (g := (mkF m 6 #[.val (.ref x_)] [(.ref x_), (.int (2 : Int32))])) rfl (by rw [hml]; rfl) (Steps.refl _) (argsL := []) (rest := [(.int (2 : Int32))]) (lenOf own_pd5 rfl) rfl (by show 2 * 0 + _ ≤ _; exact Nat.le_of_eq rfl) (hb hby d8_6) (fun _ _ => ⟨rfl, e1, (by decide : 0 + 0 ≤ _), (by decide : 0 + 0 ≤ _)⟩)
  dsimp only [Pt.U, Pt.locs, Pt.cells, Pt.slots] at X3 l3 y3 z3 st3 hQ3
  subst l3 y3 z3
  obtain ⟨rfl, Nq3, e3⟩ := hQ3
  have N3 := Fr.app N0 Nq3
  refine otr (S' := T3.setTop (mkF m 9 #[.val (.ref x_)] [(.int (0 : Int32)), (.int (2 : Int32))])) st3 ?_
  refine o_ishr X3 hx (hb hby d8_9) ?_
  refine oend X3 hlk (v := some (.int (2 : Int32))) (fun h => by rw [hret] at h; cases h) (fun fs hr => retOut X3 hx (t := .int) (i := .ireturn) hret rfl (Or.inl ⟨rfl, Or.inl rfl, _, rfl⟩) (hb hby d8_10) hr) (by decide) (by decide) ?_
  show own_Q_len_2 Z _ _ _ _ _ _ _ h0 n0 _ T3.heap _
  rw [e3]
  exact ⟨rfl, N3, rfl⟩
def own_Q_l1c_2_0 (Z : State) (z_CS : Int32) (v_FMT : Value) (s_EMPTY : Addr) (ba_ : Addr) (kb_ : ClassId) (c0_ : Int32) (c1_ : Int32) (h0 : Heap) (n0 : Nat) (v : Option Value) (h : Heap) (L : List Loc) : Prop := (v = some (.int c0_)) ∧ (Fr n0 L) ∧ (h = h0)
set_option maxRecDepth 65536 in
set_option maxHeartbeats 40000000 in
theorem rm_l1c_2_0 (l : Launch) (Z : State) (a0 : Array Value) (hw : ∀ d ∈ tables_1, d.before a0 Z = true) (ws : List Jvm.Cond) (z_CS : Int32) (v_FMT : Value) (s_EMPTY : Addr) (ba_ : Addr) (kb_ : ClassId) (c0_ : Int32) (c1_ : Int32) (h0 : Heap) (n0 : Nat) (SB : own_Start Z z_CS v_FMT s_EMPTY) (O0 : Old Z n0 h0) (pr0 : Arv Z h0 ba_ kb_ .byte (2 : Int32) [(.int c0_.toInt8.toInt32), (.int c1_.toInt8.toInt32)] (.int 0)) (pr1 : ¬ (c0_ < (0 : Int32))) (pr2 : ¬ ((255 : Int32) < c0_)) :
    oMet l Z yM11 jdk_43_method_2_code 2 (some .char) ws ({ frames := 2, cells := 0, slots := 0, locals := 27 } : Room) 0 0 #[(.ref ba_), (.int (0 : Int32))] h0 (own_Q_l1c_2_0 Z z_CS v_FMT s_EMPTY ba_ kb_ c0_ c1_ h0 n0) := by
  refine oenter own_pn4 #[.val (.ref ba_), .val (.int (0 : Int32))] (fun m => by first | (simp [entryFrame, mkF, argsToLocals, Value.category]; done) | rfl) ?_
  intro p e s m below meth c s₁ X0 hx hZ hby hml hret hown0 hnm hlk e0
  have hown : s.vm.findClass "java/lang/StringLatin1" = some m.cls := hown0
  have N0 := Fr.nil n0
  obtain ⟨S_CS, H_CS, S_FMT, R_FMT, S_EMPTY, E_EMPTY, F_EMPTY⟩ := (id SB)
  have w6 := hw _ (List.mem_of_getElem? (i := 6) rfl)
  have w145 := hw _ (List.mem_of_getElem? (i := 145) rfl)
  have w146 := hw _ (List.mem_of_getElem? (i := 146) rfl)
  have w147 := hw _ (List.mem_of_getElem? (i := 147) rfl)
  refine o_iloadN X0 hx (hb hby d12_0) rfl ?_
  refine o_aloadN X0 hx (hb hby d12_1) rfl rfl ?_
  obtain ⟨cl1, Ar1, -, S1, N1z, -, -⟩ := (id pr0)
  refine ogo (S' := s₁.setTop (mkF m 3 #[.val (.ref ba_), .val (.int (0 : Int32))] [(.int (2 : Int32)), (.int (0 : Int32))])) (fun _ kt_ => X0.arraylength hx (by rw [e0]; exact Ar1.1) (State.isArrayOf_alike hZ.alike Ar1.2.1) (g := (mkF m 2 #[.val (.ref ba_), .val (.int (0 : Int32))] [(.ref ba_), (.int (0 : Int32))])) rfl rfl (hb hby d12_2) _ (by rw [len_of S1 N1z]; exact kt_)) ?_
  obtain ⟨_, _, ⟨T2, L2, kc2, n2⟩, -, X2, ⟨Lc2, hQ2, l2, y2, z2⟩, st2⟩ := Jvm.LawKit.callS X0 hx (y := yM10) hown (mvT hZ w145) (mvT hZ w146) (mvT hZ w6) (mvT hZ w147) (by decide) (backOf (W := 0) (rm_sci l Z a0 hw [] z_CS v_FMT s_EMPTY (0 : Int32) (2 : Int32) h0 n0 SB O0 (by decide) (by decide)) hZ w147 w6 (by decide) (by decide)) (g := (mkF m 3 #[.val (.ref ba_), .val (.int (0 : Int32))] [(.int (2 : Int32)), (.int (0 : Int32))])) rfl (by rw [hml]; rfl) (argsL := [(.int (0 : Int32)), (.int (2 : Int32))]) (rest := []) (lenOf own_pd7 rfl) rfl (by show 2 * 0 + _ ≤ _; exact Nat.le_of_eq rfl) (hb hby d12_3) (fun _ _ => ⟨rfl, e0, (by decide : 0 + 0 ≤ _), (by decide : 0 + 0 ≤ _)⟩)
  dsimp only [Pt.U, Pt.locs, Pt.cells, Pt.slots] at X2 l2 y2 z2 st2 hQ2
  subst l2 y2 z2
  obtain ⟨rfl, Nq2, e2⟩ := hQ2
  have N2 := Fr.app N0 Nq2
  refine ogo (S' := T2.setTop (mkF m 6 #[.val (.ref ba_), .val (.int (0 : Int32))] [])) st2 ?_
  refine o_aloadN X2 hx (hb hby d12_6) rfl rfl ?_
  refine o_iloadN X2 hx (hb hby d12_7) rfl ?_
  obtain ⟨cl3, Ar3, q3, S3, N3z, H3, G3⟩ := (id pr0)
  have hi3 := inb_of (j := (0 : Int32)) S3 ⟨by decide, by decide⟩
  have ha3 := Has.at (v := (.int c0_.toInt8.toInt32)) H3 hi3 rfl
  refine ogo (S' := T2.setTop (mkF m 9 #[.val (.ref ba_), .val (.int (0 : Int32))] [(.int c0_.toInt8.toInt32)])) (X2.baloadBytes hx (j := (0 : Int32)) (v := (.int c0_.toInt8.toInt32)) (by rw [e2]; exact Ar3.1) (State.isArrayOf_alike hZ.alike Ar3.2.1) Ar3.2.2 hi3 ha3 (g := (mkF m 8 #[.val (.ref ba_), .val (.int (0 : Int32))] [(.int (0 : Int32)), (.ref ba_)])) rfl rfl (hb hby d12_8)) ?_
  refine o_sipush X2 hx (255 : Int32) (hb hby d12_9) rfl ?_
  refine o_iand X2 hx (hb hby d12_12) ?_
  refine o_i2c X2 hx (hb hby d12_13) ?_
  rw [own_char pr1 pr2]
  refine oend X2 hlk (v := some (.int c0_)) (fun h => by rw [hret] at h; cases h) (fun fs hr => retN X2 hx (t := .char) hret (by simp) (hb hby d12_14) (by rw [(own_narsm pr1 pr2)]; exact hr)) (by decide) (by decide) ?_
  show own_Q_l1c_2_0 Z _ _ _ _ _ _ _ h0 n0 _ T2.heap _
  rw [e2]
  exact ⟨rfl, N2, rfl⟩
def own_Q_cat_2_0 (Z : State) (z_CS : Int32) (v_FMT : Value) (s_EMPTY : Addr) (x_ : Addr) (ba_ : Addr) (kb_ : ClassId) (c0_ : Int32) (c1_ : Int32) (h0 : Heap) (n0 : Nat) (v : Option Value) (h : Heap) (L : List Loc) : Prop := (v = some (.int c0_)) ∧ (Fr n0 L) ∧ (h = h0)
set_option maxRecDepth 65536 in
set_option maxHeartbeats 40000000 in
theorem rm_cat_2_0 (l : Launch) (Z : State) (a0 : Array Value) (hw : ∀ d ∈ tables_1, d.before a0 Z = true) (ws : List Jvm.Cond) (z_CS : Int32) (v_FMT : Value) (s_EMPTY : Addr) (x_ : Addr) (ba_ : Addr) (kb_ : ClassId) (c0_ : Int32) (c1_ : Int32) (h0 : Heap) (n0 : Nat) (SB : own_Start Z z_CS v_FMT s_EMPTY) (O0 : Old Z n0 h0) (pr0 : Exa Z h0 x_ "java/lang/String") (pr1 : Fld Z h0 x_ "java/lang/String" "coder" "B" (.int (0 : Int32))) (pr2 : Fld Z h0 x_ "java/lang/String" "value" "[B" (.ref ba_)) (pr3 : Arv Z h0 ba_ kb_ .byte (2 : Int32) [(.int c0_.toInt8.toInt32), (.int c1_.toInt8.toInt32)] (.int 0)) (pr4 : ¬ (c0_ < (0 : Int32))) (pr5 : ¬ ((255 : Int32) < c0_)) :
    oMet l Z yM12 jdk_42_method_56_code 2 (some .char) ws ({ frames := 3, cells := 0, slots := 0, locals := 40 } : Room) 0 0 #[(.ref x_), (.int (0 : Int32))] h0 (own_Q_cat_2_0 Z z_CS v_FMT s_EMPTY x_ ba_ kb_ c0_ c1_ h0 n0) := by
  refine oenter own_pn0 #[.val (.ref x_), .val (.int (0 : Int32))] (fun m => by first | (simp [entryFrame, mkF, argsToLocals, Value.category]; done) | rfl) ?_
  intro p e s m below meth c s₁ X0 hx hZ hby hml hret hown0 hnm hlk e0
  have hown : s.vm.findClass "java/lang/String" = some m.cls := hown0
  have N0 := Fr.nil n0
  obtain ⟨S_CS, H_CS, S_FMT, R_FMT, S_EMPTY, E_EMPTY, F_EMPTY⟩ := (id SB)
  have w6 := hw _ (List.mem_of_getElem? (i := 6) rfl)
  have w24 := hw _ (List.mem_of_getElem? (i := 24) rfl)
  have w116 := hw _ (List.mem_of_getElem? (i := 116) rfl)
  have w137 := hw _ (List.mem_of_getElem? (i := 137) rfl)
  have w138 := hw _ (List.mem_of_getElem? (i := 138) rfl)
  have w139 := hw _ (List.mem_of_getElem? (i := 139) rfl)
  have w140 := hw _ (List.mem_of_getElem? (i := 140) rfl)
  have w141 := hw _ (List.mem_of_getElem? (i := 141) rfl)
  have w142 := hw _ (List.mem_of_getElem? (i := 142) rfl)
  have w143 := hw _ (List.mem_of_getElem? (i := 143) rfl)
  have w144 := hw _ (List.mem_of_getElem? (i := 144) rfl)
  refine o_aloadN X0 hx (hb hby d13_0) rfl rfl ?_
  obtain ⟨cq1, kq1, q1a, q1b, q1c⟩ := isOf hZ e0 pr0
  obtain ⟨_, _, ⟨T1, L1, kc1, n1⟩, -, X1, ⟨Lc1, hQ1, l1, y1, z1⟩, st1⟩ := X0.virtualBack hx (y := yM8) (z := yM8) hown (mvT hZ w137) (mvT hZ w138) (notFace_of_selects (args := #[]) (mvT hZ w140)) (mvT hZ w140) (mvT hZ w139) (by decide) (backOf (W := 0) (rm_isl1 l Z a0 hw [] z_CS v_FMT s_EMPTY x_ h0 n0 SB O0 pr1) hZ w141 w6 (by decide) (by decide)) q1a q1c (g := (mkF m 1 #[.val (.ref x_), .val (.int (0 : Int32))] [(.ref x_)])) rfl (by rw [hml]; rfl) (Steps.refl _) (argsL := []) (rest := []) (lenOf own_pd8 rfl) rfl (by show 2 * 0 + _ ≤ _; exact Nat.le_of_eq rfl) (hb hby d13_1) (fun _ _ => ⟨rfl, e0, (by decide : 0 + 0 ≤ _), (by decide : 0 + 0 ≤ _)⟩)
  dsimp only [Pt.U, Pt.locs, Pt.cells, Pt.slots] at X1 l1 y1 z1 st1 hQ1
  subst l1 y1 z1
  obtain ⟨rfl, Nq1, e1⟩ := hQ1
  have N1 := Fr.app N0 Nq1
  refine otr (S' := T1.setTop (mkF m 4 #[.val (.ref x_), .val (.int (0 : Int32))] [(.int (1 : Int32))])) st1 ?_
  refine o_ifNo X1 hx (hb hby d13_4) (feq (by decide : ¬ ((1 : Int32) = (0 : Int32)))).1 ?_
  refine o_aloadN X1 hx (hb hby d13_7) rfl rfl ?_
  obtain ⟨T2, X2, e2, st2⟩ := getF X1 hx hZ hown (host := "") (Or.inl w24) Via.refl e1 pr2 (g := (mkF m 8 #[.val (.ref x_), .val (.int (0 : Int32))] [(.ref x_)])) rfl rfl (hb hby d13_8)
  refine ogo (S' := T2.setTop (mkF m 11 #[.val (.ref x_), .val (.int (0 : Int32))] [(.ref ba_)])) st2 ?_
  refine o_iloadN X2 hx (hb hby d13_11) rfl ?_
  obtain ⟨_, _, ⟨T3, L3, kc3, n3⟩, -, X3, ⟨Lc3, hQ3, l3, y3, z3⟩, st3⟩ := Jvm.LawKit.callS X2 hx (y := yM11) hown (mvT hZ w142) (mvT hZ w143) (mvT hZ w116) (mvT hZ w144) (by decide) (backOf (W := 0) (rm_l1c_2_0 l Z a0 hw [] z_CS v_FMT s_EMPTY ba_ kb_ c0_ c1_ h0 n0 SB O0 pr3 pr4 pr5) hZ w144 w116 (by decide) (by decide)) (g := (mkF m 12 #[.val (.ref x_), .val (.int (0 : Int32))] [(.int (0 : Int32)), (.ref ba_)])) rfl (by rw [hml]; rfl) (argsL := [(.ref ba_), (.int (0 : Int32))]) (rest := []) (lenOf own_pd9 rfl) rfl (by show 2 * 0 + _ ≤ _; exact Nat.le_of_eq rfl) (hb hby d13_12) (fun _ _ => ⟨rfl, e2, (by decide : 0 + 0 ≤ _), (by decide : 0 + 0 ≤ _)⟩)
  dsimp only [Pt.U, Pt.locs, Pt.cells, Pt.slots] at X3 l3 y3 z3 st3 hQ3
  subst l3 y3 z3
  obtain ⟨rfl, Nq3, e3⟩ := hQ3
  have N3 := Fr.app N1 Nq3
  refine ogo (S' := T3.setTop (mkF m 15 #[.val (.ref x_), .val (.int (0 : Int32))] [(.int c0_)])) st3 ?_
  refine oend X3 hlk (v := some (.int c0_)) (fun h => by rw [hret] at h; cases h) (fun fs hr => retN X3 hx (t := .char) hret (by simp) (hb hby d13_15) (by rw [(own_narsm pr4 pr5)]; exact hr)) (by decide) (by decide) ?_
  show own_Q_cat_2_0 Z _ _ _ _ _ _ _ _ h0 n0 _ T3.heap _
  rw [e3]
  exact ⟨rfl, N3, rfl⟩
def own_Q_l1c_2_1 (Z : State) (z_CS : Int32) (v_FMT : Value) (s_EMPTY : Addr) (ba_ : Addr) (kb_ : ClassId) (c0_ : Int32) (c1_ : Int32) (h0 : Heap) (n0 : Nat) (v : Option Value) (h : Heap) (L : List Loc) : Prop := (v = some (.int c1_)) ∧ (Fr n0 L) ∧ (h = h0)
set_option maxRecDepth 65536 in
set_option maxHeartbeats 40000000 in
theorem rm_l1c_2_1 (l : Launch) (Z : State) (a0 : Array Value) (hw : ∀ d ∈ tables_1, d.before a0 Z = true) (ws : List Jvm.Cond) (z_CS : Int32) (v_FMT : Value) (s_EMPTY : Addr) (ba_ : Addr) (kb_ : ClassId) (c0_ : Int32) (c1_ : Int32) (h0 : Heap) (n0 : Nat) (SB : own_Start Z z_CS v_FMT s_EMPTY) (O0 : Old Z n0 h0) (pr0 : Arv Z h0 ba_ kb_ .byte (2 : Int32) [(.int c0_.toInt8.toInt32), (.int c1_.toInt8.toInt32)] (.int 0)) (pr1 : ¬ (c1_ < (0 : Int32))) (pr2 : ¬ ((255 : Int32) < c1_)) :
    oMet l Z yM11 jdk_43_method_2_code 2 (some .char) ws ({ frames := 2, cells := 0, slots := 0, locals := 27 } : Room) 0 0 #[(.ref ba_), (.int (1 : Int32))] h0 (own_Q_l1c_2_1 Z z_CS v_FMT s_EMPTY ba_ kb_ c0_ c1_ h0 n0) := by
  refine oenter own_pn4 #[.val (.ref ba_), .val (.int (1 : Int32))] (fun m => by first | (simp [entryFrame, mkF, argsToLocals, Value.category]; done) | rfl) ?_
  intro p e s m below meth c s₁ X0 hx hZ hby hml hret hown0 hnm hlk e0
  have hown : s.vm.findClass "java/lang/StringLatin1" = some m.cls := hown0
  have N0 := Fr.nil n0
  obtain ⟨S_CS, H_CS, S_FMT, R_FMT, S_EMPTY, E_EMPTY, F_EMPTY⟩ := (id SB)
  have w6 := hw _ (List.mem_of_getElem? (i := 6) rfl)
  have w145 := hw _ (List.mem_of_getElem? (i := 145) rfl)
  have w146 := hw _ (List.mem_of_getElem? (i := 146) rfl)
  have w147 := hw _ (List.mem_of_getElem? (i := 147) rfl)
  refine o_iloadN X0 hx (hb hby d12_0) rfl ?_
  refine o_aloadN X0 hx (hb hby d12_1) rfl rfl ?_
  obtain ⟨cl1, Ar1, -, S1, N1z, -, -⟩ := (id pr0)
  refine ogo (S' := s₁.setTop (mkF m 3 #[.val (.ref ba_), .val (.int (1 : Int32))] [(.int (2 : Int32)), (.int (1 : Int32))])) (fun _ kt_ => X0.arraylength hx (by rw [e0]; exact Ar1.1) (State.isArrayOf_alike hZ.alike Ar1.2.1) (g := (mkF m 2 #[.val (.ref ba_), .val (.int (1 : Int32))] [(.ref ba_), (.int (1 : Int32))])) rfl rfl (hb hby d12_2) _ (by rw [len_of S1 N1z]; exact kt_)) ?_
  obtain ⟨_, _, ⟨T2, L2, kc2, n2⟩, -, X2, ⟨Lc2, hQ2, l2, y2, z2⟩, st2⟩ := Jvm.LawKit.callS X0 hx (y := yM10) hown (mvT hZ w145) (mvT hZ w146) (mvT hZ w6) (mvT hZ w147) (by decide) (backOf (W := 0) (rm_sci l Z a0 hw [] z_CS v_FMT s_EMPTY (1 : Int32) (2 : Int32) h0 n0 SB O0 (by decide) (by decide)) hZ w147 w6 (by decide) (by decide)) (g := (mkF m 3 #[.val (.ref ba_), .val (.int (1 : Int32))] [(.int (2 : Int32)), (.int (1 : Int32))])) rfl (by rw [hml]; rfl) (argsL := [(.int (1 : Int32)), (.int (2 : Int32))]) (rest := []) (lenOf own_pd7 rfl) rfl (by show 2 * 0 + _ ≤ _; exact Nat.le_of_eq rfl) (hb hby d12_3) (fun _ _ => ⟨rfl, e0, (by decide : 0 + 0 ≤ _), (by decide : 0 + 0 ≤ _)⟩)
  dsimp only [Pt.U, Pt.locs, Pt.cells, Pt.slots] at X2 l2 y2 z2 st2 hQ2
  subst l2 y2 z2
  obtain ⟨rfl, Nq2, e2⟩ := hQ2
  have N2 := Fr.app N0 Nq2
  refine ogo (S' := T2.setTop (mkF m 6 #[.val (.ref ba_), .val (.int (1 : Int32))] [])) st2 ?_
  refine o_aloadN X2 hx (hb hby d12_6) rfl rfl ?_
  refine o_iloadN X2 hx (hb hby d12_7) rfl ?_
  obtain ⟨cl3, Ar3, q3, S3, N3z, H3, G3⟩ := (id pr0)
  have hi3 := inb_of (j := (1 : Int32)) S3 ⟨by decide, by decide⟩
  have ha3 := Has.at (v := (.int c1_.toInt8.toInt32)) H3 hi3 rfl
  refine ogo (S' := T2.setTop (mkF m 9 #[.val (.ref ba_), .val (.int (1 : Int32))] [(.int c1_.toInt8.toInt32)])) (X2.baloadBytes hx (j := (1 : Int32)) (v := (.int c1_.toInt8.toInt32)) (by rw [e2]; exact Ar3.1) (State.isArrayOf_alike hZ.alike Ar3.2.1) Ar3.2.2 hi3 ha3 (g := (mkF m 8 #[.val (.ref ba_), .val (.int (1 : Int32))] [(.int (1 : Int32)), (.ref ba_)])) rfl rfl (hb hby d12_8)) ?_
  refine o_sipush X2 hx (255 : Int32) (hb hby d12_9) rfl ?_
  refine o_iand X2 hx (hb hby d12_12) ?_
  refine o_i2c X2 hx (hb hby d12_13) ?_
  rw [own_char pr1 pr2]
  refine oend X2 hlk (v := some (.int c1_)) (fun h => by rw [hret] at h; cases h) (fun fs hr => retN X2 hx (t := .char) hret (by simp) (hb hby d12_14) (by rw [(own_narsm pr1 pr2)]; exact hr)) (by decide) (by decide) ?_
  show own_Q_l1c_2_1 Z _ _ _ _ _ _ _ h0 n0 _ T2.heap _
  rw [e2]
  exact ⟨rfl, N2, rfl⟩
def own_Q_cat_2_1 (Z : State) (z_CS : Int32) (v_FMT : Value) (s_EMPTY : Addr) (x_ : Addr) (ba_ : Addr) (kb_ : ClassId) (c0_ : Int32) (c1_ : Int32) (h0 : Heap) (n0 : Nat) (v : Option Value) (h : Heap) (L : List Loc) : Prop := (v = some (.int c1_)) ∧ (Fr n0 L) ∧ (h = h0)
set_option maxRecDepth 65536 in
set_option maxHeartbeats 40000000 in
theorem rm_cat_2_1 (l : Launch) (Z : State) (a0 : Array Value) (hw : ∀ d ∈ tables_1, d.before a0 Z = true) (ws : List Jvm.Cond) (z_CS : Int32) (v_FMT : Value) (s_EMPTY : Addr) (x_ : Addr) (ba_ : Addr) (kb_ : ClassId) (c0_ : Int32) (c1_ : Int32) (h0 : Heap) (n0 : Nat) (SB : own_Start Z z_CS v_FMT s_EMPTY) (O0 : Old Z n0 h0) (pr0 : Exa Z h0 x_ "java/lang/String") (pr1 : Fld Z h0 x_ "java/lang/String" "coder" "B" (.int (0 : Int32))) (pr2 : Fld Z h0 x_ "java/lang/String" "value" "[B" (.ref ba_)) (pr3 : Arv Z h0 ba_ kb_ .byte (2 : Int32) [(.int c0_.toInt8.toInt32), (.int c1_.toInt8.toInt32)] (.int 0)) (pr4 : ¬ (c1_ < (0 : Int32))) (pr5 : ¬ ((255 : Int32) < c1_)) :
    oMet l Z yM12 jdk_42_method_56_code 2 (some .char) ws ({ frames := 3, cells := 0, slots := 0, locals := 40 } : Room) 0 0 #[(.ref x_), (.int (1 : Int32))] h0 (own_Q_cat_2_1 Z z_CS v_FMT s_EMPTY x_ ba_ kb_ c0_ c1_ h0 n0) := by
  refine oenter own_pn0 #[.val (.ref x_), .val (.int (1 : Int32))] (fun m => by first | (simp [entryFrame, mkF, argsToLocals, Value.category]; done) | rfl) ?_
  intro p e s m below meth c s₁ X0 hx hZ hby hml hret hown0 hnm hlk e0
  have hown : s.vm.findClass "java/lang/String" = some m.cls := hown0
  have N0 := Fr.nil n0
  obtain ⟨S_CS, H_CS, S_FMT, R_FMT, S_EMPTY, E_EMPTY, F_EMPTY⟩ := (id SB)
  have w6 := hw _ (List.mem_of_getElem? (i := 6) rfl)
  have w24 := hw _ (List.mem_of_getElem? (i := 24) rfl)
  have w116 := hw _ (List.mem_of_getElem? (i := 116) rfl)
  have w137 := hw _ (List.mem_of_getElem? (i := 137) rfl)
  have w138 := hw _ (List.mem_of_getElem? (i := 138) rfl)
  have w139 := hw _ (List.mem_of_getElem? (i := 139) rfl)
  have w140 := hw _ (List.mem_of_getElem? (i := 140) rfl)
  have w141 := hw _ (List.mem_of_getElem? (i := 141) rfl)
  have w142 := hw _ (List.mem_of_getElem? (i := 142) rfl)
  have w143 := hw _ (List.mem_of_getElem? (i := 143) rfl)
  have w144 := hw _ (List.mem_of_getElem? (i := 144) rfl)
  refine o_aloadN X0 hx (hb hby d13_0) rfl rfl ?_
  obtain ⟨cq1, kq1, q1a, q1b, q1c⟩ := isOf hZ e0 pr0
  obtain ⟨_, _, ⟨T1, L1, kc1, n1⟩, -, X1, ⟨Lc1, hQ1, l1, y1, z1⟩, st1⟩ := X0.virtualBack hx (y := yM8) (z := yM8) hown (mvT hZ w137) (mvT hZ w138) (notFace_of_selects (args := #[]) (mvT hZ w140)) (mvT hZ w140) (mvT hZ w139) (by decide) (backOf (W := 0) (rm_isl1 l Z a0 hw [] z_CS v_FMT s_EMPTY x_ h0 n0 SB O0 pr1) hZ w141 w6 (by decide) (by decide)) q1a q1c (g := (mkF m 1 #[.val (.ref x_), .val (.int (1 : Int32))] [(.ref x_)])) rfl (by rw [hml]; rfl) (Steps.refl _) (argsL := []) (rest := []) (lenOf own_pd8 rfl) rfl (by show 2 * 0 + _ ≤ _; exact Nat.le_of_eq rfl) (hb hby d13_1) (fun _ _ => ⟨rfl, e0, (by decide : 0 + 0 ≤ _), (by decide : 0 + 0 ≤ _)⟩)
  dsimp only [Pt.U, Pt.locs, Pt.cells, Pt.slots] at X1 l1 y1 z1 st1 hQ1
  subst l1 y1 z1
  obtain ⟨rfl, Nq1, e1⟩ := hQ1
  have N1 := Fr.app N0 Nq1
  refine otr (S' := T1.setTop (mkF m 4 #[.val (.ref x_), .val (.int (1 : Int32))] [(.int (1 : Int32))])) st1 ?_
  refine o_ifNo X1 hx (hb hby d13_4) (feq (by decide : ¬ ((1 : Int32) = (0 : Int32)))).1 ?_
  refine o_aloadN X1 hx (hb hby d13_7) rfl rfl ?_
  obtain ⟨T2, X2, e2, st2⟩ := getF X1 hx hZ hown (host := "") (Or.inl w24) Via.refl e1 pr2 (g := (mkF m 8 #[.val (.ref x_), .val (.int (1 : Int32))] [(.ref x_)])) rfl rfl (hb hby d13_8)
  refine ogo (S' := T2.setTop (mkF m 11 #[.val (.ref x_), .val (.int (1 : Int32))] [(.ref ba_)])) st2 ?_
  refine o_iloadN X2 hx (hb hby d13_11) rfl ?_
  obtain ⟨_, _, ⟨T3, L3, kc3, n3⟩, -, X3, ⟨Lc3, hQ3, l3, y3, z3⟩, st3⟩ := Jvm.LawKit.callS X2 hx (y := yM11) hown (mvT hZ w142) (mvT hZ w143) (mvT hZ w116) (mvT hZ w144) (by decide) (backOf (W := 0) (rm_l1c_2_1 l Z a0 hw [] z_CS v_FMT s_EMPTY ba_ kb_ c0_ c1_ h0 n0 SB O0 pr3 pr4 pr5) hZ w144 w116 (by decide) (by decide)) (g := (mkF m 12 #[.val (.ref x_), .val (.int (1 : Int32))] [(.int (1 : Int32)), (.ref ba_)])) rfl (by rw [hml]; rfl) (argsL := [(.ref ba_), (.int (1 : Int32))]) (rest := []) (lenOf own_pd9 rfl) rfl (by show 2 * 0 + _ ≤ _; exact Nat.le_of_eq rfl) (hb hby d13_12) (fun _ _ => ⟨rfl, e2, (by decide : 0 + 0 ≤ _), (by decide : 0 + 0 ≤ _)⟩)
  dsimp only [Pt.U, Pt.locs, Pt.cells, Pt.slots] at X3 l3 y3 z3 st3 hQ3
  subst l3 y3 z3
  obtain ⟨rfl, Nq3, e3⟩ := hQ3
  have N3 := Fr.app N1 Nq3
  refine ogo (S' := T3.setTop (mkF m 15 #[.val (.ref x_), .val (.int (1 : Int32))] [(.int c1_)])) st3 ?_
  refine oend X3 hlk (v := some (.int c1_)) (fun h => by rw [hret] at h; cases h) (fun fs hr => retN X3 hx (t := .char) hret (by simp) (hb hby d13_15) (by rw [(own_narsm pr4 pr5)]; exact hr)) (by decide) (by decide) ?_
  show own_Q_cat_2_1 Z _ _ _ _ _ _ _ _ h0 n0 _ T3.heap _
  rw [e3]
  exact ⟨rfl, N3, rfl⟩
theorem d14_0 : decode method_3_code 0 = .ok (.aload_n 0, 1) := by decide +kernel
theorem d14_1 : decode method_3_code 1 = .ok (.ifnonnull 13, 3) := by decide +kernel
theorem d14_4 : decode method_3_code 4 = .ok (.aload_n 1, 1) := by decide +kernel
theorem d14_5 : decode method_3_code 5 = .ok (.ifnonnull 7, 3) := by decide +kernel
theorem d14_8 : decode method_3_code 8 = .ok (.iconst 1, 1) := by decide +kernel
theorem d14_9 : decode method_3_code 9 = .ok (.goto 4, 3) := by decide +kernel
theorem d14_13 : decode method_3_code 13 = .ok (.ireturn, 1) := by decide +kernel
def own_Q_eqNN (Z : State)   (h0 : Heap) (n0 : Nat) (v : Option Value) (h : Heap) (L : List Loc) : Prop := (v = some (.int (1 : Int32))) ∧ (Fr n0 L) ∧ (h = h0)
abbrev yM13 : MethodName := ⟨"com/example/reliquary/reliquary/DeadLetterSelectionOnQueuePinLaw", "eq", "(Ljava/lang/String;Ljava/lang/String;)Z"⟩
set_option maxRecDepth 65536 in
set_option maxHeartbeats 40000000 in
theorem rm_eqNN (l : Launch) (Z : State) (a0 : Array Value) (hw : ∀ d ∈ tables_1, d.before a0 Z = true) (ws : List Jvm.Cond)   (h0 : Heap) (n0 : Nat) (O0 : Old Z n0 h0)  :
    oMet l Z yM13 method_3_code 2 (some .boolean) ws ({ frames := 0, cells := 0, slots := 0, locals := 0 } : Room) 0 0 #[.null, .null] h0 (own_Q_eqNN Z   h0 n0) := by
  refine oenter own_pn2 #[.val .null, .val .null] (fun m => by first | (simp [entryFrame, mkF, argsToLocals, Value.category]; done) | rfl) ?_
  intro p e s m below meth c s₁ X0 hx hZ hby hml hret hown0 hnm hlk e0
  have hown : s.vm.findClass "com/example/reliquary/reliquary/DeadLetterSelectionOnQueuePinLaw" = some m.cls := hown0
  have N0 := Fr.nil n0
  refine o_aloadN X0 hx (hb hby d14_0) rfl rfl ?_
  refine o_ifnonnullNo X0 hx (hb hby d14_1) ?_
  refine o_aloadN X0 hx (hb hby d14_4) rfl rfl ?_
  refine o_ifnonnullNo X0 hx (hb hby d14_5) ?_
  refine o_iconst X0 hx (1 : Int32) (hb hby d14_8) rfl ?_
  refine o_goto X0 hx 13 (hb hby d14_9) (by decide) (by decide) ?_
  refine oend X0 hlk (v := some (.int (1 : Int32))) (fun h => by rw [hret] at h; cases h) (fun fs hr => retN X0 hx (t := .boolean) hret (by simp) (hb hby d14_13) hr) (by decide) (by decide) ?_
  show own_Q_eqNN Z  h0 n0 _ s₁.heap _
  rw [e0]
  exact ⟨rfl, N0, rfl⟩
theorem own_pd10 : parseMethodDescriptor "()I" = some ⟨[], some .int⟩ := by decide +kernel
theorem own_pd11 : parseMethodDescriptor "(I)C" = some ⟨[.int], some .char⟩ := by decide +kernel
theorem d14_14 : decode method_3_code 14 = .ok (.aload_n 1, 1) := by decide +kernel
theorem d14_15 : decode method_3_code 15 = .ok (.ifnonnull 5, 3) := by decide +kernel
theorem d14_20 : decode method_3_code 20 = .ok (.aload_n 0, 1) := by decide +kernel
theorem d14_21 : decode method_3_code 21 = .ok (.invokevirtual 12, 3) := by decide +kernel
theorem d14_24 : decode method_3_code 24 = .ok (.aload_n 1, 1) := by decide +kernel
theorem d14_25 : decode method_3_code 25 = .ok (.invokevirtual 12, 3) := by decide +kernel
theorem d14_28 : decode method_3_code 28 = .ok (.if_icmp .eq 5, 3) := by decide +kernel
theorem d14_33 : decode method_3_code 33 = .ok (.aload_n 0, 1) := by decide +kernel
theorem d14_34 : decode method_3_code 34 = .ok (.invokevirtual 12, 3) := by decide +kernel
theorem d14_37 : decode method_3_code 37 = .ok (.ifCond .le 18, 3) := by decide +kernel
theorem d14_55 : decode method_3_code 55 = .ok (.aload_n 0, 1) := by decide +kernel
theorem d14_56 : decode method_3_code 56 = .ok (.invokevirtual 12, 3) := by decide +kernel
theorem d14_59 : decode method_3_code 59 = .ok (.iconst 1, 1) := by decide +kernel
theorem d14_60 : decode method_3_code 60 = .ok (.if_icmp .le 18, 3) := by decide +kernel
theorem d14_78 : decode method_3_code 78 = .ok (.iconst 1, 1) := by decide +kernel
theorem d14_79 : decode method_3_code 79 = .ok (.ireturn, 1) := by decide +kernel
theorem d14_31 : decode method_3_code 31 = .ok (.iconst 0, 1) := by decide +kernel
theorem d14_32 : decode method_3_code 32 = .ok (.ireturn, 1) := by decide +kernel
theorem d14_40 : decode method_3_code 40 = .ok (.aload_n 0, 1) := by decide +kernel
theorem d14_41 : decode method_3_code 41 = .ok (.iconst 0, 1) := by decide +kernel
theorem d14_42 : decode method_3_code 42 = .ok (.invokevirtual 16, 3) := by decide +kernel
theorem d14_45 : decode method_3_code 45 = .ok (.aload_n 1, 1) := by decide +kernel
theorem d14_46 : decode method_3_code 46 = .ok (.iconst 0, 1) := by decide +kernel
theorem d14_47 : decode method_3_code 47 = .ok (.invokevirtual 16, 3) := by decide +kernel
theorem d14_50 : decode method_3_code 50 = .ok (.if_icmp .eq 5, 3) := by decide +kernel
theorem d14_53 : decode method_3_code 53 = .ok (.iconst 0, 1) := by decide +kernel
theorem d14_54 : decode method_3_code 54 = .ok (.ireturn, 1) := by decide +kernel
theorem d14_63 : decode method_3_code 63 = .ok (.aload_n 0, 1) := by decide +kernel
theorem d14_64 : decode method_3_code 64 = .ok (.iconst 1, 1) := by decide +kernel
theorem d14_65 : decode method_3_code 65 = .ok (.invokevirtual 16, 3) := by decide +kernel
theorem d14_68 : decode method_3_code 68 = .ok (.aload_n 1, 1) := by decide +kernel
theorem d14_69 : decode method_3_code 69 = .ok (.iconst 1, 1) := by decide +kernel
theorem d14_70 : decode method_3_code 70 = .ok (.invokevirtual 16, 3) := by decide +kernel
theorem d14_73 : decode method_3_code 73 = .ok (.if_icmp .eq 5, 3) := by decide +kernel
theorem d14_76 : decode method_3_code 76 = .ok (.iconst 0, 1) := by decide +kernel
theorem d14_77 : decode method_3_code 77 = .ok (.ireturn, 1) := by decide +kernel
def own_Q_eqRR (Z : State) (z_CS : Int32) (v_FMT : Value) (s_EMPTY : Addr) (x_ : Addr) (ba_ : Addr) (kb_ : ClassId) (n_ : Int32) (vs_ : List Value) (s_ : List Int32) (y_ : Addr) (bb_ : Addr) (kc_ : ClassId) (m_ : Int32) (ws_ : List Value) (t_ : List Int32) (h0 : Heap) (n0 : Nat) (v : Option Value) (h : Heap) (L : List Loc) : Prop := (v = some (.int (own_b s_ t_))) ∧ (Fr n0 L) ∧ (h = h0)
set_option maxRecDepth 65536 in
set_option maxHeartbeats 40000000 in
theorem rm_eqRR (l : Launch) (Z : State) (a0 : Array Value) (hw : ∀ d ∈ tables_1, d.before a0 Z = true) (ws : List Jvm.Cond) (z_CS : Int32) (v_FMT : Value) (s_EMPTY : Addr) (x_ : Addr) (ba_ : Addr) (kb_ : ClassId) (n_ : Int32) (vs_ : List Value) (s_ : List Int32) (y_ : Addr) (bb_ : Addr) (kc_ : ClassId) (m_ : Int32) (ws_ : List Value) (t_ : List Int32) (h0 : Heap) (n0 : Nat) (SB : own_Start Z z_CS v_FMT s_EMPTY) (O0 : Old Z n0 h0) (pr0 : Exa Z h0 x_ "java/lang/String") (pr1 : Fld Z h0 x_ "java/lang/String" "coder" "B" (.int (0 : Int32))) (pr2 : Fld Z h0 x_ "java/lang/String" "value" "[B" (.ref ba_)) (pr3 : Arv Z h0 ba_ kb_ .byte n_ vs_ (.int 0)) (pr4 : Exa Z h0 y_ "java/lang/String") (pr5 : Fld Z h0 y_ "java/lang/String" "coder" "B" (.int (0 : Int32))) (pr6 : Fld Z h0 y_ "java/lang/String" "value" "[B" (.ref bb_)) (pr7 : Arv Z h0 bb_ kc_ .byte m_ ws_ (.int 0)) (pr8 : own_sh s_ n_ vs_) (pr9 : own_sh t_ m_ ws_) :
    oMet l Z yM13 method_3_code 2 (some .boolean) ws ({ frames := 4, cells := 0, slots := 0, locals := 54 } : Room) 0 0 #[(.ref x_), (.ref y_)] h0 (own_Q_eqRR Z z_CS v_FMT s_EMPTY x_ ba_ kb_ n_ vs_ s_ y_ bb_ kc_ m_ ws_ t_ h0 n0) := by
  refine oenter own_pn2 #[.val (.ref x_), .val (.ref y_)] (fun m => by first | (simp [entryFrame, mkF, argsToLocals, Value.category]; done) | rfl) ?_
  intro p e s m below meth c s₁ X0 hx hZ hby hml hret hown0 hnm hlk e0
  have hown : s.vm.findClass "com/example/reliquary/reliquary/DeadLetterSelectionOnQueuePinLaw" = some m.cls := hown0
  have N0 := Fr.nil n0
  obtain ⟨S_CS, H_CS, S_FMT, R_FMT, S_EMPTY, E_EMPTY, F_EMPTY⟩ := (id SB)
  have w6 := hw _ (List.mem_of_getElem? (i := 6) rfl)
  have w87 := hw _ (List.mem_of_getElem? (i := 87) rfl)
  have w88 := hw _ (List.mem_of_getElem? (i := 88) rfl)
  have w89 := hw _ (List.mem_of_getElem? (i := 89) rfl)
  have w90 := hw _ (List.mem_of_getElem? (i := 90) rfl)
  have w91 := hw _ (List.mem_of_getElem? (i := 91) rfl)
  have w132 := hw _ (List.mem_of_getElem? (i := 132) rfl)
  have w133 := hw _ (List.mem_of_getElem? (i := 133) rfl)
  have w134 := hw _ (List.mem_of_getElem? (i := 134) rfl)
  have w135 := hw _ (List.mem_of_getElem? (i := 135) rfl)
  have w136 := hw _ (List.mem_of_getElem? (i := 136) rfl)
  rcases pr8 with ⟨rfl, rfl, rfl⟩ | ⟨u0, rfl, rfl, rfl, hu0⟩ | ⟨u0, u1, rfl, rfl, rfl, hu0, hu1⟩
  · rcases pr9 with ⟨rfl, rfl, rfl⟩ | ⟨w0, rfl, rfl, rfl, hw0⟩ | ⟨w0, w1, rfl, rfl, rfl, hw0, hw1⟩
    · refine o_aloadN X0 hx (hb hby d14_0) rfl rfl ?_
      refine o_ifnonnullYes X0 hx 14 (hb hby d14_1) (by decide) (by decide) ?_
      refine o_aloadN X0 hx (hb hby d14_14) rfl rfl ?_
      refine o_ifnonnullYes X0 hx 20 (hb hby d14_15) (by decide) (by decide) ?_
      refine o_aloadN X0 hx (hb hby d14_20) rfl rfl ?_
      obtain ⟨cq1, kq1, q1a, q1b, q1c⟩ := isOf hZ e0 pr0
      obtain ⟨_, _, ⟨T1, L1, kc1, n1⟩, -, X1, ⟨Lc1, hQ1, l1, y1, z1⟩, st1⟩ := X0.virtualBack hx (y := yM7) (z := yM7) hown (mvT hZ w87) (mvT hZ w88) (notFace_of_selects (args := #[]) (mvT hZ w90)) (mvT hZ w90) (mvT hZ w89) (by decide) (backOf (W := 0) (rm_len_0 l Z a0 hw [] z_CS v_FMT s_EMPTY x_ ba_ kb_ [] h0 n0 SB O0 pr0 pr1 pr2 pr3) hZ w91 w6 (by decide) (by decide)) q1a q1c (g := (mkF m 21 #[.val (.ref x_), .val (.ref y_)] [(.ref x_)])) rfl (by rw [hml]; rfl) (Steps.refl _) (argsL := []) (rest := []) (lenOf own_pd10 rfl) rfl (by show 2 * 0 + _ ≤ _; exact Nat.le_of_eq rfl) (hb hby d14_21) (fun _ _ => ⟨rfl, e0, (by decide : 0 + 0 ≤ _), (by decide : 0 + 0 ≤ _)⟩)
      dsimp only [Pt.U, Pt.locs, Pt.cells, Pt.slots] at X1 l1 y1 z1 st1 hQ1
      subst l1 y1 z1
      obtain ⟨rfl, Nq1, e1⟩ := hQ1
      have N1 := Fr.app N0 Nq1
      refine otr (S' := T1.setTop (mkF m 24 #[.val (.ref x_), .val (.ref y_)] [(.int (0 : Int32))])) st1 ?_
      refine o_aloadN X1 hx (hb hby d14_24) rfl rfl ?_
      obtain ⟨cq2, kq2, q2a, q2b, q2c⟩ := isOf hZ e1 pr4
      obtain ⟨_, _, ⟨T2, L2, kc2, n2⟩, -, X2, ⟨Lc2, hQ2, l2, y2, z2⟩, st2⟩ := X1.virtualBack hx (y := yM7) (z := yM7) hown (mvT hZ w87) (mvT hZ w88) (notFace_of_selects (args := #[]) (mvT hZ w90)) (mvT hZ w90) (mvT hZ w89) (by decide) (backOf (W := 1) (rm_len_0 l Z a0 hw [] z_CS v_FMT s_EMPTY y_ bb_ kc_ [] h0 n0 SB O0 pr4 pr5 pr6 pr7) hZ w91 w6 (by decide) (by decide)) q2a q2c (g := (mkF m 25 #[.val (.ref x_), .val (.ref y_)] [(.ref y_), (.int (0 : Int32))])) rfl (by rw [hml]; rfl) (Steps.refl _) (argsL := []) (rest := [(.int (0 : Int32))]) (lenOf own_pd10 rfl) rfl (by show 2 * 0 + _ ≤ _; exact Nat.le_of_eq rfl) (hb hby d14_25) (fun _ _ => ⟨rfl, e1, (by decide : 0 + 0 ≤ _), (by decide : 0 + 0 ≤ _)⟩)
      dsimp only [Pt.U, Pt.locs, Pt.cells, Pt.slots] at X2 l2 y2 z2 st2 hQ2
      subst l2 y2 z2
      obtain ⟨rfl, Nq2, e2⟩ := hQ2
      have N2 := Fr.app N1 Nq2
      refine otr (S' := T2.setTop (mkF m 28 #[.val (.ref x_), .val (.ref y_)] [(.int (0 : Int32)), (.int (0 : Int32))])) st2 ?_
      refine o_icmpYes X2 hx 33 (hb hby d14_28) (teq (by decide : (0 : Int32) = (0 : Int32))).1 (by decide) (by decide) ?_
      refine o_aloadN X2 hx (hb hby d14_33) rfl rfl ?_
      obtain ⟨cq3, kq3, q3a, q3b, q3c⟩ := isOf hZ e2 pr0
      obtain ⟨_, _, ⟨T3, L3, kc3, n3⟩, -, X3, ⟨Lc3, hQ3, l3, y3, z3⟩, st3⟩ := X2.virtualBack hx (y := yM7) (z := yM7) hown (mvT hZ w87) (mvT hZ w88) (notFace_of_selects (args := #[]) (mvT hZ w90)) (mvT hZ w90) (mvT hZ w89) (by decide) (backOf (W := 0) (rm_len_0 l Z a0 hw [] z_CS v_FMT s_EMPTY x_ ba_ kb_ [] h0 n0 SB O0 pr0 pr1 pr2 pr3) hZ w91 w6 (by decide) (by decide)) q3a q3c (g := (mkF m 34 #[.val (.ref x_), .val (.ref y_)] [(.ref x_)])) rfl (by rw [hml]; rfl) (Steps.refl _) (argsL := []) (rest := []) (lenOf own_pd10 rfl) rfl (by show 2 * 0 + _ ≤ _; exact Nat.le_of_eq rfl) (hb hby d14_34) (fun _ _ => ⟨rfl, e2, (by decide : 0 + 0 ≤ _), (by decide : 0 + 0 ≤ _)⟩)
      dsimp only [Pt.U, Pt.locs, Pt.cells, Pt.slots] at X3 l3 y3 z3 st3 hQ3
      subst l3 y3 z3
      obtain ⟨rfl, Nq3, e3⟩ := hQ3
      have N3 := Fr.app N2 Nq3
      refine otr (S' := T3.setTop (mkF m 37 #[.val (.ref x_), .val (.ref y_)] [(.int (0 : Int32))])) st3 ?_
      refine o_ifYes X3 hx 55 (hb hby d14_37) (flt (by decide : ¬ ((0 : Int32) < (0 : Int32)))).2.2.2 (by decide) (by decide) ?_
      refine o_aloadN X3 hx (hb hby d14_55) rfl rfl ?_
      obtain ⟨cq4, kq4, q4a, q4b, q4c⟩ := isOf hZ e3 pr0
      obtain ⟨_, _, ⟨T4, L4, kc4, n4⟩, -, X4, ⟨Lc4, hQ4, l4, y4, z4⟩, st4⟩ := X3.virtualBack hx (y := yM7) (z := yM7) hown (mvT hZ w87) (mvT hZ w88) (notFace_of_selects (args := #[]) (mvT hZ w90)) (mvT hZ w90) (mvT hZ w89) (by decide) (backOf (W := 0) (rm_len_0 l Z a0 hw [] z_CS v_FMT s_EMPTY x_ ba_ kb_ [] h0 n0 SB O0 pr0 pr1 pr2 pr3) hZ w91 w6 (by decide) (by decide)) q4a q4c (g := (mkF m 56 #[.val (.ref x_), .val (.ref y_)] [(.ref x_)])) rfl (by rw [hml]; rfl) (Steps.refl _) (argsL := []) (rest := []) (lenOf own_pd10 rfl) rfl (by show 2 * 0 + _ ≤ _; exact Nat.le_of_eq rfl) (hb hby d14_56) (fun _ _ => ⟨rfl, e3, (by decide : 0 + 0 ≤ _), (by decide : 0 + 0 ≤ _)⟩)
      dsimp only [Pt.U, Pt.locs, Pt.cells, Pt.slots] at X4 l4 y4 z4 st4 hQ4
      subst l4 y4 z4
      obtain ⟨rfl, Nq4, e4⟩ := hQ4
      have N4 := Fr.app N3 Nq4
      refine otr (S' := T4.setTop (mkF m 59 #[.val (.ref x_), .val (.ref y_)] [(.int (0 : Int32))])) st4 ?_
      refine o_iconst X4 hx (1 : Int32) (hb hby d14_59) rfl ?_
      refine o_icmpYes X4 hx 78 (hb hby d14_60) (flt (by decide : ¬ ((1 : Int32) < (0 : Int32)))).2.2.2 (by decide) (by decide) ?_
      refine o_iconst X4 hx (1 : Int32) (hb hby d14_78) rfl ?_
      refine oend X4 hlk (v := some (.int (1 : Int32))) (fun h => by rw [hret] at h; cases h) (fun fs hr => retN X4 hx (t := .boolean) hret (by simp) (hb hby d14_79) hr) (by decide) (by decide) ?_
      show own_Q_eqRR Z _ _ _ _ _ _ _ _ _ _ _ _ _ _ _ h0 n0 _ T4.heap _
      rw [e4]
      refine ⟨?_, N4, rfl⟩
      simp [own_b]
    · refine o_aloadN X0 hx (hb hby d14_0) rfl rfl ?_
      refine o_ifnonnullYes X0 hx 14 (hb hby d14_1) (by decide) (by decide) ?_
      refine o_aloadN X0 hx (hb hby d14_14) rfl rfl ?_
      refine o_ifnonnullYes X0 hx 20 (hb hby d14_15) (by decide) (by decide) ?_
      refine o_aloadN X0 hx (hb hby d14_20) rfl rfl ?_
      obtain ⟨cq5, kq5, q5a, q5b, q5c⟩ := isOf hZ e0 pr0
      obtain ⟨_, _, ⟨T5, L5, kc5, n5⟩, -, X5, ⟨Lc5, hQ5, l5, y5, z5⟩, st5⟩ := X0.virtualBack hx (y := yM7) (z := yM7) hown (mvT hZ w87) (mvT hZ w88) (notFace_of_selects (args := #[]) (mvT hZ w90)) (mvT hZ w90) (mvT hZ w89) (by decide) (backOf (W := 0) (rm_len_0 l Z a0 hw [] z_CS v_FMT s_EMPTY x_ ba_ kb_ [] h0 n0 SB O0 pr0 pr1 pr2 pr3) hZ w91 w6 (by decide) (by decide)) q5a q5c (g := (mkF m 21 #[.val (.ref x_), .val (.ref y_)] [(.ref x_)])) rfl (by rw [hml]; rfl) (Steps.refl _) (argsL := []) (rest := []) (lenOf own_pd10 rfl) rfl (by show 2 * 0 + _ ≤ _; exact Nat.le_of_eq rfl) (hb hby d14_21) (fun _ _ => ⟨rfl, e0, (by decide : 0 + 0 ≤ _), (by decide : 0 + 0 ≤ _)⟩)
      dsimp only [Pt.U, Pt.locs, Pt.cells, Pt.slots] at X5 l5 y5 z5 st5 hQ5
      subst l5 y5 z5
      obtain ⟨rfl, Nq5, e5⟩ := hQ5
      have N5 := Fr.app N0 Nq5
      refine otr (S' := T5.setTop (mkF m 24 #[.val (.ref x_), .val (.ref y_)] [(.int (0 : Int32))])) st5 ?_
      refine o_aloadN X5 hx (hb hby d14_24) rfl rfl ?_
      obtain ⟨cq6, kq6, q6a, q6b, q6c⟩ := isOf hZ e5 pr4
      obtain ⟨_, _, ⟨T6, L6, kc6, n6⟩, -, X6, ⟨Lc6, hQ6, l6, y6, z6⟩, st6⟩ := X5.virtualBack hx (y := yM7) (z := yM7) hown (mvT hZ w87) (mvT hZ w88) (notFace_of_selects (args := #[]) (mvT hZ w90)) (mvT hZ w90) (mvT hZ w89) (by decide) (backOf (W := 1) (rm_len_1 l Z a0 hw [] z_CS v_FMT s_EMPTY y_ bb_ kc_ [(.int w0.toInt8.toInt32)] h0 n0 SB O0 pr4 pr5 pr6 pr7) hZ w91 w6 (by decide) (by decide)) q6a q6c (g := (mkF m 25 #[.val (.ref x_), .val (.ref y_)] [(.ref y_), (.int (0 : Int32))])) rfl (by rw [hml]; rfl) (Steps.refl _) (argsL := []) (rest := [(.int (0 : Int32))]) (lenOf own_pd10 rfl) rfl (by show 2 * 0 + _ ≤ _; exact Nat.le_of_eq rfl) (hb hby d14_25) (fun _ _ => ⟨rfl, e5, (by decide : 0 + 0 ≤ _), (by decide : 0 + 0 ≤ _)⟩)
      dsimp only [Pt.U, Pt.locs, Pt.cells, Pt.slots] at X6 l6 y6 z6 st6 hQ6
      subst l6 y6 z6
      obtain ⟨rfl, Nq6, e6⟩ := hQ6
      have N6 := Fr.app N5 Nq6
      refine otr (S' := T6.setTop (mkF m 28 #[.val (.ref x_), .val (.ref y_)] [(.int (1 : Int32)), (.int (0 : Int32))])) st6 ?_
      refine o_icmpNo X6 hx (hb hby d14_28) (feq (by decide : ¬ ((0 : Int32) = (1 : Int32)))).1 ?_
      refine o_iconst X6 hx (0 : Int32) (hb hby d14_31) rfl ?_
      refine oend X6 hlk (v := some (.int (0 : Int32))) (fun h => by rw [hret] at h; cases h) (fun fs hr => retN X6 hx (t := .boolean) hret (by simp) (hb hby d14_32) hr) (by decide) (by decide) ?_
      show own_Q_eqRR Z _ _ _ _ _ _ _ _ _ _ _ _ _ _ _ h0 n0 _ T6.heap _
      rw [e6]
      refine ⟨?_, N6, rfl⟩
      simp [own_b]
    · refine o_aloadN X0 hx (hb hby d14_0) rfl rfl ?_
      refine o_ifnonnullYes X0 hx 14 (hb hby d14_1) (by decide) (by decide) ?_
      refine o_aloadN X0 hx (hb hby d14_14) rfl rfl ?_
      refine o_ifnonnullYes X0 hx 20 (hb hby d14_15) (by decide) (by decide) ?_
      refine o_aloadN X0 hx (hb hby d14_20) rfl rfl ?_
      obtain ⟨cq7, kq7, q7a, q7b, q7c⟩ := isOf hZ e0 pr0
      obtain ⟨_, _, ⟨T7, L7, kc7, n7⟩, -, X7, ⟨Lc7, hQ7, l7, y7, z7⟩, st7⟩ := X0.virtualBack hx (y := yM7) (z := yM7) hown (mvT hZ w87) (mvT hZ w88) (notFace_of_selects (args := #[]) (mvT hZ w90)) (mvT hZ w90) (mvT hZ w89) (by decide) (backOf (W := 0) (rm_len_0 l Z a0 hw [] z_CS v_FMT s_EMPTY x_ ba_ kb_ [] h0 n0 SB O0 pr0 pr1 pr2 pr3) hZ w91 w6 (by decide) (by decide)) q7a q7c (g := (mkF m 21 #[.val (.ref x_), .val (.ref y_)] [(.ref x_)])) rfl (by rw [hml]; rfl) (Steps.refl _) (argsL := []) (rest := []) (lenOf own_pd10 rfl) rfl (by show 2 * 0 + _ ≤ _; exact Nat.le_of_eq rfl) (hb hby d14_21) (fun _ _ => ⟨rfl, e0, (by decide : 0 + 0 ≤ _), (by decide : 0 + 0 ≤ _)⟩)
      dsimp only [Pt.U, Pt.locs, Pt.cells, Pt.slots] at X7 l7 y7 z7 st7 hQ7
      subst l7 y7 z7
      obtain ⟨rfl, Nq7, e7⟩ := hQ7
      have N7 := Fr.app N0 Nq7
      refine otr (S' := T7.setTop (mkF m 24 #[.val (.ref x_), .val (.ref y_)] [(.int (0 : Int32))])) st7 ?_
      refine o_aloadN X7 hx (hb hby d14_24) rfl rfl ?_
      obtain ⟨cq8, kq8, q8a, q8b, q8c⟩ := isOf hZ e7 pr4
      obtain ⟨_, _, ⟨T8, L8, kc8, n8⟩, -, X8, ⟨Lc8, hQ8, l8, y8, z8⟩, st8⟩ := X7.virtualBack hx (y := yM7) (z := yM7) hown (mvT hZ w87) (mvT hZ w88) (notFace_of_selects (args := #[]) (mvT hZ w90)) (mvT hZ w90) (mvT hZ w89) (by decide) (backOf (W := 1) (rm_len_2 l Z a0 hw [] z_CS v_FMT s_EMPTY y_ bb_ kc_ [(.int w0.toInt8.toInt32), (.int w1.toInt8.toInt32)] h0 n0 SB O0 pr4 pr5 pr6 pr7) hZ w91 w6 (by decide) (by decide)) q8a q8c (g := (mkF m 25 #[.val (.ref x_), .val (.ref y_)] [(.ref y_), (.int (0 : Int32))])) rfl (by rw [hml]; rfl) (Steps.refl _) (argsL := []) (rest := [(.int (0 : Int32))]) (lenOf own_pd10 rfl) rfl (by show 2 * 0 + _ ≤ _; exact Nat.le_of_eq rfl) (hb hby d14_25) (fun _ _ => ⟨rfl, e7, (by decide : 0 + 0 ≤ _), (by decide : 0 + 0 ≤ _)⟩)
      dsimp only [Pt.U, Pt.locs, Pt.cells, Pt.slots] at X8 l8 y8 z8 st8 hQ8
      subst l8 y8 z8
      obtain ⟨rfl, Nq8, e8⟩ := hQ8
      have N8 := Fr.app N7 Nq8
      refine otr (S' := T8.setTop (mkF m 28 #[.val (.ref x_), .val (.ref y_)] [(.int (2 : Int32)), (.int (0 : Int32))])) st8 ?_
      refine o_icmpNo X8 hx (hb hby d14_28) (feq (by decide : ¬ ((0 : Int32) = (2 : Int32)))).1 ?_
      refine o_iconst X8 hx (0 : Int32) (hb hby d14_31) rfl ?_
      refine oend X8 hlk (v := some (.int (0 : Int32))) (fun h => by rw [hret] at h; cases h) (fun fs hr => retN X8 hx (t := .boolean) hret (by simp) (hb hby d14_32) hr) (by decide) (by decide) ?_
      show own_Q_eqRR Z _ _ _ _ _ _ _ _ _ _ _ _ _ _ _ h0 n0 _ T8.heap _
      rw [e8]
      refine ⟨?_, N8, rfl⟩
      simp [own_b]
  · rcases pr9 with ⟨rfl, rfl, rfl⟩ | ⟨w0, rfl, rfl, rfl, hw0⟩ | ⟨w0, w1, rfl, rfl, rfl, hw0, hw1⟩
    · refine o_aloadN X0 hx (hb hby d14_0) rfl rfl ?_
      refine o_ifnonnullYes X0 hx 14 (hb hby d14_1) (by decide) (by decide) ?_
      refine o_aloadN X0 hx (hb hby d14_14) rfl rfl ?_
      refine o_ifnonnullYes X0 hx 20 (hb hby d14_15) (by decide) (by decide) ?_
      refine o_aloadN X0 hx (hb hby d14_20) rfl rfl ?_
      obtain ⟨cq9, kq9, q9a, q9b, q9c⟩ := isOf hZ e0 pr0
      obtain ⟨_, _, ⟨T9, L9, kc9, n9⟩, -, X9, ⟨Lc9, hQ9, l9, y9, z9⟩, st9⟩ := X0.virtualBack hx (y := yM7) (z := yM7) hown (mvT hZ w87) (mvT hZ w88) (notFace_of_selects (args := #[]) (mvT hZ w90)) (mvT hZ w90) (mvT hZ w89) (by decide) (backOf (W := 0) (rm_len_1 l Z a0 hw [] z_CS v_FMT s_EMPTY x_ ba_ kb_ [(.int u0.toInt8.toInt32)] h0 n0 SB O0 pr0 pr1 pr2 pr3) hZ w91 w6 (by decide) (by decide)) q9a q9c (g := (mkF m 21 #[.val (.ref x_), .val (.ref y_)] [(.ref x_)])) rfl (by rw [hml]; rfl) (Steps.refl _) (argsL := []) (rest := []) (lenOf own_pd10 rfl) rfl (by show 2 * 0 + _ ≤ _; exact Nat.le_of_eq rfl) (hb hby d14_21) (fun _ _ => ⟨rfl, e0, (by decide : 0 + 0 ≤ _), (by decide : 0 + 0 ≤ _)⟩)
      dsimp only [Pt.U, Pt.locs, Pt.cells, Pt.slots] at X9 l9 y9 z9 st9 hQ9
      subst l9 y9 z9
      obtain ⟨rfl, Nq9, e9⟩ := hQ9
      have N9 := Fr.app N0 Nq9
      refine otr (S' := T9.setTop (mkF m 24 #[.val (.ref x_), .val (.ref y_)] [(.int (1 : Int32))])) st9 ?_
      refine o_aloadN X9 hx (hb hby d14_24) rfl rfl ?_
      obtain ⟨cq10, kq10, q10a, q10b, q10c⟩ := isOf hZ e9 pr4
      obtain ⟨_, _, ⟨T10, L10, kc10, n10⟩, -, X10, ⟨Lc10, hQ10, l10, y10, z10⟩, st10⟩ := X9.virtualBack hx (y := yM7) (z := yM7) hown (mvT hZ w87) (mvT hZ w88) (notFace_of_selects (args := #[]) (mvT hZ w90)) (mvT hZ w90) (mvT hZ w89) (by decide) (backOf (W := 1) (rm_len_0 l Z a0 hw [] z_CS v_FMT s_EMPTY y_ bb_ kc_ [] h0 n0 SB O0 pr4 pr5 pr6 pr7) hZ w91 w6 (by decide) (by decide)) q10a q10c (g := (mkF m 25 #[.val (.ref x_), .val (.ref y_)] [(.ref y_), (.int (1 : Int32))])) rfl (by rw [hml]; rfl) (Steps.refl _) (argsL := []) (rest := [(.int (1 : Int32))]) (lenOf own_pd10 rfl) rfl (by show 2 * 0 + _ ≤ _; exact Nat.le_of_eq rfl) (hb hby d14_25) (fun _ _ => ⟨rfl, e9, (by decide : 0 + 0 ≤ _), (by decide : 0 + 0 ≤ _)⟩)
      dsimp only [Pt.U, Pt.locs, Pt.cells, Pt.slots] at X10 l10 y10 z10 st10 hQ10
      subst l10 y10 z10
      obtain ⟨rfl, Nq10, e10⟩ := hQ10
      have N10 := Fr.app N9 Nq10
      refine otr (S' := T10.setTop (mkF m 28 #[.val (.ref x_), .val (.ref y_)] [(.int (0 : Int32)), (.int (1 : Int32))])) st10 ?_
      refine o_icmpNo X10 hx (hb hby d14_28) (feq (by decide : ¬ ((1 : Int32) = (0 : Int32)))).1 ?_
      refine o_iconst X10 hx (0 : Int32) (hb hby d14_31) rfl ?_
      refine oend X10 hlk (v := some (.int (0 : Int32))) (fun h => by rw [hret] at h; cases h) (fun fs hr => retN X10 hx (t := .boolean) hret (by simp) (hb hby d14_32) hr) (by decide) (by decide) ?_
      show own_Q_eqRR Z _ _ _ _ _ _ _ _ _ _ _ _ _ _ _ h0 n0 _ T10.heap _
      rw [e10]
      refine ⟨?_, N10, rfl⟩
      simp [own_b]
    · refine o_aloadN X0 hx (hb hby d14_0) rfl rfl ?_
      refine o_ifnonnullYes X0 hx 14 (hb hby d14_1) (by decide) (by decide) ?_
      refine o_aloadN X0 hx (hb hby d14_14) rfl rfl ?_
      refine o_ifnonnullYes X0 hx 20 (hb hby d14_15) (by decide) (by decide) ?_
      refine o_aloadN X0 hx (hb hby d14_20) rfl rfl ?_
      obtain ⟨cq11, kq11, q11a, q11b, q11c⟩ := isOf hZ e0 pr0
      obtain ⟨_, _, ⟨T11, L11, kc11, n11⟩, -, X11, ⟨Lc11, hQ11, l11, y11, z11⟩, st11⟩ := X0.virtualBack hx (y := yM7) (z := yM7) hown (mvT hZ w87) (mvT hZ w88) (notFace_of_selects (args := #[]) (mvT hZ w90)) (mvT hZ w90) (mvT hZ w89) (by decide) (backOf (W := 0) (rm_len_1 l Z a0 hw [] z_CS v_FMT s_EMPTY x_ ba_ kb_ [(.int u0.toInt8.toInt32)] h0 n0 SB O0 pr0 pr1 pr2 pr3) hZ w91 w6 (by decide) (by decide)) q11a q11c (g := (mkF m 21 #[.val (.ref x_), .val (.ref y_)] [(.ref x_)])) rfl (by rw [hml]; rfl) (Steps.refl _) (argsL := []) (rest := []) (lenOf own_pd10 rfl) rfl (by show 2 * 0 + _ ≤ _; exact Nat.le_of_eq rfl) (hb hby d14_21) (fun _ _ => ⟨rfl, e0, (by decide : 0 + 0 ≤ _), (by decide : 0 + 0 ≤ _)⟩)
      dsimp only [Pt.U, Pt.locs, Pt.cells, Pt.slots] at X11 l11 y11 z11 st11 hQ11
      subst l11 y11 z11
      obtain ⟨rfl, Nq11, e11⟩ := hQ11
      have N11 := Fr.app N0 Nq11
      refine otr (S' := T11.setTop (mkF m 24 #[.val (.ref x_), .val (.ref y_)] [(.int (1 : Int32))])) st11 ?_
      refine o_aloadN X11 hx (hb hby d14_24) rfl rfl ?_
      obtain ⟨cq12, kq12, q12a, q12b, q12c⟩ := isOf hZ e11 pr4
      obtain ⟨_, _, ⟨T12, L12, kc12, n12⟩, -, X12, ⟨Lc12, hQ12, l12, y12, z12⟩, st12⟩ := X11.virtualBack hx (y := yM7) (z := yM7) hown (mvT hZ w87) (mvT hZ w88) (notFace_of_selects (args := #[]) (mvT hZ w90)) (mvT hZ w90) (mvT hZ w89) (by decide) (backOf (W := 1) (rm_len_1 l Z a0 hw [] z_CS v_FMT s_EMPTY y_ bb_ kc_ [(.int w0.toInt8.toInt32)] h0 n0 SB O0 pr4 pr5 pr6 pr7) hZ w91 w6 (by decide) (by decide)) q12a q12c (g := (mkF m 25 #[.val (.ref x_), .val (.ref y_)] [(.ref y_), (.int (1 : Int32))])) rfl (by rw [hml]; rfl) (Steps.refl _) (argsL := []) (rest := [(.int (1 : Int32))]) (lenOf own_pd10 rfl) rfl (by show 2 * 0 + _ ≤ _; exact Nat.le_of_eq rfl) (hb hby d14_25) (fun _ _ => ⟨rfl, e11, (by decide : 0 + 0 ≤ _), (by decide : 0 + 0 ≤ _)⟩)
      dsimp only [Pt.U, Pt.locs, Pt.cells, Pt.slots] at X12 l12 y12 z12 st12 hQ12
      subst l12 y12 z12
      obtain ⟨rfl, Nq12, e12⟩ := hQ12
      have N12 := Fr.app N11 Nq12
      refine otr (S' := T12.setTop (mkF m 28 #[.val (.ref x_), .val (.ref y_)] [(.int (1 : Int32)), (.int (1 : Int32))])) st12 ?_
      refine o_icmpYes X12 hx 33 (hb hby d14_28) (teq (by decide : (1 : Int32) = (1 : Int32))).1 (by decide) (by decide) ?_
      refine o_aloadN X12 hx (hb hby d14_33) rfl rfl ?_
      obtain ⟨cq13, kq13, q13a, q13b, q13c⟩ := isOf hZ e12 pr0
      obtain ⟨_, _, ⟨T13, L13, kc13, n13⟩, -, X13, ⟨Lc13, hQ13, l13, y13, z13⟩, st13⟩ := X12.virtualBack hx (y := yM7) (z := yM7) hown (mvT hZ w87) (mvT hZ w88) (notFace_of_selects (args := #[]) (mvT hZ w90)) (mvT hZ w90) (mvT hZ w89) (by decide) (backOf (W := 0) (rm_len_1 l Z a0 hw [] z_CS v_FMT s_EMPTY x_ ba_ kb_ [(.int u0.toInt8.toInt32)] h0 n0 SB O0 pr0 pr1 pr2 pr3) hZ w91 w6 (by decide) (by decide)) q13a q13c (g := (mkF m 34 #[.val (.ref x_), .val (.ref y_)] [(.ref x_)])) rfl (by rw [hml]; rfl) (Steps.refl _) (argsL := []) (rest := []) (lenOf own_pd10 rfl) rfl (by show 2 * 0 + _ ≤ _; exact Nat.le_of_eq rfl) (hb hby d14_34) (fun _ _ => ⟨rfl, e12, (by decide : 0 + 0 ≤ _), (by decide : 0 + 0 ≤ _)⟩)
      dsimp only [Pt.U, Pt.locs, Pt.cells, Pt.slots] at X13 l13 y13 z13 st13 hQ13
      subst l13 y13 z13
      obtain ⟨rfl, Nq13, e13⟩ := hQ13
      have N13 := Fr.app N12 Nq13
      refine otr (S' := T13.setTop (mkF m 37 #[.val (.ref x_), .val (.ref y_)] [(.int (1 : Int32))])) st13 ?_
      refine o_ifNo X13 hx (hb hby d14_37) (tlt (by decide : (0 : Int32) < (1 : Int32))).2.2.2 ?_
      refine o_aloadN X13 hx (hb hby d14_40) rfl rfl ?_
      refine o_iconst X13 hx (0 : Int32) (hb hby d14_41) rfl ?_
      obtain ⟨cq14, kq14, q14a, q14b, q14c⟩ := isOf hZ e13 pr0
      obtain ⟨_, _, ⟨T14, L14, kc14, n14⟩, -, X14, ⟨Lc14, hQ14, l14, y14, z14⟩, st14⟩ := X13.virtualBack hx (y := yM12) (z := yM12) hown (mvT hZ w132) (mvT hZ w133) (notFace_of_selects (args := #[]) (mvT hZ w135)) (mvT hZ w135) (mvT hZ w134) (by decide) (backOf (W := 0) (rm_cat_1_0 l Z a0 hw [] z_CS v_FMT s_EMPTY x_ ba_ kb_ u0 h0 n0 SB O0 pr0 pr1 pr2 pr3 hu0.1 hu0.2) hZ w136 w6 (by decide) (by decide)) q14a q14c (g := (mkF m 42 #[.val (.ref x_), .val (.ref y_)] [(.int (0 : Int32)), (.ref x_)])) rfl (by rw [hml]; rfl) (Steps.refl _) (argsL := [(.int (0 : Int32))]) (rest := []) (lenOf own_pd11 rfl) rfl (by show 2 * 0 + _ ≤ _; exact Nat.le_of_eq rfl) (hb hby d14_42) (fun _ _ => ⟨rfl, e13, (by decide : 0 + 0 ≤ _), (by decide : 0 + 0 ≤ _)⟩)
      dsimp only [Pt.U, Pt.locs, Pt.cells, Pt.slots] at X14 l14 y14 z14 st14 hQ14
      subst l14 y14 z14
      obtain ⟨rfl, Nq14, e14⟩ := hQ14
      have N14 := Fr.app N13 Nq14
      refine otr (S' := T14.setTop (mkF m 45 #[.val (.ref x_), .val (.ref y_)] [(.int u0)])) st14 ?_
      refine o_aloadN X14 hx (hb hby d14_45) rfl rfl ?_
      refine o_iconst X14 hx (0 : Int32) (hb hby d14_46) rfl ?_
      obtain ⟨cq15, kq15, q15a, q15b, q15c⟩ := isOf hZ e14 pr4
      obtain ⟨_, _, ⟨T15, L15, kc15, n15⟩, -, X15, ⟨Lc15, hQ15, l15, y15, z15⟩, st15⟩ := X14.virtualBack hx (y := yM12) (z := yM12) hown (mvT hZ w132) (mvT hZ w133) (notFace_of_selects (args := #[]) (mvT hZ w135)) (mvT hZ w135) (mvT hZ w134) (by decide) (backOf (W := 1) (rm_cat_1_0 l Z a0 hw [] z_CS v_FMT s_EMPTY y_ bb_ kc_ w0 h0 n0 SB O0 pr4 pr5 pr6 pr7 hw0.1 hw0.2) hZ w136 w6 (by decide) (by decide)) q15a q15c (g := (mkF m 47 #[.val (.ref x_), .val (.ref y_)] [(.int (0 : Int32)), (.ref y_), (.int u0)])) rfl (by rw [hml]; rfl) (Steps.refl _) (argsL := [(.int (0 : Int32))]) (rest := [(.int u0)]) (lenOf own_pd11 rfl) rfl (by show 2 * 0 + _ ≤ _; exact Nat.le_of_eq rfl) (hb hby d14_47) (fun _ _ => ⟨rfl, e14, (by decide : 0 + 0 ≤ _), (by decide : 0 + 0 ≤ _)⟩)
      dsimp only [Pt.U, Pt.locs, Pt.cells, Pt.slots] at X15 l15 y15 z15 st15 hQ15
      subst l15 y15 z15
      obtain ⟨rfl, Nq15, e15⟩ := hQ15
      have N15 := Fr.app N14 Nq15
      refine otr (S' := T15.setTop (mkF m 50 #[.val (.ref x_), .val (.ref y_)] [(.int w0), (.int u0)])) st15 ?_
      by_cases hc16 : u0 = w0
      · refine o_icmpYes X15 hx 55 (hb hby d14_50) (teq hc16).1 (by decide) (by decide) ?_
        refine o_aloadN X15 hx (hb hby d14_55) rfl rfl ?_
        obtain ⟨cq17, kq17, q17a, q17b, q17c⟩ := isOf hZ e15 pr0
        obtain ⟨_, _, ⟨T17, L17, kc17, n17⟩, -, X17, ⟨Lc17, hQ17, l17, y17, z17⟩, st17⟩ := X15.virtualBack hx (y := yM7) (z := yM7) hown (mvT hZ w87) (mvT hZ w88) (notFace_of_selects (args := #[]) (mvT hZ w90)) (mvT hZ w90) (mvT hZ w89) (by decide) (backOf (W := 0) (rm_len_1 l Z a0 hw [] z_CS v_FMT s_EMPTY x_ ba_ kb_ [(.int u0.toInt8.toInt32)] h0 n0 SB O0 pr0 pr1 pr2 pr3) hZ w91 w6 (by decide) (by decide)) q17a q17c (g := (mkF m 56 #[.val (.ref x_), .val (.ref y_)] [(.ref x_)])) rfl (by rw [hml]; rfl) (Steps.refl _) (argsL := []) (rest := []) (lenOf own_pd10 rfl) rfl (by show 2 * 0 + _ ≤ _; exact Nat.le_of_eq rfl) (hb hby d14_56) (fun _ _ => ⟨rfl, e15, (by decide : 0 + 0 ≤ _), (by decide : 0 + 0 ≤ _)⟩)
        dsimp only [Pt.U, Pt.locs, Pt.cells, Pt.slots] at X17 l17 y17 z17 st17 hQ17
        subst l17 y17 z17
        obtain ⟨rfl, Nq17, e17⟩ := hQ17
        have N17 := Fr.app N15 Nq17
        refine otr (S' := T17.setTop (mkF m 59 #[.val (.ref x_), .val (.ref y_)] [(.int (1 : Int32))])) st17 ?_
        refine o_iconst X17 hx (1 : Int32) (hb hby d14_59) rfl ?_
        refine o_icmpYes X17 hx 78 (hb hby d14_60) (flt (by decide : ¬ ((1 : Int32) < (1 : Int32)))).2.2.2 (by decide) (by decide) ?_
        refine o_iconst X17 hx (1 : Int32) (hb hby d14_78) rfl ?_
        refine oend X17 hlk (v := some (.int (1 : Int32))) (fun h => by rw [hret] at h; cases h) (fun fs hr => retN X17 hx (t := .boolean) hret (by simp) (hb hby d14_79) hr) (by decide) (by decide) ?_
        show own_Q_eqRR Z _ _ _ _ _ _ _ _ _ _ _ _ _ _ _ h0 n0 _ T17.heap _
        rw [e17]
        refine ⟨?_, N17, rfl⟩
        simp [own_b, hc16]
      · refine o_icmpNo X15 hx (hb hby d14_50) (feq hc16).1 ?_
        refine o_iconst X15 hx (0 : Int32) (hb hby d14_53) rfl ?_
        refine oend X15 hlk (v := some (.int (0 : Int32))) (fun h => by rw [hret] at h; cases h) (fun fs hr => retN X15 hx (t := .boolean) hret (by simp) (hb hby d14_54) hr) (by decide) (by decide) ?_
        show own_Q_eqRR Z _ _ _ _ _ _ _ _ _ _ _ _ _ _ _ h0 n0 _ T15.heap _
        rw [e15]
        refine ⟨?_, N15, rfl⟩
        simp [own_b, hc16]
    · refine o_aloadN X0 hx (hb hby d14_0) rfl rfl ?_
      refine o_ifnonnullYes X0 hx 14 (hb hby d14_1) (by decide) (by decide) ?_
      refine o_aloadN X0 hx (hb hby d14_14) rfl rfl ?_
      refine o_ifnonnullYes X0 hx 20 (hb hby d14_15) (by decide) (by decide) ?_
      refine o_aloadN X0 hx (hb hby d14_20) rfl rfl ?_
      obtain ⟨cq18, kq18, q18a, q18b, q18c⟩ := isOf hZ e0 pr0
      obtain ⟨_, _, ⟨T18, L18, kc18, n18⟩, -, X18, ⟨Lc18, hQ18, l18, y18, z18⟩, st18⟩ := X0.virtualBack hx (y := yM7) (z := yM7) hown (mvT hZ w87) (mvT hZ w88) (notFace_of_selects (args := #[]) (mvT hZ w90)) (mvT hZ w90) (mvT hZ w89) (by decide) (backOf (W := 0) (rm_len_1 l Z a0 hw [] z_CS v_FMT s_EMPTY x_ ba_ kb_ [(.int u0.toInt8.toInt32)] h0 n0 SB O0 pr0 pr1 pr2 pr3) hZ w91 w6 (by decide) (by decide)) q18a q18c (g := (mkF m 21 #[.val (.ref x_), .val (.ref y_)] [(.ref x_)])) rfl (by rw [hml]; rfl) (Steps.refl _) (argsL := []) (rest := []) (lenOf own_pd10 rfl) rfl (by show 2 * 0 + _ ≤ _; exact Nat.le_of_eq rfl) (hb hby d14_21) (fun _ _ => ⟨rfl, e0, (by decide : 0 + 0 ≤ _), (by decide : 0 + 0 ≤ _)⟩)
      dsimp only [Pt.U, Pt.locs, Pt.cells, Pt.slots] at X18 l18 y18 z18 st18 hQ18
      subst l18 y18 z18
      obtain ⟨rfl, Nq18, e18⟩ := hQ18
      have N18 := Fr.app N0 Nq18
      refine otr (S' := T18.setTop (mkF m 24 #[.val (.ref x_), .val (.ref y_)] [(.int (1 : Int32))])) st18 ?_
      refine o_aloadN X18 hx (hb hby d14_24) rfl rfl ?_
      obtain ⟨cq19, kq19, q19a, q19b, q19c⟩ := isOf hZ e18 pr4
      obtain ⟨_, _, ⟨T19, L19, kc19, n19⟩, -, X19, ⟨Lc19, hQ19, l19, y19, z19⟩, st19⟩ := X18.virtualBack hx (y := yM7) (z := yM7) hown (mvT hZ w87) (mvT hZ w88) (notFace_of_selects (args := #[]) (mvT hZ w90)) (mvT hZ w90) (mvT hZ w89) (by decide) (backOf (W := 1) (rm_len_2 l Z a0 hw [] z_CS v_FMT s_EMPTY y_ bb_ kc_ [(.int w0.toInt8.toInt32), (.int w1.toInt8.toInt32)] h0 n0 SB O0 pr4 pr5 pr6 pr7) hZ w91 w6 (by decide) (by decide)) q19a q19c (g := (mkF m 25 #[.val (.ref x_), .val (.ref y_)] [(.ref y_), (.int (1 : Int32))])) rfl (by rw [hml]; rfl) (Steps.refl _) (argsL := []) (rest := [(.int (1 : Int32))]) (lenOf own_pd10 rfl) rfl (by show 2 * 0 + _ ≤ _; exact Nat.le_of_eq rfl) (hb hby d14_25) (fun _ _ => ⟨rfl, e18, (by decide : 0 + 0 ≤ _), (by decide : 0 + 0 ≤ _)⟩)
      dsimp only [Pt.U, Pt.locs, Pt.cells, Pt.slots] at X19 l19 y19 z19 st19 hQ19
      subst l19 y19 z19
      obtain ⟨rfl, Nq19, e19⟩ := hQ19
      have N19 := Fr.app N18 Nq19
      refine otr (S' := T19.setTop (mkF m 28 #[.val (.ref x_), .val (.ref y_)] [(.int (2 : Int32)), (.int (1 : Int32))])) st19 ?_
      refine o_icmpNo X19 hx (hb hby d14_28) (feq (by decide : ¬ ((1 : Int32) = (2 : Int32)))).1 ?_
      refine o_iconst X19 hx (0 : Int32) (hb hby d14_31) rfl ?_
      refine oend X19 hlk (v := some (.int (0 : Int32))) (fun h => by rw [hret] at h; cases h) (fun fs hr => retN X19 hx (t := .boolean) hret (by simp) (hb hby d14_32) hr) (by decide) (by decide) ?_
      show own_Q_eqRR Z _ _ _ _ _ _ _ _ _ _ _ _ _ _ _ h0 n0 _ T19.heap _
      rw [e19]
      refine ⟨?_, N19, rfl⟩
      simp [own_b]
  · rcases pr9 with ⟨rfl, rfl, rfl⟩ | ⟨w0, rfl, rfl, rfl, hw0⟩ | ⟨w0, w1, rfl, rfl, rfl, hw0, hw1⟩
    · refine o_aloadN X0 hx (hb hby d14_0) rfl rfl ?_
      refine o_ifnonnullYes X0 hx 14 (hb hby d14_1) (by decide) (by decide) ?_
      refine o_aloadN X0 hx (hb hby d14_14) rfl rfl ?_
      refine o_ifnonnullYes X0 hx 20 (hb hby d14_15) (by decide) (by decide) ?_
      refine o_aloadN X0 hx (hb hby d14_20) rfl rfl ?_
      obtain ⟨cq20, kq20, q20a, q20b, q20c⟩ := isOf hZ e0 pr0
      obtain ⟨_, _, ⟨T20, L20, kc20, n20⟩, -, X20, ⟨Lc20, hQ20, l20, y20, z20⟩, st20⟩ := X0.virtualBack hx (y := yM7) (z := yM7) hown (mvT hZ w87) (mvT hZ w88) (notFace_of_selects (args := #[]) (mvT hZ w90)) (mvT hZ w90) (mvT hZ w89) (by decide) (backOf (W := 0) (rm_len_2 l Z a0 hw [] z_CS v_FMT s_EMPTY x_ ba_ kb_ [(.int u0.toInt8.toInt32), (.int u1.toInt8.toInt32)] h0 n0 SB O0 pr0 pr1 pr2 pr3) hZ w91 w6 (by decide) (by decide)) q20a q20c (g := (mkF m 21 #[.val (.ref x_), .val (.ref y_)] [(.ref x_)])) rfl (by rw [hml]; rfl) (Steps.refl _) (argsL := []) (rest := []) (lenOf own_pd10 rfl) rfl (by show 2 * 0 + _ ≤ _; exact Nat.le_of_eq rfl) (hb hby d14_21) (fun _ _ => ⟨rfl, e0, (by decide : 0 + 0 ≤ _), (by decide : 0 + 0 ≤ _)⟩)
      dsimp only [Pt.U, Pt.locs, Pt.cells, Pt.slots] at X20 l20 y20 z20 st20 hQ20
      subst l20 y20 z20
      obtain ⟨rfl, Nq20, e20⟩ := hQ20
      have N20 := Fr.app N0 Nq20
      refine otr (S' := T20.setTop (mkF m 24 #[.val (.ref x_), .val (.ref y_)] [(.int (2 : Int32))])) st20 ?_
      refine o_aloadN X20 hx (hb hby d14_24) rfl rfl ?_
      obtain ⟨cq21, kq21, q21a, q21b, q21c⟩ := isOf hZ e20 pr4
      obtain ⟨_, _, ⟨T21, L21, kc21, n21⟩, -, X21, ⟨Lc21, hQ21, l21, y21, z21⟩, st21⟩ := X20.virtualBack hx (y := yM7) (z := yM7) hown (mvT hZ w87) (mvT hZ w88) (notFace_of_selects (args := #[]) (mvT hZ w90)) (mvT hZ w90) (mvT hZ w89) (by decide) (backOf (W := 1) (rm_len_0 l Z a0 hw [] z_CS v_FMT s_EMPTY y_ bb_ kc_ [] h0 n0 SB O0 pr4 pr5 pr6 pr7) hZ w91 w6 (by decide) (by decide)) q21a q21c (g := (mkF m 25 #[.val (.ref x_), .val (.ref y_)] [(.ref y_), (.int (2 : Int32))])) rfl (by rw [hml]; rfl) (Steps.refl _) (argsL := []) (rest := [(.int (2 : Int32))]) (lenOf own_pd10 rfl) rfl (by show 2 * 0 + _ ≤ _; exact Nat.le_of_eq rfl) (hb hby d14_25) (fun _ _ => ⟨rfl, e20, (by decide : 0 + 0 ≤ _), (by decide : 0 + 0 ≤ _)⟩)
      dsimp only [Pt.U, Pt.locs, Pt.cells, Pt.slots] at X21 l21 y21 z21 st21 hQ21
      subst l21 y21 z21
      obtain ⟨rfl, Nq21, e21⟩ := hQ21
      have N21 := Fr.app N20 Nq21
      refine otr (S' := T21.setTop (mkF m 28 #[.val (.ref x_), .val (.ref y_)] [(.int (0 : Int32)), (.int (2 : Int32))])) st21 ?_
      refine o_icmpNo X21 hx (hb hby d14_28) (feq (by decide : ¬ ((2 : Int32) = (0 : Int32)))).1 ?_
      refine o_iconst X21 hx (0 : Int32) (hb hby d14_31) rfl ?_
      refine oend X21 hlk (v := some (.int (0 : Int32))) (fun h => by rw [hret] at h; cases h) (fun fs hr => retN X21 hx (t := .boolean) hret (by simp) (hb hby d14_32) hr) (by decide) (by decide) ?_
      show own_Q_eqRR Z _ _ _ _ _ _ _ _ _ _ _ _ _ _ _ h0 n0 _ T21.heap _
      rw [e21]
      refine ⟨?_, N21, rfl⟩
      simp [own_b]
    · refine o_aloadN X0 hx (hb hby d14_0) rfl rfl ?_
      refine o_ifnonnullYes X0 hx 14 (hb hby d14_1) (by decide) (by decide) ?_
      refine o_aloadN X0 hx (hb hby d14_14) rfl rfl ?_
      refine o_ifnonnullYes X0 hx 20 (hb hby d14_15) (by decide) (by decide) ?_
      refine o_aloadN X0 hx (hb hby d14_20) rfl rfl ?_
      obtain ⟨cq22, kq22, q22a, q22b, q22c⟩ := isOf hZ e0 pr0
      obtain ⟨_, _, ⟨T22, L22, kc22, n22⟩, -, X22, ⟨Lc22, hQ22, l22, y22, z22⟩, st22⟩ := X0.virtualBack hx (y := yM7) (z := yM7) hown (mvT hZ w87) (mvT hZ w88) (notFace_of_selects (args := #[]) (mvT hZ w90)) (mvT hZ w90) (mvT hZ w89) (by decide) (backOf (W := 0) (rm_len_2 l Z a0 hw [] z_CS v_FMT s_EMPTY x_ ba_ kb_ [(.int u0.toInt8.toInt32), (.int u1.toInt8.toInt32)] h0 n0 SB O0 pr0 pr1 pr2 pr3) hZ w91 w6 (by decide) (by decide)) q22a q22c (g := (mkF m 21 #[.val (.ref x_), .val (.ref y_)] [(.ref x_)])) rfl (by rw [hml]; rfl) (Steps.refl _) (argsL := []) (rest := []) (lenOf own_pd10 rfl) rfl (by show 2 * 0 + _ ≤ _; exact Nat.le_of_eq rfl) (hb hby d14_21) (fun _ _ => ⟨rfl, e0, (by decide : 0 + 0 ≤ _), (by decide : 0 + 0 ≤ _)⟩)
      dsimp only [Pt.U, Pt.locs, Pt.cells, Pt.slots] at X22 l22 y22 z22 st22 hQ22
      subst l22 y22 z22
      obtain ⟨rfl, Nq22, e22⟩ := hQ22
      have N22 := Fr.app N0 Nq22
      refine otr (S' := T22.setTop (mkF m 24 #[.val (.ref x_), .val (.ref y_)] [(.int (2 : Int32))])) st22 ?_
      refine o_aloadN X22 hx (hb hby d14_24) rfl rfl ?_
      obtain ⟨cq23, kq23, q23a, q23b, q23c⟩ := isOf hZ e22 pr4
      obtain ⟨_, _, ⟨T23, L23, kc23, n23⟩, -, X23, ⟨Lc23, hQ23, l23, y23, z23⟩, st23⟩ := X22.virtualBack hx (y := yM7) (z := yM7) hown (mvT hZ w87) (mvT hZ w88) (notFace_of_selects (args := #[]) (mvT hZ w90)) (mvT hZ w90) (mvT hZ w89) (by decide) (backOf (W := 1) (rm_len_1 l Z a0 hw [] z_CS v_FMT s_EMPTY y_ bb_ kc_ [(.int w0.toInt8.toInt32)] h0 n0 SB O0 pr4 pr5 pr6 pr7) hZ w91 w6 (by decide) (by decide)) q23a q23c (g := (mkF m 25 #[.val (.ref x_), .val (.ref y_)] [(.ref y_), (.int (2 : Int32))])) rfl (by rw [hml]; rfl) (Steps.refl _) (argsL := []) (rest := [(.int (2 : Int32))]) (lenOf own_pd10 rfl) rfl (by show 2 * 0 + _ ≤ _; exact Nat.le_of_eq rfl) (hb hby d14_25) (fun _ _ => ⟨rfl, e22, (by decide : 0 + 0 ≤ _), (by decide : 0 + 0 ≤ _)⟩)
      dsimp only [Pt.U, Pt.locs, Pt.cells, Pt.slots] at X23 l23 y23 z23 st23 hQ23
      subst l23 y23 z23
      obtain ⟨rfl, Nq23, e23⟩ := hQ23
      have N23 := Fr.app N22 Nq23
      refine otr (S' := T23.setTop (mkF m 28 #[.val (.ref x_), .val (.ref y_)] [(.int (1 : Int32)), (.int (2 : Int32))])) st23 ?_
      refine o_icmpNo X23 hx (hb hby d14_28) (feq (by decide : ¬ ((2 : Int32) = (1 : Int32)))).1 ?_
      refine o_iconst X23 hx (0 : Int32) (hb hby d14_31) rfl ?_
      refine oend X23 hlk (v := some (.int (0 : Int32))) (fun h => by rw [hret] at h; cases h) (fun fs hr => retN X23 hx (t := .boolean) hret (by simp) (hb hby d14_32) hr) (by decide) (by decide) ?_
      show own_Q_eqRR Z _ _ _ _ _ _ _ _ _ _ _ _ _ _ _ h0 n0 _ T23.heap _
      rw [e23]
      refine ⟨?_, N23, rfl⟩
      simp [own_b]
    · refine o_aloadN X0 hx (hb hby d14_0) rfl rfl ?_
      refine o_ifnonnullYes X0 hx 14 (hb hby d14_1) (by decide) (by decide) ?_
      refine o_aloadN X0 hx (hb hby d14_14) rfl rfl ?_
      refine o_ifnonnullYes X0 hx 20 (hb hby d14_15) (by decide) (by decide) ?_
      refine o_aloadN X0 hx (hb hby d14_20) rfl rfl ?_
      obtain ⟨cq24, kq24, q24a, q24b, q24c⟩ := isOf hZ e0 pr0
      obtain ⟨_, _, ⟨T24, L24, kc24, n24⟩, -, X24, ⟨Lc24, hQ24, l24, y24, z24⟩, st24⟩ := X0.virtualBack hx (y := yM7) (z := yM7) hown (mvT hZ w87) (mvT hZ w88) (notFace_of_selects (args := #[]) (mvT hZ w90)) (mvT hZ w90) (mvT hZ w89) (by decide) (backOf (W := 0) (rm_len_2 l Z a0 hw [] z_CS v_FMT s_EMPTY x_ ba_ kb_ [(.int u0.toInt8.toInt32), (.int u1.toInt8.toInt32)] h0 n0 SB O0 pr0 pr1 pr2 pr3) hZ w91 w6 (by decide) (by decide)) q24a q24c (g := (mkF m 21 #[.val (.ref x_), .val (.ref y_)] [(.ref x_)])) rfl (by rw [hml]; rfl) (Steps.refl _) (argsL := []) (rest := []) (lenOf own_pd10 rfl) rfl (by show 2 * 0 + _ ≤ _; exact Nat.le_of_eq rfl) (hb hby d14_21) (fun _ _ => ⟨rfl, e0, (by decide : 0 + 0 ≤ _), (by decide : 0 + 0 ≤ _)⟩)
      dsimp only [Pt.U, Pt.locs, Pt.cells, Pt.slots] at X24 l24 y24 z24 st24 hQ24
      subst l24 y24 z24
      obtain ⟨rfl, Nq24, e24⟩ := hQ24
      have N24 := Fr.app N0 Nq24
      refine otr (S' := T24.setTop (mkF m 24 #[.val (.ref x_), .val (.ref y_)] [(.int (2 : Int32))])) st24 ?_
      refine o_aloadN X24 hx (hb hby d14_24) rfl rfl ?_
      obtain ⟨cq25, kq25, q25a, q25b, q25c⟩ := isOf hZ e24 pr4
      obtain ⟨_, _, ⟨T25, L25, kc25, n25⟩, -, X25, ⟨Lc25, hQ25, l25, y25, z25⟩, st25⟩ := X24.virtualBack hx (y := yM7) (z := yM7) hown (mvT hZ w87) (mvT hZ w88) (notFace_of_selects (args := #[]) (mvT hZ w90)) (mvT hZ w90) (mvT hZ w89) (by decide) (backOf (W := 1) (rm_len_2 l Z a0 hw [] z_CS v_FMT s_EMPTY y_ bb_ kc_ [(.int w0.toInt8.toInt32), (.int w1.toInt8.toInt32)] h0 n0 SB O0 pr4 pr5 pr6 pr7) hZ w91 w6 (by decide) (by decide)) q25a q25c (g := (mkF m 25 #[.val (.ref x_), .val (.ref y_)] [(.ref y_), (.int (2 : Int32))])) rfl (by rw [hml]; rfl) (Steps.refl _) (argsL := []) (rest := [(.int (2 : Int32))]) (lenOf own_pd10 rfl) rfl (by show 2 * 0 + _ ≤ _; exact Nat.le_of_eq rfl) (hb hby d14_25) (fun _ _ => ⟨rfl, e24, (by decide : 0 + 0 ≤ _), (by decide : 0 + 0 ≤ _)⟩)
      dsimp only [Pt.U, Pt.locs, Pt.cells, Pt.slots] at X25 l25 y25 z25 st25 hQ25
      subst l25 y25 z25
      obtain ⟨rfl, Nq25, e25⟩ := hQ25
      have N25 := Fr.app N24 Nq25
      refine otr (S' := T25.setTop (mkF m 28 #[.val (.ref x_), .val (.ref y_)] [(.int (2 : Int32)), (.int (2 : Int32))])) st25 ?_
      refine o_icmpYes X25 hx 33 (hb hby d14_28) (teq (by decide : (2 : Int32) = (2 : Int32))).1 (by decide) (by decide) ?_
      refine o_aloadN X25 hx (hb hby d14_33) rfl rfl ?_
      obtain ⟨cq26, kq26, q26a, q26b, q26c⟩ := isOf hZ e25 pr0
      obtain ⟨_, _, ⟨T26, L26, kc26, n26⟩, -, X26, ⟨Lc26, hQ26, l26, y26, z26⟩, st26⟩ := X25.virtualBack hx (y := yM7) (z := yM7) hown (mvT hZ w87) (mvT hZ w88) (notFace_of_selects (args := #[]) (mvT hZ w90)) (mvT hZ w90) (mvT hZ w89) (by decide) (backOf (W := 0) (rm_len_2 l Z a0 hw [] z_CS v_FMT s_EMPTY x_ ba_ kb_ [(.int u0.toInt8.toInt32), (.int u1.toInt8.toInt32)] h0 n0 SB O0 pr0 pr1 pr2 pr3) hZ w91 w6 (by decide) (by decide)) q26a q26c (g := (mkF m 34 #[.val (.ref x_), .val (.ref y_)] [(.ref x_)])) rfl (by rw [hml]; rfl) (Steps.refl _) (argsL := []) (rest := []) (lenOf own_pd10 rfl) rfl (by show 2 * 0 + _ ≤ _; exact Nat.le_of_eq rfl) (hb hby d14_34) (fun _ _ => ⟨rfl, e25, (by decide : 0 + 0 ≤ _), (by decide : 0 + 0 ≤ _)⟩)
      dsimp only [Pt.U, Pt.locs, Pt.cells, Pt.slots] at X26 l26 y26 z26 st26 hQ26
      subst l26 y26 z26
      obtain ⟨rfl, Nq26, e26⟩ := hQ26
      have N26 := Fr.app N25 Nq26
      refine otr (S' := T26.setTop (mkF m 37 #[.val (.ref x_), .val (.ref y_)] [(.int (2 : Int32))])) st26 ?_
      refine o_ifNo X26 hx (hb hby d14_37) (tlt (by decide : (0 : Int32) < (2 : Int32))).2.2.2 ?_
      refine o_aloadN X26 hx (hb hby d14_40) rfl rfl ?_
      refine o_iconst X26 hx (0 : Int32) (hb hby d14_41) rfl ?_
      obtain ⟨cq27, kq27, q27a, q27b, q27c⟩ := isOf hZ e26 pr0
      obtain ⟨_, _, ⟨T27, L27, kc27, n27⟩, -, X27, ⟨Lc27, hQ27, l27, y27, z27⟩, st27⟩ := X26.virtualBack hx (y := yM12) (z := yM12) hown (mvT hZ w132) (mvT hZ w133) (notFace_of_selects (args := #[]) (mvT hZ w135)) (mvT hZ w135) (mvT hZ w134) (by decide) (backOf (W := 0) (rm_cat_2_0 l Z a0 hw [] z_CS v_FMT s_EMPTY x_ ba_ kb_ u0 u1 h0 n0 SB O0 pr0 pr1 pr2 pr3 hu0.1 hu0.2) hZ w136 w6 (by decide) (by decide)) q27a q27c (g := (mkF m 42 #[.val (.ref x_), .val (.ref y_)] [(.int (0 : Int32)), (.ref x_)])) rfl (by rw [hml]; rfl) (Steps.refl _) (argsL := [(.int (0 : Int32))]) (rest := []) (lenOf own_pd11 rfl) rfl (by show 2 * 0 + _ ≤ _; exact Nat.le_of_eq rfl) (hb hby d14_42) (fun _ _ => ⟨rfl, e26, (by decide : 0 + 0 ≤ _), (by decide : 0 + 0 ≤ _)⟩)
      dsimp only [Pt.U, Pt.locs, Pt.cells, Pt.slots] at X27 l27 y27 z27 st27 hQ27
      subst l27 y27 z27
      obtain ⟨rfl, Nq27, e27⟩ := hQ27
      have N27 := Fr.app N26 Nq27
      refine otr (S' := T27.setTop (mkF m 45 #[.val (.ref x_), .val (.ref y_)] [(.int u0)])) st27 ?_
      refine o_aloadN X27 hx (hb hby d14_45) rfl rfl ?_
      refine o_iconst X27 hx (0 : Int32) (hb hby d14_46) rfl ?_
      obtain ⟨cq28, kq28, q28a, q28b, q28c⟩ := isOf hZ e27 pr4
      obtain ⟨_, _, ⟨T28, L28, kc28, n28⟩, -, X28, ⟨Lc28, hQ28, l28, y28, z28⟩, st28⟩ := X27.virtualBack hx (y := yM12) (z := yM12) hown (mvT hZ w132) (mvT hZ w133) (notFace_of_selects (args := #[]) (mvT hZ w135)) (mvT hZ w135) (mvT hZ w134) (by decide) (backOf (W := 1) (rm_cat_2_0 l Z a0 hw [] z_CS v_FMT s_EMPTY y_ bb_ kc_ w0 w1 h0 n0 SB O0 pr4 pr5 pr6 pr7 hw0.1 hw0.2) hZ w136 w6 (by decide) (by decide)) q28a q28c (g := (mkF m 47 #[.val (.ref x_), .val (.ref y_)] [(.int (0 : Int32)), (.ref y_), (.int u0)])) rfl (by rw [hml]; rfl) (Steps.refl _) (argsL := [(.int (0 : Int32))]) (rest := [(.int u0)]) (lenOf own_pd11 rfl) rfl (by show 2 * 0 + _ ≤ _; exact Nat.le_of_eq rfl) (hb hby d14_47) (fun _ _ => ⟨rfl, e27, (by decide : 0 + 0 ≤ _), (by decide : 0 + 0 ≤ _)⟩)
      dsimp only [Pt.U, Pt.locs, Pt.cells, Pt.slots] at X28 l28 y28 z28 st28 hQ28
      subst l28 y28 z28
      obtain ⟨rfl, Nq28, e28⟩ := hQ28
      have N28 := Fr.app N27 Nq28
      refine otr (S' := T28.setTop (mkF m 50 #[.val (.ref x_), .val (.ref y_)] [(.int w0), (.int u0)])) st28 ?_
      by_cases hc29 : u0 = w0
      · refine o_icmpYes X28 hx 55 (hb hby d14_50) (teq hc29).1 (by decide) (by decide) ?_
        refine o_aloadN X28 hx (hb hby d14_55) rfl rfl ?_
        obtain ⟨cq30, kq30, q30a, q30b, q30c⟩ := isOf hZ e28 pr0
        obtain ⟨_, _, ⟨T30, L30, kc30, n30⟩, -, X30, ⟨Lc30, hQ30, l30, y30, z30⟩, st30⟩ := X28.virtualBack hx (y := yM7) (z := yM7) hown (mvT hZ w87) (mvT hZ w88) (notFace_of_selects (args := #[]) (mvT hZ w90)) (mvT hZ w90) (mvT hZ w89) (by decide) (backOf (W := 0) (rm_len_2 l Z a0 hw [] z_CS v_FMT s_EMPTY x_ ba_ kb_ [(.int u0.toInt8.toInt32), (.int u1.toInt8.toInt32)] h0 n0 SB O0 pr0 pr1 pr2 pr3) hZ w91 w6 (by decide) (by decide)) q30a q30c (g := (mkF m 56 #[.val (.ref x_), .val (.ref y_)] [(.ref x_)])) rfl (by rw [hml]; rfl) (Steps.refl _) (argsL := []) (rest := []) (lenOf own_pd10 rfl) rfl (by show 2 * 0 + _ ≤ _; exact Nat.le_of_eq rfl) (hb hby d14_56) (fun _ _ => ⟨rfl, e28, (by decide : 0 + 0 ≤ _), (by decide : 0 + 0 ≤ _)⟩)
        dsimp only [Pt.U, Pt.locs, Pt.cells, Pt.slots] at X30 l30 y30 z30 st30 hQ30
        subst l30 y30 z30
        obtain ⟨rfl, Nq30, e30⟩ := hQ30
        have N30 := Fr.app N28 Nq30
        refine otr (S' := T30.setTop (mkF m 59 #[.val (.ref x_), .val (.ref y_)] [(.int (2 : Int32))])) st30 ?_
        refine o_iconst X30 hx (1 : Int32) (hb hby d14_59) rfl ?_
        refine o_icmpNo X30 hx (hb hby d14_60) (tlt (by decide : (1 : Int32) < (2 : Int32))).2.2.2 ?_
        refine o_aloadN X30 hx (hb hby d14_63) rfl rfl ?_
        refine o_iconst X30 hx (1 : Int32) (hb hby d14_64) rfl ?_
        obtain ⟨cq31, kq31, q31a, q31b, q31c⟩ := isOf hZ e30 pr0
        obtain ⟨_, _, ⟨T31, L31, kc31, n31⟩, -, X31, ⟨Lc31, hQ31, l31, y31, z31⟩, st31⟩ := X30.virtualBack hx (y := yM12) (z := yM12) hown (mvT hZ w132) (mvT hZ w133) (notFace_of_selects (args := #[]) (mvT hZ w135)) (mvT hZ w135) (mvT hZ w134) (by decide) (backOf (W := 0) (rm_cat_2_1 l Z a0 hw [] z_CS v_FMT s_EMPTY x_ ba_ kb_ u0 u1 h0 n0 SB O0 pr0 pr1 pr2 pr3 hu1.1 hu1.2) hZ w136 w6 (by decide) (by decide)) q31a q31c (g := (mkF m 65 #[.val (.ref x_), .val (.ref y_)] [(.int (1 : Int32)), (.ref x_)])) rfl (by rw [hml]; rfl) (Steps.refl _) (argsL := [(.int (1 : Int32))]) (rest := []) (lenOf own_pd11 rfl) rfl (by show 2 * 0 + _ ≤ _; exact Nat.le_of_eq rfl) (hb hby d14_65) (fun _ _ => ⟨rfl, e30, (by decide : 0 + 0 ≤ _), (by decide : 0 + 0 ≤ _)⟩)
        dsimp only [Pt.U, Pt.locs, Pt.cells, Pt.slots] at X31 l31 y31 z31 st31 hQ31
        subst l31 y31 z31
        obtain ⟨rfl, Nq31, e31⟩ := hQ31
        have N31 := Fr.app N30 Nq31
        refine otr (S' := T31.setTop (mkF m 68 #[.val (.ref x_), .val (.ref y_)] [(.int u1)])) st31 ?_
        refine o_aloadN X31 hx (hb hby d14_68) rfl rfl ?_
        refine o_iconst X31 hx (1 : Int32) (hb hby d14_69) rfl ?_
        obtain ⟨cq32, kq32, q32a, q32b, q32c⟩ := isOf hZ e31 pr4
        obtain ⟨_, _, ⟨T32, L32, kc32, n32⟩, -, X32, ⟨Lc32, hQ32, l32, y32, z32⟩, st32⟩ := X31.virtualBack hx (y := yM12) (z := yM12) hown (mvT hZ w132) (mvT hZ w133) (notFace_of_selects (args := #[]) (mvT hZ w135)) (mvT hZ w135) (mvT hZ w134) (by decide) (backOf (W := 1) (rm_cat_2_1 l Z a0 hw [] z_CS v_FMT s_EMPTY y_ bb_ kc_ w0 w1 h0 n0 SB O0 pr4 pr5 pr6 pr7 hw1.1 hw1.2) hZ w136 w6 (by decide) (by decide)) q32a q32c (g := (mkF m 70 #[.val (.ref x_), .val (.ref y_)] [(.int (1 : Int32)), (.ref y_), (.int u1)])) rfl (by rw [hml]; rfl) (Steps.refl _) (argsL := [(.int (1 : Int32))]) (rest := [(.int u1)]) (lenOf own_pd11 rfl) rfl (by show 2 * 0 + _ ≤ _; exact Nat.le_of_eq rfl) (hb hby d14_70) (fun _ _ => ⟨rfl, e31, (by decide : 0 + 0 ≤ _), (by decide : 0 + 0 ≤ _)⟩)
        dsimp only [Pt.U, Pt.locs, Pt.cells, Pt.slots] at X32 l32 y32 z32 st32 hQ32
        subst l32 y32 z32
        obtain ⟨rfl, Nq32, e32⟩ := hQ32
        have N32 := Fr.app N31 Nq32
        refine otr (S' := T32.setTop (mkF m 73 #[.val (.ref x_), .val (.ref y_)] [(.int w1), (.int u1)])) st32 ?_
        by_cases hc33 : u1 = w1
        · refine o_icmpYes X32 hx 78 (hb hby d14_73) (teq hc33).1 (by decide) (by decide) ?_
          refine o_iconst X32 hx (1 : Int32) (hb hby d14_78) rfl ?_
          refine oend X32 hlk (v := some (.int (1 : Int32))) (fun h => by rw [hret] at h; cases h) (fun fs hr => retN X32 hx (t := .boolean) hret (by simp) (hb hby d14_79) hr) (by decide) (by decide) ?_
          show own_Q_eqRR Z _ _ _ _ _ _ _ _ _ _ _ _ _ _ _ h0 n0 _ T32.heap _
          rw [e32]
          refine ⟨?_, N32, rfl⟩
          simp [own_b, hc29, hc33]
        · refine o_icmpNo X32 hx (hb hby d14_73) (feq hc33).1 ?_
          refine o_iconst X32 hx (0 : Int32) (hb hby d14_76) rfl ?_
          refine oend X32 hlk (v := some (.int (0 : Int32))) (fun h => by rw [hret] at h; cases h) (fun fs hr => retN X32 hx (t := .boolean) hret (by simp) (hb hby d14_77) hr) (by decide) (by decide) ?_
          show own_Q_eqRR Z _ _ _ _ _ _ _ _ _ _ _ _ _ _ _ h0 n0 _ T32.heap _
          rw [e32]
          refine ⟨?_, N32, rfl⟩
          simp [own_b, hc29, hc33]
      · refine o_icmpNo X28 hx (hb hby d14_50) (feq hc29).1 ?_
        refine o_iconst X28 hx (0 : Int32) (hb hby d14_53) rfl ?_
        refine oend X28 hlk (v := some (.int (0 : Int32))) (fun h => by rw [hret] at h; cases h) (fun fs hr => retN X28 hx (t := .boolean) hret (by simp) (hb hby d14_54) hr) (by decide) (by decide) ?_
        show own_Q_eqRR Z _ _ _ _ _ _ _ _ _ _ _ _ _ _ _ h0 n0 _ T28.heap _
        rw [e28]
        refine ⟨?_, N28, rfl⟩
        simp [own_b, hc29]
theorem d15_0 : decode jdk_43_method_13_code 0 = .ok (.aload_n 0, 1) := by decide +kernel
theorem d15_1 : decode jdk_43_method_13_code 1 = .ok (.arraylength, 1) := by decide +kernel
theorem d15_2 : decode jdk_43_method_13_code 2 = .ok (.aload_n 1, 1) := by decide +kernel
theorem d15_3 : decode jdk_43_method_13_code 3 = .ok (.arraylength, 1) := by decide +kernel
theorem d15_4 : decode jdk_43_method_13_code 4 = .ok (.if_icmp .ne 30, 3) := by decide +kernel
theorem d15_7 : decode jdk_43_method_13_code 7 = .ok (.iconst 0, 1) := by decide +kernel
theorem d15_8 : decode jdk_43_method_13_code 8 = .ok (.istore_n 2, 1) := by decide +kernel
theorem d15_9 : decode jdk_43_method_13_code 9 = .ok (.iload_n 2, 1) := by decide +kernel
theorem d15_10 : decode jdk_43_method_13_code 10 = .ok (.aload_n 0, 1) := by decide +kernel
theorem d15_11 : decode jdk_43_method_13_code 11 = .ok (.arraylength, 1) := by decide +kernel
theorem d15_12 : decode jdk_43_method_13_code 12 = .ok (.if_icmp .ge 20, 3) := by decide +kernel
theorem d15_32 : decode jdk_43_method_13_code 32 = .ok (.iconst 1, 1) := by decide +kernel
theorem d15_33 : decode jdk_43_method_13_code 33 = .ok (.ireturn, 1) := by decide +kernel
theorem d15_34 : decode jdk_43_method_13_code 34 = .ok (.iconst 0, 1) := by decide +kernel
theorem d15_35 : decode jdk_43_method_13_code 35 = .ok (.ireturn, 1) := by decide +kernel
theorem d15_15 : decode jdk_43_method_13_code 15 = .ok (.aload_n 0, 1) := by decide +kernel
theorem d15_16 : decode jdk_43_method_13_code 16 = .ok (.iload_n 2, 1) := by decide +kernel
theorem d15_17 : decode jdk_43_method_13_code 17 = .ok (.baload, 1) := by decide +kernel
theorem d15_18 : decode jdk_43_method_13_code 18 = .ok (.aload_n 1, 1) := by decide +kernel
theorem d15_19 : decode jdk_43_method_13_code 19 = .ok (.iload_n 2, 1) := by decide +kernel
theorem d15_20 : decode jdk_43_method_13_code 20 = .ok (.baload, 1) := by decide +kernel
theorem d15_21 : decode jdk_43_method_13_code 21 = .ok (.if_icmp .eq 5, 3) := by decide +kernel
theorem d15_26 : decode jdk_43_method_13_code 26 = .ok (.iinc 2 1, 3) := by decide +kernel
theorem d15_29 : decode jdk_43_method_13_code 29 = .ok (.goto (-20), 3) := by decide +kernel
theorem d15_24 : decode jdk_43_method_13_code 24 = .ok (.iconst 0, 1) := by decide +kernel
theorem d15_25 : decode jdk_43_method_13_code 25 = .ok (.ireturn, 1) := by decide +kernel
def own_Q_l1eq (Z : State)  (ba_ : Addr) (kb_ : ClassId) (n_ : Int32) (vs_ : List Value) (s_ : List Int32) (bb_ : Addr) (kc_ : ClassId) (m_ : Int32) (ws_ : List Value) (t_ : List Int32) (h0 : Heap) (n0 : Nat) (v : Option Value) (h : Heap) (L : List Loc) : Prop := (v = some (.int (own_b s_ t_))) ∧ (Fr n0 L) ∧ (h = h0)
abbrev yM14 : MethodName := ⟨"java/lang/StringLatin1", "equals", "([B[B)Z"⟩
set_option maxRecDepth 65536 in
set_option maxHeartbeats 40000000 in
theorem rm_l1eq (l : Launch) (Z : State) (a0 : Array Value) (hw : ∀ d ∈ tables_1, d.before a0 Z = true) (ws : List Jvm.Cond)  (ba_ : Addr) (kb_ : ClassId) (n_ : Int32) (vs_ : List Value) (s_ : List Int32) (bb_ : Addr) (kc_ : ClassId) (m_ : Int32) (ws_ : List Value) (t_ : List Int32) (h0 : Heap) (n0 : Nat) (O0 : Old Z n0 h0) (pr0 : Arv Z h0 ba_ kb_ .byte n_ vs_ (.int 0)) (pr1 : Arv Z h0 bb_ kc_ .byte m_ ws_ (.int 0)) (pr2 : own_sh s_ n_ vs_) (pr3 : own_sh t_ m_ ws_) :
    oMet l Z yM14 jdk_43_method_13_code 3 (some .boolean) ws ({ frames := 0, cells := 0, slots := 0, locals := 0 } : Room) 0 0 #[(.ref ba_), (.ref bb_)] h0 (own_Q_l1eq Z  ba_ kb_ n_ vs_ s_ bb_ kc_ m_ ws_ t_ h0 n0) := by
  refine oenter own_pn4 #[.val (.ref ba_), .val (.ref bb_), .unset] (fun m => by first | (simp [entryFrame, mkF, argsToLocals, Value.category]; done) | rfl) ?_
  intro p e s m below meth c s₁ X0 hx hZ hby hml hret hown0 hnm hlk e0
  have hown : s.vm.findClass "java/lang/StringLatin1" = some m.cls := hown0
  have N0 := Fr.nil n0
  rcases pr2 with ⟨rfl, rfl, rfl⟩ | ⟨u0, rfl, rfl, rfl, hu0⟩ | ⟨u0, u1, rfl, rfl, rfl, hu0, hu1⟩
  · rcases pr3 with ⟨rfl, rfl, rfl⟩ | ⟨w0, rfl, rfl, rfl, hw0⟩ | ⟨w0, w1, rfl, rfl, rfl, hw0, hw1⟩
    · refine o_aloadN X0 hx (hb hby d15_0) rfl rfl ?_
      obtain ⟨cl1, Ar1, -, S1, N1z, -, -⟩ := (id pr0)
      refine ogo (S' := s₁.setTop (mkF m 2 #[.val (.ref ba_), .val (.ref bb_), .unset] [(.int (0 : Int32))])) (fun _ kt_ => X0.arraylength hx (by rw [e0]; exact Ar1.1) (State.isArrayOf_alike hZ.alike Ar1.2.1) (g := (mkF m 1 #[.val (.ref ba_), .val (.ref bb_), .unset] [(.ref ba_)])) rfl rfl (hb hby d15_1) _ (by rw [len_of S1 N1z]; exact kt_)) ?_
      refine o_aloadN X0 hx (hb hby d15_2) rfl rfl ?_
      obtain ⟨cl2, Ar2, -, S2, N2z, -, -⟩ := (id pr1)
      refine ogo (S' := s₁.setTop (mkF m 4 #[.val (.ref ba_), .val (.ref bb_), .unset] [(.int (0 : Int32)), (.int (0 : Int32))])) (fun _ kt_ => X0.arraylength hx (by rw [e0]; exact Ar2.1) (State.isArrayOf_alike hZ.alike Ar2.2.1) (g := (mkF m 3 #[.val (.ref ba_), .val (.ref bb_), .unset] [(.ref bb_), (.int (0 : Int32))])) rfl rfl (hb hby d15_3) _ (by rw [len_of S2 N2z]; exact kt_)) ?_
      refine o_icmpNo X0 hx (hb hby d15_4) (teq (by decide : (0 : Int32) = (0 : Int32))).2 ?_
      refine o_iconst X0 hx (0 : Int32) (hb hby d15_7) rfl ?_
      refine o_istoreN X0 hx (l' := #[.val (.ref ba_), .val (.ref bb_), .val (.int (0 : Int32))]) (hb hby d15_8) rfl ?_
      refine o_iloadN X0 hx (hb hby d15_9) rfl ?_
      refine o_aloadN X0 hx (hb hby d15_10) rfl rfl ?_
      obtain ⟨cl3, Ar3, -, S3, N3z, -, -⟩ := (id pr0)
      refine ogo (S' := s₁.setTop (mkF m 12 #[.val (.ref ba_), .val (.ref bb_), .val (.int (0 : Int32))] [(.int (0 : Int32)), (.int (0 : Int32))])) (fun _ kt_ => X0.arraylength hx (by rw [e0]; exact Ar3.1) (State.isArrayOf_alike hZ.alike Ar3.2.1) (g := (mkF m 11 #[.val (.ref ba_), .val (.ref bb_), .val (.int (0 : Int32))] [(.ref ba_), (.int (0 : Int32))])) rfl rfl (hb hby d15_11) _ (by rw [len_of S3 N3z]; exact kt_)) ?_
      refine o_icmpYes X0 hx 32 (hb hby d15_12) (flt (by decide : ¬ ((0 : Int32) < (0 : Int32)))).2.1 (by decide) (by decide) ?_
      refine o_iconst X0 hx (1 : Int32) (hb hby d15_32) rfl ?_
      refine oend X0 hlk (v := some (.int (1 : Int32))) (fun h => by rw [hret] at h; cases h) (fun fs hr => retN X0 hx (t := .boolean) hret (by simp) (hb hby d15_33) hr) (by decide) (by decide) ?_
      show own_Q_l1eq Z _ _ _ _ _ _ _ _ _ _ h0 n0 _ s₁.heap _
      rw [e0]
      refine ⟨?_, N0, rfl⟩
      simp [own_b]
    · refine o_aloadN X0 hx (hb hby d15_0) rfl rfl ?_
      obtain ⟨cl4, Ar4, -, S4, N4z, -, -⟩ := (id pr0)
      refine ogo (S' := s₁.setTop (mkF m 2 #[.val (.ref ba_), .val (.ref bb_), .unset] [(.int (0 : Int32))])) (fun _ kt_ => X0.arraylength hx (by rw [e0]; exact Ar4.1) (State.isArrayOf_alike hZ.alike Ar4.2.1) (g := (mkF m 1 #[.val (.ref ba_), .val (.ref bb_), .unset] [(.ref ba_)])) rfl rfl (hb hby d15_1) _ (by rw [len_of S4 N4z]; exact kt_)) ?_
      refine o_aloadN X0 hx (hb hby d15_2) rfl rfl ?_
      obtain ⟨cl5, Ar5, -, S5, N5z, -, -⟩ := (id pr1)
      refine ogo (S' := s₁.setTop (mkF m 4 #[.val (.ref ba_), .val (.ref bb_), .unset] [(.int (1 : Int32)), (.int (0 : Int32))])) (fun _ kt_ => X0.arraylength hx (by rw [e0]; exact Ar5.1) (State.isArrayOf_alike hZ.alike Ar5.2.1) (g := (mkF m 3 #[.val (.ref ba_), .val (.ref bb_), .unset] [(.ref bb_), (.int (0 : Int32))])) rfl rfl (hb hby d15_3) _ (by rw [len_of S5 N5z]; exact kt_)) ?_
      refine o_icmpYes X0 hx 34 (hb hby d15_4) (feq (by decide : ¬ ((0 : Int32) = (1 : Int32)))).2 (by decide) (by decide) ?_
      refine o_iconst X0 hx (0 : Int32) (hb hby d15_34) rfl ?_
      refine oend X0 hlk (v := some (.int (0 : Int32))) (fun h => by rw [hret] at h; cases h) (fun fs hr => retN X0 hx (t := .boolean) hret (by simp) (hb hby d15_35) hr) (by decide) (by decide) ?_
      show own_Q_l1eq Z _ _ _ _ _ _ _ _ _ _ h0 n0 _ s₁.heap _
      rw [e0]
      refine ⟨?_, N0, rfl⟩
      simp [own_b]
    · refine o_aloadN X0 hx (hb hby d15_0) rfl rfl ?_
      obtain ⟨cl6, Ar6, -, S6, N6z, -, -⟩ := (id pr0)
      refine ogo (S' := s₁.setTop (mkF m 2 #[.val (.ref ba_), .val (.ref bb_), .unset] [(.int (0 : Int32))])) (fun _ kt_ => X0.arraylength hx (by rw [e0]; exact Ar6.1) (State.isArrayOf_alike hZ.alike Ar6.2.1) (g := (mkF m 1 #[.val (.ref ba_), .val (.ref bb_), .unset] [(.ref ba_)])) rfl rfl (hb hby d15_1) _ (by rw [len_of S6 N6z]; exact kt_)) ?_
      refine o_aloadN X0 hx (hb hby d15_2) rfl rfl ?_
      obtain ⟨cl7, Ar7, -, S7, N7z, -, -⟩ := (id pr1)
      refine ogo (S' := s₁.setTop (mkF m 4 #[.val (.ref ba_), .val (.ref bb_), .unset] [(.int (2 : Int32)), (.int (0 : Int32))])) (fun _ kt_ => X0.arraylength hx (by rw [e0]; exact Ar7.1) (State.isArrayOf_alike hZ.alike Ar7.2.1) (g := (mkF m 3 #[.val (.ref ba_), .val (.ref bb_), .unset] [(.ref bb_), (.int (0 : Int32))])) rfl rfl (hb hby d15_3) _ (by rw [len_of S7 N7z]; exact kt_)) ?_
      refine o_icmpYes X0 hx 34 (hb hby d15_4) (feq (by decide : ¬ ((0 : Int32) = (2 : Int32)))).2 (by decide) (by decide) ?_
      refine o_iconst X0 hx (0 : Int32) (hb hby d15_34) rfl ?_
      refine oend X0 hlk (v := some (.int (0 : Int32))) (fun h => by rw [hret] at h; cases h) (fun fs hr => retN X0 hx (t := .boolean) hret (by simp) (hb hby d15_35) hr) (by decide) (by decide) ?_
      show own_Q_l1eq Z _ _ _ _ _ _ _ _ _ _ h0 n0 _ s₁.heap _
      rw [e0]
      refine ⟨?_, N0, rfl⟩
      simp [own_b]
  · rcases pr3 with ⟨rfl, rfl, rfl⟩ | ⟨w0, rfl, rfl, rfl, hw0⟩ | ⟨w0, w1, rfl, rfl, rfl, hw0, hw1⟩
    · refine o_aloadN X0 hx (hb hby d15_0) rfl rfl ?_
      obtain ⟨cl8, Ar8, -, S8, N8z, -, -⟩ := (id pr0)
      refine ogo (S' := s₁.setTop (mkF m 2 #[.val (.ref ba_), .val (.ref bb_), .unset] [(.int (1 : Int32))])) (fun _ kt_ => X0.arraylength hx (by rw [e0]; exact Ar8.1) (State.isArrayOf_alike hZ.alike Ar8.2.1) (g := (mkF m 1 #[.val (.ref ba_), .val (.ref bb_), .unset] [(.ref ba_)])) rfl rfl (hb hby d15_1) _ (by rw [len_of S8 N8z]; exact kt_)) ?_
      refine o_aloadN X0 hx (hb hby d15_2) rfl rfl ?_
      obtain ⟨cl9, Ar9, -, S9, N9z, -, -⟩ := (id pr1)
      refine ogo (S' := s₁.setTop (mkF m 4 #[.val (.ref ba_), .val (.ref bb_), .unset] [(.int (0 : Int32)), (.int (1 : Int32))])) (fun _ kt_ => X0.arraylength hx (by rw [e0]; exact Ar9.1) (State.isArrayOf_alike hZ.alike Ar9.2.1) (g := (mkF m 3 #[.val (.ref ba_), .val (.ref bb_), .unset] [(.ref bb_), (.int (1 : Int32))])) rfl rfl (hb hby d15_3) _ (by rw [len_of S9 N9z]; exact kt_)) ?_
      refine o_icmpYes X0 hx 34 (hb hby d15_4) (feq (by decide : ¬ ((1 : Int32) = (0 : Int32)))).2 (by decide) (by decide) ?_
      refine o_iconst X0 hx (0 : Int32) (hb hby d15_34) rfl ?_
      refine oend X0 hlk (v := some (.int (0 : Int32))) (fun h => by rw [hret] at h; cases h) (fun fs hr => retN X0 hx (t := .boolean) hret (by simp) (hb hby d15_35) hr) (by decide) (by decide) ?_
      show own_Q_l1eq Z _ _ _ _ _ _ _ _ _ _ h0 n0 _ s₁.heap _
      rw [e0]
      refine ⟨?_, N0, rfl⟩
      simp [own_b]
    · refine o_aloadN X0 hx (hb hby d15_0) rfl rfl ?_
      obtain ⟨cl10, Ar10, -, S10, N10z, -, -⟩ := (id pr0)
      refine ogo (S' := s₁.setTop (mkF m 2 #[.val (.ref ba_), .val (.ref bb_), .unset] [(.int (1 : Int32))])) (fun _ kt_ => X0.arraylength hx (by rw [e0]; exact Ar10.1) (State.isArrayOf_alike hZ.alike Ar10.2.1) (g := (mkF m 1 #[.val (.ref ba_), .val (.ref bb_), .unset] [(.ref ba_)])) rfl rfl (hb hby d15_1) _ (by rw [len_of S10 N10z]; exact kt_)) ?_
      refine o_aloadN X0 hx (hb hby d15_2) rfl rfl ?_
      obtain ⟨cl11, Ar11, -, S11, N11z, -, -⟩ := (id pr1)
      refine ogo (S' := s₁.setTop (mkF m 4 #[.val (.ref ba_), .val (.ref bb_), .unset] [(.int (1 : Int32)), (.int (1 : Int32))])) (fun _ kt_ => X0.arraylength hx (by rw [e0]; exact Ar11.1) (State.isArrayOf_alike hZ.alike Ar11.2.1) (g := (mkF m 3 #[.val (.ref ba_), .val (.ref bb_), .unset] [(.ref bb_), (.int (1 : Int32))])) rfl rfl (hb hby d15_3) _ (by rw [len_of S11 N11z]; exact kt_)) ?_
      refine o_icmpNo X0 hx (hb hby d15_4) (teq (by decide : (1 : Int32) = (1 : Int32))).2 ?_
      refine o_iconst X0 hx (0 : Int32) (hb hby d15_7) rfl ?_
      refine o_istoreN X0 hx (l' := #[.val (.ref ba_), .val (.ref bb_), .val (.int (0 : Int32))]) (hb hby d15_8) rfl ?_
      refine o_iloadN X0 hx (hb hby d15_9) rfl ?_
      refine o_aloadN X0 hx (hb hby d15_10) rfl rfl ?_
      obtain ⟨cl12, Ar12, -, S12, N12z, -, -⟩ := (id pr0)
      refine ogo (S' := s₁.setTop (mkF m 12 #[.val (.ref ba_), .val (.ref bb_), .val (.int (0 : Int32))] [(.int (1 : Int32)), (.int (0 : Int32))])) (fun _ kt_ => X0.arraylength hx (by rw [e0]; exact Ar12.1) (State.isArrayOf_alike hZ.alike Ar12.2.1) (g := (mkF m 11 #[.val (.ref ba_), .val (.ref bb_), .val (.int (0 : Int32))] [(.ref ba_), (.int (0 : Int32))])) rfl rfl (hb hby d15_11) _ (by rw [len_of S12 N12z]; exact kt_)) ?_
      refine o_icmpNo X0 hx (hb hby d15_12) (tlt (by decide : (0 : Int32) < (1 : Int32))).2.1 ?_
      refine o_aloadN X0 hx (hb hby d15_15) rfl rfl ?_
      refine o_iloadN X0 hx (hb hby d15_16) rfl ?_
      obtain ⟨cl13, Ar13, q13, S13, N13z, H13, G13⟩ := (id pr0)
      have hi13 := inb_of (j := (0 : Int32)) S13 ⟨by decide, by decide⟩
      have ha13 := Has.at (v := (.int u0.toInt8.toInt32)) H13 hi13 rfl
      refine ogo (S' := s₁.setTop (mkF m 18 #[.val (.ref ba_), .val (.ref bb_), .val (.int (0 : Int32))] [(.int u0.toInt8.toInt32)])) (X0.baloadBytes hx (j := (0 : Int32)) (v := (.int u0.toInt8.toInt32)) (by rw [e0]; exact Ar13.1) (State.isArrayOf_alike hZ.alike Ar13.2.1) Ar13.2.2 hi13 ha13 (g := (mkF m 17 #[.val (.ref ba_), .val (.ref bb_), .val (.int (0 : Int32))] [(.int (0 : Int32)), (.ref ba_)])) rfl rfl (hb hby d15_17)) ?_
      refine o_aloadN X0 hx (hb hby d15_18) rfl rfl ?_
      refine o_iloadN X0 hx (hb hby d15_19) rfl ?_
      obtain ⟨cl14, Ar14, q14, S14, N14z, H14, G14⟩ := (id pr1)
      have hi14 := inb_of (j := (0 : Int32)) S14 ⟨by decide, by decide⟩
      have ha14 := Has.at (v := (.int w0.toInt8.toInt32)) H14 hi14 rfl
      refine ogo (S' := s₁.setTop (mkF m 21 #[.val (.ref ba_), .val (.ref bb_), .val (.int (0 : Int32))] [(.int w0.toInt8.toInt32), (.int u0.toInt8.toInt32)])) (X0.baloadBytes hx (j := (0 : Int32)) (v := (.int w0.toInt8.toInt32)) (by rw [e0]; exact Ar14.1) (State.isArrayOf_alike hZ.alike Ar14.2.1) Ar14.2.2 hi14 ha14 (g := (mkF m 20 #[.val (.ref ba_), .val (.ref bb_), .val (.int (0 : Int32))] [(.int (0 : Int32)), (.ref bb_), (.int u0.toInt8.toInt32)])) rfl rfl (hb hby d15_20)) ?_
      by_cases hc15 : u0.toInt8.toInt32 = w0.toInt8.toInt32
      · refine o_icmpYes X0 hx 26 (hb hby d15_21) (teq hc15).1 (by decide) (by decide) ?_
        refine o_iinc X0 hx (l' := #[.val (.ref ba_), .val (.ref bb_), .val (.int (1 : Int32))]) (hb hby d15_26) rfl rfl ?_
        refine o_goto X0 hx 9 (hb hby d15_29) (by decide) (by decide) ?_
        refine o_iloadN X0 hx (hb hby d15_9) rfl ?_
        refine o_aloadN X0 hx (hb hby d15_10) rfl rfl ?_
        obtain ⟨cl16, Ar16, -, S16, N16z, -, -⟩ := (id pr0)
        refine ogo (S' := s₁.setTop (mkF m 12 #[.val (.ref ba_), .val (.ref bb_), .val (.int (1 : Int32))] [(.int (1 : Int32)), (.int (1 : Int32))])) (fun _ kt_ => X0.arraylength hx (by rw [e0]; exact Ar16.1) (State.isArrayOf_alike hZ.alike Ar16.2.1) (g := (mkF m 11 #[.val (.ref ba_), .val (.ref bb_), .val (.int (1 : Int32))] [(.ref ba_), (.int (1 : Int32))])) rfl rfl (hb hby d15_11) _ (by rw [len_of S16 N16z]; exact kt_)) ?_
        refine o_icmpYes X0 hx 32 (hb hby d15_12) (flt (by decide : ¬ ((1 : Int32) < (1 : Int32)))).2.1 (by decide) (by decide) ?_
        refine o_iconst X0 hx (1 : Int32) (hb hby d15_32) rfl ?_
        refine oend X0 hlk (v := some (.int (1 : Int32))) (fun h => by rw [hret] at h; cases h) (fun fs hr => retN X0 hx (t := .boolean) hret (by simp) (hb hby d15_33) hr) (by decide) (by decide) ?_
        show own_Q_l1eq Z _ _ _ _ _ _ _ _ _ _ h0 n0 _ s₁.heap _
        rw [e0]
        refine ⟨?_, N0, rfl⟩
        rw [own_binj hu0 hw0] at hc15
        simp [own_b, hc15]
      · refine o_icmpNo X0 hx (hb hby d15_21) (feq hc15).1 ?_
        refine o_iconst X0 hx (0 : Int32) (hb hby d15_24) rfl ?_
        refine oend X0 hlk (v := some (.int (0 : Int32))) (fun h => by rw [hret] at h; cases h) (fun fs hr => retN X0 hx (t := .boolean) hret (by simp) (hb hby d15_25) hr) (by decide) (by decide) ?_
        show own_Q_l1eq Z _ _ _ _ _ _ _ _ _ _ h0 n0 _ s₁.heap _
        rw [e0]
        refine ⟨?_, N0, rfl⟩
        rw [own_binj hu0 hw0] at hc15
        simp [own_b, hc15]
    · refine o_aloadN X0 hx (hb hby d15_0) rfl rfl ?_
      obtain ⟨cl17, Ar17, -, S17, N17z, -, -⟩ := (id pr0)
      refine ogo (S' := s₁.setTop (mkF m 2 #[.val (.ref ba_), .val (.ref bb_), .unset] [(.int (1 : Int32))])) (fun _ kt_ => X0.arraylength hx (by rw [e0]; exact Ar17.1) (State.isArrayOf_alike hZ.alike Ar17.2.1) (g := (mkF m 1 #[.val (.ref ba_), .val (.ref bb_), .unset] [(.ref ba_)])) rfl rfl (hb hby d15_1) _ (by rw [len_of S17 N17z]; exact kt_)) ?_
      refine o_aloadN X0 hx (hb hby d15_2) rfl rfl ?_
      obtain ⟨cl18, Ar18, -, S18, N18z, -, -⟩ := (id pr1)
      refine ogo (S' := s₁.setTop (mkF m 4 #[.val (.ref ba_), .val (.ref bb_), .unset] [(.int (2 : Int32)), (.int (1 : Int32))])) (fun _ kt_ => X0.arraylength hx (by rw [e0]; exact Ar18.1) (State.isArrayOf_alike hZ.alike Ar18.2.1) (g := (mkF m 3 #[.val (.ref ba_), .val (.ref bb_), .unset] [(.ref bb_), (.int (1 : Int32))])) rfl rfl (hb hby d15_3) _ (by rw [len_of S18 N18z]; exact kt_)) ?_
      refine o_icmpYes X0 hx 34 (hb hby d15_4) (feq (by decide : ¬ ((1 : Int32) = (2 : Int32)))).2 (by decide) (by decide) ?_
      refine o_iconst X0 hx (0 : Int32) (hb hby d15_34) rfl ?_
      refine oend X0 hlk (v := some (.int (0 : Int32))) (fun h => by rw [hret] at h; cases h) (fun fs hr => retN X0 hx (t := .boolean) hret (by simp) (hb hby d15_35) hr) (by decide) (by decide) ?_
      show own_Q_l1eq Z _ _ _ _ _ _ _ _ _ _ h0 n0 _ s₁.heap _
      rw [e0]
      refine ⟨?_, N0, rfl⟩
      simp [own_b]
  · rcases pr3 with ⟨rfl, rfl, rfl⟩ | ⟨w0, rfl, rfl, rfl, hw0⟩ | ⟨w0, w1, rfl, rfl, rfl, hw0, hw1⟩
    · refine o_aloadN X0 hx (hb hby d15_0) rfl rfl ?_
      obtain ⟨cl19, Ar19, -, S19, N19z, -, -⟩ := (id pr0)
      refine ogo (S' := s₁.setTop (mkF m 2 #[.val (.ref ba_), .val (.ref bb_), .unset] [(.int (2 : Int32))])) (fun _ kt_ => X0.arraylength hx (by rw [e0]; exact Ar19.1) (State.isArrayOf_alike hZ.alike Ar19.2.1) (g := (mkF m 1 #[.val (.ref ba_), .val (.ref bb_), .unset] [(.ref ba_)])) rfl rfl (hb hby d15_1) _ (by rw [len_of S19 N19z]; exact kt_)) ?_
      refine o_aloadN X0 hx (hb hby d15_2) rfl rfl ?_
      obtain ⟨cl20, Ar20, -, S20, N20z, -, -⟩ := (id pr1)
      refine ogo (S' := s₁.setTop (mkF m 4 #[.val (.ref ba_), .val (.ref bb_), .unset] [(.int (0 : Int32)), (.int (2 : Int32))])) (fun _ kt_ => X0.arraylength hx (by rw [e0]; exact Ar20.1) (State.isArrayOf_alike hZ.alike Ar20.2.1) (g := (mkF m 3 #[.val (.ref ba_), .val (.ref bb_), .unset] [(.ref bb_), (.int (2 : Int32))])) rfl rfl (hb hby d15_3) _ (by rw [len_of S20 N20z]; exact kt_)) ?_
      refine o_icmpYes X0 hx 34 (hb hby d15_4) (feq (by decide : ¬ ((2 : Int32) = (0 : Int32)))).2 (by decide) (by decide) ?_
      refine o_iconst X0 hx (0 : Int32) (hb hby d15_34) rfl ?_
      refine oend X0 hlk (v := some (.int (0 : Int32))) (fun h => by rw [hret] at h; cases h) (fun fs hr => retN X0 hx (t := .boolean) hret (by simp) (hb hby d15_35) hr) (by decide) (by decide) ?_
      show own_Q_l1eq Z _ _ _ _ _ _ _ _ _ _ h0 n0 _ s₁.heap _
      rw [e0]
      refine ⟨?_, N0, rfl⟩
      simp [own_b]
    · refine o_aloadN X0 hx (hb hby d15_0) rfl rfl ?_
      obtain ⟨cl21, Ar21, -, S21, N21z, -, -⟩ := (id pr0)
      refine ogo (S' := s₁.setTop (mkF m 2 #[.val (.ref ba_), .val (.ref bb_), .unset] [(.int (2 : Int32))])) (fun _ kt_ => X0.arraylength hx (by rw [e0]; exact Ar21.1) (State.isArrayOf_alike hZ.alike Ar21.2.1) (g := (mkF m 1 #[.val (.ref ba_), .val (.ref bb_), .unset] [(.ref ba_)])) rfl rfl (hb hby d15_1) _ (by rw [len_of S21 N21z]; exact kt_)) ?_
      refine o_aloadN X0 hx (hb hby d15_2) rfl rfl ?_
      obtain ⟨cl22, Ar22, -, S22, N22z, -, -⟩ := (id pr1)
      refine ogo (S' := s₁.setTop (mkF m 4 #[.val (.ref ba_), .val (.ref bb_), .unset] [(.int (1 : Int32)), (.int (2 : Int32))])) (fun _ kt_ => X0.arraylength hx (by rw [e0]; exact Ar22.1) (State.isArrayOf_alike hZ.alike Ar22.2.1) (g := (mkF m 3 #[.val (.ref ba_), .val (.ref bb_), .unset] [(.ref bb_), (.int (2 : Int32))])) rfl rfl (hb hby d15_3) _ (by rw [len_of S22 N22z]; exact kt_)) ?_
      refine o_icmpYes X0 hx 34 (hb hby d15_4) (feq (by decide : ¬ ((2 : Int32) = (1 : Int32)))).2 (by decide) (by decide) ?_
      refine o_iconst X0 hx (0 : Int32) (hb hby d15_34) rfl ?_
      refine oend X0 hlk (v := some (.int (0 : Int32))) (fun h => by rw [hret] at h; cases h) (fun fs hr => retN X0 hx (t := .boolean) hret (by simp) (hb hby d15_35) hr) (by decide) (by decide) ?_
      show own_Q_l1eq Z _ _ _ _ _ _ _ _ _ _ h0 n0 _ s₁.heap _
      rw [e0]
      refine ⟨?_, N0, rfl⟩
      simp [own_b]
    · refine o_aloadN X0 hx (hb hby d15_0) rfl rfl ?_
      obtain ⟨cl23, Ar23, -, S23, N23z, -, -⟩ := (id pr0)
      refine ogo (S' := s₁.setTop (mkF m 2 #[.val (.ref ba_), .val (.ref bb_), .unset] [(.int (2 : Int32))])) (fun _ kt_ => X0.arraylength hx (by rw [e0]; exact Ar23.1) (State.isArrayOf_alike hZ.alike Ar23.2.1) (g := (mkF m 1 #[.val (.ref ba_), .val (.ref bb_), .unset] [(.ref ba_)])) rfl rfl (hb hby d15_1) _ (by rw [len_of S23 N23z]; exact kt_)) ?_
      refine o_aloadN X0 hx (hb hby d15_2) rfl rfl ?_
      obtain ⟨cl24, Ar24, -, S24, N24z, -, -⟩ := (id pr1)
      refine ogo (S' := s₁.setTop (mkF m 4 #[.val (.ref ba_), .val (.ref bb_), .unset] [(.int (2 : Int32)), (.int (2 : Int32))])) (fun _ kt_ => X0.arraylength hx (by rw [e0]; exact Ar24.1) (State.isArrayOf_alike hZ.alike Ar24.2.1) (g := (mkF m 3 #[.val (.ref ba_), .val (.ref bb_), .unset] [(.ref bb_), (.int (2 : Int32))])) rfl rfl (hb hby d15_3) _ (by rw [len_of S24 N24z]; exact kt_)) ?_
      refine o_icmpNo X0 hx (hb hby d15_4) (teq (by decide : (2 : Int32) = (2 : Int32))).2 ?_
      refine o_iconst X0 hx (0 : Int32) (hb hby d15_7) rfl ?_
      refine o_istoreN X0 hx (l' := #[.val (.ref ba_), .val (.ref bb_), .val (.int (0 : Int32))]) (hb hby d15_8) rfl ?_
      refine o_iloadN X0 hx (hb hby d15_9) rfl ?_
      refine o_aloadN X0 hx (hb hby d15_10) rfl rfl ?_
      obtain ⟨cl25, Ar25, -, S25, N25z, -, -⟩ := (id pr0)
      refine ogo (S' := s₁.setTop (mkF m 12 #[.val (.ref ba_), .val (.ref bb_), .val (.int (0 : Int32))] [(.int (2 : Int32)), (.int (0 : Int32))])) (fun _ kt_ => X0.arraylength hx (by rw [e0]; exact Ar25.1) (State.isArrayOf_alike hZ.alike Ar25.2.1) (g := (mkF m 11 #[.val (.ref ba_), .val (.ref bb_), .val (.int (0 : Int32))] [(.ref ba_), (.int (0 : Int32))])) rfl rfl (hb hby d15_11) _ (by rw [len_of S25 N25z]; exact kt_)) ?_
      refine o_icmpNo X0 hx (hb hby d15_12) (tlt (by decide : (0 : Int32) < (2 : Int32))).2.1 ?_
      refine o_aloadN X0 hx (hb hby d15_15) rfl rfl ?_
      refine o_iloadN X0 hx (hb hby d15_16) rfl ?_
      obtain ⟨cl26, Ar26, q26, S26, N26z, H26, G26⟩ := (id pr0)
      have hi26 := inb_of (j := (0 : Int32)) S26 ⟨by decide, by decide⟩
      have ha26 := Has.at (v := (.int u0.toInt8.toInt32)) H26 hi26 rfl
      refine ogo (S' := s₁.setTop (mkF m 18 #[.val (.ref ba_), .val (.ref bb_), .val (.int (0 : Int32))] [(.int u0.toInt8.toInt32)])) (X0.baloadBytes hx (j := (0 : Int32)) (v := (.int u0.toInt8.toInt32)) (by rw [e0]; exact Ar26.1) (State.isArrayOf_alike hZ.alike Ar26.2.1) Ar26.2.2 hi26 ha26 (g := (mkF m 17 #[.val (.ref ba_), .val (.ref bb_), .val (.int (0 : Int32))] [(.int (0 : Int32)), (.ref ba_)])) rfl rfl (hb hby d15_17)) ?_
      refine o_aloadN X0 hx (hb hby d15_18) rfl rfl ?_
      refine o_iloadN X0 hx (hb hby d15_19) rfl ?_
      obtain ⟨cl27, Ar27, q27, S27, N27z, H27, G27⟩ := (id pr1)
      have hi27 := inb_of (j := (0 : Int32)) S27 ⟨by decide, by decide⟩
      have ha27 := Has.at (v := (.int w0.toInt8.toInt32)) H27 hi27 rfl
      refine ogo (S' := s₁.setTop (mkF m 21 #[.val (.ref ba_), .val (.ref bb_), .val (.int (0 : Int32))] [(.int w0.toInt8.toInt32), (.int u0.toInt8.toInt32)])) (X0.baloadBytes hx (j := (0 : Int32)) (v := (.int w0.toInt8.toInt32)) (by rw [e0]; exact Ar27.1) (State.isArrayOf_alike hZ.alike Ar27.2.1) Ar27.2.2 hi27 ha27 (g := (mkF m 20 #[.val (.ref ba_), .val (.ref bb_), .val (.int (0 : Int32))] [(.int (0 : Int32)), (.ref bb_), (.int u0.toInt8.toInt32)])) rfl rfl (hb hby d15_20)) ?_
      by_cases hc28 : u0.toInt8.toInt32 = w0.toInt8.toInt32
      · refine o_icmpYes X0 hx 26 (hb hby d15_21) (teq hc28).1 (by decide) (by decide) ?_
        refine o_iinc X0 hx (l' := #[.val (.ref ba_), .val (.ref bb_), .val (.int (1 : Int32))]) (hb hby d15_26) rfl rfl ?_
        refine o_goto X0 hx 9 (hb hby d15_29) (by decide) (by decide) ?_
        refine o_iloadN X0 hx (hb hby d15_9) rfl ?_
        refine o_aloadN X0 hx (hb hby d15_10) rfl rfl ?_
        obtain ⟨cl29, Ar29, -, S29, N29z, -, -⟩ := (id pr0)
        refine ogo (S' := s₁.setTop (mkF m 12 #[.val (.ref ba_), .val (.ref bb_), .val (.int (1 : Int32))] [(.int (2 : Int32)), (.int (1 : Int32))])) (fun _ kt_ => X0.arraylength hx (by rw [e0]; exact Ar29.1) (State.isArrayOf_alike hZ.alike Ar29.2.1) (g := (mkF m 11 #[.val (.ref ba_), .val (.ref bb_), .val (.int (1 : Int32))] [(.ref ba_), (.int (1 : Int32))])) rfl rfl (hb hby d15_11) _ (by rw [len_of S29 N29z]; exact kt_)) ?_
        refine o_icmpNo X0 hx (hb hby d15_12) (tlt (by decide : (1 : Int32) < (2 : Int32))).2.1 ?_
        refine o_aloadN X0 hx (hb hby d15_15) rfl rfl ?_
        refine o_iloadN X0 hx (hb hby d15_16) rfl ?_
        obtain ⟨cl30, Ar30, q30, S30, N30z, H30, G30⟩ := (id pr0)
        have hi30 := inb_of (j := (1 : Int32)) S30 ⟨by decide, by decide⟩
        have ha30 := Has.at (v := (.int u1.toInt8.toInt32)) H30 hi30 rfl
        refine ogo (S' := s₁.setTop (mkF m 18 #[.val (.ref ba_), .val (.ref bb_), .val (.int (1 : Int32))] [(.int u1.toInt8.toInt32)])) (X0.baloadBytes hx (j := (1 : Int32)) (v := (.int u1.toInt8.toInt32)) (by rw [e0]; exact Ar30.1) (State.isArrayOf_alike hZ.alike Ar30.2.1) Ar30.2.2 hi30 ha30 (g := (mkF m 17 #[.val (.ref ba_), .val (.ref bb_), .val (.int (1 : Int32))] [(.int (1 : Int32)), (.ref ba_)])) rfl rfl (hb hby d15_17)) ?_
        refine o_aloadN X0 hx (hb hby d15_18) rfl rfl ?_
        refine o_iloadN X0 hx (hb hby d15_19) rfl ?_
        obtain ⟨cl31, Ar31, q31, S31, N31z, H31, G31⟩ := (id pr1)
        have hi31 := inb_of (j := (1 : Int32)) S31 ⟨by decide, by decide⟩
        have ha31 := Has.at (v := (.int w1.toInt8.toInt32)) H31 hi31 rfl
        refine ogo (S' := s₁.setTop (mkF m 21 #[.val (.ref ba_), .val (.ref bb_), .val (.int (1 : Int32))] [(.int w1.toInt8.toInt32), (.int u1.toInt8.toInt32)])) (X0.baloadBytes hx (j := (1 : Int32)) (v := (.int w1.toInt8.toInt32)) (by rw [e0]; exact Ar31.1) (State.isArrayOf_alike hZ.alike Ar31.2.1) Ar31.2.2 hi31 ha31 (g := (mkF m 20 #[.val (.ref ba_), .val (.ref bb_), .val (.int (1 : Int32))] [(.int (1 : Int32)), (.ref bb_), (.int u1.toInt8.toInt32)])) rfl rfl (hb hby d15_20)) ?_
        by_cases hc32 : u1.toInt8.toInt32 = w1.toInt8.toInt32
        · refine o_icmpYes X0 hx 26 (hb hby d15_21) (teq hc32).1 (by decide) (by decide) ?_
          refine o_iinc X0 hx (l' := #[.val (.ref ba_), .val (.ref bb_), .val (.int (2 : Int32))]) (hb hby d15_26) rfl rfl ?_
          refine o_goto X0 hx 9 (hb hby d15_29) (by decide) (by decide) ?_
          refine o_iloadN X0 hx (hb hby d15_9) rfl ?_
          refine o_aloadN X0 hx (hb hby d15_10) rfl rfl ?_
          obtain ⟨cl33, Ar33, -, S33, N33z, -, -⟩ := (id pr0)
          refine ogo (S' := s₁.setTop (mkF m 12 #[.val (.ref ba_), .val (.ref bb_), .val (.int (2 : Int32))] [(.int (2 : Int32)), (.int (2 : Int32))])) (fun _ kt_ => X0.arraylength hx (by rw [e0]; exact Ar33.1) (State.isArrayOf_alike hZ.alike Ar33.2.1) (g := (mkF m 11 #[.val (.ref ba_), .val (.ref bb_), .val (.int (2 : Int32))] [(.ref ba_), (.int (2 : Int32))])) rfl rfl (hb hby d15_11) _ (by rw [len_of S33 N33z]; exact kt_)) ?_
          refine o_icmpYes X0 hx 32 (hb hby d15_12) (flt (by decide : ¬ ((2 : Int32) < (2 : Int32)))).2.1 (by decide) (by decide) ?_
          refine o_iconst X0 hx (1 : Int32) (hb hby d15_32) rfl ?_
          refine oend X0 hlk (v := some (.int (1 : Int32))) (fun h => by rw [hret] at h; cases h) (fun fs hr => retN X0 hx (t := .boolean) hret (by simp) (hb hby d15_33) hr) (by decide) (by decide) ?_
          show own_Q_l1eq Z _ _ _ _ _ _ _ _ _ _ h0 n0 _ s₁.heap _
          rw [e0]
          refine ⟨?_, N0, rfl⟩
          rw [own_binj hu0 hw0] at hc28
          rw [own_binj hu1 hw1] at hc32
          simp [own_b, hc28, hc32]
        · refine o_icmpNo X0 hx (hb hby d15_21) (feq hc32).1 ?_
          refine o_iconst X0 hx (0 : Int32) (hb hby d15_24) rfl ?_
          refine oend X0 hlk (v := some (.int (0 : Int32))) (fun h => by rw [hret] at h; cases h) (fun fs hr => retN X0 hx (t := .boolean) hret (by simp) (hb hby d15_25) hr) (by decide) (by decide) ?_
          show own_Q_l1eq Z _ _ _ _ _ _ _ _ _ _ h0 n0 _ s₁.heap _
          rw [e0]
          refine ⟨?_, N0, rfl⟩
          rw [own_binj hu0 hw0] at hc28
          rw [own_binj hu1 hw1] at hc32
          simp [own_b, hc28, hc32]
      · refine o_icmpNo X0 hx (hb hby d15_21) (feq hc28).1 ?_
        refine o_iconst X0 hx (0 : Int32) (hb hby d15_24) rfl ?_
        refine oend X0 hlk (v := some (.int (0 : Int32))) (fun h => by rw [hret] at h; cases h) (fun fs hr => retN X0 hx (t := .boolean) hret (by simp) (hb hby d15_25) hr) (by decide) (by decide) ?_
        show own_Q_l1eq Z _ _ _ _ _ _ _ _ _ _ h0 n0 _ s₁.heap _
        rw [e0]
        refine ⟨?_, N0, rfl⟩
        rw [own_binj hu0 hw0] at hc28
        simp [own_b, hc28]
theorem own_pd12 : parseMethodDescriptor "([B[B)Z" = some ⟨[(.array .byte), (.array .byte)], some .boolean⟩ := by decide +kernel
theorem d16_0 : decode jdk_42_method_66_code 0 = .ok (.aload_n 0, 1) := by decide +kernel
theorem d16_1 : decode jdk_42_method_66_code 1 = .ok (.aload_n 1, 1) := by decide +kernel
theorem d16_2 : decode jdk_42_method_66_code 2 = .ok (.if_acmp .ne 5, 3) := by decide +kernel
theorem d16_7 : decode jdk_42_method_66_code 7 = .ok (.aload_n 1, 1) := by decide +kernel
theorem d16_8 : decode jdk_42_method_66_code 8 = .ok (.instanceof 10, 3) := by decide +kernel
theorem d16_11 : decode jdk_42_method_66_code 11 = .ok (.ifCond .eq 43, 3) := by decide +kernel
theorem d16_14 : decode jdk_42_method_66_code 14 = .ok (.aload_n 1, 1) := by decide +kernel
theorem d16_15 : decode jdk_42_method_66_code 15 = .ok (.checkcast 10, 3) := by decide +kernel
theorem d16_18 : decode jdk_42_method_66_code 18 = .ok (.astore_n 2, 1) := by decide +kernel
theorem d16_19 : decode jdk_42_method_66_code 19 = .ok (.getstatic 38, 3) := by decide +kernel
theorem d16_22 : decode jdk_42_method_66_code 22 = .ok (.ifCond .eq 14, 3) := by decide +kernel
theorem d16_25 : decode jdk_42_method_66_code 25 = .ok (.aload_n 0, 1) := by decide +kernel
theorem d16_26 : decode jdk_42_method_66_code 26 = .ok (.getfield 15, 3) := by decide +kernel
theorem d16_29 : decode jdk_42_method_66_code 29 = .ok (.aload_n 2, 1) := by decide +kernel
theorem d16_30 : decode jdk_42_method_66_code 30 = .ok (.getfield 15, 3) := by decide +kernel
theorem d16_33 : decode jdk_42_method_66_code 33 = .ok (.if_icmp .ne 21, 3) := by decide +kernel
theorem d16_36 : decode jdk_42_method_66_code 36 = .ok (.aload_n 0, 1) := by decide +kernel
theorem d16_37 : decode jdk_42_method_66_code 37 = .ok (.getfield 9, 3) := by decide +kernel
theorem d16_40 : decode jdk_42_method_66_code 40 = .ok (.aload_n 2, 1) := by decide +kernel
theorem d16_41 : decode jdk_42_method_66_code 41 = .ok (.getfield 9, 3) := by decide +kernel
theorem d16_44 : decode jdk_42_method_66_code 44 = .ok (.invokestatic 541, 3) := by decide +kernel
theorem d16_47 : decode jdk_42_method_66_code 47 = .ok (.ifCond .eq 7, 3) := by decide +kernel
theorem d16_54 : decode jdk_42_method_66_code 54 = .ok (.iconst 0, 1) := by decide +kernel
theorem d16_55 : decode jdk_42_method_66_code 55 = .ok (.ireturn, 1) := by decide +kernel
theorem d16_50 : decode jdk_42_method_66_code 50 = .ok (.iconst 1, 1) := by decide +kernel
theorem d16_51 : decode jdk_42_method_66_code 51 = .ok (.goto 4, 3) := by decide +kernel
def own_Q_equ (Z : State) (z_CS : Int32) (v_FMT : Value) (s_EMPTY : Addr) (x_ : Addr) (ba_ : Addr) (kb_ : ClassId) (n_ : Int32) (vs_ : List Value) (s_ : List Int32) (y_ : Addr) (bb_ : Addr) (kc_ : ClassId) (m_ : Int32) (ws_ : List Value) (t_ : List Int32) (h0 : Heap) (n0 : Nat) (v : Option Value) (h : Heap) (L : List Loc) : Prop := (v = some (.int (own_b s_ t_))) ∧ (Fr n0 L) ∧ (h = h0)
abbrev yM15 : MethodName := ⟨"java/lang/String", "equals", "(Ljava/lang/Object;)Z"⟩
set_option maxRecDepth 65536 in
set_option maxHeartbeats 40000000 in
theorem rm_equ (l : Launch) (Z : State) (a0 : Array Value) (hw : ∀ d ∈ tables_1, d.before a0 Z = true) (ws : List Jvm.Cond) (z_CS : Int32) (v_FMT : Value) (s_EMPTY : Addr) (x_ : Addr) (ba_ : Addr) (kb_ : ClassId) (n_ : Int32) (vs_ : List Value) (s_ : List Int32) (y_ : Addr) (bb_ : Addr) (kc_ : ClassId) (m_ : Int32) (ws_ : List Value) (t_ : List Int32) (h0 : Heap) (n0 : Nat) (SB : own_Start Z z_CS v_FMT s_EMPTY) (O0 : Old Z n0 h0) (pr0 : Exa Z h0 x_ "java/lang/String") (pr1 : Fld Z h0 x_ "java/lang/String" "coder" "B" (.int (0 : Int32))) (pr2 : Fld Z h0 x_ "java/lang/String" "value" "[B" (.ref ba_)) (pr3 : Arv Z h0 ba_ kb_ .byte n_ vs_ (.int 0)) (pr4 : Exa Z h0 y_ "java/lang/String") (pr5 : Fld Z h0 y_ "java/lang/String" "coder" "B" (.int (0 : Int32))) (pr6 : Fld Z h0 y_ "java/lang/String" "value" "[B" (.ref bb_)) (pr7 : Arv Z h0 bb_ kc_ .byte m_ ws_ (.int 0)) (pr8 : own_sh s_ n_ vs_) (pr9 : own_sh t_ m_ ws_) (pr10 : x_ ≠ y_) :
    oMet l Z yM15 jdk_42_method_66_code 3 (some .boolean) ws ({ frames := 1, cells := 0, slots := 0, locals := 14 } : Room) 0 0 #[(.ref x_), (.ref y_)] h0 (own_Q_equ Z z_CS v_FMT s_EMPTY x_ ba_ kb_ n_ vs_ s_ y_ bb_ kc_ m_ ws_ t_ h0 n0) := by
  refine oenter own_pn0 #[.val (.ref x_), .val (.ref y_), .unset] (fun m => by first | (simp [entryFrame, mkF, argsToLocals, Value.category]; done) | rfl) ?_
  intro p e s m below meth c s₁ X0 hx hZ hby hml hret hown0 hnm hlk e0
  have hown : s.vm.findClass "java/lang/String" = some m.cls := hown0
  have N0 := Fr.nil n0
  obtain ⟨S_CS, H_CS, S_FMT, R_FMT, S_EMPTY, E_EMPTY, F_EMPTY⟩ := (id SB)
  have w24 := hw _ (List.mem_of_getElem? (i := 24) rfl)
  have w25 := hw _ (List.mem_of_getElem? (i := 25) rfl)
  have w97 := hw _ (List.mem_of_getElem? (i := 97) rfl)
  have w113 := hw _ (List.mem_of_getElem? (i := 113) rfl)
  have w114 := hw _ (List.mem_of_getElem? (i := 114) rfl)
  have w115 := hw _ (List.mem_of_getElem? (i := 115) rfl)
  have w116 := hw _ (List.mem_of_getElem? (i := 116) rfl)
  have w117 := hw _ (List.mem_of_getElem? (i := 117) rfl)
  refine o_aloadN X0 hx (hb hby d16_0) rfl rfl ?_
  refine o_aloadN X0 hx (hb hby d16_1) rfl rfl ?_
  refine o_acmp X0 hx 7 false rfl rfl (hb hby d16_2) (decide_eq_false fun q => pr10 (Value.ref.inj q)) (by decide) (by decide) ?_
  refine o_aloadN X0 hx (hb hby d16_7) rfl rfl ?_
  obtain ⟨T1, X1, e1, st1⟩ := instY X0 hx hZ hown w113 e0 (Ins.self pr4) (g := (mkF m 8 #[.val (.ref x_), .val (.ref y_), .unset] [(.ref y_)])) rfl rfl (hb hby d16_8)
  refine ogo (S' := T1.setTop (mkF m 11 #[.val (.ref x_), .val (.ref y_), .unset] [(.int (1 : Int32))])) st1 ?_
  refine o_ifNo X1 hx (hb hby d16_11) (feq (by decide : ¬ ((1 : Int32) = (0 : Int32)))).1 ?_
  refine o_aloadN X1 hx (hb hby d16_14) rfl rfl ?_
  obtain ⟨T2, X2, e2, st2⟩ := castY X1 hx hZ hown w113 e1 (Ins.self pr4) (g := (mkF m 15 #[.val (.ref x_), .val (.ref y_), .unset] [(.ref y_)])) rfl rfl (hb hby d16_15)
  refine ogo (S' := T2.setTop (mkF m 18 #[.val (.ref x_), .val (.ref y_), .unset] [(.ref y_)])) st2 ?_
  refine o_astoreN X2 hx (l' := #[.val (.ref x_), .val (.ref y_), .val (.ref y_)]) (hb hby d16_18) rfl rfl ?_
  obtain ⟨T3, X3, e3, st3⟩ := getS2 X2 hx hZ hown (host := "") (Or.inl w97) Via.refl e2 (Sta.ext O0.2 S_CS) (g := (mkF m 19 #[.val (.ref x_), .val (.ref y_), .val (.ref y_)] [])) rfl (hb hby d16_19)
  refine ogo (S' := T3.setTop (mkF m 22 #[.val (.ref x_), .val (.ref y_), .val (.ref y_)] [(.int z_CS)])) st3 ?_
  refine o_ifNo X3 hx (hb hby d16_22) (feq H_CS).1 ?_
  refine o_aloadN X3 hx (hb hby d16_25) rfl rfl ?_
  obtain ⟨T4, X4, e4, st4⟩ := getF X3 hx hZ hown (host := "") (Or.inl w25) Via.refl e3 pr1 (g := (mkF m 26 #[.val (.ref x_), .val (.ref y_), .val (.ref y_)] [(.ref x_)])) rfl rfl (hb hby d16_26)
  refine ogo (S' := T4.setTop (mkF m 29 #[.val (.ref x_), .val (.ref y_), .val (.ref y_)] [(.int (0 : Int32))])) st4 ?_
  refine o_aloadN X4 hx (hb hby d16_29) rfl rfl ?_
  obtain ⟨T5, X5, e5, st5⟩ := getF X4 hx hZ hown (host := "") (Or.inl w25) Via.refl e4 pr5 (g := (mkF m 30 #[.val (.ref x_), .val (.ref y_), .val (.ref y_)] [(.ref y_), (.int (0 : Int32))])) rfl rfl (hb hby d16_30)
  refine ogo (S' := T5.setTop (mkF m 33 #[.val (.ref x_), .val (.ref y_), .val (.ref y_)] [(.int (0 : Int32)), (.int (0 : Int32))])) st5 ?_
  refine o_icmpNo X5 hx (hb hby d16_33) (teq (by decide : (0 : Int32) = (0 : Int32))).2 ?_
  refine o_aloadN X5 hx (hb hby d16_36) rfl rfl ?_
  obtain ⟨T6, X6, e6, st6⟩ := getF X5 hx hZ hown (host := "") (Or.inl w24) Via.refl e5 pr2 (g := (mkF m 37 #[.val (.ref x_), .val (.ref y_), .val (.ref y_)] [(.ref x_)])) rfl rfl (hb hby d16_37)
  refine ogo (S' := T6.setTop (mkF m 40 #[.val (.ref x_), .val (.ref y_), .val (.ref y_)] [(.ref ba_)])) st6 ?_
  refine o_aloadN X6 hx (hb hby d16_40) rfl rfl ?_
  obtain ⟨T7, X7, e7, st7⟩ := getF X6 hx hZ hown (host := "") (Or.inl w24) Via.refl e6 pr6 (g := (mkF m 41 #[.val (.ref x_), .val (.ref y_), .val (.ref y_)] [(.ref y_), (.ref ba_)])) rfl rfl (hb hby d16_41)
  refine ogo (S' := T7.setTop (mkF m 44 #[.val (.ref x_), .val (.ref y_), .val (.ref y_)] [(.ref bb_), (.ref ba_)])) st7 ?_
  obtain ⟨_, _, ⟨T8, L8, kc8, n8⟩, -, X8, ⟨Lc8, hQ8, l8, y8, z8⟩, st8⟩ := Jvm.LawKit.callS X7 hx (y := yM14) hown (mvT hZ w114) (mvT hZ w115) (mvT hZ w116) (mvT hZ w117) (by decide) (backOf (W := 0) (rm_l1eq l Z a0 hw []  ba_ kb_ n_ vs_ s_ bb_ kc_ m_ ws_ t_ h0 n0 O0 pr3 pr7 pr8 pr9) hZ w117 w116 (by decide) (by decide)) (g := (mkF m 44 #[.val (.ref x_), .val (.ref y_), .val (.ref y_)] [(.ref bb_), (.ref ba_)])) rfl (by rw [hml]; rfl) (argsL := [(.ref ba_), (.ref bb_)]) (rest := []) (lenOf own_pd12 rfl) rfl (by show 2 * 0 + _ ≤ _; exact Nat.le_of_eq rfl) (hb hby d16_44) (fun _ _ => ⟨rfl, e7, (by decide : 0 + 0 ≤ _), (by decide : 0 + 0 ≤ _)⟩)
  dsimp only [Pt.U, Pt.locs, Pt.cells, Pt.slots] at X8 l8 y8 z8 st8 hQ8
  subst l8 y8 z8
  obtain ⟨rfl, Nq8, e8⟩ := hQ8
  have N8 := Fr.app N0 Nq8
  refine ogo (S' := T8.setTop (mkF m 47 #[.val (.ref x_), .val (.ref y_), .val (.ref y_)] [(.int (own_b s_ t_))])) st8 ?_
  by_cases hc9 : (own_b s_ t_) = (0 : Int32)
  · refine o_ifYes X8 hx 54 (hb hby d16_47) (teq hc9).1 (by decide) (by decide) ?_
    refine o_iconst X8 hx (0 : Int32) (hb hby d16_54) rfl ?_
    refine oend X8 hlk (v := some (.int (0 : Int32))) (fun h => by rw [hret] at h; cases h) (fun fs hr => retN X8 hx (t := .boolean) hret (by simp) (hb hby d16_55) hr) (by decide) (by decide) ?_
    show own_Q_equ Z _ _ _ _ _ _ _ _ _ _ _ _ _ _ _ h0 n0 _ T8.heap _
    rw [e8]
    refine ⟨?_, N8, rfl⟩
    rw [hc9]
  · refine o_ifNo X8 hx (hb hby d16_47) (feq hc9).1 ?_
    refine o_iconst X8 hx (1 : Int32) (hb hby d16_50) rfl ?_
    refine o_goto X8 hx 55 (hb hby d16_51) (by decide) (by decide) ?_
    refine oend X8 hlk (v := some (.int (1 : Int32))) (fun h => by rw [hret] at h; cases h) (fun fs hr => retN X8 hx (t := .boolean) hret (by simp) (hb hby d16_55) hr) (by decide) (by decide) ?_
    show own_Q_equ Z _ _ _ _ _ _ _ _ _ _ _ _ _ _ _ h0 n0 _ T8.heap _
    rw [e8]
    refine ⟨?_, N8, rfl⟩
    rw [own_b1 hc9]
theorem d17_0 : decode jdk_30_method_1_code 0 = .ok (.aload_n 0, 1) := by decide +kernel
theorem d17_1 : decode jdk_30_method_1_code 1 = .ok (.invokespecial 1, 3) := by decide +kernel
theorem d17_4 : decode jdk_30_method_1_code 4 = .ok (.return_, 1) := by decide +kernel
theorem own_pn5 : plainName "java/lang/Record" = true := by first | (simp [plainName, overriddenIn]; done) | decide +kernel
def own_Q_rec (Z : State)  (x_ : Addr) (h0 : Heap) (n0 : Nat) (v : Option Value) (h : Heap) (L : List Loc) : Prop := (v = none) ∧ (Fr n0 L) ∧ (h = h0)
abbrev yM16 : MethodName := ⟨"java/lang/Record", "<init>", "()V"⟩
set_option maxRecDepth 65536 in
set_option maxHeartbeats 40000000 in
theorem rm_rec (l : Launch) (Z : State) (a0 : Array Value) (hw : ∀ d ∈ tables_1, d.before a0 Z = true) (ws : List Jvm.Cond)  (x_ : Addr) (h0 : Heap) (n0 : Nat) (O0 : Old Z n0 h0)  :
    oMet l Z yM16 jdk_30_method_1_code 1 none ws ({ frames := 1, cells := 0, slots := 0, locals := 12 } : Room) 0 0 #[(.ref x_)] h0 (own_Q_rec Z  x_ h0 n0) := by
  refine oenter own_pn5 #[.val (.ref x_)] (fun m => by first | (simp [entryFrame, mkF, argsToLocals, Value.category]; done) | rfl) ?_
  intro p e s m below meth c s₁ X0 hx hZ hby hml hret hown0 hnm hlk e0
  have hown : s.vm.findClass "java/lang/Record" = some m.cls := hown0
  have N0 := Fr.nil n0
  have w16 := hw _ (List.mem_of_getElem? (i := 16) rfl)
  have w17 := hw _ (List.mem_of_getElem? (i := 17) rfl)
  have w37 := hw _ (List.mem_of_getElem? (i := 37) rfl)
  refine o_aloadN X0 hx (hb hby d17_0) rfl rfl ?_
  obtain ⟨T1, X1, e1, st1⟩ := initO X0 hx hZ hown w37 w16 w17 e0 (g := (mkF m 1 #[.val (.ref x_)] [(.ref x_)])) rfl (by rw [hml]; rfl) rfl (hb hby d17_1) (by decide) (W := 0) (by show 2 * 0 + _ ≤ _; exact Nat.le_of_eq rfl) (by decide)
  refine ogo (S' := T1.setTop (mkF m 4 #[.val (.ref x_)] [])) st1 ?_
  refine oend X1 hlk (v := none) (fun _ => rfl) (fun fs hr => X1.returnOut hx hret (hb hby d17_4) hr) (by decide) (by decide) ?_
  show own_Q_rec Z _ h0 n0 _ T1.heap _
  rw [e1]
  exact ⟨rfl, N0, rfl⟩
theorem own_pd13 : parseMethodDescriptor "()V" = some ⟨[], none⟩ := by decide +kernel
theorem d18_0 : decode prog_3_method_1_code 0 = .ok (.aload_n 0, 1) := by decide +kernel
theorem d18_1 : decode prog_3_method_1_code 1 = .ok (.invokespecial 1, 3) := by decide +kernel
theorem d18_4 : decode prog_3_method_1_code 4 = .ok (.aload_n 0, 1) := by decide +kernel
theorem d18_5 : decode prog_3_method_1_code 5 = .ok (.aload_n 1, 1) := by decide +kernel
theorem d18_6 : decode prog_3_method_1_code 6 = .ok (.putfield 7, 3) := by decide +kernel
theorem d18_9 : decode prog_3_method_1_code 9 = .ok (.aload_n 0, 1) := by decide +kernel
theorem d18_10 : decode prog_3_method_1_code 10 = .ok (.aload_n 2, 1) := by decide +kernel
theorem d18_11 : decode prog_3_method_1_code 11 = .ok (.putfield 13, 3) := by decide +kernel
theorem d18_14 : decode prog_3_method_1_code 14 = .ok (.aload_n 0, 1) := by decide +kernel
theorem d18_15 : decode prog_3_method_1_code 15 = .ok (.aload_n 3, 1) := by decide +kernel
theorem d18_16 : decode prog_3_method_1_code 16 = .ok (.putfield 16, 3) := by decide +kernel
theorem d18_19 : decode prog_3_method_1_code 19 = .ok (.return_, 1) := by decide +kernel
theorem own_pn6 : plainName "com/example/reliquary/reliquary/DeadLetterSelection" = true := by first | (simp [plainName, overriddenIn]; done) | decide +kernel
def own_Q_dli (Z : State)  (x_ : Addr) (q_ : Value) (p_ : Value) (c_ : Value) (h0 : Heap) (n0 : Nat) (v : Option Value) (h : Heap) (L : List Loc) : Prop := (v = none) ∧ (Fr n0 L) ∧ (Keep h0 h [x_]) ∧ (Exa Z h x_ "com/example/reliquary/reliquary/DeadLetterSelection") ∧ (Fld Z h x_ "com/example/reliquary/reliquary/DeadLetterSelection" "queue" "Ljava/lang/String;" q_) ∧ (Fld Z h x_ "com/example/reliquary/reliquary/DeadLetterSelection" "space" "Ljava/lang/String;" p_) ∧ (Fld Z h x_ "com/example/reliquary/reliquary/DeadLetterSelection" "contentId" "Ljava/lang/String;" c_)
abbrev yM17 : MethodName := ⟨"com/example/reliquary/reliquary/DeadLetterSelection", "<init>", "(Ljava/lang/String;Ljava/lang/String;Ljava/lang/String;)V"⟩
set_option maxRecDepth 65536 in
set_option maxHeartbeats 40000000 in
theorem rm_dli (l : Launch) (Z : State) (a0 : Array Value) (hw : ∀ d ∈ tables_1, d.before a0 Z = true) (ws : List Jvm.Cond)  (x_ : Addr) (q_ : Value) (p_ : Value) (c_ : Value) (h0 : Heap) (n0 : Nat) (O0 : Old Z n0 h0) (pr0 : Exa Z h0 x_ "com/example/reliquary/reliquary/DeadLetterSelection") (pr1 : Fld Z h0 x_ "com/example/reliquary/reliquary/DeadLetterSelection" "queue" "Ljava/lang/String;" .null) (pr2 : Fld Z h0 x_ "com/example/reliquary/reliquary/DeadLetterSelection" "space" "Ljava/lang/String;" .null) (pr3 : Fld Z h0 x_ "com/example/reliquary/reliquary/DeadLetterSelection" "contentId" "Ljava/lang/String;" .null) (pr4 : n0 ≤ x_) (pr5 : q_.isRef = true) (pr6 : p_.isRef = true) (pr7 : c_.isRef = true) (pr8 : q_.category = 1) (pr9 : p_.category = 1) (pr10 : c_.category = 1) :
    oMet l Z yM17 prog_3_method_1_code 4 none ws ({ frames := 2, cells := 0, slots := 0, locals := 24 } : Room) 0 0 #[(.ref x_), q_, p_, c_] h0 (own_Q_dli Z  x_ q_ p_ c_ h0 n0) := by
  refine oenter own_pn6 #[.val (.ref x_), .val q_, .val p_, .val c_] (fun m => by first | (simp [entryFrame, mkF, argsToLocals, Value.category, pr8, pr9, pr10]; done) | rfl | (cases c_ <;> first | (cases pr7; done) | (cases p_ <;> first | (cases pr6; done) | (cases q_ <;> first | (cases pr5; done) | rfl)))) ?_
  intro p e s m below meth c s₁ X0 hx hZ hby hml hret hown0 hnm hlk e0
  have hown : s.vm.findClass "com/example/reliquary/reliquary/DeadLetterSelection" = some m.cls := hown0
  have N0 := Fr.nil n0
  have w27 := hw _ (List.mem_of_getElem? (i := 27) rfl)
  have w32 := hw _ (List.mem_of_getElem? (i := 32) rfl)
  have w33 := hw _ (List.mem_of_getElem? (i := 33) rfl)
  have w35 := hw _ (List.mem_of_getElem? (i := 35) rfl)
  have w36 := hw _ (List.mem_of_getElem? (i := 36) rfl)
  have w38 := hw _ (List.mem_of_getElem? (i := 38) rfl)
  have w39 := hw _ (List.mem_of_getElem? (i := 39) rfl)
  have w40 := hw _ (List.mem_of_getElem? (i := 40) rfl)
  have w41 := hw _ (List.mem_of_getElem? (i := 41) rfl)
  have w42 := hw _ (List.mem_of_getElem? (i := 42) rfl)
  have w43 := hw _ (List.mem_of_getElem? (i := 43) rfl)
  refine o_aloadN X0 hx (hb hby d18_0) rfl rfl ?_
  obtain ⟨_, _, ⟨T1, L1, kc1, n1⟩, -, X1, ⟨Lc1, hQ1, l1, y1, z1⟩, st1⟩ := X0.specialBack hx (y := yM16) rfl hown (mvT hZ w32) (mvT hZ w33) (mvT hZ w36) (by decide) (backOf (W := 0) (rm_rec l Z a0 hw []  x_ h0 n0 O0 ) hZ w36 w35 (by decide) (by decide)) (g := (mkF m 1 #[.val (.ref x_), .val q_, .val p_, .val c_] [(.ref x_)])) rfl (by rw [hml]; rfl) (Steps.refl _) (a := x_) (argsL := []) (rest := []) (lenOf own_pd13 rfl) rfl (by show 2 * 0 + _ ≤ _; exact Nat.le_of_eq rfl) (hb hby d18_1) (fun _ _ => ⟨rfl, e0, (by decide : 0 + 0 ≤ _), (by decide : 0 + 0 ≤ _)⟩)
  dsimp only [Pt.U, Pt.locs, Pt.cells, Pt.slots] at X1 l1 y1 z1 st1 hQ1
  subst l1 y1 z1
  obtain ⟨rfl, Nq1, e1⟩ := hQ1
  have N1 := Fr.app N0 Nq1
  refine otr (S' := T1.setTop (mkF m 4 #[.val (.ref x_), .val q_, .val p_, .val c_] [])) st1 ?_
  refine o_aloadN X1 hx (hb hby d18_4) rfl rfl ?_
  refine o_aloadN X1 hx (hb hby d18_5) rfl pr5 ?_
  obtain ⟨T2, _, X2, rfl, W2, st2⟩ := putF X1 hx hZ hown (host := "") (Or.inl w38) Via.refl e1 pr1 pr0 (Or.inr ⟨w39, rfl, hnm⟩) w27 (ty := (.object "java/lang/String")) (by decide) (own_nar pr5) (own_fits pr5) (g := (mkF m 6 #[.val (.ref x_), .val q_, .val p_, .val c_] [q_, (.ref x_)])) rfl rfl (hb hby d18_6)
  have N2 := Fr.snoc X2 N1 pr4
  have F2 := Fld.same W2 pr1
  refine ogo (S' := T2.setTop (mkF m 9 #[.val (.ref x_), .val q_, .val p_, .val c_] [])) st2 ?_
  refine o_aloadN X2 hx (hb hby d18_9) rfl rfl ?_
  refine o_aloadN X2 hx (hb hby d18_10) rfl pr6 ?_
  have c4 := (Fld.other W2 pr2 (Or.inr (slot_ne (Or.inr w41) (Or.inr w39) (by decide) (t := (.object "java/lang/String")) (t' := (.object "java/lang/String")) (by decide) (by decide))))
  obtain ⟨T3, _, X3, rfl, W3, st3⟩ := putF X2 hx hZ hown (host := "") (Or.inl w40) Via.refl rfl c4 (Exa.wr W2 pr0) (Or.inr ⟨w41, rfl, hnm⟩) w27 (ty := (.object "java/lang/String")) (by decide) (own_nar pr6) (own_fits pr6) (g := (mkF m 11 #[.val (.ref x_), .val q_, .val p_, .val c_] [p_, (.ref x_)])) rfl rfl (hb hby d18_11)
  have N3 := Fr.snoc X3 N2 pr4
  have F3 := Fld.same W3 c4
  refine ogo (S' := T3.setTop (mkF m 14 #[.val (.ref x_), .val q_, .val p_, .val c_] [])) st3 ?_
  refine o_aloadN X3 hx (hb hby d18_14) rfl rfl ?_
  refine o_aloadN X3 hx (hb hby d18_15) rfl pr7 ?_
  have c6 := (Fld.other W3 (Fld.other W2 pr3 (Or.inr (slot_ne (Or.inr w43) (Or.inr w39) (by decide) (t := (.object "java/lang/String")) (t' := (.object "java/lang/String")) (by decide) (by decide)))) (Or.inr (slot_ne (Or.inr w43) (Or.inr w41) (by decide) (t := (.object "java/lang/String")) (t' := (.object "java/lang/String")) (by decide) (by decide))))
  obtain ⟨T5, _, X5, rfl, W5, st5⟩ := putF X3 hx hZ hown (host := "") (Or.inl w42) Via.refl rfl c6 (Exa.wr W3 (Exa.wr W2 pr0)) (Or.inr ⟨w43, rfl, hnm⟩) w27 (ty := (.object "java/lang/String")) (by decide) (own_nar pr7) (own_fits pr7) (g := (mkF m 16 #[.val (.ref x_), .val q_, .val p_, .val c_] [c_, (.ref x_)])) rfl rfl (hb hby d18_16)
  have N5 := Fr.snoc X5 N3 pr4
  have F5 := Fld.same W5 c6
  refine ogo (S' := T5.setTop (mkF m 19 #[.val (.ref x_), .val q_, .val p_, .val c_] [])) st5 ?_
  have c7 := (Fld.other W5 (Fld.other W3 F2 (Or.inr (slot_ne (Or.inr w39) (Or.inr w41) (by decide) (t := (.object "java/lang/String")) (t' := (.object "java/lang/String")) (by decide) (by decide)))) (Or.inr (slot_ne (Or.inr w39) (Or.inr w43) (by decide) (t := (.object "java/lang/String")) (t' := (.object "java/lang/String")) (by decide) (by decide))))
  have c8 := (Fld.other W5 F3 (Or.inr (slot_ne (Or.inr w41) (Or.inr w43) (by decide) (t := (.object "java/lang/String")) (t' := (.object "java/lang/String")) (by decide) (by decide))))
  refine oend X5 hlk (v := none) (fun _ => rfl) (fun fs hr => X5.returnOut hx hret (hb hby d18_19) hr) (by decide) (by decide) ?_
  show own_Q_dli Z _ _ _ _ h0 n0 _ T5.heap _
  exact ⟨rfl, N5, ((((Keep.refl h0 [x_]).wr W2 (Or.inl (List.mem_of_getElem? (i := 0) rfl))).wr W3 (Or.inl (List.mem_of_getElem? (i := 0) rfl))).wr W5 (Or.inl (List.mem_of_getElem? (i := 0) rfl))), (Exa.wr W5 (Exa.wr W3 (Exa.wr W2 pr0))), c7, c8, F5⟩
theorem d19_0 : decode jdk_31_method_10_code 0 = .ok (.aload_n 0, 1) := by decide +kernel
theorem d19_1 : decode jdk_31_method_10_code 1 = .ok (.ifnonnull 11, 3) := by decide +kernel
theorem d19_12 : decode jdk_31_method_10_code 12 = .ok (.aload_n 0, 1) := by decide +kernel
theorem d19_13 : decode jdk_31_method_10_code 13 = .ok (.areturn, 1) := by decide +kernel
theorem own_pn7 : plainName "java/util/Objects" = true := by first | (simp [plainName, overriddenIn]; done) | decide +kernel
def own_Q_rnn (Z : State)  (x_ : Addr) (h0 : Heap) (n0 : Nat) (v : Option Value) (h : Heap) (L : List Loc) : Prop := (v = some (.ref x_)) ∧ (Fr n0 L) ∧ (h = h0)
abbrev yM18 : MethodName := ⟨"java/util/Objects", "requireNonNull", "(Ljava/lang/Object;)Ljava/lang/Object;"⟩
set_option maxRecDepth 65536 in
set_option maxHeartbeats 40000000 in
theorem rm_rnn (l : Launch) (Z : State) (a0 : Array Value) (hw : ∀ d ∈ tables_1, d.before a0 Z = true) (ws : List Jvm.Cond)  (x_ : Addr) (h0 : Heap) (n0 : Nat) (O0 : Old Z n0 h0)  :
    oMet l Z yM18 jdk_31_method_10_code 1 (some (.object "java/lang/Object")) ws ({ frames := 0, cells := 0, slots := 0, locals := 0 } : Room) 0 0 #[(.ref x_)] h0 (own_Q_rnn Z  x_ h0 n0) := by
  refine oenter own_pn7 #[.val (.ref x_)] (fun m => by first | (simp [entryFrame, mkF, argsToLocals, Value.category]; done) | rfl) ?_
  intro p e s m below meth c s₁ X0 hx hZ hby hml hret hown0 hnm hlk e0
  have hown : s.vm.findClass "java/util/Objects" = some m.cls := hown0
  have N0 := Fr.nil n0
  refine o_aloadN X0 hx (hb hby d19_0) rfl rfl ?_
  refine o_ifnonnullYes X0 hx 12 (hb hby d19_1) (by decide) (by decide) ?_
  refine o_aloadN X0 hx (hb hby d19_12) rfl rfl ?_
  refine oend X0 hlk (v := some (.ref x_)) (fun h => by rw [hret] at h; cases h) (fun fs hr => retOut X0 hx (t := (.object "java/lang/Object")) (i := .areturn) hret rfl (Or.inr (Or.inr (Or.inr (Or.inr ⟨rfl, rfl, rfl⟩)))) (hb hby d19_13) hr) (by decide) (by decide) ?_
  show own_Q_rnn Z _ h0 n0 _ s₁.heap _
  rw [e0]
  exact ⟨rfl, N0, rfl⟩
theorem d20_0 : decode jdk_32_method_2_code 0 = .ok (.aload_n 0, 1) := by decide +kernel
theorem d20_1 : decode jdk_32_method_2_code 1 = .ok (.invokespecial 7, 3) := by decide +kernel
theorem d20_4 : decode jdk_32_method_2_code 4 = .ok (.aload_n 0, 1) := by decide +kernel
theorem d20_5 : decode jdk_32_method_2_code 5 = .ok (.aload_n 1, 1) := by decide +kernel
theorem d20_6 : decode jdk_32_method_2_code 6 = .ok (.putfield 13, 3) := by decide +kernel
theorem d20_9 : decode jdk_32_method_2_code 9 = .ok (.return_, 1) := by decide +kernel
theorem own_pn8 : plainName "java/util/Optional" = true := by first | (simp [plainName, overriddenIn]; done) | decide +kernel
def own_Q_opi (Z : State)  (o_ : Addr) (x_ : Addr) (h0 : Heap) (n0 : Nat) (v : Option Value) (h : Heap) (L : List Loc) : Prop := (v = none) ∧ (Fr n0 L) ∧ (Keep h0 h [o_]) ∧ (Exa Z h o_ "java/util/Optional") ∧ (Fld Z h o_ "java/util/Optional" "value" "Ljava/lang/Object;" (.ref x_))
abbrev yM19 : MethodName := ⟨"java/util/Optional", "<init>", "(Ljava/lang/Object;)V"⟩
set_option maxRecDepth 65536 in
set_option maxHeartbeats 40000000 in
theorem rm_opi (l : Launch) (Z : State) (a0 : Array Value) (hw : ∀ d ∈ tables_1, d.before a0 Z = true) (ws : List Jvm.Cond)  (o_ : Addr) (x_ : Addr) (h0 : Heap) (n0 : Nat) (O0 : Old Z n0 h0) (pr0 : Exa Z h0 o_ "java/util/Optional") (pr1 : Fld Z h0 o_ "java/util/Optional" "value" "Ljava/lang/Object;" .null) (pr2 : n0 ≤ o_) :
    oMet l Z yM19 jdk_32_method_2_code 2 none ws ({ frames := 1, cells := 0, slots := 0, locals := 12 } : Room) 0 0 #[(.ref o_), (.ref x_)] h0 (own_Q_opi Z  o_ x_ h0 n0) := by
  refine oenter own_pn8 #[.val (.ref o_), .val (.ref x_)] (fun m => by first | (simp [entryFrame, mkF, argsToLocals, Value.category]; done) | rfl) ?_
  intro p e s m below meth c s₁ X0 hx hZ hby hml hret hown0 hnm hlk e0
  have hown : s.vm.findClass "java/util/Optional" = some m.cls := hown0
  have N0 := Fr.nil n0
  have w16 := hw _ (List.mem_of_getElem? (i := 16) rfl)
  have w17 := hw _ (List.mem_of_getElem? (i := 17) rfl)
  have w56 := hw _ (List.mem_of_getElem? (i := 56) rfl)
  have w65 := hw _ (List.mem_of_getElem? (i := 65) rfl)
  have w66 := hw _ (List.mem_of_getElem? (i := 66) rfl)
  have w67 := hw _ (List.mem_of_getElem? (i := 67) rfl)
  refine o_aloadN X0 hx (hb hby d20_0) rfl rfl ?_
  obtain ⟨T1, X1, e1, st1⟩ := initO X0 hx hZ hown w65 w16 w17 e0 (g := (mkF m 1 #[.val (.ref o_), .val (.ref x_)] [(.ref o_)])) rfl (by rw [hml]; rfl) rfl (hb hby d20_1) (by decide) (W := 0) (by show 2 * 0 + _ ≤ _; exact Nat.le_of_eq rfl) (by decide)
  refine ogo (S' := T1.setTop (mkF m 4 #[.val (.ref o_), .val (.ref x_)] [])) st1 ?_
  refine o_aloadN X1 hx (hb hby d20_4) rfl rfl ?_
  refine o_aloadN X1 hx (hb hby d20_5) rfl rfl ?_
  obtain ⟨T2, _, X2, rfl, W2, st2⟩ := putF X1 hx hZ hown (host := "") (Or.inl w66) Via.refl e1 pr1 pr0 (Or.inr ⟨w67, rfl, hnm⟩) w56 (ty := (.object "java/lang/Object")) (by decide) rfl rfl (g := (mkF m 6 #[.val (.ref o_), .val (.ref x_)] [(.ref x_), (.ref o_)])) rfl rfl (hb hby d20_6)
  have N2 := Fr.snoc X2 N0 pr2
  have F2 := Fld.same W2 pr1
  refine ogo (S' := T2.setTop (mkF m 9 #[.val (.ref o_), .val (.ref x_)] [])) st2 ?_
  refine oend X2 hlk (v := none) (fun _ => rfl) (fun fs hr => X2.returnOut hx hret (hb hby d20_9) hr) (by decide) (by decide) ?_
  show own_Q_opi Z _ _ h0 n0 _ T2.heap _
  exact ⟨rfl, N2, ((Keep.refl h0 [o_]).wr W2 (Or.inl (List.mem_of_getElem? (i := 0) rfl))), (Exa.wr W2 pr0), F2⟩
theorem own_pd14 : parseMethodDescriptor "(Ljava/lang/Object;)Ljava/lang/Object;" = some ⟨[(.object "java/lang/Object")], some (.object "java/lang/Object")⟩ := by decide +kernel
theorem own_pd15 : parseMethodDescriptor "(Ljava/lang/Object;)V" = some ⟨[(.object "java/lang/Object")], none⟩ := by decide +kernel
theorem d21_0 : decode jdk_32_method_3_code 0 = .ok (.new 2, 3) := by decide +kernel
theorem d21_3 : decode jdk_32_method_3_code 3 = .ok (.dup, 1) := by decide +kernel
theorem d21_4 : decode jdk_32_method_3_code 4 = .ok (.aload_n 0, 1) := by decide +kernel
theorem d21_5 : decode jdk_32_method_3_code 5 = .ok (.invokestatic 17, 3) := by decide +kernel
theorem d21_8 : decode jdk_32_method_3_code 8 = .ok (.invokespecial 23, 3) := by decide +kernel
theorem d21_11 : decode jdk_32_method_3_code 11 = .ok (.areturn, 1) := by decide +kernel
def own_Q_opo (Z : State)  (x_ : Addr) (h0 : Heap) (n0 : Nat) (v : Option Value) (h : Heap) (L : List Loc) : Prop := ∃ o_ : Addr, (v = some (.ref o_)) ∧ (Fr n0 L) ∧ (Keep h0 h []) ∧ (h0.size ≤ o_) ∧ (Exa Z h o_ "java/util/Optional") ∧ (Fld Z h o_ "java/util/Optional" "value" "Ljava/lang/Object;" (.ref x_))
abbrev yM20 : MethodName := ⟨"java/util/Optional", "of", "(Ljava/lang/Object;)Ljava/util/Optional;"⟩
set_option maxRecDepth 65536 in
set_option maxHeartbeats 40000000 in
theorem rm_opo (l : Launch) (Z : State) (a0 : Array Value) (hw : ∀ d ∈ tables_1, d.before a0 Z = true) (ws : List Jvm.Cond)  (x_ : Addr) (h0 : Heap) (n0 : Nat) (O0 : Old Z n0 h0)  :
    oMet l Z yM20 jdk_32_method_3_code 1 (some (.object "java/util/Optional")) ws ({ frames := 2, cells := 1, slots := 1, locals := 26 } : Room) 1 1 #[(.ref x_)] h0 (own_Q_opo Z  x_ h0 n0) := by
  refine oenter own_pn8 #[.val (.ref x_)] (fun m => by first | (simp [entryFrame, mkF, argsToLocals, Value.category]; done) | rfl) ?_
  intro p e s m below meth c s₁ X0 hx hZ hby hml hret hown0 hnm hlk e0
  have hown : s.vm.findClass "java/util/Optional" = some m.cls := hown0
  have N0 := Fr.nil n0
  have w53 := hw _ (List.mem_of_getElem? (i := 53) rfl)
  have w55 := hw _ (List.mem_of_getElem? (i := 55) rfl)
  have w56 := hw _ (List.mem_of_getElem? (i := 56) rfl)
  have w57 := hw _ (List.mem_of_getElem? (i := 57) rfl)
  have w58 := hw _ (List.mem_of_getElem? (i := 58) rfl)
  have w59 := hw _ (List.mem_of_getElem? (i := 59) rfl)
  have w60 := hw _ (List.mem_of_getElem? (i := 60) rfl)
  have w61 := hw _ (List.mem_of_getElem? (i := 61) rfl)
  have w62 := hw _ (List.mem_of_getElem? (i := 62) rfl)
  have w64 := hw _ (List.mem_of_getElem? (i := 64) rfl)
  have w67 := hw _ (List.mem_of_getElem? (i := 67) rfl)
  obtain ⟨T1, _, X1, rfl, E1, A1, D1, -, st1⟩ := newO X0 hx hZ hown w55 w56 w53 e0 (g := (mkF m 0 #[.val (.ref x_)] [])) rfl (hb hby d21_0) (by decide) (by decide)
  obtain ⟨b1, g1⟩ : ∃ z, z = h0.size := ⟨_, rfl⟩
  rw [← g1] at A1 D1 st1
  have n0_b1 : n0 ≤ b1 := Nat.le_trans (Nat.le_trans (Nat.le_of_eq O0.1.symm) O0.2.1) (Nat.le_trans (Nat.le_refl _) (Nat.le_of_eq g1.symm))
  have F1_value : Fld Z T1.heap b1 "java/util/Optional" "value" "Ljava/lang/Object;" .null := D1 (Or.inr w67) (ty := (.object "java/lang/Object")) (by decide)
  refine ogo (S' := T1.setTop (mkF m 3 #[.val (.ref x_)] [(.ref b1)])) st1 ?_
  refine o_dup X1 hx (hb hby d21_3) rfl ?_
  refine o_aloadN X1 hx (hb hby d21_4) rfl rfl ?_
  obtain ⟨_, _, ⟨T2, L2, kc2, n2⟩, -, X2, ⟨Lc2, hQ2, l2, y2, z2⟩, st2⟩ := Jvm.LawKit.callS X1 hx (y := yM18) hown (mvT hZ w57) (mvT hZ w58) (mvT hZ w59) (mvT hZ w60) (by decide) (backOf (W := 2) (rm_rnn l Z a0 hw []  x_ T1.heap n0 (O0.ext E1) ) hZ w60 w59 (by decide) (by decide)) (g := (mkF m 5 #[.val (.ref x_)] [(.ref x_), (.ref b1), (.ref b1)])) rfl (by rw [hml]; rfl) (argsL := [(.ref x_)]) (rest := [(.ref b1), (.ref b1)]) (lenOf own_pd14 rfl) rfl (by show 2 * 0 + _ ≤ _; exact Nat.le_of_eq rfl) (hb hby d21_5) (fun _ _ => ⟨rfl, rfl, (by decide : 1 + 0 ≤ _), (by decide : 1 + 0 ≤ _)⟩)
  dsimp only [Pt.U, Pt.locs, Pt.cells, Pt.slots] at X2 l2 y2 z2 st2 hQ2
  subst l2 y2 z2
  obtain ⟨rfl, Nq2, e2⟩ := hQ2
  have N2 := Fr.app N0 Nq2
  refine ogo (S' := T2.setTop (mkF m 8 #[.val (.ref x_)] [(.ref x_), (.ref b1), (.ref b1)])) st2 ?_
  obtain ⟨_, _, ⟨T3, L3, kc3, n3⟩, -, X3, ⟨Lc3, hQ3, l3, y3, z3⟩, st3⟩ := X2.specialBack hx (y := yM19) rfl hown (mvT hZ w61) (mvT hZ w62) (mvT hZ w64) (by decide) (backOf (W := 1) (rm_opi l Z a0 hw []  b1 x_ T1.heap n0 (O0.ext E1) A1 F1_value n0_b1) hZ w64 w53 (by decide) (by decide)) (g := (mkF m 8 #[.val (.ref x_)] [(.ref x_), (.ref b1), (.ref b1)])) rfl (by rw [hml]; rfl) (Steps.refl _) (a := b1) (argsL := [(.ref x_)]) (rest := [(.ref b1)]) (lenOf own_pd15 rfl) rfl (by show 2 * 0 + _ ≤ _; exact Nat.le_of_eq rfl) (hb hby d21_8) (fun _ _ => ⟨rfl, e2, (by decide : 1 + 0 ≤ _), (by decide : 1 + 0 ≤ _)⟩)
  dsimp only [Pt.U, Pt.locs, Pt.cells, Pt.slots] at X3 l3 y3 z3 st3 hQ3
  subst l3 y3 z3
  obtain ⟨rfl, Nq3, K3, p3_0, p3_1⟩ := hQ3
  have N3 := Fr.app N2 Nq3
  refine otr (S' := T3.setTop (mkF m 11 #[.val (.ref x_)] [(.ref b1)])) st3 ?_
  refine oend X3 hlk (v := some (.ref b1)) (fun h => by rw [hret] at h; cases h) (fun fs hr => retOut X3 hx (t := (.object "java/util/Optional")) (i := .areturn) hret rfl (Or.inr (Or.inr (Or.inr (Or.inr ⟨rfl, rfl, rfl⟩)))) (hb hby d21_11) hr) (by decide) (by decide) ?_
  show own_Q_opo Z _ h0 n0 _ T3.heap _
  exact ⟨b1, rfl, N3, (((Keep.refl h0 []).ext E1).trans K3 (allS (Or.inr (Nat.le_trans (Nat.le_refl _) (Nat.le_of_eq g1.symm))) all0)), (Nat.le_trans (Nat.le_refl _) (Nat.le_of_eq g1.symm)), p3_0, p3_1⟩
theorem d22_0 : decode jdk_32_method_1_code 0 = .ok (.getstatic 1, 3) := by decide +kernel
theorem d22_3 : decode jdk_32_method_1_code 3 = .ok (.astore_n 0, 1) := by decide +kernel
theorem d22_4 : decode jdk_32_method_1_code 4 = .ok (.aload_n 0, 1) := by decide +kernel
theorem d22_5 : decode jdk_32_method_1_code 5 = .ok (.areturn, 1) := by decide +kernel
def own_Q_ope (Z : State) (z_CS : Int32) (v_FMT : Value) (s_EMPTY : Addr)  (h0 : Heap) (n0 : Nat) (v : Option Value) (h : Heap) (L : List Loc) : Prop := (v = some (.ref s_EMPTY)) ∧ (Fr n0 L) ∧ (h = h0)
abbrev yM21 : MethodName := ⟨"java/util/Optional", "empty", "()Ljava/util/Optional;"⟩
set_option maxRecDepth 65536 in
set_option maxHeartbeats 40000000 in
theorem rm_ope (l : Launch) (Z : State) (a0 : Array Value) (hw : ∀ d ∈ tables_1, d.before a0 Z = true) (ws : List Jvm.Cond) (z_CS : Int32) (v_FMT : Value) (s_EMPTY : Addr)  (h0 : Heap) (n0 : Nat) (SB : own_Start Z z_CS v_FMT s_EMPTY) (O0 : Old Z n0 h0)  :
    oMet l Z yM21 jdk_32_method_1_code 1 (some (.object "java/util/Optional")) ws ({ frames := 0, cells := 0, slots := 0, locals := 0 } : Room) 0 0 #[] h0 (own_Q_ope Z z_CS v_FMT s_EMPTY  h0 n0) := by
  refine oenter own_pn8 #[.unset] (fun m => by first | (simp [entryFrame, mkF, argsToLocals, Value.category]; done) | rfl) ?_
  intro p e s m below meth c s₁ X0 hx hZ hby hml hret hown0 hnm hlk e0
  have hown : s.vm.findClass "java/util/Optional" = some m.cls := hown0
  have N0 := Fr.nil n0
  obtain ⟨S_CS, H_CS, S_FMT, R_FMT, S_EMPTY, E_EMPTY, F_EMPTY⟩ := (id SB)
  have w131 := hw _ (List.mem_of_getElem? (i := 131) rfl)
  obtain ⟨T1, X1, e1, st1⟩ := getS2 X0 hx hZ hown (host := "") (Or.inl w131) Via.refl e0 (Sta.ext O0.2 S_EMPTY) (g := (mkF m 0 #[.unset] [])) rfl (hb hby d22_0)
  refine ogo (S' := T1.setTop (mkF m 3 #[.unset] [(.ref s_EMPTY)])) st1 ?_
  refine o_astoreN X1 hx (l' := #[.val (.ref s_EMPTY)]) (hb hby d22_3) rfl rfl ?_
  refine o_aloadN X1 hx (hb hby d22_4) rfl rfl ?_
  refine oend X1 hlk (v := some (.ref s_EMPTY)) (fun h => by rw [hret] at h; cases h) (fun fs hr => retOut X1 hx (t := (.object "java/util/Optional")) (i := .areturn) hret rfl (Or.inr (Or.inr (Or.inr (Or.inr ⟨rfl, rfl, rfl⟩)))) (hb hby d22_5) hr) (by decide) (by decide) ?_
  show own_Q_ope Z _ _ _ h0 n0 _ T1.heap _
  rw [e1]
  exact ⟨rfl, N0, rfl⟩
theorem d23_0 : decode jdk_32_method_6_code 0 = .ok (.aload_n 0, 1) := by decide +kernel
theorem d23_1 : decode jdk_32_method_6_code 1 = .ok (.getfield 13, 3) := by decide +kernel
theorem d23_4 : decode jdk_32_method_6_code 4 = .ok (.ifnull 7, 3) := by decide +kernel
theorem d23_7 : decode jdk_32_method_6_code 7 = .ok (.iconst 1, 1) := by decide +kernel
theorem d23_8 : decode jdk_32_method_6_code 8 = .ok (.goto 4, 3) := by decide +kernel
theorem d23_12 : decode jdk_32_method_6_code 12 = .ok (.ireturn, 1) := by decide +kernel
def own_Q_oppR (Z : State)  (o_ : Addr) (x_ : Addr) (h0 : Heap) (n0 : Nat) (v : Option Value) (h : Heap) (L : List Loc) : Prop := (v = some (.int (1 : Int32))) ∧ (Fr n0 L) ∧ (h = h0)
abbrev yM22 : MethodName := ⟨"java/util/Optional", "isPresent", "()Z"⟩
set_option maxRecDepth 65536 in
set_option maxHeartbeats 40000000 in
theorem rm_oppR (l : Launch) (Z : State) (a0 : Array Value) (hw : ∀ d ∈ tables_1, d.before a0 Z = true) (ws : List Jvm.Cond)  (o_ : Addr) (x_ : Addr) (h0 : Heap) (n0 : Nat) (O0 : Old Z n0 h0) (pr0 : Fld Z h0 o_ "java/util/Optional" "value" "Ljava/lang/Object;" (.ref x_)) :
    oMet l Z yM22 jdk_32_method_6_code 1 (some .boolean) ws ({ frames := 0, cells := 0, slots := 0, locals := 0 } : Room) 0 0 #[(.ref o_)] h0 (own_Q_oppR Z  o_ x_ h0 n0) := by
  refine oenter own_pn8 #[.val (.ref o_)] (fun m => by first | (simp [entryFrame, mkF, argsToLocals, Value.category]; done) | rfl) ?_
  intro p e s m below meth c s₁ X0 hx hZ hby hml hret hown0 hnm hlk e0
  have hown : s.vm.findClass "java/util/Optional" = some m.cls := hown0
  have N0 := Fr.nil n0
  have w66 := hw _ (List.mem_of_getElem? (i := 66) rfl)
  refine o_aloadN X0 hx (hb hby d23_0) rfl rfl ?_
  obtain ⟨T1, X1, e1, st1⟩ := getF X0 hx hZ hown (host := "") (Or.inl w66) Via.refl e0 pr0 (g := (mkF m 1 #[.val (.ref o_)] [(.ref o_)])) rfl rfl (hb hby d23_1)
  refine ogo (S' := T1.setTop (mkF m 4 #[.val (.ref o_)] [(.ref x_)])) st1 ?_
  refine o_ifnullNo X1 hx (hb hby d23_4) ?_
  refine o_iconst X1 hx (1 : Int32) (hb hby d23_7) rfl ?_
  refine o_goto X1 hx 12 (hb hby d23_8) (by decide) (by decide) ?_
  refine oend X1 hlk (v := some (.int (1 : Int32))) (fun h => by rw [hret] at h; cases h) (fun fs hr => retN X1 hx (t := .boolean) hret (by simp) (hb hby d23_12) hr) (by decide) (by decide) ?_
  show own_Q_oppR Z _ _ h0 n0 _ T1.heap _
  rw [e1]
  exact ⟨rfl, N0, rfl⟩
theorem d23_11 : decode jdk_32_method_6_code 11 = .ok (.iconst 0, 1) := by decide +kernel
def own_Q_oppN (Z : State)  (o_ : Addr) (h0 : Heap) (n0 : Nat) (v : Option Value) (h : Heap) (L : List Loc) : Prop := (v = some (.int (0 : Int32))) ∧ (Fr n0 L) ∧ (h = h0)
set_option maxRecDepth 65536 in
set_option maxHeartbeats 40000000 in
theorem rm_oppN (l : Launch) (Z : State) (a0 : Array Value) (hw : ∀ d ∈ tables_1, d.before a0 Z = true) (ws : List Jvm.Cond)  (o_ : Addr) (h0 : Heap) (n0 : Nat) (O0 : Old Z n0 h0) (pr0 : Fld Z h0 o_ "java/util/Optional" "value" "Ljava/lang/Object;" .null) :
    oMet l Z yM22 jdk_32_method_6_code 1 (some .boolean) ws ({ frames := 0, cells := 0, slots := 0, locals := 0 } : Room) 0 0 #[(.ref o_)] h0 (own_Q_oppN Z  o_ h0 n0) := by
  refine oenter own_pn8 #[.val (.ref o_)] (fun m => by first | (simp [entryFrame, mkF, argsToLocals, Value.category]; done) | rfl) ?_
  intro p e s m below meth c s₁ X0 hx hZ hby hml hret hown0 hnm hlk e0
  have hown : s.vm.findClass "java/util/Optional" = some m.cls := hown0
  have N0 := Fr.nil n0
  have w66 := hw _ (List.mem_of_getElem? (i := 66) rfl)
  refine o_aloadN X0 hx (hb hby d23_0) rfl rfl ?_
  obtain ⟨T1, X1, e1, st1⟩ := getF X0 hx hZ hown (host := "") (Or.inl w66) Via.refl e0 pr0 (g := (mkF m 1 #[.val (.ref o_)] [(.ref o_)])) rfl rfl (hb hby d23_1)
  refine ogo (S' := T1.setTop (mkF m 4 #[.val (.ref o_)] [.null])) st1 ?_
  refine o_ifnullYes X1 hx 11 (hb hby d23_4) (by decide) (by decide) ?_
  refine o_iconst X1 hx (0 : Int32) (hb hby d23_11) rfl ?_
  refine oend X1 hlk (v := some (.int (0 : Int32))) (fun h => by rw [hret] at h; cases h) (fun fs hr => retN X1 hx (t := .boolean) hret (by simp) (hb hby d23_12) hr) (by decide) (by decide) ?_
  show own_Q_oppN Z _ h0 n0 _ T1.heap _
  rw [e1]
  exact ⟨rfl, N0, rfl⟩
theorem d24_0 : decode jdk_32_method_5_code 0 = .ok (.aload_n 0, 1) := by decide +kernel
theorem d24_1 : decode jdk_32_method_5_code 1 = .ok (.getfield 13, 3) := by decide +kernel
theorem d24_4 : decode jdk_32_method_5_code 4 = .ok (.ifnonnull 13, 3) := by decide +kernel
theorem d24_17 : decode jdk_32_method_5_code 17 = .ok (.aload_n 0, 1) := by decide +kernel
theorem d24_18 : decode jdk_32_method_5_code 18 = .ok (.getfield 13, 3) := by decide +kernel
theorem d24_21 : decode jdk_32_method_5_code 21 = .ok (.areturn, 1) := by decide +kernel
def own_Q_opg (Z : State)  (o_ : Addr) (x_ : Addr) (h0 : Heap) (n0 : Nat) (v : Option Value) (h : Heap) (L : List Loc) : Prop := (v = some (.ref x_)) ∧ (Fr n0 L) ∧ (h = h0)
abbrev yM23 : MethodName := ⟨"java/util/Optional", "get", "()Ljava/lang/Object;"⟩
set_option maxRecDepth 65536 in
set_option maxHeartbeats 40000000 in
theorem rm_opg (l : Launch) (Z : State) (a0 : Array Value) (hw : ∀ d ∈ tables_1, d.before a0 Z = true) (ws : List Jvm.Cond)  (o_ : Addr) (x_ : Addr) (h0 : Heap) (n0 : Nat) (O0 : Old Z n0 h0) (pr0 : Fld Z h0 o_ "java/util/Optional" "value" "Ljava/lang/Object;" (.ref x_)) :
    oMet l Z yM23 jdk_32_method_5_code 1 (some (.object "java/lang/Object")) ws ({ frames := 0, cells := 0, slots := 0, locals := 0 } : Room) 0 0 #[(.ref o_)] h0 (own_Q_opg Z  o_ x_ h0 n0) := by
  refine oenter own_pn8 #[.val (.ref o_)] (fun m => by first | (simp [entryFrame, mkF, argsToLocals, Value.category]; done) | rfl) ?_
  intro p e s m below meth c s₁ X0 hx hZ hby hml hret hown0 hnm hlk e0
  have hown : s.vm.findClass "java/util/Optional" = some m.cls := hown0
  have N0 := Fr.nil n0
  have w66 := hw _ (List.mem_of_getElem? (i := 66) rfl)
  refine o_aloadN X0 hx (hb hby d24_0) rfl rfl ?_
  obtain ⟨T1, X1, e1, st1⟩ := getF X0 hx hZ hown (host := "") (Or.inl w66) Via.refl e0 pr0 (g := (mkF m 1 #[.val (.ref o_)] [(.ref o_)])) rfl rfl (hb hby d24_1)
  refine ogo (S' := T1.setTop (mkF m 4 #[.val (.ref o_)] [(.ref x_)])) st1 ?_
  refine o_ifnonnullYes X1 hx 17 (hb hby d24_4) (by decide) (by decide) ?_
  refine o_aloadN X1 hx (hb hby d24_17) rfl rfl ?_
  obtain ⟨T2, X2, e2, st2⟩ := getF X1 hx hZ hown (host := "") (Or.inl w66) Via.refl e1 pr0 (g := (mkF m 18 #[.val (.ref o_)] [(.ref o_)])) rfl rfl (hb hby d24_18)
  refine ogo (S' := T2.setTop (mkF m 21 #[.val (.ref o_)] [(.ref x_)])) st2 ?_
  refine oend X2 hlk (v := some (.ref x_)) (fun h => by rw [hret] at h; cases h) (fun fs hr => retOut X2 hx (t := (.object "java/lang/Object")) (i := .areturn) hret rfl (Or.inr (Or.inr (Or.inr (Or.inr ⟨rfl, rfl, rfl⟩)))) (hb hby d24_21) hr) (by decide) (by decide) ?_
  show own_Q_opg Z _ _ h0 n0 _ T2.heap _
  rw [e2]
  exact ⟨rfl, N0, rfl⟩
theorem d25_0 : decode prog_3_method_7_code 0 = .ok (.aload_n 0, 1) := by decide +kernel
theorem d25_1 : decode prog_3_method_7_code 1 = .ok (.getfield 7, 3) := by decide +kernel
theorem d25_4 : decode prog_3_method_7_code 4 = .ok (.areturn, 1) := by decide +kernel
def own_Q_g_queue (Z : State)  (d_ : Addr) (v_ : Value) (h0 : Heap) (n0 : Nat) (v : Option Value) (h : Heap) (L : List Loc) : Prop := (v = some v_) ∧ (Fr n0 L) ∧ (h = h0)
abbrev yM24 : MethodName := ⟨"com/example/reliquary/reliquary/DeadLetterSelection", "queue", "()Ljava/lang/String;"⟩
set_option maxRecDepth 65536 in
set_option maxHeartbeats 40000000 in
theorem rm_g_queue (l : Launch) (Z : State) (a0 : Array Value) (hw : ∀ d ∈ tables_1, d.before a0 Z = true) (ws : List Jvm.Cond)  (d_ : Addr) (v_ : Value) (h0 : Heap) (n0 : Nat) (O0 : Old Z n0 h0) (pr0 : Fld Z h0 d_ "com/example/reliquary/reliquary/DeadLetterSelection" "queue" "Ljava/lang/String;" v_) (pr1 : v_.isRef = true) :
    oMet l Z yM24 prog_3_method_7_code 1 (some (.object "java/lang/String")) ws ({ frames := 0, cells := 0, slots := 0, locals := 0 } : Room) 0 0 #[(.ref d_)] h0 (own_Q_g_queue Z  d_ v_ h0 n0) := by
  refine oenter own_pn6 #[.val (.ref d_)] (fun m => by first | (simp [entryFrame, mkF, argsToLocals, Value.category]; done) | rfl) ?_
  intro p e s m below meth c s₁ X0 hx hZ hby hml hret hown0 hnm hlk e0
  have hown : s.vm.findClass "com/example/reliquary/reliquary/DeadLetterSelection" = some m.cls := hown0
  have N0 := Fr.nil n0
  have w38 := hw _ (List.mem_of_getElem? (i := 38) rfl)
  refine o_aloadN X0 hx (hb hby d25_0) rfl rfl ?_
  obtain ⟨T1, X1, e1, st1⟩ := getF X0 hx hZ hown (host := "") (Or.inl w38) Via.refl e0 pr0 (g := (mkF m 1 #[.val (.ref d_)] [(.ref d_)])) rfl rfl (hb hby d25_1)
  refine ogo (S' := T1.setTop (mkF m 4 #[.val (.ref d_)] [v_])) st1 ?_
  refine oend X1 hlk (v := some v_) (fun h => by rw [hret] at h; cases h) (fun fs hr => retOut X1 hx (t := (.object "java/lang/String")) (i := .areturn) hret (by cases v_ <;> rfl) (Or.inr (Or.inr (Or.inr (Or.inr ⟨rfl, rfl, pr1⟩)))) (hb hby d25_4) hr) (by decide) (by decide) ?_
  show own_Q_g_queue Z _ _ h0 n0 _ T1.heap _
  rw [e1]
  exact ⟨rfl, N0, rfl⟩
theorem d26_0 : decode prog_3_method_8_code 0 = .ok (.aload_n 0, 1) := by decide +kernel
theorem d26_1 : decode prog_3_method_8_code 1 = .ok (.getfield 13, 3) := by decide +kernel
theorem d26_4 : decode prog_3_method_8_code 4 = .ok (.areturn, 1) := by decide +kernel
def own_Q_g_space (Z : State)  (d_ : Addr) (v_ : Value) (h0 : Heap) (n0 : Nat) (v : Option Value) (h : Heap) (L : List Loc) : Prop := (v = some v_) ∧ (Fr n0 L) ∧ (h = h0)
abbrev yM25 : MethodName := ⟨"com/example/reliquary/reliquary/DeadLetterSelection", "space", "()Ljava/lang/String;"⟩
set_option maxRecDepth 65536 in
set_option maxHeartbeats 40000000 in
theorem rm_g_space (l : Launch) (Z : State) (a0 : Array Value) (hw : ∀ d ∈ tables_1, d.before a0 Z = true) (ws : List Jvm.Cond)  (d_ : Addr) (v_ : Value) (h0 : Heap) (n0 : Nat) (O0 : Old Z n0 h0) (pr0 : Fld Z h0 d_ "com/example/reliquary/reliquary/DeadLetterSelection" "space" "Ljava/lang/String;" v_) (pr1 : v_.isRef = true) :
    oMet l Z yM25 prog_3_method_8_code 1 (some (.object "java/lang/String")) ws ({ frames := 0, cells := 0, slots := 0, locals := 0 } : Room) 0 0 #[(.ref d_)] h0 (own_Q_g_space Z  d_ v_ h0 n0) := by
  refine oenter own_pn6 #[.val (.ref d_)] (fun m => by first | (simp [entryFrame, mkF, argsToLocals, Value.category]; done) | rfl) ?_
  intro p e s m below meth c s₁ X0 hx hZ hby hml hret hown0 hnm hlk e0
  have hown : s.vm.findClass "com/example/reliquary/reliquary/DeadLetterSelection" = some m.cls := hown0
  have N0 := Fr.nil n0
  have w40 := hw _ (List.mem_of_getElem? (i := 40) rfl)
  refine o_aloadN X0 hx (hb hby d26_0) rfl rfl ?_
  obtain ⟨T1, X1, e1, st1⟩ := getF X0 hx hZ hown (host := "") (Or.inl w40) Via.refl e0 pr0 (g := (mkF m 1 #[.val (.ref d_)] [(.ref d_)])) rfl rfl (hb hby d26_1)
  refine ogo (S' := T1.setTop (mkF m 4 #[.val (.ref d_)] [v_])) st1 ?_
  refine oend X1 hlk (v := some v_) (fun h => by rw [hret] at h; cases h) (fun fs hr => retOut X1 hx (t := (.object "java/lang/String")) (i := .areturn) hret (by cases v_ <;> rfl) (Or.inr (Or.inr (Or.inr (Or.inr ⟨rfl, rfl, pr1⟩)))) (hb hby d26_4) hr) (by decide) (by decide) ?_
  show own_Q_g_space Z _ _ h0 n0 _ T1.heap _
  rw [e1]
  exact ⟨rfl, N0, rfl⟩
theorem d27_0 : decode prog_3_method_9_code 0 = .ok (.aload_n 0, 1) := by decide +kernel
theorem d27_1 : decode prog_3_method_9_code 1 = .ok (.getfield 16, 3) := by decide +kernel
theorem d27_4 : decode prog_3_method_9_code 4 = .ok (.areturn, 1) := by decide +kernel
def own_Q_g_contentId (Z : State)  (d_ : Addr) (v_ : Value) (h0 : Heap) (n0 : Nat) (v : Option Value) (h : Heap) (L : List Loc) : Prop := (v = some v_) ∧ (Fr n0 L) ∧ (h = h0)
abbrev yM26 : MethodName := ⟨"com/example/reliquary/reliquary/DeadLetterSelection", "contentId", "()Ljava/lang/String;"⟩
set_option maxRecDepth 65536 in
set_option maxHeartbeats 40000000 in
theorem rm_g_contentId (l : Launch) (Z : State) (a0 : Array Value) (hw : ∀ d ∈ tables_1, d.before a0 Z = true) (ws : List Jvm.Cond)  (d_ : Addr) (v_ : Value) (h0 : Heap) (n0 : Nat) (O0 : Old Z n0 h0) (pr0 : Fld Z h0 d_ "com/example/reliquary/reliquary/DeadLetterSelection" "contentId" "Ljava/lang/String;" v_) (pr1 : v_.isRef = true) :
    oMet l Z yM26 prog_3_method_9_code 1 (some (.object "java/lang/String")) ws ({ frames := 0, cells := 0, slots := 0, locals := 0 } : Room) 0 0 #[(.ref d_)] h0 (own_Q_g_contentId Z  d_ v_ h0 n0) := by
  refine oenter own_pn6 #[.val (.ref d_)] (fun m => by first | (simp [entryFrame, mkF, argsToLocals, Value.category]; done) | rfl) ?_
  intro p e s m below meth c s₁ X0 hx hZ hby hml hret hown0 hnm hlk e0
  have hown : s.vm.findClass "com/example/reliquary/reliquary/DeadLetterSelection" = some m.cls := hown0
  have N0 := Fr.nil n0
  have w42 := hw _ (List.mem_of_getElem? (i := 42) rfl)
  refine o_aloadN X0 hx (hb hby d27_0) rfl rfl ?_
  obtain ⟨T1, X1, e1, st1⟩ := getF X0 hx hZ hown (host := "") (Or.inl w42) Via.refl e0 pr0 (g := (mkF m 1 #[.val (.ref d_)] [(.ref d_)])) rfl rfl (hb hby d27_1)
  refine ogo (S' := T1.setTop (mkF m 4 #[.val (.ref d_)] [v_])) st1 ?_
  refine oend X1 hlk (v := some v_) (fun h => by rw [hret] at h; cases h) (fun fs hr => retOut X1 hx (t := (.object "java/lang/String")) (i := .areturn) hret (by cases v_ <;> rfl) (Or.inr (Or.inr (Or.inr (Or.inr ⟨rfl, rfl, pr1⟩)))) (hb hby d27_4) hr) (by decide) (by decide) ?_
  show own_Q_g_contentId Z _ _ h0 n0 _ T1.heap _
  rw [e1]
  exact ⟨rfl, N0, rfl⟩
theorem own_pd16 : parseMethodDescriptor "(Ljava/lang/String;Ljava/lang/String;Ljava/lang/String;)V" = some ⟨[(.object "java/lang/String"), (.object "java/lang/String"), (.object "java/lang/String")], none⟩ := by decide +kernel
theorem own_pd17 : parseMethodDescriptor "(Ljava/lang/Object;)Ljava/util/Optional;" = some ⟨[(.object "java/lang/Object")], some (.object "java/util/Optional")⟩ := by decide +kernel
theorem d28_0 : decode prog_3_method_3_code 0 = .ok (.aload_n 0, 1) := by decide +kernel
theorem d28_1 : decode prog_3_method_3_code 1 = .ok (.getfield 7, 3) := by decide +kernel
theorem d28_4 : decode prog_3_method_3_code 4 = .ok (.ifnull 18, 3) := by decide +kernel
theorem d28_22 : decode prog_3_method_3_code 22 = .ok (.new 8, 3) := by decide +kernel
theorem d28_25 : decode prog_3_method_3_code 25 = .ok (.dup, 1) := by decide +kernel
theorem d28_26 : decode prog_3_method_3_code 26 = .ok (.aload_n 1, 1) := by decide +kernel
theorem d28_27 : decode prog_3_method_3_code 27 = .ok (.aload_n 0, 1) := by decide +kernel
theorem d28_28 : decode prog_3_method_3_code 28 = .ok (.getfield 13, 3) := by decide +kernel
theorem d28_31 : decode prog_3_method_3_code 31 = .ok (.aload_n 0, 1) := by decide +kernel
theorem d28_32 : decode prog_3_method_3_code 32 = .ok (.getfield 16, 3) := by decide +kernel
theorem d28_35 : decode prog_3_method_3_code 35 = .ok (.invokespecial 62, 3) := by decide +kernel
theorem d28_38 : decode prog_3_method_3_code 38 = .ok (.invokestatic 75, 3) := by decide +kernel
theorem d28_41 : decode prog_3_method_3_code 41 = .ok (.areturn, 1) := by decide +kernel
def own_Q_onqN (Z : State)  (d_ : Addr) (y_ : Addr) (p_ : Value) (c_ : Value) (h0 : Heap) (n0 : Nat) (v : Option Value) (h : Heap) (L : List Loc) : Prop := ∃ o_ : Addr, ∃ r_ : Addr, (v = some (.ref o_)) ∧ (Fr n0 L) ∧ (Keep h0 h []) ∧ (h0.size ≤ o_) ∧ (h0.size ≤ r_) ∧ (Exa Z h o_ "java/util/Optional") ∧ (Fld Z h o_ "java/util/Optional" "value" "Ljava/lang/Object;" (.ref r_)) ∧ (Exa Z h r_ "com/example/reliquary/reliquary/DeadLetterSelection") ∧ (Fld Z h r_ "com/example/reliquary/reliquary/DeadLetterSelection" "queue" "Ljava/lang/String;" (.ref y_)) ∧ (Fld Z h r_ "com/example/reliquary/reliquary/DeadLetterSelection" "space" "Ljava/lang/String;" p_) ∧ (Fld Z h r_ "com/example/reliquary/reliquary/DeadLetterSelection" "contentId" "Ljava/lang/String;" c_)
abbrev yM27 : MethodName := ⟨"com/example/reliquary/reliquary/DeadLetterSelection", "onQueue", "(Ljava/lang/String;)Ljava/util/Optional;"⟩
set_option maxRecDepth 65536 in
set_option maxHeartbeats 40000000 in
theorem rm_onqN (l : Launch) (Z : State) (a0 : Array Value) (hw : ∀ d ∈ tables_1, d.before a0 Z = true) (ws : List Jvm.Cond)  (d_ : Addr) (y_ : Addr) (p_ : Value) (c_ : Value) (h0 : Heap) (n0 : Nat) (O0 : Old Z n0 h0) (pr0 : Exa Z h0 d_ "com/example/reliquary/reliquary/DeadLetterSelection") (pr1 : Fld Z h0 d_ "com/example/reliquary/reliquary/DeadLetterSelection" "queue" "Ljava/lang/String;" .null) (pr2 : Fld Z h0 d_ "com/example/reliquary/reliquary/DeadLetterSelection" "space" "Ljava/lang/String;" p_) (pr3 : Fld Z h0 d_ "com/example/reliquary/reliquary/DeadLetterSelection" "contentId" "Ljava/lang/String;" c_) (pr4 : p_.isRef = true) (pr5 : c_.isRef = true) (pr6 : p_.category = 1) (pr7 : c_.category = 1) :
    oMet l Z yM27 prog_3_method_3_code 2 (some (.object "java/util/Optional")) ws ({ frames := 3, cells := 2, slots := 4, locals := 40 } : Room) 2 4 #[(.ref d_), (.ref y_)] h0 (own_Q_onqN Z  d_ y_ p_ c_ h0 n0) := by
  refine oenter own_pn6 #[.val (.ref d_), .val (.ref y_)] (fun m => by first | (simp [entryFrame, mkF, argsToLocals, Value.category]; done) | rfl) ?_
  intro p e s m below meth c s₁ X0 hx hZ hby hml hret hown0 hnm hlk e0
  have hown : s.vm.findClass "com/example/reliquary/reliquary/DeadLetterSelection" = some m.cls := hown0
  have N0 := Fr.nil n0
  have w27 := hw _ (List.mem_of_getElem? (i := 27) rfl)
  have w28 := hw _ (List.mem_of_getElem? (i := 28) rfl)
  have w30 := hw _ (List.mem_of_getElem? (i := 30) rfl)
  have w31 := hw _ (List.mem_of_getElem? (i := 31) rfl)
  have w38 := hw _ (List.mem_of_getElem? (i := 38) rfl)
  have w39 := hw _ (List.mem_of_getElem? (i := 39) rfl)
  have w40 := hw _ (List.mem_of_getElem? (i := 40) rfl)
  have w41 := hw _ (List.mem_of_getElem? (i := 41) rfl)
  have w42 := hw _ (List.mem_of_getElem? (i := 42) rfl)
  have w43 := hw _ (List.mem_of_getElem? (i := 43) rfl)
  have w49 := hw _ (List.mem_of_getElem? (i := 49) rfl)
  have w50 := hw _ (List.mem_of_getElem? (i := 50) rfl)
  have w51 := hw _ (List.mem_of_getElem? (i := 51) rfl)
  have w52 := hw _ (List.mem_of_getElem? (i := 52) rfl)
  have w53 := hw _ (List.mem_of_getElem? (i := 53) rfl)
  have w54 := hw _ (List.mem_of_getElem? (i := 54) rfl)
  refine o_aloadN X0 hx (hb hby d28_0) rfl rfl ?_
  obtain ⟨T1, X1, e1, st1⟩ := getF X0 hx hZ hown (host := "") (Or.inl w38) Via.refl e0 pr1 (g := (mkF m 1 #[.val (.ref d_), .val (.ref y_)] [(.ref d_)])) rfl rfl (hb hby d28_1)
  refine ogo (S' := T1.setTop (mkF m 4 #[.val (.ref d_), .val (.ref y_)] [.null])) st1 ?_
  refine o_ifnullYes X1 hx 22 (hb hby d28_4) (by decide) (by decide) ?_
  obtain ⟨T2, _, X2, rfl, E2, A2, D2, -, st2⟩ := newO X1 hx hZ hown w49 w27 w28 e1 (g := (mkF m 22 #[.val (.ref d_), .val (.ref y_)] [])) rfl (hb hby d28_22) (by decide) (by decide)
  obtain ⟨b2, g2⟩ : ∃ z, z = h0.size := ⟨_, rfl⟩
  rw [← g2] at A2 D2 st2
  have n0_b2 : n0 ≤ b2 := Nat.le_trans (Nat.le_trans (Nat.le_of_eq O0.1.symm) O0.2.1) (Nat.le_trans (Nat.le_refl _) (Nat.le_of_eq g2.symm))
  have F2_queue : Fld Z T2.heap b2 "com/example/reliquary/reliquary/DeadLetterSelection" "queue" "Ljava/lang/String;" .null := D2 (Or.inr w39) (ty := (.object "java/lang/String")) (by decide)
  have F2_space : Fld Z T2.heap b2 "com/example/reliquary/reliquary/DeadLetterSelection" "space" "Ljava/lang/String;" .null := D2 (Or.inr w41) (ty := (.object "java/lang/String")) (by decide)
  have F2_contentId : Fld Z T2.heap b2 "com/example/reliquary/reliquary/DeadLetterSelection" "contentId" "Ljava/lang/String;" .null := D2 (Or.inr w43) (ty := (.object "java/lang/String")) (by decide)
  refine ogo (S' := T2.setTop (mkF m 25 #[.val (.ref d_), .val (.ref y_)] [(.ref b2)])) st2 ?_
  refine o_dup X2 hx (hb hby d28_25) rfl ?_
  refine o_aloadN X2 hx (hb hby d28_26) rfl rfl ?_
  refine o_aloadN X2 hx (hb hby d28_27) rfl rfl ?_
  obtain ⟨T3, X3, e3, st3⟩ := getF X2 hx hZ hown (host := "") (Or.inl w40) Via.refl rfl (Fld.ext E2 pr2) (g := (mkF m 28 #[.val (.ref d_), .val (.ref y_)] [(.ref d_), (.ref y_), (.ref b2), (.ref b2)])) rfl rfl (hb hby d28_28)
  refine ogo (S' := T3.setTop (mkF m 31 #[.val (.ref d_), .val (.ref y_)] [p_, (.ref y_), (.ref b2), (.ref b2)])) st3 ?_
  refine o_aloadN X3 hx (hb hby d28_31) rfl rfl ?_
  obtain ⟨T4, X4, e4, st4⟩ := getF X3 hx hZ hown (host := "") (Or.inl w42) Via.refl e3 (Fld.ext E2 pr3) (g := (mkF m 32 #[.val (.ref d_), .val (.ref y_)] [(.ref d_), p_, (.ref y_), (.ref b2), (.ref b2)])) rfl rfl (hb hby d28_32)
  refine ogo (S' := T4.setTop (mkF m 35 #[.val (.ref d_), .val (.ref y_)] [c_, p_, (.ref y_), (.ref b2), (.ref b2)])) st4 ?_
  obtain ⟨_, _, ⟨T5, L5, kc5, n5⟩, -, X5, ⟨Lc5, hQ5, l5, y5, z5⟩, st5⟩ := X4.specialBack hx (y := yM17) rfl hown (mvT hZ w50) (mvT hZ w30) (mvT hZ w31) (by decide) (backOf (W := 1) (rm_dli l Z a0 hw []  b2 (.ref y_) p_ c_ T2.heap n0 (O0.ext E2) A2 F2_queue F2_space F2_contentId n0_b2 (by first | rfl | assumption | decide | omega) pr4 pr5 (by first | rfl | assumption | decide | omega) pr6 pr7) hZ w31 w28 (by decide) (by decide)) (g := (mkF m 35 #[.val (.ref d_), .val (.ref y_)] [c_, p_, (.ref y_), (.ref b2), (.ref b2)])) rfl (by rw [hml]; rfl) (Steps.refl _) (a := b2) (argsL := [(.ref y_), p_, c_]) (rest := [(.ref b2)]) (lenOf own_pd16 rfl) rfl (by show 2 * 0 + _ ≤ _; exact Nat.le_of_eq rfl) (hb hby d28_35) (fun _ _ => ⟨rfl, e4, (by decide : 1 + 0 ≤ _), (by decide : 3 + 0 ≤ _)⟩)
  dsimp only [Pt.U, Pt.locs, Pt.cells, Pt.slots] at X5 l5 y5 z5 st5 hQ5
  subst l5 y5 z5
  obtain ⟨rfl, Nq5, K5, p5_0, p5_1, p5_2, p5_3⟩ := hQ5
  have N5 := Fr.app N0 Nq5
  refine otr (S' := T5.setTop (mkF m 38 #[.val (.ref d_), .val (.ref y_)] [(.ref b2)])) st5 ?_
  obtain ⟨_, _, ⟨T6, L6, kc6, n6⟩, -, X6, ⟨Lc6, hQ6, l6, y6, z6⟩, st6⟩ := Jvm.LawKit.callS X5 hx (y := yM20) hown (mvT hZ w51) (mvT hZ w52) (mvT hZ w53) (mvT hZ w54) (by decide) (backOf (W := 0) (rm_opo l Z a0 hw []  b2 T5.heap n0 ((O0.ext E2).keep K5 (allS n0_b2 all0)) ) hZ w54 w53 (by decide) (by decide)) (g := (mkF m 38 #[.val (.ref d_), .val (.ref y_)] [(.ref b2)])) rfl (by rw [hml]; rfl) (argsL := [(.ref b2)]) (rest := []) (lenOf own_pd17 rfl) rfl (by show 2 * 0 + _ ≤ _; exact Nat.le_of_eq rfl) (hb hby d28_38) (fun _ _ => ⟨rfl, rfl, (by decide : 1 + 1 ≤ _), (by decide : 3 + 1 ≤ _)⟩)
  dsimp only [Pt.U, Pt.locs, Pt.cells, Pt.slots] at X6 l6 y6 z6 st6 hQ6
  subst l6 y6 z6
  obtain ⟨o_6, rfl, Nq6, K6, p6_0, p6_1, p6_2⟩ := hQ6
  have N6 := Fr.app N5 Nq6
  have n0_o_6 : n0 ≤ o_6 := Nat.le_trans (Nat.le_trans (Nat.le_of_eq O0.1.symm) O0.2.1) (Nat.le_trans (Nat.le_trans E2.1 K5.1) p6_0)
  refine ogo (S' := T6.setTop (mkF m 41 #[.val (.ref d_), .val (.ref y_)] [(.ref o_6)])) st6 ?_
  refine oend X6 hlk (v := some (.ref o_6)) (fun h => by rw [hret] at h; cases h) (fun fs hr => retOut X6 hx (t := (.object "java/util/Optional")) (i := .areturn) hret rfl (Or.inr (Or.inr (Or.inr (Or.inr ⟨rfl, rfl, rfl⟩)))) (hb hby d28_41) hr) (by decide) (by decide) ?_
  show own_Q_onqN Z _ _ _ _ h0 n0 _ T6.heap _
  exact ⟨o_6, b2, rfl, N6, ((((Keep.refl h0 []).ext E2).trans K5 (allS (Or.inr (Nat.le_trans (Nat.le_refl _) (Nat.le_of_eq g2.symm))) all0)).trans K6 all0), (Nat.le_trans (Nat.le_trans E2.1 K5.1) p6_0), (Nat.le_trans (Nat.le_refl _) (Nat.le_of_eq g2.symm)), p6_1, p6_2, (p5_0.keep K6), (p5_1.keep K6 nin0), (p5_2.keep K6 nin0), (p5_3.keep K6 nin0)⟩
theorem own_pd18 : parseMethodDescriptor "(Ljava/lang/Object;)Z" = some ⟨[(.object "java/lang/Object")], some .boolean⟩ := by decide +kernel
theorem d28_7 : decode prog_3_method_3_code 7 = .ok (.aload_n 0, 1) := by decide +kernel
theorem d28_8 : decode prog_3_method_3_code 8 = .ok (.getfield 7, 3) := by decide +kernel
theorem d28_11 : decode prog_3_method_3_code 11 = .ok (.aload_n 1, 1) := by decide +kernel
theorem d28_12 : decode prog_3_method_3_code 12 = .ok (.invokevirtual 65, 3) := by decide +kernel
theorem d28_15 : decode prog_3_method_3_code 15 = .ok (.ifCond .ne 7, 3) := by decide +kernel
def own_Q_onqT (Z : State) (z_CS : Int32) (v_FMT : Value) (s_EMPTY : Addr) (d_ : Addr) (x_ : Addr) (ba_ : Addr) (kb_ : ClassId) (n_ : Int32) (vs_ : List Value) (s_ : List Int32) (y_ : Addr) (bb_ : Addr) (kc_ : ClassId) (m_ : Int32) (ws_ : List Value) (t_ : List Int32) (p_ : Value) (c_ : Value) (h0 : Heap) (n0 : Nat) (v : Option Value) (h : Heap) (L : List Loc) : Prop := ∃ o_ : Addr, ∃ r_ : Addr, (v = some (.ref o_)) ∧ (Fr n0 L) ∧ (Keep h0 h []) ∧ (h0.size ≤ o_) ∧ (h0.size ≤ r_) ∧ (Exa Z h o_ "java/util/Optional") ∧ (Fld Z h o_ "java/util/Optional" "value" "Ljava/lang/Object;" (.ref r_)) ∧ (Exa Z h r_ "com/example/reliquary/reliquary/DeadLetterSelection") ∧ (Fld Z h r_ "com/example/reliquary/reliquary/DeadLetterSelection" "queue" "Ljava/lang/String;" (.ref y_)) ∧ (Fld Z h r_ "com/example/reliquary/reliquary/DeadLetterSelection" "space" "Ljava/lang/String;" p_) ∧ (Fld Z h r_ "com/example/reliquary/reliquary/DeadLetterSelection" "contentId" "Ljava/lang/String;" c_)
set_option maxRecDepth 65536 in
set_option maxHeartbeats 40000000 in
theorem rm_onqT (l : Launch) (Z : State) (a0 : Array Value) (hw : ∀ d ∈ tables_1, d.before a0 Z = true) (ws : List Jvm.Cond) (z_CS : Int32) (v_FMT : Value) (s_EMPTY : Addr) (d_ : Addr) (x_ : Addr) (ba_ : Addr) (kb_ : ClassId) (n_ : Int32) (vs_ : List Value) (s_ : List Int32) (y_ : Addr) (bb_ : Addr) (kc_ : ClassId) (m_ : Int32) (ws_ : List Value) (t_ : List Int32) (p_ : Value) (c_ : Value) (h0 : Heap) (n0 : Nat) (SB : own_Start Z z_CS v_FMT s_EMPTY) (O0 : Old Z n0 h0) (pr0 : Exa Z h0 d_ "com/example/reliquary/reliquary/DeadLetterSelection") (pr1 : Fld Z h0 d_ "com/example/reliquary/reliquary/DeadLetterSelection" "queue" "Ljava/lang/String;" (.ref x_)) (pr2 : Fld Z h0 d_ "com/example/reliquary/reliquary/DeadLetterSelection" "space" "Ljava/lang/String;" p_) (pr3 : Fld Z h0 d_ "com/example/reliquary/reliquary/DeadLetterSelection" "contentId" "Ljava/lang/String;" c_) (pr4 : p_.isRef = true) (pr5 : c_.isRef = true) (pr6 : p_.category = 1) (pr7 : c_.category = 1) (pr8 : Exa Z h0 x_ "java/lang/String") (pr9 : Fld Z h0 x_ "java/lang/String" "coder" "B" (.int (0 : Int32))) (pr10 : Fld Z h0 x_ "java/lang/String" "value" "[B" (.ref ba_)) (pr11 : Arv Z h0 ba_ kb_ .byte n_ vs_ (.int 0)) (pr12 : Exa Z h0 y_ "java/lang/String") (pr13 : Fld Z h0 y_ "java/lang/String" "coder" "B" (.int (0 : Int32))) (pr14 : Fld Z h0 y_ "java/lang/String" "value" "[B" (.ref bb_)) (pr15 : Arv Z h0 bb_ kc_ .byte m_ ws_ (.int 0)) (pr16 : own_sh s_ n_ vs_) (pr17 : own_sh t_ m_ ws_) (pr18 : x_ ≠ y_) (pr19 : s_ = t_) :
    oMet l Z yM27 prog_3_method_3_code 2 (some (.object "java/util/Optional")) ws ({ frames := 3, cells := 2, slots := 4, locals := 40 } : Room) 2 4 #[(.ref d_), (.ref y_)] h0 (own_Q_onqT Z z_CS v_FMT s_EMPTY d_ x_ ba_ kb_ n_ vs_ s_ y_ bb_ kc_ m_ ws_ t_ p_ c_ h0 n0) := by
  refine oenter own_pn6 #[.val (.ref d_), .val (.ref y_)] (fun m => by first | (simp [entryFrame, mkF, argsToLocals, Value.category]; done) | rfl) ?_
  intro p e s m below meth c s₁ X0 hx hZ hby hml hret hown0 hnm hlk e0
  have hown : s.vm.findClass "com/example/reliquary/reliquary/DeadLetterSelection" = some m.cls := hown0
  have N0 := Fr.nil n0
  obtain ⟨S_CS, H_CS, S_FMT, R_FMT, S_EMPTY, E_EMPTY, F_EMPTY⟩ := (id SB)
  have w6 := hw _ (List.mem_of_getElem? (i := 6) rfl)
  have w27 := hw _ (List.mem_of_getElem? (i := 27) rfl)
  have w28 := hw _ (List.mem_of_getElem? (i := 28) rfl)
  have w30 := hw _ (List.mem_of_getElem? (i := 30) rfl)
  have w31 := hw _ (List.mem_of_getElem? (i := 31) rfl)
  have w38 := hw _ (List.mem_of_getElem? (i := 38) rfl)
  have w39 := hw _ (List.mem_of_getElem? (i := 39) rfl)
  have w40 := hw _ (List.mem_of_getElem? (i := 40) rfl)
  have w41 := hw _ (List.mem_of_getElem? (i := 41) rfl)
  have w42 := hw _ (List.mem_of_getElem? (i := 42) rfl)
  have w43 := hw _ (List.mem_of_getElem? (i := 43) rfl)
  have w49 := hw _ (List.mem_of_getElem? (i := 49) rfl)
  have w50 := hw _ (List.mem_of_getElem? (i := 50) rfl)
  have w51 := hw _ (List.mem_of_getElem? (i := 51) rfl)
  have w52 := hw _ (List.mem_of_getElem? (i := 52) rfl)
  have w53 := hw _ (List.mem_of_getElem? (i := 53) rfl)
  have w54 := hw _ (List.mem_of_getElem? (i := 54) rfl)
  have w108 := hw _ (List.mem_of_getElem? (i := 108) rfl)
  have w109 := hw _ (List.mem_of_getElem? (i := 109) rfl)
  have w110 := hw _ (List.mem_of_getElem? (i := 110) rfl)
  have w111 := hw _ (List.mem_of_getElem? (i := 111) rfl)
  have w112 := hw _ (List.mem_of_getElem? (i := 112) rfl)
  refine o_aloadN X0 hx (hb hby d28_0) rfl rfl ?_
  obtain ⟨T1, X1, e1, st1⟩ := getF X0 hx hZ hown (host := "") (Or.inl w38) Via.refl e0 pr1 (g := (mkF m 1 #[.val (.ref d_), .val (.ref y_)] [(.ref d_)])) rfl rfl (hb hby d28_1)
  refine ogo (S' := T1.setTop (mkF m 4 #[.val (.ref d_), .val (.ref y_)] [(.ref x_)])) st1 ?_
  refine o_ifnullNo X1 hx (hb hby d28_4) ?_
  refine o_aloadN X1 hx (hb hby d28_7) rfl rfl ?_
  obtain ⟨T2, X2, e2, st2⟩ := getF X1 hx hZ hown (host := "") (Or.inl w38) Via.refl e1 pr1 (g := (mkF m 8 #[.val (.ref d_), .val (.ref y_)] [(.ref d_)])) rfl rfl (hb hby d28_8)
  refine ogo (S' := T2.setTop (mkF m 11 #[.val (.ref d_), .val (.ref y_)] [(.ref x_)])) st2 ?_
  refine o_aloadN X2 hx (hb hby d28_11) rfl rfl ?_
  obtain ⟨cq3, kq3, q3a, q3b, q3c⟩ := isOf hZ e2 pr8
  obtain ⟨_, _, ⟨T3, L3, kc3, n3⟩, -, X3, ⟨Lc3, hQ3, l3, y3, z3⟩, st3⟩ := X2.virtualBack hx (y := yM15) (z := yM15) hown (mvT hZ w108) (mvT hZ w109) (notFace_of_selects (args := #[]) (mvT hZ w111)) (mvT hZ w111) (mvT hZ w110) (by decide) (backOf (W := 0) (rm_equ l Z a0 hw [] z_CS v_FMT s_EMPTY x_ ba_ kb_ n_ vs_ s_ y_ bb_ kc_ m_ ws_ t_ h0 n0 SB O0 pr8 pr9 pr10 pr11 pr12 pr13 pr14 pr15 pr16 pr17 pr18) hZ w112 w6 (by decide) (by decide)) q3a q3c (g := (mkF m 12 #[.val (.ref d_), .val (.ref y_)] [(.ref y_), (.ref x_)])) rfl (by rw [hml]; rfl) (Steps.refl _) (argsL := [(.ref y_)]) (rest := []) (lenOf own_pd18 rfl) rfl (by show 2 * 0 + _ ≤ _; exact Nat.le_of_eq rfl) (hb hby d28_12) (fun _ _ => ⟨rfl, e2, (by decide : 0 + 0 ≤ _), (by decide : 0 + 0 ≤ _)⟩)
  dsimp only [Pt.U, Pt.locs, Pt.cells, Pt.slots] at X3 l3 y3 z3 st3 hQ3
  subst l3 y3 z3
  obtain ⟨rfl, Nq3, e3⟩ := hQ3
  have N3 := Fr.app N0 Nq3
  refine otr (S' := T3.setTop (mkF m 15 #[.val (.ref d_), .val (.ref y_)] [(.int (own_b s_ t_))])) st3 ?_
  rw [own_bt pr19]
  refine o_ifYes X3 hx 22 (hb hby d28_15) (feq (by decide : ¬ ((1 : Int32) = (0 : Int32)))).2 (by decide) (by decide) ?_
  obtain ⟨T4, _, X4, rfl, E4, A4, D4, -, st4⟩ := newO X3 hx hZ hown w49 w27 w28 e3 (g := (mkF m 22 #[.val (.ref d_), .val (.ref y_)] [])) rfl (hb hby d28_22) (by decide) (by decide)
  obtain ⟨b4, g4⟩ : ∃ z, z = h0.size := ⟨_, rfl⟩
  rw [← g4] at A4 D4 st4
  have n0_b4 : n0 ≤ b4 := Nat.le_trans (Nat.le_trans (Nat.le_of_eq O0.1.symm) O0.2.1) (Nat.le_trans (Nat.le_refl _) (Nat.le_of_eq g4.symm))
  have F4_queue : Fld Z T4.heap b4 "com/example/reliquary/reliquary/DeadLetterSelection" "queue" "Ljava/lang/String;" .null := D4 (Or.inr w39) (ty := (.object "java/lang/String")) (by decide)
  have F4_space : Fld Z T4.heap b4 "com/example/reliquary/reliquary/DeadLetterSelection" "space" "Ljava/lang/String;" .null := D4 (Or.inr w41) (ty := (.object "java/lang/String")) (by decide)
  have F4_contentId : Fld Z T4.heap b4 "com/example/reliquary/reliquary/DeadLetterSelection" "contentId" "Ljava/lang/String;" .null := D4 (Or.inr w43) (ty := (.object "java/lang/String")) (by decide)
  refine ogo (S' := T4.setTop (mkF m 25 #[.val (.ref d_), .val (.ref y_)] [(.ref b4)])) st4 ?_
  refine o_dup X4 hx (hb hby d28_25) rfl ?_
  refine o_aloadN X4 hx (hb hby d28_26) rfl rfl ?_
  refine o_aloadN X4 hx (hb hby d28_27) rfl rfl ?_
  obtain ⟨T5, X5, e5, st5⟩ := getF X4 hx hZ hown (host := "") (Or.inl w40) Via.refl rfl (Fld.ext E4 pr2) (g := (mkF m 28 #[.val (.ref d_), .val (.ref y_)] [(.ref d_), (.ref y_), (.ref b4), (.ref b4)])) rfl rfl (hb hby d28_28)
  refine ogo (S' := T5.setTop (mkF m 31 #[.val (.ref d_), .val (.ref y_)] [p_, (.ref y_), (.ref b4), (.ref b4)])) st5 ?_
  refine o_aloadN X5 hx (hb hby d28_31) rfl rfl ?_
  obtain ⟨T6, X6, e6, st6⟩ := getF X5 hx hZ hown (host := "") (Or.inl w42) Via.refl e5 (Fld.ext E4 pr3) (g := (mkF m 32 #[.val (.ref d_), .val (.ref y_)] [(.ref d_), p_, (.ref y_), (.ref b4), (.ref b4)])) rfl rfl (hb hby d28_32)
  refine ogo (S' := T6.setTop (mkF m 35 #[.val (.ref d_), .val (.ref y_)] [c_, p_, (.ref y_), (.ref b4), (.ref b4)])) st6 ?_
  obtain ⟨_, _, ⟨T7, L7, kc7, n7⟩, -, X7, ⟨Lc7, hQ7, l7, y7, z7⟩, st7⟩ := X6.specialBack hx (y := yM17) rfl hown (mvT hZ w50) (mvT hZ w30) (mvT hZ w31) (by decide) (backOf (W := 1) (rm_dli l Z a0 hw []  b4 (.ref y_) p_ c_ T4.heap n0 (O0.ext E4) A4 F4_queue F4_space F4_contentId n0_b4 (by first | rfl | assumption | decide | omega) pr4 pr5 (by first | rfl | assumption | decide | omega) pr6 pr7) hZ w31 w28 (by decide) (by decide)) (g := (mkF m 35 #[.val (.ref d_), .val (.ref y_)] [c_, p_, (.ref y_), (.ref b4), (.ref b4)])) rfl (by rw [hml]; rfl) (Steps.refl _) (a := b4) (argsL := [(.ref y_), p_, c_]) (rest := [(.ref b4)]) (lenOf own_pd16 rfl) rfl (by show 2 * 0 + _ ≤ _; exact Nat.le_of_eq rfl) (hb hby d28_35) (fun _ _ => ⟨rfl, e6, (by decide : 1 + 0 ≤ _), (by decide : 3 + 0 ≤ _)⟩)
  dsimp only [Pt.U, Pt.locs, Pt.cells, Pt.slots] at X7 l7 y7 z7 st7 hQ7
  subst l7 y7 z7
  obtain ⟨rfl, Nq7, K7, p7_0, p7_1, p7_2, p7_3⟩ := hQ7
  have N7 := Fr.app N3 Nq7
  refine otr (S' := T7.setTop (mkF m 38 #[.val (.ref d_), .val (.ref y_)] [(.ref b4)])) st7 ?_
  obtain ⟨_, _, ⟨T8, L8, kc8, n8⟩, -, X8, ⟨Lc8, hQ8, l8, y8, z8⟩, st8⟩ := Jvm.LawKit.callS X7 hx (y := yM20) hown (mvT hZ w51) (mvT hZ w52) (mvT hZ w53) (mvT hZ w54) (by decide) (backOf (W := 0) (rm_opo l Z a0 hw []  b4 T7.heap n0 ((O0.ext E4).keep K7 (allS n0_b4 all0)) ) hZ w54 w53 (by decide) (by decide)) (g := (mkF m 38 #[.val (.ref d_), .val (.ref y_)] [(.ref b4)])) rfl (by rw [hml]; rfl) (argsL := [(.ref b4)]) (rest := []) (lenOf own_pd17 rfl) rfl (by show 2 * 0 + _ ≤ _; exact Nat.le_of_eq rfl) (hb hby d28_38) (fun _ _ => ⟨rfl, rfl, (by decide : 1 + 1 ≤ _), (by decide : 3 + 1 ≤ _)⟩)
  dsimp only [Pt.U, Pt.locs, Pt.cells, Pt.slots] at X8 l8 y8 z8 st8 hQ8
  subst l8 y8 z8
  obtain ⟨o_8, rfl, Nq8, K8, p8_0, p8_1, p8_2⟩ := hQ8
  have N8 := Fr.app N7 Nq8
  have n0_o_8 : n0 ≤ o_8 := Nat.le_trans (Nat.le_trans (Nat.le_of_eq O0.1.symm) O0.2.1) (Nat.le_trans (Nat.le_trans E4.1 K7.1) p8_0)
  refine ogo (S' := T8.setTop (mkF m 41 #[.val (.ref d_), .val (.ref y_)] [(.ref o_8)])) st8 ?_
  refine oend X8 hlk (v := some (.ref o_8)) (fun h => by rw [hret] at h; cases h) (fun fs hr => retOut X8 hx (t := (.object "java/util/Optional")) (i := .areturn) hret rfl (Or.inr (Or.inr (Or.inr (Or.inr ⟨rfl, rfl, rfl⟩)))) (hb hby d28_41) hr) (by decide) (by decide) ?_
  show own_Q_onqT Z _ _ _ _ _ _ _ _ _ _ _ _ _ _ _ _ _ _ h0 n0 _ T8.heap _
  exact ⟨o_8, b4, rfl, N8, ((((Keep.refl h0 []).ext E4).trans K7 (allS (Or.inr (Nat.le_trans (Nat.le_refl _) (Nat.le_of_eq g4.symm))) all0)).trans K8 all0), (Nat.le_trans (Nat.le_trans E4.1 K7.1) p8_0), (Nat.le_trans (Nat.le_refl _) (Nat.le_of_eq g4.symm)), p8_1, p8_2, (p7_0.keep K8), (p7_1.keep K8 nin0), (p7_2.keep K8 nin0), (p7_3.keep K8 nin0)⟩
theorem own_pd19 : parseMethodDescriptor "()Ljava/util/Optional;" = some ⟨[], some (.object "java/util/Optional")⟩ := by decide +kernel
theorem d28_18 : decode prog_3_method_3_code 18 = .ok (.invokestatic 69, 3) := by decide +kernel
theorem d28_21 : decode prog_3_method_3_code 21 = .ok (.areturn, 1) := by decide +kernel
def own_Q_onqF (Z : State) (z_CS : Int32) (v_FMT : Value) (s_EMPTY : Addr) (d_ : Addr) (x_ : Addr) (ba_ : Addr) (kb_ : ClassId) (n_ : Int32) (vs_ : List Value) (s_ : List Int32) (y_ : Addr) (bb_ : Addr) (kc_ : ClassId) (m_ : Int32) (ws_ : List Value) (t_ : List Int32) (h0 : Heap) (n0 : Nat) (v : Option Value) (h : Heap) (L : List Loc) : Prop := (v = some (.ref s_EMPTY)) ∧ (Fr n0 L) ∧ (h = h0)
set_option maxRecDepth 65536 in
set_option maxHeartbeats 40000000 in
theorem rm_onqF (l : Launch) (Z : State) (a0 : Array Value) (hw : ∀ d ∈ tables_1, d.before a0 Z = true) (ws : List Jvm.Cond) (z_CS : Int32) (v_FMT : Value) (s_EMPTY : Addr) (d_ : Addr) (x_ : Addr) (ba_ : Addr) (kb_ : ClassId) (n_ : Int32) (vs_ : List Value) (s_ : List Int32) (y_ : Addr) (bb_ : Addr) (kc_ : ClassId) (m_ : Int32) (ws_ : List Value) (t_ : List Int32) (h0 : Heap) (n0 : Nat) (SB : own_Start Z z_CS v_FMT s_EMPTY) (O0 : Old Z n0 h0) (pr0 : Exa Z h0 d_ "com/example/reliquary/reliquary/DeadLetterSelection") (pr1 : Fld Z h0 d_ "com/example/reliquary/reliquary/DeadLetterSelection" "queue" "Ljava/lang/String;" (.ref x_)) (pr2 : Exa Z h0 x_ "java/lang/String") (pr3 : Fld Z h0 x_ "java/lang/String" "coder" "B" (.int (0 : Int32))) (pr4 : Fld Z h0 x_ "java/lang/String" "value" "[B" (.ref ba_)) (pr5 : Arv Z h0 ba_ kb_ .byte n_ vs_ (.int 0)) (pr6 : Exa Z h0 y_ "java/lang/String") (pr7 : Fld Z h0 y_ "java/lang/String" "coder" "B" (.int (0 : Int32))) (pr8 : Fld Z h0 y_ "java/lang/String" "value" "[B" (.ref bb_)) (pr9 : Arv Z h0 bb_ kc_ .byte m_ ws_ (.int 0)) (pr10 : own_sh s_ n_ vs_) (pr11 : own_sh t_ m_ ws_) (pr12 : x_ ≠ y_) (pr13 : ¬ (s_ = t_)) :
    oMet l Z yM27 prog_3_method_3_code 2 (some (.object "java/util/Optional")) ws ({ frames := 2, cells := 0, slots := 0, locals := 28 } : Room) 0 0 #[(.ref d_), (.ref y_)] h0 (own_Q_onqF Z z_CS v_FMT s_EMPTY d_ x_ ba_ kb_ n_ vs_ s_ y_ bb_ kc_ m_ ws_ t_ h0 n0) := by
  refine oenter own_pn6 #[.val (.ref d_), .val (.ref y_)] (fun m => by first | (simp [entryFrame, mkF, argsToLocals, Value.category]; done) | rfl) ?_
  intro p e s m below meth c s₁ X0 hx hZ hby hml hret hown0 hnm hlk e0
  have hown : s.vm.findClass "com/example/reliquary/reliquary/DeadLetterSelection" = some m.cls := hown0
  have N0 := Fr.nil n0
  obtain ⟨S_CS, H_CS, S_FMT, R_FMT, S_EMPTY, E_EMPTY, F_EMPTY⟩ := (id SB)
  have w6 := hw _ (List.mem_of_getElem? (i := 6) rfl)
  have w38 := hw _ (List.mem_of_getElem? (i := 38) rfl)
  have w53 := hw _ (List.mem_of_getElem? (i := 53) rfl)
  have w108 := hw _ (List.mem_of_getElem? (i := 108) rfl)
  have w109 := hw _ (List.mem_of_getElem? (i := 109) rfl)
  have w110 := hw _ (List.mem_of_getElem? (i := 110) rfl)
  have w111 := hw _ (List.mem_of_getElem? (i := 111) rfl)
  have w112 := hw _ (List.mem_of_getElem? (i := 112) rfl)
  have w128 := hw _ (List.mem_of_getElem? (i := 128) rfl)
  have w129 := hw _ (List.mem_of_getElem? (i := 129) rfl)
  have w130 := hw _ (List.mem_of_getElem? (i := 130) rfl)
  refine o_aloadN X0 hx (hb hby d28_0) rfl rfl ?_
  obtain ⟨T1, X1, e1, st1⟩ := getF X0 hx hZ hown (host := "") (Or.inl w38) Via.refl e0 pr1 (g := (mkF m 1 #[.val (.ref d_), .val (.ref y_)] [(.ref d_)])) rfl rfl (hb hby d28_1)
  refine ogo (S' := T1.setTop (mkF m 4 #[.val (.ref d_), .val (.ref y_)] [(.ref x_)])) st1 ?_
  refine o_ifnullNo X1 hx (hb hby d28_4) ?_
  refine o_aloadN X1 hx (hb hby d28_7) rfl rfl ?_
  obtain ⟨T2, X2, e2, st2⟩ := getF X1 hx hZ hown (host := "") (Or.inl w38) Via.refl e1 pr1 (g := (mkF m 8 #[.val (.ref d_), .val (.ref y_)] [(.ref d_)])) rfl rfl (hb hby d28_8)
  refine ogo (S' := T2.setTop (mkF m 11 #[.val (.ref d_), .val (.ref y_)] [(.ref x_)])) st2 ?_
  refine o_aloadN X2 hx (hb hby d28_11) rfl rfl ?_
  obtain ⟨cq3, kq3, q3a, q3b, q3c⟩ := isOf hZ e2 pr2
  obtain ⟨_, _, ⟨T3, L3, kc3, n3⟩, -, X3, ⟨Lc3, hQ3, l3, y3, z3⟩, st3⟩ := X2.virtualBack hx (y := yM15) (z := yM15) hown (mvT hZ w108) (mvT hZ w109) (notFace_of_selects (args := #[]) (mvT hZ w111)) (mvT hZ w111) (mvT hZ w110) (by decide) (backOf (W := 0) (rm_equ l Z a0 hw [] z_CS v_FMT s_EMPTY x_ ba_ kb_ n_ vs_ s_ y_ bb_ kc_ m_ ws_ t_ h0 n0 SB O0 pr2 pr3 pr4 pr5 pr6 pr7 pr8 pr9 pr10 pr11 pr12) hZ w112 w6 (by decide) (by decide)) q3a q3c (g := (mkF m 12 #[.val (.ref d_), .val (.ref y_)] [(.ref y_), (.ref x_)])) rfl (by rw [hml]; rfl) (Steps.refl _) (argsL := [(.ref y_)]) (rest := []) (lenOf own_pd18 rfl) rfl (by show 2 * 0 + _ ≤ _; exact Nat.le_of_eq rfl) (hb hby d28_12) (fun _ _ => ⟨rfl, e2, (by decide : 0 + 0 ≤ _), (by decide : 0 + 0 ≤ _)⟩)
  dsimp only [Pt.U, Pt.locs, Pt.cells, Pt.slots] at X3 l3 y3 z3 st3 hQ3
  subst l3 y3 z3
  obtain ⟨rfl, Nq3, e3⟩ := hQ3
  have N3 := Fr.app N0 Nq3
  refine otr (S' := T3.setTop (mkF m 15 #[.val (.ref d_), .val (.ref y_)] [(.int (own_b s_ t_))])) st3 ?_
  rw [own_bf pr13]
  refine o_ifNo X3 hx (hb hby d28_15) (teq (by decide : (0 : Int32) = (0 : Int32))).2 ?_
  obtain ⟨_, _, ⟨T4, L4, kc4, n4⟩, -, X4, ⟨Lc4, hQ4, l4, y4, z4⟩, st4⟩ := Jvm.LawKit.callS X3 hx (y := yM21) hown (mvT hZ w128) (mvT hZ w129) (mvT hZ w53) (mvT hZ w130) (by decide) (backOf (W := 0) (rm_ope l Z a0 hw [] z_CS v_FMT s_EMPTY  h0 n0 SB O0 ) hZ w130 w53 (by decide) (by decide)) (g := (mkF m 18 #[.val (.ref d_), .val (.ref y_)] [])) rfl (by rw [hml]; rfl) (argsL := []) (rest := []) (lenOf own_pd19 rfl) rfl (by show 2 * 0 + _ ≤ _; exact Nat.le_of_eq rfl) (hb hby d28_18) (fun _ _ => ⟨rfl, e3, (by decide : 0 + 0 ≤ _), (by decide : 0 + 0 ≤ _)⟩)
  dsimp only [Pt.U, Pt.locs, Pt.cells, Pt.slots] at X4 l4 y4 z4 st4 hQ4
  subst l4 y4 z4
  obtain ⟨rfl, Nq4, e4⟩ := hQ4
  have N4 := Fr.app N3 Nq4
  refine ogo (S' := T4.setTop (mkF m 21 #[.val (.ref d_), .val (.ref y_)] [(.ref s_EMPTY)])) st4 ?_
  refine oend X4 hlk (v := some (.ref s_EMPTY)) (fun h => by rw [hret] at h; cases h) (fun fs hr => retOut X4 hx (t := (.object "java/util/Optional")) (i := .areturn) hret rfl (Or.inr (Or.inr (Or.inr (Or.inr ⟨rfl, rfl, rfl⟩)))) (hb hby d28_21) hr) (by decide) (by decide) ?_
  show own_Q_onqF Z _ _ _ _ _ _ _ _ _ _ _ _ _ _ _ _ h0 n0 _ T4.heap _
  rw [e4]
  exact ⟨rfl, N4, rfl⟩
theorem own_pd20 : parseMethodDescriptor "(I)Ljava/lang/String;" = some ⟨[.int], some (.object "java/lang/String")⟩ := by decide +kernel
theorem own_pd21 : parseMethodDescriptor "(Ljava/lang/String;)Ljava/util/Optional;" = some ⟨[(.object "java/lang/String")], some (.object "java/util/Optional")⟩ := by decide +kernel
theorem own_pd22 : parseMethodDescriptor "()Ljava/lang/Object;" = some ⟨[], some (.object "java/lang/Object")⟩ := by decide +kernel
theorem own_pd23 : parseMethodDescriptor "()Ljava/lang/String;" = some ⟨[], some (.object "java/lang/String")⟩ := by decide +kernel
theorem own_pd24 : parseMethodDescriptor "(Ljava/lang/String;Ljava/lang/String;)Z" = some ⟨[(.object "java/lang/String"), (.object "java/lang/String")], some .boolean⟩ := by decide +kernel
def own_Q_law (Z : State) (z_CS : Int32) (v_FMT : Value) (s_EMPTY : Addr) (i_ : Int32) (j_ : Int32) (k_ : Int32) (f_ : Int32) (g_ : Int32) (h0 : Heap) (n0 : Nat) (v : Option Value) (h : Heap) (L : List Loc) : Prop := (v = some (.int (1 : Int32))) ∧ (Fr n0 L) ∧ (Keep h0 h [])
set_option maxRecDepth 65536 in
set_option maxHeartbeats 40000000 in
theorem rm_law (l : Launch) (Z : State) (a0 : Array Value) (hw : ∀ d ∈ tables_1, d.before a0 Z = true) (ws : List Jvm.Cond) (z_CS : Int32) (v_FMT : Value) (s_EMPTY : Addr) (i_ : Int32) (j_ : Int32) (k_ : Int32) (f_ : Int32) (g_ : Int32) (h0 : Heap) (n0 : Nat) (SB : own_Start Z z_CS v_FMT s_EMPTY) (O0 : Old Z n0 h0)  :
    oMetS l Z x code maxLocals ret ws room_1 40 1216 #[(.int i_), (.int j_), (.int k_), (.int f_), (.int g_)] h0 (own_Q_law Z z_CS v_FMT s_EMPTY i_ j_ k_ f_ g_ h0 n0) := by
  refine oenterS own_pn2 #[.val (.int i_), .val (.int j_), .val (.int k_), .val (.int f_), .val (.int g_), .unset, .unset, .unset, .unset, .unset, .unset, .unset, .unset, .unset] (fun m => by first | (simp [entryFrame, mkF, argsToLocals, Value.category, maxLocals]; done) | rfl) ?_
  intro p e s m below meth c s₁ X0 hx hZ hby hml hret hown0 hnm hlk e0 hs0 H0 hS0
  have hEL := own_EW hw
  have wS := own_wS hw
  have hown : s.vm.findClass "com/example/reliquary/reliquary/DeadLetterSelectionOnQueuePinLaw" = some m.cls := hown0
  have N0 := Fr.nil n0
  obtain ⟨S_CS, H_CS, S_FMT, R_FMT, S_EMPTY, E_EMPTY, F_EMPTY⟩ := (id SB)
  have w0 := hw _ (List.mem_of_getElem? (i := 0) rfl)
  have w1 := hw _ (List.mem_of_getElem? (i := 1) rfl)
  have w2 := hw _ (List.mem_of_getElem? (i := 2) rfl)
  have w3 := hw _ (List.mem_of_getElem? (i := 3) rfl)
  have w26 := hw _ (List.mem_of_getElem? (i := 26) rfl)
  have w27 := hw _ (List.mem_of_getElem? (i := 27) rfl)
  have w28 := hw _ (List.mem_of_getElem? (i := 28) rfl)
  have w29 := hw _ (List.mem_of_getElem? (i := 29) rfl)
  have w30 := hw _ (List.mem_of_getElem? (i := 30) rfl)
  have w31 := hw _ (List.mem_of_getElem? (i := 31) rfl)
  have w39 := hw _ (List.mem_of_getElem? (i := 39) rfl)
  have w41 := hw _ (List.mem_of_getElem? (i := 41) rfl)
  have w43 := hw _ (List.mem_of_getElem? (i := 43) rfl)
  have w44 := hw _ (List.mem_of_getElem? (i := 44) rfl)
  have w45 := hw _ (List.mem_of_getElem? (i := 45) rfl)
  have w46 := hw _ (List.mem_of_getElem? (i := 46) rfl)
  have w47 := hw _ (List.mem_of_getElem? (i := 47) rfl)
  have w48 := hw _ (List.mem_of_getElem? (i := 48) rfl)
  have w53 := hw _ (List.mem_of_getElem? (i := 53) rfl)
  have w68 := hw _ (List.mem_of_getElem? (i := 68) rfl)
  have w69 := hw _ (List.mem_of_getElem? (i := 69) rfl)
  have w70 := hw _ (List.mem_of_getElem? (i := 70) rfl)
  have w71 := hw _ (List.mem_of_getElem? (i := 71) rfl)
  have w72 := hw _ (List.mem_of_getElem? (i := 72) rfl)
  have w73 := hw _ (List.mem_of_getElem? (i := 73) rfl)
  have w74 := hw _ (List.mem_of_getElem? (i := 74) rfl)
  have w75 := hw _ (List.mem_of_getElem? (i := 75) rfl)
  have w76 := hw _ (List.mem_of_getElem? (i := 76) rfl)
  have w77 := hw _ (List.mem_of_getElem? (i := 77) rfl)
  have w79 := hw _ (List.mem_of_getElem? (i := 79) rfl)
  have w80 := hw _ (List.mem_of_getElem? (i := 80) rfl)
  have w81 := hw _ (List.mem_of_getElem? (i := 81) rfl)
  have w82 := hw _ (List.mem_of_getElem? (i := 82) rfl)
  have w83 := hw _ (List.mem_of_getElem? (i := 83) rfl)
  have w84 := hw _ (List.mem_of_getElem? (i := 84) rfl)
  have w85 := hw _ (List.mem_of_getElem? (i := 85) rfl)
  have w86 := hw _ (List.mem_of_getElem? (i := 86) rfl)
  have w98 := hw _ (List.mem_of_getElem? (i := 98) rfl)
  have w99 := hw _ (List.mem_of_getElem? (i := 99) rfl)
  have w100 := hw _ (List.mem_of_getElem? (i := 100) rfl)
  have w101 := hw _ (List.mem_of_getElem? (i := 101) rfl)
  have w102 := hw _ (List.mem_of_getElem? (i := 102) rfl)
  have w103 := hw _ (List.mem_of_getElem? (i := 103) rfl)
  have w104 := hw _ (List.mem_of_getElem? (i := 104) rfl)
  have w105 := hw _ (List.mem_of_getElem? (i := 105) rfl)
  have w106 := hw _ (List.mem_of_getElem? (i := 106) rfl)
  have w107 := hw _ (List.mem_of_getElem? (i := 107) rfl)
  refine o_iloadN X0 hx (hb hby at_0) rfl ?_
  obtain ⟨_, _, ⟨T1, L1, kc1, n1⟩, -, X1, hSi1, hgr1, ⟨Lc1, hQ1, l1, y1, z1, C1⟩, st1⟩ := callSS X0 hx (y := yM5) hown (mvT hZ w0) (mvT hZ w1) (mvT hZ w2) (mvT hZ w3) (by decide) (backOfSH (W := 0) (rm_mk l Z a0 hw [] z_CS v_FMT s_EMPTY i_ h0 n0 SB O0 ) hZ w3 w2 (by decide) (by decide) hEL H0) (g := (mkF m 1 #[.val (.int i_), .val (.int j_), .val (.int k_), .val (.int f_), .val (.int g_), .unset, .unset, .unset, .unset, .unset, .unset, .unset, .unset, .unset] [(.int i_)])) rfl (by rw [hml]; rfl) (argsL := [(.int i_)]) (rest := []) (lenOf own_pd20 rfl) rfl (by show 2 * 0 + _ ≤ _; exact Nat.le_of_eq rfl) (hb hby at_1) (fun _ _ => ⟨rfl, e0, (by decide : 0 + 6 ≤ _), (by decide : 0 + 12 ≤ _)⟩)
  dsimp only [Pt.U, Pt.locs, Pt.cells, Pt.slots] at X1 l1 y1 z1 st1 hQ1 hSi1 hgr1 C1
  subst l1 y1 z1
  obtain ⟨r_1, ba_1, kb_1, rfl, Nq1, K1, p1_0, p1_1, p1_2, p1_3, p1_4, p1_5, p1_6⟩ := hQ1
  have N1 := Fr.app N0 Nq1
  have X1 : Stand p l e room_1 (s.setVm T1.vm) m #[(.int i_), (.int j_), (.int k_), (.int f_), (.int g_)] below meth c T1 _ _ _ := X1
  have hS1 := foldS hS0 (by rw [e0]; exact (Nat.zero_le _)) hSi1 hgr1
  have hZ1 : Z.Warmed39 T1.vm := State.Warmed39.trans (t := s) hZ hSi1.1
  have hown1 : T1.vm.findClass "com/example/reliquary/reliquary/DeadLetterSelectionOnQueuePinLaw" = some m.cls := by rw [hSi1.1.alike.findClass]; exact hown
  have H2 := C1.1
  have n0_r_1 : n0 ≤ r_1 := Nat.le_trans (Nat.le_trans (Nat.le_of_eq O0.1.symm) O0.2.1) (Nat.le_trans (Nat.le_refl _) p1_0)
  refine otr (S' := T1.setTop (mkF m 4 #[.val (.int i_), .val (.int j_), .val (.int k_), .val (.int f_), .val (.int g_), .unset, .unset, .unset, .unset, .unset, .unset, .unset, .unset, .unset] [(.ref r_1)])) st1 ?_
  refine o_astore X1 hx (l' := #[.val (.int i_), .val (.int j_), .val (.int k_), .val (.int f_), .val (.int g_), .val (.ref r_1), .unset, .unset, .unset, .unset, .unset, .unset, .unset, .unset]) (hb hby at_4) rfl rfl ?_
  refine o_iload X1 hx (hb hby at_6) rfl ?_
  refine o_iconst X1 hx (3 : Int32) (hb hby at_8) rfl ?_
  refine o_iand X1 hx (hb hby at_9) ?_
  refine o_istore X1 hx (l' := #[.val (.int i_), .val (.int j_), .val (.int k_), .val (.int f_), .val (.int g_), .val (.ref r_1), .val (.int (g_ &&& (3 : Int32))), .unset, .unset, .unset, .unset, .unset, .unset, .unset]) (hb hby at_10) rfl ?_
  refine o_iload X1 hx (hb hby at_12) rfl ?_
  by_cases hc3 : (g_ &&& (3 : Int32)) = (0 : Int32)
  · refine o_ifNo X1 hx (hb hby at_14) (teq hc3).2 ?_
    refine o_aconst_null X1 hx (hb hby at_17) ?_
    refine o_astore X1 hx (l' := #[.val (.int i_), .val (.int j_), .val (.int k_), .val (.int f_), .val (.int g_), .val (.ref r_1), .val (.int (g_ &&& (3 : Int32))), .val .null, .unset, .unset, .unset, .unset, .unset, .unset]) (hb hby at_18) rfl rfl ?_
    refine o_goto X1 hx 44 (hb hby at_20) (by decide) (by decide) ?_
    refine o_iload X1 hx (hb hby at_44) rfl ?_
    refine o_iconst X1 hx (2 : Int32) (hb hby at_46) rfl ?_
    refine o_iushr X1 hx (hb hby at_47) ?_
    refine o_iconst X1 hx (1 : Int32) (hb hby at_48) rfl ?_
    refine o_iand X1 hx (hb hby at_49) ?_
    by_cases hc4 : ((own_ushr g_ (2 : Int32)) &&& (1 : Int32)) = (0 : Int32)
    · refine o_ifYes X1 hx 57 (hb hby at_50) (teq hc4).1 (by decide) (by decide) ?_
      refine o_iloadN X1 hx (hb hby at_57) rfl ?_
      obtain ⟨_, _, ⟨T5, L5, kc5, n5⟩, -, X5, hSi5, hgr5, ⟨Lc5, hQ5, l5, y5, z5, C5⟩, st5⟩ := callSS X1 hx (y := yM5) hown1 (mvT hZ1 w0) (mvT hZ1 w1) (mvT hZ1 w2) (mvT hZ1 w3) (by decide) (backOfSH (W := 0) (rm_mk l Z a0 hw [] z_CS v_FMT s_EMPTY k_ T1.heap n0 SB (O0.keep K1 all0) ) hZ1 w3 w2 (by decide) (by decide) hEL H2) (g := (mkF m 58 #[.val (.int i_), .val (.int j_), .val (.int k_), .val (.int f_), .val (.int g_), .val (.ref r_1), .val (.int (g_ &&& (3 : Int32))), .val .null, .unset, .unset, .unset, .unset, .unset, .unset] [(.int k_)])) rfl (by rw [hml]; rfl) (argsL := [(.int k_)]) (rest := []) (lenOf own_pd20 rfl) rfl (by show 2 * 0 + _ ≤ _; exact Nat.le_of_eq rfl) (hb hby at_58) (fun _ _ => ⟨rfl, rfl, (by decide : 6 + 6 ≤ _), (by decide : 12 + 12 ≤ _)⟩)
      dsimp only [Pt.U, Pt.locs, Pt.cells, Pt.slots] at X5 l5 y5 z5 st5 hQ5 hSi5 hgr5 C5
      subst l5 y5 z5
      obtain ⟨r_5, ba_5, kb_5, rfl, Nq5, K5, p5_0, p5_1, p5_2, p5_3, p5_4, p5_5, p5_6⟩ := hQ5
      have N5 := Fr.app N1 Nq5
      have X5 : Stand p l e room_1 (s.setVm T5.vm) m #[(.int i_), (.int j_), (.int k_), (.int f_), (.int g_)] below meth c T5 _ _ _ := X5
      have hS5 := foldS hS1 (Nat.le_refl _) hSi5 hgr5
      have hZ5 : Z.Warmed39 T5.vm := State.Warmed39.trans (t := (s.setVm T1.vm)) hZ1 hSi5.1
      have hown5 : T5.vm.findClass "com/example/reliquary/reliquary/DeadLetterSelectionOnQueuePinLaw" = some m.cls := by rw [hSi5.1.alike.findClass]; exact hown1
      have H6 := C5.1
      have n0_r_5 : n0 ≤ r_5 := Nat.le_trans (Nat.le_trans (Nat.le_of_eq O0.1.symm) O0.2.1) (Nat.le_trans K1.1 p5_0)
      refine otr (S' := T5.setTop (mkF m 61 #[.val (.int i_), .val (.int j_), .val (.int k_), .val (.int f_), .val (.int g_), .val (.ref r_1), .val (.int (g_ &&& (3 : Int32))), .val .null, .unset, .unset, .unset, .unset, .unset, .unset] [(.ref r_5)])) st5 ?_
      refine o_astore X5 hx (l' := #[.val (.int i_), .val (.int j_), .val (.int k_), .val (.int f_), .val (.int g_), .val (.ref r_1), .val (.int (g_ &&& (3 : Int32))), .val .null, .val (.ref r_5), .unset, .unset, .unset, .unset, .unset]) (hb hby at_61) rfl rfl ?_
      refine o_iload X5 hx (hb hby at_63) rfl ?_
      refine o_iconst X5 hx (3 : Int32) (hb hby at_65) rfl ?_
      refine o_iushr X5 hx (hb hby at_66) ?_
      refine o_iconst X5 hx (1 : Int32) (hb hby at_67) rfl ?_
      refine o_iand X5 hx (hb hby at_68) ?_
      by_cases hc7 : ((own_ushr g_ (3 : Int32)) &&& (1 : Int32)) = (0 : Int32)
      · refine o_ifYes X5 hx 76 (hb hby at_69) (teq hc7).1 (by decide) (by decide) ?_
        refine o_iloadN X5 hx (hb hby at_76) rfl ?_
        obtain ⟨_, _, ⟨T8, L8, kc8, n8⟩, -, X8, hSi8, hgr8, ⟨Lc8, hQ8, l8, y8, z8, C8⟩, st8⟩ := callSS X5 hx (y := yM5) hown5 (mvT hZ5 w0) (mvT hZ5 w1) (mvT hZ5 w2) (mvT hZ5 w3) (by decide) (backOfSH (W := 0) (rm_mk l Z a0 hw [] z_CS v_FMT s_EMPTY f_ T5.heap n0 SB ((O0.keep K1 all0).keep K5 all0) ) hZ5 w3 w2 (by decide) (by decide) hEL H6) (g := (mkF m 77 #[.val (.int i_), .val (.int j_), .val (.int k_), .val (.int f_), .val (.int g_), .val (.ref r_1), .val (.int (g_ &&& (3 : Int32))), .val .null, .val (.ref r_5), .unset, .unset, .unset, .unset, .unset] [(.int f_)])) rfl (by rw [hml]; rfl) (argsL := [(.int f_)]) (rest := []) (lenOf own_pd20 rfl) rfl (by show 2 * 0 + _ ≤ _; exact Nat.le_of_eq rfl) (hb hby at_77) (fun _ _ => ⟨rfl, rfl, (by decide : 12 + 6 ≤ _), (by decide : 24 + 12 ≤ _)⟩)
        dsimp only [Pt.U, Pt.locs, Pt.cells, Pt.slots] at X8 l8 y8 z8 st8 hQ8 hSi8 hgr8 C8
        subst l8 y8 z8
        obtain ⟨r_8, ba_8, kb_8, rfl, Nq8, K8, p8_0, p8_1, p8_2, p8_3, p8_4, p8_5, p8_6⟩ := hQ8
        have N8 := Fr.app N5 Nq8
        have X8 : Stand p l e room_1 (s.setVm T8.vm) m #[(.int i_), (.int j_), (.int k_), (.int f_), (.int g_)] below meth c T8 _ _ _ := X8
        have hS8 := foldS hS5 (Nat.le_refl _) hSi8 hgr8
        have hZ8 : Z.Warmed39 T8.vm := State.Warmed39.trans (t := (s.setVm T5.vm)) hZ5 hSi8.1
        have hown8 : T8.vm.findClass "com/example/reliquary/reliquary/DeadLetterSelectionOnQueuePinLaw" = some m.cls := by rw [hSi8.1.alike.findClass]; exact hown5
        have H9 := C8.1
        have n0_r_8 : n0 ≤ r_8 := Nat.le_trans (Nat.le_trans (Nat.le_of_eq O0.1.symm) O0.2.1) (Nat.le_trans (Nat.le_trans K1.1 K5.1) p8_0)
        refine otr (S' := T8.setTop (mkF m 80 #[.val (.int i_), .val (.int j_), .val (.int k_), .val (.int f_), .val (.int g_), .val (.ref r_1), .val (.int (g_ &&& (3 : Int32))), .val .null, .val (.ref r_5), .unset, .unset, .unset, .unset, .unset] [(.ref r_8)])) st8 ?_
        refine o_astore X8 hx (l' := #[.val (.int i_), .val (.int j_), .val (.int k_), .val (.int f_), .val (.int g_), .val (.ref r_1), .val (.int (g_ &&& (3 : Int32))), .val .null, .val (.ref r_5), .val (.ref r_8), .unset, .unset, .unset, .unset]) (hb hby at_80) rfl rfl ?_
        obtain ⟨T10, _, X10, rfl, E10, A10, D10, -, st10⟩ := newO X8 hx hZ8 hown8 w26 w27 w28 rfl (g := (mkF m 82 #[.val (.int i_), .val (.int j_), .val (.int k_), .val (.int f_), .val (.int g_), .val (.ref r_1), .val (.int (g_ &&& (3 : Int32))), .val .null, .val (.ref r_5), .val (.ref r_8), .unset, .unset, .unset, .unset] [])) rfl (hb hby at_82) (by decide) (by decide)
        obtain ⟨b10, g10⟩ : ∃ z, z = T8.heap.size := ⟨_, rfl⟩
        rw [← g10] at A10 D10 st10
        have n0_b10 : n0 ≤ b10 := Nat.le_trans (Nat.le_trans (Nat.le_of_eq O0.1.symm) O0.2.1) (Nat.le_trans (Nat.le_trans (Nat.le_trans K1.1 K5.1) K8.1) (Nat.le_of_eq g10.symm))
        have H11 := CHv.ext E10 H9
        have F10_queue : Fld Z T10.heap b10 "com/example/reliquary/reliquary/DeadLetterSelection" "queue" "Ljava/lang/String;" .null := D10 (Or.inr w39) (ty := (.object "java/lang/String")) (by decide)
        have F10_space : Fld Z T10.heap b10 "com/example/reliquary/reliquary/DeadLetterSelection" "space" "Ljava/lang/String;" .null := D10 (Or.inr w41) (ty := (.object "java/lang/String")) (by decide)
        have F10_contentId : Fld Z T10.heap b10 "com/example/reliquary/reliquary/DeadLetterSelection" "contentId" "Ljava/lang/String;" .null := D10 (Or.inr w43) (ty := (.object "java/lang/String")) (by decide)
        refine ogo (S' := T10.setTop (mkF m 85 #[.val (.int i_), .val (.int j_), .val (.int k_), .val (.int f_), .val (.int g_), .val (.ref r_1), .val (.int (g_ &&& (3 : Int32))), .val .null, .val (.ref r_5), .val (.ref r_8), .unset, .unset, .unset, .unset] [(.ref b10)])) st10 ?_
        refine o_dup X10 hx (hb hby at_85) rfl ?_
        refine o_aload X10 hx (hb hby at_86) rfl rfl ?_
        refine o_aload X10 hx (hb hby at_88) rfl rfl ?_
        refine o_aload X10 hx (hb hby at_90) rfl rfl ?_
        obtain ⟨_, _, ⟨T12, L12, kc12, n12⟩, -, X12, ⟨Lc12, hQ12, l12, y12, z12⟩, st12⟩ := X10.specialBack hx (y := yM17) rfl hown8 (mvT hZ8 w29) (mvT hZ8 w30) (mvT hZ8 w31) (by decide) (backOf (W := 1) (rm_dli l Z a0 hw []  b10 .null (.ref r_5) (.ref r_8) T10.heap n0 ((((O0.keep K1 all0).keep K5 all0).keep K8 all0).ext E10) A10 F10_queue F10_space F10_contentId n0_b10 (by first | rfl | assumption | decide | omega) (by first | rfl | assumption | decide | omega) (by first | rfl | assumption | decide | omega) (by first | rfl | assumption | decide | omega) (by first | rfl | assumption | decide | omega) (by first | rfl | assumption | decide | omega)) hZ8 w31 w28 (by decide) (by decide)) (g := (mkF m 92 #[.val (.int i_), .val (.int j_), .val (.int k_), .val (.int f_), .val (.int g_), .val (.ref r_1), .val (.int (g_ &&& (3 : Int32))), .val .null, .val (.ref r_5), .val (.ref r_8), .unset, .unset, .unset, .unset] [(.ref r_8), (.ref r_5), .null, (.ref b10), (.ref b10)])) rfl (by rw [hml]; rfl) (Steps.refl _) (a := b10) (argsL := [.null, (.ref r_5), (.ref r_8)]) (rest := [(.ref b10)]) (lenOf own_pd16 rfl) rfl (by show 2 * 0 + _ ≤ _; exact Nat.le_of_eq rfl) (hb hby at_92) (fun _ _ => ⟨rfl, rfl, (by decide : 19 + 0 ≤ _), (by decide : 39 + 0 ≤ _)⟩)
        dsimp only [Pt.U, Pt.locs, Pt.cells, Pt.slots] at X12 l12 y12 z12 st12 hQ12
        subst l12 y12 z12
        obtain ⟨rfl, Nq12, K12, p12_0, p12_1, p12_2, p12_3⟩ := hQ12
        have N12 := Fr.app N8 Nq12
        have H13 := CHv.keep K12 (allS (Safe.exa hZ8.alike A10 (by decide) (by decide)) all0) H11
        refine otr (S' := T12.setTop (mkF m 95 #[.val (.int i_), .val (.int j_), .val (.int k_), .val (.int f_), .val (.int g_), .val (.ref r_1), .val (.int (g_ &&& (3 : Int32))), .val .null, .val (.ref r_5), .val (.ref r_8), .unset, .unset, .unset, .unset] [(.ref b10)])) st12 ?_
        refine o_astore X12 hx (l' := #[.val (.int i_), .val (.int j_), .val (.int k_), .val (.int f_), .val (.int g_), .val (.ref r_1), .val (.int (g_ &&& (3 : Int32))), .val .null, .val (.ref r_5), .val (.ref r_8), .val (.ref b10), .unset, .unset, .unset]) (hb hby at_95) rfl rfl ?_
        refine o_aload X12 hx (hb hby at_97) rfl rfl ?_
        refine o_ifnullYes X12 hx 112 (hb hby at_99) (by decide) (by decide) ?_
        refine o_iconst X12 hx (1 : Int32) (hb hby at_112) rfl ?_
        refine o_goto X12 hx 117 (hb hby at_113) (by decide) (by decide) ?_
        refine o_istore X12 hx (l' := #[.val (.int i_), .val (.int j_), .val (.int k_), .val (.int f_), .val (.int g_), .val (.ref r_1), .val (.int (g_ &&& (3 : Int32))), .val .null, .val (.ref r_5), .val (.ref r_8), .val (.ref b10), .val (.int (1 : Int32)), .unset, .unset]) (hb hby at_117) rfl ?_
        refine o_aload X12 hx (hb hby at_119) rfl rfl ?_
        refine o_aload X12 hx (hb hby at_121) rfl rfl ?_
        have c15 := (((((O0.keep K1 all0).keep K5 all0).keep K8 all0).ext E10).keep K12 (allS n0_b10 all0))
        obtain ⟨cq14, kq14, q14a, q14b, q14c⟩ := isOf hZ8 rfl p12_0
        obtain ⟨_, _, ⟨T14, L14, kc14, n14⟩, -, X14, ⟨Lc14, hQ14, l14, y14, z14⟩, st14⟩ := X12.virtualBack hx (y := yM27) (z := yM27) hown8 (mvT hZ8 w44) (mvT hZ8 w45) (notFace_of_selects (args := #[]) (mvT hZ8 w47)) (mvT hZ8 w47) (mvT hZ8 w46) (by decide) (backOf (W := 0) (rm_onqN l Z a0 hw []  b10 r_1 (.ref r_5) (.ref r_8) T12.heap n0 c15 p12_0 p12_1 p12_2 p12_3 (by first | rfl | assumption | decide | omega) (by first | rfl | assumption | decide | omega) (by first | rfl | assumption | decide | omega) (by first | rfl | assumption | decide | omega)) hZ8 w48 w28 (by decide) (by decide)) q14a q14c (g := (mkF m 123 #[.val (.int i_), .val (.int j_), .val (.int k_), .val (.int f_), .val (.int g_), .val (.ref r_1), .val (.int (g_ &&& (3 : Int32))), .val .null, .val (.ref r_5), .val (.ref r_8), .val (.ref b10), .val (.int (1 : Int32)), .unset, .unset] [(.ref r_1), (.ref b10)])) rfl (by rw [hml]; rfl) (Steps.refl _) (argsL := [(.ref r_1)]) (rest := []) (lenOf own_pd21 rfl) rfl (by show 2 * 0 + _ ≤ _; exact Nat.le_of_eq rfl) (hb hby at_123) (fun _ _ => ⟨rfl, rfl, (by decide : 19 + 2 ≤ _), (by decide : 39 + 4 ≤ _)⟩)
        dsimp only [Pt.U, Pt.locs, Pt.cells, Pt.slots] at X14 l14 y14 z14 st14 hQ14
        subst l14 y14 z14
        obtain ⟨o_14, r_14, rfl, Nq14, K14, p14_0, p14_1, p14_2, p14_3, p14_4, p14_5, p14_6, p14_7⟩ := hQ14
        have N14 := Fr.app N12 Nq14
        have H16 := CHv.keep K14 all0 H13
        have n0_o_14 : n0 ≤ o_14 := Nat.le_trans (Nat.le_trans (Nat.le_of_eq O0.1.symm) O0.2.1) (Nat.le_trans (Nat.le_trans (Nat.le_trans (Nat.le_trans (Nat.le_trans K1.1 K5.1) K8.1) E10.1) K12.1) p14_0)
        have n0_r_14 : n0 ≤ r_14 := Nat.le_trans (Nat.le_trans (Nat.le_of_eq O0.1.symm) O0.2.1) (Nat.le_trans (Nat.le_trans (Nat.le_trans (Nat.le_trans (Nat.le_trans K1.1 K5.1) K8.1) E10.1) K12.1) p14_1)
        refine otr (S' := T14.setTop (mkF m 126 #[.val (.int i_), .val (.int j_), .val (.int k_), .val (.int f_), .val (.int g_), .val (.ref r_1), .val (.int (g_ &&& (3 : Int32))), .val .null, .val (.ref r_5), .val (.ref r_8), .val (.ref b10), .val (.int (1 : Int32)), .unset, .unset] [(.ref o_14)])) st14 ?_
        refine o_astore X14 hx (l' := #[.val (.int i_), .val (.int j_), .val (.int k_), .val (.int f_), .val (.int g_), .val (.ref r_1), .val (.int (g_ &&& (3 : Int32))), .val .null, .val (.ref r_5), .val (.ref r_8), .val (.ref b10), .val (.int (1 : Int32)), .val (.ref o_14), .unset]) (hb hby at_126) rfl rfl ?_
        refine o_aload X14 hx (hb hby at_128) rfl rfl ?_
        obtain ⟨cq17, kq17, q17a, q17b, q17c⟩ := isOf hZ8 rfl p14_2
        obtain ⟨_, _, ⟨T17, L17, kc17, n17⟩, -, X17, ⟨Lc17, hQ17, l17, y17, z17⟩, st17⟩ := X14.virtualBack hx (y := yM22) (z := yM22) hown8 (mvT hZ8 w68) (mvT hZ8 w69) (notFace_of_selects (args := #[]) (mvT hZ8 w71)) (mvT hZ8 w71) (mvT hZ8 w70) (by decide) (backOf (W := 0) (rm_oppR l Z a0 hw []  o_14 r_14 T14.heap n0 (c15.keep K14 all0) p14_3) hZ8 w72 w53 (by decide) (by decide)) q17a q17c (g := (mkF m 130 #[.val (.int i_), .val (.int j_), .val (.int k_), .val (.int f_), .val (.int g_), .val (.ref r_1), .val (.int (g_ &&& (3 : Int32))), .val .null, .val (.ref r_5), .val (.ref r_8), .val (.ref b10), .val (.int (1 : Int32)), .val (.ref o_14), .unset] [(.ref o_14)])) rfl (by rw [hml]; rfl) (Steps.refl _) (argsL := []) (rest := []) (lenOf own_pd8 rfl) rfl (by show 2 * 0 + _ ≤ _; exact Nat.le_of_eq rfl) (hb hby at_130) (fun _ _ => ⟨rfl, rfl, (by decide : 21 + 0 ≤ _), (by decide : 43 + 0 ≤ _)⟩)
        dsimp only [Pt.U, Pt.locs, Pt.cells, Pt.slots] at X17 l17 y17 z17 st17 hQ17
        subst l17 y17 z17
        obtain ⟨rfl, Nq17, e17⟩ := hQ17
        have N17 := Fr.app N14 Nq17
        refine otr (S' := T17.setTop (mkF m 133 #[.val (.int i_), .val (.int j_), .val (.int k_), .val (.int f_), .val (.int g_), .val (.ref r_1), .val (.int (g_ &&& (3 : Int32))), .val .null, .val (.ref r_5), .val (.ref r_8), .val (.ref b10), .val (.int (1 : Int32)), .val (.ref o_14), .unset] [(.int (1 : Int32))])) st17 ?_
        refine o_iload X17 hx (hb hby at_133) rfl ?_
        refine o_icmpYes X17 hx 140 (hb hby at_135) (teq (by decide : (1 : Int32) = (1 : Int32))).1 (by decide) (by decide) ?_
        refine o_iload X17 hx (hb hby at_140) rfl ?_
        refine o_ifYes X17 hx 147 (hb hby at_142) (feq (by decide : ¬ ((1 : Int32) = (0 : Int32)))).2 (by decide) (by decide) ?_
        refine o_aload X17 hx (hb hby at_147) rfl rfl ?_
        obtain ⟨cq18, kq18, q18a, q18b, q18c⟩ := isOf hZ8 e17 p14_2
        obtain ⟨_, _, ⟨T18, L18, kc18, n18⟩, -, X18, ⟨Lc18, hQ18, l18, y18, z18⟩, st18⟩ := X17.virtualBack hx (y := yM23) (z := yM23) hown8 (mvT hZ8 w73) (mvT hZ8 w74) (notFace_of_selects (args := #[]) (mvT hZ8 w76)) (mvT hZ8 w76) (mvT hZ8 w75) (by decide) (backOf (W := 0) (rm_opg l Z a0 hw []  o_14 r_14 T14.heap n0 (c15.keep K14 all0) p14_3) hZ8 w77 w53 (by decide) (by decide)) q18a q18c (g := (mkF m 149 #[.val (.int i_), .val (.int j_), .val (.int k_), .val (.int f_), .val (.int g_), .val (.ref r_1), .val (.int (g_ &&& (3 : Int32))), .val .null, .val (.ref r_5), .val (.ref r_8), .val (.ref b10), .val (.int (1 : Int32)), .val (.ref o_14), .unset] [(.ref o_14)])) rfl (by rw [hml]; rfl) (Steps.refl _) (argsL := []) (rest := []) (lenOf own_pd22 rfl) rfl (by show 2 * 0 + _ ≤ _; exact Nat.le_of_eq rfl) (hb hby at_149) (fun _ _ => ⟨rfl, e17, (by decide : 21 + 0 ≤ _), (by decide : 43 + 0 ≤ _)⟩)
        dsimp only [Pt.U, Pt.locs, Pt.cells, Pt.slots] at X18 l18 y18 z18 st18 hQ18
        subst l18 y18 z18
        obtain ⟨rfl, Nq18, e18⟩ := hQ18
        have N18 := Fr.app N17 Nq18
        refine otr (S' := T18.setTop (mkF m 152 #[.val (.int i_), .val (.int j_), .val (.int k_), .val (.int f_), .val (.int g_), .val (.ref r_1), .val (.int (g_ &&& (3 : Int32))), .val .null, .val (.ref r_5), .val (.ref r_8), .val (.ref b10), .val (.int (1 : Int32)), .val (.ref o_14), .unset] [(.ref r_14)])) st18 ?_
        obtain ⟨T19, X19, e19, st19⟩ := castY X18 hx hZ8 hown8 w26 e18 (Ins.self p14_4) (g := (mkF m 152 #[.val (.int i_), .val (.int j_), .val (.int k_), .val (.int f_), .val (.int g_), .val (.ref r_1), .val (.int (g_ &&& (3 : Int32))), .val .null, .val (.ref r_5), .val (.ref r_8), .val (.ref b10), .val (.int (1 : Int32)), .val (.ref o_14), .unset] [(.ref r_14)])) rfl rfl (hb hby at_152)
        refine ogo (S' := T19.setTop (mkF m 155 #[.val (.int i_), .val (.int j_), .val (.int k_), .val (.int f_), .val (.int g_), .val (.ref r_1), .val (.int (g_ &&& (3 : Int32))), .val .null, .val (.ref r_5), .val (.ref r_8), .val (.ref b10), .val (.int (1 : Int32)), .val (.ref o_14), .unset] [(.ref r_14)])) st19 ?_
        refine o_astore X19 hx (l' := #[.val (.int i_), .val (.int j_), .val (.int k_), .val (.int f_), .val (.int g_), .val (.ref r_1), .val (.int (g_ &&& (3 : Int32))), .val .null, .val (.ref r_5), .val (.ref r_8), .val (.ref b10), .val (.int (1 : Int32)), .val (.ref o_14), .val (.ref r_14)]) (hb hby at_155) rfl rfl ?_
        refine o_aload X19 hx (hb hby at_157) rfl rfl ?_
        obtain ⟨cq20, kq20, q20a, q20b, q20c⟩ := isOf hZ8 e19 p14_4
        obtain ⟨_, _, ⟨T20, L20, kc20, n20⟩, -, X20, ⟨Lc20, hQ20, l20, y20, z20⟩, st20⟩ := X19.virtualBack hx (y := yM24) (z := yM24) hown8 (mvT hZ8 w79) (mvT hZ8 w80) (notFace_of_selects (args := #[]) (mvT hZ8 w82)) (mvT hZ8 w82) (mvT hZ8 w81) (by decide) (backOf (W := 0) (rm_g_queue l Z a0 hw []  r_14 (.ref r_1) T14.heap n0 (c15.keep K14 all0) p14_5 (by first | rfl | assumption | decide | omega)) hZ8 w83 w28 (by decide) (by decide)) q20a q20c (g := (mkF m 159 #[.val (.int i_), .val (.int j_), .val (.int k_), .val (.int f_), .val (.int g_), .val (.ref r_1), .val (.int (g_ &&& (3 : Int32))), .val .null, .val (.ref r_5), .val (.ref r_8), .val (.ref b10), .val (.int (1 : Int32)), .val (.ref o_14), .val (.ref r_14)] [(.ref r_14)])) rfl (by rw [hml]; rfl) (Steps.refl _) (argsL := []) (rest := []) (lenOf own_pd23 rfl) rfl (by show 2 * 0 + _ ≤ _; exact Nat.le_of_eq rfl) (hb hby at_159) (fun _ _ => ⟨rfl, e19, (by decide : 21 + 0 ≤ _), (by decide : 43 + 0 ≤ _)⟩)
        dsimp only [Pt.U, Pt.locs, Pt.cells, Pt.slots] at X20 l20 y20 z20 st20 hQ20
        subst l20 y20 z20
        obtain ⟨rfl, Nq20, e20⟩ := hQ20
        have N20 := Fr.app N18 Nq20
        refine otr (S' := T20.setTop (mkF m 162 #[.val (.int i_), .val (.int j_), .val (.int k_), .val (.int f_), .val (.int g_), .val (.ref r_1), .val (.int (g_ &&& (3 : Int32))), .val .null, .val (.ref r_5), .val (.ref r_8), .val (.ref b10), .val (.int (1 : Int32)), .val (.ref o_14), .val (.ref r_14)] [(.ref r_1)])) st20 ?_
        refine o_aload X20 hx (hb hby at_162) rfl rfl ?_
        have c22 := (((Exa.ext E10 ((p1_2.keep K5).keep K8)).keep K12).keep K14)
        have c23 := (((Fld.ext E10 ((p1_3.keep K5 nin0).keep K8 nin0)).keep K12 (ninS (Nat.ne_of_lt (Nat.lt_of_lt_of_le (Nat.lt_of_lt_of_le p1_2.lt (Nat.le_trans K5.1 K8.1)) (Nat.le_of_eq g10.symm))) nin0)).keep K14 nin0)
        have c24 := (((Fld.ext E10 ((p1_4.keep K5 nin0).keep K8 nin0)).keep K12 (ninS (Nat.ne_of_lt (Nat.lt_of_lt_of_le (Nat.lt_of_lt_of_le p1_2.lt (Nat.le_trans K5.1 K8.1)) (Nat.le_of_eq g10.symm))) nin0)).keep K14 nin0)
        have c25 := (((((p1_5.keep K5 nin0).keep K8 nin0).ext E10).keep K12 (ninS (Nat.ne_of_lt (Nat.lt_of_lt_of_le (Nat.lt_of_lt_of_le p1_1 (Nat.le_trans K5.1 K8.1)) (Nat.le_of_eq g10.symm))) nin0)).keep K14 nin0)
        obtain ⟨_, _, ⟨T21, L21, kc21, n21⟩, -, X21, ⟨Lc21, hQ21, l21, y21, z21⟩, st21⟩ := Jvm.LawKit.callS X20 hx (y := yM13) hown8 (mvT hZ8 w84) (mvT hZ8 w85) (mvT hZ8 w2) (mvT hZ8 w86) (by decide) (backOf (W := 0) (rm_eqRR l Z a0 hw [] z_CS v_FMT s_EMPTY r_1 ba_1 kb_1 (own_ml i_) (own_mv i_) (own_ms i_) r_1 ba_1 kb_1 (own_ml i_) (own_mv i_) (own_ms i_) T14.heap n0 SB (c15.keep K14 all0) c22 c23 c24 c25 c22 c23 c24 c25 p1_6 p1_6) hZ8 w86 w2 (by decide) (by decide)) (g := (mkF m 164 #[.val (.int i_), .val (.int j_), .val (.int k_), .val (.int f_), .val (.int g_), .val (.ref r_1), .val (.int (g_ &&& (3 : Int32))), .val .null, .val (.ref r_5), .val (.ref r_8), .val (.ref b10), .val (.int (1 : Int32)), .val (.ref o_14), .val (.ref r_14)] [(.ref r_1), (.ref r_1)])) rfl (by rw [hml]; rfl) (argsL := [(.ref r_1), (.ref r_1)]) (rest := []) (lenOf own_pd24 rfl) rfl (by show 2 * 0 + _ ≤ _; exact Nat.le_of_eq rfl) (hb hby at_164) (fun _ _ => ⟨rfl, e20, (by decide : 21 + 0 ≤ _), (by decide : 43 + 0 ≤ _)⟩)
        dsimp only [Pt.U, Pt.locs, Pt.cells, Pt.slots] at X21 l21 y21 z21 st21 hQ21
        subst l21 y21 z21
        obtain ⟨rfl, Nq21, e21⟩ := hQ21
        have N21 := Fr.app N20 Nq21
        refine ogo (S' := T21.setTop (mkF m 167 #[.val (.int i_), .val (.int j_), .val (.int k_), .val (.int f_), .val (.int g_), .val (.ref r_1), .val (.int (g_ &&& (3 : Int32))), .val .null, .val (.ref r_5), .val (.ref r_8), .val (.ref b10), .val (.int (1 : Int32)), .val (.ref o_14), .val (.ref r_14)] [(.int (own_b (own_ms i_) (own_ms i_)))])) st21 ?_
        rw [own_bs]
        refine o_ifNo X21 hx (hb hby at_167) (feq (by decide : ¬ ((1 : Int32) = (0 : Int32)))).1 ?_
        refine o_aload X21 hx (hb hby at_170) rfl rfl ?_
        obtain ⟨cq26, kq26, q26a, q26b, q26c⟩ := isOf hZ8 e21 p14_4
        obtain ⟨_, _, ⟨T26, L26, kc26, n26⟩, -, X26, ⟨Lc26, hQ26, l26, y26, z26⟩, st26⟩ := X21.virtualBack hx (y := yM25) (z := yM25) hown8 (mvT hZ8 w98) (mvT hZ8 w99) (notFace_of_selects (args := #[]) (mvT hZ8 w101)) (mvT hZ8 w101) (mvT hZ8 w100) (by decide) (backOf (W := 0) (rm_g_space l Z a0 hw []  r_14 (.ref r_5) T14.heap n0 (c15.keep K14 all0) p14_6 (by first | rfl | assumption | decide | omega)) hZ8 w102 w28 (by decide) (by decide)) q26a q26c (g := (mkF m 172 #[.val (.int i_), .val (.int j_), .val (.int k_), .val (.int f_), .val (.int g_), .val (.ref r_1), .val (.int (g_ &&& (3 : Int32))), .val .null, .val (.ref r_5), .val (.ref r_8), .val (.ref b10), .val (.int (1 : Int32)), .val (.ref o_14), .val (.ref r_14)] [(.ref r_14)])) rfl (by rw [hml]; rfl) (Steps.refl _) (argsL := []) (rest := []) (lenOf own_pd23 rfl) rfl (by show 2 * 0 + _ ≤ _; exact Nat.le_of_eq rfl) (hb hby at_172) (fun _ _ => ⟨rfl, e21, (by decide : 21 + 0 ≤ _), (by decide : 43 + 0 ≤ _)⟩)
        dsimp only [Pt.U, Pt.locs, Pt.cells, Pt.slots] at X26 l26 y26 z26 st26 hQ26
        subst l26 y26 z26
        obtain ⟨rfl, Nq26, e26⟩ := hQ26
        have N26 := Fr.app N21 Nq26
        refine otr (S' := T26.setTop (mkF m 175 #[.val (.int i_), .val (.int j_), .val (.int k_), .val (.int f_), .val (.int g_), .val (.ref r_1), .val (.int (g_ &&& (3 : Int32))), .val .null, .val (.ref r_5), .val (.ref r_8), .val (.ref b10), .val (.int (1 : Int32)), .val (.ref o_14), .val (.ref r_14)] [(.ref r_5)])) st26 ?_
        refine o_aload X26 hx (hb hby at_175) rfl rfl ?_
        have c28 := (((Fld.ext E10 (p5_3.keep K8 nin0)).keep K12 (ninS (Nat.ne_of_lt (Nat.lt_of_lt_of_le (Nat.lt_of_lt_of_le p5_2.lt K8.1) (Nat.le_of_eq g10.symm))) nin0)).keep K14 nin0)
        have c29 := (((Fld.ext E10 (p5_4.keep K8 nin0)).keep K12 (ninS (Nat.ne_of_lt (Nat.lt_of_lt_of_le (Nat.lt_of_lt_of_le p5_2.lt K8.1) (Nat.le_of_eq g10.symm))) nin0)).keep K14 nin0)
        have c30 := ((((p5_5.keep K8 nin0).ext E10).keep K12 (ninS (Nat.ne_of_lt (Nat.lt_of_lt_of_le (Nat.lt_of_lt_of_le p5_1 K8.1) (Nat.le_of_eq g10.symm))) nin0)).keep K14 nin0)
        obtain ⟨_, _, ⟨T27, L27, kc27, n27⟩, -, X27, ⟨Lc27, hQ27, l27, y27, z27⟩, st27⟩ := Jvm.LawKit.callS X26 hx (y := yM13) hown8 (mvT hZ8 w84) (mvT hZ8 w85) (mvT hZ8 w2) (mvT hZ8 w86) (by decide) (backOf (W := 0) (rm_eqRR l Z a0 hw [] z_CS v_FMT s_EMPTY r_5 ba_5 kb_5 (own_ml k_) (own_mv k_) (own_ms k_) r_5 ba_5 kb_5 (own_ml k_) (own_mv k_) (own_ms k_) T14.heap n0 SB (c15.keep K14 all0) (((Exa.ext E10 (p5_2.keep K8)).keep K12).keep K14) c28 c29 c30 (((Exa.ext E10 (p5_2.keep K8)).keep K12).keep K14) c28 c29 c30 p5_6 p5_6) hZ8 w86 w2 (by decide) (by decide)) (g := (mkF m 177 #[.val (.int i_), .val (.int j_), .val (.int k_), .val (.int f_), .val (.int g_), .val (.ref r_1), .val (.int (g_ &&& (3 : Int32))), .val .null, .val (.ref r_5), .val (.ref r_8), .val (.ref b10), .val (.int (1 : Int32)), .val (.ref o_14), .val (.ref r_14)] [(.ref r_5), (.ref r_5)])) rfl (by rw [hml]; rfl) (argsL := [(.ref r_5), (.ref r_5)]) (rest := []) (lenOf own_pd24 rfl) rfl (by show 2 * 0 + _ ≤ _; exact Nat.le_of_eq rfl) (hb hby at_177) (fun _ _ => ⟨rfl, e26, (by decide : 21 + 0 ≤ _), (by decide : 43 + 0 ≤ _)⟩)
        dsimp only [Pt.U, Pt.locs, Pt.cells, Pt.slots] at X27 l27 y27 z27 st27 hQ27
        subst l27 y27 z27
        obtain ⟨rfl, Nq27, e27⟩ := hQ27
        have N27 := Fr.app N26 Nq27
        refine ogo (S' := T27.setTop (mkF m 180 #[.val (.int i_), .val (.int j_), .val (.int k_), .val (.int f_), .val (.int g_), .val (.ref r_1), .val (.int (g_ &&& (3 : Int32))), .val .null, .val (.ref r_5), .val (.ref r_8), .val (.ref b10), .val (.int (1 : Int32)), .val (.ref o_14), .val (.ref r_14)] [(.int (own_b (own_ms k_) (own_ms k_)))])) st27 ?_
        rw [own_bs]
        refine o_ifNo X27 hx (hb hby at_180) (feq (by decide : ¬ ((1 : Int32) = (0 : Int32)))).1 ?_
        refine o_aload X27 hx (hb hby at_183) rfl rfl ?_
        obtain ⟨cq31, kq31, q31a, q31b, q31c⟩ := isOf hZ8 e27 p14_4
        obtain ⟨_, _, ⟨T31, L31, kc31, n31⟩, -, X31, ⟨Lc31, hQ31, l31, y31, z31⟩, st31⟩ := X27.virtualBack hx (y := yM26) (z := yM26) hown8 (mvT hZ8 w103) (mvT hZ8 w104) (notFace_of_selects (args := #[]) (mvT hZ8 w106)) (mvT hZ8 w106) (mvT hZ8 w105) (by decide) (backOf (W := 0) (rm_g_contentId l Z a0 hw []  r_14 (.ref r_8) T14.heap n0 (c15.keep K14 all0) p14_7 (by first | rfl | assumption | decide | omega)) hZ8 w107 w28 (by decide) (by decide)) q31a q31c (g := (mkF m 185 #[.val (.int i_), .val (.int j_), .val (.int k_), .val (.int f_), .val (.int g_), .val (.ref r_1), .val (.int (g_ &&& (3 : Int32))), .val .null, .val (.ref r_5), .val (.ref r_8), .val (.ref b10), .val (.int (1 : Int32)), .val (.ref o_14), .val (.ref r_14)] [(.ref r_14)])) rfl (by rw [hml]; rfl) (Steps.refl _) (argsL := []) (rest := []) (lenOf own_pd23 rfl) rfl (by show 2 * 0 + _ ≤ _; exact Nat.le_of_eq rfl) (hb hby at_185) (fun _ _ => ⟨rfl, e27, (by decide : 21 + 0 ≤ _), (by decide : 43 + 0 ≤ _)⟩)
        dsimp only [Pt.U, Pt.locs, Pt.cells, Pt.slots] at X31 l31 y31 z31 st31 hQ31
        subst l31 y31 z31
        obtain ⟨rfl, Nq31, e31⟩ := hQ31
        have N31 := Fr.app N27 Nq31
        refine otr (S' := T31.setTop (mkF m 188 #[.val (.int i_), .val (.int j_), .val (.int k_), .val (.int f_), .val (.int g_), .val (.ref r_1), .val (.int (g_ &&& (3 : Int32))), .val .null, .val (.ref r_5), .val (.ref r_8), .val (.ref b10), .val (.int (1 : Int32)), .val (.ref o_14), .val (.ref r_14)] [(.ref r_8)])) st31 ?_
        refine o_aload X31 hx (hb hby at_188) rfl rfl ?_
        have c33 := (((Fld.ext E10 p8_3).keep K12 (ninS (Nat.ne_of_lt (Nat.lt_of_lt_of_le (Nat.lt_of_lt_of_le p8_2.lt (Nat.le_refl _)) (Nat.le_of_eq g10.symm))) nin0)).keep K14 nin0)
        have c34 := (((Fld.ext E10 p8_4).keep K12 (ninS (Nat.ne_of_lt (Nat.lt_of_lt_of_le (Nat.lt_of_lt_of_le p8_2.lt (Nat.le_refl _)) (Nat.le_of_eq g10.symm))) nin0)).keep K14 nin0)
        have c35 := (((p8_5.ext E10).keep K12 (ninS (Nat.ne_of_lt (Nat.lt_of_lt_of_le (Nat.lt_of_lt_of_le p8_1 (Nat.le_refl _)) (Nat.le_of_eq g10.symm))) nin0)).keep K14 nin0)
        obtain ⟨_, _, ⟨T32, L32, kc32, n32⟩, -, X32, ⟨Lc32, hQ32, l32, y32, z32⟩, st32⟩ := Jvm.LawKit.callS X31 hx (y := yM13) hown8 (mvT hZ8 w84) (mvT hZ8 w85) (mvT hZ8 w2) (mvT hZ8 w86) (by decide) (backOf (W := 0) (rm_eqRR l Z a0 hw [] z_CS v_FMT s_EMPTY r_8 ba_8 kb_8 (own_ml f_) (own_mv f_) (own_ms f_) r_8 ba_8 kb_8 (own_ml f_) (own_mv f_) (own_ms f_) T14.heap n0 SB (c15.keep K14 all0) (((Exa.ext E10 p8_2).keep K12).keep K14) c33 c34 c35 (((Exa.ext E10 p8_2).keep K12).keep K14) c33 c34 c35 p8_6 p8_6) hZ8 w86 w2 (by decide) (by decide)) (g := (mkF m 190 #[.val (.int i_), .val (.int j_), .val (.int k_), .val (.int f_), .val (.int g_), .val (.ref r_1), .val (.int (g_ &&& (3 : Int32))), .val .null, .val (.ref r_5), .val (.ref r_8), .val (.ref b10), .val (.int (1 : Int32)), .val (.ref o_14), .val (.ref r_14)] [(.ref r_8), (.ref r_8)])) rfl (by rw [hml]; rfl) (argsL := [(.ref r_8), (.ref r_8)]) (rest := []) (lenOf own_pd24 rfl) rfl (by show 2 * 0 + _ ≤ _; exact Nat.le_of_eq rfl) (hb hby at_190) (fun _ _ => ⟨rfl, e31, (by decide : 21 + 0 ≤ _), (by decide : 43 + 0 ≤ _)⟩)
        dsimp only [Pt.U, Pt.locs, Pt.cells, Pt.slots] at X32 l32 y32 z32 st32 hQ32
        subst l32 y32 z32
        obtain ⟨rfl, Nq32, e32⟩ := hQ32
        have N32 := Fr.app N31 Nq32
        refine ogo (S' := T32.setTop (mkF m 193 #[.val (.int i_), .val (.int j_), .val (.int k_), .val (.int f_), .val (.int g_), .val (.ref r_1), .val (.int (g_ &&& (3 : Int32))), .val .null, .val (.ref r_5), .val (.ref r_8), .val (.ref b10), .val (.int (1 : Int32)), .val (.ref o_14), .val (.ref r_14)] [(.int (own_b (own_ms f_) (own_ms f_)))])) st32 ?_
        rw [own_bs]
        refine o_ifNo X32 hx (hb hby at_193) (feq (by decide : ¬ ((1 : Int32) = (0 : Int32)))).1 ?_
        refine o_iconst X32 hx (1 : Int32) (hb hby at_196) rfl ?_
        refine o_goto X32 hx 201 (hb hby at_197) (by decide) (by decide) ?_
        refine oendS X32 hlk hS8 (Nat.le_trans (Nat.le_refl _) (Nat.le_trans (Nat.le_trans E10.1 K12.1) K14.1)) e32 hZ8 hEL hs0 (CHr.trans (CHr.trans (CHr.trans (CHr.trans (CHr.trans (CHr.trans (CHr.refl H0) C1) C5) C8) (CHr.ext E10 H9)) (CHr.keep K12 (allS (Safe.exa hZ8.alike A10 (by decide) (by decide)) all0) H11)) (CHr.keep K14 all0 H13)) (v := some (.int (1 : Int32))) (fun h => by rw [hret] at h; cases h) (fun fs hr => retN X32 hx (t := .boolean) hret (by simp) (hb hby at_201) hr) (by decide) (by decide) ?_
        show own_Q_law Z _ _ _ _ _ _ _ _ h0 n0 _ T32.heap _
        rw [e32]
        exact ⟨rfl, N32, (((((((Keep.refl h0 []).trans K1 all0).trans K5 all0).trans K8 all0).ext E10).trans K12 (allS (Or.inr (Nat.le_trans (Nat.le_trans (Nat.le_trans K1.1 K5.1) K8.1) (Nat.le_of_eq g10.symm))) all0)).trans K14 all0)⟩
      · refine o_ifNo X5 hx (hb hby at_69) (feq hc7).1 ?_
        refine o_aconst_null X5 hx (hb hby at_72) ?_
        refine o_goto X5 hx 80 (hb hby at_73) (by decide) (by decide) ?_
        refine o_astore X5 hx (l' := #[.val (.int i_), .val (.int j_), .val (.int k_), .val (.int f_), .val (.int g_), .val (.ref r_1), .val (.int (g_ &&& (3 : Int32))), .val .null, .val (.ref r_5), .val .null, .unset, .unset, .unset, .unset]) (hb hby at_80) rfl rfl ?_
        obtain ⟨T36, _, X36, rfl, E36, A36, D36, -, st36⟩ := newO X5 hx hZ5 hown5 w26 w27 w28 rfl (g := (mkF m 82 #[.val (.int i_), .val (.int j_), .val (.int k_), .val (.int f_), .val (.int g_), .val (.ref r_1), .val (.int (g_ &&& (3 : Int32))), .val .null, .val (.ref r_5), .val .null, .unset, .unset, .unset, .unset] [])) rfl (hb hby at_82) (by decide) (by decide)
        obtain ⟨b36, g36⟩ : ∃ z, z = T5.heap.size := ⟨_, rfl⟩
        rw [← g36] at A36 D36 st36
        have n0_b36 : n0 ≤ b36 := Nat.le_trans (Nat.le_trans (Nat.le_of_eq O0.1.symm) O0.2.1) (Nat.le_trans (Nat.le_trans K1.1 K5.1) (Nat.le_of_eq g36.symm))
        have H37 := CHv.ext E36 H6
        have F36_queue : Fld Z T36.heap b36 "com/example/reliquary/reliquary/DeadLetterSelection" "queue" "Ljava/lang/String;" .null := D36 (Or.inr w39) (ty := (.object "java/lang/String")) (by decide)
        have F36_space : Fld Z T36.heap b36 "com/example/reliquary/reliquary/DeadLetterSelection" "space" "Ljava/lang/String;" .null := D36 (Or.inr w41) (ty := (.object "java/lang/String")) (by decide)
        have F36_contentId : Fld Z T36.heap b36 "com/example/reliquary/reliquary/DeadLetterSelection" "contentId" "Ljava/lang/String;" .null := D36 (Or.inr w43) (ty := (.object "java/lang/String")) (by decide)
        refine ogo (S' := T36.setTop (mkF m 85 #[.val (.int i_), .val (.int j_), .val (.int k_), .val (.int f_), .val (.int g_), .val (.ref r_1), .val (.int (g_ &&& (3 : Int32))), .val .null, .val (.ref r_5), .val .null, .unset, .unset, .unset, .unset] [(.ref b36)])) st36 ?_
        refine o_dup X36 hx (hb hby at_85) rfl ?_
        refine o_aload X36 hx (hb hby at_86) rfl rfl ?_
        refine o_aload X36 hx (hb hby at_88) rfl rfl ?_
        refine o_aload X36 hx (hb hby at_90) rfl rfl ?_
        obtain ⟨_, _, ⟨T38, L38, kc38, n38⟩, -, X38, ⟨Lc38, hQ38, l38, y38, z38⟩, st38⟩ := X36.specialBack hx (y := yM17) rfl hown5 (mvT hZ5 w29) (mvT hZ5 w30) (mvT hZ5 w31) (by decide) (backOf (W := 1) (rm_dli l Z a0 hw []  b36 .null (.ref r_5) .null T36.heap n0 (((O0.keep K1 all0).keep K5 all0).ext E36) A36 F36_queue F36_space F36_contentId n0_b36 (by first | rfl | assumption | decide | omega) (by first | rfl | assumption | decide | omega) (by first | rfl | assumption | decide | omega) (by first | rfl | assumption | decide | omega) (by first | rfl | assumption | decide | omega) (by first | rfl | assumption | decide | omega)) hZ5 w31 w28 (by decide) (by decide)) (g := (mkF m 92 #[.val (.int i_), .val (.int j_), .val (.int k_), .val (.int f_), .val (.int g_), .val (.ref r_1), .val (.int (g_ &&& (3 : Int32))), .val .null, .val (.ref r_5), .val .null, .unset, .unset, .unset, .unset] [.null, (.ref r_5), .null, (.ref b36), (.ref b36)])) rfl (by rw [hml]; rfl) (Steps.refl _) (a := b36) (argsL := [.null, (.ref r_5), .null]) (rest := [(.ref b36)]) (lenOf own_pd16 rfl) rfl (by show 2 * 0 + _ ≤ _; exact Nat.le_of_eq rfl) (hb hby at_92) (fun _ _ => ⟨rfl, rfl, (by decide : 13 + 0 ≤ _), (by decide : 27 + 0 ≤ _)⟩)
        dsimp only [Pt.U, Pt.locs, Pt.cells, Pt.slots] at X38 l38 y38 z38 st38 hQ38
        subst l38 y38 z38
        obtain ⟨rfl, Nq38, K38, p38_0, p38_1, p38_2, p38_3⟩ := hQ38
        have N38 := Fr.app N5 Nq38
        have H39 := CHv.keep K38 (allS (Safe.exa hZ5.alike A36 (by decide) (by decide)) all0) H37
        refine otr (S' := T38.setTop (mkF m 95 #[.val (.int i_), .val (.int j_), .val (.int k_), .val (.int f_), .val (.int g_), .val (.ref r_1), .val (.int (g_ &&& (3 : Int32))), .val .null, .val (.ref r_5), .val .null, .unset, .unset, .unset, .unset] [(.ref b36)])) st38 ?_
        refine o_astore X38 hx (l' := #[.val (.int i_), .val (.int j_), .val (.int k_), .val (.int f_), .val (.int g_), .val (.ref r_1), .val (.int (g_ &&& (3 : Int32))), .val .null, .val (.ref r_5), .val .null, .val (.ref b36), .unset, .unset, .unset]) (hb hby at_95) rfl rfl ?_
        refine o_aload X38 hx (hb hby at_97) rfl rfl ?_
        refine o_ifnullYes X38 hx 112 (hb hby at_99) (by decide) (by decide) ?_
        refine o_iconst X38 hx (1 : Int32) (hb hby at_112) rfl ?_
        refine o_goto X38 hx 117 (hb hby at_113) (by decide) (by decide) ?_
        refine o_istore X38 hx (l' := #[.val (.int i_), .val (.int j_), .val (.int k_), .val (.int f_), .val (.int g_), .val (.ref r_1), .val (.int (g_ &&& (3 : Int32))), .val .null, .val (.ref r_5), .val .null, .val (.ref b36), .val (.int (1 : Int32)), .unset, .unset]) (hb hby at_117) rfl ?_
        refine o_aload X38 hx (hb hby at_119) rfl rfl ?_
        refine o_aload X38 hx (hb hby at_121) rfl rfl ?_
        have c41 := ((((O0.keep K1 all0).keep K5 all0).ext E36).keep K38 (allS n0_b36 all0))
        obtain ⟨cq40, kq40, q40a, q40b, q40c⟩ := isOf hZ5 rfl p38_0
        obtain ⟨_, _, ⟨T40, L40, kc40, n40⟩, -, X40, ⟨Lc40, hQ40, l40, y40, z40⟩, st40⟩ := X38.virtualBack hx (y := yM27) (z := yM27) hown5 (mvT hZ5 w44) (mvT hZ5 w45) (notFace_of_selects (args := #[]) (mvT hZ5 w47)) (mvT hZ5 w47) (mvT hZ5 w46) (by decide) (backOf (W := 0) (rm_onqN l Z a0 hw []  b36 r_1 (.ref r_5) .null T38.heap n0 c41 p38_0 p38_1 p38_2 p38_3 (by first | rfl | assumption | decide | omega) (by first | rfl | assumption | decide | omega) (by first | rfl | assumption | decide | omega) (by first | rfl | assumption | decide | omega)) hZ5 w48 w28 (by decide) (by decide)) q40a q40c (g := (mkF m 123 #[.val (.int i_), .val (.int j_), .val (.int k_), .val (.int f_), .val (.int g_), .val (.ref r_1), .val (.int (g_ &&& (3 : Int32))), .val .null, .val (.ref r_5), .val .null, .val (.ref b36), .val (.int (1 : Int32)), .unset, .unset] [(.ref r_1), (.ref b36)])) rfl (by rw [hml]; rfl) (Steps.refl _) (argsL := [(.ref r_1)]) (rest := []) (lenOf own_pd21 rfl) rfl (by show 2 * 0 + _ ≤ _; exact Nat.le_of_eq rfl) (hb hby at_123) (fun _ _ => ⟨rfl, rfl, (by decide : 13 + 2 ≤ _), (by decide : 27 + 4 ≤ _)⟩)
        dsimp only [Pt.U, Pt.locs, Pt.cells, Pt.slots] at X40 l40 y40 z40 st40 hQ40
        subst l40 y40 z40
        obtain ⟨o_40, r_40, rfl, Nq40, K40, p40_0, p40_1, p40_2, p40_3, p40_4, p40_5, p40_6, p40_7⟩ := hQ40
        have N40 := Fr.app N38 Nq40
        have H42 := CHv.keep K40 all0 H39
        have n0_o_40 : n0 ≤ o_40 := Nat.le_trans (Nat.le_trans (Nat.le_of_eq O0.1.symm) O0.2.1) (Nat.le_trans (Nat.le_trans (Nat.le_trans (Nat.le_trans K1.1 K5.1) E36.1) K38.1) p40_0)
        have n0_r_40 : n0 ≤ r_40 := Nat.le_trans (Nat.le_trans (Nat.le_of_eq O0.1.symm) O0.2.1) (Nat.le_trans (Nat.le_trans (Nat.le_trans (Nat.le_trans K1.1 K5.1) E36.1) K38.1) p40_1)
        refine otr (S' := T40.setTop (mkF m 126 #[.val (.int i_), .val (.int j_), .val (.int k_), .val (.int f_), .val (.int g_), .val (.ref r_1), .val (.int (g_ &&& (3 : Int32))), .val .null, .val (.ref r_5), .val .null, .val (.ref b36), .val (.int (1 : Int32)), .unset, .unset] [(.ref o_40)])) st40 ?_
        refine o_astore X40 hx (l' := #[.val (.int i_), .val (.int j_), .val (.int k_), .val (.int f_), .val (.int g_), .val (.ref r_1), .val (.int (g_ &&& (3 : Int32))), .val .null, .val (.ref r_5), .val .null, .val (.ref b36), .val (.int (1 : Int32)), .val (.ref o_40), .unset]) (hb hby at_126) rfl rfl ?_
        refine o_aload X40 hx (hb hby at_128) rfl rfl ?_
        obtain ⟨cq43, kq43, q43a, q43b, q43c⟩ := isOf hZ5 rfl p40_2
        obtain ⟨_, _, ⟨T43, L43, kc43, n43⟩, -, X43, ⟨Lc43, hQ43, l43, y43, z43⟩, st43⟩ := X40.virtualBack hx (y := yM22) (z := yM22) hown5 (mvT hZ5 w68) (mvT hZ5 w69) (notFace_of_selects (args := #[]) (mvT hZ5 w71)) (mvT hZ5 w71) (mvT hZ5 w70) (by decide) (backOf (W := 0) (rm_oppR l Z a0 hw []  o_40 r_40 T40.heap n0 (c41.keep K40 all0) p40_3) hZ5 w72 w53 (by decide) (by decide)) q43a q43c (g := (mkF m 130 #[.val (.int i_), .val (.int j_), .val (.int k_), .val (.int f_), .val (.int g_), .val (.ref r_1), .val (.int (g_ &&& (3 : Int32))), .val .null, .val (.ref r_5), .val .null, .val (.ref b36), .val (.int (1 : Int32)), .val (.ref o_40), .unset] [(.ref o_40)])) rfl (by rw [hml]; rfl) (Steps.refl _) (argsL := []) (rest := []) (lenOf own_pd8 rfl) rfl (by show 2 * 0 + _ ≤ _; exact Nat.le_of_eq rfl) (hb hby at_130) (fun _ _ => ⟨rfl, rfl, (by decide : 15 + 0 ≤ _), (by decide : 31 + 0 ≤ _)⟩)
        dsimp only [Pt.U, Pt.locs, Pt.cells, Pt.slots] at X43 l43 y43 z43 st43 hQ43
        subst l43 y43 z43
        obtain ⟨rfl, Nq43, e43⟩ := hQ43
        have N43 := Fr.app N40 Nq43
        refine otr (S' := T43.setTop (mkF m 133 #[.val (.int i_), .val (.int j_), .val (.int k_), .val (.int f_), .val (.int g_), .val (.ref r_1), .val (.int (g_ &&& (3 : Int32))), .val .null, .val (.ref r_5), .val .null, .val (.ref b36), .val (.int (1 : Int32)), .val (.ref o_40), .unset] [(.int (1 : Int32))])) st43 ?_
        refine o_iload X43 hx (hb hby at_133) rfl ?_
        refine o_icmpYes X43 hx 140 (hb hby at_135) (teq (by decide : (1 : Int32) = (1 : Int32))).1 (by decide) (by decide) ?_
        refine o_iload X43 hx (hb hby at_140) rfl ?_
        refine o_ifYes X43 hx 147 (hb hby at_142) (feq (by decide : ¬ ((1 : Int32) = (0 : Int32)))).2 (by decide) (by decide) ?_
        refine o_aload X43 hx (hb hby at_147) rfl rfl ?_
        obtain ⟨cq44, kq44, q44a, q44b, q44c⟩ := isOf hZ5 e43 p40_2
        obtain ⟨_, _, ⟨T44, L44, kc44, n44⟩, -, X44, ⟨Lc44, hQ44, l44, y44, z44⟩, st44⟩ := X43.virtualBack hx (y := yM23) (z := yM23) hown5 (mvT hZ5 w73) (mvT hZ5 w74) (notFace_of_selects (args := #[]) (mvT hZ5 w76)) (mvT hZ5 w76) (mvT hZ5 w75) (by decide) (backOf (W := 0) (rm_opg l Z a0 hw []  o_40 r_40 T40.heap n0 (c41.keep K40 all0) p40_3) hZ5 w77 w53 (by decide) (by decide)) q44a q44c (g := (mkF m 149 #[.val (.int i_), .val (.int j_), .val (.int k_), .val (.int f_), .val (.int g_), .val (.ref r_1), .val (.int (g_ &&& (3 : Int32))), .val .null, .val (.ref r_5), .val .null, .val (.ref b36), .val (.int (1 : Int32)), .val (.ref o_40), .unset] [(.ref o_40)])) rfl (by rw [hml]; rfl) (Steps.refl _) (argsL := []) (rest := []) (lenOf own_pd22 rfl) rfl (by show 2 * 0 + _ ≤ _; exact Nat.le_of_eq rfl) (hb hby at_149) (fun _ _ => ⟨rfl, e43, (by decide : 15 + 0 ≤ _), (by decide : 31 + 0 ≤ _)⟩)
        dsimp only [Pt.U, Pt.locs, Pt.cells, Pt.slots] at X44 l44 y44 z44 st44 hQ44
        subst l44 y44 z44
        obtain ⟨rfl, Nq44, e44⟩ := hQ44
        have N44 := Fr.app N43 Nq44
        refine otr (S' := T44.setTop (mkF m 152 #[.val (.int i_), .val (.int j_), .val (.int k_), .val (.int f_), .val (.int g_), .val (.ref r_1), .val (.int (g_ &&& (3 : Int32))), .val .null, .val (.ref r_5), .val .null, .val (.ref b36), .val (.int (1 : Int32)), .val (.ref o_40), .unset] [(.ref r_40)])) st44 ?_
        obtain ⟨T45, X45, e45, st45⟩ := castY X44 hx hZ5 hown5 w26 e44 (Ins.self p40_4) (g := (mkF m 152 #[.val (.int i_), .val (.int j_), .val (.int k_), .val (.int f_), .val (.int g_), .val (.ref r_1), .val (.int (g_ &&& (3 : Int32))), .val .null, .val (.ref r_5), .val .null, .val (.ref b36), .val (.int (1 : Int32)), .val (.ref o_40), .unset] [(.ref r_40)])) rfl rfl (hb hby at_152)
        refine ogo (S' := T45.setTop (mkF m 155 #[.val (.int i_), .val (.int j_), .val (.int k_), .val (.int f_), .val (.int g_), .val (.ref r_1), .val (.int (g_ &&& (3 : Int32))), .val .null, .val (.ref r_5), .val .null, .val (.ref b36), .val (.int (1 : Int32)), .val (.ref o_40), .unset] [(.ref r_40)])) st45 ?_
        refine o_astore X45 hx (l' := #[.val (.int i_), .val (.int j_), .val (.int k_), .val (.int f_), .val (.int g_), .val (.ref r_1), .val (.int (g_ &&& (3 : Int32))), .val .null, .val (.ref r_5), .val .null, .val (.ref b36), .val (.int (1 : Int32)), .val (.ref o_40), .val (.ref r_40)]) (hb hby at_155) rfl rfl ?_
        refine o_aload X45 hx (hb hby at_157) rfl rfl ?_
        obtain ⟨cq46, kq46, q46a, q46b, q46c⟩ := isOf hZ5 e45 p40_4
        obtain ⟨_, _, ⟨T46, L46, kc46, n46⟩, -, X46, ⟨Lc46, hQ46, l46, y46, z46⟩, st46⟩ := X45.virtualBack hx (y := yM24) (z := yM24) hown5 (mvT hZ5 w79) (mvT hZ5 w80) (notFace_of_selects (args := #[]) (mvT hZ5 w82)) (mvT hZ5 w82) (mvT hZ5 w81) (by decide) (backOf (W := 0) (rm_g_queue l Z a0 hw []  r_40 (.ref r_1) T40.heap n0 (c41.keep K40 all0) p40_5 (by first | rfl | assumption | decide | omega)) hZ5 w83 w28 (by decide) (by decide)) q46a q46c (g := (mkF m 159 #[.val (.int i_), .val (.int j_), .val (.int k_), .val (.int f_), .val (.int g_), .val (.ref r_1), .val (.int (g_ &&& (3 : Int32))), .val .null, .val (.ref r_5), .val .null, .val (.ref b36), .val (.int (1 : Int32)), .val (.ref o_40), .val (.ref r_40)] [(.ref r_40)])) rfl (by rw [hml]; rfl) (Steps.refl _) (argsL := []) (rest := []) (lenOf own_pd23 rfl) rfl (by show 2 * 0 + _ ≤ _; exact Nat.le_of_eq rfl) (hb hby at_159) (fun _ _ => ⟨rfl, e45, (by decide : 15 + 0 ≤ _), (by decide : 31 + 0 ≤ _)⟩)
        dsimp only [Pt.U, Pt.locs, Pt.cells, Pt.slots] at X46 l46 y46 z46 st46 hQ46
        subst l46 y46 z46
        obtain ⟨rfl, Nq46, e46⟩ := hQ46
        have N46 := Fr.app N44 Nq46
        refine otr (S' := T46.setTop (mkF m 162 #[.val (.int i_), .val (.int j_), .val (.int k_), .val (.int f_), .val (.int g_), .val (.ref r_1), .val (.int (g_ &&& (3 : Int32))), .val .null, .val (.ref r_5), .val .null, .val (.ref b36), .val (.int (1 : Int32)), .val (.ref o_40), .val (.ref r_40)] [(.ref r_1)])) st46 ?_
        refine o_aload X46 hx (hb hby at_162) rfl rfl ?_
        have c48 := (((Fld.ext E36 (p1_3.keep K5 nin0)).keep K38 (ninS (Nat.ne_of_lt (Nat.lt_of_lt_of_le (Nat.lt_of_lt_of_le p1_2.lt K5.1) (Nat.le_of_eq g36.symm))) nin0)).keep K40 nin0)
        have c49 := (((Fld.ext E36 (p1_4.keep K5 nin0)).keep K38 (ninS (Nat.ne_of_lt (Nat.lt_of_lt_of_le (Nat.lt_of_lt_of_le p1_2.lt K5.1) (Nat.le_of_eq g36.symm))) nin0)).keep K40 nin0)
        have c50 := ((((p1_5.keep K5 nin0).ext E36).keep K38 (ninS (Nat.ne_of_lt (Nat.lt_of_lt_of_le (Nat.lt_of_lt_of_le p1_1 K5.1) (Nat.le_of_eq g36.symm))) nin0)).keep K40 nin0)
        obtain ⟨_, _, ⟨T47, L47, kc47, n47⟩, -, X47, ⟨Lc47, hQ47, l47, y47, z47⟩, st47⟩ := Jvm.LawKit.callS X46 hx (y := yM13) hown5 (mvT hZ5 w84) (mvT hZ5 w85) (mvT hZ5 w2) (mvT hZ5 w86) (by decide) (backOf (W := 0) (rm_eqRR l Z a0 hw [] z_CS v_FMT s_EMPTY r_1 ba_1 kb_1 (own_ml i_) (own_mv i_) (own_ms i_) r_1 ba_1 kb_1 (own_ml i_) (own_mv i_) (own_ms i_) T40.heap n0 SB (c41.keep K40 all0) (((Exa.ext E36 (p1_2.keep K5)).keep K38).keep K40) c48 c49 c50 (((Exa.ext E36 (p1_2.keep K5)).keep K38).keep K40) c48 c49 c50 p1_6 p1_6) hZ5 w86 w2 (by decide) (by decide)) (g := (mkF m 164 #[.val (.int i_), .val (.int j_), .val (.int k_), .val (.int f_), .val (.int g_), .val (.ref r_1), .val (.int (g_ &&& (3 : Int32))), .val .null, .val (.ref r_5), .val .null, .val (.ref b36), .val (.int (1 : Int32)), .val (.ref o_40), .val (.ref r_40)] [(.ref r_1), (.ref r_1)])) rfl (by rw [hml]; rfl) (argsL := [(.ref r_1), (.ref r_1)]) (rest := []) (lenOf own_pd24 rfl) rfl (by show 2 * 0 + _ ≤ _; exact Nat.le_of_eq rfl) (hb hby at_164) (fun _ _ => ⟨rfl, e46, (by decide : 15 + 0 ≤ _), (by decide : 31 + 0 ≤ _)⟩)
        dsimp only [Pt.U, Pt.locs, Pt.cells, Pt.slots] at X47 l47 y47 z47 st47 hQ47
        subst l47 y47 z47
        obtain ⟨rfl, Nq47, e47⟩ := hQ47
        have N47 := Fr.app N46 Nq47
        refine ogo (S' := T47.setTop (mkF m 167 #[.val (.int i_), .val (.int j_), .val (.int k_), .val (.int f_), .val (.int g_), .val (.ref r_1), .val (.int (g_ &&& (3 : Int32))), .val .null, .val (.ref r_5), .val .null, .val (.ref b36), .val (.int (1 : Int32)), .val (.ref o_40), .val (.ref r_40)] [(.int (own_b (own_ms i_) (own_ms i_)))])) st47 ?_
        rw [own_bs]
        refine o_ifNo X47 hx (hb hby at_167) (feq (by decide : ¬ ((1 : Int32) = (0 : Int32)))).1 ?_
        refine o_aload X47 hx (hb hby at_170) rfl rfl ?_
        obtain ⟨cq51, kq51, q51a, q51b, q51c⟩ := isOf hZ5 e47 p40_4
        obtain ⟨_, _, ⟨T51, L51, kc51, n51⟩, -, X51, ⟨Lc51, hQ51, l51, y51, z51⟩, st51⟩ := X47.virtualBack hx (y := yM25) (z := yM25) hown5 (mvT hZ5 w98) (mvT hZ5 w99) (notFace_of_selects (args := #[]) (mvT hZ5 w101)) (mvT hZ5 w101) (mvT hZ5 w100) (by decide) (backOf (W := 0) (rm_g_space l Z a0 hw []  r_40 (.ref r_5) T40.heap n0 (c41.keep K40 all0) p40_6 (by first | rfl | assumption | decide | omega)) hZ5 w102 w28 (by decide) (by decide)) q51a q51c (g := (mkF m 172 #[.val (.int i_), .val (.int j_), .val (.int k_), .val (.int f_), .val (.int g_), .val (.ref r_1), .val (.int (g_ &&& (3 : Int32))), .val .null, .val (.ref r_5), .val .null, .val (.ref b36), .val (.int (1 : Int32)), .val (.ref o_40), .val (.ref r_40)] [(.ref r_40)])) rfl (by rw [hml]; rfl) (Steps.refl _) (argsL := []) (rest := []) (lenOf own_pd23 rfl) rfl (by show 2 * 0 + _ ≤ _; exact Nat.le_of_eq rfl) (hb hby at_172) (fun _ _ => ⟨rfl, e47, (by decide : 15 + 0 ≤ _), (by decide : 31 + 0 ≤ _)⟩)
        dsimp only [Pt.U, Pt.locs, Pt.cells, Pt.slots] at X51 l51 y51 z51 st51 hQ51
        subst l51 y51 z51
        obtain ⟨rfl, Nq51, e51⟩ := hQ51
        have N51 := Fr.app N47 Nq51
        refine otr (S' := T51.setTop (mkF m 175 #[.val (.int i_), .val (.int j_), .val (.int k_), .val (.int f_), .val (.int g_), .val (.ref r_1), .val (.int (g_ &&& (3 : Int32))), .val .null, .val (.ref r_5), .val .null, .val (.ref b36), .val (.int (1 : Int32)), .val (.ref o_40), .val (.ref r_40)] [(.ref r_5)])) st51 ?_
        refine o_aload X51 hx (hb hby at_175) rfl rfl ?_
        have c53 := (((Fld.ext E36 p5_3).keep K38 (ninS (Nat.ne_of_lt (Nat.lt_of_lt_of_le (Nat.lt_of_lt_of_le p5_2.lt (Nat.le_refl _)) (Nat.le_of_eq g36.symm))) nin0)).keep K40 nin0)
        have c54 := (((Fld.ext E36 p5_4).keep K38 (ninS (Nat.ne_of_lt (Nat.lt_of_lt_of_le (Nat.lt_of_lt_of_le p5_2.lt (Nat.le_refl _)) (Nat.le_of_eq g36.symm))) nin0)).keep K40 nin0)
        have c55 := (((p5_5.ext E36).keep K38 (ninS (Nat.ne_of_lt (Nat.lt_of_lt_of_le (Nat.lt_of_lt_of_le p5_1 (Nat.le_refl _)) (Nat.le_of_eq g36.symm))) nin0)).keep K40 nin0)
        obtain ⟨_, _, ⟨T52, L52, kc52, n52⟩, -, X52, ⟨Lc52, hQ52, l52, y52, z52⟩, st52⟩ := Jvm.LawKit.callS X51 hx (y := yM13) hown5 (mvT hZ5 w84) (mvT hZ5 w85) (mvT hZ5 w2) (mvT hZ5 w86) (by decide) (backOf (W := 0) (rm_eqRR l Z a0 hw [] z_CS v_FMT s_EMPTY r_5 ba_5 kb_5 (own_ml k_) (own_mv k_) (own_ms k_) r_5 ba_5 kb_5 (own_ml k_) (own_mv k_) (own_ms k_) T40.heap n0 SB (c41.keep K40 all0) (((Exa.ext E36 p5_2).keep K38).keep K40) c53 c54 c55 (((Exa.ext E36 p5_2).keep K38).keep K40) c53 c54 c55 p5_6 p5_6) hZ5 w86 w2 (by decide) (by decide)) (g := (mkF m 177 #[.val (.int i_), .val (.int j_), .val (.int k_), .val (.int f_), .val (.int g_), .val (.ref r_1), .val (.int (g_ &&& (3 : Int32))), .val .null, .val (.ref r_5), .val .null, .val (.ref b36), .val (.int (1 : Int32)), .val (.ref o_40), .val (.ref r_40)] [(.ref r_5), (.ref r_5)])) rfl (by rw [hml]; rfl) (argsL := [(.ref r_5), (.ref r_5)]) (rest := []) (lenOf own_pd24 rfl) rfl (by show 2 * 0 + _ ≤ _; exact Nat.le_of_eq rfl) (hb hby at_177) (fun _ _ => ⟨rfl, e51, (by decide : 15 + 0 ≤ _), (by decide : 31 + 0 ≤ _)⟩)
        dsimp only [Pt.U, Pt.locs, Pt.cells, Pt.slots] at X52 l52 y52 z52 st52 hQ52
        subst l52 y52 z52
        obtain ⟨rfl, Nq52, e52⟩ := hQ52
        have N52 := Fr.app N51 Nq52
        refine ogo (S' := T52.setTop (mkF m 180 #[.val (.int i_), .val (.int j_), .val (.int k_), .val (.int f_), .val (.int g_), .val (.ref r_1), .val (.int (g_ &&& (3 : Int32))), .val .null, .val (.ref r_5), .val .null, .val (.ref b36), .val (.int (1 : Int32)), .val (.ref o_40), .val (.ref r_40)] [(.int (own_b (own_ms k_) (own_ms k_)))])) st52 ?_
        rw [own_bs]
        refine o_ifNo X52 hx (hb hby at_180) (feq (by decide : ¬ ((1 : Int32) = (0 : Int32)))).1 ?_
        refine o_aload X52 hx (hb hby at_183) rfl rfl ?_
        obtain ⟨cq56, kq56, q56a, q56b, q56c⟩ := isOf hZ5 e52 p40_4
        obtain ⟨_, _, ⟨T56, L56, kc56, n56⟩, -, X56, ⟨Lc56, hQ56, l56, y56, z56⟩, st56⟩ := X52.virtualBack hx (y := yM26) (z := yM26) hown5 (mvT hZ5 w103) (mvT hZ5 w104) (notFace_of_selects (args := #[]) (mvT hZ5 w106)) (mvT hZ5 w106) (mvT hZ5 w105) (by decide) (backOf (W := 0) (rm_g_contentId l Z a0 hw []  r_40 .null T40.heap n0 (c41.keep K40 all0) p40_7 (by first | rfl | assumption | decide | omega)) hZ5 w107 w28 (by decide) (by decide)) q56a q56c (g := (mkF m 185 #[.val (.int i_), .val (.int j_), .val (.int k_), .val (.int f_), .val (.int g_), .val (.ref r_1), .val (.int (g_ &&& (3 : Int32))), .val .null, .val (.ref r_5), .val .null, .val (.ref b36), .val (.int (1 : Int32)), .val (.ref o_40), .val (.ref r_40)] [(.ref r_40)])) rfl (by rw [hml]; rfl) (Steps.refl _) (argsL := []) (rest := []) (lenOf own_pd23 rfl) rfl (by show 2 * 0 + _ ≤ _; exact Nat.le_of_eq rfl) (hb hby at_185) (fun _ _ => ⟨rfl, e52, (by decide : 15 + 0 ≤ _), (by decide : 31 + 0 ≤ _)⟩)
        dsimp only [Pt.U, Pt.locs, Pt.cells, Pt.slots] at X56 l56 y56 z56 st56 hQ56
        subst l56 y56 z56
        obtain ⟨rfl, Nq56, e56⟩ := hQ56
        have N56 := Fr.app N52 Nq56
        refine otr (S' := T56.setTop (mkF m 188 #[.val (.int i_), .val (.int j_), .val (.int k_), .val (.int f_), .val (.int g_), .val (.ref r_1), .val (.int (g_ &&& (3 : Int32))), .val .null, .val (.ref r_5), .val .null, .val (.ref b36), .val (.int (1 : Int32)), .val (.ref o_40), .val (.ref r_40)] [.null])) st56 ?_
        refine o_aload X56 hx (hb hby at_188) rfl rfl ?_
        obtain ⟨_, _, ⟨T57, L57, kc57, n57⟩, -, X57, ⟨Lc57, hQ57, l57, y57, z57⟩, st57⟩ := Jvm.LawKit.callS X56 hx (y := yM13) hown5 (mvT hZ5 w84) (mvT hZ5 w85) (mvT hZ5 w2) (mvT hZ5 w86) (by decide) (backOf (W := 0) (rm_eqNN l Z a0 hw []   T40.heap n0 (c41.keep K40 all0) ) hZ5 w86 w2 (by decide) (by decide)) (g := (mkF m 190 #[.val (.int i_), .val (.int j_), .val (.int k_), .val (.int f_), .val (.int g_), .val (.ref r_1), .val (.int (g_ &&& (3 : Int32))), .val .null, .val (.ref r_5), .val .null, .val (.ref b36), .val (.int (1 : Int32)), .val (.ref o_40), .val (.ref r_40)] [.null, .null])) rfl (by rw [hml]; rfl) (argsL := [.null, .null]) (rest := []) (lenOf own_pd24 rfl) rfl (by show 2 * 0 + _ ≤ _; exact Nat.le_of_eq rfl) (hb hby at_190) (fun _ _ => ⟨rfl, e56, (by decide : 15 + 0 ≤ _), (by decide : 31 + 0 ≤ _)⟩)
        dsimp only [Pt.U, Pt.locs, Pt.cells, Pt.slots] at X57 l57 y57 z57 st57 hQ57
        subst l57 y57 z57
        obtain ⟨rfl, Nq57, e57⟩ := hQ57
        have N57 := Fr.app N56 Nq57
        refine ogo (S' := T57.setTop (mkF m 193 #[.val (.int i_), .val (.int j_), .val (.int k_), .val (.int f_), .val (.int g_), .val (.ref r_1), .val (.int (g_ &&& (3 : Int32))), .val .null, .val (.ref r_5), .val .null, .val (.ref b36), .val (.int (1 : Int32)), .val (.ref o_40), .val (.ref r_40)] [(.int (1 : Int32))])) st57 ?_
        refine o_ifNo X57 hx (hb hby at_193) (feq (by decide : ¬ ((1 : Int32) = (0 : Int32)))).1 ?_
        refine o_iconst X57 hx (1 : Int32) (hb hby at_196) rfl ?_
        refine o_goto X57 hx 201 (hb hby at_197) (by decide) (by decide) ?_
        refine oendS X57 hlk hS5 (Nat.le_trans (Nat.le_refl _) (Nat.le_trans (Nat.le_trans E36.1 K38.1) K40.1)) e57 hZ5 hEL hs0 (CHr.trans (CHr.trans (CHr.trans (CHr.trans (CHr.trans (CHr.refl H0) C1) C5) (CHr.ext E36 H6)) (CHr.keep K38 (allS (Safe.exa hZ5.alike A36 (by decide) (by decide)) all0) H37)) (CHr.keep K40 all0 H39)) (v := some (.int (1 : Int32))) (fun h => by rw [hret] at h; cases h) (fun fs hr => retN X57 hx (t := .boolean) hret (by simp) (hb hby at_201) hr) (by decide) (by decide) ?_
        show own_Q_law Z _ _ _ _ _ _ _ _ h0 n0 _ T57.heap _
        rw [e57]
        exact ⟨rfl, N57, ((((((Keep.refl h0 []).trans K1 all0).trans K5 all0).ext E36).trans K38 (allS (Or.inr (Nat.le_trans (Nat.le_trans K1.1 K5.1) (Nat.le_of_eq g36.symm))) all0)).trans K40 all0)⟩
    · refine o_ifNo X1 hx (hb hby at_50) (feq hc4).1 ?_
      refine o_aconst_null X1 hx (hb hby at_53) ?_
      refine o_goto X1 hx 61 (hb hby at_54) (by decide) (by decide) ?_
      refine o_astore X1 hx (l' := #[.val (.int i_), .val (.int j_), .val (.int k_), .val (.int f_), .val (.int g_), .val (.ref r_1), .val (.int (g_ &&& (3 : Int32))), .val .null, .val .null, .unset, .unset, .unset, .unset, .unset]) (hb hby at_61) rfl rfl ?_
      refine o_iload X1 hx (hb hby at_63) rfl ?_
      refine o_iconst X1 hx (3 : Int32) (hb hby at_65) rfl ?_
      refine o_iushr X1 hx (hb hby at_66) ?_
      refine o_iconst X1 hx (1 : Int32) (hb hby at_67) rfl ?_
      refine o_iand X1 hx (hb hby at_68) ?_
      by_cases hc58 : ((own_ushr g_ (3 : Int32)) &&& (1 : Int32)) = (0 : Int32)
      · refine o_ifYes X1 hx 76 (hb hby at_69) (teq hc58).1 (by decide) (by decide) ?_
        refine o_iloadN X1 hx (hb hby at_76) rfl ?_
        obtain ⟨_, _, ⟨T59, L59, kc59, n59⟩, -, X59, hSi59, hgr59, ⟨Lc59, hQ59, l59, y59, z59, C59⟩, st59⟩ := callSS X1 hx (y := yM5) hown1 (mvT hZ1 w0) (mvT hZ1 w1) (mvT hZ1 w2) (mvT hZ1 w3) (by decide) (backOfSH (W := 0) (rm_mk l Z a0 hw [] z_CS v_FMT s_EMPTY f_ T1.heap n0 SB (O0.keep K1 all0) ) hZ1 w3 w2 (by decide) (by decide) hEL H2) (g := (mkF m 77 #[.val (.int i_), .val (.int j_), .val (.int k_), .val (.int f_), .val (.int g_), .val (.ref r_1), .val (.int (g_ &&& (3 : Int32))), .val .null, .val .null, .unset, .unset, .unset, .unset, .unset] [(.int f_)])) rfl (by rw [hml]; rfl) (argsL := [(.int f_)]) (rest := []) (lenOf own_pd20 rfl) rfl (by show 2 * 0 + _ ≤ _; exact Nat.le_of_eq rfl) (hb hby at_77) (fun _ _ => ⟨rfl, rfl, (by decide : 6 + 6 ≤ _), (by decide : 12 + 12 ≤ _)⟩)
        dsimp only [Pt.U, Pt.locs, Pt.cells, Pt.slots] at X59 l59 y59 z59 st59 hQ59 hSi59 hgr59 C59
        subst l59 y59 z59
        obtain ⟨r_59, ba_59, kb_59, rfl, Nq59, K59, p59_0, p59_1, p59_2, p59_3, p59_4, p59_5, p59_6⟩ := hQ59
        have N59 := Fr.app N1 Nq59
        have X59 : Stand p l e room_1 (s.setVm T59.vm) m #[(.int i_), (.int j_), (.int k_), (.int f_), (.int g_)] below meth c T59 _ _ _ := X59
        have hS59 := foldS hS1 (Nat.le_refl _) hSi59 hgr59
        have hZ59 : Z.Warmed39 T59.vm := State.Warmed39.trans (t := (s.setVm T1.vm)) hZ1 hSi59.1
        have hown59 : T59.vm.findClass "com/example/reliquary/reliquary/DeadLetterSelectionOnQueuePinLaw" = some m.cls := by rw [hSi59.1.alike.findClass]; exact hown1
        have H60 := C59.1
        have n0_r_59 : n0 ≤ r_59 := Nat.le_trans (Nat.le_trans (Nat.le_of_eq O0.1.symm) O0.2.1) (Nat.le_trans K1.1 p59_0)
        refine otr (S' := T59.setTop (mkF m 80 #[.val (.int i_), .val (.int j_), .val (.int k_), .val (.int f_), .val (.int g_), .val (.ref r_1), .val (.int (g_ &&& (3 : Int32))), .val .null, .val .null, .unset, .unset, .unset, .unset, .unset] [(.ref r_59)])) st59 ?_
        refine o_astore X59 hx (l' := #[.val (.int i_), .val (.int j_), .val (.int k_), .val (.int f_), .val (.int g_), .val (.ref r_1), .val (.int (g_ &&& (3 : Int32))), .val .null, .val .null, .val (.ref r_59), .unset, .unset, .unset, .unset]) (hb hby at_80) rfl rfl ?_
        obtain ⟨T61, _, X61, rfl, E61, A61, D61, -, st61⟩ := newO X59 hx hZ59 hown59 w26 w27 w28 rfl (g := (mkF m 82 #[.val (.int i_), .val (.int j_), .val (.int k_), .val (.int f_), .val (.int g_), .val (.ref r_1), .val (.int (g_ &&& (3 : Int32))), .val .null, .val .null, .val (.ref r_59), .unset, .unset, .unset, .unset] [])) rfl (hb hby at_82) (by decide) (by decide)
        obtain ⟨b61, g61⟩ : ∃ z, z = T59.heap.size := ⟨_, rfl⟩
        rw [← g61] at A61 D61 st61
        have n0_b61 : n0 ≤ b61 := Nat.le_trans (Nat.le_trans (Nat.le_of_eq O0.1.symm) O0.2.1) (Nat.le_trans (Nat.le_trans K1.1 K59.1) (Nat.le_of_eq g61.symm))
        have H62 := CHv.ext E61 H60
        have F61_queue : Fld Z T61.heap b61 "com/example/reliquary/reliquary/DeadLetterSelection" "queue" "Ljava/lang/String;" .null := D61 (Or.inr w39) (ty := (.object "java/lang/String")) (by decide)
        have F61_space : Fld Z T61.heap b61 "com/example/reliquary/reliquary/DeadLetterSelection" "space" "Ljava/lang/String;" .null := D61 (Or.inr w41) (ty := (.object "java/lang/String")) (by decide)
        have F61_contentId : Fld Z T61.heap b61 "com/example/reliquary/reliquary/DeadLetterSelection" "contentId" "Ljava/lang/String;" .null := D61 (Or.inr w43) (ty := (.object "java/lang/String")) (by decide)
        refine ogo (S' := T61.setTop (mkF m 85 #[.val (.int i_), .val (.int j_), .val (.int k_), .val (.int f_), .val (.int g_), .val (.ref r_1), .val (.int (g_ &&& (3 : Int32))), .val .null, .val .null, .val (.ref r_59), .unset, .unset, .unset, .unset] [(.ref b61)])) st61 ?_
        refine o_dup X61 hx (hb hby at_85) rfl ?_
        refine o_aload X61 hx (hb hby at_86) rfl rfl ?_
        refine o_aload X61 hx (hb hby at_88) rfl rfl ?_
        refine o_aload X61 hx (hb hby at_90) rfl rfl ?_
        obtain ⟨_, _, ⟨T63, L63, kc63, n63⟩, -, X63, ⟨Lc63, hQ63, l63, y63, z63⟩, st63⟩ := X61.specialBack hx (y := yM17) rfl hown59 (mvT hZ59 w29) (mvT hZ59 w30) (mvT hZ59 w31) (by decide) (backOf (W := 1) (rm_dli l Z a0 hw []  b61 .null .null (.ref r_59) T61.heap n0 (((O0.keep K1 all0).keep K59 all0).ext E61) A61 F61_queue F61_space F61_contentId n0_b61 (by first | rfl | assumption | decide | omega) (by first | rfl | assumption | decide | omega) (by first | rfl | assumption | decide | omega) (by first | rfl | assumption | decide | omega) (by first | rfl | assumption | decide | omega) (by first | rfl | assumption | decide | omega)) hZ59 w31 w28 (by decide) (by decide)) (g := (mkF m 92 #[.val (.int i_), .val (.int j_), .val (.int k_), .val (.int f_), .val (.int g_), .val (.ref r_1), .val (.int (g_ &&& (3 : Int32))), .val .null, .val .null, .val (.ref r_59), .unset, .unset, .unset, .unset] [(.ref r_59), .null, .null, (.ref b61), (.ref b61)])) rfl (by rw [hml]; rfl) (Steps.refl _) (a := b61) (argsL := [.null, .null, (.ref r_59)]) (rest := [(.ref b61)]) (lenOf own_pd16 rfl) rfl (by show 2 * 0 + _ ≤ _; exact Nat.le_of_eq rfl) (hb hby at_92) (fun _ _ => ⟨rfl, rfl, (by decide : 13 + 0 ≤ _), (by decide : 27 + 0 ≤ _)⟩)
        dsimp only [Pt.U, Pt.locs, Pt.cells, Pt.slots] at X63 l63 y63 z63 st63 hQ63
        subst l63 y63 z63
        obtain ⟨rfl, Nq63, K63, p63_0, p63_1, p63_2, p63_3⟩ := hQ63
        have N63 := Fr.app N59 Nq63
        have H64 := CHv.keep K63 (allS (Safe.exa hZ59.alike A61 (by decide) (by decide)) all0) H62
        refine otr (S' := T63.setTop (mkF m 95 #[.val (.int i_), .val (.int j_), .val (.int k_), .val (.int f_), .val (.int g_), .val (.ref r_1), .val (.int (g_ &&& (3 : Int32))), .val .null, .val .null, .val (.ref r_59), .unset, .unset, .unset, .unset] [(.ref b61)])) st63 ?_
        refine o_astore X63 hx (l' := #[.val (.int i_), .val (.int j_), .val (.int k_), .val (.int f_), .val (.int g_), .val (.ref r_1), .val (.int (g_ &&& (3 : Int32))), .val .null, .val .null, .val (.ref r_59), .val (.ref b61), .unset, .unset, .unset]) (hb hby at_95) rfl rfl ?_
        refine o_aload X63 hx (hb hby at_97) rfl rfl ?_
        refine o_ifnullYes X63 hx 112 (hb hby at_99) (by decide) (by decide) ?_
        refine o_iconst X63 hx (1 : Int32) (hb hby at_112) rfl ?_
        refine o_goto X63 hx 117 (hb hby at_113) (by decide) (by decide) ?_
        refine o_istore X63 hx (l' := #[.val (.int i_), .val (.int j_), .val (.int k_), .val (.int f_), .val (.int g_), .val (.ref r_1), .val (.int (g_ &&& (3 : Int32))), .val .null, .val .null, .val (.ref r_59), .val (.ref b61), .val (.int (1 : Int32)), .unset, .unset]) (hb hby at_117) rfl ?_
        refine o_aload X63 hx (hb hby at_119) rfl rfl ?_
        refine o_aload X63 hx (hb hby at_121) rfl rfl ?_
        have c66 := ((((O0.keep K1 all0).keep K59 all0).ext E61).keep K63 (allS n0_b61 all0))
        obtain ⟨cq65, kq65, q65a, q65b, q65c⟩ := isOf hZ59 rfl p63_0
        obtain ⟨_, _, ⟨T65, L65, kc65, n65⟩, -, X65, ⟨Lc65, hQ65, l65, y65, z65⟩, st65⟩ := X63.virtualBack hx (y := yM27) (z := yM27) hown59 (mvT hZ59 w44) (mvT hZ59 w45) (notFace_of_selects (args := #[]) (mvT hZ59 w47)) (mvT hZ59 w47) (mvT hZ59 w46) (by decide) (backOf (W := 0) (rm_onqN l Z a0 hw []  b61 r_1 .null (.ref r_59) T63.heap n0 c66 p63_0 p63_1 p63_2 p63_3 (by first | rfl | assumption | decide | omega) (by first | rfl | assumption | decide | omega) (by first | rfl | assumption | decide | omega) (by first | rfl | assumption | decide | omega)) hZ59 w48 w28 (by decide) (by decide)) q65a q65c (g := (mkF m 123 #[.val (.int i_), .val (.int j_), .val (.int k_), .val (.int f_), .val (.int g_), .val (.ref r_1), .val (.int (g_ &&& (3 : Int32))), .val .null, .val .null, .val (.ref r_59), .val (.ref b61), .val (.int (1 : Int32)), .unset, .unset] [(.ref r_1), (.ref b61)])) rfl (by rw [hml]; rfl) (Steps.refl _) (argsL := [(.ref r_1)]) (rest := []) (lenOf own_pd21 rfl) rfl (by show 2 * 0 + _ ≤ _; exact Nat.le_of_eq rfl) (hb hby at_123) (fun _ _ => ⟨rfl, rfl, (by decide : 13 + 2 ≤ _), (by decide : 27 + 4 ≤ _)⟩)
        dsimp only [Pt.U, Pt.locs, Pt.cells, Pt.slots] at X65 l65 y65 z65 st65 hQ65
        subst l65 y65 z65
        obtain ⟨o_65, r_65, rfl, Nq65, K65, p65_0, p65_1, p65_2, p65_3, p65_4, p65_5, p65_6, p65_7⟩ := hQ65
        have N65 := Fr.app N63 Nq65
        have H67 := CHv.keep K65 all0 H64
        have n0_o_65 : n0 ≤ o_65 := Nat.le_trans (Nat.le_trans (Nat.le_of_eq O0.1.symm) O0.2.1) (Nat.le_trans (Nat.le_trans (Nat.le_trans (Nat.le_trans K1.1 K59.1) E61.1) K63.1) p65_0)
        have n0_r_65 : n0 ≤ r_65 := Nat.le_trans (Nat.le_trans (Nat.le_of_eq O0.1.symm) O0.2.1) (Nat.le_trans (Nat.le_trans (Nat.le_trans (Nat.le_trans K1.1 K59.1) E61.1) K63.1) p65_1)
        refine otr (S' := T65.setTop (mkF m 126 #[.val (.int i_), .val (.int j_), .val (.int k_), .val (.int f_), .val (.int g_), .val (.ref r_1), .val (.int (g_ &&& (3 : Int32))), .val .null, .val .null, .val (.ref r_59), .val (.ref b61), .val (.int (1 : Int32)), .unset, .unset] [(.ref o_65)])) st65 ?_
        refine o_astore X65 hx (l' := #[.val (.int i_), .val (.int j_), .val (.int k_), .val (.int f_), .val (.int g_), .val (.ref r_1), .val (.int (g_ &&& (3 : Int32))), .val .null, .val .null, .val (.ref r_59), .val (.ref b61), .val (.int (1 : Int32)), .val (.ref o_65), .unset]) (hb hby at_126) rfl rfl ?_
        refine o_aload X65 hx (hb hby at_128) rfl rfl ?_
        obtain ⟨cq68, kq68, q68a, q68b, q68c⟩ := isOf hZ59 rfl p65_2
        obtain ⟨_, _, ⟨T68, L68, kc68, n68⟩, -, X68, ⟨Lc68, hQ68, l68, y68, z68⟩, st68⟩ := X65.virtualBack hx (y := yM22) (z := yM22) hown59 (mvT hZ59 w68) (mvT hZ59 w69) (notFace_of_selects (args := #[]) (mvT hZ59 w71)) (mvT hZ59 w71) (mvT hZ59 w70) (by decide) (backOf (W := 0) (rm_oppR l Z a0 hw []  o_65 r_65 T65.heap n0 (c66.keep K65 all0) p65_3) hZ59 w72 w53 (by decide) (by decide)) q68a q68c (g := (mkF m 130 #[.val (.int i_), .val (.int j_), .val (.int k_), .val (.int f_), .val (.int g_), .val (.ref r_1), .val (.int (g_ &&& (3 : Int32))), .val .null, .val .null, .val (.ref r_59), .val (.ref b61), .val (.int (1 : Int32)), .val (.ref o_65), .unset] [(.ref o_65)])) rfl (by rw [hml]; rfl) (Steps.refl _) (argsL := []) (rest := []) (lenOf own_pd8 rfl) rfl (by show 2 * 0 + _ ≤ _; exact Nat.le_of_eq rfl) (hb hby at_130) (fun _ _ => ⟨rfl, rfl, (by decide : 15 + 0 ≤ _), (by decide : 31 + 0 ≤ _)⟩)
        dsimp only [Pt.U, Pt.locs, Pt.cells, Pt.slots] at X68 l68 y68 z68 st68 hQ68
        subst l68 y68 z68
        obtain ⟨rfl, Nq68, e68⟩ := hQ68
        have N68 := Fr.app N65 Nq68
        refine otr (S' := T68.setTop (mkF m 133 #[.val (.int i_), .val (.int j_), .val (.int k_), .val (.int f_), .val (.int g_), .val (.ref r_1), .val (.int (g_ &&& (3 : Int32))), .val .null, .val .null, .val (.ref r_59), .val (.ref b61), .val (.int (1 : Int32)), .val (.ref o_65), .unset] [(.int (1 : Int32))])) st68 ?_
        refine o_iload X68 hx (hb hby at_133) rfl ?_
        refine o_icmpYes X68 hx 140 (hb hby at_135) (teq (by decide : (1 : Int32) = (1 : Int32))).1 (by decide) (by decide) ?_
        refine o_iload X68 hx (hb hby at_140) rfl ?_
        refine o_ifYes X68 hx 147 (hb hby at_142) (feq (by decide : ¬ ((1 : Int32) = (0 : Int32)))).2 (by decide) (by decide) ?_
        refine o_aload X68 hx (hb hby at_147) rfl rfl ?_
        obtain ⟨cq69, kq69, q69a, q69b, q69c⟩ := isOf hZ59 e68 p65_2
        obtain ⟨_, _, ⟨T69, L69, kc69, n69⟩, -, X69, ⟨Lc69, hQ69, l69, y69, z69⟩, st69⟩ := X68.virtualBack hx (y := yM23) (z := yM23) hown59 (mvT hZ59 w73) (mvT hZ59 w74) (notFace_of_selects (args := #[]) (mvT hZ59 w76)) (mvT hZ59 w76) (mvT hZ59 w75) (by decide) (backOf (W := 0) (rm_opg l Z a0 hw []  o_65 r_65 T65.heap n0 (c66.keep K65 all0) p65_3) hZ59 w77 w53 (by decide) (by decide)) q69a q69c (g := (mkF m 149 #[.val (.int i_), .val (.int j_), .val (.int k_), .val (.int f_), .val (.int g_), .val (.ref r_1), .val (.int (g_ &&& (3 : Int32))), .val .null, .val .null, .val (.ref r_59), .val (.ref b61), .val (.int (1 : Int32)), .val (.ref o_65), .unset] [(.ref o_65)])) rfl (by rw [hml]; rfl) (Steps.refl _) (argsL := []) (rest := []) (lenOf own_pd22 rfl) rfl (by show 2 * 0 + _ ≤ _; exact Nat.le_of_eq rfl) (hb hby at_149) (fun _ _ => ⟨rfl, e68, (by decide : 15 + 0 ≤ _), (by decide : 31 + 0 ≤ _)⟩)
        dsimp only [Pt.U, Pt.locs, Pt.cells, Pt.slots] at X69 l69 y69 z69 st69 hQ69
        subst l69 y69 z69
        obtain ⟨rfl, Nq69, e69⟩ := hQ69
        have N69 := Fr.app N68 Nq69
        refine otr (S' := T69.setTop (mkF m 152 #[.val (.int i_), .val (.int j_), .val (.int k_), .val (.int f_), .val (.int g_), .val (.ref r_1), .val (.int (g_ &&& (3 : Int32))), .val .null, .val .null, .val (.ref r_59), .val (.ref b61), .val (.int (1 : Int32)), .val (.ref o_65), .unset] [(.ref r_65)])) st69 ?_
        obtain ⟨T70, X70, e70, st70⟩ := castY X69 hx hZ59 hown59 w26 e69 (Ins.self p65_4) (g := (mkF m 152 #[.val (.int i_), .val (.int j_), .val (.int k_), .val (.int f_), .val (.int g_), .val (.ref r_1), .val (.int (g_ &&& (3 : Int32))), .val .null, .val .null, .val (.ref r_59), .val (.ref b61), .val (.int (1 : Int32)), .val (.ref o_65), .unset] [(.ref r_65)])) rfl rfl (hb hby at_152)
        refine ogo (S' := T70.setTop (mkF m 155 #[.val (.int i_), .val (.int j_), .val (.int k_), .val (.int f_), .val (.int g_), .val (.ref r_1), .val (.int (g_ &&& (3 : Int32))), .val .null, .val .null, .val (.ref r_59), .val (.ref b61), .val (.int (1 : Int32)), .val (.ref o_65), .unset] [(.ref r_65)])) st70 ?_
        refine o_astore X70 hx (l' := #[.val (.int i_), .val (.int j_), .val (.int k_), .val (.int f_), .val (.int g_), .val (.ref r_1), .val (.int (g_ &&& (3 : Int32))), .val .null, .val .null, .val (.ref r_59), .val (.ref b61), .val (.int (1 : Int32)), .val (.ref o_65), .val (.ref r_65)]) (hb hby at_155) rfl rfl ?_
        refine o_aload X70 hx (hb hby at_157) rfl rfl ?_
        obtain ⟨cq71, kq71, q71a, q71b, q71c⟩ := isOf hZ59 e70 p65_4
        obtain ⟨_, _, ⟨T71, L71, kc71, n71⟩, -, X71, ⟨Lc71, hQ71, l71, y71, z71⟩, st71⟩ := X70.virtualBack hx (y := yM24) (z := yM24) hown59 (mvT hZ59 w79) (mvT hZ59 w80) (notFace_of_selects (args := #[]) (mvT hZ59 w82)) (mvT hZ59 w82) (mvT hZ59 w81) (by decide) (backOf (W := 0) (rm_g_queue l Z a0 hw []  r_65 (.ref r_1) T65.heap n0 (c66.keep K65 all0) p65_5 (by first | rfl | assumption | decide | omega)) hZ59 w83 w28 (by decide) (by decide)) q71a q71c (g := (mkF m 159 #[.val (.int i_), .val (.int j_), .val (.int k_), .val (.int f_), .val (.int g_), .val (.ref r_1), .val (.int (g_ &&& (3 : Int32))), .val .null, .val .null, .val (.ref r_59), .val (.ref b61), .val (.int (1 : Int32)), .val (.ref o_65), .val (.ref r_65)] [(.ref r_65)])) rfl (by rw [hml]; rfl) (Steps.refl _) (argsL := []) (rest := []) (lenOf own_pd23 rfl) rfl (by show 2 * 0 + _ ≤ _; exact Nat.le_of_eq rfl) (hb hby at_159) (fun _ _ => ⟨rfl, e70, (by decide : 15 + 0 ≤ _), (by decide : 31 + 0 ≤ _)⟩)
        dsimp only [Pt.U, Pt.locs, Pt.cells, Pt.slots] at X71 l71 y71 z71 st71 hQ71
        subst l71 y71 z71
        obtain ⟨rfl, Nq71, e71⟩ := hQ71
        have N71 := Fr.app N69 Nq71
        refine otr (S' := T71.setTop (mkF m 162 #[.val (.int i_), .val (.int j_), .val (.int k_), .val (.int f_), .val (.int g_), .val (.ref r_1), .val (.int (g_ &&& (3 : Int32))), .val .null, .val .null, .val (.ref r_59), .val (.ref b61), .val (.int (1 : Int32)), .val (.ref o_65), .val (.ref r_65)] [(.ref r_1)])) st71 ?_
        refine o_aload X71 hx (hb hby at_162) rfl rfl ?_
        have c73 := (((Fld.ext E61 (p1_3.keep K59 nin0)).keep K63 (ninS (Nat.ne_of_lt (Nat.lt_of_lt_of_le (Nat.lt_of_lt_of_le p1_2.lt K59.1) (Nat.le_of_eq g61.symm))) nin0)).keep K65 nin0)
        have c74 := (((Fld.ext E61 (p1_4.keep K59 nin0)).keep K63 (ninS (Nat.ne_of_lt (Nat.lt_of_lt_of_le (Nat.lt_of_lt_of_le p1_2.lt K59.1) (Nat.le_of_eq g61.symm))) nin0)).keep K65 nin0)
        have c75 := ((((p1_5.keep K59 nin0).ext E61).keep K63 (ninS (Nat.ne_of_lt (Nat.lt_of_lt_of_le (Nat.lt_of_lt_of_le p1_1 K59.1) (Nat.le_of_eq g61.symm))) nin0)).keep K65 nin0)
        obtain ⟨_, _, ⟨T72, L72, kc72, n72⟩, -, X72, ⟨Lc72, hQ72, l72, y72, z72⟩, st72⟩ := Jvm.LawKit.callS X71 hx (y := yM13) hown59 (mvT hZ59 w84) (mvT hZ59 w85) (mvT hZ59 w2) (mvT hZ59 w86) (by decide) (backOf (W := 0) (rm_eqRR l Z a0 hw [] z_CS v_FMT s_EMPTY r_1 ba_1 kb_1 (own_ml i_) (own_mv i_) (own_ms i_) r_1 ba_1 kb_1 (own_ml i_) (own_mv i_) (own_ms i_) T65.heap n0 SB (c66.keep K65 all0) (((Exa.ext E61 (p1_2.keep K59)).keep K63).keep K65) c73 c74 c75 (((Exa.ext E61 (p1_2.keep K59)).keep K63).keep K65) c73 c74 c75 p1_6 p1_6) hZ59 w86 w2 (by decide) (by decide)) (g := (mkF m 164 #[.val (.int i_), .val (.int j_), .val (.int k_), .val (.int f_), .val (.int g_), .val (.ref r_1), .val (.int (g_ &&& (3 : Int32))), .val .null, .val .null, .val (.ref r_59), .val (.ref b61), .val (.int (1 : Int32)), .val (.ref o_65), .val (.ref r_65)] [(.ref r_1), (.ref r_1)])) rfl (by rw [hml]; rfl) (argsL := [(.ref r_1), (.ref r_1)]) (rest := []) (lenOf own_pd24 rfl) rfl (by show 2 * 0 + _ ≤ _; exact Nat.le_of_eq rfl) (hb hby at_164) (fun _ _ => ⟨rfl, e71, (by decide : 15 + 0 ≤ _), (by decide : 31 + 0 ≤ _)⟩)
        dsimp only [Pt.U, Pt.locs, Pt.cells, Pt.slots] at X72 l72 y72 z72 st72 hQ72
        subst l72 y72 z72
        obtain ⟨rfl, Nq72, e72⟩ := hQ72
        have N72 := Fr.app N71 Nq72
        refine ogo (S' := T72.setTop (mkF m 167 #[.val (.int i_), .val (.int j_), .val (.int k_), .val (.int f_), .val (.int g_), .val (.ref r_1), .val (.int (g_ &&& (3 : Int32))), .val .null, .val .null, .val (.ref r_59), .val (.ref b61), .val (.int (1 : Int32)), .val (.ref o_65), .val (.ref r_65)] [(.int (own_b (own_ms i_) (own_ms i_)))])) st72 ?_
        rw [own_bs]
        refine o_ifNo X72 hx (hb hby at_167) (feq (by decide : ¬ ((1 : Int32) = (0 : Int32)))).1 ?_
        refine o_aload X72 hx (hb hby at_170) rfl rfl ?_
        obtain ⟨cq76, kq76, q76a, q76b, q76c⟩ := isOf hZ59 e72 p65_4
        obtain ⟨_, _, ⟨T76, L76, kc76, n76⟩, -, X76, ⟨Lc76, hQ76, l76, y76, z76⟩, st76⟩ := X72.virtualBack hx (y := yM25) (z := yM25) hown59 (mvT hZ59 w98) (mvT hZ59 w99) (notFace_of_selects (args := #[]) (mvT hZ59 w101)) (mvT hZ59 w101) (mvT hZ59 w100) (by decide) (backOf (W := 0) (rm_g_space l Z a0 hw []  r_65 .null T65.heap n0 (c66.keep K65 all0) p65_6 (by first | rfl | assumption | decide | omega)) hZ59 w102 w28 (by decide) (by decide)) q76a q76c (g := (mkF m 172 #[.val (.int i_), .val (.int j_), .val (.int k_), .val (.int f_), .val (.int g_), .val (.ref r_1), .val (.int (g_ &&& (3 : Int32))), .val .null, .val .null, .val (.ref r_59), .val (.ref b61), .val (.int (1 : Int32)), .val (.ref o_65), .val (.ref r_65)] [(.ref r_65)])) rfl (by rw [hml]; rfl) (Steps.refl _) (argsL := []) (rest := []) (lenOf own_pd23 rfl) rfl (by show 2 * 0 + _ ≤ _; exact Nat.le_of_eq rfl) (hb hby at_172) (fun _ _ => ⟨rfl, e72, (by decide : 15 + 0 ≤ _), (by decide : 31 + 0 ≤ _)⟩)
        dsimp only [Pt.U, Pt.locs, Pt.cells, Pt.slots] at X76 l76 y76 z76 st76 hQ76
        subst l76 y76 z76
        obtain ⟨rfl, Nq76, e76⟩ := hQ76
        have N76 := Fr.app N72 Nq76
        refine otr (S' := T76.setTop (mkF m 175 #[.val (.int i_), .val (.int j_), .val (.int k_), .val (.int f_), .val (.int g_), .val (.ref r_1), .val (.int (g_ &&& (3 : Int32))), .val .null, .val .null, .val (.ref r_59), .val (.ref b61), .val (.int (1 : Int32)), .val (.ref o_65), .val (.ref r_65)] [.null])) st76 ?_
        refine o_aload X76 hx (hb hby at_175) rfl rfl ?_
        obtain ⟨_, _, ⟨T77, L77, kc77, n77⟩, -, X77, ⟨Lc77, hQ77, l77, y77, z77⟩, st77⟩ := Jvm.LawKit.callS X76 hx (y := yM13) hown59 (mvT hZ59 w84) (mvT hZ59 w85) (mvT hZ59 w2) (mvT hZ59 w86) (by decide) (backOf (W := 0) (rm_eqNN l Z a0 hw []   T65.heap n0 (c66.keep K65 all0) ) hZ59 w86 w2 (by decide) (by decide)) (g := (mkF m 177 #[.val (.int i_), .val (.int j_), .val (.int k_), .val (.int f_), .val (.int g_), .val (.ref r_1), .val (.int (g_ &&& (3 : Int32))), .val .null, .val .null, .val (.ref r_59), .val (.ref b61), .val (.int (1 : Int32)), .val (.ref o_65), .val (.ref r_65)] [.null, .null])) rfl (by rw [hml]; rfl) (argsL := [.null, .null]) (rest := []) (lenOf own_pd24 rfl) rfl (by show 2 * 0 + _ ≤ _; exact Nat.le_of_eq rfl) (hb hby at_177) (fun _ _ => ⟨rfl, e76, (by decide : 15 + 0 ≤ _), (by decide : 31 + 0 ≤ _)⟩)
        dsimp only [Pt.U, Pt.locs, Pt.cells, Pt.slots] at X77 l77 y77 z77 st77 hQ77
        subst l77 y77 z77
        obtain ⟨rfl, Nq77, e77⟩ := hQ77
        have N77 := Fr.app N76 Nq77
        refine ogo (S' := T77.setTop (mkF m 180 #[.val (.int i_), .val (.int j_), .val (.int k_), .val (.int f_), .val (.int g_), .val (.ref r_1), .val (.int (g_ &&& (3 : Int32))), .val .null, .val .null, .val (.ref r_59), .val (.ref b61), .val (.int (1 : Int32)), .val (.ref o_65), .val (.ref r_65)] [(.int (1 : Int32))])) st77 ?_
        refine o_ifNo X77 hx (hb hby at_180) (feq (by decide : ¬ ((1 : Int32) = (0 : Int32)))).1 ?_
        refine o_aload X77 hx (hb hby at_183) rfl rfl ?_
        obtain ⟨cq78, kq78, q78a, q78b, q78c⟩ := isOf hZ59 e77 p65_4
        obtain ⟨_, _, ⟨T78, L78, kc78, n78⟩, -, X78, ⟨Lc78, hQ78, l78, y78, z78⟩, st78⟩ := X77.virtualBack hx (y := yM26) (z := yM26) hown59 (mvT hZ59 w103) (mvT hZ59 w104) (notFace_of_selects (args := #[]) (mvT hZ59 w106)) (mvT hZ59 w106) (mvT hZ59 w105) (by decide) (backOf (W := 0) (rm_g_contentId l Z a0 hw []  r_65 (.ref r_59) T65.heap n0 (c66.keep K65 all0) p65_7 (by first | rfl | assumption | decide | omega)) hZ59 w107 w28 (by decide) (by decide)) q78a q78c (g := (mkF m 185 #[.val (.int i_), .val (.int j_), .val (.int k_), .val (.int f_), .val (.int g_), .val (.ref r_1), .val (.int (g_ &&& (3 : Int32))), .val .null, .val .null, .val (.ref r_59), .val (.ref b61), .val (.int (1 : Int32)), .val (.ref o_65), .val (.ref r_65)] [(.ref r_65)])) rfl (by rw [hml]; rfl) (Steps.refl _) (argsL := []) (rest := []) (lenOf own_pd23 rfl) rfl (by show 2 * 0 + _ ≤ _; exact Nat.le_of_eq rfl) (hb hby at_185) (fun _ _ => ⟨rfl, e77, (by decide : 15 + 0 ≤ _), (by decide : 31 + 0 ≤ _)⟩)
        dsimp only [Pt.U, Pt.locs, Pt.cells, Pt.slots] at X78 l78 y78 z78 st78 hQ78
        subst l78 y78 z78
        obtain ⟨rfl, Nq78, e78⟩ := hQ78
        have N78 := Fr.app N77 Nq78
        refine otr (S' := T78.setTop (mkF m 188 #[.val (.int i_), .val (.int j_), .val (.int k_), .val (.int f_), .val (.int g_), .val (.ref r_1), .val (.int (g_ &&& (3 : Int32))), .val .null, .val .null, .val (.ref r_59), .val (.ref b61), .val (.int (1 : Int32)), .val (.ref o_65), .val (.ref r_65)] [(.ref r_59)])) st78 ?_
        refine o_aload X78 hx (hb hby at_188) rfl rfl ?_
        have c80 := (((Fld.ext E61 p59_3).keep K63 (ninS (Nat.ne_of_lt (Nat.lt_of_lt_of_le (Nat.lt_of_lt_of_le p59_2.lt (Nat.le_refl _)) (Nat.le_of_eq g61.symm))) nin0)).keep K65 nin0)
        have c81 := (((Fld.ext E61 p59_4).keep K63 (ninS (Nat.ne_of_lt (Nat.lt_of_lt_of_le (Nat.lt_of_lt_of_le p59_2.lt (Nat.le_refl _)) (Nat.le_of_eq g61.symm))) nin0)).keep K65 nin0)
        have c82 := (((p59_5.ext E61).keep K63 (ninS (Nat.ne_of_lt (Nat.lt_of_lt_of_le (Nat.lt_of_lt_of_le p59_1 (Nat.le_refl _)) (Nat.le_of_eq g61.symm))) nin0)).keep K65 nin0)
        obtain ⟨_, _, ⟨T79, L79, kc79, n79⟩, -, X79, ⟨Lc79, hQ79, l79, y79, z79⟩, st79⟩ := Jvm.LawKit.callS X78 hx (y := yM13) hown59 (mvT hZ59 w84) (mvT hZ59 w85) (mvT hZ59 w2) (mvT hZ59 w86) (by decide) (backOf (W := 0) (rm_eqRR l Z a0 hw [] z_CS v_FMT s_EMPTY r_59 ba_59 kb_59 (own_ml f_) (own_mv f_) (own_ms f_) r_59 ba_59 kb_59 (own_ml f_) (own_mv f_) (own_ms f_) T65.heap n0 SB (c66.keep K65 all0) (((Exa.ext E61 p59_2).keep K63).keep K65) c80 c81 c82 (((Exa.ext E61 p59_2).keep K63).keep K65) c80 c81 c82 p59_6 p59_6) hZ59 w86 w2 (by decide) (by decide)) (g := (mkF m 190 #[.val (.int i_), .val (.int j_), .val (.int k_), .val (.int f_), .val (.int g_), .val (.ref r_1), .val (.int (g_ &&& (3 : Int32))), .val .null, .val .null, .val (.ref r_59), .val (.ref b61), .val (.int (1 : Int32)), .val (.ref o_65), .val (.ref r_65)] [(.ref r_59), (.ref r_59)])) rfl (by rw [hml]; rfl) (argsL := [(.ref r_59), (.ref r_59)]) (rest := []) (lenOf own_pd24 rfl) rfl (by show 2 * 0 + _ ≤ _; exact Nat.le_of_eq rfl) (hb hby at_190) (fun _ _ => ⟨rfl, e78, (by decide : 15 + 0 ≤ _), (by decide : 31 + 0 ≤ _)⟩)
        dsimp only [Pt.U, Pt.locs, Pt.cells, Pt.slots] at X79 l79 y79 z79 st79 hQ79
        subst l79 y79 z79
        obtain ⟨rfl, Nq79, e79⟩ := hQ79
        have N79 := Fr.app N78 Nq79
        refine ogo (S' := T79.setTop (mkF m 193 #[.val (.int i_), .val (.int j_), .val (.int k_), .val (.int f_), .val (.int g_), .val (.ref r_1), .val (.int (g_ &&& (3 : Int32))), .val .null, .val .null, .val (.ref r_59), .val (.ref b61), .val (.int (1 : Int32)), .val (.ref o_65), .val (.ref r_65)] [(.int (own_b (own_ms f_) (own_ms f_)))])) st79 ?_
        rw [own_bs]
        refine o_ifNo X79 hx (hb hby at_193) (feq (by decide : ¬ ((1 : Int32) = (0 : Int32)))).1 ?_
        refine o_iconst X79 hx (1 : Int32) (hb hby at_196) rfl ?_
        refine o_goto X79 hx 201 (hb hby at_197) (by decide) (by decide) ?_
        refine oendS X79 hlk hS59 (Nat.le_trans (Nat.le_refl _) (Nat.le_trans (Nat.le_trans E61.1 K63.1) K65.1)) e79 hZ59 hEL hs0 (CHr.trans (CHr.trans (CHr.trans (CHr.trans (CHr.trans (CHr.refl H0) C1) C59) (CHr.ext E61 H60)) (CHr.keep K63 (allS (Safe.exa hZ59.alike A61 (by decide) (by decide)) all0) H62)) (CHr.keep K65 all0 H64)) (v := some (.int (1 : Int32))) (fun h => by rw [hret] at h; cases h) (fun fs hr => retN X79 hx (t := .boolean) hret (by simp) (hb hby at_201) hr) (by decide) (by decide) ?_
        show own_Q_law Z _ _ _ _ _ _ _ _ h0 n0 _ T79.heap _
        rw [e79]
        exact ⟨rfl, N79, ((((((Keep.refl h0 []).trans K1 all0).trans K59 all0).ext E61).trans K63 (allS (Or.inr (Nat.le_trans (Nat.le_trans K1.1 K59.1) (Nat.le_of_eq g61.symm))) all0)).trans K65 all0)⟩
      · refine o_ifNo X1 hx (hb hby at_69) (feq hc58).1 ?_
        refine o_aconst_null X1 hx (hb hby at_72) ?_
        refine o_goto X1 hx 80 (hb hby at_73) (by decide) (by decide) ?_
        refine o_astore X1 hx (l' := #[.val (.int i_), .val (.int j_), .val (.int k_), .val (.int f_), .val (.int g_), .val (.ref r_1), .val (.int (g_ &&& (3 : Int32))), .val .null, .val .null, .val .null, .unset, .unset, .unset, .unset]) (hb hby at_80) rfl rfl ?_
        obtain ⟨T83, _, X83, rfl, E83, A83, D83, -, st83⟩ := newO X1 hx hZ1 hown1 w26 w27 w28 rfl (g := (mkF m 82 #[.val (.int i_), .val (.int j_), .val (.int k_), .val (.int f_), .val (.int g_), .val (.ref r_1), .val (.int (g_ &&& (3 : Int32))), .val .null, .val .null, .val .null, .unset, .unset, .unset, .unset] [])) rfl (hb hby at_82) (by decide) (by decide)
        obtain ⟨b83, g83⟩ : ∃ z, z = T1.heap.size := ⟨_, rfl⟩
        rw [← g83] at A83 D83 st83
        have n0_b83 : n0 ≤ b83 := Nat.le_trans (Nat.le_trans (Nat.le_of_eq O0.1.symm) O0.2.1) (Nat.le_trans K1.1 (Nat.le_of_eq g83.symm))
        have H84 := CHv.ext E83 H2
        have F83_queue : Fld Z T83.heap b83 "com/example/reliquary/reliquary/DeadLetterSelection" "queue" "Ljava/lang/String;" .null := D83 (Or.inr w39) (ty := (.object "java/lang/String")) (by decide)
        have F83_space : Fld Z T83.heap b83 "com/example/reliquary/reliquary/DeadLetterSelection" "space" "Ljava/lang/String;" .null := D83 (Or.inr w41) (ty := (.object "java/lang/String")) (by decide)
        have F83_contentId : Fld Z T83.heap b83 "com/example/reliquary/reliquary/DeadLetterSelection" "contentId" "Ljava/lang/String;" .null := D83 (Or.inr w43) (ty := (.object "java/lang/String")) (by decide)
        refine ogo (S' := T83.setTop (mkF m 85 #[.val (.int i_), .val (.int j_), .val (.int k_), .val (.int f_), .val (.int g_), .val (.ref r_1), .val (.int (g_ &&& (3 : Int32))), .val .null, .val .null, .val .null, .unset, .unset, .unset, .unset] [(.ref b83)])) st83 ?_
        refine o_dup X83 hx (hb hby at_85) rfl ?_
        refine o_aload X83 hx (hb hby at_86) rfl rfl ?_
        refine o_aload X83 hx (hb hby at_88) rfl rfl ?_
        refine o_aload X83 hx (hb hby at_90) rfl rfl ?_
        obtain ⟨_, _, ⟨T85, L85, kc85, n85⟩, -, X85, ⟨Lc85, hQ85, l85, y85, z85⟩, st85⟩ := X83.specialBack hx (y := yM17) rfl hown1 (mvT hZ1 w29) (mvT hZ1 w30) (mvT hZ1 w31) (by decide) (backOf (W := 1) (rm_dli l Z a0 hw []  b83 .null .null .null T83.heap n0 ((O0.keep K1 all0).ext E83) A83 F83_queue F83_space F83_contentId n0_b83 (by first | rfl | assumption | decide | omega) (by first | rfl | assumption | decide | omega) (by first | rfl | assumption | decide | omega) (by first | rfl | assumption | decide | omega) (by first | rfl | assumption | decide | omega) (by first | rfl | assumption | decide | omega)) hZ1 w31 w28 (by decide) (by decide)) (g := (mkF m 92 #[.val (.int i_), .val (.int j_), .val (.int k_), .val (.int f_), .val (.int g_), .val (.ref r_1), .val (.int (g_ &&& (3 : Int32))), .val .null, .val .null, .val .null, .unset, .unset, .unset, .unset] [.null, .null, .null, (.ref b83), (.ref b83)])) rfl (by rw [hml]; rfl) (Steps.refl _) (a := b83) (argsL := [.null, .null, .null]) (rest := [(.ref b83)]) (lenOf own_pd16 rfl) rfl (by show 2 * 0 + _ ≤ _; exact Nat.le_of_eq rfl) (hb hby at_92) (fun _ _ => ⟨rfl, rfl, (by decide : 7 + 0 ≤ _), (by decide : 15 + 0 ≤ _)⟩)
        dsimp only [Pt.U, Pt.locs, Pt.cells, Pt.slots] at X85 l85 y85 z85 st85 hQ85
        subst l85 y85 z85
        obtain ⟨rfl, Nq85, K85, p85_0, p85_1, p85_2, p85_3⟩ := hQ85
        have N85 := Fr.app N1 Nq85
        have H86 := CHv.keep K85 (allS (Safe.exa hZ1.alike A83 (by decide) (by decide)) all0) H84
        refine otr (S' := T85.setTop (mkF m 95 #[.val (.int i_), .val (.int j_), .val (.int k_), .val (.int f_), .val (.int g_), .val (.ref r_1), .val (.int (g_ &&& (3 : Int32))), .val .null, .val .null, .val .null, .unset, .unset, .unset, .unset] [(.ref b83)])) st85 ?_
        refine o_astore X85 hx (l' := #[.val (.int i_), .val (.int j_), .val (.int k_), .val (.int f_), .val (.int g_), .val (.ref r_1), .val (.int (g_ &&& (3 : Int32))), .val .null, .val .null, .val .null, .val (.ref b83), .unset, .unset, .unset]) (hb hby at_95) rfl rfl ?_
        refine o_aload X85 hx (hb hby at_97) rfl rfl ?_
        refine o_ifnullYes X85 hx 112 (hb hby at_99) (by decide) (by decide) ?_
        refine o_iconst X85 hx (1 : Int32) (hb hby at_112) rfl ?_
        refine o_goto X85 hx 117 (hb hby at_113) (by decide) (by decide) ?_
        refine o_istore X85 hx (l' := #[.val (.int i_), .val (.int j_), .val (.int k_), .val (.int f_), .val (.int g_), .val (.ref r_1), .val (.int (g_ &&& (3 : Int32))), .val .null, .val .null, .val .null, .val (.ref b83), .val (.int (1 : Int32)), .unset, .unset]) (hb hby at_117) rfl ?_
        refine o_aload X85 hx (hb hby at_119) rfl rfl ?_
        refine o_aload X85 hx (hb hby at_121) rfl rfl ?_
        obtain ⟨cq87, kq87, q87a, q87b, q87c⟩ := isOf hZ1 rfl p85_0
        obtain ⟨_, _, ⟨T87, L87, kc87, n87⟩, -, X87, ⟨Lc87, hQ87, l87, y87, z87⟩, st87⟩ := X85.virtualBack hx (y := yM27) (z := yM27) hown1 (mvT hZ1 w44) (mvT hZ1 w45) (notFace_of_selects (args := #[]) (mvT hZ1 w47)) (mvT hZ1 w47) (mvT hZ1 w46) (by decide) (backOf (W := 0) (rm_onqN l Z a0 hw []  b83 r_1 .null .null T85.heap n0 (((O0.keep K1 all0).ext E83).keep K85 (allS n0_b83 all0)) p85_0 p85_1 p85_2 p85_3 (by first | rfl | assumption | decide | omega) (by first | rfl | assumption | decide | omega) (by first | rfl | assumption | decide | omega) (by first | rfl | assumption | decide | omega)) hZ1 w48 w28 (by decide) (by decide)) q87a q87c (g := (mkF m 123 #[.val (.int i_), .val (.int j_), .val (.int k_), .val (.int f_), .val (.int g_), .val (.ref r_1), .val (.int (g_ &&& (3 : Int32))), .val .null, .val .null, .val .null, .val (.ref b83), .val (.int (1 : Int32)), .unset, .unset] [(.ref r_1), (.ref b83)])) rfl (by rw [hml]; rfl) (Steps.refl _) (argsL := [(.ref r_1)]) (rest := []) (lenOf own_pd21 rfl) rfl (by show 2 * 0 + _ ≤ _; exact Nat.le_of_eq rfl) (hb hby at_123) (fun _ _ => ⟨rfl, rfl, (by decide : 7 + 2 ≤ _), (by decide : 15 + 4 ≤ _)⟩)
        dsimp only [Pt.U, Pt.locs, Pt.cells, Pt.slots] at X87 l87 y87 z87 st87 hQ87
        subst l87 y87 z87
        obtain ⟨o_87, r_87, rfl, Nq87, K87, p87_0, p87_1, p87_2, p87_3, p87_4, p87_5, p87_6, p87_7⟩ := hQ87
        have N87 := Fr.app N85 Nq87
        have H88 := CHv.keep K87 all0 H86
        have n0_o_87 : n0 ≤ o_87 := Nat.le_trans (Nat.le_trans (Nat.le_of_eq O0.1.symm) O0.2.1) (Nat.le_trans (Nat.le_trans (Nat.le_trans K1.1 E83.1) K85.1) p87_0)
        have n0_r_87 : n0 ≤ r_87 := Nat.le_trans (Nat.le_trans (Nat.le_of_eq O0.1.symm) O0.2.1) (Nat.le_trans (Nat.le_trans (Nat.le_trans K1.1 E83.1) K85.1) p87_1)
        refine otr (S' := T87.setTop (mkF m 126 #[.val (.int i_), .val (.int j_), .val (.int k_), .val (.int f_), .val (.int g_), .val (.ref r_1), .val (.int (g_ &&& (3 : Int32))), .val .null, .val .null, .val .null, .val (.ref b83), .val (.int (1 : Int32)), .unset, .unset] [(.ref o_87)])) st87 ?_
        refine o_astore X87 hx (l' := #[.val (.int i_), .val (.int j_), .val (.int k_), .val (.int f_), .val (.int g_), .val (.ref r_1), .val (.int (g_ &&& (3 : Int32))), .val .null, .val .null, .val .null, .val (.ref b83), .val (.int (1 : Int32)), .val (.ref o_87), .unset]) (hb hby at_126) rfl rfl ?_
        refine o_aload X87 hx (hb hby at_128) rfl rfl ?_
        have c90 := ((((O0.keep K1 all0).ext E83).keep K85 (allS n0_b83 all0)).keep K87 all0)
        obtain ⟨cq89, kq89, q89a, q89b, q89c⟩ := isOf hZ1 rfl p87_2
        obtain ⟨_, _, ⟨T89, L89, kc89, n89⟩, -, X89, ⟨Lc89, hQ89, l89, y89, z89⟩, st89⟩ := X87.virtualBack hx (y := yM22) (z := yM22) hown1 (mvT hZ1 w68) (mvT hZ1 w69) (notFace_of_selects (args := #[]) (mvT hZ1 w71)) (mvT hZ1 w71) (mvT hZ1 w70) (by decide) (backOf (W := 0) (rm_oppR l Z a0 hw []  o_87 r_87 T87.heap n0 c90 p87_3) hZ1 w72 w53 (by decide) (by decide)) q89a q89c (g := (mkF m 130 #[.val (.int i_), .val (.int j_), .val (.int k_), .val (.int f_), .val (.int g_), .val (.ref r_1), .val (.int (g_ &&& (3 : Int32))), .val .null, .val .null, .val .null, .val (.ref b83), .val (.int (1 : Int32)), .val (.ref o_87), .unset] [(.ref o_87)])) rfl (by rw [hml]; rfl) (Steps.refl _) (argsL := []) (rest := []) (lenOf own_pd8 rfl) rfl (by show 2 * 0 + _ ≤ _; exact Nat.le_of_eq rfl) (hb hby at_130) (fun _ _ => ⟨rfl, rfl, (by decide : 9 + 0 ≤ _), (by decide : 19 + 0 ≤ _)⟩)
        dsimp only [Pt.U, Pt.locs, Pt.cells, Pt.slots] at X89 l89 y89 z89 st89 hQ89
        subst l89 y89 z89
        obtain ⟨rfl, Nq89, e89⟩ := hQ89
        have N89 := Fr.app N87 Nq89
        refine otr (S' := T89.setTop (mkF m 133 #[.val (.int i_), .val (.int j_), .val (.int k_), .val (.int f_), .val (.int g_), .val (.ref r_1), .val (.int (g_ &&& (3 : Int32))), .val .null, .val .null, .val .null, .val (.ref b83), .val (.int (1 : Int32)), .val (.ref o_87), .unset] [(.int (1 : Int32))])) st89 ?_
        refine o_iload X89 hx (hb hby at_133) rfl ?_
        refine o_icmpYes X89 hx 140 (hb hby at_135) (teq (by decide : (1 : Int32) = (1 : Int32))).1 (by decide) (by decide) ?_
        refine o_iload X89 hx (hb hby at_140) rfl ?_
        refine o_ifYes X89 hx 147 (hb hby at_142) (feq (by decide : ¬ ((1 : Int32) = (0 : Int32)))).2 (by decide) (by decide) ?_
        refine o_aload X89 hx (hb hby at_147) rfl rfl ?_
        obtain ⟨cq91, kq91, q91a, q91b, q91c⟩ := isOf hZ1 e89 p87_2
        obtain ⟨_, _, ⟨T91, L91, kc91, n91⟩, -, X91, ⟨Lc91, hQ91, l91, y91, z91⟩, st91⟩ := X89.virtualBack hx (y := yM23) (z := yM23) hown1 (mvT hZ1 w73) (mvT hZ1 w74) (notFace_of_selects (args := #[]) (mvT hZ1 w76)) (mvT hZ1 w76) (mvT hZ1 w75) (by decide) (backOf (W := 0) (rm_opg l Z a0 hw []  o_87 r_87 T87.heap n0 c90 p87_3) hZ1 w77 w53 (by decide) (by decide)) q91a q91c (g := (mkF m 149 #[.val (.int i_), .val (.int j_), .val (.int k_), .val (.int f_), .val (.int g_), .val (.ref r_1), .val (.int (g_ &&& (3 : Int32))), .val .null, .val .null, .val .null, .val (.ref b83), .val (.int (1 : Int32)), .val (.ref o_87), .unset] [(.ref o_87)])) rfl (by rw [hml]; rfl) (Steps.refl _) (argsL := []) (rest := []) (lenOf own_pd22 rfl) rfl (by show 2 * 0 + _ ≤ _; exact Nat.le_of_eq rfl) (hb hby at_149) (fun _ _ => ⟨rfl, e89, (by decide : 9 + 0 ≤ _), (by decide : 19 + 0 ≤ _)⟩)
        dsimp only [Pt.U, Pt.locs, Pt.cells, Pt.slots] at X91 l91 y91 z91 st91 hQ91
        subst l91 y91 z91
        obtain ⟨rfl, Nq91, e91⟩ := hQ91
        have N91 := Fr.app N89 Nq91
        refine otr (S' := T91.setTop (mkF m 152 #[.val (.int i_), .val (.int j_), .val (.int k_), .val (.int f_), .val (.int g_), .val (.ref r_1), .val (.int (g_ &&& (3 : Int32))), .val .null, .val .null, .val .null, .val (.ref b83), .val (.int (1 : Int32)), .val (.ref o_87), .unset] [(.ref r_87)])) st91 ?_
        obtain ⟨T92, X92, e92, st92⟩ := castY X91 hx hZ1 hown1 w26 e91 (Ins.self p87_4) (g := (mkF m 152 #[.val (.int i_), .val (.int j_), .val (.int k_), .val (.int f_), .val (.int g_), .val (.ref r_1), .val (.int (g_ &&& (3 : Int32))), .val .null, .val .null, .val .null, .val (.ref b83), .val (.int (1 : Int32)), .val (.ref o_87), .unset] [(.ref r_87)])) rfl rfl (hb hby at_152)
        refine ogo (S' := T92.setTop (mkF m 155 #[.val (.int i_), .val (.int j_), .val (.int k_), .val (.int f_), .val (.int g_), .val (.ref r_1), .val (.int (g_ &&& (3 : Int32))), .val .null, .val .null, .val .null, .val (.ref b83), .val (.int (1 : Int32)), .val (.ref o_87), .unset] [(.ref r_87)])) st92 ?_
        refine o_astore X92 hx (l' := #[.val (.int i_), .val (.int j_), .val (.int k_), .val (.int f_), .val (.int g_), .val (.ref r_1), .val (.int (g_ &&& (3 : Int32))), .val .null, .val .null, .val .null, .val (.ref b83), .val (.int (1 : Int32)), .val (.ref o_87), .val (.ref r_87)]) (hb hby at_155) rfl rfl ?_
        refine o_aload X92 hx (hb hby at_157) rfl rfl ?_
        obtain ⟨cq93, kq93, q93a, q93b, q93c⟩ := isOf hZ1 e92 p87_4
        obtain ⟨_, _, ⟨T93, L93, kc93, n93⟩, -, X93, ⟨Lc93, hQ93, l93, y93, z93⟩, st93⟩ := X92.virtualBack hx (y := yM24) (z := yM24) hown1 (mvT hZ1 w79) (mvT hZ1 w80) (notFace_of_selects (args := #[]) (mvT hZ1 w82)) (mvT hZ1 w82) (mvT hZ1 w81) (by decide) (backOf (W := 0) (rm_g_queue l Z a0 hw []  r_87 (.ref r_1) T87.heap n0 c90 p87_5 (by first | rfl | assumption | decide | omega)) hZ1 w83 w28 (by decide) (by decide)) q93a q93c (g := (mkF m 159 #[.val (.int i_), .val (.int j_), .val (.int k_), .val (.int f_), .val (.int g_), .val (.ref r_1), .val (.int (g_ &&& (3 : Int32))), .val .null, .val .null, .val .null, .val (.ref b83), .val (.int (1 : Int32)), .val (.ref o_87), .val (.ref r_87)] [(.ref r_87)])) rfl (by rw [hml]; rfl) (Steps.refl _) (argsL := []) (rest := []) (lenOf own_pd23 rfl) rfl (by show 2 * 0 + _ ≤ _; exact Nat.le_of_eq rfl) (hb hby at_159) (fun _ _ => ⟨rfl, e92, (by decide : 9 + 0 ≤ _), (by decide : 19 + 0 ≤ _)⟩)
        dsimp only [Pt.U, Pt.locs, Pt.cells, Pt.slots] at X93 l93 y93 z93 st93 hQ93
        subst l93 y93 z93
        obtain ⟨rfl, Nq93, e93⟩ := hQ93
        have N93 := Fr.app N91 Nq93
        refine otr (S' := T93.setTop (mkF m 162 #[.val (.int i_), .val (.int j_), .val (.int k_), .val (.int f_), .val (.int g_), .val (.ref r_1), .val (.int (g_ &&& (3 : Int32))), .val .null, .val .null, .val .null, .val (.ref b83), .val (.int (1 : Int32)), .val (.ref o_87), .val (.ref r_87)] [(.ref r_1)])) st93 ?_
        refine o_aload X93 hx (hb hby at_162) rfl rfl ?_
        have c95 := (((Fld.ext E83 p1_3).keep K85 (ninS (Nat.ne_of_lt (Nat.lt_of_lt_of_le (Nat.lt_of_lt_of_le p1_2.lt (Nat.le_refl _)) (Nat.le_of_eq g83.symm))) nin0)).keep K87 nin0)
        have c96 := (((Fld.ext E83 p1_4).keep K85 (ninS (Nat.ne_of_lt (Nat.lt_of_lt_of_le (Nat.lt_of_lt_of_le p1_2.lt (Nat.le_refl _)) (Nat.le_of_eq g83.symm))) nin0)).keep K87 nin0)
        have c97 := (((p1_5.ext E83).keep K85 (ninS (Nat.ne_of_lt (Nat.lt_of_lt_of_le (Nat.lt_of_lt_of_le p1_1 (Nat.le_refl _)) (Nat.le_of_eq g83.symm))) nin0)).keep K87 nin0)
        obtain ⟨_, _, ⟨T94, L94, kc94, n94⟩, -, X94, ⟨Lc94, hQ94, l94, y94, z94⟩, st94⟩ := Jvm.LawKit.callS X93 hx (y := yM13) hown1 (mvT hZ1 w84) (mvT hZ1 w85) (mvT hZ1 w2) (mvT hZ1 w86) (by decide) (backOf (W := 0) (rm_eqRR l Z a0 hw [] z_CS v_FMT s_EMPTY r_1 ba_1 kb_1 (own_ml i_) (own_mv i_) (own_ms i_) r_1 ba_1 kb_1 (own_ml i_) (own_mv i_) (own_ms i_) T87.heap n0 SB c90 (((Exa.ext E83 p1_2).keep K85).keep K87) c95 c96 c97 (((Exa.ext E83 p1_2).keep K85).keep K87) c95 c96 c97 p1_6 p1_6) hZ1 w86 w2 (by decide) (by decide)) (g := (mkF m 164 #[.val (.int i_), .val (.int j_), .val (.int k_), .val (.int f_), .val (.int g_), .val (.ref r_1), .val (.int (g_ &&& (3 : Int32))), .val .null, .val .null, .val .null, .val (.ref b83), .val (.int (1 : Int32)), .val (.ref o_87), .val (.ref r_87)] [(.ref r_1), (.ref r_1)])) rfl (by rw [hml]; rfl) (argsL := [(.ref r_1), (.ref r_1)]) (rest := []) (lenOf own_pd24 rfl) rfl (by show 2 * 0 + _ ≤ _; exact Nat.le_of_eq rfl) (hb hby at_164) (fun _ _ => ⟨rfl, e93, (by decide : 9 + 0 ≤ _), (by decide : 19 + 0 ≤ _)⟩)
        dsimp only [Pt.U, Pt.locs, Pt.cells, Pt.slots] at X94 l94 y94 z94 st94 hQ94
        subst l94 y94 z94
        obtain ⟨rfl, Nq94, e94⟩ := hQ94
        have N94 := Fr.app N93 Nq94
        refine ogo (S' := T94.setTop (mkF m 167 #[.val (.int i_), .val (.int j_), .val (.int k_), .val (.int f_), .val (.int g_), .val (.ref r_1), .val (.int (g_ &&& (3 : Int32))), .val .null, .val .null, .val .null, .val (.ref b83), .val (.int (1 : Int32)), .val (.ref o_87), .val (.ref r_87)] [(.int (own_b (own_ms i_) (own_ms i_)))])) st94 ?_
        rw [own_bs]
        refine o_ifNo X94 hx (hb hby at_167) (feq (by decide : ¬ ((1 : Int32) = (0 : Int32)))).1 ?_
        refine o_aload X94 hx (hb hby at_170) rfl rfl ?_
        obtain ⟨cq98, kq98, q98a, q98b, q98c⟩ := isOf hZ1 e94 p87_4
        obtain ⟨_, _, ⟨T98, L98, kc98, n98⟩, -, X98, ⟨Lc98, hQ98, l98, y98, z98⟩, st98⟩ := X94.virtualBack hx (y := yM25) (z := yM25) hown1 (mvT hZ1 w98) (mvT hZ1 w99) (notFace_of_selects (args := #[]) (mvT hZ1 w101)) (mvT hZ1 w101) (mvT hZ1 w100) (by decide) (backOf (W := 0) (rm_g_space l Z a0 hw []  r_87 .null T87.heap n0 c90 p87_6 (by first | rfl | assumption | decide | omega)) hZ1 w102 w28 (by decide) (by decide)) q98a q98c (g := (mkF m 172 #[.val (.int i_), .val (.int j_), .val (.int k_), .val (.int f_), .val (.int g_), .val (.ref r_1), .val (.int (g_ &&& (3 : Int32))), .val .null, .val .null, .val .null, .val (.ref b83), .val (.int (1 : Int32)), .val (.ref o_87), .val (.ref r_87)] [(.ref r_87)])) rfl (by rw [hml]; rfl) (Steps.refl _) (argsL := []) (rest := []) (lenOf own_pd23 rfl) rfl (by show 2 * 0 + _ ≤ _; exact Nat.le_of_eq rfl) (hb hby at_172) (fun _ _ => ⟨rfl, e94, (by decide : 9 + 0 ≤ _), (by decide : 19 + 0 ≤ _)⟩)
        dsimp only [Pt.U, Pt.locs, Pt.cells, Pt.slots] at X98 l98 y98 z98 st98 hQ98
        subst l98 y98 z98
        obtain ⟨rfl, Nq98, e98⟩ := hQ98
        have N98 := Fr.app N94 Nq98
        refine otr (S' := T98.setTop (mkF m 175 #[.val (.int i_), .val (.int j_), .val (.int k_), .val (.int f_), .val (.int g_), .val (.ref r_1), .val (.int (g_ &&& (3 : Int32))), .val .null, .val .null, .val .null, .val (.ref b83), .val (.int (1 : Int32)), .val (.ref o_87), .val (.ref r_87)] [.null])) st98 ?_
        refine o_aload X98 hx (hb hby at_175) rfl rfl ?_
        obtain ⟨_, _, ⟨T99, L99, kc99, n99⟩, -, X99, ⟨Lc99, hQ99, l99, y99, z99⟩, st99⟩ := Jvm.LawKit.callS X98 hx (y := yM13) hown1 (mvT hZ1 w84) (mvT hZ1 w85) (mvT hZ1 w2) (mvT hZ1 w86) (by decide) (backOf (W := 0) (rm_eqNN l Z a0 hw []   T87.heap n0 c90 ) hZ1 w86 w2 (by decide) (by decide)) (g := (mkF m 177 #[.val (.int i_), .val (.int j_), .val (.int k_), .val (.int f_), .val (.int g_), .val (.ref r_1), .val (.int (g_ &&& (3 : Int32))), .val .null, .val .null, .val .null, .val (.ref b83), .val (.int (1 : Int32)), .val (.ref o_87), .val (.ref r_87)] [.null, .null])) rfl (by rw [hml]; rfl) (argsL := [.null, .null]) (rest := []) (lenOf own_pd24 rfl) rfl (by show 2 * 0 + _ ≤ _; exact Nat.le_of_eq rfl) (hb hby at_177) (fun _ _ => ⟨rfl, e98, (by decide : 9 + 0 ≤ _), (by decide : 19 + 0 ≤ _)⟩)
        dsimp only [Pt.U, Pt.locs, Pt.cells, Pt.slots] at X99 l99 y99 z99 st99 hQ99
        subst l99 y99 z99
        obtain ⟨rfl, Nq99, e99⟩ := hQ99
        have N99 := Fr.app N98 Nq99
        refine ogo (S' := T99.setTop (mkF m 180 #[.val (.int i_), .val (.int j_), .val (.int k_), .val (.int f_), .val (.int g_), .val (.ref r_1), .val (.int (g_ &&& (3 : Int32))), .val .null, .val .null, .val .null, .val (.ref b83), .val (.int (1 : Int32)), .val (.ref o_87), .val (.ref r_87)] [(.int (1 : Int32))])) st99 ?_
        refine o_ifNo X99 hx (hb hby at_180) (feq (by decide : ¬ ((1 : Int32) = (0 : Int32)))).1 ?_
        refine o_aload X99 hx (hb hby at_183) rfl rfl ?_
        obtain ⟨cq100, kq100, q100a, q100b, q100c⟩ := isOf hZ1 e99 p87_4
        obtain ⟨_, _, ⟨T100, L100, kc100, n100⟩, -, X100, ⟨Lc100, hQ100, l100, y100, z100⟩, st100⟩ := X99.virtualBack hx (y := yM26) (z := yM26) hown1 (mvT hZ1 w103) (mvT hZ1 w104) (notFace_of_selects (args := #[]) (mvT hZ1 w106)) (mvT hZ1 w106) (mvT hZ1 w105) (by decide) (backOf (W := 0) (rm_g_contentId l Z a0 hw []  r_87 .null T87.heap n0 c90 p87_7 (by first | rfl | assumption | decide | omega)) hZ1 w107 w28 (by decide) (by decide)) q100a q100c (g := (mkF m 185 #[.val (.int i_), .val (.int j_), .val (.int k_), .val (.int f_), .val (.int g_), .val (.ref r_1), .val (.int (g_ &&& (3 : Int32))), .val .null, .val .null, .val .null, .val (.ref b83), .val (.int (1 : Int32)), .val (.ref o_87), .val (.ref r_87)] [(.ref r_87)])) rfl (by rw [hml]; rfl) (Steps.refl _) (argsL := []) (rest := []) (lenOf own_pd23 rfl) rfl (by show 2 * 0 + _ ≤ _; exact Nat.le_of_eq rfl) (hb hby at_185) (fun _ _ => ⟨rfl, e99, (by decide : 9 + 0 ≤ _), (by decide : 19 + 0 ≤ _)⟩)
        dsimp only [Pt.U, Pt.locs, Pt.cells, Pt.slots] at X100 l100 y100 z100 st100 hQ100
        subst l100 y100 z100
        obtain ⟨rfl, Nq100, e100⟩ := hQ100
        have N100 := Fr.app N99 Nq100
        refine otr (S' := T100.setTop (mkF m 188 #[.val (.int i_), .val (.int j_), .val (.int k_), .val (.int f_), .val (.int g_), .val (.ref r_1), .val (.int (g_ &&& (3 : Int32))), .val .null, .val .null, .val .null, .val (.ref b83), .val (.int (1 : Int32)), .val (.ref o_87), .val (.ref r_87)] [.null])) st100 ?_
        refine o_aload X100 hx (hb hby at_188) rfl rfl ?_
        obtain ⟨_, _, ⟨T101, L101, kc101, n101⟩, -, X101, ⟨Lc101, hQ101, l101, y101, z101⟩, st101⟩ := Jvm.LawKit.callS X100 hx (y := yM13) hown1 (mvT hZ1 w84) (mvT hZ1 w85) (mvT hZ1 w2) (mvT hZ1 w86) (by decide) (backOf (W := 0) (rm_eqNN l Z a0 hw []   T87.heap n0 c90 ) hZ1 w86 w2 (by decide) (by decide)) (g := (mkF m 190 #[.val (.int i_), .val (.int j_), .val (.int k_), .val (.int f_), .val (.int g_), .val (.ref r_1), .val (.int (g_ &&& (3 : Int32))), .val .null, .val .null, .val .null, .val (.ref b83), .val (.int (1 : Int32)), .val (.ref o_87), .val (.ref r_87)] [.null, .null])) rfl (by rw [hml]; rfl) (argsL := [.null, .null]) (rest := []) (lenOf own_pd24 rfl) rfl (by show 2 * 0 + _ ≤ _; exact Nat.le_of_eq rfl) (hb hby at_190) (fun _ _ => ⟨rfl, e100, (by decide : 9 + 0 ≤ _), (by decide : 19 + 0 ≤ _)⟩)
        dsimp only [Pt.U, Pt.locs, Pt.cells, Pt.slots] at X101 l101 y101 z101 st101 hQ101
        subst l101 y101 z101
        obtain ⟨rfl, Nq101, e101⟩ := hQ101
        have N101 := Fr.app N100 Nq101
        refine ogo (S' := T101.setTop (mkF m 193 #[.val (.int i_), .val (.int j_), .val (.int k_), .val (.int f_), .val (.int g_), .val (.ref r_1), .val (.int (g_ &&& (3 : Int32))), .val .null, .val .null, .val .null, .val (.ref b83), .val (.int (1 : Int32)), .val (.ref o_87), .val (.ref r_87)] [(.int (1 : Int32))])) st101 ?_
        refine o_ifNo X101 hx (hb hby at_193) (feq (by decide : ¬ ((1 : Int32) = (0 : Int32)))).1 ?_
        refine o_iconst X101 hx (1 : Int32) (hb hby at_196) rfl ?_
        refine o_goto X101 hx 201 (hb hby at_197) (by decide) (by decide) ?_
        refine oendS X101 hlk hS1 (Nat.le_trans (Nat.le_refl _) (Nat.le_trans (Nat.le_trans E83.1 K85.1) K87.1)) e101 hZ1 hEL hs0 (CHr.trans (CHr.trans (CHr.trans (CHr.trans (CHr.refl H0) C1) (CHr.ext E83 H2)) (CHr.keep K85 (allS (Safe.exa hZ1.alike A83 (by decide) (by decide)) all0) H84)) (CHr.keep K87 all0 H86)) (v := some (.int (1 : Int32))) (fun h => by rw [hret] at h; cases h) (fun fs hr => retN X101 hx (t := .boolean) hret (by simp) (hb hby at_201) hr) (by decide) (by decide) ?_
        show own_Q_law Z _ _ _ _ _ _ _ _ h0 n0 _ T101.heap _
        rw [e101]
        exact ⟨rfl, N101, (((((Keep.refl h0 []).trans K1 all0).ext E83).trans K85 (allS (Or.inr (Nat.le_trans K1.1 (Nat.le_of_eq g83.symm))) all0)).trans K87 all0)⟩
  · refine o_ifYes X1 hx 23 (hb hby at_14) (feq hc3).2 (by decide) (by decide) ?_
    refine o_iload X1 hx (hb hby at_23) rfl ?_
    refine o_iconst X1 hx (1 : Int32) (hb hby at_25) rfl ?_
    by_cases hc102 : (g_ &&& (3 : Int32)) = (1 : Int32)
    · refine o_icmpNo X1 hx (hb hby at_26) (teq hc102).2 ?_
      refine o_iloadN X1 hx (hb hby at_29) rfl ?_
      obtain ⟨_, _, ⟨T103, L103, kc103, n103⟩, -, X103, hSi103, hgr103, ⟨Lc103, hQ103, l103, y103, z103, C103⟩, st103⟩ := callSS X1 hx (y := yM5) hown1 (mvT hZ1 w0) (mvT hZ1 w1) (mvT hZ1 w2) (mvT hZ1 w3) (by decide) (backOfSH (W := 0) (rm_mk l Z a0 hw [] z_CS v_FMT s_EMPTY i_ T1.heap n0 SB (O0.keep K1 all0) ) hZ1 w3 w2 (by decide) (by decide) hEL H2) (g := (mkF m 30 #[.val (.int i_), .val (.int j_), .val (.int k_), .val (.int f_), .val (.int g_), .val (.ref r_1), .val (.int (g_ &&& (3 : Int32))), .unset, .unset, .unset, .unset, .unset, .unset, .unset] [(.int i_)])) rfl (by rw [hml]; rfl) (argsL := [(.int i_)]) (rest := []) (lenOf own_pd20 rfl) rfl (by show 2 * 0 + _ ≤ _; exact Nat.le_of_eq rfl) (hb hby at_30) (fun _ _ => ⟨rfl, rfl, (by decide : 6 + 6 ≤ _), (by decide : 12 + 12 ≤ _)⟩)
      dsimp only [Pt.U, Pt.locs, Pt.cells, Pt.slots] at X103 l103 y103 z103 st103 hQ103 hSi103 hgr103 C103
      subst l103 y103 z103
      obtain ⟨r_103, ba_103, kb_103, rfl, Nq103, K103, p103_0, p103_1, p103_2, p103_3, p103_4, p103_5, p103_6⟩ := hQ103
      have N103 := Fr.app N1 Nq103
      have X103 : Stand p l e room_1 (s.setVm T103.vm) m #[(.int i_), (.int j_), (.int k_), (.int f_), (.int g_)] below meth c T103 _ _ _ := X103
      have hS103 := foldS hS1 (Nat.le_refl _) hSi103 hgr103
      have hZ103 : Z.Warmed39 T103.vm := State.Warmed39.trans (t := (s.setVm T1.vm)) hZ1 hSi103.1
      have hown103 : T103.vm.findClass "com/example/reliquary/reliquary/DeadLetterSelectionOnQueuePinLaw" = some m.cls := by rw [hSi103.1.alike.findClass]; exact hown1
      have H104 := C103.1
      have n0_r_103 : n0 ≤ r_103 := Nat.le_trans (Nat.le_trans (Nat.le_of_eq O0.1.symm) O0.2.1) (Nat.le_trans K1.1 p103_0)
      refine otr (S' := T103.setTop (mkF m 33 #[.val (.int i_), .val (.int j_), .val (.int k_), .val (.int f_), .val (.int g_), .val (.ref r_1), .val (.int (g_ &&& (3 : Int32))), .unset, .unset, .unset, .unset, .unset, .unset, .unset] [(.ref r_103)])) st103 ?_
      refine o_astore X103 hx (l' := #[.val (.int i_), .val (.int j_), .val (.int k_), .val (.int f_), .val (.int g_), .val (.ref r_1), .val (.int (g_ &&& (3 : Int32))), .val (.ref r_103), .unset, .unset, .unset, .unset, .unset, .unset]) (hb hby at_33) rfl rfl ?_
      refine o_goto X103 hx 44 (hb hby at_35) (by decide) (by decide) ?_
      refine o_iload X103 hx (hb hby at_44) rfl ?_
      refine o_iconst X103 hx (2 : Int32) (hb hby at_46) rfl ?_
      refine o_iushr X103 hx (hb hby at_47) ?_
      refine o_iconst X103 hx (1 : Int32) (hb hby at_48) rfl ?_
      refine o_iand X103 hx (hb hby at_49) ?_
      by_cases hc105 : ((own_ushr g_ (2 : Int32)) &&& (1 : Int32)) = (0 : Int32)
      · refine o_ifYes X103 hx 57 (hb hby at_50) (teq hc105).1 (by decide) (by decide) ?_
        refine o_iloadN X103 hx (hb hby at_57) rfl ?_
        obtain ⟨_, _, ⟨T106, L106, kc106, n106⟩, -, X106, hSi106, hgr106, ⟨Lc106, hQ106, l106, y106, z106, C106⟩, st106⟩ := callSS X103 hx (y := yM5) hown103 (mvT hZ103 w0) (mvT hZ103 w1) (mvT hZ103 w2) (mvT hZ103 w3) (by decide) (backOfSH (W := 0) (rm_mk l Z a0 hw [] z_CS v_FMT s_EMPTY k_ T103.heap n0 SB ((O0.keep K1 all0).keep K103 all0) ) hZ103 w3 w2 (by decide) (by decide) hEL H104) (g := (mkF m 58 #[.val (.int i_), .val (.int j_), .val (.int k_), .val (.int f_), .val (.int g_), .val (.ref r_1), .val (.int (g_ &&& (3 : Int32))), .val (.ref r_103), .unset, .unset, .unset, .unset, .unset, .unset] [(.int k_)])) rfl (by rw [hml]; rfl) (argsL := [(.int k_)]) (rest := []) (lenOf own_pd20 rfl) rfl (by show 2 * 0 + _ ≤ _; exact Nat.le_of_eq rfl) (hb hby at_58) (fun _ _ => ⟨rfl, rfl, (by decide : 12 + 6 ≤ _), (by decide : 24 + 12 ≤ _)⟩)
        dsimp only [Pt.U, Pt.locs, Pt.cells, Pt.slots] at X106 l106 y106 z106 st106 hQ106 hSi106 hgr106 C106
        subst l106 y106 z106
        obtain ⟨r_106, ba_106, kb_106, rfl, Nq106, K106, p106_0, p106_1, p106_2, p106_3, p106_4, p106_5, p106_6⟩ := hQ106
        have N106 := Fr.app N103 Nq106
        have X106 : Stand p l e room_1 (s.setVm T106.vm) m #[(.int i_), (.int j_), (.int k_), (.int f_), (.int g_)] below meth c T106 _ _ _ := X106
        have hS106 := foldS hS103 (Nat.le_refl _) hSi106 hgr106
        have hZ106 : Z.Warmed39 T106.vm := State.Warmed39.trans (t := (s.setVm T103.vm)) hZ103 hSi106.1
        have hown106 : T106.vm.findClass "com/example/reliquary/reliquary/DeadLetterSelectionOnQueuePinLaw" = some m.cls := by rw [hSi106.1.alike.findClass]; exact hown103
        have H107 := C106.1
        have n0_r_106 : n0 ≤ r_106 := Nat.le_trans (Nat.le_trans (Nat.le_of_eq O0.1.symm) O0.2.1) (Nat.le_trans (Nat.le_trans K1.1 K103.1) p106_0)
        refine otr (S' := T106.setTop (mkF m 61 #[.val (.int i_), .val (.int j_), .val (.int k_), .val (.int f_), .val (.int g_), .val (.ref r_1), .val (.int (g_ &&& (3 : Int32))), .val (.ref r_103), .unset, .unset, .unset, .unset, .unset, .unset] [(.ref r_106)])) st106 ?_
        refine o_astore X106 hx (l' := #[.val (.int i_), .val (.int j_), .val (.int k_), .val (.int f_), .val (.int g_), .val (.ref r_1), .val (.int (g_ &&& (3 : Int32))), .val (.ref r_103), .val (.ref r_106), .unset, .unset, .unset, .unset, .unset]) (hb hby at_61) rfl rfl ?_
        refine o_iload X106 hx (hb hby at_63) rfl ?_
        refine o_iconst X106 hx (3 : Int32) (hb hby at_65) rfl ?_
        refine o_iushr X106 hx (hb hby at_66) ?_
        refine o_iconst X106 hx (1 : Int32) (hb hby at_67) rfl ?_
        refine o_iand X106 hx (hb hby at_68) ?_
        by_cases hc108 : ((own_ushr g_ (3 : Int32)) &&& (1 : Int32)) = (0 : Int32)
        · refine o_ifYes X106 hx 76 (hb hby at_69) (teq hc108).1 (by decide) (by decide) ?_
          refine o_iloadN X106 hx (hb hby at_76) rfl ?_
          obtain ⟨_, _, ⟨T109, L109, kc109, n109⟩, -, X109, hSi109, hgr109, ⟨Lc109, hQ109, l109, y109, z109, C109⟩, st109⟩ := callSS X106 hx (y := yM5) hown106 (mvT hZ106 w0) (mvT hZ106 w1) (mvT hZ106 w2) (mvT hZ106 w3) (by decide) (backOfSH (W := 0) (rm_mk l Z a0 hw [] z_CS v_FMT s_EMPTY f_ T106.heap n0 SB (((O0.keep K1 all0).keep K103 all0).keep K106 all0) ) hZ106 w3 w2 (by decide) (by decide) hEL H107) (g := (mkF m 77 #[.val (.int i_), .val (.int j_), .val (.int k_), .val (.int f_), .val (.int g_), .val (.ref r_1), .val (.int (g_ &&& (3 : Int32))), .val (.ref r_103), .val (.ref r_106), .unset, .unset, .unset, .unset, .unset] [(.int f_)])) rfl (by rw [hml]; rfl) (argsL := [(.int f_)]) (rest := []) (lenOf own_pd20 rfl) rfl (by show 2 * 0 + _ ≤ _; exact Nat.le_of_eq rfl) (hb hby at_77) (fun _ _ => ⟨rfl, rfl, (by decide : 18 + 6 ≤ _), (by decide : 36 + 12 ≤ _)⟩)
          dsimp only [Pt.U, Pt.locs, Pt.cells, Pt.slots] at X109 l109 y109 z109 st109 hQ109 hSi109 hgr109 C109
          subst l109 y109 z109
          obtain ⟨r_109, ba_109, kb_109, rfl, Nq109, K109, p109_0, p109_1, p109_2, p109_3, p109_4, p109_5, p109_6⟩ := hQ109
          have N109 := Fr.app N106 Nq109
          have X109 : Stand p l e room_1 (s.setVm T109.vm) m #[(.int i_), (.int j_), (.int k_), (.int f_), (.int g_)] below meth c T109 _ _ _ := X109
          have hS109 := foldS hS106 (Nat.le_refl _) hSi109 hgr109
          have hZ109 : Z.Warmed39 T109.vm := State.Warmed39.trans (t := (s.setVm T106.vm)) hZ106 hSi109.1
          have hown109 : T109.vm.findClass "com/example/reliquary/reliquary/DeadLetterSelectionOnQueuePinLaw" = some m.cls := by rw [hSi109.1.alike.findClass]; exact hown106
          have H110 := C109.1
          have n0_r_109 : n0 ≤ r_109 := Nat.le_trans (Nat.le_trans (Nat.le_of_eq O0.1.symm) O0.2.1) (Nat.le_trans (Nat.le_trans (Nat.le_trans K1.1 K103.1) K106.1) p109_0)
          refine otr (S' := T109.setTop (mkF m 80 #[.val (.int i_), .val (.int j_), .val (.int k_), .val (.int f_), .val (.int g_), .val (.ref r_1), .val (.int (g_ &&& (3 : Int32))), .val (.ref r_103), .val (.ref r_106), .unset, .unset, .unset, .unset, .unset] [(.ref r_109)])) st109 ?_
          refine o_astore X109 hx (l' := #[.val (.int i_), .val (.int j_), .val (.int k_), .val (.int f_), .val (.int g_), .val (.ref r_1), .val (.int (g_ &&& (3 : Int32))), .val (.ref r_103), .val (.ref r_106), .val (.ref r_109), .unset, .unset, .unset, .unset]) (hb hby at_80) rfl rfl ?_
          obtain ⟨T111, _, X111, rfl, E111, A111, D111, -, st111⟩ := newO X109 hx hZ109 hown109 w26 w27 w28 rfl (g := (mkF m 82 #[.val (.int i_), .val (.int j_), .val (.int k_), .val (.int f_), .val (.int g_), .val (.ref r_1), .val (.int (g_ &&& (3 : Int32))), .val (.ref r_103), .val (.ref r_106), .val (.ref r_109), .unset, .unset, .unset, .unset] [])) rfl (hb hby at_82) (by decide) (by decide)
          obtain ⟨b111, g111⟩ : ∃ z, z = T109.heap.size := ⟨_, rfl⟩
          rw [← g111] at A111 D111 st111
          have n0_b111 : n0 ≤ b111 := Nat.le_trans (Nat.le_trans (Nat.le_of_eq O0.1.symm) O0.2.1) (Nat.le_trans (Nat.le_trans (Nat.le_trans (Nat.le_trans K1.1 K103.1) K106.1) K109.1) (Nat.le_of_eq g111.symm))
          have H112 := CHv.ext E111 H110
          have F111_queue : Fld Z T111.heap b111 "com/example/reliquary/reliquary/DeadLetterSelection" "queue" "Ljava/lang/String;" .null := D111 (Or.inr w39) (ty := (.object "java/lang/String")) (by decide)
          have F111_space : Fld Z T111.heap b111 "com/example/reliquary/reliquary/DeadLetterSelection" "space" "Ljava/lang/String;" .null := D111 (Or.inr w41) (ty := (.object "java/lang/String")) (by decide)
          have F111_contentId : Fld Z T111.heap b111 "com/example/reliquary/reliquary/DeadLetterSelection" "contentId" "Ljava/lang/String;" .null := D111 (Or.inr w43) (ty := (.object "java/lang/String")) (by decide)
          refine ogo (S' := T111.setTop (mkF m 85 #[.val (.int i_), .val (.int j_), .val (.int k_), .val (.int f_), .val (.int g_), .val (.ref r_1), .val (.int (g_ &&& (3 : Int32))), .val (.ref r_103), .val (.ref r_106), .val (.ref r_109), .unset, .unset, .unset, .unset] [(.ref b111)])) st111 ?_
          refine o_dup X111 hx (hb hby at_85) rfl ?_
          refine o_aload X111 hx (hb hby at_86) rfl rfl ?_
          refine o_aload X111 hx (hb hby at_88) rfl rfl ?_
          refine o_aload X111 hx (hb hby at_90) rfl rfl ?_
          have c114 := (((((O0.keep K1 all0).keep K103 all0).keep K106 all0).keep K109 all0).ext E111)
          obtain ⟨_, _, ⟨T113, L113, kc113, n113⟩, -, X113, ⟨Lc113, hQ113, l113, y113, z113⟩, st113⟩ := X111.specialBack hx (y := yM17) rfl hown109 (mvT hZ109 w29) (mvT hZ109 w30) (mvT hZ109 w31) (by decide) (backOf (W := 1) (rm_dli l Z a0 hw []  b111 (.ref r_103) (.ref r_106) (.ref r_109) T111.heap n0 c114 A111 F111_queue F111_space F111_contentId n0_b111 (by first | rfl | assumption | decide | omega) (by first | rfl | assumption | decide | omega) (by first | rfl | assumption | decide | omega) (by first | rfl | assumption | decide | omega) (by first | rfl | assumption | decide | omega) (by first | rfl | assumption | decide | omega)) hZ109 w31 w28 (by decide) (by decide)) (g := (mkF m 92 #[.val (.int i_), .val (.int j_), .val (.int k_), .val (.int f_), .val (.int g_), .val (.ref r_1), .val (.int (g_ &&& (3 : Int32))), .val (.ref r_103), .val (.ref r_106), .val (.ref r_109), .unset, .unset, .unset, .unset] [(.ref r_109), (.ref r_106), (.ref r_103), (.ref b111), (.ref b111)])) rfl (by rw [hml]; rfl) (Steps.refl _) (a := b111) (argsL := [(.ref r_103), (.ref r_106), (.ref r_109)]) (rest := [(.ref b111)]) (lenOf own_pd16 rfl) rfl (by show 2 * 0 + _ ≤ _; exact Nat.le_of_eq rfl) (hb hby at_92) (fun _ _ => ⟨rfl, rfl, (by decide : 25 + 0 ≤ _), (by decide : 51 + 0 ≤ _)⟩)
          dsimp only [Pt.U, Pt.locs, Pt.cells, Pt.slots] at X113 l113 y113 z113 st113 hQ113
          subst l113 y113 z113
          obtain ⟨rfl, Nq113, K113, p113_0, p113_1, p113_2, p113_3⟩ := hQ113
          have N113 := Fr.app N109 Nq113
          have H115 := CHv.keep K113 (allS (Safe.exa hZ109.alike A111 (by decide) (by decide)) all0) H112
          refine otr (S' := T113.setTop (mkF m 95 #[.val (.int i_), .val (.int j_), .val (.int k_), .val (.int f_), .val (.int g_), .val (.ref r_1), .val (.int (g_ &&& (3 : Int32))), .val (.ref r_103), .val (.ref r_106), .val (.ref r_109), .unset, .unset, .unset, .unset] [(.ref b111)])) st113 ?_
          refine o_astore X113 hx (l' := #[.val (.int i_), .val (.int j_), .val (.int k_), .val (.int f_), .val (.int g_), .val (.ref r_1), .val (.int (g_ &&& (3 : Int32))), .val (.ref r_103), .val (.ref r_106), .val (.ref r_109), .val (.ref b111), .unset, .unset, .unset]) (hb hby at_95) rfl rfl ?_
          refine o_aload X113 hx (hb hby at_97) rfl rfl ?_
          refine o_ifnullNo X113 hx (hb hby at_99) ?_
          refine o_aload X113 hx (hb hby at_102) rfl rfl ?_
          refine o_aload X113 hx (hb hby at_104) rfl rfl ?_
          have c117 := ((Fld.ext E111 ((p103_3.keep K106 nin0).keep K109 nin0)).keep K113 (ninS (Nat.ne_of_lt (Nat.lt_of_lt_of_le (Nat.lt_of_lt_of_le p103_2.lt (Nat.le_trans K106.1 K109.1)) (Nat.le_of_eq g111.symm))) nin0))
          have c118 := ((Fld.ext E111 ((p103_4.keep K106 nin0).keep K109 nin0)).keep K113 (ninS (Nat.ne_of_lt (Nat.lt_of_lt_of_le (Nat.lt_of_lt_of_le p103_2.lt (Nat.le_trans K106.1 K109.1)) (Nat.le_of_eq g111.symm))) nin0))
          have c119 := ((((p103_5.keep K106 nin0).keep K109 nin0).ext E111).keep K113 (ninS (Nat.ne_of_lt (Nat.lt_of_lt_of_le (Nat.lt_of_lt_of_le p103_1 (Nat.le_trans K106.1 K109.1)) (Nat.le_of_eq g111.symm))) nin0))
          have c120 := ((Exa.ext E111 (((p1_2.keep K103).keep K106).keep K109)).keep K113)
          have c121 := ((Fld.ext E111 (((p1_3.keep K103 nin0).keep K106 nin0).keep K109 nin0)).keep K113 (ninS (Nat.ne_of_lt (Nat.lt_of_lt_of_le (Nat.lt_of_lt_of_le p1_2.lt (Nat.le_trans (Nat.le_trans K103.1 K106.1) K109.1)) (Nat.le_of_eq g111.symm))) nin0))
          have c122 := ((Fld.ext E111 (((p1_4.keep K103 nin0).keep K106 nin0).keep K109 nin0)).keep K113 (ninS (Nat.ne_of_lt (Nat.lt_of_lt_of_le (Nat.lt_of_lt_of_le p1_2.lt (Nat.le_trans (Nat.le_trans K103.1 K106.1) K109.1)) (Nat.le_of_eq g111.symm))) nin0))
          have c123 := (((((p1_5.keep K103 nin0).keep K106 nin0).keep K109 nin0).ext E111).keep K113 (ninS (Nat.ne_of_lt (Nat.lt_of_lt_of_le (Nat.lt_of_lt_of_le p1_1 (Nat.le_trans (Nat.le_trans K103.1 K106.1) K109.1)) (Nat.le_of_eq g111.symm))) nin0))
          obtain ⟨_, _, ⟨T116, L116, kc116, n116⟩, -, X116, ⟨Lc116, hQ116, l116, y116, z116⟩, st116⟩ := Jvm.LawKit.callS X113 hx (y := yM13) hown109 (mvT hZ109 w84) (mvT hZ109 w85) (mvT hZ109 w2) (mvT hZ109 w86) (by decide) (backOf (W := 0) (rm_eqRR l Z a0 hw [] z_CS v_FMT s_EMPTY r_103 ba_103 kb_103 (own_ml i_) (own_mv i_) (own_ms i_) r_1 ba_1 kb_1 (own_ml i_) (own_mv i_) (own_ms i_) T113.heap n0 SB (c114.keep K113 (allS n0_b111 all0)) ((Exa.ext E111 ((p103_2.keep K106).keep K109)).keep K113) c117 c118 c119 c120 c121 c122 c123 p103_6 p1_6) hZ109 w86 w2 (by decide) (by decide)) (g := (mkF m 106 #[.val (.int i_), .val (.int j_), .val (.int k_), .val (.int f_), .val (.int g_), .val (.ref r_1), .val (.int (g_ &&& (3 : Int32))), .val (.ref r_103), .val (.ref r_106), .val (.ref r_109), .val (.ref b111), .unset, .unset, .unset] [(.ref r_1), (.ref r_103)])) rfl (by rw [hml]; rfl) (argsL := [(.ref r_103), (.ref r_1)]) (rest := []) (lenOf own_pd24 rfl) rfl (by show 2 * 0 + _ ≤ _; exact Nat.le_of_eq rfl) (hb hby at_106) (fun _ _ => ⟨rfl, rfl, (by decide : 25 + 0 ≤ _), (by decide : 51 + 0 ≤ _)⟩)
          dsimp only [Pt.U, Pt.locs, Pt.cells, Pt.slots] at X116 l116 y116 z116 st116 hQ116
          subst l116 y116 z116
          obtain ⟨rfl, Nq116, e116⟩ := hQ116
          have N116 := Fr.app N113 Nq116
          refine ogo (S' := T116.setTop (mkF m 109 #[.val (.int i_), .val (.int j_), .val (.int k_), .val (.int f_), .val (.int g_), .val (.ref r_1), .val (.int (g_ &&& (3 : Int32))), .val (.ref r_103), .val (.ref r_106), .val (.ref r_109), .val (.ref b111), .unset, .unset, .unset] [(.int (own_b (own_ms i_) (own_ms i_)))])) st116 ?_
          rw [own_bs]
          refine o_ifNo X116 hx (hb hby at_109) (feq (by decide : ¬ ((1 : Int32) = (0 : Int32)))).1 ?_
          refine o_iconst X116 hx (1 : Int32) (hb hby at_112) rfl ?_
          refine o_goto X116 hx 117 (hb hby at_113) (by decide) (by decide) ?_
          refine o_istore X116 hx (l' := #[.val (.int i_), .val (.int j_), .val (.int k_), .val (.int f_), .val (.int g_), .val (.ref r_1), .val (.int (g_ &&& (3 : Int32))), .val (.ref r_103), .val (.ref r_106), .val (.ref r_109), .val (.ref b111), .val (.int (1 : Int32)), .unset, .unset]) (hb hby at_117) rfl ?_
          refine o_aload X116 hx (hb hby at_119) rfl rfl ?_
          refine o_aload X116 hx (hb hby at_121) rfl rfl ?_
          obtain ⟨cq124, kq124, q124a, q124b, q124c⟩ := isOf hZ109 e116 p113_0
          obtain ⟨_, _, ⟨T124, L124, kc124, n124⟩, -, X124, ⟨Lc124, hQ124, l124, y124, z124⟩, st124⟩ := X116.virtualBack hx (y := yM27) (z := yM27) hown109 (mvT hZ109 w44) (mvT hZ109 w45) (notFace_of_selects (args := #[]) (mvT hZ109 w47)) (mvT hZ109 w47) (mvT hZ109 w46) (by decide) (backOf (W := 0) (rm_onqT l Z a0 hw [] z_CS v_FMT s_EMPTY b111 r_103 ba_103 kb_103 (own_ml i_) (own_mv i_) (own_ms i_) r_1 ba_1 kb_1 (own_ml i_) (own_mv i_) (own_ms i_) (.ref r_106) (.ref r_109) T113.heap n0 SB (c114.keep K113 (allS n0_b111 all0)) p113_0 p113_1 p113_2 p113_3 (by first | rfl | assumption | decide | omega) (by first | rfl | assumption | decide | omega) (by first | rfl | assumption | decide | omega) (by first | rfl | assumption | decide | omega) ((Exa.ext E111 ((p103_2.keep K106).keep K109)).keep K113) c117 c118 c119 c120 c121 c122 c123 p103_6 p1_6 (Nat.ne_of_gt (Nat.lt_of_lt_of_le (Nat.lt_of_lt_of_le p1_2.lt (Nat.le_refl _)) p103_0)) rfl) hZ109 w48 w28 (by decide) (by decide)) q124a q124c (g := (mkF m 123 #[.val (.int i_), .val (.int j_), .val (.int k_), .val (.int f_), .val (.int g_), .val (.ref r_1), .val (.int (g_ &&& (3 : Int32))), .val (.ref r_103), .val (.ref r_106), .val (.ref r_109), .val (.ref b111), .val (.int (1 : Int32)), .unset, .unset] [(.ref r_1), (.ref b111)])) rfl (by rw [hml]; rfl) (Steps.refl _) (argsL := [(.ref r_1)]) (rest := []) (lenOf own_pd21 rfl) rfl (by show 2 * 0 + _ ≤ _; exact Nat.le_of_eq rfl) (hb hby at_123) (fun _ _ => ⟨rfl, e116, (by decide : 25 + 2 ≤ _), (by decide : 51 + 4 ≤ _)⟩)
          dsimp only [Pt.U, Pt.locs, Pt.cells, Pt.slots] at X124 l124 y124 z124 st124 hQ124
          subst l124 y124 z124
          obtain ⟨o_124, r_124, rfl, Nq124, K124, p124_0, p124_1, p124_2, p124_3, p124_4, p124_5, p124_6, p124_7⟩ := hQ124
          have N124 := Fr.app N116 Nq124
          have H125 := CHv.keep K124 all0 H115
          have n0_o_124 : n0 ≤ o_124 := Nat.le_trans (Nat.le_trans (Nat.le_of_eq O0.1.symm) O0.2.1) (Nat.le_trans (Nat.le_trans (Nat.le_trans (Nat.le_trans (Nat.le_trans (Nat.le_trans K1.1 K103.1) K106.1) K109.1) E111.1) K113.1) p124_0)
          have n0_r_124 : n0 ≤ r_124 := Nat.le_trans (Nat.le_trans (Nat.le_of_eq O0.1.symm) O0.2.1) (Nat.le_trans (Nat.le_trans (Nat.le_trans (Nat.le_trans (Nat.le_trans (Nat.le_trans K1.1 K103.1) K106.1) K109.1) E111.1) K113.1) p124_1)
          refine otr (S' := T124.setTop (mkF m 126 #[.val (.int i_), .val (.int j_), .val (.int k_), .val (.int f_), .val (.int g_), .val (.ref r_1), .val (.int (g_ &&& (3 : Int32))), .val (.ref r_103), .val (.ref r_106), .val (.ref r_109), .val (.ref b111), .val (.int (1 : Int32)), .unset, .unset] [(.ref o_124)])) st124 ?_
          refine o_astore X124 hx (l' := #[.val (.int i_), .val (.int j_), .val (.int k_), .val (.int f_), .val (.int g_), .val (.ref r_1), .val (.int (g_ &&& (3 : Int32))), .val (.ref r_103), .val (.ref r_106), .val (.ref r_109), .val (.ref b111), .val (.int (1 : Int32)), .val (.ref o_124), .unset]) (hb hby at_126) rfl rfl ?_
          refine o_aload X124 hx (hb hby at_128) rfl rfl ?_
          obtain ⟨cq126, kq126, q126a, q126b, q126c⟩ := isOf hZ109 rfl p124_2
          obtain ⟨_, _, ⟨T126, L126, kc126, n126⟩, -, X126, ⟨Lc126, hQ126, l126, y126, z126⟩, st126⟩ := X124.virtualBack hx (y := yM22) (z := yM22) hown109 (mvT hZ109 w68) (mvT hZ109 w69) (notFace_of_selects (args := #[]) (mvT hZ109 w71)) (mvT hZ109 w71) (mvT hZ109 w70) (by decide) (backOf (W := 0) (rm_oppR l Z a0 hw []  o_124 r_124 T124.heap n0 ((c114.keep K113 (allS n0_b111 all0)).keep K124 all0) p124_3) hZ109 w72 w53 (by decide) (by decide)) q126a q126c (g := (mkF m 130 #[.val (.int i_), .val (.int j_), .val (.int k_), .val (.int f_), .val (.int g_), .val (.ref r_1), .val (.int (g_ &&& (3 : Int32))), .val (.ref r_103), .val (.ref r_106), .val (.ref r_109), .val (.ref b111), .val (.int (1 : Int32)), .val (.ref o_124), .unset] [(.ref o_124)])) rfl (by rw [hml]; rfl) (Steps.refl _) (argsL := []) (rest := []) (lenOf own_pd8 rfl) rfl (by show 2 * 0 + _ ≤ _; exact Nat.le_of_eq rfl) (hb hby at_130) (fun _ _ => ⟨rfl, rfl, (by decide : 27 + 0 ≤ _), (by decide : 55 + 0 ≤ _)⟩)
          dsimp only [Pt.U, Pt.locs, Pt.cells, Pt.slots] at X126 l126 y126 z126 st126 hQ126
          subst l126 y126 z126
          obtain ⟨rfl, Nq126, e126⟩ := hQ126
          have N126 := Fr.app N124 Nq126
          refine otr (S' := T126.setTop (mkF m 133 #[.val (.int i_), .val (.int j_), .val (.int k_), .val (.int f_), .val (.int g_), .val (.ref r_1), .val (.int (g_ &&& (3 : Int32))), .val (.ref r_103), .val (.ref r_106), .val (.ref r_109), .val (.ref b111), .val (.int (1 : Int32)), .val (.ref o_124), .unset] [(.int (1 : Int32))])) st126 ?_
          refine o_iload X126 hx (hb hby at_133) rfl ?_
          refine o_icmpYes X126 hx 140 (hb hby at_135) (teq (by decide : (1 : Int32) = (1 : Int32))).1 (by decide) (by decide) ?_
          refine o_iload X126 hx (hb hby at_140) rfl ?_
          refine o_ifYes X126 hx 147 (hb hby at_142) (feq (by decide : ¬ ((1 : Int32) = (0 : Int32)))).2 (by decide) (by decide) ?_
          refine o_aload X126 hx (hb hby at_147) rfl rfl ?_
          obtain ⟨cq127, kq127, q127a, q127b, q127c⟩ := isOf hZ109 e126 p124_2
          obtain ⟨_, _, ⟨T127, L127, kc127, n127⟩, -, X127, ⟨Lc127, hQ127, l127, y127, z127⟩, st127⟩ := X126.virtualBack hx (y := yM23) (z := yM23) hown109 (mvT hZ109 w73) (mvT hZ109 w74) (notFace_of_selects (args := #[]) (mvT hZ109 w76)) (mvT hZ109 w76) (mvT hZ109 w75) (by decide) (backOf (W := 0) (rm_opg l Z a0 hw []  o_124 r_124 T124.heap n0 ((c114.keep K113 (allS n0_b111 all0)).keep K124 all0) p124_3) hZ109 w77 w53 (by decide) (by decide)) q127a q127c (g := (mkF m 149 #[.val (.int i_), .val (.int j_), .val (.int k_), .val (.int f_), .val (.int g_), .val (.ref r_1), .val (.int (g_ &&& (3 : Int32))), .val (.ref r_103), .val (.ref r_106), .val (.ref r_109), .val (.ref b111), .val (.int (1 : Int32)), .val (.ref o_124), .unset] [(.ref o_124)])) rfl (by rw [hml]; rfl) (Steps.refl _) (argsL := []) (rest := []) (lenOf own_pd22 rfl) rfl (by show 2 * 0 + _ ≤ _; exact Nat.le_of_eq rfl) (hb hby at_149) (fun _ _ => ⟨rfl, e126, (by decide : 27 + 0 ≤ _), (by decide : 55 + 0 ≤ _)⟩)
          dsimp only [Pt.U, Pt.locs, Pt.cells, Pt.slots] at X127 l127 y127 z127 st127 hQ127
          subst l127 y127 z127
          obtain ⟨rfl, Nq127, e127⟩ := hQ127
          have N127 := Fr.app N126 Nq127
          refine otr (S' := T127.setTop (mkF m 152 #[.val (.int i_), .val (.int j_), .val (.int k_), .val (.int f_), .val (.int g_), .val (.ref r_1), .val (.int (g_ &&& (3 : Int32))), .val (.ref r_103), .val (.ref r_106), .val (.ref r_109), .val (.ref b111), .val (.int (1 : Int32)), .val (.ref o_124), .unset] [(.ref r_124)])) st127 ?_
          obtain ⟨T128, X128, e128, st128⟩ := castY X127 hx hZ109 hown109 w26 e127 (Ins.self p124_4) (g := (mkF m 152 #[.val (.int i_), .val (.int j_), .val (.int k_), .val (.int f_), .val (.int g_), .val (.ref r_1), .val (.int (g_ &&& (3 : Int32))), .val (.ref r_103), .val (.ref r_106), .val (.ref r_109), .val (.ref b111), .val (.int (1 : Int32)), .val (.ref o_124), .unset] [(.ref r_124)])) rfl rfl (hb hby at_152)
          refine ogo (S' := T128.setTop (mkF m 155 #[.val (.int i_), .val (.int j_), .val (.int k_), .val (.int f_), .val (.int g_), .val (.ref r_1), .val (.int (g_ &&& (3 : Int32))), .val (.ref r_103), .val (.ref r_106), .val (.ref r_109), .val (.ref b111), .val (.int (1 : Int32)), .val (.ref o_124), .unset] [(.ref r_124)])) st128 ?_
          refine o_astore X128 hx (l' := #[.val (.int i_), .val (.int j_), .val (.int k_), .val (.int f_), .val (.int g_), .val (.ref r_1), .val (.int (g_ &&& (3 : Int32))), .val (.ref r_103), .val (.ref r_106), .val (.ref r_109), .val (.ref b111), .val (.int (1 : Int32)), .val (.ref o_124), .val (.ref r_124)]) (hb hby at_155) rfl rfl ?_
          refine o_aload X128 hx (hb hby at_157) rfl rfl ?_
          obtain ⟨cq129, kq129, q129a, q129b, q129c⟩ := isOf hZ109 e128 p124_4
          obtain ⟨_, _, ⟨T129, L129, kc129, n129⟩, -, X129, ⟨Lc129, hQ129, l129, y129, z129⟩, st129⟩ := X128.virtualBack hx (y := yM24) (z := yM24) hown109 (mvT hZ109 w79) (mvT hZ109 w80) (notFace_of_selects (args := #[]) (mvT hZ109 w82)) (mvT hZ109 w82) (mvT hZ109 w81) (by decide) (backOf (W := 0) (rm_g_queue l Z a0 hw []  r_124 (.ref r_1) T124.heap n0 ((c114.keep K113 (allS n0_b111 all0)).keep K124 all0) p124_5 (by first | rfl | assumption | decide | omega)) hZ109 w83 w28 (by decide) (by decide)) q129a q129c (g := (mkF m 159 #[.val (.int i_), .val (.int j_), .val (.int k_), .val (.int f_), .val (.int g_), .val (.ref r_1), .val (.int (g_ &&& (3 : Int32))), .val (.ref r_103), .val (.ref r_106), .val (.ref r_109), .val (.ref b111), .val (.int (1 : Int32)), .val (.ref o_124), .val (.ref r_124)] [(.ref r_124)])) rfl (by rw [hml]; rfl) (Steps.refl _) (argsL := []) (rest := []) (lenOf own_pd23 rfl) rfl (by show 2 * 0 + _ ≤ _; exact Nat.le_of_eq rfl) (hb hby at_159) (fun _ _ => ⟨rfl, e128, (by decide : 27 + 0 ≤ _), (by decide : 55 + 0 ≤ _)⟩)
          dsimp only [Pt.U, Pt.locs, Pt.cells, Pt.slots] at X129 l129 y129 z129 st129 hQ129
          subst l129 y129 z129
          obtain ⟨rfl, Nq129, e129⟩ := hQ129
          have N129 := Fr.app N127 Nq129
          refine otr (S' := T129.setTop (mkF m 162 #[.val (.int i_), .val (.int j_), .val (.int k_), .val (.int f_), .val (.int g_), .val (.ref r_1), .val (.int (g_ &&& (3 : Int32))), .val (.ref r_103), .val (.ref r_106), .val (.ref r_109), .val (.ref b111), .val (.int (1 : Int32)), .val (.ref o_124), .val (.ref r_124)] [(.ref r_1)])) st129 ?_
          refine o_aload X129 hx (hb hby at_162) rfl rfl ?_
          obtain ⟨_, _, ⟨T130, L130, kc130, n130⟩, -, X130, ⟨Lc130, hQ130, l130, y130, z130⟩, st130⟩ := Jvm.LawKit.callS X129 hx (y := yM13) hown109 (mvT hZ109 w84) (mvT hZ109 w85) (mvT hZ109 w2) (mvT hZ109 w86) (by decide) (backOf (W := 0) (rm_eqRR l Z a0 hw [] z_CS v_FMT s_EMPTY r_1 ba_1 kb_1 (own_ml i_) (own_mv i_) (own_ms i_) r_1 ba_1 kb_1 (own_ml i_) (own_mv i_) (own_ms i_) T124.heap n0 SB ((c114.keep K113 (allS n0_b111 all0)).keep K124 all0) (c120.keep K124) (c121.keep K124 nin0) (c122.keep K124 nin0) (c123.keep K124 nin0) (c120.keep K124) (c121.keep K124 nin0) (c122.keep K124 nin0) (c123.keep K124 nin0) p1_6 p1_6) hZ109 w86 w2 (by decide) (by decide)) (g := (mkF m 164 #[.val (.int i_), .val (.int j_), .val (.int k_), .val (.int f_), .val (.int g_), .val (.ref r_1), .val (.int (g_ &&& (3 : Int32))), .val (.ref r_103), .val (.ref r_106), .val (.ref r_109), .val (.ref b111), .val (.int (1 : Int32)), .val (.ref o_124), .val (.ref r_124)] [(.ref r_1), (.ref r_1)])) rfl (by rw [hml]; rfl) (argsL := [(.ref r_1), (.ref r_1)]) (rest := []) (lenOf own_pd24 rfl) rfl (by show 2 * 0 + _ ≤ _; exact Nat.le_of_eq rfl) (hb hby at_164) (fun _ _ => ⟨rfl, e129, (by decide : 27 + 0 ≤ _), (by decide : 55 + 0 ≤ _)⟩)
          dsimp only [Pt.U, Pt.locs, Pt.cells, Pt.slots] at X130 l130 y130 z130 st130 hQ130
          subst l130 y130 z130
          obtain ⟨rfl, Nq130, e130⟩ := hQ130
          have N130 := Fr.app N129 Nq130
          refine ogo (S' := T130.setTop (mkF m 167 #[.val (.int i_), .val (.int j_), .val (.int k_), .val (.int f_), .val (.int g_), .val (.ref r_1), .val (.int (g_ &&& (3 : Int32))), .val (.ref r_103), .val (.ref r_106), .val (.ref r_109), .val (.ref b111), .val (.int (1 : Int32)), .val (.ref o_124), .val (.ref r_124)] [(.int (own_b (own_ms i_) (own_ms i_)))])) st130 ?_
          rw [own_bs]
          refine o_ifNo X130 hx (hb hby at_167) (feq (by decide : ¬ ((1 : Int32) = (0 : Int32)))).1 ?_
          refine o_aload X130 hx (hb hby at_170) rfl rfl ?_
          obtain ⟨cq131, kq131, q131a, q131b, q131c⟩ := isOf hZ109 e130 p124_4
          obtain ⟨_, _, ⟨T131, L131, kc131, n131⟩, -, X131, ⟨Lc131, hQ131, l131, y131, z131⟩, st131⟩ := X130.virtualBack hx (y := yM25) (z := yM25) hown109 (mvT hZ109 w98) (mvT hZ109 w99) (notFace_of_selects (args := #[]) (mvT hZ109 w101)) (mvT hZ109 w101) (mvT hZ109 w100) (by decide) (backOf (W := 0) (rm_g_space l Z a0 hw []  r_124 (.ref r_106) T124.heap n0 ((c114.keep K113 (allS n0_b111 all0)).keep K124 all0) p124_6 (by first | rfl | assumption | decide | omega)) hZ109 w102 w28 (by decide) (by decide)) q131a q131c (g := (mkF m 172 #[.val (.int i_), .val (.int j_), .val (.int k_), .val (.int f_), .val (.int g_), .val (.ref r_1), .val (.int (g_ &&& (3 : Int32))), .val (.ref r_103), .val (.ref r_106), .val (.ref r_109), .val (.ref b111), .val (.int (1 : Int32)), .val (.ref o_124), .val (.ref r_124)] [(.ref r_124)])) rfl (by rw [hml]; rfl) (Steps.refl _) (argsL := []) (rest := []) (lenOf own_pd23 rfl) rfl (by show 2 * 0 + _ ≤ _; exact Nat.le_of_eq rfl) (hb hby at_172) (fun _ _ => ⟨rfl, e130, (by decide : 27 + 0 ≤ _), (by decide : 55 + 0 ≤ _)⟩)
          dsimp only [Pt.U, Pt.locs, Pt.cells, Pt.slots] at X131 l131 y131 z131 st131 hQ131
          subst l131 y131 z131
          obtain ⟨rfl, Nq131, e131⟩ := hQ131
          have N131 := Fr.app N130 Nq131
          refine otr (S' := T131.setTop (mkF m 175 #[.val (.int i_), .val (.int j_), .val (.int k_), .val (.int f_), .val (.int g_), .val (.ref r_1), .val (.int (g_ &&& (3 : Int32))), .val (.ref r_103), .val (.ref r_106), .val (.ref r_109), .val (.ref b111), .val (.int (1 : Int32)), .val (.ref o_124), .val (.ref r_124)] [(.ref r_106)])) st131 ?_
          refine o_aload X131 hx (hb hby at_175) rfl rfl ?_
          have c133 := (((Fld.ext E111 (p106_3.keep K109 nin0)).keep K113 (ninS (Nat.ne_of_lt (Nat.lt_of_lt_of_le (Nat.lt_of_lt_of_le p106_2.lt K109.1) (Nat.le_of_eq g111.symm))) nin0)).keep K124 nin0)
          have c134 := (((Fld.ext E111 (p106_4.keep K109 nin0)).keep K113 (ninS (Nat.ne_of_lt (Nat.lt_of_lt_of_le (Nat.lt_of_lt_of_le p106_2.lt K109.1) (Nat.le_of_eq g111.symm))) nin0)).keep K124 nin0)
          have c135 := ((((p106_5.keep K109 nin0).ext E111).keep K113 (ninS (Nat.ne_of_lt (Nat.lt_of_lt_of_le (Nat.lt_of_lt_of_le p106_1 K109.1) (Nat.le_of_eq g111.symm))) nin0)).keep K124 nin0)
          obtain ⟨_, _, ⟨T132, L132, kc132, n132⟩, -, X132, ⟨Lc132, hQ132, l132, y132, z132⟩, st132⟩ := Jvm.LawKit.callS X131 hx (y := yM13) hown109 (mvT hZ109 w84) (mvT hZ109 w85) (mvT hZ109 w2) (mvT hZ109 w86) (by decide) (backOf (W := 0) (rm_eqRR l Z a0 hw [] z_CS v_FMT s_EMPTY r_106 ba_106 kb_106 (own_ml k_) (own_mv k_) (own_ms k_) r_106 ba_106 kb_106 (own_ml k_) (own_mv k_) (own_ms k_) T124.heap n0 SB ((c114.keep K113 (allS n0_b111 all0)).keep K124 all0) (((Exa.ext E111 (p106_2.keep K109)).keep K113).keep K124) c133 c134 c135 (((Exa.ext E111 (p106_2.keep K109)).keep K113).keep K124) c133 c134 c135 p106_6 p106_6) hZ109 w86 w2 (by decide) (by decide)) (g := (mkF m 177 #[.val (.int i_), .val (.int j_), .val (.int k_), .val (.int f_), .val (.int g_), .val (.ref r_1), .val (.int (g_ &&& (3 : Int32))), .val (.ref r_103), .val (.ref r_106), .val (.ref r_109), .val (.ref b111), .val (.int (1 : Int32)), .val (.ref o_124), .val (.ref r_124)] [(.ref r_106), (.ref r_106)])) rfl (by rw [hml]; rfl) (argsL := [(.ref r_106), (.ref r_106)]) (rest := []) (lenOf own_pd24 rfl) rfl (by show 2 * 0 + _ ≤ _; exact Nat.le_of_eq rfl) (hb hby at_177) (fun _ _ => ⟨rfl, e131, (by decide : 27 + 0 ≤ _), (by decide : 55 + 0 ≤ _)⟩)
          dsimp only [Pt.U, Pt.locs, Pt.cells, Pt.slots] at X132 l132 y132 z132 st132 hQ132
          subst l132 y132 z132
          obtain ⟨rfl, Nq132, e132⟩ := hQ132
          have N132 := Fr.app N131 Nq132
          refine ogo (S' := T132.setTop (mkF m 180 #[.val (.int i_), .val (.int j_), .val (.int k_), .val (.int f_), .val (.int g_), .val (.ref r_1), .val (.int (g_ &&& (3 : Int32))), .val (.ref r_103), .val (.ref r_106), .val (.ref r_109), .val (.ref b111), .val (.int (1 : Int32)), .val (.ref o_124), .val (.ref r_124)] [(.int (own_b (own_ms k_) (own_ms k_)))])) st132 ?_
          rw [own_bs]
          refine o_ifNo X132 hx (hb hby at_180) (feq (by decide : ¬ ((1 : Int32) = (0 : Int32)))).1 ?_
          refine o_aload X132 hx (hb hby at_183) rfl rfl ?_
          obtain ⟨cq136, kq136, q136a, q136b, q136c⟩ := isOf hZ109 e132 p124_4
          obtain ⟨_, _, ⟨T136, L136, kc136, n136⟩, -, X136, ⟨Lc136, hQ136, l136, y136, z136⟩, st136⟩ := X132.virtualBack hx (y := yM26) (z := yM26) hown109 (mvT hZ109 w103) (mvT hZ109 w104) (notFace_of_selects (args := #[]) (mvT hZ109 w106)) (mvT hZ109 w106) (mvT hZ109 w105) (by decide) (backOf (W := 0) (rm_g_contentId l Z a0 hw []  r_124 (.ref r_109) T124.heap n0 ((c114.keep K113 (allS n0_b111 all0)).keep K124 all0) p124_7 (by first | rfl | assumption | decide | omega)) hZ109 w107 w28 (by decide) (by decide)) q136a q136c (g := (mkF m 185 #[.val (.int i_), .val (.int j_), .val (.int k_), .val (.int f_), .val (.int g_), .val (.ref r_1), .val (.int (g_ &&& (3 : Int32))), .val (.ref r_103), .val (.ref r_106), .val (.ref r_109), .val (.ref b111), .val (.int (1 : Int32)), .val (.ref o_124), .val (.ref r_124)] [(.ref r_124)])) rfl (by rw [hml]; rfl) (Steps.refl _) (argsL := []) (rest := []) (lenOf own_pd23 rfl) rfl (by show 2 * 0 + _ ≤ _; exact Nat.le_of_eq rfl) (hb hby at_185) (fun _ _ => ⟨rfl, e132, (by decide : 27 + 0 ≤ _), (by decide : 55 + 0 ≤ _)⟩)
          dsimp only [Pt.U, Pt.locs, Pt.cells, Pt.slots] at X136 l136 y136 z136 st136 hQ136
          subst l136 y136 z136
          obtain ⟨rfl, Nq136, e136⟩ := hQ136
          have N136 := Fr.app N132 Nq136
          refine otr (S' := T136.setTop (mkF m 188 #[.val (.int i_), .val (.int j_), .val (.int k_), .val (.int f_), .val (.int g_), .val (.ref r_1), .val (.int (g_ &&& (3 : Int32))), .val (.ref r_103), .val (.ref r_106), .val (.ref r_109), .val (.ref b111), .val (.int (1 : Int32)), .val (.ref o_124), .val (.ref r_124)] [(.ref r_109)])) st136 ?_
          refine o_aload X136 hx (hb hby at_188) rfl rfl ?_
          have c138 := (((Fld.ext E111 p109_3).keep K113 (ninS (Nat.ne_of_lt (Nat.lt_of_lt_of_le (Nat.lt_of_lt_of_le p109_2.lt (Nat.le_refl _)) (Nat.le_of_eq g111.symm))) nin0)).keep K124 nin0)
          have c139 := (((Fld.ext E111 p109_4).keep K113 (ninS (Nat.ne_of_lt (Nat.lt_of_lt_of_le (Nat.lt_of_lt_of_le p109_2.lt (Nat.le_refl _)) (Nat.le_of_eq g111.symm))) nin0)).keep K124 nin0)
          have c140 := (((p109_5.ext E111).keep K113 (ninS (Nat.ne_of_lt (Nat.lt_of_lt_of_le (Nat.lt_of_lt_of_le p109_1 (Nat.le_refl _)) (Nat.le_of_eq g111.symm))) nin0)).keep K124 nin0)
          obtain ⟨_, _, ⟨T137, L137, kc137, n137⟩, -, X137, ⟨Lc137, hQ137, l137, y137, z137⟩, st137⟩ := Jvm.LawKit.callS X136 hx (y := yM13) hown109 (mvT hZ109 w84) (mvT hZ109 w85) (mvT hZ109 w2) (mvT hZ109 w86) (by decide) (backOf (W := 0) (rm_eqRR l Z a0 hw [] z_CS v_FMT s_EMPTY r_109 ba_109 kb_109 (own_ml f_) (own_mv f_) (own_ms f_) r_109 ba_109 kb_109 (own_ml f_) (own_mv f_) (own_ms f_) T124.heap n0 SB ((c114.keep K113 (allS n0_b111 all0)).keep K124 all0) (((Exa.ext E111 p109_2).keep K113).keep K124) c138 c139 c140 (((Exa.ext E111 p109_2).keep K113).keep K124) c138 c139 c140 p109_6 p109_6) hZ109 w86 w2 (by decide) (by decide)) (g := (mkF m 190 #[.val (.int i_), .val (.int j_), .val (.int k_), .val (.int f_), .val (.int g_), .val (.ref r_1), .val (.int (g_ &&& (3 : Int32))), .val (.ref r_103), .val (.ref r_106), .val (.ref r_109), .val (.ref b111), .val (.int (1 : Int32)), .val (.ref o_124), .val (.ref r_124)] [(.ref r_109), (.ref r_109)])) rfl (by rw [hml]; rfl) (argsL := [(.ref r_109), (.ref r_109)]) (rest := []) (lenOf own_pd24 rfl) rfl (by show 2 * 0 + _ ≤ _; exact Nat.le_of_eq rfl) (hb hby at_190) (fun _ _ => ⟨rfl, e136, (by decide : 27 + 0 ≤ _), (by decide : 55 + 0 ≤ _)⟩)
          dsimp only [Pt.U, Pt.locs, Pt.cells, Pt.slots] at X137 l137 y137 z137 st137 hQ137
          subst l137 y137 z137
          obtain ⟨rfl, Nq137, e137⟩ := hQ137
          have N137 := Fr.app N136 Nq137
          refine ogo (S' := T137.setTop (mkF m 193 #[.val (.int i_), .val (.int j_), .val (.int k_), .val (.int f_), .val (.int g_), .val (.ref r_1), .val (.int (g_ &&& (3 : Int32))), .val (.ref r_103), .val (.ref r_106), .val (.ref r_109), .val (.ref b111), .val (.int (1 : Int32)), .val (.ref o_124), .val (.ref r_124)] [(.int (own_b (own_ms f_) (own_ms f_)))])) st137 ?_
          rw [own_bs]
          refine o_ifNo X137 hx (hb hby at_193) (feq (by decide : ¬ ((1 : Int32) = (0 : Int32)))).1 ?_
          refine o_iconst X137 hx (1 : Int32) (hb hby at_196) rfl ?_
          refine o_goto X137 hx 201 (hb hby at_197) (by decide) (by decide) ?_
          refine oendS X137 hlk hS109 (Nat.le_trans (Nat.le_refl _) (Nat.le_trans (Nat.le_trans E111.1 K113.1) K124.1)) e137 hZ109 hEL hs0 (CHr.trans (CHr.trans (CHr.trans (CHr.trans (CHr.trans (CHr.trans (CHr.trans (CHr.refl H0) C1) C103) C106) C109) (CHr.ext E111 H110)) (CHr.keep K113 (allS (Safe.exa hZ109.alike A111 (by decide) (by decide)) all0) H112)) (CHr.keep K124 all0 H115)) (v := some (.int (1 : Int32))) (fun h => by rw [hret] at h; cases h) (fun fs hr => retN X137 hx (t := .boolean) hret (by simp) (hb hby at_201) hr) (by decide) (by decide) ?_
          show own_Q_law Z _ _ _ _ _ _ _ _ h0 n0 _ T137.heap _
          rw [e137]
          exact ⟨rfl, N137, ((((((((Keep.refl h0 []).trans K1 all0).trans K103 all0).trans K106 all0).trans K109 all0).ext E111).trans K113 (allS (Or.inr (Nat.le_trans (Nat.le_trans (Nat.le_trans (Nat.le_trans K1.1 K103.1) K106.1) K109.1) (Nat.le_of_eq g111.symm))) all0)).trans K124 all0)⟩
        · refine o_ifNo X106 hx (hb hby at_69) (feq hc108).1 ?_
          refine o_aconst_null X106 hx (hb hby at_72) ?_
          refine o_goto X106 hx 80 (hb hby at_73) (by decide) (by decide) ?_
          refine o_astore X106 hx (l' := #[.val (.int i_), .val (.int j_), .val (.int k_), .val (.int f_), .val (.int g_), .val (.ref r_1), .val (.int (g_ &&& (3 : Int32))), .val (.ref r_103), .val (.ref r_106), .val .null, .unset, .unset, .unset, .unset]) (hb hby at_80) rfl rfl ?_
          obtain ⟨T141, _, X141, rfl, E141, A141, D141, -, st141⟩ := newO X106 hx hZ106 hown106 w26 w27 w28 rfl (g := (mkF m 82 #[.val (.int i_), .val (.int j_), .val (.int k_), .val (.int f_), .val (.int g_), .val (.ref r_1), .val (.int (g_ &&& (3 : Int32))), .val (.ref r_103), .val (.ref r_106), .val .null, .unset, .unset, .unset, .unset] [])) rfl (hb hby at_82) (by decide) (by decide)
          obtain ⟨b141, g141⟩ : ∃ z, z = T106.heap.size := ⟨_, rfl⟩
          rw [← g141] at A141 D141 st141
          have n0_b141 : n0 ≤ b141 := Nat.le_trans (Nat.le_trans (Nat.le_of_eq O0.1.symm) O0.2.1) (Nat.le_trans (Nat.le_trans (Nat.le_trans K1.1 K103.1) K106.1) (Nat.le_of_eq g141.symm))
          have H142 := CHv.ext E141 H107
          have F141_queue : Fld Z T141.heap b141 "com/example/reliquary/reliquary/DeadLetterSelection" "queue" "Ljava/lang/String;" .null := D141 (Or.inr w39) (ty := (.object "java/lang/String")) (by decide)
          have F141_space : Fld Z T141.heap b141 "com/example/reliquary/reliquary/DeadLetterSelection" "space" "Ljava/lang/String;" .null := D141 (Or.inr w41) (ty := (.object "java/lang/String")) (by decide)
          have F141_contentId : Fld Z T141.heap b141 "com/example/reliquary/reliquary/DeadLetterSelection" "contentId" "Ljava/lang/String;" .null := D141 (Or.inr w43) (ty := (.object "java/lang/String")) (by decide)
          refine ogo (S' := T141.setTop (mkF m 85 #[.val (.int i_), .val (.int j_), .val (.int k_), .val (.int f_), .val (.int g_), .val (.ref r_1), .val (.int (g_ &&& (3 : Int32))), .val (.ref r_103), .val (.ref r_106), .val .null, .unset, .unset, .unset, .unset] [(.ref b141)])) st141 ?_
          refine o_dup X141 hx (hb hby at_85) rfl ?_
          refine o_aload X141 hx (hb hby at_86) rfl rfl ?_
          refine o_aload X141 hx (hb hby at_88) rfl rfl ?_
          refine o_aload X141 hx (hb hby at_90) rfl rfl ?_
          have c144 := ((((O0.keep K1 all0).keep K103 all0).keep K106 all0).ext E141)
          obtain ⟨_, _, ⟨T143, L143, kc143, n143⟩, -, X143, ⟨Lc143, hQ143, l143, y143, z143⟩, st143⟩ := X141.specialBack hx (y := yM17) rfl hown106 (mvT hZ106 w29) (mvT hZ106 w30) (mvT hZ106 w31) (by decide) (backOf (W := 1) (rm_dli l Z a0 hw []  b141 (.ref r_103) (.ref r_106) .null T141.heap n0 c144 A141 F141_queue F141_space F141_contentId n0_b141 (by first | rfl | assumption | decide | omega) (by first | rfl | assumption | decide | omega) (by first | rfl | assumption | decide | omega) (by first | rfl | assumption | decide | omega) (by first | rfl | assumption | decide | omega) (by first | rfl | assumption | decide | omega)) hZ106 w31 w28 (by decide) (by decide)) (g := (mkF m 92 #[.val (.int i_), .val (.int j_), .val (.int k_), .val (.int f_), .val (.int g_), .val (.ref r_1), .val (.int (g_ &&& (3 : Int32))), .val (.ref r_103), .val (.ref r_106), .val .null, .unset, .unset, .unset, .unset] [.null, (.ref r_106), (.ref r_103), (.ref b141), (.ref b141)])) rfl (by rw [hml]; rfl) (Steps.refl _) (a := b141) (argsL := [(.ref r_103), (.ref r_106), .null]) (rest := [(.ref b141)]) (lenOf own_pd16 rfl) rfl (by show 2 * 0 + _ ≤ _; exact Nat.le_of_eq rfl) (hb hby at_92) (fun _ _ => ⟨rfl, rfl, (by decide : 19 + 0 ≤ _), (by decide : 39 + 0 ≤ _)⟩)
          dsimp only [Pt.U, Pt.locs, Pt.cells, Pt.slots] at X143 l143 y143 z143 st143 hQ143
          subst l143 y143 z143
          obtain ⟨rfl, Nq143, K143, p143_0, p143_1, p143_2, p143_3⟩ := hQ143
          have N143 := Fr.app N106 Nq143
          have H145 := CHv.keep K143 (allS (Safe.exa hZ106.alike A141 (by decide) (by decide)) all0) H142
          refine otr (S' := T143.setTop (mkF m 95 #[.val (.int i_), .val (.int j_), .val (.int k_), .val (.int f_), .val (.int g_), .val (.ref r_1), .val (.int (g_ &&& (3 : Int32))), .val (.ref r_103), .val (.ref r_106), .val .null, .unset, .unset, .unset, .unset] [(.ref b141)])) st143 ?_
          refine o_astore X143 hx (l' := #[.val (.int i_), .val (.int j_), .val (.int k_), .val (.int f_), .val (.int g_), .val (.ref r_1), .val (.int (g_ &&& (3 : Int32))), .val (.ref r_103), .val (.ref r_106), .val .null, .val (.ref b141), .unset, .unset, .unset]) (hb hby at_95) rfl rfl ?_
          refine o_aload X143 hx (hb hby at_97) rfl rfl ?_
          refine o_ifnullNo X143 hx (hb hby at_99) ?_
          refine o_aload X143 hx (hb hby at_102) rfl rfl ?_
          refine o_aload X143 hx (hb hby at_104) rfl rfl ?_
          have c147 := ((Fld.ext E141 (p103_3.keep K106 nin0)).keep K143 (ninS (Nat.ne_of_lt (Nat.lt_of_lt_of_le (Nat.lt_of_lt_of_le p103_2.lt K106.1) (Nat.le_of_eq g141.symm))) nin0))
          have c148 := ((Fld.ext E141 (p103_4.keep K106 nin0)).keep K143 (ninS (Nat.ne_of_lt (Nat.lt_of_lt_of_le (Nat.lt_of_lt_of_le p103_2.lt K106.1) (Nat.le_of_eq g141.symm))) nin0))
          have c149 := (((p103_5.keep K106 nin0).ext E141).keep K143 (ninS (Nat.ne_of_lt (Nat.lt_of_lt_of_le (Nat.lt_of_lt_of_le p103_1 K106.1) (Nat.le_of_eq g141.symm))) nin0))
          have c150 := ((Fld.ext E141 ((p1_3.keep K103 nin0).keep K106 nin0)).keep K143 (ninS (Nat.ne_of_lt (Nat.lt_of_lt_of_le (Nat.lt_of_lt_of_le p1_2.lt (Nat.le_trans K103.1 K106.1)) (Nat.le_of_eq g141.symm))) nin0))
          have c151 := ((Fld.ext E141 ((p1_4.keep K103 nin0).keep K106 nin0)).keep K143 (ninS (Nat.ne_of_lt (Nat.lt_of_lt_of_le (Nat.lt_of_lt_of_le p1_2.lt (Nat.le_trans K103.1 K106.1)) (Nat.le_of_eq g141.symm))) nin0))
          have c152 := ((((p1_5.keep K103 nin0).keep K106 nin0).ext E141).keep K143 (ninS (Nat.ne_of_lt (Nat.lt_of_lt_of_le (Nat.lt_of_lt_of_le p1_1 (Nat.le_trans K103.1 K106.1)) (Nat.le_of_eq g141.symm))) nin0))
          obtain ⟨_, _, ⟨T146, L146, kc146, n146⟩, -, X146, ⟨Lc146, hQ146, l146, y146, z146⟩, st146⟩ := Jvm.LawKit.callS X143 hx (y := yM13) hown106 (mvT hZ106 w84) (mvT hZ106 w85) (mvT hZ106 w2) (mvT hZ106 w86) (by decide) (backOf (W := 0) (rm_eqRR l Z a0 hw [] z_CS v_FMT s_EMPTY r_103 ba_103 kb_103 (own_ml i_) (own_mv i_) (own_ms i_) r_1 ba_1 kb_1 (own_ml i_) (own_mv i_) (own_ms i_) T143.heap n0 SB (c144.keep K143 (allS n0_b141 all0)) ((Exa.ext E141 (p103_2.keep K106)).keep K143) c147 c148 c149 ((Exa.ext E141 ((p1_2.keep K103).keep K106)).keep K143) c150 c151 c152 p103_6 p1_6) hZ106 w86 w2 (by decide) (by decide)) (g := (mkF m 106 #[.val (.int i_), .val (.int j_), .val (.int k_), .val (.int f_), .val (.int g_), .val (.ref r_1), .val (.int (g_ &&& (3 : Int32))), .val (.ref r_103), .val (.ref r_106), .val .null, .val (.ref b141), .unset, .unset, .unset] [(.ref r_1), (.ref r_103)])) rfl (by rw [hml]; rfl) (argsL := [(.ref r_103), (.ref r_1)]) (rest := []) (lenOf own_pd24 rfl) rfl (by show 2 * 0 + _ ≤ _; exact Nat.le_of_eq rfl) (hb hby at_106) (fun _ _ => ⟨rfl, rfl, (by decide : 19 + 0 ≤ _), (by decide : 39 + 0 ≤ _)⟩)
          dsimp only [Pt.U, Pt.locs, Pt.cells, Pt.slots] at X146 l146 y146 z146 st146 hQ146
          subst l146 y146 z146
          obtain ⟨rfl, Nq146, e146⟩ := hQ146
          have N146 := Fr.app N143 Nq146
          refine ogo (S' := T146.setTop (mkF m 109 #[.val (.int i_), .val (.int j_), .val (.int k_), .val (.int f_), .val (.int g_), .val (.ref r_1), .val (.int (g_ &&& (3 : Int32))), .val (.ref r_103), .val (.ref r_106), .val .null, .val (.ref b141), .unset, .unset, .unset] [(.int (own_b (own_ms i_) (own_ms i_)))])) st146 ?_
          rw [own_bs]
          refine o_ifNo X146 hx (hb hby at_109) (feq (by decide : ¬ ((1 : Int32) = (0 : Int32)))).1 ?_
          refine o_iconst X146 hx (1 : Int32) (hb hby at_112) rfl ?_
          refine o_goto X146 hx 117 (hb hby at_113) (by decide) (by decide) ?_
          refine o_istore X146 hx (l' := #[.val (.int i_), .val (.int j_), .val (.int k_), .val (.int f_), .val (.int g_), .val (.ref r_1), .val (.int (g_ &&& (3 : Int32))), .val (.ref r_103), .val (.ref r_106), .val .null, .val (.ref b141), .val (.int (1 : Int32)), .unset, .unset]) (hb hby at_117) rfl ?_
          refine o_aload X146 hx (hb hby at_119) rfl rfl ?_
          refine o_aload X146 hx (hb hby at_121) rfl rfl ?_
          obtain ⟨cq153, kq153, q153a, q153b, q153c⟩ := isOf hZ106 e146 p143_0
          obtain ⟨_, _, ⟨T153, L153, kc153, n153⟩, -, X153, ⟨Lc153, hQ153, l153, y153, z153⟩, st153⟩ := X146.virtualBack hx (y := yM27) (z := yM27) hown106 (mvT hZ106 w44) (mvT hZ106 w45) (notFace_of_selects (args := #[]) (mvT hZ106 w47)) (mvT hZ106 w47) (mvT hZ106 w46) (by decide) (backOf (W := 0) (rm_onqT l Z a0 hw [] z_CS v_FMT s_EMPTY b141 r_103 ba_103 kb_103 (own_ml i_) (own_mv i_) (own_ms i_) r_1 ba_1 kb_1 (own_ml i_) (own_mv i_) (own_ms i_) (.ref r_106) .null T143.heap n0 SB (c144.keep K143 (allS n0_b141 all0)) p143_0 p143_1 p143_2 p143_3 (by first | rfl | assumption | decide | omega) (by first | rfl | assumption | decide | omega) (by first | rfl | assumption | decide | omega) (by first | rfl | assumption | decide | omega) ((Exa.ext E141 (p103_2.keep K106)).keep K143) c147 c148 c149 ((Exa.ext E141 ((p1_2.keep K103).keep K106)).keep K143) c150 c151 c152 p103_6 p1_6 (Nat.ne_of_gt (Nat.lt_of_lt_of_le (Nat.lt_of_lt_of_le p1_2.lt (Nat.le_refl _)) p103_0)) rfl) hZ106 w48 w28 (by decide) (by decide)) q153a q153c (g := (mkF m 123 #[.val (.int i_), .val (.int j_), .val (.int k_), .val (.int f_), .val (.int g_), .val (.ref r_1), .val (.int (g_ &&& (3 : Int32))), .val (.ref r_103), .val (.ref r_106), .val .null, .val (.ref b141), .val (.int (1 : Int32)), .unset, .unset] [(.ref r_1), (.ref b141)])) rfl (by rw [hml]; rfl) (Steps.refl _) (argsL := [(.ref r_1)]) (rest := []) (lenOf own_pd21 rfl) rfl (by show 2 * 0 + _ ≤ _; exact Nat.le_of_eq rfl) (hb hby at_123) (fun _ _ => ⟨rfl, e146, (by decide : 19 + 2 ≤ _), (by decide : 39 + 4 ≤ _)⟩)
          dsimp only [Pt.U, Pt.locs, Pt.cells, Pt.slots] at X153 l153 y153 z153 st153 hQ153
          subst l153 y153 z153
          obtain ⟨o_153, r_153, rfl, Nq153, K153, p153_0, p153_1, p153_2, p153_3, p153_4, p153_5, p153_6, p153_7⟩ := hQ153
          have N153 := Fr.app N146 Nq153
          have H154 := CHv.keep K153 all0 H145
          have n0_o_153 : n0 ≤ o_153 := Nat.le_trans (Nat.le_trans (Nat.le_of_eq O0.1.symm) O0.2.1) (Nat.le_trans (Nat.le_trans (Nat.le_trans (Nat.le_trans (Nat.le_trans K1.1 K103.1) K106.1) E141.1) K143.1) p153_0)
          have n0_r_153 : n0 ≤ r_153 := Nat.le_trans (Nat.le_trans (Nat.le_of_eq O0.1.symm) O0.2.1) (Nat.le_trans (Nat.le_trans (Nat.le_trans (Nat.le_trans (Nat.le_trans K1.1 K103.1) K106.1) E141.1) K143.1) p153_1)
          refine otr (S' := T153.setTop (mkF m 126 #[.val (.int i_), .val (.int j_), .val (.int k_), .val (.int f_), .val (.int g_), .val (.ref r_1), .val (.int (g_ &&& (3 : Int32))), .val (.ref r_103), .val (.ref r_106), .val .null, .val (.ref b141), .val (.int (1 : Int32)), .unset, .unset] [(.ref o_153)])) st153 ?_
          refine o_astore X153 hx (l' := #[.val (.int i_), .val (.int j_), .val (.int k_), .val (.int f_), .val (.int g_), .val (.ref r_1), .val (.int (g_ &&& (3 : Int32))), .val (.ref r_103), .val (.ref r_106), .val .null, .val (.ref b141), .val (.int (1 : Int32)), .val (.ref o_153), .unset]) (hb hby at_126) rfl rfl ?_
          refine o_aload X153 hx (hb hby at_128) rfl rfl ?_
          obtain ⟨cq155, kq155, q155a, q155b, q155c⟩ := isOf hZ106 rfl p153_2
          obtain ⟨_, _, ⟨T155, L155, kc155, n155⟩, -, X155, ⟨Lc155, hQ155, l155, y155, z155⟩, st155⟩ := X153.virtualBack hx (y := yM22) (z := yM22) hown106 (mvT hZ106 w68) (mvT hZ106 w69) (notFace_of_selects (args := #[]) (mvT hZ106 w71)) (mvT hZ106 w71) (mvT hZ106 w70) (by decide) (backOf (W := 0) (rm_oppR l Z a0 hw []  o_153 r_153 T153.heap n0 ((c144.keep K143 (allS n0_b141 all0)).keep K153 all0) p153_3) hZ106 w72 w53 (by decide) (by decide)) q155a q155c (g := (mkF m 130 #[.val (.int i_), .val (.int j_), .val (.int k_), .val (.int f_), .val (.int g_), .val (.ref r_1), .val (.int (g_ &&& (3 : Int32))), .val (.ref r_103), .val (.ref r_106), .val .null, .val (.ref b141), .val (.int (1 : Int32)), .val (.ref o_153), .unset] [(.ref o_153)])) rfl (by rw [hml]; rfl) (Steps.refl _) (argsL := []) (rest := []) (lenOf own_pd8 rfl) rfl (by show 2 * 0 + _ ≤ _; exact Nat.le_of_eq rfl) (hb hby at_130) (fun _ _ => ⟨rfl, rfl, (by decide : 21 + 0 ≤ _), (by decide : 43 + 0 ≤ _)⟩)
          dsimp only [Pt.U, Pt.locs, Pt.cells, Pt.slots] at X155 l155 y155 z155 st155 hQ155
          subst l155 y155 z155
          obtain ⟨rfl, Nq155, e155⟩ := hQ155
          have N155 := Fr.app N153 Nq155
          refine otr (S' := T155.setTop (mkF m 133 #[.val (.int i_), .val (.int j_), .val (.int k_), .val (.int f_), .val (.int g_), .val (.ref r_1), .val (.int (g_ &&& (3 : Int32))), .val (.ref r_103), .val (.ref r_106), .val .null, .val (.ref b141), .val (.int (1 : Int32)), .val (.ref o_153), .unset] [(.int (1 : Int32))])) st155 ?_
          refine o_iload X155 hx (hb hby at_133) rfl ?_
          refine o_icmpYes X155 hx 140 (hb hby at_135) (teq (by decide : (1 : Int32) = (1 : Int32))).1 (by decide) (by decide) ?_
          refine o_iload X155 hx (hb hby at_140) rfl ?_
          refine o_ifYes X155 hx 147 (hb hby at_142) (feq (by decide : ¬ ((1 : Int32) = (0 : Int32)))).2 (by decide) (by decide) ?_
          refine o_aload X155 hx (hb hby at_147) rfl rfl ?_
          obtain ⟨cq156, kq156, q156a, q156b, q156c⟩ := isOf hZ106 e155 p153_2
          obtain ⟨_, _, ⟨T156, L156, kc156, n156⟩, -, X156, ⟨Lc156, hQ156, l156, y156, z156⟩, st156⟩ := X155.virtualBack hx (y := yM23) (z := yM23) hown106 (mvT hZ106 w73) (mvT hZ106 w74) (notFace_of_selects (args := #[]) (mvT hZ106 w76)) (mvT hZ106 w76) (mvT hZ106 w75) (by decide) (backOf (W := 0) (rm_opg l Z a0 hw []  o_153 r_153 T153.heap n0 ((c144.keep K143 (allS n0_b141 all0)).keep K153 all0) p153_3) hZ106 w77 w53 (by decide) (by decide)) q156a q156c (g := (mkF m 149 #[.val (.int i_), .val (.int j_), .val (.int k_), .val (.int f_), .val (.int g_), .val (.ref r_1), .val (.int (g_ &&& (3 : Int32))), .val (.ref r_103), .val (.ref r_106), .val .null, .val (.ref b141), .val (.int (1 : Int32)), .val (.ref o_153), .unset] [(.ref o_153)])) rfl (by rw [hml]; rfl) (Steps.refl _) (argsL := []) (rest := []) (lenOf own_pd22 rfl) rfl (by show 2 * 0 + _ ≤ _; exact Nat.le_of_eq rfl) (hb hby at_149) (fun _ _ => ⟨rfl, e155, (by decide : 21 + 0 ≤ _), (by decide : 43 + 0 ≤ _)⟩)
          dsimp only [Pt.U, Pt.locs, Pt.cells, Pt.slots] at X156 l156 y156 z156 st156 hQ156
          subst l156 y156 z156
          obtain ⟨rfl, Nq156, e156⟩ := hQ156
          have N156 := Fr.app N155 Nq156
          refine otr (S' := T156.setTop (mkF m 152 #[.val (.int i_), .val (.int j_), .val (.int k_), .val (.int f_), .val (.int g_), .val (.ref r_1), .val (.int (g_ &&& (3 : Int32))), .val (.ref r_103), .val (.ref r_106), .val .null, .val (.ref b141), .val (.int (1 : Int32)), .val (.ref o_153), .unset] [(.ref r_153)])) st156 ?_
          obtain ⟨T157, X157, e157, st157⟩ := castY X156 hx hZ106 hown106 w26 e156 (Ins.self p153_4) (g := (mkF m 152 #[.val (.int i_), .val (.int j_), .val (.int k_), .val (.int f_), .val (.int g_), .val (.ref r_1), .val (.int (g_ &&& (3 : Int32))), .val (.ref r_103), .val (.ref r_106), .val .null, .val (.ref b141), .val (.int (1 : Int32)), .val (.ref o_153), .unset] [(.ref r_153)])) rfl rfl (hb hby at_152)
          refine ogo (S' := T157.setTop (mkF m 155 #[.val (.int i_), .val (.int j_), .val (.int k_), .val (.int f_), .val (.int g_), .val (.ref r_1), .val (.int (g_ &&& (3 : Int32))), .val (.ref r_103), .val (.ref r_106), .val .null, .val (.ref b141), .val (.int (1 : Int32)), .val (.ref o_153), .unset] [(.ref r_153)])) st157 ?_
          refine o_astore X157 hx (l' := #[.val (.int i_), .val (.int j_), .val (.int k_), .val (.int f_), .val (.int g_), .val (.ref r_1), .val (.int (g_ &&& (3 : Int32))), .val (.ref r_103), .val (.ref r_106), .val .null, .val (.ref b141), .val (.int (1 : Int32)), .val (.ref o_153), .val (.ref r_153)]) (hb hby at_155) rfl rfl ?_
          refine o_aload X157 hx (hb hby at_157) rfl rfl ?_
          obtain ⟨cq158, kq158, q158a, q158b, q158c⟩ := isOf hZ106 e157 p153_4
          obtain ⟨_, _, ⟨T158, L158, kc158, n158⟩, -, X158, ⟨Lc158, hQ158, l158, y158, z158⟩, st158⟩ := X157.virtualBack hx (y := yM24) (z := yM24) hown106 (mvT hZ106 w79) (mvT hZ106 w80) (notFace_of_selects (args := #[]) (mvT hZ106 w82)) (mvT hZ106 w82) (mvT hZ106 w81) (by decide) (backOf (W := 0) (rm_g_queue l Z a0 hw []  r_153 (.ref r_1) T153.heap n0 ((c144.keep K143 (allS n0_b141 all0)).keep K153 all0) p153_5 (by first | rfl | assumption | decide | omega)) hZ106 w83 w28 (by decide) (by decide)) q158a q158c (g := (mkF m 159 #[.val (.int i_), .val (.int j_), .val (.int k_), .val (.int f_), .val (.int g_), .val (.ref r_1), .val (.int (g_ &&& (3 : Int32))), .val (.ref r_103), .val (.ref r_106), .val .null, .val (.ref b141), .val (.int (1 : Int32)), .val (.ref o_153), .val (.ref r_153)] [(.ref r_153)])) rfl (by rw [hml]; rfl) (Steps.refl _) (argsL := []) (rest := []) (lenOf own_pd23 rfl) rfl (by show 2 * 0 + _ ≤ _; exact Nat.le_of_eq rfl) (hb hby at_159) (fun _ _ => ⟨rfl, e157, (by decide : 21 + 0 ≤ _), (by decide : 43 + 0 ≤ _)⟩)
          dsimp only [Pt.U, Pt.locs, Pt.cells, Pt.slots] at X158 l158 y158 z158 st158 hQ158
          subst l158 y158 z158
          obtain ⟨rfl, Nq158, e158⟩ := hQ158
          have N158 := Fr.app N156 Nq158
          refine otr (S' := T158.setTop (mkF m 162 #[.val (.int i_), .val (.int j_), .val (.int k_), .val (.int f_), .val (.int g_), .val (.ref r_1), .val (.int (g_ &&& (3 : Int32))), .val (.ref r_103), .val (.ref r_106), .val .null, .val (.ref b141), .val (.int (1 : Int32)), .val (.ref o_153), .val (.ref r_153)] [(.ref r_1)])) st158 ?_
          refine o_aload X158 hx (hb hby at_162) rfl rfl ?_
          have c160 := (((Exa.ext E141 ((p1_2.keep K103).keep K106)).keep K143).keep K153)
          obtain ⟨_, _, ⟨T159, L159, kc159, n159⟩, -, X159, ⟨Lc159, hQ159, l159, y159, z159⟩, st159⟩ := Jvm.LawKit.callS X158 hx (y := yM13) hown106 (mvT hZ106 w84) (mvT hZ106 w85) (mvT hZ106 w2) (mvT hZ106 w86) (by decide) (backOf (W := 0) (rm_eqRR l Z a0 hw [] z_CS v_FMT s_EMPTY r_1 ba_1 kb_1 (own_ml i_) (own_mv i_) (own_ms i_) r_1 ba_1 kb_1 (own_ml i_) (own_mv i_) (own_ms i_) T153.heap n0 SB ((c144.keep K143 (allS n0_b141 all0)).keep K153 all0) c160 (c150.keep K153 nin0) (c151.keep K153 nin0) (c152.keep K153 nin0) c160 (c150.keep K153 nin0) (c151.keep K153 nin0) (c152.keep K153 nin0) p1_6 p1_6) hZ106 w86 w2 (by decide) (by decide)) (g := (mkF m 164 #[.val (.int i_), .val (.int j_), .val (.int k_), .val (.int f_), .val (.int g_), .val (.ref r_1), .val (.int (g_ &&& (3 : Int32))), .val (.ref r_103), .val (.ref r_106), .val .null, .val (.ref b141), .val (.int (1 : Int32)), .val (.ref o_153), .val (.ref r_153)] [(.ref r_1), (.ref r_1)])) rfl (by rw [hml]; rfl) (argsL := [(.ref r_1), (.ref r_1)]) (rest := []) (lenOf own_pd24 rfl) rfl (by show 2 * 0 + _ ≤ _; exact Nat.le_of_eq rfl) (hb hby at_164) (fun _ _ => ⟨rfl, e158, (by decide : 21 + 0 ≤ _), (by decide : 43 + 0 ≤ _)⟩)
          dsimp only [Pt.U, Pt.locs, Pt.cells, Pt.slots] at X159 l159 y159 z159 st159 hQ159
          subst l159 y159 z159
          obtain ⟨rfl, Nq159, e159⟩ := hQ159
          have N159 := Fr.app N158 Nq159
          refine ogo (S' := T159.setTop (mkF m 167 #[.val (.int i_), .val (.int j_), .val (.int k_), .val (.int f_), .val (.int g_), .val (.ref r_1), .val (.int (g_ &&& (3 : Int32))), .val (.ref r_103), .val (.ref r_106), .val .null, .val (.ref b141), .val (.int (1 : Int32)), .val (.ref o_153), .val (.ref r_153)] [(.int (own_b (own_ms i_) (own_ms i_)))])) st159 ?_
          rw [own_bs]
          refine o_ifNo X159 hx (hb hby at_167) (feq (by decide : ¬ ((1 : Int32) = (0 : Int32)))).1 ?_
          refine o_aload X159 hx (hb hby at_170) rfl rfl ?_
          obtain ⟨cq161, kq161, q161a, q161b, q161c⟩ := isOf hZ106 e159 p153_4
          obtain ⟨_, _, ⟨T161, L161, kc161, n161⟩, -, X161, ⟨Lc161, hQ161, l161, y161, z161⟩, st161⟩ := X159.virtualBack hx (y := yM25) (z := yM25) hown106 (mvT hZ106 w98) (mvT hZ106 w99) (notFace_of_selects (args := #[]) (mvT hZ106 w101)) (mvT hZ106 w101) (mvT hZ106 w100) (by decide) (backOf (W := 0) (rm_g_space l Z a0 hw []  r_153 (.ref r_106) T153.heap n0 ((c144.keep K143 (allS n0_b141 all0)).keep K153 all0) p153_6 (by first | rfl | assumption | decide | omega)) hZ106 w102 w28 (by decide) (by decide)) q161a q161c (g := (mkF m 172 #[.val (.int i_), .val (.int j_), .val (.int k_), .val (.int f_), .val (.int g_), .val (.ref r_1), .val (.int (g_ &&& (3 : Int32))), .val (.ref r_103), .val (.ref r_106), .val .null, .val (.ref b141), .val (.int (1 : Int32)), .val (.ref o_153), .val (.ref r_153)] [(.ref r_153)])) rfl (by rw [hml]; rfl) (Steps.refl _) (argsL := []) (rest := []) (lenOf own_pd23 rfl) rfl (by show 2 * 0 + _ ≤ _; exact Nat.le_of_eq rfl) (hb hby at_172) (fun _ _ => ⟨rfl, e159, (by decide : 21 + 0 ≤ _), (by decide : 43 + 0 ≤ _)⟩)
          dsimp only [Pt.U, Pt.locs, Pt.cells, Pt.slots] at X161 l161 y161 z161 st161 hQ161
          subst l161 y161 z161
          obtain ⟨rfl, Nq161, e161⟩ := hQ161
          have N161 := Fr.app N159 Nq161
          refine otr (S' := T161.setTop (mkF m 175 #[.val (.int i_), .val (.int j_), .val (.int k_), .val (.int f_), .val (.int g_), .val (.ref r_1), .val (.int (g_ &&& (3 : Int32))), .val (.ref r_103), .val (.ref r_106), .val .null, .val (.ref b141), .val (.int (1 : Int32)), .val (.ref o_153), .val (.ref r_153)] [(.ref r_106)])) st161 ?_
          refine o_aload X161 hx (hb hby at_175) rfl rfl ?_
          have c163 := (((Fld.ext E141 p106_3).keep K143 (ninS (Nat.ne_of_lt (Nat.lt_of_lt_of_le (Nat.lt_of_lt_of_le p106_2.lt (Nat.le_refl _)) (Nat.le_of_eq g141.symm))) nin0)).keep K153 nin0)
          have c164 := (((Fld.ext E141 p106_4).keep K143 (ninS (Nat.ne_of_lt (Nat.lt_of_lt_of_le (Nat.lt_of_lt_of_le p106_2.lt (Nat.le_refl _)) (Nat.le_of_eq g141.symm))) nin0)).keep K153 nin0)
          have c165 := (((p106_5.ext E141).keep K143 (ninS (Nat.ne_of_lt (Nat.lt_of_lt_of_le (Nat.lt_of_lt_of_le p106_1 (Nat.le_refl _)) (Nat.le_of_eq g141.symm))) nin0)).keep K153 nin0)
          obtain ⟨_, _, ⟨T162, L162, kc162, n162⟩, -, X162, ⟨Lc162, hQ162, l162, y162, z162⟩, st162⟩ := Jvm.LawKit.callS X161 hx (y := yM13) hown106 (mvT hZ106 w84) (mvT hZ106 w85) (mvT hZ106 w2) (mvT hZ106 w86) (by decide) (backOf (W := 0) (rm_eqRR l Z a0 hw [] z_CS v_FMT s_EMPTY r_106 ba_106 kb_106 (own_ml k_) (own_mv k_) (own_ms k_) r_106 ba_106 kb_106 (own_ml k_) (own_mv k_) (own_ms k_) T153.heap n0 SB ((c144.keep K143 (allS n0_b141 all0)).keep K153 all0) (((Exa.ext E141 p106_2).keep K143).keep K153) c163 c164 c165 (((Exa.ext E141 p106_2).keep K143).keep K153) c163 c164 c165 p106_6 p106_6) hZ106 w86 w2 (by decide) (by decide)) (g := (mkF m 177 #[.val (.int i_), .val (.int j_), .val (.int k_), .val (.int f_), .val (.int g_), .val (.ref r_1), .val (.int (g_ &&& (3 : Int32))), .val (.ref r_103), .val (.ref r_106), .val .null, .val (.ref b141), .val (.int (1 : Int32)), .val (.ref o_153), .val (.ref r_153)] [(.ref r_106), (.ref r_106)])) rfl (by rw [hml]; rfl) (argsL := [(.ref r_106), (.ref r_106)]) (rest := []) (lenOf own_pd24 rfl) rfl (by show 2 * 0 + _ ≤ _; exact Nat.le_of_eq rfl) (hb hby at_177) (fun _ _ => ⟨rfl, e161, (by decide : 21 + 0 ≤ _), (by decide : 43 + 0 ≤ _)⟩)
          dsimp only [Pt.U, Pt.locs, Pt.cells, Pt.slots] at X162 l162 y162 z162 st162 hQ162
          subst l162 y162 z162
          obtain ⟨rfl, Nq162, e162⟩ := hQ162
          have N162 := Fr.app N161 Nq162
          refine ogo (S' := T162.setTop (mkF m 180 #[.val (.int i_), .val (.int j_), .val (.int k_), .val (.int f_), .val (.int g_), .val (.ref r_1), .val (.int (g_ &&& (3 : Int32))), .val (.ref r_103), .val (.ref r_106), .val .null, .val (.ref b141), .val (.int (1 : Int32)), .val (.ref o_153), .val (.ref r_153)] [(.int (own_b (own_ms k_) (own_ms k_)))])) st162 ?_
          rw [own_bs]
          refine o_ifNo X162 hx (hb hby at_180) (feq (by decide : ¬ ((1 : Int32) = (0 : Int32)))).1 ?_
          refine o_aload X162 hx (hb hby at_183) rfl rfl ?_
          obtain ⟨cq166, kq166, q166a, q166b, q166c⟩ := isOf hZ106 e162 p153_4
          obtain ⟨_, _, ⟨T166, L166, kc166, n166⟩, -, X166, ⟨Lc166, hQ166, l166, y166, z166⟩, st166⟩ := X162.virtualBack hx (y := yM26) (z := yM26) hown106 (mvT hZ106 w103) (mvT hZ106 w104) (notFace_of_selects (args := #[]) (mvT hZ106 w106)) (mvT hZ106 w106) (mvT hZ106 w105) (by decide) (backOf (W := 0) (rm_g_contentId l Z a0 hw []  r_153 .null T153.heap n0 ((c144.keep K143 (allS n0_b141 all0)).keep K153 all0) p153_7 (by first | rfl | assumption | decide | omega)) hZ106 w107 w28 (by decide) (by decide)) q166a q166c (g := (mkF m 185 #[.val (.int i_), .val (.int j_), .val (.int k_), .val (.int f_), .val (.int g_), .val (.ref r_1), .val (.int (g_ &&& (3 : Int32))), .val (.ref r_103), .val (.ref r_106), .val .null, .val (.ref b141), .val (.int (1 : Int32)), .val (.ref o_153), .val (.ref r_153)] [(.ref r_153)])) rfl (by rw [hml]; rfl) (Steps.refl _) (argsL := []) (rest := []) (lenOf own_pd23 rfl) rfl (by show 2 * 0 + _ ≤ _; exact Nat.le_of_eq rfl) (hb hby at_185) (fun _ _ => ⟨rfl, e162, (by decide : 21 + 0 ≤ _), (by decide : 43 + 0 ≤ _)⟩)
          dsimp only [Pt.U, Pt.locs, Pt.cells, Pt.slots] at X166 l166 y166 z166 st166 hQ166
          subst l166 y166 z166
          obtain ⟨rfl, Nq166, e166⟩ := hQ166
          have N166 := Fr.app N162 Nq166
          refine otr (S' := T166.setTop (mkF m 188 #[.val (.int i_), .val (.int j_), .val (.int k_), .val (.int f_), .val (.int g_), .val (.ref r_1), .val (.int (g_ &&& (3 : Int32))), .val (.ref r_103), .val (.ref r_106), .val .null, .val (.ref b141), .val (.int (1 : Int32)), .val (.ref o_153), .val (.ref r_153)] [.null])) st166 ?_
          refine o_aload X166 hx (hb hby at_188) rfl rfl ?_
          obtain ⟨_, _, ⟨T167, L167, kc167, n167⟩, -, X167, ⟨Lc167, hQ167, l167, y167, z167⟩, st167⟩ := Jvm.LawKit.callS X166 hx (y := yM13) hown106 (mvT hZ106 w84) (mvT hZ106 w85) (mvT hZ106 w2) (mvT hZ106 w86) (by decide) (backOf (W := 0) (rm_eqNN l Z a0 hw []   T153.heap n0 ((c144.keep K143 (allS n0_b141 all0)).keep K153 all0) ) hZ106 w86 w2 (by decide) (by decide)) (g := (mkF m 190 #[.val (.int i_), .val (.int j_), .val (.int k_), .val (.int f_), .val (.int g_), .val (.ref r_1), .val (.int (g_ &&& (3 : Int32))), .val (.ref r_103), .val (.ref r_106), .val .null, .val (.ref b141), .val (.int (1 : Int32)), .val (.ref o_153), .val (.ref r_153)] [.null, .null])) rfl (by rw [hml]; rfl) (argsL := [.null, .null]) (rest := []) (lenOf own_pd24 rfl) rfl (by show 2 * 0 + _ ≤ _; exact Nat.le_of_eq rfl) (hb hby at_190) (fun _ _ => ⟨rfl, e166, (by decide : 21 + 0 ≤ _), (by decide : 43 + 0 ≤ _)⟩)
          dsimp only [Pt.U, Pt.locs, Pt.cells, Pt.slots] at X167 l167 y167 z167 st167 hQ167
          subst l167 y167 z167
          obtain ⟨rfl, Nq167, e167⟩ := hQ167
          have N167 := Fr.app N166 Nq167
          refine ogo (S' := T167.setTop (mkF m 193 #[.val (.int i_), .val (.int j_), .val (.int k_), .val (.int f_), .val (.int g_), .val (.ref r_1), .val (.int (g_ &&& (3 : Int32))), .val (.ref r_103), .val (.ref r_106), .val .null, .val (.ref b141), .val (.int (1 : Int32)), .val (.ref o_153), .val (.ref r_153)] [(.int (1 : Int32))])) st167 ?_
          refine o_ifNo X167 hx (hb hby at_193) (feq (by decide : ¬ ((1 : Int32) = (0 : Int32)))).1 ?_
          refine o_iconst X167 hx (1 : Int32) (hb hby at_196) rfl ?_
          refine o_goto X167 hx 201 (hb hby at_197) (by decide) (by decide) ?_
          refine oendS X167 hlk hS106 (Nat.le_trans (Nat.le_refl _) (Nat.le_trans (Nat.le_trans E141.1 K143.1) K153.1)) e167 hZ106 hEL hs0 (CHr.trans (CHr.trans (CHr.trans (CHr.trans (CHr.trans (CHr.trans (CHr.refl H0) C1) C103) C106) (CHr.ext E141 H107)) (CHr.keep K143 (allS (Safe.exa hZ106.alike A141 (by decide) (by decide)) all0) H142)) (CHr.keep K153 all0 H145)) (v := some (.int (1 : Int32))) (fun h => by rw [hret] at h; cases h) (fun fs hr => retN X167 hx (t := .boolean) hret (by simp) (hb hby at_201) hr) (by decide) (by decide) ?_
          show own_Q_law Z _ _ _ _ _ _ _ _ h0 n0 _ T167.heap _
          rw [e167]
          exact ⟨rfl, N167, (((((((Keep.refl h0 []).trans K1 all0).trans K103 all0).trans K106 all0).ext E141).trans K143 (allS (Or.inr (Nat.le_trans (Nat.le_trans (Nat.le_trans K1.1 K103.1) K106.1) (Nat.le_of_eq g141.symm))) all0)).trans K153 all0)⟩
      · refine o_ifNo X103 hx (hb hby at_50) (feq hc105).1 ?_
        refine o_aconst_null X103 hx (hb hby at_53) ?_
        refine o_goto X103 hx 61 (hb hby at_54) (by decide) (by decide) ?_
        refine o_astore X103 hx (l' := #[.val (.int i_), .val (.int j_), .val (.int k_), .val (.int f_), .val (.int g_), .val (.ref r_1), .val (.int (g_ &&& (3 : Int32))), .val (.ref r_103), .val .null, .unset, .unset, .unset, .unset, .unset]) (hb hby at_61) rfl rfl ?_
        refine o_iload X103 hx (hb hby at_63) rfl ?_
        refine o_iconst X103 hx (3 : Int32) (hb hby at_65) rfl ?_
        refine o_iushr X103 hx (hb hby at_66) ?_
        refine o_iconst X103 hx (1 : Int32) (hb hby at_67) rfl ?_
        refine o_iand X103 hx (hb hby at_68) ?_
        by_cases hc168 : ((own_ushr g_ (3 : Int32)) &&& (1 : Int32)) = (0 : Int32)
        · refine o_ifYes X103 hx 76 (hb hby at_69) (teq hc168).1 (by decide) (by decide) ?_
          refine o_iloadN X103 hx (hb hby at_76) rfl ?_
          obtain ⟨_, _, ⟨T169, L169, kc169, n169⟩, -, X169, hSi169, hgr169, ⟨Lc169, hQ169, l169, y169, z169, C169⟩, st169⟩ := callSS X103 hx (y := yM5) hown103 (mvT hZ103 w0) (mvT hZ103 w1) (mvT hZ103 w2) (mvT hZ103 w3) (by decide) (backOfSH (W := 0) (rm_mk l Z a0 hw [] z_CS v_FMT s_EMPTY f_ T103.heap n0 SB ((O0.keep K1 all0).keep K103 all0) ) hZ103 w3 w2 (by decide) (by decide) hEL H104) (g := (mkF m 77 #[.val (.int i_), .val (.int j_), .val (.int k_), .val (.int f_), .val (.int g_), .val (.ref r_1), .val (.int (g_ &&& (3 : Int32))), .val (.ref r_103), .val .null, .unset, .unset, .unset, .unset, .unset] [(.int f_)])) rfl (by rw [hml]; rfl) (argsL := [(.int f_)]) (rest := []) (lenOf own_pd20 rfl) rfl (by show 2 * 0 + _ ≤ _; exact Nat.le_of_eq rfl) (hb hby at_77) (fun _ _ => ⟨rfl, rfl, (by decide : 12 + 6 ≤ _), (by decide : 24 + 12 ≤ _)⟩)
          dsimp only [Pt.U, Pt.locs, Pt.cells, Pt.slots] at X169 l169 y169 z169 st169 hQ169 hSi169 hgr169 C169
          subst l169 y169 z169
          obtain ⟨r_169, ba_169, kb_169, rfl, Nq169, K169, p169_0, p169_1, p169_2, p169_3, p169_4, p169_5, p169_6⟩ := hQ169
          have N169 := Fr.app N103 Nq169
          have X169 : Stand p l e room_1 (s.setVm T169.vm) m #[(.int i_), (.int j_), (.int k_), (.int f_), (.int g_)] below meth c T169 _ _ _ := X169
          have hS169 := foldS hS103 (Nat.le_refl _) hSi169 hgr169
          have hZ169 : Z.Warmed39 T169.vm := State.Warmed39.trans (t := (s.setVm T103.vm)) hZ103 hSi169.1
          have hown169 : T169.vm.findClass "com/example/reliquary/reliquary/DeadLetterSelectionOnQueuePinLaw" = some m.cls := by rw [hSi169.1.alike.findClass]; exact hown103
          have H170 := C169.1
          have n0_r_169 : n0 ≤ r_169 := Nat.le_trans (Nat.le_trans (Nat.le_of_eq O0.1.symm) O0.2.1) (Nat.le_trans (Nat.le_trans K1.1 K103.1) p169_0)
          refine otr (S' := T169.setTop (mkF m 80 #[.val (.int i_), .val (.int j_), .val (.int k_), .val (.int f_), .val (.int g_), .val (.ref r_1), .val (.int (g_ &&& (3 : Int32))), .val (.ref r_103), .val .null, .unset, .unset, .unset, .unset, .unset] [(.ref r_169)])) st169 ?_
          refine o_astore X169 hx (l' := #[.val (.int i_), .val (.int j_), .val (.int k_), .val (.int f_), .val (.int g_), .val (.ref r_1), .val (.int (g_ &&& (3 : Int32))), .val (.ref r_103), .val .null, .val (.ref r_169), .unset, .unset, .unset, .unset]) (hb hby at_80) rfl rfl ?_
          obtain ⟨T171, _, X171, rfl, E171, A171, D171, -, st171⟩ := newO X169 hx hZ169 hown169 w26 w27 w28 rfl (g := (mkF m 82 #[.val (.int i_), .val (.int j_), .val (.int k_), .val (.int f_), .val (.int g_), .val (.ref r_1), .val (.int (g_ &&& (3 : Int32))), .val (.ref r_103), .val .null, .val (.ref r_169), .unset, .unset, .unset, .unset] [])) rfl (hb hby at_82) (by decide) (by decide)
          obtain ⟨b171, g171⟩ : ∃ z, z = T169.heap.size := ⟨_, rfl⟩
          rw [← g171] at A171 D171 st171
          have n0_b171 : n0 ≤ b171 := Nat.le_trans (Nat.le_trans (Nat.le_of_eq O0.1.symm) O0.2.1) (Nat.le_trans (Nat.le_trans (Nat.le_trans K1.1 K103.1) K169.1) (Nat.le_of_eq g171.symm))
          have H172 := CHv.ext E171 H170
          have F171_queue : Fld Z T171.heap b171 "com/example/reliquary/reliquary/DeadLetterSelection" "queue" "Ljava/lang/String;" .null := D171 (Or.inr w39) (ty := (.object "java/lang/String")) (by decide)
          have F171_space : Fld Z T171.heap b171 "com/example/reliquary/reliquary/DeadLetterSelection" "space" "Ljava/lang/String;" .null := D171 (Or.inr w41) (ty := (.object "java/lang/String")) (by decide)
          have F171_contentId : Fld Z T171.heap b171 "com/example/reliquary/reliquary/DeadLetterSelection" "contentId" "Ljava/lang/String;" .null := D171 (Or.inr w43) (ty := (.object "java/lang/String")) (by decide)
          refine ogo (S' := T171.setTop (mkF m 85 #[.val (.int i_), .val (.int j_), .val (.int k_), .val (.int f_), .val (.int g_), .val (.ref r_1), .val (.int (g_ &&& (3 : Int32))), .val (.ref r_103), .val .null, .val (.ref r_169), .unset, .unset, .unset, .unset] [(.ref b171)])) st171 ?_
          refine o_dup X171 hx (hb hby at_85) rfl ?_
          refine o_aload X171 hx (hb hby at_86) rfl rfl ?_
          refine o_aload X171 hx (hb hby at_88) rfl rfl ?_
          refine o_aload X171 hx (hb hby at_90) rfl rfl ?_
          have c174 := ((((O0.keep K1 all0).keep K103 all0).keep K169 all0).ext E171)
          obtain ⟨_, _, ⟨T173, L173, kc173, n173⟩, -, X173, ⟨Lc173, hQ173, l173, y173, z173⟩, st173⟩ := X171.specialBack hx (y := yM17) rfl hown169 (mvT hZ169 w29) (mvT hZ169 w30) (mvT hZ169 w31) (by decide) (backOf (W := 1) (rm_dli l Z a0 hw []  b171 (.ref r_103) .null (.ref r_169) T171.heap n0 c174 A171 F171_queue F171_space F171_contentId n0_b171 (by first | rfl | assumption | decide | omega) (by first | rfl | assumption | decide | omega) (by first | rfl | assumption | decide | omega) (by first | rfl | assumption | decide | omega) (by first | rfl | assumption | decide | omega) (by first | rfl | assumption | decide | omega)) hZ169 w31 w28 (by decide) (by decide)) (g := (mkF m 92 #[.val (.int i_), .val (.int j_), .val (.int k_), .val (.int f_), .val (.int g_), .val (.ref r_1), .val (.int (g_ &&& (3 : Int32))), .val (.ref r_103), .val .null, .val (.ref r_169), .unset, .unset, .unset, .unset] [(.ref r_169), .null, (.ref r_103), (.ref b171), (.ref b171)])) rfl (by rw [hml]; rfl) (Steps.refl _) (a := b171) (argsL := [(.ref r_103), .null, (.ref r_169)]) (rest := [(.ref b171)]) (lenOf own_pd16 rfl) rfl (by show 2 * 0 + _ ≤ _; exact Nat.le_of_eq rfl) (hb hby at_92) (fun _ _ => ⟨rfl, rfl, (by decide : 19 + 0 ≤ _), (by decide : 39 + 0 ≤ _)⟩)
          dsimp only [Pt.U, Pt.locs, Pt.cells, Pt.slots] at X173 l173 y173 z173 st173 hQ173
          subst l173 y173 z173
          obtain ⟨rfl, Nq173, K173, p173_0, p173_1, p173_2, p173_3⟩ := hQ173
          have N173 := Fr.app N169 Nq173
          have H175 := CHv.keep K173 (allS (Safe.exa hZ169.alike A171 (by decide) (by decide)) all0) H172
          refine otr (S' := T173.setTop (mkF m 95 #[.val (.int i_), .val (.int j_), .val (.int k_), .val (.int f_), .val (.int g_), .val (.ref r_1), .val (.int (g_ &&& (3 : Int32))), .val (.ref r_103), .val .null, .val (.ref r_169), .unset, .unset, .unset, .unset] [(.ref b171)])) st173 ?_
          refine o_astore X173 hx (l' := #[.val (.int i_), .val (.int j_), .val (.int k_), .val (.int f_), .val (.int g_), .val (.ref r_1), .val (.int (g_ &&& (3 : Int32))), .val (.ref r_103), .val .null, .val (.ref r_169), .val (.ref b171), .unset, .unset, .unset]) (hb hby at_95) rfl rfl ?_
          refine o_aload X173 hx (hb hby at_97) rfl rfl ?_
          refine o_ifnullNo X173 hx (hb hby at_99) ?_
          refine o_aload X173 hx (hb hby at_102) rfl rfl ?_
          refine o_aload X173 hx (hb hby at_104) rfl rfl ?_
          have c177 := ((Fld.ext E171 (p103_3.keep K169 nin0)).keep K173 (ninS (Nat.ne_of_lt (Nat.lt_of_lt_of_le (Nat.lt_of_lt_of_le p103_2.lt K169.1) (Nat.le_of_eq g171.symm))) nin0))
          have c178 := ((Fld.ext E171 (p103_4.keep K169 nin0)).keep K173 (ninS (Nat.ne_of_lt (Nat.lt_of_lt_of_le (Nat.lt_of_lt_of_le p103_2.lt K169.1) (Nat.le_of_eq g171.symm))) nin0))
          have c179 := (((p103_5.keep K169 nin0).ext E171).keep K173 (ninS (Nat.ne_of_lt (Nat.lt_of_lt_of_le (Nat.lt_of_lt_of_le p103_1 K169.1) (Nat.le_of_eq g171.symm))) nin0))
          have c180 := ((Fld.ext E171 ((p1_3.keep K103 nin0).keep K169 nin0)).keep K173 (ninS (Nat.ne_of_lt (Nat.lt_of_lt_of_le (Nat.lt_of_lt_of_le p1_2.lt (Nat.le_trans K103.1 K169.1)) (Nat.le_of_eq g171.symm))) nin0))
          have c181 := ((Fld.ext E171 ((p1_4.keep K103 nin0).keep K169 nin0)).keep K173 (ninS (Nat.ne_of_lt (Nat.lt_of_lt_of_le (Nat.lt_of_lt_of_le p1_2.lt (Nat.le_trans K103.1 K169.1)) (Nat.le_of_eq g171.symm))) nin0))
          have c182 := ((((p1_5.keep K103 nin0).keep K169 nin0).ext E171).keep K173 (ninS (Nat.ne_of_lt (Nat.lt_of_lt_of_le (Nat.lt_of_lt_of_le p1_1 (Nat.le_trans K103.1 K169.1)) (Nat.le_of_eq g171.symm))) nin0))
          obtain ⟨_, _, ⟨T176, L176, kc176, n176⟩, -, X176, ⟨Lc176, hQ176, l176, y176, z176⟩, st176⟩ := Jvm.LawKit.callS X173 hx (y := yM13) hown169 (mvT hZ169 w84) (mvT hZ169 w85) (mvT hZ169 w2) (mvT hZ169 w86) (by decide) (backOf (W := 0) (rm_eqRR l Z a0 hw [] z_CS v_FMT s_EMPTY r_103 ba_103 kb_103 (own_ml i_) (own_mv i_) (own_ms i_) r_1 ba_1 kb_1 (own_ml i_) (own_mv i_) (own_ms i_) T173.heap n0 SB (c174.keep K173 (allS n0_b171 all0)) ((Exa.ext E171 (p103_2.keep K169)).keep K173) c177 c178 c179 ((Exa.ext E171 ((p1_2.keep K103).keep K169)).keep K173) c180 c181 c182 p103_6 p1_6) hZ169 w86 w2 (by decide) (by decide)) (g := (mkF m 106 #[.val (.int i_), .val (.int j_), .val (.int k_), .val (.int f_), .val (.int g_), .val (.ref r_1), .val (.int (g_ &&& (3 : Int32))), .val (.ref r_103), .val .null, .val (.ref r_169), .val (.ref b171), .unset, .unset, .unset] [(.ref r_1), (.ref r_103)])) rfl (by rw [hml]; rfl) (argsL := [(.ref r_103), (.ref r_1)]) (rest := []) (lenOf own_pd24 rfl) rfl (by show 2 * 0 + _ ≤ _; exact Nat.le_of_eq rfl) (hb hby at_106) (fun _ _ => ⟨rfl, rfl, (by decide : 19 + 0 ≤ _), (by decide : 39 + 0 ≤ _)⟩)
          dsimp only [Pt.U, Pt.locs, Pt.cells, Pt.slots] at X176 l176 y176 z176 st176 hQ176
          subst l176 y176 z176
          obtain ⟨rfl, Nq176, e176⟩ := hQ176
          have N176 := Fr.app N173 Nq176
          refine ogo (S' := T176.setTop (mkF m 109 #[.val (.int i_), .val (.int j_), .val (.int k_), .val (.int f_), .val (.int g_), .val (.ref r_1), .val (.int (g_ &&& (3 : Int32))), .val (.ref r_103), .val .null, .val (.ref r_169), .val (.ref b171), .unset, .unset, .unset] [(.int (own_b (own_ms i_) (own_ms i_)))])) st176 ?_
          rw [own_bs]
          refine o_ifNo X176 hx (hb hby at_109) (feq (by decide : ¬ ((1 : Int32) = (0 : Int32)))).1 ?_
          refine o_iconst X176 hx (1 : Int32) (hb hby at_112) rfl ?_
          refine o_goto X176 hx 117 (hb hby at_113) (by decide) (by decide) ?_
          refine o_istore X176 hx (l' := #[.val (.int i_), .val (.int j_), .val (.int k_), .val (.int f_), .val (.int g_), .val (.ref r_1), .val (.int (g_ &&& (3 : Int32))), .val (.ref r_103), .val .null, .val (.ref r_169), .val (.ref b171), .val (.int (1 : Int32)), .unset, .unset]) (hb hby at_117) rfl ?_
          refine o_aload X176 hx (hb hby at_119) rfl rfl ?_
          refine o_aload X176 hx (hb hby at_121) rfl rfl ?_
          obtain ⟨cq183, kq183, q183a, q183b, q183c⟩ := isOf hZ169 e176 p173_0
          obtain ⟨_, _, ⟨T183, L183, kc183, n183⟩, -, X183, ⟨Lc183, hQ183, l183, y183, z183⟩, st183⟩ := X176.virtualBack hx (y := yM27) (z := yM27) hown169 (mvT hZ169 w44) (mvT hZ169 w45) (notFace_of_selects (args := #[]) (mvT hZ169 w47)) (mvT hZ169 w47) (mvT hZ169 w46) (by decide) (backOf (W := 0) (rm_onqT l Z a0 hw [] z_CS v_FMT s_EMPTY b171 r_103 ba_103 kb_103 (own_ml i_) (own_mv i_) (own_ms i_) r_1 ba_1 kb_1 (own_ml i_) (own_mv i_) (own_ms i_) .null (.ref r_169) T173.heap n0 SB (c174.keep K173 (allS n0_b171 all0)) p173_0 p173_1 p173_2 p173_3 (by first | rfl | assumption | decide | omega) (by first | rfl | assumption | decide | omega) (by first | rfl | assumption | decide | omega) (by first | rfl | assumption | decide | omega) ((Exa.ext E171 (p103_2.keep K169)).keep K173) c177 c178 c179 ((Exa.ext E171 ((p1_2.keep K103).keep K169)).keep K173) c180 c181 c182 p103_6 p1_6 (Nat.ne_of_gt (Nat.lt_of_lt_of_le (Nat.lt_of_lt_of_le p1_2.lt (Nat.le_refl _)) p103_0)) rfl) hZ169 w48 w28 (by decide) (by decide)) q183a q183c (g := (mkF m 123 #[.val (.int i_), .val (.int j_), .val (.int k_), .val (.int f_), .val (.int g_), .val (.ref r_1), .val (.int (g_ &&& (3 : Int32))), .val (.ref r_103), .val .null, .val (.ref r_169), .val (.ref b171), .val (.int (1 : Int32)), .unset, .unset] [(.ref r_1), (.ref b171)])) rfl (by rw [hml]; rfl) (Steps.refl _) (argsL := [(.ref r_1)]) (rest := []) (lenOf own_pd21 rfl) rfl (by show 2 * 0 + _ ≤ _; exact Nat.le_of_eq rfl) (hb hby at_123) (fun _ _ => ⟨rfl, e176, (by decide : 19 + 2 ≤ _), (by decide : 39 + 4 ≤ _)⟩)
          dsimp only [Pt.U, Pt.locs, Pt.cells, Pt.slots] at X183 l183 y183 z183 st183 hQ183
          subst l183 y183 z183
          obtain ⟨o_183, r_183, rfl, Nq183, K183, p183_0, p183_1, p183_2, p183_3, p183_4, p183_5, p183_6, p183_7⟩ := hQ183
          have N183 := Fr.app N176 Nq183
          have H184 := CHv.keep K183 all0 H175
          have n0_o_183 : n0 ≤ o_183 := Nat.le_trans (Nat.le_trans (Nat.le_of_eq O0.1.symm) O0.2.1) (Nat.le_trans (Nat.le_trans (Nat.le_trans (Nat.le_trans (Nat.le_trans K1.1 K103.1) K169.1) E171.1) K173.1) p183_0)
          have n0_r_183 : n0 ≤ r_183 := Nat.le_trans (Nat.le_trans (Nat.le_of_eq O0.1.symm) O0.2.1) (Nat.le_trans (Nat.le_trans (Nat.le_trans (Nat.le_trans (Nat.le_trans K1.1 K103.1) K169.1) E171.1) K173.1) p183_1)
          refine otr (S' := T183.setTop (mkF m 126 #[.val (.int i_), .val (.int j_), .val (.int k_), .val (.int f_), .val (.int g_), .val (.ref r_1), .val (.int (g_ &&& (3 : Int32))), .val (.ref r_103), .val .null, .val (.ref r_169), .val (.ref b171), .val (.int (1 : Int32)), .unset, .unset] [(.ref o_183)])) st183 ?_
          refine o_astore X183 hx (l' := #[.val (.int i_), .val (.int j_), .val (.int k_), .val (.int f_), .val (.int g_), .val (.ref r_1), .val (.int (g_ &&& (3 : Int32))), .val (.ref r_103), .val .null, .val (.ref r_169), .val (.ref b171), .val (.int (1 : Int32)), .val (.ref o_183), .unset]) (hb hby at_126) rfl rfl ?_
          refine o_aload X183 hx (hb hby at_128) rfl rfl ?_
          obtain ⟨cq185, kq185, q185a, q185b, q185c⟩ := isOf hZ169 rfl p183_2
          obtain ⟨_, _, ⟨T185, L185, kc185, n185⟩, -, X185, ⟨Lc185, hQ185, l185, y185, z185⟩, st185⟩ := X183.virtualBack hx (y := yM22) (z := yM22) hown169 (mvT hZ169 w68) (mvT hZ169 w69) (notFace_of_selects (args := #[]) (mvT hZ169 w71)) (mvT hZ169 w71) (mvT hZ169 w70) (by decide) (backOf (W := 0) (rm_oppR l Z a0 hw []  o_183 r_183 T183.heap n0 ((c174.keep K173 (allS n0_b171 all0)).keep K183 all0) p183_3) hZ169 w72 w53 (by decide) (by decide)) q185a q185c (g := (mkF m 130 #[.val (.int i_), .val (.int j_), .val (.int k_), .val (.int f_), .val (.int g_), .val (.ref r_1), .val (.int (g_ &&& (3 : Int32))), .val (.ref r_103), .val .null, .val (.ref r_169), .val (.ref b171), .val (.int (1 : Int32)), .val (.ref o_183), .unset] [(.ref o_183)])) rfl (by rw [hml]; rfl) (Steps.refl _) (argsL := []) (rest := []) (lenOf own_pd8 rfl) rfl (by show 2 * 0 + _ ≤ _; exact Nat.le_of_eq rfl) (hb hby at_130) (fun _ _ => ⟨rfl, rfl, (by decide : 21 + 0 ≤ _), (by decide : 43 + 0 ≤ _)⟩)
          dsimp only [Pt.U, Pt.locs, Pt.cells, Pt.slots] at X185 l185 y185 z185 st185 hQ185
          subst l185 y185 z185
          obtain ⟨rfl, Nq185, e185⟩ := hQ185
          have N185 := Fr.app N183 Nq185
          refine otr (S' := T185.setTop (mkF m 133 #[.val (.int i_), .val (.int j_), .val (.int k_), .val (.int f_), .val (.int g_), .val (.ref r_1), .val (.int (g_ &&& (3 : Int32))), .val (.ref r_103), .val .null, .val (.ref r_169), .val (.ref b171), .val (.int (1 : Int32)), .val (.ref o_183), .unset] [(.int (1 : Int32))])) st185 ?_
          refine o_iload X185 hx (hb hby at_133) rfl ?_
          refine o_icmpYes X185 hx 140 (hb hby at_135) (teq (by decide : (1 : Int32) = (1 : Int32))).1 (by decide) (by decide) ?_
          refine o_iload X185 hx (hb hby at_140) rfl ?_
          refine o_ifYes X185 hx 147 (hb hby at_142) (feq (by decide : ¬ ((1 : Int32) = (0 : Int32)))).2 (by decide) (by decide) ?_
          refine o_aload X185 hx (hb hby at_147) rfl rfl ?_
          obtain ⟨cq186, kq186, q186a, q186b, q186c⟩ := isOf hZ169 e185 p183_2
          obtain ⟨_, _, ⟨T186, L186, kc186, n186⟩, -, X186, ⟨Lc186, hQ186, l186, y186, z186⟩, st186⟩ := X185.virtualBack hx (y := yM23) (z := yM23) hown169 (mvT hZ169 w73) (mvT hZ169 w74) (notFace_of_selects (args := #[]) (mvT hZ169 w76)) (mvT hZ169 w76) (mvT hZ169 w75) (by decide) (backOf (W := 0) (rm_opg l Z a0 hw []  o_183 r_183 T183.heap n0 ((c174.keep K173 (allS n0_b171 all0)).keep K183 all0) p183_3) hZ169 w77 w53 (by decide) (by decide)) q186a q186c (g := (mkF m 149 #[.val (.int i_), .val (.int j_), .val (.int k_), .val (.int f_), .val (.int g_), .val (.ref r_1), .val (.int (g_ &&& (3 : Int32))), .val (.ref r_103), .val .null, .val (.ref r_169), .val (.ref b171), .val (.int (1 : Int32)), .val (.ref o_183), .unset] [(.ref o_183)])) rfl (by rw [hml]; rfl) (Steps.refl _) (argsL := []) (rest := []) (lenOf own_pd22 rfl) rfl (by show 2 * 0 + _ ≤ _; exact Nat.le_of_eq rfl) (hb hby at_149) (fun _ _ => ⟨rfl, e185, (by decide : 21 + 0 ≤ _), (by decide : 43 + 0 ≤ _)⟩)
          dsimp only [Pt.U, Pt.locs, Pt.cells, Pt.slots] at X186 l186 y186 z186 st186 hQ186
          subst l186 y186 z186
          obtain ⟨rfl, Nq186, e186⟩ := hQ186
          have N186 := Fr.app N185 Nq186
          refine otr (S' := T186.setTop (mkF m 152 #[.val (.int i_), .val (.int j_), .val (.int k_), .val (.int f_), .val (.int g_), .val (.ref r_1), .val (.int (g_ &&& (3 : Int32))), .val (.ref r_103), .val .null, .val (.ref r_169), .val (.ref b171), .val (.int (1 : Int32)), .val (.ref o_183), .unset] [(.ref r_183)])) st186 ?_
          obtain ⟨T187, X187, e187, st187⟩ := castY X186 hx hZ169 hown169 w26 e186 (Ins.self p183_4) (g := (mkF m 152 #[.val (.int i_), .val (.int j_), .val (.int k_), .val (.int f_), .val (.int g_), .val (.ref r_1), .val (.int (g_ &&& (3 : Int32))), .val (.ref r_103), .val .null, .val (.ref r_169), .val (.ref b171), .val (.int (1 : Int32)), .val (.ref o_183), .unset] [(.ref r_183)])) rfl rfl (hb hby at_152)
          refine ogo (S' := T187.setTop (mkF m 155 #[.val (.int i_), .val (.int j_), .val (.int k_), .val (.int f_), .val (.int g_), .val (.ref r_1), .val (.int (g_ &&& (3 : Int32))), .val (.ref r_103), .val .null, .val (.ref r_169), .val (.ref b171), .val (.int (1 : Int32)), .val (.ref o_183), .unset] [(.ref r_183)])) st187 ?_
          refine o_astore X187 hx (l' := #[.val (.int i_), .val (.int j_), .val (.int k_), .val (.int f_), .val (.int g_), .val (.ref r_1), .val (.int (g_ &&& (3 : Int32))), .val (.ref r_103), .val .null, .val (.ref r_169), .val (.ref b171), .val (.int (1 : Int32)), .val (.ref o_183), .val (.ref r_183)]) (hb hby at_155) rfl rfl ?_
          refine o_aload X187 hx (hb hby at_157) rfl rfl ?_
          obtain ⟨cq188, kq188, q188a, q188b, q188c⟩ := isOf hZ169 e187 p183_4
          obtain ⟨_, _, ⟨T188, L188, kc188, n188⟩, -, X188, ⟨Lc188, hQ188, l188, y188, z188⟩, st188⟩ := X187.virtualBack hx (y := yM24) (z := yM24) hown169 (mvT hZ169 w79) (mvT hZ169 w80) (notFace_of_selects (args := #[]) (mvT hZ169 w82)) (mvT hZ169 w82) (mvT hZ169 w81) (by decide) (backOf (W := 0) (rm_g_queue l Z a0 hw []  r_183 (.ref r_1) T183.heap n0 ((c174.keep K173 (allS n0_b171 all0)).keep K183 all0) p183_5 (by first | rfl | assumption | decide | omega)) hZ169 w83 w28 (by decide) (by decide)) q188a q188c (g := (mkF m 159 #[.val (.int i_), .val (.int j_), .val (.int k_), .val (.int f_), .val (.int g_), .val (.ref r_1), .val (.int (g_ &&& (3 : Int32))), .val (.ref r_103), .val .null, .val (.ref r_169), .val (.ref b171), .val (.int (1 : Int32)), .val (.ref o_183), .val (.ref r_183)] [(.ref r_183)])) rfl (by rw [hml]; rfl) (Steps.refl _) (argsL := []) (rest := []) (lenOf own_pd23 rfl) rfl (by show 2 * 0 + _ ≤ _; exact Nat.le_of_eq rfl) (hb hby at_159) (fun _ _ => ⟨rfl, e187, (by decide : 21 + 0 ≤ _), (by decide : 43 + 0 ≤ _)⟩)
          dsimp only [Pt.U, Pt.locs, Pt.cells, Pt.slots] at X188 l188 y188 z188 st188 hQ188
          subst l188 y188 z188
          obtain ⟨rfl, Nq188, e188⟩ := hQ188
          have N188 := Fr.app N186 Nq188
          refine otr (S' := T188.setTop (mkF m 162 #[.val (.int i_), .val (.int j_), .val (.int k_), .val (.int f_), .val (.int g_), .val (.ref r_1), .val (.int (g_ &&& (3 : Int32))), .val (.ref r_103), .val .null, .val (.ref r_169), .val (.ref b171), .val (.int (1 : Int32)), .val (.ref o_183), .val (.ref r_183)] [(.ref r_1)])) st188 ?_
          refine o_aload X188 hx (hb hby at_162) rfl rfl ?_
          have c190 := (((Exa.ext E171 ((p1_2.keep K103).keep K169)).keep K173).keep K183)
          obtain ⟨_, _, ⟨T189, L189, kc189, n189⟩, -, X189, ⟨Lc189, hQ189, l189, y189, z189⟩, st189⟩ := Jvm.LawKit.callS X188 hx (y := yM13) hown169 (mvT hZ169 w84) (mvT hZ169 w85) (mvT hZ169 w2) (mvT hZ169 w86) (by decide) (backOf (W := 0) (rm_eqRR l Z a0 hw [] z_CS v_FMT s_EMPTY r_1 ba_1 kb_1 (own_ml i_) (own_mv i_) (own_ms i_) r_1 ba_1 kb_1 (own_ml i_) (own_mv i_) (own_ms i_) T183.heap n0 SB ((c174.keep K173 (allS n0_b171 all0)).keep K183 all0) c190 (c180.keep K183 nin0) (c181.keep K183 nin0) (c182.keep K183 nin0) c190 (c180.keep K183 nin0) (c181.keep K183 nin0) (c182.keep K183 nin0) p1_6 p1_6) hZ169 w86 w2 (by decide) (by decide)) (g := (mkF m 164 #[.val (.int i_), .val (.int j_), .val (.int k_), .val (.int f_), .val (.int g_), .val (.ref r_1), .val (.int (g_ &&& (3 : Int32))), .val (.ref r_103), .val .null, .val (.ref r_169), .val (.ref b171), .val (.int (1 : Int32)), .val (.ref o_183), .val (.ref r_183)] [(.ref r_1), (.ref r_1)])) rfl (by rw [hml]; rfl) (argsL := [(.ref r_1), (.ref r_1)]) (rest := []) (lenOf own_pd24 rfl) rfl (by show 2 * 0 + _ ≤ _; exact Nat.le_of_eq rfl) (hb hby at_164) (fun _ _ => ⟨rfl, e188, (by decide : 21 + 0 ≤ _), (by decide : 43 + 0 ≤ _)⟩)
          dsimp only [Pt.U, Pt.locs, Pt.cells, Pt.slots] at X189 l189 y189 z189 st189 hQ189
          subst l189 y189 z189
          obtain ⟨rfl, Nq189, e189⟩ := hQ189
          have N189 := Fr.app N188 Nq189
          refine ogo (S' := T189.setTop (mkF m 167 #[.val (.int i_), .val (.int j_), .val (.int k_), .val (.int f_), .val (.int g_), .val (.ref r_1), .val (.int (g_ &&& (3 : Int32))), .val (.ref r_103), .val .null, .val (.ref r_169), .val (.ref b171), .val (.int (1 : Int32)), .val (.ref o_183), .val (.ref r_183)] [(.int (own_b (own_ms i_) (own_ms i_)))])) st189 ?_
          rw [own_bs]
          refine o_ifNo X189 hx (hb hby at_167) (feq (by decide : ¬ ((1 : Int32) = (0 : Int32)))).1 ?_
          refine o_aload X189 hx (hb hby at_170) rfl rfl ?_
          obtain ⟨cq191, kq191, q191a, q191b, q191c⟩ := isOf hZ169 e189 p183_4
          obtain ⟨_, _, ⟨T191, L191, kc191, n191⟩, -, X191, ⟨Lc191, hQ191, l191, y191, z191⟩, st191⟩ := X189.virtualBack hx (y := yM25) (z := yM25) hown169 (mvT hZ169 w98) (mvT hZ169 w99) (notFace_of_selects (args := #[]) (mvT hZ169 w101)) (mvT hZ169 w101) (mvT hZ169 w100) (by decide) (backOf (W := 0) (rm_g_space l Z a0 hw []  r_183 .null T183.heap n0 ((c174.keep K173 (allS n0_b171 all0)).keep K183 all0) p183_6 (by first | rfl | assumption | decide | omega)) hZ169 w102 w28 (by decide) (by decide)) q191a q191c (g := (mkF m 172 #[.val (.int i_), .val (.int j_), .val (.int k_), .val (.int f_), .val (.int g_), .val (.ref r_1), .val (.int (g_ &&& (3 : Int32))), .val (.ref r_103), .val .null, .val (.ref r_169), .val (.ref b171), .val (.int (1 : Int32)), .val (.ref o_183), .val (.ref r_183)] [(.ref r_183)])) rfl (by rw [hml]; rfl) (Steps.refl _) (argsL := []) (rest := []) (lenOf own_pd23 rfl) rfl (by show 2 * 0 + _ ≤ _; exact Nat.le_of_eq rfl) (hb hby at_172) (fun _ _ => ⟨rfl, e189, (by decide : 21 + 0 ≤ _), (by decide : 43 + 0 ≤ _)⟩)
          dsimp only [Pt.U, Pt.locs, Pt.cells, Pt.slots] at X191 l191 y191 z191 st191 hQ191
          subst l191 y191 z191
          obtain ⟨rfl, Nq191, e191⟩ := hQ191
          have N191 := Fr.app N189 Nq191
          refine otr (S' := T191.setTop (mkF m 175 #[.val (.int i_), .val (.int j_), .val (.int k_), .val (.int f_), .val (.int g_), .val (.ref r_1), .val (.int (g_ &&& (3 : Int32))), .val (.ref r_103), .val .null, .val (.ref r_169), .val (.ref b171), .val (.int (1 : Int32)), .val (.ref o_183), .val (.ref r_183)] [.null])) st191 ?_
          refine o_aload X191 hx (hb hby at_175) rfl rfl ?_
          obtain ⟨_, _, ⟨T192, L192, kc192, n192⟩, -, X192, ⟨Lc192, hQ192, l192, y192, z192⟩, st192⟩ := Jvm.LawKit.callS X191 hx (y := yM13) hown169 (mvT hZ169 w84) (mvT hZ169 w85) (mvT hZ169 w2) (mvT hZ169 w86) (by decide) (backOf (W := 0) (rm_eqNN l Z a0 hw []   T183.heap n0 ((c174.keep K173 (allS n0_b171 all0)).keep K183 all0) ) hZ169 w86 w2 (by decide) (by decide)) (g := (mkF m 177 #[.val (.int i_), .val (.int j_), .val (.int k_), .val (.int f_), .val (.int g_), .val (.ref r_1), .val (.int (g_ &&& (3 : Int32))), .val (.ref r_103), .val .null, .val (.ref r_169), .val (.ref b171), .val (.int (1 : Int32)), .val (.ref o_183), .val (.ref r_183)] [.null, .null])) rfl (by rw [hml]; rfl) (argsL := [.null, .null]) (rest := []) (lenOf own_pd24 rfl) rfl (by show 2 * 0 + _ ≤ _; exact Nat.le_of_eq rfl) (hb hby at_177) (fun _ _ => ⟨rfl, e191, (by decide : 21 + 0 ≤ _), (by decide : 43 + 0 ≤ _)⟩)
          dsimp only [Pt.U, Pt.locs, Pt.cells, Pt.slots] at X192 l192 y192 z192 st192 hQ192
          subst l192 y192 z192
          obtain ⟨rfl, Nq192, e192⟩ := hQ192
          have N192 := Fr.app N191 Nq192
          refine ogo (S' := T192.setTop (mkF m 180 #[.val (.int i_), .val (.int j_), .val (.int k_), .val (.int f_), .val (.int g_), .val (.ref r_1), .val (.int (g_ &&& (3 : Int32))), .val (.ref r_103), .val .null, .val (.ref r_169), .val (.ref b171), .val (.int (1 : Int32)), .val (.ref o_183), .val (.ref r_183)] [(.int (1 : Int32))])) st192 ?_
          refine o_ifNo X192 hx (hb hby at_180) (feq (by decide : ¬ ((1 : Int32) = (0 : Int32)))).1 ?_
          refine o_aload X192 hx (hb hby at_183) rfl rfl ?_
          obtain ⟨cq193, kq193, q193a, q193b, q193c⟩ := isOf hZ169 e192 p183_4
          obtain ⟨_, _, ⟨T193, L193, kc193, n193⟩, -, X193, ⟨Lc193, hQ193, l193, y193, z193⟩, st193⟩ := X192.virtualBack hx (y := yM26) (z := yM26) hown169 (mvT hZ169 w103) (mvT hZ169 w104) (notFace_of_selects (args := #[]) (mvT hZ169 w106)) (mvT hZ169 w106) (mvT hZ169 w105) (by decide) (backOf (W := 0) (rm_g_contentId l Z a0 hw []  r_183 (.ref r_169) T183.heap n0 ((c174.keep K173 (allS n0_b171 all0)).keep K183 all0) p183_7 (by first | rfl | assumption | decide | omega)) hZ169 w107 w28 (by decide) (by decide)) q193a q193c (g := (mkF m 185 #[.val (.int i_), .val (.int j_), .val (.int k_), .val (.int f_), .val (.int g_), .val (.ref r_1), .val (.int (g_ &&& (3 : Int32))), .val (.ref r_103), .val .null, .val (.ref r_169), .val (.ref b171), .val (.int (1 : Int32)), .val (.ref o_183), .val (.ref r_183)] [(.ref r_183)])) rfl (by rw [hml]; rfl) (Steps.refl _) (argsL := []) (rest := []) (lenOf own_pd23 rfl) rfl (by show 2 * 0 + _ ≤ _; exact Nat.le_of_eq rfl) (hb hby at_185) (fun _ _ => ⟨rfl, e192, (by decide : 21 + 0 ≤ _), (by decide : 43 + 0 ≤ _)⟩)
          dsimp only [Pt.U, Pt.locs, Pt.cells, Pt.slots] at X193 l193 y193 z193 st193 hQ193
          subst l193 y193 z193
          obtain ⟨rfl, Nq193, e193⟩ := hQ193
          have N193 := Fr.app N192 Nq193
          refine otr (S' := T193.setTop (mkF m 188 #[.val (.int i_), .val (.int j_), .val (.int k_), .val (.int f_), .val (.int g_), .val (.ref r_1), .val (.int (g_ &&& (3 : Int32))), .val (.ref r_103), .val .null, .val (.ref r_169), .val (.ref b171), .val (.int (1 : Int32)), .val (.ref o_183), .val (.ref r_183)] [(.ref r_169)])) st193 ?_
          refine o_aload X193 hx (hb hby at_188) rfl rfl ?_
          have c195 := (((Fld.ext E171 p169_3).keep K173 (ninS (Nat.ne_of_lt (Nat.lt_of_lt_of_le (Nat.lt_of_lt_of_le p169_2.lt (Nat.le_refl _)) (Nat.le_of_eq g171.symm))) nin0)).keep K183 nin0)
          have c196 := (((Fld.ext E171 p169_4).keep K173 (ninS (Nat.ne_of_lt (Nat.lt_of_lt_of_le (Nat.lt_of_lt_of_le p169_2.lt (Nat.le_refl _)) (Nat.le_of_eq g171.symm))) nin0)).keep K183 nin0)
          have c197 := (((p169_5.ext E171).keep K173 (ninS (Nat.ne_of_lt (Nat.lt_of_lt_of_le (Nat.lt_of_lt_of_le p169_1 (Nat.le_refl _)) (Nat.le_of_eq g171.symm))) nin0)).keep K183 nin0)
          obtain ⟨_, _, ⟨T194, L194, kc194, n194⟩, -, X194, ⟨Lc194, hQ194, l194, y194, z194⟩, st194⟩ := Jvm.LawKit.callS X193 hx (y := yM13) hown169 (mvT hZ169 w84) (mvT hZ169 w85) (mvT hZ169 w2) (mvT hZ169 w86) (by decide) (backOf (W := 0) (rm_eqRR l Z a0 hw [] z_CS v_FMT s_EMPTY r_169 ba_169 kb_169 (own_ml f_) (own_mv f_) (own_ms f_) r_169 ba_169 kb_169 (own_ml f_) (own_mv f_) (own_ms f_) T183.heap n0 SB ((c174.keep K173 (allS n0_b171 all0)).keep K183 all0) (((Exa.ext E171 p169_2).keep K173).keep K183) c195 c196 c197 (((Exa.ext E171 p169_2).keep K173).keep K183) c195 c196 c197 p169_6 p169_6) hZ169 w86 w2 (by decide) (by decide)) (g := (mkF m 190 #[.val (.int i_), .val (.int j_), .val (.int k_), .val (.int f_), .val (.int g_), .val (.ref r_1), .val (.int (g_ &&& (3 : Int32))), .val (.ref r_103), .val .null, .val (.ref r_169), .val (.ref b171), .val (.int (1 : Int32)), .val (.ref o_183), .val (.ref r_183)] [(.ref r_169), (.ref r_169)])) rfl (by rw [hml]; rfl) (argsL := [(.ref r_169), (.ref r_169)]) (rest := []) (lenOf own_pd24 rfl) rfl (by show 2 * 0 + _ ≤ _; exact Nat.le_of_eq rfl) (hb hby at_190) (fun _ _ => ⟨rfl, e193, (by decide : 21 + 0 ≤ _), (by decide : 43 + 0 ≤ _)⟩)
          dsimp only [Pt.U, Pt.locs, Pt.cells, Pt.slots] at X194 l194 y194 z194 st194 hQ194
          subst l194 y194 z194
          obtain ⟨rfl, Nq194, e194⟩ := hQ194
          have N194 := Fr.app N193 Nq194
          refine ogo (S' := T194.setTop (mkF m 193 #[.val (.int i_), .val (.int j_), .val (.int k_), .val (.int f_), .val (.int g_), .val (.ref r_1), .val (.int (g_ &&& (3 : Int32))), .val (.ref r_103), .val .null, .val (.ref r_169), .val (.ref b171), .val (.int (1 : Int32)), .val (.ref o_183), .val (.ref r_183)] [(.int (own_b (own_ms f_) (own_ms f_)))])) st194 ?_
          rw [own_bs]
          refine o_ifNo X194 hx (hb hby at_193) (feq (by decide : ¬ ((1 : Int32) = (0 : Int32)))).1 ?_
          refine o_iconst X194 hx (1 : Int32) (hb hby at_196) rfl ?_
          refine o_goto X194 hx 201 (hb hby at_197) (by decide) (by decide) ?_
          refine oendS X194 hlk hS169 (Nat.le_trans (Nat.le_refl _) (Nat.le_trans (Nat.le_trans E171.1 K173.1) K183.1)) e194 hZ169 hEL hs0 (CHr.trans (CHr.trans (CHr.trans (CHr.trans (CHr.trans (CHr.trans (CHr.refl H0) C1) C103) C169) (CHr.ext E171 H170)) (CHr.keep K173 (allS (Safe.exa hZ169.alike A171 (by decide) (by decide)) all0) H172)) (CHr.keep K183 all0 H175)) (v := some (.int (1 : Int32))) (fun h => by rw [hret] at h; cases h) (fun fs hr => retN X194 hx (t := .boolean) hret (by simp) (hb hby at_201) hr) (by decide) (by decide) ?_
          show own_Q_law Z _ _ _ _ _ _ _ _ h0 n0 _ T194.heap _
          rw [e194]
          exact ⟨rfl, N194, (((((((Keep.refl h0 []).trans K1 all0).trans K103 all0).trans K169 all0).ext E171).trans K173 (allS (Or.inr (Nat.le_trans (Nat.le_trans (Nat.le_trans K1.1 K103.1) K169.1) (Nat.le_of_eq g171.symm))) all0)).trans K183 all0)⟩
        · refine o_ifNo X103 hx (hb hby at_69) (feq hc168).1 ?_
          refine o_aconst_null X103 hx (hb hby at_72) ?_
          refine o_goto X103 hx 80 (hb hby at_73) (by decide) (by decide) ?_
          refine o_astore X103 hx (l' := #[.val (.int i_), .val (.int j_), .val (.int k_), .val (.int f_), .val (.int g_), .val (.ref r_1), .val (.int (g_ &&& (3 : Int32))), .val (.ref r_103), .val .null, .val .null, .unset, .unset, .unset, .unset]) (hb hby at_80) rfl rfl ?_
          obtain ⟨T198, _, X198, rfl, E198, A198, D198, -, st198⟩ := newO X103 hx hZ103 hown103 w26 w27 w28 rfl (g := (mkF m 82 #[.val (.int i_), .val (.int j_), .val (.int k_), .val (.int f_), .val (.int g_), .val (.ref r_1), .val (.int (g_ &&& (3 : Int32))), .val (.ref r_103), .val .null, .val .null, .unset, .unset, .unset, .unset] [])) rfl (hb hby at_82) (by decide) (by decide)
          obtain ⟨b198, g198⟩ : ∃ z, z = T103.heap.size := ⟨_, rfl⟩
          rw [← g198] at A198 D198 st198
          have n0_b198 : n0 ≤ b198 := Nat.le_trans (Nat.le_trans (Nat.le_of_eq O0.1.symm) O0.2.1) (Nat.le_trans (Nat.le_trans K1.1 K103.1) (Nat.le_of_eq g198.symm))
          have H199 := CHv.ext E198 H104
          have F198_queue : Fld Z T198.heap b198 "com/example/reliquary/reliquary/DeadLetterSelection" "queue" "Ljava/lang/String;" .null := D198 (Or.inr w39) (ty := (.object "java/lang/String")) (by decide)
          have F198_space : Fld Z T198.heap b198 "com/example/reliquary/reliquary/DeadLetterSelection" "space" "Ljava/lang/String;" .null := D198 (Or.inr w41) (ty := (.object "java/lang/String")) (by decide)
          have F198_contentId : Fld Z T198.heap b198 "com/example/reliquary/reliquary/DeadLetterSelection" "contentId" "Ljava/lang/String;" .null := D198 (Or.inr w43) (ty := (.object "java/lang/String")) (by decide)
          refine ogo (S' := T198.setTop (mkF m 85 #[.val (.int i_), .val (.int j_), .val (.int k_), .val (.int f_), .val (.int g_), .val (.ref r_1), .val (.int (g_ &&& (3 : Int32))), .val (.ref r_103), .val .null, .val .null, .unset, .unset, .unset, .unset] [(.ref b198)])) st198 ?_
          refine o_dup X198 hx (hb hby at_85) rfl ?_
          refine o_aload X198 hx (hb hby at_86) rfl rfl ?_
          refine o_aload X198 hx (hb hby at_88) rfl rfl ?_
          refine o_aload X198 hx (hb hby at_90) rfl rfl ?_
          obtain ⟨_, _, ⟨T200, L200, kc200, n200⟩, -, X200, ⟨Lc200, hQ200, l200, y200, z200⟩, st200⟩ := X198.specialBack hx (y := yM17) rfl hown103 (mvT hZ103 w29) (mvT hZ103 w30) (mvT hZ103 w31) (by decide) (backOf (W := 1) (rm_dli l Z a0 hw []  b198 (.ref r_103) .null .null T198.heap n0 (((O0.keep K1 all0).keep K103 all0).ext E198) A198 F198_queue F198_space F198_contentId n0_b198 (by first | rfl | assumption | decide | omega) (by first | rfl | assumption | decide | omega) (by first | rfl | assumption | decide | omega) (by first | rfl | assumption | decide | omega) (by first | rfl | assumption | decide | omega) (by first | rfl | assumption | decide | omega)) hZ103 w31 w28 (by decide) (by decide)) (g := (mkF m 92 #[.val (.int i_), .val (.int j_), .val (.int k_), .val (.int f_), .val (.int g_), .val (.ref r_1), .val (.int (g_ &&& (3 : Int32))), .val (.ref r_103), .val .null, .val .null, .unset, .unset, .unset, .unset] [.null, .null, (.ref r_103), (.ref b198), (.ref b198)])) rfl (by rw [hml]; rfl) (Steps.refl _) (a := b198) (argsL := [(.ref r_103), .null, .null]) (rest := [(.ref b198)]) (lenOf own_pd16 rfl) rfl (by show 2 * 0 + _ ≤ _; exact Nat.le_of_eq rfl) (hb hby at_92) (fun _ _ => ⟨rfl, rfl, (by decide : 13 + 0 ≤ _), (by decide : 27 + 0 ≤ _)⟩)
          dsimp only [Pt.U, Pt.locs, Pt.cells, Pt.slots] at X200 l200 y200 z200 st200 hQ200
          subst l200 y200 z200
          obtain ⟨rfl, Nq200, K200, p200_0, p200_1, p200_2, p200_3⟩ := hQ200
          have N200 := Fr.app N103 Nq200
          have H201 := CHv.keep K200 (allS (Safe.exa hZ103.alike A198 (by decide) (by decide)) all0) H199
          refine otr (S' := T200.setTop (mkF m 95 #[.val (.int i_), .val (.int j_), .val (.int k_), .val (.int f_), .val (.int g_), .val (.ref r_1), .val (.int (g_ &&& (3 : Int32))), .val (.ref r_103), .val .null, .val .null, .unset, .unset, .unset, .unset] [(.ref b198)])) st200 ?_
          refine o_astore X200 hx (l' := #[.val (.int i_), .val (.int j_), .val (.int k_), .val (.int f_), .val (.int g_), .val (.ref r_1), .val (.int (g_ &&& (3 : Int32))), .val (.ref r_103), .val .null, .val .null, .val (.ref b198), .unset, .unset, .unset]) (hb hby at_95) rfl rfl ?_
          refine o_aload X200 hx (hb hby at_97) rfl rfl ?_
          refine o_ifnullNo X200 hx (hb hby at_99) ?_
          refine o_aload X200 hx (hb hby at_102) rfl rfl ?_
          refine o_aload X200 hx (hb hby at_104) rfl rfl ?_
          have c203 := ((((O0.keep K1 all0).keep K103 all0).ext E198).keep K200 (allS n0_b198 all0))
          have c204 := ((Fld.ext E198 p103_3).keep K200 (ninS (Nat.ne_of_lt (Nat.lt_of_lt_of_le (Nat.lt_of_lt_of_le p103_2.lt (Nat.le_refl _)) (Nat.le_of_eq g198.symm))) nin0))
          have c205 := ((Fld.ext E198 p103_4).keep K200 (ninS (Nat.ne_of_lt (Nat.lt_of_lt_of_le (Nat.lt_of_lt_of_le p103_2.lt (Nat.le_refl _)) (Nat.le_of_eq g198.symm))) nin0))
          have c206 := ((p103_5.ext E198).keep K200 (ninS (Nat.ne_of_lt (Nat.lt_of_lt_of_le (Nat.lt_of_lt_of_le p103_1 (Nat.le_refl _)) (Nat.le_of_eq g198.symm))) nin0))
          have c207 := ((Fld.ext E198 (p1_3.keep K103 nin0)).keep K200 (ninS (Nat.ne_of_lt (Nat.lt_of_lt_of_le (Nat.lt_of_lt_of_le p1_2.lt K103.1) (Nat.le_of_eq g198.symm))) nin0))
          have c208 := ((Fld.ext E198 (p1_4.keep K103 nin0)).keep K200 (ninS (Nat.ne_of_lt (Nat.lt_of_lt_of_le (Nat.lt_of_lt_of_le p1_2.lt K103.1) (Nat.le_of_eq g198.symm))) nin0))
          have c209 := (((p1_5.keep K103 nin0).ext E198).keep K200 (ninS (Nat.ne_of_lt (Nat.lt_of_lt_of_le (Nat.lt_of_lt_of_le p1_1 K103.1) (Nat.le_of_eq g198.symm))) nin0))
          obtain ⟨_, _, ⟨T202, L202, kc202, n202⟩, -, X202, ⟨Lc202, hQ202, l202, y202, z202⟩, st202⟩ := Jvm.LawKit.callS X200 hx (y := yM13) hown103 (mvT hZ103 w84) (mvT hZ103 w85) (mvT hZ103 w2) (mvT hZ103 w86) (by decide) (backOf (W := 0) (rm_eqRR l Z a0 hw [] z_CS v_FMT s_EMPTY r_103 ba_103 kb_103 (own_ml i_) (own_mv i_) (own_ms i_) r_1 ba_1 kb_1 (own_ml i_) (own_mv i_) (own_ms i_) T200.heap n0 SB c203 ((Exa.ext E198 p103_2).keep K200) c204 c205 c206 ((Exa.ext E198 (p1_2.keep K103)).keep K200) c207 c208 c209 p103_6 p1_6) hZ103 w86 w2 (by decide) (by decide)) (g := (mkF m 106 #[.val (.int i_), .val (.int j_), .val (.int k_), .val (.int f_), .val (.int g_), .val (.ref r_1), .val (.int (g_ &&& (3 : Int32))), .val (.ref r_103), .val .null, .val .null, .val (.ref b198), .unset, .unset, .unset] [(.ref r_1), (.ref r_103)])) rfl (by rw [hml]; rfl) (argsL := [(.ref r_103), (.ref r_1)]) (rest := []) (lenOf own_pd24 rfl) rfl (by show 2 * 0 + _ ≤ _; exact Nat.le_of_eq rfl) (hb hby at_106) (fun _ _ => ⟨rfl, rfl, (by decide : 13 + 0 ≤ _), (by decide : 27 + 0 ≤ _)⟩)
          dsimp only [Pt.U, Pt.locs, Pt.cells, Pt.slots] at X202 l202 y202 z202 st202 hQ202
          subst l202 y202 z202
          obtain ⟨rfl, Nq202, e202⟩ := hQ202
          have N202 := Fr.app N200 Nq202
          refine ogo (S' := T202.setTop (mkF m 109 #[.val (.int i_), .val (.int j_), .val (.int k_), .val (.int f_), .val (.int g_), .val (.ref r_1), .val (.int (g_ &&& (3 : Int32))), .val (.ref r_103), .val .null, .val .null, .val (.ref b198), .unset, .unset, .unset] [(.int (own_b (own_ms i_) (own_ms i_)))])) st202 ?_
          rw [own_bs]
          refine o_ifNo X202 hx (hb hby at_109) (feq (by decide : ¬ ((1 : Int32) = (0 : Int32)))).1 ?_
          refine o_iconst X202 hx (1 : Int32) (hb hby at_112) rfl ?_
          refine o_goto X202 hx 117 (hb hby at_113) (by decide) (by decide) ?_
          refine o_istore X202 hx (l' := #[.val (.int i_), .val (.int j_), .val (.int k_), .val (.int f_), .val (.int g_), .val (.ref r_1), .val (.int (g_ &&& (3 : Int32))), .val (.ref r_103), .val .null, .val .null, .val (.ref b198), .val (.int (1 : Int32)), .unset, .unset]) (hb hby at_117) rfl ?_
          refine o_aload X202 hx (hb hby at_119) rfl rfl ?_
          refine o_aload X202 hx (hb hby at_121) rfl rfl ?_
          obtain ⟨cq210, kq210, q210a, q210b, q210c⟩ := isOf hZ103 e202 p200_0
          obtain ⟨_, _, ⟨T210, L210, kc210, n210⟩, -, X210, ⟨Lc210, hQ210, l210, y210, z210⟩, st210⟩ := X202.virtualBack hx (y := yM27) (z := yM27) hown103 (mvT hZ103 w44) (mvT hZ103 w45) (notFace_of_selects (args := #[]) (mvT hZ103 w47)) (mvT hZ103 w47) (mvT hZ103 w46) (by decide) (backOf (W := 0) (rm_onqT l Z a0 hw [] z_CS v_FMT s_EMPTY b198 r_103 ba_103 kb_103 (own_ml i_) (own_mv i_) (own_ms i_) r_1 ba_1 kb_1 (own_ml i_) (own_mv i_) (own_ms i_) .null .null T200.heap n0 SB c203 p200_0 p200_1 p200_2 p200_3 (by first | rfl | assumption | decide | omega) (by first | rfl | assumption | decide | omega) (by first | rfl | assumption | decide | omega) (by first | rfl | assumption | decide | omega) ((Exa.ext E198 p103_2).keep K200) c204 c205 c206 ((Exa.ext E198 (p1_2.keep K103)).keep K200) c207 c208 c209 p103_6 p1_6 (Nat.ne_of_gt (Nat.lt_of_lt_of_le (Nat.lt_of_lt_of_le p1_2.lt (Nat.le_refl _)) p103_0)) rfl) hZ103 w48 w28 (by decide) (by decide)) q210a q210c (g := (mkF m 123 #[.val (.int i_), .val (.int j_), .val (.int k_), .val (.int f_), .val (.int g_), .val (.ref r_1), .val (.int (g_ &&& (3 : Int32))), .val (.ref r_103), .val .null, .val .null, .val (.ref b198), .val (.int (1 : Int32)), .unset, .unset] [(.ref r_1), (.ref b198)])) rfl (by rw [hml]; rfl) (Steps.refl _) (argsL := [(.ref r_1)]) (rest := []) (lenOf own_pd21 rfl) rfl (by show 2 * 0 + _ ≤ _; exact Nat.le_of_eq rfl) (hb hby at_123) (fun _ _ => ⟨rfl, e202, (by decide : 13 + 2 ≤ _), (by decide : 27 + 4 ≤ _)⟩)
          dsimp only [Pt.U, Pt.locs, Pt.cells, Pt.slots] at X210 l210 y210 z210 st210 hQ210
          subst l210 y210 z210
          obtain ⟨o_210, r_210, rfl, Nq210, K210, p210_0, p210_1, p210_2, p210_3, p210_4, p210_5, p210_6, p210_7⟩ := hQ210
          have N210 := Fr.app N202 Nq210
          have H211 := CHv.keep K210 all0 H201
          have n0_o_210 : n0 ≤ o_210 := Nat.le_trans (Nat.le_trans (Nat.le_of_eq O0.1.symm) O0.2.1) (Nat.le_trans (Nat.le_trans (Nat.le_trans (Nat.le_trans K1.1 K103.1) E198.1) K200.1) p210_0)
          have n0_r_210 : n0 ≤ r_210 := Nat.le_trans (Nat.le_trans (Nat.le_of_eq O0.1.symm) O0.2.1) (Nat.le_trans (Nat.le_trans (Nat.le_trans (Nat.le_trans K1.1 K103.1) E198.1) K200.1) p210_1)
          refine otr (S' := T210.setTop (mkF m 126 #[.val (.int i_), .val (.int j_), .val (.int k_), .val (.int f_), .val (.int g_), .val (.ref r_1), .val (.int (g_ &&& (3 : Int32))), .val (.ref r_103), .val .null, .val .null, .val (.ref b198), .val (.int (1 : Int32)), .unset, .unset] [(.ref o_210)])) st210 ?_
          refine o_astore X210 hx (l' := #[.val (.int i_), .val (.int j_), .val (.int k_), .val (.int f_), .val (.int g_), .val (.ref r_1), .val (.int (g_ &&& (3 : Int32))), .val (.ref r_103), .val .null, .val .null, .val (.ref b198), .val (.int (1 : Int32)), .val (.ref o_210), .unset]) (hb hby at_126) rfl rfl ?_
          refine o_aload X210 hx (hb hby at_128) rfl rfl ?_
          obtain ⟨cq212, kq212, q212a, q212b, q212c⟩ := isOf hZ103 rfl p210_2
          obtain ⟨_, _, ⟨T212, L212, kc212, n212⟩, -, X212, ⟨Lc212, hQ212, l212, y212, z212⟩, st212⟩ := X210.virtualBack hx (y := yM22) (z := yM22) hown103 (mvT hZ103 w68) (mvT hZ103 w69) (notFace_of_selects (args := #[]) (mvT hZ103 w71)) (mvT hZ103 w71) (mvT hZ103 w70) (by decide) (backOf (W := 0) (rm_oppR l Z a0 hw []  o_210 r_210 T210.heap n0 (c203.keep K210 all0) p210_3) hZ103 w72 w53 (by decide) (by decide)) q212a q212c (g := (mkF m 130 #[.val (.int i_), .val (.int j_), .val (.int k_), .val (.int f_), .val (.int g_), .val (.ref r_1), .val (.int (g_ &&& (3 : Int32))), .val (.ref r_103), .val .null, .val .null, .val (.ref b198), .val (.int (1 : Int32)), .val (.ref o_210), .unset] [(.ref o_210)])) rfl (by rw [hml]; rfl) (Steps.refl _) (argsL := []) (rest := []) (lenOf own_pd8 rfl) rfl (by show 2 * 0 + _ ≤ _; exact Nat.le_of_eq rfl) (hb hby at_130) (fun _ _ => ⟨rfl, rfl, (by decide : 15 + 0 ≤ _), (by decide : 31 + 0 ≤ _)⟩)
          dsimp only [Pt.U, Pt.locs, Pt.cells, Pt.slots] at X212 l212 y212 z212 st212 hQ212
          subst l212 y212 z212
          obtain ⟨rfl, Nq212, e212⟩ := hQ212
          have N212 := Fr.app N210 Nq212
          refine otr (S' := T212.setTop (mkF m 133 #[.val (.int i_), .val (.int j_), .val (.int k_), .val (.int f_), .val (.int g_), .val (.ref r_1), .val (.int (g_ &&& (3 : Int32))), .val (.ref r_103), .val .null, .val .null, .val (.ref b198), .val (.int (1 : Int32)), .val (.ref o_210), .unset] [(.int (1 : Int32))])) st212 ?_
          refine o_iload X212 hx (hb hby at_133) rfl ?_
          refine o_icmpYes X212 hx 140 (hb hby at_135) (teq (by decide : (1 : Int32) = (1 : Int32))).1 (by decide) (by decide) ?_
          refine o_iload X212 hx (hb hby at_140) rfl ?_
          refine o_ifYes X212 hx 147 (hb hby at_142) (feq (by decide : ¬ ((1 : Int32) = (0 : Int32)))).2 (by decide) (by decide) ?_
          refine o_aload X212 hx (hb hby at_147) rfl rfl ?_
          obtain ⟨cq213, kq213, q213a, q213b, q213c⟩ := isOf hZ103 e212 p210_2
          obtain ⟨_, _, ⟨T213, L213, kc213, n213⟩, -, X213, ⟨Lc213, hQ213, l213, y213, z213⟩, st213⟩ := X212.virtualBack hx (y := yM23) (z := yM23) hown103 (mvT hZ103 w73) (mvT hZ103 w74) (notFace_of_selects (args := #[]) (mvT hZ103 w76)) (mvT hZ103 w76) (mvT hZ103 w75) (by decide) (backOf (W := 0) (rm_opg l Z a0 hw []  o_210 r_210 T210.heap n0 (c203.keep K210 all0) p210_3) hZ103 w77 w53 (by decide) (by decide)) q213a q213c (g := (mkF m 149 #[.val (.int i_), .val (.int j_), .val (.int k_), .val (.int f_), .val (.int g_), .val (.ref r_1), .val (.int (g_ &&& (3 : Int32))), .val (.ref r_103), .val .null, .val .null, .val (.ref b198), .val (.int (1 : Int32)), .val (.ref o_210), .unset] [(.ref o_210)])) rfl (by rw [hml]; rfl) (Steps.refl _) (argsL := []) (rest := []) (lenOf own_pd22 rfl) rfl (by show 2 * 0 + _ ≤ _; exact Nat.le_of_eq rfl) (hb hby at_149) (fun _ _ => ⟨rfl, e212, (by decide : 15 + 0 ≤ _), (by decide : 31 + 0 ≤ _)⟩)
          dsimp only [Pt.U, Pt.locs, Pt.cells, Pt.slots] at X213 l213 y213 z213 st213 hQ213
          subst l213 y213 z213
          obtain ⟨rfl, Nq213, e213⟩ := hQ213
          have N213 := Fr.app N212 Nq213
          refine otr (S' := T213.setTop (mkF m 152 #[.val (.int i_), .val (.int j_), .val (.int k_), .val (.int f_), .val (.int g_), .val (.ref r_1), .val (.int (g_ &&& (3 : Int32))), .val (.ref r_103), .val .null, .val .null, .val (.ref b198), .val (.int (1 : Int32)), .val (.ref o_210), .unset] [(.ref r_210)])) st213 ?_
          obtain ⟨T214, X214, e214, st214⟩ := castY X213 hx hZ103 hown103 w26 e213 (Ins.self p210_4) (g := (mkF m 152 #[.val (.int i_), .val (.int j_), .val (.int k_), .val (.int f_), .val (.int g_), .val (.ref r_1), .val (.int (g_ &&& (3 : Int32))), .val (.ref r_103), .val .null, .val .null, .val (.ref b198), .val (.int (1 : Int32)), .val (.ref o_210), .unset] [(.ref r_210)])) rfl rfl (hb hby at_152)
          refine ogo (S' := T214.setTop (mkF m 155 #[.val (.int i_), .val (.int j_), .val (.int k_), .val (.int f_), .val (.int g_), .val (.ref r_1), .val (.int (g_ &&& (3 : Int32))), .val (.ref r_103), .val .null, .val .null, .val (.ref b198), .val (.int (1 : Int32)), .val (.ref o_210), .unset] [(.ref r_210)])) st214 ?_
          refine o_astore X214 hx (l' := #[.val (.int i_), .val (.int j_), .val (.int k_), .val (.int f_), .val (.int g_), .val (.ref r_1), .val (.int (g_ &&& (3 : Int32))), .val (.ref r_103), .val .null, .val .null, .val (.ref b198), .val (.int (1 : Int32)), .val (.ref o_210), .val (.ref r_210)]) (hb hby at_155) rfl rfl ?_
          refine o_aload X214 hx (hb hby at_157) rfl rfl ?_
          obtain ⟨cq215, kq215, q215a, q215b, q215c⟩ := isOf hZ103 e214 p210_4
          obtain ⟨_, _, ⟨T215, L215, kc215, n215⟩, -, X215, ⟨Lc215, hQ215, l215, y215, z215⟩, st215⟩ := X214.virtualBack hx (y := yM24) (z := yM24) hown103 (mvT hZ103 w79) (mvT hZ103 w80) (notFace_of_selects (args := #[]) (mvT hZ103 w82)) (mvT hZ103 w82) (mvT hZ103 w81) (by decide) (backOf (W := 0) (rm_g_queue l Z a0 hw []  r_210 (.ref r_1) T210.heap n0 (c203.keep K210 all0) p210_5 (by first | rfl | assumption | decide | omega)) hZ103 w83 w28 (by decide) (by decide)) q215a q215c (g := (mkF m 159 #[.val (.int i_), .val (.int j_), .val (.int k_), .val (.int f_), .val (.int g_), .val (.ref r_1), .val (.int (g_ &&& (3 : Int32))), .val (.ref r_103), .val .null, .val .null, .val (.ref b198), .val (.int (1 : Int32)), .val (.ref o_210), .val (.ref r_210)] [(.ref r_210)])) rfl (by rw [hml]; rfl) (Steps.refl _) (argsL := []) (rest := []) (lenOf own_pd23 rfl) rfl (by show 2 * 0 + _ ≤ _; exact Nat.le_of_eq rfl) (hb hby at_159) (fun _ _ => ⟨rfl, e214, (by decide : 15 + 0 ≤ _), (by decide : 31 + 0 ≤ _)⟩)
          dsimp only [Pt.U, Pt.locs, Pt.cells, Pt.slots] at X215 l215 y215 z215 st215 hQ215
          subst l215 y215 z215
          obtain ⟨rfl, Nq215, e215⟩ := hQ215
          have N215 := Fr.app N213 Nq215
          refine otr (S' := T215.setTop (mkF m 162 #[.val (.int i_), .val (.int j_), .val (.int k_), .val (.int f_), .val (.int g_), .val (.ref r_1), .val (.int (g_ &&& (3 : Int32))), .val (.ref r_103), .val .null, .val .null, .val (.ref b198), .val (.int (1 : Int32)), .val (.ref o_210), .val (.ref r_210)] [(.ref r_1)])) st215 ?_
          refine o_aload X215 hx (hb hby at_162) rfl rfl ?_
          obtain ⟨_, _, ⟨T216, L216, kc216, n216⟩, -, X216, ⟨Lc216, hQ216, l216, y216, z216⟩, st216⟩ := Jvm.LawKit.callS X215 hx (y := yM13) hown103 (mvT hZ103 w84) (mvT hZ103 w85) (mvT hZ103 w2) (mvT hZ103 w86) (by decide) (backOf (W := 0) (rm_eqRR l Z a0 hw [] z_CS v_FMT s_EMPTY r_1 ba_1 kb_1 (own_ml i_) (own_mv i_) (own_ms i_) r_1 ba_1 kb_1 (own_ml i_) (own_mv i_) (own_ms i_) T210.heap n0 SB (c203.keep K210 all0) (((Exa.ext E198 (p1_2.keep K103)).keep K200).keep K210) (c207.keep K210 nin0) (c208.keep K210 nin0) (c209.keep K210 nin0) (((Exa.ext E198 (p1_2.keep K103)).keep K200).keep K210) (c207.keep K210 nin0) (c208.keep K210 nin0) (c209.keep K210 nin0) p1_6 p1_6) hZ103 w86 w2 (by decide) (by decide)) (g := (mkF m 164 #[.val (.int i_), .val (.int j_), .val (.int k_), .val (.int f_), .val (.int g_), .val (.ref r_1), .val (.int (g_ &&& (3 : Int32))), .val (.ref r_103), .val .null, .val .null, .val (.ref b198), .val (.int (1 : Int32)), .val (.ref o_210), .val (.ref r_210)] [(.ref r_1), (.ref r_1)])) rfl (by rw [hml]; rfl) (argsL := [(.ref r_1), (.ref r_1)]) (rest := []) (lenOf own_pd24 rfl) rfl (by show 2 * 0 + _ ≤ _; exact Nat.le_of_eq rfl) (hb hby at_164) (fun _ _ => ⟨rfl, e215, (by decide : 15 + 0 ≤ _), (by decide : 31 + 0 ≤ _)⟩)
          dsimp only [Pt.U, Pt.locs, Pt.cells, Pt.slots] at X216 l216 y216 z216 st216 hQ216
          subst l216 y216 z216
          obtain ⟨rfl, Nq216, e216⟩ := hQ216
          have N216 := Fr.app N215 Nq216
          refine ogo (S' := T216.setTop (mkF m 167 #[.val (.int i_), .val (.int j_), .val (.int k_), .val (.int f_), .val (.int g_), .val (.ref r_1), .val (.int (g_ &&& (3 : Int32))), .val (.ref r_103), .val .null, .val .null, .val (.ref b198), .val (.int (1 : Int32)), .val (.ref o_210), .val (.ref r_210)] [(.int (own_b (own_ms i_) (own_ms i_)))])) st216 ?_
          rw [own_bs]
          refine o_ifNo X216 hx (hb hby at_167) (feq (by decide : ¬ ((1 : Int32) = (0 : Int32)))).1 ?_
          refine o_aload X216 hx (hb hby at_170) rfl rfl ?_
          obtain ⟨cq217, kq217, q217a, q217b, q217c⟩ := isOf hZ103 e216 p210_4
          obtain ⟨_, _, ⟨T217, L217, kc217, n217⟩, -, X217, ⟨Lc217, hQ217, l217, y217, z217⟩, st217⟩ := X216.virtualBack hx (y := yM25) (z := yM25) hown103 (mvT hZ103 w98) (mvT hZ103 w99) (notFace_of_selects (args := #[]) (mvT hZ103 w101)) (mvT hZ103 w101) (mvT hZ103 w100) (by decide) (backOf (W := 0) (rm_g_space l Z a0 hw []  r_210 .null T210.heap n0 (c203.keep K210 all0) p210_6 (by first | rfl | assumption | decide | omega)) hZ103 w102 w28 (by decide) (by decide)) q217a q217c (g := (mkF m 172 #[.val (.int i_), .val (.int j_), .val (.int k_), .val (.int f_), .val (.int g_), .val (.ref r_1), .val (.int (g_ &&& (3 : Int32))), .val (.ref r_103), .val .null, .val .null, .val (.ref b198), .val (.int (1 : Int32)), .val (.ref o_210), .val (.ref r_210)] [(.ref r_210)])) rfl (by rw [hml]; rfl) (Steps.refl _) (argsL := []) (rest := []) (lenOf own_pd23 rfl) rfl (by show 2 * 0 + _ ≤ _; exact Nat.le_of_eq rfl) (hb hby at_172) (fun _ _ => ⟨rfl, e216, (by decide : 15 + 0 ≤ _), (by decide : 31 + 0 ≤ _)⟩)
          dsimp only [Pt.U, Pt.locs, Pt.cells, Pt.slots] at X217 l217 y217 z217 st217 hQ217
          subst l217 y217 z217
          obtain ⟨rfl, Nq217, e217⟩ := hQ217
          have N217 := Fr.app N216 Nq217
          refine otr (S' := T217.setTop (mkF m 175 #[.val (.int i_), .val (.int j_), .val (.int k_), .val (.int f_), .val (.int g_), .val (.ref r_1), .val (.int (g_ &&& (3 : Int32))), .val (.ref r_103), .val .null, .val .null, .val (.ref b198), .val (.int (1 : Int32)), .val (.ref o_210), .val (.ref r_210)] [.null])) st217 ?_
          refine o_aload X217 hx (hb hby at_175) rfl rfl ?_
          obtain ⟨_, _, ⟨T218, L218, kc218, n218⟩, -, X218, ⟨Lc218, hQ218, l218, y218, z218⟩, st218⟩ := Jvm.LawKit.callS X217 hx (y := yM13) hown103 (mvT hZ103 w84) (mvT hZ103 w85) (mvT hZ103 w2) (mvT hZ103 w86) (by decide) (backOf (W := 0) (rm_eqNN l Z a0 hw []   T210.heap n0 (c203.keep K210 all0) ) hZ103 w86 w2 (by decide) (by decide)) (g := (mkF m 177 #[.val (.int i_), .val (.int j_), .val (.int k_), .val (.int f_), .val (.int g_), .val (.ref r_1), .val (.int (g_ &&& (3 : Int32))), .val (.ref r_103), .val .null, .val .null, .val (.ref b198), .val (.int (1 : Int32)), .val (.ref o_210), .val (.ref r_210)] [.null, .null])) rfl (by rw [hml]; rfl) (argsL := [.null, .null]) (rest := []) (lenOf own_pd24 rfl) rfl (by show 2 * 0 + _ ≤ _; exact Nat.le_of_eq rfl) (hb hby at_177) (fun _ _ => ⟨rfl, e217, (by decide : 15 + 0 ≤ _), (by decide : 31 + 0 ≤ _)⟩)
          dsimp only [Pt.U, Pt.locs, Pt.cells, Pt.slots] at X218 l218 y218 z218 st218 hQ218
          subst l218 y218 z218
          obtain ⟨rfl, Nq218, e218⟩ := hQ218
          have N218 := Fr.app N217 Nq218
          refine ogo (S' := T218.setTop (mkF m 180 #[.val (.int i_), .val (.int j_), .val (.int k_), .val (.int f_), .val (.int g_), .val (.ref r_1), .val (.int (g_ &&& (3 : Int32))), .val (.ref r_103), .val .null, .val .null, .val (.ref b198), .val (.int (1 : Int32)), .val (.ref o_210), .val (.ref r_210)] [(.int (1 : Int32))])) st218 ?_
          refine o_ifNo X218 hx (hb hby at_180) (feq (by decide : ¬ ((1 : Int32) = (0 : Int32)))).1 ?_
          refine o_aload X218 hx (hb hby at_183) rfl rfl ?_
          obtain ⟨cq219, kq219, q219a, q219b, q219c⟩ := isOf hZ103 e218 p210_4
          obtain ⟨_, _, ⟨T219, L219, kc219, n219⟩, -, X219, ⟨Lc219, hQ219, l219, y219, z219⟩, st219⟩ := X218.virtualBack hx (y := yM26) (z := yM26) hown103 (mvT hZ103 w103) (mvT hZ103 w104) (notFace_of_selects (args := #[]) (mvT hZ103 w106)) (mvT hZ103 w106) (mvT hZ103 w105) (by decide) (backOf (W := 0) (rm_g_contentId l Z a0 hw []  r_210 .null T210.heap n0 (c203.keep K210 all0) p210_7 (by first | rfl | assumption | decide | omega)) hZ103 w107 w28 (by decide) (by decide)) q219a q219c (g := (mkF m 185 #[.val (.int i_), .val (.int j_), .val (.int k_), .val (.int f_), .val (.int g_), .val (.ref r_1), .val (.int (g_ &&& (3 : Int32))), .val (.ref r_103), .val .null, .val .null, .val (.ref b198), .val (.int (1 : Int32)), .val (.ref o_210), .val (.ref r_210)] [(.ref r_210)])) rfl (by rw [hml]; rfl) (Steps.refl _) (argsL := []) (rest := []) (lenOf own_pd23 rfl) rfl (by show 2 * 0 + _ ≤ _; exact Nat.le_of_eq rfl) (hb hby at_185) (fun _ _ => ⟨rfl, e218, (by decide : 15 + 0 ≤ _), (by decide : 31 + 0 ≤ _)⟩)
          dsimp only [Pt.U, Pt.locs, Pt.cells, Pt.slots] at X219 l219 y219 z219 st219 hQ219
          subst l219 y219 z219
          obtain ⟨rfl, Nq219, e219⟩ := hQ219
          have N219 := Fr.app N218 Nq219
          refine otr (S' := T219.setTop (mkF m 188 #[.val (.int i_), .val (.int j_), .val (.int k_), .val (.int f_), .val (.int g_), .val (.ref r_1), .val (.int (g_ &&& (3 : Int32))), .val (.ref r_103), .val .null, .val .null, .val (.ref b198), .val (.int (1 : Int32)), .val (.ref o_210), .val (.ref r_210)] [.null])) st219 ?_
          refine o_aload X219 hx (hb hby at_188) rfl rfl ?_
          obtain ⟨_, _, ⟨T220, L220, kc220, n220⟩, -, X220, ⟨Lc220, hQ220, l220, y220, z220⟩, st220⟩ := Jvm.LawKit.callS X219 hx (y := yM13) hown103 (mvT hZ103 w84) (mvT hZ103 w85) (mvT hZ103 w2) (mvT hZ103 w86) (by decide) (backOf (W := 0) (rm_eqNN l Z a0 hw []   T210.heap n0 (c203.keep K210 all0) ) hZ103 w86 w2 (by decide) (by decide)) (g := (mkF m 190 #[.val (.int i_), .val (.int j_), .val (.int k_), .val (.int f_), .val (.int g_), .val (.ref r_1), .val (.int (g_ &&& (3 : Int32))), .val (.ref r_103), .val .null, .val .null, .val (.ref b198), .val (.int (1 : Int32)), .val (.ref o_210), .val (.ref r_210)] [.null, .null])) rfl (by rw [hml]; rfl) (argsL := [.null, .null]) (rest := []) (lenOf own_pd24 rfl) rfl (by show 2 * 0 + _ ≤ _; exact Nat.le_of_eq rfl) (hb hby at_190) (fun _ _ => ⟨rfl, e219, (by decide : 15 + 0 ≤ _), (by decide : 31 + 0 ≤ _)⟩)
          dsimp only [Pt.U, Pt.locs, Pt.cells, Pt.slots] at X220 l220 y220 z220 st220 hQ220
          subst l220 y220 z220
          obtain ⟨rfl, Nq220, e220⟩ := hQ220
          have N220 := Fr.app N219 Nq220
          refine ogo (S' := T220.setTop (mkF m 193 #[.val (.int i_), .val (.int j_), .val (.int k_), .val (.int f_), .val (.int g_), .val (.ref r_1), .val (.int (g_ &&& (3 : Int32))), .val (.ref r_103), .val .null, .val .null, .val (.ref b198), .val (.int (1 : Int32)), .val (.ref o_210), .val (.ref r_210)] [(.int (1 : Int32))])) st220 ?_
          refine o_ifNo X220 hx (hb hby at_193) (feq (by decide : ¬ ((1 : Int32) = (0 : Int32)))).1 ?_
          refine o_iconst X220 hx (1 : Int32) (hb hby at_196) rfl ?_
          refine o_goto X220 hx 201 (hb hby at_197) (by decide) (by decide) ?_
          refine oendS X220 hlk hS103 (Nat.le_trans (Nat.le_refl _) (Nat.le_trans (Nat.le_trans E198.1 K200.1) K210.1)) e220 hZ103 hEL hs0 (CHr.trans (CHr.trans (CHr.trans (CHr.trans (CHr.trans (CHr.refl H0) C1) C103) (CHr.ext E198 H104)) (CHr.keep K200 (allS (Safe.exa hZ103.alike A198 (by decide) (by decide)) all0) H199)) (CHr.keep K210 all0 H201)) (v := some (.int (1 : Int32))) (fun h => by rw [hret] at h; cases h) (fun fs hr => retN X220 hx (t := .boolean) hret (by simp) (hb hby at_201) hr) (by decide) (by decide) ?_
          show own_Q_law Z _ _ _ _ _ _ _ _ h0 n0 _ T220.heap _
          rw [e220]
          exact ⟨rfl, N220, ((((((Keep.refl h0 []).trans K1 all0).trans K103 all0).ext E198).trans K200 (allS (Or.inr (Nat.le_trans (Nat.le_trans K1.1 K103.1) (Nat.le_of_eq g198.symm))) all0)).trans K210 all0)⟩
    · refine o_icmpYes X1 hx 38 (hb hby at_26) (feq hc102).2 (by decide) (by decide) ?_
      refine o_iloadN X1 hx (hb hby at_38) rfl ?_
      obtain ⟨_, _, ⟨T221, L221, kc221, n221⟩, -, X221, hSi221, hgr221, ⟨Lc221, hQ221, l221, y221, z221, C221⟩, st221⟩ := callSS X1 hx (y := yM5) hown1 (mvT hZ1 w0) (mvT hZ1 w1) (mvT hZ1 w2) (mvT hZ1 w3) (by decide) (backOfSH (W := 0) (rm_mk l Z a0 hw [] z_CS v_FMT s_EMPTY j_ T1.heap n0 SB (O0.keep K1 all0) ) hZ1 w3 w2 (by decide) (by decide) hEL H2) (g := (mkF m 39 #[.val (.int i_), .val (.int j_), .val (.int k_), .val (.int f_), .val (.int g_), .val (.ref r_1), .val (.int (g_ &&& (3 : Int32))), .unset, .unset, .unset, .unset, .unset, .unset, .unset] [(.int j_)])) rfl (by rw [hml]; rfl) (argsL := [(.int j_)]) (rest := []) (lenOf own_pd20 rfl) rfl (by show 2 * 0 + _ ≤ _; exact Nat.le_of_eq rfl) (hb hby at_39) (fun _ _ => ⟨rfl, rfl, (by decide : 6 + 6 ≤ _), (by decide : 12 + 12 ≤ _)⟩)
      dsimp only [Pt.U, Pt.locs, Pt.cells, Pt.slots] at X221 l221 y221 z221 st221 hQ221 hSi221 hgr221 C221
      subst l221 y221 z221
      obtain ⟨r_221, ba_221, kb_221, rfl, Nq221, K221, p221_0, p221_1, p221_2, p221_3, p221_4, p221_5, p221_6⟩ := hQ221
      have N221 := Fr.app N1 Nq221
      have X221 : Stand p l e room_1 (s.setVm T221.vm) m #[(.int i_), (.int j_), (.int k_), (.int f_), (.int g_)] below meth c T221 _ _ _ := X221
      have hS221 := foldS hS1 (Nat.le_refl _) hSi221 hgr221
      have hZ221 : Z.Warmed39 T221.vm := State.Warmed39.trans (t := (s.setVm T1.vm)) hZ1 hSi221.1
      have hown221 : T221.vm.findClass "com/example/reliquary/reliquary/DeadLetterSelectionOnQueuePinLaw" = some m.cls := by rw [hSi221.1.alike.findClass]; exact hown1
      have H222 := C221.1
      have n0_r_221 : n0 ≤ r_221 := Nat.le_trans (Nat.le_trans (Nat.le_of_eq O0.1.symm) O0.2.1) (Nat.le_trans K1.1 p221_0)
      refine otr (S' := T221.setTop (mkF m 42 #[.val (.int i_), .val (.int j_), .val (.int k_), .val (.int f_), .val (.int g_), .val (.ref r_1), .val (.int (g_ &&& (3 : Int32))), .unset, .unset, .unset, .unset, .unset, .unset, .unset] [(.ref r_221)])) st221 ?_
      refine o_astore X221 hx (l' := #[.val (.int i_), .val (.int j_), .val (.int k_), .val (.int f_), .val (.int g_), .val (.ref r_1), .val (.int (g_ &&& (3 : Int32))), .val (.ref r_221), .unset, .unset, .unset, .unset, .unset, .unset]) (hb hby at_42) rfl rfl ?_
      refine o_iload X221 hx (hb hby at_44) rfl ?_
      refine o_iconst X221 hx (2 : Int32) (hb hby at_46) rfl ?_
      refine o_iushr X221 hx (hb hby at_47) ?_
      refine o_iconst X221 hx (1 : Int32) (hb hby at_48) rfl ?_
      refine o_iand X221 hx (hb hby at_49) ?_
      by_cases hc223 : ((own_ushr g_ (2 : Int32)) &&& (1 : Int32)) = (0 : Int32)
      · refine o_ifYes X221 hx 57 (hb hby at_50) (teq hc223).1 (by decide) (by decide) ?_
        refine o_iloadN X221 hx (hb hby at_57) rfl ?_
        obtain ⟨_, _, ⟨T224, L224, kc224, n224⟩, -, X224, hSi224, hgr224, ⟨Lc224, hQ224, l224, y224, z224, C224⟩, st224⟩ := callSS X221 hx (y := yM5) hown221 (mvT hZ221 w0) (mvT hZ221 w1) (mvT hZ221 w2) (mvT hZ221 w3) (by decide) (backOfSH (W := 0) (rm_mk l Z a0 hw [] z_CS v_FMT s_EMPTY k_ T221.heap n0 SB ((O0.keep K1 all0).keep K221 all0) ) hZ221 w3 w2 (by decide) (by decide) hEL H222) (g := (mkF m 58 #[.val (.int i_), .val (.int j_), .val (.int k_), .val (.int f_), .val (.int g_), .val (.ref r_1), .val (.int (g_ &&& (3 : Int32))), .val (.ref r_221), .unset, .unset, .unset, .unset, .unset, .unset] [(.int k_)])) rfl (by rw [hml]; rfl) (argsL := [(.int k_)]) (rest := []) (lenOf own_pd20 rfl) rfl (by show 2 * 0 + _ ≤ _; exact Nat.le_of_eq rfl) (hb hby at_58) (fun _ _ => ⟨rfl, rfl, (by decide : 12 + 6 ≤ _), (by decide : 24 + 12 ≤ _)⟩)
        dsimp only [Pt.U, Pt.locs, Pt.cells, Pt.slots] at X224 l224 y224 z224 st224 hQ224 hSi224 hgr224 C224
        subst l224 y224 z224
        obtain ⟨r_224, ba_224, kb_224, rfl, Nq224, K224, p224_0, p224_1, p224_2, p224_3, p224_4, p224_5, p224_6⟩ := hQ224
        have N224 := Fr.app N221 Nq224
        have X224 : Stand p l e room_1 (s.setVm T224.vm) m #[(.int i_), (.int j_), (.int k_), (.int f_), (.int g_)] below meth c T224 _ _ _ := X224
        have hS224 := foldS hS221 (Nat.le_refl _) hSi224 hgr224
        have hZ224 : Z.Warmed39 T224.vm := State.Warmed39.trans (t := (s.setVm T221.vm)) hZ221 hSi224.1
        have hown224 : T224.vm.findClass "com/example/reliquary/reliquary/DeadLetterSelectionOnQueuePinLaw" = some m.cls := by rw [hSi224.1.alike.findClass]; exact hown221
        have H225 := C224.1
        have n0_r_224 : n0 ≤ r_224 := Nat.le_trans (Nat.le_trans (Nat.le_of_eq O0.1.symm) O0.2.1) (Nat.le_trans (Nat.le_trans K1.1 K221.1) p224_0)
        refine otr (S' := T224.setTop (mkF m 61 #[.val (.int i_), .val (.int j_), .val (.int k_), .val (.int f_), .val (.int g_), .val (.ref r_1), .val (.int (g_ &&& (3 : Int32))), .val (.ref r_221), .unset, .unset, .unset, .unset, .unset, .unset] [(.ref r_224)])) st224 ?_
        refine o_astore X224 hx (l' := #[.val (.int i_), .val (.int j_), .val (.int k_), .val (.int f_), .val (.int g_), .val (.ref r_1), .val (.int (g_ &&& (3 : Int32))), .val (.ref r_221), .val (.ref r_224), .unset, .unset, .unset, .unset, .unset]) (hb hby at_61) rfl rfl ?_
        refine o_iload X224 hx (hb hby at_63) rfl ?_
        refine o_iconst X224 hx (3 : Int32) (hb hby at_65) rfl ?_
        refine o_iushr X224 hx (hb hby at_66) ?_
        refine o_iconst X224 hx (1 : Int32) (hb hby at_67) rfl ?_
        refine o_iand X224 hx (hb hby at_68) ?_
        by_cases hc226 : ((own_ushr g_ (3 : Int32)) &&& (1 : Int32)) = (0 : Int32)
        · refine o_ifYes X224 hx 76 (hb hby at_69) (teq hc226).1 (by decide) (by decide) ?_
          refine o_iloadN X224 hx (hb hby at_76) rfl ?_
          obtain ⟨_, _, ⟨T227, L227, kc227, n227⟩, -, X227, hSi227, hgr227, ⟨Lc227, hQ227, l227, y227, z227, C227⟩, st227⟩ := callSS X224 hx (y := yM5) hown224 (mvT hZ224 w0) (mvT hZ224 w1) (mvT hZ224 w2) (mvT hZ224 w3) (by decide) (backOfSH (W := 0) (rm_mk l Z a0 hw [] z_CS v_FMT s_EMPTY f_ T224.heap n0 SB (((O0.keep K1 all0).keep K221 all0).keep K224 all0) ) hZ224 w3 w2 (by decide) (by decide) hEL H225) (g := (mkF m 77 #[.val (.int i_), .val (.int j_), .val (.int k_), .val (.int f_), .val (.int g_), .val (.ref r_1), .val (.int (g_ &&& (3 : Int32))), .val (.ref r_221), .val (.ref r_224), .unset, .unset, .unset, .unset, .unset] [(.int f_)])) rfl (by rw [hml]; rfl) (argsL := [(.int f_)]) (rest := []) (lenOf own_pd20 rfl) rfl (by show 2 * 0 + _ ≤ _; exact Nat.le_of_eq rfl) (hb hby at_77) (fun _ _ => ⟨rfl, rfl, (by decide : 18 + 6 ≤ _), (by decide : 36 + 12 ≤ _)⟩)
          dsimp only [Pt.U, Pt.locs, Pt.cells, Pt.slots] at X227 l227 y227 z227 st227 hQ227 hSi227 hgr227 C227
          subst l227 y227 z227
          obtain ⟨r_227, ba_227, kb_227, rfl, Nq227, K227, p227_0, p227_1, p227_2, p227_3, p227_4, p227_5, p227_6⟩ := hQ227
          have N227 := Fr.app N224 Nq227
          have X227 : Stand p l e room_1 (s.setVm T227.vm) m #[(.int i_), (.int j_), (.int k_), (.int f_), (.int g_)] below meth c T227 _ _ _ := X227
          have hS227 := foldS hS224 (Nat.le_refl _) hSi227 hgr227
          have hZ227 : Z.Warmed39 T227.vm := State.Warmed39.trans (t := (s.setVm T224.vm)) hZ224 hSi227.1
          have hown227 : T227.vm.findClass "com/example/reliquary/reliquary/DeadLetterSelectionOnQueuePinLaw" = some m.cls := by rw [hSi227.1.alike.findClass]; exact hown224
          have H228 := C227.1
          have n0_r_227 : n0 ≤ r_227 := Nat.le_trans (Nat.le_trans (Nat.le_of_eq O0.1.symm) O0.2.1) (Nat.le_trans (Nat.le_trans (Nat.le_trans K1.1 K221.1) K224.1) p227_0)
          refine otr (S' := T227.setTop (mkF m 80 #[.val (.int i_), .val (.int j_), .val (.int k_), .val (.int f_), .val (.int g_), .val (.ref r_1), .val (.int (g_ &&& (3 : Int32))), .val (.ref r_221), .val (.ref r_224), .unset, .unset, .unset, .unset, .unset] [(.ref r_227)])) st227 ?_
          refine o_astore X227 hx (l' := #[.val (.int i_), .val (.int j_), .val (.int k_), .val (.int f_), .val (.int g_), .val (.ref r_1), .val (.int (g_ &&& (3 : Int32))), .val (.ref r_221), .val (.ref r_224), .val (.ref r_227), .unset, .unset, .unset, .unset]) (hb hby at_80) rfl rfl ?_
          obtain ⟨T229, _, X229, rfl, E229, A229, D229, -, st229⟩ := newO X227 hx hZ227 hown227 w26 w27 w28 rfl (g := (mkF m 82 #[.val (.int i_), .val (.int j_), .val (.int k_), .val (.int f_), .val (.int g_), .val (.ref r_1), .val (.int (g_ &&& (3 : Int32))), .val (.ref r_221), .val (.ref r_224), .val (.ref r_227), .unset, .unset, .unset, .unset] [])) rfl (hb hby at_82) (by decide) (by decide)
          obtain ⟨b229, g229⟩ : ∃ z, z = T227.heap.size := ⟨_, rfl⟩
          rw [← g229] at A229 D229 st229
          have n0_b229 : n0 ≤ b229 := Nat.le_trans (Nat.le_trans (Nat.le_of_eq O0.1.symm) O0.2.1) (Nat.le_trans (Nat.le_trans (Nat.le_trans (Nat.le_trans K1.1 K221.1) K224.1) K227.1) (Nat.le_of_eq g229.symm))
          have H230 := CHv.ext E229 H228
          have F229_queue : Fld Z T229.heap b229 "com/example/reliquary/reliquary/DeadLetterSelection" "queue" "Ljava/lang/String;" .null := D229 (Or.inr w39) (ty := (.object "java/lang/String")) (by decide)
          have F229_space : Fld Z T229.heap b229 "com/example/reliquary/reliquary/DeadLetterSelection" "space" "Ljava/lang/String;" .null := D229 (Or.inr w41) (ty := (.object "java/lang/String")) (by decide)
          have F229_contentId : Fld Z T229.heap b229 "com/example/reliquary/reliquary/DeadLetterSelection" "contentId" "Ljava/lang/String;" .null := D229 (Or.inr w43) (ty := (.object "java/lang/String")) (by decide)
          refine ogo (S' := T229.setTop (mkF m 85 #[.val (.int i_), .val (.int j_), .val (.int k_), .val (.int f_), .val (.int g_), .val (.ref r_1), .val (.int (g_ &&& (3 : Int32))), .val (.ref r_221), .val (.ref r_224), .val (.ref r_227), .unset, .unset, .unset, .unset] [(.ref b229)])) st229 ?_
          refine o_dup X229 hx (hb hby at_85) rfl ?_
          refine o_aload X229 hx (hb hby at_86) rfl rfl ?_
          refine o_aload X229 hx (hb hby at_88) rfl rfl ?_
          refine o_aload X229 hx (hb hby at_90) rfl rfl ?_
          have c232 := (((((O0.keep K1 all0).keep K221 all0).keep K224 all0).keep K227 all0).ext E229)
          obtain ⟨_, _, ⟨T231, L231, kc231, n231⟩, -, X231, ⟨Lc231, hQ231, l231, y231, z231⟩, st231⟩ := X229.specialBack hx (y := yM17) rfl hown227 (mvT hZ227 w29) (mvT hZ227 w30) (mvT hZ227 w31) (by decide) (backOf (W := 1) (rm_dli l Z a0 hw []  b229 (.ref r_221) (.ref r_224) (.ref r_227) T229.heap n0 c232 A229 F229_queue F229_space F229_contentId n0_b229 (by first | rfl | assumption | decide | omega) (by first | rfl | assumption | decide | omega) (by first | rfl | assumption | decide | omega) (by first | rfl | assumption | decide | omega) (by first | rfl | assumption | decide | omega) (by first | rfl | assumption | decide | omega)) hZ227 w31 w28 (by decide) (by decide)) (g := (mkF m 92 #[.val (.int i_), .val (.int j_), .val (.int k_), .val (.int f_), .val (.int g_), .val (.ref r_1), .val (.int (g_ &&& (3 : Int32))), .val (.ref r_221), .val (.ref r_224), .val (.ref r_227), .unset, .unset, .unset, .unset] [(.ref r_227), (.ref r_224), (.ref r_221), (.ref b229), (.ref b229)])) rfl (by rw [hml]; rfl) (Steps.refl _) (a := b229) (argsL := [(.ref r_221), (.ref r_224), (.ref r_227)]) (rest := [(.ref b229)]) (lenOf own_pd16 rfl) rfl (by show 2 * 0 + _ ≤ _; exact Nat.le_of_eq rfl) (hb hby at_92) (fun _ _ => ⟨rfl, rfl, (by decide : 25 + 0 ≤ _), (by decide : 51 + 0 ≤ _)⟩)
          dsimp only [Pt.U, Pt.locs, Pt.cells, Pt.slots] at X231 l231 y231 z231 st231 hQ231
          subst l231 y231 z231
          obtain ⟨rfl, Nq231, K231, p231_0, p231_1, p231_2, p231_3⟩ := hQ231
          have N231 := Fr.app N227 Nq231
          have H233 := CHv.keep K231 (allS (Safe.exa hZ227.alike A229 (by decide) (by decide)) all0) H230
          refine otr (S' := T231.setTop (mkF m 95 #[.val (.int i_), .val (.int j_), .val (.int k_), .val (.int f_), .val (.int g_), .val (.ref r_1), .val (.int (g_ &&& (3 : Int32))), .val (.ref r_221), .val (.ref r_224), .val (.ref r_227), .unset, .unset, .unset, .unset] [(.ref b229)])) st231 ?_
          refine o_astore X231 hx (l' := #[.val (.int i_), .val (.int j_), .val (.int k_), .val (.int f_), .val (.int g_), .val (.ref r_1), .val (.int (g_ &&& (3 : Int32))), .val (.ref r_221), .val (.ref r_224), .val (.ref r_227), .val (.ref b229), .unset, .unset, .unset]) (hb hby at_95) rfl rfl ?_
          refine o_aload X231 hx (hb hby at_97) rfl rfl ?_
          refine o_ifnullNo X231 hx (hb hby at_99) ?_
          refine o_aload X231 hx (hb hby at_102) rfl rfl ?_
          refine o_aload X231 hx (hb hby at_104) rfl rfl ?_
          have c235 := ((Fld.ext E229 ((p221_3.keep K224 nin0).keep K227 nin0)).keep K231 (ninS (Nat.ne_of_lt (Nat.lt_of_lt_of_le (Nat.lt_of_lt_of_le p221_2.lt (Nat.le_trans K224.1 K227.1)) (Nat.le_of_eq g229.symm))) nin0))
          have c236 := ((Fld.ext E229 ((p221_4.keep K224 nin0).keep K227 nin0)).keep K231 (ninS (Nat.ne_of_lt (Nat.lt_of_lt_of_le (Nat.lt_of_lt_of_le p221_2.lt (Nat.le_trans K224.1 K227.1)) (Nat.le_of_eq g229.symm))) nin0))
          have c237 := ((((p221_5.keep K224 nin0).keep K227 nin0).ext E229).keep K231 (ninS (Nat.ne_of_lt (Nat.lt_of_lt_of_le (Nat.lt_of_lt_of_le p221_1 (Nat.le_trans K224.1 K227.1)) (Nat.le_of_eq g229.symm))) nin0))
          have c238 := ((Exa.ext E229 (((p1_2.keep K221).keep K224).keep K227)).keep K231)
          have c239 := ((Fld.ext E229 (((p1_3.keep K221 nin0).keep K224 nin0).keep K227 nin0)).keep K231 (ninS (Nat.ne_of_lt (Nat.lt_of_lt_of_le (Nat.lt_of_lt_of_le p1_2.lt (Nat.le_trans (Nat.le_trans K221.1 K224.1) K227.1)) (Nat.le_of_eq g229.symm))) nin0))
          have c240 := ((Fld.ext E229 (((p1_4.keep K221 nin0).keep K224 nin0).keep K227 nin0)).keep K231 (ninS (Nat.ne_of_lt (Nat.lt_of_lt_of_le (Nat.lt_of_lt_of_le p1_2.lt (Nat.le_trans (Nat.le_trans K221.1 K224.1) K227.1)) (Nat.le_of_eq g229.symm))) nin0))
          have c241 := (((((p1_5.keep K221 nin0).keep K224 nin0).keep K227 nin0).ext E229).keep K231 (ninS (Nat.ne_of_lt (Nat.lt_of_lt_of_le (Nat.lt_of_lt_of_le p1_1 (Nat.le_trans (Nat.le_trans K221.1 K224.1) K227.1)) (Nat.le_of_eq g229.symm))) nin0))
          obtain ⟨_, _, ⟨T234, L234, kc234, n234⟩, -, X234, ⟨Lc234, hQ234, l234, y234, z234⟩, st234⟩ := Jvm.LawKit.callS X231 hx (y := yM13) hown227 (mvT hZ227 w84) (mvT hZ227 w85) (mvT hZ227 w2) (mvT hZ227 w86) (by decide) (backOf (W := 0) (rm_eqRR l Z a0 hw [] z_CS v_FMT s_EMPTY r_221 ba_221 kb_221 (own_ml j_) (own_mv j_) (own_ms j_) r_1 ba_1 kb_1 (own_ml i_) (own_mv i_) (own_ms i_) T231.heap n0 SB (c232.keep K231 (allS n0_b229 all0)) ((Exa.ext E229 ((p221_2.keep K224).keep K227)).keep K231) c235 c236 c237 c238 c239 c240 c241 p221_6 p1_6) hZ227 w86 w2 (by decide) (by decide)) (g := (mkF m 106 #[.val (.int i_), .val (.int j_), .val (.int k_), .val (.int f_), .val (.int g_), .val (.ref r_1), .val (.int (g_ &&& (3 : Int32))), .val (.ref r_221), .val (.ref r_224), .val (.ref r_227), .val (.ref b229), .unset, .unset, .unset] [(.ref r_1), (.ref r_221)])) rfl (by rw [hml]; rfl) (argsL := [(.ref r_221), (.ref r_1)]) (rest := []) (lenOf own_pd24 rfl) rfl (by show 2 * 0 + _ ≤ _; exact Nat.le_of_eq rfl) (hb hby at_106) (fun _ _ => ⟨rfl, rfl, (by decide : 25 + 0 ≤ _), (by decide : 51 + 0 ≤ _)⟩)
          dsimp only [Pt.U, Pt.locs, Pt.cells, Pt.slots] at X234 l234 y234 z234 st234 hQ234
          subst l234 y234 z234
          obtain ⟨rfl, Nq234, e234⟩ := hQ234
          have N234 := Fr.app N231 Nq234
          refine ogo (S' := T234.setTop (mkF m 109 #[.val (.int i_), .val (.int j_), .val (.int k_), .val (.int f_), .val (.int g_), .val (.ref r_1), .val (.int (g_ &&& (3 : Int32))), .val (.ref r_221), .val (.ref r_224), .val (.ref r_227), .val (.ref b229), .unset, .unset, .unset] [(.int (own_b (own_ms j_) (own_ms i_)))])) st234 ?_
          by_cases hc242 : (own_ms j_) = (own_ms i_)
          · rw [own_bt hc242]
            refine o_ifNo X234 hx (hb hby at_109) (feq (by decide : ¬ ((1 : Int32) = (0 : Int32)))).1 ?_
            refine o_iconst X234 hx (1 : Int32) (hb hby at_112) rfl ?_
            refine o_goto X234 hx 117 (hb hby at_113) (by decide) (by decide) ?_
            refine o_istore X234 hx (l' := #[.val (.int i_), .val (.int j_), .val (.int k_), .val (.int f_), .val (.int g_), .val (.ref r_1), .val (.int (g_ &&& (3 : Int32))), .val (.ref r_221), .val (.ref r_224), .val (.ref r_227), .val (.ref b229), .val (.int (1 : Int32)), .unset, .unset]) (hb hby at_117) rfl ?_
            refine o_aload X234 hx (hb hby at_119) rfl rfl ?_
            refine o_aload X234 hx (hb hby at_121) rfl rfl ?_
            obtain ⟨cq243, kq243, q243a, q243b, q243c⟩ := isOf hZ227 e234 p231_0
            obtain ⟨_, _, ⟨T243, L243, kc243, n243⟩, -, X243, ⟨Lc243, hQ243, l243, y243, z243⟩, st243⟩ := X234.virtualBack hx (y := yM27) (z := yM27) hown227 (mvT hZ227 w44) (mvT hZ227 w45) (notFace_of_selects (args := #[]) (mvT hZ227 w47)) (mvT hZ227 w47) (mvT hZ227 w46) (by decide) (backOf (W := 0) (rm_onqT l Z a0 hw [] z_CS v_FMT s_EMPTY b229 r_221 ba_221 kb_221 (own_ml j_) (own_mv j_) (own_ms j_) r_1 ba_1 kb_1 (own_ml i_) (own_mv i_) (own_ms i_) (.ref r_224) (.ref r_227) T231.heap n0 SB (c232.keep K231 (allS n0_b229 all0)) p231_0 p231_1 p231_2 p231_3 (by first | rfl | assumption | decide | omega) (by first | rfl | assumption | decide | omega) (by first | rfl | assumption | decide | omega) (by first | rfl | assumption | decide | omega) ((Exa.ext E229 ((p221_2.keep K224).keep K227)).keep K231) c235 c236 c237 c238 c239 c240 c241 p221_6 p1_6 (Nat.ne_of_gt (Nat.lt_of_lt_of_le (Nat.lt_of_lt_of_le p1_2.lt (Nat.le_refl _)) p221_0)) hc242) hZ227 w48 w28 (by decide) (by decide)) q243a q243c (g := (mkF m 123 #[.val (.int i_), .val (.int j_), .val (.int k_), .val (.int f_), .val (.int g_), .val (.ref r_1), .val (.int (g_ &&& (3 : Int32))), .val (.ref r_221), .val (.ref r_224), .val (.ref r_227), .val (.ref b229), .val (.int (1 : Int32)), .unset, .unset] [(.ref r_1), (.ref b229)])) rfl (by rw [hml]; rfl) (Steps.refl _) (argsL := [(.ref r_1)]) (rest := []) (lenOf own_pd21 rfl) rfl (by show 2 * 0 + _ ≤ _; exact Nat.le_of_eq rfl) (hb hby at_123) (fun _ _ => ⟨rfl, e234, (by decide : 25 + 2 ≤ _), (by decide : 51 + 4 ≤ _)⟩)
            dsimp only [Pt.U, Pt.locs, Pt.cells, Pt.slots] at X243 l243 y243 z243 st243 hQ243
            subst l243 y243 z243
            obtain ⟨o_243, r_243, rfl, Nq243, K243, p243_0, p243_1, p243_2, p243_3, p243_4, p243_5, p243_6, p243_7⟩ := hQ243
            have N243 := Fr.app N234 Nq243
            have H244 := CHv.keep K243 all0 H233
            have n0_o_243 : n0 ≤ o_243 := Nat.le_trans (Nat.le_trans (Nat.le_of_eq O0.1.symm) O0.2.1) (Nat.le_trans (Nat.le_trans (Nat.le_trans (Nat.le_trans (Nat.le_trans (Nat.le_trans K1.1 K221.1) K224.1) K227.1) E229.1) K231.1) p243_0)
            have n0_r_243 : n0 ≤ r_243 := Nat.le_trans (Nat.le_trans (Nat.le_of_eq O0.1.symm) O0.2.1) (Nat.le_trans (Nat.le_trans (Nat.le_trans (Nat.le_trans (Nat.le_trans (Nat.le_trans K1.1 K221.1) K224.1) K227.1) E229.1) K231.1) p243_1)
            refine otr (S' := T243.setTop (mkF m 126 #[.val (.int i_), .val (.int j_), .val (.int k_), .val (.int f_), .val (.int g_), .val (.ref r_1), .val (.int (g_ &&& (3 : Int32))), .val (.ref r_221), .val (.ref r_224), .val (.ref r_227), .val (.ref b229), .val (.int (1 : Int32)), .unset, .unset] [(.ref o_243)])) st243 ?_
            refine o_astore X243 hx (l' := #[.val (.int i_), .val (.int j_), .val (.int k_), .val (.int f_), .val (.int g_), .val (.ref r_1), .val (.int (g_ &&& (3 : Int32))), .val (.ref r_221), .val (.ref r_224), .val (.ref r_227), .val (.ref b229), .val (.int (1 : Int32)), .val (.ref o_243), .unset]) (hb hby at_126) rfl rfl ?_
            refine o_aload X243 hx (hb hby at_128) rfl rfl ?_
            obtain ⟨cq245, kq245, q245a, q245b, q245c⟩ := isOf hZ227 rfl p243_2
            obtain ⟨_, _, ⟨T245, L245, kc245, n245⟩, -, X245, ⟨Lc245, hQ245, l245, y245, z245⟩, st245⟩ := X243.virtualBack hx (y := yM22) (z := yM22) hown227 (mvT hZ227 w68) (mvT hZ227 w69) (notFace_of_selects (args := #[]) (mvT hZ227 w71)) (mvT hZ227 w71) (mvT hZ227 w70) (by decide) (backOf (W := 0) (rm_oppR l Z a0 hw []  o_243 r_243 T243.heap n0 ((c232.keep K231 (allS n0_b229 all0)).keep K243 all0) p243_3) hZ227 w72 w53 (by decide) (by decide)) q245a q245c (g := (mkF m 130 #[.val (.int i_), .val (.int j_), .val (.int k_), .val (.int f_), .val (.int g_), .val (.ref r_1), .val (.int (g_ &&& (3 : Int32))), .val (.ref r_221), .val (.ref r_224), .val (.ref r_227), .val (.ref b229), .val (.int (1 : Int32)), .val (.ref o_243), .unset] [(.ref o_243)])) rfl (by rw [hml]; rfl) (Steps.refl _) (argsL := []) (rest := []) (lenOf own_pd8 rfl) rfl (by show 2 * 0 + _ ≤ _; exact Nat.le_of_eq rfl) (hb hby at_130) (fun _ _ => ⟨rfl, rfl, (by decide : 27 + 0 ≤ _), (by decide : 55 + 0 ≤ _)⟩)
            dsimp only [Pt.U, Pt.locs, Pt.cells, Pt.slots] at X245 l245 y245 z245 st245 hQ245
            subst l245 y245 z245
            obtain ⟨rfl, Nq245, e245⟩ := hQ245
            have N245 := Fr.app N243 Nq245
            refine otr (S' := T245.setTop (mkF m 133 #[.val (.int i_), .val (.int j_), .val (.int k_), .val (.int f_), .val (.int g_), .val (.ref r_1), .val (.int (g_ &&& (3 : Int32))), .val (.ref r_221), .val (.ref r_224), .val (.ref r_227), .val (.ref b229), .val (.int (1 : Int32)), .val (.ref o_243), .unset] [(.int (1 : Int32))])) st245 ?_
            refine o_iload X245 hx (hb hby at_133) rfl ?_
            refine o_icmpYes X245 hx 140 (hb hby at_135) (teq (by decide : (1 : Int32) = (1 : Int32))).1 (by decide) (by decide) ?_
            refine o_iload X245 hx (hb hby at_140) rfl ?_
            refine o_ifYes X245 hx 147 (hb hby at_142) (feq (by decide : ¬ ((1 : Int32) = (0 : Int32)))).2 (by decide) (by decide) ?_
            refine o_aload X245 hx (hb hby at_147) rfl rfl ?_
            obtain ⟨cq246, kq246, q246a, q246b, q246c⟩ := isOf hZ227 e245 p243_2
            obtain ⟨_, _, ⟨T246, L246, kc246, n246⟩, -, X246, ⟨Lc246, hQ246, l246, y246, z246⟩, st246⟩ := X245.virtualBack hx (y := yM23) (z := yM23) hown227 (mvT hZ227 w73) (mvT hZ227 w74) (notFace_of_selects (args := #[]) (mvT hZ227 w76)) (mvT hZ227 w76) (mvT hZ227 w75) (by decide) (backOf (W := 0) (rm_opg l Z a0 hw []  o_243 r_243 T243.heap n0 ((c232.keep K231 (allS n0_b229 all0)).keep K243 all0) p243_3) hZ227 w77 w53 (by decide) (by decide)) q246a q246c (g := (mkF m 149 #[.val (.int i_), .val (.int j_), .val (.int k_), .val (.int f_), .val (.int g_), .val (.ref r_1), .val (.int (g_ &&& (3 : Int32))), .val (.ref r_221), .val (.ref r_224), .val (.ref r_227), .val (.ref b229), .val (.int (1 : Int32)), .val (.ref o_243), .unset] [(.ref o_243)])) rfl (by rw [hml]; rfl) (Steps.refl _) (argsL := []) (rest := []) (lenOf own_pd22 rfl) rfl (by show 2 * 0 + _ ≤ _; exact Nat.le_of_eq rfl) (hb hby at_149) (fun _ _ => ⟨rfl, e245, (by decide : 27 + 0 ≤ _), (by decide : 55 + 0 ≤ _)⟩)
            dsimp only [Pt.U, Pt.locs, Pt.cells, Pt.slots] at X246 l246 y246 z246 st246 hQ246
            subst l246 y246 z246
            obtain ⟨rfl, Nq246, e246⟩ := hQ246
            have N246 := Fr.app N245 Nq246
            refine otr (S' := T246.setTop (mkF m 152 #[.val (.int i_), .val (.int j_), .val (.int k_), .val (.int f_), .val (.int g_), .val (.ref r_1), .val (.int (g_ &&& (3 : Int32))), .val (.ref r_221), .val (.ref r_224), .val (.ref r_227), .val (.ref b229), .val (.int (1 : Int32)), .val (.ref o_243), .unset] [(.ref r_243)])) st246 ?_
            obtain ⟨T247, X247, e247, st247⟩ := castY X246 hx hZ227 hown227 w26 e246 (Ins.self p243_4) (g := (mkF m 152 #[.val (.int i_), .val (.int j_), .val (.int k_), .val (.int f_), .val (.int g_), .val (.ref r_1), .val (.int (g_ &&& (3 : Int32))), .val (.ref r_221), .val (.ref r_224), .val (.ref r_227), .val (.ref b229), .val (.int (1 : Int32)), .val (.ref o_243), .unset] [(.ref r_243)])) rfl rfl (hb hby at_152)
            refine ogo (S' := T247.setTop (mkF m 155 #[.val (.int i_), .val (.int j_), .val (.int k_), .val (.int f_), .val (.int g_), .val (.ref r_1), .val (.int (g_ &&& (3 : Int32))), .val (.ref r_221), .val (.ref r_224), .val (.ref r_227), .val (.ref b229), .val (.int (1 : Int32)), .val (.ref o_243), .unset] [(.ref r_243)])) st247 ?_
            refine o_astore X247 hx (l' := #[.val (.int i_), .val (.int j_), .val (.int k_), .val (.int f_), .val (.int g_), .val (.ref r_1), .val (.int (g_ &&& (3 : Int32))), .val (.ref r_221), .val (.ref r_224), .val (.ref r_227), .val (.ref b229), .val (.int (1 : Int32)), .val (.ref o_243), .val (.ref r_243)]) (hb hby at_155) rfl rfl ?_
            refine o_aload X247 hx (hb hby at_157) rfl rfl ?_
            obtain ⟨cq248, kq248, q248a, q248b, q248c⟩ := isOf hZ227 e247 p243_4
            obtain ⟨_, _, ⟨T248, L248, kc248, n248⟩, -, X248, ⟨Lc248, hQ248, l248, y248, z248⟩, st248⟩ := X247.virtualBack hx (y := yM24) (z := yM24) hown227 (mvT hZ227 w79) (mvT hZ227 w80) (notFace_of_selects (args := #[]) (mvT hZ227 w82)) (mvT hZ227 w82) (mvT hZ227 w81) (by decide) (backOf (W := 0) (rm_g_queue l Z a0 hw []  r_243 (.ref r_1) T243.heap n0 ((c232.keep K231 (allS n0_b229 all0)).keep K243 all0) p243_5 (by first | rfl | assumption | decide | omega)) hZ227 w83 w28 (by decide) (by decide)) q248a q248c (g := (mkF m 159 #[.val (.int i_), .val (.int j_), .val (.int k_), .val (.int f_), .val (.int g_), .val (.ref r_1), .val (.int (g_ &&& (3 : Int32))), .val (.ref r_221), .val (.ref r_224), .val (.ref r_227), .val (.ref b229), .val (.int (1 : Int32)), .val (.ref o_243), .val (.ref r_243)] [(.ref r_243)])) rfl (by rw [hml]; rfl) (Steps.refl _) (argsL := []) (rest := []) (lenOf own_pd23 rfl) rfl (by show 2 * 0 + _ ≤ _; exact Nat.le_of_eq rfl) (hb hby at_159) (fun _ _ => ⟨rfl, e247, (by decide : 27 + 0 ≤ _), (by decide : 55 + 0 ≤ _)⟩)
            dsimp only [Pt.U, Pt.locs, Pt.cells, Pt.slots] at X248 l248 y248 z248 st248 hQ248
            subst l248 y248 z248
            obtain ⟨rfl, Nq248, e248⟩ := hQ248
            have N248 := Fr.app N246 Nq248
            refine otr (S' := T248.setTop (mkF m 162 #[.val (.int i_), .val (.int j_), .val (.int k_), .val (.int f_), .val (.int g_), .val (.ref r_1), .val (.int (g_ &&& (3 : Int32))), .val (.ref r_221), .val (.ref r_224), .val (.ref r_227), .val (.ref b229), .val (.int (1 : Int32)), .val (.ref o_243), .val (.ref r_243)] [(.ref r_1)])) st248 ?_
            refine o_aload X248 hx (hb hby at_162) rfl rfl ?_
            obtain ⟨_, _, ⟨T249, L249, kc249, n249⟩, -, X249, ⟨Lc249, hQ249, l249, y249, z249⟩, st249⟩ := Jvm.LawKit.callS X248 hx (y := yM13) hown227 (mvT hZ227 w84) (mvT hZ227 w85) (mvT hZ227 w2) (mvT hZ227 w86) (by decide) (backOf (W := 0) (rm_eqRR l Z a0 hw [] z_CS v_FMT s_EMPTY r_1 ba_1 kb_1 (own_ml i_) (own_mv i_) (own_ms i_) r_1 ba_1 kb_1 (own_ml i_) (own_mv i_) (own_ms i_) T243.heap n0 SB ((c232.keep K231 (allS n0_b229 all0)).keep K243 all0) (c238.keep K243) (c239.keep K243 nin0) (c240.keep K243 nin0) (c241.keep K243 nin0) (c238.keep K243) (c239.keep K243 nin0) (c240.keep K243 nin0) (c241.keep K243 nin0) p1_6 p1_6) hZ227 w86 w2 (by decide) (by decide)) (g := (mkF m 164 #[.val (.int i_), .val (.int j_), .val (.int k_), .val (.int f_), .val (.int g_), .val (.ref r_1), .val (.int (g_ &&& (3 : Int32))), .val (.ref r_221), .val (.ref r_224), .val (.ref r_227), .val (.ref b229), .val (.int (1 : Int32)), .val (.ref o_243), .val (.ref r_243)] [(.ref r_1), (.ref r_1)])) rfl (by rw [hml]; rfl) (argsL := [(.ref r_1), (.ref r_1)]) (rest := []) (lenOf own_pd24 rfl) rfl (by show 2 * 0 + _ ≤ _; exact Nat.le_of_eq rfl) (hb hby at_164) (fun _ _ => ⟨rfl, e248, (by decide : 27 + 0 ≤ _), (by decide : 55 + 0 ≤ _)⟩)
            dsimp only [Pt.U, Pt.locs, Pt.cells, Pt.slots] at X249 l249 y249 z249 st249 hQ249
            subst l249 y249 z249
            obtain ⟨rfl, Nq249, e249⟩ := hQ249
            have N249 := Fr.app N248 Nq249
            refine ogo (S' := T249.setTop (mkF m 167 #[.val (.int i_), .val (.int j_), .val (.int k_), .val (.int f_), .val (.int g_), .val (.ref r_1), .val (.int (g_ &&& (3 : Int32))), .val (.ref r_221), .val (.ref r_224), .val (.ref r_227), .val (.ref b229), .val (.int (1 : Int32)), .val (.ref o_243), .val (.ref r_243)] [(.int (own_b (own_ms i_) (own_ms i_)))])) st249 ?_
            rw [own_bs]
            refine o_ifNo X249 hx (hb hby at_167) (feq (by decide : ¬ ((1 : Int32) = (0 : Int32)))).1 ?_
            refine o_aload X249 hx (hb hby at_170) rfl rfl ?_
            obtain ⟨cq250, kq250, q250a, q250b, q250c⟩ := isOf hZ227 e249 p243_4
            obtain ⟨_, _, ⟨T250, L250, kc250, n250⟩, -, X250, ⟨Lc250, hQ250, l250, y250, z250⟩, st250⟩ := X249.virtualBack hx (y := yM25) (z := yM25) hown227 (mvT hZ227 w98) (mvT hZ227 w99) (notFace_of_selects (args := #[]) (mvT hZ227 w101)) (mvT hZ227 w101) (mvT hZ227 w100) (by decide) (backOf (W := 0) (rm_g_space l Z a0 hw []  r_243 (.ref r_224) T243.heap n0 ((c232.keep K231 (allS n0_b229 all0)).keep K243 all0) p243_6 (by first | rfl | assumption | decide | omega)) hZ227 w102 w28 (by decide) (by decide)) q250a q250c (g := (mkF m 172 #[.val (.int i_), .val (.int j_), .val (.int k_), .val (.int f_), .val (.int g_), .val (.ref r_1), .val (.int (g_ &&& (3 : Int32))), .val (.ref r_221), .val (.ref r_224), .val (.ref r_227), .val (.ref b229), .val (.int (1 : Int32)), .val (.ref o_243), .val (.ref r_243)] [(.ref r_243)])) rfl (by rw [hml]; rfl) (Steps.refl _) (argsL := []) (rest := []) (lenOf own_pd23 rfl) rfl (by show 2 * 0 + _ ≤ _; exact Nat.le_of_eq rfl) (hb hby at_172) (fun _ _ => ⟨rfl, e249, (by decide : 27 + 0 ≤ _), (by decide : 55 + 0 ≤ _)⟩)
            dsimp only [Pt.U, Pt.locs, Pt.cells, Pt.slots] at X250 l250 y250 z250 st250 hQ250
            subst l250 y250 z250
            obtain ⟨rfl, Nq250, e250⟩ := hQ250
            have N250 := Fr.app N249 Nq250
            refine otr (S' := T250.setTop (mkF m 175 #[.val (.int i_), .val (.int j_), .val (.int k_), .val (.int f_), .val (.int g_), .val (.ref r_1), .val (.int (g_ &&& (3 : Int32))), .val (.ref r_221), .val (.ref r_224), .val (.ref r_227), .val (.ref b229), .val (.int (1 : Int32)), .val (.ref o_243), .val (.ref r_243)] [(.ref r_224)])) st250 ?_
            refine o_aload X250 hx (hb hby at_175) rfl rfl ?_
            have c252 := (((Fld.ext E229 (p224_3.keep K227 nin0)).keep K231 (ninS (Nat.ne_of_lt (Nat.lt_of_lt_of_le (Nat.lt_of_lt_of_le p224_2.lt K227.1) (Nat.le_of_eq g229.symm))) nin0)).keep K243 nin0)
            have c253 := (((Fld.ext E229 (p224_4.keep K227 nin0)).keep K231 (ninS (Nat.ne_of_lt (Nat.lt_of_lt_of_le (Nat.lt_of_lt_of_le p224_2.lt K227.1) (Nat.le_of_eq g229.symm))) nin0)).keep K243 nin0)
            have c254 := ((((p224_5.keep K227 nin0).ext E229).keep K231 (ninS (Nat.ne_of_lt (Nat.lt_of_lt_of_le (Nat.lt_of_lt_of_le p224_1 K227.1) (Nat.le_of_eq g229.symm))) nin0)).keep K243 nin0)
            obtain ⟨_, _, ⟨T251, L251, kc251, n251⟩, -, X251, ⟨Lc251, hQ251, l251, y251, z251⟩, st251⟩ := Jvm.LawKit.callS X250 hx (y := yM13) hown227 (mvT hZ227 w84) (mvT hZ227 w85) (mvT hZ227 w2) (mvT hZ227 w86) (by decide) (backOf (W := 0) (rm_eqRR l Z a0 hw [] z_CS v_FMT s_EMPTY r_224 ba_224 kb_224 (own_ml k_) (own_mv k_) (own_ms k_) r_224 ba_224 kb_224 (own_ml k_) (own_mv k_) (own_ms k_) T243.heap n0 SB ((c232.keep K231 (allS n0_b229 all0)).keep K243 all0) (((Exa.ext E229 (p224_2.keep K227)).keep K231).keep K243) c252 c253 c254 (((Exa.ext E229 (p224_2.keep K227)).keep K231).keep K243) c252 c253 c254 p224_6 p224_6) hZ227 w86 w2 (by decide) (by decide)) (g := (mkF m 177 #[.val (.int i_), .val (.int j_), .val (.int k_), .val (.int f_), .val (.int g_), .val (.ref r_1), .val (.int (g_ &&& (3 : Int32))), .val (.ref r_221), .val (.ref r_224), .val (.ref r_227), .val (.ref b229), .val (.int (1 : Int32)), .val (.ref o_243), .val (.ref r_243)] [(.ref r_224), (.ref r_224)])) rfl (by rw [hml]; rfl) (argsL := [(.ref r_224), (.ref r_224)]) (rest := []) (lenOf own_pd24 rfl) rfl (by show 2 * 0 + _ ≤ _; exact Nat.le_of_eq rfl) (hb hby at_177) (fun _ _ => ⟨rfl, e250, (by decide : 27 + 0 ≤ _), (by decide : 55 + 0 ≤ _)⟩)
            dsimp only [Pt.U, Pt.locs, Pt.cells, Pt.slots] at X251 l251 y251 z251 st251 hQ251
            subst l251 y251 z251
            obtain ⟨rfl, Nq251, e251⟩ := hQ251
            have N251 := Fr.app N250 Nq251
            refine ogo (S' := T251.setTop (mkF m 180 #[.val (.int i_), .val (.int j_), .val (.int k_), .val (.int f_), .val (.int g_), .val (.ref r_1), .val (.int (g_ &&& (3 : Int32))), .val (.ref r_221), .val (.ref r_224), .val (.ref r_227), .val (.ref b229), .val (.int (1 : Int32)), .val (.ref o_243), .val (.ref r_243)] [(.int (own_b (own_ms k_) (own_ms k_)))])) st251 ?_
            rw [own_bs]
            refine o_ifNo X251 hx (hb hby at_180) (feq (by decide : ¬ ((1 : Int32) = (0 : Int32)))).1 ?_
            refine o_aload X251 hx (hb hby at_183) rfl rfl ?_
            obtain ⟨cq255, kq255, q255a, q255b, q255c⟩ := isOf hZ227 e251 p243_4
            obtain ⟨_, _, ⟨T255, L255, kc255, n255⟩, -, X255, ⟨Lc255, hQ255, l255, y255, z255⟩, st255⟩ := X251.virtualBack hx (y := yM26) (z := yM26) hown227 (mvT hZ227 w103) (mvT hZ227 w104) (notFace_of_selects (args := #[]) (mvT hZ227 w106)) (mvT hZ227 w106) (mvT hZ227 w105) (by decide) (backOf (W := 0) (rm_g_contentId l Z a0 hw []  r_243 (.ref r_227) T243.heap n0 ((c232.keep K231 (allS n0_b229 all0)).keep K243 all0) p243_7 (by first | rfl | assumption | decide | omega)) hZ227 w107 w28 (by decide) (by decide)) q255a q255c (g := (mkF m 185 #[.val (.int i_), .val (.int j_), .val (.int k_), .val (.int f_), .val (.int g_), .val (.ref r_1), .val (.int (g_ &&& (3 : Int32))), .val (.ref r_221), .val (.ref r_224), .val (.ref r_227), .val (.ref b229), .val (.int (1 : Int32)), .val (.ref o_243), .val (.ref r_243)] [(.ref r_243)])) rfl (by rw [hml]; rfl) (Steps.refl _) (argsL := []) (rest := []) (lenOf own_pd23 rfl) rfl (by show 2 * 0 + _ ≤ _; exact Nat.le_of_eq rfl) (hb hby at_185) (fun _ _ => ⟨rfl, e251, (by decide : 27 + 0 ≤ _), (by decide : 55 + 0 ≤ _)⟩)
            dsimp only [Pt.U, Pt.locs, Pt.cells, Pt.slots] at X255 l255 y255 z255 st255 hQ255
            subst l255 y255 z255
            obtain ⟨rfl, Nq255, e255⟩ := hQ255
            have N255 := Fr.app N251 Nq255
            refine otr (S' := T255.setTop (mkF m 188 #[.val (.int i_), .val (.int j_), .val (.int k_), .val (.int f_), .val (.int g_), .val (.ref r_1), .val (.int (g_ &&& (3 : Int32))), .val (.ref r_221), .val (.ref r_224), .val (.ref r_227), .val (.ref b229), .val (.int (1 : Int32)), .val (.ref o_243), .val (.ref r_243)] [(.ref r_227)])) st255 ?_
            refine o_aload X255 hx (hb hby at_188) rfl rfl ?_
            have c257 := (((Fld.ext E229 p227_3).keep K231 (ninS (Nat.ne_of_lt (Nat.lt_of_lt_of_le (Nat.lt_of_lt_of_le p227_2.lt (Nat.le_refl _)) (Nat.le_of_eq g229.symm))) nin0)).keep K243 nin0)
            have c258 := (((Fld.ext E229 p227_4).keep K231 (ninS (Nat.ne_of_lt (Nat.lt_of_lt_of_le (Nat.lt_of_lt_of_le p227_2.lt (Nat.le_refl _)) (Nat.le_of_eq g229.symm))) nin0)).keep K243 nin0)
            have c259 := (((p227_5.ext E229).keep K231 (ninS (Nat.ne_of_lt (Nat.lt_of_lt_of_le (Nat.lt_of_lt_of_le p227_1 (Nat.le_refl _)) (Nat.le_of_eq g229.symm))) nin0)).keep K243 nin0)
            obtain ⟨_, _, ⟨T256, L256, kc256, n256⟩, -, X256, ⟨Lc256, hQ256, l256, y256, z256⟩, st256⟩ := Jvm.LawKit.callS X255 hx (y := yM13) hown227 (mvT hZ227 w84) (mvT hZ227 w85) (mvT hZ227 w2) (mvT hZ227 w86) (by decide) (backOf (W := 0) (rm_eqRR l Z a0 hw [] z_CS v_FMT s_EMPTY r_227 ba_227 kb_227 (own_ml f_) (own_mv f_) (own_ms f_) r_227 ba_227 kb_227 (own_ml f_) (own_mv f_) (own_ms f_) T243.heap n0 SB ((c232.keep K231 (allS n0_b229 all0)).keep K243 all0) (((Exa.ext E229 p227_2).keep K231).keep K243) c257 c258 c259 (((Exa.ext E229 p227_2).keep K231).keep K243) c257 c258 c259 p227_6 p227_6) hZ227 w86 w2 (by decide) (by decide)) (g := (mkF m 190 #[.val (.int i_), .val (.int j_), .val (.int k_), .val (.int f_), .val (.int g_), .val (.ref r_1), .val (.int (g_ &&& (3 : Int32))), .val (.ref r_221), .val (.ref r_224), .val (.ref r_227), .val (.ref b229), .val (.int (1 : Int32)), .val (.ref o_243), .val (.ref r_243)] [(.ref r_227), (.ref r_227)])) rfl (by rw [hml]; rfl) (argsL := [(.ref r_227), (.ref r_227)]) (rest := []) (lenOf own_pd24 rfl) rfl (by show 2 * 0 + _ ≤ _; exact Nat.le_of_eq rfl) (hb hby at_190) (fun _ _ => ⟨rfl, e255, (by decide : 27 + 0 ≤ _), (by decide : 55 + 0 ≤ _)⟩)
            dsimp only [Pt.U, Pt.locs, Pt.cells, Pt.slots] at X256 l256 y256 z256 st256 hQ256
            subst l256 y256 z256
            obtain ⟨rfl, Nq256, e256⟩ := hQ256
            have N256 := Fr.app N255 Nq256
            refine ogo (S' := T256.setTop (mkF m 193 #[.val (.int i_), .val (.int j_), .val (.int k_), .val (.int f_), .val (.int g_), .val (.ref r_1), .val (.int (g_ &&& (3 : Int32))), .val (.ref r_221), .val (.ref r_224), .val (.ref r_227), .val (.ref b229), .val (.int (1 : Int32)), .val (.ref o_243), .val (.ref r_243)] [(.int (own_b (own_ms f_) (own_ms f_)))])) st256 ?_
            rw [own_bs]
            refine o_ifNo X256 hx (hb hby at_193) (feq (by decide : ¬ ((1 : Int32) = (0 : Int32)))).1 ?_
            refine o_iconst X256 hx (1 : Int32) (hb hby at_196) rfl ?_
            refine o_goto X256 hx 201 (hb hby at_197) (by decide) (by decide) ?_
            refine oendS X256 hlk hS227 (Nat.le_trans (Nat.le_refl _) (Nat.le_trans (Nat.le_trans E229.1 K231.1) K243.1)) e256 hZ227 hEL hs0 (CHr.trans (CHr.trans (CHr.trans (CHr.trans (CHr.trans (CHr.trans (CHr.trans (CHr.refl H0) C1) C221) C224) C227) (CHr.ext E229 H228)) (CHr.keep K231 (allS (Safe.exa hZ227.alike A229 (by decide) (by decide)) all0) H230)) (CHr.keep K243 all0 H233)) (v := some (.int (1 : Int32))) (fun h => by rw [hret] at h; cases h) (fun fs hr => retN X256 hx (t := .boolean) hret (by simp) (hb hby at_201) hr) (by decide) (by decide) ?_
            show own_Q_law Z _ _ _ _ _ _ _ _ h0 n0 _ T256.heap _
            rw [e256]
            exact ⟨rfl, N256, ((((((((Keep.refl h0 []).trans K1 all0).trans K221 all0).trans K224 all0).trans K227 all0).ext E229).trans K231 (allS (Or.inr (Nat.le_trans (Nat.le_trans (Nat.le_trans (Nat.le_trans K1.1 K221.1) K224.1) K227.1) (Nat.le_of_eq g229.symm))) all0)).trans K243 all0)⟩
          · rw [own_bf hc242]
            refine o_ifYes X234 hx 116 (hb hby at_109) (teq (by decide : (0 : Int32) = (0 : Int32))).1 (by decide) (by decide) ?_
            refine o_iconst X234 hx (0 : Int32) (hb hby at_116) rfl ?_
            refine o_istore X234 hx (l' := #[.val (.int i_), .val (.int j_), .val (.int k_), .val (.int f_), .val (.int g_), .val (.ref r_1), .val (.int (g_ &&& (3 : Int32))), .val (.ref r_221), .val (.ref r_224), .val (.ref r_227), .val (.ref b229), .val (.int (0 : Int32)), .unset, .unset]) (hb hby at_117) rfl ?_
            refine o_aload X234 hx (hb hby at_119) rfl rfl ?_
            refine o_aload X234 hx (hb hby at_121) rfl rfl ?_
            obtain ⟨cq260, kq260, q260a, q260b, q260c⟩ := isOf hZ227 e234 p231_0
            obtain ⟨_, _, ⟨T260, L260, kc260, n260⟩, -, X260, ⟨Lc260, hQ260, l260, y260, z260⟩, st260⟩ := X234.virtualBack hx (y := yM27) (z := yM27) hown227 (mvT hZ227 w44) (mvT hZ227 w45) (notFace_of_selects (args := #[]) (mvT hZ227 w47)) (mvT hZ227 w47) (mvT hZ227 w46) (by decide) (backOf (W := 0) (rm_onqF l Z a0 hw [] z_CS v_FMT s_EMPTY b229 r_221 ba_221 kb_221 (own_ml j_) (own_mv j_) (own_ms j_) r_1 ba_1 kb_1 (own_ml i_) (own_mv i_) (own_ms i_) T231.heap n0 SB (c232.keep K231 (allS n0_b229 all0)) p231_0 p231_1 ((Exa.ext E229 ((p221_2.keep K224).keep K227)).keep K231) c235 c236 c237 c238 c239 c240 c241 p221_6 p1_6 (Nat.ne_of_gt (Nat.lt_of_lt_of_le (Nat.lt_of_lt_of_le p1_2.lt (Nat.le_refl _)) p221_0)) hc242) hZ227 w48 w28 (by decide) (by decide)) q260a q260c (g := (mkF m 123 #[.val (.int i_), .val (.int j_), .val (.int k_), .val (.int f_), .val (.int g_), .val (.ref r_1), .val (.int (g_ &&& (3 : Int32))), .val (.ref r_221), .val (.ref r_224), .val (.ref r_227), .val (.ref b229), .val (.int (0 : Int32)), .unset, .unset] [(.ref r_1), (.ref b229)])) rfl (by rw [hml]; rfl) (Steps.refl _) (argsL := [(.ref r_1)]) (rest := []) (lenOf own_pd21 rfl) rfl (by show 2 * 0 + _ ≤ _; exact Nat.le_of_eq rfl) (hb hby at_123) (fun _ _ => ⟨rfl, e234, (by decide : 25 + 0 ≤ _), (by decide : 51 + 0 ≤ _)⟩)
            dsimp only [Pt.U, Pt.locs, Pt.cells, Pt.slots] at X260 l260 y260 z260 st260 hQ260
            subst l260 y260 z260
            obtain ⟨rfl, Nq260, e260⟩ := hQ260
            have N260 := Fr.app N234 Nq260
            refine otr (S' := T260.setTop (mkF m 126 #[.val (.int i_), .val (.int j_), .val (.int k_), .val (.int f_), .val (.int g_), .val (.ref r_1), .val (.int (g_ &&& (3 : Int32))), .val (.ref r_221), .val (.ref r_224), .val (.ref r_227), .val (.ref b229), .val (.int (0 : Int32)), .unset, .unset] [(.ref s_EMPTY)])) st260 ?_
            refine o_astore X260 hx (l' := #[.val (.int i_), .val (.int j_), .val (.int k_), .val (.int f_), .val (.int g_), .val (.ref r_1), .val (.int (g_ &&& (3 : Int32))), .val (.ref r_221), .val (.ref r_224), .val (.ref r_227), .val (.ref b229), .val (.int (0 : Int32)), .val (.ref s_EMPTY), .unset]) (hb hby at_126) rfl rfl ?_
            refine o_aload X260 hx (hb hby at_128) rfl rfl ?_
            obtain ⟨cq261, kq261, q261a, q261b, q261c⟩ := isOf hZ227 e260 (Exa.ext (c232.keep K231 (allS n0_b229 all0)).2 E_EMPTY)
            obtain ⟨_, _, ⟨T261, L261, kc261, n261⟩, -, X261, ⟨Lc261, hQ261, l261, y261, z261⟩, st261⟩ := X260.virtualBack hx (y := yM22) (z := yM22) hown227 (mvT hZ227 w68) (mvT hZ227 w69) (notFace_of_selects (args := #[]) (mvT hZ227 w71)) (mvT hZ227 w71) (mvT hZ227 w70) (by decide) (backOf (W := 0) (rm_oppN l Z a0 hw []  s_EMPTY T231.heap n0 (c232.keep K231 (allS n0_b229 all0)) (Fld.ext (c232.keep K231 (allS n0_b229 all0)).2 F_EMPTY)) hZ227 w72 w53 (by decide) (by decide)) q261a q261c (g := (mkF m 130 #[.val (.int i_), .val (.int j_), .val (.int k_), .val (.int f_), .val (.int g_), .val (.ref r_1), .val (.int (g_ &&& (3 : Int32))), .val (.ref r_221), .val (.ref r_224), .val (.ref r_227), .val (.ref b229), .val (.int (0 : Int32)), .val (.ref s_EMPTY), .unset] [(.ref s_EMPTY)])) rfl (by rw [hml]; rfl) (Steps.refl _) (argsL := []) (rest := []) (lenOf own_pd8 rfl) rfl (by show 2 * 0 + _ ≤ _; exact Nat.le_of_eq rfl) (hb hby at_130) (fun _ _ => ⟨rfl, e260, (by decide : 25 + 0 ≤ _), (by decide : 51 + 0 ≤ _)⟩)
            dsimp only [Pt.U, Pt.locs, Pt.cells, Pt.slots] at X261 l261 y261 z261 st261 hQ261
            subst l261 y261 z261
            obtain ⟨rfl, Nq261, e261⟩ := hQ261
            have N261 := Fr.app N260 Nq261
            refine otr (S' := T261.setTop (mkF m 133 #[.val (.int i_), .val (.int j_), .val (.int k_), .val (.int f_), .val (.int g_), .val (.ref r_1), .val (.int (g_ &&& (3 : Int32))), .val (.ref r_221), .val (.ref r_224), .val (.ref r_227), .val (.ref b229), .val (.int (0 : Int32)), .val (.ref s_EMPTY), .unset] [(.int (0 : Int32))])) st261 ?_
            refine o_iload X261 hx (hb hby at_133) rfl ?_
            refine o_icmpYes X261 hx 140 (hb hby at_135) (teq (by decide : (0 : Int32) = (0 : Int32))).1 (by decide) (by decide) ?_
            refine o_iload X261 hx (hb hby at_140) rfl ?_
            refine o_ifNo X261 hx (hb hby at_142) (teq (by decide : (0 : Int32) = (0 : Int32))).2 ?_
            refine o_iconst X261 hx (1 : Int32) (hb hby at_145) rfl ?_
            refine oendS X261 hlk hS227 (Nat.le_trans (Nat.le_refl _) (Nat.le_trans E229.1 K231.1)) e261 hZ227 hEL hs0 (CHr.trans (CHr.trans (CHr.trans (CHr.trans (CHr.trans (CHr.trans (CHr.refl H0) C1) C221) C224) C227) (CHr.ext E229 H228)) (CHr.keep K231 (allS (Safe.exa hZ227.alike A229 (by decide) (by decide)) all0) H230)) (v := some (.int (1 : Int32))) (fun h => by rw [hret] at h; cases h) (fun fs hr => retN X261 hx (t := .boolean) hret (by simp) (hb hby at_146) hr) (by decide) (by decide) ?_
            show own_Q_law Z _ _ _ _ _ _ _ _ h0 n0 _ T261.heap _
            rw [e261]
            exact ⟨rfl, N261, (((((((Keep.refl h0 []).trans K1 all0).trans K221 all0).trans K224 all0).trans K227 all0).ext E229).trans K231 (allS (Or.inr (Nat.le_trans (Nat.le_trans (Nat.le_trans (Nat.le_trans K1.1 K221.1) K224.1) K227.1) (Nat.le_of_eq g229.symm))) all0))⟩
        · refine o_ifNo X224 hx (hb hby at_69) (feq hc226).1 ?_
          refine o_aconst_null X224 hx (hb hby at_72) ?_
          refine o_goto X224 hx 80 (hb hby at_73) (by decide) (by decide) ?_
          refine o_astore X224 hx (l' := #[.val (.int i_), .val (.int j_), .val (.int k_), .val (.int f_), .val (.int g_), .val (.ref r_1), .val (.int (g_ &&& (3 : Int32))), .val (.ref r_221), .val (.ref r_224), .val .null, .unset, .unset, .unset, .unset]) (hb hby at_80) rfl rfl ?_
          obtain ⟨T262, _, X262, rfl, E262, A262, D262, -, st262⟩ := newO X224 hx hZ224 hown224 w26 w27 w28 rfl (g := (mkF m 82 #[.val (.int i_), .val (.int j_), .val (.int k_), .val (.int f_), .val (.int g_), .val (.ref r_1), .val (.int (g_ &&& (3 : Int32))), .val (.ref r_221), .val (.ref r_224), .val .null, .unset, .unset, .unset, .unset] [])) rfl (hb hby at_82) (by decide) (by decide)
          obtain ⟨b262, g262⟩ : ∃ z, z = T224.heap.size := ⟨_, rfl⟩
          rw [← g262] at A262 D262 st262
          have n0_b262 : n0 ≤ b262 := Nat.le_trans (Nat.le_trans (Nat.le_of_eq O0.1.symm) O0.2.1) (Nat.le_trans (Nat.le_trans (Nat.le_trans K1.1 K221.1) K224.1) (Nat.le_of_eq g262.symm))
          have H263 := CHv.ext E262 H225
          have F262_queue : Fld Z T262.heap b262 "com/example/reliquary/reliquary/DeadLetterSelection" "queue" "Ljava/lang/String;" .null := D262 (Or.inr w39) (ty := (.object "java/lang/String")) (by decide)
          have F262_space : Fld Z T262.heap b262 "com/example/reliquary/reliquary/DeadLetterSelection" "space" "Ljava/lang/String;" .null := D262 (Or.inr w41) (ty := (.object "java/lang/String")) (by decide)
          have F262_contentId : Fld Z T262.heap b262 "com/example/reliquary/reliquary/DeadLetterSelection" "contentId" "Ljava/lang/String;" .null := D262 (Or.inr w43) (ty := (.object "java/lang/String")) (by decide)
          refine ogo (S' := T262.setTop (mkF m 85 #[.val (.int i_), .val (.int j_), .val (.int k_), .val (.int f_), .val (.int g_), .val (.ref r_1), .val (.int (g_ &&& (3 : Int32))), .val (.ref r_221), .val (.ref r_224), .val .null, .unset, .unset, .unset, .unset] [(.ref b262)])) st262 ?_
          refine o_dup X262 hx (hb hby at_85) rfl ?_
          refine o_aload X262 hx (hb hby at_86) rfl rfl ?_
          refine o_aload X262 hx (hb hby at_88) rfl rfl ?_
          refine o_aload X262 hx (hb hby at_90) rfl rfl ?_
          have c265 := ((((O0.keep K1 all0).keep K221 all0).keep K224 all0).ext E262)
          obtain ⟨_, _, ⟨T264, L264, kc264, n264⟩, -, X264, ⟨Lc264, hQ264, l264, y264, z264⟩, st264⟩ := X262.specialBack hx (y := yM17) rfl hown224 (mvT hZ224 w29) (mvT hZ224 w30) (mvT hZ224 w31) (by decide) (backOf (W := 1) (rm_dli l Z a0 hw []  b262 (.ref r_221) (.ref r_224) .null T262.heap n0 c265 A262 F262_queue F262_space F262_contentId n0_b262 (by first | rfl | assumption | decide | omega) (by first | rfl | assumption | decide | omega) (by first | rfl | assumption | decide | omega) (by first | rfl | assumption | decide | omega) (by first | rfl | assumption | decide | omega) (by first | rfl | assumption | decide | omega)) hZ224 w31 w28 (by decide) (by decide)) (g := (mkF m 92 #[.val (.int i_), .val (.int j_), .val (.int k_), .val (.int f_), .val (.int g_), .val (.ref r_1), .val (.int (g_ &&& (3 : Int32))), .val (.ref r_221), .val (.ref r_224), .val .null, .unset, .unset, .unset, .unset] [.null, (.ref r_224), (.ref r_221), (.ref b262), (.ref b262)])) rfl (by rw [hml]; rfl) (Steps.refl _) (a := b262) (argsL := [(.ref r_221), (.ref r_224), .null]) (rest := [(.ref b262)]) (lenOf own_pd16 rfl) rfl (by show 2 * 0 + _ ≤ _; exact Nat.le_of_eq rfl) (hb hby at_92) (fun _ _ => ⟨rfl, rfl, (by decide : 19 + 0 ≤ _), (by decide : 39 + 0 ≤ _)⟩)
          dsimp only [Pt.U, Pt.locs, Pt.cells, Pt.slots] at X264 l264 y264 z264 st264 hQ264
          subst l264 y264 z264
          obtain ⟨rfl, Nq264, K264, p264_0, p264_1, p264_2, p264_3⟩ := hQ264
          have N264 := Fr.app N224 Nq264
          have H266 := CHv.keep K264 (allS (Safe.exa hZ224.alike A262 (by decide) (by decide)) all0) H263
          refine otr (S' := T264.setTop (mkF m 95 #[.val (.int i_), .val (.int j_), .val (.int k_), .val (.int f_), .val (.int g_), .val (.ref r_1), .val (.int (g_ &&& (3 : Int32))), .val (.ref r_221), .val (.ref r_224), .val .null, .unset, .unset, .unset, .unset] [(.ref b262)])) st264 ?_
          refine o_astore X264 hx (l' := #[.val (.int i_), .val (.int j_), .val (.int k_), .val (.int f_), .val (.int g_), .val (.ref r_1), .val (.int (g_ &&& (3 : Int32))), .val (.ref r_221), .val (.ref r_224), .val .null, .val (.ref b262), .unset, .unset, .unset]) (hb hby at_95) rfl rfl ?_
          refine o_aload X264 hx (hb hby at_97) rfl rfl ?_
          refine o_ifnullNo X264 hx (hb hby at_99) ?_
          refine o_aload X264 hx (hb hby at_102) rfl rfl ?_
          refine o_aload X264 hx (hb hby at_104) rfl rfl ?_
          have c268 := ((Fld.ext E262 (p221_3.keep K224 nin0)).keep K264 (ninS (Nat.ne_of_lt (Nat.lt_of_lt_of_le (Nat.lt_of_lt_of_le p221_2.lt K224.1) (Nat.le_of_eq g262.symm))) nin0))
          have c269 := ((Fld.ext E262 (p221_4.keep K224 nin0)).keep K264 (ninS (Nat.ne_of_lt (Nat.lt_of_lt_of_le (Nat.lt_of_lt_of_le p221_2.lt K224.1) (Nat.le_of_eq g262.symm))) nin0))
          have c270 := (((p221_5.keep K224 nin0).ext E262).keep K264 (ninS (Nat.ne_of_lt (Nat.lt_of_lt_of_le (Nat.lt_of_lt_of_le p221_1 K224.1) (Nat.le_of_eq g262.symm))) nin0))
          have c271 := ((Fld.ext E262 ((p1_3.keep K221 nin0).keep K224 nin0)).keep K264 (ninS (Nat.ne_of_lt (Nat.lt_of_lt_of_le (Nat.lt_of_lt_of_le p1_2.lt (Nat.le_trans K221.1 K224.1)) (Nat.le_of_eq g262.symm))) nin0))
          have c272 := ((Fld.ext E262 ((p1_4.keep K221 nin0).keep K224 nin0)).keep K264 (ninS (Nat.ne_of_lt (Nat.lt_of_lt_of_le (Nat.lt_of_lt_of_le p1_2.lt (Nat.le_trans K221.1 K224.1)) (Nat.le_of_eq g262.symm))) nin0))
          have c273 := ((((p1_5.keep K221 nin0).keep K224 nin0).ext E262).keep K264 (ninS (Nat.ne_of_lt (Nat.lt_of_lt_of_le (Nat.lt_of_lt_of_le p1_1 (Nat.le_trans K221.1 K224.1)) (Nat.le_of_eq g262.symm))) nin0))
          obtain ⟨_, _, ⟨T267, L267, kc267, n267⟩, -, X267, ⟨Lc267, hQ267, l267, y267, z267⟩, st267⟩ := Jvm.LawKit.callS X264 hx (y := yM13) hown224 (mvT hZ224 w84) (mvT hZ224 w85) (mvT hZ224 w2) (mvT hZ224 w86) (by decide) (backOf (W := 0) (rm_eqRR l Z a0 hw [] z_CS v_FMT s_EMPTY r_221 ba_221 kb_221 (own_ml j_) (own_mv j_) (own_ms j_) r_1 ba_1 kb_1 (own_ml i_) (own_mv i_) (own_ms i_) T264.heap n0 SB (c265.keep K264 (allS n0_b262 all0)) ((Exa.ext E262 (p221_2.keep K224)).keep K264) c268 c269 c270 ((Exa.ext E262 ((p1_2.keep K221).keep K224)).keep K264) c271 c272 c273 p221_6 p1_6) hZ224 w86 w2 (by decide) (by decide)) (g := (mkF m 106 #[.val (.int i_), .val (.int j_), .val (.int k_), .val (.int f_), .val (.int g_), .val (.ref r_1), .val (.int (g_ &&& (3 : Int32))), .val (.ref r_221), .val (.ref r_224), .val .null, .val (.ref b262), .unset, .unset, .unset] [(.ref r_1), (.ref r_221)])) rfl (by rw [hml]; rfl) (argsL := [(.ref r_221), (.ref r_1)]) (rest := []) (lenOf own_pd24 rfl) rfl (by show 2 * 0 + _ ≤ _; exact Nat.le_of_eq rfl) (hb hby at_106) (fun _ _ => ⟨rfl, rfl, (by decide : 19 + 0 ≤ _), (by decide : 39 + 0 ≤ _)⟩)
          dsimp only [Pt.U, Pt.locs, Pt.cells, Pt.slots] at X267 l267 y267 z267 st267 hQ267
          subst l267 y267 z267
          obtain ⟨rfl, Nq267, e267⟩ := hQ267
          have N267 := Fr.app N264 Nq267
          refine ogo (S' := T267.setTop (mkF m 109 #[.val (.int i_), .val (.int j_), .val (.int k_), .val (.int f_), .val (.int g_), .val (.ref r_1), .val (.int (g_ &&& (3 : Int32))), .val (.ref r_221), .val (.ref r_224), .val .null, .val (.ref b262), .unset, .unset, .unset] [(.int (own_b (own_ms j_) (own_ms i_)))])) st267 ?_
          by_cases hc274 : (own_ms j_) = (own_ms i_)
          · rw [own_bt hc274]
            refine o_ifNo X267 hx (hb hby at_109) (feq (by decide : ¬ ((1 : Int32) = (0 : Int32)))).1 ?_
            refine o_iconst X267 hx (1 : Int32) (hb hby at_112) rfl ?_
            refine o_goto X267 hx 117 (hb hby at_113) (by decide) (by decide) ?_
            refine o_istore X267 hx (l' := #[.val (.int i_), .val (.int j_), .val (.int k_), .val (.int f_), .val (.int g_), .val (.ref r_1), .val (.int (g_ &&& (3 : Int32))), .val (.ref r_221), .val (.ref r_224), .val .null, .val (.ref b262), .val (.int (1 : Int32)), .unset, .unset]) (hb hby at_117) rfl ?_
            refine o_aload X267 hx (hb hby at_119) rfl rfl ?_
            refine o_aload X267 hx (hb hby at_121) rfl rfl ?_
            obtain ⟨cq275, kq275, q275a, q275b, q275c⟩ := isOf hZ224 e267 p264_0
            obtain ⟨_, _, ⟨T275, L275, kc275, n275⟩, -, X275, ⟨Lc275, hQ275, l275, y275, z275⟩, st275⟩ := X267.virtualBack hx (y := yM27) (z := yM27) hown224 (mvT hZ224 w44) (mvT hZ224 w45) (notFace_of_selects (args := #[]) (mvT hZ224 w47)) (mvT hZ224 w47) (mvT hZ224 w46) (by decide) (backOf (W := 0) (rm_onqT l Z a0 hw [] z_CS v_FMT s_EMPTY b262 r_221 ba_221 kb_221 (own_ml j_) (own_mv j_) (own_ms j_) r_1 ba_1 kb_1 (own_ml i_) (own_mv i_) (own_ms i_) (.ref r_224) .null T264.heap n0 SB (c265.keep K264 (allS n0_b262 all0)) p264_0 p264_1 p264_2 p264_3 (by first | rfl | assumption | decide | omega) (by first | rfl | assumption | decide | omega) (by first | rfl | assumption | decide | omega) (by first | rfl | assumption | decide | omega) ((Exa.ext E262 (p221_2.keep K224)).keep K264) c268 c269 c270 ((Exa.ext E262 ((p1_2.keep K221).keep K224)).keep K264) c271 c272 c273 p221_6 p1_6 (Nat.ne_of_gt (Nat.lt_of_lt_of_le (Nat.lt_of_lt_of_le p1_2.lt (Nat.le_refl _)) p221_0)) hc274) hZ224 w48 w28 (by decide) (by decide)) q275a q275c (g := (mkF m 123 #[.val (.int i_), .val (.int j_), .val (.int k_), .val (.int f_), .val (.int g_), .val (.ref r_1), .val (.int (g_ &&& (3 : Int32))), .val (.ref r_221), .val (.ref r_224), .val .null, .val (.ref b262), .val (.int (1 : Int32)), .unset, .unset] [(.ref r_1), (.ref b262)])) rfl (by rw [hml]; rfl) (Steps.refl _) (argsL := [(.ref r_1)]) (rest := []) (lenOf own_pd21 rfl) rfl (by show 2 * 0 + _ ≤ _; exact Nat.le_of_eq rfl) (hb hby at_123) (fun _ _ => ⟨rfl, e267, (by decide : 19 + 2 ≤ _), (by decide : 39 + 4 ≤ _)⟩)
            dsimp only [Pt.U, Pt.locs, Pt.cells, Pt.slots] at X275 l275 y275 z275 st275 hQ275
            subst l275 y275 z275
            obtain ⟨o_275, r_275, rfl, Nq275, K275, p275_0, p275_1, p275_2, p275_3, p275_4, p275_5, p275_6, p275_7⟩ := hQ275
            have N275 := Fr.app N267 Nq275
            have H276 := CHv.keep K275 all0 H266
            have n0_o_275 : n0 ≤ o_275 := Nat.le_trans (Nat.le_trans (Nat.le_of_eq O0.1.symm) O0.2.1) (Nat.le_trans (Nat.le_trans (Nat.le_trans (Nat.le_trans (Nat.le_trans K1.1 K221.1) K224.1) E262.1) K264.1) p275_0)
            have n0_r_275 : n0 ≤ r_275 := Nat.le_trans (Nat.le_trans (Nat.le_of_eq O0.1.symm) O0.2.1) (Nat.le_trans (Nat.le_trans (Nat.le_trans (Nat.le_trans (Nat.le_trans K1.1 K221.1) K224.1) E262.1) K264.1) p275_1)
            refine otr (S' := T275.setTop (mkF m 126 #[.val (.int i_), .val (.int j_), .val (.int k_), .val (.int f_), .val (.int g_), .val (.ref r_1), .val (.int (g_ &&& (3 : Int32))), .val (.ref r_221), .val (.ref r_224), .val .null, .val (.ref b262), .val (.int (1 : Int32)), .unset, .unset] [(.ref o_275)])) st275 ?_
            refine o_astore X275 hx (l' := #[.val (.int i_), .val (.int j_), .val (.int k_), .val (.int f_), .val (.int g_), .val (.ref r_1), .val (.int (g_ &&& (3 : Int32))), .val (.ref r_221), .val (.ref r_224), .val .null, .val (.ref b262), .val (.int (1 : Int32)), .val (.ref o_275), .unset]) (hb hby at_126) rfl rfl ?_
            refine o_aload X275 hx (hb hby at_128) rfl rfl ?_
            obtain ⟨cq277, kq277, q277a, q277b, q277c⟩ := isOf hZ224 rfl p275_2
            obtain ⟨_, _, ⟨T277, L277, kc277, n277⟩, -, X277, ⟨Lc277, hQ277, l277, y277, z277⟩, st277⟩ := X275.virtualBack hx (y := yM22) (z := yM22) hown224 (mvT hZ224 w68) (mvT hZ224 w69) (notFace_of_selects (args := #[]) (mvT hZ224 w71)) (mvT hZ224 w71) (mvT hZ224 w70) (by decide) (backOf (W := 0) (rm_oppR l Z a0 hw []  o_275 r_275 T275.heap n0 ((c265.keep K264 (allS n0_b262 all0)).keep K275 all0) p275_3) hZ224 w72 w53 (by decide) (by decide)) q277a q277c (g := (mkF m 130 #[.val (.int i_), .val (.int j_), .val (.int k_), .val (.int f_), .val (.int g_), .val (.ref r_1), .val (.int (g_ &&& (3 : Int32))), .val (.ref r_221), .val (.ref r_224), .val .null, .val (.ref b262), .val (.int (1 : Int32)), .val (.ref o_275), .unset] [(.ref o_275)])) rfl (by rw [hml]; rfl) (Steps.refl _) (argsL := []) (rest := []) (lenOf own_pd8 rfl) rfl (by show 2 * 0 + _ ≤ _; exact Nat.le_of_eq rfl) (hb hby at_130) (fun _ _ => ⟨rfl, rfl, (by decide : 21 + 0 ≤ _), (by decide : 43 + 0 ≤ _)⟩)
            dsimp only [Pt.U, Pt.locs, Pt.cells, Pt.slots] at X277 l277 y277 z277 st277 hQ277
            subst l277 y277 z277
            obtain ⟨rfl, Nq277, e277⟩ := hQ277
            have N277 := Fr.app N275 Nq277
            refine otr (S' := T277.setTop (mkF m 133 #[.val (.int i_), .val (.int j_), .val (.int k_), .val (.int f_), .val (.int g_), .val (.ref r_1), .val (.int (g_ &&& (3 : Int32))), .val (.ref r_221), .val (.ref r_224), .val .null, .val (.ref b262), .val (.int (1 : Int32)), .val (.ref o_275), .unset] [(.int (1 : Int32))])) st277 ?_
            refine o_iload X277 hx (hb hby at_133) rfl ?_
            refine o_icmpYes X277 hx 140 (hb hby at_135) (teq (by decide : (1 : Int32) = (1 : Int32))).1 (by decide) (by decide) ?_
            refine o_iload X277 hx (hb hby at_140) rfl ?_
            refine o_ifYes X277 hx 147 (hb hby at_142) (feq (by decide : ¬ ((1 : Int32) = (0 : Int32)))).2 (by decide) (by decide) ?_
            refine o_aload X277 hx (hb hby at_147) rfl rfl ?_
            obtain ⟨cq278, kq278, q278a, q278b, q278c⟩ := isOf hZ224 e277 p275_2
            obtain ⟨_, _, ⟨T278, L278, kc278, n278⟩, -, X278, ⟨Lc278, hQ278, l278, y278, z278⟩, st278⟩ := X277.virtualBack hx (y := yM23) (z := yM23) hown224 (mvT hZ224 w73) (mvT hZ224 w74) (notFace_of_selects (args := #[]) (mvT hZ224 w76)) (mvT hZ224 w76) (mvT hZ224 w75) (by decide) (backOf (W := 0) (rm_opg l Z a0 hw []  o_275 r_275 T275.heap n0 ((c265.keep K264 (allS n0_b262 all0)).keep K275 all0) p275_3) hZ224 w77 w53 (by decide) (by decide)) q278a q278c (g := (mkF m 149 #[.val (.int i_), .val (.int j_), .val (.int k_), .val (.int f_), .val (.int g_), .val (.ref r_1), .val (.int (g_ &&& (3 : Int32))), .val (.ref r_221), .val (.ref r_224), .val .null, .val (.ref b262), .val (.int (1 : Int32)), .val (.ref o_275), .unset] [(.ref o_275)])) rfl (by rw [hml]; rfl) (Steps.refl _) (argsL := []) (rest := []) (lenOf own_pd22 rfl) rfl (by show 2 * 0 + _ ≤ _; exact Nat.le_of_eq rfl) (hb hby at_149) (fun _ _ => ⟨rfl, e277, (by decide : 21 + 0 ≤ _), (by decide : 43 + 0 ≤ _)⟩)
            dsimp only [Pt.U, Pt.locs, Pt.cells, Pt.slots] at X278 l278 y278 z278 st278 hQ278
            subst l278 y278 z278
            obtain ⟨rfl, Nq278, e278⟩ := hQ278
            have N278 := Fr.app N277 Nq278
            refine otr (S' := T278.setTop (mkF m 152 #[.val (.int i_), .val (.int j_), .val (.int k_), .val (.int f_), .val (.int g_), .val (.ref r_1), .val (.int (g_ &&& (3 : Int32))), .val (.ref r_221), .val (.ref r_224), .val .null, .val (.ref b262), .val (.int (1 : Int32)), .val (.ref o_275), .unset] [(.ref r_275)])) st278 ?_
            obtain ⟨T279, X279, e279, st279⟩ := castY X278 hx hZ224 hown224 w26 e278 (Ins.self p275_4) (g := (mkF m 152 #[.val (.int i_), .val (.int j_), .val (.int k_), .val (.int f_), .val (.int g_), .val (.ref r_1), .val (.int (g_ &&& (3 : Int32))), .val (.ref r_221), .val (.ref r_224), .val .null, .val (.ref b262), .val (.int (1 : Int32)), .val (.ref o_275), .unset] [(.ref r_275)])) rfl rfl (hb hby at_152)
            refine ogo (S' := T279.setTop (mkF m 155 #[.val (.int i_), .val (.int j_), .val (.int k_), .val (.int f_), .val (.int g_), .val (.ref r_1), .val (.int (g_ &&& (3 : Int32))), .val (.ref r_221), .val (.ref r_224), .val .null, .val (.ref b262), .val (.int (1 : Int32)), .val (.ref o_275), .unset] [(.ref r_275)])) st279 ?_
            refine o_astore X279 hx (l' := #[.val (.int i_), .val (.int j_), .val (.int k_), .val (.int f_), .val (.int g_), .val (.ref r_1), .val (.int (g_ &&& (3 : Int32))), .val (.ref r_221), .val (.ref r_224), .val .null, .val (.ref b262), .val (.int (1 : Int32)), .val (.ref o_275), .val (.ref r_275)]) (hb hby at_155) rfl rfl ?_
            refine o_aload X279 hx (hb hby at_157) rfl rfl ?_
            obtain ⟨cq280, kq280, q280a, q280b, q280c⟩ := isOf hZ224 e279 p275_4
            obtain ⟨_, _, ⟨T280, L280, kc280, n280⟩, -, X280, ⟨Lc280, hQ280, l280, y280, z280⟩, st280⟩ := X279.virtualBack hx (y := yM24) (z := yM24) hown224 (mvT hZ224 w79) (mvT hZ224 w80) (notFace_of_selects (args := #[]) (mvT hZ224 w82)) (mvT hZ224 w82) (mvT hZ224 w81) (by decide) (backOf (W := 0) (rm_g_queue l Z a0 hw []  r_275 (.ref r_1) T275.heap n0 ((c265.keep K264 (allS n0_b262 all0)).keep K275 all0) p275_5 (by first | rfl | assumption | decide | omega)) hZ224 w83 w28 (by decide) (by decide)) q280a q280c (g := (mkF m 159 #[.val (.int i_), .val (.int j_), .val (.int k_), .val (.int f_), .val (.int g_), .val (.ref r_1), .val (.int (g_ &&& (3 : Int32))), .val (.ref r_221), .val (.ref r_224), .val .null, .val (.ref b262), .val (.int (1 : Int32)), .val (.ref o_275), .val (.ref r_275)] [(.ref r_275)])) rfl (by rw [hml]; rfl) (Steps.refl _) (argsL := []) (rest := []) (lenOf own_pd23 rfl) rfl (by show 2 * 0 + _ ≤ _; exact Nat.le_of_eq rfl) (hb hby at_159) (fun _ _ => ⟨rfl, e279, (by decide : 21 + 0 ≤ _), (by decide : 43 + 0 ≤ _)⟩)
            dsimp only [Pt.U, Pt.locs, Pt.cells, Pt.slots] at X280 l280 y280 z280 st280 hQ280
            subst l280 y280 z280
            obtain ⟨rfl, Nq280, e280⟩ := hQ280
            have N280 := Fr.app N278 Nq280
            refine otr (S' := T280.setTop (mkF m 162 #[.val (.int i_), .val (.int j_), .val (.int k_), .val (.int f_), .val (.int g_), .val (.ref r_1), .val (.int (g_ &&& (3 : Int32))), .val (.ref r_221), .val (.ref r_224), .val .null, .val (.ref b262), .val (.int (1 : Int32)), .val (.ref o_275), .val (.ref r_275)] [(.ref r_1)])) st280 ?_
            refine o_aload X280 hx (hb hby at_162) rfl rfl ?_
            have c282 := (((Exa.ext E262 ((p1_2.keep K221).keep K224)).keep K264).keep K275)
            obtain ⟨_, _, ⟨T281, L281, kc281, n281⟩, -, X281, ⟨Lc281, hQ281, l281, y281, z281⟩, st281⟩ := Jvm.LawKit.callS X280 hx (y := yM13) hown224 (mvT hZ224 w84) (mvT hZ224 w85) (mvT hZ224 w2) (mvT hZ224 w86) (by decide) (backOf (W := 0) (rm_eqRR l Z a0 hw [] z_CS v_FMT s_EMPTY r_1 ba_1 kb_1 (own_ml i_) (own_mv i_) (own_ms i_) r_1 ba_1 kb_1 (own_ml i_) (own_mv i_) (own_ms i_) T275.heap n0 SB ((c265.keep K264 (allS n0_b262 all0)).keep K275 all0) c282 (c271.keep K275 nin0) (c272.keep K275 nin0) (c273.keep K275 nin0) c282 (c271.keep K275 nin0) (c272.keep K275 nin0) (c273.keep K275 nin0) p1_6 p1_6) hZ224 w86 w2 (by decide) (by decide)) (g := (mkF m 164 #[.val (.int i_), .val (.int j_), .val (.int k_), .val (.int f_), .val (.int g_), .val (.ref r_1), .val (.int (g_ &&& (3 : Int32))), .val (.ref r_221), .val (.ref r_224), .val .null, .val (.ref b262), .val (.int (1 : Int32)), .val (.ref o_275), .val (.ref r_275)] [(.ref r_1), (.ref r_1)])) rfl (by rw [hml]; rfl) (argsL := [(.ref r_1), (.ref r_1)]) (rest := []) (lenOf own_pd24 rfl) rfl (by show 2 * 0 + _ ≤ _; exact Nat.le_of_eq rfl) (hb hby at_164) (fun _ _ => ⟨rfl, e280, (by decide : 21 + 0 ≤ _), (by decide : 43 + 0 ≤ _)⟩)
            dsimp only [Pt.U, Pt.locs, Pt.cells, Pt.slots] at X281 l281 y281 z281 st281 hQ281
            subst l281 y281 z281
            obtain ⟨rfl, Nq281, e281⟩ := hQ281
            have N281 := Fr.app N280 Nq281
            refine ogo (S' := T281.setTop (mkF m 167 #[.val (.int i_), .val (.int j_), .val (.int k_), .val (.int f_), .val (.int g_), .val (.ref r_1), .val (.int (g_ &&& (3 : Int32))), .val (.ref r_221), .val (.ref r_224), .val .null, .val (.ref b262), .val (.int (1 : Int32)), .val (.ref o_275), .val (.ref r_275)] [(.int (own_b (own_ms i_) (own_ms i_)))])) st281 ?_
            rw [own_bs]
            refine o_ifNo X281 hx (hb hby at_167) (feq (by decide : ¬ ((1 : Int32) = (0 : Int32)))).1 ?_
            refine o_aload X281 hx (hb hby at_170) rfl rfl ?_
            obtain ⟨cq283, kq283, q283a, q283b, q283c⟩ := isOf hZ224 e281 p275_4
            obtain ⟨_, _, ⟨T283, L283, kc283, n283⟩, -, X283, ⟨Lc283, hQ283, l283, y283, z283⟩, st283⟩ := X281.virtualBack hx (y := yM25) (z := yM25) hown224 (mvT hZ224 w98) (mvT hZ224 w99) (notFace_of_selects (args := #[]) (mvT hZ224 w101)) (mvT hZ224 w101) (mvT hZ224 w100) (by decide) (backOf (W := 0) (rm_g_space l Z a0 hw []  r_275 (.ref r_224) T275.heap n0 ((c265.keep K264 (allS n0_b262 all0)).keep K275 all0) p275_6 (by first | rfl | assumption | decide | omega)) hZ224 w102 w28 (by decide) (by decide)) q283a q283c (g := (mkF m 172 #[.val (.int i_), .val (.int j_), .val (.int k_), .val (.int f_), .val (.int g_), .val (.ref r_1), .val (.int (g_ &&& (3 : Int32))), .val (.ref r_221), .val (.ref r_224), .val .null, .val (.ref b262), .val (.int (1 : Int32)), .val (.ref o_275), .val (.ref r_275)] [(.ref r_275)])) rfl (by rw [hml]; rfl) (Steps.refl _) (argsL := []) (rest := []) (lenOf own_pd23 rfl) rfl (by show 2 * 0 + _ ≤ _; exact Nat.le_of_eq rfl) (hb hby at_172) (fun _ _ => ⟨rfl, e281, (by decide : 21 + 0 ≤ _), (by decide : 43 + 0 ≤ _)⟩)
            dsimp only [Pt.U, Pt.locs, Pt.cells, Pt.slots] at X283 l283 y283 z283 st283 hQ283
            subst l283 y283 z283
            obtain ⟨rfl, Nq283, e283⟩ := hQ283
            have N283 := Fr.app N281 Nq283
            refine otr (S' := T283.setTop (mkF m 175 #[.val (.int i_), .val (.int j_), .val (.int k_), .val (.int f_), .val (.int g_), .val (.ref r_1), .val (.int (g_ &&& (3 : Int32))), .val (.ref r_221), .val (.ref r_224), .val .null, .val (.ref b262), .val (.int (1 : Int32)), .val (.ref o_275), .val (.ref r_275)] [(.ref r_224)])) st283 ?_
            refine o_aload X283 hx (hb hby at_175) rfl rfl ?_
            have c285 := (((Fld.ext E262 p224_3).keep K264 (ninS (Nat.ne_of_lt (Nat.lt_of_lt_of_le (Nat.lt_of_lt_of_le p224_2.lt (Nat.le_refl _)) (Nat.le_of_eq g262.symm))) nin0)).keep K275 nin0)
            have c286 := (((Fld.ext E262 p224_4).keep K264 (ninS (Nat.ne_of_lt (Nat.lt_of_lt_of_le (Nat.lt_of_lt_of_le p224_2.lt (Nat.le_refl _)) (Nat.le_of_eq g262.symm))) nin0)).keep K275 nin0)
            have c287 := (((p224_5.ext E262).keep K264 (ninS (Nat.ne_of_lt (Nat.lt_of_lt_of_le (Nat.lt_of_lt_of_le p224_1 (Nat.le_refl _)) (Nat.le_of_eq g262.symm))) nin0)).keep K275 nin0)
            obtain ⟨_, _, ⟨T284, L284, kc284, n284⟩, -, X284, ⟨Lc284, hQ284, l284, y284, z284⟩, st284⟩ := Jvm.LawKit.callS X283 hx (y := yM13) hown224 (mvT hZ224 w84) (mvT hZ224 w85) (mvT hZ224 w2) (mvT hZ224 w86) (by decide) (backOf (W := 0) (rm_eqRR l Z a0 hw [] z_CS v_FMT s_EMPTY r_224 ba_224 kb_224 (own_ml k_) (own_mv k_) (own_ms k_) r_224 ba_224 kb_224 (own_ml k_) (own_mv k_) (own_ms k_) T275.heap n0 SB ((c265.keep K264 (allS n0_b262 all0)).keep K275 all0) (((Exa.ext E262 p224_2).keep K264).keep K275) c285 c286 c287 (((Exa.ext E262 p224_2).keep K264).keep K275) c285 c286 c287 p224_6 p224_6) hZ224 w86 w2 (by decide) (by decide)) (g := (mkF m 177 #[.val (.int i_), .val (.int j_), .val (.int k_), .val (.int f_), .val (.int g_), .val (.ref r_1), .val (.int (g_ &&& (3 : Int32))), .val (.ref r_221), .val (.ref r_224), .val .null, .val (.ref b262), .val (.int (1 : Int32)), .val (.ref o_275), .val (.ref r_275)] [(.ref r_224), (.ref r_224)])) rfl (by rw [hml]; rfl) (argsL := [(.ref r_224), (.ref r_224)]) (rest := []) (lenOf own_pd24 rfl) rfl (by show 2 * 0 + _ ≤ _; exact Nat.le_of_eq rfl) (hb hby at_177) (fun _ _ => ⟨rfl, e283, (by decide : 21 + 0 ≤ _), (by decide : 43 + 0 ≤ _)⟩)
            dsimp only [Pt.U, Pt.locs, Pt.cells, Pt.slots] at X284 l284 y284 z284 st284 hQ284
            subst l284 y284 z284
            obtain ⟨rfl, Nq284, e284⟩ := hQ284
            have N284 := Fr.app N283 Nq284
            refine ogo (S' := T284.setTop (mkF m 180 #[.val (.int i_), .val (.int j_), .val (.int k_), .val (.int f_), .val (.int g_), .val (.ref r_1), .val (.int (g_ &&& (3 : Int32))), .val (.ref r_221), .val (.ref r_224), .val .null, .val (.ref b262), .val (.int (1 : Int32)), .val (.ref o_275), .val (.ref r_275)] [(.int (own_b (own_ms k_) (own_ms k_)))])) st284 ?_
            rw [own_bs]
            refine o_ifNo X284 hx (hb hby at_180) (feq (by decide : ¬ ((1 : Int32) = (0 : Int32)))).1 ?_
            refine o_aload X284 hx (hb hby at_183) rfl rfl ?_
            obtain ⟨cq288, kq288, q288a, q288b, q288c⟩ := isOf hZ224 e284 p275_4
            obtain ⟨_, _, ⟨T288, L288, kc288, n288⟩, -, X288, ⟨Lc288, hQ288, l288, y288, z288⟩, st288⟩ := X284.virtualBack hx (y := yM26) (z := yM26) hown224 (mvT hZ224 w103) (mvT hZ224 w104) (notFace_of_selects (args := #[]) (mvT hZ224 w106)) (mvT hZ224 w106) (mvT hZ224 w105) (by decide) (backOf (W := 0) (rm_g_contentId l Z a0 hw []  r_275 .null T275.heap n0 ((c265.keep K264 (allS n0_b262 all0)).keep K275 all0) p275_7 (by first | rfl | assumption | decide | omega)) hZ224 w107 w28 (by decide) (by decide)) q288a q288c (g := (mkF m 185 #[.val (.int i_), .val (.int j_), .val (.int k_), .val (.int f_), .val (.int g_), .val (.ref r_1), .val (.int (g_ &&& (3 : Int32))), .val (.ref r_221), .val (.ref r_224), .val .null, .val (.ref b262), .val (.int (1 : Int32)), .val (.ref o_275), .val (.ref r_275)] [(.ref r_275)])) rfl (by rw [hml]; rfl) (Steps.refl _) (argsL := []) (rest := []) (lenOf own_pd23 rfl) rfl (by show 2 * 0 + _ ≤ _; exact Nat.le_of_eq rfl) (hb hby at_185) (fun _ _ => ⟨rfl, e284, (by decide : 21 + 0 ≤ _), (by decide : 43 + 0 ≤ _)⟩)
            dsimp only [Pt.U, Pt.locs, Pt.cells, Pt.slots] at X288 l288 y288 z288 st288 hQ288
            subst l288 y288 z288
            obtain ⟨rfl, Nq288, e288⟩ := hQ288
            have N288 := Fr.app N284 Nq288
            refine otr (S' := T288.setTop (mkF m 188 #[.val (.int i_), .val (.int j_), .val (.int k_), .val (.int f_), .val (.int g_), .val (.ref r_1), .val (.int (g_ &&& (3 : Int32))), .val (.ref r_221), .val (.ref r_224), .val .null, .val (.ref b262), .val (.int (1 : Int32)), .val (.ref o_275), .val (.ref r_275)] [.null])) st288 ?_
            refine o_aload X288 hx (hb hby at_188) rfl rfl ?_
            obtain ⟨_, _, ⟨T289, L289, kc289, n289⟩, -, X289, ⟨Lc289, hQ289, l289, y289, z289⟩, st289⟩ := Jvm.LawKit.callS X288 hx (y := yM13) hown224 (mvT hZ224 w84) (mvT hZ224 w85) (mvT hZ224 w2) (mvT hZ224 w86) (by decide) (backOf (W := 0) (rm_eqNN l Z a0 hw []   T275.heap n0 ((c265.keep K264 (allS n0_b262 all0)).keep K275 all0) ) hZ224 w86 w2 (by decide) (by decide)) (g := (mkF m 190 #[.val (.int i_), .val (.int j_), .val (.int k_), .val (.int f_), .val (.int g_), .val (.ref r_1), .val (.int (g_ &&& (3 : Int32))), .val (.ref r_221), .val (.ref r_224), .val .null, .val (.ref b262), .val (.int (1 : Int32)), .val (.ref o_275), .val (.ref r_275)] [.null, .null])) rfl (by rw [hml]; rfl) (argsL := [.null, .null]) (rest := []) (lenOf own_pd24 rfl) rfl (by show 2 * 0 + _ ≤ _; exact Nat.le_of_eq rfl) (hb hby at_190) (fun _ _ => ⟨rfl, e288, (by decide : 21 + 0 ≤ _), (by decide : 43 + 0 ≤ _)⟩)
            dsimp only [Pt.U, Pt.locs, Pt.cells, Pt.slots] at X289 l289 y289 z289 st289 hQ289
            subst l289 y289 z289
            obtain ⟨rfl, Nq289, e289⟩ := hQ289
            have N289 := Fr.app N288 Nq289
            refine ogo (S' := T289.setTop (mkF m 193 #[.val (.int i_), .val (.int j_), .val (.int k_), .val (.int f_), .val (.int g_), .val (.ref r_1), .val (.int (g_ &&& (3 : Int32))), .val (.ref r_221), .val (.ref r_224), .val .null, .val (.ref b262), .val (.int (1 : Int32)), .val (.ref o_275), .val (.ref r_275)] [(.int (1 : Int32))])) st289 ?_
            refine o_ifNo X289 hx (hb hby at_193) (feq (by decide : ¬ ((1 : Int32) = (0 : Int32)))).1 ?_
            refine o_iconst X289 hx (1 : Int32) (hb hby at_196) rfl ?_
            refine o_goto X289 hx 201 (hb hby at_197) (by decide) (by decide) ?_
            refine oendS X289 hlk hS224 (Nat.le_trans (Nat.le_refl _) (Nat.le_trans (Nat.le_trans E262.1 K264.1) K275.1)) e289 hZ224 hEL hs0 (CHr.trans (CHr.trans (CHr.trans (CHr.trans (CHr.trans (CHr.trans (CHr.refl H0) C1) C221) C224) (CHr.ext E262 H225)) (CHr.keep K264 (allS (Safe.exa hZ224.alike A262 (by decide) (by decide)) all0) H263)) (CHr.keep K275 all0 H266)) (v := some (.int (1 : Int32))) (fun h => by rw [hret] at h; cases h) (fun fs hr => retN X289 hx (t := .boolean) hret (by simp) (hb hby at_201) hr) (by decide) (by decide) ?_
            show own_Q_law Z _ _ _ _ _ _ _ _ h0 n0 _ T289.heap _
            rw [e289]
            exact ⟨rfl, N289, (((((((Keep.refl h0 []).trans K1 all0).trans K221 all0).trans K224 all0).ext E262).trans K264 (allS (Or.inr (Nat.le_trans (Nat.le_trans (Nat.le_trans K1.1 K221.1) K224.1) (Nat.le_of_eq g262.symm))) all0)).trans K275 all0)⟩
          · rw [own_bf hc274]
            refine o_ifYes X267 hx 116 (hb hby at_109) (teq (by decide : (0 : Int32) = (0 : Int32))).1 (by decide) (by decide) ?_
            refine o_iconst X267 hx (0 : Int32) (hb hby at_116) rfl ?_
            refine o_istore X267 hx (l' := #[.val (.int i_), .val (.int j_), .val (.int k_), .val (.int f_), .val (.int g_), .val (.ref r_1), .val (.int (g_ &&& (3 : Int32))), .val (.ref r_221), .val (.ref r_224), .val .null, .val (.ref b262), .val (.int (0 : Int32)), .unset, .unset]) (hb hby at_117) rfl ?_
            refine o_aload X267 hx (hb hby at_119) rfl rfl ?_
            refine o_aload X267 hx (hb hby at_121) rfl rfl ?_
            obtain ⟨cq290, kq290, q290a, q290b, q290c⟩ := isOf hZ224 e267 p264_0
            obtain ⟨_, _, ⟨T290, L290, kc290, n290⟩, -, X290, ⟨Lc290, hQ290, l290, y290, z290⟩, st290⟩ := X267.virtualBack hx (y := yM27) (z := yM27) hown224 (mvT hZ224 w44) (mvT hZ224 w45) (notFace_of_selects (args := #[]) (mvT hZ224 w47)) (mvT hZ224 w47) (mvT hZ224 w46) (by decide) (backOf (W := 0) (rm_onqF l Z a0 hw [] z_CS v_FMT s_EMPTY b262 r_221 ba_221 kb_221 (own_ml j_) (own_mv j_) (own_ms j_) r_1 ba_1 kb_1 (own_ml i_) (own_mv i_) (own_ms i_) T264.heap n0 SB (c265.keep K264 (allS n0_b262 all0)) p264_0 p264_1 ((Exa.ext E262 (p221_2.keep K224)).keep K264) c268 c269 c270 ((Exa.ext E262 ((p1_2.keep K221).keep K224)).keep K264) c271 c272 c273 p221_6 p1_6 (Nat.ne_of_gt (Nat.lt_of_lt_of_le (Nat.lt_of_lt_of_le p1_2.lt (Nat.le_refl _)) p221_0)) hc274) hZ224 w48 w28 (by decide) (by decide)) q290a q290c (g := (mkF m 123 #[.val (.int i_), .val (.int j_), .val (.int k_), .val (.int f_), .val (.int g_), .val (.ref r_1), .val (.int (g_ &&& (3 : Int32))), .val (.ref r_221), .val (.ref r_224), .val .null, .val (.ref b262), .val (.int (0 : Int32)), .unset, .unset] [(.ref r_1), (.ref b262)])) rfl (by rw [hml]; rfl) (Steps.refl _) (argsL := [(.ref r_1)]) (rest := []) (lenOf own_pd21 rfl) rfl (by show 2 * 0 + _ ≤ _; exact Nat.le_of_eq rfl) (hb hby at_123) (fun _ _ => ⟨rfl, e267, (by decide : 19 + 0 ≤ _), (by decide : 39 + 0 ≤ _)⟩)
            dsimp only [Pt.U, Pt.locs, Pt.cells, Pt.slots] at X290 l290 y290 z290 st290 hQ290
            subst l290 y290 z290
            obtain ⟨rfl, Nq290, e290⟩ := hQ290
            have N290 := Fr.app N267 Nq290
            refine otr (S' := T290.setTop (mkF m 126 #[.val (.int i_), .val (.int j_), .val (.int k_), .val (.int f_), .val (.int g_), .val (.ref r_1), .val (.int (g_ &&& (3 : Int32))), .val (.ref r_221), .val (.ref r_224), .val .null, .val (.ref b262), .val (.int (0 : Int32)), .unset, .unset] [(.ref s_EMPTY)])) st290 ?_
            refine o_astore X290 hx (l' := #[.val (.int i_), .val (.int j_), .val (.int k_), .val (.int f_), .val (.int g_), .val (.ref r_1), .val (.int (g_ &&& (3 : Int32))), .val (.ref r_221), .val (.ref r_224), .val .null, .val (.ref b262), .val (.int (0 : Int32)), .val (.ref s_EMPTY), .unset]) (hb hby at_126) rfl rfl ?_
            refine o_aload X290 hx (hb hby at_128) rfl rfl ?_
            obtain ⟨cq291, kq291, q291a, q291b, q291c⟩ := isOf hZ224 e290 (Exa.ext (c265.keep K264 (allS n0_b262 all0)).2 E_EMPTY)
            obtain ⟨_, _, ⟨T291, L291, kc291, n291⟩, -, X291, ⟨Lc291, hQ291, l291, y291, z291⟩, st291⟩ := X290.virtualBack hx (y := yM22) (z := yM22) hown224 (mvT hZ224 w68) (mvT hZ224 w69) (notFace_of_selects (args := #[]) (mvT hZ224 w71)) (mvT hZ224 w71) (mvT hZ224 w70) (by decide) (backOf (W := 0) (rm_oppN l Z a0 hw []  s_EMPTY T264.heap n0 (c265.keep K264 (allS n0_b262 all0)) (Fld.ext (c265.keep K264 (allS n0_b262 all0)).2 F_EMPTY)) hZ224 w72 w53 (by decide) (by decide)) q291a q291c (g := (mkF m 130 #[.val (.int i_), .val (.int j_), .val (.int k_), .val (.int f_), .val (.int g_), .val (.ref r_1), .val (.int (g_ &&& (3 : Int32))), .val (.ref r_221), .val (.ref r_224), .val .null, .val (.ref b262), .val (.int (0 : Int32)), .val (.ref s_EMPTY), .unset] [(.ref s_EMPTY)])) rfl (by rw [hml]; rfl) (Steps.refl _) (argsL := []) (rest := []) (lenOf own_pd8 rfl) rfl (by show 2 * 0 + _ ≤ _; exact Nat.le_of_eq rfl) (hb hby at_130) (fun _ _ => ⟨rfl, e290, (by decide : 19 + 0 ≤ _), (by decide : 39 + 0 ≤ _)⟩)
            dsimp only [Pt.U, Pt.locs, Pt.cells, Pt.slots] at X291 l291 y291 z291 st291 hQ291
            subst l291 y291 z291
            obtain ⟨rfl, Nq291, e291⟩ := hQ291
            have N291 := Fr.app N290 Nq291
            refine otr (S' := T291.setTop (mkF m 133 #[.val (.int i_), .val (.int j_), .val (.int k_), .val (.int f_), .val (.int g_), .val (.ref r_1), .val (.int (g_ &&& (3 : Int32))), .val (.ref r_221), .val (.ref r_224), .val .null, .val (.ref b262), .val (.int (0 : Int32)), .val (.ref s_EMPTY), .unset] [(.int (0 : Int32))])) st291 ?_
            refine o_iload X291 hx (hb hby at_133) rfl ?_
            refine o_icmpYes X291 hx 140 (hb hby at_135) (teq (by decide : (0 : Int32) = (0 : Int32))).1 (by decide) (by decide) ?_
            refine o_iload X291 hx (hb hby at_140) rfl ?_
            refine o_ifNo X291 hx (hb hby at_142) (teq (by decide : (0 : Int32) = (0 : Int32))).2 ?_
            refine o_iconst X291 hx (1 : Int32) (hb hby at_145) rfl ?_
            refine oendS X291 hlk hS224 (Nat.le_trans (Nat.le_refl _) (Nat.le_trans E262.1 K264.1)) e291 hZ224 hEL hs0 (CHr.trans (CHr.trans (CHr.trans (CHr.trans (CHr.trans (CHr.refl H0) C1) C221) C224) (CHr.ext E262 H225)) (CHr.keep K264 (allS (Safe.exa hZ224.alike A262 (by decide) (by decide)) all0) H263)) (v := some (.int (1 : Int32))) (fun h => by rw [hret] at h; cases h) (fun fs hr => retN X291 hx (t := .boolean) hret (by simp) (hb hby at_146) hr) (by decide) (by decide) ?_
            show own_Q_law Z _ _ _ _ _ _ _ _ h0 n0 _ T291.heap _
            rw [e291]
            exact ⟨rfl, N291, ((((((Keep.refl h0 []).trans K1 all0).trans K221 all0).trans K224 all0).ext E262).trans K264 (allS (Or.inr (Nat.le_trans (Nat.le_trans (Nat.le_trans K1.1 K221.1) K224.1) (Nat.le_of_eq g262.symm))) all0))⟩
      · refine o_ifNo X221 hx (hb hby at_50) (feq hc223).1 ?_
        refine o_aconst_null X221 hx (hb hby at_53) ?_
        refine o_goto X221 hx 61 (hb hby at_54) (by decide) (by decide) ?_
        refine o_astore X221 hx (l' := #[.val (.int i_), .val (.int j_), .val (.int k_), .val (.int f_), .val (.int g_), .val (.ref r_1), .val (.int (g_ &&& (3 : Int32))), .val (.ref r_221), .val .null, .unset, .unset, .unset, .unset, .unset]) (hb hby at_61) rfl rfl ?_
        refine o_iload X221 hx (hb hby at_63) rfl ?_
        refine o_iconst X221 hx (3 : Int32) (hb hby at_65) rfl ?_
        refine o_iushr X221 hx (hb hby at_66) ?_
        refine o_iconst X221 hx (1 : Int32) (hb hby at_67) rfl ?_
        refine o_iand X221 hx (hb hby at_68) ?_
        by_cases hc292 : ((own_ushr g_ (3 : Int32)) &&& (1 : Int32)) = (0 : Int32)
        · refine o_ifYes X221 hx 76 (hb hby at_69) (teq hc292).1 (by decide) (by decide) ?_
          refine o_iloadN X221 hx (hb hby at_76) rfl ?_
          obtain ⟨_, _, ⟨T293, L293, kc293, n293⟩, -, X293, hSi293, hgr293, ⟨Lc293, hQ293, l293, y293, z293, C293⟩, st293⟩ := callSS X221 hx (y := yM5) hown221 (mvT hZ221 w0) (mvT hZ221 w1) (mvT hZ221 w2) (mvT hZ221 w3) (by decide) (backOfSH (W := 0) (rm_mk l Z a0 hw [] z_CS v_FMT s_EMPTY f_ T221.heap n0 SB ((O0.keep K1 all0).keep K221 all0) ) hZ221 w3 w2 (by decide) (by decide) hEL H222) (g := (mkF m 77 #[.val (.int i_), .val (.int j_), .val (.int k_), .val (.int f_), .val (.int g_), .val (.ref r_1), .val (.int (g_ &&& (3 : Int32))), .val (.ref r_221), .val .null, .unset, .unset, .unset, .unset, .unset] [(.int f_)])) rfl (by rw [hml]; rfl) (argsL := [(.int f_)]) (rest := []) (lenOf own_pd20 rfl) rfl (by show 2 * 0 + _ ≤ _; exact Nat.le_of_eq rfl) (hb hby at_77) (fun _ _ => ⟨rfl, rfl, (by decide : 12 + 6 ≤ _), (by decide : 24 + 12 ≤ _)⟩)
          dsimp only [Pt.U, Pt.locs, Pt.cells, Pt.slots] at X293 l293 y293 z293 st293 hQ293 hSi293 hgr293 C293
          subst l293 y293 z293
          obtain ⟨r_293, ba_293, kb_293, rfl, Nq293, K293, p293_0, p293_1, p293_2, p293_3, p293_4, p293_5, p293_6⟩ := hQ293
          have N293 := Fr.app N221 Nq293
          have X293 : Stand p l e room_1 (s.setVm T293.vm) m #[(.int i_), (.int j_), (.int k_), (.int f_), (.int g_)] below meth c T293 _ _ _ := X293
          have hS293 := foldS hS221 (Nat.le_refl _) hSi293 hgr293
          have hZ293 : Z.Warmed39 T293.vm := State.Warmed39.trans (t := (s.setVm T221.vm)) hZ221 hSi293.1
          have hown293 : T293.vm.findClass "com/example/reliquary/reliquary/DeadLetterSelectionOnQueuePinLaw" = some m.cls := by rw [hSi293.1.alike.findClass]; exact hown221
          have H294 := C293.1
          have n0_r_293 : n0 ≤ r_293 := Nat.le_trans (Nat.le_trans (Nat.le_of_eq O0.1.symm) O0.2.1) (Nat.le_trans (Nat.le_trans K1.1 K221.1) p293_0)
          refine otr (S' := T293.setTop (mkF m 80 #[.val (.int i_), .val (.int j_), .val (.int k_), .val (.int f_), .val (.int g_), .val (.ref r_1), .val (.int (g_ &&& (3 : Int32))), .val (.ref r_221), .val .null, .unset, .unset, .unset, .unset, .unset] [(.ref r_293)])) st293 ?_
          refine o_astore X293 hx (l' := #[.val (.int i_), .val (.int j_), .val (.int k_), .val (.int f_), .val (.int g_), .val (.ref r_1), .val (.int (g_ &&& (3 : Int32))), .val (.ref r_221), .val .null, .val (.ref r_293), .unset, .unset, .unset, .unset]) (hb hby at_80) rfl rfl ?_
          obtain ⟨T295, _, X295, rfl, E295, A295, D295, -, st295⟩ := newO X293 hx hZ293 hown293 w26 w27 w28 rfl (g := (mkF m 82 #[.val (.int i_), .val (.int j_), .val (.int k_), .val (.int f_), .val (.int g_), .val (.ref r_1), .val (.int (g_ &&& (3 : Int32))), .val (.ref r_221), .val .null, .val (.ref r_293), .unset, .unset, .unset, .unset] [])) rfl (hb hby at_82) (by decide) (by decide)
          obtain ⟨b295, g295⟩ : ∃ z, z = T293.heap.size := ⟨_, rfl⟩
          rw [← g295] at A295 D295 st295
          have n0_b295 : n0 ≤ b295 := Nat.le_trans (Nat.le_trans (Nat.le_of_eq O0.1.symm) O0.2.1) (Nat.le_trans (Nat.le_trans (Nat.le_trans K1.1 K221.1) K293.1) (Nat.le_of_eq g295.symm))
          have H296 := CHv.ext E295 H294
          have F295_queue : Fld Z T295.heap b295 "com/example/reliquary/reliquary/DeadLetterSelection" "queue" "Ljava/lang/String;" .null := D295 (Or.inr w39) (ty := (.object "java/lang/String")) (by decide)
          have F295_space : Fld Z T295.heap b295 "com/example/reliquary/reliquary/DeadLetterSelection" "space" "Ljava/lang/String;" .null := D295 (Or.inr w41) (ty := (.object "java/lang/String")) (by decide)
          have F295_contentId : Fld Z T295.heap b295 "com/example/reliquary/reliquary/DeadLetterSelection" "contentId" "Ljava/lang/String;" .null := D295 (Or.inr w43) (ty := (.object "java/lang/String")) (by decide)
          refine ogo (S' := T295.setTop (mkF m 85 #[.val (.int i_), .val (.int j_), .val (.int k_), .val (.int f_), .val (.int g_), .val (.ref r_1), .val (.int (g_ &&& (3 : Int32))), .val (.ref r_221), .val .null, .val (.ref r_293), .unset, .unset, .unset, .unset] [(.ref b295)])) st295 ?_
          refine o_dup X295 hx (hb hby at_85) rfl ?_
          refine o_aload X295 hx (hb hby at_86) rfl rfl ?_
          refine o_aload X295 hx (hb hby at_88) rfl rfl ?_
          refine o_aload X295 hx (hb hby at_90) rfl rfl ?_
          have c298 := ((((O0.keep K1 all0).keep K221 all0).keep K293 all0).ext E295)
          obtain ⟨_, _, ⟨T297, L297, kc297, n297⟩, -, X297, ⟨Lc297, hQ297, l297, y297, z297⟩, st297⟩ := X295.specialBack hx (y := yM17) rfl hown293 (mvT hZ293 w29) (mvT hZ293 w30) (mvT hZ293 w31) (by decide) (backOf (W := 1) (rm_dli l Z a0 hw []  b295 (.ref r_221) .null (.ref r_293) T295.heap n0 c298 A295 F295_queue F295_space F295_contentId n0_b295 (by first | rfl | assumption | decide | omega) (by first | rfl | assumption | decide | omega) (by first | rfl | assumption | decide | omega) (by first | rfl | assumption | decide | omega) (by first | rfl | assumption | decide | omega) (by first | rfl | assumption | decide | omega)) hZ293 w31 w28 (by decide) (by decide)) (g := (mkF m 92 #[.val (.int i_), .val (.int j_), .val (.int k_), .val (.int f_), .val (.int g_), .val (.ref r_1), .val (.int (g_ &&& (3 : Int32))), .val (.ref r_221), .val .null, .val (.ref r_293), .unset, .unset, .unset, .unset] [(.ref r_293), .null, (.ref r_221), (.ref b295), (.ref b295)])) rfl (by rw [hml]; rfl) (Steps.refl _) (a := b295) (argsL := [(.ref r_221), .null, (.ref r_293)]) (rest := [(.ref b295)]) (lenOf own_pd16 rfl) rfl (by show 2 * 0 + _ ≤ _; exact Nat.le_of_eq rfl) (hb hby at_92) (fun _ _ => ⟨rfl, rfl, (by decide : 19 + 0 ≤ _), (by decide : 39 + 0 ≤ _)⟩)
          dsimp only [Pt.U, Pt.locs, Pt.cells, Pt.slots] at X297 l297 y297 z297 st297 hQ297
          subst l297 y297 z297
          obtain ⟨rfl, Nq297, K297, p297_0, p297_1, p297_2, p297_3⟩ := hQ297
          have N297 := Fr.app N293 Nq297
          have H299 := CHv.keep K297 (allS (Safe.exa hZ293.alike A295 (by decide) (by decide)) all0) H296
          refine otr (S' := T297.setTop (mkF m 95 #[.val (.int i_), .val (.int j_), .val (.int k_), .val (.int f_), .val (.int g_), .val (.ref r_1), .val (.int (g_ &&& (3 : Int32))), .val (.ref r_221), .val .null, .val (.ref r_293), .unset, .unset, .unset, .unset] [(.ref b295)])) st297 ?_
          refine o_astore X297 hx (l' := #[.val (.int i_), .val (.int j_), .val (.int k_), .val (.int f_), .val (.int g_), .val (.ref r_1), .val (.int (g_ &&& (3 : Int32))), .val (.ref r_221), .val .null, .val (.ref r_293), .val (.ref b295), .unset, .unset, .unset]) (hb hby at_95) rfl rfl ?_
          refine o_aload X297 hx (hb hby at_97) rfl rfl ?_
          refine o_ifnullNo X297 hx (hb hby at_99) ?_
          refine o_aload X297 hx (hb hby at_102) rfl rfl ?_
          refine o_aload X297 hx (hb hby at_104) rfl rfl ?_
          have c301 := ((Fld.ext E295 (p221_3.keep K293 nin0)).keep K297 (ninS (Nat.ne_of_lt (Nat.lt_of_lt_of_le (Nat.lt_of_lt_of_le p221_2.lt K293.1) (Nat.le_of_eq g295.symm))) nin0))
          have c302 := ((Fld.ext E295 (p221_4.keep K293 nin0)).keep K297 (ninS (Nat.ne_of_lt (Nat.lt_of_lt_of_le (Nat.lt_of_lt_of_le p221_2.lt K293.1) (Nat.le_of_eq g295.symm))) nin0))
          have c303 := (((p221_5.keep K293 nin0).ext E295).keep K297 (ninS (Nat.ne_of_lt (Nat.lt_of_lt_of_le (Nat.lt_of_lt_of_le p221_1 K293.1) (Nat.le_of_eq g295.symm))) nin0))
          have c304 := ((Fld.ext E295 ((p1_3.keep K221 nin0).keep K293 nin0)).keep K297 (ninS (Nat.ne_of_lt (Nat.lt_of_lt_of_le (Nat.lt_of_lt_of_le p1_2.lt (Nat.le_trans K221.1 K293.1)) (Nat.le_of_eq g295.symm))) nin0))
          have c305 := ((Fld.ext E295 ((p1_4.keep K221 nin0).keep K293 nin0)).keep K297 (ninS (Nat.ne_of_lt (Nat.lt_of_lt_of_le (Nat.lt_of_lt_of_le p1_2.lt (Nat.le_trans K221.1 K293.1)) (Nat.le_of_eq g295.symm))) nin0))
          have c306 := ((((p1_5.keep K221 nin0).keep K293 nin0).ext E295).keep K297 (ninS (Nat.ne_of_lt (Nat.lt_of_lt_of_le (Nat.lt_of_lt_of_le p1_1 (Nat.le_trans K221.1 K293.1)) (Nat.le_of_eq g295.symm))) nin0))
          obtain ⟨_, _, ⟨T300, L300, kc300, n300⟩, -, X300, ⟨Lc300, hQ300, l300, y300, z300⟩, st300⟩ := Jvm.LawKit.callS X297 hx (y := yM13) hown293 (mvT hZ293 w84) (mvT hZ293 w85) (mvT hZ293 w2) (mvT hZ293 w86) (by decide) (backOf (W := 0) (rm_eqRR l Z a0 hw [] z_CS v_FMT s_EMPTY r_221 ba_221 kb_221 (own_ml j_) (own_mv j_) (own_ms j_) r_1 ba_1 kb_1 (own_ml i_) (own_mv i_) (own_ms i_) T297.heap n0 SB (c298.keep K297 (allS n0_b295 all0)) ((Exa.ext E295 (p221_2.keep K293)).keep K297) c301 c302 c303 ((Exa.ext E295 ((p1_2.keep K221).keep K293)).keep K297) c304 c305 c306 p221_6 p1_6) hZ293 w86 w2 (by decide) (by decide)) (g := (mkF m 106 #[.val (.int i_), .val (.int j_), .val (.int k_), .val (.int f_), .val (.int g_), .val (.ref r_1), .val (.int (g_ &&& (3 : Int32))), .val (.ref r_221), .val .null, .val (.ref r_293), .val (.ref b295), .unset, .unset, .unset] [(.ref r_1), (.ref r_221)])) rfl (by rw [hml]; rfl) (argsL := [(.ref r_221), (.ref r_1)]) (rest := []) (lenOf own_pd24 rfl) rfl (by show 2 * 0 + _ ≤ _; exact Nat.le_of_eq rfl) (hb hby at_106) (fun _ _ => ⟨rfl, rfl, (by decide : 19 + 0 ≤ _), (by decide : 39 + 0 ≤ _)⟩)
          dsimp only [Pt.U, Pt.locs, Pt.cells, Pt.slots] at X300 l300 y300 z300 st300 hQ300
          subst l300 y300 z300
          obtain ⟨rfl, Nq300, e300⟩ := hQ300
          have N300 := Fr.app N297 Nq300
          refine ogo (S' := T300.setTop (mkF m 109 #[.val (.int i_), .val (.int j_), .val (.int k_), .val (.int f_), .val (.int g_), .val (.ref r_1), .val (.int (g_ &&& (3 : Int32))), .val (.ref r_221), .val .null, .val (.ref r_293), .val (.ref b295), .unset, .unset, .unset] [(.int (own_b (own_ms j_) (own_ms i_)))])) st300 ?_
          by_cases hc307 : (own_ms j_) = (own_ms i_)
          · rw [own_bt hc307]
            refine o_ifNo X300 hx (hb hby at_109) (feq (by decide : ¬ ((1 : Int32) = (0 : Int32)))).1 ?_
            refine o_iconst X300 hx (1 : Int32) (hb hby at_112) rfl ?_
            refine o_goto X300 hx 117 (hb hby at_113) (by decide) (by decide) ?_
            refine o_istore X300 hx (l' := #[.val (.int i_), .val (.int j_), .val (.int k_), .val (.int f_), .val (.int g_), .val (.ref r_1), .val (.int (g_ &&& (3 : Int32))), .val (.ref r_221), .val .null, .val (.ref r_293), .val (.ref b295), .val (.int (1 : Int32)), .unset, .unset]) (hb hby at_117) rfl ?_
            refine o_aload X300 hx (hb hby at_119) rfl rfl ?_
            refine o_aload X300 hx (hb hby at_121) rfl rfl ?_
            obtain ⟨cq308, kq308, q308a, q308b, q308c⟩ := isOf hZ293 e300 p297_0
            obtain ⟨_, _, ⟨T308, L308, kc308, n308⟩, -, X308, ⟨Lc308, hQ308, l308, y308, z308⟩, st308⟩ := X300.virtualBack hx (y := yM27) (z := yM27) hown293 (mvT hZ293 w44) (mvT hZ293 w45) (notFace_of_selects (args := #[]) (mvT hZ293 w47)) (mvT hZ293 w47) (mvT hZ293 w46) (by decide) (backOf (W := 0) (rm_onqT l Z a0 hw [] z_CS v_FMT s_EMPTY b295 r_221 ba_221 kb_221 (own_ml j_) (own_mv j_) (own_ms j_) r_1 ba_1 kb_1 (own_ml i_) (own_mv i_) (own_ms i_) .null (.ref r_293) T297.heap n0 SB (c298.keep K297 (allS n0_b295 all0)) p297_0 p297_1 p297_2 p297_3 (by first | rfl | assumption | decide | omega) (by first | rfl | assumption | decide | omega) (by first | rfl | assumption | decide | omega) (by first | rfl | assumption | decide | omega) ((Exa.ext E295 (p221_2.keep K293)).keep K297) c301 c302 c303 ((Exa.ext E295 ((p1_2.keep K221).keep K293)).keep K297) c304 c305 c306 p221_6 p1_6 (Nat.ne_of_gt (Nat.lt_of_lt_of_le (Nat.lt_of_lt_of_le p1_2.lt (Nat.le_refl _)) p221_0)) hc307) hZ293 w48 w28 (by decide) (by decide)) q308a q308c (g := (mkF m 123 #[.val (.int i_), .val (.int j_), .val (.int k_), .val (.int f_), .val (.int g_), .val (.ref r_1), .val (.int (g_ &&& (3 : Int32))), .val (.ref r_221), .val .null, .val (.ref r_293), .val (.ref b295), .val (.int (1 : Int32)), .unset, .unset] [(.ref r_1), (.ref b295)])) rfl (by rw [hml]; rfl) (Steps.refl _) (argsL := [(.ref r_1)]) (rest := []) (lenOf own_pd21 rfl) rfl (by show 2 * 0 + _ ≤ _; exact Nat.le_of_eq rfl) (hb hby at_123) (fun _ _ => ⟨rfl, e300, (by decide : 19 + 2 ≤ _), (by decide : 39 + 4 ≤ _)⟩)
            dsimp only [Pt.U, Pt.locs, Pt.cells, Pt.slots] at X308 l308 y308 z308 st308 hQ308
            subst l308 y308 z308
            obtain ⟨o_308, r_308, rfl, Nq308, K308, p308_0, p308_1, p308_2, p308_3, p308_4, p308_5, p308_6, p308_7⟩ := hQ308
            have N308 := Fr.app N300 Nq308
            have H309 := CHv.keep K308 all0 H299
            have n0_o_308 : n0 ≤ o_308 := Nat.le_trans (Nat.le_trans (Nat.le_of_eq O0.1.symm) O0.2.1) (Nat.le_trans (Nat.le_trans (Nat.le_trans (Nat.le_trans (Nat.le_trans K1.1 K221.1) K293.1) E295.1) K297.1) p308_0)
            have n0_r_308 : n0 ≤ r_308 := Nat.le_trans (Nat.le_trans (Nat.le_of_eq O0.1.symm) O0.2.1) (Nat.le_trans (Nat.le_trans (Nat.le_trans (Nat.le_trans (Nat.le_trans K1.1 K221.1) K293.1) E295.1) K297.1) p308_1)
            refine otr (S' := T308.setTop (mkF m 126 #[.val (.int i_), .val (.int j_), .val (.int k_), .val (.int f_), .val (.int g_), .val (.ref r_1), .val (.int (g_ &&& (3 : Int32))), .val (.ref r_221), .val .null, .val (.ref r_293), .val (.ref b295), .val (.int (1 : Int32)), .unset, .unset] [(.ref o_308)])) st308 ?_
            refine o_astore X308 hx (l' := #[.val (.int i_), .val (.int j_), .val (.int k_), .val (.int f_), .val (.int g_), .val (.ref r_1), .val (.int (g_ &&& (3 : Int32))), .val (.ref r_221), .val .null, .val (.ref r_293), .val (.ref b295), .val (.int (1 : Int32)), .val (.ref o_308), .unset]) (hb hby at_126) rfl rfl ?_
            refine o_aload X308 hx (hb hby at_128) rfl rfl ?_
            obtain ⟨cq310, kq310, q310a, q310b, q310c⟩ := isOf hZ293 rfl p308_2
            obtain ⟨_, _, ⟨T310, L310, kc310, n310⟩, -, X310, ⟨Lc310, hQ310, l310, y310, z310⟩, st310⟩ := X308.virtualBack hx (y := yM22) (z := yM22) hown293 (mvT hZ293 w68) (mvT hZ293 w69) (notFace_of_selects (args := #[]) (mvT hZ293 w71)) (mvT hZ293 w71) (mvT hZ293 w70) (by decide) (backOf (W := 0) (rm_oppR l Z a0 hw []  o_308 r_308 T308.heap n0 ((c298.keep K297 (allS n0_b295 all0)).keep K308 all0) p308_3) hZ293 w72 w53 (by decide) (by decide)) q310a q310c (g := (mkF m 130 #[.val (.int i_), .val (.int j_), .val (.int k_), .val (.int f_), .val (.int g_), .val (.ref r_1), .val (.int (g_ &&& (3 : Int32))), .val (.ref r_221), .val .null, .val (.ref r_293), .val (.ref b295), .val (.int (1 : Int32)), .val (.ref o_308), .unset] [(.ref o_308)])) rfl (by rw [hml]; rfl) (Steps.refl _) (argsL := []) (rest := []) (lenOf own_pd8 rfl) rfl (by show 2 * 0 + _ ≤ _; exact Nat.le_of_eq rfl) (hb hby at_130) (fun _ _ => ⟨rfl, rfl, (by decide : 21 + 0 ≤ _), (by decide : 43 + 0 ≤ _)⟩)
            dsimp only [Pt.U, Pt.locs, Pt.cells, Pt.slots] at X310 l310 y310 z310 st310 hQ310
            subst l310 y310 z310
            obtain ⟨rfl, Nq310, e310⟩ := hQ310
            have N310 := Fr.app N308 Nq310
            refine otr (S' := T310.setTop (mkF m 133 #[.val (.int i_), .val (.int j_), .val (.int k_), .val (.int f_), .val (.int g_), .val (.ref r_1), .val (.int (g_ &&& (3 : Int32))), .val (.ref r_221), .val .null, .val (.ref r_293), .val (.ref b295), .val (.int (1 : Int32)), .val (.ref o_308), .unset] [(.int (1 : Int32))])) st310 ?_
            refine o_iload X310 hx (hb hby at_133) rfl ?_
            refine o_icmpYes X310 hx 140 (hb hby at_135) (teq (by decide : (1 : Int32) = (1 : Int32))).1 (by decide) (by decide) ?_
            refine o_iload X310 hx (hb hby at_140) rfl ?_
            refine o_ifYes X310 hx 147 (hb hby at_142) (feq (by decide : ¬ ((1 : Int32) = (0 : Int32)))).2 (by decide) (by decide) ?_
            refine o_aload X310 hx (hb hby at_147) rfl rfl ?_
            obtain ⟨cq311, kq311, q311a, q311b, q311c⟩ := isOf hZ293 e310 p308_2
            obtain ⟨_, _, ⟨T311, L311, kc311, n311⟩, -, X311, ⟨Lc311, hQ311, l311, y311, z311⟩, st311⟩ := X310.virtualBack hx (y := yM23) (z := yM23) hown293 (mvT hZ293 w73) (mvT hZ293 w74) (notFace_of_selects (args := #[]) (mvT hZ293 w76)) (mvT hZ293 w76) (mvT hZ293 w75) (by decide) (backOf (W := 0) (rm_opg l Z a0 hw []  o_308 r_308 T308.heap n0 ((c298.keep K297 (allS n0_b295 all0)).keep K308 all0) p308_3) hZ293 w77 w53 (by decide) (by decide)) q311a q311c (g := (mkF m 149 #[.val (.int i_), .val (.int j_), .val (.int k_), .val (.int f_), .val (.int g_), .val (.ref r_1), .val (.int (g_ &&& (3 : Int32))), .val (.ref r_221), .val .null, .val (.ref r_293), .val (.ref b295), .val (.int (1 : Int32)), .val (.ref o_308), .unset] [(.ref o_308)])) rfl (by rw [hml]; rfl) (Steps.refl _) (argsL := []) (rest := []) (lenOf own_pd22 rfl) rfl (by show 2 * 0 + _ ≤ _; exact Nat.le_of_eq rfl) (hb hby at_149) (fun _ _ => ⟨rfl, e310, (by decide : 21 + 0 ≤ _), (by decide : 43 + 0 ≤ _)⟩)
            dsimp only [Pt.U, Pt.locs, Pt.cells, Pt.slots] at X311 l311 y311 z311 st311 hQ311
            subst l311 y311 z311
            obtain ⟨rfl, Nq311, e311⟩ := hQ311
            have N311 := Fr.app N310 Nq311
            refine otr (S' := T311.setTop (mkF m 152 #[.val (.int i_), .val (.int j_), .val (.int k_), .val (.int f_), .val (.int g_), .val (.ref r_1), .val (.int (g_ &&& (3 : Int32))), .val (.ref r_221), .val .null, .val (.ref r_293), .val (.ref b295), .val (.int (1 : Int32)), .val (.ref o_308), .unset] [(.ref r_308)])) st311 ?_
            obtain ⟨T312, X312, e312, st312⟩ := castY X311 hx hZ293 hown293 w26 e311 (Ins.self p308_4) (g := (mkF m 152 #[.val (.int i_), .val (.int j_), .val (.int k_), .val (.int f_), .val (.int g_), .val (.ref r_1), .val (.int (g_ &&& (3 : Int32))), .val (.ref r_221), .val .null, .val (.ref r_293), .val (.ref b295), .val (.int (1 : Int32)), .val (.ref o_308), .unset] [(.ref r_308)])) rfl rfl (hb hby at_152)
            refine ogo (S' := T312.setTop (mkF m 155 #[.val (.int i_), .val (.int j_), .val (.int k_), .val (.int f_), .val (.int g_), .val (.ref r_1), .val (.int (g_ &&& (3 : Int32))), .val (.ref r_221), .val .null, .val (.ref r_293), .val (.ref b295), .val (.int (1 : Int32)), .val (.ref o_308), .unset] [(.ref r_308)])) st312 ?_
            refine o_astore X312 hx (l' := #[.val (.int i_), .val (.int j_), .val (.int k_), .val (.int f_), .val (.int g_), .val (.ref r_1), .val (.int (g_ &&& (3 : Int32))), .val (.ref r_221), .val .null, .val (.ref r_293), .val (.ref b295), .val (.int (1 : Int32)), .val (.ref o_308), .val (.ref r_308)]) (hb hby at_155) rfl rfl ?_
            refine o_aload X312 hx (hb hby at_157) rfl rfl ?_
            obtain ⟨cq313, kq313, q313a, q313b, q313c⟩ := isOf hZ293 e312 p308_4
            obtain ⟨_, _, ⟨T313, L313, kc313, n313⟩, -, X313, ⟨Lc313, hQ313, l313, y313, z313⟩, st313⟩ := X312.virtualBack hx (y := yM24) (z := yM24) hown293 (mvT hZ293 w79) (mvT hZ293 w80) (notFace_of_selects (args := #[]) (mvT hZ293 w82)) (mvT hZ293 w82) (mvT hZ293 w81) (by decide) (backOf (W := 0) (rm_g_queue l Z a0 hw []  r_308 (.ref r_1) T308.heap n0 ((c298.keep K297 (allS n0_b295 all0)).keep K308 all0) p308_5 (by first | rfl | assumption | decide | omega)) hZ293 w83 w28 (by decide) (by decide)) q313a q313c (g := (mkF m 159 #[.val (.int i_), .val (.int j_), .val (.int k_), .val (.int f_), .val (.int g_), .val (.ref r_1), .val (.int (g_ &&& (3 : Int32))), .val (.ref r_221), .val .null, .val (.ref r_293), .val (.ref b295), .val (.int (1 : Int32)), .val (.ref o_308), .val (.ref r_308)] [(.ref r_308)])) rfl (by rw [hml]; rfl) (Steps.refl _) (argsL := []) (rest := []) (lenOf own_pd23 rfl) rfl (by show 2 * 0 + _ ≤ _; exact Nat.le_of_eq rfl) (hb hby at_159) (fun _ _ => ⟨rfl, e312, (by decide : 21 + 0 ≤ _), (by decide : 43 + 0 ≤ _)⟩)
            dsimp only [Pt.U, Pt.locs, Pt.cells, Pt.slots] at X313 l313 y313 z313 st313 hQ313
            subst l313 y313 z313
            obtain ⟨rfl, Nq313, e313⟩ := hQ313
            have N313 := Fr.app N311 Nq313
            refine otr (S' := T313.setTop (mkF m 162 #[.val (.int i_), .val (.int j_), .val (.int k_), .val (.int f_), .val (.int g_), .val (.ref r_1), .val (.int (g_ &&& (3 : Int32))), .val (.ref r_221), .val .null, .val (.ref r_293), .val (.ref b295), .val (.int (1 : Int32)), .val (.ref o_308), .val (.ref r_308)] [(.ref r_1)])) st313 ?_
            refine o_aload X313 hx (hb hby at_162) rfl rfl ?_
            have c315 := (((Exa.ext E295 ((p1_2.keep K221).keep K293)).keep K297).keep K308)
            obtain ⟨_, _, ⟨T314, L314, kc314, n314⟩, -, X314, ⟨Lc314, hQ314, l314, y314, z314⟩, st314⟩ := Jvm.LawKit.callS X313 hx (y := yM13) hown293 (mvT hZ293 w84) (mvT hZ293 w85) (mvT hZ293 w2) (mvT hZ293 w86) (by decide) (backOf (W := 0) (rm_eqRR l Z a0 hw [] z_CS v_FMT s_EMPTY r_1 ba_1 kb_1 (own_ml i_) (own_mv i_) (own_ms i_) r_1 ba_1 kb_1 (own_ml i_) (own_mv i_) (own_ms i_) T308.heap n0 SB ((c298.keep K297 (allS n0_b295 all0)).keep K308 all0) c315 (c304.keep K308 nin0) (c305.keep K308 nin0) (c306.keep K308 nin0) c315 (c304.keep K308 nin0) (c305.keep K308 nin0) (c306.keep K308 nin0) p1_6 p1_6) hZ293 w86 w2 (by decide) (by decide)) (g := (mkF m 164 #[.val (.int i_), .val (.int j_), .val (.int k_), .val (.int f_), .val (.int g_), .val (.ref r_1), .val (.int (g_ &&& (3 : Int32))), .val (.ref r_221), .val .null, .val (.ref r_293), .val (.ref b295), .val (.int (1 : Int32)), .val (.ref o_308), .val (.ref r_308)] [(.ref r_1), (.ref r_1)])) rfl (by rw [hml]; rfl) (argsL := [(.ref r_1), (.ref r_1)]) (rest := []) (lenOf own_pd24 rfl) rfl (by show 2 * 0 + _ ≤ _; exact Nat.le_of_eq rfl) (hb hby at_164) (fun _ _ => ⟨rfl, e313, (by decide : 21 + 0 ≤ _), (by decide : 43 + 0 ≤ _)⟩)
            dsimp only [Pt.U, Pt.locs, Pt.cells, Pt.slots] at X314 l314 y314 z314 st314 hQ314
            subst l314 y314 z314
            obtain ⟨rfl, Nq314, e314⟩ := hQ314
            have N314 := Fr.app N313 Nq314
            refine ogo (S' := T314.setTop (mkF m 167 #[.val (.int i_), .val (.int j_), .val (.int k_), .val (.int f_), .val (.int g_), .val (.ref r_1), .val (.int (g_ &&& (3 : Int32))), .val (.ref r_221), .val .null, .val (.ref r_293), .val (.ref b295), .val (.int (1 : Int32)), .val (.ref o_308), .val (.ref r_308)] [(.int (own_b (own_ms i_) (own_ms i_)))])) st314 ?_
            rw [own_bs]
            refine o_ifNo X314 hx (hb hby at_167) (feq (by decide : ¬ ((1 : Int32) = (0 : Int32)))).1 ?_
            refine o_aload X314 hx (hb hby at_170) rfl rfl ?_
            obtain ⟨cq316, kq316, q316a, q316b, q316c⟩ := isOf hZ293 e314 p308_4
            obtain ⟨_, _, ⟨T316, L316, kc316, n316⟩, -, X316, ⟨Lc316, hQ316, l316, y316, z316⟩, st316⟩ := X314.virtualBack hx (y := yM25) (z := yM25) hown293 (mvT hZ293 w98) (mvT hZ293 w99) (notFace_of_selects (args := #[]) (mvT hZ293 w101)) (mvT hZ293 w101) (mvT hZ293 w100) (by decide) (backOf (W := 0) (rm_g_space l Z a0 hw []  r_308 .null T308.heap n0 ((c298.keep K297 (allS n0_b295 all0)).keep K308 all0) p308_6 (by first | rfl | assumption | decide | omega)) hZ293 w102 w28 (by decide) (by decide)) q316a q316c (g := (mkF m 172 #[.val (.int i_), .val (.int j_), .val (.int k_), .val (.int f_), .val (.int g_), .val (.ref r_1), .val (.int (g_ &&& (3 : Int32))), .val (.ref r_221), .val .null, .val (.ref r_293), .val (.ref b295), .val (.int (1 : Int32)), .val (.ref o_308), .val (.ref r_308)] [(.ref r_308)])) rfl (by rw [hml]; rfl) (Steps.refl _) (argsL := []) (rest := []) (lenOf own_pd23 rfl) rfl (by show 2 * 0 + _ ≤ _; exact Nat.le_of_eq rfl) (hb hby at_172) (fun _ _ => ⟨rfl, e314, (by decide : 21 + 0 ≤ _), (by decide : 43 + 0 ≤ _)⟩)
            dsimp only [Pt.U, Pt.locs, Pt.cells, Pt.slots] at X316 l316 y316 z316 st316 hQ316
            subst l316 y316 z316
            obtain ⟨rfl, Nq316, e316⟩ := hQ316
            have N316 := Fr.app N314 Nq316
            refine otr (S' := T316.setTop (mkF m 175 #[.val (.int i_), .val (.int j_), .val (.int k_), .val (.int f_), .val (.int g_), .val (.ref r_1), .val (.int (g_ &&& (3 : Int32))), .val (.ref r_221), .val .null, .val (.ref r_293), .val (.ref b295), .val (.int (1 : Int32)), .val (.ref o_308), .val (.ref r_308)] [.null])) st316 ?_
            refine o_aload X316 hx (hb hby at_175) rfl rfl ?_
            obtain ⟨_, _, ⟨T317, L317, kc317, n317⟩, -, X317, ⟨Lc317, hQ317, l317, y317, z317⟩, st317⟩ := Jvm.LawKit.callS X316 hx (y := yM13) hown293 (mvT hZ293 w84) (mvT hZ293 w85) (mvT hZ293 w2) (mvT hZ293 w86) (by decide) (backOf (W := 0) (rm_eqNN l Z a0 hw []   T308.heap n0 ((c298.keep K297 (allS n0_b295 all0)).keep K308 all0) ) hZ293 w86 w2 (by decide) (by decide)) (g := (mkF m 177 #[.val (.int i_), .val (.int j_), .val (.int k_), .val (.int f_), .val (.int g_), .val (.ref r_1), .val (.int (g_ &&& (3 : Int32))), .val (.ref r_221), .val .null, .val (.ref r_293), .val (.ref b295), .val (.int (1 : Int32)), .val (.ref o_308), .val (.ref r_308)] [.null, .null])) rfl (by rw [hml]; rfl) (argsL := [.null, .null]) (rest := []) (lenOf own_pd24 rfl) rfl (by show 2 * 0 + _ ≤ _; exact Nat.le_of_eq rfl) (hb hby at_177) (fun _ _ => ⟨rfl, e316, (by decide : 21 + 0 ≤ _), (by decide : 43 + 0 ≤ _)⟩)
            dsimp only [Pt.U, Pt.locs, Pt.cells, Pt.slots] at X317 l317 y317 z317 st317 hQ317
            subst l317 y317 z317
            obtain ⟨rfl, Nq317, e317⟩ := hQ317
            have N317 := Fr.app N316 Nq317
            refine ogo (S' := T317.setTop (mkF m 180 #[.val (.int i_), .val (.int j_), .val (.int k_), .val (.int f_), .val (.int g_), .val (.ref r_1), .val (.int (g_ &&& (3 : Int32))), .val (.ref r_221), .val .null, .val (.ref r_293), .val (.ref b295), .val (.int (1 : Int32)), .val (.ref o_308), .val (.ref r_308)] [(.int (1 : Int32))])) st317 ?_
            refine o_ifNo X317 hx (hb hby at_180) (feq (by decide : ¬ ((1 : Int32) = (0 : Int32)))).1 ?_
            refine o_aload X317 hx (hb hby at_183) rfl rfl ?_
            obtain ⟨cq318, kq318, q318a, q318b, q318c⟩ := isOf hZ293 e317 p308_4
            obtain ⟨_, _, ⟨T318, L318, kc318, n318⟩, -, X318, ⟨Lc318, hQ318, l318, y318, z318⟩, st318⟩ := X317.virtualBack hx (y := yM26) (z := yM26) hown293 (mvT hZ293 w103) (mvT hZ293 w104) (notFace_of_selects (args := #[]) (mvT hZ293 w106)) (mvT hZ293 w106) (mvT hZ293 w105) (by decide) (backOf (W := 0) (rm_g_contentId l Z a0 hw []  r_308 (.ref r_293) T308.heap n0 ((c298.keep K297 (allS n0_b295 all0)).keep K308 all0) p308_7 (by first | rfl | assumption | decide | omega)) hZ293 w107 w28 (by decide) (by decide)) q318a q318c (g := (mkF m 185 #[.val (.int i_), .val (.int j_), .val (.int k_), .val (.int f_), .val (.int g_), .val (.ref r_1), .val (.int (g_ &&& (3 : Int32))), .val (.ref r_221), .val .null, .val (.ref r_293), .val (.ref b295), .val (.int (1 : Int32)), .val (.ref o_308), .val (.ref r_308)] [(.ref r_308)])) rfl (by rw [hml]; rfl) (Steps.refl _) (argsL := []) (rest := []) (lenOf own_pd23 rfl) rfl (by show 2 * 0 + _ ≤ _; exact Nat.le_of_eq rfl) (hb hby at_185) (fun _ _ => ⟨rfl, e317, (by decide : 21 + 0 ≤ _), (by decide : 43 + 0 ≤ _)⟩)
            dsimp only [Pt.U, Pt.locs, Pt.cells, Pt.slots] at X318 l318 y318 z318 st318 hQ318
            subst l318 y318 z318
            obtain ⟨rfl, Nq318, e318⟩ := hQ318
            have N318 := Fr.app N317 Nq318
            refine otr (S' := T318.setTop (mkF m 188 #[.val (.int i_), .val (.int j_), .val (.int k_), .val (.int f_), .val (.int g_), .val (.ref r_1), .val (.int (g_ &&& (3 : Int32))), .val (.ref r_221), .val .null, .val (.ref r_293), .val (.ref b295), .val (.int (1 : Int32)), .val (.ref o_308), .val (.ref r_308)] [(.ref r_293)])) st318 ?_
            refine o_aload X318 hx (hb hby at_188) rfl rfl ?_
            have c320 := (((Fld.ext E295 p293_3).keep K297 (ninS (Nat.ne_of_lt (Nat.lt_of_lt_of_le (Nat.lt_of_lt_of_le p293_2.lt (Nat.le_refl _)) (Nat.le_of_eq g295.symm))) nin0)).keep K308 nin0)
            have c321 := (((Fld.ext E295 p293_4).keep K297 (ninS (Nat.ne_of_lt (Nat.lt_of_lt_of_le (Nat.lt_of_lt_of_le p293_2.lt (Nat.le_refl _)) (Nat.le_of_eq g295.symm))) nin0)).keep K308 nin0)
            have c322 := (((p293_5.ext E295).keep K297 (ninS (Nat.ne_of_lt (Nat.lt_of_lt_of_le (Nat.lt_of_lt_of_le p293_1 (Nat.le_refl _)) (Nat.le_of_eq g295.symm))) nin0)).keep K308 nin0)
            obtain ⟨_, _, ⟨T319, L319, kc319, n319⟩, -, X319, ⟨Lc319, hQ319, l319, y319, z319⟩, st319⟩ := Jvm.LawKit.callS X318 hx (y := yM13) hown293 (mvT hZ293 w84) (mvT hZ293 w85) (mvT hZ293 w2) (mvT hZ293 w86) (by decide) (backOf (W := 0) (rm_eqRR l Z a0 hw [] z_CS v_FMT s_EMPTY r_293 ba_293 kb_293 (own_ml f_) (own_mv f_) (own_ms f_) r_293 ba_293 kb_293 (own_ml f_) (own_mv f_) (own_ms f_) T308.heap n0 SB ((c298.keep K297 (allS n0_b295 all0)).keep K308 all0) (((Exa.ext E295 p293_2).keep K297).keep K308) c320 c321 c322 (((Exa.ext E295 p293_2).keep K297).keep K308) c320 c321 c322 p293_6 p293_6) hZ293 w86 w2 (by decide) (by decide)) (g := (mkF m 190 #[.val (.int i_), .val (.int j_), .val (.int k_), .val (.int f_), .val (.int g_), .val (.ref r_1), .val (.int (g_ &&& (3 : Int32))), .val (.ref r_221), .val .null, .val (.ref r_293), .val (.ref b295), .val (.int (1 : Int32)), .val (.ref o_308), .val (.ref r_308)] [(.ref r_293), (.ref r_293)])) rfl (by rw [hml]; rfl) (argsL := [(.ref r_293), (.ref r_293)]) (rest := []) (lenOf own_pd24 rfl) rfl (by show 2 * 0 + _ ≤ _; exact Nat.le_of_eq rfl) (hb hby at_190) (fun _ _ => ⟨rfl, e318, (by decide : 21 + 0 ≤ _), (by decide : 43 + 0 ≤ _)⟩)
            dsimp only [Pt.U, Pt.locs, Pt.cells, Pt.slots] at X319 l319 y319 z319 st319 hQ319
            subst l319 y319 z319
            obtain ⟨rfl, Nq319, e319⟩ := hQ319
            have N319 := Fr.app N318 Nq319
            refine ogo (S' := T319.setTop (mkF m 193 #[.val (.int i_), .val (.int j_), .val (.int k_), .val (.int f_), .val (.int g_), .val (.ref r_1), .val (.int (g_ &&& (3 : Int32))), .val (.ref r_221), .val .null, .val (.ref r_293), .val (.ref b295), .val (.int (1 : Int32)), .val (.ref o_308), .val (.ref r_308)] [(.int (own_b (own_ms f_) (own_ms f_)))])) st319 ?_
            rw [own_bs]
            refine o_ifNo X319 hx (hb hby at_193) (feq (by decide : ¬ ((1 : Int32) = (0 : Int32)))).1 ?_
            refine o_iconst X319 hx (1 : Int32) (hb hby at_196) rfl ?_
            refine o_goto X319 hx 201 (hb hby at_197) (by decide) (by decide) ?_
            refine oendS X319 hlk hS293 (Nat.le_trans (Nat.le_refl _) (Nat.le_trans (Nat.le_trans E295.1 K297.1) K308.1)) e319 hZ293 hEL hs0 (CHr.trans (CHr.trans (CHr.trans (CHr.trans (CHr.trans (CHr.trans (CHr.refl H0) C1) C221) C293) (CHr.ext E295 H294)) (CHr.keep K297 (allS (Safe.exa hZ293.alike A295 (by decide) (by decide)) all0) H296)) (CHr.keep K308 all0 H299)) (v := some (.int (1 : Int32))) (fun h => by rw [hret] at h; cases h) (fun fs hr => retN X319 hx (t := .boolean) hret (by simp) (hb hby at_201) hr) (by decide) (by decide) ?_
            show own_Q_law Z _ _ _ _ _ _ _ _ h0 n0 _ T319.heap _
            rw [e319]
            exact ⟨rfl, N319, (((((((Keep.refl h0 []).trans K1 all0).trans K221 all0).trans K293 all0).ext E295).trans K297 (allS (Or.inr (Nat.le_trans (Nat.le_trans (Nat.le_trans K1.1 K221.1) K293.1) (Nat.le_of_eq g295.symm))) all0)).trans K308 all0)⟩
          · rw [own_bf hc307]
            refine o_ifYes X300 hx 116 (hb hby at_109) (teq (by decide : (0 : Int32) = (0 : Int32))).1 (by decide) (by decide) ?_
            refine o_iconst X300 hx (0 : Int32) (hb hby at_116) rfl ?_
            refine o_istore X300 hx (l' := #[.val (.int i_), .val (.int j_), .val (.int k_), .val (.int f_), .val (.int g_), .val (.ref r_1), .val (.int (g_ &&& (3 : Int32))), .val (.ref r_221), .val .null, .val (.ref r_293), .val (.ref b295), .val (.int (0 : Int32)), .unset, .unset]) (hb hby at_117) rfl ?_
            refine o_aload X300 hx (hb hby at_119) rfl rfl ?_
            refine o_aload X300 hx (hb hby at_121) rfl rfl ?_
            obtain ⟨cq323, kq323, q323a, q323b, q323c⟩ := isOf hZ293 e300 p297_0
            obtain ⟨_, _, ⟨T323, L323, kc323, n323⟩, -, X323, ⟨Lc323, hQ323, l323, y323, z323⟩, st323⟩ := X300.virtualBack hx (y := yM27) (z := yM27) hown293 (mvT hZ293 w44) (mvT hZ293 w45) (notFace_of_selects (args := #[]) (mvT hZ293 w47)) (mvT hZ293 w47) (mvT hZ293 w46) (by decide) (backOf (W := 0) (rm_onqF l Z a0 hw [] z_CS v_FMT s_EMPTY b295 r_221 ba_221 kb_221 (own_ml j_) (own_mv j_) (own_ms j_) r_1 ba_1 kb_1 (own_ml i_) (own_mv i_) (own_ms i_) T297.heap n0 SB (c298.keep K297 (allS n0_b295 all0)) p297_0 p297_1 ((Exa.ext E295 (p221_2.keep K293)).keep K297) c301 c302 c303 ((Exa.ext E295 ((p1_2.keep K221).keep K293)).keep K297) c304 c305 c306 p221_6 p1_6 (Nat.ne_of_gt (Nat.lt_of_lt_of_le (Nat.lt_of_lt_of_le p1_2.lt (Nat.le_refl _)) p221_0)) hc307) hZ293 w48 w28 (by decide) (by decide)) q323a q323c (g := (mkF m 123 #[.val (.int i_), .val (.int j_), .val (.int k_), .val (.int f_), .val (.int g_), .val (.ref r_1), .val (.int (g_ &&& (3 : Int32))), .val (.ref r_221), .val .null, .val (.ref r_293), .val (.ref b295), .val (.int (0 : Int32)), .unset, .unset] [(.ref r_1), (.ref b295)])) rfl (by rw [hml]; rfl) (Steps.refl _) (argsL := [(.ref r_1)]) (rest := []) (lenOf own_pd21 rfl) rfl (by show 2 * 0 + _ ≤ _; exact Nat.le_of_eq rfl) (hb hby at_123) (fun _ _ => ⟨rfl, e300, (by decide : 19 + 0 ≤ _), (by decide : 39 + 0 ≤ _)⟩)
            dsimp only [Pt.U, Pt.locs, Pt.cells, Pt.slots] at X323 l323 y323 z323 st323 hQ323
            subst l323 y323 z323
            obtain ⟨rfl, Nq323, e323⟩ := hQ323
            have N323 := Fr.app N300 Nq323
            refine otr (S' := T323.setTop (mkF m 126 #[.val (.int i_), .val (.int j_), .val (.int k_), .val (.int f_), .val (.int g_), .val (.ref r_1), .val (.int (g_ &&& (3 : Int32))), .val (.ref r_221), .val .null, .val (.ref r_293), .val (.ref b295), .val (.int (0 : Int32)), .unset, .unset] [(.ref s_EMPTY)])) st323 ?_
            refine o_astore X323 hx (l' := #[.val (.int i_), .val (.int j_), .val (.int k_), .val (.int f_), .val (.int g_), .val (.ref r_1), .val (.int (g_ &&& (3 : Int32))), .val (.ref r_221), .val .null, .val (.ref r_293), .val (.ref b295), .val (.int (0 : Int32)), .val (.ref s_EMPTY), .unset]) (hb hby at_126) rfl rfl ?_
            refine o_aload X323 hx (hb hby at_128) rfl rfl ?_
            obtain ⟨cq324, kq324, q324a, q324b, q324c⟩ := isOf hZ293 e323 (Exa.ext (c298.keep K297 (allS n0_b295 all0)).2 E_EMPTY)
            obtain ⟨_, _, ⟨T324, L324, kc324, n324⟩, -, X324, ⟨Lc324, hQ324, l324, y324, z324⟩, st324⟩ := X323.virtualBack hx (y := yM22) (z := yM22) hown293 (mvT hZ293 w68) (mvT hZ293 w69) (notFace_of_selects (args := #[]) (mvT hZ293 w71)) (mvT hZ293 w71) (mvT hZ293 w70) (by decide) (backOf (W := 0) (rm_oppN l Z a0 hw []  s_EMPTY T297.heap n0 (c298.keep K297 (allS n0_b295 all0)) (Fld.ext (c298.keep K297 (allS n0_b295 all0)).2 F_EMPTY)) hZ293 w72 w53 (by decide) (by decide)) q324a q324c (g := (mkF m 130 #[.val (.int i_), .val (.int j_), .val (.int k_), .val (.int f_), .val (.int g_), .val (.ref r_1), .val (.int (g_ &&& (3 : Int32))), .val (.ref r_221), .val .null, .val (.ref r_293), .val (.ref b295), .val (.int (0 : Int32)), .val (.ref s_EMPTY), .unset] [(.ref s_EMPTY)])) rfl (by rw [hml]; rfl) (Steps.refl _) (argsL := []) (rest := []) (lenOf own_pd8 rfl) rfl (by show 2 * 0 + _ ≤ _; exact Nat.le_of_eq rfl) (hb hby at_130) (fun _ _ => ⟨rfl, e323, (by decide : 19 + 0 ≤ _), (by decide : 39 + 0 ≤ _)⟩)
            dsimp only [Pt.U, Pt.locs, Pt.cells, Pt.slots] at X324 l324 y324 z324 st324 hQ324
            subst l324 y324 z324
            obtain ⟨rfl, Nq324, e324⟩ := hQ324
            have N324 := Fr.app N323 Nq324
            refine otr (S' := T324.setTop (mkF m 133 #[.val (.int i_), .val (.int j_), .val (.int k_), .val (.int f_), .val (.int g_), .val (.ref r_1), .val (.int (g_ &&& (3 : Int32))), .val (.ref r_221), .val .null, .val (.ref r_293), .val (.ref b295), .val (.int (0 : Int32)), .val (.ref s_EMPTY), .unset] [(.int (0 : Int32))])) st324 ?_
            refine o_iload X324 hx (hb hby at_133) rfl ?_
            refine o_icmpYes X324 hx 140 (hb hby at_135) (teq (by decide : (0 : Int32) = (0 : Int32))).1 (by decide) (by decide) ?_
            refine o_iload X324 hx (hb hby at_140) rfl ?_
            refine o_ifNo X324 hx (hb hby at_142) (teq (by decide : (0 : Int32) = (0 : Int32))).2 ?_
            refine o_iconst X324 hx (1 : Int32) (hb hby at_145) rfl ?_
            refine oendS X324 hlk hS293 (Nat.le_trans (Nat.le_refl _) (Nat.le_trans E295.1 K297.1)) e324 hZ293 hEL hs0 (CHr.trans (CHr.trans (CHr.trans (CHr.trans (CHr.trans (CHr.refl H0) C1) C221) C293) (CHr.ext E295 H294)) (CHr.keep K297 (allS (Safe.exa hZ293.alike A295 (by decide) (by decide)) all0) H296)) (v := some (.int (1 : Int32))) (fun h => by rw [hret] at h; cases h) (fun fs hr => retN X324 hx (t := .boolean) hret (by simp) (hb hby at_146) hr) (by decide) (by decide) ?_
            show own_Q_law Z _ _ _ _ _ _ _ _ h0 n0 _ T324.heap _
            rw [e324]
            exact ⟨rfl, N324, ((((((Keep.refl h0 []).trans K1 all0).trans K221 all0).trans K293 all0).ext E295).trans K297 (allS (Or.inr (Nat.le_trans (Nat.le_trans (Nat.le_trans K1.1 K221.1) K293.1) (Nat.le_of_eq g295.symm))) all0))⟩
        · refine o_ifNo X221 hx (hb hby at_69) (feq hc292).1 ?_
          refine o_aconst_null X221 hx (hb hby at_72) ?_
          refine o_goto X221 hx 80 (hb hby at_73) (by decide) (by decide) ?_
          refine o_astore X221 hx (l' := #[.val (.int i_), .val (.int j_), .val (.int k_), .val (.int f_), .val (.int g_), .val (.ref r_1), .val (.int (g_ &&& (3 : Int32))), .val (.ref r_221), .val .null, .val .null, .unset, .unset, .unset, .unset]) (hb hby at_80) rfl rfl ?_
          obtain ⟨T325, _, X325, rfl, E325, A325, D325, -, st325⟩ := newO X221 hx hZ221 hown221 w26 w27 w28 rfl (g := (mkF m 82 #[.val (.int i_), .val (.int j_), .val (.int k_), .val (.int f_), .val (.int g_), .val (.ref r_1), .val (.int (g_ &&& (3 : Int32))), .val (.ref r_221), .val .null, .val .null, .unset, .unset, .unset, .unset] [])) rfl (hb hby at_82) (by decide) (by decide)
          obtain ⟨b325, g325⟩ : ∃ z, z = T221.heap.size := ⟨_, rfl⟩
          rw [← g325] at A325 D325 st325
          have n0_b325 : n0 ≤ b325 := Nat.le_trans (Nat.le_trans (Nat.le_of_eq O0.1.symm) O0.2.1) (Nat.le_trans (Nat.le_trans K1.1 K221.1) (Nat.le_of_eq g325.symm))
          have H326 := CHv.ext E325 H222
          have F325_queue : Fld Z T325.heap b325 "com/example/reliquary/reliquary/DeadLetterSelection" "queue" "Ljava/lang/String;" .null := D325 (Or.inr w39) (ty := (.object "java/lang/String")) (by decide)
          have F325_space : Fld Z T325.heap b325 "com/example/reliquary/reliquary/DeadLetterSelection" "space" "Ljava/lang/String;" .null := D325 (Or.inr w41) (ty := (.object "java/lang/String")) (by decide)
          have F325_contentId : Fld Z T325.heap b325 "com/example/reliquary/reliquary/DeadLetterSelection" "contentId" "Ljava/lang/String;" .null := D325 (Or.inr w43) (ty := (.object "java/lang/String")) (by decide)
          refine ogo (S' := T325.setTop (mkF m 85 #[.val (.int i_), .val (.int j_), .val (.int k_), .val (.int f_), .val (.int g_), .val (.ref r_1), .val (.int (g_ &&& (3 : Int32))), .val (.ref r_221), .val .null, .val .null, .unset, .unset, .unset, .unset] [(.ref b325)])) st325 ?_
          refine o_dup X325 hx (hb hby at_85) rfl ?_
          refine o_aload X325 hx (hb hby at_86) rfl rfl ?_
          refine o_aload X325 hx (hb hby at_88) rfl rfl ?_
          refine o_aload X325 hx (hb hby at_90) rfl rfl ?_
          obtain ⟨_, _, ⟨T327, L327, kc327, n327⟩, -, X327, ⟨Lc327, hQ327, l327, y327, z327⟩, st327⟩ := X325.specialBack hx (y := yM17) rfl hown221 (mvT hZ221 w29) (mvT hZ221 w30) (mvT hZ221 w31) (by decide) (backOf (W := 1) (rm_dli l Z a0 hw []  b325 (.ref r_221) .null .null T325.heap n0 (((O0.keep K1 all0).keep K221 all0).ext E325) A325 F325_queue F325_space F325_contentId n0_b325 (by first | rfl | assumption | decide | omega) (by first | rfl | assumption | decide | omega) (by first | rfl | assumption | decide | omega) (by first | rfl | assumption | decide | omega) (by first | rfl | assumption | decide | omega) (by first | rfl | assumption | decide | omega)) hZ221 w31 w28 (by decide) (by decide)) (g := (mkF m 92 #[.val (.int i_), .val (.int j_), .val (.int k_), .val (.int f_), .val (.int g_), .val (.ref r_1), .val (.int (g_ &&& (3 : Int32))), .val (.ref r_221), .val .null, .val .null, .unset, .unset, .unset, .unset] [.null, .null, (.ref r_221), (.ref b325), (.ref b325)])) rfl (by rw [hml]; rfl) (Steps.refl _) (a := b325) (argsL := [(.ref r_221), .null, .null]) (rest := [(.ref b325)]) (lenOf own_pd16 rfl) rfl (by show 2 * 0 + _ ≤ _; exact Nat.le_of_eq rfl) (hb hby at_92) (fun _ _ => ⟨rfl, rfl, (by decide : 13 + 0 ≤ _), (by decide : 27 + 0 ≤ _)⟩)
          dsimp only [Pt.U, Pt.locs, Pt.cells, Pt.slots] at X327 l327 y327 z327 st327 hQ327
          subst l327 y327 z327
          obtain ⟨rfl, Nq327, K327, p327_0, p327_1, p327_2, p327_3⟩ := hQ327
          have N327 := Fr.app N221 Nq327
          have H328 := CHv.keep K327 (allS (Safe.exa hZ221.alike A325 (by decide) (by decide)) all0) H326
          refine otr (S' := T327.setTop (mkF m 95 #[.val (.int i_), .val (.int j_), .val (.int k_), .val (.int f_), .val (.int g_), .val (.ref r_1), .val (.int (g_ &&& (3 : Int32))), .val (.ref r_221), .val .null, .val .null, .unset, .unset, .unset, .unset] [(.ref b325)])) st327 ?_
          refine o_astore X327 hx (l' := #[.val (.int i_), .val (.int j_), .val (.int k_), .val (.int f_), .val (.int g_), .val (.ref r_1), .val (.int (g_ &&& (3 : Int32))), .val (.ref r_221), .val .null, .val .null, .val (.ref b325), .unset, .unset, .unset]) (hb hby at_95) rfl rfl ?_
          refine o_aload X327 hx (hb hby at_97) rfl rfl ?_
          refine o_ifnullNo X327 hx (hb hby at_99) ?_
          refine o_aload X327 hx (hb hby at_102) rfl rfl ?_
          refine o_aload X327 hx (hb hby at_104) rfl rfl ?_
          have c330 := ((((O0.keep K1 all0).keep K221 all0).ext E325).keep K327 (allS n0_b325 all0))
          have c331 := ((Fld.ext E325 p221_3).keep K327 (ninS (Nat.ne_of_lt (Nat.lt_of_lt_of_le (Nat.lt_of_lt_of_le p221_2.lt (Nat.le_refl _)) (Nat.le_of_eq g325.symm))) nin0))
          have c332 := ((Fld.ext E325 p221_4).keep K327 (ninS (Nat.ne_of_lt (Nat.lt_of_lt_of_le (Nat.lt_of_lt_of_le p221_2.lt (Nat.le_refl _)) (Nat.le_of_eq g325.symm))) nin0))
          have c333 := ((p221_5.ext E325).keep K327 (ninS (Nat.ne_of_lt (Nat.lt_of_lt_of_le (Nat.lt_of_lt_of_le p221_1 (Nat.le_refl _)) (Nat.le_of_eq g325.symm))) nin0))
          have c334 := ((Fld.ext E325 (p1_3.keep K221 nin0)).keep K327 (ninS (Nat.ne_of_lt (Nat.lt_of_lt_of_le (Nat.lt_of_lt_of_le p1_2.lt K221.1) (Nat.le_of_eq g325.symm))) nin0))
          have c335 := ((Fld.ext E325 (p1_4.keep K221 nin0)).keep K327 (ninS (Nat.ne_of_lt (Nat.lt_of_lt_of_le (Nat.lt_of_lt_of_le p1_2.lt K221.1) (Nat.le_of_eq g325.symm))) nin0))
          have c336 := (((p1_5.keep K221 nin0).ext E325).keep K327 (ninS (Nat.ne_of_lt (Nat.lt_of_lt_of_le (Nat.lt_of_lt_of_le p1_1 K221.1) (Nat.le_of_eq g325.symm))) nin0))
          obtain ⟨_, _, ⟨T329, L329, kc329, n329⟩, -, X329, ⟨Lc329, hQ329, l329, y329, z329⟩, st329⟩ := Jvm.LawKit.callS X327 hx (y := yM13) hown221 (mvT hZ221 w84) (mvT hZ221 w85) (mvT hZ221 w2) (mvT hZ221 w86) (by decide) (backOf (W := 0) (rm_eqRR l Z a0 hw [] z_CS v_FMT s_EMPTY r_221 ba_221 kb_221 (own_ml j_) (own_mv j_) (own_ms j_) r_1 ba_1 kb_1 (own_ml i_) (own_mv i_) (own_ms i_) T327.heap n0 SB c330 ((Exa.ext E325 p221_2).keep K327) c331 c332 c333 ((Exa.ext E325 (p1_2.keep K221)).keep K327) c334 c335 c336 p221_6 p1_6) hZ221 w86 w2 (by decide) (by decide)) (g := (mkF m 106 #[.val (.int i_), .val (.int j_), .val (.int k_), .val (.int f_), .val (.int g_), .val (.ref r_1), .val (.int (g_ &&& (3 : Int32))), .val (.ref r_221), .val .null, .val .null, .val (.ref b325), .unset, .unset, .unset] [(.ref r_1), (.ref r_221)])) rfl (by rw [hml]; rfl) (argsL := [(.ref r_221), (.ref r_1)]) (rest := []) (lenOf own_pd24 rfl) rfl (by show 2 * 0 + _ ≤ _; exact Nat.le_of_eq rfl) (hb hby at_106) (fun _ _ => ⟨rfl, rfl, (by decide : 13 + 0 ≤ _), (by decide : 27 + 0 ≤ _)⟩)
          dsimp only [Pt.U, Pt.locs, Pt.cells, Pt.slots] at X329 l329 y329 z329 st329 hQ329
          subst l329 y329 z329
          obtain ⟨rfl, Nq329, e329⟩ := hQ329
          have N329 := Fr.app N327 Nq329
          refine ogo (S' := T329.setTop (mkF m 109 #[.val (.int i_), .val (.int j_), .val (.int k_), .val (.int f_), .val (.int g_), .val (.ref r_1), .val (.int (g_ &&& (3 : Int32))), .val (.ref r_221), .val .null, .val .null, .val (.ref b325), .unset, .unset, .unset] [(.int (own_b (own_ms j_) (own_ms i_)))])) st329 ?_
          by_cases hc337 : (own_ms j_) = (own_ms i_)
          · rw [own_bt hc337]
            refine o_ifNo X329 hx (hb hby at_109) (feq (by decide : ¬ ((1 : Int32) = (0 : Int32)))).1 ?_
            refine o_iconst X329 hx (1 : Int32) (hb hby at_112) rfl ?_
            refine o_goto X329 hx 117 (hb hby at_113) (by decide) (by decide) ?_
            refine o_istore X329 hx (l' := #[.val (.int i_), .val (.int j_), .val (.int k_), .val (.int f_), .val (.int g_), .val (.ref r_1), .val (.int (g_ &&& (3 : Int32))), .val (.ref r_221), .val .null, .val .null, .val (.ref b325), .val (.int (1 : Int32)), .unset, .unset]) (hb hby at_117) rfl ?_
            refine o_aload X329 hx (hb hby at_119) rfl rfl ?_
            refine o_aload X329 hx (hb hby at_121) rfl rfl ?_
            obtain ⟨cq338, kq338, q338a, q338b, q338c⟩ := isOf hZ221 e329 p327_0
            obtain ⟨_, _, ⟨T338, L338, kc338, n338⟩, -, X338, ⟨Lc338, hQ338, l338, y338, z338⟩, st338⟩ := X329.virtualBack hx (y := yM27) (z := yM27) hown221 (mvT hZ221 w44) (mvT hZ221 w45) (notFace_of_selects (args := #[]) (mvT hZ221 w47)) (mvT hZ221 w47) (mvT hZ221 w46) (by decide) (backOf (W := 0) (rm_onqT l Z a0 hw [] z_CS v_FMT s_EMPTY b325 r_221 ba_221 kb_221 (own_ml j_) (own_mv j_) (own_ms j_) r_1 ba_1 kb_1 (own_ml i_) (own_mv i_) (own_ms i_) .null .null T327.heap n0 SB c330 p327_0 p327_1 p327_2 p327_3 (by first | rfl | assumption | decide | omega) (by first | rfl | assumption | decide | omega) (by first | rfl | assumption | decide | omega) (by first | rfl | assumption | decide | omega) ((Exa.ext E325 p221_2).keep K327) c331 c332 c333 ((Exa.ext E325 (p1_2.keep K221)).keep K327) c334 c335 c336 p221_6 p1_6 (Nat.ne_of_gt (Nat.lt_of_lt_of_le (Nat.lt_of_lt_of_le p1_2.lt (Nat.le_refl _)) p221_0)) hc337) hZ221 w48 w28 (by decide) (by decide)) q338a q338c (g := (mkF m 123 #[.val (.int i_), .val (.int j_), .val (.int k_), .val (.int f_), .val (.int g_), .val (.ref r_1), .val (.int (g_ &&& (3 : Int32))), .val (.ref r_221), .val .null, .val .null, .val (.ref b325), .val (.int (1 : Int32)), .unset, .unset] [(.ref r_1), (.ref b325)])) rfl (by rw [hml]; rfl) (Steps.refl _) (argsL := [(.ref r_1)]) (rest := []) (lenOf own_pd21 rfl) rfl (by show 2 * 0 + _ ≤ _; exact Nat.le_of_eq rfl) (hb hby at_123) (fun _ _ => ⟨rfl, e329, (by decide : 13 + 2 ≤ _), (by decide : 27 + 4 ≤ _)⟩)
            dsimp only [Pt.U, Pt.locs, Pt.cells, Pt.slots] at X338 l338 y338 z338 st338 hQ338
            subst l338 y338 z338
            obtain ⟨o_338, r_338, rfl, Nq338, K338, p338_0, p338_1, p338_2, p338_3, p338_4, p338_5, p338_6, p338_7⟩ := hQ338
            have N338 := Fr.app N329 Nq338
            have H339 := CHv.keep K338 all0 H328
            have n0_o_338 : n0 ≤ o_338 := Nat.le_trans (Nat.le_trans (Nat.le_of_eq O0.1.symm) O0.2.1) (Nat.le_trans (Nat.le_trans (Nat.le_trans (Nat.le_trans K1.1 K221.1) E325.1) K327.1) p338_0)
            have n0_r_338 : n0 ≤ r_338 := Nat.le_trans (Nat.le_trans (Nat.le_of_eq O0.1.symm) O0.2.1) (Nat.le_trans (Nat.le_trans (Nat.le_trans (Nat.le_trans K1.1 K221.1) E325.1) K327.1) p338_1)
            refine otr (S' := T338.setTop (mkF m 126 #[.val (.int i_), .val (.int j_), .val (.int k_), .val (.int f_), .val (.int g_), .val (.ref r_1), .val (.int (g_ &&& (3 : Int32))), .val (.ref r_221), .val .null, .val .null, .val (.ref b325), .val (.int (1 : Int32)), .unset, .unset] [(.ref o_338)])) st338 ?_
            refine o_astore X338 hx (l' := #[.val (.int i_), .val (.int j_), .val (.int k_), .val (.int f_), .val (.int g_), .val (.ref r_1), .val (.int (g_ &&& (3 : Int32))), .val (.ref r_221), .val .null, .val .null, .val (.ref b325), .val (.int (1 : Int32)), .val (.ref o_338), .unset]) (hb hby at_126) rfl rfl ?_
            refine o_aload X338 hx (hb hby at_128) rfl rfl ?_
            obtain ⟨cq340, kq340, q340a, q340b, q340c⟩ := isOf hZ221 rfl p338_2
            obtain ⟨_, _, ⟨T340, L340, kc340, n340⟩, -, X340, ⟨Lc340, hQ340, l340, y340, z340⟩, st340⟩ := X338.virtualBack hx (y := yM22) (z := yM22) hown221 (mvT hZ221 w68) (mvT hZ221 w69) (notFace_of_selects (args := #[]) (mvT hZ221 w71)) (mvT hZ221 w71) (mvT hZ221 w70) (by decide) (backOf (W := 0) (rm_oppR l Z a0 hw []  o_338 r_338 T338.heap n0 (c330.keep K338 all0) p338_3) hZ221 w72 w53 (by decide) (by decide)) q340a q340c (g := (mkF m 130 #[.val (.int i_), .val (.int j_), .val (.int k_), .val (.int f_), .val (.int g_), .val (.ref r_1), .val (.int (g_ &&& (3 : Int32))), .val (.ref r_221), .val .null, .val .null, .val (.ref b325), .val (.int (1 : Int32)), .val (.ref o_338), .unset] [(.ref o_338)])) rfl (by rw [hml]; rfl) (Steps.refl _) (argsL := []) (rest := []) (lenOf own_pd8 rfl) rfl (by show 2 * 0 + _ ≤ _; exact Nat.le_of_eq rfl) (hb hby at_130) (fun _ _ => ⟨rfl, rfl, (by decide : 15 + 0 ≤ _), (by decide : 31 + 0 ≤ _)⟩)
            dsimp only [Pt.U, Pt.locs, Pt.cells, Pt.slots] at X340 l340 y340 z340 st340 hQ340
            subst l340 y340 z340
            obtain ⟨rfl, Nq340, e340⟩ := hQ340
            have N340 := Fr.app N338 Nq340
            refine otr (S' := T340.setTop (mkF m 133 #[.val (.int i_), .val (.int j_), .val (.int k_), .val (.int f_), .val (.int g_), .val (.ref r_1), .val (.int (g_ &&& (3 : Int32))), .val (.ref r_221), .val .null, .val .null, .val (.ref b325), .val (.int (1 : Int32)), .val (.ref o_338), .unset] [(.int (1 : Int32))])) st340 ?_
            refine o_iload X340 hx (hb hby at_133) rfl ?_
            refine o_icmpYes X340 hx 140 (hb hby at_135) (teq (by decide : (1 : Int32) = (1 : Int32))).1 (by decide) (by decide) ?_
            refine o_iload X340 hx (hb hby at_140) rfl ?_
            refine o_ifYes X340 hx 147 (hb hby at_142) (feq (by decide : ¬ ((1 : Int32) = (0 : Int32)))).2 (by decide) (by decide) ?_
            refine o_aload X340 hx (hb hby at_147) rfl rfl ?_
            obtain ⟨cq341, kq341, q341a, q341b, q341c⟩ := isOf hZ221 e340 p338_2
            obtain ⟨_, _, ⟨T341, L341, kc341, n341⟩, -, X341, ⟨Lc341, hQ341, l341, y341, z341⟩, st341⟩ := X340.virtualBack hx (y := yM23) (z := yM23) hown221 (mvT hZ221 w73) (mvT hZ221 w74) (notFace_of_selects (args := #[]) (mvT hZ221 w76)) (mvT hZ221 w76) (mvT hZ221 w75) (by decide) (backOf (W := 0) (rm_opg l Z a0 hw []  o_338 r_338 T338.heap n0 (c330.keep K338 all0) p338_3) hZ221 w77 w53 (by decide) (by decide)) q341a q341c (g := (mkF m 149 #[.val (.int i_), .val (.int j_), .val (.int k_), .val (.int f_), .val (.int g_), .val (.ref r_1), .val (.int (g_ &&& (3 : Int32))), .val (.ref r_221), .val .null, .val .null, .val (.ref b325), .val (.int (1 : Int32)), .val (.ref o_338), .unset] [(.ref o_338)])) rfl (by rw [hml]; rfl) (Steps.refl _) (argsL := []) (rest := []) (lenOf own_pd22 rfl) rfl (by show 2 * 0 + _ ≤ _; exact Nat.le_of_eq rfl) (hb hby at_149) (fun _ _ => ⟨rfl, e340, (by decide : 15 + 0 ≤ _), (by decide : 31 + 0 ≤ _)⟩)
            dsimp only [Pt.U, Pt.locs, Pt.cells, Pt.slots] at X341 l341 y341 z341 st341 hQ341
            subst l341 y341 z341
            obtain ⟨rfl, Nq341, e341⟩ := hQ341
            have N341 := Fr.app N340 Nq341
            refine otr (S' := T341.setTop (mkF m 152 #[.val (.int i_), .val (.int j_), .val (.int k_), .val (.int f_), .val (.int g_), .val (.ref r_1), .val (.int (g_ &&& (3 : Int32))), .val (.ref r_221), .val .null, .val .null, .val (.ref b325), .val (.int (1 : Int32)), .val (.ref o_338), .unset] [(.ref r_338)])) st341 ?_
            obtain ⟨T342, X342, e342, st342⟩ := castY X341 hx hZ221 hown221 w26 e341 (Ins.self p338_4) (g := (mkF m 152 #[.val (.int i_), .val (.int j_), .val (.int k_), .val (.int f_), .val (.int g_), .val (.ref r_1), .val (.int (g_ &&& (3 : Int32))), .val (.ref r_221), .val .null, .val .null, .val (.ref b325), .val (.int (1 : Int32)), .val (.ref o_338), .unset] [(.ref r_338)])) rfl rfl (hb hby at_152)
            refine ogo (S' := T342.setTop (mkF m 155 #[.val (.int i_), .val (.int j_), .val (.int k_), .val (.int f_), .val (.int g_), .val (.ref r_1), .val (.int (g_ &&& (3 : Int32))), .val (.ref r_221), .val .null, .val .null, .val (.ref b325), .val (.int (1 : Int32)), .val (.ref o_338), .unset] [(.ref r_338)])) st342 ?_
            refine o_astore X342 hx (l' := #[.val (.int i_), .val (.int j_), .val (.int k_), .val (.int f_), .val (.int g_), .val (.ref r_1), .val (.int (g_ &&& (3 : Int32))), .val (.ref r_221), .val .null, .val .null, .val (.ref b325), .val (.int (1 : Int32)), .val (.ref o_338), .val (.ref r_338)]) (hb hby at_155) rfl rfl ?_
            refine o_aload X342 hx (hb hby at_157) rfl rfl ?_
            obtain ⟨cq343, kq343, q343a, q343b, q343c⟩ := isOf hZ221 e342 p338_4
            obtain ⟨_, _, ⟨T343, L343, kc343, n343⟩, -, X343, ⟨Lc343, hQ343, l343, y343, z343⟩, st343⟩ := X342.virtualBack hx (y := yM24) (z := yM24) hown221 (mvT hZ221 w79) (mvT hZ221 w80) (notFace_of_selects (args := #[]) (mvT hZ221 w82)) (mvT hZ221 w82) (mvT hZ221 w81) (by decide) (backOf (W := 0) (rm_g_queue l Z a0 hw []  r_338 (.ref r_1) T338.heap n0 (c330.keep K338 all0) p338_5 (by first | rfl | assumption | decide | omega)) hZ221 w83 w28 (by decide) (by decide)) q343a q343c (g := (mkF m 159 #[.val (.int i_), .val (.int j_), .val (.int k_), .val (.int f_), .val (.int g_), .val (.ref r_1), .val (.int (g_ &&& (3 : Int32))), .val (.ref r_221), .val .null, .val .null, .val (.ref b325), .val (.int (1 : Int32)), .val (.ref o_338), .val (.ref r_338)] [(.ref r_338)])) rfl (by rw [hml]; rfl) (Steps.refl _) (argsL := []) (rest := []) (lenOf own_pd23 rfl) rfl (by show 2 * 0 + _ ≤ _; exact Nat.le_of_eq rfl) (hb hby at_159) (fun _ _ => ⟨rfl, e342, (by decide : 15 + 0 ≤ _), (by decide : 31 + 0 ≤ _)⟩)
            dsimp only [Pt.U, Pt.locs, Pt.cells, Pt.slots] at X343 l343 y343 z343 st343 hQ343
            subst l343 y343 z343
            obtain ⟨rfl, Nq343, e343⟩ := hQ343
            have N343 := Fr.app N341 Nq343
            refine otr (S' := T343.setTop (mkF m 162 #[.val (.int i_), .val (.int j_), .val (.int k_), .val (.int f_), .val (.int g_), .val (.ref r_1), .val (.int (g_ &&& (3 : Int32))), .val (.ref r_221), .val .null, .val .null, .val (.ref b325), .val (.int (1 : Int32)), .val (.ref o_338), .val (.ref r_338)] [(.ref r_1)])) st343 ?_
            refine o_aload X343 hx (hb hby at_162) rfl rfl ?_
            obtain ⟨_, _, ⟨T344, L344, kc344, n344⟩, -, X344, ⟨Lc344, hQ344, l344, y344, z344⟩, st344⟩ := Jvm.LawKit.callS X343 hx (y := yM13) hown221 (mvT hZ221 w84) (mvT hZ221 w85) (mvT hZ221 w2) (mvT hZ221 w86) (by decide) (backOf (W := 0) (rm_eqRR l Z a0 hw [] z_CS v_FMT s_EMPTY r_1 ba_1 kb_1 (own_ml i_) (own_mv i_) (own_ms i_) r_1 ba_1 kb_1 (own_ml i_) (own_mv i_) (own_ms i_) T338.heap n0 SB (c330.keep K338 all0) (((Exa.ext E325 (p1_2.keep K221)).keep K327).keep K338) (c334.keep K338 nin0) (c335.keep K338 nin0) (c336.keep K338 nin0) (((Exa.ext E325 (p1_2.keep K221)).keep K327).keep K338) (c334.keep K338 nin0) (c335.keep K338 nin0) (c336.keep K338 nin0) p1_6 p1_6) hZ221 w86 w2 (by decide) (by decide)) (g := (mkF m 164 #[.val (.int i_), .val (.int j_), .val (.int k_), .val (.int f_), .val (.int g_), .val (.ref r_1), .val (.int (g_ &&& (3 : Int32))), .val (.ref r_221), .val .null, .val .null, .val (.ref b325), .val (.int (1 : Int32)), .val (.ref o_338), .val (.ref r_338)] [(.ref r_1), (.ref r_1)])) rfl (by rw [hml]; rfl) (argsL := [(.ref r_1), (.ref r_1)]) (rest := []) (lenOf own_pd24 rfl) rfl (by show 2 * 0 + _ ≤ _; exact Nat.le_of_eq rfl) (hb hby at_164) (fun _ _ => ⟨rfl, e343, (by decide : 15 + 0 ≤ _), (by decide : 31 + 0 ≤ _)⟩)
            dsimp only [Pt.U, Pt.locs, Pt.cells, Pt.slots] at X344 l344 y344 z344 st344 hQ344
            subst l344 y344 z344
            obtain ⟨rfl, Nq344, e344⟩ := hQ344
            have N344 := Fr.app N343 Nq344
            refine ogo (S' := T344.setTop (mkF m 167 #[.val (.int i_), .val (.int j_), .val (.int k_), .val (.int f_), .val (.int g_), .val (.ref r_1), .val (.int (g_ &&& (3 : Int32))), .val (.ref r_221), .val .null, .val .null, .val (.ref b325), .val (.int (1 : Int32)), .val (.ref o_338), .val (.ref r_338)] [(.int (own_b (own_ms i_) (own_ms i_)))])) st344 ?_
            rw [own_bs]
            refine o_ifNo X344 hx (hb hby at_167) (feq (by decide : ¬ ((1 : Int32) = (0 : Int32)))).1 ?_
            refine o_aload X344 hx (hb hby at_170) rfl rfl ?_
            obtain ⟨cq345, kq345, q345a, q345b, q345c⟩ := isOf hZ221 e344 p338_4
            obtain ⟨_, _, ⟨T345, L345, kc345, n345⟩, -, X345, ⟨Lc345, hQ345, l345, y345, z345⟩, st345⟩ := X344.virtualBack hx (y := yM25) (z := yM25) hown221 (mvT hZ221 w98) (mvT hZ221 w99) (notFace_of_selects (args := #[]) (mvT hZ221 w101)) (mvT hZ221 w101) (mvT hZ221 w100) (by decide) (backOf (W := 0) (rm_g_space l Z a0 hw []  r_338 .null T338.heap n0 (c330.keep K338 all0) p338_6 (by first | rfl | assumption | decide | omega)) hZ221 w102 w28 (by decide) (by decide)) q345a q345c (g := (mkF m 172 #[.val (.int i_), .val (.int j_), .val (.int k_), .val (.int f_), .val (.int g_), .val (.ref r_1), .val (.int (g_ &&& (3 : Int32))), .val (.ref r_221), .val .null, .val .null, .val (.ref b325), .val (.int (1 : Int32)), .val (.ref o_338), .val (.ref r_338)] [(.ref r_338)])) rfl (by rw [hml]; rfl) (Steps.refl _) (argsL := []) (rest := []) (lenOf own_pd23 rfl) rfl (by show 2 * 0 + _ ≤ _; exact Nat.le_of_eq rfl) (hb hby at_172) (fun _ _ => ⟨rfl, e344, (by decide : 15 + 0 ≤ _), (by decide : 31 + 0 ≤ _)⟩)
            dsimp only [Pt.U, Pt.locs, Pt.cells, Pt.slots] at X345 l345 y345 z345 st345 hQ345
            subst l345 y345 z345
            obtain ⟨rfl, Nq345, e345⟩ := hQ345
            have N345 := Fr.app N344 Nq345
            refine otr (S' := T345.setTop (mkF m 175 #[.val (.int i_), .val (.int j_), .val (.int k_), .val (.int f_), .val (.int g_), .val (.ref r_1), .val (.int (g_ &&& (3 : Int32))), .val (.ref r_221), .val .null, .val .null, .val (.ref b325), .val (.int (1 : Int32)), .val (.ref o_338), .val (.ref r_338)] [.null])) st345 ?_
            refine o_aload X345 hx (hb hby at_175) rfl rfl ?_
            obtain ⟨_, _, ⟨T346, L346, kc346, n346⟩, -, X346, ⟨Lc346, hQ346, l346, y346, z346⟩, st346⟩ := Jvm.LawKit.callS X345 hx (y := yM13) hown221 (mvT hZ221 w84) (mvT hZ221 w85) (mvT hZ221 w2) (mvT hZ221 w86) (by decide) (backOf (W := 0) (rm_eqNN l Z a0 hw []   T338.heap n0 (c330.keep K338 all0) ) hZ221 w86 w2 (by decide) (by decide)) (g := (mkF m 177 #[.val (.int i_), .val (.int j_), .val (.int k_), .val (.int f_), .val (.int g_), .val (.ref r_1), .val (.int (g_ &&& (3 : Int32))), .val (.ref r_221), .val .null, .val .null, .val (.ref b325), .val (.int (1 : Int32)), .val (.ref o_338), .val (.ref r_338)] [.null, .null])) rfl (by rw [hml]; rfl) (argsL := [.null, .null]) (rest := []) (lenOf own_pd24 rfl) rfl (by show 2 * 0 + _ ≤ _; exact Nat.le_of_eq rfl) (hb hby at_177) (fun _ _ => ⟨rfl, e345, (by decide : 15 + 0 ≤ _), (by decide : 31 + 0 ≤ _)⟩)
            dsimp only [Pt.U, Pt.locs, Pt.cells, Pt.slots] at X346 l346 y346 z346 st346 hQ346
            subst l346 y346 z346
            obtain ⟨rfl, Nq346, e346⟩ := hQ346
            have N346 := Fr.app N345 Nq346
            refine ogo (S' := T346.setTop (mkF m 180 #[.val (.int i_), .val (.int j_), .val (.int k_), .val (.int f_), .val (.int g_), .val (.ref r_1), .val (.int (g_ &&& (3 : Int32))), .val (.ref r_221), .val .null, .val .null, .val (.ref b325), .val (.int (1 : Int32)), .val (.ref o_338), .val (.ref r_338)] [(.int (1 : Int32))])) st346 ?_
            refine o_ifNo X346 hx (hb hby at_180) (feq (by decide : ¬ ((1 : Int32) = (0 : Int32)))).1 ?_
            refine o_aload X346 hx (hb hby at_183) rfl rfl ?_
            obtain ⟨cq347, kq347, q347a, q347b, q347c⟩ := isOf hZ221 e346 p338_4
            obtain ⟨_, _, ⟨T347, L347, kc347, n347⟩, -, X347, ⟨Lc347, hQ347, l347, y347, z347⟩, st347⟩ := X346.virtualBack hx (y := yM26) (z := yM26) hown221 (mvT hZ221 w103) (mvT hZ221 w104) (notFace_of_selects (args := #[]) (mvT hZ221 w106)) (mvT hZ221 w106) (mvT hZ221 w105) (by decide) (backOf (W := 0) (rm_g_contentId l Z a0 hw []  r_338 .null T338.heap n0 (c330.keep K338 all0) p338_7 (by first | rfl | assumption | decide | omega)) hZ221 w107 w28 (by decide) (by decide)) q347a q347c (g := (mkF m 185 #[.val (.int i_), .val (.int j_), .val (.int k_), .val (.int f_), .val (.int g_), .val (.ref r_1), .val (.int (g_ &&& (3 : Int32))), .val (.ref r_221), .val .null, .val .null, .val (.ref b325), .val (.int (1 : Int32)), .val (.ref o_338), .val (.ref r_338)] [(.ref r_338)])) rfl (by rw [hml]; rfl) (Steps.refl _) (argsL := []) (rest := []) (lenOf own_pd23 rfl) rfl (by show 2 * 0 + _ ≤ _; exact Nat.le_of_eq rfl) (hb hby at_185) (fun _ _ => ⟨rfl, e346, (by decide : 15 + 0 ≤ _), (by decide : 31 + 0 ≤ _)⟩)
            dsimp only [Pt.U, Pt.locs, Pt.cells, Pt.slots] at X347 l347 y347 z347 st347 hQ347
            subst l347 y347 z347
            obtain ⟨rfl, Nq347, e347⟩ := hQ347
            have N347 := Fr.app N346 Nq347
            refine otr (S' := T347.setTop (mkF m 188 #[.val (.int i_), .val (.int j_), .val (.int k_), .val (.int f_), .val (.int g_), .val (.ref r_1), .val (.int (g_ &&& (3 : Int32))), .val (.ref r_221), .val .null, .val .null, .val (.ref b325), .val (.int (1 : Int32)), .val (.ref o_338), .val (.ref r_338)] [.null])) st347 ?_
            refine o_aload X347 hx (hb hby at_188) rfl rfl ?_
            obtain ⟨_, _, ⟨T348, L348, kc348, n348⟩, -, X348, ⟨Lc348, hQ348, l348, y348, z348⟩, st348⟩ := Jvm.LawKit.callS X347 hx (y := yM13) hown221 (mvT hZ221 w84) (mvT hZ221 w85) (mvT hZ221 w2) (mvT hZ221 w86) (by decide) (backOf (W := 0) (rm_eqNN l Z a0 hw []   T338.heap n0 (c330.keep K338 all0) ) hZ221 w86 w2 (by decide) (by decide)) (g := (mkF m 190 #[.val (.int i_), .val (.int j_), .val (.int k_), .val (.int f_), .val (.int g_), .val (.ref r_1), .val (.int (g_ &&& (3 : Int32))), .val (.ref r_221), .val .null, .val .null, .val (.ref b325), .val (.int (1 : Int32)), .val (.ref o_338), .val (.ref r_338)] [.null, .null])) rfl (by rw [hml]; rfl) (argsL := [.null, .null]) (rest := []) (lenOf own_pd24 rfl) rfl (by show 2 * 0 + _ ≤ _; exact Nat.le_of_eq rfl) (hb hby at_190) (fun _ _ => ⟨rfl, e347, (by decide : 15 + 0 ≤ _), (by decide : 31 + 0 ≤ _)⟩)
            dsimp only [Pt.U, Pt.locs, Pt.cells, Pt.slots] at X348 l348 y348 z348 st348 hQ348
            subst l348 y348 z348
            obtain ⟨rfl, Nq348, e348⟩ := hQ348
            have N348 := Fr.app N347 Nq348
            refine ogo (S' := T348.setTop (mkF m 193 #[.val (.int i_), .val (.int j_), .val (.int k_), .val (.int f_), .val (.int g_), .val (.ref r_1), .val (.int (g_ &&& (3 : Int32))), .val (.ref r_221), .val .null, .val .null, .val (.ref b325), .val (.int (1 : Int32)), .val (.ref o_338), .val (.ref r_338)] [(.int (1 : Int32))])) st348 ?_
            refine o_ifNo X348 hx (hb hby at_193) (feq (by decide : ¬ ((1 : Int32) = (0 : Int32)))).1 ?_
            refine o_iconst X348 hx (1 : Int32) (hb hby at_196) rfl ?_
            refine o_goto X348 hx 201 (hb hby at_197) (by decide) (by decide) ?_
            refine oendS X348 hlk hS221 (Nat.le_trans (Nat.le_refl _) (Nat.le_trans (Nat.le_trans E325.1 K327.1) K338.1)) e348 hZ221 hEL hs0 (CHr.trans (CHr.trans (CHr.trans (CHr.trans (CHr.trans (CHr.refl H0) C1) C221) (CHr.ext E325 H222)) (CHr.keep K327 (allS (Safe.exa hZ221.alike A325 (by decide) (by decide)) all0) H326)) (CHr.keep K338 all0 H328)) (v := some (.int (1 : Int32))) (fun h => by rw [hret] at h; cases h) (fun fs hr => retN X348 hx (t := .boolean) hret (by simp) (hb hby at_201) hr) (by decide) (by decide) ?_
            show own_Q_law Z _ _ _ _ _ _ _ _ h0 n0 _ T348.heap _
            rw [e348]
            exact ⟨rfl, N348, ((((((Keep.refl h0 []).trans K1 all0).trans K221 all0).ext E325).trans K327 (allS (Or.inr (Nat.le_trans (Nat.le_trans K1.1 K221.1) (Nat.le_of_eq g325.symm))) all0)).trans K338 all0)⟩
          · rw [own_bf hc337]
            refine o_ifYes X329 hx 116 (hb hby at_109) (teq (by decide : (0 : Int32) = (0 : Int32))).1 (by decide) (by decide) ?_
            refine o_iconst X329 hx (0 : Int32) (hb hby at_116) rfl ?_
            refine o_istore X329 hx (l' := #[.val (.int i_), .val (.int j_), .val (.int k_), .val (.int f_), .val (.int g_), .val (.ref r_1), .val (.int (g_ &&& (3 : Int32))), .val (.ref r_221), .val .null, .val .null, .val (.ref b325), .val (.int (0 : Int32)), .unset, .unset]) (hb hby at_117) rfl ?_
            refine o_aload X329 hx (hb hby at_119) rfl rfl ?_
            refine o_aload X329 hx (hb hby at_121) rfl rfl ?_
            obtain ⟨cq349, kq349, q349a, q349b, q349c⟩ := isOf hZ221 e329 p327_0
            obtain ⟨_, _, ⟨T349, L349, kc349, n349⟩, -, X349, ⟨Lc349, hQ349, l349, y349, z349⟩, st349⟩ := X329.virtualBack hx (y := yM27) (z := yM27) hown221 (mvT hZ221 w44) (mvT hZ221 w45) (notFace_of_selects (args := #[]) (mvT hZ221 w47)) (mvT hZ221 w47) (mvT hZ221 w46) (by decide) (backOf (W := 0) (rm_onqF l Z a0 hw [] z_CS v_FMT s_EMPTY b325 r_221 ba_221 kb_221 (own_ml j_) (own_mv j_) (own_ms j_) r_1 ba_1 kb_1 (own_ml i_) (own_mv i_) (own_ms i_) T327.heap n0 SB c330 p327_0 p327_1 ((Exa.ext E325 p221_2).keep K327) c331 c332 c333 ((Exa.ext E325 (p1_2.keep K221)).keep K327) c334 c335 c336 p221_6 p1_6 (Nat.ne_of_gt (Nat.lt_of_lt_of_le (Nat.lt_of_lt_of_le p1_2.lt (Nat.le_refl _)) p221_0)) hc337) hZ221 w48 w28 (by decide) (by decide)) q349a q349c (g := (mkF m 123 #[.val (.int i_), .val (.int j_), .val (.int k_), .val (.int f_), .val (.int g_), .val (.ref r_1), .val (.int (g_ &&& (3 : Int32))), .val (.ref r_221), .val .null, .val .null, .val (.ref b325), .val (.int (0 : Int32)), .unset, .unset] [(.ref r_1), (.ref b325)])) rfl (by rw [hml]; rfl) (Steps.refl _) (argsL := [(.ref r_1)]) (rest := []) (lenOf own_pd21 rfl) rfl (by show 2 * 0 + _ ≤ _; exact Nat.le_of_eq rfl) (hb hby at_123) (fun _ _ => ⟨rfl, e329, (by decide : 13 + 0 ≤ _), (by decide : 27 + 0 ≤ _)⟩)
            dsimp only [Pt.U, Pt.locs, Pt.cells, Pt.slots] at X349 l349 y349 z349 st349 hQ349
            subst l349 y349 z349
            obtain ⟨rfl, Nq349, e349⟩ := hQ349
            have N349 := Fr.app N329 Nq349
            refine otr (S' := T349.setTop (mkF m 126 #[.val (.int i_), .val (.int j_), .val (.int k_), .val (.int f_), .val (.int g_), .val (.ref r_1), .val (.int (g_ &&& (3 : Int32))), .val (.ref r_221), .val .null, .val .null, .val (.ref b325), .val (.int (0 : Int32)), .unset, .unset] [(.ref s_EMPTY)])) st349 ?_
            refine o_astore X349 hx (l' := #[.val (.int i_), .val (.int j_), .val (.int k_), .val (.int f_), .val (.int g_), .val (.ref r_1), .val (.int (g_ &&& (3 : Int32))), .val (.ref r_221), .val .null, .val .null, .val (.ref b325), .val (.int (0 : Int32)), .val (.ref s_EMPTY), .unset]) (hb hby at_126) rfl rfl ?_
            refine o_aload X349 hx (hb hby at_128) rfl rfl ?_
            obtain ⟨cq350, kq350, q350a, q350b, q350c⟩ := isOf hZ221 e349 (Exa.ext c330.2 E_EMPTY)
            obtain ⟨_, _, ⟨T350, L350, kc350, n350⟩, -, X350, ⟨Lc350, hQ350, l350, y350, z350⟩, st350⟩ := X349.virtualBack hx (y := yM22) (z := yM22) hown221 (mvT hZ221 w68) (mvT hZ221 w69) (notFace_of_selects (args := #[]) (mvT hZ221 w71)) (mvT hZ221 w71) (mvT hZ221 w70) (by decide) (backOf (W := 0) (rm_oppN l Z a0 hw []  s_EMPTY T327.heap n0 c330 (Fld.ext c330.2 F_EMPTY)) hZ221 w72 w53 (by decide) (by decide)) q350a q350c (g := (mkF m 130 #[.val (.int i_), .val (.int j_), .val (.int k_), .val (.int f_), .val (.int g_), .val (.ref r_1), .val (.int (g_ &&& (3 : Int32))), .val (.ref r_221), .val .null, .val .null, .val (.ref b325), .val (.int (0 : Int32)), .val (.ref s_EMPTY), .unset] [(.ref s_EMPTY)])) rfl (by rw [hml]; rfl) (Steps.refl _) (argsL := []) (rest := []) (lenOf own_pd8 rfl) rfl (by show 2 * 0 + _ ≤ _; exact Nat.le_of_eq rfl) (hb hby at_130) (fun _ _ => ⟨rfl, e349, (by decide : 13 + 0 ≤ _), (by decide : 27 + 0 ≤ _)⟩)
            dsimp only [Pt.U, Pt.locs, Pt.cells, Pt.slots] at X350 l350 y350 z350 st350 hQ350
            subst l350 y350 z350
            obtain ⟨rfl, Nq350, e350⟩ := hQ350
            have N350 := Fr.app N349 Nq350
            refine otr (S' := T350.setTop (mkF m 133 #[.val (.int i_), .val (.int j_), .val (.int k_), .val (.int f_), .val (.int g_), .val (.ref r_1), .val (.int (g_ &&& (3 : Int32))), .val (.ref r_221), .val .null, .val .null, .val (.ref b325), .val (.int (0 : Int32)), .val (.ref s_EMPTY), .unset] [(.int (0 : Int32))])) st350 ?_
            refine o_iload X350 hx (hb hby at_133) rfl ?_
            refine o_icmpYes X350 hx 140 (hb hby at_135) (teq (by decide : (0 : Int32) = (0 : Int32))).1 (by decide) (by decide) ?_
            refine o_iload X350 hx (hb hby at_140) rfl ?_
            refine o_ifNo X350 hx (hb hby at_142) (teq (by decide : (0 : Int32) = (0 : Int32))).2 ?_
            refine o_iconst X350 hx (1 : Int32) (hb hby at_145) rfl ?_
            refine oendS X350 hlk hS221 (Nat.le_trans (Nat.le_refl _) (Nat.le_trans E325.1 K327.1)) e350 hZ221 hEL hs0 (CHr.trans (CHr.trans (CHr.trans (CHr.trans (CHr.refl H0) C1) C221) (CHr.ext E325 H222)) (CHr.keep K327 (allS (Safe.exa hZ221.alike A325 (by decide) (by decide)) all0) H326)) (v := some (.int (1 : Int32))) (fun h => by rw [hret] at h; cases h) (fun fs hr => retN X350 hx (t := .boolean) hret (by simp) (hb hby at_146) hr) (by decide) (by decide) ?_
            show own_Q_law Z _ _ _ _ _ _ _ _ h0 n0 _ T350.heap _
            rw [e350]
            exact ⟨rfl, N350, (((((Keep.refl h0 []).trans K1 all0).trans K221 all0).ext E325).trans K327 (allS (Or.inr (Nat.le_trans (Nat.le_trans K1.1 K221.1) (Nat.le_of_eq g325.symm))) all0))⟩
set_option maxRecDepth 65536 in
set_option maxHeartbeats 40000000 in
theorem comes_1 {Post : Tables → Env → Array Value → State → Outcome → State → Prop} (hpost : ∀ tb e args s v u, (limb_1_1.after args s (.returned v) u = true ∧ limb_1_2.after args s (.returned v) u = true ∧ True) → ReturnedEndW s (.returned v) u (Jvm.fieldLocs frame_1_writes args s ++ Jvm.arrayLocs frame_1_arrays args s ++ Jvm.staticLocs frame_1_statics s) 40 1216 → Post tb e args s (.returned v) u) :
    ArmFor flags0 classFile x code maxLocals ret World_1 tables_1 room_1 Calls_1 rest_1 Pre_1 Post := by
  intro l hfl _ _ p e ha hc hk s m args below hf hA hF happ hP
  obtain ⟨hcalls, hrest, hpre⟩ := hP
  obtain ⟨-, -, -, hnamed, -, -, -, hat⟩ := (Spec.applies_iff hf).mp happ
  obtain ⟨hg, hn⟩ := and_e (Cond.before_iff.mp (show (Jvm.Cond.and given_1 narrow_1).before args s = true from hpre))
  obtain ⟨g0, gr0⟩ := and_e hg
  obtain ⟨g1, gr1⟩ := and_e gr0
  obtain ⟨g2, gr2⟩ := and_e gr1
  obtain ⟨g3, gr3⟩ := and_e gr2
  obtain ⟨g4, gr4⟩ := and_e gr3
  obtain ⟨w0, w1, w2, w3, w4, rfl⟩ : ∃ w0 w1 w2 w3 w4 : Value, args = #[w0, w1, w2, w3, w4] := by
    have hs : args.size = 5 := by simpa [Cond.value, given_1] using g0
    obtain ⟨L⟩ := args
    match L, hs with
    | [w0, w1, w2, w3, w4], _ => exact ⟨w0, w1, w2, w3, w4, rfl⟩
  have hw := fun d (hd : d ∈ tables_1) => atoms_spec (ws := Jvm.Cond.code x code maxLocals ret :: tables_1) hat d (List.mem_cons_of_mem _ hd)
  obtain ⟨hsets, hown0⟩ := atoms_of _ (rest_1_c_eq ▸ (show rest_1_c.before _ s = true from hrest))
  have hfit : Fit s := fun {y c} hc i hi => by
    obtain ⟨ha, rfl⟩ := Array.getElem?_eq_some_iff.mp hc
    have q := List.all_eq_true.mp ((Array.all_eq_true_iff_forall_mem.mp hF) _ (Array.getElem_mem ha)) i (List.mem_range.mpr hi)
    simpa [Array.getElem?_eq_getElem hi] using q
  obtain ⟨i0, ei0⟩ := is_v g1
  obtain rfl : w0 = (.int i0) := Option.some.inj ei0
  obtain ⟨i1, ei1⟩ := is_v g2
  obtain rfl : w1 = (.int i1) := Option.some.inj ei1
  obtain ⟨i2, ei2⟩ := is_v g3
  obtain rfl : w2 = (.int i2) := Option.some.inj ei2
  obtain ⟨i3, ei3⟩ := is_v g4
  obtain rfl : w3 = (.int i3) := Option.some.inj ei3
  obtain ⟨i4, ei4⟩ := is_v gr4
  obtain rfl : w4 = (.int i4) := Option.some.inj ei4
  obtain ⟨z_CS, ev_CS⟩ := is_v (Cond.before_iff.mp (hsets _ (List.mem_of_getElem? (i := 1) rfl)))
  have n_CS := not_v (Cond.before_iff.mp (hsets _ (List.mem_of_getElem? (i := 2) rfl)))
  obtain ⟨v_FMT, ev_FMT, rf_FMT⟩ := isR_v (Cond.before_iff.mp (hsets _ (List.mem_of_getElem? (i := 8) rfl)))
  obtain ⟨s_EMPTY, ev_EMPTY⟩ := exa_v (Cond.before_iff.mp (hsets _ (List.mem_of_getElem? (i := 11) rfl)))
  have hcw : Jvm.Lit.compactW.before _ s = true := (hsets _ (List.mem_of_getElem? (i := 2) rfl))
  have hCH : CHv s own_EL s.vm s.heap := CHv.start (own_EW hw) (fun q hq => hcalls.1 q hq) hcw (hw _ (List.mem_of_getElem? (i := 19) rfl)) (hw _ (List.mem_of_getElem? (i := 5) rfl))
  have SB : own_Start s z_CS v_FMT s_EMPTY := ⟨(Sta.start ev_CS (Or.inl (hsets _ (List.mem_of_getElem? (i := 0) rfl)))), (gotF (Cond.eq_ints ev_CS (Term.int_eval (0))) n_CS), (Sta.start ev_FMT (Or.inl (hsets _ (List.mem_of_getElem? (i := 7) rfl)))), rf_FMT, (Sta.start ev_EMPTY (Or.inl (hsets _ (List.mem_of_getElem? (i := 10) rfl)))), (Exa.start ev_EMPTY (Cond.before_iff.mp (hsets _ (List.mem_of_getElem? (i := 11) rfl)))), (Fld.start ((fld_at ev_EMPTY).symm.trans (own_eqnull (Cond.before_iff.mp (hsets _ (List.mem_of_getElem? (i := 12) rfl))))))⟩
  obtain ⟨n, o, h1, h2, h3, _, L, rfl, ⟨rfl, N, -⟩, -, hq⟩ := rm_law l s _ hw tables_1 z_CS v_FMT s_EMPTY i0 i1 i2 i3 i4 s.heap s.heap.size SB (Old.start s)  p e ha hc hk s m _ below hf ((Spec.applies_iff_loose hf).mp happ).1 ⟨rfl, State.Warmed39.refl s, rfl, hCH⟩ trivial
  refine ⟨n, _, h1, h2, h3, hpost _ _ _ _ _ _ ⟨Cond.after_iff.mpr rfl, Cond.after_iff.mpr (eq_i res_at (Term.int_eval (1)) rfl), trivial⟩ ⟨hq.1, hq.2.1, hq.2.2.1, (hq.2.2.2.sift fun y hy => Or.inr (N y hy)).mono (by decide) (by decide)⟩⟩
theorem main_1_1 : Claimed_1_1 := comes_1 fun _ _ _ _ _ _ h hF => ⟨h.1, hF⟩
theorem main_1_2 : Claimed_1_2 := comes_1 fun _ _ _ _ _ _ h hF => ⟨h.2.1, hF⟩
end Jvm.Pilot.@@N@@
namespace Jvm.Pilot.@@N@@
open Jvm Jvm.ClassFile Sem Op Lib Jvm.Free Jvm.Stand Jvm.Pilot.@@N@@.Jvm.D
/-! MADE BY PROGRAM (witnessworld.py) out of the Statement's table words and the real class files: 23 classes; the members and pool entries that the words name. The judged class is class 1, her method 3. -/
namespace start1
open Jvm.ClassFile
def u (s : String) : CpInfo := .utf8 (stringToUtf16 s)
/-- a pool by its gaps: so many unusable entries, then the entry; so many at the end -/
def gap : Nat → List CpInfo → List CpInfo
  | 0, r => r
  | n + 1, r => .unusable :: gap n r
def poolList (es : List (Nat × CpInfo)) (last : Nat) : List CpInfo := es.foldr (fun e r => gap e.1 (e.2 :: r)) (gap last [])
def pool (es : List (Nat × CpInfo)) (last : Nat) : Array CpInfo := ⟨poolList es last⟩
def fileOf (pool : Array CpInfo) (this : Nat) (attrs : Array Attribute := #[]) (ms : Array MethodInfo := #[]) (fl : Nat := 33) (sup : Nat := 0) (ifs : Array Nat := #[]) (fds : Array FieldInfo := #[]) : ClassFile where
  minorVersion := 0
  majorVersion := 65
  constantPool := pool
  accessFlags := fl
  thisClass := this
  superClass := sup
  interfaces := ifs
  fields := fds
  methods := ms
  attributes := attrs
def plain (name : String) (sup : Option ClassId) : Class where
  name := name
  kind := .ordinary
  loader := none
  accessFlags := 33
  super := sup
  interfaces := #[]
  cf := none
  fields := #[]
  methods := #[]
  instanceTypes := #[]
  staticTypes := #[]
  resolved := #[]
  callSites := []
  init := .initialized
  statics := none
  mirror := none

def pool0 : Array CpInfo := pool [(5, u "<init>"), (0, u "()V"), (1, .class_ 10), (1, u "java/lang/Object")] 113

def k0c0 : Code := { maxStack := 0, maxLocals := 1, code := object_method_1_code, exceptionTable := #[], attributes := #[] }
def k0m0 : Method := { name := "<init>", desc := "()V", sig := { parameters := [], returnType := none }, accessFlags := 1, code := some k0c0 }
/-- java/lang/Object -/
def k0 : Class := { plain "java/lang/Object" none with
  accessFlags := 33
  interfaces := #[]
  cf := some (fileOf pool0 8 #[] #[{ accessFlags := 1, nameIndex := 5, descriptorIndex := 6, attributes := #[] }] 33 0 #[] #[])
  fields := #[]
  methods := #[k0m0]
  instanceTypes := #[]
  staticTypes := #[]
  resolved := Array.replicate 124 none
  statics := none }

def pool1 : Array CpInfo := pool [(2, .class_ 4), (1, u "java/lang/Object"), (0, u "<init>"), (0, u "()V"), (0, .class_ 8), (0, u "java/lang/String"), (0, .methodref 7 10), (0, .nameAndType 5 11), (0, u "([C)V"), (0, .methodref 7 13), (0, .nameAndType 14 15), (0, u "length"), (0, u "()I"), (0, .methodref 7 17), (0, .nameAndType 18 19), (0, u "charAt"), (0, u "(I)C"), (0, .methodref 21 22), (0, .class_ 23), (0, .nameAndType 24 25), (0, u "com/example/reliquary/reliquary/DeadLetterSelectionOnQueuePinLaw"), (0, u "mk"), (0, u "(I)Ljava/lang/String;"), (0, .class_ 27), (0, u "com/example/reliquary/reliquary/DeadLetterSelection"), (0, .methodref 26 29), (0, .nameAndType 5 30), (0, u "(Ljava/lang/String;Ljava/lang/String;Ljava/lang/String;)V"), (0, .methodref 21 32), (0, .nameAndType 33 34), (0, u "eq"), (0, u "(Ljava/lang/String;Ljava/lang/String;)Z"), (0, .methodref 26 36), (0, .nameAndType 37 38), (0, u "onQueue"), (0, u "(Ljava/lang/String;)Ljava/util/Optional;"), (0, .methodref 40 41), (0, .class_ 42), (0, .nameAndType 43 44), (0, u "java/util/Optional"), (0, u "isPresent"), (0, u "()Z"), (0, .methodref 40 46), (0, .nameAndType 47 48), (0, u "get"), (0, u "()Ljava/lang/Object;"), (0, .methodref 26 50), (0, .nameAndType 51 52), (0, u "queue"), (0, u "()Ljava/lang/String;"), (0, .methodref 26 54), (0, .nameAndType 55 52), (0, u "space"), (0, .methodref 26 57), (0, .nameAndType 58 52), (0, u "contentId"), (3, u "law"), (0, u "(IIIII)Z")] 2

def k1m0 : Method := { name := "<init>", desc := "()V", sig := { parameters := [], returnType := none }, accessFlags := 2, code := none }
def k1c1 : Code := { maxStack := 6, maxLocals := 4, code := method_2_code, exceptionTable := #[], attributes := #[] }
def k1m1 : Method := { name := "mk", desc := "(I)Ljava/lang/String;", sig := { parameters := [.int], returnType := some (.object "java/lang/String") }, accessFlags := 10, code := some k1c1 }
def k1c2 : Code := { maxStack := 3, maxLocals := 2, code := method_3_code, exceptionTable := #[], attributes := #[] }
def k1m2 : Method := { name := "eq", desc := "(Ljava/lang/String;Ljava/lang/String;)Z", sig := { parameters := [(.object "java/lang/String"), (.object "java/lang/String")], returnType := some .boolean }, accessFlags := 10, code := some k1c2 }
def k1c3 : Code := { maxStack := 5, maxLocals := 14, code := code, exceptionTable := #[], attributes := #[] }
def k1m3 : Method := { name := "law", desc := "(IIIII)Z", sig := { parameters := [.int, .int, .int, .int, .int], returnType := some .boolean }, accessFlags := 9, code := some k1c3 }
/-- com/example/reliquary/reliquary/DeadLetterSelectionOnQueuePinLaw -/
def k1 : Class := { plain "com/example/reliquary/reliquary/DeadLetterSelectionOnQueuePinLaw" (some 0) with
  accessFlags := 49
  interfaces := #[]
  cf := some (fileOf pool1 21 #[] #[{ accessFlags := 2, nameIndex := 5, descriptorIndex := 6, attributes := #[] }, { accessFlags := 10, nameIndex := 24, descriptorIndex := 25, attributes := #[] }, { accessFlags := 10, nameIndex := 33, descriptorIndex := 34, attributes := #[] }, { accessFlags := 9, nameIndex := 62, descriptorIndex := 63, attributes := #[] }] 49 2 #[] #[])
  fields := #[]
  methods := #[k1m0, k1m1, k1m2, k1m3]
  instanceTypes := #[]
  staticTypes := #[]
  resolved := Array.replicate 66 none
  statics := none }

def pool2 : Array CpInfo := pool [(1, .class_ 2), (0, u "java/io/Serializable"), (0, .class_ 4), (0, u "java/lang/Object")] 2

/-- java/io/Serializable -/
def k2 : Class := { plain "java/io/Serializable" (some 0) with
  accessFlags := 1537
  interfaces := #[]
  cf := some (fileOf pool2 1 #[] #[] 1537 3 #[] #[])
  fields := #[]
  methods := #[]
  instanceTypes := #[]
  staticTypes := #[]
  resolved := Array.replicate 7 none
  statics := none }

def pool3 : Array CpInfo := pool [(1, .class_ 2), (0, u "java/lang/Comparable"), (0, .class_ 4), (0, u "java/lang/Object")] 7

/-- java/lang/Comparable -/
def k3 : Class := { plain "java/lang/Comparable" (some 0) with
  accessFlags := 1537
  interfaces := #[]
  cf := some (fileOf pool3 1 #[] #[] 1537 3 #[] #[])
  fields := #[]
  methods := #[]
  instanceTypes := #[]
  staticTypes := #[]
  resolved := Array.replicate 12 none
  statics := none }

def pool4 : Array CpInfo := pool [(2, .class_ 4), (1, u "java/lang/CharSequence"), (42, .class_ 48), (0, u "java/lang/CharSequence$1CodePointIterator"), (10, .class_ 60), (0, u "java/lang/CharSequence$1CharIterator"), (5, .class_ 67), (0, u "java/lang/Object")] 63

/-- java/lang/CharSequence -/
def k4 : Class := { plain "java/lang/CharSequence" (some 0) with
  accessFlags := 1537
  interfaces := #[]
  cf := some (fileOf pool4 2 #[.nestMembers #[47, 59]] #[] 1537 66 #[] #[])
  fields := #[]
  methods := #[]
  instanceTypes := #[]
  staticTypes := #[]
  resolved := Array.replicate 131 none
  statics := none }

def pool5 : Array CpInfo := pool [(1, .class_ 2), (0, u "java/lang/constant/Constable"), (0, .class_ 4), (0, u "java/lang/Object")] 6

/-- java/lang/constant/Constable -/
def k5 : Class := { plain "java/lang/constant/Constable" (some 0) with
  accessFlags := 1537
  interfaces := #[]
  cf := some (fileOf pool5 1 #[] #[] 1537 3 #[] #[])
  fields := #[]
  methods := #[]
  instanceTypes := #[]
  staticTypes := #[]
  resolved := Array.replicate 11 none
  statics := none }

def pool6 : Array CpInfo := pool [(1, .class_ 2), (0, u "java/lang/constant/ConstantDesc"), (0, .class_ 4), (0, u "java/lang/Object")] 32

/-- java/lang/constant/ConstantDesc -/
def k6 : Class := { plain "java/lang/constant/ConstantDesc" (some 0) with
  accessFlags := 1537
  interfaces := #[]
  cf := some (fileOf pool6 1 #[] #[] 1537 3 #[] #[])
  fields := #[]
  methods := #[]
  instanceTypes := #[]
  staticTypes := #[]
  resolved := Array.replicate 37 none
  statics := none }

def pool7 : Array CpInfo := pool [(1, .methodref 2 3), (0, .class_ 4), (0, .nameAndType 5 6), (0, u "java/lang/Object"), (0, u "<init>"), (0, u "()V"), (0, .string 8), (0, u ""), (0, .fieldref 10 11), (0, .class_ 12), (0, .nameAndType 13 14), (0, u "java/lang/String"), (0, u "value"), (0, u "[B"), (0, .fieldref 10 16), (0, .nameAndType 17 18), (0, u "coder"), (0, u "B"), (2, u "hash"), (0, u "I"), (2, u "hashIsZero"), (0, u "Z"), (0, .methodref 10 28), (0, .nameAndType 5 29), (0, u "([CIILjava/lang/Void;)V"), (8, .fieldref 10 39), (0, .nameAndType 40 26), (0, u "COMPACT_STRINGS"), (1, .class_ 44), (1, u "java/lang/StringUTF16"), (0, u "compress"), (1, .methodref 42 48), (0, .nameAndType 49 50), (0, u "coderFromArrayLen"), (0, u "([BI)B"), (56, .class_ 109), (1, u "java/lang/StringLatin1"), (32, u "()Z"), (34, .methodref 42 178), (0, .nameAndType 45 179), (0, u "([CII)[B"), (154, u "()I"), (0, .methodref 10 336), (0, .nameAndType 17 337), (0, u "()B"), (25, u "([BI)C"), (27, u "(II)V"), (35, u "(I)C"), (64, .methodref 10 493), (0, .nameAndType 494 142), (0, u "isLatin1"), (0, .methodref 107 496), (0, .nameAndType 497 363), (0, u "charAt"), (3, u "checkIndex"), (5, u "length"), (33, .methodref 107 542), (0, .nameAndType 543 544), (0, u "equals"), (0, u "([B[B)Z"), (28, u "(Ljava/lang/Object;)Z"), (1, .class_ 576), (0, u "java/lang/CharSequence"), (22, u "CASE_INSENSITIVE_ORDER"), (0, u "Ljava/util/Comparator;"), (409, u "([C)V"), (42, .fieldref 1054 1055), (0, .class_ 1056), (0, .nameAndType 1057 1058), (0, u "jdk/internal/util/Preconditions"), (0, u "SIOOBE_FORMATTER"), (0, u "Ljava/util/function/BiFunction;"), (0, .methodref 1054 1060), (0, .nameAndType 501 1061), (0, u "(IILjava/util/function/BiFunction;)I"), (39, u "serialPersistentFields"), (0, u "[Ljava/io/ObjectStreamField;"), (0, .class_ 1104), (0, u "java/lang/String$CaseInsensitiveComparator"), (1, .class_ 1107), (0, u "java/io/Serializable"), (0, .class_ 1109), (0, u "java/lang/Comparable"), (0, .class_ 1111), (0, u "java/lang/constant/Constable"), (0, .class_ 1113), (0, u "java/lang/constant/ConstantDesc"), (2, u "serialVersionUID"), (0, u "J"), (3, u "REPL"), (0, u "C"), (2, u "LATIN1"), (1, u "UTF16")] 323

def k7m0 : Method := { name := "<init>", desc := "()V", sig := { parameters := [], returnType := none }, accessFlags := 1, code := none }
def k7c1 : Code := { maxStack := 5, maxLocals := 2, code := jdk_42_method_3_code, exceptionTable := #[], attributes := #[] }
def k7m1 : Method := { name := "<init>", desc := "([C)V", sig := { parameters := [(.array .char)], returnType := none }, accessFlags := 1, code := some k7c1 }
def k7c2 : Code := { maxStack := 2, maxLocals := 1, code := jdk_42_method_54_code, exceptionTable := #[], attributes := #[] }
def k7m2 : Method := { name := "length", desc := "()I", sig := { parameters := [], returnType := some .int }, accessFlags := 1, code := some k7c2 }
def k7c3 : Code := { maxStack := 2, maxLocals := 2, code := jdk_42_method_56_code, exceptionTable := #[], attributes := #[] }
def k7m3 : Method := { name := "charAt", desc := "(I)C", sig := { parameters := [.int], returnType := some .char }, accessFlags := 1, code := some k7c3 }
def k7c4 : Code := { maxStack := 2, maxLocals := 3, code := jdk_42_method_66_code, exceptionTable := #[], attributes := #[] }
def k7m4 : Method := { name := "equals", desc := "(Ljava/lang/Object;)Z", sig := { parameters := [(.object "java/lang/Object")], returnType := some .boolean }, accessFlags := 1, code := some k7c4 }
def k7c5 : Code := { maxStack := 4, maxLocals := 6, code := jdk_42_method_149_code, exceptionTable := #[], attributes := #[] }
def k7m5 : Method := { name := "<init>", desc := "([CIILjava/lang/Void;)V", sig := { parameters := [(.array .char), .int, .int, (.object "java/lang/Void")], returnType := none }, accessFlags := 2, code := some k7c5 }
def k7c6 : Code := { maxStack := 1, maxLocals := 1, code := jdk_42_method_152_code, exceptionTable := #[], attributes := #[] }
def k7m6 : Method := { name := "coder", desc := "()B", sig := { parameters := [], returnType := some .byte }, accessFlags := 0, code := some k7c6 }
def k7c7 : Code := { maxStack := 1, maxLocals := 1, code := jdk_42_method_154_code, exceptionTable := #[], attributes := #[] }
def k7m7 : Method := { name := "isLatin1", desc := "()Z", sig := { parameters := [], returnType := some .boolean }, accessFlags := 0, code := some k7c7 }
def k7c8 : Code := { maxStack := 3, maxLocals := 2, code := jdk_42_method_155_code, exceptionTable := #[], attributes := #[] }
def k7m8 : Method := { name := "checkIndex", desc := "(II)V", sig := { parameters := [.int, .int], returnType := none }, accessFlags := 8, code := some k7c8 }
/-- java/lang/String -/
def k7 : Class := { plain "java/lang/String" (some 0) with
  accessFlags := 49
  interfaces := #[2, 3, 4, 5, 6]
  cf := some (fileOf pool7 10 #[.nestMembers #[1103]] #[{ accessFlags := 1, nameIndex := 5, descriptorIndex := 6, attributes := #[] }, { accessFlags := 1, nameIndex := 5, descriptorIndex := 1010, attributes := #[] }, { accessFlags := 1, nameIndex := 507, descriptorIndex := 334, attributes := #[] }, { accessFlags := 1, nameIndex := 497, descriptorIndex := 427, attributes := #[] }, { accessFlags := 1, nameIndex := 543, descriptorIndex := 573, attributes := #[] }, { accessFlags := 2, nameIndex := 5, descriptorIndex := 29, attributes := #[] }, { accessFlags := 0, nameIndex := 17, descriptorIndex := 337, attributes := #[] }, { accessFlags := 0, nameIndex := 494, descriptorIndex := 142, attributes := #[] }, { accessFlags := 8, nameIndex := 501, descriptorIndex := 391, attributes := #[] }] 49 2 #[1106, 1108, 575, 1110, 1112] #[{ accessFlags := 18, nameIndex := 13, descriptorIndex := 14, attributes := #[] }, { accessFlags := 18, nameIndex := 17, descriptorIndex := 18, attributes := #[] }, { accessFlags := 2, nameIndex := 21, descriptorIndex := 22, attributes := #[] }, { accessFlags := 2, nameIndex := 25, descriptorIndex := 26, attributes := #[] }, { accessFlags := 26, nameIndex := 1116, descriptorIndex := 1117, attributes := #[] }, { accessFlags := 24, nameIndex := 40, descriptorIndex := 26, attributes := #[] }, { accessFlags := 26, nameIndex := 1101, descriptorIndex := 1102, attributes := #[] }, { accessFlags := 26, nameIndex := 1121, descriptorIndex := 1122, attributes := #[] }, { accessFlags := 25, nameIndex := 599, descriptorIndex := 600, attributes := #[] }, { accessFlags := 24, nameIndex := 1125, descriptorIndex := 18, attributes := #[] }, { accessFlags := 24, nameIndex := 1127, descriptorIndex := 18, attributes := #[] }])
  fields := #[{ name := "value", type := (.array .byte), accessFlags := 18, slot := 0, constantValue := 0 }, { name := "coder", type := .byte, accessFlags := 18, slot := 1, constantValue := 0 }, { name := "hash", type := .int, accessFlags := 2, slot := 2, constantValue := 0 }, { name := "hashIsZero", type := .boolean, accessFlags := 2, slot := 3, constantValue := 0 }, { name := "serialVersionUID", type := .long, accessFlags := 26, slot := 0, constantValue := 0 }, { name := "COMPACT_STRINGS", type := .boolean, accessFlags := 24, slot := 1, constantValue := 0 }, { name := "serialPersistentFields", type := (.array (.object "java/io/ObjectStreamField")), accessFlags := 26, slot := 2, constantValue := 0 }, { name := "REPL", type := .char, accessFlags := 26, slot := 3, constantValue := 0 }, { name := "CASE_INSENSITIVE_ORDER", type := (.object "java/util/Comparator"), accessFlags := 25, slot := 4, constantValue := 0 }, { name := "LATIN1", type := .byte, accessFlags := 24, slot := 5, constantValue := 0 }, { name := "UTF16", type := .byte, accessFlags := 24, slot := 6, constantValue := 0 }]
  methods := #[k7m0, k7m1, k7m2, k7m3, k7m4, k7m5, k7m6, k7m7, k7m8]
  instanceTypes := #[(.array .byte), .byte, .int, .boolean]
  staticTypes := #[.long, .boolean, (.array (.object "java/io/ObjectStreamField")), .char, (.object "java/util/Comparator"), .byte, .byte]
  resolved := Array.replicate 1451 none
  statics := some 0 }

def pool8 : Array CpInfo := pool [(1, .methodref 2 3), (0, .class_ 4), (0, .nameAndType 5 6), (0, u "java/lang/Object"), (0, u "<init>"), (0, u "()V"), (0, .class_ 8), (0, u "java/lang/Record")] 13

def k8c0 : Code := { maxStack := 1, maxLocals := 1, code := jdk_30_method_1_code, exceptionTable := #[], attributes := #[] }
def k8m0 : Method := { name := "<init>", desc := "()V", sig := { parameters := [], returnType := none }, accessFlags := 4, code := some k8c0 }
/-- java/lang/Record -/
def k8 : Class := { plain "java/lang/Record" (some 0) with
  accessFlags := 1057
  interfaces := #[]
  cf := some (fileOf pool8 7 #[] #[{ accessFlags := 4, nameIndex := 5, descriptorIndex := 6, attributes := #[] }] 1057 2 #[] #[])
  fields := #[]
  methods := #[k8m0]
  instanceTypes := #[]
  staticTypes := #[]
  resolved := Array.replicate 22 none
  statics := none }

def pool9 : Array CpInfo := pool [(1, .methodref 2 3), (0, .class_ 4), (0, .nameAndType 5 6), (0, u "java/lang/Record"), (0, u "<init>"), (0, u "()V"), (0, .fieldref 8 9), (0, .class_ 10), (0, .nameAndType 11 12), (0, u "com/example/reliquary/reliquary/DeadLetterSelection"), (0, u "queue"), (0, u "Ljava/lang/String;"), (0, .fieldref 8 14), (0, .nameAndType 15 12), (0, u "space"), (0, .fieldref 8 17), (0, .nameAndType 18 12), (0, u "contentId"), (19, .class_ 39), (0, u "java/lang/String"), (22, .methodref 8 63), (0, .nameAndType 5 64), (0, u "(Ljava/lang/String;Ljava/lang/String;Ljava/lang/String;)V"), (0, .methodref 38 66), (0, .nameAndType 67 68), (0, u "equals"), (0, u "(Ljava/lang/Object;)Z"), (0, .methodref 70 71), (0, .class_ 72), (0, .nameAndType 73 74), (0, u "java/util/Optional"), (0, u "empty"), (0, u "()Ljava/util/Optional;"), (0, .methodref 70 76), (0, .nameAndType 77 78), (0, u "of"), (0, u "(Ljava/lang/Object;)Ljava/util/Optional;"), (11, u "ARGUMENTS"), (14, u "onQueue"), (0, u "(Ljava/lang/String;)Ljava/util/Optional;"), (1, u "()Ljava/lang/String;")] 32

def k9c0 : Code := { maxStack := 2, maxLocals := 4, code := prog_3_method_1_code, exceptionTable := #[], attributes := #[] }
def k9m0 : Method := { name := "<init>", desc := "(Ljava/lang/String;Ljava/lang/String;Ljava/lang/String;)V", sig := { parameters := [(.object "java/lang/String"), (.object "java/lang/String"), (.object "java/lang/String")], returnType := none }, accessFlags := 0, code := some k9c0 }
def k9c1 : Code := { maxStack := 5, maxLocals := 2, code := prog_3_method_3_code, exceptionTable := #[], attributes := #[] }
def k9m1 : Method := { name := "onQueue", desc := "(Ljava/lang/String;)Ljava/util/Optional;", sig := { parameters := [(.object "java/lang/String")], returnType := some (.object "java/util/Optional") }, accessFlags := 0, code := some k9c1 }
def k9c2 : Code := { maxStack := 1, maxLocals := 1, code := prog_3_method_7_code, exceptionTable := #[], attributes := #[] }
def k9m2 : Method := { name := "queue", desc := "()Ljava/lang/String;", sig := { parameters := [], returnType := some (.object "java/lang/String") }, accessFlags := 1, code := some k9c2 }
def k9c3 : Code := { maxStack := 1, maxLocals := 1, code := prog_3_method_8_code, exceptionTable := #[], attributes := #[] }
def k9m3 : Method := { name := "space", desc := "()Ljava/lang/String;", sig := { parameters := [], returnType := some (.object "java/lang/String") }, accessFlags := 1, code := some k9c3 }
def k9c4 : Code := { maxStack := 1, maxLocals := 1, code := prog_3_method_9_code, exceptionTable := #[], attributes := #[] }
def k9m4 : Method := { name := "contentId", desc := "()Ljava/lang/String;", sig := { parameters := [], returnType := some (.object "java/lang/String") }, accessFlags := 1, code := some k9c4 }
/-- com/example/reliquary/reliquary/DeadLetterSelection -/
def k9 : Class := { plain "com/example/reliquary/reliquary/DeadLetterSelection" (some 8) with
  accessFlags := 48
  interfaces := #[]
  cf := some (fileOf pool9 8 #[] #[{ accessFlags := 0, nameIndex := 5, descriptorIndex := 64, attributes := #[] }, { accessFlags := 0, nameIndex := 105, descriptorIndex := 106, attributes := #[] }, { accessFlags := 1, nameIndex := 11, descriptorIndex := 108, attributes := #[] }, { accessFlags := 1, nameIndex := 15, descriptorIndex := 108, attributes := #[] }, { accessFlags := 1, nameIndex := 18, descriptorIndex := 108, attributes := #[] }] 48 2 #[] #[{ accessFlags := 18, nameIndex := 11, descriptorIndex := 12, attributes := #[] }, { accessFlags := 18, nameIndex := 15, descriptorIndex := 12, attributes := #[] }, { accessFlags := 18, nameIndex := 18, descriptorIndex := 12, attributes := #[] }, { accessFlags := 24, nameIndex := 90, descriptorIndex := 12, attributes := #[] }])
  fields := #[{ name := "queue", type := (.object "java/lang/String"), accessFlags := 18, slot := 0, constantValue := 0 }, { name := "space", type := (.object "java/lang/String"), accessFlags := 18, slot := 1, constantValue := 0 }, { name := "contentId", type := (.object "java/lang/String"), accessFlags := 18, slot := 2, constantValue := 0 }, { name := "ARGUMENTS", type := (.object "java/lang/String"), accessFlags := 24, slot := 0, constantValue := 0 }]
  methods := #[k9m0, k9m1, k9m2, k9m3, k9m4]
  instanceTypes := #[(.object "java/lang/String"), (.object "java/lang/String"), (.object "java/lang/String")]
  staticTypes := #[(.object "java/lang/String")]
  resolved := Array.replicate 141 none
  statics := none }

def pool10 : Array CpInfo := pool [(1, .fieldref 2 3), (0, .class_ 4), (0, .nameAndType 5 6), (0, u "java/util/Optional"), (0, u "EMPTY"), (0, u "Ljava/util/Optional;"), (0, .methodref 8 9), (0, .class_ 10), (0, .nameAndType 11 12), (0, u "java/lang/Object"), (0, u "<init>"), (0, u "()V"), (0, .fieldref 2 14), (0, .nameAndType 15 16), (0, u "value"), (0, u "Ljava/lang/Object;"), (0, .methodref 18 19), (0, .class_ 20), (0, .nameAndType 21 22), (0, u "java/util/Objects"), (0, u "requireNonNull"), (0, u "(Ljava/lang/Object;)Ljava/lang/Object;"), (0, .methodref 2 24), (0, .nameAndType 11 25), (0, u "(Ljava/lang/Object;)V"), (20, u "()Z"), (8, u "empty"), (0, u "()Ljava/util/Optional;"), (8, u "(Ljava/lang/Object;)Ljava/util/Optional;"), (2, u "isPresent"), (4, u "get"), (0, u "()Ljava/lang/Object;"), (7, u "of")] 104

def k10c0 : Code := { maxStack := 1, maxLocals := 1, code := jdk_32_method_1_code, exceptionTable := #[], attributes := #[] }
def k10m0 : Method := { name := "empty", desc := "()Ljava/util/Optional;", sig := { parameters := [], returnType := some (.object "java/util/Optional") }, accessFlags := 9, code := some k10c0 }
def k10c1 : Code := { maxStack := 2, maxLocals := 2, code := jdk_32_method_2_code, exceptionTable := #[], attributes := #[] }
def k10m1 : Method := { name := "<init>", desc := "(Ljava/lang/Object;)V", sig := { parameters := [(.object "java/lang/Object")], returnType := none }, accessFlags := 2, code := some k10c1 }
def k10c2 : Code := { maxStack := 3, maxLocals := 1, code := jdk_32_method_3_code, exceptionTable := #[], attributes := #[] }
def k10m2 : Method := { name := "of", desc := "(Ljava/lang/Object;)Ljava/util/Optional;", sig := { parameters := [(.object "java/lang/Object")], returnType := some (.object "java/util/Optional") }, accessFlags := 9, code := some k10c2 }
def k10c3 : Code := { maxStack := 3, maxLocals := 1, code := jdk_32_method_5_code, exceptionTable := #[], attributes := #[] }
def k10m3 : Method := { name := "get", desc := "()Ljava/lang/Object;", sig := { parameters := [], returnType := some (.object "java/lang/Object") }, accessFlags := 1, code := some k10c3 }
def k10c4 : Code := { maxStack := 1, maxLocals := 1, code := jdk_32_method_6_code, exceptionTable := #[], attributes := #[] }
def k10m4 : Method := { name := "isPresent", desc := "()Z", sig := { parameters := [], returnType := some .boolean }, accessFlags := 1, code := some k10c4 }
/-- java/util/Optional -/
def k10 : Class := { plain "java/util/Optional" (some 0) with
  accessFlags := 49
  interfaces := #[]
  cf := some (fileOf pool10 2 #[] #[{ accessFlags := 9, nameIndex := 55, descriptorIndex := 56, attributes := #[] }, { accessFlags := 2, nameIndex := 11, descriptorIndex := 25, attributes := #[] }, { accessFlags := 9, nameIndex := 82, descriptorIndex := 65, attributes := #[] }, { accessFlags := 1, nameIndex := 73, descriptorIndex := 74, attributes := #[] }, { accessFlags := 1, nameIndex := 68, descriptorIndex := 46, attributes := #[] }] 49 8 #[] #[{ accessFlags := 26, nameIndex := 5, descriptorIndex := 6, attributes := #[] }, { accessFlags := 18, nameIndex := 15, descriptorIndex := 16, attributes := #[] }])
  fields := #[{ name := "EMPTY", type := (.object "java/util/Optional"), accessFlags := 26, slot := 0, constantValue := 0 }, { name := "value", type := (.object "java/lang/Object"), accessFlags := 18, slot := 0, constantValue := 0 }]
  methods := #[k10m0, k10m1, k10m2, k10m3, k10m4]
  instanceTypes := #[(.object "java/lang/Object")]
  staticTypes := #[(.object "java/util/Optional")]
  resolved := Array.replicate 187 none
  statics := some 1 }

def pool11 : Array CpInfo := pool [(2, .class_ 4), (1, u "java/lang/Object"), (0, u "<init>"), (0, u "()V"), (35, .class_ 44), (1, u "java/util/Objects"), (0, u "requireNonNull"), (0, u "(Ljava/lang/Object;)Ljava/lang/Object;")] 137

def k11m0 : Method := { name := "<init>", desc := "()V", sig := { parameters := [], returnType := none }, accessFlags := 2, code := none }
def k11c1 : Code := { maxStack := 2, maxLocals := 1, code := jdk_31_method_10_code, exceptionTable := #[], attributes := #[] }
def k11m1 : Method := { name := "requireNonNull", desc := "(Ljava/lang/Object;)Ljava/lang/Object;", sig := { parameters := [(.object "java/lang/Object")], returnType := some (.object "java/lang/Object") }, accessFlags := 9, code := some k11c1 }
/-- java/util/Objects -/
def k11 : Class := { plain "java/util/Objects" (some 0) with
  accessFlags := 49
  interfaces := #[]
  cf := some (fileOf pool11 42 #[] #[{ accessFlags := 2, nameIndex := 5, descriptorIndex := 6, attributes := #[] }, { accessFlags := 9, nameIndex := 45, descriptorIndex := 46, attributes := #[] }] 49 2 #[] #[])
  fields := #[]
  methods := #[k11m0, k11m1]
  instanceTypes := #[]
  staticTypes := #[]
  resolved := Array.replicate 184 none
  statics := none }

def pool12 : Array CpInfo := pool [(1, .class_ 2), (0, u "java/lang/String"), (1, .class_ 6), (1, u "java/lang/Object"), (0, u "<init>"), (0, u "()V"), (0, .methodref 1 10), (0, .nameAndType 11 12), (0, u "checkIndex"), (0, u "(II)V"), (1, .class_ 16), (1, u "java/lang/StringLatin1"), (36, u "([BI)C"), (67, u "$assertionsDisabled"), (0, u "Z"), (98, .class_ 223), (1, u "java/lang/StringLatin1$LinesSpliterator"), (28, u "charAt"), (28, u "equals"), (0, u "([B[B)Z"), (107, .class_ 391), (0, u "java/lang/StringLatin1$CharsSpliterator")] 3

def k12m0 : Method := { name := "<init>", desc := "()V", sig := { parameters := [], returnType := none }, accessFlags := 0, code := none }
def k12c1 : Code := { maxStack := 2, maxLocals := 2, code := jdk_43_method_2_code, exceptionTable := #[], attributes := #[] }
def k12m1 : Method := { name := "charAt", desc := "([BI)C", sig := { parameters := [(.array .byte), .int], returnType := some .char }, accessFlags := 9, code := some k12c1 }
def k12c2 : Code := { maxStack := 3, maxLocals := 3, code := jdk_43_method_13_code, exceptionTable := #[], attributes := #[] }
def k12m2 : Method := { name := "equals", desc := "([B[B)Z", sig := { parameters := [(.array .byte), (.array .byte)], returnType := some .boolean }, accessFlags := 9, code := some k12c2 }
/-- java/lang/StringLatin1 -/
def k12 : Class := { plain "java/lang/StringLatin1" (some 0) with
  accessFlags := 48
  interfaces := #[]
  cf := some (fileOf pool12 14 #[.nestMembers #[390, 221]] #[{ accessFlags := 0, nameIndex := 7, descriptorIndex := 8, attributes := #[] }, { accessFlags := 9, nameIndex := 252, descriptorIndex := 53, attributes := #[] }, { accessFlags := 9, nameIndex := 281, descriptorIndex := 282, attributes := #[] }] 48 4 #[] #[{ accessFlags := 4120, nameIndex := 121, descriptorIndex := 122, attributes := #[] }])
  fields := #[{ name := "$assertionsDisabled", type := .boolean, accessFlags := 4120, slot := 0, constantValue := 0 }]
  methods := #[k12m0, k12m1, k12m2]
  instanceTypes := #[]
  staticTypes := #[.boolean]
  resolved := Array.replicate 395 none
  statics := none }

def pool13 : Array CpInfo := pool [(6, .class_ 8), (1, u "java/lang/Object"), (0, u "<init>"), (0, u "()V"), (1, .class_ 14), (1, u "java/lang/StringUTF16"), (31, u "$assertionsDisabled"), (0, u "Z"), (13, u "HI_BYTE_SHIFT"), (0, u "I"), (2, u "LO_BYTE_SHIFT"), (49, .methodref 12 116), (0, .nameAndType 117 118), (0, u "compress"), (0, u "([CI[BII)I"), (3, u "([CII)[B"), (138, u "coderFromArrayLen"), (0, u "([BI)B"), (106, .class_ 371), (1, u "java/lang/StringUTF16$LinesSpliterator"), (58, u "MAX_LENGTH"), (196, .class_ 628), (0, u "java/lang/StringUTF16$CodePointsSpliterator"), (0, .class_ 630), (0, u "java/lang/StringUTF16$CharsSpliterator")] 4

def k13m0 : Method := { name := "<init>", desc := "()V", sig := { parameters := [], returnType := none }, accessFlags := 0, code := none }
def k13c1 : Code := { maxStack := 2, maxLocals := 2, code := jdk_52_method_15_code, exceptionTable := #[], attributes := #[] }
def k13m1 : Method := { name := "coderFromArrayLen", desc := "([BI)B", sig := { parameters := [(.array .byte), .int], returnType := some .byte }, accessFlags := 8, code := some k13c1 }
def k13c2 : Code := { maxStack := 5, maxLocals := 6, code := jdk_52_method_16_code, exceptionTable := #[], attributes := #[] }
def k13m2 : Method := { name := "compress", desc := "([CII)[B", sig := { parameters := [(.array .char), .int, .int], returnType := some (.array .byte) }, accessFlags := 9, code := some k13c2 }
def k13c3 : Code := { maxStack := 3, maxLocals := 7, code := jdk_52_method_21_code, exceptionTable := #[], attributes := #[] }
def k13m3 : Method := { name := "compress", desc := "([CI[BII)I", sig := { parameters := [(.array .char), .int, (.array .byte), .int, .int], returnType := some .int }, accessFlags := 9, code := some k13c3 }
/-- java/lang/StringUTF16 -/
def k13 : Class := { plain "java/lang/StringUTF16" (some 0) with
  accessFlags := 48
  interfaces := #[]
  cf := some (fileOf pool13 12 #[.nestMembers #[627, 629, 369]] #[{ accessFlags := 0, nameIndex := 9, descriptorIndex := 10, attributes := #[] }, { accessFlags := 8, nameIndex := 261, descriptorIndex := 262, attributes := #[] }, { accessFlags := 9, nameIndex := 117, descriptorIndex := 122, attributes := #[] }, { accessFlags := 9, nameIndex := 117, descriptorIndex := 118, attributes := #[] }] 48 6 #[] #[{ accessFlags := 26, nameIndex := 61, descriptorIndex := 62, attributes := #[] }, { accessFlags := 26, nameIndex := 65, descriptorIndex := 62, attributes := #[] }, { accessFlags := 24, nameIndex := 430, descriptorIndex := 62, attributes := #[] }, { accessFlags := 4120, nameIndex := 46, descriptorIndex := 47, attributes := #[] }])
  fields := #[{ name := "HI_BYTE_SHIFT", type := .int, accessFlags := 26, slot := 0, constantValue := 0 }, { name := "LO_BYTE_SHIFT", type := .int, accessFlags := 26, slot := 1, constantValue := 0 }, { name := "MAX_LENGTH", type := .int, accessFlags := 24, slot := 2, constantValue := 0 }, { name := "$assertionsDisabled", type := .boolean, accessFlags := 4120, slot := 3, constantValue := 0 }]
  methods := #[k13m0, k13m1, k13m2, k13m3]
  instanceTypes := #[]
  staticTypes := #[.int, .int, .int, .boolean]
  resolved := Array.replicate 635 none
  statics := none }

def pool14 : Array CpInfo := pool [(2, .class_ 4), (1, u "java/lang/Object"), (0, u "<init>"), (0, u "()V"), (17, .class_ 26), (1, u "jdk/internal/util/Preconditions"), (6, u "checkIndex"), (21, .class_ 56), (0, u "jdk/internal/util/Preconditions$4"), (57, .class_ 115), (0, u "jdk/internal/util/Preconditions$1"), (7, u "SIOOBE_FORMATTER"), (0, u "Ljava/util/function/BiFunction;"), (0, .class_ 126), (0, u "jdk/internal/util/Preconditions$2"), (3, u "AIOOBE_FORMATTER"), (0, .class_ 132), (0, u "jdk/internal/util/Preconditions$3"), (3, u "IOOBE_FORMATTER"), (41, u "(IILjava/util/function/BiFunction;)I")] 15

def k14m0 : Method := { name := "<init>", desc := "()V", sig := { parameters := [], returnType := none }, accessFlags := 1, code := none }
def k14c1 : Code := { maxStack := 3, maxLocals := 3, code := jdk_41_method_11_code, exceptionTable := #[], attributes := #[] }
def k14m1 : Method := { name := "checkIndex", desc := "(IILjava/util/function/BiFunction;)I", sig := { parameters := [.int, .int, (.object "java/util/function/BiFunction")], returnType := some .int }, accessFlags := 9, code := some k14c1 }
/-- jdk/internal/util/Preconditions -/
def k14 : Class := { plain "jdk/internal/util/Preconditions" (some 0) with
  accessFlags := 33
  interfaces := #[]
  cf := some (fileOf pool14 24 #[.nestMembers #[55, 131, 125, 114]] #[{ accessFlags := 1, nameIndex := 5, descriptorIndex := 6, attributes := #[] }, { accessFlags := 9, nameIndex := 33, descriptorIndex := 178, attributes := #[] }] 33 2 #[] #[{ accessFlags := 25, nameIndex := 123, descriptorIndex := 124, attributes := #[] }, { accessFlags := 25, nameIndex := 130, descriptorIndex := 124, attributes := #[] }, { accessFlags := 25, nameIndex := 136, descriptorIndex := 124, attributes := #[] }])
  fields := #[{ name := "SIOOBE_FORMATTER", type := (.object "java/util/function/BiFunction"), accessFlags := 25, slot := 0, constantValue := 0 }, { name := "AIOOBE_FORMATTER", type := (.object "java/util/function/BiFunction"), accessFlags := 25, slot := 1, constantValue := 0 }, { name := "IOOBE_FORMATTER", type := (.object "java/util/function/BiFunction"), accessFlags := 25, slot := 2, constantValue := 0 }]
  methods := #[k14m0, k14m1]
  instanceTypes := #[]
  staticTypes := #[(.object "java/util/function/BiFunction"), (.object "java/util/function/BiFunction"), (.object "java/util/function/BiFunction")]
  resolved := Array.replicate 194 none
  statics := some 2 }

def pool15 : Array CpInfo := pool [(9, u "<init>"), (6, .class_ 18), (1, u "java/lang/Object"), (0, u "()V"), (1, .class_ 23), (1, u "jdk/internal/util/ArraysSupport"), (0, u "LOG2_ARRAY_LONG_INDEX_SCALE"), (0, u "I"), (2, u "U"), (0, u "Ljdk/internal/misc/Unsafe;"), (8, u "BIG_ENDIAN"), (0, u "Z"), (8, u "LOG2_BYTE_BIT_SIZE"), (4, u "LOG2_ARRAY_INT_INDEX_SCALE"), (54, u "JLA"), (0, u "Ljdk/internal/access/JavaLangAccess;"), (11, u "LOG2_ARRAY_BOOLEAN_INDEX_SCALE"), (9, u "LOG2_ARRAY_BYTE_INDEX_SCALE"), (5, u "LOG2_ARRAY_CHAR_INDEX_SCALE"), (5, u "LOG2_ARRAY_SHORT_INDEX_SCALE"), (18, u "LOG2_ARRAY_FLOAT_INDEX_SCALE"), (24, u "LOG2_ARRAY_DOUBLE_INDEX_SCALE"), (89, u "T_BOOLEAN"), (2, u "T_CHAR"), (1, u "T_FLOAT"), (1, u "T_DOUBLE"), (1, u "T_BYTE"), (1, u "T_SHORT"), (1, u "T_INT"), (1, u "T_LONG"), (1, u "SOFT_MAX_ARRAY_LENGTH")] 83

def k15m0 : Method := { name := "<init>", desc := "()V", sig := { parameters := [], returnType := none }, accessFlags := 2, code := none }
/-- jdk/internal/util/ArraysSupport -/
def k15 : Class := { plain "jdk/internal/util/ArraysSupport" (some 0) with
  accessFlags := 33
  interfaces := #[]
  cf := some (fileOf pool15 21 #[] #[{ accessFlags := 2, nameIndex := 9, descriptorIndex := 19, attributes := #[] }] 33 16 #[] #[{ accessFlags := 24, nameIndex := 28, descriptorIndex := 29, attributes := #[] }, { accessFlags := 26, nameIndex := 38, descriptorIndex := 39, attributes := #[] }, { accessFlags := 25, nameIndex := 121, descriptorIndex := 25, attributes := #[] }, { accessFlags := 25, nameIndex := 131, descriptorIndex := 25, attributes := #[] }, { accessFlags := 25, nameIndex := 137, descriptorIndex := 25, attributes := #[] }, { accessFlags := 25, nameIndex := 143, descriptorIndex := 25, attributes := #[] }, { accessFlags := 25, nameIndex := 53, descriptorIndex := 25, attributes := #[] }, { accessFlags := 25, nameIndex := 24, descriptorIndex := 25, attributes := #[] }, { accessFlags := 25, nameIndex := 162, descriptorIndex := 25, attributes := #[] }, { accessFlags := 25, nameIndex := 187, descriptorIndex := 25, attributes := #[] }, { accessFlags := 26, nameIndex := 48, descriptorIndex := 25, attributes := #[] }, { accessFlags := 25, nameIndex := 277, descriptorIndex := 25, attributes := #[] }, { accessFlags := 25, nameIndex := 280, descriptorIndex := 25, attributes := #[] }, { accessFlags := 25, nameIndex := 282, descriptorIndex := 25, attributes := #[] }, { accessFlags := 25, nameIndex := 284, descriptorIndex := 25, attributes := #[] }, { accessFlags := 25, nameIndex := 286, descriptorIndex := 25, attributes := #[] }, { accessFlags := 25, nameIndex := 288, descriptorIndex := 25, attributes := #[] }, { accessFlags := 25, nameIndex := 290, descriptorIndex := 25, attributes := #[] }, { accessFlags := 25, nameIndex := 292, descriptorIndex := 25, attributes := #[] }, { accessFlags := 26, nameIndex := 108, descriptorIndex := 109, attributes := #[] }, { accessFlags := 25, nameIndex := 294, descriptorIndex := 25, attributes := #[] }])
  fields := #[{ name := "U", type := (.object "jdk/internal/misc/Unsafe"), accessFlags := 24, slot := 0, constantValue := 0 }, { name := "BIG_ENDIAN", type := .boolean, accessFlags := 26, slot := 1, constantValue := 0 }, { name := "LOG2_ARRAY_BOOLEAN_INDEX_SCALE", type := .int, accessFlags := 25, slot := 2, constantValue := 0 }, { name := "LOG2_ARRAY_BYTE_INDEX_SCALE", type := .int, accessFlags := 25, slot := 3, constantValue := 0 }, { name := "LOG2_ARRAY_CHAR_INDEX_SCALE", type := .int, accessFlags := 25, slot := 4, constantValue := 0 }, { name := "LOG2_ARRAY_SHORT_INDEX_SCALE", type := .int, accessFlags := 25, slot := 5, constantValue := 0 }, { name := "LOG2_ARRAY_INT_INDEX_SCALE", type := .int, accessFlags := 25, slot := 6, constantValue := 0 }, { name := "LOG2_ARRAY_LONG_INDEX_SCALE", type := .int, accessFlags := 25, slot := 7, constantValue := 0 }, { name := "LOG2_ARRAY_FLOAT_INDEX_SCALE", type := .int, accessFlags := 25, slot := 8, constantValue := 0 }, { name := "LOG2_ARRAY_DOUBLE_INDEX_SCALE", type := .int, accessFlags := 25, slot := 9, constantValue := 0 }, { name := "LOG2_BYTE_BIT_SIZE", type := .int, accessFlags := 26, slot := 10, constantValue := 0 }, { name := "T_BOOLEAN", type := .int, accessFlags := 25, slot := 11, constantValue := 0 }, { name := "T_CHAR", type := .int, accessFlags := 25, slot := 12, constantValue := 0 }, { name := "T_FLOAT", type := .int, accessFlags := 25, slot := 13, constantValue := 0 }, { name := "T_DOUBLE", type := .int, accessFlags := 25, slot := 14, constantValue := 0 }, { name := "T_BYTE", type := .int, accessFlags := 25, slot := 15, constantValue := 0 }, { name := "T_SHORT", type := .int, accessFlags := 25, slot := 16, constantValue := 0 }, { name := "T_INT", type := .int, accessFlags := 25, slot := 17, constantValue := 0 }, { name := "T_LONG", type := .int, accessFlags := 25, slot := 18, constantValue := 0 }, { name := "JLA", type := (.object "jdk/internal/access/JavaLangAccess"), accessFlags := 26, slot := 19, constantValue := 0 }, { name := "SOFT_MAX_ARRAY_LENGTH", type := .int, accessFlags := 25, slot := 20, constantValue := 0 }]
  methods := #[k15m0]
  instanceTypes := #[]
  staticTypes := #[(.object "jdk/internal/misc/Unsafe"), .boolean, .int, .int, .int, .int, .int, .int, .int, .int, .int, .int, .int, .int, .int, .int, .int, .int, .int, (.object "jdk/internal/access/JavaLangAccess"), .int]
  resolved := Array.replicate 378 none
  statics := none }

def pool16 : Array CpInfo := pool [(1, u "java/lang/Cloneable"), (0, .class_ 1), (0, u "java/lang/Object"), (0, .class_ 3)] 3

/-- java/lang/Cloneable -/
def k16 : Class := { plain "java/lang/Cloneable" (some 0) with
  accessFlags := 1537
  interfaces := #[]
  cf := some (fileOf pool16 2 #[] #[] 1537 4 #[] #[])
  fields := #[]
  methods := #[]
  instanceTypes := #[]
  staticTypes := #[]
  resolved := Array.replicate 8 none
  statics := none }

/-- the primitive byte -/
def k17 : Class := { plain "byte" none with kind := .primitive 'B', accessFlags := 0x411 }
/-- [B -/
def k18 : Class := { plain "[B" (some 0) with kind := .array 17 .byte, interfaces := #[16, 2], accessFlags := 1041 }

/-- the primitive char -/
def k19 : Class := { plain "char" none with kind := .primitive 'C', accessFlags := 0x411 }
/-- [C -/
def k20 : Class := { plain "[C" (some 0) with kind := .array 19 .char, interfaces := #[16, 2], accessFlags := 1041 }

/-- the primitive int -/
def k21 : Class := { plain "int" none with kind := .primitive 'I', accessFlags := 0x411 }
/-- [I -/
def k22 : Class := { plain "[I" (some 0) with kind := .array 21 .int, interfaces := #[16, 2], accessFlags := 1041 }

def heap : Heap := #[{ cls := 7, slots := #[.long 0, .int 1, .null, .int 0, .null, .int 0, .int 0], vm := .statics 7 },
  { cls := 10, slots := #[.ref 3], vm := .statics 10 },
  { cls := 14, slots := #[.null, .null, .null], vm := .statics 14 },
  { cls := 10, slots := #[.null], vm := .none }]
def classes : Array Class := #[k0, k1, k2, k3, k4, k5, k6, k7, k8, k9, k10, k11, k12, k13, k14, k15, k16, k17, k18, k19, k20, k21, k22]
def interned : List (Array UInt16 × Addr) := []
def slotsUsed : Nat := 12
def theMethod : MethodId := ⟨1, 3⟩
def args0 : Array Value := #[.int 3, .int 7, .int 5, .int 2, .int 1]
def aboutOver (below : List Frame) : State where
  vm := { classes := classes, interned := interned.toArray }
  heap := heap
  slotsUsed := slotsUsed
  threads := #[{ frames := .invoking theMethod args0 :: below }]
def below0 : List Frame := [.native { method := ⟨0, 0⟩, args := #[] }]
def about1 : State := aboutOver below0
def p0 : Program := .bare "" "" ""
def e0 : Env := launch0.env 0 0 0
theorem w_frames : about1.frames = Frame.invoking theMethod args0 :: below0 := rfl
set_option maxRecDepth 65536 in
theorem w_args : argsFit about1.vm theMethod args0 = true := by decide +kernel
set_option maxRecDepth 65536 in
theorem w_heap : heapFits about1 = true := by decide +kernel
set_option maxRecDepth 65536 in
theorem w_runnable : about1.curStatus? = some .runnable := by decide +kernel
set_option maxRecDepth 65536 in
theorem w_alone : about1.alone = true := by decide +kernel
set_option maxRecDepth 65536 in
theorem w_named : about1.methodNamed? x = some theMethod := by decide +kernel
set_option maxRecDepth 65536 in
theorem w_hears : about1.hears theMethod below0 = true := by decide +kernel
set_option maxRecDepth 65536 in
theorem w_ripe : about1.ripe theMethod args0 below0 = true := by decide +kernel
theorem w_running : about1.status = .running := rfl
set_option maxRecDepth 65536 in
theorem w_room : about1.hasRoom e0.platform room_1 = true :=
  launch0.hasRoom_least _ room_1 (by decide +kernel) (by decide +kernel) (by decide +kernel) (by decide +kernel) (by decide +kernel) (by decide +kernel)
theorem allAtoms_all (ts : List Jvm.Cond) (a : Array Jvm.Value) (st : Jvm.State) : (allAtoms ts).before a st = ts.all (fun c => c.before a st) := by
  induction ts with
  | nil => rfl
  | cons c t ih =>
    show (Jvm.Cond.and c (allAtoms t)).before a st = _
    rw [Jvm.Cond.before_and, ih, List.all_cons]
def words1 : List Jvm.Cond := Jvm.Cond.code x code maxLocals ret :: tables_1
/-- a 'code' word, met by the world's own term for the bytes: nothing is compared byte by byte -/
theorem code_word {y : MethodName} {bytes : ByteArray} {mx : Nat} {rt : Option FieldType} {a : Array Value} {s : State} {m : MethodId} {meth : Method} {c : Code} (h1 : s.methodNamed? y = some m) (h2 : s.vm.method? m = some meth) (h3 : meth.code = some c) (h4 : c.code = bytes)
    (h5 : (c.maxLocals == mx && c.exceptionTable.isEmpty && decide (c.maxStack ≤ mostOperands) && decide (meth.sig.returnType = rt) && !meth.locks && decide (parseMethodDescriptor y.desc = some meth.sig)) = true) : (Jvm.Cond.code y bytes mx rt).before a s = true := by
  simp only [Bool.and_eq_true, beq_iff_eq, Bool.not_eq_true', decide_eq_true_eq] at h5
  obtain ⟨⟨⟨⟨⟨g1, g2⟩, g3⟩, g4⟩, g5⟩, g6⟩ := h5
  simp [Cond.before, Cond.holds, Cond.value, h1, h2, h3, h4, g1, g2, g3, g4, g5, g6]
def isCode : Jvm.Cond → Bool
  | .code _ _ _ _ => true
  | _ => false
theorem all_split {L : List Jvm.Cond} {P : Jvm.Cond → Bool} (h1 : L.all (fun c => isCode c || P c) = true) (h2 : ∀ c ∈ L.filter isCode, P c = true) : L.all P = true := by
  refine List.all_eq_true.mpr fun c hc => ?_
  have h := List.all_eq_true.mp h1 c hc
  rcases Bool.eq_false_or_eq_true (isCode c) with hi | hi
  · exact h2 c (List.mem_filter.mpr ⟨hc, hi⟩)
  · simpa [hi] using h
set_option maxRecDepth 65536 in
theorem w_c0 : (Jvm.Cond.code x code maxLocals ret).before args0 about1 = true := code_word (m := ⟨1, 3⟩) (meth := k1m3) (c := k1c3) (by decide +kernel) rfl rfl rfl (by decide +kernel)
set_option maxRecDepth 65536 in
theorem w_c1 : (Jvm.Cond.code ({ cls := "com/example/reliquary/reliquary/DeadLetterSelectionOnQueuePinLaw", name := "mk", desc := "(I)Ljava/lang/String;" } : Jvm.MethodName) method_2_code (4 : Nat) (Option.some (Jvm.ClassFile.FieldType.object "java/lang/String"))).before args0 about1 = true := code_word (m := ⟨1, 1⟩) (meth := k1m1) (c := k1c1) (by decide +kernel) rfl rfl rfl (by decide +kernel)
set_option maxRecDepth 65536 in
theorem w_c2 : (Jvm.Cond.code ({ cls := "java/lang/String", name := "<init>", desc := "([C)V" } : Jvm.MethodName) jdk_42_method_3_code (2 : Nat) (Option.none : Option Jvm.ClassFile.FieldType)).before args0 about1 = true := code_word (m := ⟨7, 1⟩) (meth := k7m1) (c := k7c1) (by decide +kernel) rfl rfl rfl (by decide +kernel)
set_option maxRecDepth 65536 in
theorem w_c3 : (Jvm.Cond.code ({ cls := "java/lang/String", name := "<init>", desc := "([CIILjava/lang/Void;)V" } : Jvm.MethodName) jdk_42_method_149_code (6 : Nat) (Option.none : Option Jvm.ClassFile.FieldType)).before args0 about1 = true := code_word (m := ⟨7, 5⟩) (meth := k7m5) (c := k7c5) (by decide +kernel) rfl rfl rfl (by decide +kernel)
set_option maxRecDepth 65536 in
theorem w_c4 : (Jvm.Cond.code ({ cls := "java/lang/Object", name := "<init>", desc := "()V" } : Jvm.MethodName) object_method_1_code (1 : Nat) (Option.none : Option Jvm.ClassFile.FieldType)).before args0 about1 = true := code_word (m := ⟨0, 0⟩) (meth := k0m0) (c := k0c0) (by decide +kernel) rfl rfl rfl (by decide +kernel)
set_option maxRecDepth 65536 in
theorem w_c5 : (Jvm.Cond.code ({ cls := "com/example/reliquary/reliquary/DeadLetterSelection", name := "<init>", desc := "(Ljava/lang/String;Ljava/lang/String;Ljava/lang/String;)V" } : Jvm.MethodName) prog_3_method_1_code (4 : Nat) (Option.none : Option Jvm.ClassFile.FieldType)).before args0 about1 = true := code_word (m := ⟨9, 0⟩) (meth := k9m0) (c := k9c0) (by decide +kernel) rfl rfl rfl (by decide +kernel)
set_option maxRecDepth 65536 in
theorem w_c6 : (Jvm.Cond.code ({ cls := "java/lang/Record", name := "<init>", desc := "()V" } : Jvm.MethodName) jdk_30_method_1_code (1 : Nat) (Option.none : Option Jvm.ClassFile.FieldType)).before args0 about1 = true := code_word (m := ⟨8, 0⟩) (meth := k8m0) (c := k8c0) (by decide +kernel) rfl rfl rfl (by decide +kernel)
set_option maxRecDepth 65536 in
theorem w_c7 : (Jvm.Cond.code ({ cls := "com/example/reliquary/reliquary/DeadLetterSelection", name := "onQueue", desc := "(Ljava/lang/String;)Ljava/util/Optional;" } : Jvm.MethodName) prog_3_method_3_code (2 : Nat) (Option.some (Jvm.ClassFile.FieldType.object "java/util/Optional"))).before args0 about1 = true := code_word (m := ⟨9, 1⟩) (meth := k9m1) (c := k9c1) (by decide +kernel) rfl rfl rfl (by decide +kernel)
set_option maxRecDepth 65536 in
theorem w_c8 : (Jvm.Cond.code ({ cls := "java/util/Optional", name := "of", desc := "(Ljava/lang/Object;)Ljava/util/Optional;" } : Jvm.MethodName) jdk_32_method_3_code (1 : Nat) (Option.some (Jvm.ClassFile.FieldType.object "java/util/Optional"))).before args0 about1 = true := code_word (m := ⟨10, 2⟩) (meth := k10m2) (c := k10c2) (by decide +kernel) rfl rfl rfl (by decide +kernel)
set_option maxRecDepth 65536 in
theorem w_c9 : (Jvm.Cond.code ({ cls := "java/util/Objects", name := "requireNonNull", desc := "(Ljava/lang/Object;)Ljava/lang/Object;" } : Jvm.MethodName) jdk_31_method_10_code (1 : Nat) (Option.some (Jvm.ClassFile.FieldType.object "java/lang/Object"))).before args0 about1 = true := code_word (m := ⟨11, 1⟩) (meth := k11m1) (c := k11c1) (by decide +kernel) rfl rfl rfl (by decide +kernel)
set_option maxRecDepth 65536 in
theorem w_c10 : (Jvm.Cond.code ({ cls := "java/util/Optional", name := "<init>", desc := "(Ljava/lang/Object;)V" } : Jvm.MethodName) jdk_32_method_2_code (2 : Nat) (Option.none : Option Jvm.ClassFile.FieldType)).before args0 about1 = true := code_word (m := ⟨10, 1⟩) (meth := k10m1) (c := k10c1) (by decide +kernel) rfl rfl rfl (by decide +kernel)
set_option maxRecDepth 65536 in
theorem w_c11 : (Jvm.Cond.code ({ cls := "java/util/Optional", name := "isPresent", desc := "()Z" } : Jvm.MethodName) jdk_32_method_6_code (1 : Nat) (Option.some Jvm.ClassFile.FieldType.boolean)).before args0 about1 = true := code_word (m := ⟨10, 4⟩) (meth := k10m4) (c := k10c4) (by decide +kernel) rfl rfl rfl (by decide +kernel)
set_option maxRecDepth 65536 in
theorem w_c12 : (Jvm.Cond.code ({ cls := "java/util/Optional", name := "get", desc := "()Ljava/lang/Object;" } : Jvm.MethodName) jdk_32_method_5_code (1 : Nat) (Option.some (Jvm.ClassFile.FieldType.object "java/lang/Object"))).before args0 about1 = true := code_word (m := ⟨10, 3⟩) (meth := k10m3) (c := k10c3) (by decide +kernel) rfl rfl rfl (by decide +kernel)
set_option maxRecDepth 65536 in
theorem w_c13 : (Jvm.Cond.code ({ cls := "com/example/reliquary/reliquary/DeadLetterSelection", name := "queue", desc := "()Ljava/lang/String;" } : Jvm.MethodName) prog_3_method_7_code (1 : Nat) (Option.some (Jvm.ClassFile.FieldType.object "java/lang/String"))).before args0 about1 = true := code_word (m := ⟨9, 2⟩) (meth := k9m2) (c := k9c2) (by decide +kernel) rfl rfl rfl (by decide +kernel)
set_option maxRecDepth 65536 in
theorem w_c14 : (Jvm.Cond.code ({ cls := "com/example/reliquary/reliquary/DeadLetterSelectionOnQueuePinLaw", name := "eq", desc := "(Ljava/lang/String;Ljava/lang/String;)Z" } : Jvm.MethodName) method_3_code (2 : Nat) (Option.some Jvm.ClassFile.FieldType.boolean)).before args0 about1 = true := code_word (m := ⟨1, 2⟩) (meth := k1m2) (c := k1c2) (by decide +kernel) rfl rfl rfl (by decide +kernel)
set_option maxRecDepth 65536 in
theorem w_c15 : (Jvm.Cond.code ({ cls := "java/lang/String", name := "length", desc := "()I" } : Jvm.MethodName) jdk_42_method_54_code (1 : Nat) (Option.some Jvm.ClassFile.FieldType.int)).before args0 about1 = true := code_word (m := ⟨7, 2⟩) (meth := k7m2) (c := k7c2) (by decide +kernel) rfl rfl rfl (by decide +kernel)
set_option maxRecDepth 65536 in
theorem w_c16 : (Jvm.Cond.code ({ cls := "java/lang/String", name := "coder", desc := "()B" } : Jvm.MethodName) jdk_42_method_152_code (1 : Nat) (Option.some Jvm.ClassFile.FieldType.byte)).before args0 about1 = true := code_word (m := ⟨7, 6⟩) (meth := k7m6) (c := k7c6) (by decide +kernel) rfl rfl rfl (by decide +kernel)
set_option maxRecDepth 65536 in
theorem w_c17 : (Jvm.Cond.code ({ cls := "com/example/reliquary/reliquary/DeadLetterSelection", name := "space", desc := "()Ljava/lang/String;" } : Jvm.MethodName) prog_3_method_8_code (1 : Nat) (Option.some (Jvm.ClassFile.FieldType.object "java/lang/String"))).before args0 about1 = true := code_word (m := ⟨9, 3⟩) (meth := k9m3) (c := k9c3) (by decide +kernel) rfl rfl rfl (by decide +kernel)
set_option maxRecDepth 65536 in
theorem w_c18 : (Jvm.Cond.code ({ cls := "com/example/reliquary/reliquary/DeadLetterSelection", name := "contentId", desc := "()Ljava/lang/String;" } : Jvm.MethodName) prog_3_method_9_code (1 : Nat) (Option.some (Jvm.ClassFile.FieldType.object "java/lang/String"))).before args0 about1 = true := code_word (m := ⟨9, 4⟩) (meth := k9m4) (c := k9c4) (by decide +kernel) rfl rfl rfl (by decide +kernel)
set_option maxRecDepth 65536 in
theorem w_c19 : (Jvm.Cond.code ({ cls := "java/lang/String", name := "equals", desc := "(Ljava/lang/Object;)Z" } : Jvm.MethodName) jdk_42_method_66_code (3 : Nat) (Option.some Jvm.ClassFile.FieldType.boolean)).before args0 about1 = true := code_word (m := ⟨7, 4⟩) (meth := k7m4) (c := k7c4) (by decide +kernel) rfl rfl rfl (by decide +kernel)
set_option maxRecDepth 65536 in
theorem w_c20 : (Jvm.Cond.code ({ cls := "java/lang/StringLatin1", name := "equals", desc := "([B[B)Z" } : Jvm.MethodName) jdk_43_method_13_code (3 : Nat) (Option.some Jvm.ClassFile.FieldType.boolean)).before args0 about1 = true := code_word (m := ⟨12, 2⟩) (meth := k12m2) (c := k12c2) (by decide +kernel) rfl rfl rfl (by decide +kernel)
set_option maxRecDepth 65536 in
theorem w_c21 : (Jvm.Cond.code ({ cls := "java/lang/StringUTF16", name := "compress", desc := "([CII)[B" } : Jvm.MethodName) jdk_52_method_16_code (6 : Nat) (Option.some (Jvm.ClassFile.FieldType.array Jvm.ClassFile.FieldType.byte))).before args0 about1 = true := code_word (m := ⟨13, 2⟩) (meth := k13m2) (c := k13c2) (by decide +kernel) rfl rfl rfl (by decide +kernel)
set_option maxRecDepth 65536 in
theorem w_c22 : (Jvm.Cond.code ({ cls := "java/lang/StringUTF16", name := "compress", desc := "([CI[BII)I" } : Jvm.MethodName) jdk_52_method_21_code (7 : Nat) (Option.some Jvm.ClassFile.FieldType.int)).before args0 about1 = true := code_word (m := ⟨13, 3⟩) (meth := k13m3) (c := k13c3) (by decide +kernel) rfl rfl rfl (by decide +kernel)
set_option maxRecDepth 65536 in
theorem w_c23 : (Jvm.Cond.code ({ cls := "java/lang/StringUTF16", name := "coderFromArrayLen", desc := "([BI)B" } : Jvm.MethodName) jdk_52_method_15_code (2 : Nat) (Option.some Jvm.ClassFile.FieldType.byte)).before args0 about1 = true := code_word (m := ⟨13, 1⟩) (meth := k13m1) (c := k13c1) (by decide +kernel) rfl rfl rfl (by decide +kernel)
set_option maxRecDepth 65536 in
theorem w_c24 : (Jvm.Cond.code ({ cls := "java/util/Optional", name := "empty", desc := "()Ljava/util/Optional;" } : Jvm.MethodName) jdk_32_method_1_code (1 : Nat) (Option.some (Jvm.ClassFile.FieldType.object "java/util/Optional"))).before args0 about1 = true := code_word (m := ⟨10, 0⟩) (meth := k10m0) (c := k10c0) (by decide +kernel) rfl rfl rfl (by decide +kernel)
set_option maxRecDepth 65536 in
theorem w_c25 : (Jvm.Cond.code ({ cls := "java/lang/String", name := "charAt", desc := "(I)C" } : Jvm.MethodName) jdk_42_method_56_code (2 : Nat) (Option.some Jvm.ClassFile.FieldType.char)).before args0 about1 = true := code_word (m := ⟨7, 3⟩) (meth := k7m3) (c := k7c3) (by decide +kernel) rfl rfl rfl (by decide +kernel)
set_option maxRecDepth 65536 in
theorem w_c26 : (Jvm.Cond.code ({ cls := "java/lang/String", name := "isLatin1", desc := "()Z" } : Jvm.MethodName) jdk_42_method_154_code (1 : Nat) (Option.some Jvm.ClassFile.FieldType.boolean)).before args0 about1 = true := code_word (m := ⟨7, 7⟩) (meth := k7m7) (c := k7c7) (by decide +kernel) rfl rfl rfl (by decide +kernel)
set_option maxRecDepth 65536 in
theorem w_c27 : (Jvm.Cond.code ({ cls := "java/lang/StringLatin1", name := "charAt", desc := "([BI)C" } : Jvm.MethodName) jdk_43_method_2_code (2 : Nat) (Option.some Jvm.ClassFile.FieldType.char)).before args0 about1 = true := code_word (m := ⟨12, 1⟩) (meth := k12m1) (c := k12c1) (by decide +kernel) rfl rfl rfl (by decide +kernel)
set_option maxRecDepth 65536 in
theorem w_c28 : (Jvm.Cond.code ({ cls := "java/lang/String", name := "checkIndex", desc := "(II)V" } : Jvm.MethodName) jdk_42_method_155_code (2 : Nat) (Option.none : Option Jvm.ClassFile.FieldType)).before args0 about1 = true := code_word (m := ⟨7, 8⟩) (meth := k7m8) (c := k7c8) (by decide +kernel) rfl rfl rfl (by decide +kernel)
set_option maxRecDepth 65536 in
theorem w_c29 : (Jvm.Cond.code ({ cls := "jdk/internal/util/Preconditions", name := "checkIndex", desc := "(IILjava/util/function/BiFunction;)I" } : Jvm.MethodName) jdk_41_method_11_code (3 : Nat) (Option.some Jvm.ClassFile.FieldType.int)).before args0 about1 = true := code_word (m := ⟨14, 1⟩) (meth := k14m1) (c := k14c1) (by decide +kernel) rfl rfl rfl (by decide +kernel)
def codes1 : List Jvm.Cond := [Jvm.Cond.code x code maxLocals ret, Jvm.Cond.code ({ cls := "com/example/reliquary/reliquary/DeadLetterSelectionOnQueuePinLaw", name := "mk", desc := "(I)Ljava/lang/String;" } : Jvm.MethodName) method_2_code (4 : Nat) (Option.some (Jvm.ClassFile.FieldType.object "java/lang/String")), Jvm.Cond.code ({ cls := "java/lang/String", name := "<init>", desc := "([C)V" } : Jvm.MethodName) jdk_42_method_3_code (2 : Nat) (Option.none : Option Jvm.ClassFile.FieldType), Jvm.Cond.code ({ cls := "java/lang/String", name := "<init>", desc := "([CIILjava/lang/Void;)V" } : Jvm.MethodName) jdk_42_method_149_code (6 : Nat) (Option.none : Option Jvm.ClassFile.FieldType), Jvm.Cond.code ({ cls := "java/lang/Object", name := "<init>", desc := "()V" } : Jvm.MethodName) object_method_1_code (1 : Nat) (Option.none : Option Jvm.ClassFile.FieldType), Jvm.Cond.code ({ cls := "com/example/reliquary/reliquary/DeadLetterSelection", name := "<init>", desc := "(Ljava/lang/String;Ljava/lang/String;Ljava/lang/String;)V" } : Jvm.MethodName) prog_3_method_1_code (4 : Nat) (Option.none : Option Jvm.ClassFile.FieldType), Jvm.Cond.code ({ cls := "java/lang/Record", name := "<init>", desc := "()V" } : Jvm.MethodName) jdk_30_method_1_code (1 : Nat) (Option.none : Option Jvm.ClassFile.FieldType), Jvm.Cond.code ({ cls := "com/example/reliquary/reliquary/DeadLetterSelection", name := "onQueue", desc := "(Ljava/lang/String;)Ljava/util/Optional;" } : Jvm.MethodName) prog_3_method_3_code (2 : Nat) (Option.some (Jvm.ClassFile.FieldType.object "java/util/Optional")), Jvm.Cond.code ({ cls := "java/util/Optional", name := "of", desc := "(Ljava/lang/Object;)Ljava/util/Optional;" } : Jvm.MethodName) jdk_32_method_3_code (1 : Nat) (Option.some (Jvm.ClassFile.FieldType.object "java/util/Optional")), Jvm.Cond.code ({ cls := "java/util/Objects", name := "requireNonNull", desc := "(Ljava/lang/Object;)Ljava/lang/Object;" } : Jvm.MethodName) jdk_31_method_10_code (1 : Nat) (Option.some (Jvm.ClassFile.FieldType.object "java/lang/Object")), Jvm.Cond.code ({ cls := "java/util/Optional", name := "<init>", desc := "(Ljava/lang/Object;)V" } : Jvm.MethodName) jdk_32_method_2_code (2 : Nat) (Option.none : Option Jvm.ClassFile.FieldType), Jvm.Cond.code ({ cls := "java/util/Optional", name := "isPresent", desc := "()Z" } : Jvm.MethodName) jdk_32_method_6_code (1 : Nat) (Option.some Jvm.ClassFile.FieldType.boolean), Jvm.Cond.code ({ cls := "java/util/Optional", name := "get", desc := "()Ljava/lang/Object;" } : Jvm.MethodName) jdk_32_method_5_code (1 : Nat) (Option.some (Jvm.ClassFile.FieldType.object "java/lang/Object")), Jvm.Cond.code ({ cls := "com/example/reliquary/reliquary/DeadLetterSelection", name := "queue", desc := "()Ljava/lang/String;" } : Jvm.MethodName) prog_3_method_7_code (1 : Nat) (Option.some (Jvm.ClassFile.FieldType.object "java/lang/String")), Jvm.Cond.code ({ cls := "com/example/reliquary/reliquary/DeadLetterSelectionOnQueuePinLaw", name := "eq", desc := "(Ljava/lang/String;Ljava/lang/String;)Z" } : Jvm.MethodName) method_3_code (2 : Nat) (Option.some Jvm.ClassFile.FieldType.boolean), Jvm.Cond.code ({ cls := "java/lang/String", name := "length", desc := "()I" } : Jvm.MethodName) jdk_42_method_54_code (1 : Nat) (Option.some Jvm.ClassFile.FieldType.int), Jvm.Cond.code ({ cls := "java/lang/String", name := "coder", desc := "()B" } : Jvm.MethodName) jdk_42_method_152_code (1 : Nat) (Option.some Jvm.ClassFile.FieldType.byte), Jvm.Cond.code ({ cls := "com/example/reliquary/reliquary/DeadLetterSelection", name := "space", desc := "()Ljava/lang/String;" } : Jvm.MethodName) prog_3_method_8_code (1 : Nat) (Option.some (Jvm.ClassFile.FieldType.object "java/lang/String")), Jvm.Cond.code ({ cls := "com/example/reliquary/reliquary/DeadLetterSelection", name := "contentId", desc := "()Ljava/lang/String;" } : Jvm.MethodName) prog_3_method_9_code (1 : Nat) (Option.some (Jvm.ClassFile.FieldType.object "java/lang/String")), Jvm.Cond.code ({ cls := "java/lang/String", name := "equals", desc := "(Ljava/lang/Object;)Z" } : Jvm.MethodName) jdk_42_method_66_code (3 : Nat) (Option.some Jvm.ClassFile.FieldType.boolean), Jvm.Cond.code ({ cls := "java/lang/StringLatin1", name := "equals", desc := "([B[B)Z" } : Jvm.MethodName) jdk_43_method_13_code (3 : Nat) (Option.some Jvm.ClassFile.FieldType.boolean), Jvm.Cond.code ({ cls := "java/lang/StringUTF16", name := "compress", desc := "([CII)[B" } : Jvm.MethodName) jdk_52_method_16_code (6 : Nat) (Option.some (Jvm.ClassFile.FieldType.array Jvm.ClassFile.FieldType.byte)), Jvm.Cond.code ({ cls := "java/lang/StringUTF16", name := "compress", desc := "([CI[BII)I" } : Jvm.MethodName) jdk_52_method_21_code (7 : Nat) (Option.some Jvm.ClassFile.FieldType.int), Jvm.Cond.code ({ cls := "java/lang/StringUTF16", name := "coderFromArrayLen", desc := "([BI)B" } : Jvm.MethodName) jdk_52_method_15_code (2 : Nat) (Option.some Jvm.ClassFile.FieldType.byte), Jvm.Cond.code ({ cls := "java/util/Optional", name := "empty", desc := "()Ljava/util/Optional;" } : Jvm.MethodName) jdk_32_method_1_code (1 : Nat) (Option.some (Jvm.ClassFile.FieldType.object "java/util/Optional")), Jvm.Cond.code ({ cls := "java/lang/String", name := "charAt", desc := "(I)C" } : Jvm.MethodName) jdk_42_method_56_code (2 : Nat) (Option.some Jvm.ClassFile.FieldType.char), Jvm.Cond.code ({ cls := "java/lang/String", name := "isLatin1", desc := "()Z" } : Jvm.MethodName) jdk_42_method_154_code (1 : Nat) (Option.some Jvm.ClassFile.FieldType.boolean), Jvm.Cond.code ({ cls := "java/lang/StringLatin1", name := "charAt", desc := "([BI)C" } : Jvm.MethodName) jdk_43_method_2_code (2 : Nat) (Option.some Jvm.ClassFile.FieldType.char), Jvm.Cond.code ({ cls := "java/lang/String", name := "checkIndex", desc := "(II)V" } : Jvm.MethodName) jdk_42_method_155_code (2 : Nat) (Option.none : Option Jvm.ClassFile.FieldType), Jvm.Cond.code ({ cls := "jdk/internal/util/Preconditions", name := "checkIndex", desc := "(IILjava/util/function/BiFunction;)I" } : Jvm.MethodName) jdk_41_method_11_code (3 : Nat) (Option.some Jvm.ClassFile.FieldType.int)]
set_option maxRecDepth 65536 in
theorem codes_eq : words1.filter isCode = codes1 := rfl
theorem w_codes : ∀ c ∈ words1.filter isCode, c.before args0 about1 = true := by
  rw [codes_eq]
  intro c hc
  simp only [codes1, List.mem_cons, List.not_mem_nil, or_false] at hc
  rcases hc with rfl | rfl | rfl | rfl | rfl | rfl | rfl | rfl | rfl | rfl | rfl | rfl | rfl | rfl | rfl | rfl | rfl | rfl | rfl | rfl | rfl | rfl | rfl | rfl | rfl | rfl | rfl | rfl | rfl | rfl
  · exact w_c0
  · exact w_c1
  · exact w_c2
  · exact w_c3
  · exact w_c4
  · exact w_c5
  · exact w_c6
  · exact w_c7
  · exact w_c8
  · exact w_c9
  · exact w_c10
  · exact w_c11
  · exact w_c12
  · exact w_c13
  · exact w_c14
  · exact w_c15
  · exact w_c16
  · exact w_c17
  · exact w_c18
  · exact w_c19
  · exact w_c20
  · exact w_c21
  · exact w_c22
  · exact w_c23
  · exact w_c24
  · exact w_c25
  · exact w_c26
  · exact w_c27
  · exact w_c28
  · exact w_c29
set_option maxRecDepth 65536 in
theorem w_t1 : (words1.take 24).all (fun c => isCode c || c.before args0 about1) = true := by decide +kernel
set_option maxRecDepth 65536 in
theorem w_t2 : ((words1.drop 24).take 24).all (fun c => isCode c || c.before args0 about1) = true := by decide +kernel
set_option maxRecDepth 65536 in
theorem w_t3 : (((words1.drop 24).drop 24).take 24).all (fun c => isCode c || c.before args0 about1) = true := by decide +kernel
set_option maxRecDepth 65536 in
theorem w_t4 : ((((words1.drop 24).drop 24).drop 24).take 24).all (fun c => isCode c || c.before args0 about1) = true := by decide +kernel
set_option maxRecDepth 65536 in
theorem w_t5 : (((((words1.drop 24).drop 24).drop 24).drop 24).take 24).all (fun c => isCode c || c.before args0 about1) = true := by decide +kernel
set_option maxRecDepth 65536 in
theorem w_t6 : ((((((words1.drop 24).drop 24).drop 24).drop 24).drop 24).take 24).all (fun c => isCode c || c.before args0 about1) = true := by decide +kernel
set_option maxRecDepth 65536 in
theorem w_t7 : ((((((words1.drop 24).drop 24).drop 24).drop 24).drop 24).drop 24).all (fun c => isCode c || c.before args0 about1) = true := by decide +kernel
theorem w_tables : (allAtoms (Jvm.Cond.code x code maxLocals ret :: tables_1)).before args0 about1 = true := by
  rw [allAtoms_all]
  show words1.all (fun c => c.before args0 about1) = true
  refine all_split ?_ w_codes
  rw [← List.take_append_drop 24 words1, List.all_append, w_t1, ← List.take_append_drop 24 (words1.drop 24), List.all_append, w_t2, ← List.take_append_drop 24 ((words1.drop 24).drop 24), List.all_append, w_t3, ← List.take_append_drop 24 (((words1.drop 24).drop 24).drop 24), List.all_append, w_t4, ← List.take_append_drop 24 ((((words1.drop 24).drop 24).drop 24).drop 24), List.all_append, w_t5, ← List.take_append_drop 24 (((((words1.drop 24).drop 24).drop 24).drop 24).drop 24), List.all_append, w_t6, w_t7]
  rfl
set_option maxRecDepth 65536 in
theorem w_rest : rest_1_c.before args0 about1 = true := by decide +kernel
set_option maxRecDepth 65536 in
theorem w_case : (Jvm.Cond.and given_1 narrow_1).before args0 about1 = true := by decide +kernel
set_option maxRecDepth 65536 in
theorem w_consts : constsHeld consts_1 about1 := Jvm.Lit.constsHeldB_iff.mp (by decide +kernel)
theorem w_applies : (headSpec (Jvm.Cond.code x code maxLocals ret :: tables_1) room_1).applies x e0.platform about1 = true :=
  (Spec.applies_iff w_frames).mpr ⟨w_running, w_runnable, w_alone, w_named, w_hears, w_ripe, w_room, w_tables⟩
theorem atStart : AtStart classFile x code maxLocals ret World_1 tables_1 room_1 Calls_1 rest_1 Pre_1 launch0 p0 e0 about1 theMethod args0 below0 :=
  ⟨lists_1, trivial, launch0.admits_env _ _ _, launch0.least_env, fairChoices_fair.cas, fairChoices_fair.clock, w_frames, w_args, w_heap, w_applies, ⟨w_consts, trivial⟩, w_rest, w_case⟩
end start1
theorem witness_1 : WitnessClaimed_1 := ⟨start1.p0, start1.e0, start1.about1, start1.theMethod, start1.args0, start1.below0, start1.atStart⟩
end Jvm.Pilot.@@N@@
