import JvmDerived
import JvmDerived.Pilot.@@N@@Statement
import JvmDerived.Pilot.@@N@@Code
set_option linter.unusedVariables false
set_option linter.unusedSimpArgs false
namespace Jvm.Pilot.@@N@@
open Jvm Jvm.ClassFile Sem Op Lib Jvm.Free Jvm.Stand Jvm.LawKit Jvm.RoadKit Bundle Jvm.Pilot.@@N@@.Jvm.D
/-- from the state S the run comes to an end of which Q holds -/
def Own (p : Program) (e : Env) (below : List Frame) (Q : State → Outcome → Prop) (S : State) : Prop := ∃ s₂ o, Steps p.tables e below S s₂ ∧ s₂.status = .running ∧ Ended s₂ below o ∧ Q s₂ o
theorem ogo {p : Program} {e : Env} {below : List Frame} {Q : State → Outcome → Prop} {S S' : State} (h : ∀ t, Steps p.tables e below S' t → Steps p.tables e below S t) (k : Own p e below Q S') : Own p e below Q S := by
  obtain ⟨t, o, k1, k2⟩ := k; exact ⟨t, o, h _ k1, k2⟩
theorem otr {p : Program} {e : Env} {below : List Frame} {Q : State → Outcome → Prop} {S S' : State} (h : Steps p.tables e below S S') (k : Own p e below Q S') : Own p e below Q S := by
  obtain ⟨t, o, k1, k2⟩ := k; exact ⟨t, o, h.trans k1, k2⟩
/-- what a contract says of the end: q of what is returned, of the heap and of the places written; the frame -/
abbrev oPost (q : Option Value → Heap → List Loc → Prop) (s : State) (cc ss : Nat) : State → Outcome → Prop := fun s₂ o => ∃ v L, o = .returned v ∧ q v s₂.heap L ∧ FrameEnd s o s₂ L cc ss
abbrev oMet (l : Launch) (Z : State) (y : MethodName) (code : ByteArray) (maxL : Nat) (ret : Option FieldType) (ws : List Jvm.Cond) (rm : Room) (cc ss : Nat) (as' : Array Value) (h0 : Heap) (q : Option Value → Heap → List Loc → Prop) : Prop :=
  MetFree l y (head1 (Jvm.Cond.code y code maxL ret :: ws) rm) (fun a U => a = as' ∧ Z.Warmed39 U.vm ∧ U.heap = h0) (fun _ _ _ _ _ => True) (fun _ U o U' => ∃ v L, o = .returned v ∧ q v U'.heap L ∧ FrameEnd U o U' L cc ss)
theorem oenter {l : Launch} {Z : State} {y : MethodName} {code : ByteArray} {maxL : Nat} {ret : Option FieldType} {ws : List Jvm.Cond} {rm : Room} {cc ss : Nat} {as' : Array Value} {h0 : Heap} {q : Option Value → Heap → List Loc → Prop} (pn : plainName y.cls = true) (Ls : Array Slot) (ef : ∀ m, entryFrame m as' maxL = mkF m 0 Ls [])
    (body : ∀ (p : Program) (e : Env) (s : State) (m : MethodId) (below : List Frame) (meth : Method) (c : Code) (s₁ : State), Stand p l e rm s m as' below meth c s₁ [] 0 0 → p.tables.exec = Jvm.exec → Z.Warmed39 s.vm → c.code = code → c.maxLocals = maxL → meth.sig.returnType = ret → s.vm.findClass y.cls = some m.cls → meth.name = y.name → meth.locks = false → s₁.heap = h0 → Own p e below (oPost q s cc ss) (s₁.setTop (mkF m 0 Ls []))) : oMet l Z y code maxL ret ws rm cc ss as' h0 q := by
  refine MetFree.of_bodySF (plainFor_of_name pn) hisR ?_
  intro p e s m args below meth c s₁ Bd hml0 hP hK
  obtain ⟨rfl, hZ, hh⟩ := hP
  have e0 : s₁.heap = h0 := by rw [← hh, Bd.state]; rfl
  obtain ⟨t, o, h1, h2⟩ := body p e s m below meth c s₁ (Stand.of_body Bd) Bd.exec hZ Bd.bytes hml0 Bd.returns (findClass_of_methodNamed Bd.named) (name_of_methodNamed Bd.named Bd.method).1 (BodyLoose.notSynchronized Bd) e0
  exact ⟨t, o, castTop (ef m) h1, h2⟩
def own_ushr (x y : Int32) : Int32 := (x.toUInt32 >>> (y &&& 31).toUInt32).toInt32
def own_ushrL (x : Int64) (y : Int32) : Int64 := (x.toUInt64 >>> (y &&& 0x3f).toInt64.toUInt64).toInt64
section Steps
variable {p : Program} {l : Launch} {e : Env} {R : Room} {s : State} {m : MethodId} {args : Array Value} {below : List Frame} {meth : Method} {c : Code} {T : State} {locs : List Loc} {cells slots : Nat} {Q : State → Outcome → Prop}
theorem oend {v : Option Value} {q : Option Value → Heap → List Loc → Prop} {cc ss : Nat} {S : State} (X : Stand p l e R s m args below meth c T locs cells slots) (hlk : meth.locks = false) (hv : meth.sig.returnType = none → v = none)
    (st : ∀ fs, (∀ (f : JFrame) (acts : List Action), f.method = m → f.locked = none → f.entered = [] → (doReturn e (T.setTop f) acts v).1 = T.setFrames fs) → Steps p.tables e below S (T.setFrames fs)) (hc : cells ≤ cc) (hs : slots ≤ ss) (hq : q v T.heap locs) : Own p e below (oPost q s cc ss) S := by
  obtain ⟨fs, hr, hrun, hended, hW, hsame⟩ := X.leave (v := v) hv hlk
  exact ⟨_, _, st fs hr, hrun, hended, _, _, rfl, hq, ⟨_, rfl⟩, hW, hsame.mono hc hs⟩
theorem o_aloadN (X : Stand p l e R s m args below meth c T locs cells slots) (hx : p.tables.exec = Jvm.exec) {pc : Nat} {L : Array Slot} {S : List Value} {i : Fin 4} {v : Value} (hd : decode c.code pc = .ok (.aload_n i, 1)) (hl : L[i.val]? = some (.val v)) (hv : v.isRef = true) (k : Own p e below Q (T.setTop (mkF m (pc + 1) L (v :: S)))) : Own p e below Q (T.setTop (mkF m pc L S)) :=
  ogo (fun _ k => XS.aloadN X.here hx rfl hd hl hv k) k
theorem o_aload (X : Stand p l e R s m args below meth c T locs cells slots) (hx : p.tables.exec = Jvm.exec) {pc : Nat} {L : Array Slot} {S : List Value} {i : Nat} {v : Value} (hd : decode c.code pc = .ok (.aload i, 2)) (hl : L[i]? = some (.val v)) (hv : v.isRef = true) (k : Own p e below Q (T.setTop (mkF m (pc + 2) L (v :: S)))) : Own p e below Q (T.setTop (mkF m pc L S)) :=
  ogo (fun _ k => XS.aload X.here hx rfl hd hl hv k) k
theorem o_iloadN (X : Stand p l e R s m args below meth c T locs cells slots) (hx : p.tables.exec = Jvm.exec) {pc : Nat} {L : Array Slot} {S : List Value} {i : Fin 4} {v : Int32} (hd : decode c.code pc = .ok (.iload_n i, 1)) (hl : L[i.val]? = some (.val (.int v))) (k : Own p e below Q (T.setTop (mkF m (pc + 1) L ((.int v) :: S)))) : Own p e below Q (T.setTop (mkF m pc L S)) :=
  ogo (fun _ k => XS.iloadN X.here hx rfl hd hl k) k
theorem o_iload (X : Stand p l e R s m args below meth c T locs cells slots) (hx : p.tables.exec = Jvm.exec) {pc : Nat} {L : Array Slot} {S : List Value} {i : Nat} {v : Int32} (hd : decode c.code pc = .ok (.iload i, 2)) (hl : L[i]? = some (.val (.int v))) (k : Own p e below Q (T.setTop (mkF m (pc + 2) L ((.int v) :: S)))) : Own p e below Q (T.setTop (mkF m pc L S)) :=
  ogo (fun _ k => XS.iload X.here hx rfl hd hl k) k
theorem o_lloadN (X : Stand p l e R s m args below meth c T locs cells slots) (hx : p.tables.exec = Jvm.exec) {pc : Nat} {L : Array Slot} {S : List Value} {i : Fin 4} {v : Int64} (hd : decode c.code pc = .ok (.lload_n i, 1)) (hl : L[i.val]? = some (.val (.long v))) (k : Own p e below Q (T.setTop (mkF m (pc + 1) L ((.long v) :: S)))) : Own p e below Q (T.setTop (mkF m pc L S)) :=
  ogo (fun _ k => XS.lloadN X.here hx rfl hd hl k) k
theorem o_lload (X : Stand p l e R s m args below meth c T locs cells slots) (hx : p.tables.exec = Jvm.exec) {pc : Nat} {L : Array Slot} {S : List Value} {i : Nat} {v : Int64} (hd : decode c.code pc = .ok (.lload i, 2)) (hl : L[i]? = some (.val (.long v))) (k : Own p e below Q (T.setTop (mkF m (pc + 2) L ((.long v) :: S)))) : Own p e below Q (T.setTop (mkF m pc L S)) :=
  ogo (fun _ k => XS.lload X.here hx rfl hd hl k) k
theorem o_astoreN (X : Stand p l e R s m args below meth c T locs cells slots) (hx : p.tables.exec = Jvm.exec) {pc : Nat} {L : Array Slot} {S : List Value} {i : Fin 4} {v : Value} {l' : Array Slot} (hd : decode c.code pc = .ok (.astore_n i, 1)) (hv : v.isRef = true) (hl : storeLocals L i.val v = some l') (k : Own p e below Q (T.setTop (mkF m (pc + 1) l' S))) : Own p e below Q (T.setTop (mkF m pc L (v :: S))) :=
  ogo (fun _ k => XS.astoreN X.here hx rfl hd rfl hv hl k) k
theorem o_astore (X : Stand p l e R s m args below meth c T locs cells slots) (hx : p.tables.exec = Jvm.exec) {pc : Nat} {L : Array Slot} {S : List Value} {i : Nat} {v : Value} {l' : Array Slot} (hd : decode c.code pc = .ok (.astore i, 2)) (hv : v.isRef = true) (hl : storeLocals L i v = some l') (k : Own p e below Q (T.setTop (mkF m (pc + 2) l' S))) : Own p e below Q (T.setTop (mkF m pc L (v :: S))) :=
  ogo (fun _ k => XS.astore X.here hx rfl hd rfl hv hl k) k
theorem o_istoreN (X : Stand p l e R s m args below meth c T locs cells slots) (hx : p.tables.exec = Jvm.exec) {pc : Nat} {L : Array Slot} {S : List Value} {i : Fin 4} {v : Int32} {l' : Array Slot} (hd : decode c.code pc = .ok (.istore_n i, 1)) (hl : storeLocals L i.val (.int v) = some l') (k : Own p e below Q (T.setTop (mkF m (pc + 1) l' S))) : Own p e below Q (T.setTop (mkF m pc L ((.int v) :: S))) :=
  ogo (fun _ k => XS.istoreN X.here hx rfl hd rfl hl k) k
theorem o_istore (X : Stand p l e R s m args below meth c T locs cells slots) (hx : p.tables.exec = Jvm.exec) {pc : Nat} {L : Array Slot} {S : List Value} {i : Nat} {v : Int32} {l' : Array Slot} (hd : decode c.code pc = .ok (.istore i, 2)) (hl : storeLocals L i (.int v) = some l') (k : Own p e below Q (T.setTop (mkF m (pc + 2) l' S))) : Own p e below Q (T.setTop (mkF m pc L ((.int v) :: S))) :=
  ogo (fun _ k => XS.istore X.here hx rfl hd rfl hl k) k
theorem o_lstoreN (X : Stand p l e R s m args below meth c T locs cells slots) (hx : p.tables.exec = Jvm.exec) {pc : Nat} {L : Array Slot} {S : List Value} {i : Fin 4} {v : Int64} {l' : Array Slot} (hd : decode c.code pc = .ok (.lstore_n i, 1)) (hl : storeLocals L i.val (.long v) = some l') (k : Own p e below Q (T.setTop (mkF m (pc + 1) l' S))) : Own p e below Q (T.setTop (mkF m pc L ((.long v) :: S))) :=
  ogo (fun _ k => XS.lstoreN X.here hx rfl hd rfl hl k) k
theorem o_lstore (X : Stand p l e R s m args below meth c T locs cells slots) (hx : p.tables.exec = Jvm.exec) {pc : Nat} {L : Array Slot} {S : List Value} {i : Nat} {v : Int64} {l' : Array Slot} (hd : decode c.code pc = .ok (.lstore i, 2)) (hl : storeLocals L i (.long v) = some l') (k : Own p e below Q (T.setTop (mkF m (pc + 2) l' S))) : Own p e below Q (T.setTop (mkF m pc L ((.long v) :: S))) :=
  ogo (fun _ k => XS.lstore X.here hx rfl hd rfl hl k) k
theorem o_iconst (X : Stand p l e R s m args below meth c T locs cells slots) (hx : p.tables.exec = Jvm.exec) {pc : Nat} {L : Array Slot} {S : List Value} {i : Int} (v : Int32) (hd : decode c.code pc = .ok (.iconst i, 1)) (hv : Int32.ofInt i = v) (k : Own p e below Q (T.setTop (mkF m (pc + 1) L (.int v :: S)))) : Own p e below Q (T.setTop (mkF m pc L S)) := by
  subst hv; exact ogo (fun _ k => XS.iconst X.here hx rfl hd k) k
theorem o_bipush (X : Stand p l e R s m args below meth c T locs cells slots) (hx : p.tables.exec = Jvm.exec) {pc : Nat} {L : Array Slot} {S : List Value} {i : Int} (v : Int32) (hd : decode c.code pc = .ok (.bipush i, 2)) (hv : (Int8.ofInt i).toInt32 = v) (k : Own p e below Q (T.setTop (mkF m (pc + 2) L (.int v :: S)))) : Own p e below Q (T.setTop (mkF m pc L S)) := by
  subst hv; exact ogo (fun _ k => XS.bipush X.here hx rfl hd k) k
theorem o_sipush (X : Stand p l e R s m args below meth c T locs cells slots) (hx : p.tables.exec = Jvm.exec) {pc : Nat} {L : Array Slot} {S : List Value} {i : Int} (v : Int32) (hd : decode c.code pc = .ok (.sipush i, 3)) (hv : (Int16.ofInt i).toInt32 = v) (k : Own p e below Q (T.setTop (mkF m (pc + 3) L (.int v :: S)))) : Own p e below Q (T.setTop (mkF m pc L S)) := by
  subst hv; exact ogo (fun _ k => XS.sipush X.here hx rfl hd k) k
theorem o_lconst (X : Stand p l e R s m args below meth c T locs cells slots) (hx : p.tables.exec = Jvm.exec) {pc : Nat} {L : Array Slot} {S : List Value} {i : Fin 2} (v : Int64) (hd : decode c.code pc = .ok (.lconst i, 1)) (hv : Int64.ofNat i = v) (k : Own p e below Q (T.setTop (mkF m (pc + 1) L (.long v :: S)))) : Own p e below Q (T.setTop (mkF m pc L S)) := by
  subst hv; exact ogo (fun _ k => XS.lconst X.here hx rfl hd k) k
theorem o_aconst_null (X : Stand p l e R s m args below meth c T locs cells slots) (hx : p.tables.exec = Jvm.exec) {pc : Nat} {L : Array Slot} {S : List Value} (hd : decode c.code pc = .ok (.aconst_null, 1)) (k : Own p e below Q (T.setTop (mkF m (pc + 1) L (.null :: S)))) : Own p e below Q (T.setTop (mkF m pc L S)) :=
  ogo (fun _ k => XS.aconstNull X.here hx rfl hd k) k
theorem o_iadd (X : Stand p l e R s m args below meth c T locs cells slots) (hx : p.tables.exec = Jvm.exec) {pc : Nat} {L : Array Slot} {S : List Value} {x y : Int32} (hd : decode c.code pc = .ok (.iadd, 1)) (k : Own p e below Q (T.setTop (mkF m (pc + 1) L (.int (x + y) :: S)))) : Own p e below Q (T.setTop (mkF m pc L (.int y :: .int x :: S))) :=
  ogo (fun _ k => XS.iadd X.here hx rfl hd rfl k) k
theorem o_isub (X : Stand p l e R s m args below meth c T locs cells slots) (hx : p.tables.exec = Jvm.exec) {pc : Nat} {L : Array Slot} {S : List Value} {x y : Int32} (hd : decode c.code pc = .ok (.isub, 1)) (k : Own p e below Q (T.setTop (mkF m (pc + 1) L (.int (x - y) :: S)))) : Own p e below Q (T.setTop (mkF m pc L (.int y :: .int x :: S))) :=
  ogo (fun _ k => XS.isub X.here hx rfl hd rfl k) k
theorem o_imul (X : Stand p l e R s m args below meth c T locs cells slots) (hx : p.tables.exec = Jvm.exec) {pc : Nat} {L : Array Slot} {S : List Value} {x y : Int32} (hd : decode c.code pc = .ok (.imul, 1)) (k : Own p e below Q (T.setTop (mkF m (pc + 1) L (.int (x * y) :: S)))) : Own p e below Q (T.setTop (mkF m pc L (.int y :: .int x :: S))) :=
  ogo (fun _ k => XS.imul X.here hx rfl hd rfl k) k
theorem o_iand (X : Stand p l e R s m args below meth c T locs cells slots) (hx : p.tables.exec = Jvm.exec) {pc : Nat} {L : Array Slot} {S : List Value} {x y : Int32} (hd : decode c.code pc = .ok (.iand, 1)) (k : Own p e below Q (T.setTop (mkF m (pc + 1) L (.int (x &&& y) :: S)))) : Own p e below Q (T.setTop (mkF m pc L (.int y :: .int x :: S))) :=
  ogo (fun _ k => XS.iand X.here hx rfl hd rfl k) k
theorem o_ior (X : Stand p l e R s m args below meth c T locs cells slots) (hx : p.tables.exec = Jvm.exec) {pc : Nat} {L : Array Slot} {S : List Value} {x y : Int32} (hd : decode c.code pc = .ok (.ior, 1)) (k : Own p e below Q (T.setTop (mkF m (pc + 1) L (.int (x ||| y) :: S)))) : Own p e below Q (T.setTop (mkF m pc L (.int y :: .int x :: S))) :=
  ogo (fun _ k => XS.ior X.here hx rfl hd rfl k) k
theorem o_ixor (X : Stand p l e R s m args below meth c T locs cells slots) (hx : p.tables.exec = Jvm.exec) {pc : Nat} {L : Array Slot} {S : List Value} {x y : Int32} (hd : decode c.code pc = .ok (.ixor, 1)) (k : Own p e below Q (T.setTop (mkF m (pc + 1) L (.int (x ^^^ y) :: S)))) : Own p e below Q (T.setTop (mkF m pc L (.int y :: .int x :: S))) :=
  ogo (fun _ k => XS.ixor X.here hx rfl hd rfl k) k
theorem o_ladd (X : Stand p l e R s m args below meth c T locs cells slots) (hx : p.tables.exec = Jvm.exec) {pc : Nat} {L : Array Slot} {S : List Value} {x y : Int64} (hd : decode c.code pc = .ok (.ladd, 1)) (k : Own p e below Q (T.setTop (mkF m (pc + 1) L (.long (x + y) :: S)))) : Own p e below Q (T.setTop (mkF m pc L (.long y :: .long x :: S))) :=
  ogo (fun _ k => XS.ladd X.here hx rfl hd rfl k) k
theorem o_lsub (X : Stand p l e R s m args below meth c T locs cells slots) (hx : p.tables.exec = Jvm.exec) {pc : Nat} {L : Array Slot} {S : List Value} {x y : Int64} (hd : decode c.code pc = .ok (.lsub, 1)) (k : Own p e below Q (T.setTop (mkF m (pc + 1) L (.long (x - y) :: S)))) : Own p e below Q (T.setTop (mkF m pc L (.long y :: .long x :: S))) :=
  ogo (fun _ k => XS.lsub X.here hx rfl hd rfl k) k
theorem o_lmul (X : Stand p l e R s m args below meth c T locs cells slots) (hx : p.tables.exec = Jvm.exec) {pc : Nat} {L : Array Slot} {S : List Value} {x y : Int64} (hd : decode c.code pc = .ok (.lmul, 1)) (k : Own p e below Q (T.setTop (mkF m (pc + 1) L (.long (x * y) :: S)))) : Own p e below Q (T.setTop (mkF m pc L (.long y :: .long x :: S))) :=
  ogo (fun _ k => XS.lmul X.here hx rfl hd rfl k) k
theorem o_land (X : Stand p l e R s m args below meth c T locs cells slots) (hx : p.tables.exec = Jvm.exec) {pc : Nat} {L : Array Slot} {S : List Value} {x y : Int64} (hd : decode c.code pc = .ok (.land, 1)) (k : Own p e below Q (T.setTop (mkF m (pc + 1) L (.long (x &&& y) :: S)))) : Own p e below Q (T.setTop (mkF m pc L (.long y :: .long x :: S))) :=
  ogo (fun _ k => XS.land X.here hx rfl hd rfl k) k
theorem o_lor (X : Stand p l e R s m args below meth c T locs cells slots) (hx : p.tables.exec = Jvm.exec) {pc : Nat} {L : Array Slot} {S : List Value} {x y : Int64} (hd : decode c.code pc = .ok (.lor, 1)) (k : Own p e below Q (T.setTop (mkF m (pc + 1) L (.long (x ||| y) :: S)))) : Own p e below Q (T.setTop (mkF m pc L (.long y :: .long x :: S))) :=
  ogo (fun _ k => XS.lor X.here hx rfl hd rfl k) k
theorem o_lxor (X : Stand p l e R s m args below meth c T locs cells slots) (hx : p.tables.exec = Jvm.exec) {pc : Nat} {L : Array Slot} {S : List Value} {x y : Int64} (hd : decode c.code pc = .ok (.lxor, 1)) (k : Own p e below Q (T.setTop (mkF m (pc + 1) L (.long (x ^^^ y) :: S)))) : Own p e below Q (T.setTop (mkF m pc L (.long y :: .long x :: S))) :=
  ogo (fun _ k => XS.lxor X.here hx rfl hd rfl k) k
theorem o_ishl (X : Stand p l e R s m args below meth c T locs cells slots) (hx : p.tables.exec = Jvm.exec) {pc : Nat} {L : Array Slot} {S : List Value} {x : Int32} {y : Int32} (hd : decode c.code pc = .ok (.ishl, 1)) (k : Own p e below Q (T.setTop (mkF m (pc + 1) L (.int (x <<< (y &&& 31)) :: S)))) : Own p e below Q (T.setTop (mkF m pc L (.int y :: .int x :: S))) :=
  ogo (fun _ k => XS.ishl X.here hx rfl hd rfl k) k
theorem o_ishr (X : Stand p l e R s m args below meth c T locs cells slots) (hx : p.tables.exec = Jvm.exec) {pc : Nat} {L : Array Slot} {S : List Value} {x : Int32} {y : Int32} (hd : decode c.code pc = .ok (.ishr, 1)) (k : Own p e below Q (T.setTop (mkF m (pc + 1) L (.int (x >>> (y &&& 31)) :: S)))) : Own p e below Q (T.setTop (mkF m pc L (.int y :: .int x :: S))) :=
  ogo (fun _ k => XS.ishr X.here hx rfl hd rfl k) k
theorem o_iushr (X : Stand p l e R s m args below meth c T locs cells slots) (hx : p.tables.exec = Jvm.exec) {pc : Nat} {L : Array Slot} {S : List Value} {x : Int32} {y : Int32} (hd : decode c.code pc = .ok (.iushr, 1)) (k : Own p e below Q (T.setTop (mkF m (pc + 1) L (.int (own_ushr x y) :: S)))) : Own p e below Q (T.setTop (mkF m pc L (.int y :: .int x :: S))) :=
  ogo (fun _ k => XS.iushr X.here hx rfl hd rfl k) k
theorem o_lshl (X : Stand p l e R s m args below meth c T locs cells slots) (hx : p.tables.exec = Jvm.exec) {pc : Nat} {L : Array Slot} {S : List Value} {x : Int64} {y : Int32} (hd : decode c.code pc = .ok (.lshl, 1)) (k : Own p e below Q (T.setTop (mkF m (pc + 1) L (.long (x <<< (y &&& 0x3f).toInt64) :: S)))) : Own p e below Q (T.setTop (mkF m pc L (.int y :: .long x :: S))) :=
  ogo (fun _ k => XS.lshl X.here hx rfl hd rfl k) k
theorem o_lshr (X : Stand p l e R s m args below meth c T locs cells slots) (hx : p.tables.exec = Jvm.exec) {pc : Nat} {L : Array Slot} {S : List Value} {x : Int64} {y : Int32} (hd : decode c.code pc = .ok (.lshr, 1)) (k : Own p e below Q (T.setTop (mkF m (pc + 1) L (.long (x >>> (y &&& 0x3f).toInt64) :: S)))) : Own p e below Q (T.setTop (mkF m pc L (.int y :: .long x :: S))) :=
  ogo (fun _ k => XS.lshr X.here hx rfl hd rfl k) k
theorem o_lushr (X : Stand p l e R s m args below meth c T locs cells slots) (hx : p.tables.exec = Jvm.exec) {pc : Nat} {L : Array Slot} {S : List Value} {x : Int64} {y : Int32} (hd : decode c.code pc = .ok (.lushr, 1)) (k : Own p e below Q (T.setTop (mkF m (pc + 1) L (.long (own_ushrL x y) :: S)))) : Own p e below Q (T.setTop (mkF m pc L (.int y :: .long x :: S))) :=
  ogo (fun _ k => XS.lushr X.here hx rfl hd rfl k) k
theorem o_ineg (X : Stand p l e R s m args below meth c T locs cells slots) (hx : p.tables.exec = Jvm.exec) {pc : Nat} {L : Array Slot} {S : List Value} {x : Int32} (hd : decode c.code pc = .ok (.ineg, 1)) (k : Own p e below Q (T.setTop (mkF m (pc + 1) L (.int (-x) :: S)))) : Own p e below Q (T.setTop (mkF m pc L (.int x :: S))) :=
  ogo (fun _ k => XS.ineg X.here hx rfl hd rfl k) k
theorem o_lneg (X : Stand p l e R s m args below meth c T locs cells slots) (hx : p.tables.exec = Jvm.exec) {pc : Nat} {L : Array Slot} {S : List Value} {x : Int64} (hd : decode c.code pc = .ok (.lneg, 1)) (k : Own p e below Q (T.setTop (mkF m (pc + 1) L (.long (-x) :: S)))) : Own p e below Q (T.setTop (mkF m pc L (.long x :: S))) :=
  ogo (fun _ k => XS.lneg X.here hx rfl hd rfl k) k
theorem o_i2l (X : Stand p l e R s m args below meth c T locs cells slots) (hx : p.tables.exec = Jvm.exec) {pc : Nat} {L : Array Slot} {S : List Value} {x : Int32} (hd : decode c.code pc = .ok (.i2l, 1)) (k : Own p e below Q (T.setTop (mkF m (pc + 1) L (.long (x.toInt64) :: S)))) : Own p e below Q (T.setTop (mkF m pc L (.int x :: S))) :=
  ogo (fun _ k => XS.i2l X.here hx rfl hd rfl k) k
theorem o_l2i (X : Stand p l e R s m args below meth c T locs cells slots) (hx : p.tables.exec = Jvm.exec) {pc : Nat} {L : Array Slot} {S : List Value} {x : Int64} (hd : decode c.code pc = .ok (.l2i, 1)) (k : Own p e below Q (T.setTop (mkF m (pc + 1) L (.int (x.toInt32) :: S)))) : Own p e below Q (T.setTop (mkF m pc L (.long x :: S))) :=
  ogo (fun _ k => XS.l2i X.here hx rfl hd rfl k) k
theorem o_i2b (X : Stand p l e R s m args below meth c T locs cells slots) (hx : p.tables.exec = Jvm.exec) {pc : Nat} {L : Array Slot} {S : List Value} {x : Int32} (hd : decode c.code pc = .ok (.i2b, 1)) (k : Own p e below Q (T.setTop (mkF m (pc + 1) L (.int (x.toInt8.toInt32) :: S)))) : Own p e below Q (T.setTop (mkF m pc L (.int x :: S))) :=
  ogo (fun _ k => XS.i2b X.here hx rfl hd rfl k) k
theorem o_i2s (X : Stand p l e R s m args below meth c T locs cells slots) (hx : p.tables.exec = Jvm.exec) {pc : Nat} {L : Array Slot} {S : List Value} {x : Int32} (hd : decode c.code pc = .ok (.i2s, 1)) (k : Own p e below Q (T.setTop (mkF m (pc + 1) L (.int (x.toInt16.toInt32) :: S)))) : Own p e below Q (T.setTop (mkF m pc L (.int x :: S))) :=
  ogo (fun _ k => XS.i2s X.here hx rfl hd rfl k) k
theorem o_i2c (X : Stand p l e R s m args below meth c T locs cells slots) (hx : p.tables.exec = Jvm.exec) {pc : Nat} {L : Array Slot} {S : List Value} {x : Int32} (hd : decode c.code pc = .ok (.i2c, 1)) (k : Own p e below Q (T.setTop (mkF m (pc + 1) L (.int (nar .char x) :: S)))) : Own p e below Q (T.setTop (mkF m pc L (.int x :: S))) :=
  ogo (fun _ k => XS.i2c X.here hx rfl hd rfl k) k
theorem o_lcmp (X : Stand p l e R s m args below meth c T locs cells slots) (hx : p.tables.exec = Jvm.exec) {pc : Nat} {L : Array Slot} {S : List Value} {x y : Int64} (hd : decode c.code pc = .ok (.lcmp, 1)) (k : Own p e below Q (T.setTop (mkF m (pc + 1) L (.int (lcmpW x y) :: S)))) : Own p e below Q (T.setTop (mkF m pc L (.long y :: .long x :: S))) :=
  ogo (fun _ k => XS.lcmp X.here hx rfl hd rfl k) k
theorem o_idiv (X : Stand p l e R s m args below meth c T locs cells slots) (hx : p.tables.exec = Jvm.exec) {pc : Nat} {L : Array Slot} {S : List Value} {x y : Int32} (hd : decode c.code pc = .ok (.idiv, 1)) (hy : y ≠ 0) (k : Own p e below Q (T.setTop (mkF m (pc + 1) L (.int (x / y) :: S)))) : Own p e below Q (T.setTop (mkF m pc L (.int y :: .int x :: S))) :=
  ogo (fun _ k => XS.idiv X.here hx rfl hd rfl hy k) k
theorem o_ldiv (X : Stand p l e R s m args below meth c T locs cells slots) (hx : p.tables.exec = Jvm.exec) {pc : Nat} {L : Array Slot} {S : List Value} {x y : Int64} (hd : decode c.code pc = .ok (.ldiv, 1)) (hy : y ≠ 0) (k : Own p e below Q (T.setTop (mkF m (pc + 1) L (.long (x / y) :: S)))) : Own p e below Q (T.setTop (mkF m pc L (.long y :: .long x :: S))) :=
  ogo (fun _ k => XS.ldiv X.here hx rfl hd rfl hy k) k
theorem o_lrem (X : Stand p l e R s m args below meth c T locs cells slots) (hx : p.tables.exec = Jvm.exec) {pc : Nat} {L : Array Slot} {S : List Value} {x y : Int64} (hd : decode c.code pc = .ok (.lrem, 1)) (hy : y ≠ 0) (k : Own p e below Q (T.setTop (mkF m (pc + 1) L (.long (x - (x / y) * y) :: S)))) : Own p e below Q (T.setTop (mkF m pc L (.long y :: .long x :: S))) :=
  ogo (fun _ k => XS.lrem X.here hx rfl hd rfl hy k) k
theorem o_irem (X : Stand p l e R s m args below meth c T locs cells slots) (hx : p.tables.exec = Jvm.exec) {pc : Nat} {L : Array Slot} {S : List Value} {x y : Int32} (hd : decode c.code pc = .ok (.irem, 1)) (hy : y ≠ 0) (k : Own p e below Q (T.setTop (mkF m (pc + 1) L (.int (x % y) :: S)))) : Own p e below Q (T.setTop (mkF m pc L (.int y :: .int x :: S))) :=
  ogo (fun _ k => iremM X hx rfl hd rfl hy k) k
theorem o_iinc (X : Stand p l e R s m args below meth c T locs cells slots) (hx : p.tables.exec = Jvm.exec) {pc : Nat} {L : Array Slot} {S : List Value} {i : Nat} {n : Int} {x : Int32} {l' : Array Slot} (hd : decode c.code pc = .ok (.iinc i n, 3)) (hl : L[i]? = some (.val (.int x))) (hl' : storeLocals L i (.int (x + Int32.ofInt n)) = some l') (k : Own p e below Q (T.setTop (mkF m (pc + 3) l' S))) : Own p e below Q (T.setTop (mkF m pc L S)) :=
  ogo (fun _ k => XS.iinc X.here hx rfl hd hl hl' k) k
theorem o_dup (X : Stand p l e R s m args below meth c T locs cells slots) (hx : p.tables.exec = Jvm.exec) {pc : Nat} {L : Array Slot} {S : List Value} {v : Value} (hd : decode c.code pc = .ok (.dup, 1)) (hc : v.category = 1) (k : Own p e below Q (T.setTop (mkF m (pc + 1) L (v :: v :: S)))) : Own p e below Q (T.setTop (mkF m pc L (v :: S))) :=
  ogo (fun _ k => XS.dup X.here hx rfl hd rfl hc k) k
theorem o_dup_x1 (X : Stand p l e R s m args below meth c T locs cells slots) (hx : p.tables.exec = Jvm.exec) {pc : Nat} {L : Array Slot} {S : List Value} {v w : Value} (hd : decode c.code pc = .ok (.dup_x1, 1)) (hc : v.category = 1) (hc' : w.category = 1) (k : Own p e below Q (T.setTop (mkF m (pc + 1) L (v :: w :: v :: S)))) : Own p e below Q (T.setTop (mkF m pc L (v :: w :: S))) :=
  ogo (fun _ k => XS.dupX1 X.here hx rfl hd rfl hc hc' k) k
theorem o_pop (X : Stand p l e R s m args below meth c T locs cells slots) (hx : p.tables.exec = Jvm.exec) {pc : Nat} {L : Array Slot} {S : List Value} {v : Value} (hd : decode c.code pc = .ok (.pop, 1)) (hc : v.category = 1) (k : Own p e below Q (T.setTop (mkF m (pc + 1) L S))) : Own p e below Q (T.setTop (mkF m pc L (v :: S))) :=
  ogo (fun _ k => XS.pop X.here hx rfl hd rfl hc k) k
theorem o_goto (X : Stand p l e R s m args below meth c T locs cells slots) (hx : p.tables.exec = Jvm.exec) {pc : Nat} {L : Array Slot} {S : List Value} {o : Int} (pc' : Nat) (hd : decode c.code pc = .ok (.goto o, 3)) (ho : 0 ≤ (pc : Int) + o) (hp : ((pc : Int) + o).toNat = pc') (k : Own p e below Q (T.setTop (mkF m (pc') L S))) : Own p e below Q (T.setTop (mkF m pc L S)) :=
  ogo (fun _ k => XS.goto X.here hx rfl rfl hd ho hp k) k
theorem o_ifYes (X : Stand p l e R s m args below meth c T locs cells slots) (hx : p.tables.exec = Jvm.exec) {pc : Nat} {L : Array Slot} {S : List Value} {cd : ClassFile.Cond} {x : Int32} {o : Int} (pc' : Nat) (hd : decode c.code pc = .ok (.ifCond cd o, 3)) (hc : if_icmp.holds cd x 0 = true) (ho : 0 ≤ (pc : Int) + o) (hp : ((pc : Int) + o).toNat = pc') (k : Own p e below Q (T.setTop (mkF m (pc') L S))) : Own p e below Q (T.setTop (mkF m pc L (.int x :: S))) :=
  ogo (fun _ k => XS.ifYes X.here hx rfl rfl hd rfl ((if0 _ _).trans hc) ho hp k) k
theorem o_ifNo (X : Stand p l e R s m args below meth c T locs cells slots) (hx : p.tables.exec = Jvm.exec) {pc : Nat} {L : Array Slot} {S : List Value} {cd : ClassFile.Cond} {x : Int32} {o : Int} (hd : decode c.code pc = .ok (.ifCond cd o, 3)) (hc : if_icmp.holds cd x 0 = false) (k : Own p e below Q (T.setTop (mkF m (pc + 3) L S))) : Own p e below Q (T.setTop (mkF m pc L (.int x :: S))) :=
  ogo (fun _ k => XS.ifNo X.here hx rfl hd rfl ((if0 _ _).trans hc) k) k
theorem o_icmpYes (X : Stand p l e R s m args below meth c T locs cells slots) (hx : p.tables.exec = Jvm.exec) {pc : Nat} {L : Array Slot} {S : List Value} {cd : ClassFile.Cond} {x y : Int32} {o : Int} (pc' : Nat) (hd : decode c.code pc = .ok (.if_icmp cd o, 3)) (hc : if_icmp.holds cd x y = true) (ho : 0 ≤ (pc : Int) + o) (hp : ((pc : Int) + o).toNat = pc') (k : Own p e below Q (T.setTop (mkF m (pc') L S))) : Own p e below Q (T.setTop (mkF m pc L (.int y :: .int x :: S))) :=
  ogo (fun _ k => XS.icmpYes X.here hx rfl rfl hd rfl hc ho hp k) k
theorem o_icmpNo (X : Stand p l e R s m args below meth c T locs cells slots) (hx : p.tables.exec = Jvm.exec) {pc : Nat} {L : Array Slot} {S : List Value} {cd : ClassFile.Cond} {x y : Int32} {o : Int} (hd : decode c.code pc = .ok (.if_icmp cd o, 3)) (hc : if_icmp.holds cd x y = false) (k : Own p e below Q (T.setTop (mkF m (pc + 3) L S))) : Own p e below Q (T.setTop (mkF m pc L (.int y :: .int x :: S))) :=
  ogo (fun _ k => XS.icmpNo X.here hx rfl hd rfl hc k) k
theorem o_ifnullYes (X : Stand p l e R s m args below meth c T locs cells slots) (hx : p.tables.exec = Jvm.exec) {pc : Nat} {L : Array Slot} {S : List Value} {o : Int} (pc' : Nat) (hd : decode c.code pc = .ok (.ifnull o, 3)) (ho : 0 ≤ (pc : Int) + o) (hp : ((pc : Int) + o).toNat = pc') (k : Own p e below Q (T.setTop (mkF m (pc') L S))) : Own p e below Q (T.setTop (mkF m pc L (.null :: S))) :=
  ogo (fun _ k => XS.ifnullYes X.here hx rfl rfl hd rfl ho hp k) k
theorem o_ifnullNo (X : Stand p l e R s m args below meth c T locs cells slots) (hx : p.tables.exec = Jvm.exec) {pc : Nat} {L : Array Slot} {S : List Value} {o : Int} {b : Addr} (hd : decode c.code pc = .ok (.ifnull o, 3)) (k : Own p e below Q (T.setTop (mkF m (pc + 3) L S))) : Own p e below Q (T.setTop (mkF m pc L (.ref b :: S))) :=
  ogo (fun _ k => XS.ifnullNo X.here hx rfl hd rfl k) k
theorem o_ifnonnullYes (X : Stand p l e R s m args below meth c T locs cells slots) (hx : p.tables.exec = Jvm.exec) {pc : Nat} {L : Array Slot} {S : List Value} {o : Int} {b : Addr} (pc' : Nat) (hd : decode c.code pc = .ok (.ifnonnull o, 3)) (ho : 0 ≤ (pc : Int) + o) (hp : ((pc : Int) + o).toNat = pc') (k : Own p e below Q (T.setTop (mkF m (pc') L S))) : Own p e below Q (T.setTop (mkF m pc L (.ref b :: S))) :=
  ogo (fun _ k => XS.ifnonnullYes X.here hx rfl rfl hd rfl ho hp k) k
theorem o_ifnonnullNo (X : Stand p l e R s m args below meth c T locs cells slots) (hx : p.tables.exec = Jvm.exec) {pc : Nat} {L : Array Slot} {S : List Value} {o : Int} (hd : decode c.code pc = .ok (.ifnonnull o, 3)) (k : Own p e below Q (T.setTop (mkF m (pc + 3) L S))) : Own p e below Q (T.setTop (mkF m pc L (.null :: S))) :=
  ogo (fun _ k => XS.ifnonnullNo X.here hx rfl hd rfl k) k
theorem o_acmp (X : Stand p l e R s m args below meth c T locs cells slots) (hx : p.tables.exec = Jvm.exec) {pc : Nat} {L : Array Slot} {S : List Value} {cd : ClassFile.ACond} {x y : Value} {o : Int} (pc' : Nat) (same : Bool) (h1 : x.isRef = true) (h2 : y.isRef = true) (hd : decode c.code pc = .ok (.if_acmp cd o, 3)) (hq : decide (x = y) = same) (ho : 0 ≤ (pc : Int) + o) (hp : pc' = if acV cd same = true then ((pc : Int) + o).toNat else pc + 3) (k : Own p e below Q (T.setTop (mkF m (pc') L S))) : Own p e below Q (T.setTop (mkF m pc L (y :: x :: S))) :=
  ogo (fun _ k => Jvm.RoadKit.acmp X hx rfl h1 h2 rfl hd rfl hq ho hp k) k
theorem o_tswIn (X : Stand p l e R s m args below meth c T locs cells slots) (hx : p.tables.exec = Jvm.exec) {pc : Nat} {L : Array Slot} {S : List Value} {d lo hi : Int} {offs : Array Int} {len : Nat} {o : Int} {i : Int32} (pc' : Nat) (hd : decode c.code pc = .ok (.tableswitch d lo hi offs, len)) (hin : ¬ (i.toInt < lo ∨ i.toInt > hi)) (hoff : offs[(i.toInt - lo).toNat]? = some o) (ho : 0 ≤ (pc : Int) + o) (hp : ((pc : Int) + o).toNat = pc') (k : Own p e below Q (T.setTop (mkF m (pc') L S))) : Own p e below Q (T.setTop (mkF m pc L (.int i :: S))) :=
  ogo (fun _ k => XS.tswIn X.here hx rfl rfl hd rfl hin hoff ho hp k) k
theorem o_tswOut (X : Stand p l e R s m args below meth c T locs cells slots) (hx : p.tables.exec = Jvm.exec) {pc : Nat} {L : Array Slot} {S : List Value} {d lo hi : Int} {offs : Array Int} {len : Nat} {i : Int32} (pc' : Nat) (hd : decode c.code pc = .ok (.tableswitch d lo hi offs, len)) (hout : i.toInt < lo ∨ i.toInt > hi) (ho : 0 ≤ (pc : Int) + d) (hp : ((pc : Int) + d).toNat = pc') (k : Own p e below Q (T.setTop (mkF m (pc') L S))) : Own p e below Q (T.setTop (mkF m pc L (.int i :: S))) :=
  ogo (fun _ k => XS.tswOut X.here hx rfl rfl hd rfl hout ho hp k) k
end Steps

theorem own_cat {v : Value} (h : v.isRef = true) : v.category = 1 := by cases v <;> simp_all [Value.isRef, Value.category]
theorem own_narc (x : Int32) : nar .char (nar .char x) = nar .char x := by
  have h := c_i2c x
  have h' := c_i2c (nar .char x)
  refine Int32.toInt_inj.mp ?_
  show (nar .char x).toUInt32.toUInt16.toUInt32.toInt32.toInt = (nar .char x).toInt
  have e : (nar .char x).toInt = x.toUInt32.toUInt16.toUInt32.toInt32.toInt := rfl
  omega
theorem own_narb (x : Int32) : nar .byte x.toInt8.toInt32 = x.toInt8.toInt32 := by
  have h := c_i2b x
  have h' := c_i2b x.toInt8.toInt32
  refine Int32.toInt_inj.mp ?_
  show x.toInt8.toInt32.toInt8.toInt32.toInt = x.toInt8.toInt32.toInt
  omega
theorem own_eqref {args : Array Value} {s : State} {a b : Term} {z : Addr} (h : (Jvm.Cond.eq a b).value args s none s [] = some true) (hb : b.eval args s none [] s = some (.ref z)) : a.eval args s none [] s = some (.ref z) := by
  obtain ⟨x, y, h1, h2, k1, k2⟩ := cmp_v (Or.inl h)
  cases hb.symm.trans h2
  have q := gotT (eq_R h1 h2 k2.2 rfl) h
  rw [← q]; exact h1
theorem own_char {c : Int32} (h0 : ¬ (c < (0 : Int32))) (h1 : ¬ ((255 : Int32) < c)) : nar .char (c.toInt8.toInt32 &&& (255 : Int32)) = c := by
  rw [Int32.lt_iff_toInt_lt] at h0 h1
  have e0 : (0 : Int32).toInt = 0 := rfl
  have e1 : (255 : Int32).toInt = 255 := rfl
  have a := c_i2b c
  have b := c_mask c.toInt8.toInt32 (255 : Int32) 8 (by decide) (by decide)
  have d := c_i2c (c.toInt8.toInt32 &&& (255 : Int32))
  refine Int32.toInt_inj.mp ?_
  show (c.toInt8.toInt32 &&& (255 : Int32)).toUInt32.toUInt16.toUInt32.toInt32.toInt = c.toInt
  simp only [Nat.reducePow] at b
  omega
theorem own_narsm {c : Int32} (h0 : ¬ (c < (0 : Int32))) (h1 : ¬ ((255 : Int32) < c)) : nar .char c = c := by
  rw [Int32.lt_iff_toInt_lt] at h0 h1
  have e0 : (0 : Int32).toInt = 0 := rfl
  have e1 : (255 : Int32).toInt = 255 := rfl
  have d := c_i2c c
  refine Int32.toInt_inj.mp ?_
  show c.toUInt32.toUInt16.toUInt32.toInt32.toInt = c.toInt
  omega
def own_EL : List (String × Nat) := [("java/lang/String", 7)]
theorem own_EW {Z : State} {a0 : Array Value} (hw : ∀ d ∈ tables_1, d.before a0 Z = true) : EW Z a0 own_EL := (EW.cons (hw _ (List.mem_of_getElem? (i := 83) rfl)) (by decide) EW.nil)
theorem own_wS {Z : State} {a0 : Array Value} (hw : ∀ d ∈ tables_1, d.before a0 Z = true) : ∀ a ∈ Bundle.stringAtoms, a.before a0 Z = true := fun a ha => by
  simp only [Bundle.stringAtoms, List.mem_cons, List.not_mem_nil, or_false] at ha
  rcases ha with rfl | rfl | rfl | rfl | rfl | rfl | rfl
  · exact hw _ (List.mem_of_getElem? (i := 14) rfl)
  · exact hw _ (List.mem_of_getElem? (i := 13) rfl)
  · exact hw _ (List.mem_of_getElem? (i := 30) rfl)
  · exact hw _ (List.mem_of_getElem? (i := 40) rfl)
  · exact hw _ (List.mem_of_getElem? (i := 38) rfl)
  · exact hw _ (List.mem_of_getElem? (i := 84) rfl)
  · exact hw _ (List.mem_of_getElem? (i := 85) rfl)
theorem own_safe {Z : State} {EL : List (String × Nat)} {vm : Vm} {h : Heap} {x : Addr} (hal : Z.vm.Alike vm) (E : Exa Z h x "java/lang/String") (V : Fld Z h x "java/lang/String" "value" "[B" .null) : Safe Z EL vm h x := fun B => by
  obtain ⟨p, hp, u, a, hb, q, rfl, F, hy⟩ := B
  obtain ⟨cS, ⟨⟨s1, s2, s3, ⟨cv, kv, iv, s4, s4'⟩, -, s6, s7, s8, s9, s10, r⟩, hfS, hcS⟩, -, hB, -⟩ := F
  rcases hy with rfl | rfl
  · obtain ⟨cell, cf, k, i, f, h1, h2, -, -, -, -, h7⟩ := V
    obtain ⟨kv', z4⟩ := ff_back (U := Wst Z vm h) hal s4
    cases h2.symm.trans z4
    have e1 : some cell = some q.sC := h1.symm.trans s1
    cases e1
    rw [s8] at h7; cases h7
  · obtain ⟨cell, k, h1, h2, h3, -⟩ := E
    have e1 : some cell = some q.SA := h1.symm.trans s10
    cases e1
    have hB' : vm.findClass "[B" = some q.SA.cls := hB
    rw [hal.findClass] at hB'
    obtain ⟨k1, a1, a2⟩ := Vm.findClass_spec h2
    obtain ⟨k2, b1, b2⟩ := Vm.findClass_spec hB'
    cases a1.symm.trans b1
    exact absurd (a2.symm.trans b2) (by decide)
abbrev oPostS (Z : State) (q : Option Value → Heap → List Loc → Prop) (s : State) (cc ss : Nat) : State → Outcome → Prop := fun s₂ o => ∃ v L, o = .returned v ∧ q v s₂.heap L ∧ CHr Z own_EL s.vm s.heap s₂.vm s₂.heap ∧ ReturnedEndW s o s₂ L cc ss
abbrev oMetS (l : Launch) (Z : State) (y : MethodName) (code : ByteArray) (maxL : Nat) (ret : Option FieldType) (ws : List Jvm.Cond) (rm : Room) (cc ss : Nat) (as' : Array Value) (h0 : Heap) (q : Option Value → Heap → List Loc → Prop) : Prop :=
  MetFree l y (head1 (Jvm.Cond.code y code maxL ret :: ws) rm) (fun a U => a = as' ∧ Z.Warmed39 U.vm ∧ U.heap = h0 ∧ CHv Z own_EL U.vm h0) (fun _ _ _ _ _ => True) (fun _ U o U' => ∃ v L, o = .returned v ∧ q v U'.heap L ∧ CHr Z own_EL U.vm U.heap U'.vm U'.heap ∧ ReturnedEndW U o U' L cc ss)
theorem oenterS {l : Launch} {Z : State} {y : MethodName} {code : ByteArray} {maxL : Nat} {ret : Option FieldType} {ws : List Jvm.Cond} {rm : Room} {cc ss : Nat} {as' : Array Value} {h0 : Heap} {q : Option Value → Heap → List Loc → Prop} (pn : plainName y.cls = true) (Ls : Array Slot) (ef : ∀ m, entryFrame m as' maxL = mkF m 0 Ls [])
    (body : ∀ (p : Program) (e : Env) (s : State) (m : MethodId) (below : List Frame) (meth : Method) (c : Code) (s₁ : State), Stand p l e rm (s.setVm s.vm) m as' below meth c s₁ [] 0 0 → p.tables.exec = Jvm.exec → Z.Warmed39 s.vm → c.code = code → c.maxLocals = maxL → meth.sig.returnType = ret → s.vm.findClass y.cls = some m.cls → meth.name = y.name → meth.locks = false → s₁.heap = h0 → s.heap = h0 → CHv Z own_EL s.vm h0 → s.Since s.vm 0 → Own p e below (oPostS Z q s cc ss) (s₁.setTop (mkF m 0 Ls []))) : oMetS l Z y code maxL ret ws rm cc ss as' h0 q := by
  refine MetFree.of_bodySF (plainFor_of_name pn) hisR ?_
  intro p e s m args below meth c s₁ Bd hml0 hP hK
  obtain ⟨rfl, hZ, hh, H⟩ := hP
  have e0 : s₁.heap = h0 := by rw [← hh, Bd.state]; rfl
  obtain ⟨t, o, h1, h2⟩ := body p e s m below meth c s₁ (Stand.of_body Bd) Bd.exec hZ Bd.bytes hml0 Bd.returns (findClass_of_methodNamed Bd.named) (name_of_methodNamed Bd.named Bd.method).1 (BodyLoose.notSynchronized Bd) e0 hh H ((State.WarmedH.refl s).since 0)
  exact ⟨t, o, castTop (ef m) h1, h2⟩
theorem oendS {p : Program} {l : Launch} {e : Env} {R : Room} {s : State} {m : MethodId} {args : Array Value} {below : List Frame} {meth : Method} {c : Code} {T : State} {locs : List Loc} {cells slots : Nat} {Z : State} {a0 : Array Value} {vm0 : Vm} {k0 : Nat} {h h0 : Heap} {v : Option Value} {q : Option Value → Heap → List Loc → Prop} {cc ss : Nat} {S : State}
    (X : Stand p l e R (s.setVm vm0) m args below meth c T locs cells slots) (hlk : meth.locks = false) (hS : s.Since vm0 k0) (hk : k0 ≤ h.size) (eT : T.heap = h) (hZ : Z.Warmed39 vm0) (hEL : EW Z a0 own_EL) (hs0 : s.heap = h0) (C : CHr Z own_EL s.vm h0 vm0 h) (hv : meth.sig.returnType = none → v = none)
    (st : ∀ fs, (∀ (f : JFrame) (acts : List Action), f.method = m → f.locked = none → f.entered = [] → (doReturn e (T.setTop f) acts v).1 = T.setFrames fs) → Steps p.tables e below S (T.setFrames fs)) (hc : cells ≤ cc) (hs : slots ≤ ss) (hq : q v T.heap locs) : Own p e below (oPostS Z q s cc ss) S := by
  subst eT hs0
  obtain ⟨fs, hr, hrun, hended, hR⟩ := X.leaveW hS hk hv hlk
  have C2 : CHr Z own_EL s.vm s.heap T.vm T.heap := C.trans (CHv.at X hZ hEL C.1)
  exact ⟨_, _, st fs hr, hrun, hended, _, _, rfl, hq, C2, hR.1, hR.2.1, hR.2.2.1, hR.2.2.2.mono hc hs⟩
theorem own_rem3 (k : Int32) : ((k &&& (2147483647 : Int32)) % (3 : Int32)) = (0 : Int32) ∨ ((k &&& (2147483647 : Int32)) % (3 : Int32)) = (1 : Int32) ∨ ((k &&& (2147483647 : Int32)) % (3 : Int32)) = (2 : Int32) := by
  have h0 := (c_and k (2147483647 : Int32) (by decide)).1
  have h1 := (c_irem (k &&& (2147483647 : Int32)) (3 : Int32) 3 rfl).1 h0
  simp only [← Int32.toInt_inj, h1, show (0 : Int32).toInt = 0 from rfl, show (1 : Int32).toInt = 1 from rfl, show (2 : Int32).toInt = 2 from rfl]
  omega
theorem own_rem5 (k : Int32) : ((k &&& (2147483647 : Int32)) % (5 : Int32)) = (0 : Int32) ∨ ((k &&& (2147483647 : Int32)) % (5 : Int32)) = (1 : Int32) ∨ ((k &&& (2147483647 : Int32)) % (5 : Int32)) = (2 : Int32) ∨ ((k &&& (2147483647 : Int32)) % (5 : Int32)) = (3 : Int32) ∨ ((k &&& (2147483647 : Int32)) % (5 : Int32)) = (4 : Int32) := by
  have h0 := (c_and k (2147483647 : Int32) (by decide)).1
  have h1 := (c_irem (k &&& (2147483647 : Int32)) (5 : Int32) 5 rfl).1 h0
  simp only [← Int32.toInt_inj, h1, show (0 : Int32).toInt = 0 from rfl, show (1 : Int32).toInt = 1 from rfl, show (2 : Int32).toInt = 2 from rfl, show (3 : Int32).toInt = 3 from rfl, show (4 : Int32).toInt = 4 from rfl]
  omega
def own_draw (h : Int32) : Int32 := if h &&& (1 : Int32) = (0 : Int32) then nar .char (own_ushr h (1 : Int32) &&& (255 : Int32)) else (32 : Int32)
theorem own_draw_ok (h : Int32) : 0 ≤ (own_draw h).toInt ∧ (own_draw h).toInt < 256 := by
  unfold own_draw
  split
  · have a := c_and (own_ushr h (1 : Int32)) (255 : Int32) (by decide)
    have d := c_i2c (own_ushr h (1 : Int32) &&& (255 : Int32))
    have e : (255 : Int32).toInt = 255 := rfl
    show 0 ≤ (own_ushr h (1 : Int32) &&& (255 : Int32)).toUInt32.toUInt16.toUInt32.toInt32.toInt ∧ (own_ushr h (1 : Int32) &&& (255 : Int32)).toUInt32.toUInt16.toUInt32.toInt32.toInt < 256
    omega
  · decide
theorem own_sm0 {c : Int32} (h : 0 ≤ c.toInt ∧ c.toInt < 256) : ¬ (c < (0 : Int32)) := by
  rw [Int32.lt_iff_toInt_lt]; have e : (0 : Int32).toInt = 0 := rfl; omega
theorem own_sm255 {c : Int32} (h : 0 ≤ c.toInt ∧ c.toInt < 256) : ¬ ((255 : Int32) < c) := by
  rw [Int32.lt_iff_toInt_lt]; have e : (255 : Int32).toInt = 255 := rfl; omega
def own_tr0 : Int32 := 0
def own_tr1 (c0 : Int32) : Int32 := if c0 = (32 : Int32) then own_tr0 else 1
def own_tr2 (c0 c1 : Int32) : Int32 := if c1 = (32 : Int32) then own_tr1 c0 else 2
def own_tr3 (c0 c1 c2 : Int32) : Int32 := if c2 = (32 : Int32) then own_tr2 c0 c1 else 3
def own_tr4 (c0 c1 c2 c3 : Int32) : Int32 := if c3 = (32 : Int32) then own_tr3 c0 c1 c2 else 4
theorem own_b63 (x : Int32) : 0 ≤ (x &&& (63 : Int32)).toInt ∧ (x &&& (63 : Int32)).toInt ≤ 63 := c_and x (63 : Int32) (by decide)
theorem own_b63n (x : Int32) : ¬ (x &&& (63 : Int32)) < 0 := by
  rw [Int32.lt_iff_toInt_lt]; have := own_b63 x; have e : (0 : Int32).toInt = 0 := rfl; omega
theorem own_b63l (x : Int32) : (x &&& (63 : Int32)).toNatClampNeg ≤ 63 := by
  have := own_b63 x; simp only [Int32.toNatClampNeg]; omega
def own_Start (Z : State) (s_CHARACTERS : Addr) (s_BYTES : Addr) (s_CHARACTERS_BUT_TRAILING_SPACES : Addr) (z_CS : Int32) (v_FMT : Value) : Prop := (Sta Z Z.heap "com/example/upshot/upshot/ColumnCatalog$Length$Unit" "CHARACTERS" "Lcom/example/upshot/upshot/ColumnCatalog$Length$Unit;" (.ref s_CHARACTERS)) ∧ (Exa Z Z.heap s_CHARACTERS "com/example/upshot/upshot/ColumnCatalog$Length$Unit") ∧ (Sta Z Z.heap "com/example/upshot/upshot/ColumnCatalog$Length$Unit" "BYTES" "Lcom/example/upshot/upshot/ColumnCatalog$Length$Unit;" (.ref s_BYTES)) ∧ (Exa Z Z.heap s_BYTES "com/example/upshot/upshot/ColumnCatalog$Length$Unit") ∧ (Sta Z Z.heap "com/example/upshot/upshot/ColumnCatalog$Length$Unit" "CHARACTERS_BUT_TRAILING_SPACES" "Lcom/example/upshot/upshot/ColumnCatalog$Length$Unit;" (.ref s_CHARACTERS_BUT_TRAILING_SPACES)) ∧ (Exa Z Z.heap s_CHARACTERS_BUT_TRAILING_SPACES "com/example/upshot/upshot/ColumnCatalog$Length$Unit") ∧ (Fld Z Z.heap s_CHARACTERS "java/lang/Enum" "ordinal" "I" (.int (0 : Int32))) ∧ (Fld Z Z.heap s_BYTES "java/lang/Enum" "ordinal" "I" (.int (2 : Int32))) ∧ (Fld Z Z.heap s_CHARACTERS_BUT_TRAILING_SPACES "java/lang/Enum" "ordinal" "I" (.int (1 : Int32))) ∧ (Sta Z Z.heap "java/lang/String" "COMPACT_STRINGS" "Z" (.int z_CS)) ∧ (¬ (z_CS = (0 : Int32))) ∧ (Sta Z Z.heap "jdk/internal/util/Preconditions" "SIOOBE_FORMATTER" "Ljava/util/function/BiFunction;" v_FMT) ∧ (v_FMT.isRef = true)
theorem d1_0 : decode method_3_code 0 = .ok (.iload_n 0, 1) := by decide +kernel
theorem d1_1 : decode method_3_code 1 = .ok (.iconst 1, 1) := by decide +kernel
theorem d1_2 : decode method_3_code 2 = .ok (.iand, 1) := by decide +kernel
theorem d1_3 : decode method_3_code 3 = .ok (.ifCond .eq 6, 3) := by decide +kernel
theorem d1_9 : decode method_3_code 9 = .ok (.iload_n 0, 1) := by decide +kernel
theorem d1_10 : decode method_3_code 10 = .ok (.iconst 1, 1) := by decide +kernel
theorem d1_11 : decode method_3_code 11 = .ok (.iushr, 1) := by decide +kernel
theorem d1_12 : decode method_3_code 12 = .ok (.sipush 255, 3) := by decide +kernel
theorem d1_15 : decode method_3_code 15 = .ok (.iand, 1) := by decide +kernel
theorem d1_16 : decode method_3_code 16 = .ok (.i2c, 1) := by decide +kernel
theorem d1_17 : decode method_3_code 17 = .ok (.ireturn, 1) := by decide +kernel
theorem d1_6 : decode method_3_code 6 = .ok (.bipush 32, 2) := by decide +kernel
theorem d1_8 : decode method_3_code 8 = .ok (.ireturn, 1) := by decide +kernel
theorem own_pn0 : plainName "com/example/upshot/upshot/LengthOfPinLaw" = true := by first | (simp [plainName, overriddenIn]; done) | decide +kernel
def own_Q_draw (Z : State)  (h_ : Int32) (h0 : Heap) (n0 : Nat) (v : Option Value) (h : Heap) (L : List Loc) : Prop := (v = some (.int (own_draw h_))) ∧ (Fr n0 L) ∧ (h = h0)
abbrev yM0 : MethodName := ⟨"com/example/upshot/upshot/LengthOfPinLaw", "draw", "(I)C"⟩
set_option maxRecDepth 65536 in
set_option maxHeartbeats 40000000 in
theorem rm_draw (l : Launch) (Z : State) (a0 : Array Value) (hw : ∀ d ∈ tables_1, d.before a0 Z = true) (ws : List Jvm.Cond)  (h_ : Int32) (h0 : Heap) (n0 : Nat) (O0 : Old Z n0 h0)  :
    oMet l Z yM0 method_3_code 1 (some .char) ws ({ frames := 0, cells := 0, slots := 0, locals := 0 } : Room) 0 0 #[(.int h_)] h0 (own_Q_draw Z  h_ h0 n0) := by
  refine oenter own_pn0 #[.val (.int h_)] (fun m => by first | (simp [entryFrame, mkF, argsToLocals, Value.category]; done) | rfl) ?_
  intro p e s m below meth c s₁ X0 hx hZ hby hml hret hown0 hnm hlk e0
  have hown : s.vm.findClass "com/example/upshot/upshot/LengthOfPinLaw" = some m.cls := hown0
  have N0 := Fr.nil n0
  refine o_iloadN X0 hx (hb hby d1_0) rfl ?_
  refine o_iconst X0 hx (1 : Int32) (hb hby d1_1) rfl ?_
  refine o_iand X0 hx (hb hby d1_2) ?_
  by_cases hc1 : (h_ &&& (1 : Int32)) = (0 : Int32)
  · refine o_ifYes X0 hx 9 (hb hby d1_3) (teq hc1).1 (by decide) (by decide) ?_
    refine o_iloadN X0 hx (hb hby d1_9) rfl ?_
    refine o_iconst X0 hx (1 : Int32) (hb hby d1_10) rfl ?_
    refine o_iushr X0 hx (hb hby d1_11) ?_
    refine o_sipush X0 hx (255 : Int32) (hb hby d1_12) rfl ?_
    refine o_iand X0 hx (hb hby d1_15) ?_
    refine o_i2c X0 hx (hb hby d1_16) ?_
    refine oend X0 hlk (v := some (.int (nar .char ((own_ushr h_ (1 : Int32)) &&& (255 : Int32))))) (fun h => by rw [hret] at h; cases h) (fun fs hr => retN X0 hx (t := .char) hret (by simp) (hb hby d1_17) (by rw [own_narc _]; exact hr)) (by decide) (by decide) ?_
    show own_Q_draw Z _ h0 n0 _ s₁.heap _
    rw [e0]
    refine ⟨?_, N0, rfl⟩
    simp [own_draw, hc1]
  · refine o_ifNo X0 hx (hb hby d1_3) (feq hc1).1 ?_
    refine o_bipush X0 hx (32 : Int32) (hb hby d1_6) rfl ?_
    refine oend X0 hlk (v := some (.int (32 : Int32))) (fun h => by rw [hret] at h; cases h) (fun fs hr => retN X0 hx (t := .char) hret (by simp) (hb hby d1_8) hr) (by decide) (by decide) ?_
    show own_Q_draw Z _ h0 n0 _ s₁.heap _
    rw [e0]
    refine ⟨?_, N0, rfl⟩
    simp [own_draw, hc1]
theorem d2_0 : decode jdk_43_method_3_code 0 = .ok (.iload_n 0, 1) := by decide +kernel
theorem d2_1 : decode jdk_43_method_3_code 1 = .ok (.sipush 255, 3) := by decide +kernel
theorem d2_4 : decode jdk_43_method_3_code 4 = .ok (.if_icmp .gt 7, 3) := by decide +kernel
theorem d2_7 : decode jdk_43_method_3_code 7 = .ok (.iconst 1, 1) := by decide +kernel
theorem d2_8 : decode jdk_43_method_3_code 8 = .ok (.goto 4, 3) := by decide +kernel
theorem d2_12 : decode jdk_43_method_3_code 12 = .ok (.ireturn, 1) := by decide +kernel
theorem own_pn1 : plainName "java/lang/StringLatin1" = true := by first | (simp [plainName, overriddenIn]; done) | decide +kernel
def own_Q_canenc (Z : State)  (c0_ : Int32) (h0 : Heap) (n0 : Nat) (v : Option Value) (h : Heap) (L : List Loc) : Prop := (v = some (.int (1 : Int32))) ∧ (Fr n0 L) ∧ (h = h0)
abbrev yM1 : MethodName := ⟨"java/lang/StringLatin1", "canEncode", "(C)Z"⟩
set_option maxRecDepth 65536 in
set_option maxHeartbeats 40000000 in
theorem rm_canenc (l : Launch) (Z : State) (a0 : Array Value) (hw : ∀ d ∈ tables_1, d.before a0 Z = true) (ws : List Jvm.Cond)  (c0_ : Int32) (h0 : Heap) (n0 : Nat) (O0 : Old Z n0 h0) (pr0 : ¬ ((255 : Int32) < c0_)) :
    oMet l Z yM1 jdk_43_method_3_code 1 (some .boolean) ws ({ frames := 0, cells := 0, slots := 0, locals := 0 } : Room) 0 0 #[(.int c0_)] h0 (own_Q_canenc Z  c0_ h0 n0) := by
  refine oenter own_pn1 #[.val (.int c0_)] (fun m => by first | (simp [entryFrame, mkF, argsToLocals, Value.category]; done) | rfl) ?_
  intro p e s m below meth c s₁ X0 hx hZ hby hml hret hown0 hnm hlk e0
  have hown : s.vm.findClass "java/lang/StringLatin1" = some m.cls := hown0
  have N0 := Fr.nil n0
  refine o_iloadN X0 hx (hb hby d2_0) rfl ?_
  refine o_sipush X0 hx (255 : Int32) (hb hby d2_1) rfl ?_
  refine o_icmpNo X0 hx (hb hby d2_4) (flt pr0).2.2.1 ?_
  refine o_iconst X0 hx (1 : Int32) (hb hby d2_7) rfl ?_
  refine o_goto X0 hx 12 (hb hby d2_8) (by decide) (by decide) ?_
  refine oend X0 hlk (v := some (.int (1 : Int32))) (fun h => by rw [hret] at h; cases h) (fun fs hr => retN X0 hx (t := .boolean) hret (by simp) (hb hby d2_12) hr) (by decide) (by decide) ?_
  show own_Q_canenc Z _ h0 n0 _ s₁.heap _
  rw [e0]
  exact ⟨rfl, N0, rfl⟩
theorem d3_0 : decode jdk_43_method_46_code 0 = .ok (.iconst 1, 1) := by decide +kernel
theorem d3_1 : decode jdk_43_method_46_code 1 = .ok (.newarray .byte, 2) := by decide +kernel
theorem d3_3 : decode jdk_43_method_46_code 3 = .ok (.dup, 1) := by decide +kernel
theorem d3_4 : decode jdk_43_method_46_code 4 = .ok (.iconst 0, 1) := by decide +kernel
theorem d3_5 : decode jdk_43_method_46_code 5 = .ok (.iload_n 0, 1) := by decide +kernel
theorem d3_6 : decode jdk_43_method_46_code 6 = .ok (.i2b, 1) := by decide +kernel
theorem d3_7 : decode jdk_43_method_46_code 7 = .ok (.bastore, 1) := by decide +kernel
theorem d3_8 : decode jdk_43_method_46_code 8 = .ok (.areturn, 1) := by decide +kernel
def own_Q_l1tob (Z : State)  (c0_ : Int32) (h0 : Heap) (n0 : Nat) (v : Option Value) (h : Heap) (L : List Loc) : Prop := ∃ ba_ : Addr, ∃ kb_ : ClassId, (v = some (.ref ba_)) ∧ (Fr n0 L) ∧ (Keep h0 h []) ∧ (h0.size ≤ ba_) ∧ (Arv Z h ba_ kb_ .byte (1 : Int32) [(.int c0_.toInt8.toInt32)] (.int 0))
abbrev yM2 : MethodName := ⟨"java/lang/StringLatin1", "toBytes", "(C)[B"⟩
set_option maxRecDepth 65536 in
set_option maxHeartbeats 40000000 in
theorem rm_l1tob (l : Launch) (Z : State) (a0 : Array Value) (hw : ∀ d ∈ tables_1, d.before a0 Z = true) (ws : List Jvm.Cond)  (c0_ : Int32) (h0 : Heap) (n0 : Nat) (O0 : Old Z n0 h0)  :
    oMet l Z yM2 jdk_43_method_46_code 1 (some (.array .byte)) ws ({ frames := 0, cells := 1, slots := 1, locals := 0 } : Room) 1 1 #[(.int c0_)] h0 (own_Q_l1tob Z  c0_ h0 n0) := by
  refine oenter own_pn1 #[.val (.int c0_)] (fun m => by first | (simp [entryFrame, mkF, argsToLocals, Value.category]; done) | rfl) ?_
  intro p e s m below meth c s₁ X0 hx hZ hby hml hret hown0 hnm hlk e0
  have hown : s.vm.findClass "java/lang/StringLatin1" = some m.cls := hown0
  have N0 := Fr.nil n0
  have w30 := hw _ (List.mem_of_getElem? (i := 30) rfl)
  refine o_iconst X0 hx (1 : Int32) (hb hby d3_0) rfl ?_
  obtain ⟨T1, _, k1, X1, rfl, E1, A1, Ex1, st1⟩ := newPE (aty := .byte) X0 hx hZ w30 e0 (g := (mkF m 1 #[.val (.int c0_)] [(.int (1 : Int32))])) rfl (hb hby d3_1) rfl (by decide) (cap := 1) (by decide) (by decide) (by decide) (by decide) (ad := "[B") rfl
  obtain ⟨b1, g1⟩ : ∃ z, z = h0.size := ⟨_, rfl⟩
  rw [← g1] at A1 Ex1 st1
  have n0_b1 : n0 ≤ b1 := Nat.le_trans (Nat.le_trans (Nat.le_of_eq O0.1.symm) O0.2.1) (Nat.le_trans (Nat.le_refl _) (Nat.le_of_eq g1.symm))
  have V1 : Arv Z T1.heap b1 k1 .byte (1 : Int32) [(.int 0)] (.int 0) := (Arv.new A1 (by decide)).pad (pad_rep [] (.int 0) 1)
  refine ogo (S' := T1.setTop (mkF m 3 #[.val (.int c0_)] [(.ref b1)])) st1 ?_
  refine o_dup X1 hx (hb hby d3_3) rfl ?_
  refine o_iconst X1 hx (0 : Int32) (hb hby d3_4) rfl ?_
  refine o_iloadN X1 hx (hb hby d3_5) rfl ?_
  refine o_i2b X1 hx (hb hby d3_6) ?_
  obtain ⟨cl2, Ar2, q2, S2, N2z, H2, G2⟩ := (id V1)
  obtain ⟨T2, _, X2, rfl, W2, st2⟩ := stB X1 hx hZ rfl Ar2 (j := (0 : Int32)) (inb_of S2 ⟨by decide, by decide⟩) (g := (mkF m 7 #[.val (.int c0_)] [(.int c0_.toInt8.toInt32), (.int (0 : Int32)), (.ref b1), (.ref b1)])) rfl rfl (hb hby d3_7)
  rw [own_narb] at W2
  have V2 : Arv Z T2.heap b1 k1 .byte (1 : Int32) [(.int c0_.toInt8.toInt32)] (.int 0) := Arv.set Ar2 q2 S2 N2z H2 G2 (fits_nar_byte _) W2 0 rfl (Nat.le_of_ble_eq_true rfl)
  have N2 := Fr.snoc X2 N0 n0_b1
  refine ogo (S' := T2.setTop (mkF m 8 #[.val (.int c0_)] [(.ref b1)])) st2 ?_
  refine oend X2 hlk (v := some (.ref b1)) (fun h => by rw [hret] at h; cases h) (fun fs hr => retOut X2 hx (t := (.array .byte)) (i := .areturn) hret rfl (Or.inr (Or.inr (Or.inr (Or.inr ⟨rfl, rfl, rfl⟩)))) (hb hby d3_8) hr) (by decide) (by decide) ?_
  show own_Q_l1tob Z _ h0 n0 _ T2.heap _
  exact ⟨b1, k1, rfl, N2, (((Keep.refl h0 []).ext E1).wr W2 (Or.inr (Nat.le_trans (Nat.le_refl _) (Nat.le_of_eq g1.symm)))), (Nat.le_trans (Nat.le_refl _) (Nat.le_of_eq g1.symm)), V2⟩
theorem d4_0 : decode jdk_42_method_151_code 0 = .ok (.aload_n 0, 1) := by decide +kernel
theorem d4_1 : decode jdk_42_method_151_code 1 = .ok (.invokespecial 1, 3) := by decide +kernel
theorem d4_4 : decode jdk_42_method_151_code 4 = .ok (.aload_n 0, 1) := by decide +kernel
theorem d4_5 : decode jdk_42_method_151_code 5 = .ok (.aload_n 1, 1) := by decide +kernel
theorem d4_6 : decode jdk_42_method_151_code 6 = .ok (.putfield 9, 3) := by decide +kernel
theorem d4_9 : decode jdk_42_method_151_code 9 = .ok (.aload_n 0, 1) := by decide +kernel
theorem d4_10 : decode jdk_42_method_151_code 10 = .ok (.iload_n 2, 1) := by decide +kernel
theorem d4_11 : decode jdk_42_method_151_code 11 = .ok (.putfield 15, 3) := by decide +kernel
theorem d4_14 : decode jdk_42_method_151_code 14 = .ok (.return_, 1) := by decide +kernel
theorem own_pn2 : plainName "java/lang/String" = true := by first | (simp [plainName, overriddenIn]; done) | decide +kernel
def own_Q_newbb (Z : State)  (x_ : Addr) (ba_ : Addr) (h0 : Heap) (n0 : Nat) (v : Option Value) (h : Heap) (L : List Loc) : Prop := (v = none) ∧ (Fr n0 L) ∧ (Keep h0 h [x_]) ∧ (Exa Z h x_ "java/lang/String") ∧ (Fld Z h x_ "java/lang/String" "value" "[B" (.ref ba_)) ∧ (Fld Z h x_ "java/lang/String" "coder" "B" (.int (0 : Int32)))
abbrev yM3 : MethodName := ⟨"java/lang/String", "<init>", "([BB)V"⟩
set_option maxRecDepth 65536 in
set_option maxHeartbeats 40000000 in
theorem rm_newbb (l : Launch) (Z : State) (a0 : Array Value) (hw : ∀ d ∈ tables_1, d.before a0 Z = true) (ws : List Jvm.Cond)  (x_ : Addr) (ba_ : Addr) (h0 : Heap) (n0 : Nat) (O0 : Old Z n0 h0) (pr0 : Exa Z h0 x_ "java/lang/String") (pr1 : Fld Z h0 x_ "java/lang/String" "value" "[B" .null) (pr2 : Fld Z h0 x_ "java/lang/String" "coder" "B" (.int (0 : Int32))) (pr3 : n0 ≤ x_) :
    oMet l Z yM3 jdk_42_method_151_code 3 none ws ({ frames := 1, cells := 0, slots := 0, locals := 12 } : Room) 0 0 #[(.ref x_), (.ref ba_), (.int (0 : Int32))] h0 (own_Q_newbb Z  x_ ba_ h0 n0) := by
  refine oenter own_pn2 #[.val (.ref x_), .val (.ref ba_), .val (.int (0 : Int32))] (fun m => by first | (simp [entryFrame, mkF, argsToLocals, Value.category]; done) | rfl) ?_
  intro p e s m below meth c s₁ X0 hx hZ hby hml hret hown0 hnm hlk e0
  have hown : s.vm.findClass "java/lang/String" = some m.cls := hown0
  have N0 := Fr.nil n0
  have w13 := hw _ (List.mem_of_getElem? (i := 13) rfl)
  have w22 := hw _ (List.mem_of_getElem? (i := 22) rfl)
  have w23 := hw _ (List.mem_of_getElem? (i := 23) rfl)
  have w24 := hw _ (List.mem_of_getElem? (i := 24) rfl)
  have w37 := hw _ (List.mem_of_getElem? (i := 37) rfl)
  have w38 := hw _ (List.mem_of_getElem? (i := 38) rfl)
  have w39 := hw _ (List.mem_of_getElem? (i := 39) rfl)
  have w40 := hw _ (List.mem_of_getElem? (i := 40) rfl)
  refine o_aloadN X0 hx (hb hby d4_0) rfl rfl ?_
  obtain ⟨T1, X1, e1, st1⟩ := initO X0 hx hZ hown w22 w23 w24 e0 (g := (mkF m 1 #[.val (.ref x_), .val (.ref ba_), .val (.int (0 : Int32))] [(.ref x_)])) rfl (by rw [hml]; rfl) rfl (hb hby d4_1) (by decide) (W := 0) (by show 2 * 0 + _ ≤ _; exact Nat.le_of_eq rfl) (by decide)
  refine ogo (S' := T1.setTop (mkF m 4 #[.val (.ref x_), .val (.ref ba_), .val (.int (0 : Int32))] [])) st1 ?_
  refine o_aloadN X1 hx (hb hby d4_4) rfl rfl ?_
  refine o_aloadN X1 hx (hb hby d4_5) rfl rfl ?_
  obtain ⟨T2, _, X2, rfl, W2, st2⟩ := putF X1 hx hZ hown (host := "") (Or.inl w39) Via.refl e1 pr1 pr0 (Or.inr ⟨w40, rfl, hnm⟩) w13 (ty := (.array .byte)) (by decide) rfl rfl (g := (mkF m 6 #[.val (.ref x_), .val (.ref ba_), .val (.int (0 : Int32))] [(.ref ba_), (.ref x_)])) rfl rfl (hb hby d4_6)
  have N2 := Fr.snoc X2 N0 pr3
  have F2 := Fld.same W2 pr1
  refine ogo (S' := T2.setTop (mkF m 9 #[.val (.ref x_), .val (.ref ba_), .val (.int (0 : Int32))] [])) st2 ?_
  refine o_aloadN X2 hx (hb hby d4_9) rfl rfl ?_
  refine o_iloadN X2 hx (hb hby d4_10) rfl ?_
  have c4 := (Fld.other W2 pr2 (Or.inr (slot_ne (Or.inr w38) (Or.inr w40) (by decide) (t := .byte) (t' := (.array .byte)) (by decide) (by decide))))
  obtain ⟨T3, _, X3, rfl, W3, st3⟩ := putFN X2 hx hZ hown w37 Via.refl rfl c4 (Exa.wr W2 pr0) (Or.inr ⟨w38, rfl, hnm⟩) w13 (ty := .byte) (v' := (.int (0 : Int32))) (by decide) rfl (by decide) (g := (mkF m 11 #[.val (.ref x_), .val (.ref ba_), .val (.int (0 : Int32))] [(.int (0 : Int32)), (.ref x_)])) rfl rfl (hb hby d4_11)
  have N3 := Fr.snoc X3 N2 pr3
  have F3 := Fld.same W3 c4
  refine ogo (S' := T3.setTop (mkF m 14 #[.val (.ref x_), .val (.ref ba_), .val (.int (0 : Int32))] [])) st3 ?_
  have c5 := (Fld.other W3 F2 (Or.inr (slot_ne (Or.inr w40) (Or.inr w38) (by decide) (t := (.array .byte)) (t' := .byte) (by decide) (by decide))))
  refine oend X3 hlk (v := none) (fun _ => rfl) (fun fs hr => X3.returnOut hx hret (hb hby d4_14) hr) (by decide) (by decide) ?_
  show own_Q_newbb Z _ _ h0 n0 _ T3.heap _
  exact ⟨rfl, N3, (((Keep.refl h0 [x_]).wr W2 (Or.inl (List.mem_of_getElem? (i := 0) rfl))).wr W3 (Or.inl (List.mem_of_getElem? (i := 0) rfl))), (Exa.wr W3 (Exa.wr W2 pr0)), c5, F3⟩
theorem own_pd0 : parseMethodDescriptor "(C)Z" = some ⟨[.char], some .boolean⟩ := by decide +kernel
theorem own_pd1 : parseMethodDescriptor "(C)[B" = some ⟨[.char], some (.array .byte)⟩ := by decide +kernel
theorem own_pd2 : parseMethodDescriptor "([BB)V" = some ⟨[(.array .byte), .byte], none⟩ := by decide +kernel
theorem d5_0 : decode jdk_42_method_139_code 0 = .ok (.getstatic 38, 3) := by decide +kernel
theorem d5_3 : decode jdk_42_method_139_code 3 = .ok (.ifCond .eq 23, 3) := by decide +kernel
theorem d5_6 : decode jdk_42_method_139_code 6 = .ok (.iload_n 0, 1) := by decide +kernel
theorem d5_7 : decode jdk_42_method_139_code 7 = .ok (.invokestatic 1015, 3) := by decide +kernel
theorem d5_10 : decode jdk_42_method_139_code 10 = .ok (.ifCond .eq 16, 3) := by decide +kernel
theorem d5_13 : decode jdk_42_method_139_code 13 = .ok (.new 10, 3) := by decide +kernel
theorem d5_16 : decode jdk_42_method_139_code 16 = .ok (.dup, 1) := by decide +kernel
theorem d5_17 : decode jdk_42_method_139_code 17 = .ok (.iload_n 0, 1) := by decide +kernel
theorem d5_18 : decode jdk_42_method_139_code 18 = .ok (.invokestatic 1018, 3) := by decide +kernel
theorem d5_21 : decode jdk_42_method_139_code 21 = .ok (.iconst 0, 1) := by decide +kernel
theorem d5_22 : decode jdk_42_method_139_code 22 = .ok (.invokespecial 209, 3) := by decide +kernel
theorem d5_25 : decode jdk_42_method_139_code 25 = .ok (.areturn, 1) := by decide +kernel
def own_Q_valueof (Z : State) (s_CHARACTERS : Addr) (s_BYTES : Addr) (s_CHARACTERS_BUT_TRAILING_SPACES : Addr) (z_CS : Int32) (v_FMT : Value) (c0_ : Int32) (h0 : Heap) (n0 : Nat) (v : Option Value) (h : Heap) (L : List Loc) : Prop := ∃ x_ : Addr, ∃ ba_ : Addr, ∃ kb_ : ClassId, (v = some (.ref x_)) ∧ (Fr n0 L) ∧ (Keep h0 h []) ∧ (h0.size ≤ x_) ∧ (h0.size ≤ ba_) ∧ (Exa Z h x_ "java/lang/String") ∧ (Fld Z h x_ "java/lang/String" "coder" "B" (.int (0 : Int32))) ∧ (Fld Z h x_ "java/lang/String" "value" "[B" (.ref ba_)) ∧ (Arv Z h ba_ kb_ .byte (1 : Int32) [(.int c0_.toInt8.toInt32)] (.int 0))
abbrev yM4 : MethodName := ⟨"java/lang/String", "valueOf", "(C)Ljava/lang/String;"⟩
set_option maxRecDepth 65536 in
set_option maxHeartbeats 40000000 in
theorem rm_valueof (l : Launch) (Z : State) (a0 : Array Value) (hw : ∀ d ∈ tables_1, d.before a0 Z = true) (ws : List Jvm.Cond) (s_CHARACTERS : Addr) (s_BYTES : Addr) (s_CHARACTERS_BUT_TRAILING_SPACES : Addr) (z_CS : Int32) (v_FMT : Value) (c0_ : Int32) (h0 : Heap) (n0 : Nat) (SB : own_Start Z s_CHARACTERS s_BYTES s_CHARACTERS_BUT_TRAILING_SPACES z_CS v_FMT) (O0 : Old Z n0 h0) (pr0 : ¬ ((255 : Int32) < c0_)) :
    oMet l Z yM4 jdk_42_method_139_code 1 (some (.object "java/lang/String")) ws ({ frames := 2, cells := 2, slots := 5, locals := 27 } : Room) 2 5 #[(.int c0_)] h0 (own_Q_valueof Z s_CHARACTERS s_BYTES s_CHARACTERS_BUT_TRAILING_SPACES z_CS v_FMT c0_ h0 n0) := by
  refine oenter own_pn2 #[.val (.int c0_)] (fun m => by first | (simp [entryFrame, mkF, argsToLocals, Value.category]; done) | rfl) ?_
  intro p e s m below meth c s₁ X0 hx hZ hby hml hret hown0 hnm hlk e0
  have hown : s.vm.findClass "java/lang/String" = some m.cls := hown0
  have N0 := Fr.nil n0
  obtain ⟨S_s_CHARACTERS, E_s_CHARACTERS, S_s_BYTES, E_s_BYTES, S_s_CHARACTERS_BUT_TRAILING_SPACES, E_s_CHARACTERS_BUT_TRAILING_SPACES, F_s_CHARACTERS_ordinal, F_s_BYTES_ordinal, F_s_CHARACTERS_BUT_TRAILING_SPACES_ordinal, S_CS, H_CS, S_FMT, R_FMT⟩ := (id SB)
  have w13 := hw _ (List.mem_of_getElem? (i := 13) rfl)
  have w14 := hw _ (List.mem_of_getElem? (i := 14) rfl)
  have w25 := hw _ (List.mem_of_getElem? (i := 25) rfl)
  have w38 := hw _ (List.mem_of_getElem? (i := 38) rfl)
  have w40 := hw _ (List.mem_of_getElem? (i := 40) rfl)
  have w95 := hw _ (List.mem_of_getElem? (i := 95) rfl)
  have w96 := hw _ (List.mem_of_getElem? (i := 96) rfl)
  have w97 := hw _ (List.mem_of_getElem? (i := 97) rfl)
  have w98 := hw _ (List.mem_of_getElem? (i := 98) rfl)
  have w99 := hw _ (List.mem_of_getElem? (i := 99) rfl)
  have w100 := hw _ (List.mem_of_getElem? (i := 100) rfl)
  have w101 := hw _ (List.mem_of_getElem? (i := 101) rfl)
  have w102 := hw _ (List.mem_of_getElem? (i := 102) rfl)
  have w103 := hw _ (List.mem_of_getElem? (i := 103) rfl)
  have w104 := hw _ (List.mem_of_getElem? (i := 104) rfl)
  have w105 := hw _ (List.mem_of_getElem? (i := 105) rfl)
  obtain ⟨T1, X1, e1, st1⟩ := getS2 X0 hx hZ hown (host := "") (Or.inl w25) Via.refl e0 (Sta.ext O0.2 S_CS) (g := (mkF m 0 #[.val (.int c0_)] [])) rfl (hb hby d5_0)
  refine ogo (S' := T1.setTop (mkF m 3 #[.val (.int c0_)] [(.int z_CS)])) st1 ?_
  refine o_ifNo X1 hx (hb hby d5_3) (feq H_CS).1 ?_
  refine o_iloadN X1 hx (hb hby d5_6) rfl ?_
  obtain ⟨_, _, ⟨T2, L2, kc2, n2⟩, -, X2, ⟨Lc2, hQ2, l2, y2, z2⟩, st2⟩ := Jvm.LawKit.callS X1 hx (y := yM1) hown (mvT hZ w95) (mvT hZ w96) (mvT hZ w97) (mvT hZ w98) (by decide) (backOf (W := 0) (rm_canenc l Z a0 hw []  c0_ h0 n0 O0 pr0) hZ w98 w97 (by decide) (by decide)) (g := (mkF m 7 #[.val (.int c0_)] [(.int c0_)])) rfl (by rw [hml]; rfl) (argsL := [(.int c0_)]) (rest := []) (lenOf own_pd0 rfl) rfl (by show 2 * 0 + _ ≤ _; exact Nat.le_of_eq rfl) (hb hby d5_7) (fun _ _ => ⟨rfl, e1, (by decide : 0 + 0 ≤ _), (by decide : 0 + 0 ≤ _)⟩)
  dsimp only [Pt.U, Pt.locs, Pt.cells, Pt.slots] at X2 l2 y2 z2 st2 hQ2
  subst l2 y2 z2
  obtain ⟨rfl, Nq2, e2⟩ := hQ2
  have N2 := Fr.app N0 Nq2
  refine ogo (S' := T2.setTop (mkF m 10 #[.val (.int c0_)] [(.int (1 : Int32))])) st2 ?_
  refine o_ifNo X2 hx (hb hby d5_10) (feq (by decide : ¬ ((1 : Int32) = (0 : Int32)))).1 ?_
  obtain ⟨T3, _, X3, rfl, E3, A3, D3, -, st3⟩ := newO X2 hx hZ hown w99 w13 w14 e2 (g := (mkF m 13 #[.val (.int c0_)] [])) rfl (hb hby d5_13) (by decide) (by decide)
  obtain ⟨b3, g3⟩ : ∃ z, z = h0.size := ⟨_, rfl⟩
  rw [← g3] at A3 D3 st3
  have n0_b3 : n0 ≤ b3 := Nat.le_trans (Nat.le_trans (Nat.le_of_eq O0.1.symm) O0.2.1) (Nat.le_trans (Nat.le_refl _) (Nat.le_of_eq g3.symm))
  have F3_coder : Fld Z T3.heap b3 "java/lang/String" "coder" "B" (.int (0 : Int32)) := D3 (Or.inr w38) (ty := .byte) (by decide)
  have F3_value : Fld Z T3.heap b3 "java/lang/String" "value" "[B" .null := D3 (Or.inr w40) (ty := (.array .byte)) (by decide)
  refine ogo (S' := T3.setTop (mkF m 16 #[.val (.int c0_)] [(.ref b3)])) st3 ?_
  refine o_dup X3 hx (hb hby d5_16) rfl ?_
  refine o_iloadN X3 hx (hb hby d5_17) rfl ?_
  obtain ⟨_, _, ⟨T4, L4, kc4, n4⟩, -, X4, ⟨Lc4, hQ4, l4, y4, z4⟩, st4⟩ := Jvm.LawKit.callS X3 hx (y := yM2) hown (mvT hZ w100) (mvT hZ w101) (mvT hZ w97) (mvT hZ w102) (by decide) (backOf (W := 2) (rm_l1tob l Z a0 hw []  c0_ T3.heap n0 (O0.ext E3) ) hZ w102 w97 (by decide) (by decide)) (g := (mkF m 18 #[.val (.int c0_)] [(.int c0_), (.ref b3), (.ref b3)])) rfl (by rw [hml]; rfl) (argsL := [(.int c0_)]) (rest := [(.ref b3), (.ref b3)]) (lenOf own_pd1 rfl) rfl (by show 2 * 0 + _ ≤ _; exact Nat.le_of_eq rfl) (hb hby d5_18) (fun _ _ => ⟨rfl, rfl, (by decide : 1 + 1 ≤ _), (by decide : 4 + 1 ≤ _)⟩)
  dsimp only [Pt.U, Pt.locs, Pt.cells, Pt.slots] at X4 l4 y4 z4 st4 hQ4
  subst l4 y4 z4
  obtain ⟨ba_4, kb_4, rfl, Nq4, K4, p4_0, p4_1⟩ := hQ4
  have N4 := Fr.app N2 Nq4
  have n0_ba_4 : n0 ≤ ba_4 := Nat.le_trans (Nat.le_trans (Nat.le_of_eq O0.1.symm) O0.2.1) (Nat.le_trans E3.1 p4_0)
  refine ogo (S' := T4.setTop (mkF m 21 #[.val (.int c0_)] [(.ref ba_4), (.ref b3), (.ref b3)])) st4 ?_
  refine o_iconst X4 hx (0 : Int32) (hb hby d5_21) rfl ?_
  obtain ⟨_, _, ⟨T5, L5, kc5, n5⟩, -, X5, ⟨Lc5, hQ5, l5, y5, z5⟩, st5⟩ := X4.specialBack hx (y := yM3) rfl hown (mvT hZ w103) (mvT hZ w104) (mvT hZ w105) (by decide) (backOf (W := 1) (rm_newbb l Z a0 hw []  b3 ba_4 T4.heap n0 ((O0.ext E3).keep K4 all0) (A3.keep K4) (F3_value.keep K4 nin0) (F3_coder.keep K4 nin0) n0_b3) hZ w105 w14 (by decide) (by decide)) (g := (mkF m 22 #[.val (.int c0_)] [(.int (0 : Int32)), (.ref ba_4), (.ref b3), (.ref b3)])) rfl (by rw [hml]; rfl) (Steps.refl _) (a := b3) (argsL := [(.ref ba_4), (.int (0 : Int32))]) (rest := [(.ref b3)]) (lenOf own_pd2 rfl) rfl (by show 2 * 0 + _ ≤ _; exact Nat.le_of_eq rfl) (hb hby d5_22) (fun _ _ => ⟨rfl, rfl, (by decide : 2 + 0 ≤ _), (by decide : 5 + 0 ≤ _)⟩)
  dsimp only [Pt.U, Pt.locs, Pt.cells, Pt.slots] at X5 l5 y5 z5 st5 hQ5
  subst l5 y5 z5
  obtain ⟨rfl, Nq5, K5, p5_0, p5_1, p5_2⟩ := hQ5
  have N5 := Fr.app N4 Nq5
  refine otr (S' := T5.setTop (mkF m 25 #[.val (.int c0_)] [(.ref b3)])) st5 ?_
  have c6 := (p4_1.keep K5 (ninS (Nat.ne_of_gt (Nat.lt_of_lt_of_le (Nat.lt_of_lt_of_le A3.lt (Nat.le_refl _)) p4_0)) nin0))
  refine oend X5 hlk (v := some (.ref b3)) (fun h => by rw [hret] at h; cases h) (fun fs hr => retOut X5 hx (t := (.object "java/lang/String")) (i := .areturn) hret rfl (Or.inr (Or.inr (Or.inr (Or.inr ⟨rfl, rfl, rfl⟩)))) (hb hby d5_25) hr) (by decide) (by decide) ?_
  show own_Q_valueof Z _ _ _ _ _ _ h0 n0 _ T5.heap _
  exact ⟨b3, ba_4, kb_4, rfl, N5, ((((Keep.refl h0 []).ext E3).trans K4 all0).trans K5 (allS (Or.inr (Nat.le_trans (Nat.le_refl _) (Nat.le_of_eq g3.symm))) all0)), (Nat.le_trans (Nat.le_refl _) (Nat.le_of_eq g3.symm)), (Nat.le_trans E3.1 p4_0), p5_0, p5_2, p5_1, c6⟩
theorem d6_0 : decode jdk_52_method_21_code 0 = .ok (.iconst 0, 1) := by decide +kernel
theorem d6_1 : decode jdk_52_method_21_code 1 = .ok (.istore 5, 2) := by decide +kernel
theorem d6_3 : decode jdk_52_method_21_code 3 = .ok (.iload 5, 2) := by decide +kernel
theorem d6_5 : decode jdk_52_method_21_code 5 = .ok (.iload 4, 2) := by decide +kernel
theorem d6_7 : decode jdk_52_method_21_code 7 = .ok (.if_icmp .ge 37, 3) := by decide +kernel
theorem d6_10 : decode jdk_52_method_21_code 10 = .ok (.aload_n 0, 1) := by decide +kernel
theorem d6_11 : decode jdk_52_method_21_code 11 = .ok (.iload_n 1, 1) := by decide +kernel
theorem d6_12 : decode jdk_52_method_21_code 12 = .ok (.caload, 1) := by decide +kernel
theorem d6_13 : decode jdk_52_method_21_code 13 = .ok (.istore 6, 2) := by decide +kernel
theorem d6_15 : decode jdk_52_method_21_code 15 = .ok (.iload 6, 2) := by decide +kernel
theorem d6_17 : decode jdk_52_method_21_code 17 = .ok (.sipush 255, 3) := by decide +kernel
theorem d6_20 : decode jdk_52_method_21_code 20 = .ok (.if_icmp .le 6, 3) := by decide +kernel
theorem d6_26 : decode jdk_52_method_21_code 26 = .ok (.aload_n 2, 1) := by decide +kernel
theorem d6_27 : decode jdk_52_method_21_code 27 = .ok (.iload_n 3, 1) := by decide +kernel
theorem d6_28 : decode jdk_52_method_21_code 28 = .ok (.iload 6, 2) := by decide +kernel
theorem d6_30 : decode jdk_52_method_21_code 30 = .ok (.i2b, 1) := by decide +kernel
theorem d6_31 : decode jdk_52_method_21_code 31 = .ok (.bastore, 1) := by decide +kernel
theorem d6_32 : decode jdk_52_method_21_code 32 = .ok (.iinc 1 1, 3) := by decide +kernel
theorem d6_35 : decode jdk_52_method_21_code 35 = .ok (.iinc 3 1, 3) := by decide +kernel
theorem d6_38 : decode jdk_52_method_21_code 38 = .ok (.iinc 5 1, 3) := by decide +kernel
theorem d6_41 : decode jdk_52_method_21_code 41 = .ok (.goto (-38), 3) := by decide +kernel
theorem d6_44 : decode jdk_52_method_21_code 44 = .ok (.iload 4, 2) := by decide +kernel
theorem d6_46 : decode jdk_52_method_21_code 46 = .ok (.ireturn, 1) := by decide +kernel
theorem own_pn3 : plainName "java/lang/StringUTF16" = true := by first | (simp [plainName, overriddenIn]; done) | decide +kernel
def own_Q_cmp5_2 (Z : State)  (ca_ : Addr) (kc_ : ClassId) (ba_ : Addr) (kb_ : ClassId) (c0_ : Int32) (c1_ : Int32) (h0 : Heap) (n0 : Nat) (v : Option Value) (h : Heap) (L : List Loc) : Prop := (v = some (.int (2 : Int32))) ∧ (Fr n0 L) ∧ (Keep h0 h [ba_]) ∧ (Arv Z h ba_ kb_ .byte (2 : Int32) [(.int c0_.toInt8.toInt32), (.int c1_.toInt8.toInt32)] (.int 0))
abbrev yM5 : MethodName := ⟨"java/lang/StringUTF16", "compress", "([CI[BII)I"⟩
set_option maxRecDepth 65536 in
set_option maxHeartbeats 40000000 in
theorem rm_cmp5_2 (l : Launch) (Z : State) (a0 : Array Value) (hw : ∀ d ∈ tables_1, d.before a0 Z = true) (ws : List Jvm.Cond)  (ca_ : Addr) (kc_ : ClassId) (ba_ : Addr) (kb_ : ClassId) (c0_ : Int32) (c1_ : Int32) (h0 : Heap) (n0 : Nat) (O0 : Old Z n0 h0) (pr0 : Arv Z h0 ca_ kc_ .char (2 : Int32) [(.int c0_), (.int c1_)] (.int 0)) (pr1 : Arv Z h0 ba_ kb_ .byte (2 : Int32) [(.int 0), (.int 0)] (.int 0)) (pr2 : ca_ ≠ ba_) (pr3 : n0 ≤ ba_) (pr4 : ¬ ((255 : Int32) < c0_)) (pr5 : ¬ ((255 : Int32) < c1_)) :
    oMet l Z yM5 jdk_52_method_21_code 7 (some .int) ws ({ frames := 0, cells := 0, slots := 0, locals := 0 } : Room) 0 0 #[(.ref ca_), (.int (0 : Int32)), (.ref ba_), (.int (0 : Int32)), (.int (2 : Int32))] h0 (own_Q_cmp5_2 Z  ca_ kc_ ba_ kb_ c0_ c1_ h0 n0) := by
  refine oenter own_pn3 #[.val (.ref ca_), .val (.int (0 : Int32)), .val (.ref ba_), .val (.int (0 : Int32)), .val (.int (2 : Int32)), .unset, .unset] (fun m => by first | (simp [entryFrame, mkF, argsToLocals, Value.category]; done) | rfl) ?_
  intro p e s m below meth c s₁ X0 hx hZ hby hml hret hown0 hnm hlk e0
  have hown : s.vm.findClass "java/lang/StringUTF16" = some m.cls := hown0
  have N0 := Fr.nil n0
  refine o_iconst X0 hx (0 : Int32) (hb hby d6_0) rfl ?_
  refine o_istore X0 hx (l' := #[.val (.ref ca_), .val (.int (0 : Int32)), .val (.ref ba_), .val (.int (0 : Int32)), .val (.int (2 : Int32)), .val (.int (0 : Int32)), .unset]) (hb hby d6_1) rfl ?_
  refine o_iload X0 hx (hb hby d6_3) rfl ?_
  refine o_iload X0 hx (hb hby d6_5) rfl ?_
  refine o_icmpNo X0 hx (hb hby d6_7) (tlt (by decide : (0 : Int32) < (2 : Int32))).2.1 ?_
  refine o_aloadN X0 hx (hb hby d6_10) rfl rfl ?_
  refine o_iloadN X0 hx (hb hby d6_11) rfl ?_
  obtain ⟨cl1, Ar1, q1, S1, N1z, H1, G1⟩ := (id pr0)
  have hi1 := inb_of (j := (0 : Int32)) S1 ⟨by decide, by decide⟩
  have ha1 := Has.at (v := (.int c0_)) H1 hi1 rfl
  refine ogo (S' := s₁.setTop (mkF m 13 #[.val (.ref ca_), .val (.int (0 : Int32)), .val (.ref ba_), .val (.int (0 : Int32)), .val (.int (2 : Int32)), .val (.int (0 : Int32)), .unset] [(.int c0_)])) (X0.caload hx (j := (0 : Int32)) (v := (.int c0_)) (by rw [e0]; exact Ar1.1) (State.isArrayOf_alike hZ.alike Ar1.2.1) Ar1.2.2 hi1 ha1 (g := (mkF m 12 #[.val (.ref ca_), .val (.int (0 : Int32)), .val (.ref ba_), .val (.int (0 : Int32)), .val (.int (2 : Int32)), .val (.int (0 : Int32)), .unset] [(.int (0 : Int32)), (.ref ca_)])) rfl rfl (hb hby d6_12)) ?_
  refine o_istore X0 hx (l' := #[.val (.ref ca_), .val (.int (0 : Int32)), .val (.ref ba_), .val (.int (0 : Int32)), .val (.int (2 : Int32)), .val (.int (0 : Int32)), .val (.int c0_)]) (hb hby d6_13) rfl ?_
  refine o_iload X0 hx (hb hby d6_15) rfl ?_
  refine o_sipush X0 hx (255 : Int32) (hb hby d6_17) rfl ?_
  refine o_icmpYes X0 hx 26 (hb hby d6_20) (flt pr4).2.2.2 (by decide) (by decide) ?_
  refine o_aloadN X0 hx (hb hby d6_26) rfl rfl ?_
  refine o_iloadN X0 hx (hb hby d6_27) rfl ?_
  refine o_iload X0 hx (hb hby d6_28) rfl ?_
  refine o_i2b X0 hx (hb hby d6_30) ?_
  obtain ⟨cl2, Ar2, q2, S2, N2z, H2, G2⟩ := (id pr1)
  obtain ⟨T2, _, X2, rfl, W2, st2⟩ := stB X0 hx hZ e0 Ar2 (j := (0 : Int32)) (inb_of S2 ⟨by decide, by decide⟩) (g := (mkF m 31 #[.val (.ref ca_), .val (.int (0 : Int32)), .val (.ref ba_), .val (.int (0 : Int32)), .val (.int (2 : Int32)), .val (.int (0 : Int32)), .val (.int c0_)] [(.int c0_.toInt8.toInt32), (.int (0 : Int32)), (.ref ba_)])) rfl rfl (hb hby d6_31)
  rw [own_narb] at W2
  have V2 : Arv Z T2.heap ba_ kb_ .byte (2 : Int32) [(.int c0_.toInt8.toInt32), (.int 0)] (.int 0) := Arv.set Ar2 q2 S2 N2z H2 G2 (fits_nar_byte _) W2 0 rfl (Nat.le_of_ble_eq_true rfl)
  have N2 := Fr.snoc X2 N0 pr3
  refine ogo (S' := T2.setTop (mkF m 32 #[.val (.ref ca_), .val (.int (0 : Int32)), .val (.ref ba_), .val (.int (0 : Int32)), .val (.int (2 : Int32)), .val (.int (0 : Int32)), .val (.int c0_)] [])) st2 ?_
  refine o_iinc X2 hx (l' := #[.val (.ref ca_), .val (.int (1 : Int32)), .val (.ref ba_), .val (.int (0 : Int32)), .val (.int (2 : Int32)), .val (.int (0 : Int32)), .val (.int c0_)]) (hb hby d6_32) rfl rfl ?_
  refine o_iinc X2 hx (l' := #[.val (.ref ca_), .val (.int (1 : Int32)), .val (.ref ba_), .val (.int (1 : Int32)), .val (.int (2 : Int32)), .val (.int (0 : Int32)), .val (.int c0_)]) (hb hby d6_35) rfl rfl ?_
  refine o_iinc X2 hx (l' := #[.val (.ref ca_), .val (.int (1 : Int32)), .val (.ref ba_), .val (.int (1 : Int32)), .val (.int (2 : Int32)), .val (.int (1 : Int32)), .val (.int c0_)]) (hb hby d6_38) rfl rfl ?_
  refine o_goto X2 hx 3 (hb hby d6_41) (by decide) (by decide) ?_
  refine o_iload X2 hx (hb hby d6_3) rfl ?_
  refine o_iload X2 hx (hb hby d6_5) rfl ?_
  refine o_icmpNo X2 hx (hb hby d6_7) (tlt (by decide : (1 : Int32) < (2 : Int32))).2.1 ?_
  refine o_aloadN X2 hx (hb hby d6_10) rfl rfl ?_
  refine o_iloadN X2 hx (hb hby d6_11) rfl ?_
  obtain ⟨cl3, Ar3, q3, S3, N3z, H3, G3⟩ := (id (pr0.other W2 pr2))
  have hi3 := inb_of (j := (1 : Int32)) S3 ⟨by decide, by decide⟩
  have ha3 := Has.at (v := (.int c1_)) H3 hi3 rfl
  refine ogo (S' := T2.setTop (mkF m 13 #[.val (.ref ca_), .val (.int (1 : Int32)), .val (.ref ba_), .val (.int (1 : Int32)), .val (.int (2 : Int32)), .val (.int (1 : Int32)), .val (.int c0_)] [(.int c1_)])) (X2.caload hx (j := (1 : Int32)) (v := (.int c1_)) Ar3.1 (State.isArrayOf_alike hZ.alike Ar3.2.1) Ar3.2.2 hi3 ha3 (g := (mkF m 12 #[.val (.ref ca_), .val (.int (1 : Int32)), .val (.ref ba_), .val (.int (1 : Int32)), .val (.int (2 : Int32)), .val (.int (1 : Int32)), .val (.int c0_)] [(.int (1 : Int32)), (.ref ca_)])) rfl rfl (hb hby d6_12)) ?_
  refine o_istore X2 hx (l' := #[.val (.ref ca_), .val (.int (1 : Int32)), .val (.ref ba_), .val (.int (1 : Int32)), .val (.int (2 : Int32)), .val (.int (1 : Int32)), .val (.int c1_)]) (hb hby d6_13) rfl ?_
  refine o_iload X2 hx (hb hby d6_15) rfl ?_
  refine o_sipush X2 hx (255 : Int32) (hb hby d6_17) rfl ?_
  refine o_icmpYes X2 hx 26 (hb hby d6_20) (flt pr5).2.2.2 (by decide) (by decide) ?_
  refine o_aloadN X2 hx (hb hby d6_26) rfl rfl ?_
  refine o_iloadN X2 hx (hb hby d6_27) rfl ?_
  refine o_iload X2 hx (hb hby d6_28) rfl ?_
  refine o_i2b X2 hx (hb hby d6_30) ?_
  obtain ⟨cl4, Ar4, q4, S4, N4z, H4, G4⟩ := (id V2)
  obtain ⟨T4, _, X4, rfl, W4, st4⟩ := stB X2 hx hZ rfl Ar4 (j := (1 : Int32)) (inb_of S4 ⟨by decide, by decide⟩) (g := (mkF m 31 #[.val (.ref ca_), .val (.int (1 : Int32)), .val (.ref ba_), .val (.int (1 : Int32)), .val (.int (2 : Int32)), .val (.int (1 : Int32)), .val (.int c1_)] [(.int c1_.toInt8.toInt32), (.int (1 : Int32)), (.ref ba_)])) rfl rfl (hb hby d6_31)
  rw [own_narb] at W4
  have V4 : Arv Z T4.heap ba_ kb_ .byte (2 : Int32) [(.int c0_.toInt8.toInt32), (.int c1_.toInt8.toInt32)] (.int 0) := Arv.set Ar4 q4 S4 N4z H4 G4 (fits_nar_byte _) W4 1 rfl (Nat.le_of_ble_eq_true rfl)
  have N4 := Fr.snoc X4 N2 pr3
  refine ogo (S' := T4.setTop (mkF m 32 #[.val (.ref ca_), .val (.int (1 : Int32)), .val (.ref ba_), .val (.int (1 : Int32)), .val (.int (2 : Int32)), .val (.int (1 : Int32)), .val (.int c1_)] [])) st4 ?_
  refine o_iinc X4 hx (l' := #[.val (.ref ca_), .val (.int (2 : Int32)), .val (.ref ba_), .val (.int (1 : Int32)), .val (.int (2 : Int32)), .val (.int (1 : Int32)), .val (.int c1_)]) (hb hby d6_32) rfl rfl ?_
  refine o_iinc X4 hx (l' := #[.val (.ref ca_), .val (.int (2 : Int32)), .val (.ref ba_), .val (.int (2 : Int32)), .val (.int (2 : Int32)), .val (.int (1 : Int32)), .val (.int c1_)]) (hb hby d6_35) rfl rfl ?_
  refine o_iinc X4 hx (l' := #[.val (.ref ca_), .val (.int (2 : Int32)), .val (.ref ba_), .val (.int (2 : Int32)), .val (.int (2 : Int32)), .val (.int (2 : Int32)), .val (.int c1_)]) (hb hby d6_38) rfl rfl ?_
  refine o_goto X4 hx 3 (hb hby d6_41) (by decide) (by decide) ?_
  refine o_iload X4 hx (hb hby d6_3) rfl ?_
  refine o_iload X4 hx (hb hby d6_5) rfl ?_
  refine o_icmpYes X4 hx 44 (hb hby d6_7) (flt (by decide : ¬ ((2 : Int32) < (2 : Int32)))).2.1 (by decide) (by decide) ?_
  refine o_iload X4 hx (hb hby d6_44) rfl ?_
  refine oend X4 hlk (v := some (.int (2 : Int32))) (fun h => by rw [hret] at h; cases h) (fun fs hr => retOut X4 hx (t := .int) (i := .ireturn) hret rfl (Or.inl ⟨rfl, Or.inl rfl, _, rfl⟩) (hb hby d6_46) hr) (by decide) (by decide) ?_
  show own_Q_cmp5_2 Z _ _ _ _ _ _ h0 n0 _ T4.heap _
  exact ⟨rfl, N4, (((Keep.refl h0 [ba_]).wr W2 (Or.inl (List.mem_of_getElem? (i := 0) rfl))).wr W4 (Or.inl (List.mem_of_getElem? (i := 0) rfl))), V4⟩
theorem own_pd3 : parseMethodDescriptor "([CI[BII)I" = some ⟨[(.array .char), .int, (.array .byte), .int, .int], some .int⟩ := by decide +kernel
theorem d7_0 : decode jdk_52_method_16_code 0 = .ok (.iload_n 2, 1) := by decide +kernel
theorem d7_1 : decode jdk_52_method_16_code 1 = .ok (.newarray .byte, 2) := by decide +kernel
theorem d7_3 : decode jdk_52_method_16_code 3 = .ok (.astore_n 3, 1) := by decide +kernel
theorem d7_4 : decode jdk_52_method_16_code 4 = .ok (.aload_n 0, 1) := by decide +kernel
theorem d7_5 : decode jdk_52_method_16_code 5 = .ok (.iload_n 1, 1) := by decide +kernel
theorem d7_6 : decode jdk_52_method_16_code 6 = .ok (.aload_n 3, 1) := by decide +kernel
theorem d7_7 : decode jdk_52_method_16_code 7 = .ok (.iconst 0, 1) := by decide +kernel
theorem d7_8 : decode jdk_52_method_16_code 8 = .ok (.iload_n 2, 1) := by decide +kernel
theorem d7_9 : decode jdk_52_method_16_code 9 = .ok (.invokestatic 115, 3) := by decide +kernel
theorem d7_12 : decode jdk_52_method_16_code 12 = .ok (.istore 4, 2) := by decide +kernel
theorem d7_14 : decode jdk_52_method_16_code 14 = .ok (.iload 4, 2) := by decide +kernel
theorem d7_16 : decode jdk_52_method_16_code 16 = .ok (.iload_n 2, 1) := by decide +kernel
theorem d7_17 : decode jdk_52_method_16_code 17 = .ok (.if_icmp .eq 40, 3) := by decide +kernel
theorem d7_57 : decode jdk_52_method_16_code 57 = .ok (.aload_n 3, 1) := by decide +kernel
theorem d7_58 : decode jdk_52_method_16_code 58 = .ok (.areturn, 1) := by decide +kernel
def own_Q_cmp3_2 (Z : State)  (ca_ : Addr) (kc_ : ClassId) (c0_ : Int32) (c1_ : Int32) (h0 : Heap) (n0 : Nat) (v : Option Value) (h : Heap) (L : List Loc) : Prop := ∃ ba_ : Addr, ∃ kb_ : ClassId, (v = some (.ref ba_)) ∧ (Fr n0 L) ∧ (Keep h0 h []) ∧ (h0.size ≤ ba_) ∧ (Arv Z h ba_ kb_ .byte (2 : Int32) [(.int c0_.toInt8.toInt32), (.int c1_.toInt8.toInt32)] (.int 0))
abbrev yM6 : MethodName := ⟨"java/lang/StringUTF16", "compress", "([CII)[B"⟩
set_option maxRecDepth 65536 in
set_option maxHeartbeats 40000000 in
theorem rm_cmp3_2 (l : Launch) (Z : State) (a0 : Array Value) (hw : ∀ d ∈ tables_1, d.before a0 Z = true) (ws : List Jvm.Cond)  (ca_ : Addr) (kc_ : ClassId) (c0_ : Int32) (c1_ : Int32) (h0 : Heap) (n0 : Nat) (O0 : Old Z n0 h0) (pr0 : Arv Z h0 ca_ kc_ .char (2 : Int32) [(.int c0_), (.int c1_)] (.int 0)) (pr1 : ¬ ((255 : Int32) < c0_)) (pr2 : ¬ ((255 : Int32) < c1_)) :
    oMet l Z yM6 jdk_52_method_16_code 6 (some (.array .byte)) ws ({ frames := 1, cells := 1, slots := 2, locals := 18 } : Room) 1 2 #[(.ref ca_), (.int (0 : Int32)), (.int (2 : Int32))] h0 (own_Q_cmp3_2 Z  ca_ kc_ c0_ c1_ h0 n0) := by
  refine oenter own_pn3 #[.val (.ref ca_), .val (.int (0 : Int32)), .val (.int (2 : Int32)), .unset, .unset, .unset] (fun m => by first | (simp [entryFrame, mkF, argsToLocals, Value.category]; done) | rfl) ?_
  intro p e s m below meth c s₁ X0 hx hZ hby hml hret hown0 hnm hlk e0
  have hown : s.vm.findClass "java/lang/StringUTF16" = some m.cls := hown0
  have N0 := Fr.nil n0
  have w28 := hw _ (List.mem_of_getElem? (i := 28) rfl)
  have w30 := hw _ (List.mem_of_getElem? (i := 30) rfl)
  have w31 := hw _ (List.mem_of_getElem? (i := 31) rfl)
  have w32 := hw _ (List.mem_of_getElem? (i := 32) rfl)
  have w33 := hw _ (List.mem_of_getElem? (i := 33) rfl)
  refine o_iloadN X0 hx (hb hby d7_0) rfl ?_
  obtain ⟨T1, _, k1, X1, rfl, E1, A1, Ex1, st1⟩ := newPE (aty := .byte) X0 hx hZ w30 e0 (g := (mkF m 1 #[.val (.ref ca_), .val (.int (0 : Int32)), .val (.int (2 : Int32)), .unset, .unset, .unset] [(.int (2 : Int32))])) rfl (hb hby d7_1) rfl (by decide) (cap := 2) (by decide) (by decide) (by decide) (by decide) (ad := "[B") rfl
  obtain ⟨b1, g1⟩ : ∃ z, z = h0.size := ⟨_, rfl⟩
  rw [← g1] at A1 Ex1 st1
  have n0_b1 : n0 ≤ b1 := Nat.le_trans (Nat.le_trans (Nat.le_of_eq O0.1.symm) O0.2.1) (Nat.le_trans (Nat.le_refl _) (Nat.le_of_eq g1.symm))
  have V1 : Arv Z T1.heap b1 k1 .byte (2 : Int32) [(.int 0), (.int 0)] (.int 0) := (Arv.new A1 (by decide)).pad (pad_rep [] (.int 0) 2)
  refine ogo (S' := T1.setTop (mkF m 3 #[.val (.ref ca_), .val (.int (0 : Int32)), .val (.int (2 : Int32)), .unset, .unset, .unset] [(.ref b1)])) st1 ?_
  refine o_astoreN X1 hx (l' := #[.val (.ref ca_), .val (.int (0 : Int32)), .val (.int (2 : Int32)), .val (.ref b1), .unset, .unset]) (hb hby d7_3) rfl rfl ?_
  refine o_aloadN X1 hx (hb hby d7_4) rfl rfl ?_
  refine o_iloadN X1 hx (hb hby d7_5) rfl ?_
  refine o_aloadN X1 hx (hb hby d7_6) rfl rfl ?_
  refine o_iconst X1 hx (0 : Int32) (hb hby d7_7) rfl ?_
  refine o_iloadN X1 hx (hb hby d7_8) rfl ?_
  obtain ⟨_, _, ⟨T2, L2, kc2, n2⟩, -, X2, ⟨Lc2, hQ2, l2, y2, z2⟩, st2⟩ := Jvm.LawKit.callS X1 hx (y := yM5) hown (mvT hZ w31) (mvT hZ w32) (mvT hZ w28) (mvT hZ w33) (by decide) (backOf (W := 0) (rm_cmp5_2 l Z a0 hw []  ca_ kc_ b1 k1 c0_ c1_ T1.heap n0 (O0.ext E1) (pr0.ext E1) V1 (Nat.ne_of_lt (Nat.lt_of_lt_of_le (Nat.lt_of_lt_of_le pr0.lt (Nat.le_refl _)) (Nat.le_of_eq g1.symm))) n0_b1 pr1 pr2) hZ w33 w28 (by decide) (by decide)) (g := (mkF m 9 #[.val (.ref ca_), .val (.int (0 : Int32)), .val (.int (2 : Int32)), .val (.ref b1), .unset, .unset] [(.int (2 : Int32)), (.int (0 : Int32)), (.ref b1), (.int (0 : Int32)), (.ref ca_)])) rfl (by rw [hml]; rfl) (argsL := [(.ref ca_), (.int (0 : Int32)), (.ref b1), (.int (0 : Int32)), (.int (2 : Int32))]) (rest := []) (lenOf own_pd3 rfl) rfl (by show 2 * 0 + _ ≤ _; exact Nat.le_of_eq rfl) (hb hby d7_9) (fun _ _ => ⟨rfl, rfl, (by decide : 1 + 0 ≤ _), (by decide : 2 + 0 ≤ _)⟩)
  dsimp only [Pt.U, Pt.locs, Pt.cells, Pt.slots] at X2 l2 y2 z2 st2 hQ2
  subst l2 y2 z2
  obtain ⟨rfl, Nq2, K2, p2_0⟩ := hQ2
  have N2 := Fr.app N0 Nq2
  refine ogo (S' := T2.setTop (mkF m 12 #[.val (.ref ca_), .val (.int (0 : Int32)), .val (.int (2 : Int32)), .val (.ref b1), .unset, .unset] [(.int (2 : Int32))])) st2 ?_
  refine o_istore X2 hx (l' := #[.val (.ref ca_), .val (.int (0 : Int32)), .val (.int (2 : Int32)), .val (.ref b1), .val (.int (2 : Int32)), .unset]) (hb hby d7_12) rfl ?_
  refine o_iload X2 hx (hb hby d7_14) rfl ?_
  refine o_iloadN X2 hx (hb hby d7_16) rfl ?_
  refine o_icmpYes X2 hx 57 (hb hby d7_17) (teq (by decide : (2 : Int32) = (2 : Int32))).1 (by decide) (by decide) ?_
  refine o_aloadN X2 hx (hb hby d7_57) rfl rfl ?_
  refine oend X2 hlk (v := some (.ref b1)) (fun h => by rw [hret] at h; cases h) (fun fs hr => retOut X2 hx (t := (.array .byte)) (i := .areturn) hret rfl (Or.inr (Or.inr (Or.inr (Or.inr ⟨rfl, rfl, rfl⟩)))) (hb hby d7_58) hr) (by decide) (by decide) ?_
  show own_Q_cmp3_2 Z _ _ _ _ h0 n0 _ T2.heap _
  exact ⟨b1, k1, rfl, N2, (((Keep.refl h0 []).ext E1).trans K2 (allS (Or.inr (Nat.le_trans (Nat.le_refl _) (Nat.le_of_eq g1.symm))) all0)), (Nat.le_trans (Nat.le_refl _) (Nat.le_of_eq g1.symm)), p2_0⟩
theorem d8_0 : decode jdk_52_method_15_code 0 = .ok (.iload_n 1, 1) := by decide +kernel
theorem d8_1 : decode jdk_52_method_15_code 1 = .ok (.aload_n 0, 1) := by decide +kernel
theorem d8_2 : decode jdk_52_method_15_code 2 = .ok (.arraylength, 1) := by decide +kernel
theorem d8_3 : decode jdk_52_method_15_code 3 = .ok (.isub, 1) := by decide +kernel
theorem d8_4 : decode jdk_52_method_15_code 4 = .ok (.bipush 31, 2) := by decide +kernel
theorem d8_6 : decode jdk_52_method_15_code 6 = .ok (.iushr, 1) := by decide +kernel
theorem d8_7 : decode jdk_52_method_15_code 7 = .ok (.i2b, 1) := by decide +kernel
theorem d8_8 : decode jdk_52_method_15_code 8 = .ok (.ireturn, 1) := by decide +kernel
def own_Q_codl_2 (Z : State)  (ba_ : Addr) (kb_ : ClassId) (vs_ : List Value) (h0 : Heap) (n0 : Nat) (v : Option Value) (h : Heap) (L : List Loc) : Prop := (v = some (.int (0 : Int32))) ∧ (Fr n0 L) ∧ (h = h0)
abbrev yM7 : MethodName := ⟨"java/lang/StringUTF16", "coderFromArrayLen", "([BI)B"⟩
set_option maxRecDepth 65536 in
set_option maxHeartbeats 40000000 in
theorem rm_codl_2 (l : Launch) (Z : State) (a0 : Array Value) (hw : ∀ d ∈ tables_1, d.before a0 Z = true) (ws : List Jvm.Cond)  (ba_ : Addr) (kb_ : ClassId) (vs_ : List Value) (h0 : Heap) (n0 : Nat) (O0 : Old Z n0 h0) (pr0 : Arv Z h0 ba_ kb_ .byte (2 : Int32) vs_ (.int 0)) :
    oMet l Z yM7 jdk_52_method_15_code 2 (some .byte) ws ({ frames := 0, cells := 0, slots := 0, locals := 0 } : Room) 0 0 #[(.ref ba_), (.int (2 : Int32))] h0 (own_Q_codl_2 Z  ba_ kb_ vs_ h0 n0) := by
  refine oenter own_pn3 #[.val (.ref ba_), .val (.int (2 : Int32))] (fun m => by first | (simp [entryFrame, mkF, argsToLocals, Value.category]; done) | rfl) ?_
  intro p e s m below meth c s₁ X0 hx hZ hby hml hret hown0 hnm hlk e0
  have hown : s.vm.findClass "java/lang/StringUTF16" = some m.cls := hown0
  have N0 := Fr.nil n0
  refine o_iloadN X0 hx (hb hby d8_0) rfl ?_
  refine o_aloadN X0 hx (hb hby d8_1) rfl rfl ?_
  obtain ⟨cl1, Ar1, -, S1, N1z, -, -⟩ := (id pr0)
  refine ogo (S' := s₁.setTop (mkF m 3 #[.val (.ref ba_), .val (.int (2 : Int32))] [(.int (2 : Int32)), (.int (2 : Int32))])) (fun _ kt_ => X0.arraylength hx (by rw [e0]; exact Ar1.1) (State.isArrayOf_alike hZ.alike Ar1.2.1) (g := (mkF m 2 #[.val (.ref ba_), .val (.int (2 : Int32))] [(.ref ba_), (.int (2 : Int32))])) rfl rfl (hb hby d8_2) _ (by rw [len_of S1 N1z]; exact kt_)) ?_
  refine o_isub X0 hx (hb hby d8_3) ?_
  refine o_bipush X0 hx (31 : Int32) (hb hby d8_4) rfl ?_
  refine o_iushr X0 hx (hb hby d8_6) ?_
  refine o_i2b X0 hx (hb hby d8_7) ?_
  refine oend X0 hlk (v := some (.int (0 : Int32))) (fun h => by rw [hret] at h; cases h) (fun fs hr => retN X0 hx (t := .byte) hret (by simp) (hb hby d8_8) hr) (by decide) (by decide) ?_
  show own_Q_codl_2 Z _ _ _ h0 n0 _ s₁.heap _
  rw [e0]
  exact ⟨rfl, N0, rfl⟩
theorem own_pd4 : parseMethodDescriptor "([CII)[B" = some ⟨[(.array .char), .int, .int], some (.array .byte)⟩ := by decide +kernel
theorem own_pd5 : parseMethodDescriptor "([BI)B" = some ⟨[(.array .byte), .int], some .byte⟩ := by decide +kernel
theorem d9_0 : decode jdk_42_method_149_code 0 = .ok (.aload_n 0, 1) := by decide +kernel
theorem d9_1 : decode jdk_42_method_149_code 1 = .ok (.invokespecial 1, 3) := by decide +kernel
theorem d9_4 : decode jdk_42_method_149_code 4 = .ok (.iload_n 3, 1) := by decide +kernel
theorem d9_5 : decode jdk_42_method_149_code 5 = .ok (.ifCond .ne 22, 3) := by decide +kernel
theorem d9_27 : decode jdk_42_method_149_code 27 = .ok (.getstatic 38, 3) := by decide +kernel
theorem d9_30 : decode jdk_42_method_149_code 30 = .ok (.ifCond .eq 28, 3) := by decide +kernel
theorem d9_33 : decode jdk_42_method_149_code 33 = .ok (.aload_n 1, 1) := by decide +kernel
theorem d9_34 : decode jdk_42_method_149_code 34 = .ok (.iload_n 2, 1) := by decide +kernel
theorem d9_35 : decode jdk_42_method_149_code 35 = .ok (.iload_n 3, 1) := by decide +kernel
theorem d9_36 : decode jdk_42_method_149_code 36 = .ok (.invokestatic 177, 3) := by decide +kernel
theorem d9_39 : decode jdk_42_method_149_code 39 = .ok (.astore 5, 2) := by decide +kernel
theorem d9_41 : decode jdk_42_method_149_code 41 = .ok (.aload_n 0, 1) := by decide +kernel
theorem d9_42 : decode jdk_42_method_149_code 42 = .ok (.aload 5, 2) := by decide +kernel
theorem d9_44 : decode jdk_42_method_149_code 44 = .ok (.iload_n 3, 1) := by decide +kernel
theorem d9_45 : decode jdk_42_method_149_code 45 = .ok (.invokestatic 47, 3) := by decide +kernel
theorem d9_48 : decode jdk_42_method_149_code 48 = .ok (.putfield 15, 3) := by decide +kernel
theorem d9_51 : decode jdk_42_method_149_code 51 = .ok (.aload_n 0, 1) := by decide +kernel
theorem d9_52 : decode jdk_42_method_149_code 52 = .ok (.aload 5, 2) := by decide +kernel
theorem d9_54 : decode jdk_42_method_149_code 54 = .ok (.putfield 9, 3) := by decide +kernel
theorem d9_57 : decode jdk_42_method_149_code 57 = .ok (.return_, 1) := by decide +kernel
def own_Q_new4_2 (Z : State) (s_CHARACTERS : Addr) (s_BYTES : Addr) (s_CHARACTERS_BUT_TRAILING_SPACES : Addr) (z_CS : Int32) (v_FMT : Value) (x_ : Addr) (ca_ : Addr) (kc_ : ClassId) (c0_ : Int32) (c1_ : Int32) (h0 : Heap) (n0 : Nat) (v : Option Value) (h : Heap) (L : List Loc) : Prop := ∃ ba_ : Addr, ∃ kb_ : ClassId, (v = none) ∧ (Fr n0 L) ∧ (Keep h0 h [x_]) ∧ (h0.size ≤ ba_) ∧ (Arv Z h ba_ kb_ .byte (2 : Int32) [(.int c0_.toInt8.toInt32), (.int c1_.toInt8.toInt32)] (.int 0)) ∧ (Exa Z h x_ "java/lang/String") ∧ (Fld Z h x_ "java/lang/String" "value" "[B" (.ref ba_)) ∧ (Fld Z h x_ "java/lang/String" "coder" "B" (.int (0 : Int32)))
abbrev yM8 : MethodName := ⟨"java/lang/String", "<init>", "([CIILjava/lang/Void;)V"⟩
set_option maxRecDepth 65536 in
set_option maxHeartbeats 40000000 in
theorem rm_new4_2 (l : Launch) (Z : State) (a0 : Array Value) (hw : ∀ d ∈ tables_1, d.before a0 Z = true) (ws : List Jvm.Cond) (s_CHARACTERS : Addr) (s_BYTES : Addr) (s_CHARACTERS_BUT_TRAILING_SPACES : Addr) (z_CS : Int32) (v_FMT : Value) (x_ : Addr) (ca_ : Addr) (kc_ : ClassId) (c0_ : Int32) (c1_ : Int32) (h0 : Heap) (n0 : Nat) (SB : own_Start Z s_CHARACTERS s_BYTES s_CHARACTERS_BUT_TRAILING_SPACES z_CS v_FMT) (O0 : Old Z n0 h0) (pr0 : Exa Z h0 x_ "java/lang/String") (pr1 : Fld Z h0 x_ "java/lang/String" "value" "[B" .null) (pr2 : Fld Z h0 x_ "java/lang/String" "coder" "B" (.int (0 : Int32))) (pr3 : Arv Z h0 ca_ kc_ .char (2 : Int32) [(.int c0_), (.int c1_)] (.int 0)) (pr4 : n0 ≤ x_) (pr5 : ¬ ((255 : Int32) < c0_)) (pr6 : ¬ ((255 : Int32) < c1_)) :
    oMet l Z yM8 jdk_42_method_149_code 6 none ws ({ frames := 2, cells := 1, slots := 2, locals := 35 } : Room) 1 2 #[(.ref x_), (.ref ca_), (.int (0 : Int32)), (.int (2 : Int32)), .null] h0 (own_Q_new4_2 Z s_CHARACTERS s_BYTES s_CHARACTERS_BUT_TRAILING_SPACES z_CS v_FMT x_ ca_ kc_ c0_ c1_ h0 n0) := by
  refine oenter own_pn2 #[.val (.ref x_), .val (.ref ca_), .val (.int (0 : Int32)), .val (.int (2 : Int32)), .val .null, .unset] (fun m => by first | (simp [entryFrame, mkF, argsToLocals, Value.category]; done) | rfl) ?_
  intro p e s m below meth c s₁ X0 hx hZ hby hml hret hown0 hnm hlk e0
  have hown : s.vm.findClass "java/lang/String" = some m.cls := hown0
  have N0 := Fr.nil n0
  obtain ⟨S_s_CHARACTERS, E_s_CHARACTERS, S_s_BYTES, E_s_BYTES, S_s_CHARACTERS_BUT_TRAILING_SPACES, E_s_CHARACTERS_BUT_TRAILING_SPACES, F_s_CHARACTERS_ordinal, F_s_BYTES_ordinal, F_s_CHARACTERS_BUT_TRAILING_SPACES_ordinal, S_CS, H_CS, S_FMT, R_FMT⟩ := (id SB)
  have w13 := hw _ (List.mem_of_getElem? (i := 13) rfl)
  have w22 := hw _ (List.mem_of_getElem? (i := 22) rfl)
  have w23 := hw _ (List.mem_of_getElem? (i := 23) rfl)
  have w24 := hw _ (List.mem_of_getElem? (i := 24) rfl)
  have w25 := hw _ (List.mem_of_getElem? (i := 25) rfl)
  have w26 := hw _ (List.mem_of_getElem? (i := 26) rfl)
  have w27 := hw _ (List.mem_of_getElem? (i := 27) rfl)
  have w28 := hw _ (List.mem_of_getElem? (i := 28) rfl)
  have w29 := hw _ (List.mem_of_getElem? (i := 29) rfl)
  have w34 := hw _ (List.mem_of_getElem? (i := 34) rfl)
  have w35 := hw _ (List.mem_of_getElem? (i := 35) rfl)
  have w36 := hw _ (List.mem_of_getElem? (i := 36) rfl)
  have w37 := hw _ (List.mem_of_getElem? (i := 37) rfl)
  have w38 := hw _ (List.mem_of_getElem? (i := 38) rfl)
  have w39 := hw _ (List.mem_of_getElem? (i := 39) rfl)
  have w40 := hw _ (List.mem_of_getElem? (i := 40) rfl)
  refine o_aloadN X0 hx (hb hby d9_0) rfl rfl ?_
  obtain ⟨T1, X1, e1, st1⟩ := initO X0 hx hZ hown w22 w23 w24 e0 (g := (mkF m 1 #[.val (.ref x_), .val (.ref ca_), .val (.int (0 : Int32)), .val (.int (2 : Int32)), .val .null, .unset] [(.ref x_)])) rfl (by rw [hml]; rfl) rfl (hb hby d9_1) (by decide) (W := 0) (by show 2 * 0 + _ ≤ _; exact Nat.le_of_eq rfl) (by decide)
  refine ogo (S' := T1.setTop (mkF m 4 #[.val (.ref x_), .val (.ref ca_), .val (.int (0 : Int32)), .val (.int (2 : Int32)), .val .null, .unset] [])) st1 ?_
  refine o_iloadN X1 hx (hb hby d9_4) rfl ?_
  refine o_ifYes X1 hx 27 (hb hby d9_5) (feq (by decide : ¬ ((2 : Int32) = (0 : Int32)))).2 (by decide) (by decide) ?_
  obtain ⟨T2, X2, e2, st2⟩ := getS2 X1 hx hZ hown (host := "") (Or.inl w25) Via.refl e1 (Sta.ext O0.2 S_CS) (g := (mkF m 27 #[.val (.ref x_), .val (.ref ca_), .val (.int (0 : Int32)), .val (.int (2 : Int32)), .val .null, .unset] [])) rfl (hb hby d9_27)
  refine ogo (S' := T2.setTop (mkF m 30 #[.val (.ref x_), .val (.ref ca_), .val (.int (0 : Int32)), .val (.int (2 : Int32)), .val .null, .unset] [(.int z_CS)])) st2 ?_
  refine o_ifNo X2 hx (hb hby d9_30) (feq H_CS).1 ?_
  refine o_aloadN X2 hx (hb hby d9_33) rfl rfl ?_
  refine o_iloadN X2 hx (hb hby d9_34) rfl ?_
  refine o_iloadN X2 hx (hb hby d9_35) rfl ?_
  obtain ⟨_, _, ⟨T3, L3, kc3, n3⟩, -, X3, ⟨Lc3, hQ3, l3, y3, z3⟩, st3⟩ := Jvm.LawKit.callS X2 hx (y := yM6) hown (mvT hZ w26) (mvT hZ w27) (mvT hZ w28) (mvT hZ w29) (by decide) (backOf (W := 0) (rm_cmp3_2 l Z a0 hw []  ca_ kc_ c0_ c1_ h0 n0 O0 pr3 pr5 pr6) hZ w29 w28 (by decide) (by decide)) (g := (mkF m 36 #[.val (.ref x_), .val (.ref ca_), .val (.int (0 : Int32)), .val (.int (2 : Int32)), .val .null, .unset] [(.int (2 : Int32)), (.int (0 : Int32)), (.ref ca_)])) rfl (by rw [hml]; rfl) (argsL := [(.ref ca_), (.int (0 : Int32)), (.int (2 : Int32))]) (rest := []) (lenOf own_pd4 rfl) rfl (by show 2 * 0 + _ ≤ _; exact Nat.le_of_eq rfl) (hb hby d9_36) (fun _ _ => ⟨rfl, e2, (by decide : 0 + 1 ≤ _), (by decide : 0 + 2 ≤ _)⟩)
  dsimp only [Pt.U, Pt.locs, Pt.cells, Pt.slots] at X3 l3 y3 z3 st3 hQ3
  subst l3 y3 z3
  obtain ⟨ba_3, kb_3, rfl, Nq3, K3, p3_0, p3_1⟩ := hQ3
  have N3 := Fr.app N0 Nq3
  have n0_ba_3 : n0 ≤ ba_3 := Nat.le_trans (Nat.le_trans (Nat.le_of_eq O0.1.symm) O0.2.1) (Nat.le_trans (Nat.le_refl _) p3_0)
  refine ogo (S' := T3.setTop (mkF m 39 #[.val (.ref x_), .val (.ref ca_), .val (.int (0 : Int32)), .val (.int (2 : Int32)), .val .null, .unset] [(.ref ba_3)])) st3 ?_
  refine o_astore X3 hx (l' := #[.val (.ref x_), .val (.ref ca_), .val (.int (0 : Int32)), .val (.int (2 : Int32)), .val .null, .val (.ref ba_3)]) (hb hby d9_39) rfl rfl ?_
  refine o_aloadN X3 hx (hb hby d9_41) rfl rfl ?_
  refine o_aload X3 hx (hb hby d9_42) rfl rfl ?_
  refine o_iloadN X3 hx (hb hby d9_44) rfl ?_
  obtain ⟨_, _, ⟨T4, L4, kc4, n4⟩, -, X4, ⟨Lc4, hQ4, l4, y4, z4⟩, st4⟩ := Jvm.LawKit.callS X3 hx (y := yM7) hown (mvT hZ w34) (mvT hZ w35) (mvT hZ w28) (mvT hZ w36) (by decide) (backOf (W := 1) (rm_codl_2 l Z a0 hw []  ba_3 kb_3 [(.int c0_.toInt8.toInt32), (.int c1_.toInt8.toInt32)] T3.heap n0 (O0.keep K3 all0) p3_1) hZ w36 w28 (by decide) (by decide)) (g := (mkF m 45 #[.val (.ref x_), .val (.ref ca_), .val (.int (0 : Int32)), .val (.int (2 : Int32)), .val .null, .val (.ref ba_3)] [(.int (2 : Int32)), (.ref ba_3), (.ref x_)])) rfl (by rw [hml]; rfl) (argsL := [(.ref ba_3), (.int (2 : Int32))]) (rest := [(.ref x_)]) (lenOf own_pd5 rfl) rfl (by show 2 * 0 + _ ≤ _; exact Nat.le_of_eq rfl) (hb hby d9_45) (fun _ _ => ⟨rfl, rfl, (by decide : 1 + 0 ≤ _), (by decide : 2 + 0 ≤ _)⟩)
  dsimp only [Pt.U, Pt.locs, Pt.cells, Pt.slots] at X4 l4 y4 z4 st4 hQ4
  subst l4 y4 z4
  obtain ⟨rfl, Nq4, e4⟩ := hQ4
  have N4 := Fr.app N3 Nq4
  refine ogo (S' := T4.setTop (mkF m 48 #[.val (.ref x_), .val (.ref ca_), .val (.int (0 : Int32)), .val (.int (2 : Int32)), .val .null, .val (.ref ba_3)] [(.int (0 : Int32)), (.ref x_)])) st4 ?_
  obtain ⟨T5, _, X5, rfl, W5, st5⟩ := putFN X4 hx hZ hown w37 Via.refl e4 (pr2.keep K3 nin0) (pr0.keep K3) (Or.inr ⟨w38, rfl, hnm⟩) w13 (ty := .byte) (v' := (.int (0 : Int32))) (by decide) rfl (by decide) (g := (mkF m 48 #[.val (.ref x_), .val (.ref ca_), .val (.int (0 : Int32)), .val (.int (2 : Int32)), .val .null, .val (.ref ba_3)] [(.int (0 : Int32)), (.ref x_)])) rfl rfl (hb hby d9_48)
  have N5 := Fr.snoc X5 N4 pr4
  have F5 := Fld.same W5 (pr2.keep K3 nin0)
  refine ogo (S' := T5.setTop (mkF m 51 #[.val (.ref x_), .val (.ref ca_), .val (.int (0 : Int32)), .val (.int (2 : Int32)), .val .null, .val (.ref ba_3)] [])) st5 ?_
  refine o_aloadN X5 hx (hb hby d9_51) rfl rfl ?_
  refine o_aload X5 hx (hb hby d9_52) rfl rfl ?_
  have c7 := (Fld.other W5 (pr1.keep K3 nin0) (Or.inr (slot_ne (Or.inr w40) (Or.inr w38) (by decide) (t := (.array .byte)) (t' := .byte) (by decide) (by decide))))
  obtain ⟨T6, _, X6, rfl, W6, st6⟩ := putF X5 hx hZ hown (host := "") (Or.inl w39) Via.refl rfl c7 (Exa.wr W5 (pr0.keep K3)) (Or.inr ⟨w40, rfl, hnm⟩) w13 (ty := (.array .byte)) (by decide) rfl rfl (g := (mkF m 54 #[.val (.ref x_), .val (.ref ca_), .val (.int (0 : Int32)), .val (.int (2 : Int32)), .val .null, .val (.ref ba_3)] [(.ref ba_3), (.ref x_)])) rfl rfl (hb hby d9_54)
  have N6 := Fr.snoc X6 N5 pr4
  have F6 := Fld.same W6 c7
  refine ogo (S' := T6.setTop (mkF m 57 #[.val (.ref x_), .val (.ref ca_), .val (.int (0 : Int32)), .val (.int (2 : Int32)), .val .null, .val (.ref ba_3)] [])) st6 ?_
  have c8 := ((p3_1.other W5 (Nat.ne_of_gt (Nat.lt_of_lt_of_le (Nat.lt_of_lt_of_le pr0.lt (Nat.le_refl _)) p3_0))).other W6 (Nat.ne_of_gt (Nat.lt_of_lt_of_le (Nat.lt_of_lt_of_le pr0.lt (Nat.le_refl _)) p3_0)))
  have c9 := (Fld.other W6 F5 (Or.inr (slot_ne (Or.inr w38) (Or.inr w40) (by decide) (t := .byte) (t' := (.array .byte)) (by decide) (by decide))))
  refine oend X6 hlk (v := none) (fun _ => rfl) (fun fs hr => X6.returnOut hx hret (hb hby d9_57) hr) (by decide) (by decide) ?_
  show own_Q_new4_2 Z _ _ _ _ _ _ _ _ _ _ h0 n0 _ T6.heap _
  exact ⟨ba_3, kb_3, rfl, N6, ((((Keep.refl h0 [x_]).trans K3 all0).wr W5 (Or.inl (List.mem_of_getElem? (i := 0) rfl))).wr W6 (Or.inl (List.mem_of_getElem? (i := 0) rfl))), (Nat.le_trans (Nat.le_refl _) p3_0), c8, (Exa.wr W6 (Exa.wr W5 (pr0.keep K3))), F6, c9⟩
theorem own_pd6 : parseMethodDescriptor "([CIILjava/lang/Void;)V" = some ⟨[(.array .char), .int, .int, (.object "java/lang/Void")], none⟩ := by decide +kernel
theorem d10_0 : decode jdk_42_method_3_code 0 = .ok (.aload_n 0, 1) := by decide +kernel
theorem d10_1 : decode jdk_42_method_3_code 1 = .ok (.aload_n 1, 1) := by decide +kernel
theorem d10_2 : decode jdk_42_method_3_code 2 = .ok (.iconst 0, 1) := by decide +kernel
theorem d10_3 : decode jdk_42_method_3_code 3 = .ok (.aload_n 1, 1) := by decide +kernel
theorem d10_4 : decode jdk_42_method_3_code 4 = .ok (.arraylength, 1) := by decide +kernel
theorem d10_5 : decode jdk_42_method_3_code 5 = .ok (.aconst_null, 1) := by decide +kernel
theorem d10_6 : decode jdk_42_method_3_code 6 = .ok (.invokespecial 27, 3) := by decide +kernel
theorem d10_9 : decode jdk_42_method_3_code 9 = .ok (.return_, 1) := by decide +kernel
def own_Q_new1_2 (Z : State) (s_CHARACTERS : Addr) (s_BYTES : Addr) (s_CHARACTERS_BUT_TRAILING_SPACES : Addr) (z_CS : Int32) (v_FMT : Value) (x_ : Addr) (ca_ : Addr) (kc_ : ClassId) (c0_ : Int32) (c1_ : Int32) (h0 : Heap) (n0 : Nat) (v : Option Value) (h : Heap) (L : List Loc) : Prop := ∃ ba_ : Addr, ∃ kb_ : ClassId, (v = none) ∧ (Fr n0 L) ∧ (Keep h0 h [x_]) ∧ (h0.size ≤ ba_) ∧ (Arv Z h ba_ kb_ .byte (2 : Int32) [(.int c0_.toInt8.toInt32), (.int c1_.toInt8.toInt32)] (.int 0)) ∧ (Exa Z h x_ "java/lang/String") ∧ (Fld Z h x_ "java/lang/String" "value" "[B" (.ref ba_)) ∧ (Fld Z h x_ "java/lang/String" "coder" "B" (.int (0 : Int32)))
abbrev yM9 : MethodName := ⟨"java/lang/String", "<init>", "([C)V"⟩
set_option maxRecDepth 65536 in
set_option maxHeartbeats 40000000 in
theorem rm_new1_2 (l : Launch) (Z : State) (a0 : Array Value) (hw : ∀ d ∈ tables_1, d.before a0 Z = true) (ws : List Jvm.Cond) (s_CHARACTERS : Addr) (s_BYTES : Addr) (s_CHARACTERS_BUT_TRAILING_SPACES : Addr) (z_CS : Int32) (v_FMT : Value) (x_ : Addr) (ca_ : Addr) (kc_ : ClassId) (c0_ : Int32) (c1_ : Int32) (h0 : Heap) (n0 : Nat) (SB : own_Start Z s_CHARACTERS s_BYTES s_CHARACTERS_BUT_TRAILING_SPACES z_CS v_FMT) (O0 : Old Z n0 h0) (pr0 : Exa Z h0 x_ "java/lang/String") (pr1 : Fld Z h0 x_ "java/lang/String" "value" "[B" .null) (pr2 : Fld Z h0 x_ "java/lang/String" "coder" "B" (.int (0 : Int32))) (pr3 : Arv Z h0 ca_ kc_ .char (2 : Int32) [(.int c0_), (.int c1_)] (.int 0)) (pr4 : n0 ≤ x_) (pr5 : ¬ ((255 : Int32) < c0_)) (pr6 : ¬ ((255 : Int32) < c1_)) :
    oMet l Z yM9 jdk_42_method_3_code 2 none ws ({ frames := 3, cells := 1, slots := 2, locals := 52 } : Room) 1 2 #[(.ref x_), (.ref ca_)] h0 (own_Q_new1_2 Z s_CHARACTERS s_BYTES s_CHARACTERS_BUT_TRAILING_SPACES z_CS v_FMT x_ ca_ kc_ c0_ c1_ h0 n0) := by
  refine oenter own_pn2 #[.val (.ref x_), .val (.ref ca_)] (fun m => by first | (simp [entryFrame, mkF, argsToLocals, Value.category]; done) | rfl) ?_
  intro p e s m below meth c s₁ X0 hx hZ hby hml hret hown0 hnm hlk e0
  have hown : s.vm.findClass "java/lang/String" = some m.cls := hown0
  have N0 := Fr.nil n0
  obtain ⟨S_s_CHARACTERS, E_s_CHARACTERS, S_s_BYTES, E_s_BYTES, S_s_CHARACTERS_BUT_TRAILING_SPACES, E_s_CHARACTERS_BUT_TRAILING_SPACES, F_s_CHARACTERS_ordinal, F_s_BYTES_ordinal, F_s_CHARACTERS_BUT_TRAILING_SPACES_ordinal, S_CS, H_CS, S_FMT, R_FMT⟩ := (id SB)
  have w14 := hw _ (List.mem_of_getElem? (i := 14) rfl)
  have w18 := hw _ (List.mem_of_getElem? (i := 18) rfl)
  have w19 := hw _ (List.mem_of_getElem? (i := 19) rfl)
  have w21 := hw _ (List.mem_of_getElem? (i := 21) rfl)
  refine o_aloadN X0 hx (hb hby d10_0) rfl rfl ?_
  refine o_aloadN X0 hx (hb hby d10_1) rfl rfl ?_
  refine o_iconst X0 hx (0 : Int32) (hb hby d10_2) rfl ?_
  refine o_aloadN X0 hx (hb hby d10_3) rfl rfl ?_
  obtain ⟨cl1, Ar1, -, S1, N1z, -, -⟩ := (id pr3)
  refine ogo (S' := s₁.setTop (mkF m 5 #[.val (.ref x_), .val (.ref ca_)] [(.int (2 : Int32)), (.int (0 : Int32)), (.ref ca_), (.ref x_)])) (fun _ kt_ => X0.arraylength hx (by rw [e0]; exact Ar1.1) (State.isArrayOf_alike hZ.alike Ar1.2.1) (g := (mkF m 4 #[.val (.ref x_), .val (.ref ca_)] [(.ref ca_), (.int (0 : Int32)), (.ref ca_), (.ref x_)])) rfl rfl (hb hby d10_4) _ (by rw [len_of S1 N1z]; exact kt_)) ?_
  refine o_aconst_null X0 hx (hb hby d10_5) ?_
  obtain ⟨_, _, ⟨T2, L2, kc2, n2⟩, -, X2, ⟨Lc2, hQ2, l2, y2, z2⟩, st2⟩ := X0.specialBack hx (y := yM8) rfl hown (mvT hZ w18) (mvT hZ w19) (mvT hZ w21) (by decide) (backOf (W := 0) (rm_new4_2 l Z a0 hw [] s_CHARACTERS s_BYTES s_CHARACTERS_BUT_TRAILING_SPACES z_CS v_FMT x_ ca_ kc_ c0_ c1_ h0 n0 SB O0 pr0 pr1 pr2 pr3 pr4 pr5 pr6) hZ w21 w14 (by decide) (by decide)) (g := (mkF m 6 #[.val (.ref x_), .val (.ref ca_)] [.null, (.int (2 : Int32)), (.int (0 : Int32)), (.ref ca_), (.ref x_)])) rfl (by rw [hml]; rfl) (Steps.refl _) (a := x_) (argsL := [(.ref ca_), (.int (0 : Int32)), (.int (2 : Int32)), .null]) (rest := []) (lenOf own_pd6 rfl) rfl (by show 2 * 0 + _ ≤ _; exact Nat.le_of_eq rfl) (hb hby d10_6) (fun _ _ => ⟨rfl, e0, (by decide : 0 + 1 ≤ _), (by decide : 0 + 2 ≤ _)⟩)
  dsimp only [Pt.U, Pt.locs, Pt.cells, Pt.slots] at X2 l2 y2 z2 st2 hQ2
  subst l2 y2 z2
  obtain ⟨ba_2, kb_2, rfl, Nq2, K2, p2_0, p2_1, p2_2, p2_3, p2_4⟩ := hQ2
  have N2 := Fr.app N0 Nq2
  have n0_ba_2 : n0 ≤ ba_2 := Nat.le_trans (Nat.le_trans (Nat.le_of_eq O0.1.symm) O0.2.1) (Nat.le_trans (Nat.le_refl _) p2_0)
  refine otr (S' := T2.setTop (mkF m 9 #[.val (.ref x_), .val (.ref ca_)] [])) st2 ?_
  refine oend X2 hlk (v := none) (fun _ => rfl) (fun fs hr => X2.returnOut hx hret (hb hby d10_9) hr) (by decide) (by decide) ?_
  show own_Q_new1_2 Z _ _ _ _ _ _ _ _ _ _ h0 n0 _ T2.heap _
  exact ⟨ba_2, kb_2, rfl, N2, ((Keep.refl h0 [x_]).trans K2 (allS (Or.inl (List.mem_of_getElem? (i := 0) rfl)) all0)), (Nat.le_trans (Nat.le_refl _) p2_0), p2_1, p2_2, p2_3, p2_4⟩
def own_Q_cmp5_3 (Z : State)  (ca_ : Addr) (kc_ : ClassId) (ba_ : Addr) (kb_ : ClassId) (c0_ : Int32) (c1_ : Int32) (c2_ : Int32) (h0 : Heap) (n0 : Nat) (v : Option Value) (h : Heap) (L : List Loc) : Prop := (v = some (.int (3 : Int32))) ∧ (Fr n0 L) ∧ (Keep h0 h [ba_]) ∧ (Arv Z h ba_ kb_ .byte (3 : Int32) [(.int c0_.toInt8.toInt32), (.int c1_.toInt8.toInt32), (.int c2_.toInt8.toInt32)] (.int 0))
set_option maxRecDepth 65536 in
set_option maxHeartbeats 40000000 in
theorem rm_cmp5_3 (l : Launch) (Z : State) (a0 : Array Value) (hw : ∀ d ∈ tables_1, d.before a0 Z = true) (ws : List Jvm.Cond)  (ca_ : Addr) (kc_ : ClassId) (ba_ : Addr) (kb_ : ClassId) (c0_ : Int32) (c1_ : Int32) (c2_ : Int32) (h0 : Heap) (n0 : Nat) (O0 : Old Z n0 h0) (pr0 : Arv Z h0 ca_ kc_ .char (3 : Int32) [(.int c0_), (.int c1_), (.int c2_)] (.int 0)) (pr1 : Arv Z h0 ba_ kb_ .byte (3 : Int32) [(.int 0), (.int 0), (.int 0)] (.int 0)) (pr2 : ca_ ≠ ba_) (pr3 : n0 ≤ ba_) (pr4 : ¬ ((255 : Int32) < c0_)) (pr5 : ¬ ((255 : Int32) < c1_)) (pr6 : ¬ ((255 : Int32) < c2_)) :
    oMet l Z yM5 jdk_52_method_21_code 7 (some .int) ws ({ frames := 0, cells := 0, slots := 0, locals := 0 } : Room) 0 0 #[(.ref ca_), (.int (0 : Int32)), (.ref ba_), (.int (0 : Int32)), (.int (3 : Int32))] h0 (own_Q_cmp5_3 Z  ca_ kc_ ba_ kb_ c0_ c1_ c2_ h0 n0) := by
  refine oenter own_pn3 #[.val (.ref ca_), .val (.int (0 : Int32)), .val (.ref ba_), .val (.int (0 : Int32)), .val (.int (3 : Int32)), .unset, .unset] (fun m => by first | (simp [entryFrame, mkF, argsToLocals, Value.category]; done) | rfl) ?_
  intro p e s m below meth c s₁ X0 hx hZ hby hml hret hown0 hnm hlk e0
  have hown : s.vm.findClass "java/lang/StringUTF16" = some m.cls := hown0
  have N0 := Fr.nil n0
  refine o_iconst X0 hx (0 : Int32) (hb hby d6_0) rfl ?_
  refine o_istore X0 hx (l' := #[.val (.ref ca_), .val (.int (0 : Int32)), .val (.ref ba_), .val (.int (0 : Int32)), .val (.int (3 : Int32)), .val (.int (0 : Int32)), .unset]) (hb hby d6_1) rfl ?_
  refine o_iload X0 hx (hb hby d6_3) rfl ?_
  refine o_iload X0 hx (hb hby d6_5) rfl ?_
  refine o_icmpNo X0 hx (hb hby d6_7) (tlt (by decide : (0 : Int32) < (3 : Int32))).2.1 ?_
  refine o_aloadN X0 hx (hb hby d6_10) rfl rfl ?_
  refine o_iloadN X0 hx (hb hby d6_11) rfl ?_
  obtain ⟨cl1, Ar1, q1, S1, N1z, H1, G1⟩ := (id pr0)
  have hi1 := inb_of (j := (0 : Int32)) S1 ⟨by decide, by decide⟩
  have ha1 := Has.at (v := (.int c0_)) H1 hi1 rfl
  refine ogo (S' := s₁.setTop (mkF m 13 #[.val (.ref ca_), .val (.int (0 : Int32)), .val (.ref ba_), .val (.int (0 : Int32)), .val (.int (3 : Int32)), .val (.int (0 : Int32)), .unset] [(.int c0_)])) (X0.caload hx (j := (0 : Int32)) (v := (.int c0_)) (by rw [e0]; exact Ar1.1) (State.isArrayOf_alike hZ.alike Ar1.2.1) Ar1.2.2 hi1 ha1 (g := (mkF m 12 #[.val (.ref ca_), .val (.int (0 : Int32)), .val (.ref ba_), .val (.int (0 : Int32)), .val (.int (3 : Int32)), .val (.int (0 : Int32)), .unset] [(.int (0 : Int32)), (.ref ca_)])) rfl rfl (hb hby d6_12)) ?_
  refine o_istore X0 hx (l' := #[.val (.ref ca_), .val (.int (0 : Int32)), .val (.ref ba_), .val (.int (0 : Int32)), .val (.int (3 : Int32)), .val (.int (0 : Int32)), .val (.int c0_)]) (hb hby d6_13) rfl ?_
  refine o_iload X0 hx (hb hby d6_15) rfl ?_
  refine o_sipush X0 hx (255 : Int32) (hb hby d6_17) rfl ?_
  refine o_icmpYes X0 hx 26 (hb hby d6_20) (flt pr4).2.2.2 (by decide) (by decide) ?_
  refine o_aloadN X0 hx (hb hby d6_26) rfl rfl ?_
  refine o_iloadN X0 hx (hb hby d6_27) rfl ?_
  refine o_iload X0 hx (hb hby d6_28) rfl ?_
  refine o_i2b X0 hx (hb hby d6_30) ?_
  obtain ⟨cl2, Ar2, q2, S2, N2z, H2, G2⟩ := (id pr1)
  obtain ⟨T2, _, X2, rfl, W2, st2⟩ := stB X0 hx hZ e0 Ar2 (j := (0 : Int32)) (inb_of S2 ⟨by decide, by decide⟩) (g := (mkF m 31 #[.val (.ref ca_), .val (.int (0 : Int32)), .val (.ref ba_), .val (.int (0 : Int32)), .val (.int (3 : Int32)), .val (.int (0 : Int32)), .val (.int c0_)] [(.int c0_.toInt8.toInt32), (.int (0 : Int32)), (.ref ba_)])) rfl rfl (hb hby d6_31)
  rw [own_narb] at W2
  have V2 : Arv Z T2.heap ba_ kb_ .byte (3 : Int32) [(.int c0_.toInt8.toInt32), (.int 0), (.int 0)] (.int 0) := Arv.set Ar2 q2 S2 N2z H2 G2 (fits_nar_byte _) W2 0 rfl (Nat.le_of_ble_eq_true rfl)
  have N2 := Fr.snoc X2 N0 pr3
  refine ogo (S' := T2.setTop (mkF m 32 #[.val (.ref ca_), .val (.int (0 : Int32)), .val (.ref ba_), .val (.int (0 : Int32)), .val (.int (3 : Int32)), .val (.int (0 : Int32)), .val (.int c0_)] [])) st2 ?_
  refine o_iinc X2 hx (l' := #[.val (.ref ca_), .val (.int (1 : Int32)), .val (.ref ba_), .val (.int (0 : Int32)), .val (.int (3 : Int32)), .val (.int (0 : Int32)), .val (.int c0_)]) (hb hby d6_32) rfl rfl ?_
  refine o_iinc X2 hx (l' := #[.val (.ref ca_), .val (.int (1 : Int32)), .val (.ref ba_), .val (.int (1 : Int32)), .val (.int (3 : Int32)), .val (.int (0 : Int32)), .val (.int c0_)]) (hb hby d6_35) rfl rfl ?_
  refine o_iinc X2 hx (l' := #[.val (.ref ca_), .val (.int (1 : Int32)), .val (.ref ba_), .val (.int (1 : Int32)), .val (.int (3 : Int32)), .val (.int (1 : Int32)), .val (.int c0_)]) (hb hby d6_38) rfl rfl ?_
  refine o_goto X2 hx 3 (hb hby d6_41) (by decide) (by decide) ?_
  refine o_iload X2 hx (hb hby d6_3) rfl ?_
  refine o_iload X2 hx (hb hby d6_5) rfl ?_
  refine o_icmpNo X2 hx (hb hby d6_7) (tlt (by decide : (1 : Int32) < (3 : Int32))).2.1 ?_
  refine o_aloadN X2 hx (hb hby d6_10) rfl rfl ?_
  refine o_iloadN X2 hx (hb hby d6_11) rfl ?_
  obtain ⟨cl3, Ar3, q3, S3, N3z, H3, G3⟩ := (id (pr0.other W2 pr2))
  have hi3 := inb_of (j := (1 : Int32)) S3 ⟨by decide, by decide⟩
  have ha3 := Has.at (v := (.int c1_)) H3 hi3 rfl
  refine ogo (S' := T2.setTop (mkF m 13 #[.val (.ref ca_), .val (.int (1 : Int32)), .val (.ref ba_), .val (.int (1 : Int32)), .val (.int (3 : Int32)), .val (.int (1 : Int32)), .val (.int c0_)] [(.int c1_)])) (X2.caload hx (j := (1 : Int32)) (v := (.int c1_)) Ar3.1 (State.isArrayOf_alike hZ.alike Ar3.2.1) Ar3.2.2 hi3 ha3 (g := (mkF m 12 #[.val (.ref ca_), .val (.int (1 : Int32)), .val (.ref ba_), .val (.int (1 : Int32)), .val (.int (3 : Int32)), .val (.int (1 : Int32)), .val (.int c0_)] [(.int (1 : Int32)), (.ref ca_)])) rfl rfl (hb hby d6_12)) ?_
  refine o_istore X2 hx (l' := #[.val (.ref ca_), .val (.int (1 : Int32)), .val (.ref ba_), .val (.int (1 : Int32)), .val (.int (3 : Int32)), .val (.int (1 : Int32)), .val (.int c1_)]) (hb hby d6_13) rfl ?_
  refine o_iload X2 hx (hb hby d6_15) rfl ?_
  refine o_sipush X2 hx (255 : Int32) (hb hby d6_17) rfl ?_
  refine o_icmpYes X2 hx 26 (hb hby d6_20) (flt pr5).2.2.2 (by decide) (by decide) ?_
  refine o_aloadN X2 hx (hb hby d6_26) rfl rfl ?_
  refine o_iloadN X2 hx (hb hby d6_27) rfl ?_
  refine o_iload X2 hx (hb hby d6_28) rfl ?_
  refine o_i2b X2 hx (hb hby d6_30) ?_
  obtain ⟨cl4, Ar4, q4, S4, N4z, H4, G4⟩ := (id V2)
  obtain ⟨T4, _, X4, rfl, W4, st4⟩ := stB X2 hx hZ rfl Ar4 (j := (1 : Int32)) (inb_of S4 ⟨by decide, by decide⟩) (g := (mkF m 31 #[.val (.ref ca_), .val (.int (1 : Int32)), .val (.ref ba_), .val (.int (1 : Int32)), .val (.int (3 : Int32)), .val (.int (1 : Int32)), .val (.int c1_)] [(.int c1_.toInt8.toInt32), (.int (1 : Int32)), (.ref ba_)])) rfl rfl (hb hby d6_31)
  rw [own_narb] at W4
  have V4 : Arv Z T4.heap ba_ kb_ .byte (3 : Int32) [(.int c0_.toInt8.toInt32), (.int c1_.toInt8.toInt32), (.int 0)] (.int 0) := Arv.set Ar4 q4 S4 N4z H4 G4 (fits_nar_byte _) W4 1 rfl (Nat.le_of_ble_eq_true rfl)
  have N4 := Fr.snoc X4 N2 pr3
  refine ogo (S' := T4.setTop (mkF m 32 #[.val (.ref ca_), .val (.int (1 : Int32)), .val (.ref ba_), .val (.int (1 : Int32)), .val (.int (3 : Int32)), .val (.int (1 : Int32)), .val (.int c1_)] [])) st4 ?_
  refine o_iinc X4 hx (l' := #[.val (.ref ca_), .val (.int (2 : Int32)), .val (.ref ba_), .val (.int (1 : Int32)), .val (.int (3 : Int32)), .val (.int (1 : Int32)), .val (.int c1_)]) (hb hby d6_32) rfl rfl ?_
  refine o_iinc X4 hx (l' := #[.val (.ref ca_), .val (.int (2 : Int32)), .val (.ref ba_), .val (.int (2 : Int32)), .val (.int (3 : Int32)), .val (.int (1 : Int32)), .val (.int c1_)]) (hb hby d6_35) rfl rfl ?_
  refine o_iinc X4 hx (l' := #[.val (.ref ca_), .val (.int (2 : Int32)), .val (.ref ba_), .val (.int (2 : Int32)), .val (.int (3 : Int32)), .val (.int (2 : Int32)), .val (.int c1_)]) (hb hby d6_38) rfl rfl ?_
  refine o_goto X4 hx 3 (hb hby d6_41) (by decide) (by decide) ?_
  refine o_iload X4 hx (hb hby d6_3) rfl ?_
  refine o_iload X4 hx (hb hby d6_5) rfl ?_
  refine o_icmpNo X4 hx (hb hby d6_7) (tlt (by decide : (2 : Int32) < (3 : Int32))).2.1 ?_
  refine o_aloadN X4 hx (hb hby d6_10) rfl rfl ?_
  refine o_iloadN X4 hx (hb hby d6_11) rfl ?_
  obtain ⟨cl5, Ar5, q5, S5, N5z, H5, G5⟩ := (id ((pr0.other W2 pr2).other W4 pr2))
  have hi5 := inb_of (j := (2 : Int32)) S5 ⟨by decide, by decide⟩
  have ha5 := Has.at (v := (.int c2_)) H5 hi5 rfl
  refine ogo (S' := T4.setTop (mkF m 13 #[.val (.ref ca_), .val (.int (2 : Int32)), .val (.ref ba_), .val (.int (2 : Int32)), .val (.int (3 : Int32)), .val (.int (2 : Int32)), .val (.int c1_)] [(.int c2_)])) (X4.caload hx (j := (2 : Int32)) (v := (.int c2_)) Ar5.1 (State.isArrayOf_alike hZ.alike Ar5.2.1) Ar5.2.2 hi5 ha5 (g := (mkF m 12 #[.val (.ref ca_), .val (.int (2 : Int32)), .val (.ref ba_), .val (.int (2 : Int32)), .val (.int (3 : Int32)), .val (.int (2 : Int32)), .val (.int c1_)] [(.int (2 : Int32)), (.ref ca_)])) rfl rfl (hb hby d6_12)) ?_
  refine o_istore X4 hx (l' := #[.val (.ref ca_), .val (.int (2 : Int32)), .val (.ref ba_), .val (.int (2 : Int32)), .val (.int (3 : Int32)), .val (.int (2 : Int32)), .val (.int c2_)]) (hb hby d6_13) rfl ?_
  refine o_iload X4 hx (hb hby d6_15) rfl ?_
  refine o_sipush X4 hx (255 : Int32) (hb hby d6_17) rfl ?_
  refine o_icmpYes X4 hx 26 (hb hby d6_20) (flt pr6).2.2.2 (by decide) (by decide) ?_
  refine o_aloadN X4 hx (hb hby d6_26) rfl rfl ?_
  refine o_iloadN X4 hx (hb hby d6_27) rfl ?_
  refine o_iload X4 hx (hb hby d6_28) rfl ?_
  refine o_i2b X4 hx (hb hby d6_30) ?_
  obtain ⟨cl6, Ar6, q6, S6, N6z, H6, G6⟩ := (id V4)
  obtain ⟨T6, _, X6, rfl, W6, st6⟩ := stB X4 hx hZ rfl Ar6 (j := (2 : Int32)) (inb_of S6 ⟨by decide, by decide⟩) (g := (mkF m 31 #[.val (.ref ca_), .val (.int (2 : Int32)), .val (.ref ba_), .val (.int (2 : Int32)), .val (.int (3 : Int32)), .val (.int (2 : Int32)), .val (.int c2_)] [(.int c2_.toInt8.toInt32), (.int (2 : Int32)), (.ref ba_)])) rfl rfl (hb hby d6_31)
  rw [own_narb] at W6
  have V6 : Arv Z T6.heap ba_ kb_ .byte (3 : Int32) [(.int c0_.toInt8.toInt32), (.int c1_.toInt8.toInt32), (.int c2_.toInt8.toInt32)] (.int 0) := Arv.set Ar6 q6 S6 N6z H6 G6 (fits_nar_byte _) W6 2 rfl (Nat.le_of_ble_eq_true rfl)
  have N6 := Fr.snoc X6 N4 pr3
  refine ogo (S' := T6.setTop (mkF m 32 #[.val (.ref ca_), .val (.int (2 : Int32)), .val (.ref ba_), .val (.int (2 : Int32)), .val (.int (3 : Int32)), .val (.int (2 : Int32)), .val (.int c2_)] [])) st6 ?_
  refine o_iinc X6 hx (l' := #[.val (.ref ca_), .val (.int (3 : Int32)), .val (.ref ba_), .val (.int (2 : Int32)), .val (.int (3 : Int32)), .val (.int (2 : Int32)), .val (.int c2_)]) (hb hby d6_32) rfl rfl ?_
  refine o_iinc X6 hx (l' := #[.val (.ref ca_), .val (.int (3 : Int32)), .val (.ref ba_), .val (.int (3 : Int32)), .val (.int (3 : Int32)), .val (.int (2 : Int32)), .val (.int c2_)]) (hb hby d6_35) rfl rfl ?_
  refine o_iinc X6 hx (l' := #[.val (.ref ca_), .val (.int (3 : Int32)), .val (.ref ba_), .val (.int (3 : Int32)), .val (.int (3 : Int32)), .val (.int (3 : Int32)), .val (.int c2_)]) (hb hby d6_38) rfl rfl ?_
  refine o_goto X6 hx 3 (hb hby d6_41) (by decide) (by decide) ?_
  refine o_iload X6 hx (hb hby d6_3) rfl ?_
  refine o_iload X6 hx (hb hby d6_5) rfl ?_
  refine o_icmpYes X6 hx 44 (hb hby d6_7) (flt (by decide : ¬ ((3 : Int32) < (3 : Int32)))).2.1 (by decide) (by decide) ?_
  refine o_iload X6 hx (hb hby d6_44) rfl ?_
  refine oend X6 hlk (v := some (.int (3 : Int32))) (fun h => by rw [hret] at h; cases h) (fun fs hr => retOut X6 hx (t := .int) (i := .ireturn) hret rfl (Or.inl ⟨rfl, Or.inl rfl, _, rfl⟩) (hb hby d6_46) hr) (by decide) (by decide) ?_
  show own_Q_cmp5_3 Z _ _ _ _ _ _ _ h0 n0 _ T6.heap _
  exact ⟨rfl, N6, ((((Keep.refl h0 [ba_]).wr W2 (Or.inl (List.mem_of_getElem? (i := 0) rfl))).wr W4 (Or.inl (List.mem_of_getElem? (i := 0) rfl))).wr W6 (Or.inl (List.mem_of_getElem? (i := 0) rfl))), V6⟩
def own_Q_cmp3_3 (Z : State)  (ca_ : Addr) (kc_ : ClassId) (c0_ : Int32) (c1_ : Int32) (c2_ : Int32) (h0 : Heap) (n0 : Nat) (v : Option Value) (h : Heap) (L : List Loc) : Prop := ∃ ba_ : Addr, ∃ kb_ : ClassId, (v = some (.ref ba_)) ∧ (Fr n0 L) ∧ (Keep h0 h []) ∧ (h0.size ≤ ba_) ∧ (Arv Z h ba_ kb_ .byte (3 : Int32) [(.int c0_.toInt8.toInt32), (.int c1_.toInt8.toInt32), (.int c2_.toInt8.toInt32)] (.int 0))
set_option maxRecDepth 65536 in
set_option maxHeartbeats 40000000 in
theorem rm_cmp3_3 (l : Launch) (Z : State) (a0 : Array Value) (hw : ∀ d ∈ tables_1, d.before a0 Z = true) (ws : List Jvm.Cond)  (ca_ : Addr) (kc_ : ClassId) (c0_ : Int32) (c1_ : Int32) (c2_ : Int32) (h0 : Heap) (n0 : Nat) (O0 : Old Z n0 h0) (pr0 : Arv Z h0 ca_ kc_ .char (3 : Int32) [(.int c0_), (.int c1_), (.int c2_)] (.int 0)) (pr1 : ¬ ((255 : Int32) < c0_)) (pr2 : ¬ ((255 : Int32) < c1_)) (pr3 : ¬ ((255 : Int32) < c2_)) :
    oMet l Z yM6 jdk_52_method_16_code 6 (some (.array .byte)) ws ({ frames := 1, cells := 1, slots := 3, locals := 18 } : Room) 1 3 #[(.ref ca_), (.int (0 : Int32)), (.int (3 : Int32))] h0 (own_Q_cmp3_3 Z  ca_ kc_ c0_ c1_ c2_ h0 n0) := by
  refine oenter own_pn3 #[.val (.ref ca_), .val (.int (0 : Int32)), .val (.int (3 : Int32)), .unset, .unset, .unset] (fun m => by first | (simp [entryFrame, mkF, argsToLocals, Value.category]; done) | rfl) ?_
  intro p e s m below meth c s₁ X0 hx hZ hby hml hret hown0 hnm hlk e0
  have hown : s.vm.findClass "java/lang/StringUTF16" = some m.cls := hown0
  have N0 := Fr.nil n0
  have w28 := hw _ (List.mem_of_getElem? (i := 28) rfl)
  have w30 := hw _ (List.mem_of_getElem? (i := 30) rfl)
  have w31 := hw _ (List.mem_of_getElem? (i := 31) rfl)
  have w32 := hw _ (List.mem_of_getElem? (i := 32) rfl)
  have w33 := hw _ (List.mem_of_getElem? (i := 33) rfl)
  refine o_iloadN X0 hx (hb hby d7_0) rfl ?_
  obtain ⟨T1, _, k1, X1, rfl, E1, A1, Ex1, st1⟩ := newPE (aty := .byte) X0 hx hZ w30 e0 (g := (mkF m 1 #[.val (.ref ca_), .val (.int (0 : Int32)), .val (.int (3 : Int32)), .unset, .unset, .unset] [(.int (3 : Int32))])) rfl (hb hby d7_1) rfl (by decide) (cap := 3) (by decide) (by decide) (by decide) (by decide) (ad := "[B") rfl
  obtain ⟨b1, g1⟩ : ∃ z, z = h0.size := ⟨_, rfl⟩
  rw [← g1] at A1 Ex1 st1
  have n0_b1 : n0 ≤ b1 := Nat.le_trans (Nat.le_trans (Nat.le_of_eq O0.1.symm) O0.2.1) (Nat.le_trans (Nat.le_refl _) (Nat.le_of_eq g1.symm))
  have V1 : Arv Z T1.heap b1 k1 .byte (3 : Int32) [(.int 0), (.int 0), (.int 0)] (.int 0) := (Arv.new A1 (by decide)).pad (pad_rep [] (.int 0) 3)
  refine ogo (S' := T1.setTop (mkF m 3 #[.val (.ref ca_), .val (.int (0 : Int32)), .val (.int (3 : Int32)), .unset, .unset, .unset] [(.ref b1)])) st1 ?_
  refine o_astoreN X1 hx (l' := #[.val (.ref ca_), .val (.int (0 : Int32)), .val (.int (3 : Int32)), .val (.ref b1), .unset, .unset]) (hb hby d7_3) rfl rfl ?_
  refine o_aloadN X1 hx (hb hby d7_4) rfl rfl ?_
  refine o_iloadN X1 hx (hb hby d7_5) rfl ?_
  refine o_aloadN X1 hx (hb hby d7_6) rfl rfl ?_
  refine o_iconst X1 hx (0 : Int32) (hb hby d7_7) rfl ?_
  refine o_iloadN X1 hx (hb hby d7_8) rfl ?_
  obtain ⟨_, _, ⟨T2, L2, kc2, n2⟩, -, X2, ⟨Lc2, hQ2, l2, y2, z2⟩, st2⟩ := Jvm.LawKit.callS X1 hx (y := yM5) hown (mvT hZ w31) (mvT hZ w32) (mvT hZ w28) (mvT hZ w33) (by decide) (backOf (W := 0) (rm_cmp5_3 l Z a0 hw []  ca_ kc_ b1 k1 c0_ c1_ c2_ T1.heap n0 (O0.ext E1) (pr0.ext E1) V1 (Nat.ne_of_lt (Nat.lt_of_lt_of_le (Nat.lt_of_lt_of_le pr0.lt (Nat.le_refl _)) (Nat.le_of_eq g1.symm))) n0_b1 pr1 pr2 pr3) hZ w33 w28 (by decide) (by decide)) (g := (mkF m 9 #[.val (.ref ca_), .val (.int (0 : Int32)), .val (.int (3 : Int32)), .val (.ref b1), .unset, .unset] [(.int (3 : Int32)), (.int (0 : Int32)), (.ref b1), (.int (0 : Int32)), (.ref ca_)])) rfl (by rw [hml]; rfl) (argsL := [(.ref ca_), (.int (0 : Int32)), (.ref b1), (.int (0 : Int32)), (.int (3 : Int32))]) (rest := []) (lenOf own_pd3 rfl) rfl (by show 2 * 0 + _ ≤ _; exact Nat.le_of_eq rfl) (hb hby d7_9) (fun _ _ => ⟨rfl, rfl, (by decide : 1 + 0 ≤ _), (by decide : 3 + 0 ≤ _)⟩)
  dsimp only [Pt.U, Pt.locs, Pt.cells, Pt.slots] at X2 l2 y2 z2 st2 hQ2
  subst l2 y2 z2
  obtain ⟨rfl, Nq2, K2, p2_0⟩ := hQ2
  have N2 := Fr.app N0 Nq2
  refine ogo (S' := T2.setTop (mkF m 12 #[.val (.ref ca_), .val (.int (0 : Int32)), .val (.int (3 : Int32)), .val (.ref b1), .unset, .unset] [(.int (3 : Int32))])) st2 ?_
  refine o_istore X2 hx (l' := #[.val (.ref ca_), .val (.int (0 : Int32)), .val (.int (3 : Int32)), .val (.ref b1), .val (.int (3 : Int32)), .unset]) (hb hby d7_12) rfl ?_
  refine o_iload X2 hx (hb hby d7_14) rfl ?_
  refine o_iloadN X2 hx (hb hby d7_16) rfl ?_
  refine o_icmpYes X2 hx 57 (hb hby d7_17) (teq (by decide : (3 : Int32) = (3 : Int32))).1 (by decide) (by decide) ?_
  refine o_aloadN X2 hx (hb hby d7_57) rfl rfl ?_
  refine oend X2 hlk (v := some (.ref b1)) (fun h => by rw [hret] at h; cases h) (fun fs hr => retOut X2 hx (t := (.array .byte)) (i := .areturn) hret rfl (Or.inr (Or.inr (Or.inr (Or.inr ⟨rfl, rfl, rfl⟩)))) (hb hby d7_58) hr) (by decide) (by decide) ?_
  show own_Q_cmp3_3 Z _ _ _ _ _ h0 n0 _ T2.heap _
  exact ⟨b1, k1, rfl, N2, (((Keep.refl h0 []).ext E1).trans K2 (allS (Or.inr (Nat.le_trans (Nat.le_refl _) (Nat.le_of_eq g1.symm))) all0)), (Nat.le_trans (Nat.le_refl _) (Nat.le_of_eq g1.symm)), p2_0⟩
def own_Q_codl_3 (Z : State)  (ba_ : Addr) (kb_ : ClassId) (vs_ : List Value) (h0 : Heap) (n0 : Nat) (v : Option Value) (h : Heap) (L : List Loc) : Prop := (v = some (.int (0 : Int32))) ∧ (Fr n0 L) ∧ (h = h0)
set_option maxRecDepth 65536 in
set_option maxHeartbeats 40000000 in
theorem rm_codl_3 (l : Launch) (Z : State) (a0 : Array Value) (hw : ∀ d ∈ tables_1, d.before a0 Z = true) (ws : List Jvm.Cond)  (ba_ : Addr) (kb_ : ClassId) (vs_ : List Value) (h0 : Heap) (n0 : Nat) (O0 : Old Z n0 h0) (pr0 : Arv Z h0 ba_ kb_ .byte (3 : Int32) vs_ (.int 0)) :
    oMet l Z yM7 jdk_52_method_15_code 2 (some .byte) ws ({ frames := 0, cells := 0, slots := 0, locals := 0 } : Room) 0 0 #[(.ref ba_), (.int (3 : Int32))] h0 (own_Q_codl_3 Z  ba_ kb_ vs_ h0 n0) := by
  refine oenter own_pn3 #[.val (.ref ba_), .val (.int (3 : Int32))] (fun m => by first | (simp [entryFrame, mkF, argsToLocals, Value.category]; done) | rfl) ?_
  intro p e s m below meth c s₁ X0 hx hZ hby hml hret hown0 hnm hlk e0
  have hown : s.vm.findClass "java/lang/StringUTF16" = some m.cls := hown0
  have N0 := Fr.nil n0
  refine o_iloadN X0 hx (hb hby d8_0) rfl ?_
  refine o_aloadN X0 hx (hb hby d8_1) rfl rfl ?_
  obtain ⟨cl1, Ar1, -, S1, N1z, -, -⟩ := (id pr0)
  refine ogo (S' := s₁.setTop (mkF m 3 #[.val (.ref ba_), .val (.int (3 : Int32))] [(.int (3 : Int32)), (.int (3 : Int32))])) (fun _ kt_ => X0.arraylength hx (by rw [e0]; exact Ar1.1) (State.isArrayOf_alike hZ.alike Ar1.2.1) (g := (mkF m 2 #[.val (.ref ba_), .val (.int (3 : Int32))] [(.ref ba_), (.int (3 : Int32))])) rfl rfl (hb hby d8_2) _ (by rw [len_of S1 N1z]; exact kt_)) ?_
  refine o_isub X0 hx (hb hby d8_3) ?_
  refine o_bipush X0 hx (31 : Int32) (hb hby d8_4) rfl ?_
  refine o_iushr X0 hx (hb hby d8_6) ?_
  refine o_i2b X0 hx (hb hby d8_7) ?_
  refine oend X0 hlk (v := some (.int (0 : Int32))) (fun h => by rw [hret] at h; cases h) (fun fs hr => retN X0 hx (t := .byte) hret (by simp) (hb hby d8_8) hr) (by decide) (by decide) ?_
  show own_Q_codl_3 Z _ _ _ h0 n0 _ s₁.heap _
  rw [e0]
  exact ⟨rfl, N0, rfl⟩
def own_Q_new4_3 (Z : State) (s_CHARACTERS : Addr) (s_BYTES : Addr) (s_CHARACTERS_BUT_TRAILING_SPACES : Addr) (z_CS : Int32) (v_FMT : Value) (x_ : Addr) (ca_ : Addr) (kc_ : ClassId) (c0_ : Int32) (c1_ : Int32) (c2_ : Int32) (h0 : Heap) (n0 : Nat) (v : Option Value) (h : Heap) (L : List Loc) : Prop := ∃ ba_ : Addr, ∃ kb_ : ClassId, (v = none) ∧ (Fr n0 L) ∧ (Keep h0 h [x_]) ∧ (h0.size ≤ ba_) ∧ (Arv Z h ba_ kb_ .byte (3 : Int32) [(.int c0_.toInt8.toInt32), (.int c1_.toInt8.toInt32), (.int c2_.toInt8.toInt32)] (.int 0)) ∧ (Exa Z h x_ "java/lang/String") ∧ (Fld Z h x_ "java/lang/String" "value" "[B" (.ref ba_)) ∧ (Fld Z h x_ "java/lang/String" "coder" "B" (.int (0 : Int32)))
set_option maxRecDepth 65536 in
set_option maxHeartbeats 40000000 in
theorem rm_new4_3 (l : Launch) (Z : State) (a0 : Array Value) (hw : ∀ d ∈ tables_1, d.before a0 Z = true) (ws : List Jvm.Cond) (s_CHARACTERS : Addr) (s_BYTES : Addr) (s_CHARACTERS_BUT_TRAILING_SPACES : Addr) (z_CS : Int32) (v_FMT : Value) (x_ : Addr) (ca_ : Addr) (kc_ : ClassId) (c0_ : Int32) (c1_ : Int32) (c2_ : Int32) (h0 : Heap) (n0 : Nat) (SB : own_Start Z s_CHARACTERS s_BYTES s_CHARACTERS_BUT_TRAILING_SPACES z_CS v_FMT) (O0 : Old Z n0 h0) (pr0 : Exa Z h0 x_ "java/lang/String") (pr1 : Fld Z h0 x_ "java/lang/String" "value" "[B" .null) (pr2 : Fld Z h0 x_ "java/lang/String" "coder" "B" (.int (0 : Int32))) (pr3 : Arv Z h0 ca_ kc_ .char (3 : Int32) [(.int c0_), (.int c1_), (.int c2_)] (.int 0)) (pr4 : n0 ≤ x_) (pr5 : ¬ ((255 : Int32) < c0_)) (pr6 : ¬ ((255 : Int32) < c1_)) (pr7 : ¬ ((255 : Int32) < c2_)) :
    oMet l Z yM8 jdk_42_method_149_code 6 none ws ({ frames := 2, cells := 1, slots := 3, locals := 35 } : Room) 1 3 #[(.ref x_), (.ref ca_), (.int (0 : Int32)), (.int (3 : Int32)), .null] h0 (own_Q_new4_3 Z s_CHARACTERS s_BYTES s_CHARACTERS_BUT_TRAILING_SPACES z_CS v_FMT x_ ca_ kc_ c0_ c1_ c2_ h0 n0) := by
  refine oenter own_pn2 #[.val (.ref x_), .val (.ref ca_), .val (.int (0 : Int32)), .val (.int (3 : Int32)), .val .null, .unset] (fun m => by first | (simp [entryFrame, mkF, argsToLocals, Value.category]; done) | rfl) ?_
  intro p e s m below meth c s₁ X0 hx hZ hby hml hret hown0 hnm hlk e0
  have hown : s.vm.findClass "java/lang/String" = some m.cls := hown0
  have N0 := Fr.nil n0
  obtain ⟨S_s_CHARACTERS, E_s_CHARACTERS, S_s_BYTES, E_s_BYTES, S_s_CHARACTERS_BUT_TRAILING_SPACES, E_s_CHARACTERS_BUT_TRAILING_SPACES, F_s_CHARACTERS_ordinal, F_s_BYTES_ordinal, F_s_CHARACTERS_BUT_TRAILING_SPACES_ordinal, S_CS, H_CS, S_FMT, R_FMT⟩ := (id SB)
  have w13 := hw _ (List.mem_of_getElem? (i := 13) rfl)
  have w22 := hw _ (List.mem_of_getElem? (i := 22) rfl)
  have w23 := hw _ (List.mem_of_getElem? (i := 23) rfl)
  have w24 := hw _ (List.mem_of_getElem? (i := 24) rfl)
  have w25 := hw _ (List.mem_of_getElem? (i := 25) rfl)
  have w26 := hw _ (List.mem_of_getElem? (i := 26) rfl)
  have w27 := hw _ (List.mem_of_getElem? (i := 27) rfl)
  have w28 := hw _ (List.mem_of_getElem? (i := 28) rfl)
  have w29 := hw _ (List.mem_of_getElem? (i := 29) rfl)
  have w34 := hw _ (List.mem_of_getElem? (i := 34) rfl)
  have w35 := hw _ (List.mem_of_getElem? (i := 35) rfl)
  have w36 := hw _ (List.mem_of_getElem? (i := 36) rfl)
  have w37 := hw _ (List.mem_of_getElem? (i := 37) rfl)
  have w38 := hw _ (List.mem_of_getElem? (i := 38) rfl)
  have w39 := hw _ (List.mem_of_getElem? (i := 39) rfl)
  have w40 := hw _ (List.mem_of_getElem? (i := 40) rfl)
  refine o_aloadN X0 hx (hb hby d9_0) rfl rfl ?_
  obtain ⟨T1, X1, e1, st1⟩ := initO X0 hx hZ hown w22 w23 w24 e0 (g := (mkF m 1 #[.val (.ref x_), .val (.ref ca_), .val (.int (0 : Int32)), .val (.int (3 : Int32)), .val .null, .unset] [(.ref x_)])) rfl (by rw [hml]; rfl) rfl (hb hby d9_1) (by decide) (W := 0) (by show 2 * 0 + _ ≤ _; exact Nat.le_of_eq rfl) (by decide)
  refine ogo (S' := T1.setTop (mkF m 4 #[.val (.ref x_), .val (.ref ca_), .val (.int (0 : Int32)), .val (.int (3 : Int32)), .val .null, .unset] [])) st1 ?_
  refine o_iloadN X1 hx (hb hby d9_4) rfl ?_
  refine o_ifYes X1 hx 27 (hb hby d9_5) (feq (by decide : ¬ ((3 : Int32) = (0 : Int32)))).2 (by decide) (by decide) ?_
  obtain ⟨T2, X2, e2, st2⟩ := getS2 X1 hx hZ hown (host := "") (Or.inl w25) Via.refl e1 (Sta.ext O0.2 S_CS) (g := (mkF m 27 #[.val (.ref x_), .val (.ref ca_), .val (.int (0 : Int32)), .val (.int (3 : Int32)), .val .null, .unset] [])) rfl (hb hby d9_27)
  refine ogo (S' := T2.setTop (mkF m 30 #[.val (.ref x_), .val (.ref ca_), .val (.int (0 : Int32)), .val (.int (3 : Int32)), .val .null, .unset] [(.int z_CS)])) st2 ?_
  refine o_ifNo X2 hx (hb hby d9_30) (feq H_CS).1 ?_
  refine o_aloadN X2 hx (hb hby d9_33) rfl rfl ?_
  refine o_iloadN X2 hx (hb hby d9_34) rfl ?_
  refine o_iloadN X2 hx (hb hby d9_35) rfl ?_
  obtain ⟨_, _, ⟨T3, L3, kc3, n3⟩, -, X3, ⟨Lc3, hQ3, l3, y3, z3⟩, st3⟩ := Jvm.LawKit.callS X2 hx (y := yM6) hown (mvT hZ w26) (mvT hZ w27) (mvT hZ w28) (mvT hZ w29) (by decide) (backOf (W := 0) (rm_cmp3_3 l Z a0 hw []  ca_ kc_ c0_ c1_ c2_ h0 n0 O0 pr3 pr5 pr6 pr7) hZ w29 w28 (by decide) (by decide)) (g := (mkF m 36 #[.val (.ref x_), .val (.ref ca_), .val (.int (0 : Int32)), .val (.int (3 : Int32)), .val .null, .unset] [(.int (3 : Int32)), (.int (0 : Int32)), (.ref ca_)])) rfl (by rw [hml]; rfl) (argsL := [(.ref ca_), (.int (0 : Int32)), (.int (3 : Int32))]) (rest := []) (lenOf own_pd4 rfl) rfl (by show 2 * 0 + _ ≤ _; exact Nat.le_of_eq rfl) (hb hby d9_36) (fun _ _ => ⟨rfl, e2, (by decide : 0 + 1 ≤ _), (by decide : 0 + 3 ≤ _)⟩)
  dsimp only [Pt.U, Pt.locs, Pt.cells, Pt.slots] at X3 l3 y3 z3 st3 hQ3
  subst l3 y3 z3
  obtain ⟨ba_3, kb_3, rfl, Nq3, K3, p3_0, p3_1⟩ := hQ3
  have N3 := Fr.app N0 Nq3
  have n0_ba_3 : n0 ≤ ba_3 := Nat.le_trans (Nat.le_trans (Nat.le_of_eq O0.1.symm) O0.2.1) (Nat.le_trans (Nat.le_refl _) p3_0)
  refine ogo (S' := T3.setTop (mkF m 39 #[.val (.ref x_), .val (.ref ca_), .val (.int (0 : Int32)), .val (.int (3 : Int32)), .val .null, .unset] [(.ref ba_3)])) st3 ?_
  refine o_astore X3 hx (l' := #[.val (.ref x_), .val (.ref ca_), .val (.int (0 : Int32)), .val (.int (3 : Int32)), .val .null, .val (.ref ba_3)]) (hb hby d9_39) rfl rfl ?_
  refine o_aloadN X3 hx (hb hby d9_41) rfl rfl ?_
  refine o_aload X3 hx (hb hby d9_42) rfl rfl ?_
  refine o_iloadN X3 hx (hb hby d9_44) rfl ?_
  obtain ⟨_, _, ⟨T4, L4, kc4, n4⟩, -, X4, ⟨Lc4, hQ4, l4, y4, z4⟩, st4⟩ := Jvm.LawKit.callS X3 hx (y := yM7) hown (mvT hZ w34) (mvT hZ w35) (mvT hZ w28) (mvT hZ w36) (by decide) (backOf (W := 1) (rm_codl_3 l Z a0 hw []  ba_3 kb_3 [(.int c0_.toInt8.toInt32), (.int c1_.toInt8.toInt32), (.int c2_.toInt8.toInt32)] T3.heap n0 (O0.keep K3 all0) p3_1) hZ w36 w28 (by decide) (by decide)) (g := (mkF m 45 #[.val (.ref x_), .val (.ref ca_), .val (.int (0 : Int32)), .val (.int (3 : Int32)), .val .null, .val (.ref ba_3)] [(.int (3 : Int32)), (.ref ba_3), (.ref x_)])) rfl (by rw [hml]; rfl) (argsL := [(.ref ba_3), (.int (3 : Int32))]) (rest := [(.ref x_)]) (lenOf own_pd5 rfl) rfl (by show 2 * 0 + _ ≤ _; exact Nat.le_of_eq rfl) (hb hby d9_45) (fun _ _ => ⟨rfl, rfl, (by decide : 1 + 0 ≤ _), (by decide : 3 + 0 ≤ _)⟩)
  dsimp only [Pt.U, Pt.locs, Pt.cells, Pt.slots] at X4 l4 y4 z4 st4 hQ4
  subst l4 y4 z4
  obtain ⟨rfl, Nq4, e4⟩ := hQ4
  have N4 := Fr.app N3 Nq4
  refine ogo (S' := T4.setTop (mkF m 48 #[.val (.ref x_), .val (.ref ca_), .val (.int (0 : Int32)), .val (.int (3 : Int32)), .val .null, .val (.ref ba_3)] [(.int (0 : Int32)), (.ref x_)])) st4 ?_
  obtain ⟨T5, _, X5, rfl, W5, st5⟩ := putFN X4 hx hZ hown w37 Via.refl e4 (pr2.keep K3 nin0) (pr0.keep K3) (Or.inr ⟨w38, rfl, hnm⟩) w13 (ty := .byte) (v' := (.int (0 : Int32))) (by decide) rfl (by decide) (g := (mkF m 48 #[.val (.ref x_), .val (.ref ca_), .val (.int (0 : Int32)), .val (.int (3 : Int32)), .val .null, .val (.ref ba_3)] [(.int (0 : Int32)), (.ref x_)])) rfl rfl (hb hby d9_48)
  have N5 := Fr.snoc X5 N4 pr4
  have F5 := Fld.same W5 (pr2.keep K3 nin0)
  refine ogo (S' := T5.setTop (mkF m 51 #[.val (.ref x_), .val (.ref ca_), .val (.int (0 : Int32)), .val (.int (3 : Int32)), .val .null, .val (.ref ba_3)] [])) st5 ?_
  refine o_aloadN X5 hx (hb hby d9_51) rfl rfl ?_
  refine o_aload X5 hx (hb hby d9_52) rfl rfl ?_
  have c7 := (Fld.other W5 (pr1.keep K3 nin0) (Or.inr (slot_ne (Or.inr w40) (Or.inr w38) (by decide) (t := (.array .byte)) (t' := .byte) (by decide) (by decide))))
  obtain ⟨T6, _, X6, rfl, W6, st6⟩ := putF X5 hx hZ hown (host := "") (Or.inl w39) Via.refl rfl c7 (Exa.wr W5 (pr0.keep K3)) (Or.inr ⟨w40, rfl, hnm⟩) w13 (ty := (.array .byte)) (by decide) rfl rfl (g := (mkF m 54 #[.val (.ref x_), .val (.ref ca_), .val (.int (0 : Int32)), .val (.int (3 : Int32)), .val .null, .val (.ref ba_3)] [(.ref ba_3), (.ref x_)])) rfl rfl (hb hby d9_54)
  have N6 := Fr.snoc X6 N5 pr4
  have F6 := Fld.same W6 c7
  refine ogo (S' := T6.setTop (mkF m 57 #[.val (.ref x_), .val (.ref ca_), .val (.int (0 : Int32)), .val (.int (3 : Int32)), .val .null, .val (.ref ba_3)] [])) st6 ?_
  have c8 := ((p3_1.other W5 (Nat.ne_of_gt (Nat.lt_of_lt_of_le (Nat.lt_of_lt_of_le pr0.lt (Nat.le_refl _)) p3_0))).other W6 (Nat.ne_of_gt (Nat.lt_of_lt_of_le (Nat.lt_of_lt_of_le pr0.lt (Nat.le_refl _)) p3_0)))
  have c9 := (Fld.other W6 F5 (Or.inr (slot_ne (Or.inr w38) (Or.inr w40) (by decide) (t := .byte) (t' := (.array .byte)) (by decide) (by decide))))
  refine oend X6 hlk (v := none) (fun _ => rfl) (fun fs hr => X6.returnOut hx hret (hb hby d9_57) hr) (by decide) (by decide) ?_
  show own_Q_new4_3 Z _ _ _ _ _ _ _ _ _ _ _ h0 n0 _ T6.heap _
  exact ⟨ba_3, kb_3, rfl, N6, ((((Keep.refl h0 [x_]).trans K3 all0).wr W5 (Or.inl (List.mem_of_getElem? (i := 0) rfl))).wr W6 (Or.inl (List.mem_of_getElem? (i := 0) rfl))), (Nat.le_trans (Nat.le_refl _) p3_0), c8, (Exa.wr W6 (Exa.wr W5 (pr0.keep K3))), F6, c9⟩
def own_Q_new1_3 (Z : State) (s_CHARACTERS : Addr) (s_BYTES : Addr) (s_CHARACTERS_BUT_TRAILING_SPACES : Addr) (z_CS : Int32) (v_FMT : Value) (x_ : Addr) (ca_ : Addr) (kc_ : ClassId) (c0_ : Int32) (c1_ : Int32) (c2_ : Int32) (h0 : Heap) (n0 : Nat) (v : Option Value) (h : Heap) (L : List Loc) : Prop := ∃ ba_ : Addr, ∃ kb_ : ClassId, (v = none) ∧ (Fr n0 L) ∧ (Keep h0 h [x_]) ∧ (h0.size ≤ ba_) ∧ (Arv Z h ba_ kb_ .byte (3 : Int32) [(.int c0_.toInt8.toInt32), (.int c1_.toInt8.toInt32), (.int c2_.toInt8.toInt32)] (.int 0)) ∧ (Exa Z h x_ "java/lang/String") ∧ (Fld Z h x_ "java/lang/String" "value" "[B" (.ref ba_)) ∧ (Fld Z h x_ "java/lang/String" "coder" "B" (.int (0 : Int32)))
set_option maxRecDepth 65536 in
set_option maxHeartbeats 40000000 in
theorem rm_new1_3 (l : Launch) (Z : State) (a0 : Array Value) (hw : ∀ d ∈ tables_1, d.before a0 Z = true) (ws : List Jvm.Cond) (s_CHARACTERS : Addr) (s_BYTES : Addr) (s_CHARACTERS_BUT_TRAILING_SPACES : Addr) (z_CS : Int32) (v_FMT : Value) (x_ : Addr) (ca_ : Addr) (kc_ : ClassId) (c0_ : Int32) (c1_ : Int32) (c2_ : Int32) (h0 : Heap) (n0 : Nat) (SB : own_Start Z s_CHARACTERS s_BYTES s_CHARACTERS_BUT_TRAILING_SPACES z_CS v_FMT) (O0 : Old Z n0 h0) (pr0 : Exa Z h0 x_ "java/lang/String") (pr1 : Fld Z h0 x_ "java/lang/String" "value" "[B" .null) (pr2 : Fld Z h0 x_ "java/lang/String" "coder" "B" (.int (0 : Int32))) (pr3 : Arv Z h0 ca_ kc_ .char (3 : Int32) [(.int c0_), (.int c1_), (.int c2_)] (.int 0)) (pr4 : n0 ≤ x_) (pr5 : ¬ ((255 : Int32) < c0_)) (pr6 : ¬ ((255 : Int32) < c1_)) (pr7 : ¬ ((255 : Int32) < c2_)) :
    oMet l Z yM9 jdk_42_method_3_code 2 none ws ({ frames := 3, cells := 1, slots := 3, locals := 52 } : Room) 1 3 #[(.ref x_), (.ref ca_)] h0 (own_Q_new1_3 Z s_CHARACTERS s_BYTES s_CHARACTERS_BUT_TRAILING_SPACES z_CS v_FMT x_ ca_ kc_ c0_ c1_ c2_ h0 n0) := by
  refine oenter own_pn2 #[.val (.ref x_), .val (.ref ca_)] (fun m => by first | (simp [entryFrame, mkF, argsToLocals, Value.category]; done) | rfl) ?_
  intro p e s m below meth c s₁ X0 hx hZ hby hml hret hown0 hnm hlk e0
  have hown : s.vm.findClass "java/lang/String" = some m.cls := hown0
  have N0 := Fr.nil n0
  obtain ⟨S_s_CHARACTERS, E_s_CHARACTERS, S_s_BYTES, E_s_BYTES, S_s_CHARACTERS_BUT_TRAILING_SPACES, E_s_CHARACTERS_BUT_TRAILING_SPACES, F_s_CHARACTERS_ordinal, F_s_BYTES_ordinal, F_s_CHARACTERS_BUT_TRAILING_SPACES_ordinal, S_CS, H_CS, S_FMT, R_FMT⟩ := (id SB)
  have w14 := hw _ (List.mem_of_getElem? (i := 14) rfl)
  have w18 := hw _ (List.mem_of_getElem? (i := 18) rfl)
  have w19 := hw _ (List.mem_of_getElem? (i := 19) rfl)
  have w21 := hw _ (List.mem_of_getElem? (i := 21) rfl)
  refine o_aloadN X0 hx (hb hby d10_0) rfl rfl ?_
  refine o_aloadN X0 hx (hb hby d10_1) rfl rfl ?_
  refine o_iconst X0 hx (0 : Int32) (hb hby d10_2) rfl ?_
  refine o_aloadN X0 hx (hb hby d10_3) rfl rfl ?_
  obtain ⟨cl1, Ar1, -, S1, N1z, -, -⟩ := (id pr3)
  refine ogo (S' := s₁.setTop (mkF m 5 #[.val (.ref x_), .val (.ref ca_)] [(.int (3 : Int32)), (.int (0 : Int32)), (.ref ca_), (.ref x_)])) (fun _ kt_ => X0.arraylength hx (by rw [e0]; exact Ar1.1) (State.isArrayOf_alike hZ.alike Ar1.2.1) (g := (mkF m 4 #[.val (.ref x_), .val (.ref ca_)] [(.ref ca_), (.int (0 : Int32)), (.ref ca_), (.ref x_)])) rfl rfl (hb hby d10_4) _ (by rw [len_of S1 N1z]; exact kt_)) ?_
  refine o_aconst_null X0 hx (hb hby d10_5) ?_
  obtain ⟨_, _, ⟨T2, L2, kc2, n2⟩, -, X2, ⟨Lc2, hQ2, l2, y2, z2⟩, st2⟩ := X0.specialBack hx (y := yM8) rfl hown (mvT hZ w18) (mvT hZ w19) (mvT hZ w21) (by decide) (backOf (W := 0) (rm_new4_3 l Z a0 hw [] s_CHARACTERS s_BYTES s_CHARACTERS_BUT_TRAILING_SPACES z_CS v_FMT x_ ca_ kc_ c0_ c1_ c2_ h0 n0 SB O0 pr0 pr1 pr2 pr3 pr4 pr5 pr6 pr7) hZ w21 w14 (by decide) (by decide)) (g := (mkF m 6 #[.val (.ref x_), .val (.ref ca_)] [.null, (.int (3 : Int32)), (.int (0 : Int32)), (.ref ca_), (.ref x_)])) rfl (by rw [hml]; rfl) (Steps.refl _) (a := x_) (argsL := [(.ref ca_), (.int (0 : Int32)), (.int (3 : Int32)), .null]) (rest := []) (lenOf own_pd6 rfl) rfl (by show 2 * 0 + _ ≤ _; exact Nat.le_of_eq rfl) (hb hby d10_6) (fun _ _ => ⟨rfl, e0, (by decide : 0 + 1 ≤ _), (by decide : 0 + 3 ≤ _)⟩)
  dsimp only [Pt.U, Pt.locs, Pt.cells, Pt.slots] at X2 l2 y2 z2 st2 hQ2
  subst l2 y2 z2
  obtain ⟨ba_2, kb_2, rfl, Nq2, K2, p2_0, p2_1, p2_2, p2_3, p2_4⟩ := hQ2
  have N2 := Fr.app N0 Nq2
  have n0_ba_2 : n0 ≤ ba_2 := Nat.le_trans (Nat.le_trans (Nat.le_of_eq O0.1.symm) O0.2.1) (Nat.le_trans (Nat.le_refl _) p2_0)
  refine otr (S' := T2.setTop (mkF m 9 #[.val (.ref x_), .val (.ref ca_)] [])) st2 ?_
  refine oend X2 hlk (v := none) (fun _ => rfl) (fun fs hr => X2.returnOut hx hret (hb hby d10_9) hr) (by decide) (by decide) ?_
  show own_Q_new1_3 Z _ _ _ _ _ _ _ _ _ _ _ h0 n0 _ T2.heap _
  exact ⟨ba_2, kb_2, rfl, N2, ((Keep.refl h0 [x_]).trans K2 (allS (Or.inl (List.mem_of_getElem? (i := 0) rfl)) all0)), (Nat.le_trans (Nat.le_refl _) p2_0), p2_1, p2_2, p2_3, p2_4⟩
def own_Q_cmp5_4 (Z : State)  (ca_ : Addr) (kc_ : ClassId) (ba_ : Addr) (kb_ : ClassId) (c0_ : Int32) (c1_ : Int32) (c2_ : Int32) (c3_ : Int32) (h0 : Heap) (n0 : Nat) (v : Option Value) (h : Heap) (L : List Loc) : Prop := (v = some (.int (4 : Int32))) ∧ (Fr n0 L) ∧ (Keep h0 h [ba_]) ∧ (Arv Z h ba_ kb_ .byte (4 : Int32) [(.int c0_.toInt8.toInt32), (.int c1_.toInt8.toInt32), (.int c2_.toInt8.toInt32), (.int c3_.toInt8.toInt32)] (.int 0))
set_option maxRecDepth 65536 in
set_option maxHeartbeats 40000000 in
theorem rm_cmp5_4 (l : Launch) (Z : State) (a0 : Array Value) (hw : ∀ d ∈ tables_1, d.before a0 Z = true) (ws : List Jvm.Cond)  (ca_ : Addr) (kc_ : ClassId) (ba_ : Addr) (kb_ : ClassId) (c0_ : Int32) (c1_ : Int32) (c2_ : Int32) (c3_ : Int32) (h0 : Heap) (n0 : Nat) (O0 : Old Z n0 h0) (pr0 : Arv Z h0 ca_ kc_ .char (4 : Int32) [(.int c0_), (.int c1_), (.int c2_), (.int c3_)] (.int 0)) (pr1 : Arv Z h0 ba_ kb_ .byte (4 : Int32) [(.int 0), (.int 0), (.int 0), (.int 0)] (.int 0)) (pr2 : ca_ ≠ ba_) (pr3 : n0 ≤ ba_) (pr4 : ¬ ((255 : Int32) < c0_)) (pr5 : ¬ ((255 : Int32) < c1_)) (pr6 : ¬ ((255 : Int32) < c2_)) (pr7 : ¬ ((255 : Int32) < c3_)) :
    oMet l Z yM5 jdk_52_method_21_code 7 (some .int) ws ({ frames := 0, cells := 0, slots := 0, locals := 0 } : Room) 0 0 #[(.ref ca_), (.int (0 : Int32)), (.ref ba_), (.int (0 : Int32)), (.int (4 : Int32))] h0 (own_Q_cmp5_4 Z  ca_ kc_ ba_ kb_ c0_ c1_ c2_ c3_ h0 n0) := by
  refine oenter own_pn3 #[.val (.ref ca_), .val (.int (0 : Int32)), .val (.ref ba_), .val (.int (0 : Int32)), .val (.int (4 : Int32)), .unset, .unset] (fun m => by first | (simp [entryFrame, mkF, argsToLocals, Value.category]; done) | rfl) ?_
  intro p e s m below meth c s₁ X0 hx hZ hby hml hret hown0 hnm hlk e0
  have hown : s.vm.findClass "java/lang/StringUTF16" = some m.cls := hown0
  have N0 := Fr.nil n0
  refine o_iconst X0 hx (0 : Int32) (hb hby d6_0) rfl ?_
  refine o_istore X0 hx (l' := #[.val (.ref ca_), .val (.int (0 : Int32)), .val (.ref ba_), .val (.int (0 : Int32)), .val (.int (4 : Int32)), .val (.int (0 : Int32)), .unset]) (hb hby d6_1) rfl ?_
  refine o_iload X0 hx (hb hby d6_3) rfl ?_
  refine o_iload X0 hx (hb hby d6_5) rfl ?_
  refine o_icmpNo X0 hx (hb hby d6_7) (tlt (by decide : (0 : Int32) < (4 : Int32))).2.1 ?_
  refine o_aloadN X0 hx (hb hby d6_10) rfl rfl ?_
  refine o_iloadN X0 hx (hb hby d6_11) rfl ?_
  obtain ⟨cl1, Ar1, q1, S1, N1z, H1, G1⟩ := (id pr0)
  have hi1 := inb_of (j := (0 : Int32)) S1 ⟨by decide, by decide⟩
  have ha1 := Has.at (v := (.int c0_)) H1 hi1 rfl
  refine ogo (S' := s₁.setTop (mkF m 13 #[.val (.ref ca_), .val (.int (0 : Int32)), .val (.ref ba_), .val (.int (0 : Int32)), .val (.int (4 : Int32)), .val (.int (0 : Int32)), .unset] [(.int c0_)])) (X0.caload hx (j := (0 : Int32)) (v := (.int c0_)) (by rw [e0]; exact Ar1.1) (State.isArrayOf_alike hZ.alike Ar1.2.1) Ar1.2.2 hi1 ha1 (g := (mkF m 12 #[.val (.ref ca_), .val (.int (0 : Int32)), .val (.ref ba_), .val (.int (0 : Int32)), .val (.int (4 : Int32)), .val (.int (0 : Int32)), .unset] [(.int (0 : Int32)), (.ref ca_)])) rfl rfl (hb hby d6_12)) ?_
  refine o_istore X0 hx (l' := #[.val (.ref ca_), .val (.int (0 : Int32)), .val (.ref ba_), .val (.int (0 : Int32)), .val (.int (4 : Int32)), .val (.int (0 : Int32)), .val (.int c0_)]) (hb hby d6_13) rfl ?_
  refine o_iload X0 hx (hb hby d6_15) rfl ?_
  refine o_sipush X0 hx (255 : Int32) (hb hby d6_17) rfl ?_
  refine o_icmpYes X0 hx 26 (hb hby d6_20) (flt pr4).2.2.2 (by decide) (by decide) ?_
  refine o_aloadN X0 hx (hb hby d6_26) rfl rfl ?_
  refine o_iloadN X0 hx (hb hby d6_27) rfl ?_
  refine o_iload X0 hx (hb hby d6_28) rfl ?_
  refine o_i2b X0 hx (hb hby d6_30) ?_
  obtain ⟨cl2, Ar2, q2, S2, N2z, H2, G2⟩ := (id pr1)
  obtain ⟨T2, _, X2, rfl, W2, st2⟩ := stB X0 hx hZ e0 Ar2 (j := (0 : Int32)) (inb_of S2 ⟨by decide, by decide⟩) (g := (mkF m 31 #[.val (.ref ca_), .val (.int (0 : Int32)), .val (.ref ba_), .val (.int (0 : Int32)), .val (.int (4 : Int32)), .val (.int (0 : Int32)), .val (.int c0_)] [(.int c0_.toInt8.toInt32), (.int (0 : Int32)), (.ref ba_)])) rfl rfl (hb hby d6_31)
  rw [own_narb] at W2
  have V2 : Arv Z T2.heap ba_ kb_ .byte (4 : Int32) [(.int c0_.toInt8.toInt32), (.int 0), (.int 0), (.int 0)] (.int 0) := Arv.set Ar2 q2 S2 N2z H2 G2 (fits_nar_byte _) W2 0 rfl (Nat.le_of_ble_eq_true rfl)
  have N2 := Fr.snoc X2 N0 pr3
  refine ogo (S' := T2.setTop (mkF m 32 #[.val (.ref ca_), .val (.int (0 : Int32)), .val (.ref ba_), .val (.int (0 : Int32)), .val (.int (4 : Int32)), .val (.int (0 : Int32)), .val (.int c0_)] [])) st2 ?_
  refine o_iinc X2 hx (l' := #[.val (.ref ca_), .val (.int (1 : Int32)), .val (.ref ba_), .val (.int (0 : Int32)), .val (.int (4 : Int32)), .val (.int (0 : Int32)), .val (.int c0_)]) (hb hby d6_32) rfl rfl ?_
  refine o_iinc X2 hx (l' := #[.val (.ref ca_), .val (.int (1 : Int32)), .val (.ref ba_), .val (.int (1 : Int32)), .val (.int (4 : Int32)), .val (.int (0 : Int32)), .val (.int c0_)]) (hb hby d6_35) rfl rfl ?_
  refine o_iinc X2 hx (l' := #[.val (.ref ca_), .val (.int (1 : Int32)), .val (.ref ba_), .val (.int (1 : Int32)), .val (.int (4 : Int32)), .val (.int (1 : Int32)), .val (.int c0_)]) (hb hby d6_38) rfl rfl ?_
  refine o_goto X2 hx 3 (hb hby d6_41) (by decide) (by decide) ?_
  refine o_iload X2 hx (hb hby d6_3) rfl ?_
  refine o_iload X2 hx (hb hby d6_5) rfl ?_
  refine o_icmpNo X2 hx (hb hby d6_7) (tlt (by decide : (1 : Int32) < (4 : Int32))).2.1 ?_
  refine o_aloadN X2 hx (hb hby d6_10) rfl rfl ?_
  refine o_iloadN X2 hx (hb hby d6_11) rfl ?_
  obtain ⟨cl3, Ar3, q3, S3, N3z, H3, G3⟩ := (id (pr0.other W2 pr2))
  have hi3 := inb_of (j := (1 : Int32)) S3 ⟨by decide, by decide⟩
  have ha3 := Has.at (v := (.int c1_)) H3 hi3 rfl
  refine ogo (S' := T2.setTop (mkF m 13 #[.val (.ref ca_), .val (.int (1 : Int32)), .val (.ref ba_), .val (.int (1 : Int32)), .val (.int (4 : Int32)), .val (.int (1 : Int32)), .val (.int c0_)] [(.int c1_)])) (X2.caload hx (j := (1 : Int32)) (v := (.int c1_)) Ar3.1 (State.isArrayOf_alike hZ.alike Ar3.2.1) Ar3.2.2 hi3 ha3 (g := (mkF m 12 #[.val (.ref ca_), .val (.int (1 : Int32)), .val (.ref ba_), .val (.int (1 : Int32)), .val (.int (4 : Int32)), .val (.int (1 : Int32)), .val (.int c0_)] [(.int (1 : Int32)), (.ref ca_)])) rfl rfl (hb hby d6_12)) ?_
  refine o_istore X2 hx (l' := #[.val (.ref ca_), .val (.int (1 : Int32)), .val (.ref ba_), .val (.int (1 : Int32)), .val (.int (4 : Int32)), .val (.int (1 : Int32)), .val (.int c1_)]) (hb hby d6_13) rfl ?_
  refine o_iload X2 hx (hb hby d6_15) rfl ?_
  refine o_sipush X2 hx (255 : Int32) (hb hby d6_17) rfl ?_
  refine o_icmpYes X2 hx 26 (hb hby d6_20) (flt pr5).2.2.2 (by decide) (by decide) ?_
  refine o_aloadN X2 hx (hb hby d6_26) rfl rfl ?_
  refine o_iloadN X2 hx (hb hby d6_27) rfl ?_
  refine o_iload X2 hx (hb hby d6_28) rfl ?_
  refine o_i2b X2 hx (hb hby d6_30) ?_
  obtain ⟨cl4, Ar4, q4, S4, N4z, H4, G4⟩ := (id V2)
  obtain ⟨T4, _, X4, rfl, W4, st4⟩ := stB X2 hx hZ rfl Ar4 (j := (1 : Int32)) (inb_of S4 ⟨by decide, by decide⟩) (g := (mkF m 31 #[.val (.ref ca_), .val (.int (1 : Int32)), .val (.ref ba_), .val (.int (1 : Int32)), .val (.int (4 : Int32)), .val (.int (1 : Int32)), .val (.int c1_)] [(.int c1_.toInt8.toInt32), (.int (1 : Int32)), (.ref ba_)])) rfl rfl (hb hby d6_31)
  rw [own_narb] at W4
  have V4 : Arv Z T4.heap ba_ kb_ .byte (4 : Int32) [(.int c0_.toInt8.toInt32), (.int c1_.toInt8.toInt32), (.int 0), (.int 0)] (.int 0) := Arv.set Ar4 q4 S4 N4z H4 G4 (fits_nar_byte _) W4 1 rfl (Nat.le_of_ble_eq_true rfl)
  have N4 := Fr.snoc X4 N2 pr3
  refine ogo (S' := T4.setTop (mkF m 32 #[.val (.ref ca_), .val (.int (1 : Int32)), .val (.ref ba_), .val (.int (1 : Int32)), .val (.int (4 : Int32)), .val (.int (1 : Int32)), .val (.int c1_)] [])) st4 ?_
  refine o_iinc X4 hx (l' := #[.val (.ref ca_), .val (.int (2 : Int32)), .val (.ref ba_), .val (.int (1 : Int32)), .val (.int (4 : Int32)), .val (.int (1 : Int32)), .val (.int c1_)]) (hb hby d6_32) rfl rfl ?_
  refine o_iinc X4 hx (l' := #[.val (.ref ca_), .val (.int (2 : Int32)), .val (.ref ba_), .val (.int (2 : Int32)), .val (.int (4 : Int32)), .val (.int (1 : Int32)), .val (.int c1_)]) (hb hby d6_35) rfl rfl ?_
  refine o_iinc X4 hx (l' := #[.val (.ref ca_), .val (.int (2 : Int32)), .val (.ref ba_), .val (.int (2 : Int32)), .val (.int (4 : Int32)), .val (.int (2 : Int32)), .val (.int c1_)]) (hb hby d6_38) rfl rfl ?_
  refine o_goto X4 hx 3 (hb hby d6_41) (by decide) (by decide) ?_
  refine o_iload X4 hx (hb hby d6_3) rfl ?_
  refine o_iload X4 hx (hb hby d6_5) rfl ?_
  refine o_icmpNo X4 hx (hb hby d6_7) (tlt (by decide : (2 : Int32) < (4 : Int32))).2.1 ?_
  refine o_aloadN X4 hx (hb hby d6_10) rfl rfl ?_
  refine o_iloadN X4 hx (hb hby d6_11) rfl ?_
  obtain ⟨cl5, Ar5, q5, S5, N5z, H5, G5⟩ := (id ((pr0.other W2 pr2).other W4 pr2))
  have hi5 := inb_of (j := (2 : Int32)) S5 ⟨by decide, by decide⟩
  have ha5 := Has.at (v := (.int c2_)) H5 hi5 rfl
  refine ogo (S' := T4.setTop (mkF m 13 #[.val (.ref ca_), .val (.int (2 : Int32)), .val (.ref ba_), .val (.int (2 : Int32)), .val (.int (4 : Int32)), .val (.int (2 : Int32)), .val (.int c1_)] [(.int c2_)])) (X4.caload hx (j := (2 : Int32)) (v := (.int c2_)) Ar5.1 (State.isArrayOf_alike hZ.alike Ar5.2.1) Ar5.2.2 hi5 ha5 (g := (mkF m 12 #[.val (.ref ca_), .val (.int (2 : Int32)), .val (.ref ba_), .val (.int (2 : Int32)), .val (.int (4 : Int32)), .val (.int (2 : Int32)), .val (.int c1_)] [(.int (2 : Int32)), (.ref ca_)])) rfl rfl (hb hby d6_12)) ?_
  refine o_istore X4 hx (l' := #[.val (.ref ca_), .val (.int (2 : Int32)), .val (.ref ba_), .val (.int (2 : Int32)), .val (.int (4 : Int32)), .val (.int (2 : Int32)), .val (.int c2_)]) (hb hby d6_13) rfl ?_
  refine o_iload X4 hx (hb hby d6_15) rfl ?_
  refine o_sipush X4 hx (255 : Int32) (hb hby d6_17) rfl ?_
  refine o_icmpYes X4 hx 26 (hb hby d6_20) (flt pr6).2.2.2 (by decide) (by decide) ?_
  refine o_aloadN X4 hx (hb hby d6_26) rfl rfl ?_
  refine o_iloadN X4 hx (hb hby d6_27) rfl ?_
  refine o_iload X4 hx (hb hby d6_28) rfl ?_
  refine o_i2b X4 hx (hb hby d6_30) ?_
  obtain ⟨cl6, Ar6, q6, S6, N6z, H6, G6⟩ := (id V4)
  obtain ⟨T6, _, X6, rfl, W6, st6⟩ := stB X4 hx hZ rfl Ar6 (j := (2 : Int32)) (inb_of S6 ⟨by decide, by decide⟩) (g := (mkF m 31 #[.val (.ref ca_), .val (.int (2 : Int32)), .val (.ref ba_), .val (.int (2 : Int32)), .val (.int (4 : Int32)), .val (.int (2 : Int32)), .val (.int c2_)] [(.int c2_.toInt8.toInt32), (.int (2 : Int32)), (.ref ba_)])) rfl rfl (hb hby d6_31)
  rw [own_narb] at W6
  have V6 : Arv Z T6.heap ba_ kb_ .byte (4 : Int32) [(.int c0_.toInt8.toInt32), (.int c1_.toInt8.toInt32), (.int c2_.toInt8.toInt32), (.int 0)] (.int 0) := Arv.set Ar6 q6 S6 N6z H6 G6 (fits_nar_byte _) W6 2 rfl (Nat.le_of_ble_eq_true rfl)
  have N6 := Fr.snoc X6 N4 pr3
  refine ogo (S' := T6.setTop (mkF m 32 #[.val (.ref ca_), .val (.int (2 : Int32)), .val (.ref ba_), .val (.int (2 : Int32)), .val (.int (4 : Int32)), .val (.int (2 : Int32)), .val (.int c2_)] [])) st6 ?_
  refine o_iinc X6 hx (l' := #[.val (.ref ca_), .val (.int (3 : Int32)), .val (.ref ba_), .val (.int (2 : Int32)), .val (.int (4 : Int32)), .val (.int (2 : Int32)), .val (.int c2_)]) (hb hby d6_32) rfl rfl ?_
  refine o_iinc X6 hx (l' := #[.val (.ref ca_), .val (.int (3 : Int32)), .val (.ref ba_), .val (.int (3 : Int32)), .val (.int (4 : Int32)), .val (.int (2 : Int32)), .val (.int c2_)]) (hb hby d6_35) rfl rfl ?_
  refine o_iinc X6 hx (l' := #[.val (.ref ca_), .val (.int (3 : Int32)), .val (.ref ba_), .val (.int (3 : Int32)), .val (.int (4 : Int32)), .val (.int (3 : Int32)), .val (.int c2_)]) (hb hby d6_38) rfl rfl ?_
  refine o_goto X6 hx 3 (hb hby d6_41) (by decide) (by decide) ?_
  refine o_iload X6 hx (hb hby d6_3) rfl ?_
  refine o_iload X6 hx (hb hby d6_5) rfl ?_
  refine o_icmpNo X6 hx (hb hby d6_7) (tlt (by decide : (3 : Int32) < (4 : Int32))).2.1 ?_
  refine o_aloadN X6 hx (hb hby d6_10) rfl rfl ?_
  refine o_iloadN X6 hx (hb hby d6_11) rfl ?_
  obtain ⟨cl7, Ar7, q7, S7, N7z, H7, G7⟩ := (id (((pr0.other W2 pr2).other W4 pr2).other W6 pr2))
  have hi7 := inb_of (j := (3 : Int32)) S7 ⟨by decide, by decide⟩
  have ha7 := Has.at (v := (.int c3_)) H7 hi7 rfl
  refine ogo (S' := T6.setTop (mkF m 13 #[.val (.ref ca_), .val (.int (3 : Int32)), .val (.ref ba_), .val (.int (3 : Int32)), .val (.int (4 : Int32)), .val (.int (3 : Int32)), .val (.int c2_)] [(.int c3_)])) (X6.caload hx (j := (3 : Int32)) (v := (.int c3_)) Ar7.1 (State.isArrayOf_alike hZ.alike Ar7.2.1) Ar7.2.2 hi7 ha7 (g := (mkF m 12 #[.val (.ref ca_), .val (.int (3 : Int32)), .val (.ref ba_), .val (.int (3 : Int32)), .val (.int (4 : Int32)), .val (.int (3 : Int32)), .val (.int c2_)] [(.int (3 : Int32)), (.ref ca_)])) rfl rfl (hb hby d6_12)) ?_
  refine o_istore X6 hx (l' := #[.val (.ref ca_), .val (.int (3 : Int32)), .val (.ref ba_), .val (.int (3 : Int32)), .val (.int (4 : Int32)), .val (.int (3 : Int32)), .val (.int c3_)]) (hb hby d6_13) rfl ?_
  refine o_iload X6 hx (hb hby d6_15) rfl ?_
  refine o_sipush X6 hx (255 : Int32) (hb hby d6_17) rfl ?_
  refine o_icmpYes X6 hx 26 (hb hby d6_20) (flt pr7).2.2.2 (by decide) (by decide) ?_
  refine o_aloadN X6 hx (hb hby d6_26) rfl rfl ?_
  refine o_iloadN X6 hx (hb hby d6_27) rfl ?_
  refine o_iload X6 hx (hb hby d6_28) rfl ?_
  refine o_i2b X6 hx (hb hby d6_30) ?_
  obtain ⟨cl8, Ar8, q8, S8, N8z, H8, G8⟩ := (id V6)
  obtain ⟨T8, _, X8, rfl, W8, st8⟩ := stB X6 hx hZ rfl Ar8 (j := (3 : Int32)) (inb_of S8 ⟨by decide, by decide⟩) (g := (mkF m 31 #[.val (.ref ca_), .val (.int (3 : Int32)), .val (.ref ba_), .val (.int (3 : Int32)), .val (.int (4 : Int32)), .val (.int (3 : Int32)), .val (.int c3_)] [(.int c3_.toInt8.toInt32), (.int (3 : Int32)), (.ref ba_)])) rfl rfl (hb hby d6_31)
  rw [own_narb] at W8
  have V8 : Arv Z T8.heap ba_ kb_ .byte (4 : Int32) [(.int c0_.toInt8.toInt32), (.int c1_.toInt8.toInt32), (.int c2_.toInt8.toInt32), (.int c3_.toInt8.toInt32)] (.int 0) := Arv.set Ar8 q8 S8 N8z H8 G8 (fits_nar_byte _) W8 3 rfl (Nat.le_of_ble_eq_true rfl)
  have N8 := Fr.snoc X8 N6 pr3
  refine ogo (S' := T8.setTop (mkF m 32 #[.val (.ref ca_), .val (.int (3 : Int32)), .val (.ref ba_), .val (.int (3 : Int32)), .val (.int (4 : Int32)), .val (.int (3 : Int32)), .val (.int c3_)] [])) st8 ?_
  refine o_iinc X8 hx (l' := #[.val (.ref ca_), .val (.int (4 : Int32)), .val (.ref ba_), .val (.int (3 : Int32)), .val (.int (4 : Int32)), .val (.int (3 : Int32)), .val (.int c3_)]) (hb hby d6_32) rfl rfl ?_
  refine o_iinc X8 hx (l' := #[.val (.ref ca_), .val (.int (4 : Int32)), .val (.ref ba_), .val (.int (4 : Int32)), .val (.int (4 : Int32)), .val (.int (3 : Int32)), .val (.int c3_)]) (hb hby d6_35) rfl rfl ?_
  refine o_iinc X8 hx (l' := #[.val (.ref ca_), .val (.int (4 : Int32)), .val (.ref ba_), .val (.int (4 : Int32)), .val (.int (4 : Int32)), .val (.int (4 : Int32)), .val (.int c3_)]) (hb hby d6_38) rfl rfl ?_
  refine o_goto X8 hx 3 (hb hby d6_41) (by decide) (by decide) ?_
  refine o_iload X8 hx (hb hby d6_3) rfl ?_
  refine o_iload X8 hx (hb hby d6_5) rfl ?_
  refine o_icmpYes X8 hx 44 (hb hby d6_7) (flt (by decide : ¬ ((4 : Int32) < (4 : Int32)))).2.1 (by decide) (by decide) ?_
  refine o_iload X8 hx (hb hby d6_44) rfl ?_
  refine oend X8 hlk (v := some (.int (4 : Int32))) (fun h => by rw [hret] at h; cases h) (fun fs hr => retOut X8 hx (t := .int) (i := .ireturn) hret rfl (Or.inl ⟨rfl, Or.inl rfl, _, rfl⟩) (hb hby d6_46) hr) (by decide) (by decide) ?_
  show own_Q_cmp5_4 Z _ _ _ _ _ _ _ _ h0 n0 _ T8.heap _
  exact ⟨rfl, N8, (((((Keep.refl h0 [ba_]).wr W2 (Or.inl (List.mem_of_getElem? (i := 0) rfl))).wr W4 (Or.inl (List.mem_of_getElem? (i := 0) rfl))).wr W6 (Or.inl (List.mem_of_getElem? (i := 0) rfl))).wr W8 (Or.inl (List.mem_of_getElem? (i := 0) rfl))), V8⟩
def own_Q_cmp3_4 (Z : State)  (ca_ : Addr) (kc_ : ClassId) (c0_ : Int32) (c1_ : Int32) (c2_ : Int32) (c3_ : Int32) (h0 : Heap) (n0 : Nat) (v : Option Value) (h : Heap) (L : List Loc) : Prop := ∃ ba_ : Addr, ∃ kb_ : ClassId, (v = some (.ref ba_)) ∧ (Fr n0 L) ∧ (Keep h0 h []) ∧ (h0.size ≤ ba_) ∧ (Arv Z h ba_ kb_ .byte (4 : Int32) [(.int c0_.toInt8.toInt32), (.int c1_.toInt8.toInt32), (.int c2_.toInt8.toInt32), (.int c3_.toInt8.toInt32)] (.int 0))
set_option maxRecDepth 65536 in
set_option maxHeartbeats 40000000 in
theorem rm_cmp3_4 (l : Launch) (Z : State) (a0 : Array Value) (hw : ∀ d ∈ tables_1, d.before a0 Z = true) (ws : List Jvm.Cond)  (ca_ : Addr) (kc_ : ClassId) (c0_ : Int32) (c1_ : Int32) (c2_ : Int32) (c3_ : Int32) (h0 : Heap) (n0 : Nat) (O0 : Old Z n0 h0) (pr0 : Arv Z h0 ca_ kc_ .char (4 : Int32) [(.int c0_), (.int c1_), (.int c2_), (.int c3_)] (.int 0)) (pr1 : ¬ ((255 : Int32) < c0_)) (pr2 : ¬ ((255 : Int32) < c1_)) (pr3 : ¬ ((255 : Int32) < c2_)) (pr4 : ¬ ((255 : Int32) < c3_)) :
    oMet l Z yM6 jdk_52_method_16_code 6 (some (.array .byte)) ws ({ frames := 1, cells := 1, slots := 4, locals := 18 } : Room) 1 4 #[(.ref ca_), (.int (0 : Int32)), (.int (4 : Int32))] h0 (own_Q_cmp3_4 Z  ca_ kc_ c0_ c1_ c2_ c3_ h0 n0) := by
  refine oenter own_pn3 #[.val (.ref ca_), .val (.int (0 : Int32)), .val (.int (4 : Int32)), .unset, .unset, .unset] (fun m => by first | (simp [entryFrame, mkF, argsToLocals, Value.category]; done) | rfl) ?_
  intro p e s m below meth c s₁ X0 hx hZ hby hml hret hown0 hnm hlk e0
  have hown : s.vm.findClass "java/lang/StringUTF16" = some m.cls := hown0
  have N0 := Fr.nil n0
  have w28 := hw _ (List.mem_of_getElem? (i := 28) rfl)
  have w30 := hw _ (List.mem_of_getElem? (i := 30) rfl)
  have w31 := hw _ (List.mem_of_getElem? (i := 31) rfl)
  have w32 := hw _ (List.mem_of_getElem? (i := 32) rfl)
  have w33 := hw _ (List.mem_of_getElem? (i := 33) rfl)
  refine o_iloadN X0 hx (hb hby d7_0) rfl ?_
  obtain ⟨T1, _, k1, X1, rfl, E1, A1, Ex1, st1⟩ := newPE (aty := .byte) X0 hx hZ w30 e0 (g := (mkF m 1 #[.val (.ref ca_), .val (.int (0 : Int32)), .val (.int (4 : Int32)), .unset, .unset, .unset] [(.int (4 : Int32))])) rfl (hb hby d7_1) rfl (by decide) (cap := 4) (by decide) (by decide) (by decide) (by decide) (ad := "[B") rfl
  obtain ⟨b1, g1⟩ : ∃ z, z = h0.size := ⟨_, rfl⟩
  rw [← g1] at A1 Ex1 st1
  have n0_b1 : n0 ≤ b1 := Nat.le_trans (Nat.le_trans (Nat.le_of_eq O0.1.symm) O0.2.1) (Nat.le_trans (Nat.le_refl _) (Nat.le_of_eq g1.symm))
  have V1 : Arv Z T1.heap b1 k1 .byte (4 : Int32) [(.int 0), (.int 0), (.int 0), (.int 0)] (.int 0) := (Arv.new A1 (by decide)).pad (pad_rep [] (.int 0) 4)
  refine ogo (S' := T1.setTop (mkF m 3 #[.val (.ref ca_), .val (.int (0 : Int32)), .val (.int (4 : Int32)), .unset, .unset, .unset] [(.ref b1)])) st1 ?_
  refine o_astoreN X1 hx (l' := #[.val (.ref ca_), .val (.int (0 : Int32)), .val (.int (4 : Int32)), .val (.ref b1), .unset, .unset]) (hb hby d7_3) rfl rfl ?_
  refine o_aloadN X1 hx (hb hby d7_4) rfl rfl ?_
  refine o_iloadN X1 hx (hb hby d7_5) rfl ?_
  refine o_aloadN X1 hx (hb hby d7_6) rfl rfl ?_
  refine o_iconst X1 hx (0 : Int32) (hb hby d7_7) rfl ?_
  refine o_iloadN X1 hx (hb hby d7_8) rfl ?_
  obtain ⟨_, _, ⟨T2, L2, kc2, n2⟩, -, X2, ⟨Lc2, hQ2, l2, y2, z2⟩, st2⟩ := Jvm.LawKit.callS X1 hx (y := yM5) hown (mvT hZ w31) (mvT hZ w32) (mvT hZ w28) (mvT hZ w33) (by decide) (backOf (W := 0) (rm_cmp5_4 l Z a0 hw []  ca_ kc_ b1 k1 c0_ c1_ c2_ c3_ T1.heap n0 (O0.ext E1) (pr0.ext E1) V1 (Nat.ne_of_lt (Nat.lt_of_lt_of_le (Nat.lt_of_lt_of_le pr0.lt (Nat.le_refl _)) (Nat.le_of_eq g1.symm))) n0_b1 pr1 pr2 pr3 pr4) hZ w33 w28 (by decide) (by decide)) (g := (mkF m 9 #[.val (.ref ca_), .val (.int (0 : Int32)), .val (.int (4 : Int32)), .val (.ref b1), .unset, .unset] [(.int (4 : Int32)), (.int (0 : Int32)), (.ref b1), (.int (0 : Int32)), (.ref ca_)])) rfl (by rw [hml]; rfl) (argsL := [(.ref ca_), (.int (0 : Int32)), (.ref b1), (.int (0 : Int32)), (.int (4 : Int32))]) (rest := []) (lenOf own_pd3 rfl) rfl (by show 2 * 0 + _ ≤ _; exact Nat.le_of_eq rfl) (hb hby d7_9) (fun _ _ => ⟨rfl, rfl, (by decide : 1 + 0 ≤ _), (by decide : 4 + 0 ≤ _)⟩)
  dsimp only [Pt.U, Pt.locs, Pt.cells, Pt.slots] at X2 l2 y2 z2 st2 hQ2
  subst l2 y2 z2
  obtain ⟨rfl, Nq2, K2, p2_0⟩ := hQ2
  have N2 := Fr.app N0 Nq2
  refine ogo (S' := T2.setTop (mkF m 12 #[.val (.ref ca_), .val (.int (0 : Int32)), .val (.int (4 : Int32)), .val (.ref b1), .unset, .unset] [(.int (4 : Int32))])) st2 ?_
  refine o_istore X2 hx (l' := #[.val (.ref ca_), .val (.int (0 : Int32)), .val (.int (4 : Int32)), .val (.ref b1), .val (.int (4 : Int32)), .unset]) (hb hby d7_12) rfl ?_
  refine o_iload X2 hx (hb hby d7_14) rfl ?_
  refine o_iloadN X2 hx (hb hby d7_16) rfl ?_
  refine o_icmpYes X2 hx 57 (hb hby d7_17) (teq (by decide : (4 : Int32) = (4 : Int32))).1 (by decide) (by decide) ?_
  refine o_aloadN X2 hx (hb hby d7_57) rfl rfl ?_
  refine oend X2 hlk (v := some (.ref b1)) (fun h => by rw [hret] at h; cases h) (fun fs hr => retOut X2 hx (t := (.array .byte)) (i := .areturn) hret rfl (Or.inr (Or.inr (Or.inr (Or.inr ⟨rfl, rfl, rfl⟩)))) (hb hby d7_58) hr) (by decide) (by decide) ?_
  show own_Q_cmp3_4 Z _ _ _ _ _ _ h0 n0 _ T2.heap _
  exact ⟨b1, k1, rfl, N2, (((Keep.refl h0 []).ext E1).trans K2 (allS (Or.inr (Nat.le_trans (Nat.le_refl _) (Nat.le_of_eq g1.symm))) all0)), (Nat.le_trans (Nat.le_refl _) (Nat.le_of_eq g1.symm)), p2_0⟩
def own_Q_codl_4 (Z : State)  (ba_ : Addr) (kb_ : ClassId) (vs_ : List Value) (h0 : Heap) (n0 : Nat) (v : Option Value) (h : Heap) (L : List Loc) : Prop := (v = some (.int (0 : Int32))) ∧ (Fr n0 L) ∧ (h = h0)
set_option maxRecDepth 65536 in
set_option maxHeartbeats 40000000 in
theorem rm_codl_4 (l : Launch) (Z : State) (a0 : Array Value) (hw : ∀ d ∈ tables_1, d.before a0 Z = true) (ws : List Jvm.Cond)  (ba_ : Addr) (kb_ : ClassId) (vs_ : List Value) (h0 : Heap) (n0 : Nat) (O0 : Old Z n0 h0) (pr0 : Arv Z h0 ba_ kb_ .byte (4 : Int32) vs_ (.int 0)) :
    oMet l Z yM7 jdk_52_method_15_code 2 (some .byte) ws ({ frames := 0, cells := 0, slots := 0, locals := 0 } : Room) 0 0 #[(.ref ba_), (.int (4 : Int32))] h0 (own_Q_codl_4 Z  ba_ kb_ vs_ h0 n0) := by
  refine oenter own_pn3 #[.val (.ref ba_), .val (.int (4 : Int32))] (fun m => by first | (simp [entryFrame, mkF, argsToLocals, Value.category]; done) | rfl) ?_
  intro p e s m below meth c s₁ X0 hx hZ hby hml hret hown0 hnm hlk e0
  have hown : s.vm.findClass "java/lang/StringUTF16" = some m.cls := hown0
  have N0 := Fr.nil n0
  refine o_iloadN X0 hx (hb hby d8_0) rfl ?_
  refine o_aloadN X0 hx (hb hby d8_1) rfl rfl ?_
  obtain ⟨cl1, Ar1, -, S1, N1z, -, -⟩ := (id pr0)
  refine ogo (S' := s₁.setTop (mkF m 3 #[.val (.ref ba_), .val (.int (4 : Int32))] [(.int (4 : Int32)), (.int (4 : Int32))])) (fun _ kt_ => X0.arraylength hx (by rw [e0]; exact Ar1.1) (State.isArrayOf_alike hZ.alike Ar1.2.1) (g := (mkF m 2 #[.val (.ref ba_), .val (.int (4 : Int32))] [(.ref ba_), (.int (4 : Int32))])) rfl rfl (hb hby d8_2) _ (by rw [len_of S1 N1z]; exact kt_)) ?_
  refine o_isub X0 hx (hb hby d8_3) ?_
  refine o_bipush X0 hx (31 : Int32) (hb hby d8_4) rfl ?_
  refine o_iushr X0 hx (hb hby d8_6) ?_
  refine o_i2b X0 hx (hb hby d8_7) ?_
  refine oend X0 hlk (v := some (.int (0 : Int32))) (fun h => by rw [hret] at h; cases h) (fun fs hr => retN X0 hx (t := .byte) hret (by simp) (hb hby d8_8) hr) (by decide) (by decide) ?_
  show own_Q_codl_4 Z _ _ _ h0 n0 _ s₁.heap _
  rw [e0]
  exact ⟨rfl, N0, rfl⟩
def own_Q_new4_4 (Z : State) (s_CHARACTERS : Addr) (s_BYTES : Addr) (s_CHARACTERS_BUT_TRAILING_SPACES : Addr) (z_CS : Int32) (v_FMT : Value) (x_ : Addr) (ca_ : Addr) (kc_ : ClassId) (c0_ : Int32) (c1_ : Int32) (c2_ : Int32) (c3_ : Int32) (h0 : Heap) (n0 : Nat) (v : Option Value) (h : Heap) (L : List Loc) : Prop := ∃ ba_ : Addr, ∃ kb_ : ClassId, (v = none) ∧ (Fr n0 L) ∧ (Keep h0 h [x_]) ∧ (h0.size ≤ ba_) ∧ (Arv Z h ba_ kb_ .byte (4 : Int32) [(.int c0_.toInt8.toInt32), (.int c1_.toInt8.toInt32), (.int c2_.toInt8.toInt32), (.int c3_.toInt8.toInt32)] (.int 0)) ∧ (Exa Z h x_ "java/lang/String") ∧ (Fld Z h x_ "java/lang/String" "value" "[B" (.ref ba_)) ∧ (Fld Z h x_ "java/lang/String" "coder" "B" (.int (0 : Int32)))
set_option maxRecDepth 65536 in
set_option maxHeartbeats 40000000 in
theorem rm_new4_4 (l : Launch) (Z : State) (a0 : Array Value) (hw : ∀ d ∈ tables_1, d.before a0 Z = true) (ws : List Jvm.Cond) (s_CHARACTERS : Addr) (s_BYTES : Addr) (s_CHARACTERS_BUT_TRAILING_SPACES : Addr) (z_CS : Int32) (v_FMT : Value) (x_ : Addr) (ca_ : Addr) (kc_ : ClassId) (c0_ : Int32) (c1_ : Int32) (c2_ : Int32) (c3_ : Int32) (h0 : Heap) (n0 : Nat) (SB : own_Start Z s_CHARACTERS s_BYTES s_CHARACTERS_BUT_TRAILING_SPACES z_CS v_FMT) (O0 : Old Z n0 h0) (pr0 : Exa Z h0 x_ "java/lang/String") (pr1 : Fld Z h0 x_ "java/lang/String" "value" "[B" .null) (pr2 : Fld Z h0 x_ "java/lang/String" "coder" "B" (.int (0 : Int32))) (pr3 : Arv Z h0 ca_ kc_ .char (4 : Int32) [(.int c0_), (.int c1_), (.int c2_), (.int c3_)] (.int 0)) (pr4 : n0 ≤ x_) (pr5 : ¬ ((255 : Int32) < c0_)) (pr6 : ¬ ((255 : Int32) < c1_)) (pr7 : ¬ ((255 : Int32) < c2_)) (pr8 : ¬ ((255 : Int32) < c3_)) :
    oMet l Z yM8 jdk_42_method_149_code 6 none ws ({ frames := 2, cells := 1, slots := 4, locals := 35 } : Room) 1 4 #[(.ref x_), (.ref ca_), (.int (0 : Int32)), (.int (4 : Int32)), .null] h0 (own_Q_new4_4 Z s_CHARACTERS s_BYTES s_CHARACTERS_BUT_TRAILING_SPACES z_CS v_FMT x_ ca_ kc_ c0_ c1_ c2_ c3_ h0 n0) := by
  refine oenter own_pn2 #[.val (.ref x_), .val (.ref ca_), .val (.int (0 : Int32)), .val (.int (4 : Int32)), .val .null, .unset] (fun m => by first | (simp [entryFrame, mkF, argsToLocals, Value.category]; done) | rfl) ?_
  intro p e s m below meth c s₁ X0 hx hZ hby hml hret hown0 hnm hlk e0
  have hown : s.vm.findClass "java/lang/String" = some m.cls := hown0
  have N0 := Fr.nil n0
  obtain ⟨S_s_CHARACTERS, E_s_CHARACTERS, S_s_BYTES, E_s_BYTES, S_s_CHARACTERS_BUT_TRAILING_SPACES, E_s_CHARACTERS_BUT_TRAILING_SPACES, F_s_CHARACTERS_ordinal, F_s_BYTES_ordinal, F_s_CHARACTERS_BUT_TRAILING_SPACES_ordinal, S_CS, H_CS, S_FMT, R_FMT⟩ := (id SB)
  have w13 := hw _ (List.mem_of_getElem? (i := 13) rfl)
  have w22 := hw _ (List.mem_of_getElem? (i := 22) rfl)
  have w23 := hw _ (List.mem_of_getElem? (i := 23) rfl)
  have w24 := hw _ (List.mem_of_getElem? (i := 24) rfl)
  have w25 := hw _ (List.mem_of_getElem? (i := 25) rfl)
  have w26 := hw _ (List.mem_of_getElem? (i := 26) rfl)
  have w27 := hw _ (List.mem_of_getElem? (i := 27) rfl)
  have w28 := hw _ (List.mem_of_getElem? (i := 28) rfl)
  have w29 := hw _ (List.mem_of_getElem? (i := 29) rfl)
  have w34 := hw _ (List.mem_of_getElem? (i := 34) rfl)
  have w35 := hw _ (List.mem_of_getElem? (i := 35) rfl)
  have w36 := hw _ (List.mem_of_getElem? (i := 36) rfl)
  have w37 := hw _ (List.mem_of_getElem? (i := 37) rfl)
  have w38 := hw _ (List.mem_of_getElem? (i := 38) rfl)
  have w39 := hw _ (List.mem_of_getElem? (i := 39) rfl)
  have w40 := hw _ (List.mem_of_getElem? (i := 40) rfl)
  refine o_aloadN X0 hx (hb hby d9_0) rfl rfl ?_
  obtain ⟨T1, X1, e1, st1⟩ := initO X0 hx hZ hown w22 w23 w24 e0 (g := (mkF m 1 #[.val (.ref x_), .val (.ref ca_), .val (.int (0 : Int32)), .val (.int (4 : Int32)), .val .null, .unset] [(.ref x_)])) rfl (by rw [hml]; rfl) rfl (hb hby d9_1) (by decide) (W := 0) (by show 2 * 0 + _ ≤ _; exact Nat.le_of_eq rfl) (by decide)
  refine ogo (S' := T1.setTop (mkF m 4 #[.val (.ref x_), .val (.ref ca_), .val (.int (0 : Int32)), .val (.int (4 : Int32)), .val .null, .unset] [])) st1 ?_
  refine o_iloadN X1 hx (hb hby d9_4) rfl ?_
  refine o_ifYes X1 hx 27 (hb hby d9_5) (feq (by decide : ¬ ((4 : Int32) = (0 : Int32)))).2 (by decide) (by decide) ?_
  obtain ⟨T2, X2, e2, st2⟩ := getS2 X1 hx hZ hown (host := "") (Or.inl w25) Via.refl e1 (Sta.ext O0.2 S_CS) (g := (mkF m 27 #[.val (.ref x_), .val (.ref ca_), .val (.int (0 : Int32)), .val (.int (4 : Int32)), .val .null, .unset] [])) rfl (hb hby d9_27)
  refine ogo (S' := T2.setTop (mkF m 30 #[.val (.ref x_), .val (.ref ca_), .val (.int (0 : Int32)), .val (.int (4 : Int32)), .val .null, .unset] [(.int z_CS)])) st2 ?_
  refine o_ifNo X2 hx (hb hby d9_30) (feq H_CS).1 ?_
  refine o_aloadN X2 hx (hb hby d9_33) rfl rfl ?_
  refine o_iloadN X2 hx (hb hby d9_34) rfl ?_
  refine o_iloadN X2 hx (hb hby d9_35) rfl ?_
  obtain ⟨_, _, ⟨T3, L3, kc3, n3⟩, -, X3, ⟨Lc3, hQ3, l3, y3, z3⟩, st3⟩ := Jvm.LawKit.callS X2 hx (y := yM6) hown (mvT hZ w26) (mvT hZ w27) (mvT hZ w28) (mvT hZ w29) (by decide) (backOf (W := 0) (rm_cmp3_4 l Z a0 hw []  ca_ kc_ c0_ c1_ c2_ c3_ h0 n0 O0 pr3 pr5 pr6 pr7 pr8) hZ w29 w28 (by decide) (by decide)) (g := (mkF m 36 #[.val (.ref x_), .val (.ref ca_), .val (.int (0 : Int32)), .val (.int (4 : Int32)), .val .null, .unset] [(.int (4 : Int32)), (.int (0 : Int32)), (.ref ca_)])) rfl (by rw [hml]; rfl) (argsL := [(.ref ca_), (.int (0 : Int32)), (.int (4 : Int32))]) (rest := []) (lenOf own_pd4 rfl) rfl (by show 2 * 0 + _ ≤ _; exact Nat.le_of_eq rfl) (hb hby d9_36) (fun _ _ => ⟨rfl, e2, (by decide : 0 + 1 ≤ _), (by decide : 0 + 4 ≤ _)⟩)
  dsimp only [Pt.U, Pt.locs, Pt.cells, Pt.slots] at X3 l3 y3 z3 st3 hQ3
  subst l3 y3 z3
  obtain ⟨ba_3, kb_3, rfl, Nq3, K3, p3_0, p3_1⟩ := hQ3
  have N3 := Fr.app N0 Nq3
  have n0_ba_3 : n0 ≤ ba_3 := Nat.le_trans (Nat.le_trans (Nat.le_of_eq O0.1.symm) O0.2.1) (Nat.le_trans (Nat.le_refl _) p3_0)
  refine ogo (S' := T3.setTop (mkF m 39 #[.val (.ref x_), .val (.ref ca_), .val (.int (0 : Int32)), .val (.int (4 : Int32)), .val .null, .unset] [(.ref ba_3)])) st3 ?_
  refine o_astore X3 hx (l' := #[.val (.ref x_), .val (.ref ca_), .val (.int (0 : Int32)), .val (.int (4 : Int32)), .val .null, .val (.ref ba_3)]) (hb hby d9_39) rfl rfl ?_
  refine o_aloadN X3 hx (hb hby d9_41) rfl rfl ?_
  refine o_aload X3 hx (hb hby d9_42) rfl rfl ?_
  refine o_iloadN X3 hx (hb hby d9_44) rfl ?_
  obtain ⟨_, _, ⟨T4, L4, kc4, n4⟩, -, X4, ⟨Lc4, hQ4, l4, y4, z4⟩, st4⟩ := Jvm.LawKit.callS X3 hx (y := yM7) hown (mvT hZ w34) (mvT hZ w35) (mvT hZ w28) (mvT hZ w36) (by decide) (backOf (W := 1) (rm_codl_4 l Z a0 hw []  ba_3 kb_3 [(.int c0_.toInt8.toInt32), (.int c1_.toInt8.toInt32), (.int c2_.toInt8.toInt32), (.int c3_.toInt8.toInt32)] T3.heap n0 (O0.keep K3 all0) p3_1) hZ w36 w28 (by decide) (by decide)) (g := (mkF m 45 #[.val (.ref x_), .val (.ref ca_), .val (.int (0 : Int32)), .val (.int (4 : Int32)), .val .null, .val (.ref ba_3)] [(.int (4 : Int32)), (.ref ba_3), (.ref x_)])) rfl (by rw [hml]; rfl) (argsL := [(.ref ba_3), (.int (4 : Int32))]) (rest := [(.ref x_)]) (lenOf own_pd5 rfl) rfl (by show 2 * 0 + _ ≤ _; exact Nat.le_of_eq rfl) (hb hby d9_45) (fun _ _ => ⟨rfl, rfl, (by decide : 1 + 0 ≤ _), (by decide : 4 + 0 ≤ _)⟩)
  dsimp only [Pt.U, Pt.locs, Pt.cells, Pt.slots] at X4 l4 y4 z4 st4 hQ4
  subst l4 y4 z4
  obtain ⟨rfl, Nq4, e4⟩ := hQ4
  have N4 := Fr.app N3 Nq4
  refine ogo (S' := T4.setTop (mkF m 48 #[.val (.ref x_), .val (.ref ca_), .val (.int (0 : Int32)), .val (.int (4 : Int32)), .val .null, .val (.ref ba_3)] [(.int (0 : Int32)), (.ref x_)])) st4 ?_
  obtain ⟨T5, _, X5, rfl, W5, st5⟩ := putFN X4 hx hZ hown w37 Via.refl e4 (pr2.keep K3 nin0) (pr0.keep K3) (Or.inr ⟨w38, rfl, hnm⟩) w13 (ty := .byte) (v' := (.int (0 : Int32))) (by decide) rfl (by decide) (g := (mkF m 48 #[.val (.ref x_), .val (.ref ca_), .val (.int (0 : Int32)), .val (.int (4 : Int32)), .val .null, .val (.ref ba_3)] [(.int (0 : Int32)), (.ref x_)])) rfl rfl (hb hby d9_48)
  have N5 := Fr.snoc X5 N4 pr4
  have F5 := Fld.same W5 (pr2.keep K3 nin0)
  refine ogo (S' := T5.setTop (mkF m 51 #[.val (.ref x_), .val (.ref ca_), .val (.int (0 : Int32)), .val (.int (4 : Int32)), .val .null, .val (.ref ba_3)] [])) st5 ?_
  refine o_aloadN X5 hx (hb hby d9_51) rfl rfl ?_
  refine o_aload X5 hx (hb hby d9_52) rfl rfl ?_
  have c7 := (Fld.other W5 (pr1.keep K3 nin0) (Or.inr (slot_ne (Or.inr w40) (Or.inr w38) (by decide) (t := (.array .byte)) (t' := .byte) (by decide) (by decide))))
  obtain ⟨T6, _, X6, rfl, W6, st6⟩ := putF X5 hx hZ hown (host := "") (Or.inl w39) Via.refl rfl c7 (Exa.wr W5 (pr0.keep K3)) (Or.inr ⟨w40, rfl, hnm⟩) w13 (ty := (.array .byte)) (by decide) rfl rfl (g := (mkF m 54 #[.val (.ref x_), .val (.ref ca_), .val (.int (0 : Int32)), .val (.int (4 : Int32)), .val .null, .val (.ref ba_3)] [(.ref ba_3), (.ref x_)])) rfl rfl (hb hby d9_54)
  have N6 := Fr.snoc X6 N5 pr4
  have F6 := Fld.same W6 c7
  refine ogo (S' := T6.setTop (mkF m 57 #[.val (.ref x_), .val (.ref ca_), .val (.int (0 : Int32)), .val (.int (4 : Int32)), .val .null, .val (.ref ba_3)] [])) st6 ?_
  have c8 := ((p3_1.other W5 (Nat.ne_of_gt (Nat.lt_of_lt_of_le (Nat.lt_of_lt_of_le pr0.lt (Nat.le_refl _)) p3_0))).other W6 (Nat.ne_of_gt (Nat.lt_of_lt_of_le (Nat.lt_of_lt_of_le pr0.lt (Nat.le_refl _)) p3_0)))
  have c9 := (Fld.other W6 F5 (Or.inr (slot_ne (Or.inr w38) (Or.inr w40) (by decide) (t := .byte) (t' := (.array .byte)) (by decide) (by decide))))
  refine oend X6 hlk (v := none) (fun _ => rfl) (fun fs hr => X6.returnOut hx hret (hb hby d9_57) hr) (by decide) (by decide) ?_
  show own_Q_new4_4 Z _ _ _ _ _ _ _ _ _ _ _ _ h0 n0 _ T6.heap _
  exact ⟨ba_3, kb_3, rfl, N6, ((((Keep.refl h0 [x_]).trans K3 all0).wr W5 (Or.inl (List.mem_of_getElem? (i := 0) rfl))).wr W6 (Or.inl (List.mem_of_getElem? (i := 0) rfl))), (Nat.le_trans (Nat.le_refl _) p3_0), c8, (Exa.wr W6 (Exa.wr W5 (pr0.keep K3))), F6, c9⟩
def own_Q_new1_4 (Z : State) (s_CHARACTERS : Addr) (s_BYTES : Addr) (s_CHARACTERS_BUT_TRAILING_SPACES : Addr) (z_CS : Int32) (v_FMT : Value) (x_ : Addr) (ca_ : Addr) (kc_ : ClassId) (c0_ : Int32) (c1_ : Int32) (c2_ : Int32) (c3_ : Int32) (h0 : Heap) (n0 : Nat) (v : Option Value) (h : Heap) (L : List Loc) : Prop := ∃ ba_ : Addr, ∃ kb_ : ClassId, (v = none) ∧ (Fr n0 L) ∧ (Keep h0 h [x_]) ∧ (h0.size ≤ ba_) ∧ (Arv Z h ba_ kb_ .byte (4 : Int32) [(.int c0_.toInt8.toInt32), (.int c1_.toInt8.toInt32), (.int c2_.toInt8.toInt32), (.int c3_.toInt8.toInt32)] (.int 0)) ∧ (Exa Z h x_ "java/lang/String") ∧ (Fld Z h x_ "java/lang/String" "value" "[B" (.ref ba_)) ∧ (Fld Z h x_ "java/lang/String" "coder" "B" (.int (0 : Int32)))
set_option maxRecDepth 65536 in
set_option maxHeartbeats 40000000 in
theorem rm_new1_4 (l : Launch) (Z : State) (a0 : Array Value) (hw : ∀ d ∈ tables_1, d.before a0 Z = true) (ws : List Jvm.Cond) (s_CHARACTERS : Addr) (s_BYTES : Addr) (s_CHARACTERS_BUT_TRAILING_SPACES : Addr) (z_CS : Int32) (v_FMT : Value) (x_ : Addr) (ca_ : Addr) (kc_ : ClassId) (c0_ : Int32) (c1_ : Int32) (c2_ : Int32) (c3_ : Int32) (h0 : Heap) (n0 : Nat) (SB : own_Start Z s_CHARACTERS s_BYTES s_CHARACTERS_BUT_TRAILING_SPACES z_CS v_FMT) (O0 : Old Z n0 h0) (pr0 : Exa Z h0 x_ "java/lang/String") (pr1 : Fld Z h0 x_ "java/lang/String" "value" "[B" .null) (pr2 : Fld Z h0 x_ "java/lang/String" "coder" "B" (.int (0 : Int32))) (pr3 : Arv Z h0 ca_ kc_ .char (4 : Int32) [(.int c0_), (.int c1_), (.int c2_), (.int c3_)] (.int 0)) (pr4 : n0 ≤ x_) (pr5 : ¬ ((255 : Int32) < c0_)) (pr6 : ¬ ((255 : Int32) < c1_)) (pr7 : ¬ ((255 : Int32) < c2_)) (pr8 : ¬ ((255 : Int32) < c3_)) :
    oMet l Z yM9 jdk_42_method_3_code 2 none ws ({ frames := 3, cells := 1, slots := 4, locals := 52 } : Room) 1 4 #[(.ref x_), (.ref ca_)] h0 (own_Q_new1_4 Z s_CHARACTERS s_BYTES s_CHARACTERS_BUT_TRAILING_SPACES z_CS v_FMT x_ ca_ kc_ c0_ c1_ c2_ c3_ h0 n0) := by
  refine oenter own_pn2 #[.val (.ref x_), .val (.ref ca_)] (fun m => by first | (simp [entryFrame, mkF, argsToLocals, Value.category]; done) | rfl) ?_
  intro p e s m below meth c s₁ X0 hx hZ hby hml hret hown0 hnm hlk e0
  have hown : s.vm.findClass "java/lang/String" = some m.cls := hown0
  have N0 := Fr.nil n0
  obtain ⟨S_s_CHARACTERS, E_s_CHARACTERS, S_s_BYTES, E_s_BYTES, S_s_CHARACTERS_BUT_TRAILING_SPACES, E_s_CHARACTERS_BUT_TRAILING_SPACES, F_s_CHARACTERS_ordinal, F_s_BYTES_ordinal, F_s_CHARACTERS_BUT_TRAILING_SPACES_ordinal, S_CS, H_CS, S_FMT, R_FMT⟩ := (id SB)
  have w14 := hw _ (List.mem_of_getElem? (i := 14) rfl)
  have w18 := hw _ (List.mem_of_getElem? (i := 18) rfl)
  have w19 := hw _ (List.mem_of_getElem? (i := 19) rfl)
  have w21 := hw _ (List.mem_of_getElem? (i := 21) rfl)
  refine o_aloadN X0 hx (hb hby d10_0) rfl rfl ?_
  refine o_aloadN X0 hx (hb hby d10_1) rfl rfl ?_
  refine o_iconst X0 hx (0 : Int32) (hb hby d10_2) rfl ?_
  refine o_aloadN X0 hx (hb hby d10_3) rfl rfl ?_
  obtain ⟨cl1, Ar1, -, S1, N1z, -, -⟩ := (id pr3)
  refine ogo (S' := s₁.setTop (mkF m 5 #[.val (.ref x_), .val (.ref ca_)] [(.int (4 : Int32)), (.int (0 : Int32)), (.ref ca_), (.ref x_)])) (fun _ kt_ => X0.arraylength hx (by rw [e0]; exact Ar1.1) (State.isArrayOf_alike hZ.alike Ar1.2.1) (g := (mkF m 4 #[.val (.ref x_), .val (.ref ca_)] [(.ref ca_), (.int (0 : Int32)), (.ref ca_), (.ref x_)])) rfl rfl (hb hby d10_4) _ (by rw [len_of S1 N1z]; exact kt_)) ?_
  refine o_aconst_null X0 hx (hb hby d10_5) ?_
  obtain ⟨_, _, ⟨T2, L2, kc2, n2⟩, -, X2, ⟨Lc2, hQ2, l2, y2, z2⟩, st2⟩ := X0.specialBack hx (y := yM8) rfl hown (mvT hZ w18) (mvT hZ w19) (mvT hZ w21) (by decide) (backOf (W := 0) (rm_new4_4 l Z a0 hw [] s_CHARACTERS s_BYTES s_CHARACTERS_BUT_TRAILING_SPACES z_CS v_FMT x_ ca_ kc_ c0_ c1_ c2_ c3_ h0 n0 SB O0 pr0 pr1 pr2 pr3 pr4 pr5 pr6 pr7 pr8) hZ w21 w14 (by decide) (by decide)) (g := (mkF m 6 #[.val (.ref x_), .val (.ref ca_)] [.null, (.int (4 : Int32)), (.int (0 : Int32)), (.ref ca_), (.ref x_)])) rfl (by rw [hml]; rfl) (Steps.refl _) (a := x_) (argsL := [(.ref ca_), (.int (0 : Int32)), (.int (4 : Int32)), .null]) (rest := []) (lenOf own_pd6 rfl) rfl (by show 2 * 0 + _ ≤ _; exact Nat.le_of_eq rfl) (hb hby d10_6) (fun _ _ => ⟨rfl, e0, (by decide : 0 + 1 ≤ _), (by decide : 0 + 4 ≤ _)⟩)
  dsimp only [Pt.U, Pt.locs, Pt.cells, Pt.slots] at X2 l2 y2 z2 st2 hQ2
  subst l2 y2 z2
  obtain ⟨ba_2, kb_2, rfl, Nq2, K2, p2_0, p2_1, p2_2, p2_3, p2_4⟩ := hQ2
  have N2 := Fr.app N0 Nq2
  have n0_ba_2 : n0 ≤ ba_2 := Nat.le_trans (Nat.le_trans (Nat.le_of_eq O0.1.symm) O0.2.1) (Nat.le_trans (Nat.le_refl _) p2_0)
  refine otr (S' := T2.setTop (mkF m 9 #[.val (.ref x_), .val (.ref ca_)] [])) st2 ?_
  refine oend X2 hlk (v := none) (fun _ => rfl) (fun fs hr => X2.returnOut hx hret (hb hby d10_9) hr) (by decide) (by decide) ?_
  show own_Q_new1_4 Z _ _ _ _ _ _ _ _ _ _ _ _ h0 n0 _ T2.heap _
  exact ⟨ba_2, kb_2, rfl, N2, ((Keep.refl h0 [x_]).trans K2 (allS (Or.inl (List.mem_of_getElem? (i := 0) rfl)) all0)), (Nat.le_trans (Nat.le_refl _) p2_0), p2_1, p2_2, p2_3, p2_4⟩
theorem d9_8 : decode jdk_42_method_149_code 8 = .ok (.aload_n 0, 1) := by decide +kernel
theorem d9_9 : decode jdk_42_method_149_code 9 = .ok (.ldc 7, 2) := by decide +kernel
theorem d9_11 : decode jdk_42_method_149_code 11 = .ok (.getfield 9, 3) := by decide +kernel
theorem d9_14 : decode jdk_42_method_149_code 14 = .ok (.putfield 9, 3) := by decide +kernel
theorem d9_17 : decode jdk_42_method_149_code 17 = .ok (.aload_n 0, 1) := by decide +kernel
theorem d9_18 : decode jdk_42_method_149_code 18 = .ok (.ldc 7, 2) := by decide +kernel
theorem d9_20 : decode jdk_42_method_149_code 20 = .ok (.getfield 15, 3) := by decide +kernel
theorem d9_23 : decode jdk_42_method_149_code 23 = .ok (.putfield 15, 3) := by decide +kernel
theorem d9_26 : decode jdk_42_method_149_code 26 = .ok (.return_, 1) := by decide +kernel
def own_Q_new4z (Z : State)  (x_ : Addr) (ca_ : Addr) (h0 : Heap) (n0 : Nat) (v : Option Value) (h : Heap) (L : List Loc) : Prop := ∃ ba_ : Addr, ∃ kb_ : ClassId, (v = none) ∧ (Fr n0 L) ∧ (Keep h0 h [x_]) ∧ (ba_ < h.size) ∧ (Arv Z h ba_ kb_ .byte (0 : Int32) [] (.int 0)) ∧ (Exa Z h x_ "java/lang/String") ∧ (Fld Z h x_ "java/lang/String" "value" "[B" (.ref ba_)) ∧ (Fld Z h x_ "java/lang/String" "coder" "B" (.int (0 : Int32)))
set_option maxRecDepth 65536 in
set_option maxHeartbeats 40000000 in
theorem rm_new4z (l : Launch) (Z : State) (a0 : Array Value) (hw : ∀ d ∈ tables_1, d.before a0 Z = true) (ws : List Jvm.Cond)  (x_ : Addr) (ca_ : Addr) (h0 : Heap) (n0 : Nat) (O0 : Old Z n0 h0) (pr0 : Exa Z h0 x_ "java/lang/String") (pr1 : Fld Z h0 x_ "java/lang/String" "value" "[B" .null) (pr2 : Fld Z h0 x_ "java/lang/String" "coder" "B" (.int (0 : Int32))) (pr3 : n0 ≤ x_) :
    oMetS l Z yM8 jdk_42_method_149_code 6 none ws ({ frames := 1, cells := 4, slots := 8, locals := 12 } : Room) 4 8 #[(.ref x_), (.ref ca_), (.int (0 : Int32)), (.int (0 : Int32)), .null] h0 (own_Q_new4z Z  x_ ca_ h0 n0) := by
  refine oenterS own_pn2 #[.val (.ref x_), .val (.ref ca_), .val (.int (0 : Int32)), .val (.int (0 : Int32)), .val .null, .unset] (fun m => by first | (simp [entryFrame, mkF, argsToLocals, Value.category]; done) | rfl) ?_
  intro p e s m below meth c s₁ X0 hx hZ hby hml hret hown0 hnm hlk e0 hs0 H0 hS0
  have hEL := own_EW hw
  have wS := own_wS hw
  have hown : s.vm.findClass "java/lang/String" = some m.cls := hown0
  have N0 := Fr.nil n0
  have w13 := hw _ (List.mem_of_getElem? (i := 13) rfl)
  have w22 := hw _ (List.mem_of_getElem? (i := 22) rfl)
  have w23 := hw _ (List.mem_of_getElem? (i := 23) rfl)
  have w24 := hw _ (List.mem_of_getElem? (i := 24) rfl)
  have w37 := hw _ (List.mem_of_getElem? (i := 37) rfl)
  have w38 := hw _ (List.mem_of_getElem? (i := 38) rfl)
  have w39 := hw _ (List.mem_of_getElem? (i := 39) rfl)
  have w40 := hw _ (List.mem_of_getElem? (i := 40) rfl)
  have w83 := hw _ (List.mem_of_getElem? (i := 83) rfl)
  refine o_aloadN X0 hx (hb hby d9_0) rfl rfl ?_
  obtain ⟨T1, X1, e1, st1⟩ := initO X0 hx hZ hown w22 w23 w24 e0 (g := (mkF m 1 #[.val (.ref x_), .val (.ref ca_), .val (.int (0 : Int32)), .val (.int (0 : Int32)), .val .null, .unset] [(.ref x_)])) rfl (by rw [hml]; rfl) rfl (hb hby d9_1) (by decide) (W := 0) (by show 2 * 0 + _ ≤ _; exact Nat.le_of_eq rfl) (by decide)
  refine ogo (S' := T1.setTop (mkF m 4 #[.val (.ref x_), .val (.ref ca_), .val (.int (0 : Int32)), .val (.int (0 : Int32)), .val .null, .unset] [])) st1 ?_
  refine o_iloadN X1 hx (hb hby d9_4) rfl ?_
  refine o_ifNo X1 hx (hb hby d9_5) (teq (by decide : (0 : Int32) = (0 : Int32))).2 ?_
  refine o_aloadN X1 hx (hb hby d9_8) rfl rfl ?_
  obtain ⟨a2, T2, _, ks2, b2, kk2, X2, rfl, E2, hS2, hk2, hZ2, hown2, Ex2, Fc2, Fv2, Va2, la2, lb2, C2, -, Nx2, st2⟩ := ldcCH X1 hx hZ hown w83 wS e1 hS0 (Nat.zero_le _) hEL (List.mem_of_getElem? (i := 0) rfl) H0 (vs := []) (z := (0 : Int32)) ⟨by decide, by decide⟩ (by decide) rfl (g := (mkF m 9 #[.val (.ref x_), .val (.ref ca_), .val (.int (0 : Int32)), .val (.int (0 : Int32)), .val .null, .unset] [(.ref x_)])) rfl (hb hby d9_9) (n := 0) (by decide) (by decide) (by decide) (by decide)
  have H3 := C2.1
  have c4 := (CHr.safe C2 (Nat.lt_of_lt_of_le pr0.lt (Nat.le_refl _)) (own_safe hZ.alike pr0 pr1))
  refine ogo (S' := T2.setTop (mkF m 11 #[.val (.ref x_), .val (.ref ca_), .val (.int (0 : Int32)), .val (.int (0 : Int32)), .val .null, .unset] [(.ref a2), (.ref x_)])) st2 ?_
  obtain ⟨T5, X5, e5, st5⟩ := getF X2 hx hZ2 hown2 (host := "") (Or.inl w39) Via.refl rfl Fv2 (g := (mkF m 11 #[.val (.ref x_), .val (.ref ca_), .val (.int (0 : Int32)), .val (.int (0 : Int32)), .val .null, .unset] [(.ref a2), (.ref x_)])) rfl rfl (hb hby d9_11)
  refine ogo (S' := T5.setTop (mkF m 14 #[.val (.ref x_), .val (.ref ca_), .val (.int (0 : Int32)), .val (.int (0 : Int32)), .val .null, .unset] [(.ref b2), (.ref x_)])) st5 ?_
  obtain ⟨T6, _, X6, rfl, W6, st6⟩ := putF X5 hx hZ2 hown2 (host := "") (Or.inl w39) Via.refl e5 (Fld.ext E2 pr1) (Exa.ext E2 pr0) (Or.inr ⟨w40, rfl, hnm⟩) w13 (ty := (.array .byte)) (by decide) rfl rfl (g := (mkF m 14 #[.val (.ref x_), .val (.ref ca_), .val (.int (0 : Int32)), .val (.int (0 : Int32)), .val .null, .unset] [(.ref b2), (.ref x_)])) rfl rfl (hb hby d9_14)
  have N6 := Fr.snoc X6 N0 pr3
  have H7 := CHv.wr W6 c4 H3
  have F6 := Fld.same W6 (Fld.ext E2 pr1)
  refine ogo (S' := T6.setTop (mkF m 17 #[.val (.ref x_), .val (.ref ca_), .val (.int (0 : Int32)), .val (.int (0 : Int32)), .val .null, .unset] [])) st6 ?_
  refine o_aloadN X6 hx (hb hby d9_17) rfl rfl ?_
  obtain ⟨a8, T8, _, ks8, b8, kk8, X8, rfl, E8, hS8, hk8, hZ8, hown8, Ex8, Fc8, Fv8, Va8, la8, lb8, C8, -, Nx8, st8⟩ := ldcCH X6 hx hZ2 hown2 w83 wS rfl hS2 (Nat.le_trans hk2 (Keep.of_wr W6).1) hEL (List.mem_of_getElem? (i := 0) rfl) H7 (vs := []) (z := (0 : Int32)) ⟨by decide, by decide⟩ (by decide) rfl (g := (mkF m 18 #[.val (.ref x_), .val (.ref ca_), .val (.int (0 : Int32)), .val (.int (0 : Int32)), .val .null, .unset] [(.ref x_)])) rfl (hb hby d9_18) (n := 0) (by decide) (by decide) (by decide) (by decide)
  have H9 := C8.1
  have c10 := (CHr.safe C8 (Nat.lt_of_lt_of_le pr0.lt (Nat.le_trans E2.1 (Keep.of_wr W6).1)) (Safe.wr W6 c4 H3 c4))
  refine ogo (S' := T8.setTop (mkF m 20 #[.val (.ref x_), .val (.ref ca_), .val (.int (0 : Int32)), .val (.int (0 : Int32)), .val .null, .unset] [(.ref a8), (.ref x_)])) st8 ?_
  obtain ⟨T11, X11, e11, st11⟩ := getF X8 hx hZ8 hown8 (host := "") (Or.inl w37) Via.refl rfl Fc8 (g := (mkF m 20 #[.val (.ref x_), .val (.ref ca_), .val (.int (0 : Int32)), .val (.int (0 : Int32)), .val .null, .unset] [(.ref a8), (.ref x_)])) rfl rfl (hb hby d9_20)
  refine ogo (S' := T11.setTop (mkF m 23 #[.val (.ref x_), .val (.ref ca_), .val (.int (0 : Int32)), .val (.int (0 : Int32)), .val .null, .unset] [(.int (0 : Int32)), (.ref x_)])) st11 ?_
  have c13 := (Fld.ext E8 (Fld.other W6 (Fld.ext E2 pr2) (Or.inr (slot_ne (Or.inr w38) (Or.inr w40) (by decide) (t := .byte) (t' := (.array .byte)) (by decide) (by decide)))))
  obtain ⟨T12, _, X12, rfl, W12, st12⟩ := putFN X11 hx hZ8 hown8 w37 Via.refl e11 c13 (Exa.ext E8 (Exa.wr W6 (Exa.ext E2 pr0))) (Or.inr ⟨w38, rfl, hnm⟩) w13 (ty := .byte) (v' := (.int (0 : Int32))) (by decide) rfl (by decide) (g := (mkF m 23 #[.val (.ref x_), .val (.ref ca_), .val (.int (0 : Int32)), .val (.int (0 : Int32)), .val .null, .unset] [(.int (0 : Int32)), (.ref x_)])) rfl rfl (hb hby d9_23)
  have N12 := Fr.snoc X12 N6 pr3
  have H14 := CHv.wr W12 c10 H9
  have F12 := Fld.same W12 c13
  refine ogo (S' := T12.setTop (mkF m 26 #[.val (.ref x_), .val (.ref ca_), .val (.int (0 : Int32)), .val (.int (0 : Int32)), .val .null, .unset] [])) st12 ?_
  have c15 := (((Va2.other W6 (Ne.symm (Nx2 _ c4).2)).ext E8).other W12 (Ne.symm (Nx2 _ c4).2))
  have c16 := (Fld.other W12 (Fld.ext E8 F6) (Or.inr (slot_ne (Or.inr w40) (Or.inr w38) (by decide) (t := (.array .byte)) (t' := .byte) (by decide) (by decide))))
  refine oendS X12 hlk hS8 (Nat.le_trans hk8 (Keep.of_wr W12).1) rfl hZ8 hEL hs0 (CHr.trans (CHr.trans (CHr.trans (CHr.trans (CHr.refl H0) C2) (CHr.wr W6 c4 H3)) C8) (CHr.wr W12 c10 H9)) (v := none) (fun _ => rfl) (fun fs hr => X12.returnOut hx hret (hb hby d9_26) hr) (by decide) (by decide) ?_
  show own_Q_new4z Z _ _ h0 n0 _ T12.heap _
  exact ⟨b2, kk2, rfl, N12, (((((Keep.refl h0 [x_]).ext E2).wr W6 (Or.inl (List.mem_of_getElem? (i := 0) rfl))).ext E8).wr W12 (Or.inl (List.mem_of_getElem? (i := 0) rfl))), (Nat.lt_of_lt_of_le lb2 (Nat.le_trans (Nat.le_trans (Keep.of_wr W6).1 E8.1) (Keep.of_wr W12).1)), c15, (Exa.wr W12 (Exa.ext E8 (Exa.wr W6 (Exa.ext E2 pr0)))), c16, F12⟩
def own_Q_new1z (Z : State)  (x_ : Addr) (ca_ : Addr) (kc_ : ClassId) (h0 : Heap) (n0 : Nat) (v : Option Value) (h : Heap) (L : List Loc) : Prop := ∃ ba_ : Addr, ∃ kb_ : ClassId, (v = none) ∧ (Fr n0 L) ∧ (Keep h0 h [x_]) ∧ (ba_ < h.size) ∧ (Arv Z h ba_ kb_ .byte (0 : Int32) [] (.int 0)) ∧ (Exa Z h x_ "java/lang/String") ∧ (Fld Z h x_ "java/lang/String" "value" "[B" (.ref ba_)) ∧ (Fld Z h x_ "java/lang/String" "coder" "B" (.int (0 : Int32)))
set_option maxRecDepth 65536 in
set_option maxHeartbeats 40000000 in
theorem rm_new1z (l : Launch) (Z : State) (a0 : Array Value) (hw : ∀ d ∈ tables_1, d.before a0 Z = true) (ws : List Jvm.Cond)  (x_ : Addr) (ca_ : Addr) (kc_ : ClassId) (h0 : Heap) (n0 : Nat) (O0 : Old Z n0 h0) (pr0 : Exa Z h0 x_ "java/lang/String") (pr1 : Fld Z h0 x_ "java/lang/String" "value" "[B" .null) (pr2 : Fld Z h0 x_ "java/lang/String" "coder" "B" (.int (0 : Int32))) (pr3 : n0 ≤ x_) (pr4 : Arv Z h0 ca_ kc_ .char (0 : Int32) [] (.int 0)) :
    oMetS l Z yM9 jdk_42_method_3_code 2 none ws ({ frames := 2, cells := 4, slots := 8, locals := 29 } : Room) 4 8 #[(.ref x_), (.ref ca_)] h0 (own_Q_new1z Z  x_ ca_ kc_ h0 n0) := by
  refine oenterS own_pn2 #[.val (.ref x_), .val (.ref ca_)] (fun m => by first | (simp [entryFrame, mkF, argsToLocals, Value.category]; done) | rfl) ?_
  intro p e s m below meth c s₁ X0 hx hZ hby hml hret hown0 hnm hlk e0 hs0 H0 hS0
  have hEL := own_EW hw
  have wS := own_wS hw
  have hown : s.vm.findClass "java/lang/String" = some m.cls := hown0
  have N0 := Fr.nil n0
  have w14 := hw _ (List.mem_of_getElem? (i := 14) rfl)
  have w18 := hw _ (List.mem_of_getElem? (i := 18) rfl)
  have w19 := hw _ (List.mem_of_getElem? (i := 19) rfl)
  have w21 := hw _ (List.mem_of_getElem? (i := 21) rfl)
  refine o_aloadN X0 hx (hb hby d10_0) rfl rfl ?_
  refine o_aloadN X0 hx (hb hby d10_1) rfl rfl ?_
  refine o_iconst X0 hx (0 : Int32) (hb hby d10_2) rfl ?_
  refine o_aloadN X0 hx (hb hby d10_3) rfl rfl ?_
  obtain ⟨cl1, Ar1, -, S1, N1z, -, -⟩ := (id pr4)
  refine ogo (S' := s₁.setTop (mkF m 5 #[.val (.ref x_), .val (.ref ca_)] [(.int (0 : Int32)), (.int (0 : Int32)), (.ref ca_), (.ref x_)])) (fun _ kt_ => X0.arraylength hx (by rw [e0]; exact Ar1.1) (State.isArrayOf_alike hZ.alike Ar1.2.1) (g := (mkF m 4 #[.val (.ref x_), .val (.ref ca_)] [(.ref ca_), (.int (0 : Int32)), (.ref ca_), (.ref x_)])) rfl rfl (hb hby d10_4) _ (by rw [len_of S1 N1z]; exact kt_)) ?_
  refine o_aconst_null X0 hx (hb hby d10_5) ?_
  obtain ⟨_, _, ⟨T2, L2, kc2, n2⟩, -, X2, hSi2, hgr2, ⟨Lc2, hQ2, l2, y2, z2, C2⟩, st2⟩ := X0.specialBackS hx (y := yM8) rfl hown (mvT hZ w18) (mvT hZ w19) (mvT hZ w21) (by decide) (backOfSH (W := 0) (rm_new4z l Z a0 hw []  x_ ca_ h0 n0 O0 pr0 pr1 pr2 pr3) hZ w21 w14 (by decide) (by decide) hEL H0) (g := (mkF m 6 #[.val (.ref x_), .val (.ref ca_)] [.null, (.int (0 : Int32)), (.int (0 : Int32)), (.ref ca_), (.ref x_)])) rfl (by rw [hml]; rfl) (Steps.refl _) (a := x_) (argsL := [(.ref ca_), (.int (0 : Int32)), (.int (0 : Int32)), .null]) (rest := []) (lenOf own_pd6 rfl) rfl (by show 2 * 0 + _ ≤ _; exact Nat.le_of_eq rfl) (hb hby d10_6) (fun _ _ => ⟨rfl, e0, (by decide : 0 + 4 ≤ _), (by decide : 0 + 8 ≤ _)⟩)
  dsimp only [Pt.U, Pt.locs, Pt.cells, Pt.slots] at X2 l2 y2 z2 st2 hQ2 hSi2 hgr2 C2
  subst l2 y2 z2
  obtain ⟨ba_2, kb_2, rfl, Nq2, K2, p2_0, p2_1, p2_2, p2_3, p2_4⟩ := hQ2
  have N2 := Fr.app N0 Nq2
  have X2 : Stand p l e ({ frames := 2, cells := 4, slots := 8, locals := 29 } : Room) (s.setVm T2.vm) m #[(.ref x_), (.ref ca_)] below meth c T2 _ _ _ := X2
  have hS2 := foldS hS0 (by rw [e0]; exact (Nat.zero_le _)) hSi2 hgr2
  have hZ2 : Z.Warmed39 T2.vm := State.Warmed39.trans (t := s) hZ hSi2.1
  have hown2 : T2.vm.findClass "java/lang/String" = some m.cls := by rw [hSi2.1.alike.findClass]; exact hown
  have H3 := C2.1
  refine otr (S' := T2.setTop (mkF m 9 #[.val (.ref x_), .val (.ref ca_)] [])) st2 ?_
  refine oendS X2 hlk hS2 (Nat.le_refl _) rfl hZ2 hEL hs0 (CHr.trans (CHr.refl H0) C2) (v := none) (fun _ => rfl) (fun fs hr => X2.returnOut hx hret (hb hby d10_9) hr) (by decide) (by decide) ?_
  show own_Q_new1z Z _ _ _ h0 n0 _ T2.heap _
  exact ⟨ba_2, kb_2, rfl, N2, ((Keep.refl h0 [x_]).trans K2 (allS (Or.inl (List.mem_of_getElem? (i := 0) rfl)) all0)), (Nat.lt_of_lt_of_le p2_0 (Nat.le_refl _)), p2_1, p2_2, p2_3, p2_4⟩
theorem own_pd7 : parseMethodDescriptor "([C)V" = some ⟨[(.array .char)], none⟩ := by decide +kernel
theorem d11_0 : decode method_4_code 0 = .ok (.iload_n 1, 1) := by decide +kernel
theorem d11_1 : decode method_4_code 1 = .ok (.ifCond .ne 14, 3) := by decide +kernel
theorem d11_4 : decode method_4_code 4 = .ok (.new 51, 3) := by decide +kernel
theorem d11_7 : decode method_4_code 7 = .ok (.dup, 1) := by decide +kernel
theorem d11_8 : decode method_4_code 8 = .ok (.iconst 0, 1) := by decide +kernel
theorem d11_9 : decode method_4_code 9 = .ok (.newarray .char, 2) := by decide +kernel
theorem d11_11 : decode method_4_code 11 = .ok (.invokespecial 53, 3) := by decide +kernel
theorem d11_14 : decode method_4_code 14 = .ok (.areturn, 1) := by decide +kernel
def own_Q_text_0 (Z : State) (s_CHARACTERS : Addr) (s_BYTES : Addr) (s_CHARACTERS_BUT_TRAILING_SPACES : Addr) (z_CS : Int32) (v_FMT : Value) (ca_ : Addr) (kc_ : ClassId) (c0_ : Int32) (c1_ : Int32) (c2_ : Int32) (c3_ : Int32) (h0 : Heap) (n0 : Nat) (v : Option Value) (h : Heap) (L : List Loc) : Prop := ∃ x_ : Addr, ∃ ba_ : Addr, ∃ kb_ : ClassId, (v = some (.ref x_)) ∧ (Fr n0 L) ∧ (Keep h0 h []) ∧ (h0.size ≤ x_) ∧ (ba_ < h.size) ∧ (Exa Z h x_ "java/lang/String") ∧ (Fld Z h x_ "java/lang/String" "coder" "B" (.int (0 : Int32))) ∧ (Fld Z h x_ "java/lang/String" "value" "[B" (.ref ba_)) ∧ (Arv Z h ba_ kb_ .byte (0 : Int32) [] (.int 0))
abbrev yM10 : MethodName := ⟨"com/example/upshot/upshot/LengthOfPinLaw", "text", "([CI)Ljava/lang/String;"⟩
set_option maxRecDepth 65536 in
set_option maxHeartbeats 40000000 in
theorem rm_text_0 (l : Launch) (Z : State) (a0 : Array Value) (hw : ∀ d ∈ tables_1, d.before a0 Z = true) (ws : List Jvm.Cond) (s_CHARACTERS : Addr) (s_BYTES : Addr) (s_CHARACTERS_BUT_TRAILING_SPACES : Addr) (z_CS : Int32) (v_FMT : Value) (ca_ : Addr) (kc_ : ClassId) (c0_ : Int32) (c1_ : Int32) (c2_ : Int32) (c3_ : Int32) (h0 : Heap) (n0 : Nat) (SB : own_Start Z s_CHARACTERS s_BYTES s_CHARACTERS_BUT_TRAILING_SPACES z_CS v_FMT) (O0 : Old Z n0 h0) (pr0 : Arv Z h0 ca_ kc_ .char (4 : Int32) [(.int c0_), (.int c1_), (.int c2_), (.int c3_)] (.int 0)) (pr1 : ¬ ((255 : Int32) < c0_)) (pr2 : ¬ ((255 : Int32) < c1_)) (pr3 : ¬ ((255 : Int32) < c2_)) (pr4 : ¬ ((255 : Int32) < c3_)) (pr5 : nar .char c0_ = c0_) (pr6 : nar .char c1_ = c1_) (pr7 : nar .char c2_ = c2_) (pr8 : nar .char c3_ = c3_) :
    oMetS l Z yM10 method_4_code 2 (some (.object "java/lang/String")) ws ({ frames := 3, cells := 6, slots := 12, locals := 43 } : Room) 6 12 #[(.ref ca_), (.int (0 : Int32))] h0 (own_Q_text_0 Z s_CHARACTERS s_BYTES s_CHARACTERS_BUT_TRAILING_SPACES z_CS v_FMT ca_ kc_ c0_ c1_ c2_ c3_ h0 n0) := by
  refine oenterS own_pn0 #[.val (.ref ca_), .val (.int (0 : Int32))] (fun m => by first | (simp [entryFrame, mkF, argsToLocals, Value.category]; done) | rfl) ?_
  intro p e s m below meth c s₁ X0 hx hZ hby hml hret hown0 hnm hlk e0 hs0 H0 hS0
  have hEL := own_EW hw
  have wS := own_wS hw
  have hown : s.vm.findClass "com/example/upshot/upshot/LengthOfPinLaw" = some m.cls := hown0
  have N0 := Fr.nil n0
  obtain ⟨S_s_CHARACTERS, E_s_CHARACTERS, S_s_BYTES, E_s_BYTES, S_s_CHARACTERS_BUT_TRAILING_SPACES, E_s_CHARACTERS_BUT_TRAILING_SPACES, F_s_CHARACTERS_ordinal, F_s_BYTES_ordinal, F_s_CHARACTERS_BUT_TRAILING_SPACES_ordinal, S_CS, H_CS, S_FMT, R_FMT⟩ := (id SB)
  have w4 := hw _ (List.mem_of_getElem? (i := 4) rfl)
  have w12 := hw _ (List.mem_of_getElem? (i := 12) rfl)
  have w13 := hw _ (List.mem_of_getElem? (i := 13) rfl)
  have w14 := hw _ (List.mem_of_getElem? (i := 14) rfl)
  have w15 := hw _ (List.mem_of_getElem? (i := 15) rfl)
  have w16 := hw _ (List.mem_of_getElem? (i := 16) rfl)
  have w17 := hw _ (List.mem_of_getElem? (i := 17) rfl)
  have w38 := hw _ (List.mem_of_getElem? (i := 38) rfl)
  have w40 := hw _ (List.mem_of_getElem? (i := 40) rfl)
  refine o_iloadN X0 hx (hb hby d11_0) rfl ?_
  refine o_ifNo X0 hx (hb hby d11_1) (teq (by decide : (0 : Int32) = (0 : Int32))).2 ?_
  obtain ⟨T1, _, X1, rfl, E1, A1, D1, -, st1⟩ := newO X0 hx hZ hown w12 w13 w14 e0 (g := (mkF m 4 #[.val (.ref ca_), .val (.int (0 : Int32))] [])) rfl (hb hby d11_4) (by decide) (by decide)
  obtain ⟨b1, g1⟩ : ∃ z, z = h0.size := ⟨_, rfl⟩
  rw [← g1] at A1 D1 st1
  have n0_b1 : n0 ≤ b1 := Nat.le_trans (Nat.le_trans (Nat.le_of_eq O0.1.symm) O0.2.1) (Nat.le_trans (Nat.le_refl _) (Nat.le_of_eq g1.symm))
  have H2 := CHv.ext E1 H0
  have F1_coder : Fld Z T1.heap b1 "java/lang/String" "coder" "B" (.int (0 : Int32)) := D1 (Or.inr w38) (ty := .byte) (by decide)
  have F1_value : Fld Z T1.heap b1 "java/lang/String" "value" "[B" .null := D1 (Or.inr w40) (ty := (.array .byte)) (by decide)
  refine ogo (S' := T1.setTop (mkF m 7 #[.val (.ref ca_), .val (.int (0 : Int32))] [(.ref b1)])) st1 ?_
  refine o_dup X1 hx (hb hby d11_7) rfl ?_
  refine o_iconst X1 hx (0 : Int32) (hb hby d11_8) rfl ?_
  obtain ⟨T3, _, k3, X3, rfl, E3, A3, Ex3, st3⟩ := newPE (aty := .char) X1 hx hZ w4 rfl (g := (mkF m 9 #[.val (.ref ca_), .val (.int (0 : Int32))] [(.int (0 : Int32)), (.ref b1), (.ref b1)])) rfl (hb hby d11_9) rfl (by decide) (cap := 0) (by decide) (by decide) (by decide) (by decide) (ad := "[C") rfl
  obtain ⟨b3, g3⟩ : ∃ z, z = T1.heap.size := ⟨_, rfl⟩
  rw [← g3] at A3 Ex3 st3
  have n0_b3 : n0 ≤ b3 := Nat.le_trans (Nat.le_trans (Nat.le_of_eq O0.1.symm) O0.2.1) (Nat.le_trans E1.1 (Nat.le_of_eq g3.symm))
  have H4 := CHv.ext E3 H2
  have V3 : Arv Z T3.heap b3 k3 .char (0 : Int32) [] (.int 0) := (Arv.new A3 (by decide)).pad (pad_rep [] (.int 0) 0)
  refine ogo (S' := T3.setTop (mkF m 11 #[.val (.ref ca_), .val (.int (0 : Int32))] [(.ref b3), (.ref b1), (.ref b1)])) st3 ?_
  obtain ⟨_, _, ⟨T5, L5, kc5, n5⟩, -, X5, hSi5, hgr5, ⟨Lc5, hQ5, l5, y5, z5, C5⟩, st5⟩ := X3.specialBackS hx (y := yM9) rfl hown (mvT hZ w15) (mvT hZ w16) (mvT hZ w17) (by decide) (backOfSH (W := 1) (rm_new1z l Z a0 hw []  b1 b3 k3 T3.heap n0 ((O0.ext E1).ext E3) (Exa.ext E3 A1) (Fld.ext E3 F1_value) (Fld.ext E3 F1_coder) n0_b1 V3) hZ w17 w14 (by decide) (by decide) hEL H4) (g := (mkF m 11 #[.val (.ref ca_), .val (.int (0 : Int32))] [(.ref b3), (.ref b1), (.ref b1)])) rfl (by rw [hml]; rfl) (Steps.refl _) (a := b1) (argsL := [(.ref b3)]) (rest := [(.ref b1)]) (lenOf own_pd7 rfl) rfl (by show 2 * 0 + _ ≤ _; exact Nat.le_of_eq rfl) (hb hby d11_11) (fun _ _ => ⟨rfl, rfl, (by decide : 2 + 4 ≤ _), (by decide : 4 + 8 ≤ _)⟩)
  dsimp only [Pt.U, Pt.locs, Pt.cells, Pt.slots] at X5 l5 y5 z5 st5 hQ5 hSi5 hgr5 C5
  subst l5 y5 z5
  obtain ⟨ba_5, kb_5, rfl, Nq5, K5, p5_0, p5_1, p5_2, p5_3, p5_4⟩ := hQ5
  have N5 := Fr.app N0 Nq5
  have X5 : Stand p l e ({ frames := 3, cells := 6, slots := 12, locals := 43 } : Room) (s.setVm T5.vm) m #[(.ref ca_), (.int (0 : Int32))] below meth c T5 _ _ _ := X5
  have hS5 := foldS hS0 (Nat.le_trans (Nat.zero_le _) (Nat.le_trans E1.1 E3.1)) hSi5 hgr5
  have hZ5 : Z.Warmed39 T5.vm := State.Warmed39.trans (t := s) hZ hSi5.1
  have hown5 : T5.vm.findClass "com/example/upshot/upshot/LengthOfPinLaw" = some m.cls := by rw [hSi5.1.alike.findClass]; exact hown
  have H6 := C5.1
  refine otr (S' := T5.setTop (mkF m 14 #[.val (.ref ca_), .val (.int (0 : Int32))] [(.ref b1)])) st5 ?_
  refine oendS X5 hlk hS5 (Nat.le_refl _) rfl hZ5 hEL hs0 (CHr.trans (CHr.trans (CHr.trans (CHr.refl H0) (CHr.ext E1 H0)) (CHr.ext E3 H2)) C5) (v := some (.ref b1)) (fun h => by rw [hret] at h; cases h) (fun fs hr => retOut X5 hx (t := (.object "java/lang/String")) (i := .areturn) hret rfl (Or.inr (Or.inr (Or.inr (Or.inr ⟨rfl, rfl, rfl⟩)))) (hb hby d11_14) hr) (by decide) (by decide) ?_
  show own_Q_text_0 Z _ _ _ _ _ _ _ _ _ _ _ h0 n0 _ T5.heap _
  exact ⟨b1, ba_5, kb_5, rfl, N5, ((((Keep.refl h0 []).ext E1).ext E3).trans K5 (allS (Or.inr (Nat.le_trans (Nat.le_refl _) (Nat.le_of_eq g1.symm))) all0)), (Nat.le_trans (Nat.le_refl _) (Nat.le_of_eq g1.symm)), (Nat.lt_of_lt_of_le p5_0 (Nat.le_refl _)), p5_2, p5_4, p5_3, p5_1⟩
theorem own_pd8 : parseMethodDescriptor "(C)Ljava/lang/String;" = some ⟨[.char], some (.object "java/lang/String")⟩ := by decide +kernel
theorem d11_15 : decode method_4_code 15 = .ok (.iload_n 1, 1) := by decide +kernel
theorem d11_16 : decode method_4_code 16 = .ok (.iconst 1, 1) := by decide +kernel
theorem d11_17 : decode method_4_code 17 = .ok (.if_icmp .ne 10, 3) := by decide +kernel
theorem d11_20 : decode method_4_code 20 = .ok (.aload_n 0, 1) := by decide +kernel
theorem d11_21 : decode method_4_code 21 = .ok (.iconst 0, 1) := by decide +kernel
theorem d11_22 : decode method_4_code 22 = .ok (.caload, 1) := by decide +kernel
theorem d11_23 : decode method_4_code 23 = .ok (.invokestatic 56, 3) := by decide +kernel
theorem d11_26 : decode method_4_code 26 = .ok (.areturn, 1) := by decide +kernel
def own_Q_text_1 (Z : State) (s_CHARACTERS : Addr) (s_BYTES : Addr) (s_CHARACTERS_BUT_TRAILING_SPACES : Addr) (z_CS : Int32) (v_FMT : Value) (ca_ : Addr) (kc_ : ClassId) (c0_ : Int32) (c1_ : Int32) (c2_ : Int32) (c3_ : Int32) (h0 : Heap) (n0 : Nat) (v : Option Value) (h : Heap) (L : List Loc) : Prop := ∃ x_ : Addr, ∃ ba_ : Addr, ∃ kb_ : ClassId, (v = some (.ref x_)) ∧ (Fr n0 L) ∧ (Keep h0 h []) ∧ (h0.size ≤ x_) ∧ (ba_ < h.size) ∧ (Exa Z h x_ "java/lang/String") ∧ (Fld Z h x_ "java/lang/String" "coder" "B" (.int (0 : Int32))) ∧ (Fld Z h x_ "java/lang/String" "value" "[B" (.ref ba_)) ∧ (Arv Z h ba_ kb_ .byte (1 : Int32) [(.int c0_.toInt8.toInt32)] (.int 0))
set_option maxRecDepth 65536 in
set_option maxHeartbeats 40000000 in
theorem rm_text_1 (l : Launch) (Z : State) (a0 : Array Value) (hw : ∀ d ∈ tables_1, d.before a0 Z = true) (ws : List Jvm.Cond) (s_CHARACTERS : Addr) (s_BYTES : Addr) (s_CHARACTERS_BUT_TRAILING_SPACES : Addr) (z_CS : Int32) (v_FMT : Value) (ca_ : Addr) (kc_ : ClassId) (c0_ : Int32) (c1_ : Int32) (c2_ : Int32) (c3_ : Int32) (h0 : Heap) (n0 : Nat) (SB : own_Start Z s_CHARACTERS s_BYTES s_CHARACTERS_BUT_TRAILING_SPACES z_CS v_FMT) (O0 : Old Z n0 h0) (pr0 : Arv Z h0 ca_ kc_ .char (4 : Int32) [(.int c0_), (.int c1_), (.int c2_), (.int c3_)] (.int 0)) (pr1 : ¬ ((255 : Int32) < c0_)) (pr2 : ¬ ((255 : Int32) < c1_)) (pr3 : ¬ ((255 : Int32) < c2_)) (pr4 : ¬ ((255 : Int32) < c3_)) (pr5 : nar .char c0_ = c0_) (pr6 : nar .char c1_ = c1_) (pr7 : nar .char c2_ = c2_) (pr8 : nar .char c3_ = c3_) :
    oMet l Z yM10 method_4_code 2 (some (.object "java/lang/String")) ws ({ frames := 3, cells := 2, slots := 5, locals := 39 } : Room) 2 5 #[(.ref ca_), (.int (1 : Int32))] h0 (own_Q_text_1 Z s_CHARACTERS s_BYTES s_CHARACTERS_BUT_TRAILING_SPACES z_CS v_FMT ca_ kc_ c0_ c1_ c2_ c3_ h0 n0) := by
  refine oenter own_pn0 #[.val (.ref ca_), .val (.int (1 : Int32))] (fun m => by first | (simp [entryFrame, mkF, argsToLocals, Value.category]; done) | rfl) ?_
  intro p e s m below meth c s₁ X0 hx hZ hby hml hret hown0 hnm hlk e0
  have hown : s.vm.findClass "com/example/upshot/upshot/LengthOfPinLaw" = some m.cls := hown0
  have N0 := Fr.nil n0
  obtain ⟨S_s_CHARACTERS, E_s_CHARACTERS, S_s_BYTES, E_s_BYTES, S_s_CHARACTERS_BUT_TRAILING_SPACES, E_s_CHARACTERS_BUT_TRAILING_SPACES, F_s_CHARACTERS_ordinal, F_s_BYTES_ordinal, F_s_CHARACTERS_BUT_TRAILING_SPACES_ordinal, S_CS, H_CS, S_FMT, R_FMT⟩ := (id SB)
  have w14 := hw _ (List.mem_of_getElem? (i := 14) rfl)
  have w92 := hw _ (List.mem_of_getElem? (i := 92) rfl)
  have w93 := hw _ (List.mem_of_getElem? (i := 93) rfl)
  have w94 := hw _ (List.mem_of_getElem? (i := 94) rfl)
  refine o_iloadN X0 hx (hb hby d11_0) rfl ?_
  refine o_ifYes X0 hx 15 (hb hby d11_1) (feq (by decide : ¬ ((1 : Int32) = (0 : Int32)))).2 (by decide) (by decide) ?_
  refine o_iloadN X0 hx (hb hby d11_15) rfl ?_
  refine o_iconst X0 hx (1 : Int32) (hb hby d11_16) rfl ?_
  refine o_icmpNo X0 hx (hb hby d11_17) (teq (by decide : (1 : Int32) = (1 : Int32))).2 ?_
  refine o_aloadN X0 hx (hb hby d11_20) rfl rfl ?_
  refine o_iconst X0 hx (0 : Int32) (hb hby d11_21) rfl ?_
  obtain ⟨cl1, Ar1, q1, S1, N1z, H1, G1⟩ := (id pr0)
  have hi1 := inb_of (j := (0 : Int32)) S1 ⟨by decide, by decide⟩
  have ha1 := Has.at (v := (.int c0_)) H1 hi1 rfl
  refine ogo (S' := s₁.setTop (mkF m 23 #[.val (.ref ca_), .val (.int (1 : Int32))] [(.int c0_)])) (X0.caload hx (j := (0 : Int32)) (v := (.int c0_)) (by rw [e0]; exact Ar1.1) (State.isArrayOf_alike hZ.alike Ar1.2.1) Ar1.2.2 hi1 ha1 (g := (mkF m 22 #[.val (.ref ca_), .val (.int (1 : Int32))] [(.int (0 : Int32)), (.ref ca_)])) rfl rfl (hb hby d11_22)) ?_
  obtain ⟨_, _, ⟨T2, L2, kc2, n2⟩, -, X2, ⟨Lc2, hQ2, l2, y2, z2⟩, st2⟩ := Jvm.LawKit.callS X0 hx (y := yM4) hown (mvT hZ w92) (mvT hZ w93) (mvT hZ w14) (mvT hZ w94) (by decide) (backOf (W := 0) (rm_valueof l Z a0 hw [] s_CHARACTERS s_BYTES s_CHARACTERS_BUT_TRAILING_SPACES z_CS v_FMT c0_ h0 n0 SB O0 pr1) hZ w94 w14 (by decide) (by decide)) (g := (mkF m 23 #[.val (.ref ca_), .val (.int (1 : Int32))] [(.int c0_)])) rfl (by rw [hml]; rfl) (argsL := [(.int c0_)]) (rest := []) (lenOf own_pd8 rfl) rfl (by show 2 * 0 + _ ≤ _; exact Nat.le_of_eq rfl) (hb hby d11_23) (fun _ _ => ⟨rfl, e0, (by decide : 0 + 2 ≤ _), (by decide : 0 + 5 ≤ _)⟩)
  dsimp only [Pt.U, Pt.locs, Pt.cells, Pt.slots] at X2 l2 y2 z2 st2 hQ2
  subst l2 y2 z2
  obtain ⟨x_2, ba_2, kb_2, rfl, Nq2, K2, p2_0, p2_1, p2_2, p2_3, p2_4, p2_5⟩ := hQ2
  have N2 := Fr.app N0 Nq2
  have n0_x_2 : n0 ≤ x_2 := Nat.le_trans (Nat.le_trans (Nat.le_of_eq O0.1.symm) O0.2.1) (Nat.le_trans (Nat.le_refl _) p2_0)
  have n0_ba_2 : n0 ≤ ba_2 := Nat.le_trans (Nat.le_trans (Nat.le_of_eq O0.1.symm) O0.2.1) (Nat.le_trans (Nat.le_refl _) p2_1)
  refine ogo (S' := T2.setTop (mkF m 26 #[.val (.ref ca_), .val (.int (1 : Int32))] [(.ref x_2)])) st2 ?_
  refine oend X2 hlk (v := some (.ref x_2)) (fun h => by rw [hret] at h; cases h) (fun fs hr => retOut X2 hx (t := (.object "java/lang/String")) (i := .areturn) hret rfl (Or.inr (Or.inr (Or.inr (Or.inr ⟨rfl, rfl, rfl⟩)))) (hb hby d11_26) hr) (by decide) (by decide) ?_
  show own_Q_text_1 Z _ _ _ _ _ _ _ _ _ _ _ h0 n0 _ T2.heap _
  exact ⟨x_2, ba_2, kb_2, rfl, N2, ((Keep.refl h0 []).trans K2 all0), (Nat.le_trans (Nat.le_refl _) p2_0), (Nat.lt_of_lt_of_le p2_5.lt (Nat.le_refl _)), p2_2, p2_3, p2_4, p2_5⟩
theorem d11_27 : decode method_4_code 27 = .ok (.iload_n 1, 1) := by decide +kernel
theorem d11_28 : decode method_4_code 28 = .ok (.iconst 2, 1) := by decide +kernel
theorem d11_29 : decode method_4_code 29 = .ok (.if_icmp .ne 26, 3) := by decide +kernel
theorem d11_32 : decode method_4_code 32 = .ok (.new 51, 3) := by decide +kernel
theorem d11_35 : decode method_4_code 35 = .ok (.dup, 1) := by decide +kernel
theorem d11_36 : decode method_4_code 36 = .ok (.iconst 2, 1) := by decide +kernel
theorem d11_37 : decode method_4_code 37 = .ok (.newarray .char, 2) := by decide +kernel
theorem d11_39 : decode method_4_code 39 = .ok (.dup, 1) := by decide +kernel
theorem d11_40 : decode method_4_code 40 = .ok (.iconst 0, 1) := by decide +kernel
theorem d11_41 : decode method_4_code 41 = .ok (.aload_n 0, 1) := by decide +kernel
theorem d11_42 : decode method_4_code 42 = .ok (.iconst 0, 1) := by decide +kernel
theorem d11_43 : decode method_4_code 43 = .ok (.caload, 1) := by decide +kernel
theorem d11_44 : decode method_4_code 44 = .ok (.castore, 1) := by decide +kernel
theorem d11_45 : decode method_4_code 45 = .ok (.dup, 1) := by decide +kernel
theorem d11_46 : decode method_4_code 46 = .ok (.iconst 1, 1) := by decide +kernel
theorem d11_47 : decode method_4_code 47 = .ok (.aload_n 0, 1) := by decide +kernel
theorem d11_48 : decode method_4_code 48 = .ok (.iconst 1, 1) := by decide +kernel
theorem d11_49 : decode method_4_code 49 = .ok (.caload, 1) := by decide +kernel
theorem d11_50 : decode method_4_code 50 = .ok (.castore, 1) := by decide +kernel
theorem d11_51 : decode method_4_code 51 = .ok (.invokespecial 53, 3) := by decide +kernel
theorem d11_54 : decode method_4_code 54 = .ok (.areturn, 1) := by decide +kernel
def own_Q_text_2 (Z : State) (s_CHARACTERS : Addr) (s_BYTES : Addr) (s_CHARACTERS_BUT_TRAILING_SPACES : Addr) (z_CS : Int32) (v_FMT : Value) (ca_ : Addr) (kc_ : ClassId) (c0_ : Int32) (c1_ : Int32) (c2_ : Int32) (c3_ : Int32) (h0 : Heap) (n0 : Nat) (v : Option Value) (h : Heap) (L : List Loc) : Prop := ∃ x_ : Addr, ∃ ba_ : Addr, ∃ kb_ : ClassId, (v = some (.ref x_)) ∧ (Fr n0 L) ∧ (Keep h0 h []) ∧ (h0.size ≤ x_) ∧ (ba_ < h.size) ∧ (Exa Z h x_ "java/lang/String") ∧ (Fld Z h x_ "java/lang/String" "coder" "B" (.int (0 : Int32))) ∧ (Fld Z h x_ "java/lang/String" "value" "[B" (.ref ba_)) ∧ (Arv Z h ba_ kb_ .byte (2 : Int32) [(.int c0_.toInt8.toInt32), (.int c1_.toInt8.toInt32)] (.int 0))
set_option maxRecDepth 65536 in
set_option maxHeartbeats 40000000 in
theorem rm_text_2 (l : Launch) (Z : State) (a0 : Array Value) (hw : ∀ d ∈ tables_1, d.before a0 Z = true) (ws : List Jvm.Cond) (s_CHARACTERS : Addr) (s_BYTES : Addr) (s_CHARACTERS_BUT_TRAILING_SPACES : Addr) (z_CS : Int32) (v_FMT : Value) (ca_ : Addr) (kc_ : ClassId) (c0_ : Int32) (c1_ : Int32) (c2_ : Int32) (c3_ : Int32) (h0 : Heap) (n0 : Nat) (SB : own_Start Z s_CHARACTERS s_BYTES s_CHARACTERS_BUT_TRAILING_SPACES z_CS v_FMT) (O0 : Old Z n0 h0) (pr0 : Arv Z h0 ca_ kc_ .char (4 : Int32) [(.int c0_), (.int c1_), (.int c2_), (.int c3_)] (.int 0)) (pr1 : ¬ ((255 : Int32) < c0_)) (pr2 : ¬ ((255 : Int32) < c1_)) (pr3 : ¬ ((255 : Int32) < c2_)) (pr4 : ¬ ((255 : Int32) < c3_)) (pr5 : nar .char c0_ = c0_) (pr6 : nar .char c1_ = c1_) (pr7 : nar .char c2_ = c2_) (pr8 : nar .char c3_ = c3_) :
    oMet l Z yM10 method_4_code 2 (some (.object "java/lang/String")) ws ({ frames := 4, cells := 3, slots := 8, locals := 66 } : Room) 3 8 #[(.ref ca_), (.int (2 : Int32))] h0 (own_Q_text_2 Z s_CHARACTERS s_BYTES s_CHARACTERS_BUT_TRAILING_SPACES z_CS v_FMT ca_ kc_ c0_ c1_ c2_ c3_ h0 n0) := by
  refine oenter own_pn0 #[.val (.ref ca_), .val (.int (2 : Int32))] (fun m => by first | (simp [entryFrame, mkF, argsToLocals, Value.category]; done) | rfl) ?_
  intro p e s m below meth c s₁ X0 hx hZ hby hml hret hown0 hnm hlk e0
  have hown : s.vm.findClass "com/example/upshot/upshot/LengthOfPinLaw" = some m.cls := hown0
  have N0 := Fr.nil n0
  obtain ⟨S_s_CHARACTERS, E_s_CHARACTERS, S_s_BYTES, E_s_BYTES, S_s_CHARACTERS_BUT_TRAILING_SPACES, E_s_CHARACTERS_BUT_TRAILING_SPACES, F_s_CHARACTERS_ordinal, F_s_BYTES_ordinal, F_s_CHARACTERS_BUT_TRAILING_SPACES_ordinal, S_CS, H_CS, S_FMT, R_FMT⟩ := (id SB)
  have w4 := hw _ (List.mem_of_getElem? (i := 4) rfl)
  have w12 := hw _ (List.mem_of_getElem? (i := 12) rfl)
  have w13 := hw _ (List.mem_of_getElem? (i := 13) rfl)
  have w14 := hw _ (List.mem_of_getElem? (i := 14) rfl)
  have w15 := hw _ (List.mem_of_getElem? (i := 15) rfl)
  have w16 := hw _ (List.mem_of_getElem? (i := 16) rfl)
  have w17 := hw _ (List.mem_of_getElem? (i := 17) rfl)
  have w38 := hw _ (List.mem_of_getElem? (i := 38) rfl)
  have w40 := hw _ (List.mem_of_getElem? (i := 40) rfl)
  refine o_iloadN X0 hx (hb hby d11_0) rfl ?_
  refine o_ifYes X0 hx 15 (hb hby d11_1) (feq (by decide : ¬ ((2 : Int32) = (0 : Int32)))).2 (by decide) (by decide) ?_
  refine o_iloadN X0 hx (hb hby d11_15) rfl ?_
  refine o_iconst X0 hx (1 : Int32) (hb hby d11_16) rfl ?_
  refine o_icmpYes X0 hx 27 (hb hby d11_17) (feq (by decide : ¬ ((2 : Int32) = (1 : Int32)))).2 (by decide) (by decide) ?_
  refine o_iloadN X0 hx (hb hby d11_27) rfl ?_
  refine o_iconst X0 hx (2 : Int32) (hb hby d11_28) rfl ?_
  refine o_icmpNo X0 hx (hb hby d11_29) (teq (by decide : (2 : Int32) = (2 : Int32))).2 ?_
  obtain ⟨T1, _, X1, rfl, E1, A1, D1, -, st1⟩ := newO X0 hx hZ hown w12 w13 w14 e0 (g := (mkF m 32 #[.val (.ref ca_), .val (.int (2 : Int32))] [])) rfl (hb hby d11_32) (by decide) (by decide)
  obtain ⟨b1, g1⟩ : ∃ z, z = h0.size := ⟨_, rfl⟩
  rw [← g1] at A1 D1 st1
  have n0_b1 : n0 ≤ b1 := Nat.le_trans (Nat.le_trans (Nat.le_of_eq O0.1.symm) O0.2.1) (Nat.le_trans (Nat.le_refl _) (Nat.le_of_eq g1.symm))
  have F1_coder : Fld Z T1.heap b1 "java/lang/String" "coder" "B" (.int (0 : Int32)) := D1 (Or.inr w38) (ty := .byte) (by decide)
  have F1_value : Fld Z T1.heap b1 "java/lang/String" "value" "[B" .null := D1 (Or.inr w40) (ty := (.array .byte)) (by decide)
  refine ogo (S' := T1.setTop (mkF m 35 #[.val (.ref ca_), .val (.int (2 : Int32))] [(.ref b1)])) st1 ?_
  refine o_dup X1 hx (hb hby d11_35) rfl ?_
  refine o_iconst X1 hx (2 : Int32) (hb hby d11_36) rfl ?_
  obtain ⟨T2, _, k2, X2, rfl, E2, A2, Ex2, st2⟩ := newPE (aty := .char) X1 hx hZ w4 rfl (g := (mkF m 37 #[.val (.ref ca_), .val (.int (2 : Int32))] [(.int (2 : Int32)), (.ref b1), (.ref b1)])) rfl (hb hby d11_37) rfl (by decide) (cap := 2) (by decide) (by decide) (by decide) (by decide) (ad := "[C") rfl
  obtain ⟨b2, g2⟩ : ∃ z, z = T1.heap.size := ⟨_, rfl⟩
  rw [← g2] at A2 Ex2 st2
  have n0_b2 : n0 ≤ b2 := Nat.le_trans (Nat.le_trans (Nat.le_of_eq O0.1.symm) O0.2.1) (Nat.le_trans E1.1 (Nat.le_of_eq g2.symm))
  have V2 : Arv Z T2.heap b2 k2 .char (2 : Int32) [(.int 0), (.int 0)] (.int 0) := (Arv.new A2 (by decide)).pad (pad_rep [] (.int 0) 2)
  refine ogo (S' := T2.setTop (mkF m 39 #[.val (.ref ca_), .val (.int (2 : Int32))] [(.ref b2), (.ref b1), (.ref b1)])) st2 ?_
  refine o_dup X2 hx (hb hby d11_39) rfl ?_
  refine o_iconst X2 hx (0 : Int32) (hb hby d11_40) rfl ?_
  refine o_aloadN X2 hx (hb hby d11_41) rfl rfl ?_
  refine o_iconst X2 hx (0 : Int32) (hb hby d11_42) rfl ?_
  obtain ⟨cl3, Ar3, q3, S3, N3z, H3, G3⟩ := (id ((pr0.ext E1).ext E2))
  have hi3 := inb_of (j := (0 : Int32)) S3 ⟨by decide, by decide⟩
  have ha3 := Has.at (v := (.int c0_)) H3 hi3 rfl
  refine ogo (S' := T2.setTop (mkF m 44 #[.val (.ref ca_), .val (.int (2 : Int32))] [(.int c0_), (.int (0 : Int32)), (.ref b2), (.ref b2), (.ref b1), (.ref b1)])) (X2.caload hx (j := (0 : Int32)) (v := (.int c0_)) Ar3.1 (State.isArrayOf_alike hZ.alike Ar3.2.1) Ar3.2.2 hi3 ha3 (g := (mkF m 43 #[.val (.ref ca_), .val (.int (2 : Int32))] [(.int (0 : Int32)), (.ref ca_), (.int (0 : Int32)), (.ref b2), (.ref b2), (.ref b1), (.ref b1)])) rfl rfl (hb hby d11_43)) ?_
  obtain ⟨cl4, Ar4, q4, S4, N4z, H4, G4⟩ := (id V2)
  obtain ⟨T4, _, X4, rfl, W4, st4⟩ := stC X2 hx hZ rfl Ar4 (j := (0 : Int32)) (inb_of S4 ⟨by decide, by decide⟩) (g := (mkF m 44 #[.val (.ref ca_), .val (.int (2 : Int32))] [(.int c0_), (.int (0 : Int32)), (.ref b2), (.ref b2), (.ref b1), (.ref b1)])) rfl rfl (hb hby d11_44)
  rw [pr5] at W4
  have V4 : Arv Z T4.heap b2 k2 .char (2 : Int32) [(.int c0_), (.int 0)] (.int 0) := Arv.set Ar4 q4 S4 N4z H4 G4 (by have q := fits_nar_char c0_; rw [pr5] at q; exact q) W4 0 rfl (Nat.le_of_ble_eq_true rfl)
  have N4 := Fr.snoc X4 N0 n0_b2
  refine ogo (S' := T4.setTop (mkF m 45 #[.val (.ref ca_), .val (.int (2 : Int32))] [(.ref b2), (.ref b1), (.ref b1)])) st4 ?_
  refine o_dup X4 hx (hb hby d11_45) rfl ?_
  refine o_iconst X4 hx (1 : Int32) (hb hby d11_46) rfl ?_
  refine o_aloadN X4 hx (hb hby d11_47) rfl rfl ?_
  refine o_iconst X4 hx (1 : Int32) (hb hby d11_48) rfl ?_
  have c5 := (((pr0.ext E1).ext E2).other W4 (Nat.ne_of_lt (Nat.lt_of_lt_of_le (Nat.lt_of_lt_of_le pr0.lt E1.1) (Nat.le_of_eq g2.symm))))
  obtain ⟨cl6, Ar6, q6, S6, N6z, H6, G6⟩ := (id c5)
  have hi6 := inb_of (j := (1 : Int32)) S6 ⟨by decide, by decide⟩
  have ha6 := Has.at (v := (.int c1_)) H6 hi6 rfl
  refine ogo (S' := T4.setTop (mkF m 50 #[.val (.ref ca_), .val (.int (2 : Int32))] [(.int c1_), (.int (1 : Int32)), (.ref b2), (.ref b2), (.ref b1), (.ref b1)])) (X4.caload hx (j := (1 : Int32)) (v := (.int c1_)) Ar6.1 (State.isArrayOf_alike hZ.alike Ar6.2.1) Ar6.2.2 hi6 ha6 (g := (mkF m 49 #[.val (.ref ca_), .val (.int (2 : Int32))] [(.int (1 : Int32)), (.ref ca_), (.int (1 : Int32)), (.ref b2), (.ref b2), (.ref b1), (.ref b1)])) rfl rfl (hb hby d11_49)) ?_
  obtain ⟨cl7, Ar7, q7, S7, N7z, H7, G7⟩ := (id V4)
  obtain ⟨T7, _, X7, rfl, W7, st7⟩ := stC X4 hx hZ rfl Ar7 (j := (1 : Int32)) (inb_of S7 ⟨by decide, by decide⟩) (g := (mkF m 50 #[.val (.ref ca_), .val (.int (2 : Int32))] [(.int c1_), (.int (1 : Int32)), (.ref b2), (.ref b2), (.ref b1), (.ref b1)])) rfl rfl (hb hby d11_50)
  rw [pr6] at W7
  have V7 : Arv Z T7.heap b2 k2 .char (2 : Int32) [(.int c0_), (.int c1_)] (.int 0) := Arv.set Ar7 q7 S7 N7z H7 G7 (by have q := fits_nar_char c1_; rw [pr6] at q; exact q) W7 1 rfl (Nat.le_of_ble_eq_true rfl)
  have N7 := Fr.snoc X7 N4 n0_b2
  refine ogo (S' := T7.setTop (mkF m 51 #[.val (.ref ca_), .val (.int (2 : Int32))] [(.ref b2), (.ref b1), (.ref b1)])) st7 ?_
  have c9 := (Fld.other W7 (Fld.other W4 (Fld.ext E2 F1_value) (Or.inl (Nat.ne_of_lt (Nat.lt_of_lt_of_le (Nat.lt_of_lt_of_le A1.lt (Nat.le_refl _)) (Nat.le_of_eq g2.symm))))) (Or.inl (Nat.ne_of_lt (Nat.lt_of_lt_of_le (Nat.lt_of_lt_of_le A1.lt (Nat.le_refl _)) (Nat.le_of_eq g2.symm)))))
  have c10 := (Fld.other W7 (Fld.other W4 (Fld.ext E2 F1_coder) (Or.inl (Nat.ne_of_lt (Nat.lt_of_lt_of_le (Nat.lt_of_lt_of_le A1.lt (Nat.le_refl _)) (Nat.le_of_eq g2.symm))))) (Or.inl (Nat.ne_of_lt (Nat.lt_of_lt_of_le (Nat.lt_of_lt_of_le A1.lt (Nat.le_refl _)) (Nat.le_of_eq g2.symm)))))
  obtain ⟨_, _, ⟨T8, L8, kc8, n8⟩, -, X8, ⟨Lc8, hQ8, l8, y8, z8⟩, st8⟩ := X7.specialBack hx (y := yM9) rfl hown (mvT hZ w15) (mvT hZ w16) (mvT hZ w17) (by decide) (backOf (W := 1) (rm_new1_2 l Z a0 hw [] s_CHARACTERS s_BYTES s_CHARACTERS_BUT_TRAILING_SPACES z_CS v_FMT b1 b2 k2 c0_ c1_ T7.heap n0 SB ((((O0.ext E1).ext E2).wr W4 n0_b2).wr W7 n0_b2) (Exa.wr W7 (Exa.wr W4 (Exa.ext E2 A1))) c9 c10 V7 n0_b1 pr1 pr2) hZ w17 w14 (by decide) (by decide)) (g := (mkF m 51 #[.val (.ref ca_), .val (.int (2 : Int32))] [(.ref b2), (.ref b1), (.ref b1)])) rfl (by rw [hml]; rfl) (Steps.refl _) (a := b1) (argsL := [(.ref b2)]) (rest := [(.ref b1)]) (lenOf own_pd7 rfl) rfl (by show 2 * 0 + _ ≤ _; exact Nat.le_of_eq rfl) (hb hby d11_51) (fun _ _ => ⟨rfl, rfl, (by decide : 2 + 1 ≤ _), (by decide : 6 + 2 ≤ _)⟩)
  dsimp only [Pt.U, Pt.locs, Pt.cells, Pt.slots] at X8 l8 y8 z8 st8 hQ8
  subst l8 y8 z8
  obtain ⟨ba_8, kb_8, rfl, Nq8, K8, p8_0, p8_1, p8_2, p8_3, p8_4⟩ := hQ8
  have N8 := Fr.app N7 Nq8
  have n0_ba_8 : n0 ≤ ba_8 := Nat.le_trans (Nat.le_trans (Nat.le_of_eq O0.1.symm) O0.2.1) (Nat.le_trans (Nat.le_trans (Nat.le_trans (Nat.le_trans E1.1 E2.1) (Keep.of_wr W4).1) (Keep.of_wr W7).1) p8_0)
  refine otr (S' := T8.setTop (mkF m 54 #[.val (.ref ca_), .val (.int (2 : Int32))] [(.ref b1)])) st8 ?_
  refine oend X8 hlk (v := some (.ref b1)) (fun h => by rw [hret] at h; cases h) (fun fs hr => retOut X8 hx (t := (.object "java/lang/String")) (i := .areturn) hret rfl (Or.inr (Or.inr (Or.inr (Or.inr ⟨rfl, rfl, rfl⟩)))) (hb hby d11_54) hr) (by decide) (by decide) ?_
  show own_Q_text_2 Z _ _ _ _ _ _ _ _ _ _ _ h0 n0 _ T8.heap _
  exact ⟨b1, ba_8, kb_8, rfl, N8, ((((((Keep.refl h0 []).ext E1).ext E2).wr W4 (Or.inr (Nat.le_trans E1.1 (Nat.le_of_eq g2.symm)))).wr W7 (Or.inr (Nat.le_trans E1.1 (Nat.le_of_eq g2.symm)))).trans K8 (allS (Or.inr (Nat.le_trans (Nat.le_refl _) (Nat.le_of_eq g1.symm))) all0)), (Nat.le_trans (Nat.le_refl _) (Nat.le_of_eq g1.symm)), (Nat.lt_of_lt_of_le p8_1.lt (Nat.le_refl _)), p8_2, p8_4, p8_3, p8_1⟩
theorem d11_55 : decode method_4_code 55 = .ok (.iload_n 1, 1) := by decide +kernel
theorem d11_56 : decode method_4_code 56 = .ok (.iconst 3, 1) := by decide +kernel
theorem d11_57 : decode method_4_code 57 = .ok (.if_icmp .ne 32, 3) := by decide +kernel
theorem d11_60 : decode method_4_code 60 = .ok (.new 51, 3) := by decide +kernel
theorem d11_63 : decode method_4_code 63 = .ok (.dup, 1) := by decide +kernel
theorem d11_64 : decode method_4_code 64 = .ok (.iconst 3, 1) := by decide +kernel
theorem d11_65 : decode method_4_code 65 = .ok (.newarray .char, 2) := by decide +kernel
theorem d11_67 : decode method_4_code 67 = .ok (.dup, 1) := by decide +kernel
theorem d11_68 : decode method_4_code 68 = .ok (.iconst 0, 1) := by decide +kernel
theorem d11_69 : decode method_4_code 69 = .ok (.aload_n 0, 1) := by decide +kernel
theorem d11_70 : decode method_4_code 70 = .ok (.iconst 0, 1) := by decide +kernel
theorem d11_71 : decode method_4_code 71 = .ok (.caload, 1) := by decide +kernel
theorem d11_72 : decode method_4_code 72 = .ok (.castore, 1) := by decide +kernel
theorem d11_73 : decode method_4_code 73 = .ok (.dup, 1) := by decide +kernel
theorem d11_74 : decode method_4_code 74 = .ok (.iconst 1, 1) := by decide +kernel
theorem d11_75 : decode method_4_code 75 = .ok (.aload_n 0, 1) := by decide +kernel
theorem d11_76 : decode method_4_code 76 = .ok (.iconst 1, 1) := by decide +kernel
theorem d11_77 : decode method_4_code 77 = .ok (.caload, 1) := by decide +kernel
theorem d11_78 : decode method_4_code 78 = .ok (.castore, 1) := by decide +kernel
theorem d11_79 : decode method_4_code 79 = .ok (.dup, 1) := by decide +kernel
theorem d11_80 : decode method_4_code 80 = .ok (.iconst 2, 1) := by decide +kernel
theorem d11_81 : decode method_4_code 81 = .ok (.aload_n 0, 1) := by decide +kernel
theorem d11_82 : decode method_4_code 82 = .ok (.iconst 2, 1) := by decide +kernel
theorem d11_83 : decode method_4_code 83 = .ok (.caload, 1) := by decide +kernel
theorem d11_84 : decode method_4_code 84 = .ok (.castore, 1) := by decide +kernel
theorem d11_85 : decode method_4_code 85 = .ok (.invokespecial 53, 3) := by decide +kernel
theorem d11_88 : decode method_4_code 88 = .ok (.areturn, 1) := by decide +kernel
def own_Q_text_3 (Z : State) (s_CHARACTERS : Addr) (s_BYTES : Addr) (s_CHARACTERS_BUT_TRAILING_SPACES : Addr) (z_CS : Int32) (v_FMT : Value) (ca_ : Addr) (kc_ : ClassId) (c0_ : Int32) (c1_ : Int32) (c2_ : Int32) (c3_ : Int32) (h0 : Heap) (n0 : Nat) (v : Option Value) (h : Heap) (L : List Loc) : Prop := ∃ x_ : Addr, ∃ ba_ : Addr, ∃ kb_ : ClassId, (v = some (.ref x_)) ∧ (Fr n0 L) ∧ (Keep h0 h []) ∧ (h0.size ≤ x_) ∧ (ba_ < h.size) ∧ (Exa Z h x_ "java/lang/String") ∧ (Fld Z h x_ "java/lang/String" "coder" "B" (.int (0 : Int32))) ∧ (Fld Z h x_ "java/lang/String" "value" "[B" (.ref ba_)) ∧ (Arv Z h ba_ kb_ .byte (3 : Int32) [(.int c0_.toInt8.toInt32), (.int c1_.toInt8.toInt32), (.int c2_.toInt8.toInt32)] (.int 0))
set_option maxRecDepth 65536 in
set_option maxHeartbeats 40000000 in
theorem rm_text_3 (l : Launch) (Z : State) (a0 : Array Value) (hw : ∀ d ∈ tables_1, d.before a0 Z = true) (ws : List Jvm.Cond) (s_CHARACTERS : Addr) (s_BYTES : Addr) (s_CHARACTERS_BUT_TRAILING_SPACES : Addr) (z_CS : Int32) (v_FMT : Value) (ca_ : Addr) (kc_ : ClassId) (c0_ : Int32) (c1_ : Int32) (c2_ : Int32) (c3_ : Int32) (h0 : Heap) (n0 : Nat) (SB : own_Start Z s_CHARACTERS s_BYTES s_CHARACTERS_BUT_TRAILING_SPACES z_CS v_FMT) (O0 : Old Z n0 h0) (pr0 : Arv Z h0 ca_ kc_ .char (4 : Int32) [(.int c0_), (.int c1_), (.int c2_), (.int c3_)] (.int 0)) (pr1 : ¬ ((255 : Int32) < c0_)) (pr2 : ¬ ((255 : Int32) < c1_)) (pr3 : ¬ ((255 : Int32) < c2_)) (pr4 : ¬ ((255 : Int32) < c3_)) (pr5 : nar .char c0_ = c0_) (pr6 : nar .char c1_ = c1_) (pr7 : nar .char c2_ = c2_) (pr8 : nar .char c3_ = c3_) :
    oMet l Z yM10 method_4_code 2 (some (.object "java/lang/String")) ws ({ frames := 4, cells := 3, slots := 10, locals := 66 } : Room) 3 10 #[(.ref ca_), (.int (3 : Int32))] h0 (own_Q_text_3 Z s_CHARACTERS s_BYTES s_CHARACTERS_BUT_TRAILING_SPACES z_CS v_FMT ca_ kc_ c0_ c1_ c2_ c3_ h0 n0) := by
  refine oenter own_pn0 #[.val (.ref ca_), .val (.int (3 : Int32))] (fun m => by first | (simp [entryFrame, mkF, argsToLocals, Value.category]; done) | rfl) ?_
  intro p e s m below meth c s₁ X0 hx hZ hby hml hret hown0 hnm hlk e0
  have hown : s.vm.findClass "com/example/upshot/upshot/LengthOfPinLaw" = some m.cls := hown0
  have N0 := Fr.nil n0
  obtain ⟨S_s_CHARACTERS, E_s_CHARACTERS, S_s_BYTES, E_s_BYTES, S_s_CHARACTERS_BUT_TRAILING_SPACES, E_s_CHARACTERS_BUT_TRAILING_SPACES, F_s_CHARACTERS_ordinal, F_s_BYTES_ordinal, F_s_CHARACTERS_BUT_TRAILING_SPACES_ordinal, S_CS, H_CS, S_FMT, R_FMT⟩ := (id SB)
  have w4 := hw _ (List.mem_of_getElem? (i := 4) rfl)
  have w12 := hw _ (List.mem_of_getElem? (i := 12) rfl)
  have w13 := hw _ (List.mem_of_getElem? (i := 13) rfl)
  have w14 := hw _ (List.mem_of_getElem? (i := 14) rfl)
  have w15 := hw _ (List.mem_of_getElem? (i := 15) rfl)
  have w16 := hw _ (List.mem_of_getElem? (i := 16) rfl)
  have w17 := hw _ (List.mem_of_getElem? (i := 17) rfl)
  have w38 := hw _ (List.mem_of_getElem? (i := 38) rfl)
  have w40 := hw _ (List.mem_of_getElem? (i := 40) rfl)
  refine o_iloadN X0 hx (hb hby d11_0) rfl ?_
  refine o_ifYes X0 hx 15 (hb hby d11_1) (feq (by decide : ¬ ((3 : Int32) = (0 : Int32)))).2 (by decide) (by decide) ?_
  refine o_iloadN X0 hx (hb hby d11_15) rfl ?_
  refine o_iconst X0 hx (1 : Int32) (hb hby d11_16) rfl ?_
  refine o_icmpYes X0 hx 27 (hb hby d11_17) (feq (by decide : ¬ ((3 : Int32) = (1 : Int32)))).2 (by decide) (by decide) ?_
  refine o_iloadN X0 hx (hb hby d11_27) rfl ?_
  refine o_iconst X0 hx (2 : Int32) (hb hby d11_28) rfl ?_
  refine o_icmpYes X0 hx 55 (hb hby d11_29) (feq (by decide : ¬ ((3 : Int32) = (2 : Int32)))).2 (by decide) (by decide) ?_
  refine o_iloadN X0 hx (hb hby d11_55) rfl ?_
  refine o_iconst X0 hx (3 : Int32) (hb hby d11_56) rfl ?_
  refine o_icmpNo X0 hx (hb hby d11_57) (teq (by decide : (3 : Int32) = (3 : Int32))).2 ?_
  obtain ⟨T1, _, X1, rfl, E1, A1, D1, -, st1⟩ := newO X0 hx hZ hown w12 w13 w14 e0 (g := (mkF m 60 #[.val (.ref ca_), .val (.int (3 : Int32))] [])) rfl (hb hby d11_60) (by decide) (by decide)
  obtain ⟨b1, g1⟩ : ∃ z, z = h0.size := ⟨_, rfl⟩
  rw [← g1] at A1 D1 st1
  have n0_b1 : n0 ≤ b1 := Nat.le_trans (Nat.le_trans (Nat.le_of_eq O0.1.symm) O0.2.1) (Nat.le_trans (Nat.le_refl _) (Nat.le_of_eq g1.symm))
  have F1_coder : Fld Z T1.heap b1 "java/lang/String" "coder" "B" (.int (0 : Int32)) := D1 (Or.inr w38) (ty := .byte) (by decide)
  have F1_value : Fld Z T1.heap b1 "java/lang/String" "value" "[B" .null := D1 (Or.inr w40) (ty := (.array .byte)) (by decide)
  refine ogo (S' := T1.setTop (mkF m 63 #[.val (.ref ca_), .val (.int (3 : Int32))] [(.ref b1)])) st1 ?_
  refine o_dup X1 hx (hb hby d11_63) rfl ?_
  refine o_iconst X1 hx (3 : Int32) (hb hby d11_64) rfl ?_
  obtain ⟨T2, _, k2, X2, rfl, E2, A2, Ex2, st2⟩ := newPE (aty := .char) X1 hx hZ w4 rfl (g := (mkF m 65 #[.val (.ref ca_), .val (.int (3 : Int32))] [(.int (3 : Int32)), (.ref b1), (.ref b1)])) rfl (hb hby d11_65) rfl (by decide) (cap := 3) (by decide) (by decide) (by decide) (by decide) (ad := "[C") rfl
  obtain ⟨b2, g2⟩ : ∃ z, z = T1.heap.size := ⟨_, rfl⟩
  rw [← g2] at A2 Ex2 st2
  have n0_b2 : n0 ≤ b2 := Nat.le_trans (Nat.le_trans (Nat.le_of_eq O0.1.symm) O0.2.1) (Nat.le_trans E1.1 (Nat.le_of_eq g2.symm))
  have V2 : Arv Z T2.heap b2 k2 .char (3 : Int32) [(.int 0), (.int 0), (.int 0)] (.int 0) := (Arv.new A2 (by decide)).pad (pad_rep [] (.int 0) 3)
  refine ogo (S' := T2.setTop (mkF m 67 #[.val (.ref ca_), .val (.int (3 : Int32))] [(.ref b2), (.ref b1), (.ref b1)])) st2 ?_
  refine o_dup X2 hx (hb hby d11_67) rfl ?_
  refine o_iconst X2 hx (0 : Int32) (hb hby d11_68) rfl ?_
  refine o_aloadN X2 hx (hb hby d11_69) rfl rfl ?_
  refine o_iconst X2 hx (0 : Int32) (hb hby d11_70) rfl ?_
  obtain ⟨cl3, Ar3, q3, S3, N3z, H3, G3⟩ := (id ((pr0.ext E1).ext E2))
  have hi3 := inb_of (j := (0 : Int32)) S3 ⟨by decide, by decide⟩
  have ha3 := Has.at (v := (.int c0_)) H3 hi3 rfl
  refine ogo (S' := T2.setTop (mkF m 72 #[.val (.ref ca_), .val (.int (3 : Int32))] [(.int c0_), (.int (0 : Int32)), (.ref b2), (.ref b2), (.ref b1), (.ref b1)])) (X2.caload hx (j := (0 : Int32)) (v := (.int c0_)) Ar3.1 (State.isArrayOf_alike hZ.alike Ar3.2.1) Ar3.2.2 hi3 ha3 (g := (mkF m 71 #[.val (.ref ca_), .val (.int (3 : Int32))] [(.int (0 : Int32)), (.ref ca_), (.int (0 : Int32)), (.ref b2), (.ref b2), (.ref b1), (.ref b1)])) rfl rfl (hb hby d11_71)) ?_
  obtain ⟨cl4, Ar4, q4, S4, N4z, H4, G4⟩ := (id V2)
  obtain ⟨T4, _, X4, rfl, W4, st4⟩ := stC X2 hx hZ rfl Ar4 (j := (0 : Int32)) (inb_of S4 ⟨by decide, by decide⟩) (g := (mkF m 72 #[.val (.ref ca_), .val (.int (3 : Int32))] [(.int c0_), (.int (0 : Int32)), (.ref b2), (.ref b2), (.ref b1), (.ref b1)])) rfl rfl (hb hby d11_72)
  rw [pr5] at W4
  have V4 : Arv Z T4.heap b2 k2 .char (3 : Int32) [(.int c0_), (.int 0), (.int 0)] (.int 0) := Arv.set Ar4 q4 S4 N4z H4 G4 (by have q := fits_nar_char c0_; rw [pr5] at q; exact q) W4 0 rfl (Nat.le_of_ble_eq_true rfl)
  have N4 := Fr.snoc X4 N0 n0_b2
  refine ogo (S' := T4.setTop (mkF m 73 #[.val (.ref ca_), .val (.int (3 : Int32))] [(.ref b2), (.ref b1), (.ref b1)])) st4 ?_
  refine o_dup X4 hx (hb hby d11_73) rfl ?_
  refine o_iconst X4 hx (1 : Int32) (hb hby d11_74) rfl ?_
  refine o_aloadN X4 hx (hb hby d11_75) rfl rfl ?_
  refine o_iconst X4 hx (1 : Int32) (hb hby d11_76) rfl ?_
  have c5 := (((pr0.ext E1).ext E2).other W4 (Nat.ne_of_lt (Nat.lt_of_lt_of_le (Nat.lt_of_lt_of_le pr0.lt E1.1) (Nat.le_of_eq g2.symm))))
  obtain ⟨cl6, Ar6, q6, S6, N6z, H6, G6⟩ := (id c5)
  have hi6 := inb_of (j := (1 : Int32)) S6 ⟨by decide, by decide⟩
  have ha6 := Has.at (v := (.int c1_)) H6 hi6 rfl
  refine ogo (S' := T4.setTop (mkF m 78 #[.val (.ref ca_), .val (.int (3 : Int32))] [(.int c1_), (.int (1 : Int32)), (.ref b2), (.ref b2), (.ref b1), (.ref b1)])) (X4.caload hx (j := (1 : Int32)) (v := (.int c1_)) Ar6.1 (State.isArrayOf_alike hZ.alike Ar6.2.1) Ar6.2.2 hi6 ha6 (g := (mkF m 77 #[.val (.ref ca_), .val (.int (3 : Int32))] [(.int (1 : Int32)), (.ref ca_), (.int (1 : Int32)), (.ref b2), (.ref b2), (.ref b1), (.ref b1)])) rfl rfl (hb hby d11_77)) ?_
  obtain ⟨cl7, Ar7, q7, S7, N7z, H7, G7⟩ := (id V4)
  obtain ⟨T7, _, X7, rfl, W7, st7⟩ := stC X4 hx hZ rfl Ar7 (j := (1 : Int32)) (inb_of S7 ⟨by decide, by decide⟩) (g := (mkF m 78 #[.val (.ref ca_), .val (.int (3 : Int32))] [(.int c1_), (.int (1 : Int32)), (.ref b2), (.ref b2), (.ref b1), (.ref b1)])) rfl rfl (hb hby d11_78)
  rw [pr6] at W7
  have V7 : Arv Z T7.heap b2 k2 .char (3 : Int32) [(.int c0_), (.int c1_), (.int 0)] (.int 0) := Arv.set Ar7 q7 S7 N7z H7 G7 (by have q := fits_nar_char c1_; rw [pr6] at q; exact q) W7 1 rfl (Nat.le_of_ble_eq_true rfl)
  have N7 := Fr.snoc X7 N4 n0_b2
  refine ogo (S' := T7.setTop (mkF m 79 #[.val (.ref ca_), .val (.int (3 : Int32))] [(.ref b2), (.ref b1), (.ref b1)])) st7 ?_
  refine o_dup X7 hx (hb hby d11_79) rfl ?_
  refine o_iconst X7 hx (2 : Int32) (hb hby d11_80) rfl ?_
  refine o_aloadN X7 hx (hb hby d11_81) rfl rfl ?_
  refine o_iconst X7 hx (2 : Int32) (hb hby d11_82) rfl ?_
  have c8 := (c5.other W7 (Nat.ne_of_lt (Nat.lt_of_lt_of_le (Nat.lt_of_lt_of_le pr0.lt E1.1) (Nat.le_of_eq g2.symm))))
  obtain ⟨cl9, Ar9, q9, S9, N9z, H9, G9⟩ := (id c8)
  have hi9 := inb_of (j := (2 : Int32)) S9 ⟨by decide, by decide⟩
  have ha9 := Has.at (v := (.int c2_)) H9 hi9 rfl
  refine ogo (S' := T7.setTop (mkF m 84 #[.val (.ref ca_), .val (.int (3 : Int32))] [(.int c2_), (.int (2 : Int32)), (.ref b2), (.ref b2), (.ref b1), (.ref b1)])) (X7.caload hx (j := (2 : Int32)) (v := (.int c2_)) Ar9.1 (State.isArrayOf_alike hZ.alike Ar9.2.1) Ar9.2.2 hi9 ha9 (g := (mkF m 83 #[.val (.ref ca_), .val (.int (3 : Int32))] [(.int (2 : Int32)), (.ref ca_), (.int (2 : Int32)), (.ref b2), (.ref b2), (.ref b1), (.ref b1)])) rfl rfl (hb hby d11_83)) ?_
  obtain ⟨cl10, Ar10, q10, S10, N10z, H10, G10⟩ := (id V7)
  obtain ⟨T10, _, X10, rfl, W10, st10⟩ := stC X7 hx hZ rfl Ar10 (j := (2 : Int32)) (inb_of S10 ⟨by decide, by decide⟩) (g := (mkF m 84 #[.val (.ref ca_), .val (.int (3 : Int32))] [(.int c2_), (.int (2 : Int32)), (.ref b2), (.ref b2), (.ref b1), (.ref b1)])) rfl rfl (hb hby d11_84)
  rw [pr7] at W10
  have V10 : Arv Z T10.heap b2 k2 .char (3 : Int32) [(.int c0_), (.int c1_), (.int c2_)] (.int 0) := Arv.set Ar10 q10 S10 N10z H10 G10 (by have q := fits_nar_char c2_; rw [pr7] at q; exact q) W10 2 rfl (Nat.le_of_ble_eq_true rfl)
  have N10 := Fr.snoc X10 N7 n0_b2
  refine ogo (S' := T10.setTop (mkF m 85 #[.val (.ref ca_), .val (.int (3 : Int32))] [(.ref b2), (.ref b1), (.ref b1)])) st10 ?_
  have c12 := (((((O0.ext E1).ext E2).wr W4 n0_b2).wr W7 n0_b2).wr W10 n0_b2)
  have c13 := (Fld.other W10 (Fld.other W7 (Fld.other W4 (Fld.ext E2 F1_value) (Or.inl (Nat.ne_of_lt (Nat.lt_of_lt_of_le (Nat.lt_of_lt_of_le A1.lt (Nat.le_refl _)) (Nat.le_of_eq g2.symm))))) (Or.inl (Nat.ne_of_lt (Nat.lt_of_lt_of_le (Nat.lt_of_lt_of_le A1.lt (Nat.le_refl _)) (Nat.le_of_eq g2.symm))))) (Or.inl (Nat.ne_of_lt (Nat.lt_of_lt_of_le (Nat.lt_of_lt_of_le A1.lt (Nat.le_refl _)) (Nat.le_of_eq g2.symm)))))
  have c14 := (Fld.other W10 (Fld.other W7 (Fld.other W4 (Fld.ext E2 F1_coder) (Or.inl (Nat.ne_of_lt (Nat.lt_of_lt_of_le (Nat.lt_of_lt_of_le A1.lt (Nat.le_refl _)) (Nat.le_of_eq g2.symm))))) (Or.inl (Nat.ne_of_lt (Nat.lt_of_lt_of_le (Nat.lt_of_lt_of_le A1.lt (Nat.le_refl _)) (Nat.le_of_eq g2.symm))))) (Or.inl (Nat.ne_of_lt (Nat.lt_of_lt_of_le (Nat.lt_of_lt_of_le A1.lt (Nat.le_refl _)) (Nat.le_of_eq g2.symm)))))
  obtain ⟨_, _, ⟨T11, L11, kc11, n11⟩, -, X11, ⟨Lc11, hQ11, l11, y11, z11⟩, st11⟩ := X10.specialBack hx (y := yM9) rfl hown (mvT hZ w15) (mvT hZ w16) (mvT hZ w17) (by decide) (backOf (W := 1) (rm_new1_3 l Z a0 hw [] s_CHARACTERS s_BYTES s_CHARACTERS_BUT_TRAILING_SPACES z_CS v_FMT b1 b2 k2 c0_ c1_ c2_ T10.heap n0 SB c12 (Exa.wr W10 (Exa.wr W7 (Exa.wr W4 (Exa.ext E2 A1)))) c13 c14 V10 n0_b1 pr1 pr2 pr3) hZ w17 w14 (by decide) (by decide)) (g := (mkF m 85 #[.val (.ref ca_), .val (.int (3 : Int32))] [(.ref b2), (.ref b1), (.ref b1)])) rfl (by rw [hml]; rfl) (Steps.refl _) (a := b1) (argsL := [(.ref b2)]) (rest := [(.ref b1)]) (lenOf own_pd7 rfl) rfl (by show 2 * 0 + _ ≤ _; exact Nat.le_of_eq rfl) (hb hby d11_85) (fun _ _ => ⟨rfl, rfl, (by decide : 2 + 1 ≤ _), (by decide : 7 + 3 ≤ _)⟩)
  dsimp only [Pt.U, Pt.locs, Pt.cells, Pt.slots] at X11 l11 y11 z11 st11 hQ11
  subst l11 y11 z11
  obtain ⟨ba_11, kb_11, rfl, Nq11, K11, p11_0, p11_1, p11_2, p11_3, p11_4⟩ := hQ11
  have N11 := Fr.app N10 Nq11
  have n0_ba_11 : n0 ≤ ba_11 := Nat.le_trans (Nat.le_trans (Nat.le_of_eq O0.1.symm) O0.2.1) (Nat.le_trans (Nat.le_trans (Nat.le_trans (Nat.le_trans (Nat.le_trans E1.1 E2.1) (Keep.of_wr W4).1) (Keep.of_wr W7).1) (Keep.of_wr W10).1) p11_0)
  refine otr (S' := T11.setTop (mkF m 88 #[.val (.ref ca_), .val (.int (3 : Int32))] [(.ref b1)])) st11 ?_
  refine oend X11 hlk (v := some (.ref b1)) (fun h => by rw [hret] at h; cases h) (fun fs hr => retOut X11 hx (t := (.object "java/lang/String")) (i := .areturn) hret rfl (Or.inr (Or.inr (Or.inr (Or.inr ⟨rfl, rfl, rfl⟩)))) (hb hby d11_88) hr) (by decide) (by decide) ?_
  show own_Q_text_3 Z _ _ _ _ _ _ _ _ _ _ _ h0 n0 _ T11.heap _
  exact ⟨b1, ba_11, kb_11, rfl, N11, (((((((Keep.refl h0 []).ext E1).ext E2).wr W4 (Or.inr (Nat.le_trans E1.1 (Nat.le_of_eq g2.symm)))).wr W7 (Or.inr (Nat.le_trans E1.1 (Nat.le_of_eq g2.symm)))).wr W10 (Or.inr (Nat.le_trans E1.1 (Nat.le_of_eq g2.symm)))).trans K11 (allS (Or.inr (Nat.le_trans (Nat.le_refl _) (Nat.le_of_eq g1.symm))) all0)), (Nat.le_trans (Nat.le_refl _) (Nat.le_of_eq g1.symm)), (Nat.lt_of_lt_of_le p11_1.lt (Nat.le_refl _)), p11_2, p11_4, p11_3, p11_1⟩
theorem d11_89 : decode method_4_code 89 = .ok (.new 51, 3) := by decide +kernel
theorem d11_92 : decode method_4_code 92 = .ok (.dup, 1) := by decide +kernel
theorem d11_93 : decode method_4_code 93 = .ok (.iconst 4, 1) := by decide +kernel
theorem d11_94 : decode method_4_code 94 = .ok (.newarray .char, 2) := by decide +kernel
theorem d11_96 : decode method_4_code 96 = .ok (.dup, 1) := by decide +kernel
theorem d11_97 : decode method_4_code 97 = .ok (.iconst 0, 1) := by decide +kernel
theorem d11_98 : decode method_4_code 98 = .ok (.aload_n 0, 1) := by decide +kernel
theorem d11_99 : decode method_4_code 99 = .ok (.iconst 0, 1) := by decide +kernel
theorem d11_100 : decode method_4_code 100 = .ok (.caload, 1) := by decide +kernel
theorem d11_101 : decode method_4_code 101 = .ok (.castore, 1) := by decide +kernel
theorem d11_102 : decode method_4_code 102 = .ok (.dup, 1) := by decide +kernel
theorem d11_103 : decode method_4_code 103 = .ok (.iconst 1, 1) := by decide +kernel
theorem d11_104 : decode method_4_code 104 = .ok (.aload_n 0, 1) := by decide +kernel
theorem d11_105 : decode method_4_code 105 = .ok (.iconst 1, 1) := by decide +kernel
theorem d11_106 : decode method_4_code 106 = .ok (.caload, 1) := by decide +kernel
theorem d11_107 : decode method_4_code 107 = .ok (.castore, 1) := by decide +kernel
theorem d11_108 : decode method_4_code 108 = .ok (.dup, 1) := by decide +kernel
theorem d11_109 : decode method_4_code 109 = .ok (.iconst 2, 1) := by decide +kernel
theorem d11_110 : decode method_4_code 110 = .ok (.aload_n 0, 1) := by decide +kernel
theorem d11_111 : decode method_4_code 111 = .ok (.iconst 2, 1) := by decide +kernel
theorem d11_112 : decode method_4_code 112 = .ok (.caload, 1) := by decide +kernel
theorem d11_113 : decode method_4_code 113 = .ok (.castore, 1) := by decide +kernel
theorem d11_114 : decode method_4_code 114 = .ok (.dup, 1) := by decide +kernel
theorem d11_115 : decode method_4_code 115 = .ok (.iconst 3, 1) := by decide +kernel
theorem d11_116 : decode method_4_code 116 = .ok (.aload_n 0, 1) := by decide +kernel
theorem d11_117 : decode method_4_code 117 = .ok (.iconst 3, 1) := by decide +kernel
theorem d11_118 : decode method_4_code 118 = .ok (.caload, 1) := by decide +kernel
theorem d11_119 : decode method_4_code 119 = .ok (.castore, 1) := by decide +kernel
theorem d11_120 : decode method_4_code 120 = .ok (.invokespecial 53, 3) := by decide +kernel
theorem d11_123 : decode method_4_code 123 = .ok (.areturn, 1) := by decide +kernel
def own_Q_text_4 (Z : State) (s_CHARACTERS : Addr) (s_BYTES : Addr) (s_CHARACTERS_BUT_TRAILING_SPACES : Addr) (z_CS : Int32) (v_FMT : Value) (ca_ : Addr) (kc_ : ClassId) (c0_ : Int32) (c1_ : Int32) (c2_ : Int32) (c3_ : Int32) (h0 : Heap) (n0 : Nat) (v : Option Value) (h : Heap) (L : List Loc) : Prop := ∃ x_ : Addr, ∃ ba_ : Addr, ∃ kb_ : ClassId, (v = some (.ref x_)) ∧ (Fr n0 L) ∧ (Keep h0 h []) ∧ (h0.size ≤ x_) ∧ (ba_ < h.size) ∧ (Exa Z h x_ "java/lang/String") ∧ (Fld Z h x_ "java/lang/String" "coder" "B" (.int (0 : Int32))) ∧ (Fld Z h x_ "java/lang/String" "value" "[B" (.ref ba_)) ∧ (Arv Z h ba_ kb_ .byte (4 : Int32) [(.int c0_.toInt8.toInt32), (.int c1_.toInt8.toInt32), (.int c2_.toInt8.toInt32), (.int c3_.toInt8.toInt32)] (.int 0))
set_option maxRecDepth 65536 in
set_option maxHeartbeats 40000000 in
theorem rm_text_4 (l : Launch) (Z : State) (a0 : Array Value) (hw : ∀ d ∈ tables_1, d.before a0 Z = true) (ws : List Jvm.Cond) (s_CHARACTERS : Addr) (s_BYTES : Addr) (s_CHARACTERS_BUT_TRAILING_SPACES : Addr) (z_CS : Int32) (v_FMT : Value) (ca_ : Addr) (kc_ : ClassId) (c0_ : Int32) (c1_ : Int32) (c2_ : Int32) (c3_ : Int32) (h0 : Heap) (n0 : Nat) (SB : own_Start Z s_CHARACTERS s_BYTES s_CHARACTERS_BUT_TRAILING_SPACES z_CS v_FMT) (O0 : Old Z n0 h0) (pr0 : Arv Z h0 ca_ kc_ .char (4 : Int32) [(.int c0_), (.int c1_), (.int c2_), (.int c3_)] (.int 0)) (pr1 : ¬ ((255 : Int32) < c0_)) (pr2 : ¬ ((255 : Int32) < c1_)) (pr3 : ¬ ((255 : Int32) < c2_)) (pr4 : ¬ ((255 : Int32) < c3_)) (pr5 : nar .char c0_ = c0_) (pr6 : nar .char c1_ = c1_) (pr7 : nar .char c2_ = c2_) (pr8 : nar .char c3_ = c3_) :
    oMet l Z yM10 method_4_code 2 (some (.object "java/lang/String")) ws ({ frames := 4, cells := 3, slots := 12, locals := 66 } : Room) 3 12 #[(.ref ca_), (.int (4 : Int32))] h0 (own_Q_text_4 Z s_CHARACTERS s_BYTES s_CHARACTERS_BUT_TRAILING_SPACES z_CS v_FMT ca_ kc_ c0_ c1_ c2_ c3_ h0 n0) := by
  refine oenter own_pn0 #[.val (.ref ca_), .val (.int (4 : Int32))] (fun m => by first | (simp [entryFrame, mkF, argsToLocals, Value.category]; done) | rfl) ?_
  intro p e s m below meth c s₁ X0 hx hZ hby hml hret hown0 hnm hlk e0
  have hown : s.vm.findClass "com/example/upshot/upshot/LengthOfPinLaw" = some m.cls := hown0
  have N0 := Fr.nil n0
  obtain ⟨S_s_CHARACTERS, E_s_CHARACTERS, S_s_BYTES, E_s_BYTES, S_s_CHARACTERS_BUT_TRAILING_SPACES, E_s_CHARACTERS_BUT_TRAILING_SPACES, F_s_CHARACTERS_ordinal, F_s_BYTES_ordinal, F_s_CHARACTERS_BUT_TRAILING_SPACES_ordinal, S_CS, H_CS, S_FMT, R_FMT⟩ := (id SB)
  have w4 := hw _ (List.mem_of_getElem? (i := 4) rfl)
  have w12 := hw _ (List.mem_of_getElem? (i := 12) rfl)
  have w13 := hw _ (List.mem_of_getElem? (i := 13) rfl)
  have w14 := hw _ (List.mem_of_getElem? (i := 14) rfl)
  have w15 := hw _ (List.mem_of_getElem? (i := 15) rfl)
  have w16 := hw _ (List.mem_of_getElem? (i := 16) rfl)
  have w17 := hw _ (List.mem_of_getElem? (i := 17) rfl)
  have w38 := hw _ (List.mem_of_getElem? (i := 38) rfl)
  have w40 := hw _ (List.mem_of_getElem? (i := 40) rfl)
  refine o_iloadN X0 hx (hb hby d11_0) rfl ?_
  refine o_ifYes X0 hx 15 (hb hby d11_1) (feq (by decide : ¬ ((4 : Int32) = (0 : Int32)))).2 (by decide) (by decide) ?_
  refine o_iloadN X0 hx (hb hby d11_15) rfl ?_
  refine o_iconst X0 hx (1 : Int32) (hb hby d11_16) rfl ?_
  refine o_icmpYes X0 hx 27 (hb hby d11_17) (feq (by decide : ¬ ((4 : Int32) = (1 : Int32)))).2 (by decide) (by decide) ?_
  refine o_iloadN X0 hx (hb hby d11_27) rfl ?_
  refine o_iconst X0 hx (2 : Int32) (hb hby d11_28) rfl ?_
  refine o_icmpYes X0 hx 55 (hb hby d11_29) (feq (by decide : ¬ ((4 : Int32) = (2 : Int32)))).2 (by decide) (by decide) ?_
  refine o_iloadN X0 hx (hb hby d11_55) rfl ?_
  refine o_iconst X0 hx (3 : Int32) (hb hby d11_56) rfl ?_
  refine o_icmpYes X0 hx 89 (hb hby d11_57) (feq (by decide : ¬ ((4 : Int32) = (3 : Int32)))).2 (by decide) (by decide) ?_
  obtain ⟨T1, _, X1, rfl, E1, A1, D1, -, st1⟩ := newO X0 hx hZ hown w12 w13 w14 e0 (g := (mkF m 89 #[.val (.ref ca_), .val (.int (4 : Int32))] [])) rfl (hb hby d11_89) (by decide) (by decide)
  obtain ⟨b1, g1⟩ : ∃ z, z = h0.size := ⟨_, rfl⟩
  rw [← g1] at A1 D1 st1
  have n0_b1 : n0 ≤ b1 := Nat.le_trans (Nat.le_trans (Nat.le_of_eq O0.1.symm) O0.2.1) (Nat.le_trans (Nat.le_refl _) (Nat.le_of_eq g1.symm))
  have F1_coder : Fld Z T1.heap b1 "java/lang/String" "coder" "B" (.int (0 : Int32)) := D1 (Or.inr w38) (ty := .byte) (by decide)
  have F1_value : Fld Z T1.heap b1 "java/lang/String" "value" "[B" .null := D1 (Or.inr w40) (ty := (.array .byte)) (by decide)
  refine ogo (S' := T1.setTop (mkF m 92 #[.val (.ref ca_), .val (.int (4 : Int32))] [(.ref b1)])) st1 ?_
  refine o_dup X1 hx (hb hby d11_92) rfl ?_
  refine o_iconst X1 hx (4 : Int32) (hb hby d11_93) rfl ?_
  obtain ⟨T2, _, k2, X2, rfl, E2, A2, Ex2, st2⟩ := newPE (aty := .char) X1 hx hZ w4 rfl (g := (mkF m 94 #[.val (.ref ca_), .val (.int (4 : Int32))] [(.int (4 : Int32)), (.ref b1), (.ref b1)])) rfl (hb hby d11_94) rfl (by decide) (cap := 4) (by decide) (by decide) (by decide) (by decide) (ad := "[C") rfl
  obtain ⟨b2, g2⟩ : ∃ z, z = T1.heap.size := ⟨_, rfl⟩
  rw [← g2] at A2 Ex2 st2
  have n0_b2 : n0 ≤ b2 := Nat.le_trans (Nat.le_trans (Nat.le_of_eq O0.1.symm) O0.2.1) (Nat.le_trans E1.1 (Nat.le_of_eq g2.symm))
  have V2 : Arv Z T2.heap b2 k2 .char (4 : Int32) [(.int 0), (.int 0), (.int 0), (.int 0)] (.int 0) := (Arv.new A2 (by decide)).pad (pad_rep [] (.int 0) 4)
  refine ogo (S' := T2.setTop (mkF m 96 #[.val (.ref ca_), .val (.int (4 : Int32))] [(.ref b2), (.ref b1), (.ref b1)])) st2 ?_
  refine o_dup X2 hx (hb hby d11_96) rfl ?_
  refine o_iconst X2 hx (0 : Int32) (hb hby d11_97) rfl ?_
  refine o_aloadN X2 hx (hb hby d11_98) rfl rfl ?_
  refine o_iconst X2 hx (0 : Int32) (hb hby d11_99) rfl ?_
  obtain ⟨cl3, Ar3, q3, S3, N3z, H3, G3⟩ := (id ((pr0.ext E1).ext E2))
  have hi3 := inb_of (j := (0 : Int32)) S3 ⟨by decide, by decide⟩
  have ha3 := Has.at (v := (.int c0_)) H3 hi3 rfl
  refine ogo (S' := T2.setTop (mkF m 101 #[.val (.ref ca_), .val (.int (4 : Int32))] [(.int c0_), (.int (0 : Int32)), (.ref b2), (.ref b2), (.ref b1), (.ref b1)])) (X2.caload hx (j := (0 : Int32)) (v := (.int c0_)) Ar3.1 (State.isArrayOf_alike hZ.alike Ar3.2.1) Ar3.2.2 hi3 ha3 (g := (mkF m 100 #[.val (.ref ca_), .val (.int (4 : Int32))] [(.int (0 : Int32)), (.ref ca_), (.int (0 : Int32)), (.ref b2), (.ref b2), (.ref b1), (.ref b1)])) rfl rfl (hb hby d11_100)) ?_
  obtain ⟨cl4, Ar4, q4, S4, N4z, H4, G4⟩ := (id V2)
  obtain ⟨T4, _, X4, rfl, W4, st4⟩ := stC X2 hx hZ rfl Ar4 (j := (0 : Int32)) (inb_of S4 ⟨by decide, by decide⟩) (g := (mkF m 101 #[.val (.ref ca_), .val (.int (4 : Int32))] [(.int c0_), (.int (0 : Int32)), (.ref b2), (.ref b2), (.ref b1), (.ref b1)])) rfl rfl (hb hby d11_101)
  rw [pr5] at W4
  have V4 : Arv Z T4.heap b2 k2 .char (4 : Int32) [(.int c0_), (.int 0), (.int 0), (.int 0)] (.int 0) := Arv.set Ar4 q4 S4 N4z H4 G4 (by have q := fits_nar_char c0_; rw [pr5] at q; exact q) W4 0 rfl (Nat.le_of_ble_eq_true rfl)
  have N4 := Fr.snoc X4 N0 n0_b2
  refine ogo (S' := T4.setTop (mkF m 102 #[.val (.ref ca_), .val (.int (4 : Int32))] [(.ref b2), (.ref b1), (.ref b1)])) st4 ?_
  refine o_dup X4 hx (hb hby d11_102) rfl ?_
  refine o_iconst X4 hx (1 : Int32) (hb hby d11_103) rfl ?_
  refine o_aloadN X4 hx (hb hby d11_104) rfl rfl ?_
  refine o_iconst X4 hx (1 : Int32) (hb hby d11_105) rfl ?_
  have c5 := (((pr0.ext E1).ext E2).other W4 (Nat.ne_of_lt (Nat.lt_of_lt_of_le (Nat.lt_of_lt_of_le pr0.lt E1.1) (Nat.le_of_eq g2.symm))))
  obtain ⟨cl6, Ar6, q6, S6, N6z, H6, G6⟩ := (id c5)
  have hi6 := inb_of (j := (1 : Int32)) S6 ⟨by decide, by decide⟩
  have ha6 := Has.at (v := (.int c1_)) H6 hi6 rfl
  refine ogo (S' := T4.setTop (mkF m 107 #[.val (.ref ca_), .val (.int (4 : Int32))] [(.int c1_), (.int (1 : Int32)), (.ref b2), (.ref b2), (.ref b1), (.ref b1)])) (X4.caload hx (j := (1 : Int32)) (v := (.int c1_)) Ar6.1 (State.isArrayOf_alike hZ.alike Ar6.2.1) Ar6.2.2 hi6 ha6 (g := (mkF m 106 #[.val (.ref ca_), .val (.int (4 : Int32))] [(.int (1 : Int32)), (.ref ca_), (.int (1 : Int32)), (.ref b2), (.ref b2), (.ref b1), (.ref b1)])) rfl rfl (hb hby d11_106)) ?_
  obtain ⟨cl7, Ar7, q7, S7, N7z, H7, G7⟩ := (id V4)
  obtain ⟨T7, _, X7, rfl, W7, st7⟩ := stC X4 hx hZ rfl Ar7 (j := (1 : Int32)) (inb_of S7 ⟨by decide, by decide⟩) (g := (mkF m 107 #[.val (.ref ca_), .val (.int (4 : Int32))] [(.int c1_), (.int (1 : Int32)), (.ref b2), (.ref b2), (.ref b1), (.ref b1)])) rfl rfl (hb hby d11_107)
  rw [pr6] at W7
  have V7 : Arv Z T7.heap b2 k2 .char (4 : Int32) [(.int c0_), (.int c1_), (.int 0), (.int 0)] (.int 0) := Arv.set Ar7 q7 S7 N7z H7 G7 (by have q := fits_nar_char c1_; rw [pr6] at q; exact q) W7 1 rfl (Nat.le_of_ble_eq_true rfl)
  have N7 := Fr.snoc X7 N4 n0_b2
  refine ogo (S' := T7.setTop (mkF m 108 #[.val (.ref ca_), .val (.int (4 : Int32))] [(.ref b2), (.ref b1), (.ref b1)])) st7 ?_
  refine o_dup X7 hx (hb hby d11_108) rfl ?_
  refine o_iconst X7 hx (2 : Int32) (hb hby d11_109) rfl ?_
  refine o_aloadN X7 hx (hb hby d11_110) rfl rfl ?_
  refine o_iconst X7 hx (2 : Int32) (hb hby d11_111) rfl ?_
  have c8 := (c5.other W7 (Nat.ne_of_lt (Nat.lt_of_lt_of_le (Nat.lt_of_lt_of_le pr0.lt E1.1) (Nat.le_of_eq g2.symm))))
  obtain ⟨cl9, Ar9, q9, S9, N9z, H9, G9⟩ := (id c8)
  have hi9 := inb_of (j := (2 : Int32)) S9 ⟨by decide, by decide⟩
  have ha9 := Has.at (v := (.int c2_)) H9 hi9 rfl
  refine ogo (S' := T7.setTop (mkF m 113 #[.val (.ref ca_), .val (.int (4 : Int32))] [(.int c2_), (.int (2 : Int32)), (.ref b2), (.ref b2), (.ref b1), (.ref b1)])) (X7.caload hx (j := (2 : Int32)) (v := (.int c2_)) Ar9.1 (State.isArrayOf_alike hZ.alike Ar9.2.1) Ar9.2.2 hi9 ha9 (g := (mkF m 112 #[.val (.ref ca_), .val (.int (4 : Int32))] [(.int (2 : Int32)), (.ref ca_), (.int (2 : Int32)), (.ref b2), (.ref b2), (.ref b1), (.ref b1)])) rfl rfl (hb hby d11_112)) ?_
  obtain ⟨cl10, Ar10, q10, S10, N10z, H10, G10⟩ := (id V7)
  obtain ⟨T10, _, X10, rfl, W10, st10⟩ := stC X7 hx hZ rfl Ar10 (j := (2 : Int32)) (inb_of S10 ⟨by decide, by decide⟩) (g := (mkF m 113 #[.val (.ref ca_), .val (.int (4 : Int32))] [(.int c2_), (.int (2 : Int32)), (.ref b2), (.ref b2), (.ref b1), (.ref b1)])) rfl rfl (hb hby d11_113)
  rw [pr7] at W10
  have V10 : Arv Z T10.heap b2 k2 .char (4 : Int32) [(.int c0_), (.int c1_), (.int c2_), (.int 0)] (.int 0) := Arv.set Ar10 q10 S10 N10z H10 G10 (by have q := fits_nar_char c2_; rw [pr7] at q; exact q) W10 2 rfl (Nat.le_of_ble_eq_true rfl)
  have N10 := Fr.snoc X10 N7 n0_b2
  refine ogo (S' := T10.setTop (mkF m 114 #[.val (.ref ca_), .val (.int (4 : Int32))] [(.ref b2), (.ref b1), (.ref b1)])) st10 ?_
  refine o_dup X10 hx (hb hby d11_114) rfl ?_
  refine o_iconst X10 hx (3 : Int32) (hb hby d11_115) rfl ?_
  refine o_aloadN X10 hx (hb hby d11_116) rfl rfl ?_
  refine o_iconst X10 hx (3 : Int32) (hb hby d11_117) rfl ?_
  have c11 := (c8.other W10 (Nat.ne_of_lt (Nat.lt_of_lt_of_le (Nat.lt_of_lt_of_le pr0.lt E1.1) (Nat.le_of_eq g2.symm))))
  obtain ⟨cl12, Ar12, q12, S12, N12z, H12, G12⟩ := (id c11)
  have hi12 := inb_of (j := (3 : Int32)) S12 ⟨by decide, by decide⟩
  have ha12 := Has.at (v := (.int c3_)) H12 hi12 rfl
  refine ogo (S' := T10.setTop (mkF m 119 #[.val (.ref ca_), .val (.int (4 : Int32))] [(.int c3_), (.int (3 : Int32)), (.ref b2), (.ref b2), (.ref b1), (.ref b1)])) (X10.caload hx (j := (3 : Int32)) (v := (.int c3_)) Ar12.1 (State.isArrayOf_alike hZ.alike Ar12.2.1) Ar12.2.2 hi12 ha12 (g := (mkF m 118 #[.val (.ref ca_), .val (.int (4 : Int32))] [(.int (3 : Int32)), (.ref ca_), (.int (3 : Int32)), (.ref b2), (.ref b2), (.ref b1), (.ref b1)])) rfl rfl (hb hby d11_118)) ?_
  obtain ⟨cl13, Ar13, q13, S13, N13z, H13, G13⟩ := (id V10)
  obtain ⟨T13, _, X13, rfl, W13, st13⟩ := stC X10 hx hZ rfl Ar13 (j := (3 : Int32)) (inb_of S13 ⟨by decide, by decide⟩) (g := (mkF m 119 #[.val (.ref ca_), .val (.int (4 : Int32))] [(.int c3_), (.int (3 : Int32)), (.ref b2), (.ref b2), (.ref b1), (.ref b1)])) rfl rfl (hb hby d11_119)
  rw [pr8] at W13
  have V13 : Arv Z T13.heap b2 k2 .char (4 : Int32) [(.int c0_), (.int c1_), (.int c2_), (.int c3_)] (.int 0) := Arv.set Ar13 q13 S13 N13z H13 G13 (by have q := fits_nar_char c3_; rw [pr8] at q; exact q) W13 3 rfl (Nat.le_of_ble_eq_true rfl)
  have N13 := Fr.snoc X13 N10 n0_b2
  refine ogo (S' := T13.setTop (mkF m 120 #[.val (.ref ca_), .val (.int (4 : Int32))] [(.ref b2), (.ref b1), (.ref b1)])) st13 ?_
  have c15 := ((((((O0.ext E1).ext E2).wr W4 n0_b2).wr W7 n0_b2).wr W10 n0_b2).wr W13 n0_b2)
  have c16 := (Exa.wr W13 (Exa.wr W10 (Exa.wr W7 (Exa.wr W4 (Exa.ext E2 A1)))))
  have c17 := (Fld.other W13 (Fld.other W10 (Fld.other W7 (Fld.other W4 (Fld.ext E2 F1_value) (Or.inl (Nat.ne_of_lt (Nat.lt_of_lt_of_le (Nat.lt_of_lt_of_le A1.lt (Nat.le_refl _)) (Nat.le_of_eq g2.symm))))) (Or.inl (Nat.ne_of_lt (Nat.lt_of_lt_of_le (Nat.lt_of_lt_of_le A1.lt (Nat.le_refl _)) (Nat.le_of_eq g2.symm))))) (Or.inl (Nat.ne_of_lt (Nat.lt_of_lt_of_le (Nat.lt_of_lt_of_le A1.lt (Nat.le_refl _)) (Nat.le_of_eq g2.symm))))) (Or.inl (Nat.ne_of_lt (Nat.lt_of_lt_of_le (Nat.lt_of_lt_of_le A1.lt (Nat.le_refl _)) (Nat.le_of_eq g2.symm)))))
  have c18 := (Fld.other W13 (Fld.other W10 (Fld.other W7 (Fld.other W4 (Fld.ext E2 F1_coder) (Or.inl (Nat.ne_of_lt (Nat.lt_of_lt_of_le (Nat.lt_of_lt_of_le A1.lt (Nat.le_refl _)) (Nat.le_of_eq g2.symm))))) (Or.inl (Nat.ne_of_lt (Nat.lt_of_lt_of_le (Nat.lt_of_lt_of_le A1.lt (Nat.le_refl _)) (Nat.le_of_eq g2.symm))))) (Or.inl (Nat.ne_of_lt (Nat.lt_of_lt_of_le (Nat.lt_of_lt_of_le A1.lt (Nat.le_refl _)) (Nat.le_of_eq g2.symm))))) (Or.inl (Nat.ne_of_lt (Nat.lt_of_lt_of_le (Nat.lt_of_lt_of_le A1.lt (Nat.le_refl _)) (Nat.le_of_eq g2.symm)))))
  obtain ⟨_, _, ⟨T14, L14, kc14, n14⟩, -, X14, ⟨Lc14, hQ14, l14, y14, z14⟩, st14⟩ := X13.specialBack hx (y := yM9) rfl hown (mvT hZ w15) (mvT hZ w16) (mvT hZ w17) (by decide) (backOf (W := 1) (rm_new1_4 l Z a0 hw [] s_CHARACTERS s_BYTES s_CHARACTERS_BUT_TRAILING_SPACES z_CS v_FMT b1 b2 k2 c0_ c1_ c2_ c3_ T13.heap n0 SB c15 c16 c17 c18 V13 n0_b1 pr1 pr2 pr3 pr4) hZ w17 w14 (by decide) (by decide)) (g := (mkF m 120 #[.val (.ref ca_), .val (.int (4 : Int32))] [(.ref b2), (.ref b1), (.ref b1)])) rfl (by rw [hml]; rfl) (Steps.refl _) (a := b1) (argsL := [(.ref b2)]) (rest := [(.ref b1)]) (lenOf own_pd7 rfl) rfl (by show 2 * 0 + _ ≤ _; exact Nat.le_of_eq rfl) (hb hby d11_120) (fun _ _ => ⟨rfl, rfl, (by decide : 2 + 1 ≤ _), (by decide : 8 + 4 ≤ _)⟩)
  dsimp only [Pt.U, Pt.locs, Pt.cells, Pt.slots] at X14 l14 y14 z14 st14 hQ14
  subst l14 y14 z14
  obtain ⟨ba_14, kb_14, rfl, Nq14, K14, p14_0, p14_1, p14_2, p14_3, p14_4⟩ := hQ14
  have N14 := Fr.app N13 Nq14
  have n0_ba_14 : n0 ≤ ba_14 := Nat.le_trans (Nat.le_trans (Nat.le_of_eq O0.1.symm) O0.2.1) (Nat.le_trans (Nat.le_trans (Nat.le_trans (Nat.le_trans (Nat.le_trans (Nat.le_trans E1.1 E2.1) (Keep.of_wr W4).1) (Keep.of_wr W7).1) (Keep.of_wr W10).1) (Keep.of_wr W13).1) p14_0)
  refine otr (S' := T14.setTop (mkF m 123 #[.val (.ref ca_), .val (.int (4 : Int32))] [(.ref b1)])) st14 ?_
  refine oend X14 hlk (v := some (.ref b1)) (fun h => by rw [hret] at h; cases h) (fun fs hr => retOut X14 hx (t := (.object "java/lang/String")) (i := .areturn) hret rfl (Or.inr (Or.inr (Or.inr (Or.inr ⟨rfl, rfl, rfl⟩)))) (hb hby d11_123) hr) (by decide) (by decide) ?_
  show own_Q_text_4 Z _ _ _ _ _ _ _ _ _ _ _ h0 n0 _ T14.heap _
  exact ⟨b1, ba_14, kb_14, rfl, N14, ((((((((Keep.refl h0 []).ext E1).ext E2).wr W4 (Or.inr (Nat.le_trans E1.1 (Nat.le_of_eq g2.symm)))).wr W7 (Or.inr (Nat.le_trans E1.1 (Nat.le_of_eq g2.symm)))).wr W10 (Or.inr (Nat.le_trans E1.1 (Nat.le_of_eq g2.symm)))).wr W13 (Or.inr (Nat.le_trans E1.1 (Nat.le_of_eq g2.symm)))).trans K14 (allS (Or.inr (Nat.le_trans (Nat.le_refl _) (Nat.le_of_eq g1.symm))) all0)), (Nat.le_trans (Nat.le_refl _) (Nat.le_of_eq g1.symm)), (Nat.lt_of_lt_of_le p14_1.lt (Nat.le_refl _)), p14_2, p14_4, p14_3, p14_1⟩
theorem d12_0 : decode method_5_code 0 = .ok (.iload_n 1, 1) := by decide +kernel
theorem d12_1 : decode method_5_code 1 = .ok (.iconst 4, 1) := by decide +kernel
theorem d12_2 : decode method_5_code 2 = .ok (.if_icmp .lt 13, 3) := by decide +kernel
theorem d12_15 : decode method_5_code 15 = .ok (.iload_n 1, 1) := by decide +kernel
theorem d12_16 : decode method_5_code 16 = .ok (.iconst 3, 1) := by decide +kernel
theorem d12_17 : decode method_5_code 17 = .ok (.if_icmp .lt 13, 3) := by decide +kernel
theorem d12_30 : decode method_5_code 30 = .ok (.iload_n 1, 1) := by decide +kernel
theorem d12_31 : decode method_5_code 31 = .ok (.iconst 2, 1) := by decide +kernel
theorem d12_32 : decode method_5_code 32 = .ok (.if_icmp .lt 13, 3) := by decide +kernel
theorem d12_45 : decode method_5_code 45 = .ok (.iload_n 1, 1) := by decide +kernel
theorem d12_46 : decode method_5_code 46 = .ok (.iconst 1, 1) := by decide +kernel
theorem d12_47 : decode method_5_code 47 = .ok (.if_icmp .lt 13, 3) := by decide +kernel
theorem d12_60 : decode method_5_code 60 = .ok (.iconst 0, 1) := by decide +kernel
theorem d12_61 : decode method_5_code 61 = .ok (.ireturn, 1) := by decide +kernel
def own_Q_trimmed_0 (Z : State)  (ca_ : Addr) (kc_ : ClassId) (c0_ : Int32) (c1_ : Int32) (c2_ : Int32) (c3_ : Int32) (h0 : Heap) (n0 : Nat) (v : Option Value) (h : Heap) (L : List Loc) : Prop := (v = some (.int own_tr0)) ∧ (Fr n0 L) ∧ (h = h0)
abbrev yM11 : MethodName := ⟨"com/example/upshot/upshot/LengthOfPinLaw", "trimmed", "([CI)I"⟩
set_option maxRecDepth 65536 in
set_option maxHeartbeats 40000000 in
theorem rm_trimmed_0 (l : Launch) (Z : State) (a0 : Array Value) (hw : ∀ d ∈ tables_1, d.before a0 Z = true) (ws : List Jvm.Cond)  (ca_ : Addr) (kc_ : ClassId) (c0_ : Int32) (c1_ : Int32) (c2_ : Int32) (c3_ : Int32) (h0 : Heap) (n0 : Nat) (O0 : Old Z n0 h0) (pr0 : Arv Z h0 ca_ kc_ .char (4 : Int32) [(.int c0_), (.int c1_), (.int c2_), (.int c3_)] (.int 0)) :
    oMet l Z yM11 method_5_code 2 (some .int) ws ({ frames := 0, cells := 0, slots := 0, locals := 0 } : Room) 0 0 #[(.ref ca_), (.int (0 : Int32))] h0 (own_Q_trimmed_0 Z  ca_ kc_ c0_ c1_ c2_ c3_ h0 n0) := by
  refine oenter own_pn0 #[.val (.ref ca_), .val (.int (0 : Int32))] (fun m => by first | (simp [entryFrame, mkF, argsToLocals, Value.category]; done) | rfl) ?_
  intro p e s m below meth c s₁ X0 hx hZ hby hml hret hown0 hnm hlk e0
  have hown : s.vm.findClass "com/example/upshot/upshot/LengthOfPinLaw" = some m.cls := hown0
  have N0 := Fr.nil n0
  refine o_iloadN X0 hx (hb hby d12_0) rfl ?_
  refine o_iconst X0 hx (4 : Int32) (hb hby d12_1) rfl ?_
  refine o_icmpYes X0 hx 15 (hb hby d12_2) (tlt (by decide : (0 : Int32) < (4 : Int32))).1 (by decide) (by decide) ?_
  refine o_iloadN X0 hx (hb hby d12_15) rfl ?_
  refine o_iconst X0 hx (3 : Int32) (hb hby d12_16) rfl ?_
  refine o_icmpYes X0 hx 30 (hb hby d12_17) (tlt (by decide : (0 : Int32) < (3 : Int32))).1 (by decide) (by decide) ?_
  refine o_iloadN X0 hx (hb hby d12_30) rfl ?_
  refine o_iconst X0 hx (2 : Int32) (hb hby d12_31) rfl ?_
  refine o_icmpYes X0 hx 45 (hb hby d12_32) (tlt (by decide : (0 : Int32) < (2 : Int32))).1 (by decide) (by decide) ?_
  refine o_iloadN X0 hx (hb hby d12_45) rfl ?_
  refine o_iconst X0 hx (1 : Int32) (hb hby d12_46) rfl ?_
  refine o_icmpYes X0 hx 60 (hb hby d12_47) (tlt (by decide : (0 : Int32) < (1 : Int32))).1 (by decide) (by decide) ?_
  refine o_iconst X0 hx (0 : Int32) (hb hby d12_60) rfl ?_
  refine oend X0 hlk (v := some (.int (0 : Int32))) (fun h => by rw [hret] at h; cases h) (fun fs hr => retOut X0 hx (t := .int) (i := .ireturn) hret rfl (Or.inl ⟨rfl, Or.inl rfl, _, rfl⟩) (hb hby d12_61) hr) (by decide) (by decide) ?_
  show own_Q_trimmed_0 Z _ _ _ _ _ _ h0 n0 _ s₁.heap _
  rw [e0]
  refine ⟨?_, N0, rfl⟩
  simp [own_tr0, own_tr1, own_tr2, own_tr3, own_tr4]
theorem d12_50 : decode method_5_code 50 = .ok (.aload_n 0, 1) := by decide +kernel
theorem d12_51 : decode method_5_code 51 = .ok (.iconst 0, 1) := by decide +kernel
theorem d12_52 : decode method_5_code 52 = .ok (.caload, 1) := by decide +kernel
theorem d12_53 : decode method_5_code 53 = .ok (.bipush 32, 2) := by decide +kernel
theorem d12_55 : decode method_5_code 55 = .ok (.if_icmp .eq 5, 3) := by decide +kernel
theorem d12_58 : decode method_5_code 58 = .ok (.iconst 1, 1) := by decide +kernel
theorem d12_59 : decode method_5_code 59 = .ok (.ireturn, 1) := by decide +kernel
def own_Q_trimmed_1 (Z : State)  (ca_ : Addr) (kc_ : ClassId) (c0_ : Int32) (c1_ : Int32) (c2_ : Int32) (c3_ : Int32) (h0 : Heap) (n0 : Nat) (v : Option Value) (h : Heap) (L : List Loc) : Prop := (v = some (.int (own_tr1 c0_))) ∧ (Fr n0 L) ∧ (h = h0)
set_option maxRecDepth 65536 in
set_option maxHeartbeats 40000000 in
theorem rm_trimmed_1 (l : Launch) (Z : State) (a0 : Array Value) (hw : ∀ d ∈ tables_1, d.before a0 Z = true) (ws : List Jvm.Cond)  (ca_ : Addr) (kc_ : ClassId) (c0_ : Int32) (c1_ : Int32) (c2_ : Int32) (c3_ : Int32) (h0 : Heap) (n0 : Nat) (O0 : Old Z n0 h0) (pr0 : Arv Z h0 ca_ kc_ .char (4 : Int32) [(.int c0_), (.int c1_), (.int c2_), (.int c3_)] (.int 0)) :
    oMet l Z yM11 method_5_code 2 (some .int) ws ({ frames := 0, cells := 0, slots := 0, locals := 0 } : Room) 0 0 #[(.ref ca_), (.int (1 : Int32))] h0 (own_Q_trimmed_1 Z  ca_ kc_ c0_ c1_ c2_ c3_ h0 n0) := by
  refine oenter own_pn0 #[.val (.ref ca_), .val (.int (1 : Int32))] (fun m => by first | (simp [entryFrame, mkF, argsToLocals, Value.category]; done) | rfl) ?_
  intro p e s m below meth c s₁ X0 hx hZ hby hml hret hown0 hnm hlk e0
  have hown : s.vm.findClass "com/example/upshot/upshot/LengthOfPinLaw" = some m.cls := hown0
  have N0 := Fr.nil n0
  refine o_iloadN X0 hx (hb hby d12_0) rfl ?_
  refine o_iconst X0 hx (4 : Int32) (hb hby d12_1) rfl ?_
  refine o_icmpYes X0 hx 15 (hb hby d12_2) (tlt (by decide : (1 : Int32) < (4 : Int32))).1 (by decide) (by decide) ?_
  refine o_iloadN X0 hx (hb hby d12_15) rfl ?_
  refine o_iconst X0 hx (3 : Int32) (hb hby d12_16) rfl ?_
  refine o_icmpYes X0 hx 30 (hb hby d12_17) (tlt (by decide : (1 : Int32) < (3 : Int32))).1 (by decide) (by decide) ?_
  refine o_iloadN X0 hx (hb hby d12_30) rfl ?_
  refine o_iconst X0 hx (2 : Int32) (hb hby d12_31) rfl ?_
  refine o_icmpYes X0 hx 45 (hb hby d12_32) (tlt (by decide : (1 : Int32) < (2 : Int32))).1 (by decide) (by decide) ?_
  refine o_iloadN X0 hx (hb hby d12_45) rfl ?_
  refine o_iconst X0 hx (1 : Int32) (hb hby d12_46) rfl ?_
  refine o_icmpNo X0 hx (hb hby d12_47) (flt (by decide : ¬ ((1 : Int32) < (1 : Int32)))).1 ?_
  refine o_aloadN X0 hx (hb hby d12_50) rfl rfl ?_
  refine o_iconst X0 hx (0 : Int32) (hb hby d12_51) rfl ?_
  obtain ⟨cl1, Ar1, q1, S1, N1z, H1, G1⟩ := (id pr0)
  have hi1 := inb_of (j := (0 : Int32)) S1 ⟨by decide, by decide⟩
  have ha1 := Has.at (v := (.int c0_)) H1 hi1 rfl
  refine ogo (S' := s₁.setTop (mkF m 53 #[.val (.ref ca_), .val (.int (1 : Int32))] [(.int c0_)])) (X0.caload hx (j := (0 : Int32)) (v := (.int c0_)) (by rw [e0]; exact Ar1.1) (State.isArrayOf_alike hZ.alike Ar1.2.1) Ar1.2.2 hi1 ha1 (g := (mkF m 52 #[.val (.ref ca_), .val (.int (1 : Int32))] [(.int (0 : Int32)), (.ref ca_)])) rfl rfl (hb hby d12_52)) ?_
  refine o_bipush X0 hx (32 : Int32) (hb hby d12_53) rfl ?_
  by_cases hc2 : c0_ = (32 : Int32)
  · refine o_icmpYes X0 hx 60 (hb hby d12_55) (teq hc2).1 (by decide) (by decide) ?_
    refine o_iconst X0 hx (0 : Int32) (hb hby d12_60) rfl ?_
    refine oend X0 hlk (v := some (.int (0 : Int32))) (fun h => by rw [hret] at h; cases h) (fun fs hr => retOut X0 hx (t := .int) (i := .ireturn) hret rfl (Or.inl ⟨rfl, Or.inl rfl, _, rfl⟩) (hb hby d12_61) hr) (by decide) (by decide) ?_
    show own_Q_trimmed_1 Z _ _ _ _ _ _ h0 n0 _ s₁.heap _
    rw [e0]
    refine ⟨?_, N0, rfl⟩
    simp [own_tr0, own_tr1, own_tr2, own_tr3, own_tr4, hc2]
  · refine o_icmpNo X0 hx (hb hby d12_55) (feq hc2).1 ?_
    refine o_iconst X0 hx (1 : Int32) (hb hby d12_58) rfl ?_
    refine oend X0 hlk (v := some (.int (1 : Int32))) (fun h => by rw [hret] at h; cases h) (fun fs hr => retOut X0 hx (t := .int) (i := .ireturn) hret rfl (Or.inl ⟨rfl, Or.inl rfl, _, rfl⟩) (hb hby d12_59) hr) (by decide) (by decide) ?_
    show own_Q_trimmed_1 Z _ _ _ _ _ _ h0 n0 _ s₁.heap _
    rw [e0]
    refine ⟨?_, N0, rfl⟩
    simp [own_tr0, own_tr1, own_tr2, own_tr3, own_tr4, hc2]
theorem d12_35 : decode method_5_code 35 = .ok (.aload_n 0, 1) := by decide +kernel
theorem d12_36 : decode method_5_code 36 = .ok (.iconst 1, 1) := by decide +kernel
theorem d12_37 : decode method_5_code 37 = .ok (.caload, 1) := by decide +kernel
theorem d12_38 : decode method_5_code 38 = .ok (.bipush 32, 2) := by decide +kernel
theorem d12_40 : decode method_5_code 40 = .ok (.if_icmp .eq 5, 3) := by decide +kernel
theorem d12_43 : decode method_5_code 43 = .ok (.iconst 2, 1) := by decide +kernel
theorem d12_44 : decode method_5_code 44 = .ok (.ireturn, 1) := by decide +kernel
def own_Q_trimmed_2 (Z : State)  (ca_ : Addr) (kc_ : ClassId) (c0_ : Int32) (c1_ : Int32) (c2_ : Int32) (c3_ : Int32) (h0 : Heap) (n0 : Nat) (v : Option Value) (h : Heap) (L : List Loc) : Prop := (v = some (.int (own_tr2 c0_ c1_))) ∧ (Fr n0 L) ∧ (h = h0)
set_option maxRecDepth 65536 in
set_option maxHeartbeats 40000000 in
theorem rm_trimmed_2 (l : Launch) (Z : State) (a0 : Array Value) (hw : ∀ d ∈ tables_1, d.before a0 Z = true) (ws : List Jvm.Cond)  (ca_ : Addr) (kc_ : ClassId) (c0_ : Int32) (c1_ : Int32) (c2_ : Int32) (c3_ : Int32) (h0 : Heap) (n0 : Nat) (O0 : Old Z n0 h0) (pr0 : Arv Z h0 ca_ kc_ .char (4 : Int32) [(.int c0_), (.int c1_), (.int c2_), (.int c3_)] (.int 0)) :
    oMet l Z yM11 method_5_code 2 (some .int) ws ({ frames := 0, cells := 0, slots := 0, locals := 0 } : Room) 0 0 #[(.ref ca_), (.int (2 : Int32))] h0 (own_Q_trimmed_2 Z  ca_ kc_ c0_ c1_ c2_ c3_ h0 n0) := by
  refine oenter own_pn0 #[.val (.ref ca_), .val (.int (2 : Int32))] (fun m => by first | (simp [entryFrame, mkF, argsToLocals, Value.category]; done) | rfl) ?_
  intro p e s m below meth c s₁ X0 hx hZ hby hml hret hown0 hnm hlk e0
  have hown : s.vm.findClass "com/example/upshot/upshot/LengthOfPinLaw" = some m.cls := hown0
  have N0 := Fr.nil n0
  refine o_iloadN X0 hx (hb hby d12_0) rfl ?_
  refine o_iconst X0 hx (4 : Int32) (hb hby d12_1) rfl ?_
  refine o_icmpYes X0 hx 15 (hb hby d12_2) (tlt (by decide : (2 : Int32) < (4 : Int32))).1 (by decide) (by decide) ?_
  refine o_iloadN X0 hx (hb hby d12_15) rfl ?_
  refine o_iconst X0 hx (3 : Int32) (hb hby d12_16) rfl ?_
  refine o_icmpYes X0 hx 30 (hb hby d12_17) (tlt (by decide : (2 : Int32) < (3 : Int32))).1 (by decide) (by decide) ?_
  refine o_iloadN X0 hx (hb hby d12_30) rfl ?_
  refine o_iconst X0 hx (2 : Int32) (hb hby d12_31) rfl ?_
  refine o_icmpNo X0 hx (hb hby d12_32) (flt (by decide : ¬ ((2 : Int32) < (2 : Int32)))).1 ?_
  refine o_aloadN X0 hx (hb hby d12_35) rfl rfl ?_
  refine o_iconst X0 hx (1 : Int32) (hb hby d12_36) rfl ?_
  obtain ⟨cl1, Ar1, q1, S1, N1z, H1, G1⟩ := (id pr0)
  have hi1 := inb_of (j := (1 : Int32)) S1 ⟨by decide, by decide⟩
  have ha1 := Has.at (v := (.int c1_)) H1 hi1 rfl
  refine ogo (S' := s₁.setTop (mkF m 38 #[.val (.ref ca_), .val (.int (2 : Int32))] [(.int c1_)])) (X0.caload hx (j := (1 : Int32)) (v := (.int c1_)) (by rw [e0]; exact Ar1.1) (State.isArrayOf_alike hZ.alike Ar1.2.1) Ar1.2.2 hi1 ha1 (g := (mkF m 37 #[.val (.ref ca_), .val (.int (2 : Int32))] [(.int (1 : Int32)), (.ref ca_)])) rfl rfl (hb hby d12_37)) ?_
  refine o_bipush X0 hx (32 : Int32) (hb hby d12_38) rfl ?_
  by_cases hc2 : c1_ = (32 : Int32)
  · refine o_icmpYes X0 hx 45 (hb hby d12_40) (teq hc2).1 (by decide) (by decide) ?_
    refine o_iloadN X0 hx (hb hby d12_45) rfl ?_
    refine o_iconst X0 hx (1 : Int32) (hb hby d12_46) rfl ?_
    refine o_icmpNo X0 hx (hb hby d12_47) (flt (by decide : ¬ ((2 : Int32) < (1 : Int32)))).1 ?_
    refine o_aloadN X0 hx (hb hby d12_50) rfl rfl ?_
    refine o_iconst X0 hx (0 : Int32) (hb hby d12_51) rfl ?_
    obtain ⟨cl3, Ar3, q3, S3, N3z, H3, G3⟩ := (id pr0)
    have hi3 := inb_of (j := (0 : Int32)) S3 ⟨by decide, by decide⟩
    have ha3 := Has.at (v := (.int c0_)) H3 hi3 rfl
    refine ogo (S' := s₁.setTop (mkF m 53 #[.val (.ref ca_), .val (.int (2 : Int32))] [(.int c0_)])) (X0.caload hx (j := (0 : Int32)) (v := (.int c0_)) (by rw [e0]; exact Ar3.1) (State.isArrayOf_alike hZ.alike Ar3.2.1) Ar3.2.2 hi3 ha3 (g := (mkF m 52 #[.val (.ref ca_), .val (.int (2 : Int32))] [(.int (0 : Int32)), (.ref ca_)])) rfl rfl (hb hby d12_52)) ?_
    refine o_bipush X0 hx (32 : Int32) (hb hby d12_53) rfl ?_
    by_cases hc4 : c0_ = (32 : Int32)
    · refine o_icmpYes X0 hx 60 (hb hby d12_55) (teq hc4).1 (by decide) (by decide) ?_
      refine o_iconst X0 hx (0 : Int32) (hb hby d12_60) rfl ?_
      refine oend X0 hlk (v := some (.int (0 : Int32))) (fun h => by rw [hret] at h; cases h) (fun fs hr => retOut X0 hx (t := .int) (i := .ireturn) hret rfl (Or.inl ⟨rfl, Or.inl rfl, _, rfl⟩) (hb hby d12_61) hr) (by decide) (by decide) ?_
      show own_Q_trimmed_2 Z _ _ _ _ _ _ h0 n0 _ s₁.heap _
      rw [e0]
      refine ⟨?_, N0, rfl⟩
      simp [own_tr0, own_tr1, own_tr2, own_tr3, own_tr4, hc2, hc4]
    · refine o_icmpNo X0 hx (hb hby d12_55) (feq hc4).1 ?_
      refine o_iconst X0 hx (1 : Int32) (hb hby d12_58) rfl ?_
      refine oend X0 hlk (v := some (.int (1 : Int32))) (fun h => by rw [hret] at h; cases h) (fun fs hr => retOut X0 hx (t := .int) (i := .ireturn) hret rfl (Or.inl ⟨rfl, Or.inl rfl, _, rfl⟩) (hb hby d12_59) hr) (by decide) (by decide) ?_
      show own_Q_trimmed_2 Z _ _ _ _ _ _ h0 n0 _ s₁.heap _
      rw [e0]
      refine ⟨?_, N0, rfl⟩
      simp [own_tr0, own_tr1, own_tr2, own_tr3, own_tr4, hc2, hc4]
  · refine o_icmpNo X0 hx (hb hby d12_40) (feq hc2).1 ?_
    refine o_iconst X0 hx (2 : Int32) (hb hby d12_43) rfl ?_
    refine oend X0 hlk (v := some (.int (2 : Int32))) (fun h => by rw [hret] at h; cases h) (fun fs hr => retOut X0 hx (t := .int) (i := .ireturn) hret rfl (Or.inl ⟨rfl, Or.inl rfl, _, rfl⟩) (hb hby d12_44) hr) (by decide) (by decide) ?_
    show own_Q_trimmed_2 Z _ _ _ _ _ _ h0 n0 _ s₁.heap _
    rw [e0]
    refine ⟨?_, N0, rfl⟩
    simp [own_tr0, own_tr1, own_tr2, own_tr3, own_tr4, hc2]
theorem d12_20 : decode method_5_code 20 = .ok (.aload_n 0, 1) := by decide +kernel
theorem d12_21 : decode method_5_code 21 = .ok (.iconst 2, 1) := by decide +kernel
theorem d12_22 : decode method_5_code 22 = .ok (.caload, 1) := by decide +kernel
theorem d12_23 : decode method_5_code 23 = .ok (.bipush 32, 2) := by decide +kernel
theorem d12_25 : decode method_5_code 25 = .ok (.if_icmp .eq 5, 3) := by decide +kernel
theorem d12_28 : decode method_5_code 28 = .ok (.iconst 3, 1) := by decide +kernel
theorem d12_29 : decode method_5_code 29 = .ok (.ireturn, 1) := by decide +kernel
def own_Q_trimmed_3 (Z : State)  (ca_ : Addr) (kc_ : ClassId) (c0_ : Int32) (c1_ : Int32) (c2_ : Int32) (c3_ : Int32) (h0 : Heap) (n0 : Nat) (v : Option Value) (h : Heap) (L : List Loc) : Prop := (v = some (.int (own_tr3 c0_ c1_ c2_))) ∧ (Fr n0 L) ∧ (h = h0)
set_option maxRecDepth 65536 in
set_option maxHeartbeats 40000000 in
theorem rm_trimmed_3 (l : Launch) (Z : State) (a0 : Array Value) (hw : ∀ d ∈ tables_1, d.before a0 Z = true) (ws : List Jvm.Cond)  (ca_ : Addr) (kc_ : ClassId) (c0_ : Int32) (c1_ : Int32) (c2_ : Int32) (c3_ : Int32) (h0 : Heap) (n0 : Nat) (O0 : Old Z n0 h0) (pr0 : Arv Z h0 ca_ kc_ .char (4 : Int32) [(.int c0_), (.int c1_), (.int c2_), (.int c3_)] (.int 0)) :
    oMet l Z yM11 method_5_code 2 (some .int) ws ({ frames := 0, cells := 0, slots := 0, locals := 0 } : Room) 0 0 #[(.ref ca_), (.int (3 : Int32))] h0 (own_Q_trimmed_3 Z  ca_ kc_ c0_ c1_ c2_ c3_ h0 n0) := by
  refine oenter own_pn0 #[.val (.ref ca_), .val (.int (3 : Int32))] (fun m => by first | (simp [entryFrame, mkF, argsToLocals, Value.category]; done) | rfl) ?_
  intro p e s m below meth c s₁ X0 hx hZ hby hml hret hown0 hnm hlk e0
  have hown : s.vm.findClass "com/example/upshot/upshot/LengthOfPinLaw" = some m.cls := hown0
  have N0 := Fr.nil n0
  refine o_iloadN X0 hx (hb hby d12_0) rfl ?_
  refine o_iconst X0 hx (4 : Int32) (hb hby d12_1) rfl ?_
  refine o_icmpYes X0 hx 15 (hb hby d12_2) (tlt (by decide : (3 : Int32) < (4 : Int32))).1 (by decide) (by decide) ?_
  refine o_iloadN X0 hx (hb hby d12_15) rfl ?_
  refine o_iconst X0 hx (3 : Int32) (hb hby d12_16) rfl ?_
  refine o_icmpNo X0 hx (hb hby d12_17) (flt (by decide : ¬ ((3 : Int32) < (3 : Int32)))).1 ?_
  refine o_aloadN X0 hx (hb hby d12_20) rfl rfl ?_
  refine o_iconst X0 hx (2 : Int32) (hb hby d12_21) rfl ?_
  obtain ⟨cl1, Ar1, q1, S1, N1z, H1, G1⟩ := (id pr0)
  have hi1 := inb_of (j := (2 : Int32)) S1 ⟨by decide, by decide⟩
  have ha1 := Has.at (v := (.int c2_)) H1 hi1 rfl
  refine ogo (S' := s₁.setTop (mkF m 23 #[.val (.ref ca_), .val (.int (3 : Int32))] [(.int c2_)])) (X0.caload hx (j := (2 : Int32)) (v := (.int c2_)) (by rw [e0]; exact Ar1.1) (State.isArrayOf_alike hZ.alike Ar1.2.1) Ar1.2.2 hi1 ha1 (g := (mkF m 22 #[.val (.ref ca_), .val (.int (3 : Int32))] [(.int (2 : Int32)), (.ref ca_)])) rfl rfl (hb hby d12_22)) ?_
  refine o_bipush X0 hx (32 : Int32) (hb hby d12_23) rfl ?_
  by_cases hc2 : c2_ = (32 : Int32)
  · refine o_icmpYes X0 hx 30 (hb hby d12_25) (teq hc2).1 (by decide) (by decide) ?_
    refine o_iloadN X0 hx (hb hby d12_30) rfl ?_
    refine o_iconst X0 hx (2 : Int32) (hb hby d12_31) rfl ?_
    refine o_icmpNo X0 hx (hb hby d12_32) (flt (by decide : ¬ ((3 : Int32) < (2 : Int32)))).1 ?_
    refine o_aloadN X0 hx (hb hby d12_35) rfl rfl ?_
    refine o_iconst X0 hx (1 : Int32) (hb hby d12_36) rfl ?_
    obtain ⟨cl3, Ar3, q3, S3, N3z, H3, G3⟩ := (id pr0)
    have hi3 := inb_of (j := (1 : Int32)) S3 ⟨by decide, by decide⟩
    have ha3 := Has.at (v := (.int c1_)) H3 hi3 rfl
    refine ogo (S' := s₁.setTop (mkF m 38 #[.val (.ref ca_), .val (.int (3 : Int32))] [(.int c1_)])) (X0.caload hx (j := (1 : Int32)) (v := (.int c1_)) (by rw [e0]; exact Ar3.1) (State.isArrayOf_alike hZ.alike Ar3.2.1) Ar3.2.2 hi3 ha3 (g := (mkF m 37 #[.val (.ref ca_), .val (.int (3 : Int32))] [(.int (1 : Int32)), (.ref ca_)])) rfl rfl (hb hby d12_37)) ?_
    refine o_bipush X0 hx (32 : Int32) (hb hby d12_38) rfl ?_
    by_cases hc4 : c1_ = (32 : Int32)
    · refine o_icmpYes X0 hx 45 (hb hby d12_40) (teq hc4).1 (by decide) (by decide) ?_
      refine o_iloadN X0 hx (hb hby d12_45) rfl ?_
      refine o_iconst X0 hx (1 : Int32) (hb hby d12_46) rfl ?_
      refine o_icmpNo X0 hx (hb hby d12_47) (flt (by decide : ¬ ((3 : Int32) < (1 : Int32)))).1 ?_
      refine o_aloadN X0 hx (hb hby d12_50) rfl rfl ?_
      refine o_iconst X0 hx (0 : Int32) (hb hby d12_51) rfl ?_
      obtain ⟨cl5, Ar5, q5, S5, N5z, H5, G5⟩ := (id pr0)
      have hi5 := inb_of (j := (0 : Int32)) S5 ⟨by decide, by decide⟩
      have ha5 := Has.at (v := (.int c0_)) H5 hi5 rfl
      refine ogo (S' := s₁.setTop (mkF m 53 #[.val (.ref ca_), .val (.int (3 : Int32))] [(.int c0_)])) (X0.caload hx (j := (0 : Int32)) (v := (.int c0_)) (by rw [e0]; exact Ar5.1) (State.isArrayOf_alike hZ.alike Ar5.2.1) Ar5.2.2 hi5 ha5 (g := (mkF m 52 #[.val (.ref ca_), .val (.int (3 : Int32))] [(.int (0 : Int32)), (.ref ca_)])) rfl rfl (hb hby d12_52)) ?_
      refine o_bipush X0 hx (32 : Int32) (hb hby d12_53) rfl ?_
      by_cases hc6 : c0_ = (32 : Int32)
      · refine o_icmpYes X0 hx 60 (hb hby d12_55) (teq hc6).1 (by decide) (by decide) ?_
        refine o_iconst X0 hx (0 : Int32) (hb hby d12_60) rfl ?_
        refine oend X0 hlk (v := some (.int (0 : Int32))) (fun h => by rw [hret] at h; cases h) (fun fs hr => retOut X0 hx (t := .int) (i := .ireturn) hret rfl (Or.inl ⟨rfl, Or.inl rfl, _, rfl⟩) (hb hby d12_61) hr) (by decide) (by decide) ?_
        show own_Q_trimmed_3 Z _ _ _ _ _ _ h0 n0 _ s₁.heap _
        rw [e0]
        refine ⟨?_, N0, rfl⟩
        simp [own_tr0, own_tr1, own_tr2, own_tr3, own_tr4, hc2, hc4, hc6]
      · refine o_icmpNo X0 hx (hb hby d12_55) (feq hc6).1 ?_
        refine o_iconst X0 hx (1 : Int32) (hb hby d12_58) rfl ?_
        refine oend X0 hlk (v := some (.int (1 : Int32))) (fun h => by rw [hret] at h; cases h) (fun fs hr => retOut X0 hx (t := .int) (i := .ireturn) hret rfl (Or.inl ⟨rfl, Or.inl rfl, _, rfl⟩) (hb hby d12_59) hr) (by decide) (by decide) ?_
        show own_Q_trimmed_3 Z _ _ _ _ _ _ h0 n0 _ s₁.heap _
        rw [e0]
        refine ⟨?_, N0, rfl⟩
        simp [own_tr0, own_tr1, own_tr2, own_tr3, own_tr4, hc2, hc4, hc6]
    · refine o_icmpNo X0 hx (hb hby d12_40) (feq hc4).1 ?_
      refine o_iconst X0 hx (2 : Int32) (hb hby d12_43) rfl ?_
      refine oend X0 hlk (v := some (.int (2 : Int32))) (fun h => by rw [hret] at h; cases h) (fun fs hr => retOut X0 hx (t := .int) (i := .ireturn) hret rfl (Or.inl ⟨rfl, Or.inl rfl, _, rfl⟩) (hb hby d12_44) hr) (by decide) (by decide) ?_
      show own_Q_trimmed_3 Z _ _ _ _ _ _ h0 n0 _ s₁.heap _
      rw [e0]
      refine ⟨?_, N0, rfl⟩
      simp [own_tr0, own_tr1, own_tr2, own_tr3, own_tr4, hc2, hc4]
  · refine o_icmpNo X0 hx (hb hby d12_25) (feq hc2).1 ?_
    refine o_iconst X0 hx (3 : Int32) (hb hby d12_28) rfl ?_
    refine oend X0 hlk (v := some (.int (3 : Int32))) (fun h => by rw [hret] at h; cases h) (fun fs hr => retOut X0 hx (t := .int) (i := .ireturn) hret rfl (Or.inl ⟨rfl, Or.inl rfl, _, rfl⟩) (hb hby d12_29) hr) (by decide) (by decide) ?_
    show own_Q_trimmed_3 Z _ _ _ _ _ _ h0 n0 _ s₁.heap _
    rw [e0]
    refine ⟨?_, N0, rfl⟩
    simp [own_tr0, own_tr1, own_tr2, own_tr3, own_tr4, hc2]
theorem d12_5 : decode method_5_code 5 = .ok (.aload_n 0, 1) := by decide +kernel
theorem d12_6 : decode method_5_code 6 = .ok (.iconst 3, 1) := by decide +kernel
theorem d12_7 : decode method_5_code 7 = .ok (.caload, 1) := by decide +kernel
theorem d12_8 : decode method_5_code 8 = .ok (.bipush 32, 2) := by decide +kernel
theorem d12_10 : decode method_5_code 10 = .ok (.if_icmp .eq 5, 3) := by decide +kernel
theorem d12_13 : decode method_5_code 13 = .ok (.iconst 4, 1) := by decide +kernel
theorem d12_14 : decode method_5_code 14 = .ok (.ireturn, 1) := by decide +kernel
def own_Q_trimmed_4 (Z : State)  (ca_ : Addr) (kc_ : ClassId) (c0_ : Int32) (c1_ : Int32) (c2_ : Int32) (c3_ : Int32) (h0 : Heap) (n0 : Nat) (v : Option Value) (h : Heap) (L : List Loc) : Prop := (v = some (.int (own_tr4 c0_ c1_ c2_ c3_))) ∧ (Fr n0 L) ∧ (h = h0)
set_option maxRecDepth 65536 in
set_option maxHeartbeats 40000000 in
theorem rm_trimmed_4 (l : Launch) (Z : State) (a0 : Array Value) (hw : ∀ d ∈ tables_1, d.before a0 Z = true) (ws : List Jvm.Cond)  (ca_ : Addr) (kc_ : ClassId) (c0_ : Int32) (c1_ : Int32) (c2_ : Int32) (c3_ : Int32) (h0 : Heap) (n0 : Nat) (O0 : Old Z n0 h0) (pr0 : Arv Z h0 ca_ kc_ .char (4 : Int32) [(.int c0_), (.int c1_), (.int c2_), (.int c3_)] (.int 0)) :
    oMet l Z yM11 method_5_code 2 (some .int) ws ({ frames := 0, cells := 0, slots := 0, locals := 0 } : Room) 0 0 #[(.ref ca_), (.int (4 : Int32))] h0 (own_Q_trimmed_4 Z  ca_ kc_ c0_ c1_ c2_ c3_ h0 n0) := by
  refine oenter own_pn0 #[.val (.ref ca_), .val (.int (4 : Int32))] (fun m => by first | (simp [entryFrame, mkF, argsToLocals, Value.category]; done) | rfl) ?_
  intro p e s m below meth c s₁ X0 hx hZ hby hml hret hown0 hnm hlk e0
  have hown : s.vm.findClass "com/example/upshot/upshot/LengthOfPinLaw" = some m.cls := hown0
  have N0 := Fr.nil n0
  refine o_iloadN X0 hx (hb hby d12_0) rfl ?_
  refine o_iconst X0 hx (4 : Int32) (hb hby d12_1) rfl ?_
  refine o_icmpNo X0 hx (hb hby d12_2) (flt (by decide : ¬ ((4 : Int32) < (4 : Int32)))).1 ?_
  refine o_aloadN X0 hx (hb hby d12_5) rfl rfl ?_
  refine o_iconst X0 hx (3 : Int32) (hb hby d12_6) rfl ?_
  obtain ⟨cl1, Ar1, q1, S1, N1z, H1, G1⟩ := (id pr0)
  have hi1 := inb_of (j := (3 : Int32)) S1 ⟨by decide, by decide⟩
  have ha1 := Has.at (v := (.int c3_)) H1 hi1 rfl
  refine ogo (S' := s₁.setTop (mkF m 8 #[.val (.ref ca_), .val (.int (4 : Int32))] [(.int c3_)])) (X0.caload hx (j := (3 : Int32)) (v := (.int c3_)) (by rw [e0]; exact Ar1.1) (State.isArrayOf_alike hZ.alike Ar1.2.1) Ar1.2.2 hi1 ha1 (g := (mkF m 7 #[.val (.ref ca_), .val (.int (4 : Int32))] [(.int (3 : Int32)), (.ref ca_)])) rfl rfl (hb hby d12_7)) ?_
  refine o_bipush X0 hx (32 : Int32) (hb hby d12_8) rfl ?_
  by_cases hc2 : c3_ = (32 : Int32)
  · refine o_icmpYes X0 hx 15 (hb hby d12_10) (teq hc2).1 (by decide) (by decide) ?_
    refine o_iloadN X0 hx (hb hby d12_15) rfl ?_
    refine o_iconst X0 hx (3 : Int32) (hb hby d12_16) rfl ?_
    refine o_icmpNo X0 hx (hb hby d12_17) (flt (by decide : ¬ ((4 : Int32) < (3 : Int32)))).1 ?_
    refine o_aloadN X0 hx (hb hby d12_20) rfl rfl ?_
    refine o_iconst X0 hx (2 : Int32) (hb hby d12_21) rfl ?_
    obtain ⟨cl3, Ar3, q3, S3, N3z, H3, G3⟩ := (id pr0)
    have hi3 := inb_of (j := (2 : Int32)) S3 ⟨by decide, by decide⟩
    have ha3 := Has.at (v := (.int c2_)) H3 hi3 rfl
    refine ogo (S' := s₁.setTop (mkF m 23 #[.val (.ref ca_), .val (.int (4 : Int32))] [(.int c2_)])) (X0.caload hx (j := (2 : Int32)) (v := (.int c2_)) (by rw [e0]; exact Ar3.1) (State.isArrayOf_alike hZ.alike Ar3.2.1) Ar3.2.2 hi3 ha3 (g := (mkF m 22 #[.val (.ref ca_), .val (.int (4 : Int32))] [(.int (2 : Int32)), (.ref ca_)])) rfl rfl (hb hby d12_22)) ?_
    refine o_bipush X0 hx (32 : Int32) (hb hby d12_23) rfl ?_
    by_cases hc4 : c2_ = (32 : Int32)
    · refine o_icmpYes X0 hx 30 (hb hby d12_25) (teq hc4).1 (by decide) (by decide) ?_
      refine o_iloadN X0 hx (hb hby d12_30) rfl ?_
      refine o_iconst X0 hx (2 : Int32) (hb hby d12_31) rfl ?_
      refine o_icmpNo X0 hx (hb hby d12_32) (flt (by decide : ¬ ((4 : Int32) < (2 : Int32)))).1 ?_
      refine o_aloadN X0 hx (hb hby d12_35) rfl rfl ?_
      refine o_iconst X0 hx (1 : Int32) (hb hby d12_36) rfl ?_
      obtain ⟨cl5, Ar5, q5, S5, N5z, H5, G5⟩ := (id pr0)
      have hi5 := inb_of (j := (1 : Int32)) S5 ⟨by decide, by decide⟩
      have ha5 := Has.at (v := (.int c1_)) H5 hi5 rfl
      refine ogo (S' := s₁.setTop (mkF m 38 #[.val (.ref ca_), .val (.int (4 : Int32))] [(.int c1_)])) (X0.caload hx (j := (1 : Int32)) (v := (.int c1_)) (by rw [e0]; exact Ar5.1) (State.isArrayOf_alike hZ.alike Ar5.2.1) Ar5.2.2 hi5 ha5 (g := (mkF m 37 #[.val (.ref ca_), .val (.int (4 : Int32))] [(.int (1 : Int32)), (.ref ca_)])) rfl rfl (hb hby d12_37)) ?_
      refine o_bipush X0 hx (32 : Int32) (hb hby d12_38) rfl ?_
      by_cases hc6 : c1_ = (32 : Int32)
      · refine o_icmpYes X0 hx 45 (hb hby d12_40) (teq hc6).1 (by decide) (by decide) ?_
        refine o_iloadN X0 hx (hb hby d12_45) rfl ?_
        refine o_iconst X0 hx (1 : Int32) (hb hby d12_46) rfl ?_
        refine o_icmpNo X0 hx (hb hby d12_47) (flt (by decide : ¬ ((4 : Int32) < (1 : Int32)))).1 ?_
        refine o_aloadN X0 hx (hb hby d12_50) rfl rfl ?_
        refine o_iconst X0 hx (0 : Int32) (hb hby d12_51) rfl ?_
        obtain ⟨cl7, Ar7, q7, S7, N7z, H7, G7⟩ := (id pr0)
        have hi7 := inb_of (j := (0 : Int32)) S7 ⟨by decide, by decide⟩
        have ha7 := Has.at (v := (.int c0_)) H7 hi7 rfl
        refine ogo (S' := s₁.setTop (mkF m 53 #[.val (.ref ca_), .val (.int (4 : Int32))] [(.int c0_)])) (X0.caload hx (j := (0 : Int32)) (v := (.int c0_)) (by rw [e0]; exact Ar7.1) (State.isArrayOf_alike hZ.alike Ar7.2.1) Ar7.2.2 hi7 ha7 (g := (mkF m 52 #[.val (.ref ca_), .val (.int (4 : Int32))] [(.int (0 : Int32)), (.ref ca_)])) rfl rfl (hb hby d12_52)) ?_
        refine o_bipush X0 hx (32 : Int32) (hb hby d12_53) rfl ?_
        by_cases hc8 : c0_ = (32 : Int32)
        · refine o_icmpYes X0 hx 60 (hb hby d12_55) (teq hc8).1 (by decide) (by decide) ?_
          refine o_iconst X0 hx (0 : Int32) (hb hby d12_60) rfl ?_
          refine oend X0 hlk (v := some (.int (0 : Int32))) (fun h => by rw [hret] at h; cases h) (fun fs hr => retOut X0 hx (t := .int) (i := .ireturn) hret rfl (Or.inl ⟨rfl, Or.inl rfl, _, rfl⟩) (hb hby d12_61) hr) (by decide) (by decide) ?_
          show own_Q_trimmed_4 Z _ _ _ _ _ _ h0 n0 _ s₁.heap _
          rw [e0]
          refine ⟨?_, N0, rfl⟩
          simp [own_tr0, own_tr1, own_tr2, own_tr3, own_tr4, hc2, hc4, hc6, hc8]
        · refine o_icmpNo X0 hx (hb hby d12_55) (feq hc8).1 ?_
          refine o_iconst X0 hx (1 : Int32) (hb hby d12_58) rfl ?_
          refine oend X0 hlk (v := some (.int (1 : Int32))) (fun h => by rw [hret] at h; cases h) (fun fs hr => retOut X0 hx (t := .int) (i := .ireturn) hret rfl (Or.inl ⟨rfl, Or.inl rfl, _, rfl⟩) (hb hby d12_59) hr) (by decide) (by decide) ?_
          show own_Q_trimmed_4 Z _ _ _ _ _ _ h0 n0 _ s₁.heap _
          rw [e0]
          refine ⟨?_, N0, rfl⟩
          simp [own_tr0, own_tr1, own_tr2, own_tr3, own_tr4, hc2, hc4, hc6, hc8]
      · refine o_icmpNo X0 hx (hb hby d12_40) (feq hc6).1 ?_
        refine o_iconst X0 hx (2 : Int32) (hb hby d12_43) rfl ?_
        refine oend X0 hlk (v := some (.int (2 : Int32))) (fun h => by rw [hret] at h; cases h) (fun fs hr => retOut X0 hx (t := .int) (i := .ireturn) hret rfl (Or.inl ⟨rfl, Or.inl rfl, _, rfl⟩) (hb hby d12_44) hr) (by decide) (by decide) ?_
        show own_Q_trimmed_4 Z _ _ _ _ _ _ h0 n0 _ s₁.heap _
        rw [e0]
        refine ⟨?_, N0, rfl⟩
        simp [own_tr0, own_tr1, own_tr2, own_tr3, own_tr4, hc2, hc4, hc6]
    · refine o_icmpNo X0 hx (hb hby d12_25) (feq hc4).1 ?_
      refine o_iconst X0 hx (3 : Int32) (hb hby d12_28) rfl ?_
      refine oend X0 hlk (v := some (.int (3 : Int32))) (fun h => by rw [hret] at h; cases h) (fun fs hr => retOut X0 hx (t := .int) (i := .ireturn) hret rfl (Or.inl ⟨rfl, Or.inl rfl, _, rfl⟩) (hb hby d12_29) hr) (by decide) (by decide) ?_
      show own_Q_trimmed_4 Z _ _ _ _ _ _ h0 n0 _ s₁.heap _
      rw [e0]
      refine ⟨?_, N0, rfl⟩
      simp [own_tr0, own_tr1, own_tr2, own_tr3, own_tr4, hc2, hc4]
  · refine o_icmpNo X0 hx (hb hby d12_10) (feq hc2).1 ?_
    refine o_iconst X0 hx (4 : Int32) (hb hby d12_13) rfl ?_
    refine oend X0 hlk (v := some (.int (4 : Int32))) (fun h => by rw [hret] at h; cases h) (fun fs hr => retOut X0 hx (t := .int) (i := .ireturn) hret rfl (Or.inl ⟨rfl, Or.inl rfl, _, rfl⟩) (hb hby d12_14) hr) (by decide) (by decide) ?_
    show own_Q_trimmed_4 Z _ _ _ _ _ _ h0 n0 _ s₁.heap _
    rw [e0]
    refine ⟨?_, N0, rfl⟩
    simp [own_tr0, own_tr1, own_tr2, own_tr3, own_tr4, hc2]
theorem d13_0 : decode prog_3_method_1_code 0 = .ok (.aload_n 0, 1) := by decide +kernel
theorem d13_1 : decode prog_3_method_1_code 1 = .ok (.invokespecial 1, 3) := by decide +kernel
theorem d13_4 : decode prog_3_method_1_code 4 = .ok (.aload_n 0, 1) := by decide +kernel
theorem d13_5 : decode prog_3_method_1_code 5 = .ok (.aload_n 1, 1) := by decide +kernel
theorem d13_6 : decode prog_3_method_1_code 6 = .ok (.putfield 7, 3) := by decide +kernel
theorem d13_9 : decode prog_3_method_1_code 9 = .ok (.aload_n 0, 1) := by decide +kernel
theorem d13_10 : decode prog_3_method_1_code 10 = .ok (.lload_n 2, 1) := by decide +kernel
theorem d13_11 : decode prog_3_method_1_code 11 = .ok (.putfield 13, 3) := by decide +kernel
theorem d13_14 : decode prog_3_method_1_code 14 = .ok (.return_, 1) := by decide +kernel
theorem own_pn4 : plainName "com/example/upshot/upshot/ColumnCatalog$Length" = true := by first | (simp [plainName, overriddenIn]; done) | decide +kernel
def own_Q_linit (Z : State)  (t_ : Addr) (u_ : Addr) (m_ : Int64) (h0 : Heap) (n0 : Nat) (v : Option Value) (h : Heap) (L : List Loc) : Prop := (v = none) ∧ (Fr n0 L) ∧ (Keep h0 h [t_]) ∧ (Exa Z h t_ "com/example/upshot/upshot/ColumnCatalog$Length") ∧ (Fld Z h t_ "com/example/upshot/upshot/ColumnCatalog$Length" "unit" "Lcom/example/upshot/upshot/ColumnCatalog$Length$Unit;" (.ref u_)) ∧ (Fld Z h t_ "com/example/upshot/upshot/ColumnCatalog$Length" "most" "J" (.long m_))
abbrev yM12 : MethodName := ⟨"com/example/upshot/upshot/ColumnCatalog$Length", "<init>", "(Lcom/example/upshot/upshot/ColumnCatalog$Length$Unit;J)V"⟩
set_option maxRecDepth 65536 in
set_option maxHeartbeats 40000000 in
theorem rm_linit (l : Launch) (Z : State) (a0 : Array Value) (hw : ∀ d ∈ tables_1, d.before a0 Z = true) (ws : List Jvm.Cond)  (t_ : Addr) (u_ : Addr) (m_ : Int64) (h0 : Heap) (n0 : Nat) (O0 : Old Z n0 h0) (pr0 : Exa Z h0 t_ "com/example/upshot/upshot/ColumnCatalog$Length") (pr1 : Fld Z h0 t_ "com/example/upshot/upshot/ColumnCatalog$Length" "unit" "Lcom/example/upshot/upshot/ColumnCatalog$Length$Unit;" .null) (pr2 : Fld Z h0 t_ "com/example/upshot/upshot/ColumnCatalog$Length" "most" "J" (.long (0 : Int64))) (pr3 : n0 ≤ t_) :
    oMet l Z yM12 prog_3_method_1_code 4 none ws ({ frames := 1, cells := 0, slots := 0, locals := 12 } : Room) 0 0 #[(.ref t_), (.ref u_), (.long m_)] h0 (own_Q_linit Z  t_ u_ m_ h0 n0) := by
  refine oenter own_pn4 #[.val (.ref t_), .val (.ref u_), .val (.long m_), .second] (fun m => by first | (simp [entryFrame, mkF, argsToLocals, Value.category]; done) | rfl) ?_
  intro p e s m below meth c s₁ X0 hx hZ hby hml hret hown0 hnm hlk e0
  have hown : s.vm.findClass "com/example/upshot/upshot/ColumnCatalog$Length" = some m.cls := hown0
  have N0 := Fr.nil n0
  have w23 := hw _ (List.mem_of_getElem? (i := 23) rfl)
  have w24 := hw _ (List.mem_of_getElem? (i := 24) rfl)
  have w42 := hw _ (List.mem_of_getElem? (i := 42) rfl)
  have w47 := hw _ (List.mem_of_getElem? (i := 47) rfl)
  have w48 := hw _ (List.mem_of_getElem? (i := 48) rfl)
  have w49 := hw _ (List.mem_of_getElem? (i := 49) rfl)
  have w50 := hw _ (List.mem_of_getElem? (i := 50) rfl)
  have w51 := hw _ (List.mem_of_getElem? (i := 51) rfl)
  refine o_aloadN X0 hx (hb hby d13_0) rfl rfl ?_
  obtain ⟨T1, X1, e1, st1⟩ := initO X0 hx hZ hown w47 w23 w24 e0 (g := (mkF m 1 #[.val (.ref t_), .val (.ref u_), .val (.long m_), .second] [(.ref t_)])) rfl (by rw [hml]; rfl) rfl (hb hby d13_1) (by decide) (W := 0) (by show 2 * 0 + _ ≤ _; exact Nat.le_of_eq rfl) (by decide)
  refine ogo (S' := T1.setTop (mkF m 4 #[.val (.ref t_), .val (.ref u_), .val (.long m_), .second] [])) st1 ?_
  refine o_aloadN X1 hx (hb hby d13_4) rfl rfl ?_
  refine o_aloadN X1 hx (hb hby d13_5) rfl rfl ?_
  obtain ⟨T2, _, X2, rfl, W2, st2⟩ := putF X1 hx hZ hown (host := "") (Or.inl w48) Via.refl e1 pr1 pr0 (Or.inr ⟨w49, rfl, hnm⟩) w42 (ty := (.object "com/example/upshot/upshot/ColumnCatalog$Length$Unit")) (by decide) rfl rfl (g := (mkF m 6 #[.val (.ref t_), .val (.ref u_), .val (.long m_), .second] [(.ref u_), (.ref t_)])) rfl rfl (hb hby d13_6)
  have N2 := Fr.snoc X2 N0 pr3
  have F2 := Fld.same W2 pr1
  refine ogo (S' := T2.setTop (mkF m 9 #[.val (.ref t_), .val (.ref u_), .val (.long m_), .second] [])) st2 ?_
  refine o_aloadN X2 hx (hb hby d13_9) rfl rfl ?_
  refine o_lloadN X2 hx (hb hby d13_10) rfl ?_
  have c4 := (Fld.other W2 pr2 (Or.inr (slot_ne (Or.inr w51) (Or.inr w49) (by decide) (t := .long) (t' := (.object "com/example/upshot/upshot/ColumnCatalog$Length$Unit")) (by decide) (by decide))))
  obtain ⟨T3, _, X3, rfl, W3, st3⟩ := putF X2 hx hZ hown (host := "") (Or.inl w50) Via.refl rfl c4 (Exa.wr W2 pr0) (Or.inr ⟨w51, rfl, hnm⟩) w42 (ty := .long) (by decide) rfl rfl (g := (mkF m 11 #[.val (.ref t_), .val (.ref u_), .val (.long m_), .second] [(.long m_), (.ref t_)])) rfl rfl (hb hby d13_11)
  have N3 := Fr.snoc X3 N2 pr3
  have F3 := Fld.same W3 c4
  refine ogo (S' := T3.setTop (mkF m 14 #[.val (.ref t_), .val (.ref u_), .val (.long m_), .second] [])) st3 ?_
  have c5 := (Fld.other W3 F2 (Or.inr (slot_ne (Or.inr w49) (Or.inr w51) (by decide) (t := (.object "com/example/upshot/upshot/ColumnCatalog$Length$Unit")) (t' := .long) (by decide) (by decide))))
  refine oend X3 hlk (v := none) (fun _ => rfl) (fun fs hr => X3.returnOut hx hret (hb hby d13_14) hr) (by decide) (by decide) ?_
  show own_Q_linit Z _ _ _ h0 n0 _ T3.heap _
  exact ⟨rfl, N3, (((Keep.refl h0 [t_]).wr W2 (Or.inl (List.mem_of_getElem? (i := 0) rfl))).wr W3 (Or.inl (List.mem_of_getElem? (i := 0) rfl))), (Exa.wr W3 (Exa.wr W2 pr0)), c5, F3⟩
theorem d14_0 : decode prog_3_method_2_code 0 = .ok (.aload_n 0, 1) := by decide +kernel
theorem d14_1 : decode prog_3_method_2_code 1 = .ok (.getfield 7, 3) := by decide +kernel
theorem d14_4 : decode prog_3_method_2_code 4 = .ok (.areturn, 1) := by decide +kernel
def own_Q_unit (Z : State)  (t_ : Addr) (u_ : Addr) (h0 : Heap) (n0 : Nat) (v : Option Value) (h : Heap) (L : List Loc) : Prop := (v = some (.ref u_)) ∧ (Fr n0 L) ∧ (h = h0)
abbrev yM13 : MethodName := ⟨"com/example/upshot/upshot/ColumnCatalog$Length", "unit", "()Lcom/example/upshot/upshot/ColumnCatalog$Length$Unit;"⟩
set_option maxRecDepth 65536 in
set_option maxHeartbeats 40000000 in
theorem rm_unit (l : Launch) (Z : State) (a0 : Array Value) (hw : ∀ d ∈ tables_1, d.before a0 Z = true) (ws : List Jvm.Cond)  (t_ : Addr) (u_ : Addr) (h0 : Heap) (n0 : Nat) (O0 : Old Z n0 h0) (pr0 : Fld Z h0 t_ "com/example/upshot/upshot/ColumnCatalog$Length" "unit" "Lcom/example/upshot/upshot/ColumnCatalog$Length$Unit;" (.ref u_)) :
    oMet l Z yM13 prog_3_method_2_code 1 (some (.object "com/example/upshot/upshot/ColumnCatalog$Length$Unit")) ws ({ frames := 0, cells := 0, slots := 0, locals := 0 } : Room) 0 0 #[(.ref t_)] h0 (own_Q_unit Z  t_ u_ h0 n0) := by
  refine oenter own_pn4 #[.val (.ref t_)] (fun m => by first | (simp [entryFrame, mkF, argsToLocals, Value.category]; done) | rfl) ?_
  intro p e s m below meth c s₁ X0 hx hZ hby hml hret hown0 hnm hlk e0
  have hown : s.vm.findClass "com/example/upshot/upshot/ColumnCatalog$Length" = some m.cls := hown0
  have N0 := Fr.nil n0
  have w48 := hw _ (List.mem_of_getElem? (i := 48) rfl)
  refine o_aloadN X0 hx (hb hby d14_0) rfl rfl ?_
  obtain ⟨T1, X1, e1, st1⟩ := getF X0 hx hZ hown (host := "") (Or.inl w48) Via.refl e0 pr0 (g := (mkF m 1 #[.val (.ref t_)] [(.ref t_)])) rfl rfl (hb hby d14_1)
  refine ogo (S' := T1.setTop (mkF m 4 #[.val (.ref t_)] [(.ref u_)])) st1 ?_
  refine oend X1 hlk (v := some (.ref u_)) (fun h => by rw [hret] at h; cases h) (fun fs hr => retOut X1 hx (t := (.object "com/example/upshot/upshot/ColumnCatalog$Length$Unit")) (i := .areturn) hret rfl (Or.inr (Or.inr (Or.inr (Or.inr ⟨rfl, rfl, rfl⟩)))) (hb hby d14_4) hr) (by decide) (by decide) ?_
  show own_Q_unit Z _ _ h0 n0 _ T1.heap _
  rw [e1]
  exact ⟨rfl, N0, rfl⟩
theorem d15_0 : decode prog_3_method_3_code 0 = .ok (.aload_n 0, 1) := by decide +kernel
theorem d15_1 : decode prog_3_method_3_code 1 = .ok (.getfield 13, 3) := by decide +kernel
theorem d15_4 : decode prog_3_method_3_code 4 = .ok (.lreturn, 1) := by decide +kernel
def own_Q_most (Z : State)  (t_ : Addr) (m_ : Int64) (h0 : Heap) (n0 : Nat) (v : Option Value) (h : Heap) (L : List Loc) : Prop := (v = some (.long m_)) ∧ (Fr n0 L) ∧ (h = h0)
abbrev yM14 : MethodName := ⟨"com/example/upshot/upshot/ColumnCatalog$Length", "most", "()J"⟩
set_option maxRecDepth 65536 in
set_option maxHeartbeats 40000000 in
theorem rm_most (l : Launch) (Z : State) (a0 : Array Value) (hw : ∀ d ∈ tables_1, d.before a0 Z = true) (ws : List Jvm.Cond)  (t_ : Addr) (m_ : Int64) (h0 : Heap) (n0 : Nat) (O0 : Old Z n0 h0) (pr0 : Fld Z h0 t_ "com/example/upshot/upshot/ColumnCatalog$Length" "most" "J" (.long m_)) :
    oMet l Z yM14 prog_3_method_3_code 1 (some .long) ws ({ frames := 0, cells := 0, slots := 0, locals := 0 } : Room) 0 0 #[(.ref t_)] h0 (own_Q_most Z  t_ m_ h0 n0) := by
  refine oenter own_pn4 #[.val (.ref t_)] (fun m => by first | (simp [entryFrame, mkF, argsToLocals, Value.category]; done) | rfl) ?_
  intro p e s m below meth c s₁ X0 hx hZ hby hml hret hown0 hnm hlk e0
  have hown : s.vm.findClass "com/example/upshot/upshot/ColumnCatalog$Length" = some m.cls := hown0
  have N0 := Fr.nil n0
  have w50 := hw _ (List.mem_of_getElem? (i := 50) rfl)
  refine o_aloadN X0 hx (hb hby d15_0) rfl rfl ?_
  obtain ⟨T1, X1, e1, st1⟩ := getF X0 hx hZ hown (host := "") (Or.inl w50) Via.refl e0 pr0 (g := (mkF m 1 #[.val (.ref t_)] [(.ref t_)])) rfl rfl (hb hby d15_1)
  refine ogo (S' := T1.setTop (mkF m 4 #[.val (.ref t_)] [(.long m_)])) st1 ?_
  refine oend X1 hlk (v := some (.long m_)) (fun h => by rw [hret] at h; cases h) (fun fs hr => retOut X1 hx (t := .long) (i := .lreturn) hret rfl (Or.inr (Or.inl ⟨rfl, rfl, _, rfl⟩)) (hb hby d15_4) hr) (by decide) (by decide) ?_
  show own_Q_most Z _ _ h0 n0 _ T1.heap _
  rw [e1]
  exact ⟨rfl, N0, rfl⟩
theorem d16_0 : decode prog_3_method_5_code 0 = .ok (.aload_n 0, 1) := by decide +kernel
theorem d16_1 : decode prog_3_method_5_code 1 = .ok (.getfield 7, 3) := by decide +kernel
theorem d16_4 : decode prog_3_method_5_code 4 = .ok (.getstatic 17, 3) := by decide +kernel
theorem d16_7 : decode prog_3_method_5_code 7 = .ok (.if_acmp .ne 13, 3) := by decide +kernel
theorem d16_10 : decode prog_3_method_5_code 10 = .ok (.aload_n 1, 1) := by decide +kernel
theorem d16_11 : decode prog_3_method_5_code 11 = .ok (.checkcast 22, 3) := by decide +kernel
theorem d16_14 : decode prog_3_method_5_code 14 = .ok (.arraylength, 1) := by decide +kernel
theorem d16_15 : decode prog_3_method_5_code 15 = .ok (.i2l, 1) := by decide +kernel
theorem d16_16 : decode prog_3_method_5_code 16 = .ok (.lstore_n 2, 1) := by decide +kernel
theorem d16_17 : decode prog_3_method_5_code 17 = .ok (.goto 67, 3) := by decide +kernel
theorem d16_84 : decode prog_3_method_5_code 84 = .ok (.lload_n 2, 1) := by decide +kernel
theorem d16_85 : decode prog_3_method_5_code 85 = .ok (.lreturn, 1) := by decide +kernel
def own_Q_of_bytes (Z : State) (s_CHARACTERS : Addr) (s_BYTES : Addr) (s_CHARACTERS_BUT_TRAILING_SPACES : Addr) (z_CS : Int32) (v_FMT : Value) (t_ : Addr) (x_ : Addr) (kx_ : ClassId) (z_ : Int32) (h0 : Heap) (n0 : Nat) (v : Option Value) (h : Heap) (L : List Loc) : Prop := (v = some (.long z_.toInt64)) ∧ (Fr n0 L) ∧ (h = h0)
abbrev yM15 : MethodName := ⟨"com/example/upshot/upshot/ColumnCatalog$Length", "of", "(Ljava/lang/Object;)J"⟩
set_option maxRecDepth 65536 in
set_option maxHeartbeats 40000000 in
theorem rm_of_bytes (l : Launch) (Z : State) (a0 : Array Value) (hw : ∀ d ∈ tables_1, d.before a0 Z = true) (ws : List Jvm.Cond) (s_CHARACTERS : Addr) (s_BYTES : Addr) (s_CHARACTERS_BUT_TRAILING_SPACES : Addr) (z_CS : Int32) (v_FMT : Value) (t_ : Addr) (x_ : Addr) (kx_ : ClassId) (z_ : Int32) (h0 : Heap) (n0 : Nat) (SB : own_Start Z s_CHARACTERS s_BYTES s_CHARACTERS_BUT_TRAILING_SPACES z_CS v_FMT) (O0 : Old Z n0 h0) (pr0 : Fld Z h0 t_ "com/example/upshot/upshot/ColumnCatalog$Length" "unit" "Lcom/example/upshot/upshot/ColumnCatalog$Length$Unit;" (.ref s_BYTES)) (pr1 : Exa Z h0 x_ "[B") (pr2 : Arv Z h0 x_ kx_ .byte z_ [] (.int 0)) :
    oMet l Z yM15 prog_3_method_5_code 6 (some .long) ws ({ frames := 0, cells := 0, slots := 0, locals := 0 } : Room) 0 0 #[(.ref t_), (.ref x_)] h0 (own_Q_of_bytes Z s_CHARACTERS s_BYTES s_CHARACTERS_BUT_TRAILING_SPACES z_CS v_FMT t_ x_ kx_ z_ h0 n0) := by
  refine oenter own_pn4 #[.val (.ref t_), .val (.ref x_), .unset, .unset, .unset, .unset] (fun m => by first | (simp [entryFrame, mkF, argsToLocals, Value.category]; done) | rfl) ?_
  intro p e s m below meth c s₁ X0 hx hZ hby hml hret hown0 hnm hlk e0
  have hown : s.vm.findClass "com/example/upshot/upshot/ColumnCatalog$Length" = some m.cls := hown0
  have N0 := Fr.nil n0
  obtain ⟨S_s_CHARACTERS, E_s_CHARACTERS, S_s_BYTES, E_s_BYTES, S_s_CHARACTERS_BUT_TRAILING_SPACES, E_s_CHARACTERS_BUT_TRAILING_SPACES, F_s_CHARACTERS_ordinal, F_s_BYTES_ordinal, F_s_CHARACTERS_BUT_TRAILING_SPACES_ordinal, S_CS, H_CS, S_FMT, R_FMT⟩ := (id SB)
  have w48 := hw _ (List.mem_of_getElem? (i := 48) rfl)
  have w57 := hw _ (List.mem_of_getElem? (i := 57) rfl)
  have w90 := hw _ (List.mem_of_getElem? (i := 90) rfl)
  refine o_aloadN X0 hx (hb hby d16_0) rfl rfl ?_
  obtain ⟨T1, X1, e1, st1⟩ := getF X0 hx hZ hown (host := "") (Or.inl w48) Via.refl e0 pr0 (g := (mkF m 1 #[.val (.ref t_), .val (.ref x_), .unset, .unset, .unset, .unset] [(.ref t_)])) rfl rfl (hb hby d16_1)
  refine ogo (S' := T1.setTop (mkF m 4 #[.val (.ref t_), .val (.ref x_), .unset, .unset, .unset, .unset] [(.ref s_BYTES)])) st1 ?_
  obtain ⟨T2, X2, e2, st2⟩ := getS2 X1 hx hZ hown (host := "") (Or.inl w57) Via.refl e1 (Sta.ext O0.2 S_s_BYTES) (g := (mkF m 4 #[.val (.ref t_), .val (.ref x_), .unset, .unset, .unset, .unset] [(.ref s_BYTES)])) rfl (hb hby d16_4)
  refine ogo (S' := T2.setTop (mkF m 7 #[.val (.ref t_), .val (.ref x_), .unset, .unset, .unset, .unset] [(.ref s_BYTES), (.ref s_BYTES)])) st2 ?_
  refine o_acmp X2 hx 10 true rfl rfl (hb hby d16_7) (decide_eq_true rfl) (by decide) (by decide) ?_
  refine o_aloadN X2 hx (hb hby d16_10) rfl rfl ?_
  obtain ⟨T3, X3, e3, st3⟩ := castY X2 hx hZ hown w90 e2 (Ins.self pr1) (g := (mkF m 11 #[.val (.ref t_), .val (.ref x_), .unset, .unset, .unset, .unset] [(.ref x_)])) rfl rfl (hb hby d16_11)
  refine ogo (S' := T3.setTop (mkF m 14 #[.val (.ref t_), .val (.ref x_), .unset, .unset, .unset, .unset] [(.ref x_)])) st3 ?_
  obtain ⟨cl4, Ar4, -, S4, N4z, -, -⟩ := (id pr2)
  refine ogo (S' := T3.setTop (mkF m 15 #[.val (.ref t_), .val (.ref x_), .unset, .unset, .unset, .unset] [(.int z_)])) (fun _ kt_ => X3.arraylength hx (by rw [e3]; exact Ar4.1) (State.isArrayOf_alike hZ.alike Ar4.2.1) (g := (mkF m 14 #[.val (.ref t_), .val (.ref x_), .unset, .unset, .unset, .unset] [(.ref x_)])) rfl rfl (hb hby d16_14) _ (by rw [len_of S4 N4z]; exact kt_)) ?_
  refine o_i2l X3 hx (hb hby d16_15) ?_
  refine o_lstoreN X3 hx (l' := #[.val (.ref t_), .val (.ref x_), .val (.long z_.toInt64), .second, .unset, .unset]) (hb hby d16_16) rfl ?_
  refine o_goto X3 hx 84 (hb hby d16_17) (by decide) (by decide) ?_
  refine o_lloadN X3 hx (hb hby d16_84) rfl ?_
  refine oend X3 hlk (v := some (.long z_.toInt64)) (fun h => by rw [hret] at h; cases h) (fun fs hr => retOut X3 hx (t := .long) (i := .lreturn) hret rfl (Or.inr (Or.inl ⟨rfl, rfl, _, rfl⟩)) (hb hby d16_85) hr) (by decide) (by decide) ?_
  show own_Q_of_bytes Z _ _ _ _ _ _ _ _ _ h0 n0 _ T3.heap _
  rw [e3]
  exact ⟨rfl, N0, rfl⟩
theorem d17_0 : decode jdk_42_method_152_code 0 = .ok (.getstatic 38, 3) := by decide +kernel
theorem d17_3 : decode jdk_42_method_152_code 3 = .ok (.ifCond .eq 10, 3) := by decide +kernel
theorem d17_6 : decode jdk_42_method_152_code 6 = .ok (.aload_n 0, 1) := by decide +kernel
theorem d17_7 : decode jdk_42_method_152_code 7 = .ok (.getfield 15, 3) := by decide +kernel
theorem d17_10 : decode jdk_42_method_152_code 10 = .ok (.goto 4, 3) := by decide +kernel
theorem d17_14 : decode jdk_42_method_152_code 14 = .ok (.ireturn, 1) := by decide +kernel
def own_Q_coder (Z : State) (s_CHARACTERS : Addr) (s_BYTES : Addr) (s_CHARACTERS_BUT_TRAILING_SPACES : Addr) (z_CS : Int32) (v_FMT : Value) (x_ : Addr) (h0 : Heap) (n0 : Nat) (v : Option Value) (h : Heap) (L : List Loc) : Prop := (v = some (.int (0 : Int32))) ∧ (Fr n0 L) ∧ (h = h0)
abbrev yM16 : MethodName := ⟨"java/lang/String", "coder", "()B"⟩
set_option maxRecDepth 65536 in
set_option maxHeartbeats 40000000 in
theorem rm_coder (l : Launch) (Z : State) (a0 : Array Value) (hw : ∀ d ∈ tables_1, d.before a0 Z = true) (ws : List Jvm.Cond) (s_CHARACTERS : Addr) (s_BYTES : Addr) (s_CHARACTERS_BUT_TRAILING_SPACES : Addr) (z_CS : Int32) (v_FMT : Value) (x_ : Addr) (h0 : Heap) (n0 : Nat) (SB : own_Start Z s_CHARACTERS s_BYTES s_CHARACTERS_BUT_TRAILING_SPACES z_CS v_FMT) (O0 : Old Z n0 h0) (pr0 : Fld Z h0 x_ "java/lang/String" "coder" "B" (.int (0 : Int32))) :
    oMet l Z yM16 jdk_42_method_152_code 1 (some .byte) ws ({ frames := 0, cells := 0, slots := 0, locals := 0 } : Room) 0 0 #[(.ref x_)] h0 (own_Q_coder Z s_CHARACTERS s_BYTES s_CHARACTERS_BUT_TRAILING_SPACES z_CS v_FMT x_ h0 n0) := by
  refine oenter own_pn2 #[.val (.ref x_)] (fun m => by first | (simp [entryFrame, mkF, argsToLocals, Value.category]; done) | rfl) ?_
  intro p e s m below meth c s₁ X0 hx hZ hby hml hret hown0 hnm hlk e0
  have hown : s.vm.findClass "java/lang/String" = some m.cls := hown0
  have N0 := Fr.nil n0
  obtain ⟨S_s_CHARACTERS, E_s_CHARACTERS, S_s_BYTES, E_s_BYTES, S_s_CHARACTERS_BUT_TRAILING_SPACES, E_s_CHARACTERS_BUT_TRAILING_SPACES, F_s_CHARACTERS_ordinal, F_s_BYTES_ordinal, F_s_CHARACTERS_BUT_TRAILING_SPACES_ordinal, S_CS, H_CS, S_FMT, R_FMT⟩ := (id SB)
  have w25 := hw _ (List.mem_of_getElem? (i := 25) rfl)
  have w37 := hw _ (List.mem_of_getElem? (i := 37) rfl)
  obtain ⟨T1, X1, e1, st1⟩ := getS2 X0 hx hZ hown (host := "") (Or.inl w25) Via.refl e0 (Sta.ext O0.2 S_CS) (g := (mkF m 0 #[.val (.ref x_)] [])) rfl (hb hby d17_0)
  refine ogo (S' := T1.setTop (mkF m 3 #[.val (.ref x_)] [(.int z_CS)])) st1 ?_
  refine o_ifNo X1 hx (hb hby d17_3) (feq H_CS).1 ?_
  refine o_aloadN X1 hx (hb hby d17_6) rfl rfl ?_
  obtain ⟨T2, X2, e2, st2⟩ := getF X1 hx hZ hown (host := "") (Or.inl w37) Via.refl e1 pr0 (g := (mkF m 7 #[.val (.ref x_)] [(.ref x_)])) rfl rfl (hb hby d17_7)
  refine ogo (S' := T2.setTop (mkF m 10 #[.val (.ref x_)] [(.int (0 : Int32))])) st2 ?_
  refine o_goto X2 hx 14 (hb hby d17_10) (by decide) (by decide) ?_
  refine oend X2 hlk (v := some (.int (0 : Int32))) (fun h => by rw [hret] at h; cases h) (fun fs hr => retN X2 hx (t := .byte) hret (by simp) (hb hby d17_14) hr) (by decide) (by decide) ?_
  show own_Q_coder Z _ _ _ _ _ _ h0 n0 _ T2.heap _
  rw [e2]
  exact ⟨rfl, N0, rfl⟩
theorem own_pd9 : parseMethodDescriptor "()B" = some ⟨[], some .byte⟩ := by decide +kernel
theorem d18_0 : decode jdk_42_method_54_code 0 = .ok (.aload_n 0, 1) := by decide +kernel
theorem d18_1 : decode jdk_42_method_54_code 1 = .ok (.getfield 9, 3) := by decide +kernel
theorem d18_4 : decode jdk_42_method_54_code 4 = .ok (.arraylength, 1) := by decide +kernel
theorem d18_5 : decode jdk_42_method_54_code 5 = .ok (.aload_n 0, 1) := by decide +kernel
theorem d18_6 : decode jdk_42_method_54_code 6 = .ok (.invokevirtual 335, 3) := by decide +kernel
theorem d18_9 : decode jdk_42_method_54_code 9 = .ok (.ishr, 1) := by decide +kernel
theorem d18_10 : decode jdk_42_method_54_code 10 = .ok (.ireturn, 1) := by decide +kernel
def own_Q_len_0 (Z : State) (s_CHARACTERS : Addr) (s_BYTES : Addr) (s_CHARACTERS_BUT_TRAILING_SPACES : Addr) (z_CS : Int32) (v_FMT : Value) (x_ : Addr) (ba_ : Addr) (kb_ : ClassId) (vs_ : List Value) (h0 : Heap) (n0 : Nat) (v : Option Value) (h : Heap) (L : List Loc) : Prop := (v = some (.int (0 : Int32))) ∧ (Fr n0 L) ∧ (h = h0)
abbrev yM17 : MethodName := ⟨"java/lang/String", "length", "()I"⟩
set_option maxRecDepth 65536 in
set_option maxHeartbeats 40000000 in
theorem rm_len_0 (l : Launch) (Z : State) (a0 : Array Value) (hw : ∀ d ∈ tables_1, d.before a0 Z = true) (ws : List Jvm.Cond) (s_CHARACTERS : Addr) (s_BYTES : Addr) (s_CHARACTERS_BUT_TRAILING_SPACES : Addr) (z_CS : Int32) (v_FMT : Value) (x_ : Addr) (ba_ : Addr) (kb_ : ClassId) (vs_ : List Value) (h0 : Heap) (n0 : Nat) (SB : own_Start Z s_CHARACTERS s_BYTES s_CHARACTERS_BUT_TRAILING_SPACES z_CS v_FMT) (O0 : Old Z n0 h0) (pr0 : Exa Z h0 x_ "java/lang/String") (pr1 : Fld Z h0 x_ "java/lang/String" "coder" "B" (.int (0 : Int32))) (pr2 : Fld Z h0 x_ "java/lang/String" "value" "[B" (.ref ba_)) (pr3 : Arv Z h0 ba_ kb_ .byte (0 : Int32) vs_ (.int 0)) :
    oMet l Z yM17 jdk_42_method_54_code 1 (some .int) ws ({ frames := 1, cells := 0, slots := 0, locals := 13 } : Room) 0 0 #[(.ref x_)] h0 (own_Q_len_0 Z s_CHARACTERS s_BYTES s_CHARACTERS_BUT_TRAILING_SPACES z_CS v_FMT x_ ba_ kb_ vs_ h0 n0) := by
  refine oenter own_pn2 #[.val (.ref x_)] (fun m => by first | (simp [entryFrame, mkF, argsToLocals, Value.category]; done) | rfl) ?_
  intro p e s m below meth c s₁ X0 hx hZ hby hml hret hown0 hnm hlk e0
  have hown : s.vm.findClass "java/lang/String" = some m.cls := hown0
  have N0 := Fr.nil n0
  obtain ⟨S_s_CHARACTERS, E_s_CHARACTERS, S_s_BYTES, E_s_BYTES, S_s_CHARACTERS_BUT_TRAILING_SPACES, E_s_CHARACTERS_BUT_TRAILING_SPACES, F_s_CHARACTERS_ordinal, F_s_BYTES_ordinal, F_s_CHARACTERS_BUT_TRAILING_SPACES_ordinal, S_CS, H_CS, S_FMT, R_FMT⟩ := (id SB)
  have w14 := hw _ (List.mem_of_getElem? (i := 14) rfl)
  have w39 := hw _ (List.mem_of_getElem? (i := 39) rfl)
  have w67 := hw _ (List.mem_of_getElem? (i := 67) rfl)
  have w68 := hw _ (List.mem_of_getElem? (i := 68) rfl)
  have w69 := hw _ (List.mem_of_getElem? (i := 69) rfl)
  have w70 := hw _ (List.mem_of_getElem? (i := 70) rfl)
  have w71 := hw _ (List.mem_of_getElem? (i := 71) rfl)
  refine o_aloadN X0 hx (hb hby d18_0) rfl rfl ?_
  obtain ⟨T1, X1, e1, st1⟩ := getF X0 hx hZ hown (host := "") (Or.inl w39) Via.refl e0 pr2 (g := (mkF m 1 #[.val (.ref x_)] [(.ref x_)])) rfl rfl (hb hby d18_1)
  refine ogo (S' := T1.setTop (mkF m 4 #[.val (.ref x_)] [(.ref ba_)])) st1 ?_
  obtain ⟨cl2, Ar2, -, S2, N2z, -, -⟩ := (id pr3)
  refine ogo (S' := T1.setTop (mkF m 5 #[.val (.ref x_)] [(.int (0 : Int32))])) (fun _ kt_ => X1.arraylength hx (by rw [e1]; exact Ar2.1) (State.isArrayOf_alike hZ.alike Ar2.2.1) (g := (mkF m 4 #[.val (.ref x_)] [(.ref ba_)])) rfl rfl (hb hby d18_4) _ (by rw [len_of S2 N2z]; exact kt_)) ?_
  refine o_aloadN X1 hx (hb hby d18_5) rfl rfl ?_
  obtain ⟨cq3, kq3, q3a, q3b, q3c⟩ := isOf hZ e1 pr0
  obtain ⟨_, _, ⟨T3, L3, kc3, n3⟩, -, X3, ⟨Lc3, hQ3, l3, y3, z3⟩, st3⟩ := X1.virtualBack hx (y := yM16) (z := yM16) hown (mvT hZ w67) (mvT hZ w68) (notFace_of_selects (args := #[]) (mvT hZ w70)) (mvT hZ w70) (mvT hZ w69) (by decide) (backOf (W := 1) (rm_coder l Z a0 hw [] s_CHARACTERS s_BYTES s_CHARACTERS_BUT_TRAILING_SPACES z_CS v_FMT x_ h0 n0 SB O0 pr1) hZ w71 w14 (by decide) (by decide)) q3a q3c (g := (mkF m 6 #[.val (.ref x_)] [(.ref x_), (.int (0 : Int32))])) rfl (by rw [hml]; rfl) (Steps.refl _) (argsL := []) (rest := [(.int (0 : Int32))]) (lenOf own_pd9 rfl) rfl (by show 2 * 0 + _ ≤ _; exact Nat.le_of_eq rfl) (hb hby d18_6) (fun _ _ => ⟨rfl, e1, (by decide : 0 + 0 ≤ _), (by decide : 0 + 0 ≤ _)⟩)
  dsimp only [Pt.U, Pt.locs, Pt.cells, Pt.slots] at X3 l3 y3 z3 st3 hQ3
  subst l3 y3 z3
  obtain ⟨rfl, Nq3, e3⟩ := hQ3
  have N3 := Fr.app N0 Nq3
  refine otr (S' := T3.setTop (mkF m 9 #[.val (.ref x_)] [(.int (0 : Int32)), (.int (0 : Int32))])) st3 ?_
  refine o_ishr X3 hx (hb hby d18_9) ?_
  refine oend X3 hlk (v := some (.int (0 : Int32))) (fun h => by rw [hret] at h; cases h) (fun fs hr => retOut X3 hx (t := .int) (i := .ireturn) hret rfl (Or.inl ⟨rfl, Or.inl rfl, _, rfl⟩) (hb hby d18_10) hr) (by decide) (by decide) ?_
  show own_Q_len_0 Z _ _ _ _ _ _ _ _ _ h0 n0 _ T3.heap _
  rw [e3]
  exact ⟨rfl, N3, rfl⟩
theorem own_pd10 : parseMethodDescriptor "()I" = some ⟨[], some .int⟩ := by decide +kernel
theorem d16_20 : decode prog_3_method_5_code 20 = .ok (.aload_n 0, 1) := by decide +kernel
theorem d16_21 : decode prog_3_method_5_code 21 = .ok (.getfield 7, 3) := by decide +kernel
theorem d16_24 : decode prog_3_method_5_code 24 = .ok (.getstatic 26, 3) := by decide +kernel
theorem d16_27 : decode prog_3_method_5_code 27 = .ok (.if_acmp .ne 48, 3) := by decide +kernel
theorem d16_75 : decode prog_3_method_5_code 75 = .ok (.aload_n 1, 1) := by decide +kernel
theorem d16_76 : decode prog_3_method_5_code 76 = .ok (.checkcast 24, 3) := by decide +kernel
theorem d16_79 : decode prog_3_method_5_code 79 = .ok (.invokevirtual 29, 3) := by decide +kernel
theorem d16_82 : decode prog_3_method_5_code 82 = .ok (.i2l, 1) := by decide +kernel
theorem d16_83 : decode prog_3_method_5_code 83 = .ok (.lstore_n 2, 1) := by decide +kernel
def own_Q_of_chars_0 (Z : State) (s_CHARACTERS : Addr) (s_BYTES : Addr) (s_CHARACTERS_BUT_TRAILING_SPACES : Addr) (z_CS : Int32) (v_FMT : Value) (t_ : Addr) (x_ : Addr) (ba_ : Addr) (kb_ : ClassId) (vs_ : List Value) (h0 : Heap) (n0 : Nat) (v : Option Value) (h : Heap) (L : List Loc) : Prop := (v = some (.long (0 : Int64))) ∧ (Fr n0 L) ∧ (h = h0)
set_option maxRecDepth 65536 in
set_option maxHeartbeats 40000000 in
theorem rm_of_chars_0 (l : Launch) (Z : State) (a0 : Array Value) (hw : ∀ d ∈ tables_1, d.before a0 Z = true) (ws : List Jvm.Cond) (s_CHARACTERS : Addr) (s_BYTES : Addr) (s_CHARACTERS_BUT_TRAILING_SPACES : Addr) (z_CS : Int32) (v_FMT : Value) (t_ : Addr) (x_ : Addr) (ba_ : Addr) (kb_ : ClassId) (vs_ : List Value) (h0 : Heap) (n0 : Nat) (SB : own_Start Z s_CHARACTERS s_BYTES s_CHARACTERS_BUT_TRAILING_SPACES z_CS v_FMT) (O0 : Old Z n0 h0) (pr0 : Fld Z h0 t_ "com/example/upshot/upshot/ColumnCatalog$Length" "unit" "Lcom/example/upshot/upshot/ColumnCatalog$Length$Unit;" (.ref s_CHARACTERS)) (pr1 : Exa Z h0 x_ "java/lang/String") (pr2 : Fld Z h0 x_ "java/lang/String" "coder" "B" (.int (0 : Int32))) (pr3 : Fld Z h0 x_ "java/lang/String" "value" "[B" (.ref ba_)) (pr4 : Arv Z h0 ba_ kb_ .byte (0 : Int32) vs_ (.int 0)) :
    oMet l Z yM15 prog_3_method_5_code 6 (some .long) ws ({ frames := 2, cells := 0, slots := 0, locals := 25 } : Room) 0 0 #[(.ref t_), (.ref x_)] h0 (own_Q_of_chars_0 Z s_CHARACTERS s_BYTES s_CHARACTERS_BUT_TRAILING_SPACES z_CS v_FMT t_ x_ ba_ kb_ vs_ h0 n0) := by
  refine oenter own_pn4 #[.val (.ref t_), .val (.ref x_), .unset, .unset, .unset, .unset] (fun m => by first | (simp [entryFrame, mkF, argsToLocals, Value.category]; done) | rfl) ?_
  intro p e s m below meth c s₁ X0 hx hZ hby hml hret hown0 hnm hlk e0
  have hown : s.vm.findClass "com/example/upshot/upshot/ColumnCatalog$Length" = some m.cls := hown0
  have N0 := Fr.nil n0
  obtain ⟨S_s_CHARACTERS, E_s_CHARACTERS, S_s_BYTES, E_s_BYTES, S_s_CHARACTERS_BUT_TRAILING_SPACES, E_s_CHARACTERS_BUT_TRAILING_SPACES, F_s_CHARACTERS_ordinal, F_s_BYTES_ordinal, F_s_CHARACTERS_BUT_TRAILING_SPACES_ordinal, S_CS, H_CS, S_FMT, R_FMT⟩ := (id SB)
  have w14 := hw _ (List.mem_of_getElem? (i := 14) rfl)
  have w48 := hw _ (List.mem_of_getElem? (i := 48) rfl)
  have w57 := hw _ (List.mem_of_getElem? (i := 57) rfl)
  have w59 := hw _ (List.mem_of_getElem? (i := 59) rfl)
  have w61 := hw _ (List.mem_of_getElem? (i := 61) rfl)
  have w62 := hw _ (List.mem_of_getElem? (i := 62) rfl)
  have w63 := hw _ (List.mem_of_getElem? (i := 63) rfl)
  have w64 := hw _ (List.mem_of_getElem? (i := 64) rfl)
  have w65 := hw _ (List.mem_of_getElem? (i := 65) rfl)
  have w66 := hw _ (List.mem_of_getElem? (i := 66) rfl)
  refine o_aloadN X0 hx (hb hby d16_0) rfl rfl ?_
  obtain ⟨T1, X1, e1, st1⟩ := getF X0 hx hZ hown (host := "") (Or.inl w48) Via.refl e0 pr0 (g := (mkF m 1 #[.val (.ref t_), .val (.ref x_), .unset, .unset, .unset, .unset] [(.ref t_)])) rfl rfl (hb hby d16_1)
  refine ogo (S' := T1.setTop (mkF m 4 #[.val (.ref t_), .val (.ref x_), .unset, .unset, .unset, .unset] [(.ref s_CHARACTERS)])) st1 ?_
  obtain ⟨T2, X2, e2, st2⟩ := getS2 X1 hx hZ hown (host := "") (Or.inl w57) Via.refl e1 (Sta.ext O0.2 S_s_BYTES) (g := (mkF m 4 #[.val (.ref t_), .val (.ref x_), .unset, .unset, .unset, .unset] [(.ref s_CHARACTERS)])) rfl (hb hby d16_4)
  refine ogo (S' := T2.setTop (mkF m 7 #[.val (.ref t_), .val (.ref x_), .unset, .unset, .unset, .unset] [(.ref s_BYTES), (.ref s_CHARACTERS)])) st2 ?_
  refine o_acmp X2 hx 20 false rfl rfl (hb hby d16_7) (decide_eq_false fun q => (Fld.ne F_s_CHARACTERS_ordinal F_s_BYTES_ordinal (by decide)) (Value.ref.inj q)) (by decide) (by decide) ?_
  refine o_aloadN X2 hx (hb hby d16_20) rfl rfl ?_
  obtain ⟨T3, X3, e3, st3⟩ := getF X2 hx hZ hown (host := "") (Or.inl w48) Via.refl e2 pr0 (g := (mkF m 21 #[.val (.ref t_), .val (.ref x_), .unset, .unset, .unset, .unset] [(.ref t_)])) rfl rfl (hb hby d16_21)
  refine ogo (S' := T3.setTop (mkF m 24 #[.val (.ref t_), .val (.ref x_), .unset, .unset, .unset, .unset] [(.ref s_CHARACTERS)])) st3 ?_
  obtain ⟨T4, X4, e4, st4⟩ := getS2 X3 hx hZ hown (host := "") (Or.inl w59) Via.refl e3 (Sta.ext O0.2 S_s_CHARACTERS_BUT_TRAILING_SPACES) (g := (mkF m 24 #[.val (.ref t_), .val (.ref x_), .unset, .unset, .unset, .unset] [(.ref s_CHARACTERS)])) rfl (hb hby d16_24)
  refine ogo (S' := T4.setTop (mkF m 27 #[.val (.ref t_), .val (.ref x_), .unset, .unset, .unset, .unset] [(.ref s_CHARACTERS_BUT_TRAILING_SPACES), (.ref s_CHARACTERS)])) st4 ?_
  refine o_acmp X4 hx 75 false rfl rfl (hb hby d16_27) (decide_eq_false fun q => (Fld.ne F_s_CHARACTERS_ordinal F_s_CHARACTERS_BUT_TRAILING_SPACES_ordinal (by decide)) (Value.ref.inj q)) (by decide) (by decide) ?_
  refine o_aloadN X4 hx (hb hby d16_75) rfl rfl ?_
  obtain ⟨T5, X5, e5, st5⟩ := castY X4 hx hZ hown w61 e4 (Ins.self pr1) (g := (mkF m 76 #[.val (.ref t_), .val (.ref x_), .unset, .unset, .unset, .unset] [(.ref x_)])) rfl rfl (hb hby d16_76)
  refine ogo (S' := T5.setTop (mkF m 79 #[.val (.ref t_), .val (.ref x_), .unset, .unset, .unset, .unset] [(.ref x_)])) st5 ?_
  obtain ⟨cq6, kq6, q6a, q6b, q6c⟩ := isOf hZ e5 pr1
  obtain ⟨_, _, ⟨T6, L6, kc6, n6⟩, -, X6, ⟨Lc6, hQ6, l6, y6, z6⟩, st6⟩ := X5.virtualBack hx (y := yM17) (z := yM17) hown (mvT hZ w62) (mvT hZ w63) (notFace_of_selects (args := #[]) (mvT hZ w65)) (mvT hZ w65) (mvT hZ w64) (by decide) (backOf (W := 0) (rm_len_0 l Z a0 hw [] s_CHARACTERS s_BYTES s_CHARACTERS_BUT_TRAILING_SPACES z_CS v_FMT x_ ba_ kb_ vs_ h0 n0 SB O0 pr1 pr2 pr3 pr4) hZ w66 w14 (by decide) (by decide)) q6a q6c (g := (mkF m 79 #[.val (.ref t_), .val (.ref x_), .unset, .unset, .unset, .unset] [(.ref x_)])) rfl (by rw [hml]; rfl) (Steps.refl _) (argsL := []) (rest := []) (lenOf own_pd10 rfl) rfl (by show 2 * 0 + _ ≤ _; exact Nat.le_of_eq rfl) (hb hby d16_79) (fun _ _ => ⟨rfl, e5, (by decide : 0 + 0 ≤ _), (by decide : 0 + 0 ≤ _)⟩)
  dsimp only [Pt.U, Pt.locs, Pt.cells, Pt.slots] at X6 l6 y6 z6 st6 hQ6
  subst l6 y6 z6
  obtain ⟨rfl, Nq6, e6⟩ := hQ6
  have N6 := Fr.app N0 Nq6
  refine otr (S' := T6.setTop (mkF m 82 #[.val (.ref t_), .val (.ref x_), .unset, .unset, .unset, .unset] [(.int (0 : Int32))])) st6 ?_
  refine o_i2l X6 hx (hb hby d16_82) ?_
  refine o_lstoreN X6 hx (l' := #[.val (.ref t_), .val (.ref x_), .val (.long (0 : Int64)), .second, .unset, .unset]) (hb hby d16_83) rfl ?_
  refine o_lloadN X6 hx (hb hby d16_84) rfl ?_
  refine oend X6 hlk (v := some (.long (0 : Int64))) (fun h => by rw [hret] at h; cases h) (fun fs hr => retOut X6 hx (t := .long) (i := .lreturn) hret rfl (Or.inr (Or.inl ⟨rfl, rfl, _, rfl⟩)) (hb hby d16_85) hr) (by decide) (by decide) ?_
  show own_Q_of_chars_0 Z _ _ _ _ _ _ _ _ _ _ h0 n0 _ T6.heap _
  rw [e6]
  exact ⟨rfl, N6, rfl⟩
def own_Q_len_1 (Z : State) (s_CHARACTERS : Addr) (s_BYTES : Addr) (s_CHARACTERS_BUT_TRAILING_SPACES : Addr) (z_CS : Int32) (v_FMT : Value) (x_ : Addr) (ba_ : Addr) (kb_ : ClassId) (vs_ : List Value) (h0 : Heap) (n0 : Nat) (v : Option Value) (h : Heap) (L : List Loc) : Prop := (v = some (.int (1 : Int32))) ∧ (Fr n0 L) ∧ (h = h0)
set_option maxRecDepth 65536 in
set_option maxHeartbeats 40000000 in
theorem rm_len_1 (l : Launch) (Z : State) (a0 : Array Value) (hw : ∀ d ∈ tables_1, d.before a0 Z = true) (ws : List Jvm.Cond) (s_CHARACTERS : Addr) (s_BYTES : Addr) (s_CHARACTERS_BUT_TRAILING_SPACES : Addr) (z_CS : Int32) (v_FMT : Value) (x_ : Addr) (ba_ : Addr) (kb_ : ClassId) (vs_ : List Value) (h0 : Heap) (n0 : Nat) (SB : own_Start Z s_CHARACTERS s_BYTES s_CHARACTERS_BUT_TRAILING_SPACES z_CS v_FMT) (O0 : Old Z n0 h0) (pr0 : Exa Z h0 x_ "java/lang/String") (pr1 : Fld Z h0 x_ "java/lang/String" "coder" "B" (.int (0 : Int32))) (pr2 : Fld Z h0 x_ "java/lang/String" "value" "[B" (.ref ba_)) (pr3 : Arv Z h0 ba_ kb_ .byte (1 : Int32) vs_ (.int 0)) :
    oMet l Z yM17 jdk_42_method_54_code 1 (some .int) ws ({ frames := 1, cells := 0, slots := 0, locals := 13 } : Room) 0 0 #[(.ref x_)] h0 (own_Q_len_1 Z s_CHARACTERS s_BYTES s_CHARACTERS_BUT_TRAILING_SPACES z_CS v_FMT x_ ba_ kb_ vs_ h0 n0) := by
  refine oenter own_pn2 #[.val (.ref x_)] (fun m => by first | (simp [entryFrame, mkF, argsToLocals, Value.category]; done) | rfl) ?_
  intro p e s m below meth c s₁ X0 hx hZ hby hml hret hown0 hnm hlk e0
  have hown : s.vm.findClass "java/lang/String" = some m.cls := hown0
  have N0 := Fr.nil n0
  obtain ⟨S_s_CHARACTERS, E_s_CHARACTERS, S_s_BYTES, E_s_BYTES, S_s_CHARACTERS_BUT_TRAILING_SPACES, E_s_CHARACTERS_BUT_TRAILING_SPACES, F_s_CHARACTERS_ordinal, F_s_BYTES_ordinal, F_s_CHARACTERS_BUT_TRAILING_SPACES_ordinal, S_CS, H_CS, S_FMT, R_FMT⟩ := (id SB)
  have w14 := hw _ (List.mem_of_getElem? (i := 14) rfl)
  have w39 := hw _ (List.mem_of_getElem? (i := 39) rfl)
  have w67 := hw _ (List.mem_of_getElem? (i := 67) rfl)
  have w68 := hw _ (List.mem_of_getElem? (i := 68) rfl)
  have w69 := hw _ (List.mem_of_getElem? (i := 69) rfl)
  have w70 := hw _ (List.mem_of_getElem? (i := 70) rfl)
  have w71 := hw _ (List.mem_of_getElem? (i := 71) rfl)
  refine o_aloadN X0 hx (hb hby d18_0) rfl rfl ?_
  obtain ⟨T1, X1, e1, st1⟩ := getF X0 hx hZ hown (host := "") (Or.inl w39) Via.refl e0 pr2 (g := (mkF m 1 #[.val (.ref x_)] [(.ref x_)])) rfl rfl (hb hby d18_1)
  refine ogo (S' := T1.setTop (mkF m 4 #[.val (.ref x_)] [(.ref ba_)])) st1 ?_
  obtain ⟨cl2, Ar2, -, S2, N2z, -, -⟩ := (id pr3)
  refine ogo (S' := T1.setTop (mkF m 5 #[.val (.ref x_)] [(.int (1 : Int32))])) (fun _ kt_ => X1.arraylength hx (by rw [e1]; exact Ar2.1) (State.isArrayOf_alike hZ.alike Ar2.2.1) (g := (mkF m 4 #[.val (.ref x_)] [(.ref ba_)])) rfl rfl (hb hby d18_4) _ (by rw [len_of S2 N2z]; exact kt_)) ?_
  refine o_aloadN X1 hx (hb hby d18_5) rfl rfl ?_
  obtain ⟨cq3, kq3, q3a, q3b, q3c⟩ := isOf hZ e1 pr0
  obtain ⟨_, _, ⟨T3, L3, kc3, n3⟩, -, X3, ⟨Lc3, hQ3, l3, y3, z3⟩, st3⟩ := X1.virtualBack hx (y := yM16) (z := yM16) hown (mvT hZ w67) (mvT hZ w68) (notFace_of_selects (args := #[]) (mvT hZ w70)) (mvT hZ w70) (mvT hZ w69) (by decide) (backOf (W := 1) (rm_coder l Z a0 hw [] s_CHARACTERS s_BYTES s_CHARACTERS_BUT_TRAILING_SPACES z_CS v_FMT x_ h0 n0 SB O0 pr1) hZ w71 w14 (by decide) (by decide)) q3a q3c (g := (mkF m 6 #[.val (.ref x_)] [(.ref x_), (.int (1 : Int32))])) rfl (by rw [hml]; rfl) (Steps.refl _) (argsL := []) (rest := [(.int (1 : Int32))]) (lenOf own_pd9 rfl) rfl (by show 2 * 0 + _ ≤ _; exact Nat.le_of_eq rfl) (hb hby d18_6) (fun _ _ => ⟨rfl, e1, (by decide : 0 + 0 ≤ _), (by decide : 0 + 0 ≤ _)⟩)
  dsimp only [Pt.U, Pt.locs, Pt.cells, Pt.slots] at X3 l3 y3 z3 st3 hQ3
  subst l3 y3 z3
  obtain ⟨rfl, Nq3, e3⟩ := hQ3
  have N3 := Fr.app N0 Nq3
  refine otr (S' := T3.setTop (mkF m 9 #[.val (.ref x_)] [(.int (0 : Int32)), (.int (1 : Int32))])) st3 ?_
  refine o_ishr X3 hx (hb hby d18_9) ?_
  refine oend X3 hlk (v := some (.int (1 : Int32))) (fun h => by rw [hret] at h; cases h) (fun fs hr => retOut X3 hx (t := .int) (i := .ireturn) hret rfl (Or.inl ⟨rfl, Or.inl rfl, _, rfl⟩) (hb hby d18_10) hr) (by decide) (by decide) ?_
  show own_Q_len_1 Z _ _ _ _ _ _ _ _ _ h0 n0 _ T3.heap _
  rw [e3]
  exact ⟨rfl, N3, rfl⟩
def own_Q_of_chars_1 (Z : State) (s_CHARACTERS : Addr) (s_BYTES : Addr) (s_CHARACTERS_BUT_TRAILING_SPACES : Addr) (z_CS : Int32) (v_FMT : Value) (t_ : Addr) (x_ : Addr) (ba_ : Addr) (kb_ : ClassId) (vs_ : List Value) (h0 : Heap) (n0 : Nat) (v : Option Value) (h : Heap) (L : List Loc) : Prop := (v = some (.long (1 : Int64))) ∧ (Fr n0 L) ∧ (h = h0)
set_option maxRecDepth 65536 in
set_option maxHeartbeats 40000000 in
theorem rm_of_chars_1 (l : Launch) (Z : State) (a0 : Array Value) (hw : ∀ d ∈ tables_1, d.before a0 Z = true) (ws : List Jvm.Cond) (s_CHARACTERS : Addr) (s_BYTES : Addr) (s_CHARACTERS_BUT_TRAILING_SPACES : Addr) (z_CS : Int32) (v_FMT : Value) (t_ : Addr) (x_ : Addr) (ba_ : Addr) (kb_ : ClassId) (vs_ : List Value) (h0 : Heap) (n0 : Nat) (SB : own_Start Z s_CHARACTERS s_BYTES s_CHARACTERS_BUT_TRAILING_SPACES z_CS v_FMT) (O0 : Old Z n0 h0) (pr0 : Fld Z h0 t_ "com/example/upshot/upshot/ColumnCatalog$Length" "unit" "Lcom/example/upshot/upshot/ColumnCatalog$Length$Unit;" (.ref s_CHARACTERS)) (pr1 : Exa Z h0 x_ "java/lang/String") (pr2 : Fld Z h0 x_ "java/lang/String" "coder" "B" (.int (0 : Int32))) (pr3 : Fld Z h0 x_ "java/lang/String" "value" "[B" (.ref ba_)) (pr4 : Arv Z h0 ba_ kb_ .byte (1 : Int32) vs_ (.int 0)) :
    oMet l Z yM15 prog_3_method_5_code 6 (some .long) ws ({ frames := 2, cells := 0, slots := 0, locals := 25 } : Room) 0 0 #[(.ref t_), (.ref x_)] h0 (own_Q_of_chars_1 Z s_CHARACTERS s_BYTES s_CHARACTERS_BUT_TRAILING_SPACES z_CS v_FMT t_ x_ ba_ kb_ vs_ h0 n0) := by
  refine oenter own_pn4 #[.val (.ref t_), .val (.ref x_), .unset, .unset, .unset, .unset] (fun m => by first | (simp [entryFrame, mkF, argsToLocals, Value.category]; done) | rfl) ?_
  intro p e s m below meth c s₁ X0 hx hZ hby hml hret hown0 hnm hlk e0
  have hown : s.vm.findClass "com/example/upshot/upshot/ColumnCatalog$Length" = some m.cls := hown0
  have N0 := Fr.nil n0
  obtain ⟨S_s_CHARACTERS, E_s_CHARACTERS, S_s_BYTES, E_s_BYTES, S_s_CHARACTERS_BUT_TRAILING_SPACES, E_s_CHARACTERS_BUT_TRAILING_SPACES, F_s_CHARACTERS_ordinal, F_s_BYTES_ordinal, F_s_CHARACTERS_BUT_TRAILING_SPACES_ordinal, S_CS, H_CS, S_FMT, R_FMT⟩ := (id SB)
  have w14 := hw _ (List.mem_of_getElem? (i := 14) rfl)
  have w48 := hw _ (List.mem_of_getElem? (i := 48) rfl)
  have w57 := hw _ (List.mem_of_getElem? (i := 57) rfl)
  have w59 := hw _ (List.mem_of_getElem? (i := 59) rfl)
  have w61 := hw _ (List.mem_of_getElem? (i := 61) rfl)
  have w62 := hw _ (List.mem_of_getElem? (i := 62) rfl)
  have w63 := hw _ (List.mem_of_getElem? (i := 63) rfl)
  have w64 := hw _ (List.mem_of_getElem? (i := 64) rfl)
  have w65 := hw _ (List.mem_of_getElem? (i := 65) rfl)
  have w66 := hw _ (List.mem_of_getElem? (i := 66) rfl)
  refine o_aloadN X0 hx (hb hby d16_0) rfl rfl ?_
  obtain ⟨T1, X1, e1, st1⟩ := getF X0 hx hZ hown (host := "") (Or.inl w48) Via.refl e0 pr0 (g := (mkF m 1 #[.val (.ref t_), .val (.ref x_), .unset, .unset, .unset, .unset] [(.ref t_)])) rfl rfl (hb hby d16_1)
  refine ogo (S' := T1.setTop (mkF m 4 #[.val (.ref t_), .val (.ref x_), .unset, .unset, .unset, .unset] [(.ref s_CHARACTERS)])) st1 ?_
  obtain ⟨T2, X2, e2, st2⟩ := getS2 X1 hx hZ hown (host := "") (Or.inl w57) Via.refl e1 (Sta.ext O0.2 S_s_BYTES) (g := (mkF m 4 #[.val (.ref t_), .val (.ref x_), .unset, .unset, .unset, .unset] [(.ref s_CHARACTERS)])) rfl (hb hby d16_4)
  refine ogo (S' := T2.setTop (mkF m 7 #[.val (.ref t_), .val (.ref x_), .unset, .unset, .unset, .unset] [(.ref s_BYTES), (.ref s_CHARACTERS)])) st2 ?_
  refine o_acmp X2 hx 20 false rfl rfl (hb hby d16_7) (decide_eq_false fun q => (Fld.ne F_s_CHARACTERS_ordinal F_s_BYTES_ordinal (by decide)) (Value.ref.inj q)) (by decide) (by decide) ?_
  refine o_aloadN X2 hx (hb hby d16_20) rfl rfl ?_
  obtain ⟨T3, X3, e3, st3⟩ := getF X2 hx hZ hown (host := "") (Or.inl w48) Via.refl e2 pr0 (g := (mkF m 21 #[.val (.ref t_), .val (.ref x_), .unset, .unset, .unset, .unset] [(.ref t_)])) rfl rfl (hb hby d16_21)
  refine ogo (S' := T3.setTop (mkF m 24 #[.val (.ref t_), .val (.ref x_), .unset, .unset, .unset, .unset] [(.ref s_CHARACTERS)])) st3 ?_
  obtain ⟨T4, X4, e4, st4⟩ := getS2 X3 hx hZ hown (host := "") (Or.inl w59) Via.refl e3 (Sta.ext O0.2 S_s_CHARACTERS_BUT_TRAILING_SPACES) (g := (mkF m 24 #[.val (.ref t_), .val (.ref x_), .unset, .unset, .unset, .unset] [(.ref s_CHARACTERS)])) rfl (hb hby d16_24)
  refine ogo (S' := T4.setTop (mkF m 27 #[.val (.ref t_), .val (.ref x_), .unset, .unset, .unset, .unset] [(.ref s_CHARACTERS_BUT_TRAILING_SPACES), (.ref s_CHARACTERS)])) st4 ?_
  refine o_acmp X4 hx 75 false rfl rfl (hb hby d16_27) (decide_eq_false fun q => (Fld.ne F_s_CHARACTERS_ordinal F_s_CHARACTERS_BUT_TRAILING_SPACES_ordinal (by decide)) (Value.ref.inj q)) (by decide) (by decide) ?_
  refine o_aloadN X4 hx (hb hby d16_75) rfl rfl ?_
  obtain ⟨T5, X5, e5, st5⟩ := castY X4 hx hZ hown w61 e4 (Ins.self pr1) (g := (mkF m 76 #[.val (.ref t_), .val (.ref x_), .unset, .unset, .unset, .unset] [(.ref x_)])) rfl rfl (hb hby d16_76)
  refine ogo (S' := T5.setTop (mkF m 79 #[.val (.ref t_), .val (.ref x_), .unset, .unset, .unset, .unset] [(.ref x_)])) st5 ?_
  obtain ⟨cq6, kq6, q6a, q6b, q6c⟩ := isOf hZ e5 pr1
  obtain ⟨_, _, ⟨T6, L6, kc6, n6⟩, -, X6, ⟨Lc6, hQ6, l6, y6, z6⟩, st6⟩ := X5.virtualBack hx (y := yM17) (z := yM17) hown (mvT hZ w62) (mvT hZ w63) (notFace_of_selects (args := #[]) (mvT hZ w65)) (mvT hZ w65) (mvT hZ w64) (by decide) (backOf (W := 0) (rm_len_1 l Z a0 hw [] s_CHARACTERS s_BYTES s_CHARACTERS_BUT_TRAILING_SPACES z_CS v_FMT x_ ba_ kb_ vs_ h0 n0 SB O0 pr1 pr2 pr3 pr4) hZ w66 w14 (by decide) (by decide)) q6a q6c (g := (mkF m 79 #[.val (.ref t_), .val (.ref x_), .unset, .unset, .unset, .unset] [(.ref x_)])) rfl (by rw [hml]; rfl) (Steps.refl _) (argsL := []) (rest := []) (lenOf own_pd10 rfl) rfl (by show 2 * 0 + _ ≤ _; exact Nat.le_of_eq rfl) (hb hby d16_79) (fun _ _ => ⟨rfl, e5, (by decide : 0 + 0 ≤ _), (by decide : 0 + 0 ≤ _)⟩)
  dsimp only [Pt.U, Pt.locs, Pt.cells, Pt.slots] at X6 l6 y6 z6 st6 hQ6
  subst l6 y6 z6
  obtain ⟨rfl, Nq6, e6⟩ := hQ6
  have N6 := Fr.app N0 Nq6
  refine otr (S' := T6.setTop (mkF m 82 #[.val (.ref t_), .val (.ref x_), .unset, .unset, .unset, .unset] [(.int (1 : Int32))])) st6 ?_
  refine o_i2l X6 hx (hb hby d16_82) ?_
  refine o_lstoreN X6 hx (l' := #[.val (.ref t_), .val (.ref x_), .val (.long (1 : Int64)), .second, .unset, .unset]) (hb hby d16_83) rfl ?_
  refine o_lloadN X6 hx (hb hby d16_84) rfl ?_
  refine oend X6 hlk (v := some (.long (1 : Int64))) (fun h => by rw [hret] at h; cases h) (fun fs hr => retOut X6 hx (t := .long) (i := .lreturn) hret rfl (Or.inr (Or.inl ⟨rfl, rfl, _, rfl⟩)) (hb hby d16_85) hr) (by decide) (by decide) ?_
  show own_Q_of_chars_1 Z _ _ _ _ _ _ _ _ _ _ h0 n0 _ T6.heap _
  rw [e6]
  exact ⟨rfl, N6, rfl⟩
def own_Q_len_2 (Z : State) (s_CHARACTERS : Addr) (s_BYTES : Addr) (s_CHARACTERS_BUT_TRAILING_SPACES : Addr) (z_CS : Int32) (v_FMT : Value) (x_ : Addr) (ba_ : Addr) (kb_ : ClassId) (vs_ : List Value) (h0 : Heap) (n0 : Nat) (v : Option Value) (h : Heap) (L : List Loc) : Prop := (v = some (.int (2 : Int32))) ∧ (Fr n0 L) ∧ (h = h0)
set_option maxRecDepth 65536 in
set_option maxHeartbeats 40000000 in
theorem rm_len_2 (l : Launch) (Z : State) (a0 : Array Value) (hw : ∀ d ∈ tables_1, d.before a0 Z = true) (ws : List Jvm.Cond) (s_CHARACTERS : Addr) (s_BYTES : Addr) (s_CHARACTERS_BUT_TRAILING_SPACES : Addr) (z_CS : Int32) (v_FMT : Value) (x_ : Addr) (ba_ : Addr) (kb_ : ClassId) (vs_ : List Value) (h0 : Heap) (n0 : Nat) (SB : own_Start Z s_CHARACTERS s_BYTES s_CHARACTERS_BUT_TRAILING_SPACES z_CS v_FMT) (O0 : Old Z n0 h0) (pr0 : Exa Z h0 x_ "java/lang/String") (pr1 : Fld Z h0 x_ "java/lang/String" "coder" "B" (.int (0 : Int32))) (pr2 : Fld Z h0 x_ "java/lang/String" "value" "[B" (.ref ba_)) (pr3 : Arv Z h0 ba_ kb_ .byte (2 : Int32) vs_ (.int 0)) :
    oMet l Z yM17 jdk_42_method_54_code 1 (some .int) ws ({ frames := 1, cells := 0, slots := 0, locals := 13 } : Room) 0 0 #[(.ref x_)] h0 (own_Q_len_2 Z s_CHARACTERS s_BYTES s_CHARACTERS_BUT_TRAILING_SPACES z_CS v_FMT x_ ba_ kb_ vs_ h0 n0) := by
  refine oenter own_pn2 #[.val (.ref x_)] (fun m => by first | (simp [entryFrame, mkF, argsToLocals, Value.category]; done) | rfl) ?_
  intro p e s m below meth c s₁ X0 hx hZ hby hml hret hown0 hnm hlk e0
  have hown : s.vm.findClass "java/lang/String" = some m.cls := hown0
  have N0 := Fr.nil n0
  obtain ⟨S_s_CHARACTERS, E_s_CHARACTERS, S_s_BYTES, E_s_BYTES, S_s_CHARACTERS_BUT_TRAILING_SPACES, E_s_CHARACTERS_BUT_TRAILING_SPACES, F_s_CHARACTERS_ordinal, F_s_BYTES_ordinal, F_s_CHARACTERS_BUT_TRAILING_SPACES_ordinal, S_CS, H_CS, S_FMT, R_FMT⟩ := (id SB)
  have w14 := hw _ (List.mem_of_getElem? (i := 14) rfl)
  have w39 := hw _ (List.mem_of_getElem? (i := 39) rfl)
  have w67 := hw _ (List.mem_of_getElem? (i := 67) rfl)
  have w68 := hw _ (List.mem_of_getElem? (i := 68) rfl)
  have w69 := hw _ (List.mem_of_getElem? (i := 69) rfl)
  have w70 := hw _ (List.mem_of_getElem? (i := 70) rfl)
  have w71 := hw _ (List.mem_of_getElem? (i := 71) rfl)
  refine o_aloadN X0 hx (hb hby d18_0) rfl rfl ?_
  obtain ⟨T1, X1, e1, st1⟩ := getF X0 hx hZ hown (host := "") (Or.inl w39) Via.refl e0 pr2 (g := (mkF m 1 #[.val (.ref x_)] [(.ref x_)])) rfl rfl (hb hby d18_1)
  refine ogo (S' := T1.setTop (mkF m 4 #[.val (.ref x_)] [(.ref ba_)])) st1 ?_
  obtain ⟨cl2, Ar2, -, S2, N2z, -, -⟩ := (id pr3)
  refine ogo (S' := T1.setTop (mkF m 5 #[.val (.ref x_)] [(.int (2 : Int32))])) (fun _ kt_ => X1.arraylength hx (by rw [e1]; exact Ar2.1) (State.isArrayOf_alike hZ.alike Ar2.2.1) (g := (mkF m 4 #[.val (.ref x_)] [(.ref ba_)])) rfl rfl (hb hby d18_4) _ (by rw [len_of S2 N2z]; exact kt_)) ?_
  refine o_aloadN X1 hx (hb hby d18_5) rfl rfl ?_
  obtain ⟨cq3, kq3, q3a, q3b, q3c⟩ := isOf hZ e1 pr0
  obtain ⟨_, _, ⟨T3, L3, kc3, n3⟩, -, X3, ⟨Lc3, hQ3, l3, y3, z3⟩, st3⟩ := X1.virtualBack hx (y := yM16) (z := yM16) hown (mvT hZ w67) (mvT hZ w68) (notFace_of_selects (args := #[]) (mvT hZ w70)) (mvT hZ w70) (mvT hZ w69) (by decide) (backOf (W := 1) (rm_coder l Z a0 hw [] s_CHARACTERS s_BYTES s_CHARACTERS_BUT_TRAILING_SPACES z_CS v_FMT x_ h0 n0 SB O0 pr1) hZ w71 w14 (by decide) (by decide)) q3a q3c (g := (mkF m 6 #[.val (.ref x_)] [(.ref x_), (.int (2 : Int32))])) rfl (by rw [hml]; rfl) (Steps.refl _) (argsL := []) (rest := [(.int (2 : Int32))]) (lenOf own_pd9 rfl) rfl (by show 2 * 0 + _ ≤ _; exact Nat.le_of_eq rfl) (hb hby d18_6) (fun _ _ => ⟨rfl, e1, (by decide : 0 + 0 ≤ _), (by decide : 0 + 0 ≤ _)⟩)
  dsimp only [Pt.U, Pt.locs, Pt.cells, Pt.slots] at X3 l3 y3 z3 st3 hQ3
  subst l3 y3 z3
  obtain ⟨rfl, Nq3, e3⟩ := hQ3
  have N3 := Fr.app N0 Nq3
  refine otr (S' := T3.setTop (mkF m 9 #[.val (.ref x_)] [(.int (0 : Int32)), (.int (2 : Int32))])) st3 ?_
  refine o_ishr X3 hx (hb hby d18_9) ?_
  refine oend X3 hlk (v := some (.int (2 : Int32))) (fun h => by rw [hret] at h; cases h) (fun fs hr => retOut X3 hx (t := .int) (i := .ireturn) hret rfl (Or.inl ⟨rfl, Or.inl rfl, _, rfl⟩) (hb hby d18_10) hr) (by decide) (by decide) ?_
  show own_Q_len_2 Z _ _ _ _ _ _ _ _ _ h0 n0 _ T3.heap _
  rw [e3]
  exact ⟨rfl, N3, rfl⟩
def own_Q_of_chars_2 (Z : State) (s_CHARACTERS : Addr) (s_BYTES : Addr) (s_CHARACTERS_BUT_TRAILING_SPACES : Addr) (z_CS : Int32) (v_FMT : Value) (t_ : Addr) (x_ : Addr) (ba_ : Addr) (kb_ : ClassId) (vs_ : List Value) (h0 : Heap) (n0 : Nat) (v : Option Value) (h : Heap) (L : List Loc) : Prop := (v = some (.long (2 : Int64))) ∧ (Fr n0 L) ∧ (h = h0)
set_option maxRecDepth 65536 in
set_option maxHeartbeats 40000000 in
theorem rm_of_chars_2 (l : Launch) (Z : State) (a0 : Array Value) (hw : ∀ d ∈ tables_1, d.before a0 Z = true) (ws : List Jvm.Cond) (s_CHARACTERS : Addr) (s_BYTES : Addr) (s_CHARACTERS_BUT_TRAILING_SPACES : Addr) (z_CS : Int32) (v_FMT : Value) (t_ : Addr) (x_ : Addr) (ba_ : Addr) (kb_ : ClassId) (vs_ : List Value) (h0 : Heap) (n0 : Nat) (SB : own_Start Z s_CHARACTERS s_BYTES s_CHARACTERS_BUT_TRAILING_SPACES z_CS v_FMT) (O0 : Old Z n0 h0) (pr0 : Fld Z h0 t_ "com/example/upshot/upshot/ColumnCatalog$Length" "unit" "Lcom/example/upshot/upshot/ColumnCatalog$Length$Unit;" (.ref s_CHARACTERS)) (pr1 : Exa Z h0 x_ "java/lang/String") (pr2 : Fld Z h0 x_ "java/lang/String" "coder" "B" (.int (0 : Int32))) (pr3 : Fld Z h0 x_ "java/lang/String" "value" "[B" (.ref ba_)) (pr4 : Arv Z h0 ba_ kb_ .byte (2 : Int32) vs_ (.int 0)) :
    oMet l Z yM15 prog_3_method_5_code 6 (some .long) ws ({ frames := 2, cells := 0, slots := 0, locals := 25 } : Room) 0 0 #[(.ref t_), (.ref x_)] h0 (own_Q_of_chars_2 Z s_CHARACTERS s_BYTES s_CHARACTERS_BUT_TRAILING_SPACES z_CS v_FMT t_ x_ ba_ kb_ vs_ h0 n0) := by
  refine oenter own_pn4 #[.val (.ref t_), .val (.ref x_), .unset, .unset, .unset, .unset] (fun m => by first | (simp [entryFrame, mkF, argsToLocals, Value.category]; done) | rfl) ?_
  intro p e s m below meth c s₁ X0 hx hZ hby hml hret hown0 hnm hlk e0
  have hown : s.vm.findClass "com/example/upshot/upshot/ColumnCatalog$Length" = some m.cls := hown0
  have N0 := Fr.nil n0
  obtain ⟨S_s_CHARACTERS, E_s_CHARACTERS, S_s_BYTES, E_s_BYTES, S_s_CHARACTERS_BUT_TRAILING_SPACES, E_s_CHARACTERS_BUT_TRAILING_SPACES, F_s_CHARACTERS_ordinal, F_s_BYTES_ordinal, F_s_CHARACTERS_BUT_TRAILING_SPACES_ordinal, S_CS, H_CS, S_FMT, R_FMT⟩ := (id SB)
  have w14 := hw _ (List.mem_of_getElem? (i := 14) rfl)
  have w48 := hw _ (List.mem_of_getElem? (i := 48) rfl)
  have w57 := hw _ (List.mem_of_getElem? (i := 57) rfl)
  have w59 := hw _ (List.mem_of_getElem? (i := 59) rfl)
  have w61 := hw _ (List.mem_of_getElem? (i := 61) rfl)
  have w62 := hw _ (List.mem_of_getElem? (i := 62) rfl)
  have w63 := hw _ (List.mem_of_getElem? (i := 63) rfl)
  have w64 := hw _ (List.mem_of_getElem? (i := 64) rfl)
  have w65 := hw _ (List.mem_of_getElem? (i := 65) rfl)
  have w66 := hw _ (List.mem_of_getElem? (i := 66) rfl)
  refine o_aloadN X0 hx (hb hby d16_0) rfl rfl ?_
  obtain ⟨T1, X1, e1, st1⟩ := getF X0 hx hZ hown (host := "") (Or.inl w48) Via.refl e0 pr0 (g := (mkF m 1 #[.val (.ref t_), .val (.ref x_), .unset, .unset, .unset, .unset] [(.ref t_)])) rfl rfl (hb hby d16_1)
  refine ogo (S' := T1.setTop (mkF m 4 #[.val (.ref t_), .val (.ref x_), .unset, .unset, .unset, .unset] [(.ref s_CHARACTERS)])) st1 ?_
  obtain ⟨T2, X2, e2, st2⟩ := getS2 X1 hx hZ hown (host := "") (Or.inl w57) Via.refl e1 (Sta.ext O0.2 S_s_BYTES) (g := (mkF m 4 #[.val (.ref t_), .val (.ref x_), .unset, .unset, .unset, .unset] [(.ref s_CHARACTERS)])) rfl (hb hby d16_4)
  refine ogo (S' := T2.setTop (mkF m 7 #[.val (.ref t_), .val (.ref x_), .unset, .unset, .unset, .unset] [(.ref s_BYTES), (.ref s_CHARACTERS)])) st2 ?_
  refine o_acmp X2 hx 20 false rfl rfl (hb hby d16_7) (decide_eq_false fun q => (Fld.ne F_s_CHARACTERS_ordinal F_s_BYTES_ordinal (by decide)) (Value.ref.inj q)) (by decide) (by decide) ?_
  refine o_aloadN X2 hx (hb hby d16_20) rfl rfl ?_
  obtain ⟨T3, X3, e3, st3⟩ := getF X2 hx hZ hown (host := "") (Or.inl w48) Via.refl e2 pr0 (g := (mkF m 21 #[.val (.ref t_), .val (.ref x_), .unset, .unset, .unset, .unset] [(.ref t_)])) rfl rfl (hb hby d16_21)
  refine ogo (S' := T3.setTop (mkF m 24 #[.val (.ref t_), .val (.ref x_), .unset, .unset, .unset, .unset] [(.ref s_CHARACTERS)])) st3 ?_
  obtain ⟨T4, X4, e4, st4⟩ := getS2 X3 hx hZ hown (host := "") (Or.inl w59) Via.refl e3 (Sta.ext O0.2 S_s_CHARACTERS_BUT_TRAILING_SPACES) (g := (mkF m 24 #[.val (.ref t_), .val (.ref x_), .unset, .unset, .unset, .unset] [(.ref s_CHARACTERS)])) rfl (hb hby d16_24)
  refine ogo (S' := T4.setTop (mkF m 27 #[.val (.ref t_), .val (.ref x_), .unset, .unset, .unset, .unset] [(.ref s_CHARACTERS_BUT_TRAILING_SPACES), (.ref s_CHARACTERS)])) st4 ?_
  refine o_acmp X4 hx 75 false rfl rfl (hb hby d16_27) (decide_eq_false fun q => (Fld.ne F_s_CHARACTERS_ordinal F_s_CHARACTERS_BUT_TRAILING_SPACES_ordinal (by decide)) (Value.ref.inj q)) (by decide) (by decide) ?_
  refine o_aloadN X4 hx (hb hby d16_75) rfl rfl ?_
  obtain ⟨T5, X5, e5, st5⟩ := castY X4 hx hZ hown w61 e4 (Ins.self pr1) (g := (mkF m 76 #[.val (.ref t_), .val (.ref x_), .unset, .unset, .unset, .unset] [(.ref x_)])) rfl rfl (hb hby d16_76)
  refine ogo (S' := T5.setTop (mkF m 79 #[.val (.ref t_), .val (.ref x_), .unset, .unset, .unset, .unset] [(.ref x_)])) st5 ?_
  obtain ⟨cq6, kq6, q6a, q6b, q6c⟩ := isOf hZ e5 pr1
  obtain ⟨_, _, ⟨T6, L6, kc6, n6⟩, -, X6, ⟨Lc6, hQ6, l6, y6, z6⟩, st6⟩ := X5.virtualBack hx (y := yM17) (z := yM17) hown (mvT hZ w62) (mvT hZ w63) (notFace_of_selects (args := #[]) (mvT hZ w65)) (mvT hZ w65) (mvT hZ w64) (by decide) (backOf (W := 0) (rm_len_2 l Z a0 hw [] s_CHARACTERS s_BYTES s_CHARACTERS_BUT_TRAILING_SPACES z_CS v_FMT x_ ba_ kb_ vs_ h0 n0 SB O0 pr1 pr2 pr3 pr4) hZ w66 w14 (by decide) (by decide)) q6a q6c (g := (mkF m 79 #[.val (.ref t_), .val (.ref x_), .unset, .unset, .unset, .unset] [(.ref x_)])) rfl (by rw [hml]; rfl) (Steps.refl _) (argsL := []) (rest := []) (lenOf own_pd10 rfl) rfl (by show 2 * 0 + _ ≤ _; exact Nat.le_of_eq rfl) (hb hby d16_79) (fun _ _ => ⟨rfl, e5, (by decide : 0 + 0 ≤ _), (by decide : 0 + 0 ≤ _)⟩)
  dsimp only [Pt.U, Pt.locs, Pt.cells, Pt.slots] at X6 l6 y6 z6 st6 hQ6
  subst l6 y6 z6
  obtain ⟨rfl, Nq6, e6⟩ := hQ6
  have N6 := Fr.app N0 Nq6
  refine otr (S' := T6.setTop (mkF m 82 #[.val (.ref t_), .val (.ref x_), .unset, .unset, .unset, .unset] [(.int (2 : Int32))])) st6 ?_
  refine o_i2l X6 hx (hb hby d16_82) ?_
  refine o_lstoreN X6 hx (l' := #[.val (.ref t_), .val (.ref x_), .val (.long (2 : Int64)), .second, .unset, .unset]) (hb hby d16_83) rfl ?_
  refine o_lloadN X6 hx (hb hby d16_84) rfl ?_
  refine oend X6 hlk (v := some (.long (2 : Int64))) (fun h => by rw [hret] at h; cases h) (fun fs hr => retOut X6 hx (t := .long) (i := .lreturn) hret rfl (Or.inr (Or.inl ⟨rfl, rfl, _, rfl⟩)) (hb hby d16_85) hr) (by decide) (by decide) ?_
  show own_Q_of_chars_2 Z _ _ _ _ _ _ _ _ _ _ h0 n0 _ T6.heap _
  rw [e6]
  exact ⟨rfl, N6, rfl⟩
def own_Q_len_3 (Z : State) (s_CHARACTERS : Addr) (s_BYTES : Addr) (s_CHARACTERS_BUT_TRAILING_SPACES : Addr) (z_CS : Int32) (v_FMT : Value) (x_ : Addr) (ba_ : Addr) (kb_ : ClassId) (vs_ : List Value) (h0 : Heap) (n0 : Nat) (v : Option Value) (h : Heap) (L : List Loc) : Prop := (v = some (.int (3 : Int32))) ∧ (Fr n0 L) ∧ (h = h0)
set_option maxRecDepth 65536 in
set_option maxHeartbeats 40000000 in
theorem rm_len_3 (l : Launch) (Z : State) (a0 : Array Value) (hw : ∀ d ∈ tables_1, d.before a0 Z = true) (ws : List Jvm.Cond) (s_CHARACTERS : Addr) (s_BYTES : Addr) (s_CHARACTERS_BUT_TRAILING_SPACES : Addr) (z_CS : Int32) (v_FMT : Value) (x_ : Addr) (ba_ : Addr) (kb_ : ClassId) (vs_ : List Value) (h0 : Heap) (n0 : Nat) (SB : own_Start Z s_CHARACTERS s_BYTES s_CHARACTERS_BUT_TRAILING_SPACES z_CS v_FMT) (O0 : Old Z n0 h0) (pr0 : Exa Z h0 x_ "java/lang/String") (pr1 : Fld Z h0 x_ "java/lang/String" "coder" "B" (.int (0 : Int32))) (pr2 : Fld Z h0 x_ "java/lang/String" "value" "[B" (.ref ba_)) (pr3 : Arv Z h0 ba_ kb_ .byte (3 : Int32) vs_ (.int 0)) :
    oMet l Z yM17 jdk_42_method_54_code 1 (some .int) ws ({ frames := 1, cells := 0, slots := 0, locals := 13 } : Room) 0 0 #[(.ref x_)] h0 (own_Q_len_3 Z s_CHARACTERS s_BYTES s_CHARACTERS_BUT_TRAILING_SPACES z_CS v_FMT x_ ba_ kb_ vs_ h0 n0) := by
  refine oenter own_pn2 #[.val (.ref x_)] (fun m => by first | (simp [entryFrame, mkF, argsToLocals, Value.category]; done) | rfl) ?_
  intro p e s m below meth c s₁ X0 hx hZ hby hml hret hown0 hnm hlk e0
  have hown : s.vm.findClass "java/lang/String" = some m.cls := hown0
  have N0 := Fr.nil n0
  obtain ⟨S_s_CHARACTERS, E_s_CHARACTERS, S_s_BYTES, E_s_BYTES, S_s_CHARACTERS_BUT_TRAILING_SPACES, E_s_CHARACTERS_BUT_TRAILING_SPACES, F_s_CHARACTERS_ordinal, F_s_BYTES_ordinal, F_s_CHARACTERS_BUT_TRAILING_SPACES_ordinal, S_CS, H_CS, S_FMT, R_FMT⟩ := (id SB)
  have w14 := hw _ (List.mem_of_getElem? (i := 14) rfl)
  have w39 := hw _ (List.mem_of_getElem? (i := 39) rfl)
  have w67 := hw _ (List.mem_of_getElem? (i := 67) rfl)
  have w68 := hw _ (List.mem_of_getElem? (i := 68) rfl)
  have w69 := hw _ (List.mem_of_getElem? (i := 69) rfl)
  have w70 := hw _ (List.mem_of_getElem? (i := 70) rfl)
  have w71 := hw _ (List.mem_of_getElem? (i := 71) rfl)
  refine o_aloadN X0 hx (hb hby d18_0) rfl rfl ?_
  obtain ⟨T1, X1, e1, st1⟩ := getF X0 hx hZ hown (host := "") (Or.inl w39) Via.refl e0 pr2 (g := (mkF m 1 #[.val (.ref x_)] [(.ref x_)])) rfl rfl (hb hby d18_1)
  refine ogo (S' := T1.setTop (mkF m 4 #[.val (.ref x_)] [(.ref ba_)])) st1 ?_
  obtain ⟨cl2, Ar2, -, S2, N2z, -, -⟩ := (id pr3)
  refine ogo (S' := T1.setTop (mkF m 5 #[.val (.ref x_)] [(.int (3 : Int32))])) (fun _ kt_ => X1.arraylength hx (by rw [e1]; exact Ar2.1) (State.isArrayOf_alike hZ.alike Ar2.2.1) (g := (mkF m 4 #[.val (.ref x_)] [(.ref ba_)])) rfl rfl (hb hby d18_4) _ (by rw [len_of S2 N2z]; exact kt_)) ?_
  refine o_aloadN X1 hx (hb hby d18_5) rfl rfl ?_
  obtain ⟨cq3, kq3, q3a, q3b, q3c⟩ := isOf hZ e1 pr0
  obtain ⟨_, _, ⟨T3, L3, kc3, n3⟩, -, X3, ⟨Lc3, hQ3, l3, y3, z3⟩, st3⟩ := X1.virtualBack hx (y := yM16) (z := yM16) hown (mvT hZ w67) (mvT hZ w68) (notFace_of_selects (args := #[]) (mvT hZ w70)) (mvT hZ w70) (mvT hZ w69) (by decide) (backOf (W := 1) (rm_coder l Z a0 hw [] s_CHARACTERS s_BYTES s_CHARACTERS_BUT_TRAILING_SPACES z_CS v_FMT x_ h0 n0 SB O0 pr1) hZ w71 w14 (by decide) (by decide)) q3a q3c (g := (mkF m 6 #[.val (.ref x_)] [(.ref x_), (.int (3 : Int32))])) rfl (by rw [hml]; rfl) (Steps.refl _) (argsL := []) (rest := [(.int (3 : Int32))]) (lenOf own_pd9 rfl) rfl (by show 2 * 0 + _ ≤ _; exact Nat.le_of_eq rfl) (hb hby d18_6) (fun _ _ => ⟨rfl, e1, (by decide : 0 + 0 ≤ _), (by decide : 0 + 0 ≤ _)⟩)
  dsimp only [Pt.U, Pt.locs, Pt.cells, Pt.slots] at X3 l3 y3 z3 st3 hQ3
  subst l3 y3 z3
  obtain ⟨rfl, Nq3, e3⟩ := hQ3
  have N3 := Fr.app N0 Nq3
  refine otr (S' := T3.setTop (mkF m 9 #[.val (.ref x_)] [(.int (0 : Int32)), (.int (3 : Int32))])) st3 ?_
  refine o_ishr X3 hx (hb hby d18_9) ?_
  refine oend X3 hlk (v := some (.int (3 : Int32))) (fun h => by rw [hret] at h; cases h) (fun fs hr => retOut X3 hx (t := .int) (i := .ireturn) hret rfl (Or.inl ⟨rfl, Or.inl rfl, _, rfl⟩) (hb hby d18_10) hr) (by decide) (by decide) ?_
  show own_Q_len_3 Z _ _ _ _ _ _ _ _ _ h0 n0 _ T3.heap _
  rw [e3]
  exact ⟨rfl, N3, rfl⟩
def own_Q_of_chars_3 (Z : State) (s_CHARACTERS : Addr) (s_BYTES : Addr) (s_CHARACTERS_BUT_TRAILING_SPACES : Addr) (z_CS : Int32) (v_FMT : Value) (t_ : Addr) (x_ : Addr) (ba_ : Addr) (kb_ : ClassId) (vs_ : List Value) (h0 : Heap) (n0 : Nat) (v : Option Value) (h : Heap) (L : List Loc) : Prop := (v = some (.long (3 : Int64))) ∧ (Fr n0 L) ∧ (h = h0)
set_option maxRecDepth 65536 in
set_option maxHeartbeats 40000000 in
theorem rm_of_chars_3 (l : Launch) (Z : State) (a0 : Array Value) (hw : ∀ d ∈ tables_1, d.before a0 Z = true) (ws : List Jvm.Cond) (s_CHARACTERS : Addr) (s_BYTES : Addr) (s_CHARACTERS_BUT_TRAILING_SPACES : Addr) (z_CS : Int32) (v_FMT : Value) (t_ : Addr) (x_ : Addr) (ba_ : Addr) (kb_ : ClassId) (vs_ : List Value) (h0 : Heap) (n0 : Nat) (SB : own_Start Z s_CHARACTERS s_BYTES s_CHARACTERS_BUT_TRAILING_SPACES z_CS v_FMT) (O0 : Old Z n0 h0) (pr0 : Fld Z h0 t_ "com/example/upshot/upshot/ColumnCatalog$Length" "unit" "Lcom/example/upshot/upshot/ColumnCatalog$Length$Unit;" (.ref s_CHARACTERS)) (pr1 : Exa Z h0 x_ "java/lang/String") (pr2 : Fld Z h0 x_ "java/lang/String" "coder" "B" (.int (0 : Int32))) (pr3 : Fld Z h0 x_ "java/lang/String" "value" "[B" (.ref ba_)) (pr4 : Arv Z h0 ba_ kb_ .byte (3 : Int32) vs_ (.int 0)) :
    oMet l Z yM15 prog_3_method_5_code 6 (some .long) ws ({ frames := 2, cells := 0, slots := 0, locals := 25 } : Room) 0 0 #[(.ref t_), (.ref x_)] h0 (own_Q_of_chars_3 Z s_CHARACTERS s_BYTES s_CHARACTERS_BUT_TRAILING_SPACES z_CS v_FMT t_ x_ ba_ kb_ vs_ h0 n0) := by
  refine oenter own_pn4 #[.val (.ref t_), .val (.ref x_), .unset, .unset, .unset, .unset] (fun m => by first | (simp [entryFrame, mkF, argsToLocals, Value.category]; done) | rfl) ?_
  intro p e s m below meth c s₁ X0 hx hZ hby hml hret hown0 hnm hlk e0
  have hown : s.vm.findClass "com/example/upshot/upshot/ColumnCatalog$Length" = some m.cls := hown0
  have N0 := Fr.nil n0
  obtain ⟨S_s_CHARACTERS, E_s_CHARACTERS, S_s_BYTES, E_s_BYTES, S_s_CHARACTERS_BUT_TRAILING_SPACES, E_s_CHARACTERS_BUT_TRAILING_SPACES, F_s_CHARACTERS_ordinal, F_s_BYTES_ordinal, F_s_CHARACTERS_BUT_TRAILING_SPACES_ordinal, S_CS, H_CS, S_FMT, R_FMT⟩ := (id SB)
  have w14 := hw _ (List.mem_of_getElem? (i := 14) rfl)
  have w48 := hw _ (List.mem_of_getElem? (i := 48) rfl)
  have w57 := hw _ (List.mem_of_getElem? (i := 57) rfl)
  have w59 := hw _ (List.mem_of_getElem? (i := 59) rfl)
  have w61 := hw _ (List.mem_of_getElem? (i := 61) rfl)
  have w62 := hw _ (List.mem_of_getElem? (i := 62) rfl)
  have w63 := hw _ (List.mem_of_getElem? (i := 63) rfl)
  have w64 := hw _ (List.mem_of_getElem? (i := 64) rfl)
  have w65 := hw _ (List.mem_of_getElem? (i := 65) rfl)
  have w66 := hw _ (List.mem_of_getElem? (i := 66) rfl)
  refine o_aloadN X0 hx (hb hby d16_0) rfl rfl ?_
  obtain ⟨T1, X1, e1, st1⟩ := getF X0 hx hZ hown (host := "") (Or.inl w48) Via.refl e0 pr0 (g := (mkF m 1 #[.val (.ref t_), .val (.ref x_), .unset, .unset, .unset, .unset] [(.ref t_)])) rfl rfl (hb hby d16_1)
  refine ogo (S' := T1.setTop (mkF m 4 #[.val (.ref t_), .val (.ref x_), .unset, .unset, .unset, .unset] [(.ref s_CHARACTERS)])) st1 ?_
  obtain ⟨T2, X2, e2, st2⟩ := getS2 X1 hx hZ hown (host := "") (Or.inl w57) Via.refl e1 (Sta.ext O0.2 S_s_BYTES) (g := (mkF m 4 #[.val (.ref t_), .val (.ref x_), .unset, .unset, .unset, .unset] [(.ref s_CHARACTERS)])) rfl (hb hby d16_4)
  refine ogo (S' := T2.setTop (mkF m 7 #[.val (.ref t_), .val (.ref x_), .unset, .unset, .unset, .unset] [(.ref s_BYTES), (.ref s_CHARACTERS)])) st2 ?_
  refine o_acmp X2 hx 20 false rfl rfl (hb hby d16_7) (decide_eq_false fun q => (Fld.ne F_s_CHARACTERS_ordinal F_s_BYTES_ordinal (by decide)) (Value.ref.inj q)) (by decide) (by decide) ?_
  refine o_aloadN X2 hx (hb hby d16_20) rfl rfl ?_
  obtain ⟨T3, X3, e3, st3⟩ := getF X2 hx hZ hown (host := "") (Or.inl w48) Via.refl e2 pr0 (g := (mkF m 21 #[.val (.ref t_), .val (.ref x_), .unset, .unset, .unset, .unset] [(.ref t_)])) rfl rfl (hb hby d16_21)
  refine ogo (S' := T3.setTop (mkF m 24 #[.val (.ref t_), .val (.ref x_), .unset, .unset, .unset, .unset] [(.ref s_CHARACTERS)])) st3 ?_
  obtain ⟨T4, X4, e4, st4⟩ := getS2 X3 hx hZ hown (host := "") (Or.inl w59) Via.refl e3 (Sta.ext O0.2 S_s_CHARACTERS_BUT_TRAILING_SPACES) (g := (mkF m 24 #[.val (.ref t_), .val (.ref x_), .unset, .unset, .unset, .unset] [(.ref s_CHARACTERS)])) rfl (hb hby d16_24)
  refine ogo (S' := T4.setTop (mkF m 27 #[.val (.ref t_), .val (.ref x_), .unset, .unset, .unset, .unset] [(.ref s_CHARACTERS_BUT_TRAILING_SPACES), (.ref s_CHARACTERS)])) st4 ?_
  refine o_acmp X4 hx 75 false rfl rfl (hb hby d16_27) (decide_eq_false fun q => (Fld.ne F_s_CHARACTERS_ordinal F_s_CHARACTERS_BUT_TRAILING_SPACES_ordinal (by decide)) (Value.ref.inj q)) (by decide) (by decide) ?_
  refine o_aloadN X4 hx (hb hby d16_75) rfl rfl ?_
  obtain ⟨T5, X5, e5, st5⟩ := castY X4 hx hZ hown w61 e4 (Ins.self pr1) (g := (mkF m 76 #[.val (.ref t_), .val (.ref x_), .unset, .unset, .unset, .unset] [(.ref x_)])) rfl rfl (hb hby d16_76)
  refine ogo (S' := T5.setTop (mkF m 79 #[.val (.ref t_), .val (.ref x_), .unset, .unset, .unset, .unset] [(.ref x_)])) st5 ?_
  obtain ⟨cq6, kq6, q6a, q6b, q6c⟩ := isOf hZ e5 pr1
  obtain ⟨_, _, ⟨T6, L6, kc6, n6⟩, -, X6, ⟨Lc6, hQ6, l6, y6, z6⟩, st6⟩ := X5.virtualBack hx (y := yM17) (z := yM17) hown (mvT hZ w62) (mvT hZ w63) (notFace_of_selects (args := #[]) (mvT hZ w65)) (mvT hZ w65) (mvT hZ w64) (by decide) (backOf (W := 0) (rm_len_3 l Z a0 hw [] s_CHARACTERS s_BYTES s_CHARACTERS_BUT_TRAILING_SPACES z_CS v_FMT x_ ba_ kb_ vs_ h0 n0 SB O0 pr1 pr2 pr3 pr4) hZ w66 w14 (by decide) (by decide)) q6a q6c (g := (mkF m 79 #[.val (.ref t_), .val (.ref x_), .unset, .unset, .unset, .unset] [(.ref x_)])) rfl (by rw [hml]; rfl) (Steps.refl _) (argsL := []) (rest := []) (lenOf own_pd10 rfl) rfl (by show 2 * 0 + _ ≤ _; exact Nat.le_of_eq rfl) (hb hby d16_79) (fun _ _ => ⟨rfl, e5, (by decide : 0 + 0 ≤ _), (by decide : 0 + 0 ≤ _)⟩)
  dsimp only [Pt.U, Pt.locs, Pt.cells, Pt.slots] at X6 l6 y6 z6 st6 hQ6
  subst l6 y6 z6
  obtain ⟨rfl, Nq6, e6⟩ := hQ6
  have N6 := Fr.app N0 Nq6
  refine otr (S' := T6.setTop (mkF m 82 #[.val (.ref t_), .val (.ref x_), .unset, .unset, .unset, .unset] [(.int (3 : Int32))])) st6 ?_
  refine o_i2l X6 hx (hb hby d16_82) ?_
  refine o_lstoreN X6 hx (l' := #[.val (.ref t_), .val (.ref x_), .val (.long (3 : Int64)), .second, .unset, .unset]) (hb hby d16_83) rfl ?_
  refine o_lloadN X6 hx (hb hby d16_84) rfl ?_
  refine oend X6 hlk (v := some (.long (3 : Int64))) (fun h => by rw [hret] at h; cases h) (fun fs hr => retOut X6 hx (t := .long) (i := .lreturn) hret rfl (Or.inr (Or.inl ⟨rfl, rfl, _, rfl⟩)) (hb hby d16_85) hr) (by decide) (by decide) ?_
  show own_Q_of_chars_3 Z _ _ _ _ _ _ _ _ _ _ h0 n0 _ T6.heap _
  rw [e6]
  exact ⟨rfl, N6, rfl⟩
def own_Q_len_4 (Z : State) (s_CHARACTERS : Addr) (s_BYTES : Addr) (s_CHARACTERS_BUT_TRAILING_SPACES : Addr) (z_CS : Int32) (v_FMT : Value) (x_ : Addr) (ba_ : Addr) (kb_ : ClassId) (vs_ : List Value) (h0 : Heap) (n0 : Nat) (v : Option Value) (h : Heap) (L : List Loc) : Prop := (v = some (.int (4 : Int32))) ∧ (Fr n0 L) ∧ (h = h0)
set_option maxRecDepth 65536 in
set_option maxHeartbeats 40000000 in
theorem rm_len_4 (l : Launch) (Z : State) (a0 : Array Value) (hw : ∀ d ∈ tables_1, d.before a0 Z = true) (ws : List Jvm.Cond) (s_CHARACTERS : Addr) (s_BYTES : Addr) (s_CHARACTERS_BUT_TRAILING_SPACES : Addr) (z_CS : Int32) (v_FMT : Value) (x_ : Addr) (ba_ : Addr) (kb_ : ClassId) (vs_ : List Value) (h0 : Heap) (n0 : Nat) (SB : own_Start Z s_CHARACTERS s_BYTES s_CHARACTERS_BUT_TRAILING_SPACES z_CS v_FMT) (O0 : Old Z n0 h0) (pr0 : Exa Z h0 x_ "java/lang/String") (pr1 : Fld Z h0 x_ "java/lang/String" "coder" "B" (.int (0 : Int32))) (pr2 : Fld Z h0 x_ "java/lang/String" "value" "[B" (.ref ba_)) (pr3 : Arv Z h0 ba_ kb_ .byte (4 : Int32) vs_ (.int 0)) :
    oMet l Z yM17 jdk_42_method_54_code 1 (some .int) ws ({ frames := 1, cells := 0, slots := 0, locals := 13 } : Room) 0 0 #[(.ref x_)] h0 (own_Q_len_4 Z s_CHARACTERS s_BYTES s_CHARACTERS_BUT_TRAILING_SPACES z_CS v_FMT x_ ba_ kb_ vs_ h0 n0) := by
  refine oenter own_pn2 #[.val (.ref x_)] (fun m => by first | (simp [entryFrame, mkF, argsToLocals, Value.category]; done) | rfl) ?_
  intro p e s m below meth c s₁ X0 hx hZ hby hml hret hown0 hnm hlk e0
  have hown : s.vm.findClass "java/lang/String" = some m.cls := hown0
  have N0 := Fr.nil n0
  obtain ⟨S_s_CHARACTERS, E_s_CHARACTERS, S_s_BYTES, E_s_BYTES, S_s_CHARACTERS_BUT_TRAILING_SPACES, E_s_CHARACTERS_BUT_TRAILING_SPACES, F_s_CHARACTERS_ordinal, F_s_BYTES_ordinal, F_s_CHARACTERS_BUT_TRAILING_SPACES_ordinal, S_CS, H_CS, S_FMT, R_FMT⟩ := (id SB)
  have w14 := hw _ (List.mem_of_getElem? (i := 14) rfl)
  have w39 := hw _ (List.mem_of_getElem? (i := 39) rfl)
  have w67 := hw _ (List.mem_of_getElem? (i := 67) rfl)
  have w68 := hw _ (List.mem_of_getElem? (i := 68) rfl)
  have w69 := hw _ (List.mem_of_getElem? (i := 69) rfl)
  have w70 := hw _ (List.mem_of_getElem? (i := 70) rfl)
  have w71 := hw _ (List.mem_of_getElem? (i := 71) rfl)
  refine o_aloadN X0 hx (hb hby d18_0) rfl rfl ?_
  obtain ⟨T1, X1, e1, st1⟩ := getF X0 hx hZ hown (host := "") (Or.inl w39) Via.refl e0 pr2 (g := (mkF m 1 #[.val (.ref x_)] [(.ref x_)])) rfl rfl (hb hby d18_1)
  refine ogo (S' := T1.setTop (mkF m 4 #[.val (.ref x_)] [(.ref ba_)])) st1 ?_
  obtain ⟨cl2, Ar2, -, S2, N2z, -, -⟩ := (id pr3)
  refine ogo (S' := T1.setTop (mkF m 5 #[.val (.ref x_)] [(.int (4 : Int32))])) (fun _ kt_ => X1.arraylength hx (by rw [e1]; exact Ar2.1) (State.isArrayOf_alike hZ.alike Ar2.2.1) (g := (mkF m 4 #[.val (.ref x_)] [(.ref ba_)])) rfl rfl (hb hby d18_4) _ (by rw [len_of S2 N2z]; exact kt_)) ?_
  refine o_aloadN X1 hx (hb hby d18_5) rfl rfl ?_
  obtain ⟨cq3, kq3, q3a, q3b, q3c⟩ := isOf hZ e1 pr0
  obtain ⟨_, _, ⟨T3, L3, kc3, n3⟩, -, X3, ⟨Lc3, hQ3, l3, y3, z3⟩, st3⟩ := X1.virtualBack hx (y := yM16) (z := yM16) hown (mvT hZ w67) (mvT hZ w68) (notFace_of_selects (args := #[]) (mvT hZ w70)) (mvT hZ w70) (mvT hZ w69) (by decide) (backOf (W := 1) (rm_coder l Z a0 hw [] s_CHARACTERS s_BYTES s_CHARACTERS_BUT_TRAILING_SPACES z_CS v_FMT x_ h0 n0 SB O0 pr1) hZ w71 w14 (by decide) (by decide)) q3a q3c (g := (mkF m 6 #[.val (.ref x_)] [(.ref x_), (.int (4 : Int32))])) rfl (by rw [hml]; rfl) (Steps.refl _) (argsL := []) (rest := [(.int (4 : Int32))]) (lenOf own_pd9 rfl) rfl (by show 2 * 0 + _ ≤ _; exact Nat.le_of_eq rfl) (hb hby d18_6) (fun _ _ => ⟨rfl, e1, (by decide : 0 + 0 ≤ _), (by decide : 0 + 0 ≤ _)⟩)
  dsimp only [Pt.U, Pt.locs, Pt.cells, Pt.slots] at X3 l3 y3 z3 st3 hQ3
  subst l3 y3 z3
  obtain ⟨rfl, Nq3, e3⟩ := hQ3
  have N3 := Fr.app N0 Nq3
  refine otr (S' := T3.setTop (mkF m 9 #[.val (.ref x_)] [(.int (0 : Int32)), (.int (4 : Int32))])) st3 ?_
  refine o_ishr X3 hx (hb hby d18_9) ?_
  refine oend X3 hlk (v := some (.int (4 : Int32))) (fun h => by rw [hret] at h; cases h) (fun fs hr => retOut X3 hx (t := .int) (i := .ireturn) hret rfl (Or.inl ⟨rfl, Or.inl rfl, _, rfl⟩) (hb hby d18_10) hr) (by decide) (by decide) ?_
  show own_Q_len_4 Z _ _ _ _ _ _ _ _ _ h0 n0 _ T3.heap _
  rw [e3]
  exact ⟨rfl, N3, rfl⟩
def own_Q_of_chars_4 (Z : State) (s_CHARACTERS : Addr) (s_BYTES : Addr) (s_CHARACTERS_BUT_TRAILING_SPACES : Addr) (z_CS : Int32) (v_FMT : Value) (t_ : Addr) (x_ : Addr) (ba_ : Addr) (kb_ : ClassId) (vs_ : List Value) (h0 : Heap) (n0 : Nat) (v : Option Value) (h : Heap) (L : List Loc) : Prop := (v = some (.long (4 : Int64))) ∧ (Fr n0 L) ∧ (h = h0)
set_option maxRecDepth 65536 in
set_option maxHeartbeats 40000000 in
theorem rm_of_chars_4 (l : Launch) (Z : State) (a0 : Array Value) (hw : ∀ d ∈ tables_1, d.before a0 Z = true) (ws : List Jvm.Cond) (s_CHARACTERS : Addr) (s_BYTES : Addr) (s_CHARACTERS_BUT_TRAILING_SPACES : Addr) (z_CS : Int32) (v_FMT : Value) (t_ : Addr) (x_ : Addr) (ba_ : Addr) (kb_ : ClassId) (vs_ : List Value) (h0 : Heap) (n0 : Nat) (SB : own_Start Z s_CHARACTERS s_BYTES s_CHARACTERS_BUT_TRAILING_SPACES z_CS v_FMT) (O0 : Old Z n0 h0) (pr0 : Fld Z h0 t_ "com/example/upshot/upshot/ColumnCatalog$Length" "unit" "Lcom/example/upshot/upshot/ColumnCatalog$Length$Unit;" (.ref s_CHARACTERS)) (pr1 : Exa Z h0 x_ "java/lang/String") (pr2 : Fld Z h0 x_ "java/lang/String" "coder" "B" (.int (0 : Int32))) (pr3 : Fld Z h0 x_ "java/lang/String" "value" "[B" (.ref ba_)) (pr4 : Arv Z h0 ba_ kb_ .byte (4 : Int32) vs_ (.int 0)) :
    oMet l Z yM15 prog_3_method_5_code 6 (some .long) ws ({ frames := 2, cells := 0, slots := 0, locals := 25 } : Room) 0 0 #[(.ref t_), (.ref x_)] h0 (own_Q_of_chars_4 Z s_CHARACTERS s_BYTES s_CHARACTERS_BUT_TRAILING_SPACES z_CS v_FMT t_ x_ ba_ kb_ vs_ h0 n0) := by
  refine oenter own_pn4 #[.val (.ref t_), .val (.ref x_), .unset, .unset, .unset, .unset] (fun m => by first | (simp [entryFrame, mkF, argsToLocals, Value.category]; done) | rfl) ?_
  intro p e s m below meth c s₁ X0 hx hZ hby hml hret hown0 hnm hlk e0
  have hown : s.vm.findClass "com/example/upshot/upshot/ColumnCatalog$Length" = some m.cls := hown0
  have N0 := Fr.nil n0
  obtain ⟨S_s_CHARACTERS, E_s_CHARACTERS, S_s_BYTES, E_s_BYTES, S_s_CHARACTERS_BUT_TRAILING_SPACES, E_s_CHARACTERS_BUT_TRAILING_SPACES, F_s_CHARACTERS_ordinal, F_s_BYTES_ordinal, F_s_CHARACTERS_BUT_TRAILING_SPACES_ordinal, S_CS, H_CS, S_FMT, R_FMT⟩ := (id SB)
  have w14 := hw _ (List.mem_of_getElem? (i := 14) rfl)
  have w48 := hw _ (List.mem_of_getElem? (i := 48) rfl)
  have w57 := hw _ (List.mem_of_getElem? (i := 57) rfl)
  have w59 := hw _ (List.mem_of_getElem? (i := 59) rfl)
  have w61 := hw _ (List.mem_of_getElem? (i := 61) rfl)
  have w62 := hw _ (List.mem_of_getElem? (i := 62) rfl)
  have w63 := hw _ (List.mem_of_getElem? (i := 63) rfl)
  have w64 := hw _ (List.mem_of_getElem? (i := 64) rfl)
  have w65 := hw _ (List.mem_of_getElem? (i := 65) rfl)
  have w66 := hw _ (List.mem_of_getElem? (i := 66) rfl)
  refine o_aloadN X0 hx (hb hby d16_0) rfl rfl ?_
  obtain ⟨T1, X1, e1, st1⟩ := getF X0 hx hZ hown (host := "") (Or.inl w48) Via.refl e0 pr0 (g := (mkF m 1 #[.val (.ref t_), .val (.ref x_), .unset, .unset, .unset, .unset] [(.ref t_)])) rfl rfl (hb hby d16_1)
  refine ogo (S' := T1.setTop (mkF m 4 #[.val (.ref t_), .val (.ref x_), .unset, .unset, .unset, .unset] [(.ref s_CHARACTERS)])) st1 ?_
  obtain ⟨T2, X2, e2, st2⟩ := getS2 X1 hx hZ hown (host := "") (Or.inl w57) Via.refl e1 (Sta.ext O0.2 S_s_BYTES) (g := (mkF m 4 #[.val (.ref t_), .val (.ref x_), .unset, .unset, .unset, .unset] [(.ref s_CHARACTERS)])) rfl (hb hby d16_4)
  refine ogo (S' := T2.setTop (mkF m 7 #[.val (.ref t_), .val (.ref x_), .unset, .unset, .unset, .unset] [(.ref s_BYTES), (.ref s_CHARACTERS)])) st2 ?_
  refine o_acmp X2 hx 20 false rfl rfl (hb hby d16_7) (decide_eq_false fun q => (Fld.ne F_s_CHARACTERS_ordinal F_s_BYTES_ordinal (by decide)) (Value.ref.inj q)) (by decide) (by decide) ?_
  refine o_aloadN X2 hx (hb hby d16_20) rfl rfl ?_
  obtain ⟨T3, X3, e3, st3⟩ := getF X2 hx hZ hown (host := "") (Or.inl w48) Via.refl e2 pr0 (g := (mkF m 21 #[.val (.ref t_), .val (.ref x_), .unset, .unset, .unset, .unset] [(.ref t_)])) rfl rfl (hb hby d16_21)
  refine ogo (S' := T3.setTop (mkF m 24 #[.val (.ref t_), .val (.ref x_), .unset, .unset, .unset, .unset] [(.ref s_CHARACTERS)])) st3 ?_
  obtain ⟨T4, X4, e4, st4⟩ := getS2 X3 hx hZ hown (host := "") (Or.inl w59) Via.refl e3 (Sta.ext O0.2 S_s_CHARACTERS_BUT_TRAILING_SPACES) (g := (mkF m 24 #[.val (.ref t_), .val (.ref x_), .unset, .unset, .unset, .unset] [(.ref s_CHARACTERS)])) rfl (hb hby d16_24)
  refine ogo (S' := T4.setTop (mkF m 27 #[.val (.ref t_), .val (.ref x_), .unset, .unset, .unset, .unset] [(.ref s_CHARACTERS_BUT_TRAILING_SPACES), (.ref s_CHARACTERS)])) st4 ?_
  refine o_acmp X4 hx 75 false rfl rfl (hb hby d16_27) (decide_eq_false fun q => (Fld.ne F_s_CHARACTERS_ordinal F_s_CHARACTERS_BUT_TRAILING_SPACES_ordinal (by decide)) (Value.ref.inj q)) (by decide) (by decide) ?_
  refine o_aloadN X4 hx (hb hby d16_75) rfl rfl ?_
  obtain ⟨T5, X5, e5, st5⟩ := castY X4 hx hZ hown w61 e4 (Ins.self pr1) (g := (mkF m 76 #[.val (.ref t_), .val (.ref x_), .unset, .unset, .unset, .unset] [(.ref x_)])) rfl rfl (hb hby d16_76)
  refine ogo (S' := T5.setTop (mkF m 79 #[.val (.ref t_), .val (.ref x_), .unset, .unset, .unset, .unset] [(.ref x_)])) st5 ?_
  obtain ⟨cq6, kq6, q6a, q6b, q6c⟩ := isOf hZ e5 pr1
  obtain ⟨_, _, ⟨T6, L6, kc6, n6⟩, -, X6, ⟨Lc6, hQ6, l6, y6, z6⟩, st6⟩ := X5.virtualBack hx (y := yM17) (z := yM17) hown (mvT hZ w62) (mvT hZ w63) (notFace_of_selects (args := #[]) (mvT hZ w65)) (mvT hZ w65) (mvT hZ w64) (by decide) (backOf (W := 0) (rm_len_4 l Z a0 hw [] s_CHARACTERS s_BYTES s_CHARACTERS_BUT_TRAILING_SPACES z_CS v_FMT x_ ba_ kb_ vs_ h0 n0 SB O0 pr1 pr2 pr3 pr4) hZ w66 w14 (by decide) (by decide)) q6a q6c (g := (mkF m 79 #[.val (.ref t_), .val (.ref x_), .unset, .unset, .unset, .unset] [(.ref x_)])) rfl (by rw [hml]; rfl) (Steps.refl _) (argsL := []) (rest := []) (lenOf own_pd10 rfl) rfl (by show 2 * 0 + _ ≤ _; exact Nat.le_of_eq rfl) (hb hby d16_79) (fun _ _ => ⟨rfl, e5, (by decide : 0 + 0 ≤ _), (by decide : 0 + 0 ≤ _)⟩)
  dsimp only [Pt.U, Pt.locs, Pt.cells, Pt.slots] at X6 l6 y6 z6 st6 hQ6
  subst l6 y6 z6
  obtain ⟨rfl, Nq6, e6⟩ := hQ6
  have N6 := Fr.app N0 Nq6
  refine otr (S' := T6.setTop (mkF m 82 #[.val (.ref t_), .val (.ref x_), .unset, .unset, .unset, .unset] [(.int (4 : Int32))])) st6 ?_
  refine o_i2l X6 hx (hb hby d16_82) ?_
  refine o_lstoreN X6 hx (l' := #[.val (.ref t_), .val (.ref x_), .val (.long (4 : Int64)), .second, .unset, .unset]) (hb hby d16_83) rfl ?_
  refine o_lloadN X6 hx (hb hby d16_84) rfl ?_
  refine oend X6 hlk (v := some (.long (4 : Int64))) (fun h => by rw [hret] at h; cases h) (fun fs hr => retOut X6 hx (t := .long) (i := .lreturn) hret rfl (Or.inr (Or.inl ⟨rfl, rfl, _, rfl⟩)) (hb hby d16_85) hr) (by decide) (by decide) ?_
  show own_Q_of_chars_4 Z _ _ _ _ _ _ _ _ _ _ h0 n0 _ T6.heap _
  rw [e6]
  exact ⟨rfl, N6, rfl⟩
theorem d16_30 : decode prog_3_method_5_code 30 = .ok (.aload_n 1, 1) := by decide +kernel
theorem d16_31 : decode prog_3_method_5_code 31 = .ok (.checkcast 24, 3) := by decide +kernel
theorem d16_34 : decode prog_3_method_5_code 34 = .ok (.astore 4, 2) := by decide +kernel
theorem d16_36 : decode prog_3_method_5_code 36 = .ok (.aload 4, 2) := by decide +kernel
theorem d16_38 : decode prog_3_method_5_code 38 = .ok (.invokevirtual 29, 3) := by decide +kernel
theorem d16_41 : decode prog_3_method_5_code 41 = .ok (.istore 5, 2) := by decide +kernel
theorem d16_43 : decode prog_3_method_5_code 43 = .ok (.iload 5, 2) := by decide +kernel
theorem d16_45 : decode prog_3_method_5_code 45 = .ok (.ifCond .le 23, 3) := by decide +kernel
theorem d16_68 : decode prog_3_method_5_code 68 = .ok (.iload 5, 2) := by decide +kernel
theorem d16_70 : decode prog_3_method_5_code 70 = .ok (.i2l, 1) := by decide +kernel
theorem d16_71 : decode prog_3_method_5_code 71 = .ok (.lstore_n 2, 1) := by decide +kernel
theorem d16_72 : decode prog_3_method_5_code 72 = .ok (.goto 12, 3) := by decide +kernel
def own_Q_of_trail_0 (Z : State) (s_CHARACTERS : Addr) (s_BYTES : Addr) (s_CHARACTERS_BUT_TRAILING_SPACES : Addr) (z_CS : Int32) (v_FMT : Value) (t_ : Addr) (x_ : Addr) (ba_ : Addr) (kb_ : ClassId) (h0 : Heap) (n0 : Nat) (v : Option Value) (h : Heap) (L : List Loc) : Prop := (v = some (.long own_tr0.toInt64)) ∧ (Fr n0 L) ∧ (h = h0)
set_option maxRecDepth 65536 in
set_option maxHeartbeats 40000000 in
theorem rm_of_trail_0 (l : Launch) (Z : State) (a0 : Array Value) (hw : ∀ d ∈ tables_1, d.before a0 Z = true) (ws : List Jvm.Cond) (s_CHARACTERS : Addr) (s_BYTES : Addr) (s_CHARACTERS_BUT_TRAILING_SPACES : Addr) (z_CS : Int32) (v_FMT : Value) (t_ : Addr) (x_ : Addr) (ba_ : Addr) (kb_ : ClassId) (h0 : Heap) (n0 : Nat) (SB : own_Start Z s_CHARACTERS s_BYTES s_CHARACTERS_BUT_TRAILING_SPACES z_CS v_FMT) (O0 : Old Z n0 h0) (pr0 : Fld Z h0 t_ "com/example/upshot/upshot/ColumnCatalog$Length" "unit" "Lcom/example/upshot/upshot/ColumnCatalog$Length$Unit;" (.ref s_CHARACTERS_BUT_TRAILING_SPACES)) (pr1 : Exa Z h0 x_ "java/lang/String") (pr2 : Fld Z h0 x_ "java/lang/String" "coder" "B" (.int (0 : Int32))) (pr3 : Fld Z h0 x_ "java/lang/String" "value" "[B" (.ref ba_)) (pr4 : Arv Z h0 ba_ kb_ .byte (0 : Int32) [] (.int 0)) :
    oMet l Z yM15 prog_3_method_5_code 6 (some .long) ws ({ frames := 2, cells := 0, slots := 0, locals := 25 } : Room) 0 0 #[(.ref t_), (.ref x_)] h0 (own_Q_of_trail_0 Z s_CHARACTERS s_BYTES s_CHARACTERS_BUT_TRAILING_SPACES z_CS v_FMT t_ x_ ba_ kb_ h0 n0) := by
  refine oenter own_pn4 #[.val (.ref t_), .val (.ref x_), .unset, .unset, .unset, .unset] (fun m => by first | (simp [entryFrame, mkF, argsToLocals, Value.category]; done) | rfl) ?_
  intro p e s m below meth c s₁ X0 hx hZ hby hml hret hown0 hnm hlk e0
  have hown : s.vm.findClass "com/example/upshot/upshot/ColumnCatalog$Length" = some m.cls := hown0
  have N0 := Fr.nil n0
  obtain ⟨S_s_CHARACTERS, E_s_CHARACTERS, S_s_BYTES, E_s_BYTES, S_s_CHARACTERS_BUT_TRAILING_SPACES, E_s_CHARACTERS_BUT_TRAILING_SPACES, F_s_CHARACTERS_ordinal, F_s_BYTES_ordinal, F_s_CHARACTERS_BUT_TRAILING_SPACES_ordinal, S_CS, H_CS, S_FMT, R_FMT⟩ := (id SB)
  have w14 := hw _ (List.mem_of_getElem? (i := 14) rfl)
  have w48 := hw _ (List.mem_of_getElem? (i := 48) rfl)
  have w57 := hw _ (List.mem_of_getElem? (i := 57) rfl)
  have w59 := hw _ (List.mem_of_getElem? (i := 59) rfl)
  have w61 := hw _ (List.mem_of_getElem? (i := 61) rfl)
  have w62 := hw _ (List.mem_of_getElem? (i := 62) rfl)
  have w63 := hw _ (List.mem_of_getElem? (i := 63) rfl)
  have w64 := hw _ (List.mem_of_getElem? (i := 64) rfl)
  have w65 := hw _ (List.mem_of_getElem? (i := 65) rfl)
  have w66 := hw _ (List.mem_of_getElem? (i := 66) rfl)
  refine o_aloadN X0 hx (hb hby d16_0) rfl rfl ?_
  obtain ⟨T1, X1, e1, st1⟩ := getF X0 hx hZ hown (host := "") (Or.inl w48) Via.refl e0 pr0 (g := (mkF m 1 #[.val (.ref t_), .val (.ref x_), .unset, .unset, .unset, .unset] [(.ref t_)])) rfl rfl (hb hby d16_1)
  refine ogo (S' := T1.setTop (mkF m 4 #[.val (.ref t_), .val (.ref x_), .unset, .unset, .unset, .unset] [(.ref s_CHARACTERS_BUT_TRAILING_SPACES)])) st1 ?_
  obtain ⟨T2, X2, e2, st2⟩ := getS2 X1 hx hZ hown (host := "") (Or.inl w57) Via.refl e1 (Sta.ext O0.2 S_s_BYTES) (g := (mkF m 4 #[.val (.ref t_), .val (.ref x_), .unset, .unset, .unset, .unset] [(.ref s_CHARACTERS_BUT_TRAILING_SPACES)])) rfl (hb hby d16_4)
  refine ogo (S' := T2.setTop (mkF m 7 #[.val (.ref t_), .val (.ref x_), .unset, .unset, .unset, .unset] [(.ref s_BYTES), (.ref s_CHARACTERS_BUT_TRAILING_SPACES)])) st2 ?_
  refine o_acmp X2 hx 20 false rfl rfl (hb hby d16_7) (decide_eq_false fun q => (Fld.ne F_s_CHARACTERS_BUT_TRAILING_SPACES_ordinal F_s_BYTES_ordinal (by decide)) (Value.ref.inj q)) (by decide) (by decide) ?_
  refine o_aloadN X2 hx (hb hby d16_20) rfl rfl ?_
  obtain ⟨T3, X3, e3, st3⟩ := getF X2 hx hZ hown (host := "") (Or.inl w48) Via.refl e2 pr0 (g := (mkF m 21 #[.val (.ref t_), .val (.ref x_), .unset, .unset, .unset, .unset] [(.ref t_)])) rfl rfl (hb hby d16_21)
  refine ogo (S' := T3.setTop (mkF m 24 #[.val (.ref t_), .val (.ref x_), .unset, .unset, .unset, .unset] [(.ref s_CHARACTERS_BUT_TRAILING_SPACES)])) st3 ?_
  obtain ⟨T4, X4, e4, st4⟩ := getS2 X3 hx hZ hown (host := "") (Or.inl w59) Via.refl e3 (Sta.ext O0.2 S_s_CHARACTERS_BUT_TRAILING_SPACES) (g := (mkF m 24 #[.val (.ref t_), .val (.ref x_), .unset, .unset, .unset, .unset] [(.ref s_CHARACTERS_BUT_TRAILING_SPACES)])) rfl (hb hby d16_24)
  refine ogo (S' := T4.setTop (mkF m 27 #[.val (.ref t_), .val (.ref x_), .unset, .unset, .unset, .unset] [(.ref s_CHARACTERS_BUT_TRAILING_SPACES), (.ref s_CHARACTERS_BUT_TRAILING_SPACES)])) st4 ?_
  refine o_acmp X4 hx 30 true rfl rfl (hb hby d16_27) (decide_eq_true rfl) (by decide) (by decide) ?_
  refine o_aloadN X4 hx (hb hby d16_30) rfl rfl ?_
  obtain ⟨T5, X5, e5, st5⟩ := castY X4 hx hZ hown w61 e4 (Ins.self pr1) (g := (mkF m 31 #[.val (.ref t_), .val (.ref x_), .unset, .unset, .unset, .unset] [(.ref x_)])) rfl rfl (hb hby d16_31)
  refine ogo (S' := T5.setTop (mkF m 34 #[.val (.ref t_), .val (.ref x_), .unset, .unset, .unset, .unset] [(.ref x_)])) st5 ?_
  refine o_astore X5 hx (l' := #[.val (.ref t_), .val (.ref x_), .unset, .unset, .val (.ref x_), .unset]) (hb hby d16_34) rfl rfl ?_
  refine o_aload X5 hx (hb hby d16_36) rfl rfl ?_
  obtain ⟨cq6, kq6, q6a, q6b, q6c⟩ := isOf hZ e5 pr1
  obtain ⟨_, _, ⟨T6, L6, kc6, n6⟩, -, X6, ⟨Lc6, hQ6, l6, y6, z6⟩, st6⟩ := X5.virtualBack hx (y := yM17) (z := yM17) hown (mvT hZ w62) (mvT hZ w63) (notFace_of_selects (args := #[]) (mvT hZ w65)) (mvT hZ w65) (mvT hZ w64) (by decide) (backOf (W := 0) (rm_len_0 l Z a0 hw [] s_CHARACTERS s_BYTES s_CHARACTERS_BUT_TRAILING_SPACES z_CS v_FMT x_ ba_ kb_ [] h0 n0 SB O0 pr1 pr2 pr3 pr4) hZ w66 w14 (by decide) (by decide)) q6a q6c (g := (mkF m 38 #[.val (.ref t_), .val (.ref x_), .unset, .unset, .val (.ref x_), .unset] [(.ref x_)])) rfl (by rw [hml]; rfl) (Steps.refl _) (argsL := []) (rest := []) (lenOf own_pd10 rfl) rfl (by show 2 * 0 + _ ≤ _; exact Nat.le_of_eq rfl) (hb hby d16_38) (fun _ _ => ⟨rfl, e5, (by decide : 0 + 0 ≤ _), (by decide : 0 + 0 ≤ _)⟩)
  dsimp only [Pt.U, Pt.locs, Pt.cells, Pt.slots] at X6 l6 y6 z6 st6 hQ6
  subst l6 y6 z6
  obtain ⟨rfl, Nq6, e6⟩ := hQ6
  have N6 := Fr.app N0 Nq6
  refine otr (S' := T6.setTop (mkF m 41 #[.val (.ref t_), .val (.ref x_), .unset, .unset, .val (.ref x_), .unset] [(.int (0 : Int32))])) st6 ?_
  refine o_istore X6 hx (l' := #[.val (.ref t_), .val (.ref x_), .unset, .unset, .val (.ref x_), .val (.int (0 : Int32))]) (hb hby d16_41) rfl ?_
  refine o_iload X6 hx (hb hby d16_43) rfl ?_
  refine o_ifYes X6 hx 68 (hb hby d16_45) (flt (by decide : ¬ ((0 : Int32) < (0 : Int32)))).2.2.2 (by decide) (by decide) ?_
  refine o_iload X6 hx (hb hby d16_68) rfl ?_
  refine o_i2l X6 hx (hb hby d16_70) ?_
  refine o_lstoreN X6 hx (l' := #[.val (.ref t_), .val (.ref x_), .val (.long (0 : Int64)), .second, .val (.ref x_), .val (.int (0 : Int32))]) (hb hby d16_71) rfl ?_
  refine o_goto X6 hx 84 (hb hby d16_72) (by decide) (by decide) ?_
  refine o_lloadN X6 hx (hb hby d16_84) rfl ?_
  refine oend X6 hlk (v := some (.long (0 : Int64))) (fun h => by rw [hret] at h; cases h) (fun fs hr => retOut X6 hx (t := .long) (i := .lreturn) hret rfl (Or.inr (Or.inl ⟨rfl, rfl, _, rfl⟩)) (hb hby d16_85) hr) (by decide) (by decide) ?_
  show own_Q_of_trail_0 Z _ _ _ _ _ _ _ _ _ h0 n0 _ T6.heap _
  rw [e6]
  refine ⟨?_, N6, rfl⟩
  simp [own_tr0, own_tr1, own_tr2, own_tr3, own_tr4]
  try decide
theorem d19_0 : decode jdk_42_method_154_code 0 = .ok (.getstatic 38, 3) := by decide +kernel
theorem d19_3 : decode jdk_42_method_154_code 3 = .ok (.ifCond .eq 14, 3) := by decide +kernel
theorem d19_6 : decode jdk_42_method_154_code 6 = .ok (.aload_n 0, 1) := by decide +kernel
theorem d19_7 : decode jdk_42_method_154_code 7 = .ok (.getfield 15, 3) := by decide +kernel
theorem d19_10 : decode jdk_42_method_154_code 10 = .ok (.ifCond .ne 7, 3) := by decide +kernel
theorem d19_13 : decode jdk_42_method_154_code 13 = .ok (.iconst 1, 1) := by decide +kernel
theorem d19_14 : decode jdk_42_method_154_code 14 = .ok (.goto 4, 3) := by decide +kernel
theorem d19_18 : decode jdk_42_method_154_code 18 = .ok (.ireturn, 1) := by decide +kernel
def own_Q_isl1 (Z : State) (s_CHARACTERS : Addr) (s_BYTES : Addr) (s_CHARACTERS_BUT_TRAILING_SPACES : Addr) (z_CS : Int32) (v_FMT : Value) (x_ : Addr) (h0 : Heap) (n0 : Nat) (v : Option Value) (h : Heap) (L : List Loc) : Prop := (v = some (.int (1 : Int32))) ∧ (Fr n0 L) ∧ (h = h0)
abbrev yM18 : MethodName := ⟨"java/lang/String", "isLatin1", "()Z"⟩
set_option maxRecDepth 65536 in
set_option maxHeartbeats 40000000 in
theorem rm_isl1 (l : Launch) (Z : State) (a0 : Array Value) (hw : ∀ d ∈ tables_1, d.before a0 Z = true) (ws : List Jvm.Cond) (s_CHARACTERS : Addr) (s_BYTES : Addr) (s_CHARACTERS_BUT_TRAILING_SPACES : Addr) (z_CS : Int32) (v_FMT : Value) (x_ : Addr) (h0 : Heap) (n0 : Nat) (SB : own_Start Z s_CHARACTERS s_BYTES s_CHARACTERS_BUT_TRAILING_SPACES z_CS v_FMT) (O0 : Old Z n0 h0) (pr0 : Fld Z h0 x_ "java/lang/String" "coder" "B" (.int (0 : Int32))) :
    oMet l Z yM18 jdk_42_method_154_code 1 (some .boolean) ws ({ frames := 0, cells := 0, slots := 0, locals := 0 } : Room) 0 0 #[(.ref x_)] h0 (own_Q_isl1 Z s_CHARACTERS s_BYTES s_CHARACTERS_BUT_TRAILING_SPACES z_CS v_FMT x_ h0 n0) := by
  refine oenter own_pn2 #[.val (.ref x_)] (fun m => by first | (simp [entryFrame, mkF, argsToLocals, Value.category]; done) | rfl) ?_
  intro p e s m below meth c s₁ X0 hx hZ hby hml hret hown0 hnm hlk e0
  have hown : s.vm.findClass "java/lang/String" = some m.cls := hown0
  have N0 := Fr.nil n0
  obtain ⟨S_s_CHARACTERS, E_s_CHARACTERS, S_s_BYTES, E_s_BYTES, S_s_CHARACTERS_BUT_TRAILING_SPACES, E_s_CHARACTERS_BUT_TRAILING_SPACES, F_s_CHARACTERS_ordinal, F_s_BYTES_ordinal, F_s_CHARACTERS_BUT_TRAILING_SPACES_ordinal, S_CS, H_CS, S_FMT, R_FMT⟩ := (id SB)
  have w25 := hw _ (List.mem_of_getElem? (i := 25) rfl)
  have w37 := hw _ (List.mem_of_getElem? (i := 37) rfl)
  obtain ⟨T1, X1, e1, st1⟩ := getS2 X0 hx hZ hown (host := "") (Or.inl w25) Via.refl e0 (Sta.ext O0.2 S_CS) (g := (mkF m 0 #[.val (.ref x_)] [])) rfl (hb hby d19_0)
  refine ogo (S' := T1.setTop (mkF m 3 #[.val (.ref x_)] [(.int z_CS)])) st1 ?_
  refine o_ifNo X1 hx (hb hby d19_3) (feq H_CS).1 ?_
  refine o_aloadN X1 hx (hb hby d19_6) rfl rfl ?_
  obtain ⟨T2, X2, e2, st2⟩ := getF X1 hx hZ hown (host := "") (Or.inl w37) Via.refl e1 pr0 (g := (mkF m 7 #[.val (.ref x_)] [(.ref x_)])) rfl rfl (hb hby d19_7)
  refine ogo (S' := T2.setTop (mkF m 10 #[.val (.ref x_)] [(.int (0 : Int32))])) st2 ?_
  refine o_ifNo X2 hx (hb hby d19_10) (teq (by decide : (0 : Int32) = (0 : Int32))).2 ?_
  refine o_iconst X2 hx (1 : Int32) (hb hby d19_13) rfl ?_
  refine o_goto X2 hx 18 (hb hby d19_14) (by decide) (by decide) ?_
  refine oend X2 hlk (v := some (.int (1 : Int32))) (fun h => by rw [hret] at h; cases h) (fun fs hr => retN X2 hx (t := .boolean) hret (by simp) (hb hby d19_18) hr) (by decide) (by decide) ?_
  show own_Q_isl1 Z _ _ _ _ _ _ h0 n0 _ T2.heap _
  rw [e2]
  exact ⟨rfl, N0, rfl⟩
theorem d20_0 : decode jdk_41_method_11_code 0 = .ok (.iload_n 0, 1) := by decide +kernel
theorem d20_1 : decode jdk_41_method_11_code 1 = .ok (.ifCond .lt 8, 3) := by decide +kernel
theorem d20_4 : decode jdk_41_method_11_code 4 = .ok (.iload_n 0, 1) := by decide +kernel
theorem d20_5 : decode jdk_41_method_11_code 5 = .ok (.iload_n 1, 1) := by decide +kernel
theorem d20_6 : decode jdk_41_method_11_code 6 = .ok (.if_icmp .lt 10, 3) := by decide +kernel
theorem d20_16 : decode jdk_41_method_11_code 16 = .ok (.iload_n 0, 1) := by decide +kernel
theorem d20_17 : decode jdk_41_method_11_code 17 = .ok (.ireturn, 1) := by decide +kernel
theorem own_pn5 : plainName "jdk/internal/util/Preconditions" = true := by first | (simp [plainName, overriddenIn]; done) | decide +kernel
def own_Q_pci (Z : State)  (i_ : Int32) (n_ : Int32) (f_ : Value) (h0 : Heap) (n0 : Nat) (v : Option Value) (h : Heap) (L : List Loc) : Prop := (v = some (.int i_)) ∧ (Fr n0 L) ∧ (h = h0)
abbrev yM19 : MethodName := ⟨"jdk/internal/util/Preconditions", "checkIndex", "(IILjava/util/function/BiFunction;)I"⟩
set_option maxRecDepth 65536 in
set_option maxHeartbeats 40000000 in
theorem rm_pci (l : Launch) (Z : State) (a0 : Array Value) (hw : ∀ d ∈ tables_1, d.before a0 Z = true) (ws : List Jvm.Cond)  (i_ : Int32) (n_ : Int32) (f_ : Value) (h0 : Heap) (n0 : Nat) (O0 : Old Z n0 h0) (pr0 : ¬ (i_ < (0 : Int32))) (pr1 : i_ < n_) (pr2 : f_.isRef = true) (pr3 : f_.category = 1) :
    oMet l Z yM19 jdk_41_method_11_code 3 (some .int) ws ({ frames := 0, cells := 0, slots := 0, locals := 0 } : Room) 0 0 #[(.int i_), (.int n_), f_] h0 (own_Q_pci Z  i_ n_ f_ h0 n0) := by
  refine oenter own_pn5 #[.val (.int i_), .val (.int n_), .val f_] (fun m => by first | (simp [entryFrame, mkF, argsToLocals, Value.category, pr3]; done) | rfl | (cases f_ <;> first | rfl | (cases pr2))) ?_
  intro p e s m below meth c s₁ X0 hx hZ hby hml hret hown0 hnm hlk e0
  have hown : s.vm.findClass "jdk/internal/util/Preconditions" = some m.cls := hown0
  have N0 := Fr.nil n0
  refine o_iloadN X0 hx (hb hby d20_0) rfl ?_
  refine o_ifNo X0 hx (hb hby d20_1) (flt pr0).1 ?_
  refine o_iloadN X0 hx (hb hby d20_4) rfl ?_
  refine o_iloadN X0 hx (hb hby d20_5) rfl ?_
  refine o_icmpYes X0 hx 16 (hb hby d20_6) (tlt pr1).1 (by decide) (by decide) ?_
  refine o_iloadN X0 hx (hb hby d20_16) rfl ?_
  refine oend X0 hlk (v := some (.int i_)) (fun h => by rw [hret] at h; cases h) (fun fs hr => retOut X0 hx (t := .int) (i := .ireturn) hret rfl (Or.inl ⟨rfl, Or.inl rfl, _, rfl⟩) (hb hby d20_17) hr) (by decide) (by decide) ?_
  show own_Q_pci Z _ _ _ h0 n0 _ s₁.heap _
  rw [e0]
  exact ⟨rfl, N0, rfl⟩
theorem own_pd11 : parseMethodDescriptor "(IILjava/util/function/BiFunction;)I" = some ⟨[.int, .int, (.object "java/util/function/BiFunction")], some .int⟩ := by decide +kernel
theorem d21_0 : decode jdk_42_method_155_code 0 = .ok (.iload_n 0, 1) := by decide +kernel
theorem d21_1 : decode jdk_42_method_155_code 1 = .ok (.iload_n 1, 1) := by decide +kernel
theorem d21_2 : decode jdk_42_method_155_code 2 = .ok (.getstatic 1053, 3) := by decide +kernel
theorem d21_5 : decode jdk_42_method_155_code 5 = .ok (.invokestatic 1059, 3) := by decide +kernel
theorem d21_8 : decode jdk_42_method_155_code 8 = .ok (.pop, 1) := by decide +kernel
theorem d21_9 : decode jdk_42_method_155_code 9 = .ok (.return_, 1) := by decide +kernel
def own_Q_sci (Z : State) (s_CHARACTERS : Addr) (s_BYTES : Addr) (s_CHARACTERS_BUT_TRAILING_SPACES : Addr) (z_CS : Int32) (v_FMT : Value) (i_ : Int32) (n_ : Int32) (h0 : Heap) (n0 : Nat) (v : Option Value) (h : Heap) (L : List Loc) : Prop := (v = none) ∧ (Fr n0 L) ∧ (h = h0)
abbrev yM20 : MethodName := ⟨"java/lang/String", "checkIndex", "(II)V"⟩
set_option maxRecDepth 65536 in
set_option maxHeartbeats 40000000 in
theorem rm_sci (l : Launch) (Z : State) (a0 : Array Value) (hw : ∀ d ∈ tables_1, d.before a0 Z = true) (ws : List Jvm.Cond) (s_CHARACTERS : Addr) (s_BYTES : Addr) (s_CHARACTERS_BUT_TRAILING_SPACES : Addr) (z_CS : Int32) (v_FMT : Value) (i_ : Int32) (n_ : Int32) (h0 : Heap) (n0 : Nat) (SB : own_Start Z s_CHARACTERS s_BYTES s_CHARACTERS_BUT_TRAILING_SPACES z_CS v_FMT) (O0 : Old Z n0 h0) (pr0 : ¬ (i_ < (0 : Int32))) (pr1 : i_ < n_) :
    oMet l Z yM20 jdk_42_method_155_code 2 none ws ({ frames := 1, cells := 0, slots := 0, locals := 14 } : Room) 0 0 #[(.int i_), (.int n_)] h0 (own_Q_sci Z s_CHARACTERS s_BYTES s_CHARACTERS_BUT_TRAILING_SPACES z_CS v_FMT i_ n_ h0 n0) := by
  refine oenter own_pn2 #[.val (.int i_), .val (.int n_)] (fun m => by first | (simp [entryFrame, mkF, argsToLocals, Value.category]; done) | rfl) ?_
  intro p e s m below meth c s₁ X0 hx hZ hby hml hret hown0 hnm hlk e0
  have hown : s.vm.findClass "java/lang/String" = some m.cls := hown0
  have N0 := Fr.nil n0
  obtain ⟨S_s_CHARACTERS, E_s_CHARACTERS, S_s_BYTES, E_s_BYTES, S_s_CHARACTERS_BUT_TRAILING_SPACES, E_s_CHARACTERS_BUT_TRAILING_SPACES, F_s_CHARACTERS_ordinal, F_s_BYTES_ordinal, F_s_CHARACTERS_BUT_TRAILING_SPACES_ordinal, S_CS, H_CS, S_FMT, R_FMT⟩ := (id SB)
  have w122 := hw _ (List.mem_of_getElem? (i := 122) rfl)
  have w123 := hw _ (List.mem_of_getElem? (i := 123) rfl)
  have w124 := hw _ (List.mem_of_getElem? (i := 124) rfl)
  have w125 := hw _ (List.mem_of_getElem? (i := 125) rfl)
  have w126 := hw _ (List.mem_of_getElem? (i := 126) rfl)
  refine o_iloadN X0 hx (hb hby d21_0) rfl ?_
  refine o_iloadN X0 hx (hb hby d21_1) rfl ?_
  obtain ⟨T1, X1, e1, st1⟩ := getS2 X0 hx hZ hown (host := "") (Or.inl w122) Via.refl e0 (Sta.ext O0.2 S_FMT) (g := (mkF m 2 #[.val (.int i_), .val (.int n_)] [(.int n_), (.int i_)])) rfl (hb hby d21_2)
  refine ogo (S' := T1.setTop (mkF m 5 #[.val (.int i_), .val (.int n_)] [v_FMT, (.int n_), (.int i_)])) st1 ?_
  obtain ⟨_, _, ⟨T2, L2, kc2, n2⟩, -, X2, ⟨Lc2, hQ2, l2, y2, z2⟩, st2⟩ := Jvm.LawKit.callS X1 hx (y := yM19) hown (mvT hZ w124) (mvT hZ w125) (mvT hZ w123) (mvT hZ w126) (by decide) (backOf (W := 0) (rm_pci l Z a0 hw []  i_ n_ v_FMT h0 n0 O0 pr0 pr1 R_FMT (own_cat R_FMT)) hZ w126 w123 (by decide) (by decide)) (g := (mkF m 5 #[.val (.int i_), .val (.int n_)] [v_FMT, (.int n_), (.int i_)])) rfl (by rw [hml]; rfl) (argsL := [(.int i_), (.int n_), v_FMT]) (rest := []) (lenOf own_pd11 rfl) rfl (by show 2 * 0 + _ ≤ _; exact Nat.le_of_eq rfl) (hb hby d21_5) (fun _ _ => ⟨rfl, e1, (by decide : 0 + 0 ≤ _), (by decide : 0 + 0 ≤ _)⟩)
  dsimp only [Pt.U, Pt.locs, Pt.cells, Pt.slots] at X2 l2 y2 z2 st2 hQ2
  subst l2 y2 z2
  obtain ⟨rfl, Nq2, e2⟩ := hQ2
  have N2 := Fr.app N0 Nq2
  refine ogo (S' := T2.setTop (mkF m 8 #[.val (.int i_), .val (.int n_)] [(.int i_)])) st2 ?_
  refine o_pop X2 hx (hb hby d21_8) rfl ?_
  refine oend X2 hlk (v := none) (fun _ => rfl) (fun fs hr => X2.returnOut hx hret (hb hby d21_9) hr) (by decide) (by decide) ?_
  show own_Q_sci Z _ _ _ _ _ _ _ h0 n0 _ T2.heap _
  rw [e2]
  exact ⟨rfl, N2, rfl⟩
theorem own_pd12 : parseMethodDescriptor "(II)V" = some ⟨[.int, .int], none⟩ := by decide +kernel
theorem d22_0 : decode jdk_43_method_2_code 0 = .ok (.iload_n 1, 1) := by decide +kernel
theorem d22_1 : decode jdk_43_method_2_code 1 = .ok (.aload_n 0, 1) := by decide +kernel
theorem d22_2 : decode jdk_43_method_2_code 2 = .ok (.arraylength, 1) := by decide +kernel
theorem d22_3 : decode jdk_43_method_2_code 3 = .ok (.invokestatic 9, 3) := by decide +kernel
theorem d22_6 : decode jdk_43_method_2_code 6 = .ok (.aload_n 0, 1) := by decide +kernel
theorem d22_7 : decode jdk_43_method_2_code 7 = .ok (.iload_n 1, 1) := by decide +kernel
theorem d22_8 : decode jdk_43_method_2_code 8 = .ok (.baload, 1) := by decide +kernel
theorem d22_9 : decode jdk_43_method_2_code 9 = .ok (.sipush 255, 3) := by decide +kernel
theorem d22_12 : decode jdk_43_method_2_code 12 = .ok (.iand, 1) := by decide +kernel
theorem d22_13 : decode jdk_43_method_2_code 13 = .ok (.i2c, 1) := by decide +kernel
theorem d22_14 : decode jdk_43_method_2_code 14 = .ok (.ireturn, 1) := by decide +kernel
def own_Q_l1c_1_0 (Z : State) (s_CHARACTERS : Addr) (s_BYTES : Addr) (s_CHARACTERS_BUT_TRAILING_SPACES : Addr) (z_CS : Int32) (v_FMT : Value) (ba_ : Addr) (kb_ : ClassId) (c0_ : Int32) (h0 : Heap) (n0 : Nat) (v : Option Value) (h : Heap) (L : List Loc) : Prop := (v = some (.int c0_)) ∧ (Fr n0 L) ∧ (h = h0)
abbrev yM21 : MethodName := ⟨"java/lang/StringLatin1", "charAt", "([BI)C"⟩
set_option maxRecDepth 65536 in
set_option maxHeartbeats 40000000 in
theorem rm_l1c_1_0 (l : Launch) (Z : State) (a0 : Array Value) (hw : ∀ d ∈ tables_1, d.before a0 Z = true) (ws : List Jvm.Cond) (s_CHARACTERS : Addr) (s_BYTES : Addr) (s_CHARACTERS_BUT_TRAILING_SPACES : Addr) (z_CS : Int32) (v_FMT : Value) (ba_ : Addr) (kb_ : ClassId) (c0_ : Int32) (h0 : Heap) (n0 : Nat) (SB : own_Start Z s_CHARACTERS s_BYTES s_CHARACTERS_BUT_TRAILING_SPACES z_CS v_FMT) (O0 : Old Z n0 h0) (pr0 : Arv Z h0 ba_ kb_ .byte (1 : Int32) [(.int c0_.toInt8.toInt32)] (.int 0)) (pr1 : ¬ (c0_ < (0 : Int32))) (pr2 : ¬ ((255 : Int32) < c0_)) :
    oMet l Z yM21 jdk_43_method_2_code 2 (some .char) ws ({ frames := 2, cells := 0, slots := 0, locals := 27 } : Room) 0 0 #[(.ref ba_), (.int (0 : Int32))] h0 (own_Q_l1c_1_0 Z s_CHARACTERS s_BYTES s_CHARACTERS_BUT_TRAILING_SPACES z_CS v_FMT ba_ kb_ c0_ h0 n0) := by
  refine oenter own_pn1 #[.val (.ref ba_), .val (.int (0 : Int32))] (fun m => by first | (simp [entryFrame, mkF, argsToLocals, Value.category]; done) | rfl) ?_
  intro p e s m below meth c s₁ X0 hx hZ hby hml hret hown0 hnm hlk e0
  have hown : s.vm.findClass "java/lang/StringLatin1" = some m.cls := hown0
  have N0 := Fr.nil n0
  obtain ⟨S_s_CHARACTERS, E_s_CHARACTERS, S_s_BYTES, E_s_BYTES, S_s_CHARACTERS_BUT_TRAILING_SPACES, E_s_CHARACTERS_BUT_TRAILING_SPACES, F_s_CHARACTERS_ordinal, F_s_BYTES_ordinal, F_s_CHARACTERS_BUT_TRAILING_SPACES_ordinal, S_CS, H_CS, S_FMT, R_FMT⟩ := (id SB)
  have w14 := hw _ (List.mem_of_getElem? (i := 14) rfl)
  have w119 := hw _ (List.mem_of_getElem? (i := 119) rfl)
  have w120 := hw _ (List.mem_of_getElem? (i := 120) rfl)
  have w121 := hw _ (List.mem_of_getElem? (i := 121) rfl)
  refine o_iloadN X0 hx (hb hby d22_0) rfl ?_
  refine o_aloadN X0 hx (hb hby d22_1) rfl rfl ?_
  obtain ⟨cl1, Ar1, -, S1, N1z, -, -⟩ := (id pr0)
  refine ogo (S' := s₁.setTop (mkF m 3 #[.val (.ref ba_), .val (.int (0 : Int32))] [(.int (1 : Int32)), (.int (0 : Int32))])) (fun _ kt_ => X0.arraylength hx (by rw [e0]; exact Ar1.1) (State.isArrayOf_alike hZ.alike Ar1.2.1) (g := (mkF m 2 #[.val (.ref ba_), .val (.int (0 : Int32))] [(.ref ba_), (.int (0 : Int32))])) rfl rfl (hb hby d22_2) _ (by rw [len_of S1 N1z]; exact kt_)) ?_
  obtain ⟨_, _, ⟨T2, L2, kc2, n2⟩, -, X2, ⟨Lc2, hQ2, l2, y2, z2⟩, st2⟩ := Jvm.LawKit.callS X0 hx (y := yM20) hown (mvT hZ w119) (mvT hZ w120) (mvT hZ w14) (mvT hZ w121) (by decide) (backOf (W := 0) (rm_sci l Z a0 hw [] s_CHARACTERS s_BYTES s_CHARACTERS_BUT_TRAILING_SPACES z_CS v_FMT (0 : Int32) (1 : Int32) h0 n0 SB O0 (by decide) (by decide)) hZ w121 w14 (by decide) (by decide)) (g := (mkF m 3 #[.val (.ref ba_), .val (.int (0 : Int32))] [(.int (1 : Int32)), (.int (0 : Int32))])) rfl (by rw [hml]; rfl) (argsL := [(.int (0 : Int32)), (.int (1 : Int32))]) (rest := []) (lenOf own_pd12 rfl) rfl (by show 2 * 0 + _ ≤ _; exact Nat.le_of_eq rfl) (hb hby d22_3) (fun _ _ => ⟨rfl, e0, (by decide : 0 + 0 ≤ _), (by decide : 0 + 0 ≤ _)⟩)
  dsimp only [Pt.U, Pt.locs, Pt.cells, Pt.slots] at X2 l2 y2 z2 st2 hQ2
  subst l2 y2 z2
  obtain ⟨rfl, Nq2, e2⟩ := hQ2
  have N2 := Fr.app N0 Nq2
  refine ogo (S' := T2.setTop (mkF m 6 #[.val (.ref ba_), .val (.int (0 : Int32))] [])) st2 ?_
  refine o_aloadN X2 hx (hb hby d22_6) rfl rfl ?_
  refine o_iloadN X2 hx (hb hby d22_7) rfl ?_
  obtain ⟨cl3, Ar3, q3, S3, N3z, H3, G3⟩ := (id pr0)
  have hi3 := inb_of (j := (0 : Int32)) S3 ⟨by decide, by decide⟩
  have ha3 := Has.at (v := (.int c0_.toInt8.toInt32)) H3 hi3 rfl
  refine ogo (S' := T2.setTop (mkF m 9 #[.val (.ref ba_), .val (.int (0 : Int32))] [(.int c0_.toInt8.toInt32)])) (X2.baloadBytes hx (j := (0 : Int32)) (v := (.int c0_.toInt8.toInt32)) (by rw [e2]; exact Ar3.1) (State.isArrayOf_alike hZ.alike Ar3.2.1) Ar3.2.2 hi3 ha3 (g := (mkF m 8 #[.val (.ref ba_), .val (.int (0 : Int32))] [(.int (0 : Int32)), (.ref ba_)])) rfl rfl (hb hby d22_8)) ?_
  refine o_sipush X2 hx (255 : Int32) (hb hby d22_9) rfl ?_
  refine o_iand X2 hx (hb hby d22_12) ?_
  refine o_i2c X2 hx (hb hby d22_13) ?_
  rw [own_char pr1 pr2]
  refine oend X2 hlk (v := some (.int c0_)) (fun h => by rw [hret] at h; cases h) (fun fs hr => retN X2 hx (t := .char) hret (by simp) (hb hby d22_14) (by rw [(own_narsm pr1 pr2)]; exact hr)) (by decide) (by decide) ?_
  show own_Q_l1c_1_0 Z _ _ _ _ _ _ _ _ h0 n0 _ T2.heap _
  rw [e2]
  exact ⟨rfl, N2, rfl⟩
theorem own_pd13 : parseMethodDescriptor "()Z" = some ⟨[], some .boolean⟩ := by decide +kernel
theorem own_pd14 : parseMethodDescriptor "([BI)C" = some ⟨[(.array .byte), .int], some .char⟩ := by decide +kernel
theorem d23_0 : decode jdk_42_method_56_code 0 = .ok (.aload_n 0, 1) := by decide +kernel
theorem d23_1 : decode jdk_42_method_56_code 1 = .ok (.invokevirtual 492, 3) := by decide +kernel
theorem d23_4 : decode jdk_42_method_56_code 4 = .ok (.ifCond .eq 12, 3) := by decide +kernel
theorem d23_7 : decode jdk_42_method_56_code 7 = .ok (.aload_n 0, 1) := by decide +kernel
theorem d23_8 : decode jdk_42_method_56_code 8 = .ok (.getfield 9, 3) := by decide +kernel
theorem d23_11 : decode jdk_42_method_56_code 11 = .ok (.iload_n 1, 1) := by decide +kernel
theorem d23_12 : decode jdk_42_method_56_code 12 = .ok (.invokestatic 495, 3) := by decide +kernel
theorem d23_15 : decode jdk_42_method_56_code 15 = .ok (.ireturn, 1) := by decide +kernel
def own_Q_cat_1_0 (Z : State) (s_CHARACTERS : Addr) (s_BYTES : Addr) (s_CHARACTERS_BUT_TRAILING_SPACES : Addr) (z_CS : Int32) (v_FMT : Value) (x_ : Addr) (ba_ : Addr) (kb_ : ClassId) (c0_ : Int32) (h0 : Heap) (n0 : Nat) (v : Option Value) (h : Heap) (L : List Loc) : Prop := (v = some (.int c0_)) ∧ (Fr n0 L) ∧ (h = h0)
abbrev yM22 : MethodName := ⟨"java/lang/String", "charAt", "(I)C"⟩
set_option maxRecDepth 65536 in
set_option maxHeartbeats 40000000 in
theorem rm_cat_1_0 (l : Launch) (Z : State) (a0 : Array Value) (hw : ∀ d ∈ tables_1, d.before a0 Z = true) (ws : List Jvm.Cond) (s_CHARACTERS : Addr) (s_BYTES : Addr) (s_CHARACTERS_BUT_TRAILING_SPACES : Addr) (z_CS : Int32) (v_FMT : Value) (x_ : Addr) (ba_ : Addr) (kb_ : ClassId) (c0_ : Int32) (h0 : Heap) (n0 : Nat) (SB : own_Start Z s_CHARACTERS s_BYTES s_CHARACTERS_BUT_TRAILING_SPACES z_CS v_FMT) (O0 : Old Z n0 h0) (pr0 : Exa Z h0 x_ "java/lang/String") (pr1 : Fld Z h0 x_ "java/lang/String" "coder" "B" (.int (0 : Int32))) (pr2 : Fld Z h0 x_ "java/lang/String" "value" "[B" (.ref ba_)) (pr3 : Arv Z h0 ba_ kb_ .byte (1 : Int32) [(.int c0_.toInt8.toInt32)] (.int 0)) (pr4 : ¬ (c0_ < (0 : Int32))) (pr5 : ¬ ((255 : Int32) < c0_)) :
    oMet l Z yM22 jdk_42_method_56_code 2 (some .char) ws ({ frames := 3, cells := 0, slots := 0, locals := 40 } : Room) 0 0 #[(.ref x_), (.int (0 : Int32))] h0 (own_Q_cat_1_0 Z s_CHARACTERS s_BYTES s_CHARACTERS_BUT_TRAILING_SPACES z_CS v_FMT x_ ba_ kb_ c0_ h0 n0) := by
  refine oenter own_pn2 #[.val (.ref x_), .val (.int (0 : Int32))] (fun m => by first | (simp [entryFrame, mkF, argsToLocals, Value.category]; done) | rfl) ?_
  intro p e s m below meth c s₁ X0 hx hZ hby hml hret hown0 hnm hlk e0
  have hown : s.vm.findClass "java/lang/String" = some m.cls := hown0
  have N0 := Fr.nil n0
  obtain ⟨S_s_CHARACTERS, E_s_CHARACTERS, S_s_BYTES, E_s_BYTES, S_s_CHARACTERS_BUT_TRAILING_SPACES, E_s_CHARACTERS_BUT_TRAILING_SPACES, F_s_CHARACTERS_ordinal, F_s_BYTES_ordinal, F_s_CHARACTERS_BUT_TRAILING_SPACES_ordinal, S_CS, H_CS, S_FMT, R_FMT⟩ := (id SB)
  have w14 := hw _ (List.mem_of_getElem? (i := 14) rfl)
  have w39 := hw _ (List.mem_of_getElem? (i := 39) rfl)
  have w97 := hw _ (List.mem_of_getElem? (i := 97) rfl)
  have w111 := hw _ (List.mem_of_getElem? (i := 111) rfl)
  have w112 := hw _ (List.mem_of_getElem? (i := 112) rfl)
  have w113 := hw _ (List.mem_of_getElem? (i := 113) rfl)
  have w114 := hw _ (List.mem_of_getElem? (i := 114) rfl)
  have w115 := hw _ (List.mem_of_getElem? (i := 115) rfl)
  have w116 := hw _ (List.mem_of_getElem? (i := 116) rfl)
  have w117 := hw _ (List.mem_of_getElem? (i := 117) rfl)
  have w118 := hw _ (List.mem_of_getElem? (i := 118) rfl)
  refine o_aloadN X0 hx (hb hby d23_0) rfl rfl ?_
  obtain ⟨cq1, kq1, q1a, q1b, q1c⟩ := isOf hZ e0 pr0
  obtain ⟨_, _, ⟨T1, L1, kc1, n1⟩, -, X1, ⟨Lc1, hQ1, l1, y1, z1⟩, st1⟩ := X0.virtualBack hx (y := yM18) (z := yM18) hown (mvT hZ w111) (mvT hZ w112) (notFace_of_selects (args := #[]) (mvT hZ w114)) (mvT hZ w114) (mvT hZ w113) (by decide) (backOf (W := 0) (rm_isl1 l Z a0 hw [] s_CHARACTERS s_BYTES s_CHARACTERS_BUT_TRAILING_SPACES z_CS v_FMT x_ h0 n0 SB O0 pr1) hZ w115 w14 (by decide) (by decide)) q1a q1c (g := (mkF m 1 #[.val (.ref x_), .val (.int (0 : Int32))] [(.ref x_)])) rfl (by rw [hml]; rfl) (Steps.refl _) (argsL := []) (rest := []) (lenOf own_pd13 rfl) rfl (by show 2 * 0 + _ ≤ _; exact Nat.le_of_eq rfl) (hb hby d23_1) (fun _ _ => ⟨rfl, e0, (by decide : 0 + 0 ≤ _), (by decide : 0 + 0 ≤ _)⟩)
  dsimp only [Pt.U, Pt.locs, Pt.cells, Pt.slots] at X1 l1 y1 z1 st1 hQ1
  subst l1 y1 z1
  obtain ⟨rfl, Nq1, e1⟩ := hQ1
  have N1 := Fr.app N0 Nq1
  refine otr (S' := T1.setTop (mkF m 4 #[.val (.ref x_), .val (.int (0 : Int32))] [(.int (1 : Int32))])) st1 ?_
  refine o_ifNo X1 hx (hb hby d23_4) (feq (by decide : ¬ ((1 : Int32) = (0 : Int32)))).1 ?_
  refine o_aloadN X1 hx (hb hby d23_7) rfl rfl ?_
  obtain ⟨T2, X2, e2, st2⟩ := getF X1 hx hZ hown (host := "") (Or.inl w39) Via.refl e1 pr2 (g := (mkF m 8 #[.val (.ref x_), .val (.int (0 : Int32))] [(.ref x_)])) rfl rfl (hb hby d23_8)
  refine ogo (S' := T2.setTop (mkF m 11 #[.val (.ref x_), .val (.int (0 : Int32))] [(.ref ba_)])) st2 ?_
  refine o_iloadN X2 hx (hb hby d23_11) rfl ?_
  obtain ⟨_, _, ⟨T3, L3, kc3, n3⟩, -, X3, ⟨Lc3, hQ3, l3, y3, z3⟩, st3⟩ := Jvm.LawKit.callS X2 hx (y := yM21) hown (mvT hZ w116) (mvT hZ w117) (mvT hZ w97) (mvT hZ w118) (by decide) (backOf (W := 0) (rm_l1c_1_0 l Z a0 hw [] s_CHARACTERS s_BYTES s_CHARACTERS_BUT_TRAILING_SPACES z_CS v_FMT ba_ kb_ c0_ h0 n0 SB O0 pr3 pr4 pr5) hZ w118 w97 (by decide) (by decide)) (g := (mkF m 12 #[.val (.ref x_), .val (.int (0 : Int32))] [(.int (0 : Int32)), (.ref ba_)])) rfl (by rw [hml]; rfl) (argsL := [(.ref ba_), (.int (0 : Int32))]) (rest := []) (lenOf own_pd14 rfl) rfl (by show 2 * 0 + _ ≤ _; exact Nat.le_of_eq rfl) (hb hby d23_12) (fun _ _ => ⟨rfl, e2, (by decide : 0 + 0 ≤ _), (by decide : 0 + 0 ≤ _)⟩)
  dsimp only [Pt.U, Pt.locs, Pt.cells, Pt.slots] at X3 l3 y3 z3 st3 hQ3
  subst l3 y3 z3
  obtain ⟨rfl, Nq3, e3⟩ := hQ3
  have N3 := Fr.app N1 Nq3
  refine ogo (S' := T3.setTop (mkF m 15 #[.val (.ref x_), .val (.int (0 : Int32))] [(.int c0_)])) st3 ?_
  refine oend X3 hlk (v := some (.int c0_)) (fun h => by rw [hret] at h; cases h) (fun fs hr => retN X3 hx (t := .char) hret (by simp) (hb hby d23_15) (by rw [(own_narsm pr4 pr5)]; exact hr)) (by decide) (by decide) ?_
  show own_Q_cat_1_0 Z _ _ _ _ _ _ _ _ _ h0 n0 _ T3.heap _
  rw [e3]
  exact ⟨rfl, N3, rfl⟩
theorem own_pd15 : parseMethodDescriptor "(I)C" = some ⟨[.int], some .char⟩ := by decide +kernel
theorem d16_48 : decode prog_3_method_5_code 48 = .ok (.aload 4, 2) := by decide +kernel
theorem d16_50 : decode prog_3_method_5_code 50 = .ok (.iload 5, 2) := by decide +kernel
theorem d16_52 : decode prog_3_method_5_code 52 = .ok (.iconst 1, 1) := by decide +kernel
theorem d16_53 : decode prog_3_method_5_code 53 = .ok (.isub, 1) := by decide +kernel
theorem d16_54 : decode prog_3_method_5_code 54 = .ok (.invokevirtual 33, 3) := by decide +kernel
theorem d16_57 : decode prog_3_method_5_code 57 = .ok (.bipush 32, 2) := by decide +kernel
theorem d16_59 : decode prog_3_method_5_code 59 = .ok (.if_icmp .ne 9, 3) := by decide +kernel
theorem d16_62 : decode prog_3_method_5_code 62 = .ok (.iinc 5 (-1), 3) := by decide +kernel
theorem d16_65 : decode prog_3_method_5_code 65 = .ok (.goto (-22), 3) := by decide +kernel
def own_Q_of_trail_1 (Z : State) (s_CHARACTERS : Addr) (s_BYTES : Addr) (s_CHARACTERS_BUT_TRAILING_SPACES : Addr) (z_CS : Int32) (v_FMT : Value) (t_ : Addr) (x_ : Addr) (ba_ : Addr) (kb_ : ClassId) (c0_ : Int32) (h0 : Heap) (n0 : Nat) (v : Option Value) (h : Heap) (L : List Loc) : Prop := (v = some (.long (own_tr1 c0_).toInt64)) ∧ (Fr n0 L) ∧ (h = h0)
set_option maxRecDepth 65536 in
set_option maxHeartbeats 40000000 in
theorem rm_of_trail_1 (l : Launch) (Z : State) (a0 : Array Value) (hw : ∀ d ∈ tables_1, d.before a0 Z = true) (ws : List Jvm.Cond) (s_CHARACTERS : Addr) (s_BYTES : Addr) (s_CHARACTERS_BUT_TRAILING_SPACES : Addr) (z_CS : Int32) (v_FMT : Value) (t_ : Addr) (x_ : Addr) (ba_ : Addr) (kb_ : ClassId) (c0_ : Int32) (h0 : Heap) (n0 : Nat) (SB : own_Start Z s_CHARACTERS s_BYTES s_CHARACTERS_BUT_TRAILING_SPACES z_CS v_FMT) (O0 : Old Z n0 h0) (pr0 : Fld Z h0 t_ "com/example/upshot/upshot/ColumnCatalog$Length" "unit" "Lcom/example/upshot/upshot/ColumnCatalog$Length$Unit;" (.ref s_CHARACTERS_BUT_TRAILING_SPACES)) (pr1 : Exa Z h0 x_ "java/lang/String") (pr2 : Fld Z h0 x_ "java/lang/String" "coder" "B" (.int (0 : Int32))) (pr3 : Fld Z h0 x_ "java/lang/String" "value" "[B" (.ref ba_)) (pr4 : Arv Z h0 ba_ kb_ .byte (1 : Int32) [(.int c0_.toInt8.toInt32)] (.int 0)) (pr5 : ¬ (c0_ < (0 : Int32))) (pr6 : ¬ ((255 : Int32) < c0_)) :
    oMet l Z yM15 prog_3_method_5_code 6 (some .long) ws ({ frames := 4, cells := 0, slots := 0, locals := 53 } : Room) 0 0 #[(.ref t_), (.ref x_)] h0 (own_Q_of_trail_1 Z s_CHARACTERS s_BYTES s_CHARACTERS_BUT_TRAILING_SPACES z_CS v_FMT t_ x_ ba_ kb_ c0_ h0 n0) := by
  refine oenter own_pn4 #[.val (.ref t_), .val (.ref x_), .unset, .unset, .unset, .unset] (fun m => by first | (simp [entryFrame, mkF, argsToLocals, Value.category]; done) | rfl) ?_
  intro p e s m below meth c s₁ X0 hx hZ hby hml hret hown0 hnm hlk e0
  have hown : s.vm.findClass "com/example/upshot/upshot/ColumnCatalog$Length" = some m.cls := hown0
  have N0 := Fr.nil n0
  obtain ⟨S_s_CHARACTERS, E_s_CHARACTERS, S_s_BYTES, E_s_BYTES, S_s_CHARACTERS_BUT_TRAILING_SPACES, E_s_CHARACTERS_BUT_TRAILING_SPACES, F_s_CHARACTERS_ordinal, F_s_BYTES_ordinal, F_s_CHARACTERS_BUT_TRAILING_SPACES_ordinal, S_CS, H_CS, S_FMT, R_FMT⟩ := (id SB)
  have w14 := hw _ (List.mem_of_getElem? (i := 14) rfl)
  have w48 := hw _ (List.mem_of_getElem? (i := 48) rfl)
  have w57 := hw _ (List.mem_of_getElem? (i := 57) rfl)
  have w59 := hw _ (List.mem_of_getElem? (i := 59) rfl)
  have w61 := hw _ (List.mem_of_getElem? (i := 61) rfl)
  have w62 := hw _ (List.mem_of_getElem? (i := 62) rfl)
  have w63 := hw _ (List.mem_of_getElem? (i := 63) rfl)
  have w64 := hw _ (List.mem_of_getElem? (i := 64) rfl)
  have w65 := hw _ (List.mem_of_getElem? (i := 65) rfl)
  have w66 := hw _ (List.mem_of_getElem? (i := 66) rfl)
  have w106 := hw _ (List.mem_of_getElem? (i := 106) rfl)
  have w107 := hw _ (List.mem_of_getElem? (i := 107) rfl)
  have w108 := hw _ (List.mem_of_getElem? (i := 108) rfl)
  have w109 := hw _ (List.mem_of_getElem? (i := 109) rfl)
  have w110 := hw _ (List.mem_of_getElem? (i := 110) rfl)
  refine o_aloadN X0 hx (hb hby d16_0) rfl rfl ?_
  obtain ⟨T1, X1, e1, st1⟩ := getF X0 hx hZ hown (host := "") (Or.inl w48) Via.refl e0 pr0 (g := (mkF m 1 #[.val (.ref t_), .val (.ref x_), .unset, .unset, .unset, .unset] [(.ref t_)])) rfl rfl (hb hby d16_1)
  refine ogo (S' := T1.setTop (mkF m 4 #[.val (.ref t_), .val (.ref x_), .unset, .unset, .unset, .unset] [(.ref s_CHARACTERS_BUT_TRAILING_SPACES)])) st1 ?_
  obtain ⟨T2, X2, e2, st2⟩ := getS2 X1 hx hZ hown (host := "") (Or.inl w57) Via.refl e1 (Sta.ext O0.2 S_s_BYTES) (g := (mkF m 4 #[.val (.ref t_), .val (.ref x_), .unset, .unset, .unset, .unset] [(.ref s_CHARACTERS_BUT_TRAILING_SPACES)])) rfl (hb hby d16_4)
  refine ogo (S' := T2.setTop (mkF m 7 #[.val (.ref t_), .val (.ref x_), .unset, .unset, .unset, .unset] [(.ref s_BYTES), (.ref s_CHARACTERS_BUT_TRAILING_SPACES)])) st2 ?_
  refine o_acmp X2 hx 20 false rfl rfl (hb hby d16_7) (decide_eq_false fun q => (Fld.ne F_s_CHARACTERS_BUT_TRAILING_SPACES_ordinal F_s_BYTES_ordinal (by decide)) (Value.ref.inj q)) (by decide) (by decide) ?_
  refine o_aloadN X2 hx (hb hby d16_20) rfl rfl ?_
  obtain ⟨T3, X3, e3, st3⟩ := getF X2 hx hZ hown (host := "") (Or.inl w48) Via.refl e2 pr0 (g := (mkF m 21 #[.val (.ref t_), .val (.ref x_), .unset, .unset, .unset, .unset] [(.ref t_)])) rfl rfl (hb hby d16_21)
  refine ogo (S' := T3.setTop (mkF m 24 #[.val (.ref t_), .val (.ref x_), .unset, .unset, .unset, .unset] [(.ref s_CHARACTERS_BUT_TRAILING_SPACES)])) st3 ?_
  obtain ⟨T4, X4, e4, st4⟩ := getS2 X3 hx hZ hown (host := "") (Or.inl w59) Via.refl e3 (Sta.ext O0.2 S_s_CHARACTERS_BUT_TRAILING_SPACES) (g := (mkF m 24 #[.val (.ref t_), .val (.ref x_), .unset, .unset, .unset, .unset] [(.ref s_CHARACTERS_BUT_TRAILING_SPACES)])) rfl (hb hby d16_24)
  refine ogo (S' := T4.setTop (mkF m 27 #[.val (.ref t_), .val (.ref x_), .unset, .unset, .unset, .unset] [(.ref s_CHARACTERS_BUT_TRAILING_SPACES), (.ref s_CHARACTERS_BUT_TRAILING_SPACES)])) st4 ?_
  refine o_acmp X4 hx 30 true rfl rfl (hb hby d16_27) (decide_eq_true rfl) (by decide) (by decide) ?_
  refine o_aloadN X4 hx (hb hby d16_30) rfl rfl ?_
  obtain ⟨T5, X5, e5, st5⟩ := castY X4 hx hZ hown w61 e4 (Ins.self pr1) (g := (mkF m 31 #[.val (.ref t_), .val (.ref x_), .unset, .unset, .unset, .unset] [(.ref x_)])) rfl rfl (hb hby d16_31)
  refine ogo (S' := T5.setTop (mkF m 34 #[.val (.ref t_), .val (.ref x_), .unset, .unset, .unset, .unset] [(.ref x_)])) st5 ?_
  refine o_astore X5 hx (l' := #[.val (.ref t_), .val (.ref x_), .unset, .unset, .val (.ref x_), .unset]) (hb hby d16_34) rfl rfl ?_
  refine o_aload X5 hx (hb hby d16_36) rfl rfl ?_
  obtain ⟨cq6, kq6, q6a, q6b, q6c⟩ := isOf hZ e5 pr1
  obtain ⟨_, _, ⟨T6, L6, kc6, n6⟩, -, X6, ⟨Lc6, hQ6, l6, y6, z6⟩, st6⟩ := X5.virtualBack hx (y := yM17) (z := yM17) hown (mvT hZ w62) (mvT hZ w63) (notFace_of_selects (args := #[]) (mvT hZ w65)) (mvT hZ w65) (mvT hZ w64) (by decide) (backOf (W := 0) (rm_len_1 l Z a0 hw [] s_CHARACTERS s_BYTES s_CHARACTERS_BUT_TRAILING_SPACES z_CS v_FMT x_ ba_ kb_ [(.int c0_.toInt8.toInt32)] h0 n0 SB O0 pr1 pr2 pr3 pr4) hZ w66 w14 (by decide) (by decide)) q6a q6c (g := (mkF m 38 #[.val (.ref t_), .val (.ref x_), .unset, .unset, .val (.ref x_), .unset] [(.ref x_)])) rfl (by rw [hml]; rfl) (Steps.refl _) (argsL := []) (rest := []) (lenOf own_pd10 rfl) rfl (by show 2 * 0 + _ ≤ _; exact Nat.le_of_eq rfl) (hb hby d16_38) (fun _ _ => ⟨rfl, e5, (by decide : 0 + 0 ≤ _), (by decide : 0 + 0 ≤ _)⟩)
  dsimp only [Pt.U, Pt.locs, Pt.cells, Pt.slots] at X6 l6 y6 z6 st6 hQ6
  subst l6 y6 z6
  obtain ⟨rfl, Nq6, e6⟩ := hQ6
  have N6 := Fr.app N0 Nq6
  refine otr (S' := T6.setTop (mkF m 41 #[.val (.ref t_), .val (.ref x_), .unset, .unset, .val (.ref x_), .unset] [(.int (1 : Int32))])) st6 ?_
  refine o_istore X6 hx (l' := #[.val (.ref t_), .val (.ref x_), .unset, .unset, .val (.ref x_), .val (.int (1 : Int32))]) (hb hby d16_41) rfl ?_
  refine o_iload X6 hx (hb hby d16_43) rfl ?_
  refine o_ifNo X6 hx (hb hby d16_45) (tlt (by decide : (0 : Int32) < (1 : Int32))).2.2.2 ?_
  refine o_aload X6 hx (hb hby d16_48) rfl rfl ?_
  refine o_iload X6 hx (hb hby d16_50) rfl ?_
  refine o_iconst X6 hx (1 : Int32) (hb hby d16_52) rfl ?_
  refine o_isub X6 hx (hb hby d16_53) ?_
  obtain ⟨cq7, kq7, q7a, q7b, q7c⟩ := isOf hZ e6 pr1
  obtain ⟨_, _, ⟨T7, L7, kc7, n7⟩, -, X7, ⟨Lc7, hQ7, l7, y7, z7⟩, st7⟩ := X6.virtualBack hx (y := yM22) (z := yM22) hown (mvT hZ w106) (mvT hZ w107) (notFace_of_selects (args := #[]) (mvT hZ w109)) (mvT hZ w109) (mvT hZ w108) (by decide) (backOf (W := 0) (rm_cat_1_0 l Z a0 hw [] s_CHARACTERS s_BYTES s_CHARACTERS_BUT_TRAILING_SPACES z_CS v_FMT x_ ba_ kb_ c0_ h0 n0 SB O0 pr1 pr2 pr3 pr4 pr5 pr6) hZ w110 w14 (by decide) (by decide)) q7a q7c (g := (mkF m 54 #[.val (.ref t_), .val (.ref x_), .unset, .unset, .val (.ref x_), .val (.int (1 : Int32))] [(.int (0 : Int32)), (.ref x_)])) rfl (by rw [hml]; rfl) (Steps.refl _) (argsL := [(.int (0 : Int32))]) (rest := []) (lenOf own_pd15 rfl) rfl (by show 2 * 0 + _ ≤ _; exact Nat.le_of_eq rfl) (hb hby d16_54) (fun _ _ => ⟨rfl, e6, (by decide : 0 + 0 ≤ _), (by decide : 0 + 0 ≤ _)⟩)
  dsimp only [Pt.U, Pt.locs, Pt.cells, Pt.slots] at X7 l7 y7 z7 st7 hQ7
  subst l7 y7 z7
  obtain ⟨rfl, Nq7, e7⟩ := hQ7
  have N7 := Fr.app N6 Nq7
  refine otr (S' := T7.setTop (mkF m 57 #[.val (.ref t_), .val (.ref x_), .unset, .unset, .val (.ref x_), .val (.int (1 : Int32))] [(.int c0_)])) st7 ?_
  refine o_bipush X7 hx (32 : Int32) (hb hby d16_57) rfl ?_
  by_cases hc8 : c0_ = (32 : Int32)
  · refine o_icmpNo X7 hx (hb hby d16_59) (teq hc8).2 ?_
    refine o_iinc X7 hx (l' := #[.val (.ref t_), .val (.ref x_), .unset, .unset, .val (.ref x_), .val (.int (0 : Int32))]) (hb hby d16_62) rfl rfl ?_
    refine o_goto X7 hx 43 (hb hby d16_65) (by decide) (by decide) ?_
    refine o_iload X7 hx (hb hby d16_43) rfl ?_
    refine o_ifYes X7 hx 68 (hb hby d16_45) (flt (by decide : ¬ ((0 : Int32) < (0 : Int32)))).2.2.2 (by decide) (by decide) ?_
    refine o_iload X7 hx (hb hby d16_68) rfl ?_
    refine o_i2l X7 hx (hb hby d16_70) ?_
    refine o_lstoreN X7 hx (l' := #[.val (.ref t_), .val (.ref x_), .val (.long (0 : Int64)), .second, .val (.ref x_), .val (.int (0 : Int32))]) (hb hby d16_71) rfl ?_
    refine o_goto X7 hx 84 (hb hby d16_72) (by decide) (by decide) ?_
    refine o_lloadN X7 hx (hb hby d16_84) rfl ?_
    refine oend X7 hlk (v := some (.long (0 : Int64))) (fun h => by rw [hret] at h; cases h) (fun fs hr => retOut X7 hx (t := .long) (i := .lreturn) hret rfl (Or.inr (Or.inl ⟨rfl, rfl, _, rfl⟩)) (hb hby d16_85) hr) (by decide) (by decide) ?_
    show own_Q_of_trail_1 Z _ _ _ _ _ _ _ _ _ _ h0 n0 _ T7.heap _
    rw [e7]
    refine ⟨?_, N7, rfl⟩
    simp [own_tr0, own_tr1, own_tr2, own_tr3, own_tr4, hc8]
    try decide
  · refine o_icmpYes X7 hx 68 (hb hby d16_59) (feq hc8).2 (by decide) (by decide) ?_
    refine o_iload X7 hx (hb hby d16_68) rfl ?_
    refine o_i2l X7 hx (hb hby d16_70) ?_
    refine o_lstoreN X7 hx (l' := #[.val (.ref t_), .val (.ref x_), .val (.long (1 : Int64)), .second, .val (.ref x_), .val (.int (1 : Int32))]) (hb hby d16_71) rfl ?_
    refine o_goto X7 hx 84 (hb hby d16_72) (by decide) (by decide) ?_
    refine o_lloadN X7 hx (hb hby d16_84) rfl ?_
    refine oend X7 hlk (v := some (.long (1 : Int64))) (fun h => by rw [hret] at h; cases h) (fun fs hr => retOut X7 hx (t := .long) (i := .lreturn) hret rfl (Or.inr (Or.inl ⟨rfl, rfl, _, rfl⟩)) (hb hby d16_85) hr) (by decide) (by decide) ?_
    show own_Q_of_trail_1 Z _ _ _ _ _ _ _ _ _ _ h0 n0 _ T7.heap _
    rw [e7]
    refine ⟨?_, N7, rfl⟩
    simp [own_tr0, own_tr1, own_tr2, own_tr3, own_tr4, hc8]
    try decide
def own_Q_l1c_2_0 (Z : State) (s_CHARACTERS : Addr) (s_BYTES : Addr) (s_CHARACTERS_BUT_TRAILING_SPACES : Addr) (z_CS : Int32) (v_FMT : Value) (ba_ : Addr) (kb_ : ClassId) (c0_ : Int32) (c1_ : Int32) (h0 : Heap) (n0 : Nat) (v : Option Value) (h : Heap) (L : List Loc) : Prop := (v = some (.int c0_)) ∧ (Fr n0 L) ∧ (h = h0)
set_option maxRecDepth 65536 in
set_option maxHeartbeats 40000000 in
theorem rm_l1c_2_0 (l : Launch) (Z : State) (a0 : Array Value) (hw : ∀ d ∈ tables_1, d.before a0 Z = true) (ws : List Jvm.Cond) (s_CHARACTERS : Addr) (s_BYTES : Addr) (s_CHARACTERS_BUT_TRAILING_SPACES : Addr) (z_CS : Int32) (v_FMT : Value) (ba_ : Addr) (kb_ : ClassId) (c0_ : Int32) (c1_ : Int32) (h0 : Heap) (n0 : Nat) (SB : own_Start Z s_CHARACTERS s_BYTES s_CHARACTERS_BUT_TRAILING_SPACES z_CS v_FMT) (O0 : Old Z n0 h0) (pr0 : Arv Z h0 ba_ kb_ .byte (2 : Int32) [(.int c0_.toInt8.toInt32), (.int c1_.toInt8.toInt32)] (.int 0)) (pr1 : ¬ (c0_ < (0 : Int32))) (pr2 : ¬ ((255 : Int32) < c0_)) :
    oMet l Z yM21 jdk_43_method_2_code 2 (some .char) ws ({ frames := 2, cells := 0, slots := 0, locals := 27 } : Room) 0 0 #[(.ref ba_), (.int (0 : Int32))] h0 (own_Q_l1c_2_0 Z s_CHARACTERS s_BYTES s_CHARACTERS_BUT_TRAILING_SPACES z_CS v_FMT ba_ kb_ c0_ c1_ h0 n0) := by
  refine oenter own_pn1 #[.val (.ref ba_), .val (.int (0 : Int32))] (fun m => by first | (simp [entryFrame, mkF, argsToLocals, Value.category]; done) | rfl) ?_
  intro p e s m below meth c s₁ X0 hx hZ hby hml hret hown0 hnm hlk e0
  have hown : s.vm.findClass "java/lang/StringLatin1" = some m.cls := hown0
  have N0 := Fr.nil n0
  obtain ⟨S_s_CHARACTERS, E_s_CHARACTERS, S_s_BYTES, E_s_BYTES, S_s_CHARACTERS_BUT_TRAILING_SPACES, E_s_CHARACTERS_BUT_TRAILING_SPACES, F_s_CHARACTERS_ordinal, F_s_BYTES_ordinal, F_s_CHARACTERS_BUT_TRAILING_SPACES_ordinal, S_CS, H_CS, S_FMT, R_FMT⟩ := (id SB)
  have w14 := hw _ (List.mem_of_getElem? (i := 14) rfl)
  have w119 := hw _ (List.mem_of_getElem? (i := 119) rfl)
  have w120 := hw _ (List.mem_of_getElem? (i := 120) rfl)
  have w121 := hw _ (List.mem_of_getElem? (i := 121) rfl)
  refine o_iloadN X0 hx (hb hby d22_0) rfl ?_
  refine o_aloadN X0 hx (hb hby d22_1) rfl rfl ?_
  obtain ⟨cl1, Ar1, -, S1, N1z, -, -⟩ := (id pr0)
  refine ogo (S' := s₁.setTop (mkF m 3 #[.val (.ref ba_), .val (.int (0 : Int32))] [(.int (2 : Int32)), (.int (0 : Int32))])) (fun _ kt_ => X0.arraylength hx (by rw [e0]; exact Ar1.1) (State.isArrayOf_alike hZ.alike Ar1.2.1) (g := (mkF m 2 #[.val (.ref ba_), .val (.int (0 : Int32))] [(.ref ba_), (.int (0 : Int32))])) rfl rfl (hb hby d22_2) _ (by rw [len_of S1 N1z]; exact kt_)) ?_
  obtain ⟨_, _, ⟨T2, L2, kc2, n2⟩, -, X2, ⟨Lc2, hQ2, l2, y2, z2⟩, st2⟩ := Jvm.LawKit.callS X0 hx (y := yM20) hown (mvT hZ w119) (mvT hZ w120) (mvT hZ w14) (mvT hZ w121) (by decide) (backOf (W := 0) (rm_sci l Z a0 hw [] s_CHARACTERS s_BYTES s_CHARACTERS_BUT_TRAILING_SPACES z_CS v_FMT (0 : Int32) (2 : Int32) h0 n0 SB O0 (by decide) (by decide)) hZ w121 w14 (by decide) (by decide)) (g := (mkF m 3 #[.val (.ref ba_), .val (.int (0 : Int32))] [(.int (2 : Int32)), (.int (0 : Int32))])) rfl (by rw [hml]; rfl) (argsL := [(.int (0 : Int32)), (.int (2 : Int32))]) (rest := []) (lenOf own_pd12 rfl) rfl (by show 2 * 0 + _ ≤ _; exact Nat.le_of_eq rfl) (hb hby d22_3) (fun _ _ => ⟨rfl, e0, (by decide : 0 + 0 ≤ _), (by decide : 0 + 0 ≤ _)⟩)
  dsimp only [Pt.U, Pt.locs, Pt.cells, Pt.slots] at X2 l2 y2 z2 st2 hQ2
  subst l2 y2 z2
  obtain ⟨rfl, Nq2, e2⟩ := hQ2
  have N2 := Fr.app N0 Nq2
  refine ogo (S' := T2.setTop (mkF m 6 #[.val (.ref ba_), .val (.int (0 : Int32))] [])) st2 ?_
  refine o_aloadN X2 hx (hb hby d22_6) rfl rfl ?_
  refine o_iloadN X2 hx (hb hby d22_7) rfl ?_
  obtain ⟨cl3, Ar3, q3, S3, N3z, H3, G3⟩ := (id pr0)
  have hi3 := inb_of (j := (0 : Int32)) S3 ⟨by decide, by decide⟩
  have ha3 := Has.at (v := (.int c0_.toInt8.toInt32)) H3 hi3 rfl
  refine ogo (S' := T2.setTop (mkF m 9 #[.val (.ref ba_), .val (.int (0 : Int32))] [(.int c0_.toInt8.toInt32)])) (X2.baloadBytes hx (j := (0 : Int32)) (v := (.int c0_.toInt8.toInt32)) (by rw [e2]; exact Ar3.1) (State.isArrayOf_alike hZ.alike Ar3.2.1) Ar3.2.2 hi3 ha3 (g := (mkF m 8 #[.val (.ref ba_), .val (.int (0 : Int32))] [(.int (0 : Int32)), (.ref ba_)])) rfl rfl (hb hby d22_8)) ?_
  refine o_sipush X2 hx (255 : Int32) (hb hby d22_9) rfl ?_
  refine o_iand X2 hx (hb hby d22_12) ?_
  refine o_i2c X2 hx (hb hby d22_13) ?_
  rw [own_char pr1 pr2]
  refine oend X2 hlk (v := some (.int c0_)) (fun h => by rw [hret] at h; cases h) (fun fs hr => retN X2 hx (t := .char) hret (by simp) (hb hby d22_14) (by rw [(own_narsm pr1 pr2)]; exact hr)) (by decide) (by decide) ?_
  show own_Q_l1c_2_0 Z _ _ _ _ _ _ _ _ _ h0 n0 _ T2.heap _
  rw [e2]
  exact ⟨rfl, N2, rfl⟩
def own_Q_cat_2_0 (Z : State) (s_CHARACTERS : Addr) (s_BYTES : Addr) (s_CHARACTERS_BUT_TRAILING_SPACES : Addr) (z_CS : Int32) (v_FMT : Value) (x_ : Addr) (ba_ : Addr) (kb_ : ClassId) (c0_ : Int32) (c1_ : Int32) (h0 : Heap) (n0 : Nat) (v : Option Value) (h : Heap) (L : List Loc) : Prop := (v = some (.int c0_)) ∧ (Fr n0 L) ∧ (h = h0)
set_option maxRecDepth 65536 in
set_option maxHeartbeats 40000000 in
theorem rm_cat_2_0 (l : Launch) (Z : State) (a0 : Array Value) (hw : ∀ d ∈ tables_1, d.before a0 Z = true) (ws : List Jvm.Cond) (s_CHARACTERS : Addr) (s_BYTES : Addr) (s_CHARACTERS_BUT_TRAILING_SPACES : Addr) (z_CS : Int32) (v_FMT : Value) (x_ : Addr) (ba_ : Addr) (kb_ : ClassId) (c0_ : Int32) (c1_ : Int32) (h0 : Heap) (n0 : Nat) (SB : own_Start Z s_CHARACTERS s_BYTES s_CHARACTERS_BUT_TRAILING_SPACES z_CS v_FMT) (O0 : Old Z n0 h0) (pr0 : Exa Z h0 x_ "java/lang/String") (pr1 : Fld Z h0 x_ "java/lang/String" "coder" "B" (.int (0 : Int32))) (pr2 : Fld Z h0 x_ "java/lang/String" "value" "[B" (.ref ba_)) (pr3 : Arv Z h0 ba_ kb_ .byte (2 : Int32) [(.int c0_.toInt8.toInt32), (.int c1_.toInt8.toInt32)] (.int 0)) (pr4 : ¬ (c0_ < (0 : Int32))) (pr5 : ¬ ((255 : Int32) < c0_)) :
    oMet l Z yM22 jdk_42_method_56_code 2 (some .char) ws ({ frames := 3, cells := 0, slots := 0, locals := 40 } : Room) 0 0 #[(.ref x_), (.int (0 : Int32))] h0 (own_Q_cat_2_0 Z s_CHARACTERS s_BYTES s_CHARACTERS_BUT_TRAILING_SPACES z_CS v_FMT x_ ba_ kb_ c0_ c1_ h0 n0) := by
  refine oenter own_pn2 #[.val (.ref x_), .val (.int (0 : Int32))] (fun m => by first | (simp [entryFrame, mkF, argsToLocals, Value.category]; done) | rfl) ?_
  intro p e s m below meth c s₁ X0 hx hZ hby hml hret hown0 hnm hlk e0
  have hown : s.vm.findClass "java/lang/String" = some m.cls := hown0
  have N0 := Fr.nil n0
  obtain ⟨S_s_CHARACTERS, E_s_CHARACTERS, S_s_BYTES, E_s_BYTES, S_s_CHARACTERS_BUT_TRAILING_SPACES, E_s_CHARACTERS_BUT_TRAILING_SPACES, F_s_CHARACTERS_ordinal, F_s_BYTES_ordinal, F_s_CHARACTERS_BUT_TRAILING_SPACES_ordinal, S_CS, H_CS, S_FMT, R_FMT⟩ := (id SB)
  have w14 := hw _ (List.mem_of_getElem? (i := 14) rfl)
  have w39 := hw _ (List.mem_of_getElem? (i := 39) rfl)
  have w97 := hw _ (List.mem_of_getElem? (i := 97) rfl)
  have w111 := hw _ (List.mem_of_getElem? (i := 111) rfl)
  have w112 := hw _ (List.mem_of_getElem? (i := 112) rfl)
  have w113 := hw _ (List.mem_of_getElem? (i := 113) rfl)
  have w114 := hw _ (List.mem_of_getElem? (i := 114) rfl)
  have w115 := hw _ (List.mem_of_getElem? (i := 115) rfl)
  have w116 := hw _ (List.mem_of_getElem? (i := 116) rfl)
  have w117 := hw _ (List.mem_of_getElem? (i := 117) rfl)
  have w118 := hw _ (List.mem_of_getElem? (i := 118) rfl)
  refine o_aloadN X0 hx (hb hby d23_0) rfl rfl ?_
  obtain ⟨cq1, kq1, q1a, q1b, q1c⟩ := isOf hZ e0 pr0
  obtain ⟨_, _, ⟨T1, L1, kc1, n1⟩, -, X1, ⟨Lc1, hQ1, l1, y1, z1⟩, st1⟩ := X0.virtualBack hx (y := yM18) (z := yM18) hown (mvT hZ w111) (mvT hZ w112) (notFace_of_selects (args := #[]) (mvT hZ w114)) (mvT hZ w114) (mvT hZ w113) (by decide) (backOf (W := 0) (rm_isl1 l Z a0 hw [] s_CHARACTERS s_BYTES s_CHARACTERS_BUT_TRAILING_SPACES z_CS v_FMT x_ h0 n0 SB O0 pr1) hZ w115 w14 (by decide) (by decide)) q1a q1c (g := (mkF m 1 #[.val (.ref x_), .val (.int (0 : Int32))] [(.ref x_)])) rfl (by rw [hml]; rfl) (Steps.refl _) (argsL := []) (rest := []) (lenOf own_pd13 rfl) rfl (by show 2 * 0 + _ ≤ _; exact Nat.le_of_eq rfl) (hb hby d23_1) (fun _ _ => ⟨rfl, e0, (by decide : 0 + 0 ≤ _), (by decide : 0 + 0 ≤ _)⟩)
  dsimp only [Pt.U, Pt.locs, Pt.cells, Pt.slots] at X1 l1 y1 z1 st1 hQ1
  subst l1 y1 z1
  obtain ⟨rfl, Nq1, e1⟩ := hQ1
  have N1 := Fr.app N0 Nq1
  refine otr (S' := T1.setTop (mkF m 4 #[.val (.ref x_), .val (.int (0 : Int32))] [(.int (1 : Int32))])) st1 ?_
  refine o_ifNo X1 hx (hb hby d23_4) (feq (by decide : ¬ ((1 : Int32) = (0 : Int32)))).1 ?_
  refine o_aloadN X1 hx (hb hby d23_7) rfl rfl ?_
  obtain ⟨T2, X2, e2, st2⟩ := getF X1 hx hZ hown (host := "") (Or.inl w39) Via.refl e1 pr2 (g := (mkF m 8 #[.val (.ref x_), .val (.int (0 : Int32))] [(.ref x_)])) rfl rfl (hb hby d23_8)
  refine ogo (S' := T2.setTop (mkF m 11 #[.val (.ref x_), .val (.int (0 : Int32))] [(.ref ba_)])) st2 ?_
  refine o_iloadN X2 hx (hb hby d23_11) rfl ?_
  obtain ⟨_, _, ⟨T3, L3, kc3, n3⟩, -, X3, ⟨Lc3, hQ3, l3, y3, z3⟩, st3⟩ := Jvm.LawKit.callS X2 hx (y := yM21) hown (mvT hZ w116) (mvT hZ w117) (mvT hZ w97) (mvT hZ w118) (by decide) (backOf (W := 0) (rm_l1c_2_0 l Z a0 hw [] s_CHARACTERS s_BYTES s_CHARACTERS_BUT_TRAILING_SPACES z_CS v_FMT ba_ kb_ c0_ c1_ h0 n0 SB O0 pr3 pr4 pr5) hZ w118 w97 (by decide) (by decide)) (g := (mkF m 12 #[.val (.ref x_), .val (.int (0 : Int32))] [(.int (0 : Int32)), (.ref ba_)])) rfl (by rw [hml]; rfl) (argsL := [(.ref ba_), (.int (0 : Int32))]) (rest := []) (lenOf own_pd14 rfl) rfl (by show 2 * 0 + _ ≤ _; exact Nat.le_of_eq rfl) (hb hby d23_12) (fun _ _ => ⟨rfl, e2, (by decide : 0 + 0 ≤ _), (by decide : 0 + 0 ≤ _)⟩)
  dsimp only [Pt.U, Pt.locs, Pt.cells, Pt.slots] at X3 l3 y3 z3 st3 hQ3
  subst l3 y3 z3
  obtain ⟨rfl, Nq3, e3⟩ := hQ3
  have N3 := Fr.app N1 Nq3
  refine ogo (S' := T3.setTop (mkF m 15 #[.val (.ref x_), .val (.int (0 : Int32))] [(.int c0_)])) st3 ?_
  refine oend X3 hlk (v := some (.int c0_)) (fun h => by rw [hret] at h; cases h) (fun fs hr => retN X3 hx (t := .char) hret (by simp) (hb hby d23_15) (by rw [(own_narsm pr4 pr5)]; exact hr)) (by decide) (by decide) ?_
  show own_Q_cat_2_0 Z _ _ _ _ _ _ _ _ _ _ h0 n0 _ T3.heap _
  rw [e3]
  exact ⟨rfl, N3, rfl⟩
def own_Q_l1c_2_1 (Z : State) (s_CHARACTERS : Addr) (s_BYTES : Addr) (s_CHARACTERS_BUT_TRAILING_SPACES : Addr) (z_CS : Int32) (v_FMT : Value) (ba_ : Addr) (kb_ : ClassId) (c0_ : Int32) (c1_ : Int32) (h0 : Heap) (n0 : Nat) (v : Option Value) (h : Heap) (L : List Loc) : Prop := (v = some (.int c1_)) ∧ (Fr n0 L) ∧ (h = h0)
set_option maxRecDepth 65536 in
set_option maxHeartbeats 40000000 in
theorem rm_l1c_2_1 (l : Launch) (Z : State) (a0 : Array Value) (hw : ∀ d ∈ tables_1, d.before a0 Z = true) (ws : List Jvm.Cond) (s_CHARACTERS : Addr) (s_BYTES : Addr) (s_CHARACTERS_BUT_TRAILING_SPACES : Addr) (z_CS : Int32) (v_FMT : Value) (ba_ : Addr) (kb_ : ClassId) (c0_ : Int32) (c1_ : Int32) (h0 : Heap) (n0 : Nat) (SB : own_Start Z s_CHARACTERS s_BYTES s_CHARACTERS_BUT_TRAILING_SPACES z_CS v_FMT) (O0 : Old Z n0 h0) (pr0 : Arv Z h0 ba_ kb_ .byte (2 : Int32) [(.int c0_.toInt8.toInt32), (.int c1_.toInt8.toInt32)] (.int 0)) (pr1 : ¬ (c1_ < (0 : Int32))) (pr2 : ¬ ((255 : Int32) < c1_)) :
    oMet l Z yM21 jdk_43_method_2_code 2 (some .char) ws ({ frames := 2, cells := 0, slots := 0, locals := 27 } : Room) 0 0 #[(.ref ba_), (.int (1 : Int32))] h0 (own_Q_l1c_2_1 Z s_CHARACTERS s_BYTES s_CHARACTERS_BUT_TRAILING_SPACES z_CS v_FMT ba_ kb_ c0_ c1_ h0 n0) := by
  refine oenter own_pn1 #[.val (.ref ba_), .val (.int (1 : Int32))] (fun m => by first | (simp [entryFrame, mkF, argsToLocals, Value.category]; done) | rfl) ?_
  intro p e s m below meth c s₁ X0 hx hZ hby hml hret hown0 hnm hlk e0
  have hown : s.vm.findClass "java/lang/StringLatin1" = some m.cls := hown0
  have N0 := Fr.nil n0
  obtain ⟨S_s_CHARACTERS, E_s_CHARACTERS, S_s_BYTES, E_s_BYTES, S_s_CHARACTERS_BUT_TRAILING_SPACES, E_s_CHARACTERS_BUT_TRAILING_SPACES, F_s_CHARACTERS_ordinal, F_s_BYTES_ordinal, F_s_CHARACTERS_BUT_TRAILING_SPACES_ordinal, S_CS, H_CS, S_FMT, R_FMT⟩ := (id SB)
  have w14 := hw _ (List.mem_of_getElem? (i := 14) rfl)
  have w119 := hw _ (List.mem_of_getElem? (i := 119) rfl)
  have w120 := hw _ (List.mem_of_getElem? (i := 120) rfl)
  have w121 := hw _ (List.mem_of_getElem? (i := 121) rfl)
  refine o_iloadN X0 hx (hb hby d22_0) rfl ?_
  refine o_aloadN X0 hx (hb hby d22_1) rfl rfl ?_
  obtain ⟨cl1, Ar1, -, S1, N1z, -, -⟩ := (id pr0)
  refine ogo (S' := s₁.setTop (mkF m 3 #[.val (.ref ba_), .val (.int (1 : Int32))] [(.int (2 : Int32)), (.int (1 : Int32))])) (fun _ kt_ => X0.arraylength hx (by rw [e0]; exact Ar1.1) (State.isArrayOf_alike hZ.alike Ar1.2.1) (g := (mkF m 2 #[.val (.ref ba_), .val (.int (1 : Int32))] [(.ref ba_), (.int (1 : Int32))])) rfl rfl (hb hby d22_2) _ (by rw [len_of S1 N1z]; exact kt_)) ?_
  obtain ⟨_, _, ⟨T2, L2, kc2, n2⟩, -, X2, ⟨Lc2, hQ2, l2, y2, z2⟩, st2⟩ := Jvm.LawKit.callS X0 hx (y := yM20) hown (mvT hZ w119) (mvT hZ w120) (mvT hZ w14) (mvT hZ w121) (by decide) (backOf (W := 0) (rm_sci l Z a0 hw [] s_CHARACTERS s_BYTES s_CHARACTERS_BUT_TRAILING_SPACES z_CS v_FMT (1 : Int32) (2 : Int32) h0 n0 SB O0 (by decide) (by decide)) hZ w121 w14 (by decide) (by decide)) (g := (mkF m 3 #[.val (.ref ba_), .val (.int (1 : Int32))] [(.int (2 : Int32)), (.int (1 : Int32))])) rfl (by rw [hml]; rfl) (argsL := [(.int (1 : Int32)), (.int (2 : Int32))]) (rest := []) (lenOf own_pd12 rfl) rfl (by show 2 * 0 + _ ≤ _; exact Nat.le_of_eq rfl) (hb hby d22_3) (fun _ _ => ⟨rfl, e0, (by decide : 0 + 0 ≤ _), (by decide : 0 + 0 ≤ _)⟩)
  dsimp only [Pt.U, Pt.locs, Pt.cells, Pt.slots] at X2 l2 y2 z2 st2 hQ2
  subst l2 y2 z2
  obtain ⟨rfl, Nq2, e2⟩ := hQ2
  have N2 := Fr.app N0 Nq2
  refine ogo (S' := T2.setTop (mkF m 6 #[.val (.ref ba_), .val (.int (1 : Int32))] [])) st2 ?_
  refine o_aloadN X2 hx (hb hby d22_6) rfl rfl ?_
  refine o_iloadN X2 hx (hb hby d22_7) rfl ?_
  obtain ⟨cl3, Ar3, q3, S3, N3z, H3, G3⟩ := (id pr0)
  have hi3 := inb_of (j := (1 : Int32)) S3 ⟨by decide, by decide⟩
  have ha3 := Has.at (v := (.int c1_.toInt8.toInt32)) H3 hi3 rfl
  refine ogo (S' := T2.setTop (mkF m 9 #[.val (.ref ba_), .val (.int (1 : Int32))] [(.int c1_.toInt8.toInt32)])) (X2.baloadBytes hx (j := (1 : Int32)) (v := (.int c1_.toInt8.toInt32)) (by rw [e2]; exact Ar3.1) (State.isArrayOf_alike hZ.alike Ar3.2.1) Ar3.2.2 hi3 ha3 (g := (mkF m 8 #[.val (.ref ba_), .val (.int (1 : Int32))] [(.int (1 : Int32)), (.ref ba_)])) rfl rfl (hb hby d22_8)) ?_
  refine o_sipush X2 hx (255 : Int32) (hb hby d22_9) rfl ?_
  refine o_iand X2 hx (hb hby d22_12) ?_
  refine o_i2c X2 hx (hb hby d22_13) ?_
  rw [own_char pr1 pr2]
  refine oend X2 hlk (v := some (.int c1_)) (fun h => by rw [hret] at h; cases h) (fun fs hr => retN X2 hx (t := .char) hret (by simp) (hb hby d22_14) (by rw [(own_narsm pr1 pr2)]; exact hr)) (by decide) (by decide) ?_
  show own_Q_l1c_2_1 Z _ _ _ _ _ _ _ _ _ h0 n0 _ T2.heap _
  rw [e2]
  exact ⟨rfl, N2, rfl⟩
def own_Q_cat_2_1 (Z : State) (s_CHARACTERS : Addr) (s_BYTES : Addr) (s_CHARACTERS_BUT_TRAILING_SPACES : Addr) (z_CS : Int32) (v_FMT : Value) (x_ : Addr) (ba_ : Addr) (kb_ : ClassId) (c0_ : Int32) (c1_ : Int32) (h0 : Heap) (n0 : Nat) (v : Option Value) (h : Heap) (L : List Loc) : Prop := (v = some (.int c1_)) ∧ (Fr n0 L) ∧ (h = h0)
set_option maxRecDepth 65536 in
set_option maxHeartbeats 40000000 in
theorem rm_cat_2_1 (l : Launch) (Z : State) (a0 : Array Value) (hw : ∀ d ∈ tables_1, d.before a0 Z = true) (ws : List Jvm.Cond) (s_CHARACTERS : Addr) (s_BYTES : Addr) (s_CHARACTERS_BUT_TRAILING_SPACES : Addr) (z_CS : Int32) (v_FMT : Value) (x_ : Addr) (ba_ : Addr) (kb_ : ClassId) (c0_ : Int32) (c1_ : Int32) (h0 : Heap) (n0 : Nat) (SB : own_Start Z s_CHARACTERS s_BYTES s_CHARACTERS_BUT_TRAILING_SPACES z_CS v_FMT) (O0 : Old Z n0 h0) (pr0 : Exa Z h0 x_ "java/lang/String") (pr1 : Fld Z h0 x_ "java/lang/String" "coder" "B" (.int (0 : Int32))) (pr2 : Fld Z h0 x_ "java/lang/String" "value" "[B" (.ref ba_)) (pr3 : Arv Z h0 ba_ kb_ .byte (2 : Int32) [(.int c0_.toInt8.toInt32), (.int c1_.toInt8.toInt32)] (.int 0)) (pr4 : ¬ (c1_ < (0 : Int32))) (pr5 : ¬ ((255 : Int32) < c1_)) :
    oMet l Z yM22 jdk_42_method_56_code 2 (some .char) ws ({ frames := 3, cells := 0, slots := 0, locals := 40 } : Room) 0 0 #[(.ref x_), (.int (1 : Int32))] h0 (own_Q_cat_2_1 Z s_CHARACTERS s_BYTES s_CHARACTERS_BUT_TRAILING_SPACES z_CS v_FMT x_ ba_ kb_ c0_ c1_ h0 n0) := by
  refine oenter own_pn2 #[.val (.ref x_), .val (.int (1 : Int32))] (fun m => by first | (simp [entryFrame, mkF, argsToLocals, Value.category]; done) | rfl) ?_
  intro p e s m below meth c s₁ X0 hx hZ hby hml hret hown0 hnm hlk e0
  have hown : s.vm.findClass "java/lang/String" = some m.cls := hown0
  have N0 := Fr.nil n0
  obtain ⟨S_s_CHARACTERS, E_s_CHARACTERS, S_s_BYTES, E_s_BYTES, S_s_CHARACTERS_BUT_TRAILING_SPACES, E_s_CHARACTERS_BUT_TRAILING_SPACES, F_s_CHARACTERS_ordinal, F_s_BYTES_ordinal, F_s_CHARACTERS_BUT_TRAILING_SPACES_ordinal, S_CS, H_CS, S_FMT, R_FMT⟩ := (id SB)
  have w14 := hw _ (List.mem_of_getElem? (i := 14) rfl)
  have w39 := hw _ (List.mem_of_getElem? (i := 39) rfl)
  have w97 := hw _ (List.mem_of_getElem? (i := 97) rfl)
  have w111 := hw _ (List.mem_of_getElem? (i := 111) rfl)
  have w112 := hw _ (List.mem_of_getElem? (i := 112) rfl)
  have w113 := hw _ (List.mem_of_getElem? (i := 113) rfl)
  have w114 := hw _ (List.mem_of_getElem? (i := 114) rfl)
  have w115 := hw _ (List.mem_of_getElem? (i := 115) rfl)
  have w116 := hw _ (List.mem_of_getElem? (i := 116) rfl)
  have w117 := hw _ (List.mem_of_getElem? (i := 117) rfl)
  have w118 := hw _ (List.mem_of_getElem? (i := 118) rfl)
  refine o_aloadN X0 hx (hb hby d23_0) rfl rfl ?_
  obtain ⟨cq1, kq1, q1a, q1b, q1c⟩ := isOf hZ e0 pr0
  obtain ⟨_, _, ⟨T1, L1, kc1, n1⟩, -, X1, ⟨Lc1, hQ1, l1, y1, z1⟩, st1⟩ := X0.virtualBack hx (y := yM18) (z := yM18) hown (mvT hZ w111) (mvT hZ w112) (notFace_of_selects (args := #[]) (mvT hZ w114)) (mvT hZ w114) (mvT hZ w113) (by decide) (backOf (W := 0) (rm_isl1 l Z a0 hw [] s_CHARACTERS s_BYTES s_CHARACTERS_BUT_TRAILING_SPACES z_CS v_FMT x_ h0 n0 SB O0 pr1) hZ w115 w14 (by decide) (by decide)) q1a q1c (g := (mkF m 1 #[.val (.ref x_), .val (.int (1 : Int32))] [(.ref x_)])) rfl (by rw [hml]; rfl) (Steps.refl _) (argsL := []) (rest := []) (lenOf own_pd13 rfl) rfl (by show 2 * 0 + _ ≤ _; exact Nat.le_of_eq rfl) (hb hby d23_1) (fun _ _ => ⟨rfl, e0, (by decide : 0 + 0 ≤ _), (by decide : 0 + 0 ≤ _)⟩)
  dsimp only [Pt.U, Pt.locs, Pt.cells, Pt.slots] at X1 l1 y1 z1 st1 hQ1
  subst l1 y1 z1
  obtain ⟨rfl, Nq1, e1⟩ := hQ1
  have N1 := Fr.app N0 Nq1
  refine otr (S' := T1.setTop (mkF m 4 #[.val (.ref x_), .val (.int (1 : Int32))] [(.int (1 : Int32))])) st1 ?_
  refine o_ifNo X1 hx (hb hby d23_4) (feq (by decide : ¬ ((1 : Int32) = (0 : Int32)))).1 ?_
  refine o_aloadN X1 hx (hb hby d23_7) rfl rfl ?_
  obtain ⟨T2, X2, e2, st2⟩ := getF X1 hx hZ hown (host := "") (Or.inl w39) Via.refl e1 pr2 (g := (mkF m 8 #[.val (.ref x_), .val (.int (1 : Int32))] [(.ref x_)])) rfl rfl (hb hby d23_8)
  refine ogo (S' := T2.setTop (mkF m 11 #[.val (.ref x_), .val (.int (1 : Int32))] [(.ref ba_)])) st2 ?_
  refine o_iloadN X2 hx (hb hby d23_11) rfl ?_
  obtain ⟨_, _, ⟨T3, L3, kc3, n3⟩, -, X3, ⟨Lc3, hQ3, l3, y3, z3⟩, st3⟩ := Jvm.LawKit.callS X2 hx (y := yM21) hown (mvT hZ w116) (mvT hZ w117) (mvT hZ w97) (mvT hZ w118) (by decide) (backOf (W := 0) (rm_l1c_2_1 l Z a0 hw [] s_CHARACTERS s_BYTES s_CHARACTERS_BUT_TRAILING_SPACES z_CS v_FMT ba_ kb_ c0_ c1_ h0 n0 SB O0 pr3 pr4 pr5) hZ w118 w97 (by decide) (by decide)) (g := (mkF m 12 #[.val (.ref x_), .val (.int (1 : Int32))] [(.int (1 : Int32)), (.ref ba_)])) rfl (by rw [hml]; rfl) (argsL := [(.ref ba_), (.int (1 : Int32))]) (rest := []) (lenOf own_pd14 rfl) rfl (by show 2 * 0 + _ ≤ _; exact Nat.le_of_eq rfl) (hb hby d23_12) (fun _ _ => ⟨rfl, e2, (by decide : 0 + 0 ≤ _), (by decide : 0 + 0 ≤ _)⟩)
  dsimp only [Pt.U, Pt.locs, Pt.cells, Pt.slots] at X3 l3 y3 z3 st3 hQ3
  subst l3 y3 z3
  obtain ⟨rfl, Nq3, e3⟩ := hQ3
  have N3 := Fr.app N1 Nq3
  refine ogo (S' := T3.setTop (mkF m 15 #[.val (.ref x_), .val (.int (1 : Int32))] [(.int c1_)])) st3 ?_
  refine oend X3 hlk (v := some (.int c1_)) (fun h => by rw [hret] at h; cases h) (fun fs hr => retN X3 hx (t := .char) hret (by simp) (hb hby d23_15) (by rw [(own_narsm pr4 pr5)]; exact hr)) (by decide) (by decide) ?_
  show own_Q_cat_2_1 Z _ _ _ _ _ _ _ _ _ _ h0 n0 _ T3.heap _
  rw [e3]
  exact ⟨rfl, N3, rfl⟩
def own_Q_of_trail_2 (Z : State) (s_CHARACTERS : Addr) (s_BYTES : Addr) (s_CHARACTERS_BUT_TRAILING_SPACES : Addr) (z_CS : Int32) (v_FMT : Value) (t_ : Addr) (x_ : Addr) (ba_ : Addr) (kb_ : ClassId) (c0_ : Int32) (c1_ : Int32) (h0 : Heap) (n0 : Nat) (v : Option Value) (h : Heap) (L : List Loc) : Prop := (v = some (.long (own_tr2 c0_ c1_).toInt64)) ∧ (Fr n0 L) ∧ (h = h0)
set_option maxRecDepth 65536 in
set_option maxHeartbeats 40000000 in
theorem rm_of_trail_2 (l : Launch) (Z : State) (a0 : Array Value) (hw : ∀ d ∈ tables_1, d.before a0 Z = true) (ws : List Jvm.Cond) (s_CHARACTERS : Addr) (s_BYTES : Addr) (s_CHARACTERS_BUT_TRAILING_SPACES : Addr) (z_CS : Int32) (v_FMT : Value) (t_ : Addr) (x_ : Addr) (ba_ : Addr) (kb_ : ClassId) (c0_ : Int32) (c1_ : Int32) (h0 : Heap) (n0 : Nat) (SB : own_Start Z s_CHARACTERS s_BYTES s_CHARACTERS_BUT_TRAILING_SPACES z_CS v_FMT) (O0 : Old Z n0 h0) (pr0 : Fld Z h0 t_ "com/example/upshot/upshot/ColumnCatalog$Length" "unit" "Lcom/example/upshot/upshot/ColumnCatalog$Length$Unit;" (.ref s_CHARACTERS_BUT_TRAILING_SPACES)) (pr1 : Exa Z h0 x_ "java/lang/String") (pr2 : Fld Z h0 x_ "java/lang/String" "coder" "B" (.int (0 : Int32))) (pr3 : Fld Z h0 x_ "java/lang/String" "value" "[B" (.ref ba_)) (pr4 : Arv Z h0 ba_ kb_ .byte (2 : Int32) [(.int c0_.toInt8.toInt32), (.int c1_.toInt8.toInt32)] (.int 0)) (pr5 : ¬ (c0_ < (0 : Int32))) (pr6 : ¬ (c1_ < (0 : Int32))) (pr7 : ¬ ((255 : Int32) < c0_)) (pr8 : ¬ ((255 : Int32) < c1_)) :
    oMet l Z yM15 prog_3_method_5_code 6 (some .long) ws ({ frames := 4, cells := 0, slots := 0, locals := 53 } : Room) 0 0 #[(.ref t_), (.ref x_)] h0 (own_Q_of_trail_2 Z s_CHARACTERS s_BYTES s_CHARACTERS_BUT_TRAILING_SPACES z_CS v_FMT t_ x_ ba_ kb_ c0_ c1_ h0 n0) := by
  refine oenter own_pn4 #[.val (.ref t_), .val (.ref x_), .unset, .unset, .unset, .unset] (fun m => by first | (simp [entryFrame, mkF, argsToLocals, Value.category]; done) | rfl) ?_
  intro p e s m below meth c s₁ X0 hx hZ hby hml hret hown0 hnm hlk e0
  have hown : s.vm.findClass "com/example/upshot/upshot/ColumnCatalog$Length" = some m.cls := hown0
  have N0 := Fr.nil n0
  obtain ⟨S_s_CHARACTERS, E_s_CHARACTERS, S_s_BYTES, E_s_BYTES, S_s_CHARACTERS_BUT_TRAILING_SPACES, E_s_CHARACTERS_BUT_TRAILING_SPACES, F_s_CHARACTERS_ordinal, F_s_BYTES_ordinal, F_s_CHARACTERS_BUT_TRAILING_SPACES_ordinal, S_CS, H_CS, S_FMT, R_FMT⟩ := (id SB)
  have w14 := hw _ (List.mem_of_getElem? (i := 14) rfl)
  have w48 := hw _ (List.mem_of_getElem? (i := 48) rfl)
  have w57 := hw _ (List.mem_of_getElem? (i := 57) rfl)
  have w59 := hw _ (List.mem_of_getElem? (i := 59) rfl)
  have w61 := hw _ (List.mem_of_getElem? (i := 61) rfl)
  have w62 := hw _ (List.mem_of_getElem? (i := 62) rfl)
  have w63 := hw _ (List.mem_of_getElem? (i := 63) rfl)
  have w64 := hw _ (List.mem_of_getElem? (i := 64) rfl)
  have w65 := hw _ (List.mem_of_getElem? (i := 65) rfl)
  have w66 := hw _ (List.mem_of_getElem? (i := 66) rfl)
  have w106 := hw _ (List.mem_of_getElem? (i := 106) rfl)
  have w107 := hw _ (List.mem_of_getElem? (i := 107) rfl)
  have w108 := hw _ (List.mem_of_getElem? (i := 108) rfl)
  have w109 := hw _ (List.mem_of_getElem? (i := 109) rfl)
  have w110 := hw _ (List.mem_of_getElem? (i := 110) rfl)
  refine o_aloadN X0 hx (hb hby d16_0) rfl rfl ?_
  obtain ⟨T1, X1, e1, st1⟩ := getF X0 hx hZ hown (host := "") (Or.inl w48) Via.refl e0 pr0 (g := (mkF m 1 #[.val (.ref t_), .val (.ref x_), .unset, .unset, .unset, .unset] [(.ref t_)])) rfl rfl (hb hby d16_1)
  refine ogo (S' := T1.setTop (mkF m 4 #[.val (.ref t_), .val (.ref x_), .unset, .unset, .unset, .unset] [(.ref s_CHARACTERS_BUT_TRAILING_SPACES)])) st1 ?_
  obtain ⟨T2, X2, e2, st2⟩ := getS2 X1 hx hZ hown (host := "") (Or.inl w57) Via.refl e1 (Sta.ext O0.2 S_s_BYTES) (g := (mkF m 4 #[.val (.ref t_), .val (.ref x_), .unset, .unset, .unset, .unset] [(.ref s_CHARACTERS_BUT_TRAILING_SPACES)])) rfl (hb hby d16_4)
  refine ogo (S' := T2.setTop (mkF m 7 #[.val (.ref t_), .val (.ref x_), .unset, .unset, .unset, .unset] [(.ref s_BYTES), (.ref s_CHARACTERS_BUT_TRAILING_SPACES)])) st2 ?_
  refine o_acmp X2 hx 20 false rfl rfl (hb hby d16_7) (decide_eq_false fun q => (Fld.ne F_s_CHARACTERS_BUT_TRAILING_SPACES_ordinal F_s_BYTES_ordinal (by decide)) (Value.ref.inj q)) (by decide) (by decide) ?_
  refine o_aloadN X2 hx (hb hby d16_20) rfl rfl ?_
  obtain ⟨T3, X3, e3, st3⟩ := getF X2 hx hZ hown (host := "") (Or.inl w48) Via.refl e2 pr0 (g := (mkF m 21 #[.val (.ref t_), .val (.ref x_), .unset, .unset, .unset, .unset] [(.ref t_)])) rfl rfl (hb hby d16_21)
  refine ogo (S' := T3.setTop (mkF m 24 #[.val (.ref t_), .val (.ref x_), .unset, .unset, .unset, .unset] [(.ref s_CHARACTERS_BUT_TRAILING_SPACES)])) st3 ?_
  obtain ⟨T4, X4, e4, st4⟩ := getS2 X3 hx hZ hown (host := "") (Or.inl w59) Via.refl e3 (Sta.ext O0.2 S_s_CHARACTERS_BUT_TRAILING_SPACES) (g := (mkF m 24 #[.val (.ref t_), .val (.ref x_), .unset, .unset, .unset, .unset] [(.ref s_CHARACTERS_BUT_TRAILING_SPACES)])) rfl (hb hby d16_24)
  refine ogo (S' := T4.setTop (mkF m 27 #[.val (.ref t_), .val (.ref x_), .unset, .unset, .unset, .unset] [(.ref s_CHARACTERS_BUT_TRAILING_SPACES), (.ref s_CHARACTERS_BUT_TRAILING_SPACES)])) st4 ?_
  refine o_acmp X4 hx 30 true rfl rfl (hb hby d16_27) (decide_eq_true rfl) (by decide) (by decide) ?_
  refine o_aloadN X4 hx (hb hby d16_30) rfl rfl ?_
  obtain ⟨T5, X5, e5, st5⟩ := castY X4 hx hZ hown w61 e4 (Ins.self pr1) (g := (mkF m 31 #[.val (.ref t_), .val (.ref x_), .unset, .unset, .unset, .unset] [(.ref x_)])) rfl rfl (hb hby d16_31)
  refine ogo (S' := T5.setTop (mkF m 34 #[.val (.ref t_), .val (.ref x_), .unset, .unset, .unset, .unset] [(.ref x_)])) st5 ?_
  refine o_astore X5 hx (l' := #[.val (.ref t_), .val (.ref x_), .unset, .unset, .val (.ref x_), .unset]) (hb hby d16_34) rfl rfl ?_
  refine o_aload X5 hx (hb hby d16_36) rfl rfl ?_
  obtain ⟨cq6, kq6, q6a, q6b, q6c⟩ := isOf hZ e5 pr1
  obtain ⟨_, _, ⟨T6, L6, kc6, n6⟩, -, X6, ⟨Lc6, hQ6, l6, y6, z6⟩, st6⟩ := X5.virtualBack hx (y := yM17) (z := yM17) hown (mvT hZ w62) (mvT hZ w63) (notFace_of_selects (args := #[]) (mvT hZ w65)) (mvT hZ w65) (mvT hZ w64) (by decide) (backOf (W := 0) (rm_len_2 l Z a0 hw [] s_CHARACTERS s_BYTES s_CHARACTERS_BUT_TRAILING_SPACES z_CS v_FMT x_ ba_ kb_ [(.int c0_.toInt8.toInt32), (.int c1_.toInt8.toInt32)] h0 n0 SB O0 pr1 pr2 pr3 pr4) hZ w66 w14 (by decide) (by decide)) q6a q6c (g := (mkF m 38 #[.val (.ref t_), .val (.ref x_), .unset, .unset, .val (.ref x_), .unset] [(.ref x_)])) rfl (by rw [hml]; rfl) (Steps.refl _) (argsL := []) (rest := []) (lenOf own_pd10 rfl) rfl (by show 2 * 0 + _ ≤ _; exact Nat.le_of_eq rfl) (hb hby d16_38) (fun _ _ => ⟨rfl, e5, (by decide : 0 + 0 ≤ _), (by decide : 0 + 0 ≤ _)⟩)
  dsimp only [Pt.U, Pt.locs, Pt.cells, Pt.slots] at X6 l6 y6 z6 st6 hQ6
  subst l6 y6 z6
  obtain ⟨rfl, Nq6, e6⟩ := hQ6
  have N6 := Fr.app N0 Nq6
  refine otr (S' := T6.setTop (mkF m 41 #[.val (.ref t_), .val (.ref x_), .unset, .unset, .val (.ref x_), .unset] [(.int (2 : Int32))])) st6 ?_
  refine o_istore X6 hx (l' := #[.val (.ref t_), .val (.ref x_), .unset, .unset, .val (.ref x_), .val (.int (2 : Int32))]) (hb hby d16_41) rfl ?_
  refine o_iload X6 hx (hb hby d16_43) rfl ?_
  refine o_ifNo X6 hx (hb hby d16_45) (tlt (by decide : (0 : Int32) < (2 : Int32))).2.2.2 ?_
  refine o_aload X6 hx (hb hby d16_48) rfl rfl ?_
  refine o_iload X6 hx (hb hby d16_50) rfl ?_
  refine o_iconst X6 hx (1 : Int32) (hb hby d16_52) rfl ?_
  refine o_isub X6 hx (hb hby d16_53) ?_
  obtain ⟨cq7, kq7, q7a, q7b, q7c⟩ := isOf hZ e6 pr1
  obtain ⟨_, _, ⟨T7, L7, kc7, n7⟩, -, X7, ⟨Lc7, hQ7, l7, y7, z7⟩, st7⟩ := X6.virtualBack hx (y := yM22) (z := yM22) hown (mvT hZ w106) (mvT hZ w107) (notFace_of_selects (args := #[]) (mvT hZ w109)) (mvT hZ w109) (mvT hZ w108) (by decide) (backOf (W := 0) (rm_cat_2_1 l Z a0 hw [] s_CHARACTERS s_BYTES s_CHARACTERS_BUT_TRAILING_SPACES z_CS v_FMT x_ ba_ kb_ c0_ c1_ h0 n0 SB O0 pr1 pr2 pr3 pr4 pr6 pr8) hZ w110 w14 (by decide) (by decide)) q7a q7c (g := (mkF m 54 #[.val (.ref t_), .val (.ref x_), .unset, .unset, .val (.ref x_), .val (.int (2 : Int32))] [(.int (1 : Int32)), (.ref x_)])) rfl (by rw [hml]; rfl) (Steps.refl _) (argsL := [(.int (1 : Int32))]) (rest := []) (lenOf own_pd15 rfl) rfl (by show 2 * 0 + _ ≤ _; exact Nat.le_of_eq rfl) (hb hby d16_54) (fun _ _ => ⟨rfl, e6, (by decide : 0 + 0 ≤ _), (by decide : 0 + 0 ≤ _)⟩)
  dsimp only [Pt.U, Pt.locs, Pt.cells, Pt.slots] at X7 l7 y7 z7 st7 hQ7
  subst l7 y7 z7
  obtain ⟨rfl, Nq7, e7⟩ := hQ7
  have N7 := Fr.app N6 Nq7
  refine otr (S' := T7.setTop (mkF m 57 #[.val (.ref t_), .val (.ref x_), .unset, .unset, .val (.ref x_), .val (.int (2 : Int32))] [(.int c1_)])) st7 ?_
  refine o_bipush X7 hx (32 : Int32) (hb hby d16_57) rfl ?_
  by_cases hc8 : c1_ = (32 : Int32)
  · refine o_icmpNo X7 hx (hb hby d16_59) (teq hc8).2 ?_
    refine o_iinc X7 hx (l' := #[.val (.ref t_), .val (.ref x_), .unset, .unset, .val (.ref x_), .val (.int (1 : Int32))]) (hb hby d16_62) rfl rfl ?_
    refine o_goto X7 hx 43 (hb hby d16_65) (by decide) (by decide) ?_
    refine o_iload X7 hx (hb hby d16_43) rfl ?_
    refine o_ifNo X7 hx (hb hby d16_45) (tlt (by decide : (0 : Int32) < (1 : Int32))).2.2.2 ?_
    refine o_aload X7 hx (hb hby d16_48) rfl rfl ?_
    refine o_iload X7 hx (hb hby d16_50) rfl ?_
    refine o_iconst X7 hx (1 : Int32) (hb hby d16_52) rfl ?_
    refine o_isub X7 hx (hb hby d16_53) ?_
    obtain ⟨cq9, kq9, q9a, q9b, q9c⟩ := isOf hZ e7 pr1
    obtain ⟨_, _, ⟨T9, L9, kc9, n9⟩, -, X9, ⟨Lc9, hQ9, l9, y9, z9⟩, st9⟩ := X7.virtualBack hx (y := yM22) (z := yM22) hown (mvT hZ w106) (mvT hZ w107) (notFace_of_selects (args := #[]) (mvT hZ w109)) (mvT hZ w109) (mvT hZ w108) (by decide) (backOf (W := 0) (rm_cat_2_0 l Z a0 hw [] s_CHARACTERS s_BYTES s_CHARACTERS_BUT_TRAILING_SPACES z_CS v_FMT x_ ba_ kb_ c0_ c1_ h0 n0 SB O0 pr1 pr2 pr3 pr4 pr5 pr7) hZ w110 w14 (by decide) (by decide)) q9a q9c (g := (mkF m 54 #[.val (.ref t_), .val (.ref x_), .unset, .unset, .val (.ref x_), .val (.int (1 : Int32))] [(.int (0 : Int32)), (.ref x_)])) rfl (by rw [hml]; rfl) (Steps.refl _) (argsL := [(.int (0 : Int32))]) (rest := []) (lenOf own_pd15 rfl) rfl (by show 2 * 0 + _ ≤ _; exact Nat.le_of_eq rfl) (hb hby d16_54) (fun _ _ => ⟨rfl, e7, (by decide : 0 + 0 ≤ _), (by decide : 0 + 0 ≤ _)⟩)
    dsimp only [Pt.U, Pt.locs, Pt.cells, Pt.slots] at X9 l9 y9 z9 st9 hQ9
    subst l9 y9 z9
    obtain ⟨rfl, Nq9, e9⟩ := hQ9
    have N9 := Fr.app N7 Nq9
    refine otr (S' := T9.setTop (mkF m 57 #[.val (.ref t_), .val (.ref x_), .unset, .unset, .val (.ref x_), .val (.int (1 : Int32))] [(.int c0_)])) st9 ?_
    refine o_bipush X9 hx (32 : Int32) (hb hby d16_57) rfl ?_
    by_cases hc10 : c0_ = (32 : Int32)
    · refine o_icmpNo X9 hx (hb hby d16_59) (teq hc10).2 ?_
      refine o_iinc X9 hx (l' := #[.val (.ref t_), .val (.ref x_), .unset, .unset, .val (.ref x_), .val (.int (0 : Int32))]) (hb hby d16_62) rfl rfl ?_
      refine o_goto X9 hx 43 (hb hby d16_65) (by decide) (by decide) ?_
      refine o_iload X9 hx (hb hby d16_43) rfl ?_
      refine o_ifYes X9 hx 68 (hb hby d16_45) (flt (by decide : ¬ ((0 : Int32) < (0 : Int32)))).2.2.2 (by decide) (by decide) ?_
      refine o_iload X9 hx (hb hby d16_68) rfl ?_
      refine o_i2l X9 hx (hb hby d16_70) ?_
      refine o_lstoreN X9 hx (l' := #[.val (.ref t_), .val (.ref x_), .val (.long (0 : Int64)), .second, .val (.ref x_), .val (.int (0 : Int32))]) (hb hby d16_71) rfl ?_
      refine o_goto X9 hx 84 (hb hby d16_72) (by decide) (by decide) ?_
      refine o_lloadN X9 hx (hb hby d16_84) rfl ?_
      refine oend X9 hlk (v := some (.long (0 : Int64))) (fun h => by rw [hret] at h; cases h) (fun fs hr => retOut X9 hx (t := .long) (i := .lreturn) hret rfl (Or.inr (Or.inl ⟨rfl, rfl, _, rfl⟩)) (hb hby d16_85) hr) (by decide) (by decide) ?_
      show own_Q_of_trail_2 Z _ _ _ _ _ _ _ _ _ _ _ h0 n0 _ T9.heap _
      rw [e9]
      refine ⟨?_, N9, rfl⟩
      simp [own_tr0, own_tr1, own_tr2, own_tr3, own_tr4, hc8, hc10]
      try decide
    · refine o_icmpYes X9 hx 68 (hb hby d16_59) (feq hc10).2 (by decide) (by decide) ?_
      refine o_iload X9 hx (hb hby d16_68) rfl ?_
      refine o_i2l X9 hx (hb hby d16_70) ?_
      refine o_lstoreN X9 hx (l' := #[.val (.ref t_), .val (.ref x_), .val (.long (1 : Int64)), .second, .val (.ref x_), .val (.int (1 : Int32))]) (hb hby d16_71) rfl ?_
      refine o_goto X9 hx 84 (hb hby d16_72) (by decide) (by decide) ?_
      refine o_lloadN X9 hx (hb hby d16_84) rfl ?_
      refine oend X9 hlk (v := some (.long (1 : Int64))) (fun h => by rw [hret] at h; cases h) (fun fs hr => retOut X9 hx (t := .long) (i := .lreturn) hret rfl (Or.inr (Or.inl ⟨rfl, rfl, _, rfl⟩)) (hb hby d16_85) hr) (by decide) (by decide) ?_
      show own_Q_of_trail_2 Z _ _ _ _ _ _ _ _ _ _ _ h0 n0 _ T9.heap _
      rw [e9]
      refine ⟨?_, N9, rfl⟩
      simp [own_tr0, own_tr1, own_tr2, own_tr3, own_tr4, hc8, hc10]
      try decide
  · refine o_icmpYes X7 hx 68 (hb hby d16_59) (feq hc8).2 (by decide) (by decide) ?_
    refine o_iload X7 hx (hb hby d16_68) rfl ?_
    refine o_i2l X7 hx (hb hby d16_70) ?_
    refine o_lstoreN X7 hx (l' := #[.val (.ref t_), .val (.ref x_), .val (.long (2 : Int64)), .second, .val (.ref x_), .val (.int (2 : Int32))]) (hb hby d16_71) rfl ?_
    refine o_goto X7 hx 84 (hb hby d16_72) (by decide) (by decide) ?_
    refine o_lloadN X7 hx (hb hby d16_84) rfl ?_
    refine oend X7 hlk (v := some (.long (2 : Int64))) (fun h => by rw [hret] at h; cases h) (fun fs hr => retOut X7 hx (t := .long) (i := .lreturn) hret rfl (Or.inr (Or.inl ⟨rfl, rfl, _, rfl⟩)) (hb hby d16_85) hr) (by decide) (by decide) ?_
    show own_Q_of_trail_2 Z _ _ _ _ _ _ _ _ _ _ _ h0 n0 _ T7.heap _
    rw [e7]
    refine ⟨?_, N7, rfl⟩
    simp [own_tr0, own_tr1, own_tr2, own_tr3, own_tr4, hc8]
    try decide
def own_Q_l1c_3_0 (Z : State) (s_CHARACTERS : Addr) (s_BYTES : Addr) (s_CHARACTERS_BUT_TRAILING_SPACES : Addr) (z_CS : Int32) (v_FMT : Value) (ba_ : Addr) (kb_ : ClassId) (c0_ : Int32) (c1_ : Int32) (c2_ : Int32) (h0 : Heap) (n0 : Nat) (v : Option Value) (h : Heap) (L : List Loc) : Prop := (v = some (.int c0_)) ∧ (Fr n0 L) ∧ (h = h0)
set_option maxRecDepth 65536 in
set_option maxHeartbeats 40000000 in
theorem rm_l1c_3_0 (l : Launch) (Z : State) (a0 : Array Value) (hw : ∀ d ∈ tables_1, d.before a0 Z = true) (ws : List Jvm.Cond) (s_CHARACTERS : Addr) (s_BYTES : Addr) (s_CHARACTERS_BUT_TRAILING_SPACES : Addr) (z_CS : Int32) (v_FMT : Value) (ba_ : Addr) (kb_ : ClassId) (c0_ : Int32) (c1_ : Int32) (c2_ : Int32) (h0 : Heap) (n0 : Nat) (SB : own_Start Z s_CHARACTERS s_BYTES s_CHARACTERS_BUT_TRAILING_SPACES z_CS v_FMT) (O0 : Old Z n0 h0) (pr0 : Arv Z h0 ba_ kb_ .byte (3 : Int32) [(.int c0_.toInt8.toInt32), (.int c1_.toInt8.toInt32), (.int c2_.toInt8.toInt32)] (.int 0)) (pr1 : ¬ (c0_ < (0 : Int32))) (pr2 : ¬ ((255 : Int32) < c0_)) :
    oMet l Z yM21 jdk_43_method_2_code 2 (some .char) ws ({ frames := 2, cells := 0, slots := 0, locals := 27 } : Room) 0 0 #[(.ref ba_), (.int (0 : Int32))] h0 (own_Q_l1c_3_0 Z s_CHARACTERS s_BYTES s_CHARACTERS_BUT_TRAILING_SPACES z_CS v_FMT ba_ kb_ c0_ c1_ c2_ h0 n0) := by
  refine oenter own_pn1 #[.val (.ref ba_), .val (.int (0 : Int32))] (fun m => by first | (simp [entryFrame, mkF, argsToLocals, Value.category]; done) | rfl) ?_
  intro p e s m below meth c s₁ X0 hx hZ hby hml hret hown0 hnm hlk e0
  have hown : s.vm.findClass "java/lang/StringLatin1" = some m.cls := hown0
  have N0 := Fr.nil n0
  obtain ⟨S_s_CHARACTERS, E_s_CHARACTERS, S_s_BYTES, E_s_BYTES, S_s_CHARACTERS_BUT_TRAILING_SPACES, E_s_CHARACTERS_BUT_TRAILING_SPACES, F_s_CHARACTERS_ordinal, F_s_BYTES_ordinal, F_s_CHARACTERS_BUT_TRAILING_SPACES_ordinal, S_CS, H_CS, S_FMT, R_FMT⟩ := (id SB)
  have w14 := hw _ (List.mem_of_getElem? (i := 14) rfl)
  have w119 := hw _ (List.mem_of_getElem? (i := 119) rfl)
  have w120 := hw _ (List.mem_of_getElem? (i := 120) rfl)
  have w121 := hw _ (List.mem_of_getElem? (i := 121) rfl)
  refine o_iloadN X0 hx (hb hby d22_0) rfl ?_
  refine o_aloadN X0 hx (hb hby d22_1) rfl rfl ?_
  obtain ⟨cl1, Ar1, -, S1, N1z, -, -⟩ := (id pr0)
  refine ogo (S' := s₁.setTop (mkF m 3 #[.val (.ref ba_), .val (.int (0 : Int32))] [(.int (3 : Int32)), (.int (0 : Int32))])) (fun _ kt_ => X0.arraylength hx (by rw [e0]; exact Ar1.1) (State.isArrayOf_alike hZ.alike Ar1.2.1) (g := (mkF m 2 #[.val (.ref ba_), .val (.int (0 : Int32))] [(.ref ba_), (.int (0 : Int32))])) rfl rfl (hb hby d22_2) _ (by rw [len_of S1 N1z]; exact kt_)) ?_
  obtain ⟨_, _, ⟨T2, L2, kc2, n2⟩, -, X2, ⟨Lc2, hQ2, l2, y2, z2⟩, st2⟩ := Jvm.LawKit.callS X0 hx (y := yM20) hown (mvT hZ w119) (mvT hZ w120) (mvT hZ w14) (mvT hZ w121) (by decide) (backOf (W := 0) (rm_sci l Z a0 hw [] s_CHARACTERS s_BYTES s_CHARACTERS_BUT_TRAILING_SPACES z_CS v_FMT (0 : Int32) (3 : Int32) h0 n0 SB O0 (by decide) (by decide)) hZ w121 w14 (by decide) (by decide)) (g := (mkF m 3 #[.val (.ref ba_), .val (.int (0 : Int32))] [(.int (3 : Int32)), (.int (0 : Int32))])) rfl (by rw [hml]; rfl) (argsL := [(.int (0 : Int32)), (.int (3 : Int32))]) (rest := []) (lenOf own_pd12 rfl) rfl (by show 2 * 0 + _ ≤ _; exact Nat.le_of_eq rfl) (hb hby d22_3) (fun _ _ => ⟨rfl, e0, (by decide : 0 + 0 ≤ _), (by decide : 0 + 0 ≤ _)⟩)
  dsimp only [Pt.U, Pt.locs, Pt.cells, Pt.slots] at X2 l2 y2 z2 st2 hQ2
  subst l2 y2 z2
  obtain ⟨rfl, Nq2, e2⟩ := hQ2
  have N2 := Fr.app N0 Nq2
  refine ogo (S' := T2.setTop (mkF m 6 #[.val (.ref ba_), .val (.int (0 : Int32))] [])) st2 ?_
  refine o_aloadN X2 hx (hb hby d22_6) rfl rfl ?_
  refine o_iloadN X2 hx (hb hby d22_7) rfl ?_
  obtain ⟨cl3, Ar3, q3, S3, N3z, H3, G3⟩ := (id pr0)
  have hi3 := inb_of (j := (0 : Int32)) S3 ⟨by decide, by decide⟩
  have ha3 := Has.at (v := (.int c0_.toInt8.toInt32)) H3 hi3 rfl
  refine ogo (S' := T2.setTop (mkF m 9 #[.val (.ref ba_), .val (.int (0 : Int32))] [(.int c0_.toInt8.toInt32)])) (X2.baloadBytes hx (j := (0 : Int32)) (v := (.int c0_.toInt8.toInt32)) (by rw [e2]; exact Ar3.1) (State.isArrayOf_alike hZ.alike Ar3.2.1) Ar3.2.2 hi3 ha3 (g := (mkF m 8 #[.val (.ref ba_), .val (.int (0 : Int32))] [(.int (0 : Int32)), (.ref ba_)])) rfl rfl (hb hby d22_8)) ?_
  refine o_sipush X2 hx (255 : Int32) (hb hby d22_9) rfl ?_
  refine o_iand X2 hx (hb hby d22_12) ?_
  refine o_i2c X2 hx (hb hby d22_13) ?_
  rw [own_char pr1 pr2]
  refine oend X2 hlk (v := some (.int c0_)) (fun h => by rw [hret] at h; cases h) (fun fs hr => retN X2 hx (t := .char) hret (by simp) (hb hby d22_14) (by rw [(own_narsm pr1 pr2)]; exact hr)) (by decide) (by decide) ?_
  show own_Q_l1c_3_0 Z _ _ _ _ _ _ _ _ _ _ h0 n0 _ T2.heap _
  rw [e2]
  exact ⟨rfl, N2, rfl⟩
def own_Q_cat_3_0 (Z : State) (s_CHARACTERS : Addr) (s_BYTES : Addr) (s_CHARACTERS_BUT_TRAILING_SPACES : Addr) (z_CS : Int32) (v_FMT : Value) (x_ : Addr) (ba_ : Addr) (kb_ : ClassId) (c0_ : Int32) (c1_ : Int32) (c2_ : Int32) (h0 : Heap) (n0 : Nat) (v : Option Value) (h : Heap) (L : List Loc) : Prop := (v = some (.int c0_)) ∧ (Fr n0 L) ∧ (h = h0)
set_option maxRecDepth 65536 in
set_option maxHeartbeats 40000000 in
theorem rm_cat_3_0 (l : Launch) (Z : State) (a0 : Array Value) (hw : ∀ d ∈ tables_1, d.before a0 Z = true) (ws : List Jvm.Cond) (s_CHARACTERS : Addr) (s_BYTES : Addr) (s_CHARACTERS_BUT_TRAILING_SPACES : Addr) (z_CS : Int32) (v_FMT : Value) (x_ : Addr) (ba_ : Addr) (kb_ : ClassId) (c0_ : Int32) (c1_ : Int32) (c2_ : Int32) (h0 : Heap) (n0 : Nat) (SB : own_Start Z s_CHARACTERS s_BYTES s_CHARACTERS_BUT_TRAILING_SPACES z_CS v_FMT) (O0 : Old Z n0 h0) (pr0 : Exa Z h0 x_ "java/lang/String") (pr1 : Fld Z h0 x_ "java/lang/String" "coder" "B" (.int (0 : Int32))) (pr2 : Fld Z h0 x_ "java/lang/String" "value" "[B" (.ref ba_)) (pr3 : Arv Z h0 ba_ kb_ .byte (3 : Int32) [(.int c0_.toInt8.toInt32), (.int c1_.toInt8.toInt32), (.int c2_.toInt8.toInt32)] (.int 0)) (pr4 : ¬ (c0_ < (0 : Int32))) (pr5 : ¬ ((255 : Int32) < c0_)) :
    oMet l Z yM22 jdk_42_method_56_code 2 (some .char) ws ({ frames := 3, cells := 0, slots := 0, locals := 40 } : Room) 0 0 #[(.ref x_), (.int (0 : Int32))] h0 (own_Q_cat_3_0 Z s_CHARACTERS s_BYTES s_CHARACTERS_BUT_TRAILING_SPACES z_CS v_FMT x_ ba_ kb_ c0_ c1_ c2_ h0 n0) := by
  refine oenter own_pn2 #[.val (.ref x_), .val (.int (0 : Int32))] (fun m => by first | (simp [entryFrame, mkF, argsToLocals, Value.category]; done) | rfl) ?_
  intro p e s m below meth c s₁ X0 hx hZ hby hml hret hown0 hnm hlk e0
  have hown : s.vm.findClass "java/lang/String" = some m.cls := hown0
  have N0 := Fr.nil n0
  obtain ⟨S_s_CHARACTERS, E_s_CHARACTERS, S_s_BYTES, E_s_BYTES, S_s_CHARACTERS_BUT_TRAILING_SPACES, E_s_CHARACTERS_BUT_TRAILING_SPACES, F_s_CHARACTERS_ordinal, F_s_BYTES_ordinal, F_s_CHARACTERS_BUT_TRAILING_SPACES_ordinal, S_CS, H_CS, S_FMT, R_FMT⟩ := (id SB)
  have w14 := hw _ (List.mem_of_getElem? (i := 14) rfl)
  have w39 := hw _ (List.mem_of_getElem? (i := 39) rfl)
  have w97 := hw _ (List.mem_of_getElem? (i := 97) rfl)
  have w111 := hw _ (List.mem_of_getElem? (i := 111) rfl)
  have w112 := hw _ (List.mem_of_getElem? (i := 112) rfl)
  have w113 := hw _ (List.mem_of_getElem? (i := 113) rfl)
  have w114 := hw _ (List.mem_of_getElem? (i := 114) rfl)
  have w115 := hw _ (List.mem_of_getElem? (i := 115) rfl)
  have w116 := hw _ (List.mem_of_getElem? (i := 116) rfl)
  have w117 := hw _ (List.mem_of_getElem? (i := 117) rfl)
  have w118 := hw _ (List.mem_of_getElem? (i := 118) rfl)
  refine o_aloadN X0 hx (hb hby d23_0) rfl rfl ?_
  obtain ⟨cq1, kq1, q1a, q1b, q1c⟩ := isOf hZ e0 pr0
  obtain ⟨_, _, ⟨T1, L1, kc1, n1⟩, -, X1, ⟨Lc1, hQ1, l1, y1, z1⟩, st1⟩ := X0.virtualBack hx (y := yM18) (z := yM18) hown (mvT hZ w111) (mvT hZ w112) (notFace_of_selects (args := #[]) (mvT hZ w114)) (mvT hZ w114) (mvT hZ w113) (by decide) (backOf (W := 0) (rm_isl1 l Z a0 hw [] s_CHARACTERS s_BYTES s_CHARACTERS_BUT_TRAILING_SPACES z_CS v_FMT x_ h0 n0 SB O0 pr1) hZ w115 w14 (by decide) (by decide)) q1a q1c (g := (mkF m 1 #[.val (.ref x_), .val (.int (0 : Int32))] [(.ref x_)])) rfl (by rw [hml]; rfl) (Steps.refl _) (argsL := []) (rest := []) (lenOf own_pd13 rfl) rfl (by show 2 * 0 + _ ≤ _; exact Nat.le_of_eq rfl) (hb hby d23_1) (fun _ _ => ⟨rfl, e0, (by decide : 0 + 0 ≤ _), (by decide : 0 + 0 ≤ _)⟩)
  dsimp only [Pt.U, Pt.locs, Pt.cells, Pt.slots] at X1 l1 y1 z1 st1 hQ1
  subst l1 y1 z1
  obtain ⟨rfl, Nq1, e1⟩ := hQ1
  have N1 := Fr.app N0 Nq1
  refine otr (S' := T1.setTop (mkF m 4 #[.val (.ref x_), .val (.int (0 : Int32))] [(.int (1 : Int32))])) st1 ?_
  refine o_ifNo X1 hx (hb hby d23_4) (feq (by decide : ¬ ((1 : Int32) = (0 : Int32)))).1 ?_
  refine o_aloadN X1 hx (hb hby d23_7) rfl rfl ?_
  obtain ⟨T2, X2, e2, st2⟩ := getF X1 hx hZ hown (host := "") (Or.inl w39) Via.refl e1 pr2 (g := (mkF m 8 #[.val (.ref x_), .val (.int (0 : Int32))] [(.ref x_)])) rfl rfl (hb hby d23_8)
  refine ogo (S' := T2.setTop (mkF m 11 #[.val (.ref x_), .val (.int (0 : Int32))] [(.ref ba_)])) st2 ?_
  refine o_iloadN X2 hx (hb hby d23_11) rfl ?_
  obtain ⟨_, _, ⟨T3, L3, kc3, n3⟩, -, X3, ⟨Lc3, hQ3, l3, y3, z3⟩, st3⟩ := Jvm.LawKit.callS X2 hx (y := yM21) hown (mvT hZ w116) (mvT hZ w117) (mvT hZ w97) (mvT hZ w118) (by decide) (backOf (W := 0) (rm_l1c_3_0 l Z a0 hw [] s_CHARACTERS s_BYTES s_CHARACTERS_BUT_TRAILING_SPACES z_CS v_FMT ba_ kb_ c0_ c1_ c2_ h0 n0 SB O0 pr3 pr4 pr5) hZ w118 w97 (by decide) (by decide)) (g := (mkF m 12 #[.val (.ref x_), .val (.int (0 : Int32))] [(.int (0 : Int32)), (.ref ba_)])) rfl (by rw [hml]; rfl) (argsL := [(.ref ba_), (.int (0 : Int32))]) (rest := []) (lenOf own_pd14 rfl) rfl (by show 2 * 0 + _ ≤ _; exact Nat.le_of_eq rfl) (hb hby d23_12) (fun _ _ => ⟨rfl, e2, (by decide : 0 + 0 ≤ _), (by decide : 0 + 0 ≤ _)⟩)
  dsimp only [Pt.U, Pt.locs, Pt.cells, Pt.slots] at X3 l3 y3 z3 st3 hQ3
  subst l3 y3 z3
  obtain ⟨rfl, Nq3, e3⟩ := hQ3
  have N3 := Fr.app N1 Nq3
  refine ogo (S' := T3.setTop (mkF m 15 #[.val (.ref x_), .val (.int (0 : Int32))] [(.int c0_)])) st3 ?_
  refine oend X3 hlk (v := some (.int c0_)) (fun h => by rw [hret] at h; cases h) (fun fs hr => retN X3 hx (t := .char) hret (by simp) (hb hby d23_15) (by rw [(own_narsm pr4 pr5)]; exact hr)) (by decide) (by decide) ?_
  show own_Q_cat_3_0 Z _ _ _ _ _ _ _ _ _ _ _ h0 n0 _ T3.heap _
  rw [e3]
  exact ⟨rfl, N3, rfl⟩
def own_Q_l1c_3_1 (Z : State) (s_CHARACTERS : Addr) (s_BYTES : Addr) (s_CHARACTERS_BUT_TRAILING_SPACES : Addr) (z_CS : Int32) (v_FMT : Value) (ba_ : Addr) (kb_ : ClassId) (c0_ : Int32) (c1_ : Int32) (c2_ : Int32) (h0 : Heap) (n0 : Nat) (v : Option Value) (h : Heap) (L : List Loc) : Prop := (v = some (.int c1_)) ∧ (Fr n0 L) ∧ (h = h0)
set_option maxRecDepth 65536 in
set_option maxHeartbeats 40000000 in
theorem rm_l1c_3_1 (l : Launch) (Z : State) (a0 : Array Value) (hw : ∀ d ∈ tables_1, d.before a0 Z = true) (ws : List Jvm.Cond) (s_CHARACTERS : Addr) (s_BYTES : Addr) (s_CHARACTERS_BUT_TRAILING_SPACES : Addr) (z_CS : Int32) (v_FMT : Value) (ba_ : Addr) (kb_ : ClassId) (c0_ : Int32) (c1_ : Int32) (c2_ : Int32) (h0 : Heap) (n0 : Nat) (SB : own_Start Z s_CHARACTERS s_BYTES s_CHARACTERS_BUT_TRAILING_SPACES z_CS v_FMT) (O0 : Old Z n0 h0) (pr0 : Arv Z h0 ba_ kb_ .byte (3 : Int32) [(.int c0_.toInt8.toInt32), (.int c1_.toInt8.toInt32), (.int c2_.toInt8.toInt32)] (.int 0)) (pr1 : ¬ (c1_ < (0 : Int32))) (pr2 : ¬ ((255 : Int32) < c1_)) :
    oMet l Z yM21 jdk_43_method_2_code 2 (some .char) ws ({ frames := 2, cells := 0, slots := 0, locals := 27 } : Room) 0 0 #[(.ref ba_), (.int (1 : Int32))] h0 (own_Q_l1c_3_1 Z s_CHARACTERS s_BYTES s_CHARACTERS_BUT_TRAILING_SPACES z_CS v_FMT ba_ kb_ c0_ c1_ c2_ h0 n0) := by
  refine oenter own_pn1 #[.val (.ref ba_), .val (.int (1 : Int32))] (fun m => by first | (simp [entryFrame, mkF, argsToLocals, Value.category]; done) | rfl) ?_
  intro p e s m below meth c s₁ X0 hx hZ hby hml hret hown0 hnm hlk e0
  have hown : s.vm.findClass "java/lang/StringLatin1" = some m.cls := hown0
  have N0 := Fr.nil n0
  obtain ⟨S_s_CHARACTERS, E_s_CHARACTERS, S_s_BYTES, E_s_BYTES, S_s_CHARACTERS_BUT_TRAILING_SPACES, E_s_CHARACTERS_BUT_TRAILING_SPACES, F_s_CHARACTERS_ordinal, F_s_BYTES_ordinal, F_s_CHARACTERS_BUT_TRAILING_SPACES_ordinal, S_CS, H_CS, S_FMT, R_FMT⟩ := (id SB)
  have w14 := hw _ (List.mem_of_getElem? (i := 14) rfl)
  have w119 := hw _ (List.mem_of_getElem? (i := 119) rfl)
  have w120 := hw _ (List.mem_of_getElem? (i := 120) rfl)
  have w121 := hw _ (List.mem_of_getElem? (i := 121) rfl)
  refine o_iloadN X0 hx (hb hby d22_0) rfl ?_
  refine o_aloadN X0 hx (hb hby d22_1) rfl rfl ?_
  obtain ⟨cl1, Ar1, -, S1, N1z, -, -⟩ := (id pr0)
  refine ogo (S' := s₁.setTop (mkF m 3 #[.val (.ref ba_), .val (.int (1 : Int32))] [(.int (3 : Int32)), (.int (1 : Int32))])) (fun _ kt_ => X0.arraylength hx (by rw [e0]; exact Ar1.1) (State.isArrayOf_alike hZ.alike Ar1.2.1) (g := (mkF m 2 #[.val (.ref ba_), .val (.int (1 : Int32))] [(.ref ba_), (.int (1 : Int32))])) rfl rfl (hb hby d22_2) _ (by rw [len_of S1 N1z]; exact kt_)) ?_
  obtain ⟨_, _, ⟨T2, L2, kc2, n2⟩, -, X2, ⟨Lc2, hQ2, l2, y2, z2⟩, st2⟩ := Jvm.LawKit.callS X0 hx (y := yM20) hown (mvT hZ w119) (mvT hZ w120) (mvT hZ w14) (mvT hZ w121) (by decide) (backOf (W := 0) (rm_sci l Z a0 hw [] s_CHARACTERS s_BYTES s_CHARACTERS_BUT_TRAILING_SPACES z_CS v_FMT (1 : Int32) (3 : Int32) h0 n0 SB O0 (by decide) (by decide)) hZ w121 w14 (by decide) (by decide)) (g := (mkF m 3 #[.val (.ref ba_), .val (.int (1 : Int32))] [(.int (3 : Int32)), (.int (1 : Int32))])) rfl (by rw [hml]; rfl) (argsL := [(.int (1 : Int32)), (.int (3 : Int32))]) (rest := []) (lenOf own_pd12 rfl) rfl (by show 2 * 0 + _ ≤ _; exact Nat.le_of_eq rfl) (hb hby d22_3) (fun _ _ => ⟨rfl, e0, (by decide : 0 + 0 ≤ _), (by decide : 0 + 0 ≤ _)⟩)
  dsimp only [Pt.U, Pt.locs, Pt.cells, Pt.slots] at X2 l2 y2 z2 st2 hQ2
  subst l2 y2 z2
  obtain ⟨rfl, Nq2, e2⟩ := hQ2
  have N2 := Fr.app N0 Nq2
  refine ogo (S' := T2.setTop (mkF m 6 #[.val (.ref ba_), .val (.int (1 : Int32))] [])) st2 ?_
  refine o_aloadN X2 hx (hb hby d22_6) rfl rfl ?_
  refine o_iloadN X2 hx (hb hby d22_7) rfl ?_
  obtain ⟨cl3, Ar3, q3, S3, N3z, H3, G3⟩ := (id pr0)
  have hi3 := inb_of (j := (1 : Int32)) S3 ⟨by decide, by decide⟩
  have ha3 := Has.at (v := (.int c1_.toInt8.toInt32)) H3 hi3 rfl
  refine ogo (S' := T2.setTop (mkF m 9 #[.val (.ref ba_), .val (.int (1 : Int32))] [(.int c1_.toInt8.toInt32)])) (X2.baloadBytes hx (j := (1 : Int32)) (v := (.int c1_.toInt8.toInt32)) (by rw [e2]; exact Ar3.1) (State.isArrayOf_alike hZ.alike Ar3.2.1) Ar3.2.2 hi3 ha3 (g := (mkF m 8 #[.val (.ref ba_), .val (.int (1 : Int32))] [(.int (1 : Int32)), (.ref ba_)])) rfl rfl (hb hby d22_8)) ?_
  refine o_sipush X2 hx (255 : Int32) (hb hby d22_9) rfl ?_
  refine o_iand X2 hx (hb hby d22_12) ?_
  refine o_i2c X2 hx (hb hby d22_13) ?_
  rw [own_char pr1 pr2]
  refine oend X2 hlk (v := some (.int c1_)) (fun h => by rw [hret] at h; cases h) (fun fs hr => retN X2 hx (t := .char) hret (by simp) (hb hby d22_14) (by rw [(own_narsm pr1 pr2)]; exact hr)) (by decide) (by decide) ?_
  show own_Q_l1c_3_1 Z _ _ _ _ _ _ _ _ _ _ h0 n0 _ T2.heap _
  rw [e2]
  exact ⟨rfl, N2, rfl⟩
def own_Q_cat_3_1 (Z : State) (s_CHARACTERS : Addr) (s_BYTES : Addr) (s_CHARACTERS_BUT_TRAILING_SPACES : Addr) (z_CS : Int32) (v_FMT : Value) (x_ : Addr) (ba_ : Addr) (kb_ : ClassId) (c0_ : Int32) (c1_ : Int32) (c2_ : Int32) (h0 : Heap) (n0 : Nat) (v : Option Value) (h : Heap) (L : List Loc) : Prop := (v = some (.int c1_)) ∧ (Fr n0 L) ∧ (h = h0)
set_option maxRecDepth 65536 in
set_option maxHeartbeats 40000000 in
theorem rm_cat_3_1 (l : Launch) (Z : State) (a0 : Array Value) (hw : ∀ d ∈ tables_1, d.before a0 Z = true) (ws : List Jvm.Cond) (s_CHARACTERS : Addr) (s_BYTES : Addr) (s_CHARACTERS_BUT_TRAILING_SPACES : Addr) (z_CS : Int32) (v_FMT : Value) (x_ : Addr) (ba_ : Addr) (kb_ : ClassId) (c0_ : Int32) (c1_ : Int32) (c2_ : Int32) (h0 : Heap) (n0 : Nat) (SB : own_Start Z s_CHARACTERS s_BYTES s_CHARACTERS_BUT_TRAILING_SPACES z_CS v_FMT) (O0 : Old Z n0 h0) (pr0 : Exa Z h0 x_ "java/lang/String") (pr1 : Fld Z h0 x_ "java/lang/String" "coder" "B" (.int (0 : Int32))) (pr2 : Fld Z h0 x_ "java/lang/String" "value" "[B" (.ref ba_)) (pr3 : Arv Z h0 ba_ kb_ .byte (3 : Int32) [(.int c0_.toInt8.toInt32), (.int c1_.toInt8.toInt32), (.int c2_.toInt8.toInt32)] (.int 0)) (pr4 : ¬ (c1_ < (0 : Int32))) (pr5 : ¬ ((255 : Int32) < c1_)) :
    oMet l Z yM22 jdk_42_method_56_code 2 (some .char) ws ({ frames := 3, cells := 0, slots := 0, locals := 40 } : Room) 0 0 #[(.ref x_), (.int (1 : Int32))] h0 (own_Q_cat_3_1 Z s_CHARACTERS s_BYTES s_CHARACTERS_BUT_TRAILING_SPACES z_CS v_FMT x_ ba_ kb_ c0_ c1_ c2_ h0 n0) := by
  refine oenter own_pn2 #[.val (.ref x_), .val (.int (1 : Int32))] (fun m => by first | (simp [entryFrame, mkF, argsToLocals, Value.category]; done) | rfl) ?_
  intro p e s m below meth c s₁ X0 hx hZ hby hml hret hown0 hnm hlk e0
  have hown : s.vm.findClass "java/lang/String" = some m.cls := hown0
  have N0 := Fr.nil n0
  obtain ⟨S_s_CHARACTERS, E_s_CHARACTERS, S_s_BYTES, E_s_BYTES, S_s_CHARACTERS_BUT_TRAILING_SPACES, E_s_CHARACTERS_BUT_TRAILING_SPACES, F_s_CHARACTERS_ordinal, F_s_BYTES_ordinal, F_s_CHARACTERS_BUT_TRAILING_SPACES_ordinal, S_CS, H_CS, S_FMT, R_FMT⟩ := (id SB)
  have w14 := hw _ (List.mem_of_getElem? (i := 14) rfl)
  have w39 := hw _ (List.mem_of_getElem? (i := 39) rfl)
  have w97 := hw _ (List.mem_of_getElem? (i := 97) rfl)
  have w111 := hw _ (List.mem_of_getElem? (i := 111) rfl)
  have w112 := hw _ (List.mem_of_getElem? (i := 112) rfl)
  have w113 := hw _ (List.mem_of_getElem? (i := 113) rfl)
  have w114 := hw _ (List.mem_of_getElem? (i := 114) rfl)
  have w115 := hw _ (List.mem_of_getElem? (i := 115) rfl)
  have w116 := hw _ (List.mem_of_getElem? (i := 116) rfl)
  have w117 := hw _ (List.mem_of_getElem? (i := 117) rfl)
  have w118 := hw _ (List.mem_of_getElem? (i := 118) rfl)
  refine o_aloadN X0 hx (hb hby d23_0) rfl rfl ?_
  obtain ⟨cq1, kq1, q1a, q1b, q1c⟩ := isOf hZ e0 pr0
  obtain ⟨_, _, ⟨T1, L1, kc1, n1⟩, -, X1, ⟨Lc1, hQ1, l1, y1, z1⟩, st1⟩ := X0.virtualBack hx (y := yM18) (z := yM18) hown (mvT hZ w111) (mvT hZ w112) (notFace_of_selects (args := #[]) (mvT hZ w114)) (mvT hZ w114) (mvT hZ w113) (by decide) (backOf (W := 0) (rm_isl1 l Z a0 hw [] s_CHARACTERS s_BYTES s_CHARACTERS_BUT_TRAILING_SPACES z_CS v_FMT x_ h0 n0 SB O0 pr1) hZ w115 w14 (by decide) (by decide)) q1a q1c (g := (mkF m 1 #[.val (.ref x_), .val (.int (1 : Int32))] [(.ref x_)])) rfl (by rw [hml]; rfl) (Steps.refl _) (argsL := []) (rest := []) (lenOf own_pd13 rfl) rfl (by show 2 * 0 + _ ≤ _; exact Nat.le_of_eq rfl) (hb hby d23_1) (fun _ _ => ⟨rfl, e0, (by decide : 0 + 0 ≤ _), (by decide : 0 + 0 ≤ _)⟩)
  dsimp only [Pt.U, Pt.locs, Pt.cells, Pt.slots] at X1 l1 y1 z1 st1 hQ1
  subst l1 y1 z1
  obtain ⟨rfl, Nq1, e1⟩ := hQ1
  have N1 := Fr.app N0 Nq1
  refine otr (S' := T1.setTop (mkF m 4 #[.val (.ref x_), .val (.int (1 : Int32))] [(.int (1 : Int32))])) st1 ?_
  refine o_ifNo X1 hx (hb hby d23_4) (feq (by decide : ¬ ((1 : Int32) = (0 : Int32)))).1 ?_
  refine o_aloadN X1 hx (hb hby d23_7) rfl rfl ?_
  obtain ⟨T2, X2, e2, st2⟩ := getF X1 hx hZ hown (host := "") (Or.inl w39) Via.refl e1 pr2 (g := (mkF m 8 #[.val (.ref x_), .val (.int (1 : Int32))] [(.ref x_)])) rfl rfl (hb hby d23_8)
  refine ogo (S' := T2.setTop (mkF m 11 #[.val (.ref x_), .val (.int (1 : Int32))] [(.ref ba_)])) st2 ?_
  refine o_iloadN X2 hx (hb hby d23_11) rfl ?_
  obtain ⟨_, _, ⟨T3, L3, kc3, n3⟩, -, X3, ⟨Lc3, hQ3, l3, y3, z3⟩, st3⟩ := Jvm.LawKit.callS X2 hx (y := yM21) hown (mvT hZ w116) (mvT hZ w117) (mvT hZ w97) (mvT hZ w118) (by decide) (backOf (W := 0) (rm_l1c_3_1 l Z a0 hw [] s_CHARACTERS s_BYTES s_CHARACTERS_BUT_TRAILING_SPACES z_CS v_FMT ba_ kb_ c0_ c1_ c2_ h0 n0 SB O0 pr3 pr4 pr5) hZ w118 w97 (by decide) (by decide)) (g := (mkF m 12 #[.val (.ref x_), .val (.int (1 : Int32))] [(.int (1 : Int32)), (.ref ba_)])) rfl (by rw [hml]; rfl) (argsL := [(.ref ba_), (.int (1 : Int32))]) (rest := []) (lenOf own_pd14 rfl) rfl (by show 2 * 0 + _ ≤ _; exact Nat.le_of_eq rfl) (hb hby d23_12) (fun _ _ => ⟨rfl, e2, (by decide : 0 + 0 ≤ _), (by decide : 0 + 0 ≤ _)⟩)
  dsimp only [Pt.U, Pt.locs, Pt.cells, Pt.slots] at X3 l3 y3 z3 st3 hQ3
  subst l3 y3 z3
  obtain ⟨rfl, Nq3, e3⟩ := hQ3
  have N3 := Fr.app N1 Nq3
  refine ogo (S' := T3.setTop (mkF m 15 #[.val (.ref x_), .val (.int (1 : Int32))] [(.int c1_)])) st3 ?_
  refine oend X3 hlk (v := some (.int c1_)) (fun h => by rw [hret] at h; cases h) (fun fs hr => retN X3 hx (t := .char) hret (by simp) (hb hby d23_15) (by rw [(own_narsm pr4 pr5)]; exact hr)) (by decide) (by decide) ?_
  show own_Q_cat_3_1 Z _ _ _ _ _ _ _ _ _ _ _ h0 n0 _ T3.heap _
  rw [e3]
  exact ⟨rfl, N3, rfl⟩
def own_Q_l1c_3_2 (Z : State) (s_CHARACTERS : Addr) (s_BYTES : Addr) (s_CHARACTERS_BUT_TRAILING_SPACES : Addr) (z_CS : Int32) (v_FMT : Value) (ba_ : Addr) (kb_ : ClassId) (c0_ : Int32) (c1_ : Int32) (c2_ : Int32) (h0 : Heap) (n0 : Nat) (v : Option Value) (h : Heap) (L : List Loc) : Prop := (v = some (.int c2_)) ∧ (Fr n0 L) ∧ (h = h0)
set_option maxRecDepth 65536 in
set_option maxHeartbeats 40000000 in
theorem rm_l1c_3_2 (l : Launch) (Z : State) (a0 : Array Value) (hw : ∀ d ∈ tables_1, d.before a0 Z = true) (ws : List Jvm.Cond) (s_CHARACTERS : Addr) (s_BYTES : Addr) (s_CHARACTERS_BUT_TRAILING_SPACES : Addr) (z_CS : Int32) (v_FMT : Value) (ba_ : Addr) (kb_ : ClassId) (c0_ : Int32) (c1_ : Int32) (c2_ : Int32) (h0 : Heap) (n0 : Nat) (SB : own_Start Z s_CHARACTERS s_BYTES s_CHARACTERS_BUT_TRAILING_SPACES z_CS v_FMT) (O0 : Old Z n0 h0) (pr0 : Arv Z h0 ba_ kb_ .byte (3 : Int32) [(.int c0_.toInt8.toInt32), (.int c1_.toInt8.toInt32), (.int c2_.toInt8.toInt32)] (.int 0)) (pr1 : ¬ (c2_ < (0 : Int32))) (pr2 : ¬ ((255 : Int32) < c2_)) :
    oMet l Z yM21 jdk_43_method_2_code 2 (some .char) ws ({ frames := 2, cells := 0, slots := 0, locals := 27 } : Room) 0 0 #[(.ref ba_), (.int (2 : Int32))] h0 (own_Q_l1c_3_2 Z s_CHARACTERS s_BYTES s_CHARACTERS_BUT_TRAILING_SPACES z_CS v_FMT ba_ kb_ c0_ c1_ c2_ h0 n0) := by
  refine oenter own_pn1 #[.val (.ref ba_), .val (.int (2 : Int32))] (fun m => by first | (simp [entryFrame, mkF, argsToLocals, Value.category]; done) | rfl) ?_
  intro p e s m below meth c s₁ X0 hx hZ hby hml hret hown0 hnm hlk e0
  have hown : s.vm.findClass "java/lang/StringLatin1" = some m.cls := hown0
  have N0 := Fr.nil n0
  obtain ⟨S_s_CHARACTERS, E_s_CHARACTERS, S_s_BYTES, E_s_BYTES, S_s_CHARACTERS_BUT_TRAILING_SPACES, E_s_CHARACTERS_BUT_TRAILING_SPACES, F_s_CHARACTERS_ordinal, F_s_BYTES_ordinal, F_s_CHARACTERS_BUT_TRAILING_SPACES_ordinal, S_CS, H_CS, S_FMT, R_FMT⟩ := (id SB)
  have w14 := hw _ (List.mem_of_getElem? (i := 14) rfl)
  have w119 := hw _ (List.mem_of_getElem? (i := 119) rfl)
  have w120 := hw _ (List.mem_of_getElem? (i := 120) rfl)
  have w121 := hw _ (List.mem_of_getElem? (i := 121) rfl)
  refine o_iloadN X0 hx (hb hby d22_0) rfl ?_
  refine o_aloadN X0 hx (hb hby d22_1) rfl rfl ?_
  obtain ⟨cl1, Ar1, -, S1, N1z, -, -⟩ := (id pr0)
  refine ogo (S' := s₁.setTop (mkF m 3 #[.val (.ref ba_), .val (.int (2 : Int32))] [(.int (3 : Int32)), (.int (2 : Int32))])) (fun _ kt_ => X0.arraylength hx (by rw [e0]; exact Ar1.1) (State.isArrayOf_alike hZ.alike Ar1.2.1) (g := (mkF m 2 #[.val (.ref ba_), .val (.int (2 : Int32))] [(.ref ba_), (.int (2 : Int32))])) rfl rfl (hb hby d22_2) _ (by rw [len_of S1 N1z]; exact kt_)) ?_
  obtain ⟨_, _, ⟨T2, L2, kc2, n2⟩, -, X2, ⟨Lc2, hQ2, l2, y2, z2⟩, st2⟩ := Jvm.LawKit.callS X0 hx (y := yM20) hown (mvT hZ w119) (mvT hZ w120) (mvT hZ w14) (mvT hZ w121) (by decide) (backOf (W := 0) (rm_sci l Z a0 hw [] s_CHARACTERS s_BYTES s_CHARACTERS_BUT_TRAILING_SPACES z_CS v_FMT (2 : Int32) (3 : Int32) h0 n0 SB O0 (by decide) (by decide)) hZ w121 w14 (by decide) (by decide)) (g := (mkF m 3 #[.val (.ref ba_), .val (.int (2 : Int32))] [(.int (3 : Int32)), (.int (2 : Int32))])) rfl (by rw [hml]; rfl) (argsL := [(.int (2 : Int32)), (.int (3 : Int32))]) (rest := []) (lenOf own_pd12 rfl) rfl (by show 2 * 0 + _ ≤ _; exact Nat.le_of_eq rfl) (hb hby d22_3) (fun _ _ => ⟨rfl, e0, (by decide : 0 + 0 ≤ _), (by decide : 0 + 0 ≤ _)⟩)
  dsimp only [Pt.U, Pt.locs, Pt.cells, Pt.slots] at X2 l2 y2 z2 st2 hQ2
  subst l2 y2 z2
  obtain ⟨rfl, Nq2, e2⟩ := hQ2
  have N2 := Fr.app N0 Nq2
  refine ogo (S' := T2.setTop (mkF m 6 #[.val (.ref ba_), .val (.int (2 : Int32))] [])) st2 ?_
  refine o_aloadN X2 hx (hb hby d22_6) rfl rfl ?_
  refine o_iloadN X2 hx (hb hby d22_7) rfl ?_
  obtain ⟨cl3, Ar3, q3, S3, N3z, H3, G3⟩ := (id pr0)
  have hi3 := inb_of (j := (2 : Int32)) S3 ⟨by decide, by decide⟩
  have ha3 := Has.at (v := (.int c2_.toInt8.toInt32)) H3 hi3 rfl
  refine ogo (S' := T2.setTop (mkF m 9 #[.val (.ref ba_), .val (.int (2 : Int32))] [(.int c2_.toInt8.toInt32)])) (X2.baloadBytes hx (j := (2 : Int32)) (v := (.int c2_.toInt8.toInt32)) (by rw [e2]; exact Ar3.1) (State.isArrayOf_alike hZ.alike Ar3.2.1) Ar3.2.2 hi3 ha3 (g := (mkF m 8 #[.val (.ref ba_), .val (.int (2 : Int32))] [(.int (2 : Int32)), (.ref ba_)])) rfl rfl (hb hby d22_8)) ?_
  refine o_sipush X2 hx (255 : Int32) (hb hby d22_9) rfl ?_
  refine o_iand X2 hx (hb hby d22_12) ?_
  refine o_i2c X2 hx (hb hby d22_13) ?_
  rw [own_char pr1 pr2]
  refine oend X2 hlk (v := some (.int c2_)) (fun h => by rw [hret] at h; cases h) (fun fs hr => retN X2 hx (t := .char) hret (by simp) (hb hby d22_14) (by rw [(own_narsm pr1 pr2)]; exact hr)) (by decide) (by decide) ?_
  show own_Q_l1c_3_2 Z _ _ _ _ _ _ _ _ _ _ h0 n0 _ T2.heap _
  rw [e2]
  exact ⟨rfl, N2, rfl⟩
def own_Q_cat_3_2 (Z : State) (s_CHARACTERS : Addr) (s_BYTES : Addr) (s_CHARACTERS_BUT_TRAILING_SPACES : Addr) (z_CS : Int32) (v_FMT : Value) (x_ : Addr) (ba_ : Addr) (kb_ : ClassId) (c0_ : Int32) (c1_ : Int32) (c2_ : Int32) (h0 : Heap) (n0 : Nat) (v : Option Value) (h : Heap) (L : List Loc) : Prop := (v = some (.int c2_)) ∧ (Fr n0 L) ∧ (h = h0)
set_option maxRecDepth 65536 in
set_option maxHeartbeats 40000000 in
theorem rm_cat_3_2 (l : Launch) (Z : State) (a0 : Array Value) (hw : ∀ d ∈ tables_1, d.before a0 Z = true) (ws : List Jvm.Cond) (s_CHARACTERS : Addr) (s_BYTES : Addr) (s_CHARACTERS_BUT_TRAILING_SPACES : Addr) (z_CS : Int32) (v_FMT : Value) (x_ : Addr) (ba_ : Addr) (kb_ : ClassId) (c0_ : Int32) (c1_ : Int32) (c2_ : Int32) (h0 : Heap) (n0 : Nat) (SB : own_Start Z s_CHARACTERS s_BYTES s_CHARACTERS_BUT_TRAILING_SPACES z_CS v_FMT) (O0 : Old Z n0 h0) (pr0 : Exa Z h0 x_ "java/lang/String") (pr1 : Fld Z h0 x_ "java/lang/String" "coder" "B" (.int (0 : Int32))) (pr2 : Fld Z h0 x_ "java/lang/String" "value" "[B" (.ref ba_)) (pr3 : Arv Z h0 ba_ kb_ .byte (3 : Int32) [(.int c0_.toInt8.toInt32), (.int c1_.toInt8.toInt32), (.int c2_.toInt8.toInt32)] (.int 0)) (pr4 : ¬ (c2_ < (0 : Int32))) (pr5 : ¬ ((255 : Int32) < c2_)) :
    oMet l Z yM22 jdk_42_method_56_code 2 (some .char) ws ({ frames := 3, cells := 0, slots := 0, locals := 40 } : Room) 0 0 #[(.ref x_), (.int (2 : Int32))] h0 (own_Q_cat_3_2 Z s_CHARACTERS s_BYTES s_CHARACTERS_BUT_TRAILING_SPACES z_CS v_FMT x_ ba_ kb_ c0_ c1_ c2_ h0 n0) := by
  refine oenter own_pn2 #[.val (.ref x_), .val (.int (2 : Int32))] (fun m => by first | (simp [entryFrame, mkF, argsToLocals, Value.category]; done) | rfl) ?_
  intro p e s m below meth c s₁ X0 hx hZ hby hml hret hown0 hnm hlk e0
  have hown : s.vm.findClass "java/lang/String" = some m.cls := hown0
  have N0 := Fr.nil n0
  obtain ⟨S_s_CHARACTERS, E_s_CHARACTERS, S_s_BYTES, E_s_BYTES, S_s_CHARACTERS_BUT_TRAILING_SPACES, E_s_CHARACTERS_BUT_TRAILING_SPACES, F_s_CHARACTERS_ordinal, F_s_BYTES_ordinal, F_s_CHARACTERS_BUT_TRAILING_SPACES_ordinal, S_CS, H_CS, S_FMT, R_FMT⟩ := (id SB)
  have w14 := hw _ (List.mem_of_getElem? (i := 14) rfl)
  have w39 := hw _ (List.mem_of_getElem? (i := 39) rfl)
  have w97 := hw _ (List.mem_of_getElem? (i := 97) rfl)
  have w111 := hw _ (List.mem_of_getElem? (i := 111) rfl)
  have w112 := hw _ (List.mem_of_getElem? (i := 112) rfl)
  have w113 := hw _ (List.mem_of_getElem? (i := 113) rfl)
  have w114 := hw _ (List.mem_of_getElem? (i := 114) rfl)
  have w115 := hw _ (List.mem_of_getElem? (i := 115) rfl)
  have w116 := hw _ (List.mem_of_getElem? (i := 116) rfl)
  have w117 := hw _ (List.mem_of_getElem? (i := 117) rfl)
  have w118 := hw _ (List.mem_of_getElem? (i := 118) rfl)
  refine o_aloadN X0 hx (hb hby d23_0) rfl rfl ?_
  obtain ⟨cq1, kq1, q1a, q1b, q1c⟩ := isOf hZ e0 pr0
  obtain ⟨_, _, ⟨T1, L1, kc1, n1⟩, -, X1, ⟨Lc1, hQ1, l1, y1, z1⟩, st1⟩ := X0.virtualBack hx (y := yM18) (z := yM18) hown (mvT hZ w111) (mvT hZ w112) (notFace_of_selects (args := #[]) (mvT hZ w114)) (mvT hZ w114) (mvT hZ w113) (by decide) (backOf (W := 0) (rm_isl1 l Z a0 hw [] s_CHARACTERS s_BYTES s_CHARACTERS_BUT_TRAILING_SPACES z_CS v_FMT x_ h0 n0 SB O0 pr1) hZ w115 w14 (by decide) (by decide)) q1a q1c (g := (mkF m 1 #[.val (.ref x_), .val (.int (2 : Int32))] [(.ref x_)])) rfl (by rw [hml]; rfl) (Steps.refl _) (argsL := []) (rest := []) (lenOf own_pd13 rfl) rfl (by show 2 * 0 + _ ≤ _; exact Nat.le_of_eq rfl) (hb hby d23_1) (fun _ _ => ⟨rfl, e0, (by decide : 0 + 0 ≤ _), (by decide : 0 + 0 ≤ _)⟩)
  dsimp only [Pt.U, Pt.locs, Pt.cells, Pt.slots] at X1 l1 y1 z1 st1 hQ1
  subst l1 y1 z1
  obtain ⟨rfl, Nq1, e1⟩ := hQ1
  have N1 := Fr.app N0 Nq1
  refine otr (S' := T1.setTop (mkF m 4 #[.val (.ref x_), .val (.int (2 : Int32))] [(.int (1 : Int32))])) st1 ?_
  refine o_ifNo X1 hx (hb hby d23_4) (feq (by decide : ¬ ((1 : Int32) = (0 : Int32)))).1 ?_
  refine o_aloadN X1 hx (hb hby d23_7) rfl rfl ?_
  obtain ⟨T2, X2, e2, st2⟩ := getF X1 hx hZ hown (host := "") (Or.inl w39) Via.refl e1 pr2 (g := (mkF m 8 #[.val (.ref x_), .val (.int (2 : Int32))] [(.ref x_)])) rfl rfl (hb hby d23_8)
  refine ogo (S' := T2.setTop (mkF m 11 #[.val (.ref x_), .val (.int (2 : Int32))] [(.ref ba_)])) st2 ?_
  refine o_iloadN X2 hx (hb hby d23_11) rfl ?_
  obtain ⟨_, _, ⟨T3, L3, kc3, n3⟩, -, X3, ⟨Lc3, hQ3, l3, y3, z3⟩, st3⟩ := Jvm.LawKit.callS X2 hx (y := yM21) hown (mvT hZ w116) (mvT hZ w117) (mvT hZ w97) (mvT hZ w118) (by decide) (backOf (W := 0) (rm_l1c_3_2 l Z a0 hw [] s_CHARACTERS s_BYTES s_CHARACTERS_BUT_TRAILING_SPACES z_CS v_FMT ba_ kb_ c0_ c1_ c2_ h0 n0 SB O0 pr3 pr4 pr5) hZ w118 w97 (by decide) (by decide)) (g := (mkF m 12 #[.val (.ref x_), .val (.int (2 : Int32))] [(.int (2 : Int32)), (.ref ba_)])) rfl (by rw [hml]; rfl) (argsL := [(.ref ba_), (.int (2 : Int32))]) (rest := []) (lenOf own_pd14 rfl) rfl (by show 2 * 0 + _ ≤ _; exact Nat.le_of_eq rfl) (hb hby d23_12) (fun _ _ => ⟨rfl, e2, (by decide : 0 + 0 ≤ _), (by decide : 0 + 0 ≤ _)⟩)
  dsimp only [Pt.U, Pt.locs, Pt.cells, Pt.slots] at X3 l3 y3 z3 st3 hQ3
  subst l3 y3 z3
  obtain ⟨rfl, Nq3, e3⟩ := hQ3
  have N3 := Fr.app N1 Nq3
  refine ogo (S' := T3.setTop (mkF m 15 #[.val (.ref x_), .val (.int (2 : Int32))] [(.int c2_)])) st3 ?_
  refine oend X3 hlk (v := some (.int c2_)) (fun h => by rw [hret] at h; cases h) (fun fs hr => retN X3 hx (t := .char) hret (by simp) (hb hby d23_15) (by rw [(own_narsm pr4 pr5)]; exact hr)) (by decide) (by decide) ?_
  show own_Q_cat_3_2 Z _ _ _ _ _ _ _ _ _ _ _ h0 n0 _ T3.heap _
  rw [e3]
  exact ⟨rfl, N3, rfl⟩
def own_Q_of_trail_3 (Z : State) (s_CHARACTERS : Addr) (s_BYTES : Addr) (s_CHARACTERS_BUT_TRAILING_SPACES : Addr) (z_CS : Int32) (v_FMT : Value) (t_ : Addr) (x_ : Addr) (ba_ : Addr) (kb_ : ClassId) (c0_ : Int32) (c1_ : Int32) (c2_ : Int32) (h0 : Heap) (n0 : Nat) (v : Option Value) (h : Heap) (L : List Loc) : Prop := (v = some (.long (own_tr3 c0_ c1_ c2_).toInt64)) ∧ (Fr n0 L) ∧ (h = h0)
set_option maxRecDepth 65536 in
set_option maxHeartbeats 40000000 in
theorem rm_of_trail_3 (l : Launch) (Z : State) (a0 : Array Value) (hw : ∀ d ∈ tables_1, d.before a0 Z = true) (ws : List Jvm.Cond) (s_CHARACTERS : Addr) (s_BYTES : Addr) (s_CHARACTERS_BUT_TRAILING_SPACES : Addr) (z_CS : Int32) (v_FMT : Value) (t_ : Addr) (x_ : Addr) (ba_ : Addr) (kb_ : ClassId) (c0_ : Int32) (c1_ : Int32) (c2_ : Int32) (h0 : Heap) (n0 : Nat) (SB : own_Start Z s_CHARACTERS s_BYTES s_CHARACTERS_BUT_TRAILING_SPACES z_CS v_FMT) (O0 : Old Z n0 h0) (pr0 : Fld Z h0 t_ "com/example/upshot/upshot/ColumnCatalog$Length" "unit" "Lcom/example/upshot/upshot/ColumnCatalog$Length$Unit;" (.ref s_CHARACTERS_BUT_TRAILING_SPACES)) (pr1 : Exa Z h0 x_ "java/lang/String") (pr2 : Fld Z h0 x_ "java/lang/String" "coder" "B" (.int (0 : Int32))) (pr3 : Fld Z h0 x_ "java/lang/String" "value" "[B" (.ref ba_)) (pr4 : Arv Z h0 ba_ kb_ .byte (3 : Int32) [(.int c0_.toInt8.toInt32), (.int c1_.toInt8.toInt32), (.int c2_.toInt8.toInt32)] (.int 0)) (pr5 : ¬ (c0_ < (0 : Int32))) (pr6 : ¬ (c1_ < (0 : Int32))) (pr7 : ¬ (c2_ < (0 : Int32))) (pr8 : ¬ ((255 : Int32) < c0_)) (pr9 : ¬ ((255 : Int32) < c1_)) (pr10 : ¬ ((255 : Int32) < c2_)) :
    oMet l Z yM15 prog_3_method_5_code 6 (some .long) ws ({ frames := 4, cells := 0, slots := 0, locals := 53 } : Room) 0 0 #[(.ref t_), (.ref x_)] h0 (own_Q_of_trail_3 Z s_CHARACTERS s_BYTES s_CHARACTERS_BUT_TRAILING_SPACES z_CS v_FMT t_ x_ ba_ kb_ c0_ c1_ c2_ h0 n0) := by
  refine oenter own_pn4 #[.val (.ref t_), .val (.ref x_), .unset, .unset, .unset, .unset] (fun m => by first | (simp [entryFrame, mkF, argsToLocals, Value.category]; done) | rfl) ?_
  intro p e s m below meth c s₁ X0 hx hZ hby hml hret hown0 hnm hlk e0
  have hown : s.vm.findClass "com/example/upshot/upshot/ColumnCatalog$Length" = some m.cls := hown0
  have N0 := Fr.nil n0
  obtain ⟨S_s_CHARACTERS, E_s_CHARACTERS, S_s_BYTES, E_s_BYTES, S_s_CHARACTERS_BUT_TRAILING_SPACES, E_s_CHARACTERS_BUT_TRAILING_SPACES, F_s_CHARACTERS_ordinal, F_s_BYTES_ordinal, F_s_CHARACTERS_BUT_TRAILING_SPACES_ordinal, S_CS, H_CS, S_FMT, R_FMT⟩ := (id SB)
  have w14 := hw _ (List.mem_of_getElem? (i := 14) rfl)
  have w48 := hw _ (List.mem_of_getElem? (i := 48) rfl)
  have w57 := hw _ (List.mem_of_getElem? (i := 57) rfl)
  have w59 := hw _ (List.mem_of_getElem? (i := 59) rfl)
  have w61 := hw _ (List.mem_of_getElem? (i := 61) rfl)
  have w62 := hw _ (List.mem_of_getElem? (i := 62) rfl)
  have w63 := hw _ (List.mem_of_getElem? (i := 63) rfl)
  have w64 := hw _ (List.mem_of_getElem? (i := 64) rfl)
  have w65 := hw _ (List.mem_of_getElem? (i := 65) rfl)
  have w66 := hw _ (List.mem_of_getElem? (i := 66) rfl)
  have w106 := hw _ (List.mem_of_getElem? (i := 106) rfl)
  have w107 := hw _ (List.mem_of_getElem? (i := 107) rfl)
  have w108 := hw _ (List.mem_of_getElem? (i := 108) rfl)
  have w109 := hw _ (List.mem_of_getElem? (i := 109) rfl)
  have w110 := hw _ (List.mem_of_getElem? (i := 110) rfl)
  refine o_aloadN X0 hx (hb hby d16_0) rfl rfl ?_
  obtain ⟨T1, X1, e1, st1⟩ := getF X0 hx hZ hown (host := "") (Or.inl w48) Via.refl e0 pr0 (g := (mkF m 1 #[.val (.ref t_), .val (.ref x_), .unset, .unset, .unset, .unset] [(.ref t_)])) rfl rfl (hb hby d16_1)
  refine ogo (S' := T1.setTop (mkF m 4 #[.val (.ref t_), .val (.ref x_), .unset, .unset, .unset, .unset] [(.ref s_CHARACTERS_BUT_TRAILING_SPACES)])) st1 ?_
  obtain ⟨T2, X2, e2, st2⟩ := getS2 X1 hx hZ hown (host := "") (Or.inl w57) Via.refl e1 (Sta.ext O0.2 S_s_BYTES) (g := (mkF m 4 #[.val (.ref t_), .val (.ref x_), .unset, .unset, .unset, .unset] [(.ref s_CHARACTERS_BUT_TRAILING_SPACES)])) rfl (hb hby d16_4)
  refine ogo (S' := T2.setTop (mkF m 7 #[.val (.ref t_), .val (.ref x_), .unset, .unset, .unset, .unset] [(.ref s_BYTES), (.ref s_CHARACTERS_BUT_TRAILING_SPACES)])) st2 ?_
  refine o_acmp X2 hx 20 false rfl rfl (hb hby d16_7) (decide_eq_false fun q => (Fld.ne F_s_CHARACTERS_BUT_TRAILING_SPACES_ordinal F_s_BYTES_ordinal (by decide)) (Value.ref.inj q)) (by decide) (by decide) ?_
  refine o_aloadN X2 hx (hb hby d16_20) rfl rfl ?_
  obtain ⟨T3, X3, e3, st3⟩ := getF X2 hx hZ hown (host := "") (Or.inl w48) Via.refl e2 pr0 (g := (mkF m 21 #[.val (.ref t_), .val (.ref x_), .unset, .unset, .unset, .unset] [(.ref t_)])) rfl rfl (hb hby d16_21)
  refine ogo (S' := T3.setTop (mkF m 24 #[.val (.ref t_), .val (.ref x_), .unset, .unset, .unset, .unset] [(.ref s_CHARACTERS_BUT_TRAILING_SPACES)])) st3 ?_
  obtain ⟨T4, X4, e4, st4⟩ := getS2 X3 hx hZ hown (host := "") (Or.inl w59) Via.refl e3 (Sta.ext O0.2 S_s_CHARACTERS_BUT_TRAILING_SPACES) (g := (mkF m 24 #[.val (.ref t_), .val (.ref x_), .unset, .unset, .unset, .unset] [(.ref s_CHARACTERS_BUT_TRAILING_SPACES)])) rfl (hb hby d16_24)
  refine ogo (S' := T4.setTop (mkF m 27 #[.val (.ref t_), .val (.ref x_), .unset, .unset, .unset, .unset] [(.ref s_CHARACTERS_BUT_TRAILING_SPACES), (.ref s_CHARACTERS_BUT_TRAILING_SPACES)])) st4 ?_
  refine o_acmp X4 hx 30 true rfl rfl (hb hby d16_27) (decide_eq_true rfl) (by decide) (by decide) ?_
  refine o_aloadN X4 hx (hb hby d16_30) rfl rfl ?_
  obtain ⟨T5, X5, e5, st5⟩ := castY X4 hx hZ hown w61 e4 (Ins.self pr1) (g := (mkF m 31 #[.val (.ref t_), .val (.ref x_), .unset, .unset, .unset, .unset] [(.ref x_)])) rfl rfl (hb hby d16_31)
  refine ogo (S' := T5.setTop (mkF m 34 #[.val (.ref t_), .val (.ref x_), .unset, .unset, .unset, .unset] [(.ref x_)])) st5 ?_
  refine o_astore X5 hx (l' := #[.val (.ref t_), .val (.ref x_), .unset, .unset, .val (.ref x_), .unset]) (hb hby d16_34) rfl rfl ?_
  refine o_aload X5 hx (hb hby d16_36) rfl rfl ?_
  obtain ⟨cq6, kq6, q6a, q6b, q6c⟩ := isOf hZ e5 pr1
  obtain ⟨_, _, ⟨T6, L6, kc6, n6⟩, -, X6, ⟨Lc6, hQ6, l6, y6, z6⟩, st6⟩ := X5.virtualBack hx (y := yM17) (z := yM17) hown (mvT hZ w62) (mvT hZ w63) (notFace_of_selects (args := #[]) (mvT hZ w65)) (mvT hZ w65) (mvT hZ w64) (by decide) (backOf (W := 0) (rm_len_3 l Z a0 hw [] s_CHARACTERS s_BYTES s_CHARACTERS_BUT_TRAILING_SPACES z_CS v_FMT x_ ba_ kb_ [(.int c0_.toInt8.toInt32), (.int c1_.toInt8.toInt32), (.int c2_.toInt8.toInt32)] h0 n0 SB O0 pr1 pr2 pr3 pr4) hZ w66 w14 (by decide) (by decide)) q6a q6c (g := (mkF m 38 #[.val (.ref t_), .val (.ref x_), .unset, .unset, .val (.ref x_), .unset] [(.ref x_)])) rfl (by rw [hml]; rfl) (Steps.refl _) (argsL := []) (rest := []) (lenOf own_pd10 rfl) rfl (by show 2 * 0 + _ ≤ _; exact Nat.le_of_eq rfl) (hb hby d16_38) (fun _ _ => ⟨rfl, e5, (by decide : 0 + 0 ≤ _), (by decide : 0 + 0 ≤ _)⟩)
  dsimp only [Pt.U, Pt.locs, Pt.cells, Pt.slots] at X6 l6 y6 z6 st6 hQ6
  subst l6 y6 z6
  obtain ⟨rfl, Nq6, e6⟩ := hQ6
  have N6 := Fr.app N0 Nq6
  refine otr (S' := T6.setTop (mkF m 41 #[.val (.ref t_), .val (.ref x_), .unset, .unset, .val (.ref x_), .unset] [(.int (3 : Int32))])) st6 ?_
  refine o_istore X6 hx (l' := #[.val (.ref t_), .val (.ref x_), .unset, .unset, .val (.ref x_), .val (.int (3 : Int32))]) (hb hby d16_41) rfl ?_
  refine o_iload X6 hx (hb hby d16_43) rfl ?_
  refine o_ifNo X6 hx (hb hby d16_45) (tlt (by decide : (0 : Int32) < (3 : Int32))).2.2.2 ?_
  refine o_aload X6 hx (hb hby d16_48) rfl rfl ?_
  refine o_iload X6 hx (hb hby d16_50) rfl ?_
  refine o_iconst X6 hx (1 : Int32) (hb hby d16_52) rfl ?_
  refine o_isub X6 hx (hb hby d16_53) ?_
  obtain ⟨cq7, kq7, q7a, q7b, q7c⟩ := isOf hZ e6 pr1
  obtain ⟨_, _, ⟨T7, L7, kc7, n7⟩, -, X7, ⟨Lc7, hQ7, l7, y7, z7⟩, st7⟩ := X6.virtualBack hx (y := yM22) (z := yM22) hown (mvT hZ w106) (mvT hZ w107) (notFace_of_selects (args := #[]) (mvT hZ w109)) (mvT hZ w109) (mvT hZ w108) (by decide) (backOf (W := 0) (rm_cat_3_2 l Z a0 hw [] s_CHARACTERS s_BYTES s_CHARACTERS_BUT_TRAILING_SPACES z_CS v_FMT x_ ba_ kb_ c0_ c1_ c2_ h0 n0 SB O0 pr1 pr2 pr3 pr4 pr7 pr10) hZ w110 w14 (by decide) (by decide)) q7a q7c (g := (mkF m 54 #[.val (.ref t_), .val (.ref x_), .unset, .unset, .val (.ref x_), .val (.int (3 : Int32))] [(.int (2 : Int32)), (.ref x_)])) rfl (by rw [hml]; rfl) (Steps.refl _) (argsL := [(.int (2 : Int32))]) (rest := []) (lenOf own_pd15 rfl) rfl (by show 2 * 0 + _ ≤ _; exact Nat.le_of_eq rfl) (hb hby d16_54) (fun _ _ => ⟨rfl, e6, (by decide : 0 + 0 ≤ _), (by decide : 0 + 0 ≤ _)⟩)
  dsimp only [Pt.U, Pt.locs, Pt.cells, Pt.slots] at X7 l7 y7 z7 st7 hQ7
  subst l7 y7 z7
  obtain ⟨rfl, Nq7, e7⟩ := hQ7
  have N7 := Fr.app N6 Nq7
  refine otr (S' := T7.setTop (mkF m 57 #[.val (.ref t_), .val (.ref x_), .unset, .unset, .val (.ref x_), .val (.int (3 : Int32))] [(.int c2_)])) st7 ?_
  refine o_bipush X7 hx (32 : Int32) (hb hby d16_57) rfl ?_
  by_cases hc8 : c2_ = (32 : Int32)
  · refine o_icmpNo X7 hx (hb hby d16_59) (teq hc8).2 ?_
    refine o_iinc X7 hx (l' := #[.val (.ref t_), .val (.ref x_), .unset, .unset, .val (.ref x_), .val (.int (2 : Int32))]) (hb hby d16_62) rfl rfl ?_
    refine o_goto X7 hx 43 (hb hby d16_65) (by decide) (by decide) ?_
    refine o_iload X7 hx (hb hby d16_43) rfl ?_
    refine o_ifNo X7 hx (hb hby d16_45) (tlt (by decide : (0 : Int32) < (2 : Int32))).2.2.2 ?_
    refine o_aload X7 hx (hb hby d16_48) rfl rfl ?_
    refine o_iload X7 hx (hb hby d16_50) rfl ?_
    refine o_iconst X7 hx (1 : Int32) (hb hby d16_52) rfl ?_
    refine o_isub X7 hx (hb hby d16_53) ?_
    obtain ⟨cq9, kq9, q9a, q9b, q9c⟩ := isOf hZ e7 pr1
    obtain ⟨_, _, ⟨T9, L9, kc9, n9⟩, -, X9, ⟨Lc9, hQ9, l9, y9, z9⟩, st9⟩ := X7.virtualBack hx (y := yM22) (z := yM22) hown (mvT hZ w106) (mvT hZ w107) (notFace_of_selects (args := #[]) (mvT hZ w109)) (mvT hZ w109) (mvT hZ w108) (by decide) (backOf (W := 0) (rm_cat_3_1 l Z a0 hw [] s_CHARACTERS s_BYTES s_CHARACTERS_BUT_TRAILING_SPACES z_CS v_FMT x_ ba_ kb_ c0_ c1_ c2_ h0 n0 SB O0 pr1 pr2 pr3 pr4 pr6 pr9) hZ w110 w14 (by decide) (by decide)) q9a q9c (g := (mkF m 54 #[.val (.ref t_), .val (.ref x_), .unset, .unset, .val (.ref x_), .val (.int (2 : Int32))] [(.int (1 : Int32)), (.ref x_)])) rfl (by rw [hml]; rfl) (Steps.refl _) (argsL := [(.int (1 : Int32))]) (rest := []) (lenOf own_pd15 rfl) rfl (by show 2 * 0 + _ ≤ _; exact Nat.le_of_eq rfl) (hb hby d16_54) (fun _ _ => ⟨rfl, e7, (by decide : 0 + 0 ≤ _), (by decide : 0 + 0 ≤ _)⟩)
    dsimp only [Pt.U, Pt.locs, Pt.cells, Pt.slots] at X9 l9 y9 z9 st9 hQ9
    subst l9 y9 z9
    obtain ⟨rfl, Nq9, e9⟩ := hQ9
    have N9 := Fr.app N7 Nq9
    refine otr (S' := T9.setTop (mkF m 57 #[.val (.ref t_), .val (.ref x_), .unset, .unset, .val (.ref x_), .val (.int (2 : Int32))] [(.int c1_)])) st9 ?_
    refine o_bipush X9 hx (32 : Int32) (hb hby d16_57) rfl ?_
    by_cases hc10 : c1_ = (32 : Int32)
    · refine o_icmpNo X9 hx (hb hby d16_59) (teq hc10).2 ?_
      refine o_iinc X9 hx (l' := #[.val (.ref t_), .val (.ref x_), .unset, .unset, .val (.ref x_), .val (.int (1 : Int32))]) (hb hby d16_62) rfl rfl ?_
      refine o_goto X9 hx 43 (hb hby d16_65) (by decide) (by decide) ?_
      refine o_iload X9 hx (hb hby d16_43) rfl ?_
      refine o_ifNo X9 hx (hb hby d16_45) (tlt (by decide : (0 : Int32) < (1 : Int32))).2.2.2 ?_
      refine o_aload X9 hx (hb hby d16_48) rfl rfl ?_
      refine o_iload X9 hx (hb hby d16_50) rfl ?_
      refine o_iconst X9 hx (1 : Int32) (hb hby d16_52) rfl ?_
      refine o_isub X9 hx (hb hby d16_53) ?_
      obtain ⟨cq11, kq11, q11a, q11b, q11c⟩ := isOf hZ e9 pr1
      obtain ⟨_, _, ⟨T11, L11, kc11, n11⟩, -, X11, ⟨Lc11, hQ11, l11, y11, z11⟩, st11⟩ := X9.virtualBack hx (y := yM22) (z := yM22) hown (mvT hZ w106) (mvT hZ w107) (notFace_of_selects (args := #[]) (mvT hZ w109)) (mvT hZ w109) (mvT hZ w108) (by decide) (backOf (W := 0) (rm_cat_3_0 l Z a0 hw [] s_CHARACTERS s_BYTES s_CHARACTERS_BUT_TRAILING_SPACES z_CS v_FMT x_ ba_ kb_ c0_ c1_ c2_ h0 n0 SB O0 pr1 pr2 pr3 pr4 pr5 pr8) hZ w110 w14 (by decide) (by decide)) q11a q11c (g := (mkF m 54 #[.val (.ref t_), .val (.ref x_), .unset, .unset, .val (.ref x_), .val (.int (1 : Int32))] [(.int (0 : Int32)), (.ref x_)])) rfl (by rw [hml]; rfl) (Steps.refl _) (argsL := [(.int (0 : Int32))]) (rest := []) (lenOf own_pd15 rfl) rfl (by show 2 * 0 + _ ≤ _; exact Nat.le_of_eq rfl) (hb hby d16_54) (fun _ _ => ⟨rfl, e9, (by decide : 0 + 0 ≤ _), (by decide : 0 + 0 ≤ _)⟩)
      dsimp only [Pt.U, Pt.locs, Pt.cells, Pt.slots] at X11 l11 y11 z11 st11 hQ11
      subst l11 y11 z11
      obtain ⟨rfl, Nq11, e11⟩ := hQ11
      have N11 := Fr.app N9 Nq11
      refine otr (S' := T11.setTop (mkF m 57 #[.val (.ref t_), .val (.ref x_), .unset, .unset, .val (.ref x_), .val (.int (1 : Int32))] [(.int c0_)])) st11 ?_
      refine o_bipush X11 hx (32 : Int32) (hb hby d16_57) rfl ?_
      by_cases hc12 : c0_ = (32 : Int32)
      · refine o_icmpNo X11 hx (hb hby d16_59) (teq hc12).2 ?_
        refine o_iinc X11 hx (l' := #[.val (.ref t_), .val (.ref x_), .unset, .unset, .val (.ref x_), .val (.int (0 : Int32))]) (hb hby d16_62) rfl rfl ?_
        refine o_goto X11 hx 43 (hb hby d16_65) (by decide) (by decide) ?_
        refine o_iload X11 hx (hb hby d16_43) rfl ?_
        refine o_ifYes X11 hx 68 (hb hby d16_45) (flt (by decide : ¬ ((0 : Int32) < (0 : Int32)))).2.2.2 (by decide) (by decide) ?_
        refine o_iload X11 hx (hb hby d16_68) rfl ?_
        refine o_i2l X11 hx (hb hby d16_70) ?_
        refine o_lstoreN X11 hx (l' := #[.val (.ref t_), .val (.ref x_), .val (.long (0 : Int64)), .second, .val (.ref x_), .val (.int (0 : Int32))]) (hb hby d16_71) rfl ?_
        refine o_goto X11 hx 84 (hb hby d16_72) (by decide) (by decide) ?_
        refine o_lloadN X11 hx (hb hby d16_84) rfl ?_
        refine oend X11 hlk (v := some (.long (0 : Int64))) (fun h => by rw [hret] at h; cases h) (fun fs hr => retOut X11 hx (t := .long) (i := .lreturn) hret rfl (Or.inr (Or.inl ⟨rfl, rfl, _, rfl⟩)) (hb hby d16_85) hr) (by decide) (by decide) ?_
        show own_Q_of_trail_3 Z _ _ _ _ _ _ _ _ _ _ _ _ h0 n0 _ T11.heap _
        rw [e11]
        refine ⟨?_, N11, rfl⟩
        simp [own_tr0, own_tr1, own_tr2, own_tr3, own_tr4, hc8, hc10, hc12]
        try decide
      · refine o_icmpYes X11 hx 68 (hb hby d16_59) (feq hc12).2 (by decide) (by decide) ?_
        refine o_iload X11 hx (hb hby d16_68) rfl ?_
        refine o_i2l X11 hx (hb hby d16_70) ?_
        refine o_lstoreN X11 hx (l' := #[.val (.ref t_), .val (.ref x_), .val (.long (1 : Int64)), .second, .val (.ref x_), .val (.int (1 : Int32))]) (hb hby d16_71) rfl ?_
        refine o_goto X11 hx 84 (hb hby d16_72) (by decide) (by decide) ?_
        refine o_lloadN X11 hx (hb hby d16_84) rfl ?_
        refine oend X11 hlk (v := some (.long (1 : Int64))) (fun h => by rw [hret] at h; cases h) (fun fs hr => retOut X11 hx (t := .long) (i := .lreturn) hret rfl (Or.inr (Or.inl ⟨rfl, rfl, _, rfl⟩)) (hb hby d16_85) hr) (by decide) (by decide) ?_
        show own_Q_of_trail_3 Z _ _ _ _ _ _ _ _ _ _ _ _ h0 n0 _ T11.heap _
        rw [e11]
        refine ⟨?_, N11, rfl⟩
        simp [own_tr0, own_tr1, own_tr2, own_tr3, own_tr4, hc8, hc10, hc12]
        try decide
    · refine o_icmpYes X9 hx 68 (hb hby d16_59) (feq hc10).2 (by decide) (by decide) ?_
      refine o_iload X9 hx (hb hby d16_68) rfl ?_
      refine o_i2l X9 hx (hb hby d16_70) ?_
      refine o_lstoreN X9 hx (l' := #[.val (.ref t_), .val (.ref x_), .val (.long (2 : Int64)), .second, .val (.ref x_), .val (.int (2 : Int32))]) (hb hby d16_71) rfl ?_
      refine o_goto X9 hx 84 (hb hby d16_72) (by decide) (by decide) ?_
      refine o_lloadN X9 hx (hb hby d16_84) rfl ?_
      refine oend X9 hlk (v := some (.long (2 : Int64))) (fun h => by rw [hret] at h; cases h) (fun fs hr => retOut X9 hx (t := .long) (i := .lreturn) hret rfl (Or.inr (Or.inl ⟨rfl, rfl, _, rfl⟩)) (hb hby d16_85) hr) (by decide) (by decide) ?_
      show own_Q_of_trail_3 Z _ _ _ _ _ _ _ _ _ _ _ _ h0 n0 _ T9.heap _
      rw [e9]
      refine ⟨?_, N9, rfl⟩
      simp [own_tr0, own_tr1, own_tr2, own_tr3, own_tr4, hc8, hc10]
      try decide
  · refine o_icmpYes X7 hx 68 (hb hby d16_59) (feq hc8).2 (by decide) (by decide) ?_
    refine o_iload X7 hx (hb hby d16_68) rfl ?_
    refine o_i2l X7 hx (hb hby d16_70) ?_
    refine o_lstoreN X7 hx (l' := #[.val (.ref t_), .val (.ref x_), .val (.long (3 : Int64)), .second, .val (.ref x_), .val (.int (3 : Int32))]) (hb hby d16_71) rfl ?_
    refine o_goto X7 hx 84 (hb hby d16_72) (by decide) (by decide) ?_
    refine o_lloadN X7 hx (hb hby d16_84) rfl ?_
    refine oend X7 hlk (v := some (.long (3 : Int64))) (fun h => by rw [hret] at h; cases h) (fun fs hr => retOut X7 hx (t := .long) (i := .lreturn) hret rfl (Or.inr (Or.inl ⟨rfl, rfl, _, rfl⟩)) (hb hby d16_85) hr) (by decide) (by decide) ?_
    show own_Q_of_trail_3 Z _ _ _ _ _ _ _ _ _ _ _ _ h0 n0 _ T7.heap _
    rw [e7]
    refine ⟨?_, N7, rfl⟩
    simp [own_tr0, own_tr1, own_tr2, own_tr3, own_tr4, hc8]
    try decide
def own_Q_l1c_4_0 (Z : State) (s_CHARACTERS : Addr) (s_BYTES : Addr) (s_CHARACTERS_BUT_TRAILING_SPACES : Addr) (z_CS : Int32) (v_FMT : Value) (ba_ : Addr) (kb_ : ClassId) (c0_ : Int32) (c1_ : Int32) (c2_ : Int32) (c3_ : Int32) (h0 : Heap) (n0 : Nat) (v : Option Value) (h : Heap) (L : List Loc) : Prop := (v = some (.int c0_)) ∧ (Fr n0 L) ∧ (h = h0)
set_option maxRecDepth 65536 in
set_option maxHeartbeats 40000000 in
theorem rm_l1c_4_0 (l : Launch) (Z : State) (a0 : Array Value) (hw : ∀ d ∈ tables_1, d.before a0 Z = true) (ws : List Jvm.Cond) (s_CHARACTERS : Addr) (s_BYTES : Addr) (s_CHARACTERS_BUT_TRAILING_SPACES : Addr) (z_CS : Int32) (v_FMT : Value) (ba_ : Addr) (kb_ : ClassId) (c0_ : Int32) (c1_ : Int32) (c2_ : Int32) (c3_ : Int32) (h0 : Heap) (n0 : Nat) (SB : own_Start Z s_CHARACTERS s_BYTES s_CHARACTERS_BUT_TRAILING_SPACES z_CS v_FMT) (O0 : Old Z n0 h0) (pr0 : Arv Z h0 ba_ kb_ .byte (4 : Int32) [(.int c0_.toInt8.toInt32), (.int c1_.toInt8.toInt32), (.int c2_.toInt8.toInt32), (.int c3_.toInt8.toInt32)] (.int 0)) (pr1 : ¬ (c0_ < (0 : Int32))) (pr2 : ¬ ((255 : Int32) < c0_)) :
    oMet l Z yM21 jdk_43_method_2_code 2 (some .char) ws ({ frames := 2, cells := 0, slots := 0, locals := 27 } : Room) 0 0 #[(.ref ba_), (.int (0 : Int32))] h0 (own_Q_l1c_4_0 Z s_CHARACTERS s_BYTES s_CHARACTERS_BUT_TRAILING_SPACES z_CS v_FMT ba_ kb_ c0_ c1_ c2_ c3_ h0 n0) := by
  refine oenter own_pn1 #[.val (.ref ba_), .val (.int (0 : Int32))] (fun m => by first | (simp [entryFrame, mkF, argsToLocals, Value.category]; done) | rfl) ?_
  intro p e s m below meth c s₁ X0 hx hZ hby hml hret hown0 hnm hlk e0
  have hown : s.vm.findClass "java/lang/StringLatin1" = some m.cls := hown0
  have N0 := Fr.nil n0
  obtain ⟨S_s_CHARACTERS, E_s_CHARACTERS, S_s_BYTES, E_s_BYTES, S_s_CHARACTERS_BUT_TRAILING_SPACES, E_s_CHARACTERS_BUT_TRAILING_SPACES, F_s_CHARACTERS_ordinal, F_s_BYTES_ordinal, F_s_CHARACTERS_BUT_TRAILING_SPACES_ordinal, S_CS, H_CS, S_FMT, R_FMT⟩ := (id SB)
  have w14 := hw _ (List.mem_of_getElem? (i := 14) rfl)
  have w119 := hw _ (List.mem_of_getElem? (i := 119) rfl)
  have w120 := hw _ (List.mem_of_getElem? (i := 120) rfl)
  have w121 := hw _ (List.mem_of_getElem? (i := 121) rfl)
  refine o_iloadN X0 hx (hb hby d22_0) rfl ?_
  refine o_aloadN X0 hx (hb hby d22_1) rfl rfl ?_
  obtain ⟨cl1, Ar1, -, S1, N1z, -, -⟩ := (id pr0)
  refine ogo (S' := s₁.setTop (mkF m 3 #[.val (.ref ba_), .val (.int (0 : Int32))] [(.int (4 : Int32)), (.int (0 : Int32))])) (fun _ kt_ => X0.arraylength hx (by rw [e0]; exact Ar1.1) (State.isArrayOf_alike hZ.alike Ar1.2.1) (g := (mkF m 2 #[.val (.ref ba_), .val (.int (0 : Int32))] [(.ref ba_), (.int (0 : Int32))])) rfl rfl (hb hby d22_2) _ (by rw [len_of S1 N1z]; exact kt_)) ?_
  obtain ⟨_, _, ⟨T2, L2, kc2, n2⟩, -, X2, ⟨Lc2, hQ2, l2, y2, z2⟩, st2⟩ := Jvm.LawKit.callS X0 hx (y := yM20) hown (mvT hZ w119) (mvT hZ w120) (mvT hZ w14) (mvT hZ w121) (by decide) (backOf (W := 0) (rm_sci l Z a0 hw [] s_CHARACTERS s_BYTES s_CHARACTERS_BUT_TRAILING_SPACES z_CS v_FMT (0 : Int32) (4 : Int32) h0 n0 SB O0 (by decide) (by decide)) hZ w121 w14 (by decide) (by decide)) (g := (mkF m 3 #[.val (.ref ba_), .val (.int (0 : Int32))] [(.int (4 : Int32)), (.int (0 : Int32))])) rfl (by rw [hml]; rfl) (argsL := [(.int (0 : Int32)), (.int (4 : Int32))]) (rest := []) (lenOf own_pd12 rfl) rfl (by show 2 * 0 + _ ≤ _; exact Nat.le_of_eq rfl) (hb hby d22_3) (fun _ _ => ⟨rfl, e0, (by decide : 0 + 0 ≤ _), (by decide : 0 + 0 ≤ _)⟩)
  dsimp only [Pt.U, Pt.locs, Pt.cells, Pt.slots] at X2 l2 y2 z2 st2 hQ2
  subst l2 y2 z2
  obtain ⟨rfl, Nq2, e2⟩ := hQ2
  have N2 := Fr.app N0 Nq2
  refine ogo (S' := T2.setTop (mkF m 6 #[.val (.ref ba_), .val (.int (0 : Int32))] [])) st2 ?_
  refine o_aloadN X2 hx (hb hby d22_6) rfl rfl ?_
  refine o_iloadN X2 hx (hb hby d22_7) rfl ?_
  obtain ⟨cl3, Ar3, q3, S3, N3z, H3, G3⟩ := (id pr0)
  have hi3 := inb_of (j := (0 : Int32)) S3 ⟨by decide, by decide⟩
  have ha3 := Has.at (v := (.int c0_.toInt8.toInt32)) H3 hi3 rfl
  refine ogo (S' := T2.setTop (mkF m 9 #[.val (.ref ba_), .val (.int (0 : Int32))] [(.int c0_.toInt8.toInt32)])) (X2.baloadBytes hx (j := (0 : Int32)) (v := (.int c0_.toInt8.toInt32)) (by rw [e2]; exact Ar3.1) (State.isArrayOf_alike hZ.alike Ar3.2.1) Ar3.2.2 hi3 ha3 (g := (mkF m 8 #[.val (.ref ba_), .val (.int (0 : Int32))] [(.int (0 : Int32)), (.ref ba_)])) rfl rfl (hb hby d22_8)) ?_
  refine o_sipush X2 hx (255 : Int32) (hb hby d22_9) rfl ?_
  refine o_iand X2 hx (hb hby d22_12) ?_
  refine o_i2c X2 hx (hb hby d22_13) ?_
  rw [own_char pr1 pr2]
  refine oend X2 hlk (v := some (.int c0_)) (fun h => by rw [hret] at h; cases h) (fun fs hr => retN X2 hx (t := .char) hret (by simp) (hb hby d22_14) (by rw [(own_narsm pr1 pr2)]; exact hr)) (by decide) (by decide) ?_
  show own_Q_l1c_4_0 Z _ _ _ _ _ _ _ _ _ _ _ h0 n0 _ T2.heap _
  rw [e2]
  exact ⟨rfl, N2, rfl⟩
def own_Q_cat_4_0 (Z : State) (s_CHARACTERS : Addr) (s_BYTES : Addr) (s_CHARACTERS_BUT_TRAILING_SPACES : Addr) (z_CS : Int32) (v_FMT : Value) (x_ : Addr) (ba_ : Addr) (kb_ : ClassId) (c0_ : Int32) (c1_ : Int32) (c2_ : Int32) (c3_ : Int32) (h0 : Heap) (n0 : Nat) (v : Option Value) (h : Heap) (L : List Loc) : Prop := (v = some (.int c0_)) ∧ (Fr n0 L) ∧ (h = h0)
set_option maxRecDepth 65536 in
set_option maxHeartbeats 40000000 in
theorem rm_cat_4_0 (l : Launch) (Z : State) (a0 : Array Value) (hw : ∀ d ∈ tables_1, d.before a0 Z = true) (ws : List Jvm.Cond) (s_CHARACTERS : Addr) (s_BYTES : Addr) (s_CHARACTERS_BUT_TRAILING_SPACES : Addr) (z_CS : Int32) (v_FMT : Value) (x_ : Addr) (ba_ : Addr) (kb_ : ClassId) (c0_ : Int32) (c1_ : Int32) (c2_ : Int32) (c3_ : Int32) (h0 : Heap) (n0 : Nat) (SB : own_Start Z s_CHARACTERS s_BYTES s_CHARACTERS_BUT_TRAILING_SPACES z_CS v_FMT) (O0 : Old Z n0 h0) (pr0 : Exa Z h0 x_ "java/lang/String") (pr1 : Fld Z h0 x_ "java/lang/String" "coder" "B" (.int (0 : Int32))) (pr2 : Fld Z h0 x_ "java/lang/String" "value" "[B" (.ref ba_)) (pr3 : Arv Z h0 ba_ kb_ .byte (4 : Int32) [(.int c0_.toInt8.toInt32), (.int c1_.toInt8.toInt32), (.int c2_.toInt8.toInt32), (.int c3_.toInt8.toInt32)] (.int 0)) (pr4 : ¬ (c0_ < (0 : Int32))) (pr5 : ¬ ((255 : Int32) < c0_)) :
    oMet l Z yM22 jdk_42_method_56_code 2 (some .char) ws ({ frames := 3, cells := 0, slots := 0, locals := 40 } : Room) 0 0 #[(.ref x_), (.int (0 : Int32))] h0 (own_Q_cat_4_0 Z s_CHARACTERS s_BYTES s_CHARACTERS_BUT_TRAILING_SPACES z_CS v_FMT x_ ba_ kb_ c0_ c1_ c2_ c3_ h0 n0) := by
  refine oenter own_pn2 #[.val (.ref x_), .val (.int (0 : Int32))] (fun m => by first | (simp [entryFrame, mkF, argsToLocals, Value.category]; done) | rfl) ?_
  intro p e s m below meth c s₁ X0 hx hZ hby hml hret hown0 hnm hlk e0
  have hown : s.vm.findClass "java/lang/String" = some m.cls := hown0
  have N0 := Fr.nil n0
  obtain ⟨S_s_CHARACTERS, E_s_CHARACTERS, S_s_BYTES, E_s_BYTES, S_s_CHARACTERS_BUT_TRAILING_SPACES, E_s_CHARACTERS_BUT_TRAILING_SPACES, F_s_CHARACTERS_ordinal, F_s_BYTES_ordinal, F_s_CHARACTERS_BUT_TRAILING_SPACES_ordinal, S_CS, H_CS, S_FMT, R_FMT⟩ := (id SB)
  have w14 := hw _ (List.mem_of_getElem? (i := 14) rfl)
  have w39 := hw _ (List.mem_of_getElem? (i := 39) rfl)
  have w97 := hw _ (List.mem_of_getElem? (i := 97) rfl)
  have w111 := hw _ (List.mem_of_getElem? (i := 111) rfl)
  have w112 := hw _ (List.mem_of_getElem? (i := 112) rfl)
  have w113 := hw _ (List.mem_of_getElem? (i := 113) rfl)
  have w114 := hw _ (List.mem_of_getElem? (i := 114) rfl)
  have w115 := hw _ (List.mem_of_getElem? (i := 115) rfl)
  have w116 := hw _ (List.mem_of_getElem? (i := 116) rfl)
  have w117 := hw _ (List.mem_of_getElem? (i := 117) rfl)
  have w118 := hw _ (List.mem_of_getElem? (i := 118) rfl)
  refine o_aloadN X0 hx (hb hby d23_0) rfl rfl ?_
  obtain ⟨cq1, kq1, q1a, q1b, q1c⟩ := isOf hZ e0 pr0
  obtain ⟨_, _, ⟨T1, L1, kc1, n1⟩, -, X1, ⟨Lc1, hQ1, l1, y1, z1⟩, st1⟩ := X0.virtualBack hx (y := yM18) (z := yM18) hown (mvT hZ w111) (mvT hZ w112) (notFace_of_selects (args := #[]) (mvT hZ w114)) (mvT hZ w114) (mvT hZ w113) (by decide) (backOf (W := 0) (rm_isl1 l Z a0 hw [] s_CHARACTERS s_BYTES s_CHARACTERS_BUT_TRAILING_SPACES z_CS v_FMT x_ h0 n0 SB O0 pr1) hZ w115 w14 (by decide) (by decide)) q1a q1c (g := (mkF m 1 #[.val (.ref x_), .val (.int (0 : Int32))] [(.ref x_)])) rfl (by rw [hml]; rfl) (Steps.refl _) (argsL := []) (rest := []) (lenOf own_pd13 rfl) rfl (by show 2 * 0 + _ ≤ _; exact Nat.le_of_eq rfl) (hb hby d23_1) (fun _ _ => ⟨rfl, e0, (by decide : 0 + 0 ≤ _), (by decide : 0 + 0 ≤ _)⟩)
  dsimp only [Pt.U, Pt.locs, Pt.cells, Pt.slots] at X1 l1 y1 z1 st1 hQ1
  subst l1 y1 z1
  obtain ⟨rfl, Nq1, e1⟩ := hQ1
  have N1 := Fr.app N0 Nq1
  refine otr (S' := T1.setTop (mkF m 4 #[.val (.ref x_), .val (.int (0 : Int32))] [(.int (1 : Int32))])) st1 ?_
  refine o_ifNo X1 hx (hb hby d23_4) (feq (by decide : ¬ ((1 : Int32) = (0 : Int32)))).1 ?_
  refine o_aloadN X1 hx (hb hby d23_7) rfl rfl ?_
  obtain ⟨T2, X2, e2, st2⟩ := getF X1 hx hZ hown (host := "") (Or.inl w39) Via.refl e1 pr2 (g := (mkF m 8 #[.val (.ref x_), .val (.int (0 : Int32))] [(.ref x_)])) rfl rfl (hb hby d23_8)
  refine ogo (S' := T2.setTop (mkF m 11 #[.val (.ref x_), .val (.int (0 : Int32))] [(.ref ba_)])) st2 ?_
  refine o_iloadN X2 hx (hb hby d23_11) rfl ?_
  obtain ⟨_, _, ⟨T3, L3, kc3, n3⟩, -, X3, ⟨Lc3, hQ3, l3, y3, z3⟩, st3⟩ := Jvm.LawKit.callS X2 hx (y := yM21) hown (mvT hZ w116) (mvT hZ w117) (mvT hZ w97) (mvT hZ w118) (by decide) (backOf (W := 0) (rm_l1c_4_0 l Z a0 hw [] s_CHARACTERS s_BYTES s_CHARACTERS_BUT_TRAILING_SPACES z_CS v_FMT ba_ kb_ c0_ c1_ c2_ c3_ h0 n0 SB O0 pr3 pr4 pr5) hZ w118 w97 (by decide) (by decide)) (g := (mkF m 12 #[.val (.ref x_), .val (.int (0 : Int32))] [(.int (0 : Int32)), (.ref ba_)])) rfl (by rw [hml]; rfl) (argsL := [(.ref ba_), (.int (0 : Int32))]) (rest := []) (lenOf own_pd14 rfl) rfl (by show 2 * 0 + _ ≤ _; exact Nat.le_of_eq rfl) (hb hby d23_12) (fun _ _ => ⟨rfl, e2, (by decide : 0 + 0 ≤ _), (by decide : 0 + 0 ≤ _)⟩)
  dsimp only [Pt.U, Pt.locs, Pt.cells, Pt.slots] at X3 l3 y3 z3 st3 hQ3
  subst l3 y3 z3
  obtain ⟨rfl, Nq3, e3⟩ := hQ3
  have N3 := Fr.app N1 Nq3
  refine ogo (S' := T3.setTop (mkF m 15 #[.val (.ref x_), .val (.int (0 : Int32))] [(.int c0_)])) st3 ?_
  refine oend X3 hlk (v := some (.int c0_)) (fun h => by rw [hret] at h; cases h) (fun fs hr => retN X3 hx (t := .char) hret (by simp) (hb hby d23_15) (by rw [(own_narsm pr4 pr5)]; exact hr)) (by decide) (by decide) ?_
  show own_Q_cat_4_0 Z _ _ _ _ _ _ _ _ _ _ _ _ h0 n0 _ T3.heap _
  rw [e3]
  exact ⟨rfl, N3, rfl⟩
def own_Q_l1c_4_1 (Z : State) (s_CHARACTERS : Addr) (s_BYTES : Addr) (s_CHARACTERS_BUT_TRAILING_SPACES : Addr) (z_CS : Int32) (v_FMT : Value) (ba_ : Addr) (kb_ : ClassId) (c0_ : Int32) (c1_ : Int32) (c2_ : Int32) (c3_ : Int32) (h0 : Heap) (n0 : Nat) (v : Option Value) (h : Heap) (L : List Loc) : Prop := (v = some (.int c1_)) ∧ (Fr n0 L) ∧ (h = h0)
set_option maxRecDepth 65536 in
set_option maxHeartbeats 40000000 in
theorem rm_l1c_4_1 (l : Launch) (Z : State) (a0 : Array Value) (hw : ∀ d ∈ tables_1, d.before a0 Z = true) (ws : List Jvm.Cond) (s_CHARACTERS : Addr) (s_BYTES : Addr) (s_CHARACTERS_BUT_TRAILING_SPACES : Addr) (z_CS : Int32) (v_FMT : Value) (ba_ : Addr) (kb_ : ClassId) (c0_ : Int32) (c1_ : Int32) (c2_ : Int32) (c3_ : Int32) (h0 : Heap) (n0 : Nat) (SB : own_Start Z s_CHARACTERS s_BYTES s_CHARACTERS_BUT_TRAILING_SPACES z_CS v_FMT) (O0 : Old Z n0 h0) (pr0 : Arv Z h0 ba_ kb_ .byte (4 : Int32) [(.int c0_.toInt8.toInt32), (.int c1_.toInt8.toInt32), (.int c2_.toInt8.toInt32), (.int c3_.toInt8.toInt32)] (.int 0)) (pr1 : ¬ (c1_ < (0 : Int32))) (pr2 : ¬ ((255 : Int32) < c1_)) :
    oMet l Z yM21 jdk_43_method_2_code 2 (some .char) ws ({ frames := 2, cells := 0, slots := 0, locals := 27 } : Room) 0 0 #[(.ref ba_), (.int (1 : Int32))] h0 (own_Q_l1c_4_1 Z s_CHARACTERS s_BYTES s_CHARACTERS_BUT_TRAILING_SPACES z_CS v_FMT ba_ kb_ c0_ c1_ c2_ c3_ h0 n0) := by
  refine oenter own_pn1 #[.val (.ref ba_), .val (.int (1 : Int32))] (fun m => by first | (simp [entryFrame, mkF, argsToLocals, Value.category]; done) | rfl) ?_
  intro p e s m below meth c s₁ X0 hx hZ hby hml hret hown0 hnm hlk e0
  have hown : s.vm.findClass "java/lang/StringLatin1" = some m.cls := hown0
  have N0 := Fr.nil n0
  obtain ⟨S_s_CHARACTERS, E_s_CHARACTERS, S_s_BYTES, E_s_BYTES, S_s_CHARACTERS_BUT_TRAILING_SPACES, E_s_CHARACTERS_BUT_TRAILING_SPACES, F_s_CHARACTERS_ordinal, F_s_BYTES_ordinal, F_s_CHARACTERS_BUT_TRAILING_SPACES_ordinal, S_CS, H_CS, S_FMT, R_FMT⟩ := (id SB)
  have w14 := hw _ (List.mem_of_getElem? (i := 14) rfl)
  have w119 := hw _ (List.mem_of_getElem? (i := 119) rfl)
  have w120 := hw _ (List.mem_of_getElem? (i := 120) rfl)
  have w121 := hw _ (List.mem_of_getElem? (i := 121) rfl)
  refine o_iloadN X0 hx (hb hby d22_0) rfl ?_
  refine o_aloadN X0 hx (hb hby d22_1) rfl rfl ?_
  obtain ⟨cl1, Ar1, -, S1, N1z, -, -⟩ := (id pr0)
  refine ogo (S' := s₁.setTop (mkF m 3 #[.val (.ref ba_), .val (.int (1 : Int32))] [(.int (4 : Int32)), (.int (1 : Int32))])) (fun _ kt_ => X0.arraylength hx (by rw [e0]; exact Ar1.1) (State.isArrayOf_alike hZ.alike Ar1.2.1) (g := (mkF m 2 #[.val (.ref ba_), .val (.int (1 : Int32))] [(.ref ba_), (.int (1 : Int32))])) rfl rfl (hb hby d22_2) _ (by rw [len_of S1 N1z]; exact kt_)) ?_
  obtain ⟨_, _, ⟨T2, L2, kc2, n2⟩, -, X2, ⟨Lc2, hQ2, l2, y2, z2⟩, st2⟩ := Jvm.LawKit.callS X0 hx (y := yM20) hown (mvT hZ w119) (mvT hZ w120) (mvT hZ w14) (mvT hZ w121) (by decide) (backOf (W := 0) (rm_sci l Z a0 hw [] s_CHARACTERS s_BYTES s_CHARACTERS_BUT_TRAILING_SPACES z_CS v_FMT (1 : Int32) (4 : Int32) h0 n0 SB O0 (by decide) (by decide)) hZ w121 w14 (by decide) (by decide)) (g := (mkF m 3 #[.val (.ref ba_), .val (.int (1 : Int32))] [(.int (4 : Int32)), (.int (1 : Int32))])) rfl (by rw [hml]; rfl) (argsL := [(.int (1 : Int32)), (.int (4 : Int32))]) (rest := []) (lenOf own_pd12 rfl) rfl (by show 2 * 0 + _ ≤ _; exact Nat.le_of_eq rfl) (hb hby d22_3) (fun _ _ => ⟨rfl, e0, (by decide : 0 + 0 ≤ _), (by decide : 0 + 0 ≤ _)⟩)
  dsimp only [Pt.U, Pt.locs, Pt.cells, Pt.slots] at X2 l2 y2 z2 st2 hQ2
  subst l2 y2 z2
  obtain ⟨rfl, Nq2, e2⟩ := hQ2
  have N2 := Fr.app N0 Nq2
  refine ogo (S' := T2.setTop (mkF m 6 #[.val (.ref ba_), .val (.int (1 : Int32))] [])) st2 ?_
  refine o_aloadN X2 hx (hb hby d22_6) rfl rfl ?_
  refine o_iloadN X2 hx (hb hby d22_7) rfl ?_
  obtain ⟨cl3, Ar3, q3, S3, N3z, H3, G3⟩ := (id pr0)
  have hi3 := inb_of (j := (1 : Int32)) S3 ⟨by decide, by decide⟩
  have ha3 := Has.at (v := (.int c1_.toInt8.toInt32)) H3 hi3 rfl
  refine ogo (S' := T2.setTop (mkF m 9 #[.val (.ref ba_), .val (.int (1 : Int32))] [(.int c1_.toInt8.toInt32)])) (X2.baloadBytes hx (j := (1 : Int32)) (v := (.int c1_.toInt8.toInt32)) (by rw [e2]; exact Ar3.1) (State.isArrayOf_alike hZ.alike Ar3.2.1) Ar3.2.2 hi3 ha3 (g := (mkF m 8 #[.val (.ref ba_), .val (.int (1 : Int32))] [(.int (1 : Int32)), (.ref ba_)])) rfl rfl (hb hby d22_8)) ?_
  refine o_sipush X2 hx (255 : Int32) (hb hby d22_9) rfl ?_
  refine o_iand X2 hx (hb hby d22_12) ?_
  refine o_i2c X2 hx (hb hby d22_13) ?_
  rw [own_char pr1 pr2]
  refine oend X2 hlk (v := some (.int c1_)) (fun h => by rw [hret] at h; cases h) (fun fs hr => retN X2 hx (t := .char) hret (by simp) (hb hby d22_14) (by rw [(own_narsm pr1 pr2)]; exact hr)) (by decide) (by decide) ?_
  show own_Q_l1c_4_1 Z _ _ _ _ _ _ _ _ _ _ _ h0 n0 _ T2.heap _
  rw [e2]
  exact ⟨rfl, N2, rfl⟩
def own_Q_cat_4_1 (Z : State) (s_CHARACTERS : Addr) (s_BYTES : Addr) (s_CHARACTERS_BUT_TRAILING_SPACES : Addr) (z_CS : Int32) (v_FMT : Value) (x_ : Addr) (ba_ : Addr) (kb_ : ClassId) (c0_ : Int32) (c1_ : Int32) (c2_ : Int32) (c3_ : Int32) (h0 : Heap) (n0 : Nat) (v : Option Value) (h : Heap) (L : List Loc) : Prop := (v = some (.int c1_)) ∧ (Fr n0 L) ∧ (h = h0)
set_option maxRecDepth 65536 in
set_option maxHeartbeats 40000000 in
theorem rm_cat_4_1 (l : Launch) (Z : State) (a0 : Array Value) (hw : ∀ d ∈ tables_1, d.before a0 Z = true) (ws : List Jvm.Cond) (s_CHARACTERS : Addr) (s_BYTES : Addr) (s_CHARACTERS_BUT_TRAILING_SPACES : Addr) (z_CS : Int32) (v_FMT : Value) (x_ : Addr) (ba_ : Addr) (kb_ : ClassId) (c0_ : Int32) (c1_ : Int32) (c2_ : Int32) (c3_ : Int32) (h0 : Heap) (n0 : Nat) (SB : own_Start Z s_CHARACTERS s_BYTES s_CHARACTERS_BUT_TRAILING_SPACES z_CS v_FMT) (O0 : Old Z n0 h0) (pr0 : Exa Z h0 x_ "java/lang/String") (pr1 : Fld Z h0 x_ "java/lang/String" "coder" "B" (.int (0 : Int32))) (pr2 : Fld Z h0 x_ "java/lang/String" "value" "[B" (.ref ba_)) (pr3 : Arv Z h0 ba_ kb_ .byte (4 : Int32) [(.int c0_.toInt8.toInt32), (.int c1_.toInt8.toInt32), (.int c2_.toInt8.toInt32), (.int c3_.toInt8.toInt32)] (.int 0)) (pr4 : ¬ (c1_ < (0 : Int32))) (pr5 : ¬ ((255 : Int32) < c1_)) :
    oMet l Z yM22 jdk_42_method_56_code 2 (some .char) ws ({ frames := 3, cells := 0, slots := 0, locals := 40 } : Room) 0 0 #[(.ref x_), (.int (1 : Int32))] h0 (own_Q_cat_4_1 Z s_CHARACTERS s_BYTES s_CHARACTERS_BUT_TRAILING_SPACES z_CS v_FMT x_ ba_ kb_ c0_ c1_ c2_ c3_ h0 n0) := by
  refine oenter own_pn2 #[.val (.ref x_), .val (.int (1 : Int32))] (fun m => by first | (simp [entryFrame, mkF, argsToLocals, Value.category]; done) | rfl) ?_
  intro p e s m below meth c s₁ X0 hx hZ hby hml hret hown0 hnm hlk e0
  have hown : s.vm.findClass "java/lang/String" = some m.cls := hown0
  have N0 := Fr.nil n0
  obtain ⟨S_s_CHARACTERS, E_s_CHARACTERS, S_s_BYTES, E_s_BYTES, S_s_CHARACTERS_BUT_TRAILING_SPACES, E_s_CHARACTERS_BUT_TRAILING_SPACES, F_s_CHARACTERS_ordinal, F_s_BYTES_ordinal, F_s_CHARACTERS_BUT_TRAILING_SPACES_ordinal, S_CS, H_CS, S_FMT, R_FMT⟩ := (id SB)
  have w14 := hw _ (List.mem_of_getElem? (i := 14) rfl)
  have w39 := hw _ (List.mem_of_getElem? (i := 39) rfl)
  have w97 := hw _ (List.mem_of_getElem? (i := 97) rfl)
  have w111 := hw _ (List.mem_of_getElem? (i := 111) rfl)
  have w112 := hw _ (List.mem_of_getElem? (i := 112) rfl)
  have w113 := hw _ (List.mem_of_getElem? (i := 113) rfl)
  have w114 := hw _ (List.mem_of_getElem? (i := 114) rfl)
  have w115 := hw _ (List.mem_of_getElem? (i := 115) rfl)
  have w116 := hw _ (List.mem_of_getElem? (i := 116) rfl)
  have w117 := hw _ (List.mem_of_getElem? (i := 117) rfl)
  have w118 := hw _ (List.mem_of_getElem? (i := 118) rfl)
  refine o_aloadN X0 hx (hb hby d23_0) rfl rfl ?_
  obtain ⟨cq1, kq1, q1a, q1b, q1c⟩ := isOf hZ e0 pr0
  obtain ⟨_, _, ⟨T1, L1, kc1, n1⟩, -, X1, ⟨Lc1, hQ1, l1, y1, z1⟩, st1⟩ := X0.virtualBack hx (y := yM18) (z := yM18) hown (mvT hZ w111) (mvT hZ w112) (notFace_of_selects (args := #[]) (mvT hZ w114)) (mvT hZ w114) (mvT hZ w113) (by decide) (backOf (W := 0) (rm_isl1 l Z a0 hw [] s_CHARACTERS s_BYTES s_CHARACTERS_BUT_TRAILING_SPACES z_CS v_FMT x_ h0 n0 SB O0 pr1) hZ w115 w14 (by decide) (by decide)) q1a q1c (g := (mkF m 1 #[.val (.ref x_), .val (.int (1 : Int32))] [(.ref x_)])) rfl (by rw [hml]; rfl) (Steps.refl _) (argsL := []) (rest := []) (lenOf own_pd13 rfl) rfl (by show 2 * 0 + _ ≤ _; exact Nat.le_of_eq rfl) (hb hby d23_1) (fun _ _ => ⟨rfl, e0, (by decide : 0 + 0 ≤ _), (by decide : 0 + 0 ≤ _)⟩)
  dsimp only [Pt.U, Pt.locs, Pt.cells, Pt.slots] at X1 l1 y1 z1 st1 hQ1
  subst l1 y1 z1
  obtain ⟨rfl, Nq1, e1⟩ := hQ1
  have N1 := Fr.app N0 Nq1
  refine otr (S' := T1.setTop (mkF m 4 #[.val (.ref x_), .val (.int (1 : Int32))] [(.int (1 : Int32))])) st1 ?_
  refine o_ifNo X1 hx (hb hby d23_4) (feq (by decide : ¬ ((1 : Int32) = (0 : Int32)))).1 ?_
  refine o_aloadN X1 hx (hb hby d23_7) rfl rfl ?_
  obtain ⟨T2, X2, e2, st2⟩ := getF X1 hx hZ hown (host := "") (Or.inl w39) Via.refl e1 pr2 (g := (mkF m 8 #[.val (.ref x_), .val (.int (1 : Int32))] [(.ref x_)])) rfl rfl (hb hby d23_8)
  refine ogo (S' := T2.setTop (mkF m 11 #[.val (.ref x_), .val (.int (1 : Int32))] [(.ref ba_)])) st2 ?_
  refine o_iloadN X2 hx (hb hby d23_11) rfl ?_
  obtain ⟨_, _, ⟨T3, L3, kc3, n3⟩, -, X3, ⟨Lc3, hQ3, l3, y3, z3⟩, st3⟩ := Jvm.LawKit.callS X2 hx (y := yM21) hown (mvT hZ w116) (mvT hZ w117) (mvT hZ w97) (mvT hZ w118) (by decide) (backOf (W := 0) (rm_l1c_4_1 l Z a0 hw [] s_CHARACTERS s_BYTES s_CHARACTERS_BUT_TRAILING_SPACES z_CS v_FMT ba_ kb_ c0_ c1_ c2_ c3_ h0 n0 SB O0 pr3 pr4 pr5) hZ w118 w97 (by decide) (by decide)) (g := (mkF m 12 #[.val (.ref x_), .val (.int (1 : Int32))] [(.int (1 : Int32)), (.ref ba_)])) rfl (by rw [hml]; rfl) (argsL := [(.ref ba_), (.int (1 : Int32))]) (rest := []) (lenOf own_pd14 rfl) rfl (by show 2 * 0 + _ ≤ _; exact Nat.le_of_eq rfl) (hb hby d23_12) (fun _ _ => ⟨rfl, e2, (by decide : 0 + 0 ≤ _), (by decide : 0 + 0 ≤ _)⟩)
  dsimp only [Pt.U, Pt.locs, Pt.cells, Pt.slots] at X3 l3 y3 z3 st3 hQ3
  subst l3 y3 z3
  obtain ⟨rfl, Nq3, e3⟩ := hQ3
  have N3 := Fr.app N1 Nq3
  refine ogo (S' := T3.setTop (mkF m 15 #[.val (.ref x_), .val (.int (1 : Int32))] [(.int c1_)])) st3 ?_
  refine oend X3 hlk (v := some (.int c1_)) (fun h => by rw [hret] at h; cases h) (fun fs hr => retN X3 hx (t := .char) hret (by simp) (hb hby d23_15) (by rw [(own_narsm pr4 pr5)]; exact hr)) (by decide) (by decide) ?_
  show own_Q_cat_4_1 Z _ _ _ _ _ _ _ _ _ _ _ _ h0 n0 _ T3.heap _
  rw [e3]
  exact ⟨rfl, N3, rfl⟩
def own_Q_l1c_4_2 (Z : State) (s_CHARACTERS : Addr) (s_BYTES : Addr) (s_CHARACTERS_BUT_TRAILING_SPACES : Addr) (z_CS : Int32) (v_FMT : Value) (ba_ : Addr) (kb_ : ClassId) (c0_ : Int32) (c1_ : Int32) (c2_ : Int32) (c3_ : Int32) (h0 : Heap) (n0 : Nat) (v : Option Value) (h : Heap) (L : List Loc) : Prop := (v = some (.int c2_)) ∧ (Fr n0 L) ∧ (h = h0)
set_option maxRecDepth 65536 in
set_option maxHeartbeats 40000000 in
theorem rm_l1c_4_2 (l : Launch) (Z : State) (a0 : Array Value) (hw : ∀ d ∈ tables_1, d.before a0 Z = true) (ws : List Jvm.Cond) (s_CHARACTERS : Addr) (s_BYTES : Addr) (s_CHARACTERS_BUT_TRAILING_SPACES : Addr) (z_CS : Int32) (v_FMT : Value) (ba_ : Addr) (kb_ : ClassId) (c0_ : Int32) (c1_ : Int32) (c2_ : Int32) (c3_ : Int32) (h0 : Heap) (n0 : Nat) (SB : own_Start Z s_CHARACTERS s_BYTES s_CHARACTERS_BUT_TRAILING_SPACES z_CS v_FMT) (O0 : Old Z n0 h0) (pr0 : Arv Z h0 ba_ kb_ .byte (4 : Int32) [(.int c0_.toInt8.toInt32), (.int c1_.toInt8.toInt32), (.int c2_.toInt8.toInt32), (.int c3_.toInt8.toInt32)] (.int 0)) (pr1 : ¬ (c2_ < (0 : Int32))) (pr2 : ¬ ((255 : Int32) < c2_)) :
    oMet l Z yM21 jdk_43_method_2_code 2 (some .char) ws ({ frames := 2, cells := 0, slots := 0, locals := 27 } : Room) 0 0 #[(.ref ba_), (.int (2 : Int32))] h0 (own_Q_l1c_4_2 Z s_CHARACTERS s_BYTES s_CHARACTERS_BUT_TRAILING_SPACES z_CS v_FMT ba_ kb_ c0_ c1_ c2_ c3_ h0 n0) := by
  refine oenter own_pn1 #[.val (.ref ba_), .val (.int (2 : Int32))] (fun m => by first | (simp [entryFrame, mkF, argsToLocals, Value.category]; done) | rfl) ?_
  intro p e s m below meth c s₁ X0 hx hZ hby hml hret hown0 hnm hlk e0
  have hown : s.vm.findClass "java/lang/StringLatin1" = some m.cls := hown0
  have N0 := Fr.nil n0
  obtain ⟨S_s_CHARACTERS, E_s_CHARACTERS, S_s_BYTES, E_s_BYTES, S_s_CHARACTERS_BUT_TRAILING_SPACES, E_s_CHARACTERS_BUT_TRAILING_SPACES, F_s_CHARACTERS_ordinal, F_s_BYTES_ordinal, F_s_CHARACTERS_BUT_TRAILING_SPACES_ordinal, S_CS, H_CS, S_FMT, R_FMT⟩ := (id SB)
  have w14 := hw _ (List.mem_of_getElem? (i := 14) rfl)
  have w119 := hw _ (List.mem_of_getElem? (i := 119) rfl)
  have w120 := hw _ (List.mem_of_getElem? (i := 120) rfl)
  have w121 := hw _ (List.mem_of_getElem? (i := 121) rfl)
  refine o_iloadN X0 hx (hb hby d22_0) rfl ?_
  refine o_aloadN X0 hx (hb hby d22_1) rfl rfl ?_
  obtain ⟨cl1, Ar1, -, S1, N1z, -, -⟩ := (id pr0)
  refine ogo (S' := s₁.setTop (mkF m 3 #[.val (.ref ba_), .val (.int (2 : Int32))] [(.int (4 : Int32)), (.int (2 : Int32))])) (fun _ kt_ => X0.arraylength hx (by rw [e0]; exact Ar1.1) (State.isArrayOf_alike hZ.alike Ar1.2.1) (g := (mkF m 2 #[.val (.ref ba_), .val (.int (2 : Int32))] [(.ref ba_), (.int (2 : Int32))])) rfl rfl (hb hby d22_2) _ (by rw [len_of S1 N1z]; exact kt_)) ?_
  obtain ⟨_, _, ⟨T2, L2, kc2, n2⟩, -, X2, ⟨Lc2, hQ2, l2, y2, z2⟩, st2⟩ := Jvm.LawKit.callS X0 hx (y := yM20) hown (mvT hZ w119) (mvT hZ w120) (mvT hZ w14) (mvT hZ w121) (by decide) (backOf (W := 0) (rm_sci l Z a0 hw [] s_CHARACTERS s_BYTES s_CHARACTERS_BUT_TRAILING_SPACES z_CS v_FMT (2 : Int32) (4 : Int32) h0 n0 SB O0 (by decide) (by decide)) hZ w121 w14 (by decide) (by decide)) (g := (mkF m 3 #[.val (.ref ba_), .val (.int (2 : Int32))] [(.int (4 : Int32)), (.int (2 : Int32))])) rfl (by rw [hml]; rfl) (argsL := [(.int (2 : Int32)), (.int (4 : Int32))]) (rest := []) (lenOf own_pd12 rfl) rfl (by show 2 * 0 + _ ≤ _; exact Nat.le_of_eq rfl) (hb hby d22_3) (fun _ _ => ⟨rfl, e0, (by decide : 0 + 0 ≤ _), (by decide : 0 + 0 ≤ _)⟩)
  dsimp only [Pt.U, Pt.locs, Pt.cells, Pt.slots] at X2 l2 y2 z2 st2 hQ2
  subst l2 y2 z2
  obtain ⟨rfl, Nq2, e2⟩ := hQ2
  have N2 := Fr.app N0 Nq2
  refine ogo (S' := T2.setTop (mkF m 6 #[.val (.ref ba_), .val (.int (2 : Int32))] [])) st2 ?_
  refine o_aloadN X2 hx (hb hby d22_6) rfl rfl ?_
  refine o_iloadN X2 hx (hb hby d22_7) rfl ?_
  obtain ⟨cl3, Ar3, q3, S3, N3z, H3, G3⟩ := (id pr0)
  have hi3 := inb_of (j := (2 : Int32)) S3 ⟨by decide, by decide⟩
  have ha3 := Has.at (v := (.int c2_.toInt8.toInt32)) H3 hi3 rfl
  refine ogo (S' := T2.setTop (mkF m 9 #[.val (.ref ba_), .val (.int (2 : Int32))] [(.int c2_.toInt8.toInt32)])) (X2.baloadBytes hx (j := (2 : Int32)) (v := (.int c2_.toInt8.toInt32)) (by rw [e2]; exact Ar3.1) (State.isArrayOf_alike hZ.alike Ar3.2.1) Ar3.2.2 hi3 ha3 (g := (mkF m 8 #[.val (.ref ba_), .val (.int (2 : Int32))] [(.int (2 : Int32)), (.ref ba_)])) rfl rfl (hb hby d22_8)) ?_
  refine o_sipush X2 hx (255 : Int32) (hb hby d22_9) rfl ?_
  refine o_iand X2 hx (hb hby d22_12) ?_
  refine o_i2c X2 hx (hb hby d22_13) ?_
  rw [own_char pr1 pr2]
  refine oend X2 hlk (v := some (.int c2_)) (fun h => by rw [hret] at h; cases h) (fun fs hr => retN X2 hx (t := .char) hret (by simp) (hb hby d22_14) (by rw [(own_narsm pr1 pr2)]; exact hr)) (by decide) (by decide) ?_
  show own_Q_l1c_4_2 Z _ _ _ _ _ _ _ _ _ _ _ h0 n0 _ T2.heap _
  rw [e2]
  exact ⟨rfl, N2, rfl⟩
def own_Q_cat_4_2 (Z : State) (s_CHARACTERS : Addr) (s_BYTES : Addr) (s_CHARACTERS_BUT_TRAILING_SPACES : Addr) (z_CS : Int32) (v_FMT : Value) (x_ : Addr) (ba_ : Addr) (kb_ : ClassId) (c0_ : Int32) (c1_ : Int32) (c2_ : Int32) (c3_ : Int32) (h0 : Heap) (n0 : Nat) (v : Option Value) (h : Heap) (L : List Loc) : Prop := (v = some (.int c2_)) ∧ (Fr n0 L) ∧ (h = h0)
set_option maxRecDepth 65536 in
set_option maxHeartbeats 40000000 in
theorem rm_cat_4_2 (l : Launch) (Z : State) (a0 : Array Value) (hw : ∀ d ∈ tables_1, d.before a0 Z = true) (ws : List Jvm.Cond) (s_CHARACTERS : Addr) (s_BYTES : Addr) (s_CHARACTERS_BUT_TRAILING_SPACES : Addr) (z_CS : Int32) (v_FMT : Value) (x_ : Addr) (ba_ : Addr) (kb_ : ClassId) (c0_ : Int32) (c1_ : Int32) (c2_ : Int32) (c3_ : Int32) (h0 : Heap) (n0 : Nat) (SB : own_Start Z s_CHARACTERS s_BYTES s_CHARACTERS_BUT_TRAILING_SPACES z_CS v_FMT) (O0 : Old Z n0 h0) (pr0 : Exa Z h0 x_ "java/lang/String") (pr1 : Fld Z h0 x_ "java/lang/String" "coder" "B" (.int (0 : Int32))) (pr2 : Fld Z h0 x_ "java/lang/String" "value" "[B" (.ref ba_)) (pr3 : Arv Z h0 ba_ kb_ .byte (4 : Int32) [(.int c0_.toInt8.toInt32), (.int c1_.toInt8.toInt32), (.int c2_.toInt8.toInt32), (.int c3_.toInt8.toInt32)] (.int 0)) (pr4 : ¬ (c2_ < (0 : Int32))) (pr5 : ¬ ((255 : Int32) < c2_)) :
    oMet l Z yM22 jdk_42_method_56_code 2 (some .char) ws ({ frames := 3, cells := 0, slots := 0, locals := 40 } : Room) 0 0 #[(.ref x_), (.int (2 : Int32))] h0 (own_Q_cat_4_2 Z s_CHARACTERS s_BYTES s_CHARACTERS_BUT_TRAILING_SPACES z_CS v_FMT x_ ba_ kb_ c0_ c1_ c2_ c3_ h0 n0) := by
  refine oenter own_pn2 #[.val (.ref x_), .val (.int (2 : Int32))] (fun m => by first | (simp [entryFrame, mkF, argsToLocals, Value.category]; done) | rfl) ?_
  intro p e s m below meth c s₁ X0 hx hZ hby hml hret hown0 hnm hlk e0
  have hown : s.vm.findClass "java/lang/String" = some m.cls := hown0
  have N0 := Fr.nil n0
  obtain ⟨S_s_CHARACTERS, E_s_CHARACTERS, S_s_BYTES, E_s_BYTES, S_s_CHARACTERS_BUT_TRAILING_SPACES, E_s_CHARACTERS_BUT_TRAILING_SPACES, F_s_CHARACTERS_ordinal, F_s_BYTES_ordinal, F_s_CHARACTERS_BUT_TRAILING_SPACES_ordinal, S_CS, H_CS, S_FMT, R_FMT⟩ := (id SB)
  have w14 := hw _ (List.mem_of_getElem? (i := 14) rfl)
  have w39 := hw _ (List.mem_of_getElem? (i := 39) rfl)
  have w97 := hw _ (List.mem_of_getElem? (i := 97) rfl)
  have w111 := hw _ (List.mem_of_getElem? (i := 111) rfl)
  have w112 := hw _ (List.mem_of_getElem? (i := 112) rfl)
  have w113 := hw _ (List.mem_of_getElem? (i := 113) rfl)
  have w114 := hw _ (List.mem_of_getElem? (i := 114) rfl)
  have w115 := hw _ (List.mem_of_getElem? (i := 115) rfl)
  have w116 := hw _ (List.mem_of_getElem? (i := 116) rfl)
  have w117 := hw _ (List.mem_of_getElem? (i := 117) rfl)
  have w118 := hw _ (List.mem_of_getElem? (i := 118) rfl)
  refine o_aloadN X0 hx (hb hby d23_0) rfl rfl ?_
  obtain ⟨cq1, kq1, q1a, q1b, q1c⟩ := isOf hZ e0 pr0
  obtain ⟨_, _, ⟨T1, L1, kc1, n1⟩, -, X1, ⟨Lc1, hQ1, l1, y1, z1⟩, st1⟩ := X0.virtualBack hx (y := yM18) (z := yM18) hown (mvT hZ w111) (mvT hZ w112) (notFace_of_selects (args := #[]) (mvT hZ w114)) (mvT hZ w114) (mvT hZ w113) (by decide) (backOf (W := 0) (rm_isl1 l Z a0 hw [] s_CHARACTERS s_BYTES s_CHARACTERS_BUT_TRAILING_SPACES z_CS v_FMT x_ h0 n0 SB O0 pr1) hZ w115 w14 (by decide) (by decide)) q1a q1c (g := (mkF m 1 #[.val (.ref x_), .val (.int (2 : Int32))] [(.ref x_)])) rfl (by rw [hml]; rfl) (Steps.refl _) (argsL := []) (rest := []) (lenOf own_pd13 rfl) rfl (by show 2 * 0 + _ ≤ _; exact Nat.le_of_eq rfl) (hb hby d23_1) (fun _ _ => ⟨rfl, e0, (by decide : 0 + 0 ≤ _), (by decide : 0 + 0 ≤ _)⟩)
  dsimp only [Pt.U, Pt.locs, Pt.cells, Pt.slots] at X1 l1 y1 z1 st1 hQ1
  subst l1 y1 z1
  obtain ⟨rfl, Nq1, e1⟩ := hQ1
  have N1 := Fr.app N0 Nq1
  refine otr (S' := T1.setTop (mkF m 4 #[.val (.ref x_), .val (.int (2 : Int32))] [(.int (1 : Int32))])) st1 ?_
  refine o_ifNo X1 hx (hb hby d23_4) (feq (by decide : ¬ ((1 : Int32) = (0 : Int32)))).1 ?_
  refine o_aloadN X1 hx (hb hby d23_7) rfl rfl ?_
  obtain ⟨T2, X2, e2, st2⟩ := getF X1 hx hZ hown (host := "") (Or.inl w39) Via.refl e1 pr2 (g := (mkF m 8 #[.val (.ref x_), .val (.int (2 : Int32))] [(.ref x_)])) rfl rfl (hb hby d23_8)
  refine ogo (S' := T2.setTop (mkF m 11 #[.val (.ref x_), .val (.int (2 : Int32))] [(.ref ba_)])) st2 ?_
  refine o_iloadN X2 hx (hb hby d23_11) rfl ?_
  obtain ⟨_, _, ⟨T3, L3, kc3, n3⟩, -, X3, ⟨Lc3, hQ3, l3, y3, z3⟩, st3⟩ := Jvm.LawKit.callS X2 hx (y := yM21) hown (mvT hZ w116) (mvT hZ w117) (mvT hZ w97) (mvT hZ w118) (by decide) (backOf (W := 0) (rm_l1c_4_2 l Z a0 hw [] s_CHARACTERS s_BYTES s_CHARACTERS_BUT_TRAILING_SPACES z_CS v_FMT ba_ kb_ c0_ c1_ c2_ c3_ h0 n0 SB O0 pr3 pr4 pr5) hZ w118 w97 (by decide) (by decide)) (g := (mkF m 12 #[.val (.ref x_), .val (.int (2 : Int32))] [(.int (2 : Int32)), (.ref ba_)])) rfl (by rw [hml]; rfl) (argsL := [(.ref ba_), (.int (2 : Int32))]) (rest := []) (lenOf own_pd14 rfl) rfl (by show 2 * 0 + _ ≤ _; exact Nat.le_of_eq rfl) (hb hby d23_12) (fun _ _ => ⟨rfl, e2, (by decide : 0 + 0 ≤ _), (by decide : 0 + 0 ≤ _)⟩)
  dsimp only [Pt.U, Pt.locs, Pt.cells, Pt.slots] at X3 l3 y3 z3 st3 hQ3
  subst l3 y3 z3
  obtain ⟨rfl, Nq3, e3⟩ := hQ3
  have N3 := Fr.app N1 Nq3
  refine ogo (S' := T3.setTop (mkF m 15 #[.val (.ref x_), .val (.int (2 : Int32))] [(.int c2_)])) st3 ?_
  refine oend X3 hlk (v := some (.int c2_)) (fun h => by rw [hret] at h; cases h) (fun fs hr => retN X3 hx (t := .char) hret (by simp) (hb hby d23_15) (by rw [(own_narsm pr4 pr5)]; exact hr)) (by decide) (by decide) ?_
  show own_Q_cat_4_2 Z _ _ _ _ _ _ _ _ _ _ _ _ h0 n0 _ T3.heap _
  rw [e3]
  exact ⟨rfl, N3, rfl⟩
def own_Q_l1c_4_3 (Z : State) (s_CHARACTERS : Addr) (s_BYTES : Addr) (s_CHARACTERS_BUT_TRAILING_SPACES : Addr) (z_CS : Int32) (v_FMT : Value) (ba_ : Addr) (kb_ : ClassId) (c0_ : Int32) (c1_ : Int32) (c2_ : Int32) (c3_ : Int32) (h0 : Heap) (n0 : Nat) (v : Option Value) (h : Heap) (L : List Loc) : Prop := (v = some (.int c3_)) ∧ (Fr n0 L) ∧ (h = h0)
set_option maxRecDepth 65536 in
set_option maxHeartbeats 40000000 in
theorem rm_l1c_4_3 (l : Launch) (Z : State) (a0 : Array Value) (hw : ∀ d ∈ tables_1, d.before a0 Z = true) (ws : List Jvm.Cond) (s_CHARACTERS : Addr) (s_BYTES : Addr) (s_CHARACTERS_BUT_TRAILING_SPACES : Addr) (z_CS : Int32) (v_FMT : Value) (ba_ : Addr) (kb_ : ClassId) (c0_ : Int32) (c1_ : Int32) (c2_ : Int32) (c3_ : Int32) (h0 : Heap) (n0 : Nat) (SB : own_Start Z s_CHARACTERS s_BYTES s_CHARACTERS_BUT_TRAILING_SPACES z_CS v_FMT) (O0 : Old Z n0 h0) (pr0 : Arv Z h0 ba_ kb_ .byte (4 : Int32) [(.int c0_.toInt8.toInt32), (.int c1_.toInt8.toInt32), (.int c2_.toInt8.toInt32), (.int c3_.toInt8.toInt32)] (.int 0)) (pr1 : ¬ (c3_ < (0 : Int32))) (pr2 : ¬ ((255 : Int32) < c3_)) :
    oMet l Z yM21 jdk_43_method_2_code 2 (some .char) ws ({ frames := 2, cells := 0, slots := 0, locals := 27 } : Room) 0 0 #[(.ref ba_), (.int (3 : Int32))] h0 (own_Q_l1c_4_3 Z s_CHARACTERS s_BYTES s_CHARACTERS_BUT_TRAILING_SPACES z_CS v_FMT ba_ kb_ c0_ c1_ c2_ c3_ h0 n0) := by
  refine oenter own_pn1 #[.val (.ref ba_), .val (.int (3 : Int32))] (fun m => by first | (simp [entryFrame, mkF, argsToLocals, Value.category]; done) | rfl) ?_
  intro p e s m below meth c s₁ X0 hx hZ hby hml hret hown0 hnm hlk e0
  have hown : s.vm.findClass "java/lang/StringLatin1" = some m.cls := hown0
  have N0 := Fr.nil n0
  obtain ⟨S_s_CHARACTERS, E_s_CHARACTERS, S_s_BYTES, E_s_BYTES, S_s_CHARACTERS_BUT_TRAILING_SPACES, E_s_CHARACTERS_BUT_TRAILING_SPACES, F_s_CHARACTERS_ordinal, F_s_BYTES_ordinal, F_s_CHARACTERS_BUT_TRAILING_SPACES_ordinal, S_CS, H_CS, S_FMT, R_FMT⟩ := (id SB)
  have w14 := hw _ (List.mem_of_getElem? (i := 14) rfl)
  have w119 := hw _ (List.mem_of_getElem? (i := 119) rfl)
  have w120 := hw _ (List.mem_of_getElem? (i := 120) rfl)
  have w121 := hw _ (List.mem_of_getElem? (i := 121) rfl)
  refine o_iloadN X0 hx (hb hby d22_0) rfl ?_
  refine o_aloadN X0 hx (hb hby d22_1) rfl rfl ?_
  obtain ⟨cl1, Ar1, -, S1, N1z, -, -⟩ := (id pr0)
  refine ogo (S' := s₁.setTop (mkF m 3 #[.val (.ref ba_), .val (.int (3 : Int32))] [(.int (4 : Int32)), (.int (3 : Int32))])) (fun _ kt_ => X0.arraylength hx (by rw [e0]; exact Ar1.1) (State.isArrayOf_alike hZ.alike Ar1.2.1) (g := (mkF m 2 #[.val (.ref ba_), .val (.int (3 : Int32))] [(.ref ba_), (.int (3 : Int32))])) rfl rfl (hb hby d22_2) _ (by rw [len_of S1 N1z]; exact kt_)) ?_
  obtain ⟨_, _, ⟨T2, L2, kc2, n2⟩, -, X2, ⟨Lc2, hQ2, l2, y2, z2⟩, st2⟩ := Jvm.LawKit.callS X0 hx (y := yM20) hown (mvT hZ w119) (mvT hZ w120) (mvT hZ w14) (mvT hZ w121) (by decide) (backOf (W := 0) (rm_sci l Z a0 hw [] s_CHARACTERS s_BYTES s_CHARACTERS_BUT_TRAILING_SPACES z_CS v_FMT (3 : Int32) (4 : Int32) h0 n0 SB O0 (by decide) (by decide)) hZ w121 w14 (by decide) (by decide)) (g := (mkF m 3 #[.val (.ref ba_), .val (.int (3 : Int32))] [(.int (4 : Int32)), (.int (3 : Int32))])) rfl (by rw [hml]; rfl) (argsL := [(.int (3 : Int32)), (.int (4 : Int32))]) (rest := []) (lenOf own_pd12 rfl) rfl (by show 2 * 0 + _ ≤ _; exact Nat.le_of_eq rfl) (hb hby d22_3) (fun _ _ => ⟨rfl, e0, (by decide : 0 + 0 ≤ _), (by decide : 0 + 0 ≤ _)⟩)
  dsimp only [Pt.U, Pt.locs, Pt.cells, Pt.slots] at X2 l2 y2 z2 st2 hQ2
  subst l2 y2 z2
  obtain ⟨rfl, Nq2, e2⟩ := hQ2
  have N2 := Fr.app N0 Nq2
  refine ogo (S' := T2.setTop (mkF m 6 #[.val (.ref ba_), .val (.int (3 : Int32))] [])) st2 ?_
  refine o_aloadN X2 hx (hb hby d22_6) rfl rfl ?_
  refine o_iloadN X2 hx (hb hby d22_7) rfl ?_
  obtain ⟨cl3, Ar3, q3, S3, N3z, H3, G3⟩ := (id pr0)
  have hi3 := inb_of (j := (3 : Int32)) S3 ⟨by decide, by decide⟩
  have ha3 := Has.at (v := (.int c3_.toInt8.toInt32)) H3 hi3 rfl
  refine ogo (S' := T2.setTop (mkF m 9 #[.val (.ref ba_), .val (.int (3 : Int32))] [(.int c3_.toInt8.toInt32)])) (X2.baloadBytes hx (j := (3 : Int32)) (v := (.int c3_.toInt8.toInt32)) (by rw [e2]; exact Ar3.1) (State.isArrayOf_alike hZ.alike Ar3.2.1) Ar3.2.2 hi3 ha3 (g := (mkF m 8 #[.val (.ref ba_), .val (.int (3 : Int32))] [(.int (3 : Int32)), (.ref ba_)])) rfl rfl (hb hby d22_8)) ?_
  refine o_sipush X2 hx (255 : Int32) (hb hby d22_9) rfl ?_
  refine o_iand X2 hx (hb hby d22_12) ?_
  refine o_i2c X2 hx (hb hby d22_13) ?_
  rw [own_char pr1 pr2]
  refine oend X2 hlk (v := some (.int c3_)) (fun h => by rw [hret] at h; cases h) (fun fs hr => retN X2 hx (t := .char) hret (by simp) (hb hby d22_14) (by rw [(own_narsm pr1 pr2)]; exact hr)) (by decide) (by decide) ?_
  show own_Q_l1c_4_3 Z _ _ _ _ _ _ _ _ _ _ _ h0 n0 _ T2.heap _
  rw [e2]
  exact ⟨rfl, N2, rfl⟩
def own_Q_cat_4_3 (Z : State) (s_CHARACTERS : Addr) (s_BYTES : Addr) (s_CHARACTERS_BUT_TRAILING_SPACES : Addr) (z_CS : Int32) (v_FMT : Value) (x_ : Addr) (ba_ : Addr) (kb_ : ClassId) (c0_ : Int32) (c1_ : Int32) (c2_ : Int32) (c3_ : Int32) (h0 : Heap) (n0 : Nat) (v : Option Value) (h : Heap) (L : List Loc) : Prop := (v = some (.int c3_)) ∧ (Fr n0 L) ∧ (h = h0)
set_option maxRecDepth 65536 in
set_option maxHeartbeats 40000000 in
theorem rm_cat_4_3 (l : Launch) (Z : State) (a0 : Array Value) (hw : ∀ d ∈ tables_1, d.before a0 Z = true) (ws : List Jvm.Cond) (s_CHARACTERS : Addr) (s_BYTES : Addr) (s_CHARACTERS_BUT_TRAILING_SPACES : Addr) (z_CS : Int32) (v_FMT : Value) (x_ : Addr) (ba_ : Addr) (kb_ : ClassId) (c0_ : Int32) (c1_ : Int32) (c2_ : Int32) (c3_ : Int32) (h0 : Heap) (n0 : Nat) (SB : own_Start Z s_CHARACTERS s_BYTES s_CHARACTERS_BUT_TRAILING_SPACES z_CS v_FMT) (O0 : Old Z n0 h0) (pr0 : Exa Z h0 x_ "java/lang/String") (pr1 : Fld Z h0 x_ "java/lang/String" "coder" "B" (.int (0 : Int32))) (pr2 : Fld Z h0 x_ "java/lang/String" "value" "[B" (.ref ba_)) (pr3 : Arv Z h0 ba_ kb_ .byte (4 : Int32) [(.int c0_.toInt8.toInt32), (.int c1_.toInt8.toInt32), (.int c2_.toInt8.toInt32), (.int c3_.toInt8.toInt32)] (.int 0)) (pr4 : ¬ (c3_ < (0 : Int32))) (pr5 : ¬ ((255 : Int32) < c3_)) :
    oMet l Z yM22 jdk_42_method_56_code 2 (some .char) ws ({ frames := 3, cells := 0, slots := 0, locals := 40 } : Room) 0 0 #[(.ref x_), (.int (3 : Int32))] h0 (own_Q_cat_4_3 Z s_CHARACTERS s_BYTES s_CHARACTERS_BUT_TRAILING_SPACES z_CS v_FMT x_ ba_ kb_ c0_ c1_ c2_ c3_ h0 n0) := by
  refine oenter own_pn2 #[.val (.ref x_), .val (.int (3 : Int32))] (fun m => by first | (simp [entryFrame, mkF, argsToLocals, Value.category]; done) | rfl) ?_
  intro p e s m below meth c s₁ X0 hx hZ hby hml hret hown0 hnm hlk e0
  have hown : s.vm.findClass "java/lang/String" = some m.cls := hown0
  have N0 := Fr.nil n0
  obtain ⟨S_s_CHARACTERS, E_s_CHARACTERS, S_s_BYTES, E_s_BYTES, S_s_CHARACTERS_BUT_TRAILING_SPACES, E_s_CHARACTERS_BUT_TRAILING_SPACES, F_s_CHARACTERS_ordinal, F_s_BYTES_ordinal, F_s_CHARACTERS_BUT_TRAILING_SPACES_ordinal, S_CS, H_CS, S_FMT, R_FMT⟩ := (id SB)
  have w14 := hw _ (List.mem_of_getElem? (i := 14) rfl)
  have w39 := hw _ (List.mem_of_getElem? (i := 39) rfl)
  have w97 := hw _ (List.mem_of_getElem? (i := 97) rfl)
  have w111 := hw _ (List.mem_of_getElem? (i := 111) rfl)
  have w112 := hw _ (List.mem_of_getElem? (i := 112) rfl)
  have w113 := hw _ (List.mem_of_getElem? (i := 113) rfl)
  have w114 := hw _ (List.mem_of_getElem? (i := 114) rfl)
  have w115 := hw _ (List.mem_of_getElem? (i := 115) rfl)
  have w116 := hw _ (List.mem_of_getElem? (i := 116) rfl)
  have w117 := hw _ (List.mem_of_getElem? (i := 117) rfl)
  have w118 := hw _ (List.mem_of_getElem? (i := 118) rfl)
  refine o_aloadN X0 hx (hb hby d23_0) rfl rfl ?_
  obtain ⟨cq1, kq1, q1a, q1b, q1c⟩ := isOf hZ e0 pr0
  obtain ⟨_, _, ⟨T1, L1, kc1, n1⟩, -, X1, ⟨Lc1, hQ1, l1, y1, z1⟩, st1⟩ := X0.virtualBack hx (y := yM18) (z := yM18) hown (mvT hZ w111) (mvT hZ w112) (notFace_of_selects (args := #[]) (mvT hZ w114)) (mvT hZ w114) (mvT hZ w113) (by decide) (backOf (W := 0) (rm_isl1 l Z a0 hw [] s_CHARACTERS s_BYTES s_CHARACTERS_BUT_TRAILING_SPACES z_CS v_FMT x_ h0 n0 SB O0 pr1) hZ w115 w14 (by decide) (by decide)) q1a q1c (g := (mkF m 1 #[.val (.ref x_), .val (.int (3 : Int32))] [(.ref x_)])) rfl (by rw [hml]; rfl) (Steps.refl _) (argsL := []) (rest := []) (lenOf own_pd13 rfl) rfl (by show 2 * 0 + _ ≤ _; exact Nat.le_of_eq rfl) (hb hby d23_1) (fun _ _ => ⟨rfl, e0, (by decide : 0 + 0 ≤ _), (by decide : 0 + 0 ≤ _)⟩)
  dsimp only [Pt.U, Pt.locs, Pt.cells, Pt.slots] at X1 l1 y1 z1 st1 hQ1
  subst l1 y1 z1
  obtain ⟨rfl, Nq1, e1⟩ := hQ1
  have N1 := Fr.app N0 Nq1
  refine otr (S' := T1.setTop (mkF m 4 #[.val (.ref x_), .val (.int (3 : Int32))] [(.int (1 : Int32))])) st1 ?_
  refine o_ifNo X1 hx (hb hby d23_4) (feq (by decide : ¬ ((1 : Int32) = (0 : Int32)))).1 ?_
  refine o_aloadN X1 hx (hb hby d23_7) rfl rfl ?_
  obtain ⟨T2, X2, e2, st2⟩ := getF X1 hx hZ hown (host := "") (Or.inl w39) Via.refl e1 pr2 (g := (mkF m 8 #[.val (.ref x_), .val (.int (3 : Int32))] [(.ref x_)])) rfl rfl (hb hby d23_8)
  refine ogo (S' := T2.setTop (mkF m 11 #[.val (.ref x_), .val (.int (3 : Int32))] [(.ref ba_)])) st2 ?_
  refine o_iloadN X2 hx (hb hby d23_11) rfl ?_
  obtain ⟨_, _, ⟨T3, L3, kc3, n3⟩, -, X3, ⟨Lc3, hQ3, l3, y3, z3⟩, st3⟩ := Jvm.LawKit.callS X2 hx (y := yM21) hown (mvT hZ w116) (mvT hZ w117) (mvT hZ w97) (mvT hZ w118) (by decide) (backOf (W := 0) (rm_l1c_4_3 l Z a0 hw [] s_CHARACTERS s_BYTES s_CHARACTERS_BUT_TRAILING_SPACES z_CS v_FMT ba_ kb_ c0_ c1_ c2_ c3_ h0 n0 SB O0 pr3 pr4 pr5) hZ w118 w97 (by decide) (by decide)) (g := (mkF m 12 #[.val (.ref x_), .val (.int (3 : Int32))] [(.int (3 : Int32)), (.ref ba_)])) rfl (by rw [hml]; rfl) (argsL := [(.ref ba_), (.int (3 : Int32))]) (rest := []) (lenOf own_pd14 rfl) rfl (by show 2 * 0 + _ ≤ _; exact Nat.le_of_eq rfl) (hb hby d23_12) (fun _ _ => ⟨rfl, e2, (by decide : 0 + 0 ≤ _), (by decide : 0 + 0 ≤ _)⟩)
  dsimp only [Pt.U, Pt.locs, Pt.cells, Pt.slots] at X3 l3 y3 z3 st3 hQ3
  subst l3 y3 z3
  obtain ⟨rfl, Nq3, e3⟩ := hQ3
  have N3 := Fr.app N1 Nq3
  refine ogo (S' := T3.setTop (mkF m 15 #[.val (.ref x_), .val (.int (3 : Int32))] [(.int c3_)])) st3 ?_
  refine oend X3 hlk (v := some (.int c3_)) (fun h => by rw [hret] at h; cases h) (fun fs hr => retN X3 hx (t := .char) hret (by simp) (hb hby d23_15) (by rw [(own_narsm pr4 pr5)]; exact hr)) (by decide) (by decide) ?_
  show own_Q_cat_4_3 Z _ _ _ _ _ _ _ _ _ _ _ _ h0 n0 _ T3.heap _
  rw [e3]
  exact ⟨rfl, N3, rfl⟩
def own_Q_of_trail_4 (Z : State) (s_CHARACTERS : Addr) (s_BYTES : Addr) (s_CHARACTERS_BUT_TRAILING_SPACES : Addr) (z_CS : Int32) (v_FMT : Value) (t_ : Addr) (x_ : Addr) (ba_ : Addr) (kb_ : ClassId) (c0_ : Int32) (c1_ : Int32) (c2_ : Int32) (c3_ : Int32) (h0 : Heap) (n0 : Nat) (v : Option Value) (h : Heap) (L : List Loc) : Prop := (v = some (.long (own_tr4 c0_ c1_ c2_ c3_).toInt64)) ∧ (Fr n0 L) ∧ (h = h0)
set_option maxRecDepth 65536 in
set_option maxHeartbeats 40000000 in
theorem rm_of_trail_4 (l : Launch) (Z : State) (a0 : Array Value) (hw : ∀ d ∈ tables_1, d.before a0 Z = true) (ws : List Jvm.Cond) (s_CHARACTERS : Addr) (s_BYTES : Addr) (s_CHARACTERS_BUT_TRAILING_SPACES : Addr) (z_CS : Int32) (v_FMT : Value) (t_ : Addr) (x_ : Addr) (ba_ : Addr) (kb_ : ClassId) (c0_ : Int32) (c1_ : Int32) (c2_ : Int32) (c3_ : Int32) (h0 : Heap) (n0 : Nat) (SB : own_Start Z s_CHARACTERS s_BYTES s_CHARACTERS_BUT_TRAILING_SPACES z_CS v_FMT) (O0 : Old Z n0 h0) (pr0 : Fld Z h0 t_ "com/example/upshot/upshot/ColumnCatalog$Length" "unit" "Lcom/example/upshot/upshot/ColumnCatalog$Length$Unit;" (.ref s_CHARACTERS_BUT_TRAILING_SPACES)) (pr1 : Exa Z h0 x_ "java/lang/String") (pr2 : Fld Z h0 x_ "java/lang/String" "coder" "B" (.int (0 : Int32))) (pr3 : Fld Z h0 x_ "java/lang/String" "value" "[B" (.ref ba_)) (pr4 : Arv Z h0 ba_ kb_ .byte (4 : Int32) [(.int c0_.toInt8.toInt32), (.int c1_.toInt8.toInt32), (.int c2_.toInt8.toInt32), (.int c3_.toInt8.toInt32)] (.int 0)) (pr5 : ¬ (c0_ < (0 : Int32))) (pr6 : ¬ (c1_ < (0 : Int32))) (pr7 : ¬ (c2_ < (0 : Int32))) (pr8 : ¬ (c3_ < (0 : Int32))) (pr9 : ¬ ((255 : Int32) < c0_)) (pr10 : ¬ ((255 : Int32) < c1_)) (pr11 : ¬ ((255 : Int32) < c2_)) (pr12 : ¬ ((255 : Int32) < c3_)) :
    oMet l Z yM15 prog_3_method_5_code 6 (some .long) ws ({ frames := 4, cells := 0, slots := 0, locals := 53 } : Room) 0 0 #[(.ref t_), (.ref x_)] h0 (own_Q_of_trail_4 Z s_CHARACTERS s_BYTES s_CHARACTERS_BUT_TRAILING_SPACES z_CS v_FMT t_ x_ ba_ kb_ c0_ c1_ c2_ c3_ h0 n0) := by
  refine oenter own_pn4 #[.val (.ref t_), .val (.ref x_), .unset, .unset, .unset, .unset] (fun m => by first | (simp [entryFrame, mkF, argsToLocals, Value.category]; done) | rfl) ?_
  intro p e s m below meth c s₁ X0 hx hZ hby hml hret hown0 hnm hlk e0
  have hown : s.vm.findClass "com/example/upshot/upshot/ColumnCatalog$Length" = some m.cls := hown0
  have N0 := Fr.nil n0
  obtain ⟨S_s_CHARACTERS, E_s_CHARACTERS, S_s_BYTES, E_s_BYTES, S_s_CHARACTERS_BUT_TRAILING_SPACES, E_s_CHARACTERS_BUT_TRAILING_SPACES, F_s_CHARACTERS_ordinal, F_s_BYTES_ordinal, F_s_CHARACTERS_BUT_TRAILING_SPACES_ordinal, S_CS, H_CS, S_FMT, R_FMT⟩ := (id SB)
  have w14 := hw _ (List.mem_of_getElem? (i := 14) rfl)
  have w48 := hw _ (List.mem_of_getElem? (i := 48) rfl)
  have w57 := hw _ (List.mem_of_getElem? (i := 57) rfl)
  have w59 := hw _ (List.mem_of_getElem? (i := 59) rfl)
  have w61 := hw _ (List.mem_of_getElem? (i := 61) rfl)
  have w62 := hw _ (List.mem_of_getElem? (i := 62) rfl)
  have w63 := hw _ (List.mem_of_getElem? (i := 63) rfl)
  have w64 := hw _ (List.mem_of_getElem? (i := 64) rfl)
  have w65 := hw _ (List.mem_of_getElem? (i := 65) rfl)
  have w66 := hw _ (List.mem_of_getElem? (i := 66) rfl)
  have w106 := hw _ (List.mem_of_getElem? (i := 106) rfl)
  have w107 := hw _ (List.mem_of_getElem? (i := 107) rfl)
  have w108 := hw _ (List.mem_of_getElem? (i := 108) rfl)
  have w109 := hw _ (List.mem_of_getElem? (i := 109) rfl)
  have w110 := hw _ (List.mem_of_getElem? (i := 110) rfl)
  refine o_aloadN X0 hx (hb hby d16_0) rfl rfl ?_
  obtain ⟨T1, X1, e1, st1⟩ := getF X0 hx hZ hown (host := "") (Or.inl w48) Via.refl e0 pr0 (g := (mkF m 1 #[.val (.ref t_), .val (.ref x_), .unset, .unset, .unset, .unset] [(.ref t_)])) rfl rfl (hb hby d16_1)
  refine ogo (S' := T1.setTop (mkF m 4 #[.val (.ref t_), .val (.ref x_), .unset, .unset, .unset, .unset] [(.ref s_CHARACTERS_BUT_TRAILING_SPACES)])) st1 ?_
  obtain ⟨T2, X2, e2, st2⟩ := getS2 X1 hx hZ hown (host := "") (Or.inl w57) Via.refl e1 (Sta.ext O0.2 S_s_BYTES) (g := (mkF m 4 #[.val (.ref t_), .val (.ref x_), .unset, .unset, .unset, .unset] [(.ref s_CHARACTERS_BUT_TRAILING_SPACES)])) rfl (hb hby d16_4)
  refine ogo (S' := T2.setTop (mkF m 7 #[.val (.ref t_), .val (.ref x_), .unset, .unset, .unset, .unset] [(.ref s_BYTES), (.ref s_CHARACTERS_BUT_TRAILING_SPACES)])) st2 ?_
  refine o_acmp X2 hx 20 false rfl rfl (hb hby d16_7) (decide_eq_false fun q => (Fld.ne F_s_CHARACTERS_BUT_TRAILING_SPACES_ordinal F_s_BYTES_ordinal (by decide)) (Value.ref.inj q)) (by decide) (by decide) ?_
  refine o_aloadN X2 hx (hb hby d16_20) rfl rfl ?_
  obtain ⟨T3, X3, e3, st3⟩ := getF X2 hx hZ hown (host := "") (Or.inl w48) Via.refl e2 pr0 (g := (mkF m 21 #[.val (.ref t_), .val (.ref x_), .unset, .unset, .unset, .unset] [(.ref t_)])) rfl rfl (hb hby d16_21)
  refine ogo (S' := T3.setTop (mkF m 24 #[.val (.ref t_), .val (.ref x_), .unset, .unset, .unset, .unset] [(.ref s_CHARACTERS_BUT_TRAILING_SPACES)])) st3 ?_
  obtain ⟨T4, X4, e4, st4⟩ := getS2 X3 hx hZ hown (host := "") (Or.inl w59) Via.refl e3 (Sta.ext O0.2 S_s_CHARACTERS_BUT_TRAILING_SPACES) (g := (mkF m 24 #[.val (.ref t_), .val (.ref x_), .unset, .unset, .unset, .unset] [(.ref s_CHARACTERS_BUT_TRAILING_SPACES)])) rfl (hb hby d16_24)
  refine ogo (S' := T4.setTop (mkF m 27 #[.val (.ref t_), .val (.ref x_), .unset, .unset, .unset, .unset] [(.ref s_CHARACTERS_BUT_TRAILING_SPACES), (.ref s_CHARACTERS_BUT_TRAILING_SPACES)])) st4 ?_
  refine o_acmp X4 hx 30 true rfl rfl (hb hby d16_27) (decide_eq_true rfl) (by decide) (by decide) ?_
  refine o_aloadN X4 hx (hb hby d16_30) rfl rfl ?_
  obtain ⟨T5, X5, e5, st5⟩ := castY X4 hx hZ hown w61 e4 (Ins.self pr1) (g := (mkF m 31 #[.val (.ref t_), .val (.ref x_), .unset, .unset, .unset, .unset] [(.ref x_)])) rfl rfl (hb hby d16_31)
  refine ogo (S' := T5.setTop (mkF m 34 #[.val (.ref t_), .val (.ref x_), .unset, .unset, .unset, .unset] [(.ref x_)])) st5 ?_
  refine o_astore X5 hx (l' := #[.val (.ref t_), .val (.ref x_), .unset, .unset, .val (.ref x_), .unset]) (hb hby d16_34) rfl rfl ?_
  refine o_aload X5 hx (hb hby d16_36) rfl rfl ?_
  obtain ⟨cq6, kq6, q6a, q6b, q6c⟩ := isOf hZ e5 pr1
  obtain ⟨_, _, ⟨T6, L6, kc6, n6⟩, -, X6, ⟨Lc6, hQ6, l6, y6, z6⟩, st6⟩ := X5.virtualBack hx (y := yM17) (z := yM17) hown (mvT hZ w62) (mvT hZ w63) (notFace_of_selects (args := #[]) (mvT hZ w65)) (mvT hZ w65) (mvT hZ w64) (by decide) (backOf (W := 0) (rm_len_4 l Z a0 hw [] s_CHARACTERS s_BYTES s_CHARACTERS_BUT_TRAILING_SPACES z_CS v_FMT x_ ba_ kb_ [(.int c0_.toInt8.toInt32), (.int c1_.toInt8.toInt32), (.int c2_.toInt8.toInt32), (.int c3_.toInt8.toInt32)] h0 n0 SB O0 pr1 pr2 pr3 pr4) hZ w66 w14 (by decide) (by decide)) q6a q6c (g := (mkF m 38 #[.val (.ref t_), .val (.ref x_), .unset, .unset, .val (.ref x_), .unset] [(.ref x_)])) rfl (by rw [hml]; rfl) (Steps.refl _) (argsL := []) (rest := []) (lenOf own_pd10 rfl) rfl (by show 2 * 0 + _ ≤ _; exact Nat.le_of_eq rfl) (hb hby d16_38) (fun _ _ => ⟨rfl, e5, (by decide : 0 + 0 ≤ _), (by decide : 0 + 0 ≤ _)⟩)
  dsimp only [Pt.U, Pt.locs, Pt.cells, Pt.slots] at X6 l6 y6 z6 st6 hQ6
  subst l6 y6 z6
  obtain ⟨rfl, Nq6, e6⟩ := hQ6
  have N6 := Fr.app N0 Nq6
  refine otr (S' := T6.setTop (mkF m 41 #[.val (.ref t_), .val (.ref x_), .unset, .unset, .val (.ref x_), .unset] [(.int (4 : Int32))])) st6 ?_
  refine o_istore X6 hx (l' := #[.val (.ref t_), .val (.ref x_), .unset, .unset, .val (.ref x_), .val (.int (4 : Int32))]) (hb hby d16_41) rfl ?_
  refine o_iload X6 hx (hb hby d16_43) rfl ?_
  refine o_ifNo X6 hx (hb hby d16_45) (tlt (by decide : (0 : Int32) < (4 : Int32))).2.2.2 ?_
  refine o_aload X6 hx (hb hby d16_48) rfl rfl ?_
  refine o_iload X6 hx (hb hby d16_50) rfl ?_
  refine o_iconst X6 hx (1 : Int32) (hb hby d16_52) rfl ?_
  refine o_isub X6 hx (hb hby d16_53) ?_
  obtain ⟨cq7, kq7, q7a, q7b, q7c⟩ := isOf hZ e6 pr1
  obtain ⟨_, _, ⟨T7, L7, kc7, n7⟩, -, X7, ⟨Lc7, hQ7, l7, y7, z7⟩, st7⟩ := X6.virtualBack hx (y := yM22) (z := yM22) hown (mvT hZ w106) (mvT hZ w107) (notFace_of_selects (args := #[]) (mvT hZ w109)) (mvT hZ w109) (mvT hZ w108) (by decide) (backOf (W := 0) (rm_cat_4_3 l Z a0 hw [] s_CHARACTERS s_BYTES s_CHARACTERS_BUT_TRAILING_SPACES z_CS v_FMT x_ ba_ kb_ c0_ c1_ c2_ c3_ h0 n0 SB O0 pr1 pr2 pr3 pr4 pr8 pr12) hZ w110 w14 (by decide) (by decide)) q7a q7c (g := (mkF m 54 #[.val (.ref t_), .val (.ref x_), .unset, .unset, .val (.ref x_), .val (.int (4 : Int32))] [(.int (3 : Int32)), (.ref x_)])) rfl (by rw [hml]; rfl) (Steps.refl _) (argsL := [(.int (3 : Int32))]) (rest := []) (lenOf own_pd15 rfl) rfl (by show 2 * 0 + _ ≤ _; exact Nat.le_of_eq rfl) (hb hby d16_54) (fun _ _ => ⟨rfl, e6, (by decide : 0 + 0 ≤ _), (by decide : 0 + 0 ≤ _)⟩)
  dsimp only [Pt.U, Pt.locs, Pt.cells, Pt.slots] at X7 l7 y7 z7 st7 hQ7
  subst l7 y7 z7
  obtain ⟨rfl, Nq7, e7⟩ := hQ7
  have N7 := Fr.app N6 Nq7
  refine otr (S' := T7.setTop (mkF m 57 #[.val (.ref t_), .val (.ref x_), .unset, .unset, .val (.ref x_), .val (.int (4 : Int32))] [(.int c3_)])) st7 ?_
  refine o_bipush X7 hx (32 : Int32) (hb hby d16_57) rfl ?_
  by_cases hc8 : c3_ = (32 : Int32)
  · refine o_icmpNo X7 hx (hb hby d16_59) (teq hc8).2 ?_
    refine o_iinc X7 hx (l' := #[.val (.ref t_), .val (.ref x_), .unset, .unset, .val (.ref x_), .val (.int (3 : Int32))]) (hb hby d16_62) rfl rfl ?_
    refine o_goto X7 hx 43 (hb hby d16_65) (by decide) (by decide) ?_
    refine o_iload X7 hx (hb hby d16_43) rfl ?_
    refine o_ifNo X7 hx (hb hby d16_45) (tlt (by decide : (0 : Int32) < (3 : Int32))).2.2.2 ?_
    refine o_aload X7 hx (hb hby d16_48) rfl rfl ?_
    refine o_iload X7 hx (hb hby d16_50) rfl ?_
    refine o_iconst X7 hx (1 : Int32) (hb hby d16_52) rfl ?_
    refine o_isub X7 hx (hb hby d16_53) ?_
    obtain ⟨cq9, kq9, q9a, q9b, q9c⟩ := isOf hZ e7 pr1
    obtain ⟨_, _, ⟨T9, L9, kc9, n9⟩, -, X9, ⟨Lc9, hQ9, l9, y9, z9⟩, st9⟩ := X7.virtualBack hx (y := yM22) (z := yM22) hown (mvT hZ w106) (mvT hZ w107) (notFace_of_selects (args := #[]) (mvT hZ w109)) (mvT hZ w109) (mvT hZ w108) (by decide) (backOf (W := 0) (rm_cat_4_2 l Z a0 hw [] s_CHARACTERS s_BYTES s_CHARACTERS_BUT_TRAILING_SPACES z_CS v_FMT x_ ba_ kb_ c0_ c1_ c2_ c3_ h0 n0 SB O0 pr1 pr2 pr3 pr4 pr7 pr11) hZ w110 w14 (by decide) (by decide)) q9a q9c (g := (mkF m 54 #[.val (.ref t_), .val (.ref x_), .unset, .unset, .val (.ref x_), .val (.int (3 : Int32))] [(.int (2 : Int32)), (.ref x_)])) rfl (by rw [hml]; rfl) (Steps.refl _) (argsL := [(.int (2 : Int32))]) (rest := []) (lenOf own_pd15 rfl) rfl (by show 2 * 0 + _ ≤ _; exact Nat.le_of_eq rfl) (hb hby d16_54) (fun _ _ => ⟨rfl, e7, (by decide : 0 + 0 ≤ _), (by decide : 0 + 0 ≤ _)⟩)
    dsimp only [Pt.U, Pt.locs, Pt.cells, Pt.slots] at X9 l9 y9 z9 st9 hQ9
    subst l9 y9 z9
    obtain ⟨rfl, Nq9, e9⟩ := hQ9
    have N9 := Fr.app N7 Nq9
    refine otr (S' := T9.setTop (mkF m 57 #[.val (.ref t_), .val (.ref x_), .unset, .unset, .val (.ref x_), .val (.int (3 : Int32))] [(.int c2_)])) st9 ?_
    refine o_bipush X9 hx (32 : Int32) (hb hby d16_57) rfl ?_
    by_cases hc10 : c2_ = (32 : Int32)
    · refine o_icmpNo X9 hx (hb hby d16_59) (teq hc10).2 ?_
      refine o_iinc X9 hx (l' := #[.val (.ref t_), .val (.ref x_), .unset, .unset, .val (.ref x_), .val (.int (2 : Int32))]) (hb hby d16_62) rfl rfl ?_
      refine o_goto X9 hx 43 (hb hby d16_65) (by decide) (by decide) ?_
      refine o_iload X9 hx (hb hby d16_43) rfl ?_
      refine o_ifNo X9 hx (hb hby d16_45) (tlt (by decide : (0 : Int32) < (2 : Int32))).2.2.2 ?_
      refine o_aload X9 hx (hb hby d16_48) rfl rfl ?_
      refine o_iload X9 hx (hb hby d16_50) rfl ?_
      refine o_iconst X9 hx (1 : Int32) (hb hby d16_52) rfl ?_
      refine o_isub X9 hx (hb hby d16_53) ?_
      obtain ⟨cq11, kq11, q11a, q11b, q11c⟩ := isOf hZ e9 pr1
      obtain ⟨_, _, ⟨T11, L11, kc11, n11⟩, -, X11, ⟨Lc11, hQ11, l11, y11, z11⟩, st11⟩ := X9.virtualBack hx (y := yM22) (z := yM22) hown (mvT hZ w106) (mvT hZ w107) (notFace_of_selects (args := #[]) (mvT hZ w109)) (mvT hZ w109) (mvT hZ w108) (by decide) (backOf (W := 0) (rm_cat_4_1 l Z a0 hw [] s_CHARACTERS s_BYTES s_CHARACTERS_BUT_TRAILING_SPACES z_CS v_FMT x_ ba_ kb_ c0_ c1_ c2_ c3_ h0 n0 SB O0 pr1 pr2 pr3 pr4 pr6 pr10) hZ w110 w14 (by decide) (by decide)) q11a q11c (g := (mkF m 54 #[.val (.ref t_), .val (.ref x_), .unset, .unset, .val (.ref x_), .val (.int (2 : Int32))] [(.int (1 : Int32)), (.ref x_)])) rfl (by rw [hml]; rfl) (Steps.refl _) (argsL := [(.int (1 : Int32))]) (rest := []) (lenOf own_pd15 rfl) rfl (by show 2 * 0 + _ ≤ _; exact Nat.le_of_eq rfl) (hb hby d16_54) (fun _ _ => ⟨rfl, e9, (by decide : 0 + 0 ≤ _), (by decide : 0 + 0 ≤ _)⟩)
      dsimp only [Pt.U, Pt.locs, Pt.cells, Pt.slots] at X11 l11 y11 z11 st11 hQ11
      subst l11 y11 z11
      obtain ⟨rfl, Nq11, e11⟩ := hQ11
      have N11 := Fr.app N9 Nq11
      refine otr (S' := T11.setTop (mkF m 57 #[.val (.ref t_), .val (.ref x_), .unset, .unset, .val (.ref x_), .val (.int (2 : Int32))] [(.int c1_)])) st11 ?_
      refine o_bipush X11 hx (32 : Int32) (hb hby d16_57) rfl ?_
      by_cases hc12 : c1_ = (32 : Int32)
      · refine o_icmpNo X11 hx (hb hby d16_59) (teq hc12).2 ?_
        refine o_iinc X11 hx (l' := #[.val (.ref t_), .val (.ref x_), .unset, .unset, .val (.ref x_), .val (.int (1 : Int32))]) (hb hby d16_62) rfl rfl ?_
        refine o_goto X11 hx 43 (hb hby d16_65) (by decide) (by decide) ?_
        refine o_iload X11 hx (hb hby d16_43) rfl ?_
        refine o_ifNo X11 hx (hb hby d16_45) (tlt (by decide : (0 : Int32) < (1 : Int32))).2.2.2 ?_
        refine o_aload X11 hx (hb hby d16_48) rfl rfl ?_
        refine o_iload X11 hx (hb hby d16_50) rfl ?_
        refine o_iconst X11 hx (1 : Int32) (hb hby d16_52) rfl ?_
        refine o_isub X11 hx (hb hby d16_53) ?_
        obtain ⟨cq13, kq13, q13a, q13b, q13c⟩ := isOf hZ e11 pr1
        obtain ⟨_, _, ⟨T13, L13, kc13, n13⟩, -, X13, ⟨Lc13, hQ13, l13, y13, z13⟩, st13⟩ := X11.virtualBack hx (y := yM22) (z := yM22) hown (mvT hZ w106) (mvT hZ w107) (notFace_of_selects (args := #[]) (mvT hZ w109)) (mvT hZ w109) (mvT hZ w108) (by decide) (backOf (W := 0) (rm_cat_4_0 l Z a0 hw [] s_CHARACTERS s_BYTES s_CHARACTERS_BUT_TRAILING_SPACES z_CS v_FMT x_ ba_ kb_ c0_ c1_ c2_ c3_ h0 n0 SB O0 pr1 pr2 pr3 pr4 pr5 pr9) hZ w110 w14 (by decide) (by decide)) q13a q13c (g := (mkF m 54 #[.val (.ref t_), .val (.ref x_), .unset, .unset, .val (.ref x_), .val (.int (1 : Int32))] [(.int (0 : Int32)), (.ref x_)])) rfl (by rw [hml]; rfl) (Steps.refl _) (argsL := [(.int (0 : Int32))]) (rest := []) (lenOf own_pd15 rfl) rfl (by show 2 * 0 + _ ≤ _; exact Nat.le_of_eq rfl) (hb hby d16_54) (fun _ _ => ⟨rfl, e11, (by decide : 0 + 0 ≤ _), (by decide : 0 + 0 ≤ _)⟩)
        dsimp only [Pt.U, Pt.locs, Pt.cells, Pt.slots] at X13 l13 y13 z13 st13 hQ13
        subst l13 y13 z13
        obtain ⟨rfl, Nq13, e13⟩ := hQ13
        have N13 := Fr.app N11 Nq13
        refine otr (S' := T13.setTop (mkF m 57 #[.val (.ref t_), .val (.ref x_), .unset, .unset, .val (.ref x_), .val (.int (1 : Int32))] [(.int c0_)])) st13 ?_
        refine o_bipush X13 hx (32 : Int32) (hb hby d16_57) rfl ?_
        by_cases hc14 : c0_ = (32 : Int32)
        · refine o_icmpNo X13 hx (hb hby d16_59) (teq hc14).2 ?_
          refine o_iinc X13 hx (l' := #[.val (.ref t_), .val (.ref x_), .unset, .unset, .val (.ref x_), .val (.int (0 : Int32))]) (hb hby d16_62) rfl rfl ?_
          refine o_goto X13 hx 43 (hb hby d16_65) (by decide) (by decide) ?_
          refine o_iload X13 hx (hb hby d16_43) rfl ?_
          refine o_ifYes X13 hx 68 (hb hby d16_45) (flt (by decide : ¬ ((0 : Int32) < (0 : Int32)))).2.2.2 (by decide) (by decide) ?_
          refine o_iload X13 hx (hb hby d16_68) rfl ?_
          refine o_i2l X13 hx (hb hby d16_70) ?_
          refine o_lstoreN X13 hx (l' := #[.val (.ref t_), .val (.ref x_), .val (.long (0 : Int64)), .second, .val (.ref x_), .val (.int (0 : Int32))]) (hb hby d16_71) rfl ?_
          refine o_goto X13 hx 84 (hb hby d16_72) (by decide) (by decide) ?_
          refine o_lloadN X13 hx (hb hby d16_84) rfl ?_
          refine oend X13 hlk (v := some (.long (0 : Int64))) (fun h => by rw [hret] at h; cases h) (fun fs hr => retOut X13 hx (t := .long) (i := .lreturn) hret rfl (Or.inr (Or.inl ⟨rfl, rfl, _, rfl⟩)) (hb hby d16_85) hr) (by decide) (by decide) ?_
          show own_Q_of_trail_4 Z _ _ _ _ _ _ _ _ _ _ _ _ _ h0 n0 _ T13.heap _
          rw [e13]
          refine ⟨?_, N13, rfl⟩
          simp [own_tr0, own_tr1, own_tr2, own_tr3, own_tr4, hc8, hc10, hc12, hc14]
          try decide
        · refine o_icmpYes X13 hx 68 (hb hby d16_59) (feq hc14).2 (by decide) (by decide) ?_
          refine o_iload X13 hx (hb hby d16_68) rfl ?_
          refine o_i2l X13 hx (hb hby d16_70) ?_
          refine o_lstoreN X13 hx (l' := #[.val (.ref t_), .val (.ref x_), .val (.long (1 : Int64)), .second, .val (.ref x_), .val (.int (1 : Int32))]) (hb hby d16_71) rfl ?_
          refine o_goto X13 hx 84 (hb hby d16_72) (by decide) (by decide) ?_
          refine o_lloadN X13 hx (hb hby d16_84) rfl ?_
          refine oend X13 hlk (v := some (.long (1 : Int64))) (fun h => by rw [hret] at h; cases h) (fun fs hr => retOut X13 hx (t := .long) (i := .lreturn) hret rfl (Or.inr (Or.inl ⟨rfl, rfl, _, rfl⟩)) (hb hby d16_85) hr) (by decide) (by decide) ?_
          show own_Q_of_trail_4 Z _ _ _ _ _ _ _ _ _ _ _ _ _ h0 n0 _ T13.heap _
          rw [e13]
          refine ⟨?_, N13, rfl⟩
          simp [own_tr0, own_tr1, own_tr2, own_tr3, own_tr4, hc8, hc10, hc12, hc14]
          try decide
      · refine o_icmpYes X11 hx 68 (hb hby d16_59) (feq hc12).2 (by decide) (by decide) ?_
        refine o_iload X11 hx (hb hby d16_68) rfl ?_
        refine o_i2l X11 hx (hb hby d16_70) ?_
        refine o_lstoreN X11 hx (l' := #[.val (.ref t_), .val (.ref x_), .val (.long (2 : Int64)), .second, .val (.ref x_), .val (.int (2 : Int32))]) (hb hby d16_71) rfl ?_
        refine o_goto X11 hx 84 (hb hby d16_72) (by decide) (by decide) ?_
        refine o_lloadN X11 hx (hb hby d16_84) rfl ?_
        refine oend X11 hlk (v := some (.long (2 : Int64))) (fun h => by rw [hret] at h; cases h) (fun fs hr => retOut X11 hx (t := .long) (i := .lreturn) hret rfl (Or.inr (Or.inl ⟨rfl, rfl, _, rfl⟩)) (hb hby d16_85) hr) (by decide) (by decide) ?_
        show own_Q_of_trail_4 Z _ _ _ _ _ _ _ _ _ _ _ _ _ h0 n0 _ T11.heap _
        rw [e11]
        refine ⟨?_, N11, rfl⟩
        simp [own_tr0, own_tr1, own_tr2, own_tr3, own_tr4, hc8, hc10, hc12]
        try decide
    · refine o_icmpYes X9 hx 68 (hb hby d16_59) (feq hc10).2 (by decide) (by decide) ?_
      refine o_iload X9 hx (hb hby d16_68) rfl ?_
      refine o_i2l X9 hx (hb hby d16_70) ?_
      refine o_lstoreN X9 hx (l' := #[.val (.ref t_), .val (.ref x_), .val (.long (3 : Int64)), .second, .val (.ref x_), .val (.int (3 : Int32))]) (hb hby d16_71) rfl ?_
      refine o_goto X9 hx 84 (hb hby d16_72) (by decide) (by decide) ?_
      refine o_lloadN X9 hx (hb hby d16_84) rfl ?_
      refine oend X9 hlk (v := some (.long (3 : Int64))) (fun h => by rw [hret] at h; cases h) (fun fs hr => retOut X9 hx (t := .long) (i := .lreturn) hret rfl (Or.inr (Or.inl ⟨rfl, rfl, _, rfl⟩)) (hb hby d16_85) hr) (by decide) (by decide) ?_
      show own_Q_of_trail_4 Z _ _ _ _ _ _ _ _ _ _ _ _ _ h0 n0 _ T9.heap _
      rw [e9]
      refine ⟨?_, N9, rfl⟩
      simp [own_tr0, own_tr1, own_tr2, own_tr3, own_tr4, hc8, hc10]
      try decide
  · refine o_icmpYes X7 hx 68 (hb hby d16_59) (feq hc8).2 (by decide) (by decide) ?_
    refine o_iload X7 hx (hb hby d16_68) rfl ?_
    refine o_i2l X7 hx (hb hby d16_70) ?_
    refine o_lstoreN X7 hx (l' := #[.val (.ref t_), .val (.ref x_), .val (.long (4 : Int64)), .second, .val (.ref x_), .val (.int (4 : Int32))]) (hb hby d16_71) rfl ?_
    refine o_goto X7 hx 84 (hb hby d16_72) (by decide) (by decide) ?_
    refine o_lloadN X7 hx (hb hby d16_84) rfl ?_
    refine oend X7 hlk (v := some (.long (4 : Int64))) (fun h => by rw [hret] at h; cases h) (fun fs hr => retOut X7 hx (t := .long) (i := .lreturn) hret rfl (Or.inr (Or.inl ⟨rfl, rfl, _, rfl⟩)) (hb hby d16_85) hr) (by decide) (by decide) ?_
    show own_Q_of_trail_4 Z _ _ _ _ _ _ _ _ _ _ _ _ _ h0 n0 _ T7.heap _
    rw [e7]
    refine ⟨?_, N7, rfl⟩
    simp [own_tr0, own_tr1, own_tr2, own_tr3, own_tr4, hc8]
    try decide
theorem own_pd16 : parseMethodDescriptor "([CI)Ljava/lang/String;" = some ⟨[(.array .char), .int], some (.object "java/lang/String")⟩ := by decide +kernel
theorem own_pd17 : parseMethodDescriptor "(Lcom/example/upshot/upshot/ColumnCatalog$Length$Unit;J)V" = some ⟨[(.object "com/example/upshot/upshot/ColumnCatalog$Length$Unit"), .long], none⟩ := by decide +kernel
theorem own_pd18 : parseMethodDescriptor "(Ljava/lang/Object;)J" = some ⟨[(.object "java/lang/Object")], some .long⟩ := by decide +kernel
theorem own_pd19 : parseMethodDescriptor "()Lcom/example/upshot/upshot/ColumnCatalog$Length$Unit;" = some ⟨[], some (.object "com/example/upshot/upshot/ColumnCatalog$Length$Unit")⟩ := by decide +kernel
theorem own_pd20 : parseMethodDescriptor "()J" = some ⟨[], some .long⟩ := by decide +kernel
theorem own_pd21 : parseMethodDescriptor "([CI)I" = some ⟨[(.array .char), .int], some .int⟩ := by decide +kernel
def own_Q_law (Z : State) (s_CHARACTERS : Addr) (s_BYTES : Addr) (s_CHARACTERS_BUT_TRAILING_SPACES : Addr) (z_CS : Int32) (v_FMT : Value) (ki_ : Int32) (si_ : Int32) (fr_ : Int32) (bk_ : Int32) (mo_ : Int64) (h0 : Heap) (n0 : Nat) (v : Option Value) (h : Heap) (L : List Loc) : Prop := (v = some (.int (1 : Int32))) ∧ (Fr n0 L) ∧ (Keep h0 h [])
set_option maxRecDepth 65536 in
set_option maxHeartbeats 40000000 in
theorem rm_law (l : Launch) (Z : State) (a0 : Array Value) (hw : ∀ d ∈ tables_1, d.before a0 Z = true) (ws : List Jvm.Cond) (s_CHARACTERS : Addr) (s_BYTES : Addr) (s_CHARACTERS_BUT_TRAILING_SPACES : Addr) (z_CS : Int32) (v_FMT : Value) (ki_ : Int32) (si_ : Int32) (fr_ : Int32) (bk_ : Int32) (mo_ : Int64) (h0 : Heap) (n0 : Nat) (SB : own_Start Z s_CHARACTERS s_BYTES s_CHARACTERS_BUT_TRAILING_SPACES z_CS v_FMT) (O0 : Old Z n0 h0)  :
    oMetS l Z x code maxLocals ret ws room_1 24 1280 #[(.int ki_), (.int si_), (.int fr_), (.int bk_), (.long mo_)] h0 (own_Q_law Z s_CHARACTERS s_BYTES s_CHARACTERS_BUT_TRAILING_SPACES z_CS v_FMT ki_ si_ fr_ bk_ mo_ h0 n0) := by
  refine oenterS own_pn0 #[.val (.int ki_), .val (.int si_), .val (.int fr_), .val (.int bk_), .val (.long mo_), .second, .unset, .unset, .unset, .unset, .unset, .unset, .unset, .unset, .unset, .unset, .unset, .unset, .unset] (fun m => by first | (simp [entryFrame, mkF, argsToLocals, Value.category, maxLocals]; done) | rfl) ?_
  intro p e s m below meth c s₁ X0 hx hZ hby hml hret hown0 hnm hlk e0 hs0 H0 hS0
  have hEL := own_EW hw
  have wS := own_wS hw
  have hown : s.vm.findClass "com/example/upshot/upshot/LengthOfPinLaw" = some m.cls := hown0
  have N0 := Fr.nil n0
  obtain ⟨S_s_CHARACTERS, E_s_CHARACTERS, S_s_BYTES, E_s_BYTES, S_s_CHARACTERS_BUT_TRAILING_SPACES, E_s_CHARACTERS_BUT_TRAILING_SPACES, F_s_CHARACTERS_ordinal, F_s_BYTES_ordinal, F_s_CHARACTERS_BUT_TRAILING_SPACES_ordinal, S_CS, H_CS, S_FMT, R_FMT⟩ := (id SB)
  have w0 := hw _ (List.mem_of_getElem? (i := 0) rfl)
  have w1 := hw _ (List.mem_of_getElem? (i := 1) rfl)
  have w4 := hw _ (List.mem_of_getElem? (i := 4) rfl)
  have w5 := hw _ (List.mem_of_getElem? (i := 5) rfl)
  have w6 := hw _ (List.mem_of_getElem? (i := 6) rfl)
  have w7 := hw _ (List.mem_of_getElem? (i := 7) rfl)
  have w8 := hw _ (List.mem_of_getElem? (i := 8) rfl)
  have w9 := hw _ (List.mem_of_getElem? (i := 9) rfl)
  have w10 := hw _ (List.mem_of_getElem? (i := 10) rfl)
  have w11 := hw _ (List.mem_of_getElem? (i := 11) rfl)
  have w30 := hw _ (List.mem_of_getElem? (i := 30) rfl)
  have w41 := hw _ (List.mem_of_getElem? (i := 41) rfl)
  have w42 := hw _ (List.mem_of_getElem? (i := 42) rfl)
  have w43 := hw _ (List.mem_of_getElem? (i := 43) rfl)
  have w44 := hw _ (List.mem_of_getElem? (i := 44) rfl)
  have w45 := hw _ (List.mem_of_getElem? (i := 45) rfl)
  have w46 := hw _ (List.mem_of_getElem? (i := 46) rfl)
  have w49 := hw _ (List.mem_of_getElem? (i := 49) rfl)
  have w51 := hw _ (List.mem_of_getElem? (i := 51) rfl)
  have w52 := hw _ (List.mem_of_getElem? (i := 52) rfl)
  have w53 := hw _ (List.mem_of_getElem? (i := 53) rfl)
  have w54 := hw _ (List.mem_of_getElem? (i := 54) rfl)
  have w55 := hw _ (List.mem_of_getElem? (i := 55) rfl)
  have w56 := hw _ (List.mem_of_getElem? (i := 56) rfl)
  have w72 := hw _ (List.mem_of_getElem? (i := 72) rfl)
  have w73 := hw _ (List.mem_of_getElem? (i := 73) rfl)
  have w74 := hw _ (List.mem_of_getElem? (i := 74) rfl)
  have w75 := hw _ (List.mem_of_getElem? (i := 75) rfl)
  have w76 := hw _ (List.mem_of_getElem? (i := 76) rfl)
  have w77 := hw _ (List.mem_of_getElem? (i := 77) rfl)
  have w78 := hw _ (List.mem_of_getElem? (i := 78) rfl)
  have w79 := hw _ (List.mem_of_getElem? (i := 79) rfl)
  have w80 := hw _ (List.mem_of_getElem? (i := 80) rfl)
  have w81 := hw _ (List.mem_of_getElem? (i := 81) rfl)
  have w82 := hw _ (List.mem_of_getElem? (i := 82) rfl)
  have w86 := hw _ (List.mem_of_getElem? (i := 86) rfl)
  have w87 := hw _ (List.mem_of_getElem? (i := 87) rfl)
  have w88 := hw _ (List.mem_of_getElem? (i := 88) rfl)
  have w89 := hw _ (List.mem_of_getElem? (i := 89) rfl)
  refine o_iloadN X0 hx (hb hby at_0) rfl ?_
  refine ogo (S' := s₁.setTop (mkF m 3 #[.val (.int ki_), .val (.int si_), .val (.int fr_), .val (.int bk_), .val (.long mo_), .second, .unset, .unset, .unset, .unset, .unset, .unset, .unset, .unset, .unset, .unset, .unset, .unset, .unset] [(.int (2147483647 : Int32)), (.int ki_)])) (X0.ldcInt hx hown (mvT hZ w0) (g := (mkF m 1 #[.val (.int ki_), .val (.int si_), .val (.int fr_), .val (.int bk_), .val (.long mo_), .second, .unset, .unset, .unset, .unset, .unset, .unset, .unset, .unset, .unset, .unset, .unset, .unset, .unset] [(.int ki_)])) rfl (hb hby at_1)) ?_
  refine o_iand X0 hx (hb hby at_3) ?_
  refine o_iconst X0 hx (3 : Int32) (hb hby at_4) rfl ?_
  refine o_irem X0 hx (hb hby at_5) (by decide) ?_
  refine o_istore X0 hx (l' := #[.val (.int ki_), .val (.int si_), .val (.int fr_), .val (.int bk_), .val (.long mo_), .second, .val (.int ((ki_ &&& (2147483647 : Int32)) % (3 : Int32))), .unset, .unset, .unset, .unset, .unset, .unset, .unset, .unset, .unset, .unset, .unset, .unset]) (hb hby at_6) rfl ?_
  have tl : ∀ (T1 : State) (X1 : Stand p l e room_1 (s.setVm s.vm) m #[(.int ki_), (.int si_), (.int fr_), (.int bk_), (.long mo_)] below meth c T1 [] 0 0) (e1 : T1.heap = h0) (kk : Int32) (uu : Addr), (kk = (0 : Int32) ∧ s_CHARACTERS = uu ∨ kk = (1 : Int32) ∧ s_CHARACTERS_BUT_TRAILING_SPACES = uu ∨ kk = (2 : Int32) ∧ s_BYTES = uu) → Own p e below (oPostS Z (own_Q_law Z s_CHARACTERS s_BYTES s_CHARACTERS_BUT_TRAILING_SPACES z_CS v_FMT ki_ si_ fr_ bk_ mo_ h0 n0) s 24 1280) (T1.setTop (mkF m 36 #[.val (.int ki_), .val (.int si_), .val (.int fr_), .val (.int bk_), .val (.long mo_), .second, .val (.int kk), .val (.ref uu), .unset, .unset, .unset, .unset, .unset, .unset, .unset, .unset, .unset, .unset, .unset] [])) := by
    intro T1 X1 e1 kk uu hku
    refine o_iloadN X1 hx (hb hby at_36) rfl ?_
    refine ogo (S' := T1.setTop (mkF m 39 #[.val (.int ki_), .val (.int si_), .val (.int fr_), .val (.int bk_), .val (.long mo_), .second, .val (.int kk), .val (.ref uu), .unset, .unset, .unset, .unset, .unset, .unset, .unset, .unset, .unset, .unset, .unset] [(.int (2147483647 : Int32)), (.int si_)])) (X1.ldcInt hx hown (mvT hZ w0) (g := (mkF m 37 #[.val (.int ki_), .val (.int si_), .val (.int fr_), .val (.int bk_), .val (.long mo_), .second, .val (.int kk), .val (.ref uu), .unset, .unset, .unset, .unset, .unset, .unset, .unset, .unset, .unset, .unset, .unset] [(.int si_)])) rfl (hb hby at_37)) ?_
    refine o_iand X1 hx (hb hby at_39) ?_
    refine o_iconst X1 hx (5 : Int32) (hb hby at_40) rfl ?_
    refine o_irem X1 hx (hb hby at_41) (by decide) ?_
    refine o_istore X1 hx (l' := #[.val (.int ki_), .val (.int si_), .val (.int fr_), .val (.int bk_), .val (.long mo_), .second, .val (.int kk), .val (.ref uu), .val (.int ((si_ &&& (2147483647 : Int32)) % (5 : Int32))), .unset, .unset, .unset, .unset, .unset, .unset, .unset, .unset, .unset, .unset]) (hb hby at_42) rfl ?_
    refine o_iconst X1 hx (4 : Int32) (hb hby at_44) rfl ?_
    obtain ⟨T2, _, k2, X2, rfl, E2, A2, Ex2, st2⟩ := newPE (aty := .char) X1 hx hZ w4 e1 (g := (mkF m 45 #[.val (.int ki_), .val (.int si_), .val (.int fr_), .val (.int bk_), .val (.long mo_), .second, .val (.int kk), .val (.ref uu), .val (.int ((si_ &&& (2147483647 : Int32)) % (5 : Int32))), .unset, .unset, .unset, .unset, .unset, .unset, .unset, .unset, .unset, .unset] [(.int (4 : Int32))])) rfl (hb hby at_45) rfl (by decide) (cap := 4) (by decide) (by decide) (by decide) (by decide) (ad := "[C") rfl
    obtain ⟨b2, g2⟩ : ∃ z, z = h0.size := ⟨_, rfl⟩
    rw [← g2] at A2 Ex2 st2
    have n0_b2 : n0 ≤ b2 := Nat.le_trans (Nat.le_trans (Nat.le_of_eq O0.1.symm) O0.2.1) (Nat.le_trans (Nat.le_refl _) (Nat.le_of_eq g2.symm))
    have H3 := CHv.ext E2 H0
    have V2 : Arv Z T2.heap b2 k2 .char (4 : Int32) [(.int 0), (.int 0), (.int 0), (.int 0)] (.int 0) := (Arv.new A2 (by decide)).pad (pad_rep [] (.int 0) 4)
    refine ogo (S' := T2.setTop (mkF m 47 #[.val (.int ki_), .val (.int si_), .val (.int fr_), .val (.int bk_), .val (.long mo_), .second, .val (.int kk), .val (.ref uu), .val (.int ((si_ &&& (2147483647 : Int32)) % (5 : Int32))), .unset, .unset, .unset, .unset, .unset, .unset, .unset, .unset, .unset, .unset] [(.ref b2)])) st2 ?_
    refine o_astore X2 hx (l' := #[.val (.int ki_), .val (.int si_), .val (.int fr_), .val (.int bk_), .val (.long mo_), .second, .val (.int kk), .val (.ref uu), .val (.int ((si_ &&& (2147483647 : Int32)) % (5 : Int32))), .val (.ref b2), .unset, .unset, .unset, .unset, .unset, .unset, .unset, .unset, .unset]) (hb hby at_47) rfl rfl ?_
    refine o_aload X2 hx (hb hby at_49) rfl rfl ?_
    refine o_iconst X2 hx (0 : Int32) (hb hby at_51) rfl ?_
    refine o_iloadN X2 hx (hb hby at_52) rfl ?_
    obtain ⟨_, _, ⟨T4, L4, kc4, n4⟩, -, X4, ⟨Lc4, hQ4, l4, y4, z4⟩, st4⟩ := Jvm.LawKit.callS X2 hx (y := yM0) hown (mvT hZ w5) (mvT hZ w6) (mvT hZ w7) (mvT hZ w8) (by decide) (backOf (W := 2) (rm_draw l Z a0 hw []  fr_ T2.heap n0 (O0.ext E2) ) hZ w8 w7 (by decide) (by decide)) (g := (mkF m 53 #[.val (.int ki_), .val (.int si_), .val (.int fr_), .val (.int bk_), .val (.long mo_), .second, .val (.int kk), .val (.ref uu), .val (.int ((si_ &&& (2147483647 : Int32)) % (5 : Int32))), .val (.ref b2), .unset, .unset, .unset, .unset, .unset, .unset, .unset, .unset, .unset] [(.int fr_), (.int (0 : Int32)), (.ref b2)])) rfl (by rw [hml]; rfl) (argsL := [(.int fr_)]) (rest := [(.int (0 : Int32)), (.ref b2)]) (lenOf own_pd15 rfl) rfl (by show 2 * 0 + _ ≤ _; exact Nat.le_of_eq rfl) (hb hby at_53) (fun _ _ => ⟨rfl, rfl, (by decide : 1 + 0 ≤ _), (by decide : 4 + 0 ≤ _)⟩)
    dsimp only [Pt.U, Pt.locs, Pt.cells, Pt.slots] at X4 l4 y4 z4 st4 hQ4
    subst l4 y4 z4
    obtain ⟨rfl, Nq4, e4⟩ := hQ4
    have N4 := Fr.app N0 Nq4
    refine ogo (S' := T4.setTop (mkF m 56 #[.val (.int ki_), .val (.int si_), .val (.int fr_), .val (.int bk_), .val (.long mo_), .second, .val (.int kk), .val (.ref uu), .val (.int ((si_ &&& (2147483647 : Int32)) % (5 : Int32))), .val (.ref b2), .unset, .unset, .unset, .unset, .unset, .unset, .unset, .unset, .unset] [(.int (own_draw fr_)), (.int (0 : Int32)), (.ref b2)])) st4 ?_
    obtain ⟨hv0, hg0⟩ := (⟨own_draw_ok fr_, rfl⟩ : (0 ≤ (own_draw fr_).toInt ∧ (own_draw fr_).toInt < 256) ∧ own_draw fr_ = own_draw fr_)
    generalize own_draw fr_ = u0 at *
    obtain ⟨cl5, Ar5, q5, S5, N5z, H5, G5⟩ := (id V2)
    obtain ⟨T5, _, X5, rfl, W5, st5⟩ := stC X4 hx hZ e4 Ar5 (j := (0 : Int32)) (inb_of S5 ⟨by decide, by decide⟩) (g := (mkF m 56 #[.val (.int ki_), .val (.int si_), .val (.int fr_), .val (.int bk_), .val (.long mo_), .second, .val (.int kk), .val (.ref uu), .val (.int ((si_ &&& (2147483647 : Int32)) % (5 : Int32))), .val (.ref b2), .unset, .unset, .unset, .unset, .unset, .unset, .unset, .unset, .unset] [(.int u0), (.int (0 : Int32)), (.ref b2)])) rfl rfl (hb hby at_56)
    rw [(own_narsm (own_sm0 hv0) (own_sm255 hv0))] at W5
    have V5 : Arv Z T5.heap b2 k2 .char (4 : Int32) [(.int u0), (.int 0), (.int 0), (.int 0)] (.int 0) := Arv.set Ar5 q5 S5 N5z H5 G5 (by have q := fits_nar_char u0; rw [(own_narsm (own_sm0 hv0) (own_sm255 hv0))] at q; exact q) W5 0 rfl (Nat.le_of_ble_eq_true rfl)
    have N5 := Fr.snoc X5 N4 n0_b2
    have H6 := CHv.wr W5 (Safe.exa hZ.alike Ex2 (by decide) (by decide)) H3
    refine ogo (S' := T5.setTop (mkF m 57 #[.val (.int ki_), .val (.int si_), .val (.int fr_), .val (.int bk_), .val (.long mo_), .second, .val (.int kk), .val (.ref uu), .val (.int ((si_ &&& (2147483647 : Int32)) % (5 : Int32))), .val (.ref b2), .unset, .unset, .unset, .unset, .unset, .unset, .unset, .unset, .unset] [])) st5 ?_
    refine o_aload X5 hx (hb hby at_57) rfl rfl ?_
    refine o_iconst X5 hx (1 : Int32) (hb hby at_59) rfl ?_
    refine o_iloadN X5 hx (hb hby at_60) rfl ?_
    refine o_bipush X5 hx (16 : Int32) (hb hby at_61) rfl ?_
    refine o_iushr X5 hx (hb hby at_63) ?_
    obtain ⟨_, _, ⟨T7, L7, kc7, n7⟩, -, X7, ⟨Lc7, hQ7, l7, y7, z7⟩, st7⟩ := Jvm.LawKit.callS X5 hx (y := yM0) hown (mvT hZ w5) (mvT hZ w6) (mvT hZ w7) (mvT hZ w8) (by decide) (backOf (W := 2) (rm_draw l Z a0 hw []  (own_ushr fr_ (16 : Int32)) T5.heap n0 ((O0.ext E2).wr W5 n0_b2) ) hZ w8 w7 (by decide) (by decide)) (g := (mkF m 64 #[.val (.int ki_), .val (.int si_), .val (.int fr_), .val (.int bk_), .val (.long mo_), .second, .val (.int kk), .val (.ref uu), .val (.int ((si_ &&& (2147483647 : Int32)) % (5 : Int32))), .val (.ref b2), .unset, .unset, .unset, .unset, .unset, .unset, .unset, .unset, .unset] [(.int (own_ushr fr_ (16 : Int32))), (.int (1 : Int32)), (.ref b2)])) rfl (by rw [hml]; rfl) (argsL := [(.int (own_ushr fr_ (16 : Int32)))]) (rest := [(.int (1 : Int32)), (.ref b2)]) (lenOf own_pd15 rfl) rfl (by show 2 * 0 + _ ≤ _; exact Nat.le_of_eq rfl) (hb hby at_64) (fun _ _ => ⟨rfl, rfl, (by decide : 1 + 0 ≤ _), (by decide : 4 + 0 ≤ _)⟩)
    dsimp only [Pt.U, Pt.locs, Pt.cells, Pt.slots] at X7 l7 y7 z7 st7 hQ7
    subst l7 y7 z7
    obtain ⟨rfl, Nq7, e7⟩ := hQ7
    have N7 := Fr.app N5 Nq7
    refine ogo (S' := T7.setTop (mkF m 67 #[.val (.int ki_), .val (.int si_), .val (.int fr_), .val (.int bk_), .val (.long mo_), .second, .val (.int kk), .val (.ref uu), .val (.int ((si_ &&& (2147483647 : Int32)) % (5 : Int32))), .val (.ref b2), .unset, .unset, .unset, .unset, .unset, .unset, .unset, .unset, .unset] [(.int (own_draw (own_ushr fr_ (16 : Int32)))), (.int (1 : Int32)), (.ref b2)])) st7 ?_
    obtain ⟨hv1, hg1⟩ := (⟨own_draw_ok (own_ushr fr_ (16 : Int32)), rfl⟩ : (0 ≤ (own_draw (own_ushr fr_ (16 : Int32))).toInt ∧ (own_draw (own_ushr fr_ (16 : Int32))).toInt < 256) ∧ own_draw (own_ushr fr_ (16 : Int32)) = own_draw (own_ushr fr_ (16 : Int32)))
    generalize own_draw (own_ushr fr_ (16 : Int32)) = u1 at *
    obtain ⟨cl8, Ar8, q8, S8, N8z, H8, G8⟩ := (id V5)
    obtain ⟨T8, _, X8, rfl, W8, st8⟩ := stC X7 hx hZ e7 Ar8 (j := (1 : Int32)) (inb_of S8 ⟨by decide, by decide⟩) (g := (mkF m 67 #[.val (.int ki_), .val (.int si_), .val (.int fr_), .val (.int bk_), .val (.long mo_), .second, .val (.int kk), .val (.ref uu), .val (.int ((si_ &&& (2147483647 : Int32)) % (5 : Int32))), .val (.ref b2), .unset, .unset, .unset, .unset, .unset, .unset, .unset, .unset, .unset] [(.int u1), (.int (1 : Int32)), (.ref b2)])) rfl rfl (hb hby at_67)
    rw [(own_narsm (own_sm0 hv1) (own_sm255 hv1))] at W8
    have V8 : Arv Z T8.heap b2 k2 .char (4 : Int32) [(.int u0), (.int u1), (.int 0), (.int 0)] (.int 0) := Arv.set Ar8 q8 S8 N8z H8 G8 (by have q := fits_nar_char u1; rw [(own_narsm (own_sm0 hv1) (own_sm255 hv1))] at q; exact q) W8 1 rfl (Nat.le_of_ble_eq_true rfl)
    have N8 := Fr.snoc X8 N7 n0_b2
    have H9 := CHv.wr W8 (Safe.exa hZ.alike (Exa.wr W5 Ex2) (by decide) (by decide)) H6
    refine ogo (S' := T8.setTop (mkF m 68 #[.val (.int ki_), .val (.int si_), .val (.int fr_), .val (.int bk_), .val (.long mo_), .second, .val (.int kk), .val (.ref uu), .val (.int ((si_ &&& (2147483647 : Int32)) % (5 : Int32))), .val (.ref b2), .unset, .unset, .unset, .unset, .unset, .unset, .unset, .unset, .unset] [])) st8 ?_
    refine o_aload X8 hx (hb hby at_68) rfl rfl ?_
    refine o_iconst X8 hx (2 : Int32) (hb hby at_70) rfl ?_
    refine o_iloadN X8 hx (hb hby at_71) rfl ?_
    obtain ⟨_, _, ⟨T10, L10, kc10, n10⟩, -, X10, ⟨Lc10, hQ10, l10, y10, z10⟩, st10⟩ := Jvm.LawKit.callS X8 hx (y := yM0) hown (mvT hZ w5) (mvT hZ w6) (mvT hZ w7) (mvT hZ w8) (by decide) (backOf (W := 2) (rm_draw l Z a0 hw []  bk_ T8.heap n0 (((O0.ext E2).wr W5 n0_b2).wr W8 n0_b2) ) hZ w8 w7 (by decide) (by decide)) (g := (mkF m 72 #[.val (.int ki_), .val (.int si_), .val (.int fr_), .val (.int bk_), .val (.long mo_), .second, .val (.int kk), .val (.ref uu), .val (.int ((si_ &&& (2147483647 : Int32)) % (5 : Int32))), .val (.ref b2), .unset, .unset, .unset, .unset, .unset, .unset, .unset, .unset, .unset] [(.int bk_), (.int (2 : Int32)), (.ref b2)])) rfl (by rw [hml]; rfl) (argsL := [(.int bk_)]) (rest := [(.int (2 : Int32)), (.ref b2)]) (lenOf own_pd15 rfl) rfl (by show 2 * 0 + _ ≤ _; exact Nat.le_of_eq rfl) (hb hby at_72) (fun _ _ => ⟨rfl, rfl, (by decide : 1 + 0 ≤ _), (by decide : 4 + 0 ≤ _)⟩)
    dsimp only [Pt.U, Pt.locs, Pt.cells, Pt.slots] at X10 l10 y10 z10 st10 hQ10
    subst l10 y10 z10
    obtain ⟨rfl, Nq10, e10⟩ := hQ10
    have N10 := Fr.app N8 Nq10
    refine ogo (S' := T10.setTop (mkF m 75 #[.val (.int ki_), .val (.int si_), .val (.int fr_), .val (.int bk_), .val (.long mo_), .second, .val (.int kk), .val (.ref uu), .val (.int ((si_ &&& (2147483647 : Int32)) % (5 : Int32))), .val (.ref b2), .unset, .unset, .unset, .unset, .unset, .unset, .unset, .unset, .unset] [(.int (own_draw bk_)), (.int (2 : Int32)), (.ref b2)])) st10 ?_
    obtain ⟨hv2, hg2⟩ := (⟨own_draw_ok bk_, rfl⟩ : (0 ≤ (own_draw bk_).toInt ∧ (own_draw bk_).toInt < 256) ∧ own_draw bk_ = own_draw bk_)
    generalize own_draw bk_ = u2 at *
    obtain ⟨cl11, Ar11, q11, S11, N11z, H11, G11⟩ := (id V8)
    obtain ⟨T11, _, X11, rfl, W11, st11⟩ := stC X10 hx hZ e10 Ar11 (j := (2 : Int32)) (inb_of S11 ⟨by decide, by decide⟩) (g := (mkF m 75 #[.val (.int ki_), .val (.int si_), .val (.int fr_), .val (.int bk_), .val (.long mo_), .second, .val (.int kk), .val (.ref uu), .val (.int ((si_ &&& (2147483647 : Int32)) % (5 : Int32))), .val (.ref b2), .unset, .unset, .unset, .unset, .unset, .unset, .unset, .unset, .unset] [(.int u2), (.int (2 : Int32)), (.ref b2)])) rfl rfl (hb hby at_75)
    rw [(own_narsm (own_sm0 hv2) (own_sm255 hv2))] at W11
    have V11 : Arv Z T11.heap b2 k2 .char (4 : Int32) [(.int u0), (.int u1), (.int u2), (.int 0)] (.int 0) := Arv.set Ar11 q11 S11 N11z H11 G11 (by have q := fits_nar_char u2; rw [(own_narsm (own_sm0 hv2) (own_sm255 hv2))] at q; exact q) W11 2 rfl (Nat.le_of_ble_eq_true rfl)
    have N11 := Fr.snoc X11 N10 n0_b2
    have H12 := CHv.wr W11 (Safe.exa hZ.alike (Exa.wr W8 (Exa.wr W5 Ex2)) (by decide) (by decide)) H9
    refine ogo (S' := T11.setTop (mkF m 76 #[.val (.int ki_), .val (.int si_), .val (.int fr_), .val (.int bk_), .val (.long mo_), .second, .val (.int kk), .val (.ref uu), .val (.int ((si_ &&& (2147483647 : Int32)) % (5 : Int32))), .val (.ref b2), .unset, .unset, .unset, .unset, .unset, .unset, .unset, .unset, .unset] [])) st11 ?_
    refine o_aload X11 hx (hb hby at_76) rfl rfl ?_
    refine o_iconst X11 hx (3 : Int32) (hb hby at_78) rfl ?_
    refine o_iloadN X11 hx (hb hby at_79) rfl ?_
    refine o_bipush X11 hx (16 : Int32) (hb hby at_80) rfl ?_
    refine o_iushr X11 hx (hb hby at_82) ?_
    obtain ⟨_, _, ⟨T13, L13, kc13, n13⟩, -, X13, ⟨Lc13, hQ13, l13, y13, z13⟩, st13⟩ := Jvm.LawKit.callS X11 hx (y := yM0) hown (mvT hZ w5) (mvT hZ w6) (mvT hZ w7) (mvT hZ w8) (by decide) (backOf (W := 2) (rm_draw l Z a0 hw []  (own_ushr bk_ (16 : Int32)) T11.heap n0 ((((O0.ext E2).wr W5 n0_b2).wr W8 n0_b2).wr W11 n0_b2) ) hZ w8 w7 (by decide) (by decide)) (g := (mkF m 83 #[.val (.int ki_), .val (.int si_), .val (.int fr_), .val (.int bk_), .val (.long mo_), .second, .val (.int kk), .val (.ref uu), .val (.int ((si_ &&& (2147483647 : Int32)) % (5 : Int32))), .val (.ref b2), .unset, .unset, .unset, .unset, .unset, .unset, .unset, .unset, .unset] [(.int (own_ushr bk_ (16 : Int32))), (.int (3 : Int32)), (.ref b2)])) rfl (by rw [hml]; rfl) (argsL := [(.int (own_ushr bk_ (16 : Int32)))]) (rest := [(.int (3 : Int32)), (.ref b2)]) (lenOf own_pd15 rfl) rfl (by show 2 * 0 + _ ≤ _; exact Nat.le_of_eq rfl) (hb hby at_83) (fun _ _ => ⟨rfl, rfl, (by decide : 1 + 0 ≤ _), (by decide : 4 + 0 ≤ _)⟩)
    dsimp only [Pt.U, Pt.locs, Pt.cells, Pt.slots] at X13 l13 y13 z13 st13 hQ13
    subst l13 y13 z13
    obtain ⟨rfl, Nq13, e13⟩ := hQ13
    have N13 := Fr.app N11 Nq13
    refine ogo (S' := T13.setTop (mkF m 86 #[.val (.int ki_), .val (.int si_), .val (.int fr_), .val (.int bk_), .val (.long mo_), .second, .val (.int kk), .val (.ref uu), .val (.int ((si_ &&& (2147483647 : Int32)) % (5 : Int32))), .val (.ref b2), .unset, .unset, .unset, .unset, .unset, .unset, .unset, .unset, .unset] [(.int (own_draw (own_ushr bk_ (16 : Int32)))), (.int (3 : Int32)), (.ref b2)])) st13 ?_
    obtain ⟨hv3, hg3⟩ := (⟨own_draw_ok (own_ushr bk_ (16 : Int32)), rfl⟩ : (0 ≤ (own_draw (own_ushr bk_ (16 : Int32))).toInt ∧ (own_draw (own_ushr bk_ (16 : Int32))).toInt < 256) ∧ own_draw (own_ushr bk_ (16 : Int32)) = own_draw (own_ushr bk_ (16 : Int32)))
    generalize own_draw (own_ushr bk_ (16 : Int32)) = u3 at *
    obtain ⟨cl14, Ar14, q14, S14, N14z, H14, G14⟩ := (id V11)
    obtain ⟨T14, _, X14, rfl, W14, st14⟩ := stC X13 hx hZ e13 Ar14 (j := (3 : Int32)) (inb_of S14 ⟨by decide, by decide⟩) (g := (mkF m 86 #[.val (.int ki_), .val (.int si_), .val (.int fr_), .val (.int bk_), .val (.long mo_), .second, .val (.int kk), .val (.ref uu), .val (.int ((si_ &&& (2147483647 : Int32)) % (5 : Int32))), .val (.ref b2), .unset, .unset, .unset, .unset, .unset, .unset, .unset, .unset, .unset] [(.int u3), (.int (3 : Int32)), (.ref b2)])) rfl rfl (hb hby at_86)
    rw [(own_narsm (own_sm0 hv3) (own_sm255 hv3))] at W14
    have V14 : Arv Z T14.heap b2 k2 .char (4 : Int32) [(.int u0), (.int u1), (.int u2), (.int u3)] (.int 0) := Arv.set Ar14 q14 S14 N14z H14 G14 (by have q := fits_nar_char u3; rw [(own_narsm (own_sm0 hv3) (own_sm255 hv3))] at q; exact q) W14 3 rfl (Nat.le_of_ble_eq_true rfl)
    have N14 := Fr.snoc X14 N13 n0_b2
    have H15 := CHv.wr W14 (Safe.exa hZ.alike (Exa.wr W11 (Exa.wr W8 (Exa.wr W5 Ex2))) (by decide) (by decide)) H12
    refine ogo (S' := T14.setTop (mkF m 87 #[.val (.int ki_), .val (.int si_), .val (.int fr_), .val (.int bk_), .val (.long mo_), .second, .val (.int kk), .val (.ref uu), .val (.int ((si_ &&& (2147483647 : Int32)) % (5 : Int32))), .val (.ref b2), .unset, .unset, .unset, .unset, .unset, .unset, .unset, .unset, .unset] [])) st14 ?_
    rcases own_rem5 si_ with hs16 | hs16 | hs16 | hs16 | hs16
    · rw [hs16]
      refine o_aload X14 hx (hb hby at_87) rfl rfl ?_
      refine o_iload X14 hx (hb hby at_89) rfl ?_
      have c18 := (((((O0.ext E2).wr W5 n0_b2).wr W8 n0_b2).wr W11 n0_b2).wr W14 n0_b2)
      obtain ⟨_, _, ⟨T17, L17, kc17, n17⟩, -, X17, hSi17, hgr17, ⟨Lc17, hQ17, l17, y17, z17, C17⟩, st17⟩ := callSS X14 hx (y := yM10) hown (mvT hZ w9) (mvT hZ w10) (mvT hZ w7) (mvT hZ w11) (by decide) (backOfSH (W := 0) (rm_text_0 l Z a0 hw [] s_CHARACTERS s_BYTES s_CHARACTERS_BUT_TRAILING_SPACES z_CS v_FMT b2 k2 u0 u1 u2 u3 T14.heap n0 SB c18 V14 (own_sm255 hv0) (own_sm255 hv1) (own_sm255 hv2) (own_sm255 hv3) (own_narsm (own_sm0 hv0) (own_sm255 hv0)) (own_narsm (own_sm0 hv1) (own_sm255 hv1)) (own_narsm (own_sm0 hv2) (own_sm255 hv2)) (own_narsm (own_sm0 hv3) (own_sm255 hv3))) hZ w11 w7 (by decide) (by decide) hEL H15) (g := (mkF m 91 #[.val (.int ki_), .val (.int si_), .val (.int fr_), .val (.int bk_), .val (.long mo_), .second, .val (.int kk), .val (.ref uu), .val (.int (0 : Int32)), .val (.ref b2), .unset, .unset, .unset, .unset, .unset, .unset, .unset, .unset, .unset] [(.int (0 : Int32)), (.ref b2)])) rfl (by rw [hml]; rfl) (argsL := [(.ref b2), (.int (0 : Int32))]) (rest := []) (lenOf own_pd16 rfl) rfl (by show 2 * 0 + _ ≤ _; exact Nat.le_of_eq rfl) (hb hby at_91) (fun _ _ => ⟨rfl, rfl, (by decide : 1 + 6 ≤ _), (by decide : 4 + 12 ≤ _)⟩)
      dsimp only [Pt.U, Pt.locs, Pt.cells, Pt.slots] at X17 l17 y17 z17 st17 hQ17 hSi17 hgr17 C17
      subst l17 y17 z17
      obtain ⟨x_17, ba_17, kb_17, rfl, Nq17, K17, p17_0, p17_1, p17_2, p17_3, p17_4, p17_5⟩ := hQ17
      have N17 := Fr.app N14 Nq17
      have X17 : Stand p l e room_1 (s.setVm T17.vm) m #[(.int ki_), (.int si_), (.int fr_), (.int bk_), (.long mo_)] below meth c T17 _ _ _ := X17
      have hS17 := foldS hS0 (Nat.le_trans (Nat.zero_le _) (Nat.le_trans (Nat.le_trans (Nat.le_trans (Nat.le_trans E2.1 (Keep.of_wr W5).1) (Keep.of_wr W8).1) (Keep.of_wr W11).1) (Keep.of_wr W14).1)) hSi17 hgr17
      have hZ17 : Z.Warmed39 T17.vm := State.Warmed39.trans (t := s) hZ hSi17.1
      have hown17 : T17.vm.findClass "com/example/upshot/upshot/LengthOfPinLaw" = some m.cls := by rw [hSi17.1.alike.findClass]; exact hown
      have H19 := C17.1
      have n0_x_17 : n0 ≤ x_17 := Nat.le_trans (Nat.le_trans (Nat.le_of_eq O0.1.symm) O0.2.1) (Nat.le_trans (Nat.le_trans (Nat.le_trans (Nat.le_trans (Nat.le_trans E2.1 (Keep.of_wr W5).1) (Keep.of_wr W8).1) (Keep.of_wr W11).1) (Keep.of_wr W14).1) p17_0)
      refine otr (S' := T17.setTop (mkF m 94 #[.val (.int ki_), .val (.int si_), .val (.int fr_), .val (.int bk_), .val (.long mo_), .second, .val (.int kk), .val (.ref uu), .val (.int (0 : Int32)), .val (.ref b2), .unset, .unset, .unset, .unset, .unset, .unset, .unset, .unset, .unset] [(.ref x_17)])) st17 ?_
      refine o_astore X17 hx (l' := #[.val (.int ki_), .val (.int si_), .val (.int fr_), .val (.int bk_), .val (.long mo_), .second, .val (.int kk), .val (.ref uu), .val (.int (0 : Int32)), .val (.ref b2), .val (.ref x_17), .unset, .unset, .unset, .unset, .unset, .unset, .unset, .unset]) (hb hby at_94) rfl rfl ?_
      refine o_iloadN X17 hx (hb hby at_96) rfl ?_
      refine o_bipush X17 hx (8 : Int32) (hb hby at_97) rfl ?_
      refine o_iushr X17 hx (hb hby at_99) ?_
      refine o_bipush X17 hx (63 : Int32) (hb hby at_100) rfl ?_
      refine o_iand X17 hx (hb hby at_102) ?_
      refine o_istore X17 hx (l' := #[.val (.int ki_), .val (.int si_), .val (.int fr_), .val (.int bk_), .val (.long mo_), .second, .val (.int kk), .val (.ref uu), .val (.int (0 : Int32)), .val (.ref b2), .val (.ref x_17), .val (.int ((own_ushr si_ (8 : Int32)) &&& (63 : Int32))), .unset, .unset, .unset, .unset, .unset, .unset, .unset]) (hb hby at_103) rfl ?_
      refine o_iload X17 hx (hb hby at_105) rfl ?_
      obtain ⟨T20, _, k20, X20, rfl, E20, A20, Ex20, st20⟩ := newPE (aty := .byte) X17 hx hZ17 w30 rfl (g := (mkF m 107 #[.val (.int ki_), .val (.int si_), .val (.int fr_), .val (.int bk_), .val (.long mo_), .second, .val (.int kk), .val (.ref uu), .val (.int (0 : Int32)), .val (.ref b2), .val (.ref x_17), .val (.int ((own_ushr si_ (8 : Int32)) &&& (63 : Int32))), .unset, .unset, .unset, .unset, .unset, .unset, .unset] [(.int ((own_ushr si_ (8 : Int32)) &&& (63 : Int32)))])) rfl (hb hby at_107) rfl (own_b63n _) (cap := 63) (own_b63l _) (by decide) (by decide) (by decide) (ad := "[B") rfl
      obtain ⟨b20, g20⟩ : ∃ z, z = T17.heap.size := ⟨_, rfl⟩
      rw [← g20] at A20 Ex20 st20
      have n0_b20 : n0 ≤ b20 := Nat.le_trans (Nat.le_trans (Nat.le_of_eq O0.1.symm) O0.2.1) (Nat.le_trans (Nat.le_trans (Nat.le_trans (Nat.le_trans (Nat.le_trans (Nat.le_trans E2.1 (Keep.of_wr W5).1) (Keep.of_wr W8).1) (Keep.of_wr W11).1) (Keep.of_wr W14).1) K17.1) (Nat.le_of_eq g20.symm))
      have H21 := CHv.ext E20 H19
      have V20 : Arv Z T20.heap b20 k20 .byte ((own_ushr si_ (8 : Int32)) &&& (63 : Int32)) [] (.int 0) := Arv.new A20 (own_b63n _)
      refine ogo (S' := T20.setTop (mkF m 109 #[.val (.int ki_), .val (.int si_), .val (.int fr_), .val (.int bk_), .val (.long mo_), .second, .val (.int kk), .val (.ref uu), .val (.int (0 : Int32)), .val (.ref b2), .val (.ref x_17), .val (.int ((own_ushr si_ (8 : Int32)) &&& (63 : Int32))), .unset, .unset, .unset, .unset, .unset, .unset, .unset] [(.ref b20)])) st20 ?_
      refine o_astore X20 hx (l' := #[.val (.int ki_), .val (.int si_), .val (.int fr_), .val (.int bk_), .val (.long mo_), .second, .val (.int kk), .val (.ref uu), .val (.int (0 : Int32)), .val (.ref b2), .val (.ref x_17), .val (.int ((own_ushr si_ (8 : Int32)) &&& (63 : Int32))), .val (.ref b20), .unset, .unset, .unset, .unset, .unset, .unset]) (hb hby at_109) rfl rfl ?_
      obtain ⟨T22, _, X22, rfl, E22, A22, D22, -, st22⟩ := newO X20 hx hZ17 hown17 w41 w42 w43 rfl (g := (mkF m 111 #[.val (.int ki_), .val (.int si_), .val (.int fr_), .val (.int bk_), .val (.long mo_), .second, .val (.int kk), .val (.ref uu), .val (.int (0 : Int32)), .val (.ref b2), .val (.ref x_17), .val (.int ((own_ushr si_ (8 : Int32)) &&& (63 : Int32))), .val (.ref b20), .unset, .unset, .unset, .unset, .unset, .unset] [])) rfl (hb hby at_111) (by decide) (by decide)
      obtain ⟨b22, g22⟩ : ∃ z, z = T20.heap.size := ⟨_, rfl⟩
      rw [← g22] at A22 D22 st22
      have n0_b22 : n0 ≤ b22 := Nat.le_trans (Nat.le_trans (Nat.le_of_eq O0.1.symm) O0.2.1) (Nat.le_trans (Nat.le_trans (Nat.le_trans (Nat.le_trans (Nat.le_trans (Nat.le_trans (Nat.le_trans E2.1 (Keep.of_wr W5).1) (Keep.of_wr W8).1) (Keep.of_wr W11).1) (Keep.of_wr W14).1) K17.1) E20.1) (Nat.le_of_eq g22.symm))
      have H23 := CHv.ext E22 H21
      have F22_unit : Fld Z T22.heap b22 "com/example/upshot/upshot/ColumnCatalog$Length" "unit" "Lcom/example/upshot/upshot/ColumnCatalog$Length$Unit;" .null := D22 (Or.inr w49) (ty := (.object "com/example/upshot/upshot/ColumnCatalog$Length$Unit")) (by decide)
      have F22_most : Fld Z T22.heap b22 "com/example/upshot/upshot/ColumnCatalog$Length" "most" "J" (.long (0 : Int64)) := D22 (Or.inr w51) (ty := .long) (by decide)
      refine ogo (S' := T22.setTop (mkF m 114 #[.val (.int ki_), .val (.int si_), .val (.int fr_), .val (.int bk_), .val (.long mo_), .second, .val (.int kk), .val (.ref uu), .val (.int (0 : Int32)), .val (.ref b2), .val (.ref x_17), .val (.int ((own_ushr si_ (8 : Int32)) &&& (63 : Int32))), .val (.ref b20), .unset, .unset, .unset, .unset, .unset, .unset] [(.ref b22)])) st22 ?_
      refine o_dup X22 hx (hb hby at_114) rfl ?_
      refine o_aload X22 hx (hb hby at_115) rfl rfl ?_
      refine o_lload X22 hx (hb hby at_117) rfl ?_
      obtain ⟨_, _, ⟨T24, L24, kc24, n24⟩, -, X24, ⟨Lc24, hQ24, l24, y24, z24⟩, st24⟩ := X22.specialBack hx (y := yM12) rfl hown17 (mvT hZ17 w44) (mvT hZ17 w45) (mvT hZ17 w46) (by decide) (backOf (W := 1) (rm_linit l Z a0 hw []  b22 uu mo_ T22.heap n0 (((c18.keep K17 all0).ext E20).ext E22) A22 F22_unit F22_most n0_b22) hZ17 w46 w43 (by decide) (by decide)) (g := (mkF m 119 #[.val (.int ki_), .val (.int si_), .val (.int fr_), .val (.int bk_), .val (.long mo_), .second, .val (.int kk), .val (.ref uu), .val (.int (0 : Int32)), .val (.ref b2), .val (.ref x_17), .val (.int ((own_ushr si_ (8 : Int32)) &&& (63 : Int32))), .val (.ref b20), .unset, .unset, .unset, .unset, .unset, .unset] [(.long mo_), (.ref uu), (.ref b22), (.ref b22)])) rfl (by rw [hml]; rfl) (Steps.refl _) (a := b22) (argsL := [(.ref uu), (.long mo_)]) (rest := [(.ref b22)]) (lenOf own_pd17 rfl) rfl (by show 2 * 0 + _ ≤ _; exact Nat.le_of_eq rfl) (hb hby at_119) (fun _ _ => ⟨rfl, rfl, (by decide : 9 + 0 ≤ _), (by decide : 81 + 0 ≤ _)⟩)
      dsimp only [Pt.U, Pt.locs, Pt.cells, Pt.slots] at X24 l24 y24 z24 st24 hQ24
      subst l24 y24 z24
      obtain ⟨rfl, Nq24, K24, p24_0, p24_1, p24_2⟩ := hQ24
      have N24 := Fr.app N17 Nq24
      have H25 := CHv.keep K24 (allS (Safe.exa hZ17.alike A22 (by decide) (by decide)) all0) H23
      refine otr (S' := T24.setTop (mkF m 122 #[.val (.int ki_), .val (.int si_), .val (.int fr_), .val (.int bk_), .val (.long mo_), .second, .val (.int kk), .val (.ref uu), .val (.int (0 : Int32)), .val (.ref b2), .val (.ref x_17), .val (.int ((own_ushr si_ (8 : Int32)) &&& (63 : Int32))), .val (.ref b20), .unset, .unset, .unset, .unset, .unset, .unset] [(.ref b22)])) st24 ?_
      refine o_astore X24 hx (l' := #[.val (.int ki_), .val (.int si_), .val (.int fr_), .val (.int bk_), .val (.long mo_), .second, .val (.int kk), .val (.ref uu), .val (.int (0 : Int32)), .val (.ref b2), .val (.ref x_17), .val (.int ((own_ushr si_ (8 : Int32)) &&& (63 : Int32))), .val (.ref b20), .val (.ref b22), .unset, .unset, .unset, .unset, .unset]) (hb hby at_122) rfl rfl ?_
      rcases hku with ⟨rfl, rfl⟩ | ⟨rfl, rfl⟩ | ⟨rfl, rfl⟩
      · refine o_iload X24 hx (hb hby at_124) rfl ?_
        refine o_iconst X24 hx (2 : Int32) (hb hby at_126) rfl ?_
        refine o_icmpYes X24 hx 142 (hb hby at_127) (feq (by decide : ¬ ((0 : Int32) = (2 : Int32)))).2 (by decide) (by decide) ?_
        refine o_iload X24 hx (hb hby at_142) rfl ?_
        refine o_iconst X24 hx (1 : Int32) (hb hby at_144) rfl ?_
        refine o_icmpYes X24 hx 165 (hb hby at_145) (feq (by decide : ¬ ((0 : Int32) = (1 : Int32)))).2 (by decide) (by decide) ?_
        refine o_aload X24 hx (hb hby at_165) rfl rfl ?_
        refine o_astore X24 hx (l' := #[.val (.int ki_), .val (.int si_), .val (.int fr_), .val (.int bk_), .val (.long mo_), .second, .val (.int (0 : Int32)), .val (.ref s_CHARACTERS), .val (.int (0 : Int32)), .val (.ref b2), .val (.ref x_17), .val (.int ((own_ushr si_ (8 : Int32)) &&& (63 : Int32))), .val (.ref b20), .val (.ref b22), .val (.ref x_17), .unset, .unset, .unset, .unset]) (hb hby at_167) rfl rfl ?_
        refine o_iload X24 hx (hb hby at_169) rfl ?_
        refine o_i2l X24 hx (hb hby at_171) ?_
        refine o_lstore X24 hx (l' := #[.val (.int ki_), .val (.int si_), .val (.int fr_), .val (.int bk_), .val (.long mo_), .second, .val (.int (0 : Int32)), .val (.ref s_CHARACTERS), .val (.int (0 : Int32)), .val (.ref b2), .val (.ref x_17), .val (.int ((own_ushr si_ (8 : Int32)) &&& (63 : Int32))), .val (.ref b20), .val (.ref b22), .val (.ref x_17), .val (.long (0 : Int64)), .second, .unset, .unset]) (hb hby at_172) rfl ?_
        refine o_aload X24 hx (hb hby at_174) rfl rfl ?_
        refine o_aload X24 hx (hb hby at_176) rfl rfl ?_
        have c27 := ((((c18.keep K17 all0).ext E20).ext E22).keep K24 (allS n0_b22 all0))
        have c28 := ((Fld.ext E22 (Fld.ext E20 p17_3)).keep K24 (ninS (Nat.ne_of_lt (Nat.lt_of_lt_of_le (Nat.lt_of_lt_of_le p17_2.lt E20.1) (Nat.le_of_eq g22.symm))) nin0))
        have c29 := ((Fld.ext E22 (Fld.ext E20 p17_4)).keep K24 (ninS (Nat.ne_of_lt (Nat.lt_of_lt_of_le (Nat.lt_of_lt_of_le p17_2.lt E20.1) (Nat.le_of_eq g22.symm))) nin0))
        have c30 := (((p17_5.ext E20).ext E22).keep K24 (ninS (Nat.ne_of_lt (Nat.lt_of_lt_of_le (Nat.lt_of_lt_of_le p17_1 E20.1) (Nat.le_of_eq g22.symm))) nin0))
        obtain ⟨cq26, kq26, q26a, q26b, q26c⟩ := isOf hZ17 rfl p24_0
        obtain ⟨_, _, ⟨T26, L26, kc26, n26⟩, -, X26, ⟨Lc26, hQ26, l26, y26, z26⟩, st26⟩ := X24.virtualBack hx (y := yM15) (z := yM15) hown17 (mvT hZ17 w52) (mvT hZ17 w53) (notFace_of_selects (args := #[]) (mvT hZ17 w55)) (mvT hZ17 w55) (mvT hZ17 w54) (by decide) (backOf (W := 0) (rm_of_chars_0 l Z a0 hw [] s_CHARACTERS s_BYTES s_CHARACTERS_BUT_TRAILING_SPACES z_CS v_FMT b22 x_17 ba_17 kb_17 [] T24.heap n0 SB c27 p24_1 ((Exa.ext E22 (Exa.ext E20 p17_2)).keep K24) c28 c29 c30) hZ17 w56 w43 (by decide) (by decide)) q26a q26c (g := (mkF m 178 #[.val (.int ki_), .val (.int si_), .val (.int fr_), .val (.int bk_), .val (.long mo_), .second, .val (.int (0 : Int32)), .val (.ref s_CHARACTERS), .val (.int (0 : Int32)), .val (.ref b2), .val (.ref x_17), .val (.int ((own_ushr si_ (8 : Int32)) &&& (63 : Int32))), .val (.ref b20), .val (.ref b22), .val (.ref x_17), .val (.long (0 : Int64)), .second, .unset, .unset] [(.ref x_17), (.ref b22)])) rfl (by rw [hml]; rfl) (Steps.refl _) (argsL := [(.ref x_17)]) (rest := []) (lenOf own_pd18 rfl) rfl (by show 2 * 0 + _ ≤ _; exact Nat.le_of_eq rfl) (hb hby at_178) (fun _ _ => ⟨rfl, rfl, (by decide : 9 + 0 ≤ _), (by decide : 81 + 0 ≤ _)⟩)
        dsimp only [Pt.U, Pt.locs, Pt.cells, Pt.slots] at X26 l26 y26 z26 st26 hQ26
        subst l26 y26 z26
        obtain ⟨rfl, Nq26, e26⟩ := hQ26
        have N26 := Fr.app N24 Nq26
        refine otr (S' := T26.setTop (mkF m 181 #[.val (.int ki_), .val (.int si_), .val (.int fr_), .val (.int bk_), .val (.long mo_), .second, .val (.int (0 : Int32)), .val (.ref s_CHARACTERS), .val (.int (0 : Int32)), .val (.ref b2), .val (.ref x_17), .val (.int ((own_ushr si_ (8 : Int32)) &&& (63 : Int32))), .val (.ref b20), .val (.ref b22), .val (.ref x_17), .val (.long (0 : Int64)), .second, .unset, .unset] [(.long (0 : Int64))])) st26 ?_
        refine o_lstore X26 hx (l' := #[.val (.int ki_), .val (.int si_), .val (.int fr_), .val (.int bk_), .val (.long mo_), .second, .val (.int (0 : Int32)), .val (.ref s_CHARACTERS), .val (.int (0 : Int32)), .val (.ref b2), .val (.ref x_17), .val (.int ((own_ushr si_ (8 : Int32)) &&& (63 : Int32))), .val (.ref b20), .val (.ref b22), .val (.ref x_17), .val (.long (0 : Int64)), .second, .val (.long (0 : Int64)), .second]) (hb hby at_181) rfl ?_
        refine o_lload X26 hx (hb hby at_183) rfl ?_
        refine o_lload X26 hx (hb hby at_185) rfl ?_
        refine o_lcmp X26 hx (hb hby at_187) ?_
        refine o_ifNo X26 hx (hb hby at_188) (teq ((lw_eq _ _).mpr (by decide : (0 : Int64) = (0 : Int64)))).2 ?_
        refine o_aload X26 hx (hb hby at_191) rfl rfl ?_
        obtain ⟨cq31, kq31, q31a, q31b, q31c⟩ := isOf hZ17 e26 p24_0
        obtain ⟨_, _, ⟨T31, L31, kc31, n31⟩, -, X31, ⟨Lc31, hQ31, l31, y31, z31⟩, st31⟩ := X26.virtualBack hx (y := yM13) (z := yM13) hown17 (mvT hZ17 w72) (mvT hZ17 w73) (notFace_of_selects (args := #[]) (mvT hZ17 w75)) (mvT hZ17 w75) (mvT hZ17 w74) (by decide) (backOf (W := 0) (rm_unit l Z a0 hw []  b22 s_CHARACTERS T24.heap n0 c27 p24_1) hZ17 w76 w43 (by decide) (by decide)) q31a q31c (g := (mkF m 193 #[.val (.int ki_), .val (.int si_), .val (.int fr_), .val (.int bk_), .val (.long mo_), .second, .val (.int (0 : Int32)), .val (.ref s_CHARACTERS), .val (.int (0 : Int32)), .val (.ref b2), .val (.ref x_17), .val (.int ((own_ushr si_ (8 : Int32)) &&& (63 : Int32))), .val (.ref b20), .val (.ref b22), .val (.ref x_17), .val (.long (0 : Int64)), .second, .val (.long (0 : Int64)), .second] [(.ref b22)])) rfl (by rw [hml]; rfl) (Steps.refl _) (argsL := []) (rest := []) (lenOf own_pd19 rfl) rfl (by show 2 * 0 + _ ≤ _; exact Nat.le_of_eq rfl) (hb hby at_193) (fun _ _ => ⟨rfl, e26, (by decide : 9 + 0 ≤ _), (by decide : 81 + 0 ≤ _)⟩)
        dsimp only [Pt.U, Pt.locs, Pt.cells, Pt.slots] at X31 l31 y31 z31 st31 hQ31
        subst l31 y31 z31
        obtain ⟨rfl, Nq31, e31⟩ := hQ31
        have N31 := Fr.app N26 Nq31
        refine otr (S' := T31.setTop (mkF m 196 #[.val (.int ki_), .val (.int si_), .val (.int fr_), .val (.int bk_), .val (.long mo_), .second, .val (.int (0 : Int32)), .val (.ref s_CHARACTERS), .val (.int (0 : Int32)), .val (.ref b2), .val (.ref x_17), .val (.int ((own_ushr si_ (8 : Int32)) &&& (63 : Int32))), .val (.ref b20), .val (.ref b22), .val (.ref x_17), .val (.long (0 : Int64)), .second, .val (.long (0 : Int64)), .second] [(.ref s_CHARACTERS)])) st31 ?_
        refine o_aload X31 hx (hb hby at_196) rfl rfl ?_
        refine o_acmp X31 hx 201 true rfl rfl (hb hby at_198) (decide_eq_true rfl) (by decide) (by decide) ?_
        refine o_aload X31 hx (hb hby at_201) rfl rfl ?_
        obtain ⟨cq32, kq32, q32a, q32b, q32c⟩ := isOf hZ17 e31 p24_0
        obtain ⟨_, _, ⟨T32, L32, kc32, n32⟩, -, X32, ⟨Lc32, hQ32, l32, y32, z32⟩, st32⟩ := X31.virtualBack hx (y := yM14) (z := yM14) hown17 (mvT hZ17 w77) (mvT hZ17 w78) (notFace_of_selects (args := #[]) (mvT hZ17 w80)) (mvT hZ17 w80) (mvT hZ17 w79) (by decide) (backOf (W := 0) (rm_most l Z a0 hw []  b22 mo_ T24.heap n0 c27 p24_2) hZ17 w81 w43 (by decide) (by decide)) q32a q32c (g := (mkF m 203 #[.val (.int ki_), .val (.int si_), .val (.int fr_), .val (.int bk_), .val (.long mo_), .second, .val (.int (0 : Int32)), .val (.ref s_CHARACTERS), .val (.int (0 : Int32)), .val (.ref b2), .val (.ref x_17), .val (.int ((own_ushr si_ (8 : Int32)) &&& (63 : Int32))), .val (.ref b20), .val (.ref b22), .val (.ref x_17), .val (.long (0 : Int64)), .second, .val (.long (0 : Int64)), .second] [(.ref b22)])) rfl (by rw [hml]; rfl) (Steps.refl _) (argsL := []) (rest := []) (lenOf own_pd20 rfl) rfl (by show 2 * 0 + _ ≤ _; exact Nat.le_of_eq rfl) (hb hby at_203) (fun _ _ => ⟨rfl, e31, (by decide : 9 + 0 ≤ _), (by decide : 81 + 0 ≤ _)⟩)
        dsimp only [Pt.U, Pt.locs, Pt.cells, Pt.slots] at X32 l32 y32 z32 st32 hQ32
        subst l32 y32 z32
        obtain ⟨rfl, Nq32, e32⟩ := hQ32
        have N32 := Fr.app N31 Nq32
        refine otr (S' := T32.setTop (mkF m 206 #[.val (.int ki_), .val (.int si_), .val (.int fr_), .val (.int bk_), .val (.long mo_), .second, .val (.int (0 : Int32)), .val (.ref s_CHARACTERS), .val (.int (0 : Int32)), .val (.ref b2), .val (.ref x_17), .val (.int ((own_ushr si_ (8 : Int32)) &&& (63 : Int32))), .val (.ref b20), .val (.ref b22), .val (.ref x_17), .val (.long (0 : Int64)), .second, .val (.long (0 : Int64)), .second] [(.long mo_)])) st32 ?_
        refine o_lload X32 hx (hb hby at_206) rfl ?_
        refine o_lcmp X32 hx (hb hby at_208) ?_
        refine o_ifNo X32 hx (hb hby at_209) (teq ((lw_eq _ _).mpr (rfl : mo_ = mo_))).2 ?_
        refine o_iconst X32 hx (1 : Int32) (hb hby at_212) rfl ?_
        refine o_goto X32 hx 217 (hb hby at_213) (by decide) (by decide) ?_
        refine oendS X32 hlk hS17 (Nat.le_trans (Nat.le_refl _) (Nat.le_trans (Nat.le_trans E20.1 E22.1) K24.1)) e32 hZ17 hEL hs0 (CHr.trans (CHr.trans (CHr.trans (CHr.trans (CHr.trans (CHr.trans (CHr.trans (CHr.trans (CHr.trans (CHr.refl H0) (CHr.ext E2 H0)) (CHr.wr W5 (Safe.exa hZ.alike Ex2 (by decide) (by decide)) H3)) (CHr.wr W8 (Safe.exa hZ.alike (Exa.wr W5 Ex2) (by decide) (by decide)) H6)) (CHr.wr W11 (Safe.exa hZ.alike (Exa.wr W8 (Exa.wr W5 Ex2)) (by decide) (by decide)) H9)) (CHr.wr W14 (Safe.exa hZ.alike (Exa.wr W11 (Exa.wr W8 (Exa.wr W5 Ex2))) (by decide) (by decide)) H12)) C17) (CHr.ext E20 H19)) (CHr.ext E22 H21)) (CHr.keep K24 (allS (Safe.exa hZ17.alike A22 (by decide) (by decide)) all0) H23)) (v := some (.int (1 : Int32))) (fun h => by rw [hret] at h; cases h) (fun fs hr => retN X32 hx (t := .boolean) hret (by simp) (hb hby at_217) hr) (by decide) (by decide) ?_
        show own_Q_law Z _ _ _ _ _ _ _ _ _ _ h0 n0 _ T32.heap _
        rw [e32]
        exact ⟨rfl, N32, ((((((((((Keep.refl h0 []).ext E2).wr W5 (Or.inr (Nat.le_trans (Nat.le_refl _) (Nat.le_of_eq g2.symm)))).wr W8 (Or.inr (Nat.le_trans (Nat.le_refl _) (Nat.le_of_eq g2.symm)))).wr W11 (Or.inr (Nat.le_trans (Nat.le_refl _) (Nat.le_of_eq g2.symm)))).wr W14 (Or.inr (Nat.le_trans (Nat.le_refl _) (Nat.le_of_eq g2.symm)))).trans K17 all0).ext E20).ext E22).trans K24 (allS (Or.inr (Nat.le_trans (Nat.le_trans (Nat.le_trans (Nat.le_trans (Nat.le_trans (Nat.le_trans (Nat.le_trans E2.1 (Keep.of_wr W5).1) (Keep.of_wr W8).1) (Keep.of_wr W11).1) (Keep.of_wr W14).1) K17.1) E20.1) (Nat.le_of_eq g22.symm))) all0))⟩
      · refine o_iload X24 hx (hb hby at_124) rfl ?_
        refine o_iconst X24 hx (2 : Int32) (hb hby at_126) rfl ?_
        refine o_icmpYes X24 hx 142 (hb hby at_127) (feq (by decide : ¬ ((1 : Int32) = (2 : Int32)))).2 (by decide) (by decide) ?_
        refine o_iload X24 hx (hb hby at_142) rfl ?_
        refine o_iconst X24 hx (1 : Int32) (hb hby at_144) rfl ?_
        refine o_icmpNo X24 hx (hb hby at_145) (teq (by decide : (1 : Int32) = (1 : Int32))).2 ?_
        refine o_aload X24 hx (hb hby at_148) rfl rfl ?_
        refine o_astore X24 hx (l' := #[.val (.int ki_), .val (.int si_), .val (.int fr_), .val (.int bk_), .val (.long mo_), .second, .val (.int (1 : Int32)), .val (.ref s_CHARACTERS_BUT_TRAILING_SPACES), .val (.int (0 : Int32)), .val (.ref b2), .val (.ref x_17), .val (.int ((own_ushr si_ (8 : Int32)) &&& (63 : Int32))), .val (.ref b20), .val (.ref b22), .val (.ref x_17), .unset, .unset, .unset, .unset]) (hb hby at_150) rfl rfl ?_
        refine o_aload X24 hx (hb hby at_152) rfl rfl ?_
        refine o_iload X24 hx (hb hby at_154) rfl ?_
        have c34 := ((((c18.keep K17 all0).ext E20).ext E22).keep K24 (allS n0_b22 all0))
        have c35 := ((((V14.keep K17 nin0).ext E20).ext E22).keep K24 (ninS (Nat.ne_of_lt (Nat.lt_of_lt_of_le (Nat.lt_of_lt_of_le V2.lt (Nat.le_trans (Nat.le_trans (Nat.le_trans (Nat.le_trans (Nat.le_trans (Keep.of_wr W5).1 (Keep.of_wr W8).1) (Keep.of_wr W11).1) (Keep.of_wr W14).1) K17.1) E20.1)) (Nat.le_of_eq g22.symm))) nin0))
        obtain ⟨_, _, ⟨T33, L33, kc33, n33⟩, -, X33, ⟨Lc33, hQ33, l33, y33, z33⟩, st33⟩ := Jvm.LawKit.callS X24 hx (y := yM11) hown17 (mvT hZ17 w86) (mvT hZ17 w87) (mvT hZ17 w7) (mvT hZ17 w88) (by decide) (backOf (W := 0) (rm_trimmed_0 l Z a0 hw []  b2 k2 u0 u1 u2 u3 T24.heap n0 c34 c35) hZ17 w88 w7 (by decide) (by decide)) (g := (mkF m 156 #[.val (.int ki_), .val (.int si_), .val (.int fr_), .val (.int bk_), .val (.long mo_), .second, .val (.int (1 : Int32)), .val (.ref s_CHARACTERS_BUT_TRAILING_SPACES), .val (.int (0 : Int32)), .val (.ref b2), .val (.ref x_17), .val (.int ((own_ushr si_ (8 : Int32)) &&& (63 : Int32))), .val (.ref b20), .val (.ref b22), .val (.ref x_17), .unset, .unset, .unset, .unset] [(.int (0 : Int32)), (.ref b2)])) rfl (by rw [hml]; rfl) (argsL := [(.ref b2), (.int (0 : Int32))]) (rest := []) (lenOf own_pd21 rfl) rfl (by show 2 * 0 + _ ≤ _; exact Nat.le_of_eq rfl) (hb hby at_156) (fun _ _ => ⟨rfl, rfl, (by decide : 9 + 0 ≤ _), (by decide : 81 + 0 ≤ _)⟩)
        dsimp only [Pt.U, Pt.locs, Pt.cells, Pt.slots] at X33 l33 y33 z33 st33 hQ33
        subst l33 y33 z33
        obtain ⟨rfl, Nq33, e33⟩ := hQ33
        have N33 := Fr.app N24 Nq33
        refine ogo (S' := T33.setTop (mkF m 159 #[.val (.int ki_), .val (.int si_), .val (.int fr_), .val (.int bk_), .val (.long mo_), .second, .val (.int (1 : Int32)), .val (.ref s_CHARACTERS_BUT_TRAILING_SPACES), .val (.int (0 : Int32)), .val (.ref b2), .val (.ref x_17), .val (.int ((own_ushr si_ (8 : Int32)) &&& (63 : Int32))), .val (.ref b20), .val (.ref b22), .val (.ref x_17), .unset, .unset, .unset, .unset] [(.int own_tr0)])) st33 ?_
        refine o_i2l X33 hx (hb hby at_159) ?_
        refine o_lstore X33 hx (l' := #[.val (.int ki_), .val (.int si_), .val (.int fr_), .val (.int bk_), .val (.long mo_), .second, .val (.int (1 : Int32)), .val (.ref s_CHARACTERS_BUT_TRAILING_SPACES), .val (.int (0 : Int32)), .val (.ref b2), .val (.ref x_17), .val (.int ((own_ushr si_ (8 : Int32)) &&& (63 : Int32))), .val (.ref b20), .val (.ref b22), .val (.ref x_17), .val (.long own_tr0.toInt64), .second, .unset, .unset]) (hb hby at_160) rfl ?_
        refine o_goto X33 hx 174 (hb hby at_162) (by decide) (by decide) ?_
        refine o_aload X33 hx (hb hby at_174) rfl rfl ?_
        refine o_aload X33 hx (hb hby at_176) rfl rfl ?_
        have c37 := ((Fld.ext E22 (Fld.ext E20 p17_3)).keep K24 (ninS (Nat.ne_of_lt (Nat.lt_of_lt_of_le (Nat.lt_of_lt_of_le p17_2.lt E20.1) (Nat.le_of_eq g22.symm))) nin0))
        have c38 := ((Fld.ext E22 (Fld.ext E20 p17_4)).keep K24 (ninS (Nat.ne_of_lt (Nat.lt_of_lt_of_le (Nat.lt_of_lt_of_le p17_2.lt E20.1) (Nat.le_of_eq g22.symm))) nin0))
        have c39 := (((p17_5.ext E20).ext E22).keep K24 (ninS (Nat.ne_of_lt (Nat.lt_of_lt_of_le (Nat.lt_of_lt_of_le p17_1 E20.1) (Nat.le_of_eq g22.symm))) nin0))
        obtain ⟨cq36, kq36, q36a, q36b, q36c⟩ := isOf hZ17 e33 p24_0
        obtain ⟨_, _, ⟨T36, L36, kc36, n36⟩, -, X36, ⟨Lc36, hQ36, l36, y36, z36⟩, st36⟩ := X33.virtualBack hx (y := yM15) (z := yM15) hown17 (mvT hZ17 w52) (mvT hZ17 w53) (notFace_of_selects (args := #[]) (mvT hZ17 w55)) (mvT hZ17 w55) (mvT hZ17 w54) (by decide) (backOf (W := 0) (rm_of_trail_0 l Z a0 hw [] s_CHARACTERS s_BYTES s_CHARACTERS_BUT_TRAILING_SPACES z_CS v_FMT b22 x_17 ba_17 kb_17 T24.heap n0 SB c34 p24_1 ((Exa.ext E22 (Exa.ext E20 p17_2)).keep K24) c37 c38 c39) hZ17 w56 w43 (by decide) (by decide)) q36a q36c (g := (mkF m 178 #[.val (.int ki_), .val (.int si_), .val (.int fr_), .val (.int bk_), .val (.long mo_), .second, .val (.int (1 : Int32)), .val (.ref s_CHARACTERS_BUT_TRAILING_SPACES), .val (.int (0 : Int32)), .val (.ref b2), .val (.ref x_17), .val (.int ((own_ushr si_ (8 : Int32)) &&& (63 : Int32))), .val (.ref b20), .val (.ref b22), .val (.ref x_17), .val (.long own_tr0.toInt64), .second, .unset, .unset] [(.ref x_17), (.ref b22)])) rfl (by rw [hml]; rfl) (Steps.refl _) (argsL := [(.ref x_17)]) (rest := []) (lenOf own_pd18 rfl) rfl (by show 2 * 0 + _ ≤ _; exact Nat.le_of_eq rfl) (hb hby at_178) (fun _ _ => ⟨rfl, e33, (by decide : 9 + 0 ≤ _), (by decide : 81 + 0 ≤ _)⟩)
        dsimp only [Pt.U, Pt.locs, Pt.cells, Pt.slots] at X36 l36 y36 z36 st36 hQ36
        subst l36 y36 z36
        obtain ⟨rfl, Nq36, e36⟩ := hQ36
        have N36 := Fr.app N33 Nq36
        refine otr (S' := T36.setTop (mkF m 181 #[.val (.int ki_), .val (.int si_), .val (.int fr_), .val (.int bk_), .val (.long mo_), .second, .val (.int (1 : Int32)), .val (.ref s_CHARACTERS_BUT_TRAILING_SPACES), .val (.int (0 : Int32)), .val (.ref b2), .val (.ref x_17), .val (.int ((own_ushr si_ (8 : Int32)) &&& (63 : Int32))), .val (.ref b20), .val (.ref b22), .val (.ref x_17), .val (.long own_tr0.toInt64), .second, .unset, .unset] [(.long own_tr0.toInt64)])) st36 ?_
        refine o_lstore X36 hx (l' := #[.val (.int ki_), .val (.int si_), .val (.int fr_), .val (.int bk_), .val (.long mo_), .second, .val (.int (1 : Int32)), .val (.ref s_CHARACTERS_BUT_TRAILING_SPACES), .val (.int (0 : Int32)), .val (.ref b2), .val (.ref x_17), .val (.int ((own_ushr si_ (8 : Int32)) &&& (63 : Int32))), .val (.ref b20), .val (.ref b22), .val (.ref x_17), .val (.long own_tr0.toInt64), .second, .val (.long own_tr0.toInt64), .second]) (hb hby at_181) rfl ?_
        refine o_lload X36 hx (hb hby at_183) rfl ?_
        refine o_lload X36 hx (hb hby at_185) rfl ?_
        refine o_lcmp X36 hx (hb hby at_187) ?_
        refine o_ifNo X36 hx (hb hby at_188) (teq ((lw_eq _ _).mpr (rfl : own_tr0.toInt64 = own_tr0.toInt64))).2 ?_
        refine o_aload X36 hx (hb hby at_191) rfl rfl ?_
        obtain ⟨cq40, kq40, q40a, q40b, q40c⟩ := isOf hZ17 e36 p24_0
        obtain ⟨_, _, ⟨T40, L40, kc40, n40⟩, -, X40, ⟨Lc40, hQ40, l40, y40, z40⟩, st40⟩ := X36.virtualBack hx (y := yM13) (z := yM13) hown17 (mvT hZ17 w72) (mvT hZ17 w73) (notFace_of_selects (args := #[]) (mvT hZ17 w75)) (mvT hZ17 w75) (mvT hZ17 w74) (by decide) (backOf (W := 0) (rm_unit l Z a0 hw []  b22 s_CHARACTERS_BUT_TRAILING_SPACES T24.heap n0 c34 p24_1) hZ17 w76 w43 (by decide) (by decide)) q40a q40c (g := (mkF m 193 #[.val (.int ki_), .val (.int si_), .val (.int fr_), .val (.int bk_), .val (.long mo_), .second, .val (.int (1 : Int32)), .val (.ref s_CHARACTERS_BUT_TRAILING_SPACES), .val (.int (0 : Int32)), .val (.ref b2), .val (.ref x_17), .val (.int ((own_ushr si_ (8 : Int32)) &&& (63 : Int32))), .val (.ref b20), .val (.ref b22), .val (.ref x_17), .val (.long own_tr0.toInt64), .second, .val (.long own_tr0.toInt64), .second] [(.ref b22)])) rfl (by rw [hml]; rfl) (Steps.refl _) (argsL := []) (rest := []) (lenOf own_pd19 rfl) rfl (by show 2 * 0 + _ ≤ _; exact Nat.le_of_eq rfl) (hb hby at_193) (fun _ _ => ⟨rfl, e36, (by decide : 9 + 0 ≤ _), (by decide : 81 + 0 ≤ _)⟩)
        dsimp only [Pt.U, Pt.locs, Pt.cells, Pt.slots] at X40 l40 y40 z40 st40 hQ40
        subst l40 y40 z40
        obtain ⟨rfl, Nq40, e40⟩ := hQ40
        have N40 := Fr.app N36 Nq40
        refine otr (S' := T40.setTop (mkF m 196 #[.val (.int ki_), .val (.int si_), .val (.int fr_), .val (.int bk_), .val (.long mo_), .second, .val (.int (1 : Int32)), .val (.ref s_CHARACTERS_BUT_TRAILING_SPACES), .val (.int (0 : Int32)), .val (.ref b2), .val (.ref x_17), .val (.int ((own_ushr si_ (8 : Int32)) &&& (63 : Int32))), .val (.ref b20), .val (.ref b22), .val (.ref x_17), .val (.long own_tr0.toInt64), .second, .val (.long own_tr0.toInt64), .second] [(.ref s_CHARACTERS_BUT_TRAILING_SPACES)])) st40 ?_
        refine o_aload X40 hx (hb hby at_196) rfl rfl ?_
        refine o_acmp X40 hx 201 true rfl rfl (hb hby at_198) (decide_eq_true rfl) (by decide) (by decide) ?_
        refine o_aload X40 hx (hb hby at_201) rfl rfl ?_
        obtain ⟨cq41, kq41, q41a, q41b, q41c⟩ := isOf hZ17 e40 p24_0
        obtain ⟨_, _, ⟨T41, L41, kc41, n41⟩, -, X41, ⟨Lc41, hQ41, l41, y41, z41⟩, st41⟩ := X40.virtualBack hx (y := yM14) (z := yM14) hown17 (mvT hZ17 w77) (mvT hZ17 w78) (notFace_of_selects (args := #[]) (mvT hZ17 w80)) (mvT hZ17 w80) (mvT hZ17 w79) (by decide) (backOf (W := 0) (rm_most l Z a0 hw []  b22 mo_ T24.heap n0 c34 p24_2) hZ17 w81 w43 (by decide) (by decide)) q41a q41c (g := (mkF m 203 #[.val (.int ki_), .val (.int si_), .val (.int fr_), .val (.int bk_), .val (.long mo_), .second, .val (.int (1 : Int32)), .val (.ref s_CHARACTERS_BUT_TRAILING_SPACES), .val (.int (0 : Int32)), .val (.ref b2), .val (.ref x_17), .val (.int ((own_ushr si_ (8 : Int32)) &&& (63 : Int32))), .val (.ref b20), .val (.ref b22), .val (.ref x_17), .val (.long own_tr0.toInt64), .second, .val (.long own_tr0.toInt64), .second] [(.ref b22)])) rfl (by rw [hml]; rfl) (Steps.refl _) (argsL := []) (rest := []) (lenOf own_pd20 rfl) rfl (by show 2 * 0 + _ ≤ _; exact Nat.le_of_eq rfl) (hb hby at_203) (fun _ _ => ⟨rfl, e40, (by decide : 9 + 0 ≤ _), (by decide : 81 + 0 ≤ _)⟩)
        dsimp only [Pt.U, Pt.locs, Pt.cells, Pt.slots] at X41 l41 y41 z41 st41 hQ41
        subst l41 y41 z41
        obtain ⟨rfl, Nq41, e41⟩ := hQ41
        have N41 := Fr.app N40 Nq41
        refine otr (S' := T41.setTop (mkF m 206 #[.val (.int ki_), .val (.int si_), .val (.int fr_), .val (.int bk_), .val (.long mo_), .second, .val (.int (1 : Int32)), .val (.ref s_CHARACTERS_BUT_TRAILING_SPACES), .val (.int (0 : Int32)), .val (.ref b2), .val (.ref x_17), .val (.int ((own_ushr si_ (8 : Int32)) &&& (63 : Int32))), .val (.ref b20), .val (.ref b22), .val (.ref x_17), .val (.long own_tr0.toInt64), .second, .val (.long own_tr0.toInt64), .second] [(.long mo_)])) st41 ?_
        refine o_lload X41 hx (hb hby at_206) rfl ?_
        refine o_lcmp X41 hx (hb hby at_208) ?_
        refine o_ifNo X41 hx (hb hby at_209) (teq ((lw_eq _ _).mpr (rfl : mo_ = mo_))).2 ?_
        refine o_iconst X41 hx (1 : Int32) (hb hby at_212) rfl ?_
        refine o_goto X41 hx 217 (hb hby at_213) (by decide) (by decide) ?_
        refine oendS X41 hlk hS17 (Nat.le_trans (Nat.le_refl _) (Nat.le_trans (Nat.le_trans E20.1 E22.1) K24.1)) e41 hZ17 hEL hs0 (CHr.trans (CHr.trans (CHr.trans (CHr.trans (CHr.trans (CHr.trans (CHr.trans (CHr.trans (CHr.trans (CHr.refl H0) (CHr.ext E2 H0)) (CHr.wr W5 (Safe.exa hZ.alike Ex2 (by decide) (by decide)) H3)) (CHr.wr W8 (Safe.exa hZ.alike (Exa.wr W5 Ex2) (by decide) (by decide)) H6)) (CHr.wr W11 (Safe.exa hZ.alike (Exa.wr W8 (Exa.wr W5 Ex2)) (by decide) (by decide)) H9)) (CHr.wr W14 (Safe.exa hZ.alike (Exa.wr W11 (Exa.wr W8 (Exa.wr W5 Ex2))) (by decide) (by decide)) H12)) C17) (CHr.ext E20 H19)) (CHr.ext E22 H21)) (CHr.keep K24 (allS (Safe.exa hZ17.alike A22 (by decide) (by decide)) all0) H23)) (v := some (.int (1 : Int32))) (fun h => by rw [hret] at h; cases h) (fun fs hr => retN X41 hx (t := .boolean) hret (by simp) (hb hby at_217) hr) (by decide) (by decide) ?_
        show own_Q_law Z _ _ _ _ _ _ _ _ _ _ h0 n0 _ T41.heap _
        rw [e41]
        exact ⟨rfl, N41, ((((((((((Keep.refl h0 []).ext E2).wr W5 (Or.inr (Nat.le_trans (Nat.le_refl _) (Nat.le_of_eq g2.symm)))).wr W8 (Or.inr (Nat.le_trans (Nat.le_refl _) (Nat.le_of_eq g2.symm)))).wr W11 (Or.inr (Nat.le_trans (Nat.le_refl _) (Nat.le_of_eq g2.symm)))).wr W14 (Or.inr (Nat.le_trans (Nat.le_refl _) (Nat.le_of_eq g2.symm)))).trans K17 all0).ext E20).ext E22).trans K24 (allS (Or.inr (Nat.le_trans (Nat.le_trans (Nat.le_trans (Nat.le_trans (Nat.le_trans (Nat.le_trans (Nat.le_trans E2.1 (Keep.of_wr W5).1) (Keep.of_wr W8).1) (Keep.of_wr W11).1) (Keep.of_wr W14).1) K17.1) E20.1) (Nat.le_of_eq g22.symm))) all0))⟩
      · refine o_iload X24 hx (hb hby at_124) rfl ?_
        refine o_iconst X24 hx (2 : Int32) (hb hby at_126) rfl ?_
        refine o_icmpNo X24 hx (hb hby at_127) (teq (by decide : (2 : Int32) = (2 : Int32))).2 ?_
        refine o_aload X24 hx (hb hby at_130) rfl rfl ?_
        refine o_astore X24 hx (l' := #[.val (.int ki_), .val (.int si_), .val (.int fr_), .val (.int bk_), .val (.long mo_), .second, .val (.int (2 : Int32)), .val (.ref s_BYTES), .val (.int (0 : Int32)), .val (.ref b2), .val (.ref x_17), .val (.int ((own_ushr si_ (8 : Int32)) &&& (63 : Int32))), .val (.ref b20), .val (.ref b22), .val (.ref b20), .unset, .unset, .unset, .unset]) (hb hby at_132) rfl rfl ?_
        refine o_iload X24 hx (hb hby at_134) rfl ?_
        refine o_i2l X24 hx (hb hby at_136) ?_
        refine o_lstore X24 hx (l' := #[.val (.int ki_), .val (.int si_), .val (.int fr_), .val (.int bk_), .val (.long mo_), .second, .val (.int (2 : Int32)), .val (.ref s_BYTES), .val (.int (0 : Int32)), .val (.ref b2), .val (.ref x_17), .val (.int ((own_ushr si_ (8 : Int32)) &&& (63 : Int32))), .val (.ref b20), .val (.ref b22), .val (.ref b20), .val (.long ((own_ushr si_ (8 : Int32)) &&& (63 : Int32)).toInt64), .second, .unset, .unset]) (hb hby at_137) rfl ?_
        refine o_goto X24 hx 174 (hb hby at_139) (by decide) (by decide) ?_
        refine o_aload X24 hx (hb hby at_174) rfl rfl ?_
        refine o_aload X24 hx (hb hby at_176) rfl rfl ?_
        have c43 := ((((c18.keep K17 all0).ext E20).ext E22).keep K24 (allS n0_b22 all0))
        have c44 := ((V20.ext E22).keep K24 (ninS (Nat.ne_of_lt (Nat.lt_of_lt_of_le (Nat.lt_of_lt_of_le V20.lt (Nat.le_refl _)) (Nat.le_of_eq g22.symm))) nin0))
        obtain ⟨cq42, kq42, q42a, q42b, q42c⟩ := isOf hZ17 rfl p24_0
        obtain ⟨_, _, ⟨T42, L42, kc42, n42⟩, -, X42, ⟨Lc42, hQ42, l42, y42, z42⟩, st42⟩ := X24.virtualBack hx (y := yM15) (z := yM15) hown17 (mvT hZ17 w52) (mvT hZ17 w53) (notFace_of_selects (args := #[]) (mvT hZ17 w55)) (mvT hZ17 w55) (mvT hZ17 w54) (by decide) (backOf (W := 0) (rm_of_bytes l Z a0 hw [] s_CHARACTERS s_BYTES s_CHARACTERS_BUT_TRAILING_SPACES z_CS v_FMT b22 b20 k20 ((own_ushr si_ (8 : Int32)) &&& (63 : Int32)) T24.heap n0 SB c43 p24_1 ((Exa.ext E22 Ex20).keep K24) c44) hZ17 w56 w43 (by decide) (by decide)) q42a q42c (g := (mkF m 178 #[.val (.int ki_), .val (.int si_), .val (.int fr_), .val (.int bk_), .val (.long mo_), .second, .val (.int (2 : Int32)), .val (.ref s_BYTES), .val (.int (0 : Int32)), .val (.ref b2), .val (.ref x_17), .val (.int ((own_ushr si_ (8 : Int32)) &&& (63 : Int32))), .val (.ref b20), .val (.ref b22), .val (.ref b20), .val (.long ((own_ushr si_ (8 : Int32)) &&& (63 : Int32)).toInt64), .second, .unset, .unset] [(.ref b20), (.ref b22)])) rfl (by rw [hml]; rfl) (Steps.refl _) (argsL := [(.ref b20)]) (rest := []) (lenOf own_pd18 rfl) rfl (by show 2 * 0 + _ ≤ _; exact Nat.le_of_eq rfl) (hb hby at_178) (fun _ _ => ⟨rfl, rfl, (by decide : 9 + 0 ≤ _), (by decide : 81 + 0 ≤ _)⟩)
        dsimp only [Pt.U, Pt.locs, Pt.cells, Pt.slots] at X42 l42 y42 z42 st42 hQ42
        subst l42 y42 z42
        obtain ⟨rfl, Nq42, e42⟩ := hQ42
        have N42 := Fr.app N24 Nq42
        refine otr (S' := T42.setTop (mkF m 181 #[.val (.int ki_), .val (.int si_), .val (.int fr_), .val (.int bk_), .val (.long mo_), .second, .val (.int (2 : Int32)), .val (.ref s_BYTES), .val (.int (0 : Int32)), .val (.ref b2), .val (.ref x_17), .val (.int ((own_ushr si_ (8 : Int32)) &&& (63 : Int32))), .val (.ref b20), .val (.ref b22), .val (.ref b20), .val (.long ((own_ushr si_ (8 : Int32)) &&& (63 : Int32)).toInt64), .second, .unset, .unset] [(.long ((own_ushr si_ (8 : Int32)) &&& (63 : Int32)).toInt64)])) st42 ?_
        refine o_lstore X42 hx (l' := #[.val (.int ki_), .val (.int si_), .val (.int fr_), .val (.int bk_), .val (.long mo_), .second, .val (.int (2 : Int32)), .val (.ref s_BYTES), .val (.int (0 : Int32)), .val (.ref b2), .val (.ref x_17), .val (.int ((own_ushr si_ (8 : Int32)) &&& (63 : Int32))), .val (.ref b20), .val (.ref b22), .val (.ref b20), .val (.long ((own_ushr si_ (8 : Int32)) &&& (63 : Int32)).toInt64), .second, .val (.long ((own_ushr si_ (8 : Int32)) &&& (63 : Int32)).toInt64), .second]) (hb hby at_181) rfl ?_
        refine o_lload X42 hx (hb hby at_183) rfl ?_
        refine o_lload X42 hx (hb hby at_185) rfl ?_
        refine o_lcmp X42 hx (hb hby at_187) ?_
        refine o_ifNo X42 hx (hb hby at_188) (teq ((lw_eq _ _).mpr (rfl : ((own_ushr si_ (8 : Int32)) &&& (63 : Int32)).toInt64 = ((own_ushr si_ (8 : Int32)) &&& (63 : Int32)).toInt64))).2 ?_
        refine o_aload X42 hx (hb hby at_191) rfl rfl ?_
        obtain ⟨cq45, kq45, q45a, q45b, q45c⟩ := isOf hZ17 e42 p24_0
        obtain ⟨_, _, ⟨T45, L45, kc45, n45⟩, -, X45, ⟨Lc45, hQ45, l45, y45, z45⟩, st45⟩ := X42.virtualBack hx (y := yM13) (z := yM13) hown17 (mvT hZ17 w72) (mvT hZ17 w73) (notFace_of_selects (args := #[]) (mvT hZ17 w75)) (mvT hZ17 w75) (mvT hZ17 w74) (by decide) (backOf (W := 0) (rm_unit l Z a0 hw []  b22 s_BYTES T24.heap n0 c43 p24_1) hZ17 w76 w43 (by decide) (by decide)) q45a q45c (g := (mkF m 193 #[.val (.int ki_), .val (.int si_), .val (.int fr_), .val (.int bk_), .val (.long mo_), .second, .val (.int (2 : Int32)), .val (.ref s_BYTES), .val (.int (0 : Int32)), .val (.ref b2), .val (.ref x_17), .val (.int ((own_ushr si_ (8 : Int32)) &&& (63 : Int32))), .val (.ref b20), .val (.ref b22), .val (.ref b20), .val (.long ((own_ushr si_ (8 : Int32)) &&& (63 : Int32)).toInt64), .second, .val (.long ((own_ushr si_ (8 : Int32)) &&& (63 : Int32)).toInt64), .second] [(.ref b22)])) rfl (by rw [hml]; rfl) (Steps.refl _) (argsL := []) (rest := []) (lenOf own_pd19 rfl) rfl (by show 2 * 0 + _ ≤ _; exact Nat.le_of_eq rfl) (hb hby at_193) (fun _ _ => ⟨rfl, e42, (by decide : 9 + 0 ≤ _), (by decide : 81 + 0 ≤ _)⟩)
        dsimp only [Pt.U, Pt.locs, Pt.cells, Pt.slots] at X45 l45 y45 z45 st45 hQ45
        subst l45 y45 z45
        obtain ⟨rfl, Nq45, e45⟩ := hQ45
        have N45 := Fr.app N42 Nq45
        refine otr (S' := T45.setTop (mkF m 196 #[.val (.int ki_), .val (.int si_), .val (.int fr_), .val (.int bk_), .val (.long mo_), .second, .val (.int (2 : Int32)), .val (.ref s_BYTES), .val (.int (0 : Int32)), .val (.ref b2), .val (.ref x_17), .val (.int ((own_ushr si_ (8 : Int32)) &&& (63 : Int32))), .val (.ref b20), .val (.ref b22), .val (.ref b20), .val (.long ((own_ushr si_ (8 : Int32)) &&& (63 : Int32)).toInt64), .second, .val (.long ((own_ushr si_ (8 : Int32)) &&& (63 : Int32)).toInt64), .second] [(.ref s_BYTES)])) st45 ?_
        refine o_aload X45 hx (hb hby at_196) rfl rfl ?_
        refine o_acmp X45 hx 201 true rfl rfl (hb hby at_198) (decide_eq_true rfl) (by decide) (by decide) ?_
        refine o_aload X45 hx (hb hby at_201) rfl rfl ?_
        obtain ⟨cq46, kq46, q46a, q46b, q46c⟩ := isOf hZ17 e45 p24_0
        obtain ⟨_, _, ⟨T46, L46, kc46, n46⟩, -, X46, ⟨Lc46, hQ46, l46, y46, z46⟩, st46⟩ := X45.virtualBack hx (y := yM14) (z := yM14) hown17 (mvT hZ17 w77) (mvT hZ17 w78) (notFace_of_selects (args := #[]) (mvT hZ17 w80)) (mvT hZ17 w80) (mvT hZ17 w79) (by decide) (backOf (W := 0) (rm_most l Z a0 hw []  b22 mo_ T24.heap n0 c43 p24_2) hZ17 w81 w43 (by decide) (by decide)) q46a q46c (g := (mkF m 203 #[.val (.int ki_), .val (.int si_), .val (.int fr_), .val (.int bk_), .val (.long mo_), .second, .val (.int (2 : Int32)), .val (.ref s_BYTES), .val (.int (0 : Int32)), .val (.ref b2), .val (.ref x_17), .val (.int ((own_ushr si_ (8 : Int32)) &&& (63 : Int32))), .val (.ref b20), .val (.ref b22), .val (.ref b20), .val (.long ((own_ushr si_ (8 : Int32)) &&& (63 : Int32)).toInt64), .second, .val (.long ((own_ushr si_ (8 : Int32)) &&& (63 : Int32)).toInt64), .second] [(.ref b22)])) rfl (by rw [hml]; rfl) (Steps.refl _) (argsL := []) (rest := []) (lenOf own_pd20 rfl) rfl (by show 2 * 0 + _ ≤ _; exact Nat.le_of_eq rfl) (hb hby at_203) (fun _ _ => ⟨rfl, e45, (by decide : 9 + 0 ≤ _), (by decide : 81 + 0 ≤ _)⟩)
        dsimp only [Pt.U, Pt.locs, Pt.cells, Pt.slots] at X46 l46 y46 z46 st46 hQ46
        subst l46 y46 z46
        obtain ⟨rfl, Nq46, e46⟩ := hQ46
        have N46 := Fr.app N45 Nq46
        refine otr (S' := T46.setTop (mkF m 206 #[.val (.int ki_), .val (.int si_), .val (.int fr_), .val (.int bk_), .val (.long mo_), .second, .val (.int (2 : Int32)), .val (.ref s_BYTES), .val (.int (0 : Int32)), .val (.ref b2), .val (.ref x_17), .val (.int ((own_ushr si_ (8 : Int32)) &&& (63 : Int32))), .val (.ref b20), .val (.ref b22), .val (.ref b20), .val (.long ((own_ushr si_ (8 : Int32)) &&& (63 : Int32)).toInt64), .second, .val (.long ((own_ushr si_ (8 : Int32)) &&& (63 : Int32)).toInt64), .second] [(.long mo_)])) st46 ?_
        refine o_lload X46 hx (hb hby at_206) rfl ?_
        refine o_lcmp X46 hx (hb hby at_208) ?_
        refine o_ifNo X46 hx (hb hby at_209) (teq ((lw_eq _ _).mpr (rfl : mo_ = mo_))).2 ?_
        refine o_iconst X46 hx (1 : Int32) (hb hby at_212) rfl ?_
        refine o_goto X46 hx 217 (hb hby at_213) (by decide) (by decide) ?_
        refine oendS X46 hlk hS17 (Nat.le_trans (Nat.le_refl _) (Nat.le_trans (Nat.le_trans E20.1 E22.1) K24.1)) e46 hZ17 hEL hs0 (CHr.trans (CHr.trans (CHr.trans (CHr.trans (CHr.trans (CHr.trans (CHr.trans (CHr.trans (CHr.trans (CHr.refl H0) (CHr.ext E2 H0)) (CHr.wr W5 (Safe.exa hZ.alike Ex2 (by decide) (by decide)) H3)) (CHr.wr W8 (Safe.exa hZ.alike (Exa.wr W5 Ex2) (by decide) (by decide)) H6)) (CHr.wr W11 (Safe.exa hZ.alike (Exa.wr W8 (Exa.wr W5 Ex2)) (by decide) (by decide)) H9)) (CHr.wr W14 (Safe.exa hZ.alike (Exa.wr W11 (Exa.wr W8 (Exa.wr W5 Ex2))) (by decide) (by decide)) H12)) C17) (CHr.ext E20 H19)) (CHr.ext E22 H21)) (CHr.keep K24 (allS (Safe.exa hZ17.alike A22 (by decide) (by decide)) all0) H23)) (v := some (.int (1 : Int32))) (fun h => by rw [hret] at h; cases h) (fun fs hr => retN X46 hx (t := .boolean) hret (by simp) (hb hby at_217) hr) (by decide) (by decide) ?_
        show own_Q_law Z _ _ _ _ _ _ _ _ _ _ h0 n0 _ T46.heap _
        rw [e46]
        exact ⟨rfl, N46, ((((((((((Keep.refl h0 []).ext E2).wr W5 (Or.inr (Nat.le_trans (Nat.le_refl _) (Nat.le_of_eq g2.symm)))).wr W8 (Or.inr (Nat.le_trans (Nat.le_refl _) (Nat.le_of_eq g2.symm)))).wr W11 (Or.inr (Nat.le_trans (Nat.le_refl _) (Nat.le_of_eq g2.symm)))).wr W14 (Or.inr (Nat.le_trans (Nat.le_refl _) (Nat.le_of_eq g2.symm)))).trans K17 all0).ext E20).ext E22).trans K24 (allS (Or.inr (Nat.le_trans (Nat.le_trans (Nat.le_trans (Nat.le_trans (Nat.le_trans (Nat.le_trans (Nat.le_trans E2.1 (Keep.of_wr W5).1) (Keep.of_wr W8).1) (Keep.of_wr W11).1) (Keep.of_wr W14).1) K17.1) E20.1) (Nat.le_of_eq g22.symm))) all0))⟩
    · rw [hs16]
      refine o_aload X14 hx (hb hby at_87) rfl rfl ?_
      refine o_iload X14 hx (hb hby at_89) rfl ?_
      have c48 := (((((O0.ext E2).wr W5 n0_b2).wr W8 n0_b2).wr W11 n0_b2).wr W14 n0_b2)
      obtain ⟨_, _, ⟨T47, L47, kc47, n47⟩, -, X47, ⟨Lc47, hQ47, l47, y47, z47⟩, st47⟩ := Jvm.LawKit.callS X14 hx (y := yM10) hown (mvT hZ w9) (mvT hZ w10) (mvT hZ w7) (mvT hZ w11) (by decide) (backOf (W := 0) (rm_text_1 l Z a0 hw [] s_CHARACTERS s_BYTES s_CHARACTERS_BUT_TRAILING_SPACES z_CS v_FMT b2 k2 u0 u1 u2 u3 T14.heap n0 SB c48 V14 (own_sm255 hv0) (own_sm255 hv1) (own_sm255 hv2) (own_sm255 hv3) (own_narsm (own_sm0 hv0) (own_sm255 hv0)) (own_narsm (own_sm0 hv1) (own_sm255 hv1)) (own_narsm (own_sm0 hv2) (own_sm255 hv2)) (own_narsm (own_sm0 hv3) (own_sm255 hv3))) hZ w11 w7 (by decide) (by decide)) (g := (mkF m 91 #[.val (.int ki_), .val (.int si_), .val (.int fr_), .val (.int bk_), .val (.long mo_), .second, .val (.int kk), .val (.ref uu), .val (.int (1 : Int32)), .val (.ref b2), .unset, .unset, .unset, .unset, .unset, .unset, .unset, .unset, .unset] [(.int (1 : Int32)), (.ref b2)])) rfl (by rw [hml]; rfl) (argsL := [(.ref b2), (.int (1 : Int32))]) (rest := []) (lenOf own_pd16 rfl) rfl (by show 2 * 0 + _ ≤ _; exact Nat.le_of_eq rfl) (hb hby at_91) (fun _ _ => ⟨rfl, rfl, (by decide : 1 + 2 ≤ _), (by decide : 4 + 5 ≤ _)⟩)
      dsimp only [Pt.U, Pt.locs, Pt.cells, Pt.slots] at X47 l47 y47 z47 st47 hQ47
      subst l47 y47 z47
      obtain ⟨x_47, ba_47, kb_47, rfl, Nq47, K47, p47_0, p47_1, p47_2, p47_3, p47_4, p47_5⟩ := hQ47
      have N47 := Fr.app N14 Nq47
      have H49 := CHv.keep K47 all0 H15
      have n0_x_47 : n0 ≤ x_47 := Nat.le_trans (Nat.le_trans (Nat.le_of_eq O0.1.symm) O0.2.1) (Nat.le_trans (Nat.le_trans (Nat.le_trans (Nat.le_trans (Nat.le_trans E2.1 (Keep.of_wr W5).1) (Keep.of_wr W8).1) (Keep.of_wr W11).1) (Keep.of_wr W14).1) p47_0)
      refine ogo (S' := T47.setTop (mkF m 94 #[.val (.int ki_), .val (.int si_), .val (.int fr_), .val (.int bk_), .val (.long mo_), .second, .val (.int kk), .val (.ref uu), .val (.int (1 : Int32)), .val (.ref b2), .unset, .unset, .unset, .unset, .unset, .unset, .unset, .unset, .unset] [(.ref x_47)])) st47 ?_
      refine o_astore X47 hx (l' := #[.val (.int ki_), .val (.int si_), .val (.int fr_), .val (.int bk_), .val (.long mo_), .second, .val (.int kk), .val (.ref uu), .val (.int (1 : Int32)), .val (.ref b2), .val (.ref x_47), .unset, .unset, .unset, .unset, .unset, .unset, .unset, .unset]) (hb hby at_94) rfl rfl ?_
      refine o_iloadN X47 hx (hb hby at_96) rfl ?_
      refine o_bipush X47 hx (8 : Int32) (hb hby at_97) rfl ?_
      refine o_iushr X47 hx (hb hby at_99) ?_
      refine o_bipush X47 hx (63 : Int32) (hb hby at_100) rfl ?_
      refine o_iand X47 hx (hb hby at_102) ?_
      refine o_istore X47 hx (l' := #[.val (.int ki_), .val (.int si_), .val (.int fr_), .val (.int bk_), .val (.long mo_), .second, .val (.int kk), .val (.ref uu), .val (.int (1 : Int32)), .val (.ref b2), .val (.ref x_47), .val (.int ((own_ushr si_ (8 : Int32)) &&& (63 : Int32))), .unset, .unset, .unset, .unset, .unset, .unset, .unset]) (hb hby at_103) rfl ?_
      refine o_iload X47 hx (hb hby at_105) rfl ?_
      obtain ⟨T50, _, k50, X50, rfl, E50, A50, Ex50, st50⟩ := newPE (aty := .byte) X47 hx hZ w30 rfl (g := (mkF m 107 #[.val (.int ki_), .val (.int si_), .val (.int fr_), .val (.int bk_), .val (.long mo_), .second, .val (.int kk), .val (.ref uu), .val (.int (1 : Int32)), .val (.ref b2), .val (.ref x_47), .val (.int ((own_ushr si_ (8 : Int32)) &&& (63 : Int32))), .unset, .unset, .unset, .unset, .unset, .unset, .unset] [(.int ((own_ushr si_ (8 : Int32)) &&& (63 : Int32)))])) rfl (hb hby at_107) rfl (own_b63n _) (cap := 63) (own_b63l _) (by decide) (by decide) (by decide) (ad := "[B") rfl
      obtain ⟨b50, g50⟩ : ∃ z, z = T47.heap.size := ⟨_, rfl⟩
      rw [← g50] at A50 Ex50 st50
      have n0_b50 : n0 ≤ b50 := Nat.le_trans (Nat.le_trans (Nat.le_of_eq O0.1.symm) O0.2.1) (Nat.le_trans (Nat.le_trans (Nat.le_trans (Nat.le_trans (Nat.le_trans (Nat.le_trans E2.1 (Keep.of_wr W5).1) (Keep.of_wr W8).1) (Keep.of_wr W11).1) (Keep.of_wr W14).1) K47.1) (Nat.le_of_eq g50.symm))
      have H51 := CHv.ext E50 H49
      have V50 : Arv Z T50.heap b50 k50 .byte ((own_ushr si_ (8 : Int32)) &&& (63 : Int32)) [] (.int 0) := Arv.new A50 (own_b63n _)
      refine ogo (S' := T50.setTop (mkF m 109 #[.val (.int ki_), .val (.int si_), .val (.int fr_), .val (.int bk_), .val (.long mo_), .second, .val (.int kk), .val (.ref uu), .val (.int (1 : Int32)), .val (.ref b2), .val (.ref x_47), .val (.int ((own_ushr si_ (8 : Int32)) &&& (63 : Int32))), .unset, .unset, .unset, .unset, .unset, .unset, .unset] [(.ref b50)])) st50 ?_
      refine o_astore X50 hx (l' := #[.val (.int ki_), .val (.int si_), .val (.int fr_), .val (.int bk_), .val (.long mo_), .second, .val (.int kk), .val (.ref uu), .val (.int (1 : Int32)), .val (.ref b2), .val (.ref x_47), .val (.int ((own_ushr si_ (8 : Int32)) &&& (63 : Int32))), .val (.ref b50), .unset, .unset, .unset, .unset, .unset, .unset]) (hb hby at_109) rfl rfl ?_
      obtain ⟨T52, _, X52, rfl, E52, A52, D52, -, st52⟩ := newO X50 hx hZ hown w41 w42 w43 rfl (g := (mkF m 111 #[.val (.int ki_), .val (.int si_), .val (.int fr_), .val (.int bk_), .val (.long mo_), .second, .val (.int kk), .val (.ref uu), .val (.int (1 : Int32)), .val (.ref b2), .val (.ref x_47), .val (.int ((own_ushr si_ (8 : Int32)) &&& (63 : Int32))), .val (.ref b50), .unset, .unset, .unset, .unset, .unset, .unset] [])) rfl (hb hby at_111) (by decide) (by decide)
      obtain ⟨b52, g52⟩ : ∃ z, z = T50.heap.size := ⟨_, rfl⟩
      rw [← g52] at A52 D52 st52
      have n0_b52 : n0 ≤ b52 := Nat.le_trans (Nat.le_trans (Nat.le_of_eq O0.1.symm) O0.2.1) (Nat.le_trans (Nat.le_trans (Nat.le_trans (Nat.le_trans (Nat.le_trans (Nat.le_trans (Nat.le_trans E2.1 (Keep.of_wr W5).1) (Keep.of_wr W8).1) (Keep.of_wr W11).1) (Keep.of_wr W14).1) K47.1) E50.1) (Nat.le_of_eq g52.symm))
      have H53 := CHv.ext E52 H51
      have F52_unit : Fld Z T52.heap b52 "com/example/upshot/upshot/ColumnCatalog$Length" "unit" "Lcom/example/upshot/upshot/ColumnCatalog$Length$Unit;" .null := D52 (Or.inr w49) (ty := (.object "com/example/upshot/upshot/ColumnCatalog$Length$Unit")) (by decide)
      have F52_most : Fld Z T52.heap b52 "com/example/upshot/upshot/ColumnCatalog$Length" "most" "J" (.long (0 : Int64)) := D52 (Or.inr w51) (ty := .long) (by decide)
      refine ogo (S' := T52.setTop (mkF m 114 #[.val (.int ki_), .val (.int si_), .val (.int fr_), .val (.int bk_), .val (.long mo_), .second, .val (.int kk), .val (.ref uu), .val (.int (1 : Int32)), .val (.ref b2), .val (.ref x_47), .val (.int ((own_ushr si_ (8 : Int32)) &&& (63 : Int32))), .val (.ref b50), .unset, .unset, .unset, .unset, .unset, .unset] [(.ref b52)])) st52 ?_
      refine o_dup X52 hx (hb hby at_114) rfl ?_
      refine o_aload X52 hx (hb hby at_115) rfl rfl ?_
      refine o_lload X52 hx (hb hby at_117) rfl ?_
      obtain ⟨_, _, ⟨T54, L54, kc54, n54⟩, -, X54, ⟨Lc54, hQ54, l54, y54, z54⟩, st54⟩ := X52.specialBack hx (y := yM12) rfl hown (mvT hZ w44) (mvT hZ w45) (mvT hZ w46) (by decide) (backOf (W := 1) (rm_linit l Z a0 hw []  b52 uu mo_ T52.heap n0 (((c48.keep K47 all0).ext E50).ext E52) A52 F52_unit F52_most n0_b52) hZ w46 w43 (by decide) (by decide)) (g := (mkF m 119 #[.val (.int ki_), .val (.int si_), .val (.int fr_), .val (.int bk_), .val (.long mo_), .second, .val (.int kk), .val (.ref uu), .val (.int (1 : Int32)), .val (.ref b2), .val (.ref x_47), .val (.int ((own_ushr si_ (8 : Int32)) &&& (63 : Int32))), .val (.ref b50), .unset, .unset, .unset, .unset, .unset, .unset] [(.long mo_), (.ref uu), (.ref b52), (.ref b52)])) rfl (by rw [hml]; rfl) (Steps.refl _) (a := b52) (argsL := [(.ref uu), (.long mo_)]) (rest := [(.ref b52)]) (lenOf own_pd17 rfl) rfl (by show 2 * 0 + _ ≤ _; exact Nat.le_of_eq rfl) (hb hby at_119) (fun _ _ => ⟨rfl, rfl, (by decide : 5 + 0 ≤ _), (by decide : 74 + 0 ≤ _)⟩)
      dsimp only [Pt.U, Pt.locs, Pt.cells, Pt.slots] at X54 l54 y54 z54 st54 hQ54
      subst l54 y54 z54
      obtain ⟨rfl, Nq54, K54, p54_0, p54_1, p54_2⟩ := hQ54
      have N54 := Fr.app N47 Nq54
      have H55 := CHv.keep K54 (allS (Safe.exa hZ.alike A52 (by decide) (by decide)) all0) H53
      refine otr (S' := T54.setTop (mkF m 122 #[.val (.int ki_), .val (.int si_), .val (.int fr_), .val (.int bk_), .val (.long mo_), .second, .val (.int kk), .val (.ref uu), .val (.int (1 : Int32)), .val (.ref b2), .val (.ref x_47), .val (.int ((own_ushr si_ (8 : Int32)) &&& (63 : Int32))), .val (.ref b50), .unset, .unset, .unset, .unset, .unset, .unset] [(.ref b52)])) st54 ?_
      refine o_astore X54 hx (l' := #[.val (.int ki_), .val (.int si_), .val (.int fr_), .val (.int bk_), .val (.long mo_), .second, .val (.int kk), .val (.ref uu), .val (.int (1 : Int32)), .val (.ref b2), .val (.ref x_47), .val (.int ((own_ushr si_ (8 : Int32)) &&& (63 : Int32))), .val (.ref b50), .val (.ref b52), .unset, .unset, .unset, .unset, .unset]) (hb hby at_122) rfl rfl ?_
      rcases hku with ⟨rfl, rfl⟩ | ⟨rfl, rfl⟩ | ⟨rfl, rfl⟩
      · refine o_iload X54 hx (hb hby at_124) rfl ?_
        refine o_iconst X54 hx (2 : Int32) (hb hby at_126) rfl ?_
        refine o_icmpYes X54 hx 142 (hb hby at_127) (feq (by decide : ¬ ((0 : Int32) = (2 : Int32)))).2 (by decide) (by decide) ?_
        refine o_iload X54 hx (hb hby at_142) rfl ?_
        refine o_iconst X54 hx (1 : Int32) (hb hby at_144) rfl ?_
        refine o_icmpYes X54 hx 165 (hb hby at_145) (feq (by decide : ¬ ((0 : Int32) = (1 : Int32)))).2 (by decide) (by decide) ?_
        refine o_aload X54 hx (hb hby at_165) rfl rfl ?_
        refine o_astore X54 hx (l' := #[.val (.int ki_), .val (.int si_), .val (.int fr_), .val (.int bk_), .val (.long mo_), .second, .val (.int (0 : Int32)), .val (.ref s_CHARACTERS), .val (.int (1 : Int32)), .val (.ref b2), .val (.ref x_47), .val (.int ((own_ushr si_ (8 : Int32)) &&& (63 : Int32))), .val (.ref b50), .val (.ref b52), .val (.ref x_47), .unset, .unset, .unset, .unset]) (hb hby at_167) rfl rfl ?_
        refine o_iload X54 hx (hb hby at_169) rfl ?_
        refine o_i2l X54 hx (hb hby at_171) ?_
        refine o_lstore X54 hx (l' := #[.val (.int ki_), .val (.int si_), .val (.int fr_), .val (.int bk_), .val (.long mo_), .second, .val (.int (0 : Int32)), .val (.ref s_CHARACTERS), .val (.int (1 : Int32)), .val (.ref b2), .val (.ref x_47), .val (.int ((own_ushr si_ (8 : Int32)) &&& (63 : Int32))), .val (.ref b50), .val (.ref b52), .val (.ref x_47), .val (.long (1 : Int64)), .second, .unset, .unset]) (hb hby at_172) rfl ?_
        refine o_aload X54 hx (hb hby at_174) rfl rfl ?_
        refine o_aload X54 hx (hb hby at_176) rfl rfl ?_
        have c57 := ((((c48.keep K47 all0).ext E50).ext E52).keep K54 (allS n0_b52 all0))
        have c58 := ((Fld.ext E52 (Fld.ext E50 p47_3)).keep K54 (ninS (Nat.ne_of_lt (Nat.lt_of_lt_of_le (Nat.lt_of_lt_of_le p47_2.lt E50.1) (Nat.le_of_eq g52.symm))) nin0))
        have c59 := ((Fld.ext E52 (Fld.ext E50 p47_4)).keep K54 (ninS (Nat.ne_of_lt (Nat.lt_of_lt_of_le (Nat.lt_of_lt_of_le p47_2.lt E50.1) (Nat.le_of_eq g52.symm))) nin0))
        have c60 := (((p47_5.ext E50).ext E52).keep K54 (ninS (Nat.ne_of_lt (Nat.lt_of_lt_of_le (Nat.lt_of_lt_of_le p47_1 E50.1) (Nat.le_of_eq g52.symm))) nin0))
        obtain ⟨cq56, kq56, q56a, q56b, q56c⟩ := isOf hZ rfl p54_0
        obtain ⟨_, _, ⟨T56, L56, kc56, n56⟩, -, X56, ⟨Lc56, hQ56, l56, y56, z56⟩, st56⟩ := X54.virtualBack hx (y := yM15) (z := yM15) hown (mvT hZ w52) (mvT hZ w53) (notFace_of_selects (args := #[]) (mvT hZ w55)) (mvT hZ w55) (mvT hZ w54) (by decide) (backOf (W := 0) (rm_of_chars_1 l Z a0 hw [] s_CHARACTERS s_BYTES s_CHARACTERS_BUT_TRAILING_SPACES z_CS v_FMT b52 x_47 ba_47 kb_47 [(.int u0.toInt8.toInt32)] T54.heap n0 SB c57 p54_1 ((Exa.ext E52 (Exa.ext E50 p47_2)).keep K54) c58 c59 c60) hZ w56 w43 (by decide) (by decide)) q56a q56c (g := (mkF m 178 #[.val (.int ki_), .val (.int si_), .val (.int fr_), .val (.int bk_), .val (.long mo_), .second, .val (.int (0 : Int32)), .val (.ref s_CHARACTERS), .val (.int (1 : Int32)), .val (.ref b2), .val (.ref x_47), .val (.int ((own_ushr si_ (8 : Int32)) &&& (63 : Int32))), .val (.ref b50), .val (.ref b52), .val (.ref x_47), .val (.long (1 : Int64)), .second, .unset, .unset] [(.ref x_47), (.ref b52)])) rfl (by rw [hml]; rfl) (Steps.refl _) (argsL := [(.ref x_47)]) (rest := []) (lenOf own_pd18 rfl) rfl (by show 2 * 0 + _ ≤ _; exact Nat.le_of_eq rfl) (hb hby at_178) (fun _ _ => ⟨rfl, rfl, (by decide : 5 + 0 ≤ _), (by decide : 74 + 0 ≤ _)⟩)
        dsimp only [Pt.U, Pt.locs, Pt.cells, Pt.slots] at X56 l56 y56 z56 st56 hQ56
        subst l56 y56 z56
        obtain ⟨rfl, Nq56, e56⟩ := hQ56
        have N56 := Fr.app N54 Nq56
        refine otr (S' := T56.setTop (mkF m 181 #[.val (.int ki_), .val (.int si_), .val (.int fr_), .val (.int bk_), .val (.long mo_), .second, .val (.int (0 : Int32)), .val (.ref s_CHARACTERS), .val (.int (1 : Int32)), .val (.ref b2), .val (.ref x_47), .val (.int ((own_ushr si_ (8 : Int32)) &&& (63 : Int32))), .val (.ref b50), .val (.ref b52), .val (.ref x_47), .val (.long (1 : Int64)), .second, .unset, .unset] [(.long (1 : Int64))])) st56 ?_
        refine o_lstore X56 hx (l' := #[.val (.int ki_), .val (.int si_), .val (.int fr_), .val (.int bk_), .val (.long mo_), .second, .val (.int (0 : Int32)), .val (.ref s_CHARACTERS), .val (.int (1 : Int32)), .val (.ref b2), .val (.ref x_47), .val (.int ((own_ushr si_ (8 : Int32)) &&& (63 : Int32))), .val (.ref b50), .val (.ref b52), .val (.ref x_47), .val (.long (1 : Int64)), .second, .val (.long (1 : Int64)), .second]) (hb hby at_181) rfl ?_
        refine o_lload X56 hx (hb hby at_183) rfl ?_
        refine o_lload X56 hx (hb hby at_185) rfl ?_
        refine o_lcmp X56 hx (hb hby at_187) ?_
        refine o_ifNo X56 hx (hb hby at_188) (teq ((lw_eq _ _).mpr (by decide : (1 : Int64) = (1 : Int64)))).2 ?_
        refine o_aload X56 hx (hb hby at_191) rfl rfl ?_
        obtain ⟨cq61, kq61, q61a, q61b, q61c⟩ := isOf hZ e56 p54_0
        obtain ⟨_, _, ⟨T61, L61, kc61, n61⟩, -, X61, ⟨Lc61, hQ61, l61, y61, z61⟩, st61⟩ := X56.virtualBack hx (y := yM13) (z := yM13) hown (mvT hZ w72) (mvT hZ w73) (notFace_of_selects (args := #[]) (mvT hZ w75)) (mvT hZ w75) (mvT hZ w74) (by decide) (backOf (W := 0) (rm_unit l Z a0 hw []  b52 s_CHARACTERS T54.heap n0 c57 p54_1) hZ w76 w43 (by decide) (by decide)) q61a q61c (g := (mkF m 193 #[.val (.int ki_), .val (.int si_), .val (.int fr_), .val (.int bk_), .val (.long mo_), .second, .val (.int (0 : Int32)), .val (.ref s_CHARACTERS), .val (.int (1 : Int32)), .val (.ref b2), .val (.ref x_47), .val (.int ((own_ushr si_ (8 : Int32)) &&& (63 : Int32))), .val (.ref b50), .val (.ref b52), .val (.ref x_47), .val (.long (1 : Int64)), .second, .val (.long (1 : Int64)), .second] [(.ref b52)])) rfl (by rw [hml]; rfl) (Steps.refl _) (argsL := []) (rest := []) (lenOf own_pd19 rfl) rfl (by show 2 * 0 + _ ≤ _; exact Nat.le_of_eq rfl) (hb hby at_193) (fun _ _ => ⟨rfl, e56, (by decide : 5 + 0 ≤ _), (by decide : 74 + 0 ≤ _)⟩)
        dsimp only [Pt.U, Pt.locs, Pt.cells, Pt.slots] at X61 l61 y61 z61 st61 hQ61
        subst l61 y61 z61
        obtain ⟨rfl, Nq61, e61⟩ := hQ61
        have N61 := Fr.app N56 Nq61
        refine otr (S' := T61.setTop (mkF m 196 #[.val (.int ki_), .val (.int si_), .val (.int fr_), .val (.int bk_), .val (.long mo_), .second, .val (.int (0 : Int32)), .val (.ref s_CHARACTERS), .val (.int (1 : Int32)), .val (.ref b2), .val (.ref x_47), .val (.int ((own_ushr si_ (8 : Int32)) &&& (63 : Int32))), .val (.ref b50), .val (.ref b52), .val (.ref x_47), .val (.long (1 : Int64)), .second, .val (.long (1 : Int64)), .second] [(.ref s_CHARACTERS)])) st61 ?_
        refine o_aload X61 hx (hb hby at_196) rfl rfl ?_
        refine o_acmp X61 hx 201 true rfl rfl (hb hby at_198) (decide_eq_true rfl) (by decide) (by decide) ?_
        refine o_aload X61 hx (hb hby at_201) rfl rfl ?_
        obtain ⟨cq62, kq62, q62a, q62b, q62c⟩ := isOf hZ e61 p54_0
        obtain ⟨_, _, ⟨T62, L62, kc62, n62⟩, -, X62, ⟨Lc62, hQ62, l62, y62, z62⟩, st62⟩ := X61.virtualBack hx (y := yM14) (z := yM14) hown (mvT hZ w77) (mvT hZ w78) (notFace_of_selects (args := #[]) (mvT hZ w80)) (mvT hZ w80) (mvT hZ w79) (by decide) (backOf (W := 0) (rm_most l Z a0 hw []  b52 mo_ T54.heap n0 c57 p54_2) hZ w81 w43 (by decide) (by decide)) q62a q62c (g := (mkF m 203 #[.val (.int ki_), .val (.int si_), .val (.int fr_), .val (.int bk_), .val (.long mo_), .second, .val (.int (0 : Int32)), .val (.ref s_CHARACTERS), .val (.int (1 : Int32)), .val (.ref b2), .val (.ref x_47), .val (.int ((own_ushr si_ (8 : Int32)) &&& (63 : Int32))), .val (.ref b50), .val (.ref b52), .val (.ref x_47), .val (.long (1 : Int64)), .second, .val (.long (1 : Int64)), .second] [(.ref b52)])) rfl (by rw [hml]; rfl) (Steps.refl _) (argsL := []) (rest := []) (lenOf own_pd20 rfl) rfl (by show 2 * 0 + _ ≤ _; exact Nat.le_of_eq rfl) (hb hby at_203) (fun _ _ => ⟨rfl, e61, (by decide : 5 + 0 ≤ _), (by decide : 74 + 0 ≤ _)⟩)
        dsimp only [Pt.U, Pt.locs, Pt.cells, Pt.slots] at X62 l62 y62 z62 st62 hQ62
        subst l62 y62 z62
        obtain ⟨rfl, Nq62, e62⟩ := hQ62
        have N62 := Fr.app N61 Nq62
        refine otr (S' := T62.setTop (mkF m 206 #[.val (.int ki_), .val (.int si_), .val (.int fr_), .val (.int bk_), .val (.long mo_), .second, .val (.int (0 : Int32)), .val (.ref s_CHARACTERS), .val (.int (1 : Int32)), .val (.ref b2), .val (.ref x_47), .val (.int ((own_ushr si_ (8 : Int32)) &&& (63 : Int32))), .val (.ref b50), .val (.ref b52), .val (.ref x_47), .val (.long (1 : Int64)), .second, .val (.long (1 : Int64)), .second] [(.long mo_)])) st62 ?_
        refine o_lload X62 hx (hb hby at_206) rfl ?_
        refine o_lcmp X62 hx (hb hby at_208) ?_
        refine o_ifNo X62 hx (hb hby at_209) (teq ((lw_eq _ _).mpr (rfl : mo_ = mo_))).2 ?_
        refine o_iconst X62 hx (1 : Int32) (hb hby at_212) rfl ?_
        refine o_goto X62 hx 217 (hb hby at_213) (by decide) (by decide) ?_
        refine oendS X62 hlk hS0 (Nat.le_trans (Nat.zero_le _) (Nat.le_trans (Nat.le_trans (Nat.le_trans (Nat.le_trans (Nat.le_trans (Nat.le_trans (Nat.le_trans (Nat.le_trans E2.1 (Keep.of_wr W5).1) (Keep.of_wr W8).1) (Keep.of_wr W11).1) (Keep.of_wr W14).1) K47.1) E50.1) E52.1) K54.1)) e62 hZ hEL hs0 (CHr.trans (CHr.trans (CHr.trans (CHr.trans (CHr.trans (CHr.trans (CHr.trans (CHr.trans (CHr.trans (CHr.refl H0) (CHr.ext E2 H0)) (CHr.wr W5 (Safe.exa hZ.alike Ex2 (by decide) (by decide)) H3)) (CHr.wr W8 (Safe.exa hZ.alike (Exa.wr W5 Ex2) (by decide) (by decide)) H6)) (CHr.wr W11 (Safe.exa hZ.alike (Exa.wr W8 (Exa.wr W5 Ex2)) (by decide) (by decide)) H9)) (CHr.wr W14 (Safe.exa hZ.alike (Exa.wr W11 (Exa.wr W8 (Exa.wr W5 Ex2))) (by decide) (by decide)) H12)) (CHr.keep K47 all0 H15)) (CHr.ext E50 H49)) (CHr.ext E52 H51)) (CHr.keep K54 (allS (Safe.exa hZ.alike A52 (by decide) (by decide)) all0) H53)) (v := some (.int (1 : Int32))) (fun h => by rw [hret] at h; cases h) (fun fs hr => retN X62 hx (t := .boolean) hret (by simp) (hb hby at_217) hr) (by decide) (by decide) ?_
        show own_Q_law Z _ _ _ _ _ _ _ _ _ _ h0 n0 _ T62.heap _
        rw [e62]
        exact ⟨rfl, N62, ((((((((((Keep.refl h0 []).ext E2).wr W5 (Or.inr (Nat.le_trans (Nat.le_refl _) (Nat.le_of_eq g2.symm)))).wr W8 (Or.inr (Nat.le_trans (Nat.le_refl _) (Nat.le_of_eq g2.symm)))).wr W11 (Or.inr (Nat.le_trans (Nat.le_refl _) (Nat.le_of_eq g2.symm)))).wr W14 (Or.inr (Nat.le_trans (Nat.le_refl _) (Nat.le_of_eq g2.symm)))).trans K47 all0).ext E50).ext E52).trans K54 (allS (Or.inr (Nat.le_trans (Nat.le_trans (Nat.le_trans (Nat.le_trans (Nat.le_trans (Nat.le_trans (Nat.le_trans E2.1 (Keep.of_wr W5).1) (Keep.of_wr W8).1) (Keep.of_wr W11).1) (Keep.of_wr W14).1) K47.1) E50.1) (Nat.le_of_eq g52.symm))) all0))⟩
      · refine o_iload X54 hx (hb hby at_124) rfl ?_
        refine o_iconst X54 hx (2 : Int32) (hb hby at_126) rfl ?_
        refine o_icmpYes X54 hx 142 (hb hby at_127) (feq (by decide : ¬ ((1 : Int32) = (2 : Int32)))).2 (by decide) (by decide) ?_
        refine o_iload X54 hx (hb hby at_142) rfl ?_
        refine o_iconst X54 hx (1 : Int32) (hb hby at_144) rfl ?_
        refine o_icmpNo X54 hx (hb hby at_145) (teq (by decide : (1 : Int32) = (1 : Int32))).2 ?_
        refine o_aload X54 hx (hb hby at_148) rfl rfl ?_
        refine o_astore X54 hx (l' := #[.val (.int ki_), .val (.int si_), .val (.int fr_), .val (.int bk_), .val (.long mo_), .second, .val (.int (1 : Int32)), .val (.ref s_CHARACTERS_BUT_TRAILING_SPACES), .val (.int (1 : Int32)), .val (.ref b2), .val (.ref x_47), .val (.int ((own_ushr si_ (8 : Int32)) &&& (63 : Int32))), .val (.ref b50), .val (.ref b52), .val (.ref x_47), .unset, .unset, .unset, .unset]) (hb hby at_150) rfl rfl ?_
        refine o_aload X54 hx (hb hby at_152) rfl rfl ?_
        refine o_iload X54 hx (hb hby at_154) rfl ?_
        have c64 := ((((c48.keep K47 all0).ext E50).ext E52).keep K54 (allS n0_b52 all0))
        have c65 := ((((V14.keep K47 nin0).ext E50).ext E52).keep K54 (ninS (Nat.ne_of_lt (Nat.lt_of_lt_of_le (Nat.lt_of_lt_of_le V2.lt (Nat.le_trans (Nat.le_trans (Nat.le_trans (Nat.le_trans (Nat.le_trans (Keep.of_wr W5).1 (Keep.of_wr W8).1) (Keep.of_wr W11).1) (Keep.of_wr W14).1) K47.1) E50.1)) (Nat.le_of_eq g52.symm))) nin0))
        obtain ⟨_, _, ⟨T63, L63, kc63, n63⟩, -, X63, ⟨Lc63, hQ63, l63, y63, z63⟩, st63⟩ := Jvm.LawKit.callS X54 hx (y := yM11) hown (mvT hZ w86) (mvT hZ w87) (mvT hZ w7) (mvT hZ w88) (by decide) (backOf (W := 0) (rm_trimmed_1 l Z a0 hw []  b2 k2 u0 u1 u2 u3 T54.heap n0 c64 c65) hZ w88 w7 (by decide) (by decide)) (g := (mkF m 156 #[.val (.int ki_), .val (.int si_), .val (.int fr_), .val (.int bk_), .val (.long mo_), .second, .val (.int (1 : Int32)), .val (.ref s_CHARACTERS_BUT_TRAILING_SPACES), .val (.int (1 : Int32)), .val (.ref b2), .val (.ref x_47), .val (.int ((own_ushr si_ (8 : Int32)) &&& (63 : Int32))), .val (.ref b50), .val (.ref b52), .val (.ref x_47), .unset, .unset, .unset, .unset] [(.int (1 : Int32)), (.ref b2)])) rfl (by rw [hml]; rfl) (argsL := [(.ref b2), (.int (1 : Int32))]) (rest := []) (lenOf own_pd21 rfl) rfl (by show 2 * 0 + _ ≤ _; exact Nat.le_of_eq rfl) (hb hby at_156) (fun _ _ => ⟨rfl, rfl, (by decide : 5 + 0 ≤ _), (by decide : 74 + 0 ≤ _)⟩)
        dsimp only [Pt.U, Pt.locs, Pt.cells, Pt.slots] at X63 l63 y63 z63 st63 hQ63
        subst l63 y63 z63
        obtain ⟨rfl, Nq63, e63⟩ := hQ63
        have N63 := Fr.app N54 Nq63
        refine ogo (S' := T63.setTop (mkF m 159 #[.val (.int ki_), .val (.int si_), .val (.int fr_), .val (.int bk_), .val (.long mo_), .second, .val (.int (1 : Int32)), .val (.ref s_CHARACTERS_BUT_TRAILING_SPACES), .val (.int (1 : Int32)), .val (.ref b2), .val (.ref x_47), .val (.int ((own_ushr si_ (8 : Int32)) &&& (63 : Int32))), .val (.ref b50), .val (.ref b52), .val (.ref x_47), .unset, .unset, .unset, .unset] [(.int (own_tr1 u0))])) st63 ?_
        refine o_i2l X63 hx (hb hby at_159) ?_
        refine o_lstore X63 hx (l' := #[.val (.int ki_), .val (.int si_), .val (.int fr_), .val (.int bk_), .val (.long mo_), .second, .val (.int (1 : Int32)), .val (.ref s_CHARACTERS_BUT_TRAILING_SPACES), .val (.int (1 : Int32)), .val (.ref b2), .val (.ref x_47), .val (.int ((own_ushr si_ (8 : Int32)) &&& (63 : Int32))), .val (.ref b50), .val (.ref b52), .val (.ref x_47), .val (.long (own_tr1 u0).toInt64), .second, .unset, .unset]) (hb hby at_160) rfl ?_
        refine o_goto X63 hx 174 (hb hby at_162) (by decide) (by decide) ?_
        refine o_aload X63 hx (hb hby at_174) rfl rfl ?_
        refine o_aload X63 hx (hb hby at_176) rfl rfl ?_
        have c67 := ((Fld.ext E52 (Fld.ext E50 p47_3)).keep K54 (ninS (Nat.ne_of_lt (Nat.lt_of_lt_of_le (Nat.lt_of_lt_of_le p47_2.lt E50.1) (Nat.le_of_eq g52.symm))) nin0))
        have c68 := ((Fld.ext E52 (Fld.ext E50 p47_4)).keep K54 (ninS (Nat.ne_of_lt (Nat.lt_of_lt_of_le (Nat.lt_of_lt_of_le p47_2.lt E50.1) (Nat.le_of_eq g52.symm))) nin0))
        have c69 := (((p47_5.ext E50).ext E52).keep K54 (ninS (Nat.ne_of_lt (Nat.lt_of_lt_of_le (Nat.lt_of_lt_of_le p47_1 E50.1) (Nat.le_of_eq g52.symm))) nin0))
        obtain ⟨cq66, kq66, q66a, q66b, q66c⟩ := isOf hZ e63 p54_0
        obtain ⟨_, _, ⟨T66, L66, kc66, n66⟩, -, X66, ⟨Lc66, hQ66, l66, y66, z66⟩, st66⟩ := X63.virtualBack hx (y := yM15) (z := yM15) hown (mvT hZ w52) (mvT hZ w53) (notFace_of_selects (args := #[]) (mvT hZ w55)) (mvT hZ w55) (mvT hZ w54) (by decide) (backOf (W := 0) (rm_of_trail_1 l Z a0 hw [] s_CHARACTERS s_BYTES s_CHARACTERS_BUT_TRAILING_SPACES z_CS v_FMT b52 x_47 ba_47 kb_47 u0 T54.heap n0 SB c64 p54_1 ((Exa.ext E52 (Exa.ext E50 p47_2)).keep K54) c67 c68 c69 (own_sm0 hv0) (own_sm255 hv0)) hZ w56 w43 (by decide) (by decide)) q66a q66c (g := (mkF m 178 #[.val (.int ki_), .val (.int si_), .val (.int fr_), .val (.int bk_), .val (.long mo_), .second, .val (.int (1 : Int32)), .val (.ref s_CHARACTERS_BUT_TRAILING_SPACES), .val (.int (1 : Int32)), .val (.ref b2), .val (.ref x_47), .val (.int ((own_ushr si_ (8 : Int32)) &&& (63 : Int32))), .val (.ref b50), .val (.ref b52), .val (.ref x_47), .val (.long (own_tr1 u0).toInt64), .second, .unset, .unset] [(.ref x_47), (.ref b52)])) rfl (by rw [hml]; rfl) (Steps.refl _) (argsL := [(.ref x_47)]) (rest := []) (lenOf own_pd18 rfl) rfl (by show 2 * 0 + _ ≤ _; exact Nat.le_of_eq rfl) (hb hby at_178) (fun _ _ => ⟨rfl, e63, (by decide : 5 + 0 ≤ _), (by decide : 74 + 0 ≤ _)⟩)
        dsimp only [Pt.U, Pt.locs, Pt.cells, Pt.slots] at X66 l66 y66 z66 st66 hQ66
        subst l66 y66 z66
        obtain ⟨rfl, Nq66, e66⟩ := hQ66
        have N66 := Fr.app N63 Nq66
        refine otr (S' := T66.setTop (mkF m 181 #[.val (.int ki_), .val (.int si_), .val (.int fr_), .val (.int bk_), .val (.long mo_), .second, .val (.int (1 : Int32)), .val (.ref s_CHARACTERS_BUT_TRAILING_SPACES), .val (.int (1 : Int32)), .val (.ref b2), .val (.ref x_47), .val (.int ((own_ushr si_ (8 : Int32)) &&& (63 : Int32))), .val (.ref b50), .val (.ref b52), .val (.ref x_47), .val (.long (own_tr1 u0).toInt64), .second, .unset, .unset] [(.long (own_tr1 u0).toInt64)])) st66 ?_
        refine o_lstore X66 hx (l' := #[.val (.int ki_), .val (.int si_), .val (.int fr_), .val (.int bk_), .val (.long mo_), .second, .val (.int (1 : Int32)), .val (.ref s_CHARACTERS_BUT_TRAILING_SPACES), .val (.int (1 : Int32)), .val (.ref b2), .val (.ref x_47), .val (.int ((own_ushr si_ (8 : Int32)) &&& (63 : Int32))), .val (.ref b50), .val (.ref b52), .val (.ref x_47), .val (.long (own_tr1 u0).toInt64), .second, .val (.long (own_tr1 u0).toInt64), .second]) (hb hby at_181) rfl ?_
        refine o_lload X66 hx (hb hby at_183) rfl ?_
        refine o_lload X66 hx (hb hby at_185) rfl ?_
        refine o_lcmp X66 hx (hb hby at_187) ?_
        refine o_ifNo X66 hx (hb hby at_188) (teq ((lw_eq _ _).mpr (rfl : (own_tr1 u0).toInt64 = (own_tr1 u0).toInt64))).2 ?_
        refine o_aload X66 hx (hb hby at_191) rfl rfl ?_
        obtain ⟨cq70, kq70, q70a, q70b, q70c⟩ := isOf hZ e66 p54_0
        obtain ⟨_, _, ⟨T70, L70, kc70, n70⟩, -, X70, ⟨Lc70, hQ70, l70, y70, z70⟩, st70⟩ := X66.virtualBack hx (y := yM13) (z := yM13) hown (mvT hZ w72) (mvT hZ w73) (notFace_of_selects (args := #[]) (mvT hZ w75)) (mvT hZ w75) (mvT hZ w74) (by decide) (backOf (W := 0) (rm_unit l Z a0 hw []  b52 s_CHARACTERS_BUT_TRAILING_SPACES T54.heap n0 c64 p54_1) hZ w76 w43 (by decide) (by decide)) q70a q70c (g := (mkF m 193 #[.val (.int ki_), .val (.int si_), .val (.int fr_), .val (.int bk_), .val (.long mo_), .second, .val (.int (1 : Int32)), .val (.ref s_CHARACTERS_BUT_TRAILING_SPACES), .val (.int (1 : Int32)), .val (.ref b2), .val (.ref x_47), .val (.int ((own_ushr si_ (8 : Int32)) &&& (63 : Int32))), .val (.ref b50), .val (.ref b52), .val (.ref x_47), .val (.long (own_tr1 u0).toInt64), .second, .val (.long (own_tr1 u0).toInt64), .second] [(.ref b52)])) rfl (by rw [hml]; rfl) (Steps.refl _) (argsL := []) (rest := []) (lenOf own_pd19 rfl) rfl (by show 2 * 0 + _ ≤ _; exact Nat.le_of_eq rfl) (hb hby at_193) (fun _ _ => ⟨rfl, e66, (by decide : 5 + 0 ≤ _), (by decide : 74 + 0 ≤ _)⟩)
        dsimp only [Pt.U, Pt.locs, Pt.cells, Pt.slots] at X70 l70 y70 z70 st70 hQ70
        subst l70 y70 z70
        obtain ⟨rfl, Nq70, e70⟩ := hQ70
        have N70 := Fr.app N66 Nq70
        refine otr (S' := T70.setTop (mkF m 196 #[.val (.int ki_), .val (.int si_), .val (.int fr_), .val (.int bk_), .val (.long mo_), .second, .val (.int (1 : Int32)), .val (.ref s_CHARACTERS_BUT_TRAILING_SPACES), .val (.int (1 : Int32)), .val (.ref b2), .val (.ref x_47), .val (.int ((own_ushr si_ (8 : Int32)) &&& (63 : Int32))), .val (.ref b50), .val (.ref b52), .val (.ref x_47), .val (.long (own_tr1 u0).toInt64), .second, .val (.long (own_tr1 u0).toInt64), .second] [(.ref s_CHARACTERS_BUT_TRAILING_SPACES)])) st70 ?_
        refine o_aload X70 hx (hb hby at_196) rfl rfl ?_
        refine o_acmp X70 hx 201 true rfl rfl (hb hby at_198) (decide_eq_true rfl) (by decide) (by decide) ?_
        refine o_aload X70 hx (hb hby at_201) rfl rfl ?_
        obtain ⟨cq71, kq71, q71a, q71b, q71c⟩ := isOf hZ e70 p54_0
        obtain ⟨_, _, ⟨T71, L71, kc71, n71⟩, -, X71, ⟨Lc71, hQ71, l71, y71, z71⟩, st71⟩ := X70.virtualBack hx (y := yM14) (z := yM14) hown (mvT hZ w77) (mvT hZ w78) (notFace_of_selects (args := #[]) (mvT hZ w80)) (mvT hZ w80) (mvT hZ w79) (by decide) (backOf (W := 0) (rm_most l Z a0 hw []  b52 mo_ T54.heap n0 c64 p54_2) hZ w81 w43 (by decide) (by decide)) q71a q71c (g := (mkF m 203 #[.val (.int ki_), .val (.int si_), .val (.int fr_), .val (.int bk_), .val (.long mo_), .second, .val (.int (1 : Int32)), .val (.ref s_CHARACTERS_BUT_TRAILING_SPACES), .val (.int (1 : Int32)), .val (.ref b2), .val (.ref x_47), .val (.int ((own_ushr si_ (8 : Int32)) &&& (63 : Int32))), .val (.ref b50), .val (.ref b52), .val (.ref x_47), .val (.long (own_tr1 u0).toInt64), .second, .val (.long (own_tr1 u0).toInt64), .second] [(.ref b52)])) rfl (by rw [hml]; rfl) (Steps.refl _) (argsL := []) (rest := []) (lenOf own_pd20 rfl) rfl (by show 2 * 0 + _ ≤ _; exact Nat.le_of_eq rfl) (hb hby at_203) (fun _ _ => ⟨rfl, e70, (by decide : 5 + 0 ≤ _), (by decide : 74 + 0 ≤ _)⟩)
        dsimp only [Pt.U, Pt.locs, Pt.cells, Pt.slots] at X71 l71 y71 z71 st71 hQ71
        subst l71 y71 z71
        obtain ⟨rfl, Nq71, e71⟩ := hQ71
        have N71 := Fr.app N70 Nq71
        refine otr (S' := T71.setTop (mkF m 206 #[.val (.int ki_), .val (.int si_), .val (.int fr_), .val (.int bk_), .val (.long mo_), .second, .val (.int (1 : Int32)), .val (.ref s_CHARACTERS_BUT_TRAILING_SPACES), .val (.int (1 : Int32)), .val (.ref b2), .val (.ref x_47), .val (.int ((own_ushr si_ (8 : Int32)) &&& (63 : Int32))), .val (.ref b50), .val (.ref b52), .val (.ref x_47), .val (.long (own_tr1 u0).toInt64), .second, .val (.long (own_tr1 u0).toInt64), .second] [(.long mo_)])) st71 ?_
        refine o_lload X71 hx (hb hby at_206) rfl ?_
        refine o_lcmp X71 hx (hb hby at_208) ?_
        refine o_ifNo X71 hx (hb hby at_209) (teq ((lw_eq _ _).mpr (rfl : mo_ = mo_))).2 ?_
        refine o_iconst X71 hx (1 : Int32) (hb hby at_212) rfl ?_
        refine o_goto X71 hx 217 (hb hby at_213) (by decide) (by decide) ?_
        refine oendS X71 hlk hS0 (Nat.le_trans (Nat.zero_le _) (Nat.le_trans (Nat.le_trans (Nat.le_trans (Nat.le_trans (Nat.le_trans (Nat.le_trans (Nat.le_trans (Nat.le_trans E2.1 (Keep.of_wr W5).1) (Keep.of_wr W8).1) (Keep.of_wr W11).1) (Keep.of_wr W14).1) K47.1) E50.1) E52.1) K54.1)) e71 hZ hEL hs0 (CHr.trans (CHr.trans (CHr.trans (CHr.trans (CHr.trans (CHr.trans (CHr.trans (CHr.trans (CHr.trans (CHr.refl H0) (CHr.ext E2 H0)) (CHr.wr W5 (Safe.exa hZ.alike Ex2 (by decide) (by decide)) H3)) (CHr.wr W8 (Safe.exa hZ.alike (Exa.wr W5 Ex2) (by decide) (by decide)) H6)) (CHr.wr W11 (Safe.exa hZ.alike (Exa.wr W8 (Exa.wr W5 Ex2)) (by decide) (by decide)) H9)) (CHr.wr W14 (Safe.exa hZ.alike (Exa.wr W11 (Exa.wr W8 (Exa.wr W5 Ex2))) (by decide) (by decide)) H12)) (CHr.keep K47 all0 H15)) (CHr.ext E50 H49)) (CHr.ext E52 H51)) (CHr.keep K54 (allS (Safe.exa hZ.alike A52 (by decide) (by decide)) all0) H53)) (v := some (.int (1 : Int32))) (fun h => by rw [hret] at h; cases h) (fun fs hr => retN X71 hx (t := .boolean) hret (by simp) (hb hby at_217) hr) (by decide) (by decide) ?_
        show own_Q_law Z _ _ _ _ _ _ _ _ _ _ h0 n0 _ T71.heap _
        rw [e71]
        exact ⟨rfl, N71, ((((((((((Keep.refl h0 []).ext E2).wr W5 (Or.inr (Nat.le_trans (Nat.le_refl _) (Nat.le_of_eq g2.symm)))).wr W8 (Or.inr (Nat.le_trans (Nat.le_refl _) (Nat.le_of_eq g2.symm)))).wr W11 (Or.inr (Nat.le_trans (Nat.le_refl _) (Nat.le_of_eq g2.symm)))).wr W14 (Or.inr (Nat.le_trans (Nat.le_refl _) (Nat.le_of_eq g2.symm)))).trans K47 all0).ext E50).ext E52).trans K54 (allS (Or.inr (Nat.le_trans (Nat.le_trans (Nat.le_trans (Nat.le_trans (Nat.le_trans (Nat.le_trans (Nat.le_trans E2.1 (Keep.of_wr W5).1) (Keep.of_wr W8).1) (Keep.of_wr W11).1) (Keep.of_wr W14).1) K47.1) E50.1) (Nat.le_of_eq g52.symm))) all0))⟩
      · refine o_iload X54 hx (hb hby at_124) rfl ?_
        refine o_iconst X54 hx (2 : Int32) (hb hby at_126) rfl ?_
        refine o_icmpNo X54 hx (hb hby at_127) (teq (by decide : (2 : Int32) = (2 : Int32))).2 ?_
        refine o_aload X54 hx (hb hby at_130) rfl rfl ?_
        refine o_astore X54 hx (l' := #[.val (.int ki_), .val (.int si_), .val (.int fr_), .val (.int bk_), .val (.long mo_), .second, .val (.int (2 : Int32)), .val (.ref s_BYTES), .val (.int (1 : Int32)), .val (.ref b2), .val (.ref x_47), .val (.int ((own_ushr si_ (8 : Int32)) &&& (63 : Int32))), .val (.ref b50), .val (.ref b52), .val (.ref b50), .unset, .unset, .unset, .unset]) (hb hby at_132) rfl rfl ?_
        refine o_iload X54 hx (hb hby at_134) rfl ?_
        refine o_i2l X54 hx (hb hby at_136) ?_
        refine o_lstore X54 hx (l' := #[.val (.int ki_), .val (.int si_), .val (.int fr_), .val (.int bk_), .val (.long mo_), .second, .val (.int (2 : Int32)), .val (.ref s_BYTES), .val (.int (1 : Int32)), .val (.ref b2), .val (.ref x_47), .val (.int ((own_ushr si_ (8 : Int32)) &&& (63 : Int32))), .val (.ref b50), .val (.ref b52), .val (.ref b50), .val (.long ((own_ushr si_ (8 : Int32)) &&& (63 : Int32)).toInt64), .second, .unset, .unset]) (hb hby at_137) rfl ?_
        refine o_goto X54 hx 174 (hb hby at_139) (by decide) (by decide) ?_
        refine o_aload X54 hx (hb hby at_174) rfl rfl ?_
        refine o_aload X54 hx (hb hby at_176) rfl rfl ?_
        have c73 := ((((c48.keep K47 all0).ext E50).ext E52).keep K54 (allS n0_b52 all0))
        have c74 := ((V50.ext E52).keep K54 (ninS (Nat.ne_of_lt (Nat.lt_of_lt_of_le (Nat.lt_of_lt_of_le V50.lt (Nat.le_refl _)) (Nat.le_of_eq g52.symm))) nin0))
        obtain ⟨cq72, kq72, q72a, q72b, q72c⟩ := isOf hZ rfl p54_0
        obtain ⟨_, _, ⟨T72, L72, kc72, n72⟩, -, X72, ⟨Lc72, hQ72, l72, y72, z72⟩, st72⟩ := X54.virtualBack hx (y := yM15) (z := yM15) hown (mvT hZ w52) (mvT hZ w53) (notFace_of_selects (args := #[]) (mvT hZ w55)) (mvT hZ w55) (mvT hZ w54) (by decide) (backOf (W := 0) (rm_of_bytes l Z a0 hw [] s_CHARACTERS s_BYTES s_CHARACTERS_BUT_TRAILING_SPACES z_CS v_FMT b52 b50 k50 ((own_ushr si_ (8 : Int32)) &&& (63 : Int32)) T54.heap n0 SB c73 p54_1 ((Exa.ext E52 Ex50).keep K54) c74) hZ w56 w43 (by decide) (by decide)) q72a q72c (g := (mkF m 178 #[.val (.int ki_), .val (.int si_), .val (.int fr_), .val (.int bk_), .val (.long mo_), .second, .val (.int (2 : Int32)), .val (.ref s_BYTES), .val (.int (1 : Int32)), .val (.ref b2), .val (.ref x_47), .val (.int ((own_ushr si_ (8 : Int32)) &&& (63 : Int32))), .val (.ref b50), .val (.ref b52), .val (.ref b50), .val (.long ((own_ushr si_ (8 : Int32)) &&& (63 : Int32)).toInt64), .second, .unset, .unset] [(.ref b50), (.ref b52)])) rfl (by rw [hml]; rfl) (Steps.refl _) (argsL := [(.ref b50)]) (rest := []) (lenOf own_pd18 rfl) rfl (by show 2 * 0 + _ ≤ _; exact Nat.le_of_eq rfl) (hb hby at_178) (fun _ _ => ⟨rfl, rfl, (by decide : 5 + 0 ≤ _), (by decide : 74 + 0 ≤ _)⟩)
        dsimp only [Pt.U, Pt.locs, Pt.cells, Pt.slots] at X72 l72 y72 z72 st72 hQ72
        subst l72 y72 z72
        obtain ⟨rfl, Nq72, e72⟩ := hQ72
        have N72 := Fr.app N54 Nq72
        refine otr (S' := T72.setTop (mkF m 181 #[.val (.int ki_), .val (.int si_), .val (.int fr_), .val (.int bk_), .val (.long mo_), .second, .val (.int (2 : Int32)), .val (.ref s_BYTES), .val (.int (1 : Int32)), .val (.ref b2), .val (.ref x_47), .val (.int ((own_ushr si_ (8 : Int32)) &&& (63 : Int32))), .val (.ref b50), .val (.ref b52), .val (.ref b50), .val (.long ((own_ushr si_ (8 : Int32)) &&& (63 : Int32)).toInt64), .second, .unset, .unset] [(.long ((own_ushr si_ (8 : Int32)) &&& (63 : Int32)).toInt64)])) st72 ?_
        refine o_lstore X72 hx (l' := #[.val (.int ki_), .val (.int si_), .val (.int fr_), .val (.int bk_), .val (.long mo_), .second, .val (.int (2 : Int32)), .val (.ref s_BYTES), .val (.int (1 : Int32)), .val (.ref b2), .val (.ref x_47), .val (.int ((own_ushr si_ (8 : Int32)) &&& (63 : Int32))), .val (.ref b50), .val (.ref b52), .val (.ref b50), .val (.long ((own_ushr si_ (8 : Int32)) &&& (63 : Int32)).toInt64), .second, .val (.long ((own_ushr si_ (8 : Int32)) &&& (63 : Int32)).toInt64), .second]) (hb hby at_181) rfl ?_
        refine o_lload X72 hx (hb hby at_183) rfl ?_
        refine o_lload X72 hx (hb hby at_185) rfl ?_
        refine o_lcmp X72 hx (hb hby at_187) ?_
        refine o_ifNo X72 hx (hb hby at_188) (teq ((lw_eq _ _).mpr (rfl : ((own_ushr si_ (8 : Int32)) &&& (63 : Int32)).toInt64 = ((own_ushr si_ (8 : Int32)) &&& (63 : Int32)).toInt64))).2 ?_
        refine o_aload X72 hx (hb hby at_191) rfl rfl ?_
        obtain ⟨cq75, kq75, q75a, q75b, q75c⟩ := isOf hZ e72 p54_0
        obtain ⟨_, _, ⟨T75, L75, kc75, n75⟩, -, X75, ⟨Lc75, hQ75, l75, y75, z75⟩, st75⟩ := X72.virtualBack hx (y := yM13) (z := yM13) hown (mvT hZ w72) (mvT hZ w73) (notFace_of_selects (args := #[]) (mvT hZ w75)) (mvT hZ w75) (mvT hZ w74) (by decide) (backOf (W := 0) (rm_unit l Z a0 hw []  b52 s_BYTES T54.heap n0 c73 p54_1) hZ w76 w43 (by decide) (by decide)) q75a q75c (g := (mkF m 193 #[.val (.int ki_), .val (.int si_), .val (.int fr_), .val (.int bk_), .val (.long mo_), .second, .val (.int (2 : Int32)), .val (.ref s_BYTES), .val (.int (1 : Int32)), .val (.ref b2), .val (.ref x_47), .val (.int ((own_ushr si_ (8 : Int32)) &&& (63 : Int32))), .val (.ref b50), .val (.ref b52), .val (.ref b50), .val (.long ((own_ushr si_ (8 : Int32)) &&& (63 : Int32)).toInt64), .second, .val (.long ((own_ushr si_ (8 : Int32)) &&& (63 : Int32)).toInt64), .second] [(.ref b52)])) rfl (by rw [hml]; rfl) (Steps.refl _) (argsL := []) (rest := []) (lenOf own_pd19 rfl) rfl (by show 2 * 0 + _ ≤ _; exact Nat.le_of_eq rfl) (hb hby at_193) (fun _ _ => ⟨rfl, e72, (by decide : 5 + 0 ≤ _), (by decide : 74 + 0 ≤ _)⟩)
        dsimp only [Pt.U, Pt.locs, Pt.cells, Pt.slots] at X75 l75 y75 z75 st75 hQ75
        subst l75 y75 z75
        obtain ⟨rfl, Nq75, e75⟩ := hQ75
        have N75 := Fr.app N72 Nq75
        refine otr (S' := T75.setTop (mkF m 196 #[.val (.int ki_), .val (.int si_), .val (.int fr_), .val (.int bk_), .val (.long mo_), .second, .val (.int (2 : Int32)), .val (.ref s_BYTES), .val (.int (1 : Int32)), .val (.ref b2), .val (.ref x_47), .val (.int ((own_ushr si_ (8 : Int32)) &&& (63 : Int32))), .val (.ref b50), .val (.ref b52), .val (.ref b50), .val (.long ((own_ushr si_ (8 : Int32)) &&& (63 : Int32)).toInt64), .second, .val (.long ((own_ushr si_ (8 : Int32)) &&& (63 : Int32)).toInt64), .second] [(.ref s_BYTES)])) st75 ?_
        refine o_aload X75 hx (hb hby at_196) rfl rfl ?_
        refine o_acmp X75 hx 201 true rfl rfl (hb hby at_198) (decide_eq_true rfl) (by decide) (by decide) ?_
        refine o_aload X75 hx (hb hby at_201) rfl rfl ?_
        obtain ⟨cq76, kq76, q76a, q76b, q76c⟩ := isOf hZ e75 p54_0
        obtain ⟨_, _, ⟨T76, L76, kc76, n76⟩, -, X76, ⟨Lc76, hQ76, l76, y76, z76⟩, st76⟩ := X75.virtualBack hx (y := yM14) (z := yM14) hown (mvT hZ w77) (mvT hZ w78) (notFace_of_selects (args := #[]) (mvT hZ w80)) (mvT hZ w80) (mvT hZ w79) (by decide) (backOf (W := 0) (rm_most l Z a0 hw []  b52 mo_ T54.heap n0 c73 p54_2) hZ w81 w43 (by decide) (by decide)) q76a q76c (g := (mkF m 203 #[.val (.int ki_), .val (.int si_), .val (.int fr_), .val (.int bk_), .val (.long mo_), .second, .val (.int (2 : Int32)), .val (.ref s_BYTES), .val (.int (1 : Int32)), .val (.ref b2), .val (.ref x_47), .val (.int ((own_ushr si_ (8 : Int32)) &&& (63 : Int32))), .val (.ref b50), .val (.ref b52), .val (.ref b50), .val (.long ((own_ushr si_ (8 : Int32)) &&& (63 : Int32)).toInt64), .second, .val (.long ((own_ushr si_ (8 : Int32)) &&& (63 : Int32)).toInt64), .second] [(.ref b52)])) rfl (by rw [hml]; rfl) (Steps.refl _) (argsL := []) (rest := []) (lenOf own_pd20 rfl) rfl (by show 2 * 0 + _ ≤ _; exact Nat.le_of_eq rfl) (hb hby at_203) (fun _ _ => ⟨rfl, e75, (by decide : 5 + 0 ≤ _), (by decide : 74 + 0 ≤ _)⟩)
        dsimp only [Pt.U, Pt.locs, Pt.cells, Pt.slots] at X76 l76 y76 z76 st76 hQ76
        subst l76 y76 z76
        obtain ⟨rfl, Nq76, e76⟩ := hQ76
        have N76 := Fr.app N75 Nq76
        refine otr (S' := T76.setTop (mkF m 206 #[.val (.int ki_), .val (.int si_), .val (.int fr_), .val (.int bk_), .val (.long mo_), .second, .val (.int (2 : Int32)), .val (.ref s_BYTES), .val (.int (1 : Int32)), .val (.ref b2), .val (.ref x_47), .val (.int ((own_ushr si_ (8 : Int32)) &&& (63 : Int32))), .val (.ref b50), .val (.ref b52), .val (.ref b50), .val (.long ((own_ushr si_ (8 : Int32)) &&& (63 : Int32)).toInt64), .second, .val (.long ((own_ushr si_ (8 : Int32)) &&& (63 : Int32)).toInt64), .second] [(.long mo_)])) st76 ?_
        refine o_lload X76 hx (hb hby at_206) rfl ?_
        refine o_lcmp X76 hx (hb hby at_208) ?_
        refine o_ifNo X76 hx (hb hby at_209) (teq ((lw_eq _ _).mpr (rfl : mo_ = mo_))).2 ?_
        refine o_iconst X76 hx (1 : Int32) (hb hby at_212) rfl ?_
        refine o_goto X76 hx 217 (hb hby at_213) (by decide) (by decide) ?_
        refine oendS X76 hlk hS0 (Nat.le_trans (Nat.zero_le _) (Nat.le_trans (Nat.le_trans (Nat.le_trans (Nat.le_trans (Nat.le_trans (Nat.le_trans (Nat.le_trans (Nat.le_trans E2.1 (Keep.of_wr W5).1) (Keep.of_wr W8).1) (Keep.of_wr W11).1) (Keep.of_wr W14).1) K47.1) E50.1) E52.1) K54.1)) e76 hZ hEL hs0 (CHr.trans (CHr.trans (CHr.trans (CHr.trans (CHr.trans (CHr.trans (CHr.trans (CHr.trans (CHr.trans (CHr.refl H0) (CHr.ext E2 H0)) (CHr.wr W5 (Safe.exa hZ.alike Ex2 (by decide) (by decide)) H3)) (CHr.wr W8 (Safe.exa hZ.alike (Exa.wr W5 Ex2) (by decide) (by decide)) H6)) (CHr.wr W11 (Safe.exa hZ.alike (Exa.wr W8 (Exa.wr W5 Ex2)) (by decide) (by decide)) H9)) (CHr.wr W14 (Safe.exa hZ.alike (Exa.wr W11 (Exa.wr W8 (Exa.wr W5 Ex2))) (by decide) (by decide)) H12)) (CHr.keep K47 all0 H15)) (CHr.ext E50 H49)) (CHr.ext E52 H51)) (CHr.keep K54 (allS (Safe.exa hZ.alike A52 (by decide) (by decide)) all0) H53)) (v := some (.int (1 : Int32))) (fun h => by rw [hret] at h; cases h) (fun fs hr => retN X76 hx (t := .boolean) hret (by simp) (hb hby at_217) hr) (by decide) (by decide) ?_
        show own_Q_law Z _ _ _ _ _ _ _ _ _ _ h0 n0 _ T76.heap _
        rw [e76]
        exact ⟨rfl, N76, ((((((((((Keep.refl h0 []).ext E2).wr W5 (Or.inr (Nat.le_trans (Nat.le_refl _) (Nat.le_of_eq g2.symm)))).wr W8 (Or.inr (Nat.le_trans (Nat.le_refl _) (Nat.le_of_eq g2.symm)))).wr W11 (Or.inr (Nat.le_trans (Nat.le_refl _) (Nat.le_of_eq g2.symm)))).wr W14 (Or.inr (Nat.le_trans (Nat.le_refl _) (Nat.le_of_eq g2.symm)))).trans K47 all0).ext E50).ext E52).trans K54 (allS (Or.inr (Nat.le_trans (Nat.le_trans (Nat.le_trans (Nat.le_trans (Nat.le_trans (Nat.le_trans (Nat.le_trans E2.1 (Keep.of_wr W5).1) (Keep.of_wr W8).1) (Keep.of_wr W11).1) (Keep.of_wr W14).1) K47.1) E50.1) (Nat.le_of_eq g52.symm))) all0))⟩
    · rw [hs16]
      refine o_aload X14 hx (hb hby at_87) rfl rfl ?_
      refine o_iload X14 hx (hb hby at_89) rfl ?_
      have c78 := (((((O0.ext E2).wr W5 n0_b2).wr W8 n0_b2).wr W11 n0_b2).wr W14 n0_b2)
      obtain ⟨_, _, ⟨T77, L77, kc77, n77⟩, -, X77, ⟨Lc77, hQ77, l77, y77, z77⟩, st77⟩ := Jvm.LawKit.callS X14 hx (y := yM10) hown (mvT hZ w9) (mvT hZ w10) (mvT hZ w7) (mvT hZ w11) (by decide) (backOf (W := 0) (rm_text_2 l Z a0 hw [] s_CHARACTERS s_BYTES s_CHARACTERS_BUT_TRAILING_SPACES z_CS v_FMT b2 k2 u0 u1 u2 u3 T14.heap n0 SB c78 V14 (own_sm255 hv0) (own_sm255 hv1) (own_sm255 hv2) (own_sm255 hv3) (own_narsm (own_sm0 hv0) (own_sm255 hv0)) (own_narsm (own_sm0 hv1) (own_sm255 hv1)) (own_narsm (own_sm0 hv2) (own_sm255 hv2)) (own_narsm (own_sm0 hv3) (own_sm255 hv3))) hZ w11 w7 (by decide) (by decide)) (g := (mkF m 91 #[.val (.int ki_), .val (.int si_), .val (.int fr_), .val (.int bk_), .val (.long mo_), .second, .val (.int kk), .val (.ref uu), .val (.int (2 : Int32)), .val (.ref b2), .unset, .unset, .unset, .unset, .unset, .unset, .unset, .unset, .unset] [(.int (2 : Int32)), (.ref b2)])) rfl (by rw [hml]; rfl) (argsL := [(.ref b2), (.int (2 : Int32))]) (rest := []) (lenOf own_pd16 rfl) rfl (by show 2 * 0 + _ ≤ _; exact Nat.le_of_eq rfl) (hb hby at_91) (fun _ _ => ⟨rfl, rfl, (by decide : 1 + 3 ≤ _), (by decide : 4 + 8 ≤ _)⟩)
      dsimp only [Pt.U, Pt.locs, Pt.cells, Pt.slots] at X77 l77 y77 z77 st77 hQ77
      subst l77 y77 z77
      obtain ⟨x_77, ba_77, kb_77, rfl, Nq77, K77, p77_0, p77_1, p77_2, p77_3, p77_4, p77_5⟩ := hQ77
      have N77 := Fr.app N14 Nq77
      have H79 := CHv.keep K77 all0 H15
      have n0_x_77 : n0 ≤ x_77 := Nat.le_trans (Nat.le_trans (Nat.le_of_eq O0.1.symm) O0.2.1) (Nat.le_trans (Nat.le_trans (Nat.le_trans (Nat.le_trans (Nat.le_trans E2.1 (Keep.of_wr W5).1) (Keep.of_wr W8).1) (Keep.of_wr W11).1) (Keep.of_wr W14).1) p77_0)
      refine ogo (S' := T77.setTop (mkF m 94 #[.val (.int ki_), .val (.int si_), .val (.int fr_), .val (.int bk_), .val (.long mo_), .second, .val (.int kk), .val (.ref uu), .val (.int (2 : Int32)), .val (.ref b2), .unset, .unset, .unset, .unset, .unset, .unset, .unset, .unset, .unset] [(.ref x_77)])) st77 ?_
      refine o_astore X77 hx (l' := #[.val (.int ki_), .val (.int si_), .val (.int fr_), .val (.int bk_), .val (.long mo_), .second, .val (.int kk), .val (.ref uu), .val (.int (2 : Int32)), .val (.ref b2), .val (.ref x_77), .unset, .unset, .unset, .unset, .unset, .unset, .unset, .unset]) (hb hby at_94) rfl rfl ?_
      refine o_iloadN X77 hx (hb hby at_96) rfl ?_
      refine o_bipush X77 hx (8 : Int32) (hb hby at_97) rfl ?_
      refine o_iushr X77 hx (hb hby at_99) ?_
      refine o_bipush X77 hx (63 : Int32) (hb hby at_100) rfl ?_
      refine o_iand X77 hx (hb hby at_102) ?_
      refine o_istore X77 hx (l' := #[.val (.int ki_), .val (.int si_), .val (.int fr_), .val (.int bk_), .val (.long mo_), .second, .val (.int kk), .val (.ref uu), .val (.int (2 : Int32)), .val (.ref b2), .val (.ref x_77), .val (.int ((own_ushr si_ (8 : Int32)) &&& (63 : Int32))), .unset, .unset, .unset, .unset, .unset, .unset, .unset]) (hb hby at_103) rfl ?_
      refine o_iload X77 hx (hb hby at_105) rfl ?_
      obtain ⟨T80, _, k80, X80, rfl, E80, A80, Ex80, st80⟩ := newPE (aty := .byte) X77 hx hZ w30 rfl (g := (mkF m 107 #[.val (.int ki_), .val (.int si_), .val (.int fr_), .val (.int bk_), .val (.long mo_), .second, .val (.int kk), .val (.ref uu), .val (.int (2 : Int32)), .val (.ref b2), .val (.ref x_77), .val (.int ((own_ushr si_ (8 : Int32)) &&& (63 : Int32))), .unset, .unset, .unset, .unset, .unset, .unset, .unset] [(.int ((own_ushr si_ (8 : Int32)) &&& (63 : Int32)))])) rfl (hb hby at_107) rfl (own_b63n _) (cap := 63) (own_b63l _) (by decide) (by decide) (by decide) (ad := "[B") rfl
      obtain ⟨b80, g80⟩ : ∃ z, z = T77.heap.size := ⟨_, rfl⟩
      rw [← g80] at A80 Ex80 st80
      have n0_b80 : n0 ≤ b80 := Nat.le_trans (Nat.le_trans (Nat.le_of_eq O0.1.symm) O0.2.1) (Nat.le_trans (Nat.le_trans (Nat.le_trans (Nat.le_trans (Nat.le_trans (Nat.le_trans E2.1 (Keep.of_wr W5).1) (Keep.of_wr W8).1) (Keep.of_wr W11).1) (Keep.of_wr W14).1) K77.1) (Nat.le_of_eq g80.symm))
      have H81 := CHv.ext E80 H79
      have V80 : Arv Z T80.heap b80 k80 .byte ((own_ushr si_ (8 : Int32)) &&& (63 : Int32)) [] (.int 0) := Arv.new A80 (own_b63n _)
      refine ogo (S' := T80.setTop (mkF m 109 #[.val (.int ki_), .val (.int si_), .val (.int fr_), .val (.int bk_), .val (.long mo_), .second, .val (.int kk), .val (.ref uu), .val (.int (2 : Int32)), .val (.ref b2), .val (.ref x_77), .val (.int ((own_ushr si_ (8 : Int32)) &&& (63 : Int32))), .unset, .unset, .unset, .unset, .unset, .unset, .unset] [(.ref b80)])) st80 ?_
      refine o_astore X80 hx (l' := #[.val (.int ki_), .val (.int si_), .val (.int fr_), .val (.int bk_), .val (.long mo_), .second, .val (.int kk), .val (.ref uu), .val (.int (2 : Int32)), .val (.ref b2), .val (.ref x_77), .val (.int ((own_ushr si_ (8 : Int32)) &&& (63 : Int32))), .val (.ref b80), .unset, .unset, .unset, .unset, .unset, .unset]) (hb hby at_109) rfl rfl ?_
      obtain ⟨T82, _, X82, rfl, E82, A82, D82, -, st82⟩ := newO X80 hx hZ hown w41 w42 w43 rfl (g := (mkF m 111 #[.val (.int ki_), .val (.int si_), .val (.int fr_), .val (.int bk_), .val (.long mo_), .second, .val (.int kk), .val (.ref uu), .val (.int (2 : Int32)), .val (.ref b2), .val (.ref x_77), .val (.int ((own_ushr si_ (8 : Int32)) &&& (63 : Int32))), .val (.ref b80), .unset, .unset, .unset, .unset, .unset, .unset] [])) rfl (hb hby at_111) (by decide) (by decide)
      obtain ⟨b82, g82⟩ : ∃ z, z = T80.heap.size := ⟨_, rfl⟩
      rw [← g82] at A82 D82 st82
      have n0_b82 : n0 ≤ b82 := Nat.le_trans (Nat.le_trans (Nat.le_of_eq O0.1.symm) O0.2.1) (Nat.le_trans (Nat.le_trans (Nat.le_trans (Nat.le_trans (Nat.le_trans (Nat.le_trans (Nat.le_trans E2.1 (Keep.of_wr W5).1) (Keep.of_wr W8).1) (Keep.of_wr W11).1) (Keep.of_wr W14).1) K77.1) E80.1) (Nat.le_of_eq g82.symm))
      have H83 := CHv.ext E82 H81
      have F82_unit : Fld Z T82.heap b82 "com/example/upshot/upshot/ColumnCatalog$Length" "unit" "Lcom/example/upshot/upshot/ColumnCatalog$Length$Unit;" .null := D82 (Or.inr w49) (ty := (.object "com/example/upshot/upshot/ColumnCatalog$Length$Unit")) (by decide)
      have F82_most : Fld Z T82.heap b82 "com/example/upshot/upshot/ColumnCatalog$Length" "most" "J" (.long (0 : Int64)) := D82 (Or.inr w51) (ty := .long) (by decide)
      refine ogo (S' := T82.setTop (mkF m 114 #[.val (.int ki_), .val (.int si_), .val (.int fr_), .val (.int bk_), .val (.long mo_), .second, .val (.int kk), .val (.ref uu), .val (.int (2 : Int32)), .val (.ref b2), .val (.ref x_77), .val (.int ((own_ushr si_ (8 : Int32)) &&& (63 : Int32))), .val (.ref b80), .unset, .unset, .unset, .unset, .unset, .unset] [(.ref b82)])) st82 ?_
      refine o_dup X82 hx (hb hby at_114) rfl ?_
      refine o_aload X82 hx (hb hby at_115) rfl rfl ?_
      refine o_lload X82 hx (hb hby at_117) rfl ?_
      obtain ⟨_, _, ⟨T84, L84, kc84, n84⟩, -, X84, ⟨Lc84, hQ84, l84, y84, z84⟩, st84⟩ := X82.specialBack hx (y := yM12) rfl hown (mvT hZ w44) (mvT hZ w45) (mvT hZ w46) (by decide) (backOf (W := 1) (rm_linit l Z a0 hw []  b82 uu mo_ T82.heap n0 (((c78.keep K77 all0).ext E80).ext E82) A82 F82_unit F82_most n0_b82) hZ w46 w43 (by decide) (by decide)) (g := (mkF m 119 #[.val (.int ki_), .val (.int si_), .val (.int fr_), .val (.int bk_), .val (.long mo_), .second, .val (.int kk), .val (.ref uu), .val (.int (2 : Int32)), .val (.ref b2), .val (.ref x_77), .val (.int ((own_ushr si_ (8 : Int32)) &&& (63 : Int32))), .val (.ref b80), .unset, .unset, .unset, .unset, .unset, .unset] [(.long mo_), (.ref uu), (.ref b82), (.ref b82)])) rfl (by rw [hml]; rfl) (Steps.refl _) (a := b82) (argsL := [(.ref uu), (.long mo_)]) (rest := [(.ref b82)]) (lenOf own_pd17 rfl) rfl (by show 2 * 0 + _ ≤ _; exact Nat.le_of_eq rfl) (hb hby at_119) (fun _ _ => ⟨rfl, rfl, (by decide : 6 + 0 ≤ _), (by decide : 77 + 0 ≤ _)⟩)
      dsimp only [Pt.U, Pt.locs, Pt.cells, Pt.slots] at X84 l84 y84 z84 st84 hQ84
      subst l84 y84 z84
      obtain ⟨rfl, Nq84, K84, p84_0, p84_1, p84_2⟩ := hQ84
      have N84 := Fr.app N77 Nq84
      have H85 := CHv.keep K84 (allS (Safe.exa hZ.alike A82 (by decide) (by decide)) all0) H83
      refine otr (S' := T84.setTop (mkF m 122 #[.val (.int ki_), .val (.int si_), .val (.int fr_), .val (.int bk_), .val (.long mo_), .second, .val (.int kk), .val (.ref uu), .val (.int (2 : Int32)), .val (.ref b2), .val (.ref x_77), .val (.int ((own_ushr si_ (8 : Int32)) &&& (63 : Int32))), .val (.ref b80), .unset, .unset, .unset, .unset, .unset, .unset] [(.ref b82)])) st84 ?_
      refine o_astore X84 hx (l' := #[.val (.int ki_), .val (.int si_), .val (.int fr_), .val (.int bk_), .val (.long mo_), .second, .val (.int kk), .val (.ref uu), .val (.int (2 : Int32)), .val (.ref b2), .val (.ref x_77), .val (.int ((own_ushr si_ (8 : Int32)) &&& (63 : Int32))), .val (.ref b80), .val (.ref b82), .unset, .unset, .unset, .unset, .unset]) (hb hby at_122) rfl rfl ?_
      rcases hku with ⟨rfl, rfl⟩ | ⟨rfl, rfl⟩ | ⟨rfl, rfl⟩
      · refine o_iload X84 hx (hb hby at_124) rfl ?_
        refine o_iconst X84 hx (2 : Int32) (hb hby at_126) rfl ?_
        refine o_icmpYes X84 hx 142 (hb hby at_127) (feq (by decide : ¬ ((0 : Int32) = (2 : Int32)))).2 (by decide) (by decide) ?_
        refine o_iload X84 hx (hb hby at_142) rfl ?_
        refine o_iconst X84 hx (1 : Int32) (hb hby at_144) rfl ?_
        refine o_icmpYes X84 hx 165 (hb hby at_145) (feq (by decide : ¬ ((0 : Int32) = (1 : Int32)))).2 (by decide) (by decide) ?_
        refine o_aload X84 hx (hb hby at_165) rfl rfl ?_
        refine o_astore X84 hx (l' := #[.val (.int ki_), .val (.int si_), .val (.int fr_), .val (.int bk_), .val (.long mo_), .second, .val (.int (0 : Int32)), .val (.ref s_CHARACTERS), .val (.int (2 : Int32)), .val (.ref b2), .val (.ref x_77), .val (.int ((own_ushr si_ (8 : Int32)) &&& (63 : Int32))), .val (.ref b80), .val (.ref b82), .val (.ref x_77), .unset, .unset, .unset, .unset]) (hb hby at_167) rfl rfl ?_
        refine o_iload X84 hx (hb hby at_169) rfl ?_
        refine o_i2l X84 hx (hb hby at_171) ?_
        refine o_lstore X84 hx (l' := #[.val (.int ki_), .val (.int si_), .val (.int fr_), .val (.int bk_), .val (.long mo_), .second, .val (.int (0 : Int32)), .val (.ref s_CHARACTERS), .val (.int (2 : Int32)), .val (.ref b2), .val (.ref x_77), .val (.int ((own_ushr si_ (8 : Int32)) &&& (63 : Int32))), .val (.ref b80), .val (.ref b82), .val (.ref x_77), .val (.long (2 : Int64)), .second, .unset, .unset]) (hb hby at_172) rfl ?_
        refine o_aload X84 hx (hb hby at_174) rfl rfl ?_
        refine o_aload X84 hx (hb hby at_176) rfl rfl ?_
        have c87 := ((((c78.keep K77 all0).ext E80).ext E82).keep K84 (allS n0_b82 all0))
        have c88 := ((Fld.ext E82 (Fld.ext E80 p77_3)).keep K84 (ninS (Nat.ne_of_lt (Nat.lt_of_lt_of_le (Nat.lt_of_lt_of_le p77_2.lt E80.1) (Nat.le_of_eq g82.symm))) nin0))
        have c89 := ((Fld.ext E82 (Fld.ext E80 p77_4)).keep K84 (ninS (Nat.ne_of_lt (Nat.lt_of_lt_of_le (Nat.lt_of_lt_of_le p77_2.lt E80.1) (Nat.le_of_eq g82.symm))) nin0))
        have c90 := (((p77_5.ext E80).ext E82).keep K84 (ninS (Nat.ne_of_lt (Nat.lt_of_lt_of_le (Nat.lt_of_lt_of_le p77_1 E80.1) (Nat.le_of_eq g82.symm))) nin0))
        obtain ⟨cq86, kq86, q86a, q86b, q86c⟩ := isOf hZ rfl p84_0
        obtain ⟨_, _, ⟨T86, L86, kc86, n86⟩, -, X86, ⟨Lc86, hQ86, l86, y86, z86⟩, st86⟩ := X84.virtualBack hx (y := yM15) (z := yM15) hown (mvT hZ w52) (mvT hZ w53) (notFace_of_selects (args := #[]) (mvT hZ w55)) (mvT hZ w55) (mvT hZ w54) (by decide) (backOf (W := 0) (rm_of_chars_2 l Z a0 hw [] s_CHARACTERS s_BYTES s_CHARACTERS_BUT_TRAILING_SPACES z_CS v_FMT b82 x_77 ba_77 kb_77 [(.int u0.toInt8.toInt32), (.int u1.toInt8.toInt32)] T84.heap n0 SB c87 p84_1 ((Exa.ext E82 (Exa.ext E80 p77_2)).keep K84) c88 c89 c90) hZ w56 w43 (by decide) (by decide)) q86a q86c (g := (mkF m 178 #[.val (.int ki_), .val (.int si_), .val (.int fr_), .val (.int bk_), .val (.long mo_), .second, .val (.int (0 : Int32)), .val (.ref s_CHARACTERS), .val (.int (2 : Int32)), .val (.ref b2), .val (.ref x_77), .val (.int ((own_ushr si_ (8 : Int32)) &&& (63 : Int32))), .val (.ref b80), .val (.ref b82), .val (.ref x_77), .val (.long (2 : Int64)), .second, .unset, .unset] [(.ref x_77), (.ref b82)])) rfl (by rw [hml]; rfl) (Steps.refl _) (argsL := [(.ref x_77)]) (rest := []) (lenOf own_pd18 rfl) rfl (by show 2 * 0 + _ ≤ _; exact Nat.le_of_eq rfl) (hb hby at_178) (fun _ _ => ⟨rfl, rfl, (by decide : 6 + 0 ≤ _), (by decide : 77 + 0 ≤ _)⟩)
        dsimp only [Pt.U, Pt.locs, Pt.cells, Pt.slots] at X86 l86 y86 z86 st86 hQ86
        subst l86 y86 z86
        obtain ⟨rfl, Nq86, e86⟩ := hQ86
        have N86 := Fr.app N84 Nq86
        refine otr (S' := T86.setTop (mkF m 181 #[.val (.int ki_), .val (.int si_), .val (.int fr_), .val (.int bk_), .val (.long mo_), .second, .val (.int (0 : Int32)), .val (.ref s_CHARACTERS), .val (.int (2 : Int32)), .val (.ref b2), .val (.ref x_77), .val (.int ((own_ushr si_ (8 : Int32)) &&& (63 : Int32))), .val (.ref b80), .val (.ref b82), .val (.ref x_77), .val (.long (2 : Int64)), .second, .unset, .unset] [(.long (2 : Int64))])) st86 ?_
        refine o_lstore X86 hx (l' := #[.val (.int ki_), .val (.int si_), .val (.int fr_), .val (.int bk_), .val (.long mo_), .second, .val (.int (0 : Int32)), .val (.ref s_CHARACTERS), .val (.int (2 : Int32)), .val (.ref b2), .val (.ref x_77), .val (.int ((own_ushr si_ (8 : Int32)) &&& (63 : Int32))), .val (.ref b80), .val (.ref b82), .val (.ref x_77), .val (.long (2 : Int64)), .second, .val (.long (2 : Int64)), .second]) (hb hby at_181) rfl ?_
        refine o_lload X86 hx (hb hby at_183) rfl ?_
        refine o_lload X86 hx (hb hby at_185) rfl ?_
        refine o_lcmp X86 hx (hb hby at_187) ?_
        refine o_ifNo X86 hx (hb hby at_188) (teq ((lw_eq _ _).mpr (by decide : (2 : Int64) = (2 : Int64)))).2 ?_
        refine o_aload X86 hx (hb hby at_191) rfl rfl ?_
        obtain ⟨cq91, kq91, q91a, q91b, q91c⟩ := isOf hZ e86 p84_0
        obtain ⟨_, _, ⟨T91, L91, kc91, n91⟩, -, X91, ⟨Lc91, hQ91, l91, y91, z91⟩, st91⟩ := X86.virtualBack hx (y := yM13) (z := yM13) hown (mvT hZ w72) (mvT hZ w73) (notFace_of_selects (args := #[]) (mvT hZ w75)) (mvT hZ w75) (mvT hZ w74) (by decide) (backOf (W := 0) (rm_unit l Z a0 hw []  b82 s_CHARACTERS T84.heap n0 c87 p84_1) hZ w76 w43 (by decide) (by decide)) q91a q91c (g := (mkF m 193 #[.val (.int ki_), .val (.int si_), .val (.int fr_), .val (.int bk_), .val (.long mo_), .second, .val (.int (0 : Int32)), .val (.ref s_CHARACTERS), .val (.int (2 : Int32)), .val (.ref b2), .val (.ref x_77), .val (.int ((own_ushr si_ (8 : Int32)) &&& (63 : Int32))), .val (.ref b80), .val (.ref b82), .val (.ref x_77), .val (.long (2 : Int64)), .second, .val (.long (2 : Int64)), .second] [(.ref b82)])) rfl (by rw [hml]; rfl) (Steps.refl _) (argsL := []) (rest := []) (lenOf own_pd19 rfl) rfl (by show 2 * 0 + _ ≤ _; exact Nat.le_of_eq rfl) (hb hby at_193) (fun _ _ => ⟨rfl, e86, (by decide : 6 + 0 ≤ _), (by decide : 77 + 0 ≤ _)⟩)
        dsimp only [Pt.U, Pt.locs, Pt.cells, Pt.slots] at X91 l91 y91 z91 st91 hQ91
        subst l91 y91 z91
        obtain ⟨rfl, Nq91, e91⟩ := hQ91
        have N91 := Fr.app N86 Nq91
        refine otr (S' := T91.setTop (mkF m 196 #[.val (.int ki_), .val (.int si_), .val (.int fr_), .val (.int bk_), .val (.long mo_), .second, .val (.int (0 : Int32)), .val (.ref s_CHARACTERS), .val (.int (2 : Int32)), .val (.ref b2), .val (.ref x_77), .val (.int ((own_ushr si_ (8 : Int32)) &&& (63 : Int32))), .val (.ref b80), .val (.ref b82), .val (.ref x_77), .val (.long (2 : Int64)), .second, .val (.long (2 : Int64)), .second] [(.ref s_CHARACTERS)])) st91 ?_
        refine o_aload X91 hx (hb hby at_196) rfl rfl ?_
        refine o_acmp X91 hx 201 true rfl rfl (hb hby at_198) (decide_eq_true rfl) (by decide) (by decide) ?_
        refine o_aload X91 hx (hb hby at_201) rfl rfl ?_
        obtain ⟨cq92, kq92, q92a, q92b, q92c⟩ := isOf hZ e91 p84_0
        obtain ⟨_, _, ⟨T92, L92, kc92, n92⟩, -, X92, ⟨Lc92, hQ92, l92, y92, z92⟩, st92⟩ := X91.virtualBack hx (y := yM14) (z := yM14) hown (mvT hZ w77) (mvT hZ w78) (notFace_of_selects (args := #[]) (mvT hZ w80)) (mvT hZ w80) (mvT hZ w79) (by decide) (backOf (W := 0) (rm_most l Z a0 hw []  b82 mo_ T84.heap n0 c87 p84_2) hZ w81 w43 (by decide) (by decide)) q92a q92c (g := (mkF m 203 #[.val (.int ki_), .val (.int si_), .val (.int fr_), .val (.int bk_), .val (.long mo_), .second, .val (.int (0 : Int32)), .val (.ref s_CHARACTERS), .val (.int (2 : Int32)), .val (.ref b2), .val (.ref x_77), .val (.int ((own_ushr si_ (8 : Int32)) &&& (63 : Int32))), .val (.ref b80), .val (.ref b82), .val (.ref x_77), .val (.long (2 : Int64)), .second, .val (.long (2 : Int64)), .second] [(.ref b82)])) rfl (by rw [hml]; rfl) (Steps.refl _) (argsL := []) (rest := []) (lenOf own_pd20 rfl) rfl (by show 2 * 0 + _ ≤ _; exact Nat.le_of_eq rfl) (hb hby at_203) (fun _ _ => ⟨rfl, e91, (by decide : 6 + 0 ≤ _), (by decide : 77 + 0 ≤ _)⟩)
        dsimp only [Pt.U, Pt.locs, Pt.cells, Pt.slots] at X92 l92 y92 z92 st92 hQ92
        subst l92 y92 z92
        obtain ⟨rfl, Nq92, e92⟩ := hQ92
        have N92 := Fr.app N91 Nq92
        refine otr (S' := T92.setTop (mkF m 206 #[.val (.int ki_), .val (.int si_), .val (.int fr_), .val (.int bk_), .val (.long mo_), .second, .val (.int (0 : Int32)), .val (.ref s_CHARACTERS), .val (.int (2 : Int32)), .val (.ref b2), .val (.ref x_77), .val (.int ((own_ushr si_ (8 : Int32)) &&& (63 : Int32))), .val (.ref b80), .val (.ref b82), .val (.ref x_77), .val (.long (2 : Int64)), .second, .val (.long (2 : Int64)), .second] [(.long mo_)])) st92 ?_
        refine o_lload X92 hx (hb hby at_206) rfl ?_
        refine o_lcmp X92 hx (hb hby at_208) ?_
        refine o_ifNo X92 hx (hb hby at_209) (teq ((lw_eq _ _).mpr (rfl : mo_ = mo_))).2 ?_
        refine o_iconst X92 hx (1 : Int32) (hb hby at_212) rfl ?_
        refine o_goto X92 hx 217 (hb hby at_213) (by decide) (by decide) ?_
        refine oendS X92 hlk hS0 (Nat.le_trans (Nat.zero_le _) (Nat.le_trans (Nat.le_trans (Nat.le_trans (Nat.le_trans (Nat.le_trans (Nat.le_trans (Nat.le_trans (Nat.le_trans E2.1 (Keep.of_wr W5).1) (Keep.of_wr W8).1) (Keep.of_wr W11).1) (Keep.of_wr W14).1) K77.1) E80.1) E82.1) K84.1)) e92 hZ hEL hs0 (CHr.trans (CHr.trans (CHr.trans (CHr.trans (CHr.trans (CHr.trans (CHr.trans (CHr.trans (CHr.trans (CHr.refl H0) (CHr.ext E2 H0)) (CHr.wr W5 (Safe.exa hZ.alike Ex2 (by decide) (by decide)) H3)) (CHr.wr W8 (Safe.exa hZ.alike (Exa.wr W5 Ex2) (by decide) (by decide)) H6)) (CHr.wr W11 (Safe.exa hZ.alike (Exa.wr W8 (Exa.wr W5 Ex2)) (by decide) (by decide)) H9)) (CHr.wr W14 (Safe.exa hZ.alike (Exa.wr W11 (Exa.wr W8 (Exa.wr W5 Ex2))) (by decide) (by decide)) H12)) (CHr.keep K77 all0 H15)) (CHr.ext E80 H79)) (CHr.ext E82 H81)) (CHr.keep K84 (allS (Safe.exa hZ.alike A82 (by decide) (by decide)) all0) H83)) (v := some (.int (1 : Int32))) (fun h => by rw [hret] at h; cases h) (fun fs hr => retN X92 hx (t := .boolean) hret (by simp) (hb hby at_217) hr) (by decide) (by decide) ?_
        show own_Q_law Z _ _ _ _ _ _ _ _ _ _ h0 n0 _ T92.heap _
        rw [e92]
        exact ⟨rfl, N92, ((((((((((Keep.refl h0 []).ext E2).wr W5 (Or.inr (Nat.le_trans (Nat.le_refl _) (Nat.le_of_eq g2.symm)))).wr W8 (Or.inr (Nat.le_trans (Nat.le_refl _) (Nat.le_of_eq g2.symm)))).wr W11 (Or.inr (Nat.le_trans (Nat.le_refl _) (Nat.le_of_eq g2.symm)))).wr W14 (Or.inr (Nat.le_trans (Nat.le_refl _) (Nat.le_of_eq g2.symm)))).trans K77 all0).ext E80).ext E82).trans K84 (allS (Or.inr (Nat.le_trans (Nat.le_trans (Nat.le_trans (Nat.le_trans (Nat.le_trans (Nat.le_trans (Nat.le_trans E2.1 (Keep.of_wr W5).1) (Keep.of_wr W8).1) (Keep.of_wr W11).1) (Keep.of_wr W14).1) K77.1) E80.1) (Nat.le_of_eq g82.symm))) all0))⟩
      · refine o_iload X84 hx (hb hby at_124) rfl ?_
        refine o_iconst X84 hx (2 : Int32) (hb hby at_126) rfl ?_
        refine o_icmpYes X84 hx 142 (hb hby at_127) (feq (by decide : ¬ ((1 : Int32) = (2 : Int32)))).2 (by decide) (by decide) ?_
        refine o_iload X84 hx (hb hby at_142) rfl ?_
        refine o_iconst X84 hx (1 : Int32) (hb hby at_144) rfl ?_
        refine o_icmpNo X84 hx (hb hby at_145) (teq (by decide : (1 : Int32) = (1 : Int32))).2 ?_
        refine o_aload X84 hx (hb hby at_148) rfl rfl ?_
        refine o_astore X84 hx (l' := #[.val (.int ki_), .val (.int si_), .val (.int fr_), .val (.int bk_), .val (.long mo_), .second, .val (.int (1 : Int32)), .val (.ref s_CHARACTERS_BUT_TRAILING_SPACES), .val (.int (2 : Int32)), .val (.ref b2), .val (.ref x_77), .val (.int ((own_ushr si_ (8 : Int32)) &&& (63 : Int32))), .val (.ref b80), .val (.ref b82), .val (.ref x_77), .unset, .unset, .unset, .unset]) (hb hby at_150) rfl rfl ?_
        refine o_aload X84 hx (hb hby at_152) rfl rfl ?_
        refine o_iload X84 hx (hb hby at_154) rfl ?_
        have c94 := ((((c78.keep K77 all0).ext E80).ext E82).keep K84 (allS n0_b82 all0))
        have c95 := ((((V14.keep K77 nin0).ext E80).ext E82).keep K84 (ninS (Nat.ne_of_lt (Nat.lt_of_lt_of_le (Nat.lt_of_lt_of_le V2.lt (Nat.le_trans (Nat.le_trans (Nat.le_trans (Nat.le_trans (Nat.le_trans (Keep.of_wr W5).1 (Keep.of_wr W8).1) (Keep.of_wr W11).1) (Keep.of_wr W14).1) K77.1) E80.1)) (Nat.le_of_eq g82.symm))) nin0))
        obtain ⟨_, _, ⟨T93, L93, kc93, n93⟩, -, X93, ⟨Lc93, hQ93, l93, y93, z93⟩, st93⟩ := Jvm.LawKit.callS X84 hx (y := yM11) hown (mvT hZ w86) (mvT hZ w87) (mvT hZ w7) (mvT hZ w88) (by decide) (backOf (W := 0) (rm_trimmed_2 l Z a0 hw []  b2 k2 u0 u1 u2 u3 T84.heap n0 c94 c95) hZ w88 w7 (by decide) (by decide)) (g := (mkF m 156 #[.val (.int ki_), .val (.int si_), .val (.int fr_), .val (.int bk_), .val (.long mo_), .second, .val (.int (1 : Int32)), .val (.ref s_CHARACTERS_BUT_TRAILING_SPACES), .val (.int (2 : Int32)), .val (.ref b2), .val (.ref x_77), .val (.int ((own_ushr si_ (8 : Int32)) &&& (63 : Int32))), .val (.ref b80), .val (.ref b82), .val (.ref x_77), .unset, .unset, .unset, .unset] [(.int (2 : Int32)), (.ref b2)])) rfl (by rw [hml]; rfl) (argsL := [(.ref b2), (.int (2 : Int32))]) (rest := []) (lenOf own_pd21 rfl) rfl (by show 2 * 0 + _ ≤ _; exact Nat.le_of_eq rfl) (hb hby at_156) (fun _ _ => ⟨rfl, rfl, (by decide : 6 + 0 ≤ _), (by decide : 77 + 0 ≤ _)⟩)
        dsimp only [Pt.U, Pt.locs, Pt.cells, Pt.slots] at X93 l93 y93 z93 st93 hQ93
        subst l93 y93 z93
        obtain ⟨rfl, Nq93, e93⟩ := hQ93
        have N93 := Fr.app N84 Nq93
        refine ogo (S' := T93.setTop (mkF m 159 #[.val (.int ki_), .val (.int si_), .val (.int fr_), .val (.int bk_), .val (.long mo_), .second, .val (.int (1 : Int32)), .val (.ref s_CHARACTERS_BUT_TRAILING_SPACES), .val (.int (2 : Int32)), .val (.ref b2), .val (.ref x_77), .val (.int ((own_ushr si_ (8 : Int32)) &&& (63 : Int32))), .val (.ref b80), .val (.ref b82), .val (.ref x_77), .unset, .unset, .unset, .unset] [(.int (own_tr2 u0 u1))])) st93 ?_
        refine o_i2l X93 hx (hb hby at_159) ?_
        refine o_lstore X93 hx (l' := #[.val (.int ki_), .val (.int si_), .val (.int fr_), .val (.int bk_), .val (.long mo_), .second, .val (.int (1 : Int32)), .val (.ref s_CHARACTERS_BUT_TRAILING_SPACES), .val (.int (2 : Int32)), .val (.ref b2), .val (.ref x_77), .val (.int ((own_ushr si_ (8 : Int32)) &&& (63 : Int32))), .val (.ref b80), .val (.ref b82), .val (.ref x_77), .val (.long (own_tr2 u0 u1).toInt64), .second, .unset, .unset]) (hb hby at_160) rfl ?_
        refine o_goto X93 hx 174 (hb hby at_162) (by decide) (by decide) ?_
        refine o_aload X93 hx (hb hby at_174) rfl rfl ?_
        refine o_aload X93 hx (hb hby at_176) rfl rfl ?_
        have c97 := ((Fld.ext E82 (Fld.ext E80 p77_3)).keep K84 (ninS (Nat.ne_of_lt (Nat.lt_of_lt_of_le (Nat.lt_of_lt_of_le p77_2.lt E80.1) (Nat.le_of_eq g82.symm))) nin0))
        have c98 := ((Fld.ext E82 (Fld.ext E80 p77_4)).keep K84 (ninS (Nat.ne_of_lt (Nat.lt_of_lt_of_le (Nat.lt_of_lt_of_le p77_2.lt E80.1) (Nat.le_of_eq g82.symm))) nin0))
        have c99 := (((p77_5.ext E80).ext E82).keep K84 (ninS (Nat.ne_of_lt (Nat.lt_of_lt_of_le (Nat.lt_of_lt_of_le p77_1 E80.1) (Nat.le_of_eq g82.symm))) nin0))
        obtain ⟨cq96, kq96, q96a, q96b, q96c⟩ := isOf hZ e93 p84_0
        obtain ⟨_, _, ⟨T96, L96, kc96, n96⟩, -, X96, ⟨Lc96, hQ96, l96, y96, z96⟩, st96⟩ := X93.virtualBack hx (y := yM15) (z := yM15) hown (mvT hZ w52) (mvT hZ w53) (notFace_of_selects (args := #[]) (mvT hZ w55)) (mvT hZ w55) (mvT hZ w54) (by decide) (backOf (W := 0) (rm_of_trail_2 l Z a0 hw [] s_CHARACTERS s_BYTES s_CHARACTERS_BUT_TRAILING_SPACES z_CS v_FMT b82 x_77 ba_77 kb_77 u0 u1 T84.heap n0 SB c94 p84_1 ((Exa.ext E82 (Exa.ext E80 p77_2)).keep K84) c97 c98 c99 (own_sm0 hv0) (own_sm0 hv1) (own_sm255 hv0) (own_sm255 hv1)) hZ w56 w43 (by decide) (by decide)) q96a q96c (g := (mkF m 178 #[.val (.int ki_), .val (.int si_), .val (.int fr_), .val (.int bk_), .val (.long mo_), .second, .val (.int (1 : Int32)), .val (.ref s_CHARACTERS_BUT_TRAILING_SPACES), .val (.int (2 : Int32)), .val (.ref b2), .val (.ref x_77), .val (.int ((own_ushr si_ (8 : Int32)) &&& (63 : Int32))), .val (.ref b80), .val (.ref b82), .val (.ref x_77), .val (.long (own_tr2 u0 u1).toInt64), .second, .unset, .unset] [(.ref x_77), (.ref b82)])) rfl (by rw [hml]; rfl) (Steps.refl _) (argsL := [(.ref x_77)]) (rest := []) (lenOf own_pd18 rfl) rfl (by show 2 * 0 + _ ≤ _; exact Nat.le_of_eq rfl) (hb hby at_178) (fun _ _ => ⟨rfl, e93, (by decide : 6 + 0 ≤ _), (by decide : 77 + 0 ≤ _)⟩)
        dsimp only [Pt.U, Pt.locs, Pt.cells, Pt.slots] at X96 l96 y96 z96 st96 hQ96
        subst l96 y96 z96
        obtain ⟨rfl, Nq96, e96⟩ := hQ96
        have N96 := Fr.app N93 Nq96
        refine otr (S' := T96.setTop (mkF m 181 #[.val (.int ki_), .val (.int si_), .val (.int fr_), .val (.int bk_), .val (.long mo_), .second, .val (.int (1 : Int32)), .val (.ref s_CHARACTERS_BUT_TRAILING_SPACES), .val (.int (2 : Int32)), .val (.ref b2), .val (.ref x_77), .val (.int ((own_ushr si_ (8 : Int32)) &&& (63 : Int32))), .val (.ref b80), .val (.ref b82), .val (.ref x_77), .val (.long (own_tr2 u0 u1).toInt64), .second, .unset, .unset] [(.long (own_tr2 u0 u1).toInt64)])) st96 ?_
        refine o_lstore X96 hx (l' := #[.val (.int ki_), .val (.int si_), .val (.int fr_), .val (.int bk_), .val (.long mo_), .second, .val (.int (1 : Int32)), .val (.ref s_CHARACTERS_BUT_TRAILING_SPACES), .val (.int (2 : Int32)), .val (.ref b2), .val (.ref x_77), .val (.int ((own_ushr si_ (8 : Int32)) &&& (63 : Int32))), .val (.ref b80), .val (.ref b82), .val (.ref x_77), .val (.long (own_tr2 u0 u1).toInt64), .second, .val (.long (own_tr2 u0 u1).toInt64), .second]) (hb hby at_181) rfl ?_
        refine o_lload X96 hx (hb hby at_183) rfl ?_
        refine o_lload X96 hx (hb hby at_185) rfl ?_
        refine o_lcmp X96 hx (hb hby at_187) ?_
        refine o_ifNo X96 hx (hb hby at_188) (teq ((lw_eq _ _).mpr (rfl : (own_tr2 u0 u1).toInt64 = (own_tr2 u0 u1).toInt64))).2 ?_
        refine o_aload X96 hx (hb hby at_191) rfl rfl ?_
        obtain ⟨cq100, kq100, q100a, q100b, q100c⟩ := isOf hZ e96 p84_0
        obtain ⟨_, _, ⟨T100, L100, kc100, n100⟩, -, X100, ⟨Lc100, hQ100, l100, y100, z100⟩, st100⟩ := X96.virtualBack hx (y := yM13) (z := yM13) hown (mvT hZ w72) (mvT hZ w73) (notFace_of_selects (args := #[]) (mvT hZ w75)) (mvT hZ w75) (mvT hZ w74) (by decide) (backOf (W := 0) (rm_unit l Z a0 hw []  b82 s_CHARACTERS_BUT_TRAILING_SPACES T84.heap n0 c94 p84_1) hZ w76 w43 (by decide) (by decide)) q100a q100c (g := (mkF m 193 #[.val (.int ki_), .val (.int si_), .val (.int fr_), .val (.int bk_), .val (.long mo_), .second, .val (.int (1 : Int32)), .val (.ref s_CHARACTERS_BUT_TRAILING_SPACES), .val (.int (2 : Int32)), .val (.ref b2), .val (.ref x_77), .val (.int ((own_ushr si_ (8 : Int32)) &&& (63 : Int32))), .val (.ref b80), .val (.ref b82), .val (.ref x_77), .val (.long (own_tr2 u0 u1).toInt64), .second, .val (.long (own_tr2 u0 u1).toInt64), .second] [(.ref b82)])) rfl (by rw [hml]; rfl) (Steps.refl _) (argsL := []) (rest := []) (lenOf own_pd19 rfl) rfl (by show 2 * 0 + _ ≤ _; exact Nat.le_of_eq rfl) (hb hby at_193) (fun _ _ => ⟨rfl, e96, (by decide : 6 + 0 ≤ _), (by decide : 77 + 0 ≤ _)⟩)
        dsimp only [Pt.U, Pt.locs, Pt.cells, Pt.slots] at X100 l100 y100 z100 st100 hQ100
        subst l100 y100 z100
        obtain ⟨rfl, Nq100, e100⟩ := hQ100
        have N100 := Fr.app N96 Nq100
        refine otr (S' := T100.setTop (mkF m 196 #[.val (.int ki_), .val (.int si_), .val (.int fr_), .val (.int bk_), .val (.long mo_), .second, .val (.int (1 : Int32)), .val (.ref s_CHARACTERS_BUT_TRAILING_SPACES), .val (.int (2 : Int32)), .val (.ref b2), .val (.ref x_77), .val (.int ((own_ushr si_ (8 : Int32)) &&& (63 : Int32))), .val (.ref b80), .val (.ref b82), .val (.ref x_77), .val (.long (own_tr2 u0 u1).toInt64), .second, .val (.long (own_tr2 u0 u1).toInt64), .second] [(.ref s_CHARACTERS_BUT_TRAILING_SPACES)])) st100 ?_
        refine o_aload X100 hx (hb hby at_196) rfl rfl ?_
        refine o_acmp X100 hx 201 true rfl rfl (hb hby at_198) (decide_eq_true rfl) (by decide) (by decide) ?_
        refine o_aload X100 hx (hb hby at_201) rfl rfl ?_
        obtain ⟨cq101, kq101, q101a, q101b, q101c⟩ := isOf hZ e100 p84_0
        obtain ⟨_, _, ⟨T101, L101, kc101, n101⟩, -, X101, ⟨Lc101, hQ101, l101, y101, z101⟩, st101⟩ := X100.virtualBack hx (y := yM14) (z := yM14) hown (mvT hZ w77) (mvT hZ w78) (notFace_of_selects (args := #[]) (mvT hZ w80)) (mvT hZ w80) (mvT hZ w79) (by decide) (backOf (W := 0) (rm_most l Z a0 hw []  b82 mo_ T84.heap n0 c94 p84_2) hZ w81 w43 (by decide) (by decide)) q101a q101c (g := (mkF m 203 #[.val (.int ki_), .val (.int si_), .val (.int fr_), .val (.int bk_), .val (.long mo_), .second, .val (.int (1 : Int32)), .val (.ref s_CHARACTERS_BUT_TRAILING_SPACES), .val (.int (2 : Int32)), .val (.ref b2), .val (.ref x_77), .val (.int ((own_ushr si_ (8 : Int32)) &&& (63 : Int32))), .val (.ref b80), .val (.ref b82), .val (.ref x_77), .val (.long (own_tr2 u0 u1).toInt64), .second, .val (.long (own_tr2 u0 u1).toInt64), .second] [(.ref b82)])) rfl (by rw [hml]; rfl) (Steps.refl _) (argsL := []) (rest := []) (lenOf own_pd20 rfl) rfl (by show 2 * 0 + _ ≤ _; exact Nat.le_of_eq rfl) (hb hby at_203) (fun _ _ => ⟨rfl, e100, (by decide : 6 + 0 ≤ _), (by decide : 77 + 0 ≤ _)⟩)
        dsimp only [Pt.U, Pt.locs, Pt.cells, Pt.slots] at X101 l101 y101 z101 st101 hQ101
        subst l101 y101 z101
        obtain ⟨rfl, Nq101, e101⟩ := hQ101
        have N101 := Fr.app N100 Nq101
        refine otr (S' := T101.setTop (mkF m 206 #[.val (.int ki_), .val (.int si_), .val (.int fr_), .val (.int bk_), .val (.long mo_), .second, .val (.int (1 : Int32)), .val (.ref s_CHARACTERS_BUT_TRAILING_SPACES), .val (.int (2 : Int32)), .val (.ref b2), .val (.ref x_77), .val (.int ((own_ushr si_ (8 : Int32)) &&& (63 : Int32))), .val (.ref b80), .val (.ref b82), .val (.ref x_77), .val (.long (own_tr2 u0 u1).toInt64), .second, .val (.long (own_tr2 u0 u1).toInt64), .second] [(.long mo_)])) st101 ?_
        refine o_lload X101 hx (hb hby at_206) rfl ?_
        refine o_lcmp X101 hx (hb hby at_208) ?_
        refine o_ifNo X101 hx (hb hby at_209) (teq ((lw_eq _ _).mpr (rfl : mo_ = mo_))).2 ?_
        refine o_iconst X101 hx (1 : Int32) (hb hby at_212) rfl ?_
        refine o_goto X101 hx 217 (hb hby at_213) (by decide) (by decide) ?_
        refine oendS X101 hlk hS0 (Nat.le_trans (Nat.zero_le _) (Nat.le_trans (Nat.le_trans (Nat.le_trans (Nat.le_trans (Nat.le_trans (Nat.le_trans (Nat.le_trans (Nat.le_trans E2.1 (Keep.of_wr W5).1) (Keep.of_wr W8).1) (Keep.of_wr W11).1) (Keep.of_wr W14).1) K77.1) E80.1) E82.1) K84.1)) e101 hZ hEL hs0 (CHr.trans (CHr.trans (CHr.trans (CHr.trans (CHr.trans (CHr.trans (CHr.trans (CHr.trans (CHr.trans (CHr.refl H0) (CHr.ext E2 H0)) (CHr.wr W5 (Safe.exa hZ.alike Ex2 (by decide) (by decide)) H3)) (CHr.wr W8 (Safe.exa hZ.alike (Exa.wr W5 Ex2) (by decide) (by decide)) H6)) (CHr.wr W11 (Safe.exa hZ.alike (Exa.wr W8 (Exa.wr W5 Ex2)) (by decide) (by decide)) H9)) (CHr.wr W14 (Safe.exa hZ.alike (Exa.wr W11 (Exa.wr W8 (Exa.wr W5 Ex2))) (by decide) (by decide)) H12)) (CHr.keep K77 all0 H15)) (CHr.ext E80 H79)) (CHr.ext E82 H81)) (CHr.keep K84 (allS (Safe.exa hZ.alike A82 (by decide) (by decide)) all0) H83)) (v := some (.int (1 : Int32))) (fun h => by rw [hret] at h; cases h) (fun fs hr => retN X101 hx (t := .boolean) hret (by simp) (hb hby at_217) hr) (by decide) (by decide) ?_
        show own_Q_law Z _ _ _ _ _ _ _ _ _ _ h0 n0 _ T101.heap _
        rw [e101]
        exact ⟨rfl, N101, ((((((((((Keep.refl h0 []).ext E2).wr W5 (Or.inr (Nat.le_trans (Nat.le_refl _) (Nat.le_of_eq g2.symm)))).wr W8 (Or.inr (Nat.le_trans (Nat.le_refl _) (Nat.le_of_eq g2.symm)))).wr W11 (Or.inr (Nat.le_trans (Nat.le_refl _) (Nat.le_of_eq g2.symm)))).wr W14 (Or.inr (Nat.le_trans (Nat.le_refl _) (Nat.le_of_eq g2.symm)))).trans K77 all0).ext E80).ext E82).trans K84 (allS (Or.inr (Nat.le_trans (Nat.le_trans (Nat.le_trans (Nat.le_trans (Nat.le_trans (Nat.le_trans (Nat.le_trans E2.1 (Keep.of_wr W5).1) (Keep.of_wr W8).1) (Keep.of_wr W11).1) (Keep.of_wr W14).1) K77.1) E80.1) (Nat.le_of_eq g82.symm))) all0))⟩
      · refine o_iload X84 hx (hb hby at_124) rfl ?_
        refine o_iconst X84 hx (2 : Int32) (hb hby at_126) rfl ?_
        refine o_icmpNo X84 hx (hb hby at_127) (teq (by decide : (2 : Int32) = (2 : Int32))).2 ?_
        refine o_aload X84 hx (hb hby at_130) rfl rfl ?_
        refine o_astore X84 hx (l' := #[.val (.int ki_), .val (.int si_), .val (.int fr_), .val (.int bk_), .val (.long mo_), .second, .val (.int (2 : Int32)), .val (.ref s_BYTES), .val (.int (2 : Int32)), .val (.ref b2), .val (.ref x_77), .val (.int ((own_ushr si_ (8 : Int32)) &&& (63 : Int32))), .val (.ref b80), .val (.ref b82), .val (.ref b80), .unset, .unset, .unset, .unset]) (hb hby at_132) rfl rfl ?_
        refine o_iload X84 hx (hb hby at_134) rfl ?_
        refine o_i2l X84 hx (hb hby at_136) ?_
        refine o_lstore X84 hx (l' := #[.val (.int ki_), .val (.int si_), .val (.int fr_), .val (.int bk_), .val (.long mo_), .second, .val (.int (2 : Int32)), .val (.ref s_BYTES), .val (.int (2 : Int32)), .val (.ref b2), .val (.ref x_77), .val (.int ((own_ushr si_ (8 : Int32)) &&& (63 : Int32))), .val (.ref b80), .val (.ref b82), .val (.ref b80), .val (.long ((own_ushr si_ (8 : Int32)) &&& (63 : Int32)).toInt64), .second, .unset, .unset]) (hb hby at_137) rfl ?_
        refine o_goto X84 hx 174 (hb hby at_139) (by decide) (by decide) ?_
        refine o_aload X84 hx (hb hby at_174) rfl rfl ?_
        refine o_aload X84 hx (hb hby at_176) rfl rfl ?_
        have c103 := ((((c78.keep K77 all0).ext E80).ext E82).keep K84 (allS n0_b82 all0))
        have c104 := ((V80.ext E82).keep K84 (ninS (Nat.ne_of_lt (Nat.lt_of_lt_of_le (Nat.lt_of_lt_of_le V80.lt (Nat.le_refl _)) (Nat.le_of_eq g82.symm))) nin0))
        obtain ⟨cq102, kq102, q102a, q102b, q102c⟩ := isOf hZ rfl p84_0
        obtain ⟨_, _, ⟨T102, L102, kc102, n102⟩, -, X102, ⟨Lc102, hQ102, l102, y102, z102⟩, st102⟩ := X84.virtualBack hx (y := yM15) (z := yM15) hown (mvT hZ w52) (mvT hZ w53) (notFace_of_selects (args := #[]) (mvT hZ w55)) (mvT hZ w55) (mvT hZ w54) (by decide) (backOf (W := 0) (rm_of_bytes l Z a0 hw [] s_CHARACTERS s_BYTES s_CHARACTERS_BUT_TRAILING_SPACES z_CS v_FMT b82 b80 k80 ((own_ushr si_ (8 : Int32)) &&& (63 : Int32)) T84.heap n0 SB c103 p84_1 ((Exa.ext E82 Ex80).keep K84) c104) hZ w56 w43 (by decide) (by decide)) q102a q102c (g := (mkF m 178 #[.val (.int ki_), .val (.int si_), .val (.int fr_), .val (.int bk_), .val (.long mo_), .second, .val (.int (2 : Int32)), .val (.ref s_BYTES), .val (.int (2 : Int32)), .val (.ref b2), .val (.ref x_77), .val (.int ((own_ushr si_ (8 : Int32)) &&& (63 : Int32))), .val (.ref b80), .val (.ref b82), .val (.ref b80), .val (.long ((own_ushr si_ (8 : Int32)) &&& (63 : Int32)).toInt64), .second, .unset, .unset] [(.ref b80), (.ref b82)])) rfl (by rw [hml]; rfl) (Steps.refl _) (argsL := [(.ref b80)]) (rest := []) (lenOf own_pd18 rfl) rfl (by show 2 * 0 + _ ≤ _; exact Nat.le_of_eq rfl) (hb hby at_178) (fun _ _ => ⟨rfl, rfl, (by decide : 6 + 0 ≤ _), (by decide : 77 + 0 ≤ _)⟩)
        dsimp only [Pt.U, Pt.locs, Pt.cells, Pt.slots] at X102 l102 y102 z102 st102 hQ102
        subst l102 y102 z102
        obtain ⟨rfl, Nq102, e102⟩ := hQ102
        have N102 := Fr.app N84 Nq102
        refine otr (S' := T102.setTop (mkF m 181 #[.val (.int ki_), .val (.int si_), .val (.int fr_), .val (.int bk_), .val (.long mo_), .second, .val (.int (2 : Int32)), .val (.ref s_BYTES), .val (.int (2 : Int32)), .val (.ref b2), .val (.ref x_77), .val (.int ((own_ushr si_ (8 : Int32)) &&& (63 : Int32))), .val (.ref b80), .val (.ref b82), .val (.ref b80), .val (.long ((own_ushr si_ (8 : Int32)) &&& (63 : Int32)).toInt64), .second, .unset, .unset] [(.long ((own_ushr si_ (8 : Int32)) &&& (63 : Int32)).toInt64)])) st102 ?_
        refine o_lstore X102 hx (l' := #[.val (.int ki_), .val (.int si_), .val (.int fr_), .val (.int bk_), .val (.long mo_), .second, .val (.int (2 : Int32)), .val (.ref s_BYTES), .val (.int (2 : Int32)), .val (.ref b2), .val (.ref x_77), .val (.int ((own_ushr si_ (8 : Int32)) &&& (63 : Int32))), .val (.ref b80), .val (.ref b82), .val (.ref b80), .val (.long ((own_ushr si_ (8 : Int32)) &&& (63 : Int32)).toInt64), .second, .val (.long ((own_ushr si_ (8 : Int32)) &&& (63 : Int32)).toInt64), .second]) (hb hby at_181) rfl ?_
        refine o_lload X102 hx (hb hby at_183) rfl ?_
        refine o_lload X102 hx (hb hby at_185) rfl ?_
        refine o_lcmp X102 hx (hb hby at_187) ?_
        refine o_ifNo X102 hx (hb hby at_188) (teq ((lw_eq _ _).mpr (rfl : ((own_ushr si_ (8 : Int32)) &&& (63 : Int32)).toInt64 = ((own_ushr si_ (8 : Int32)) &&& (63 : Int32)).toInt64))).2 ?_
        refine o_aload X102 hx (hb hby at_191) rfl rfl ?_
        obtain ⟨cq105, kq105, q105a, q105b, q105c⟩ := isOf hZ e102 p84_0
        obtain ⟨_, _, ⟨T105, L105, kc105, n105⟩, -, X105, ⟨Lc105, hQ105, l105, y105, z105⟩, st105⟩ := X102.virtualBack hx (y := yM13) (z := yM13) hown (mvT hZ w72) (mvT hZ w73) (notFace_of_selects (args := #[]) (mvT hZ w75)) (mvT hZ w75) (mvT hZ w74) (by decide) (backOf (W := 0) (rm_unit l Z a0 hw []  b82 s_BYTES T84.heap n0 c103 p84_1) hZ w76 w43 (by decide) (by decide)) q105a q105c (g := (mkF m 193 #[.val (.int ki_), .val (.int si_), .val (.int fr_), .val (.int bk_), .val (.long mo_), .second, .val (.int (2 : Int32)), .val (.ref s_BYTES), .val (.int (2 : Int32)), .val (.ref b2), .val (.ref x_77), .val (.int ((own_ushr si_ (8 : Int32)) &&& (63 : Int32))), .val (.ref b80), .val (.ref b82), .val (.ref b80), .val (.long ((own_ushr si_ (8 : Int32)) &&& (63 : Int32)).toInt64), .second, .val (.long ((own_ushr si_ (8 : Int32)) &&& (63 : Int32)).toInt64), .second] [(.ref b82)])) rfl (by rw [hml]; rfl) (Steps.refl _) (argsL := []) (rest := []) (lenOf own_pd19 rfl) rfl (by show 2 * 0 + _ ≤ _; exact Nat.le_of_eq rfl) (hb hby at_193) (fun _ _ => ⟨rfl, e102, (by decide : 6 + 0 ≤ _), (by decide : 77 + 0 ≤ _)⟩)
        dsimp only [Pt.U, Pt.locs, Pt.cells, Pt.slots] at X105 l105 y105 z105 st105 hQ105
        subst l105 y105 z105
        obtain ⟨rfl, Nq105, e105⟩ := hQ105
        have N105 := Fr.app N102 Nq105
        refine otr (S' := T105.setTop (mkF m 196 #[.val (.int ki_), .val (.int si_), .val (.int fr_), .val (.int bk_), .val (.long mo_), .second, .val (.int (2 : Int32)), .val (.ref s_BYTES), .val (.int (2 : Int32)), .val (.ref b2), .val (.ref x_77), .val (.int ((own_ushr si_ (8 : Int32)) &&& (63 : Int32))), .val (.ref b80), .val (.ref b82), .val (.ref b80), .val (.long ((own_ushr si_ (8 : Int32)) &&& (63 : Int32)).toInt64), .second, .val (.long ((own_ushr si_ (8 : Int32)) &&& (63 : Int32)).toInt64), .second] [(.ref s_BYTES)])) st105 ?_
        refine o_aload X105 hx (hb hby at_196) rfl rfl ?_
        refine o_acmp X105 hx 201 true rfl rfl (hb hby at_198) (decide_eq_true rfl) (by decide) (by decide) ?_
        refine o_aload X105 hx (hb hby at_201) rfl rfl ?_
        obtain ⟨cq106, kq106, q106a, q106b, q106c⟩ := isOf hZ e105 p84_0
        obtain ⟨_, _, ⟨T106, L106, kc106, n106⟩, -, X106, ⟨Lc106, hQ106, l106, y106, z106⟩, st106⟩ := X105.virtualBack hx (y := yM14) (z := yM14) hown (mvT hZ w77) (mvT hZ w78) (notFace_of_selects (args := #[]) (mvT hZ w80)) (mvT hZ w80) (mvT hZ w79) (by decide) (backOf (W := 0) (rm_most l Z a0 hw []  b82 mo_ T84.heap n0 c103 p84_2) hZ w81 w43 (by decide) (by decide)) q106a q106c (g := (mkF m 203 #[.val (.int ki_), .val (.int si_), .val (.int fr_), .val (.int bk_), .val (.long mo_), .second, .val (.int (2 : Int32)), .val (.ref s_BYTES), .val (.int (2 : Int32)), .val (.ref b2), .val (.ref x_77), .val (.int ((own_ushr si_ (8 : Int32)) &&& (63 : Int32))), .val (.ref b80), .val (.ref b82), .val (.ref b80), .val (.long ((own_ushr si_ (8 : Int32)) &&& (63 : Int32)).toInt64), .second, .val (.long ((own_ushr si_ (8 : Int32)) &&& (63 : Int32)).toInt64), .second] [(.ref b82)])) rfl (by rw [hml]; rfl) (Steps.refl _) (argsL := []) (rest := []) (lenOf own_pd20 rfl) rfl (by show 2 * 0 + _ ≤ _; exact Nat.le_of_eq rfl) (hb hby at_203) (fun _ _ => ⟨rfl, e105, (by decide : 6 + 0 ≤ _), (by decide : 77 + 0 ≤ _)⟩)
        dsimp only [Pt.U, Pt.locs, Pt.cells, Pt.slots] at X106 l106 y106 z106 st106 hQ106
        subst l106 y106 z106
        obtain ⟨rfl, Nq106, e106⟩ := hQ106
        have N106 := Fr.app N105 Nq106
        refine otr (S' := T106.setTop (mkF m 206 #[.val (.int ki_), .val (.int si_), .val (.int fr_), .val (.int bk_), .val (.long mo_), .second, .val (.int (2 : Int32)), .val (.ref s_BYTES), .val (.int (2 : Int32)), .val (.ref b2), .val (.ref x_77), .val (.int ((own_ushr si_ (8 : Int32)) &&& (63 : Int32))), .val (.ref b80), .val (.ref b82), .val (.ref b80), .val (.long ((own_ushr si_ (8 : Int32)) &&& (63 : Int32)).toInt64), .second, .val (.long ((own_ushr si_ (8 : Int32)) &&& (63 : Int32)).toInt64), .second] [(.long mo_)])) st106 ?_
        refine o_lload X106 hx (hb hby at_206) rfl ?_
        refine o_lcmp X106 hx (hb hby at_208) ?_
        refine o_ifNo X106 hx (hb hby at_209) (teq ((lw_eq _ _).mpr (rfl : mo_ = mo_))).2 ?_
        refine o_iconst X106 hx (1 : Int32) (hb hby at_212) rfl ?_
        refine o_goto X106 hx 217 (hb hby at_213) (by decide) (by decide) ?_
        refine oendS X106 hlk hS0 (Nat.le_trans (Nat.zero_le _) (Nat.le_trans (Nat.le_trans (Nat.le_trans (Nat.le_trans (Nat.le_trans (Nat.le_trans (Nat.le_trans (Nat.le_trans E2.1 (Keep.of_wr W5).1) (Keep.of_wr W8).1) (Keep.of_wr W11).1) (Keep.of_wr W14).1) K77.1) E80.1) E82.1) K84.1)) e106 hZ hEL hs0 (CHr.trans (CHr.trans (CHr.trans (CHr.trans (CHr.trans (CHr.trans (CHr.trans (CHr.trans (CHr.trans (CHr.refl H0) (CHr.ext E2 H0)) (CHr.wr W5 (Safe.exa hZ.alike Ex2 (by decide) (by decide)) H3)) (CHr.wr W8 (Safe.exa hZ.alike (Exa.wr W5 Ex2) (by decide) (by decide)) H6)) (CHr.wr W11 (Safe.exa hZ.alike (Exa.wr W8 (Exa.wr W5 Ex2)) (by decide) (by decide)) H9)) (CHr.wr W14 (Safe.exa hZ.alike (Exa.wr W11 (Exa.wr W8 (Exa.wr W5 Ex2))) (by decide) (by decide)) H12)) (CHr.keep K77 all0 H15)) (CHr.ext E80 H79)) (CHr.ext E82 H81)) (CHr.keep K84 (allS (Safe.exa hZ.alike A82 (by decide) (by decide)) all0) H83)) (v := some (.int (1 : Int32))) (fun h => by rw [hret] at h; cases h) (fun fs hr => retN X106 hx (t := .boolean) hret (by simp) (hb hby at_217) hr) (by decide) (by decide) ?_
        show own_Q_law Z _ _ _ _ _ _ _ _ _ _ h0 n0 _ T106.heap _
        rw [e106]
        exact ⟨rfl, N106, ((((((((((Keep.refl h0 []).ext E2).wr W5 (Or.inr (Nat.le_trans (Nat.le_refl _) (Nat.le_of_eq g2.symm)))).wr W8 (Or.inr (Nat.le_trans (Nat.le_refl _) (Nat.le_of_eq g2.symm)))).wr W11 (Or.inr (Nat.le_trans (Nat.le_refl _) (Nat.le_of_eq g2.symm)))).wr W14 (Or.inr (Nat.le_trans (Nat.le_refl _) (Nat.le_of_eq g2.symm)))).trans K77 all0).ext E80).ext E82).trans K84 (allS (Or.inr (Nat.le_trans (Nat.le_trans (Nat.le_trans (Nat.le_trans (Nat.le_trans (Nat.le_trans (Nat.le_trans E2.1 (Keep.of_wr W5).1) (Keep.of_wr W8).1) (Keep.of_wr W11).1) (Keep.of_wr W14).1) K77.1) E80.1) (Nat.le_of_eq g82.symm))) all0))⟩
    · rw [hs16]
      refine o_aload X14 hx (hb hby at_87) rfl rfl ?_
      refine o_iload X14 hx (hb hby at_89) rfl ?_
      have c108 := (((((O0.ext E2).wr W5 n0_b2).wr W8 n0_b2).wr W11 n0_b2).wr W14 n0_b2)
      obtain ⟨_, _, ⟨T107, L107, kc107, n107⟩, -, X107, ⟨Lc107, hQ107, l107, y107, z107⟩, st107⟩ := Jvm.LawKit.callS X14 hx (y := yM10) hown (mvT hZ w9) (mvT hZ w10) (mvT hZ w7) (mvT hZ w11) (by decide) (backOf (W := 0) (rm_text_3 l Z a0 hw [] s_CHARACTERS s_BYTES s_CHARACTERS_BUT_TRAILING_SPACES z_CS v_FMT b2 k2 u0 u1 u2 u3 T14.heap n0 SB c108 V14 (own_sm255 hv0) (own_sm255 hv1) (own_sm255 hv2) (own_sm255 hv3) (own_narsm (own_sm0 hv0) (own_sm255 hv0)) (own_narsm (own_sm0 hv1) (own_sm255 hv1)) (own_narsm (own_sm0 hv2) (own_sm255 hv2)) (own_narsm (own_sm0 hv3) (own_sm255 hv3))) hZ w11 w7 (by decide) (by decide)) (g := (mkF m 91 #[.val (.int ki_), .val (.int si_), .val (.int fr_), .val (.int bk_), .val (.long mo_), .second, .val (.int kk), .val (.ref uu), .val (.int (3 : Int32)), .val (.ref b2), .unset, .unset, .unset, .unset, .unset, .unset, .unset, .unset, .unset] [(.int (3 : Int32)), (.ref b2)])) rfl (by rw [hml]; rfl) (argsL := [(.ref b2), (.int (3 : Int32))]) (rest := []) (lenOf own_pd16 rfl) rfl (by show 2 * 0 + _ ≤ _; exact Nat.le_of_eq rfl) (hb hby at_91) (fun _ _ => ⟨rfl, rfl, (by decide : 1 + 3 ≤ _), (by decide : 4 + 10 ≤ _)⟩)
      dsimp only [Pt.U, Pt.locs, Pt.cells, Pt.slots] at X107 l107 y107 z107 st107 hQ107
      subst l107 y107 z107
      obtain ⟨x_107, ba_107, kb_107, rfl, Nq107, K107, p107_0, p107_1, p107_2, p107_3, p107_4, p107_5⟩ := hQ107
      have N107 := Fr.app N14 Nq107
      have H109 := CHv.keep K107 all0 H15
      have n0_x_107 : n0 ≤ x_107 := Nat.le_trans (Nat.le_trans (Nat.le_of_eq O0.1.symm) O0.2.1) (Nat.le_trans (Nat.le_trans (Nat.le_trans (Nat.le_trans (Nat.le_trans E2.1 (Keep.of_wr W5).1) (Keep.of_wr W8).1) (Keep.of_wr W11).1) (Keep.of_wr W14).1) p107_0)
      refine ogo (S' := T107.setTop (mkF m 94 #[.val (.int ki_), .val (.int si_), .val (.int fr_), .val (.int bk_), .val (.long mo_), .second, .val (.int kk), .val (.ref uu), .val (.int (3 : Int32)), .val (.ref b2), .unset, .unset, .unset, .unset, .unset, .unset, .unset, .unset, .unset] [(.ref x_107)])) st107 ?_
      refine o_astore X107 hx (l' := #[.val (.int ki_), .val (.int si_), .val (.int fr_), .val (.int bk_), .val (.long mo_), .second, .val (.int kk), .val (.ref uu), .val (.int (3 : Int32)), .val (.ref b2), .val (.ref x_107), .unset, .unset, .unset, .unset, .unset, .unset, .unset, .unset]) (hb hby at_94) rfl rfl ?_
      refine o_iloadN X107 hx (hb hby at_96) rfl ?_
      refine o_bipush X107 hx (8 : Int32) (hb hby at_97) rfl ?_
      refine o_iushr X107 hx (hb hby at_99) ?_
      refine o_bipush X107 hx (63 : Int32) (hb hby at_100) rfl ?_
      refine o_iand X107 hx (hb hby at_102) ?_
      refine o_istore X107 hx (l' := #[.val (.int ki_), .val (.int si_), .val (.int fr_), .val (.int bk_), .val (.long mo_), .second, .val (.int kk), .val (.ref uu), .val (.int (3 : Int32)), .val (.ref b2), .val (.ref x_107), .val (.int ((own_ushr si_ (8 : Int32)) &&& (63 : Int32))), .unset, .unset, .unset, .unset, .unset, .unset, .unset]) (hb hby at_103) rfl ?_
      refine o_iload X107 hx (hb hby at_105) rfl ?_
      obtain ⟨T110, _, k110, X110, rfl, E110, A110, Ex110, st110⟩ := newPE (aty := .byte) X107 hx hZ w30 rfl (g := (mkF m 107 #[.val (.int ki_), .val (.int si_), .val (.int fr_), .val (.int bk_), .val (.long mo_), .second, .val (.int kk), .val (.ref uu), .val (.int (3 : Int32)), .val (.ref b2), .val (.ref x_107), .val (.int ((own_ushr si_ (8 : Int32)) &&& (63 : Int32))), .unset, .unset, .unset, .unset, .unset, .unset, .unset] [(.int ((own_ushr si_ (8 : Int32)) &&& (63 : Int32)))])) rfl (hb hby at_107) rfl (own_b63n _) (cap := 63) (own_b63l _) (by decide) (by decide) (by decide) (ad := "[B") rfl
      obtain ⟨b110, g110⟩ : ∃ z, z = T107.heap.size := ⟨_, rfl⟩
      rw [← g110] at A110 Ex110 st110
      have n0_b110 : n0 ≤ b110 := Nat.le_trans (Nat.le_trans (Nat.le_of_eq O0.1.symm) O0.2.1) (Nat.le_trans (Nat.le_trans (Nat.le_trans (Nat.le_trans (Nat.le_trans (Nat.le_trans E2.1 (Keep.of_wr W5).1) (Keep.of_wr W8).1) (Keep.of_wr W11).1) (Keep.of_wr W14).1) K107.1) (Nat.le_of_eq g110.symm))
      have H111 := CHv.ext E110 H109
      have V110 : Arv Z T110.heap b110 k110 .byte ((own_ushr si_ (8 : Int32)) &&& (63 : Int32)) [] (.int 0) := Arv.new A110 (own_b63n _)
      refine ogo (S' := T110.setTop (mkF m 109 #[.val (.int ki_), .val (.int si_), .val (.int fr_), .val (.int bk_), .val (.long mo_), .second, .val (.int kk), .val (.ref uu), .val (.int (3 : Int32)), .val (.ref b2), .val (.ref x_107), .val (.int ((own_ushr si_ (8 : Int32)) &&& (63 : Int32))), .unset, .unset, .unset, .unset, .unset, .unset, .unset] [(.ref b110)])) st110 ?_
      refine o_astore X110 hx (l' := #[.val (.int ki_), .val (.int si_), .val (.int fr_), .val (.int bk_), .val (.long mo_), .second, .val (.int kk), .val (.ref uu), .val (.int (3 : Int32)), .val (.ref b2), .val (.ref x_107), .val (.int ((own_ushr si_ (8 : Int32)) &&& (63 : Int32))), .val (.ref b110), .unset, .unset, .unset, .unset, .unset, .unset]) (hb hby at_109) rfl rfl ?_
      obtain ⟨T112, _, X112, rfl, E112, A112, D112, -, st112⟩ := newO X110 hx hZ hown w41 w42 w43 rfl (g := (mkF m 111 #[.val (.int ki_), .val (.int si_), .val (.int fr_), .val (.int bk_), .val (.long mo_), .second, .val (.int kk), .val (.ref uu), .val (.int (3 : Int32)), .val (.ref b2), .val (.ref x_107), .val (.int ((own_ushr si_ (8 : Int32)) &&& (63 : Int32))), .val (.ref b110), .unset, .unset, .unset, .unset, .unset, .unset] [])) rfl (hb hby at_111) (by decide) (by decide)
      obtain ⟨b112, g112⟩ : ∃ z, z = T110.heap.size := ⟨_, rfl⟩
      rw [← g112] at A112 D112 st112
      have n0_b112 : n0 ≤ b112 := Nat.le_trans (Nat.le_trans (Nat.le_of_eq O0.1.symm) O0.2.1) (Nat.le_trans (Nat.le_trans (Nat.le_trans (Nat.le_trans (Nat.le_trans (Nat.le_trans (Nat.le_trans E2.1 (Keep.of_wr W5).1) (Keep.of_wr W8).1) (Keep.of_wr W11).1) (Keep.of_wr W14).1) K107.1) E110.1) (Nat.le_of_eq g112.symm))
      have H113 := CHv.ext E112 H111
      have F112_unit : Fld Z T112.heap b112 "com/example/upshot/upshot/ColumnCatalog$Length" "unit" "Lcom/example/upshot/upshot/ColumnCatalog$Length$Unit;" .null := D112 (Or.inr w49) (ty := (.object "com/example/upshot/upshot/ColumnCatalog$Length$Unit")) (by decide)
      have F112_most : Fld Z T112.heap b112 "com/example/upshot/upshot/ColumnCatalog$Length" "most" "J" (.long (0 : Int64)) := D112 (Or.inr w51) (ty := .long) (by decide)
      refine ogo (S' := T112.setTop (mkF m 114 #[.val (.int ki_), .val (.int si_), .val (.int fr_), .val (.int bk_), .val (.long mo_), .second, .val (.int kk), .val (.ref uu), .val (.int (3 : Int32)), .val (.ref b2), .val (.ref x_107), .val (.int ((own_ushr si_ (8 : Int32)) &&& (63 : Int32))), .val (.ref b110), .unset, .unset, .unset, .unset, .unset, .unset] [(.ref b112)])) st112 ?_
      refine o_dup X112 hx (hb hby at_114) rfl ?_
      refine o_aload X112 hx (hb hby at_115) rfl rfl ?_
      refine o_lload X112 hx (hb hby at_117) rfl ?_
      obtain ⟨_, _, ⟨T114, L114, kc114, n114⟩, -, X114, ⟨Lc114, hQ114, l114, y114, z114⟩, st114⟩ := X112.specialBack hx (y := yM12) rfl hown (mvT hZ w44) (mvT hZ w45) (mvT hZ w46) (by decide) (backOf (W := 1) (rm_linit l Z a0 hw []  b112 uu mo_ T112.heap n0 (((c108.keep K107 all0).ext E110).ext E112) A112 F112_unit F112_most n0_b112) hZ w46 w43 (by decide) (by decide)) (g := (mkF m 119 #[.val (.int ki_), .val (.int si_), .val (.int fr_), .val (.int bk_), .val (.long mo_), .second, .val (.int kk), .val (.ref uu), .val (.int (3 : Int32)), .val (.ref b2), .val (.ref x_107), .val (.int ((own_ushr si_ (8 : Int32)) &&& (63 : Int32))), .val (.ref b110), .unset, .unset, .unset, .unset, .unset, .unset] [(.long mo_), (.ref uu), (.ref b112), (.ref b112)])) rfl (by rw [hml]; rfl) (Steps.refl _) (a := b112) (argsL := [(.ref uu), (.long mo_)]) (rest := [(.ref b112)]) (lenOf own_pd17 rfl) rfl (by show 2 * 0 + _ ≤ _; exact Nat.le_of_eq rfl) (hb hby at_119) (fun _ _ => ⟨rfl, rfl, (by decide : 6 + 0 ≤ _), (by decide : 79 + 0 ≤ _)⟩)
      dsimp only [Pt.U, Pt.locs, Pt.cells, Pt.slots] at X114 l114 y114 z114 st114 hQ114
      subst l114 y114 z114
      obtain ⟨rfl, Nq114, K114, p114_0, p114_1, p114_2⟩ := hQ114
      have N114 := Fr.app N107 Nq114
      have H115 := CHv.keep K114 (allS (Safe.exa hZ.alike A112 (by decide) (by decide)) all0) H113
      refine otr (S' := T114.setTop (mkF m 122 #[.val (.int ki_), .val (.int si_), .val (.int fr_), .val (.int bk_), .val (.long mo_), .second, .val (.int kk), .val (.ref uu), .val (.int (3 : Int32)), .val (.ref b2), .val (.ref x_107), .val (.int ((own_ushr si_ (8 : Int32)) &&& (63 : Int32))), .val (.ref b110), .unset, .unset, .unset, .unset, .unset, .unset] [(.ref b112)])) st114 ?_
      refine o_astore X114 hx (l' := #[.val (.int ki_), .val (.int si_), .val (.int fr_), .val (.int bk_), .val (.long mo_), .second, .val (.int kk), .val (.ref uu), .val (.int (3 : Int32)), .val (.ref b2), .val (.ref x_107), .val (.int ((own_ushr si_ (8 : Int32)) &&& (63 : Int32))), .val (.ref b110), .val (.ref b112), .unset, .unset, .unset, .unset, .unset]) (hb hby at_122) rfl rfl ?_
      rcases hku with ⟨rfl, rfl⟩ | ⟨rfl, rfl⟩ | ⟨rfl, rfl⟩
      · refine o_iload X114 hx (hb hby at_124) rfl ?_
        refine o_iconst X114 hx (2 : Int32) (hb hby at_126) rfl ?_
        refine o_icmpYes X114 hx 142 (hb hby at_127) (feq (by decide : ¬ ((0 : Int32) = (2 : Int32)))).2 (by decide) (by decide) ?_
        refine o_iload X114 hx (hb hby at_142) rfl ?_
        refine o_iconst X114 hx (1 : Int32) (hb hby at_144) rfl ?_
        refine o_icmpYes X114 hx 165 (hb hby at_145) (feq (by decide : ¬ ((0 : Int32) = (1 : Int32)))).2 (by decide) (by decide) ?_
        refine o_aload X114 hx (hb hby at_165) rfl rfl ?_
        refine o_astore X114 hx (l' := #[.val (.int ki_), .val (.int si_), .val (.int fr_), .val (.int bk_), .val (.long mo_), .second, .val (.int (0 : Int32)), .val (.ref s_CHARACTERS), .val (.int (3 : Int32)), .val (.ref b2), .val (.ref x_107), .val (.int ((own_ushr si_ (8 : Int32)) &&& (63 : Int32))), .val (.ref b110), .val (.ref b112), .val (.ref x_107), .unset, .unset, .unset, .unset]) (hb hby at_167) rfl rfl ?_
        refine o_iload X114 hx (hb hby at_169) rfl ?_
        refine o_i2l X114 hx (hb hby at_171) ?_
        refine o_lstore X114 hx (l' := #[.val (.int ki_), .val (.int si_), .val (.int fr_), .val (.int bk_), .val (.long mo_), .second, .val (.int (0 : Int32)), .val (.ref s_CHARACTERS), .val (.int (3 : Int32)), .val (.ref b2), .val (.ref x_107), .val (.int ((own_ushr si_ (8 : Int32)) &&& (63 : Int32))), .val (.ref b110), .val (.ref b112), .val (.ref x_107), .val (.long (3 : Int64)), .second, .unset, .unset]) (hb hby at_172) rfl ?_
        refine o_aload X114 hx (hb hby at_174) rfl rfl ?_
        refine o_aload X114 hx (hb hby at_176) rfl rfl ?_
        have c117 := ((((c108.keep K107 all0).ext E110).ext E112).keep K114 (allS n0_b112 all0))
        have c118 := ((Fld.ext E112 (Fld.ext E110 p107_3)).keep K114 (ninS (Nat.ne_of_lt (Nat.lt_of_lt_of_le (Nat.lt_of_lt_of_le p107_2.lt E110.1) (Nat.le_of_eq g112.symm))) nin0))
        have c119 := ((Fld.ext E112 (Fld.ext E110 p107_4)).keep K114 (ninS (Nat.ne_of_lt (Nat.lt_of_lt_of_le (Nat.lt_of_lt_of_le p107_2.lt E110.1) (Nat.le_of_eq g112.symm))) nin0))
        have c120 := (((p107_5.ext E110).ext E112).keep K114 (ninS (Nat.ne_of_lt (Nat.lt_of_lt_of_le (Nat.lt_of_lt_of_le p107_1 E110.1) (Nat.le_of_eq g112.symm))) nin0))
        obtain ⟨cq116, kq116, q116a, q116b, q116c⟩ := isOf hZ rfl p114_0
        obtain ⟨_, _, ⟨T116, L116, kc116, n116⟩, -, X116, ⟨Lc116, hQ116, l116, y116, z116⟩, st116⟩ := X114.virtualBack hx (y := yM15) (z := yM15) hown (mvT hZ w52) (mvT hZ w53) (notFace_of_selects (args := #[]) (mvT hZ w55)) (mvT hZ w55) (mvT hZ w54) (by decide) (backOf (W := 0) (rm_of_chars_3 l Z a0 hw [] s_CHARACTERS s_BYTES s_CHARACTERS_BUT_TRAILING_SPACES z_CS v_FMT b112 x_107 ba_107 kb_107 [(.int u0.toInt8.toInt32), (.int u1.toInt8.toInt32), (.int u2.toInt8.toInt32)] T114.heap n0 SB c117 p114_1 ((Exa.ext E112 (Exa.ext E110 p107_2)).keep K114) c118 c119 c120) hZ w56 w43 (by decide) (by decide)) q116a q116c (g := (mkF m 178 #[.val (.int ki_), .val (.int si_), .val (.int fr_), .val (.int bk_), .val (.long mo_), .second, .val (.int (0 : Int32)), .val (.ref s_CHARACTERS), .val (.int (3 : Int32)), .val (.ref b2), .val (.ref x_107), .val (.int ((own_ushr si_ (8 : Int32)) &&& (63 : Int32))), .val (.ref b110), .val (.ref b112), .val (.ref x_107), .val (.long (3 : Int64)), .second, .unset, .unset] [(.ref x_107), (.ref b112)])) rfl (by rw [hml]; rfl) (Steps.refl _) (argsL := [(.ref x_107)]) (rest := []) (lenOf own_pd18 rfl) rfl (by show 2 * 0 + _ ≤ _; exact Nat.le_of_eq rfl) (hb hby at_178) (fun _ _ => ⟨rfl, rfl, (by decide : 6 + 0 ≤ _), (by decide : 79 + 0 ≤ _)⟩)
        dsimp only [Pt.U, Pt.locs, Pt.cells, Pt.slots] at X116 l116 y116 z116 st116 hQ116
        subst l116 y116 z116
        obtain ⟨rfl, Nq116, e116⟩ := hQ116
        have N116 := Fr.app N114 Nq116
        refine otr (S' := T116.setTop (mkF m 181 #[.val (.int ki_), .val (.int si_), .val (.int fr_), .val (.int bk_), .val (.long mo_), .second, .val (.int (0 : Int32)), .val (.ref s_CHARACTERS), .val (.int (3 : Int32)), .val (.ref b2), .val (.ref x_107), .val (.int ((own_ushr si_ (8 : Int32)) &&& (63 : Int32))), .val (.ref b110), .val (.ref b112), .val (.ref x_107), .val (.long (3 : Int64)), .second, .unset, .unset] [(.long (3 : Int64))])) st116 ?_
        refine o_lstore X116 hx (l' := #[.val (.int ki_), .val (.int si_), .val (.int fr_), .val (.int bk_), .val (.long mo_), .second, .val (.int (0 : Int32)), .val (.ref s_CHARACTERS), .val (.int (3 : Int32)), .val (.ref b2), .val (.ref x_107), .val (.int ((own_ushr si_ (8 : Int32)) &&& (63 : Int32))), .val (.ref b110), .val (.ref b112), .val (.ref x_107), .val (.long (3 : Int64)), .second, .val (.long (3 : Int64)), .second]) (hb hby at_181) rfl ?_
        refine o_lload X116 hx (hb hby at_183) rfl ?_
        refine o_lload X116 hx (hb hby at_185) rfl ?_
        refine o_lcmp X116 hx (hb hby at_187) ?_
        refine o_ifNo X116 hx (hb hby at_188) (teq ((lw_eq _ _).mpr (by decide : (3 : Int64) = (3 : Int64)))).2 ?_
        refine o_aload X116 hx (hb hby at_191) rfl rfl ?_
        obtain ⟨cq121, kq121, q121a, q121b, q121c⟩ := isOf hZ e116 p114_0
        obtain ⟨_, _, ⟨T121, L121, kc121, n121⟩, -, X121, ⟨Lc121, hQ121, l121, y121, z121⟩, st121⟩ := X116.virtualBack hx (y := yM13) (z := yM13) hown (mvT hZ w72) (mvT hZ w73) (notFace_of_selects (args := #[]) (mvT hZ w75)) (mvT hZ w75) (mvT hZ w74) (by decide) (backOf (W := 0) (rm_unit l Z a0 hw []  b112 s_CHARACTERS T114.heap n0 c117 p114_1) hZ w76 w43 (by decide) (by decide)) q121a q121c (g := (mkF m 193 #[.val (.int ki_), .val (.int si_), .val (.int fr_), .val (.int bk_), .val (.long mo_), .second, .val (.int (0 : Int32)), .val (.ref s_CHARACTERS), .val (.int (3 : Int32)), .val (.ref b2), .val (.ref x_107), .val (.int ((own_ushr si_ (8 : Int32)) &&& (63 : Int32))), .val (.ref b110), .val (.ref b112), .val (.ref x_107), .val (.long (3 : Int64)), .second, .val (.long (3 : Int64)), .second] [(.ref b112)])) rfl (by rw [hml]; rfl) (Steps.refl _) (argsL := []) (rest := []) (lenOf own_pd19 rfl) rfl (by show 2 * 0 + _ ≤ _; exact Nat.le_of_eq rfl) (hb hby at_193) (fun _ _ => ⟨rfl, e116, (by decide : 6 + 0 ≤ _), (by decide : 79 + 0 ≤ _)⟩)
        dsimp only [Pt.U, Pt.locs, Pt.cells, Pt.slots] at X121 l121 y121 z121 st121 hQ121
        subst l121 y121 z121
        obtain ⟨rfl, Nq121, e121⟩ := hQ121
        have N121 := Fr.app N116 Nq121
        refine otr (S' := T121.setTop (mkF m 196 #[.val (.int ki_), .val (.int si_), .val (.int fr_), .val (.int bk_), .val (.long mo_), .second, .val (.int (0 : Int32)), .val (.ref s_CHARACTERS), .val (.int (3 : Int32)), .val (.ref b2), .val (.ref x_107), .val (.int ((own_ushr si_ (8 : Int32)) &&& (63 : Int32))), .val (.ref b110), .val (.ref b112), .val (.ref x_107), .val (.long (3 : Int64)), .second, .val (.long (3 : Int64)), .second] [(.ref s_CHARACTERS)])) st121 ?_
        refine o_aload X121 hx (hb hby at_196) rfl rfl ?_
        refine o_acmp X121 hx 201 true rfl rfl (hb hby at_198) (decide_eq_true rfl) (by decide) (by decide) ?_
        refine o_aload X121 hx (hb hby at_201) rfl rfl ?_
        obtain ⟨cq122, kq122, q122a, q122b, q122c⟩ := isOf hZ e121 p114_0
        obtain ⟨_, _, ⟨T122, L122, kc122, n122⟩, -, X122, ⟨Lc122, hQ122, l122, y122, z122⟩, st122⟩ := X121.virtualBack hx (y := yM14) (z := yM14) hown (mvT hZ w77) (mvT hZ w78) (notFace_of_selects (args := #[]) (mvT hZ w80)) (mvT hZ w80) (mvT hZ w79) (by decide) (backOf (W := 0) (rm_most l Z a0 hw []  b112 mo_ T114.heap n0 c117 p114_2) hZ w81 w43 (by decide) (by decide)) q122a q122c (g := (mkF m 203 #[.val (.int ki_), .val (.int si_), .val (.int fr_), .val (.int bk_), .val (.long mo_), .second, .val (.int (0 : Int32)), .val (.ref s_CHARACTERS), .val (.int (3 : Int32)), .val (.ref b2), .val (.ref x_107), .val (.int ((own_ushr si_ (8 : Int32)) &&& (63 : Int32))), .val (.ref b110), .val (.ref b112), .val (.ref x_107), .val (.long (3 : Int64)), .second, .val (.long (3 : Int64)), .second] [(.ref b112)])) rfl (by rw [hml]; rfl) (Steps.refl _) (argsL := []) (rest := []) (lenOf own_pd20 rfl) rfl (by show 2 * 0 + _ ≤ _; exact Nat.le_of_eq rfl) (hb hby at_203) (fun _ _ => ⟨rfl, e121, (by decide : 6 + 0 ≤ _), (by decide : 79 + 0 ≤ _)⟩)
        dsimp only [Pt.U, Pt.locs, Pt.cells, Pt.slots] at X122 l122 y122 z122 st122 hQ122
        subst l122 y122 z122
        obtain ⟨rfl, Nq122, e122⟩ := hQ122
        have N122 := Fr.app N121 Nq122
        refine otr (S' := T122.setTop (mkF m 206 #[.val (.int ki_), .val (.int si_), .val (.int fr_), .val (.int bk_), .val (.long mo_), .second, .val (.int (0 : Int32)), .val (.ref s_CHARACTERS), .val (.int (3 : Int32)), .val (.ref b2), .val (.ref x_107), .val (.int ((own_ushr si_ (8 : Int32)) &&& (63 : Int32))), .val (.ref b110), .val (.ref b112), .val (.ref x_107), .val (.long (3 : Int64)), .second, .val (.long (3 : Int64)), .second] [(.long mo_)])) st122 ?_
        refine o_lload X122 hx (hb hby at_206) rfl ?_
        refine o_lcmp X122 hx (hb hby at_208) ?_
        refine o_ifNo X122 hx (hb hby at_209) (teq ((lw_eq _ _).mpr (rfl : mo_ = mo_))).2 ?_
        refine o_iconst X122 hx (1 : Int32) (hb hby at_212) rfl ?_
        refine o_goto X122 hx 217 (hb hby at_213) (by decide) (by decide) ?_
        refine oendS X122 hlk hS0 (Nat.le_trans (Nat.zero_le _) (Nat.le_trans (Nat.le_trans (Nat.le_trans (Nat.le_trans (Nat.le_trans (Nat.le_trans (Nat.le_trans (Nat.le_trans E2.1 (Keep.of_wr W5).1) (Keep.of_wr W8).1) (Keep.of_wr W11).1) (Keep.of_wr W14).1) K107.1) E110.1) E112.1) K114.1)) e122 hZ hEL hs0 (CHr.trans (CHr.trans (CHr.trans (CHr.trans (CHr.trans (CHr.trans (CHr.trans (CHr.trans (CHr.trans (CHr.refl H0) (CHr.ext E2 H0)) (CHr.wr W5 (Safe.exa hZ.alike Ex2 (by decide) (by decide)) H3)) (CHr.wr W8 (Safe.exa hZ.alike (Exa.wr W5 Ex2) (by decide) (by decide)) H6)) (CHr.wr W11 (Safe.exa hZ.alike (Exa.wr W8 (Exa.wr W5 Ex2)) (by decide) (by decide)) H9)) (CHr.wr W14 (Safe.exa hZ.alike (Exa.wr W11 (Exa.wr W8 (Exa.wr W5 Ex2))) (by decide) (by decide)) H12)) (CHr.keep K107 all0 H15)) (CHr.ext E110 H109)) (CHr.ext E112 H111)) (CHr.keep K114 (allS (Safe.exa hZ.alike A112 (by decide) (by decide)) all0) H113)) (v := some (.int (1 : Int32))) (fun h => by rw [hret] at h; cases h) (fun fs hr => retN X122 hx (t := .boolean) hret (by simp) (hb hby at_217) hr) (by decide) (by decide) ?_
        show own_Q_law Z _ _ _ _ _ _ _ _ _ _ h0 n0 _ T122.heap _
        rw [e122]
        exact ⟨rfl, N122, ((((((((((Keep.refl h0 []).ext E2).wr W5 (Or.inr (Nat.le_trans (Nat.le_refl _) (Nat.le_of_eq g2.symm)))).wr W8 (Or.inr (Nat.le_trans (Nat.le_refl _) (Nat.le_of_eq g2.symm)))).wr W11 (Or.inr (Nat.le_trans (Nat.le_refl _) (Nat.le_of_eq g2.symm)))).wr W14 (Or.inr (Nat.le_trans (Nat.le_refl _) (Nat.le_of_eq g2.symm)))).trans K107 all0).ext E110).ext E112).trans K114 (allS (Or.inr (Nat.le_trans (Nat.le_trans (Nat.le_trans (Nat.le_trans (Nat.le_trans (Nat.le_trans (Nat.le_trans E2.1 (Keep.of_wr W5).1) (Keep.of_wr W8).1) (Keep.of_wr W11).1) (Keep.of_wr W14).1) K107.1) E110.1) (Nat.le_of_eq g112.symm))) all0))⟩
      · refine o_iload X114 hx (hb hby at_124) rfl ?_
        refine o_iconst X114 hx (2 : Int32) (hb hby at_126) rfl ?_
        refine o_icmpYes X114 hx 142 (hb hby at_127) (feq (by decide : ¬ ((1 : Int32) = (2 : Int32)))).2 (by decide) (by decide) ?_
        refine o_iload X114 hx (hb hby at_142) rfl ?_
        refine o_iconst X114 hx (1 : Int32) (hb hby at_144) rfl ?_
        refine o_icmpNo X114 hx (hb hby at_145) (teq (by decide : (1 : Int32) = (1 : Int32))).2 ?_
        refine o_aload X114 hx (hb hby at_148) rfl rfl ?_
        refine o_astore X114 hx (l' := #[.val (.int ki_), .val (.int si_), .val (.int fr_), .val (.int bk_), .val (.long mo_), .second, .val (.int (1 : Int32)), .val (.ref s_CHARACTERS_BUT_TRAILING_SPACES), .val (.int (3 : Int32)), .val (.ref b2), .val (.ref x_107), .val (.int ((own_ushr si_ (8 : Int32)) &&& (63 : Int32))), .val (.ref b110), .val (.ref b112), .val (.ref x_107), .unset, .unset, .unset, .unset]) (hb hby at_150) rfl rfl ?_
        refine o_aload X114 hx (hb hby at_152) rfl rfl ?_
        refine o_iload X114 hx (hb hby at_154) rfl ?_
        have c124 := ((((c108.keep K107 all0).ext E110).ext E112).keep K114 (allS n0_b112 all0))
        have c125 := ((((V14.keep K107 nin0).ext E110).ext E112).keep K114 (ninS (Nat.ne_of_lt (Nat.lt_of_lt_of_le (Nat.lt_of_lt_of_le V2.lt (Nat.le_trans (Nat.le_trans (Nat.le_trans (Nat.le_trans (Nat.le_trans (Keep.of_wr W5).1 (Keep.of_wr W8).1) (Keep.of_wr W11).1) (Keep.of_wr W14).1) K107.1) E110.1)) (Nat.le_of_eq g112.symm))) nin0))
        obtain ⟨_, _, ⟨T123, L123, kc123, n123⟩, -, X123, ⟨Lc123, hQ123, l123, y123, z123⟩, st123⟩ := Jvm.LawKit.callS X114 hx (y := yM11) hown (mvT hZ w86) (mvT hZ w87) (mvT hZ w7) (mvT hZ w88) (by decide) (backOf (W := 0) (rm_trimmed_3 l Z a0 hw []  b2 k2 u0 u1 u2 u3 T114.heap n0 c124 c125) hZ w88 w7 (by decide) (by decide)) (g := (mkF m 156 #[.val (.int ki_), .val (.int si_), .val (.int fr_), .val (.int bk_), .val (.long mo_), .second, .val (.int (1 : Int32)), .val (.ref s_CHARACTERS_BUT_TRAILING_SPACES), .val (.int (3 : Int32)), .val (.ref b2), .val (.ref x_107), .val (.int ((own_ushr si_ (8 : Int32)) &&& (63 : Int32))), .val (.ref b110), .val (.ref b112), .val (.ref x_107), .unset, .unset, .unset, .unset] [(.int (3 : Int32)), (.ref b2)])) rfl (by rw [hml]; rfl) (argsL := [(.ref b2), (.int (3 : Int32))]) (rest := []) (lenOf own_pd21 rfl) rfl (by show 2 * 0 + _ ≤ _; exact Nat.le_of_eq rfl) (hb hby at_156) (fun _ _ => ⟨rfl, rfl, (by decide : 6 + 0 ≤ _), (by decide : 79 + 0 ≤ _)⟩)
        dsimp only [Pt.U, Pt.locs, Pt.cells, Pt.slots] at X123 l123 y123 z123 st123 hQ123
        subst l123 y123 z123
        obtain ⟨rfl, Nq123, e123⟩ := hQ123
        have N123 := Fr.app N114 Nq123
        refine ogo (S' := T123.setTop (mkF m 159 #[.val (.int ki_), .val (.int si_), .val (.int fr_), .val (.int bk_), .val (.long mo_), .second, .val (.int (1 : Int32)), .val (.ref s_CHARACTERS_BUT_TRAILING_SPACES), .val (.int (3 : Int32)), .val (.ref b2), .val (.ref x_107), .val (.int ((own_ushr si_ (8 : Int32)) &&& (63 : Int32))), .val (.ref b110), .val (.ref b112), .val (.ref x_107), .unset, .unset, .unset, .unset] [(.int (own_tr3 u0 u1 u2))])) st123 ?_
        refine o_i2l X123 hx (hb hby at_159) ?_
        refine o_lstore X123 hx (l' := #[.val (.int ki_), .val (.int si_), .val (.int fr_), .val (.int bk_), .val (.long mo_), .second, .val (.int (1 : Int32)), .val (.ref s_CHARACTERS_BUT_TRAILING_SPACES), .val (.int (3 : Int32)), .val (.ref b2), .val (.ref x_107), .val (.int ((own_ushr si_ (8 : Int32)) &&& (63 : Int32))), .val (.ref b110), .val (.ref b112), .val (.ref x_107), .val (.long (own_tr3 u0 u1 u2).toInt64), .second, .unset, .unset]) (hb hby at_160) rfl ?_
        refine o_goto X123 hx 174 (hb hby at_162) (by decide) (by decide) ?_
        refine o_aload X123 hx (hb hby at_174) rfl rfl ?_
        refine o_aload X123 hx (hb hby at_176) rfl rfl ?_
        have c127 := ((Fld.ext E112 (Fld.ext E110 p107_3)).keep K114 (ninS (Nat.ne_of_lt (Nat.lt_of_lt_of_le (Nat.lt_of_lt_of_le p107_2.lt E110.1) (Nat.le_of_eq g112.symm))) nin0))
        have c128 := ((Fld.ext E112 (Fld.ext E110 p107_4)).keep K114 (ninS (Nat.ne_of_lt (Nat.lt_of_lt_of_le (Nat.lt_of_lt_of_le p107_2.lt E110.1) (Nat.le_of_eq g112.symm))) nin0))
        have c129 := (((p107_5.ext E110).ext E112).keep K114 (ninS (Nat.ne_of_lt (Nat.lt_of_lt_of_le (Nat.lt_of_lt_of_le p107_1 E110.1) (Nat.le_of_eq g112.symm))) nin0))
        obtain ⟨cq126, kq126, q126a, q126b, q126c⟩ := isOf hZ e123 p114_0
        obtain ⟨_, _, ⟨T126, L126, kc126, n126⟩, -, X126, ⟨Lc126, hQ126, l126, y126, z126⟩, st126⟩ := X123.virtualBack hx (y := yM15) (z := yM15) hown (mvT hZ w52) (mvT hZ w53) (notFace_of_selects (args := #[]) (mvT hZ w55)) (mvT hZ w55) (mvT hZ w54) (by decide) (backOf (W := 0) (rm_of_trail_3 l Z a0 hw [] s_CHARACTERS s_BYTES s_CHARACTERS_BUT_TRAILING_SPACES z_CS v_FMT b112 x_107 ba_107 kb_107 u0 u1 u2 T114.heap n0 SB c124 p114_1 ((Exa.ext E112 (Exa.ext E110 p107_2)).keep K114) c127 c128 c129 (own_sm0 hv0) (own_sm0 hv1) (own_sm0 hv2) (own_sm255 hv0) (own_sm255 hv1) (own_sm255 hv2)) hZ w56 w43 (by decide) (by decide)) q126a q126c (g := (mkF m 178 #[.val (.int ki_), .val (.int si_), .val (.int fr_), .val (.int bk_), .val (.long mo_), .second, .val (.int (1 : Int32)), .val (.ref s_CHARACTERS_BUT_TRAILING_SPACES), .val (.int (3 : Int32)), .val (.ref b2), .val (.ref x_107), .val (.int ((own_ushr si_ (8 : Int32)) &&& (63 : Int32))), .val (.ref b110), .val (.ref b112), .val (.ref x_107), .val (.long (own_tr3 u0 u1 u2).toInt64), .second, .unset, .unset] [(.ref x_107), (.ref b112)])) rfl (by rw [hml]; rfl) (Steps.refl _) (argsL := [(.ref x_107)]) (rest := []) (lenOf own_pd18 rfl) rfl (by show 2 * 0 + _ ≤ _; exact Nat.le_of_eq rfl) (hb hby at_178) (fun _ _ => ⟨rfl, e123, (by decide : 6 + 0 ≤ _), (by decide : 79 + 0 ≤ _)⟩)
        dsimp only [Pt.U, Pt.locs, Pt.cells, Pt.slots] at X126 l126 y126 z126 st126 hQ126
        subst l126 y126 z126
        obtain ⟨rfl, Nq126, e126⟩ := hQ126
        have N126 := Fr.app N123 Nq126
        refine otr (S' := T126.setTop (mkF m 181 #[.val (.int ki_), .val (.int si_), .val (.int fr_), .val (.int bk_), .val (.long mo_), .second, .val (.int (1 : Int32)), .val (.ref s_CHARACTERS_BUT_TRAILING_SPACES), .val (.int (3 : Int32)), .val (.ref b2), .val (.ref x_107), .val (.int ((own_ushr si_ (8 : Int32)) &&& (63 : Int32))), .val (.ref b110), .val (.ref b112), .val (.ref x_107), .val (.long (own_tr3 u0 u1 u2).toInt64), .second, .unset, .unset] [(.long (own_tr3 u0 u1 u2).toInt64)])) st126 ?_
        refine o_lstore X126 hx (l' := #[.val (.int ki_), .val (.int si_), .val (.int fr_), .val (.int bk_), .val (.long mo_), .second, .val (.int (1 : Int32)), .val (.ref s_CHARACTERS_BUT_TRAILING_SPACES), .val (.int (3 : Int32)), .val (.ref b2), .val (.ref x_107), .val (.int ((own_ushr si_ (8 : Int32)) &&& (63 : Int32))), .val (.ref b110), .val (.ref b112), .val (.ref x_107), .val (.long (own_tr3 u0 u1 u2).toInt64), .second, .val (.long (own_tr3 u0 u1 u2).toInt64), .second]) (hb hby at_181) rfl ?_
        refine o_lload X126 hx (hb hby at_183) rfl ?_
        refine o_lload X126 hx (hb hby at_185) rfl ?_
        refine o_lcmp X126 hx (hb hby at_187) ?_
        refine o_ifNo X126 hx (hb hby at_188) (teq ((lw_eq _ _).mpr (rfl : (own_tr3 u0 u1 u2).toInt64 = (own_tr3 u0 u1 u2).toInt64))).2 ?_
        refine o_aload X126 hx (hb hby at_191) rfl rfl ?_
        obtain ⟨cq130, kq130, q130a, q130b, q130c⟩ := isOf hZ e126 p114_0
        obtain ⟨_, _, ⟨T130, L130, kc130, n130⟩, -, X130, ⟨Lc130, hQ130, l130, y130, z130⟩, st130⟩ := X126.virtualBack hx (y := yM13) (z := yM13) hown (mvT hZ w72) (mvT hZ w73) (notFace_of_selects (args := #[]) (mvT hZ w75)) (mvT hZ w75) (mvT hZ w74) (by decide) (backOf (W := 0) (rm_unit l Z a0 hw []  b112 s_CHARACTERS_BUT_TRAILING_SPACES T114.heap n0 c124 p114_1) hZ w76 w43 (by decide) (by decide)) q130a q130c (g := (mkF m 193 #[.val (.int ki_), .val (.int si_), .val (.int fr_), .val (.int bk_), .val (.long mo_), .second, .val (.int (1 : Int32)), .val (.ref s_CHARACTERS_BUT_TRAILING_SPACES), .val (.int (3 : Int32)), .val (.ref b2), .val (.ref x_107), .val (.int ((own_ushr si_ (8 : Int32)) &&& (63 : Int32))), .val (.ref b110), .val (.ref b112), .val (.ref x_107), .val (.long (own_tr3 u0 u1 u2).toInt64), .second, .val (.long (own_tr3 u0 u1 u2).toInt64), .second] [(.ref b112)])) rfl (by rw [hml]; rfl) (Steps.refl _) (argsL := []) (rest := []) (lenOf own_pd19 rfl) rfl (by show 2 * 0 + _ ≤ _; exact Nat.le_of_eq rfl) (hb hby at_193) (fun _ _ => ⟨rfl, e126, (by decide : 6 + 0 ≤ _), (by decide : 79 + 0 ≤ _)⟩)
        dsimp only [Pt.U, Pt.locs, Pt.cells, Pt.slots] at X130 l130 y130 z130 st130 hQ130
        subst l130 y130 z130
        obtain ⟨rfl, Nq130, e130⟩ := hQ130
        have N130 := Fr.app N126 Nq130
        refine otr (S' := T130.setTop (mkF m 196 #[.val (.int ki_), .val (.int si_), .val (.int fr_), .val (.int bk_), .val (.long mo_), .second, .val (.int (1 : Int32)), .val (.ref s_CHARACTERS_BUT_TRAILING_SPACES), .val (.int (3 : Int32)), .val (.ref b2), .val (.ref x_107), .val (.int ((own_ushr si_ (8 : Int32)) &&& (63 : Int32))), .val (.ref b110), .val (.ref b112), .val (.ref x_107), .val (.long (own_tr3 u0 u1 u2).toInt64), .second, .val (.long (own_tr3 u0 u1 u2).toInt64), .second] [(.ref s_CHARACTERS_BUT_TRAILING_SPACES)])) st130 ?_
        refine o_aload X130 hx (hb hby at_196) rfl rfl ?_
        refine o_acmp X130 hx 201 true rfl rfl (hb hby at_198) (decide_eq_true rfl) (by decide) (by decide) ?_
        refine o_aload X130 hx (hb hby at_201) rfl rfl ?_
        obtain ⟨cq131, kq131, q131a, q131b, q131c⟩ := isOf hZ e130 p114_0
        obtain ⟨_, _, ⟨T131, L131, kc131, n131⟩, -, X131, ⟨Lc131, hQ131, l131, y131, z131⟩, st131⟩ := X130.virtualBack hx (y := yM14) (z := yM14) hown (mvT hZ w77) (mvT hZ w78) (notFace_of_selects (args := #[]) (mvT hZ w80)) (mvT hZ w80) (mvT hZ w79) (by decide) (backOf (W := 0) (rm_most l Z a0 hw []  b112 mo_ T114.heap n0 c124 p114_2) hZ w81 w43 (by decide) (by decide)) q131a q131c (g := (mkF m 203 #[.val (.int ki_), .val (.int si_), .val (.int fr_), .val (.int bk_), .val (.long mo_), .second, .val (.int (1 : Int32)), .val (.ref s_CHARACTERS_BUT_TRAILING_SPACES), .val (.int (3 : Int32)), .val (.ref b2), .val (.ref x_107), .val (.int ((own_ushr si_ (8 : Int32)) &&& (63 : Int32))), .val (.ref b110), .val (.ref b112), .val (.ref x_107), .val (.long (own_tr3 u0 u1 u2).toInt64), .second, .val (.long (own_tr3 u0 u1 u2).toInt64), .second] [(.ref b112)])) rfl (by rw [hml]; rfl) (Steps.refl _) (argsL := []) (rest := []) (lenOf own_pd20 rfl) rfl (by show 2 * 0 + _ ≤ _; exact Nat.le_of_eq rfl) (hb hby at_203) (fun _ _ => ⟨rfl, e130, (by decide : 6 + 0 ≤ _), (by decide : 79 + 0 ≤ _)⟩)
        dsimp only [Pt.U, Pt.locs, Pt.cells, Pt.slots] at X131 l131 y131 z131 st131 hQ131
        subst l131 y131 z131
        obtain ⟨rfl, Nq131, e131⟩ := hQ131
        have N131 := Fr.app N130 Nq131
        refine otr (S' := T131.setTop (mkF m 206 #[.val (.int ki_), .val (.int si_), .val (.int fr_), .val (.int bk_), .val (.long mo_), .second, .val (.int (1 : Int32)), .val (.ref s_CHARACTERS_BUT_TRAILING_SPACES), .val (.int (3 : Int32)), .val (.ref b2), .val (.ref x_107), .val (.int ((own_ushr si_ (8 : Int32)) &&& (63 : Int32))), .val (.ref b110), .val (.ref b112), .val (.ref x_107), .val (.long (own_tr3 u0 u1 u2).toInt64), .second, .val (.long (own_tr3 u0 u1 u2).toInt64), .second] [(.long mo_)])) st131 ?_
        refine o_lload X131 hx (hb hby at_206) rfl ?_
        refine o_lcmp X131 hx (hb hby at_208) ?_
        refine o_ifNo X131 hx (hb hby at_209) (teq ((lw_eq _ _).mpr (rfl : mo_ = mo_))).2 ?_
        refine o_iconst X131 hx (1 : Int32) (hb hby at_212) rfl ?_
        refine o_goto X131 hx 217 (hb hby at_213) (by decide) (by decide) ?_
        refine oendS X131 hlk hS0 (Nat.le_trans (Nat.zero_le _) (Nat.le_trans (Nat.le_trans (Nat.le_trans (Nat.le_trans (Nat.le_trans (Nat.le_trans (Nat.le_trans (Nat.le_trans E2.1 (Keep.of_wr W5).1) (Keep.of_wr W8).1) (Keep.of_wr W11).1) (Keep.of_wr W14).1) K107.1) E110.1) E112.1) K114.1)) e131 hZ hEL hs0 (CHr.trans (CHr.trans (CHr.trans (CHr.trans (CHr.trans (CHr.trans (CHr.trans (CHr.trans (CHr.trans (CHr.refl H0) (CHr.ext E2 H0)) (CHr.wr W5 (Safe.exa hZ.alike Ex2 (by decide) (by decide)) H3)) (CHr.wr W8 (Safe.exa hZ.alike (Exa.wr W5 Ex2) (by decide) (by decide)) H6)) (CHr.wr W11 (Safe.exa hZ.alike (Exa.wr W8 (Exa.wr W5 Ex2)) (by decide) (by decide)) H9)) (CHr.wr W14 (Safe.exa hZ.alike (Exa.wr W11 (Exa.wr W8 (Exa.wr W5 Ex2))) (by decide) (by decide)) H12)) (CHr.keep K107 all0 H15)) (CHr.ext E110 H109)) (CHr.ext E112 H111)) (CHr.keep K114 (allS (Safe.exa hZ.alike A112 (by decide) (by decide)) all0) H113)) (v := some (.int (1 : Int32))) (fun h => by rw [hret] at h; cases h) (fun fs hr => retN X131 hx (t := .boolean) hret (by simp) (hb hby at_217) hr) (by decide) (by decide) ?_
        show own_Q_law Z _ _ _ _ _ _ _ _ _ _ h0 n0 _ T131.heap _
        rw [e131]
        exact ⟨rfl, N131, ((((((((((Keep.refl h0 []).ext E2).wr W5 (Or.inr (Nat.le_trans (Nat.le_refl _) (Nat.le_of_eq g2.symm)))).wr W8 (Or.inr (Nat.le_trans (Nat.le_refl _) (Nat.le_of_eq g2.symm)))).wr W11 (Or.inr (Nat.le_trans (Nat.le_refl _) (Nat.le_of_eq g2.symm)))).wr W14 (Or.inr (Nat.le_trans (Nat.le_refl _) (Nat.le_of_eq g2.symm)))).trans K107 all0).ext E110).ext E112).trans K114 (allS (Or.inr (Nat.le_trans (Nat.le_trans (Nat.le_trans (Nat.le_trans (Nat.le_trans (Nat.le_trans (Nat.le_trans E2.1 (Keep.of_wr W5).1) (Keep.of_wr W8).1) (Keep.of_wr W11).1) (Keep.of_wr W14).1) K107.1) E110.1) (Nat.le_of_eq g112.symm))) all0))⟩
      · refine o_iload X114 hx (hb hby at_124) rfl ?_
        refine o_iconst X114 hx (2 : Int32) (hb hby at_126) rfl ?_
        refine o_icmpNo X114 hx (hb hby at_127) (teq (by decide : (2 : Int32) = (2 : Int32))).2 ?_
        refine o_aload X114 hx (hb hby at_130) rfl rfl ?_
        refine o_astore X114 hx (l' := #[.val (.int ki_), .val (.int si_), .val (.int fr_), .val (.int bk_), .val (.long mo_), .second, .val (.int (2 : Int32)), .val (.ref s_BYTES), .val (.int (3 : Int32)), .val (.ref b2), .val (.ref x_107), .val (.int ((own_ushr si_ (8 : Int32)) &&& (63 : Int32))), .val (.ref b110), .val (.ref b112), .val (.ref b110), .unset, .unset, .unset, .unset]) (hb hby at_132) rfl rfl ?_
        refine o_iload X114 hx (hb hby at_134) rfl ?_
        refine o_i2l X114 hx (hb hby at_136) ?_
        refine o_lstore X114 hx (l' := #[.val (.int ki_), .val (.int si_), .val (.int fr_), .val (.int bk_), .val (.long mo_), .second, .val (.int (2 : Int32)), .val (.ref s_BYTES), .val (.int (3 : Int32)), .val (.ref b2), .val (.ref x_107), .val (.int ((own_ushr si_ (8 : Int32)) &&& (63 : Int32))), .val (.ref b110), .val (.ref b112), .val (.ref b110), .val (.long ((own_ushr si_ (8 : Int32)) &&& (63 : Int32)).toInt64), .second, .unset, .unset]) (hb hby at_137) rfl ?_
        refine o_goto X114 hx 174 (hb hby at_139) (by decide) (by decide) ?_
        refine o_aload X114 hx (hb hby at_174) rfl rfl ?_
        refine o_aload X114 hx (hb hby at_176) rfl rfl ?_
        have c133 := ((((c108.keep K107 all0).ext E110).ext E112).keep K114 (allS n0_b112 all0))
        have c134 := ((V110.ext E112).keep K114 (ninS (Nat.ne_of_lt (Nat.lt_of_lt_of_le (Nat.lt_of_lt_of_le V110.lt (Nat.le_refl _)) (Nat.le_of_eq g112.symm))) nin0))
        obtain ⟨cq132, kq132, q132a, q132b, q132c⟩ := isOf hZ rfl p114_0
        obtain ⟨_, _, ⟨T132, L132, kc132, n132⟩, -, X132, ⟨Lc132, hQ132, l132, y132, z132⟩, st132⟩ := X114.virtualBack hx (y := yM15) (z := yM15) hown (mvT hZ w52) (mvT hZ w53) (notFace_of_selects (args := #[]) (mvT hZ w55)) (mvT hZ w55) (mvT hZ w54) (by decide) (backOf (W := 0) (rm_of_bytes l Z a0 hw [] s_CHARACTERS s_BYTES s_CHARACTERS_BUT_TRAILING_SPACES z_CS v_FMT b112 b110 k110 ((own_ushr si_ (8 : Int32)) &&& (63 : Int32)) T114.heap n0 SB c133 p114_1 ((Exa.ext E112 Ex110).keep K114) c134) hZ w56 w43 (by decide) (by decide)) q132a q132c (g := (mkF m 178 #[.val (.int ki_), .val (.int si_), .val (.int fr_), .val (.int bk_), .val (.long mo_), .second, .val (.int (2 : Int32)), .val (.ref s_BYTES), .val (.int (3 : Int32)), .val (.ref b2), .val (.ref x_107), .val (.int ((own_ushr si_ (8 : Int32)) &&& (63 : Int32))), .val (.ref b110), .val (.ref b112), .val (.ref b110), .val (.long ((own_ushr si_ (8 : Int32)) &&& (63 : Int32)).toInt64), .second, .unset, .unset] [(.ref b110), (.ref b112)])) rfl (by rw [hml]; rfl) (Steps.refl _) (argsL := [(.ref b110)]) (rest := []) (lenOf own_pd18 rfl) rfl (by show 2 * 0 + _ ≤ _; exact Nat.le_of_eq rfl) (hb hby at_178) (fun _ _ => ⟨rfl, rfl, (by decide : 6 + 0 ≤ _), (by decide : 79 + 0 ≤ _)⟩)
        dsimp only [Pt.U, Pt.locs, Pt.cells, Pt.slots] at X132 l132 y132 z132 st132 hQ132
        subst l132 y132 z132
        obtain ⟨rfl, Nq132, e132⟩ := hQ132
        have N132 := Fr.app N114 Nq132
        refine otr (S' := T132.setTop (mkF m 181 #[.val (.int ki_), .val (.int si_), .val (.int fr_), .val (.int bk_), .val (.long mo_), .second, .val (.int (2 : Int32)), .val (.ref s_BYTES), .val (.int (3 : Int32)), .val (.ref b2), .val (.ref x_107), .val (.int ((own_ushr si_ (8 : Int32)) &&& (63 : Int32))), .val (.ref b110), .val (.ref b112), .val (.ref b110), .val (.long ((own_ushr si_ (8 : Int32)) &&& (63 : Int32)).toInt64), .second, .unset, .unset] [(.long ((own_ushr si_ (8 : Int32)) &&& (63 : Int32)).toInt64)])) st132 ?_
        refine o_lstore X132 hx (l' := #[.val (.int ki_), .val (.int si_), .val (.int fr_), .val (.int bk_), .val (.long mo_), .second, .val (.int (2 : Int32)), .val (.ref s_BYTES), .val (.int (3 : Int32)), .val (.ref b2), .val (.ref x_107), .val (.int ((own_ushr si_ (8 : Int32)) &&& (63 : Int32))), .val (.ref b110), .val (.ref b112), .val (.ref b110), .val (.long ((own_ushr si_ (8 : Int32)) &&& (63 : Int32)).toInt64), .second, .val (.long ((own_ushr si_ (8 : Int32)) &&& (63 : Int32)).toInt64), .second]) (hb hby at_181) rfl ?_
        refine o_lload X132 hx (hb hby at_183) rfl ?_
        refine o_lload X132 hx (hb hby at_185) rfl ?_
        refine o_lcmp X132 hx (hb hby at_187) ?_
        refine o_ifNo X132 hx (hb hby at_188) (teq ((lw_eq _ _).mpr (rfl : ((own_ushr si_ (8 : Int32)) &&& (63 : Int32)).toInt64 = ((own_ushr si_ (8 : Int32)) &&& (63 : Int32)).toInt64))).2 ?_
        refine o_aload X132 hx (hb hby at_191) rfl rfl ?_
        obtain ⟨cq135, kq135, q135a, q135b, q135c⟩ := isOf hZ e132 p114_0
        obtain ⟨_, _, ⟨T135, L135, kc135, n135⟩, -, X135, ⟨Lc135, hQ135, l135, y135, z135⟩, st135⟩ := X132.virtualBack hx (y := yM13) (z := yM13) hown (mvT hZ w72) (mvT hZ w73) (notFace_of_selects (args := #[]) (mvT hZ w75)) (mvT hZ w75) (mvT hZ w74) (by decide) (backOf (W := 0) (rm_unit l Z a0 hw []  b112 s_BYTES T114.heap n0 c133 p114_1) hZ w76 w43 (by decide) (by decide)) q135a q135c (g := (mkF m 193 #[.val (.int ki_), .val (.int si_), .val (.int fr_), .val (.int bk_), .val (.long mo_), .second, .val (.int (2 : Int32)), .val (.ref s_BYTES), .val (.int (3 : Int32)), .val (.ref b2), .val (.ref x_107), .val (.int ((own_ushr si_ (8 : Int32)) &&& (63 : Int32))), .val (.ref b110), .val (.ref b112), .val (.ref b110), .val (.long ((own_ushr si_ (8 : Int32)) &&& (63 : Int32)).toInt64), .second, .val (.long ((own_ushr si_ (8 : Int32)) &&& (63 : Int32)).toInt64), .second] [(.ref b112)])) rfl (by rw [hml]; rfl) (Steps.refl _) (argsL := []) (rest := []) (lenOf own_pd19 rfl) rfl (by show 2 * 0 + _ ≤ _; exact Nat.le_of_eq rfl) (hb hby at_193) (fun _ _ => ⟨rfl, e132, (by decide : 6 + 0 ≤ _), (by decide : 79 + 0 ≤ _)⟩)
        dsimp only [Pt.U, Pt.locs, Pt.cells, Pt.slots] at X135 l135 y135 z135 st135 hQ135
        subst l135 y135 z135
        obtain ⟨rfl, Nq135, e135⟩ := hQ135
        have N135 := Fr.app N132 Nq135
        refine otr (S' := T135.setTop (mkF m 196 #[.val (.int ki_), .val (.int si_), .val (.int fr_), .val (.int bk_), .val (.long mo_), .second, .val (.int (2 : Int32)), .val (.ref s_BYTES), .val (.int (3 : Int32)), .val (.ref b2), .val (.ref x_107), .val (.int ((own_ushr si_ (8 : Int32)) &&& (63 : Int32))), .val (.ref b110), .val (.ref b112), .val (.ref b110), .val (.long ((own_ushr si_ (8 : Int32)) &&& (63 : Int32)).toInt64), .second, .val (.long ((own_ushr si_ (8 : Int32)) &&& (63 : Int32)).toInt64), .second] [(.ref s_BYTES)])) st135 ?_
        refine o_aload X135 hx (hb hby at_196) rfl rfl ?_
        refine o_acmp X135 hx 201 true rfl rfl (hb hby at_198) (decide_eq_true rfl) (by decide) (by decide) ?_
        refine o_aload X135 hx (hb hby at_201) rfl rfl ?_
        obtain ⟨cq136, kq136, q136a, q136b, q136c⟩ := isOf hZ e135 p114_0
        obtain ⟨_, _, ⟨T136, L136, kc136, n136⟩, -, X136, ⟨Lc136, hQ136, l136, y136, z136⟩, st136⟩ := X135.virtualBack hx (y := yM14) (z := yM14) hown (mvT hZ w77) (mvT hZ w78) (notFace_of_selects (args := #[]) (mvT hZ w80)) (mvT hZ w80) (mvT hZ w79) (by decide) (backOf (W := 0) (rm_most l Z a0 hw []  b112 mo_ T114.heap n0 c133 p114_2) hZ w81 w43 (by decide) (by decide)) q136a q136c (g := (mkF m 203 #[.val (.int ki_), .val (.int si_), .val (.int fr_), .val (.int bk_), .val (.long mo_), .second, .val (.int (2 : Int32)), .val (.ref s_BYTES), .val (.int (3 : Int32)), .val (.ref b2), .val (.ref x_107), .val (.int ((own_ushr si_ (8 : Int32)) &&& (63 : Int32))), .val (.ref b110), .val (.ref b112), .val (.ref b110), .val (.long ((own_ushr si_ (8 : Int32)) &&& (63 : Int32)).toInt64), .second, .val (.long ((own_ushr si_ (8 : Int32)) &&& (63 : Int32)).toInt64), .second] [(.ref b112)])) rfl (by rw [hml]; rfl) (Steps.refl _) (argsL := []) (rest := []) (lenOf own_pd20 rfl) rfl (by show 2 * 0 + _ ≤ _; exact Nat.le_of_eq rfl) (hb hby at_203) (fun _ _ => ⟨rfl, e135, (by decide : 6 + 0 ≤ _), (by decide : 79 + 0 ≤ _)⟩)
        dsimp only [Pt.U, Pt.locs, Pt.cells, Pt.slots] at X136 l136 y136 z136 st136 hQ136
        subst l136 y136 z136
        obtain ⟨rfl, Nq136, e136⟩ := hQ136
        have N136 := Fr.app N135 Nq136
        refine otr (S' := T136.setTop (mkF m 206 #[.val (.int ki_), .val (.int si_), .val (.int fr_), .val (.int bk_), .val (.long mo_), .second, .val (.int (2 : Int32)), .val (.ref s_BYTES), .val (.int (3 : Int32)), .val (.ref b2), .val (.ref x_107), .val (.int ((own_ushr si_ (8 : Int32)) &&& (63 : Int32))), .val (.ref b110), .val (.ref b112), .val (.ref b110), .val (.long ((own_ushr si_ (8 : Int32)) &&& (63 : Int32)).toInt64), .second, .val (.long ((own_ushr si_ (8 : Int32)) &&& (63 : Int32)).toInt64), .second] [(.long mo_)])) st136 ?_
        refine o_lload X136 hx (hb hby at_206) rfl ?_
        refine o_lcmp X136 hx (hb hby at_208) ?_
        refine o_ifNo X136 hx (hb hby at_209) (teq ((lw_eq _ _).mpr (rfl : mo_ = mo_))).2 ?_
        refine o_iconst X136 hx (1 : Int32) (hb hby at_212) rfl ?_
        refine o_goto X136 hx 217 (hb hby at_213) (by decide) (by decide) ?_
        refine oendS X136 hlk hS0 (Nat.le_trans (Nat.zero_le _) (Nat.le_trans (Nat.le_trans (Nat.le_trans (Nat.le_trans (Nat.le_trans (Nat.le_trans (Nat.le_trans (Nat.le_trans E2.1 (Keep.of_wr W5).1) (Keep.of_wr W8).1) (Keep.of_wr W11).1) (Keep.of_wr W14).1) K107.1) E110.1) E112.1) K114.1)) e136 hZ hEL hs0 (CHr.trans (CHr.trans (CHr.trans (CHr.trans (CHr.trans (CHr.trans (CHr.trans (CHr.trans (CHr.trans (CHr.refl H0) (CHr.ext E2 H0)) (CHr.wr W5 (Safe.exa hZ.alike Ex2 (by decide) (by decide)) H3)) (CHr.wr W8 (Safe.exa hZ.alike (Exa.wr W5 Ex2) (by decide) (by decide)) H6)) (CHr.wr W11 (Safe.exa hZ.alike (Exa.wr W8 (Exa.wr W5 Ex2)) (by decide) (by decide)) H9)) (CHr.wr W14 (Safe.exa hZ.alike (Exa.wr W11 (Exa.wr W8 (Exa.wr W5 Ex2))) (by decide) (by decide)) H12)) (CHr.keep K107 all0 H15)) (CHr.ext E110 H109)) (CHr.ext E112 H111)) (CHr.keep K114 (allS (Safe.exa hZ.alike A112 (by decide) (by decide)) all0) H113)) (v := some (.int (1 : Int32))) (fun h => by rw [hret] at h; cases h) (fun fs hr => retN X136 hx (t := .boolean) hret (by simp) (hb hby at_217) hr) (by decide) (by decide) ?_
        show own_Q_law Z _ _ _ _ _ _ _ _ _ _ h0 n0 _ T136.heap _
        rw [e136]
        exact ⟨rfl, N136, ((((((((((Keep.refl h0 []).ext E2).wr W5 (Or.inr (Nat.le_trans (Nat.le_refl _) (Nat.le_of_eq g2.symm)))).wr W8 (Or.inr (Nat.le_trans (Nat.le_refl _) (Nat.le_of_eq g2.symm)))).wr W11 (Or.inr (Nat.le_trans (Nat.le_refl _) (Nat.le_of_eq g2.symm)))).wr W14 (Or.inr (Nat.le_trans (Nat.le_refl _) (Nat.le_of_eq g2.symm)))).trans K107 all0).ext E110).ext E112).trans K114 (allS (Or.inr (Nat.le_trans (Nat.le_trans (Nat.le_trans (Nat.le_trans (Nat.le_trans (Nat.le_trans (Nat.le_trans E2.1 (Keep.of_wr W5).1) (Keep.of_wr W8).1) (Keep.of_wr W11).1) (Keep.of_wr W14).1) K107.1) E110.1) (Nat.le_of_eq g112.symm))) all0))⟩
    · rw [hs16]
      refine o_aload X14 hx (hb hby at_87) rfl rfl ?_
      refine o_iload X14 hx (hb hby at_89) rfl ?_
      have c138 := (((((O0.ext E2).wr W5 n0_b2).wr W8 n0_b2).wr W11 n0_b2).wr W14 n0_b2)
      obtain ⟨_, _, ⟨T137, L137, kc137, n137⟩, -, X137, ⟨Lc137, hQ137, l137, y137, z137⟩, st137⟩ := Jvm.LawKit.callS X14 hx (y := yM10) hown (mvT hZ w9) (mvT hZ w10) (mvT hZ w7) (mvT hZ w11) (by decide) (backOf (W := 0) (rm_text_4 l Z a0 hw [] s_CHARACTERS s_BYTES s_CHARACTERS_BUT_TRAILING_SPACES z_CS v_FMT b2 k2 u0 u1 u2 u3 T14.heap n0 SB c138 V14 (own_sm255 hv0) (own_sm255 hv1) (own_sm255 hv2) (own_sm255 hv3) (own_narsm (own_sm0 hv0) (own_sm255 hv0)) (own_narsm (own_sm0 hv1) (own_sm255 hv1)) (own_narsm (own_sm0 hv2) (own_sm255 hv2)) (own_narsm (own_sm0 hv3) (own_sm255 hv3))) hZ w11 w7 (by decide) (by decide)) (g := (mkF m 91 #[.val (.int ki_), .val (.int si_), .val (.int fr_), .val (.int bk_), .val (.long mo_), .second, .val (.int kk), .val (.ref uu), .val (.int (4 : Int32)), .val (.ref b2), .unset, .unset, .unset, .unset, .unset, .unset, .unset, .unset, .unset] [(.int (4 : Int32)), (.ref b2)])) rfl (by rw [hml]; rfl) (argsL := [(.ref b2), (.int (4 : Int32))]) (rest := []) (lenOf own_pd16 rfl) rfl (by show 2 * 0 + _ ≤ _; exact Nat.le_of_eq rfl) (hb hby at_91) (fun _ _ => ⟨rfl, rfl, (by decide : 1 + 3 ≤ _), (by decide : 4 + 12 ≤ _)⟩)
      dsimp only [Pt.U, Pt.locs, Pt.cells, Pt.slots] at X137 l137 y137 z137 st137 hQ137
      subst l137 y137 z137
      obtain ⟨x_137, ba_137, kb_137, rfl, Nq137, K137, p137_0, p137_1, p137_2, p137_3, p137_4, p137_5⟩ := hQ137
      have N137 := Fr.app N14 Nq137
      have H139 := CHv.keep K137 all0 H15
      have n0_x_137 : n0 ≤ x_137 := Nat.le_trans (Nat.le_trans (Nat.le_of_eq O0.1.symm) O0.2.1) (Nat.le_trans (Nat.le_trans (Nat.le_trans (Nat.le_trans (Nat.le_trans E2.1 (Keep.of_wr W5).1) (Keep.of_wr W8).1) (Keep.of_wr W11).1) (Keep.of_wr W14).1) p137_0)
      refine ogo (S' := T137.setTop (mkF m 94 #[.val (.int ki_), .val (.int si_), .val (.int fr_), .val (.int bk_), .val (.long mo_), .second, .val (.int kk), .val (.ref uu), .val (.int (4 : Int32)), .val (.ref b2), .unset, .unset, .unset, .unset, .unset, .unset, .unset, .unset, .unset] [(.ref x_137)])) st137 ?_
      refine o_astore X137 hx (l' := #[.val (.int ki_), .val (.int si_), .val (.int fr_), .val (.int bk_), .val (.long mo_), .second, .val (.int kk), .val (.ref uu), .val (.int (4 : Int32)), .val (.ref b2), .val (.ref x_137), .unset, .unset, .unset, .unset, .unset, .unset, .unset, .unset]) (hb hby at_94) rfl rfl ?_
      refine o_iloadN X137 hx (hb hby at_96) rfl ?_
      refine o_bipush X137 hx (8 : Int32) (hb hby at_97) rfl ?_
      refine o_iushr X137 hx (hb hby at_99) ?_
      refine o_bipush X137 hx (63 : Int32) (hb hby at_100) rfl ?_
      refine o_iand X137 hx (hb hby at_102) ?_
      refine o_istore X137 hx (l' := #[.val (.int ki_), .val (.int si_), .val (.int fr_), .val (.int bk_), .val (.long mo_), .second, .val (.int kk), .val (.ref uu), .val (.int (4 : Int32)), .val (.ref b2), .val (.ref x_137), .val (.int ((own_ushr si_ (8 : Int32)) &&& (63 : Int32))), .unset, .unset, .unset, .unset, .unset, .unset, .unset]) (hb hby at_103) rfl ?_
      refine o_iload X137 hx (hb hby at_105) rfl ?_
      obtain ⟨T140, _, k140, X140, rfl, E140, A140, Ex140, st140⟩ := newPE (aty := .byte) X137 hx hZ w30 rfl (g := (mkF m 107 #[.val (.int ki_), .val (.int si_), .val (.int fr_), .val (.int bk_), .val (.long mo_), .second, .val (.int kk), .val (.ref uu), .val (.int (4 : Int32)), .val (.ref b2), .val (.ref x_137), .val (.int ((own_ushr si_ (8 : Int32)) &&& (63 : Int32))), .unset, .unset, .unset, .unset, .unset, .unset, .unset] [(.int ((own_ushr si_ (8 : Int32)) &&& (63 : Int32)))])) rfl (hb hby at_107) rfl (own_b63n _) (cap := 63) (own_b63l _) (by decide) (by decide) (by decide) (ad := "[B") rfl
      obtain ⟨b140, g140⟩ : ∃ z, z = T137.heap.size := ⟨_, rfl⟩
      rw [← g140] at A140 Ex140 st140
      have n0_b140 : n0 ≤ b140 := Nat.le_trans (Nat.le_trans (Nat.le_of_eq O0.1.symm) O0.2.1) (Nat.le_trans (Nat.le_trans (Nat.le_trans (Nat.le_trans (Nat.le_trans (Nat.le_trans E2.1 (Keep.of_wr W5).1) (Keep.of_wr W8).1) (Keep.of_wr W11).1) (Keep.of_wr W14).1) K137.1) (Nat.le_of_eq g140.symm))
      have H141 := CHv.ext E140 H139
      have V140 : Arv Z T140.heap b140 k140 .byte ((own_ushr si_ (8 : Int32)) &&& (63 : Int32)) [] (.int 0) := Arv.new A140 (own_b63n _)
      refine ogo (S' := T140.setTop (mkF m 109 #[.val (.int ki_), .val (.int si_), .val (.int fr_), .val (.int bk_), .val (.long mo_), .second, .val (.int kk), .val (.ref uu), .val (.int (4 : Int32)), .val (.ref b2), .val (.ref x_137), .val (.int ((own_ushr si_ (8 : Int32)) &&& (63 : Int32))), .unset, .unset, .unset, .unset, .unset, .unset, .unset] [(.ref b140)])) st140 ?_
      refine o_astore X140 hx (l' := #[.val (.int ki_), .val (.int si_), .val (.int fr_), .val (.int bk_), .val (.long mo_), .second, .val (.int kk), .val (.ref uu), .val (.int (4 : Int32)), .val (.ref b2), .val (.ref x_137), .val (.int ((own_ushr si_ (8 : Int32)) &&& (63 : Int32))), .val (.ref b140), .unset, .unset, .unset, .unset, .unset, .unset]) (hb hby at_109) rfl rfl ?_
      obtain ⟨T142, _, X142, rfl, E142, A142, D142, -, st142⟩ := newO X140 hx hZ hown w41 w42 w43 rfl (g := (mkF m 111 #[.val (.int ki_), .val (.int si_), .val (.int fr_), .val (.int bk_), .val (.long mo_), .second, .val (.int kk), .val (.ref uu), .val (.int (4 : Int32)), .val (.ref b2), .val (.ref x_137), .val (.int ((own_ushr si_ (8 : Int32)) &&& (63 : Int32))), .val (.ref b140), .unset, .unset, .unset, .unset, .unset, .unset] [])) rfl (hb hby at_111) (by decide) (by decide)
      obtain ⟨b142, g142⟩ : ∃ z, z = T140.heap.size := ⟨_, rfl⟩
      rw [← g142] at A142 D142 st142
      have n0_b142 : n0 ≤ b142 := Nat.le_trans (Nat.le_trans (Nat.le_of_eq O0.1.symm) O0.2.1) (Nat.le_trans (Nat.le_trans (Nat.le_trans (Nat.le_trans (Nat.le_trans (Nat.le_trans (Nat.le_trans E2.1 (Keep.of_wr W5).1) (Keep.of_wr W8).1) (Keep.of_wr W11).1) (Keep.of_wr W14).1) K137.1) E140.1) (Nat.le_of_eq g142.symm))
      have H143 := CHv.ext E142 H141
      have F142_unit : Fld Z T142.heap b142 "com/example/upshot/upshot/ColumnCatalog$Length" "unit" "Lcom/example/upshot/upshot/ColumnCatalog$Length$Unit;" .null := D142 (Or.inr w49) (ty := (.object "com/example/upshot/upshot/ColumnCatalog$Length$Unit")) (by decide)
      have F142_most : Fld Z T142.heap b142 "com/example/upshot/upshot/ColumnCatalog$Length" "most" "J" (.long (0 : Int64)) := D142 (Or.inr w51) (ty := .long) (by decide)
      refine ogo (S' := T142.setTop (mkF m 114 #[.val (.int ki_), .val (.int si_), .val (.int fr_), .val (.int bk_), .val (.long mo_), .second, .val (.int kk), .val (.ref uu), .val (.int (4 : Int32)), .val (.ref b2), .val (.ref x_137), .val (.int ((own_ushr si_ (8 : Int32)) &&& (63 : Int32))), .val (.ref b140), .unset, .unset, .unset, .unset, .unset, .unset] [(.ref b142)])) st142 ?_
      refine o_dup X142 hx (hb hby at_114) rfl ?_
      refine o_aload X142 hx (hb hby at_115) rfl rfl ?_
      refine o_lload X142 hx (hb hby at_117) rfl ?_
      obtain ⟨_, _, ⟨T144, L144, kc144, n144⟩, -, X144, ⟨Lc144, hQ144, l144, y144, z144⟩, st144⟩ := X142.specialBack hx (y := yM12) rfl hown (mvT hZ w44) (mvT hZ w45) (mvT hZ w46) (by decide) (backOf (W := 1) (rm_linit l Z a0 hw []  b142 uu mo_ T142.heap n0 (((c138.keep K137 all0).ext E140).ext E142) A142 F142_unit F142_most n0_b142) hZ w46 w43 (by decide) (by decide)) (g := (mkF m 119 #[.val (.int ki_), .val (.int si_), .val (.int fr_), .val (.int bk_), .val (.long mo_), .second, .val (.int kk), .val (.ref uu), .val (.int (4 : Int32)), .val (.ref b2), .val (.ref x_137), .val (.int ((own_ushr si_ (8 : Int32)) &&& (63 : Int32))), .val (.ref b140), .unset, .unset, .unset, .unset, .unset, .unset] [(.long mo_), (.ref uu), (.ref b142), (.ref b142)])) rfl (by rw [hml]; rfl) (Steps.refl _) (a := b142) (argsL := [(.ref uu), (.long mo_)]) (rest := [(.ref b142)]) (lenOf own_pd17 rfl) rfl (by show 2 * 0 + _ ≤ _; exact Nat.le_of_eq rfl) (hb hby at_119) (fun _ _ => ⟨rfl, rfl, (by decide : 6 + 0 ≤ _), (by decide : 81 + 0 ≤ _)⟩)
      dsimp only [Pt.U, Pt.locs, Pt.cells, Pt.slots] at X144 l144 y144 z144 st144 hQ144
      subst l144 y144 z144
      obtain ⟨rfl, Nq144, K144, p144_0, p144_1, p144_2⟩ := hQ144
      have N144 := Fr.app N137 Nq144
      have H145 := CHv.keep K144 (allS (Safe.exa hZ.alike A142 (by decide) (by decide)) all0) H143
      refine otr (S' := T144.setTop (mkF m 122 #[.val (.int ki_), .val (.int si_), .val (.int fr_), .val (.int bk_), .val (.long mo_), .second, .val (.int kk), .val (.ref uu), .val (.int (4 : Int32)), .val (.ref b2), .val (.ref x_137), .val (.int ((own_ushr si_ (8 : Int32)) &&& (63 : Int32))), .val (.ref b140), .unset, .unset, .unset, .unset, .unset, .unset] [(.ref b142)])) st144 ?_
      refine o_astore X144 hx (l' := #[.val (.int ki_), .val (.int si_), .val (.int fr_), .val (.int bk_), .val (.long mo_), .second, .val (.int kk), .val (.ref uu), .val (.int (4 : Int32)), .val (.ref b2), .val (.ref x_137), .val (.int ((own_ushr si_ (8 : Int32)) &&& (63 : Int32))), .val (.ref b140), .val (.ref b142), .unset, .unset, .unset, .unset, .unset]) (hb hby at_122) rfl rfl ?_
      rcases hku with ⟨rfl, rfl⟩ | ⟨rfl, rfl⟩ | ⟨rfl, rfl⟩
      · refine o_iload X144 hx (hb hby at_124) rfl ?_
        refine o_iconst X144 hx (2 : Int32) (hb hby at_126) rfl ?_
        refine o_icmpYes X144 hx 142 (hb hby at_127) (feq (by decide : ¬ ((0 : Int32) = (2 : Int32)))).2 (by decide) (by decide) ?_
        refine o_iload X144 hx (hb hby at_142) rfl ?_
        refine o_iconst X144 hx (1 : Int32) (hb hby at_144) rfl ?_
        refine o_icmpYes X144 hx 165 (hb hby at_145) (feq (by decide : ¬ ((0 : Int32) = (1 : Int32)))).2 (by decide) (by decide) ?_
        refine o_aload X144 hx (hb hby at_165) rfl rfl ?_
        refine o_astore X144 hx (l' := #[.val (.int ki_), .val (.int si_), .val (.int fr_), .val (.int bk_), .val (.long mo_), .second, .val (.int (0 : Int32)), .val (.ref s_CHARACTERS), .val (.int (4 : Int32)), .val (.ref b2), .val (.ref x_137), .val (.int ((own_ushr si_ (8 : Int32)) &&& (63 : Int32))), .val (.ref b140), .val (.ref b142), .val (.ref x_137), .unset, .unset, .unset, .unset]) (hb hby at_167) rfl rfl ?_
        refine o_iload X144 hx (hb hby at_169) rfl ?_
        refine o_i2l X144 hx (hb hby at_171) ?_
        refine o_lstore X144 hx (l' := #[.val (.int ki_), .val (.int si_), .val (.int fr_), .val (.int bk_), .val (.long mo_), .second, .val (.int (0 : Int32)), .val (.ref s_CHARACTERS), .val (.int (4 : Int32)), .val (.ref b2), .val (.ref x_137), .val (.int ((own_ushr si_ (8 : Int32)) &&& (63 : Int32))), .val (.ref b140), .val (.ref b142), .val (.ref x_137), .val (.long (4 : Int64)), .second, .unset, .unset]) (hb hby at_172) rfl ?_
        refine o_aload X144 hx (hb hby at_174) rfl rfl ?_
        refine o_aload X144 hx (hb hby at_176) rfl rfl ?_
        have c147 := ((((c138.keep K137 all0).ext E140).ext E142).keep K144 (allS n0_b142 all0))
        have c148 := ((Fld.ext E142 (Fld.ext E140 p137_3)).keep K144 (ninS (Nat.ne_of_lt (Nat.lt_of_lt_of_le (Nat.lt_of_lt_of_le p137_2.lt E140.1) (Nat.le_of_eq g142.symm))) nin0))
        have c149 := ((Fld.ext E142 (Fld.ext E140 p137_4)).keep K144 (ninS (Nat.ne_of_lt (Nat.lt_of_lt_of_le (Nat.lt_of_lt_of_le p137_2.lt E140.1) (Nat.le_of_eq g142.symm))) nin0))
        have c150 := (((p137_5.ext E140).ext E142).keep K144 (ninS (Nat.ne_of_lt (Nat.lt_of_lt_of_le (Nat.lt_of_lt_of_le p137_1 E140.1) (Nat.le_of_eq g142.symm))) nin0))
        obtain ⟨cq146, kq146, q146a, q146b, q146c⟩ := isOf hZ rfl p144_0
        obtain ⟨_, _, ⟨T146, L146, kc146, n146⟩, -, X146, ⟨Lc146, hQ146, l146, y146, z146⟩, st146⟩ := X144.virtualBack hx (y := yM15) (z := yM15) hown (mvT hZ w52) (mvT hZ w53) (notFace_of_selects (args := #[]) (mvT hZ w55)) (mvT hZ w55) (mvT hZ w54) (by decide) (backOf (W := 0) (rm_of_chars_4 l Z a0 hw [] s_CHARACTERS s_BYTES s_CHARACTERS_BUT_TRAILING_SPACES z_CS v_FMT b142 x_137 ba_137 kb_137 [(.int u0.toInt8.toInt32), (.int u1.toInt8.toInt32), (.int u2.toInt8.toInt32), (.int u3.toInt8.toInt32)] T144.heap n0 SB c147 p144_1 ((Exa.ext E142 (Exa.ext E140 p137_2)).keep K144) c148 c149 c150) hZ w56 w43 (by decide) (by decide)) q146a q146c (g := (mkF m 178 #[.val (.int ki_), .val (.int si_), .val (.int fr_), .val (.int bk_), .val (.long mo_), .second, .val (.int (0 : Int32)), .val (.ref s_CHARACTERS), .val (.int (4 : Int32)), .val (.ref b2), .val (.ref x_137), .val (.int ((own_ushr si_ (8 : Int32)) &&& (63 : Int32))), .val (.ref b140), .val (.ref b142), .val (.ref x_137), .val (.long (4 : Int64)), .second, .unset, .unset] [(.ref x_137), (.ref b142)])) rfl (by rw [hml]; rfl) (Steps.refl _) (argsL := [(.ref x_137)]) (rest := []) (lenOf own_pd18 rfl) rfl (by show 2 * 0 + _ ≤ _; exact Nat.le_of_eq rfl) (hb hby at_178) (fun _ _ => ⟨rfl, rfl, (by decide : 6 + 0 ≤ _), (by decide : 81 + 0 ≤ _)⟩)
        dsimp only [Pt.U, Pt.locs, Pt.cells, Pt.slots] at X146 l146 y146 z146 st146 hQ146
        subst l146 y146 z146
        obtain ⟨rfl, Nq146, e146⟩ := hQ146
        have N146 := Fr.app N144 Nq146
        refine otr (S' := T146.setTop (mkF m 181 #[.val (.int ki_), .val (.int si_), .val (.int fr_), .val (.int bk_), .val (.long mo_), .second, .val (.int (0 : Int32)), .val (.ref s_CHARACTERS), .val (.int (4 : Int32)), .val (.ref b2), .val (.ref x_137), .val (.int ((own_ushr si_ (8 : Int32)) &&& (63 : Int32))), .val (.ref b140), .val (.ref b142), .val (.ref x_137), .val (.long (4 : Int64)), .second, .unset, .unset] [(.long (4 : Int64))])) st146 ?_
        refine o_lstore X146 hx (l' := #[.val (.int ki_), .val (.int si_), .val (.int fr_), .val (.int bk_), .val (.long mo_), .second, .val (.int (0 : Int32)), .val (.ref s_CHARACTERS), .val (.int (4 : Int32)), .val (.ref b2), .val (.ref x_137), .val (.int ((own_ushr si_ (8 : Int32)) &&& (63 : Int32))), .val (.ref b140), .val (.ref b142), .val (.ref x_137), .val (.long (4 : Int64)), .second, .val (.long (4 : Int64)), .second]) (hb hby at_181) rfl ?_
        refine o_lload X146 hx (hb hby at_183) rfl ?_
        refine o_lload X146 hx (hb hby at_185) rfl ?_
        refine o_lcmp X146 hx (hb hby at_187) ?_
        refine o_ifNo X146 hx (hb hby at_188) (teq ((lw_eq _ _).mpr (by decide : (4 : Int64) = (4 : Int64)))).2 ?_
        refine o_aload X146 hx (hb hby at_191) rfl rfl ?_
        obtain ⟨cq151, kq151, q151a, q151b, q151c⟩ := isOf hZ e146 p144_0
        obtain ⟨_, _, ⟨T151, L151, kc151, n151⟩, -, X151, ⟨Lc151, hQ151, l151, y151, z151⟩, st151⟩ := X146.virtualBack hx (y := yM13) (z := yM13) hown (mvT hZ w72) (mvT hZ w73) (notFace_of_selects (args := #[]) (mvT hZ w75)) (mvT hZ w75) (mvT hZ w74) (by decide) (backOf (W := 0) (rm_unit l Z a0 hw []  b142 s_CHARACTERS T144.heap n0 c147 p144_1) hZ w76 w43 (by decide) (by decide)) q151a q151c (g := (mkF m 193 #[.val (.int ki_), .val (.int si_), .val (.int fr_), .val (.int bk_), .val (.long mo_), .second, .val (.int (0 : Int32)), .val (.ref s_CHARACTERS), .val (.int (4 : Int32)), .val (.ref b2), .val (.ref x_137), .val (.int ((own_ushr si_ (8 : Int32)) &&& (63 : Int32))), .val (.ref b140), .val (.ref b142), .val (.ref x_137), .val (.long (4 : Int64)), .second, .val (.long (4 : Int64)), .second] [(.ref b142)])) rfl (by rw [hml]; rfl) (Steps.refl _) (argsL := []) (rest := []) (lenOf own_pd19 rfl) rfl (by show 2 * 0 + _ ≤ _; exact Nat.le_of_eq rfl) (hb hby at_193) (fun _ _ => ⟨rfl, e146, (by decide : 6 + 0 ≤ _), (by decide : 81 + 0 ≤ _)⟩)
        dsimp only [Pt.U, Pt.locs, Pt.cells, Pt.slots] at X151 l151 y151 z151 st151 hQ151
        subst l151 y151 z151
        obtain ⟨rfl, Nq151, e151⟩ := hQ151
        have N151 := Fr.app N146 Nq151
        refine otr (S' := T151.setTop (mkF m 196 #[.val (.int ki_), .val (.int si_), .val (.int fr_), .val (.int bk_), .val (.long mo_), .second, .val (.int (0 : Int32)), .val (.ref s_CHARACTERS), .val (.int (4 : Int32)), .val (.ref b2), .val (.ref x_137), .val (.int ((own_ushr si_ (8 : Int32)) &&& (63 : Int32))), .val (.ref b140), .val (.ref b142), .val (.ref x_137), .val (.long (4 : Int64)), .second, .val (.long (4 : Int64)), .second] [(.ref s_CHARACTERS)])) st151 ?_
        refine o_aload X151 hx (hb hby at_196) rfl rfl ?_
        refine o_acmp X151 hx 201 true rfl rfl (hb hby at_198) (decide_eq_true rfl) (by decide) (by decide) ?_
        refine o_aload X151 hx (hb hby at_201) rfl rfl ?_
        obtain ⟨cq152, kq152, q152a, q152b, q152c⟩ := isOf hZ e151 p144_0
        obtain ⟨_, _, ⟨T152, L152, kc152, n152⟩, -, X152, ⟨Lc152, hQ152, l152, y152, z152⟩, st152⟩ := X151.virtualBack hx (y := yM14) (z := yM14) hown (mvT hZ w77) (mvT hZ w78) (notFace_of_selects (args := #[]) (mvT hZ w80)) (mvT hZ w80) (mvT hZ w79) (by decide) (backOf (W := 0) (rm_most l Z a0 hw []  b142 mo_ T144.heap n0 c147 p144_2) hZ w81 w43 (by decide) (by decide)) q152a q152c (g := (mkF m 203 #[.val (.int ki_), .val (.int si_), .val (.int fr_), .val (.int bk_), .val (.long mo_), .second, .val (.int (0 : Int32)), .val (.ref s_CHARACTERS), .val (.int (4 : Int32)), .val (.ref b2), .val (.ref x_137), .val (.int ((own_ushr si_ (8 : Int32)) &&& (63 : Int32))), .val (.ref b140), .val (.ref b142), .val (.ref x_137), .val (.long (4 : Int64)), .second, .val (.long (4 : Int64)), .second] [(.ref b142)])) rfl (by rw [hml]; rfl) (Steps.refl _) (argsL := []) (rest := []) (lenOf own_pd20 rfl) rfl (by show 2 * 0 + _ ≤ _; exact Nat.le_of_eq rfl) (hb hby at_203) (fun _ _ => ⟨rfl, e151, (by decide : 6 + 0 ≤ _), (by decide : 81 + 0 ≤ _)⟩)
        dsimp only [Pt.U, Pt.locs, Pt.cells, Pt.slots] at X152 l152 y152 z152 st152 hQ152
        subst l152 y152 z152
        obtain ⟨rfl, Nq152, e152⟩ := hQ152
        have N152 := Fr.app N151 Nq152
        refine otr (S' := T152.setTop (mkF m 206 #[.val (.int ki_), .val (.int si_), .val (.int fr_), .val (.int bk_), .val (.long mo_), .second, .val (.int (0 : Int32)), .val (.ref s_CHARACTERS), .val (.int (4 : Int32)), .val (.ref b2), .val (.ref x_137), .val (.int ((own_ushr si_ (8 : Int32)) &&& (63 : Int32))), .val (.ref b140), .val (.ref b142), .val (.ref x_137), .val (.long (4 : Int64)), .second, .val (.long (4 : Int64)), .second] [(.long mo_)])) st152 ?_
        refine o_lload X152 hx (hb hby at_206) rfl ?_
        refine o_lcmp X152 hx (hb hby at_208) ?_
        refine o_ifNo X152 hx (hb hby at_209) (teq ((lw_eq _ _).mpr (rfl : mo_ = mo_))).2 ?_
        refine o_iconst X152 hx (1 : Int32) (hb hby at_212) rfl ?_
        refine o_goto X152 hx 217 (hb hby at_213) (by decide) (by decide) ?_
        refine oendS X152 hlk hS0 (Nat.le_trans (Nat.zero_le _) (Nat.le_trans (Nat.le_trans (Nat.le_trans (Nat.le_trans (Nat.le_trans (Nat.le_trans (Nat.le_trans (Nat.le_trans E2.1 (Keep.of_wr W5).1) (Keep.of_wr W8).1) (Keep.of_wr W11).1) (Keep.of_wr W14).1) K137.1) E140.1) E142.1) K144.1)) e152 hZ hEL hs0 (CHr.trans (CHr.trans (CHr.trans (CHr.trans (CHr.trans (CHr.trans (CHr.trans (CHr.trans (CHr.trans (CHr.refl H0) (CHr.ext E2 H0)) (CHr.wr W5 (Safe.exa hZ.alike Ex2 (by decide) (by decide)) H3)) (CHr.wr W8 (Safe.exa hZ.alike (Exa.wr W5 Ex2) (by decide) (by decide)) H6)) (CHr.wr W11 (Safe.exa hZ.alike (Exa.wr W8 (Exa.wr W5 Ex2)) (by decide) (by decide)) H9)) (CHr.wr W14 (Safe.exa hZ.alike (Exa.wr W11 (Exa.wr W8 (Exa.wr W5 Ex2))) (by decide) (by decide)) H12)) (CHr.keep K137 all0 H15)) (CHr.ext E140 H139)) (CHr.ext E142 H141)) (CHr.keep K144 (allS (Safe.exa hZ.alike A142 (by decide) (by decide)) all0) H143)) (v := some (.int (1 : Int32))) (fun h => by rw [hret] at h; cases h) (fun fs hr => retN X152 hx (t := .boolean) hret (by simp) (hb hby at_217) hr) (by decide) (by decide) ?_
        show own_Q_law Z _ _ _ _ _ _ _ _ _ _ h0 n0 _ T152.heap _
        rw [e152]
        exact ⟨rfl, N152, ((((((((((Keep.refl h0 []).ext E2).wr W5 (Or.inr (Nat.le_trans (Nat.le_refl _) (Nat.le_of_eq g2.symm)))).wr W8 (Or.inr (Nat.le_trans (Nat.le_refl _) (Nat.le_of_eq g2.symm)))).wr W11 (Or.inr (Nat.le_trans (Nat.le_refl _) (Nat.le_of_eq g2.symm)))).wr W14 (Or.inr (Nat.le_trans (Nat.le_refl _) (Nat.le_of_eq g2.symm)))).trans K137 all0).ext E140).ext E142).trans K144 (allS (Or.inr (Nat.le_trans (Nat.le_trans (Nat.le_trans (Nat.le_trans (Nat.le_trans (Nat.le_trans (Nat.le_trans E2.1 (Keep.of_wr W5).1) (Keep.of_wr W8).1) (Keep.of_wr W11).1) (Keep.of_wr W14).1) K137.1) E140.1) (Nat.le_of_eq g142.symm))) all0))⟩
      · refine o_iload X144 hx (hb hby at_124) rfl ?_
        refine o_iconst X144 hx (2 : Int32) (hb hby at_126) rfl ?_
        refine o_icmpYes X144 hx 142 (hb hby at_127) (feq (by decide : ¬ ((1 : Int32) = (2 : Int32)))).2 (by decide) (by decide) ?_
        refine o_iload X144 hx (hb hby at_142) rfl ?_
        refine o_iconst X144 hx (1 : Int32) (hb hby at_144) rfl ?_
        refine o_icmpNo X144 hx (hb hby at_145) (teq (by decide : (1 : Int32) = (1 : Int32))).2 ?_
        refine o_aload X144 hx (hb hby at_148) rfl rfl ?_
        refine o_astore X144 hx (l' := #[.val (.int ki_), .val (.int si_), .val (.int fr_), .val (.int bk_), .val (.long mo_), .second, .val (.int (1 : Int32)), .val (.ref s_CHARACTERS_BUT_TRAILING_SPACES), .val (.int (4 : Int32)), .val (.ref b2), .val (.ref x_137), .val (.int ((own_ushr si_ (8 : Int32)) &&& (63 : Int32))), .val (.ref b140), .val (.ref b142), .val (.ref x_137), .unset, .unset, .unset, .unset]) (hb hby at_150) rfl rfl ?_
        refine o_aload X144 hx (hb hby at_152) rfl rfl ?_
        refine o_iload X144 hx (hb hby at_154) rfl ?_
        have c154 := ((((c138.keep K137 all0).ext E140).ext E142).keep K144 (allS n0_b142 all0))
        have c155 := ((((V14.keep K137 nin0).ext E140).ext E142).keep K144 (ninS (Nat.ne_of_lt (Nat.lt_of_lt_of_le (Nat.lt_of_lt_of_le V2.lt (Nat.le_trans (Nat.le_trans (Nat.le_trans (Nat.le_trans (Nat.le_trans (Keep.of_wr W5).1 (Keep.of_wr W8).1) (Keep.of_wr W11).1) (Keep.of_wr W14).1) K137.1) E140.1)) (Nat.le_of_eq g142.symm))) nin0))
        obtain ⟨_, _, ⟨T153, L153, kc153, n153⟩, -, X153, ⟨Lc153, hQ153, l153, y153, z153⟩, st153⟩ := Jvm.LawKit.callS X144 hx (y := yM11) hown (mvT hZ w86) (mvT hZ w87) (mvT hZ w7) (mvT hZ w88) (by decide) (backOf (W := 0) (rm_trimmed_4 l Z a0 hw []  b2 k2 u0 u1 u2 u3 T144.heap n0 c154 c155) hZ w88 w7 (by decide) (by decide)) (g := (mkF m 156 #[.val (.int ki_), .val (.int si_), .val (.int fr_), .val (.int bk_), .val (.long mo_), .second, .val (.int (1 : Int32)), .val (.ref s_CHARACTERS_BUT_TRAILING_SPACES), .val (.int (4 : Int32)), .val (.ref b2), .val (.ref x_137), .val (.int ((own_ushr si_ (8 : Int32)) &&& (63 : Int32))), .val (.ref b140), .val (.ref b142), .val (.ref x_137), .unset, .unset, .unset, .unset] [(.int (4 : Int32)), (.ref b2)])) rfl (by rw [hml]; rfl) (argsL := [(.ref b2), (.int (4 : Int32))]) (rest := []) (lenOf own_pd21 rfl) rfl (by show 2 * 0 + _ ≤ _; exact Nat.le_of_eq rfl) (hb hby at_156) (fun _ _ => ⟨rfl, rfl, (by decide : 6 + 0 ≤ _), (by decide : 81 + 0 ≤ _)⟩)
        dsimp only [Pt.U, Pt.locs, Pt.cells, Pt.slots] at X153 l153 y153 z153 st153 hQ153
        subst l153 y153 z153
        obtain ⟨rfl, Nq153, e153⟩ := hQ153
        have N153 := Fr.app N144 Nq153
        refine ogo (S' := T153.setTop (mkF m 159 #[.val (.int ki_), .val (.int si_), .val (.int fr_), .val (.int bk_), .val (.long mo_), .second, .val (.int (1 : Int32)), .val (.ref s_CHARACTERS_BUT_TRAILING_SPACES), .val (.int (4 : Int32)), .val (.ref b2), .val (.ref x_137), .val (.int ((own_ushr si_ (8 : Int32)) &&& (63 : Int32))), .val (.ref b140), .val (.ref b142), .val (.ref x_137), .unset, .unset, .unset, .unset] [(.int (own_tr4 u0 u1 u2 u3))])) st153 ?_
        refine o_i2l X153 hx (hb hby at_159) ?_
        refine o_lstore X153 hx (l' := #[.val (.int ki_), .val (.int si_), .val (.int fr_), .val (.int bk_), .val (.long mo_), .second, .val (.int (1 : Int32)), .val (.ref s_CHARACTERS_BUT_TRAILING_SPACES), .val (.int (4 : Int32)), .val (.ref b2), .val (.ref x_137), .val (.int ((own_ushr si_ (8 : Int32)) &&& (63 : Int32))), .val (.ref b140), .val (.ref b142), .val (.ref x_137), .val (.long (own_tr4 u0 u1 u2 u3).toInt64), .second, .unset, .unset]) (hb hby at_160) rfl ?_
        refine o_goto X153 hx 174 (hb hby at_162) (by decide) (by decide) ?_
        refine o_aload X153 hx (hb hby at_174) rfl rfl ?_
        refine o_aload X153 hx (hb hby at_176) rfl rfl ?_
        have c157 := ((Fld.ext E142 (Fld.ext E140 p137_3)).keep K144 (ninS (Nat.ne_of_lt (Nat.lt_of_lt_of_le (Nat.lt_of_lt_of_le p137_2.lt E140.1) (Nat.le_of_eq g142.symm))) nin0))
        have c158 := ((Fld.ext E142 (Fld.ext E140 p137_4)).keep K144 (ninS (Nat.ne_of_lt (Nat.lt_of_lt_of_le (Nat.lt_of_lt_of_le p137_2.lt E140.1) (Nat.le_of_eq g142.symm))) nin0))
        have c159 := (((p137_5.ext E140).ext E142).keep K144 (ninS (Nat.ne_of_lt (Nat.lt_of_lt_of_le (Nat.lt_of_lt_of_le p137_1 E140.1) (Nat.le_of_eq g142.symm))) nin0))
        obtain ⟨cq156, kq156, q156a, q156b, q156c⟩ := isOf hZ e153 p144_0
        obtain ⟨_, _, ⟨T156, L156, kc156, n156⟩, -, X156, ⟨Lc156, hQ156, l156, y156, z156⟩, st156⟩ := X153.virtualBack hx (y := yM15) (z := yM15) hown (mvT hZ w52) (mvT hZ w53) (notFace_of_selects (args := #[]) (mvT hZ w55)) (mvT hZ w55) (mvT hZ w54) (by decide) (backOf (W := 0) (rm_of_trail_4 l Z a0 hw [] s_CHARACTERS s_BYTES s_CHARACTERS_BUT_TRAILING_SPACES z_CS v_FMT b142 x_137 ba_137 kb_137 u0 u1 u2 u3 T144.heap n0 SB c154 p144_1 ((Exa.ext E142 (Exa.ext E140 p137_2)).keep K144) c157 c158 c159 (own_sm0 hv0) (own_sm0 hv1) (own_sm0 hv2) (own_sm0 hv3) (own_sm255 hv0) (own_sm255 hv1) (own_sm255 hv2) (own_sm255 hv3)) hZ w56 w43 (by decide) (by decide)) q156a q156c (g := (mkF m 178 #[.val (.int ki_), .val (.int si_), .val (.int fr_), .val (.int bk_), .val (.long mo_), .second, .val (.int (1 : Int32)), .val (.ref s_CHARACTERS_BUT_TRAILING_SPACES), .val (.int (4 : Int32)), .val (.ref b2), .val (.ref x_137), .val (.int ((own_ushr si_ (8 : Int32)) &&& (63 : Int32))), .val (.ref b140), .val (.ref b142), .val (.ref x_137), .val (.long (own_tr4 u0 u1 u2 u3).toInt64), .second, .unset, .unset] [(.ref x_137), (.ref b142)])) rfl (by rw [hml]; rfl) (Steps.refl _) (argsL := [(.ref x_137)]) (rest := []) (lenOf own_pd18 rfl) rfl (by show 2 * 0 + _ ≤ _; exact Nat.le_of_eq rfl) (hb hby at_178) (fun _ _ => ⟨rfl, e153, (by decide : 6 + 0 ≤ _), (by decide : 81 + 0 ≤ _)⟩)
        dsimp only [Pt.U, Pt.locs, Pt.cells, Pt.slots] at X156 l156 y156 z156 st156 hQ156
        subst l156 y156 z156
        obtain ⟨rfl, Nq156, e156⟩ := hQ156
        have N156 := Fr.app N153 Nq156
        refine otr (S' := T156.setTop (mkF m 181 #[.val (.int ki_), .val (.int si_), .val (.int fr_), .val (.int bk_), .val (.long mo_), .second, .val (.int (1 : Int32)), .val (.ref s_CHARACTERS_BUT_TRAILING_SPACES), .val (.int (4 : Int32)), .val (.ref b2), .val (.ref x_137), .val (.int ((own_ushr si_ (8 : Int32)) &&& (63 : Int32))), .val (.ref b140), .val (.ref b142), .val (.ref x_137), .val (.long (own_tr4 u0 u1 u2 u3).toInt64), .second, .unset, .unset] [(.long (own_tr4 u0 u1 u2 u3).toInt64)])) st156 ?_
        refine o_lstore X156 hx (l' := #[.val (.int ki_), .val (.int si_), .val (.int fr_), .val (.int bk_), .val (.long mo_), .second, .val (.int (1 : Int32)), .val (.ref s_CHARACTERS_BUT_TRAILING_SPACES), .val (.int (4 : Int32)), .val (.ref b2), .val (.ref x_137), .val (.int ((own_ushr si_ (8 : Int32)) &&& (63 : Int32))), .val (.ref b140), .val (.ref b142), .val (.ref x_137), .val (.long (own_tr4 u0 u1 u2 u3).toInt64), .second, .val (.long (own_tr4 u0 u1 u2 u3).toInt64), .second]) (hb hby at_181) rfl ?_
        refine o_lload X156 hx (hb hby at_183) rfl ?_
        refine o_lload X156 hx (hb hby at_185) rfl ?_
        refine o_lcmp X156 hx (hb hby at_187) ?_
        refine o_ifNo X156 hx (hb hby at_188) (teq ((lw_eq _ _).mpr (rfl : (own_tr4 u0 u1 u2 u3).toInt64 = (own_tr4 u0 u1 u2 u3).toInt64))).2 ?_
        refine o_aload X156 hx (hb hby at_191) rfl rfl ?_
        obtain ⟨cq160, kq160, q160a, q160b, q160c⟩ := isOf hZ e156 p144_0
        obtain ⟨_, _, ⟨T160, L160, kc160, n160⟩, -, X160, ⟨Lc160, hQ160, l160, y160, z160⟩, st160⟩ := X156.virtualBack hx (y := yM13) (z := yM13) hown (mvT hZ w72) (mvT hZ w73) (notFace_of_selects (args := #[]) (mvT hZ w75)) (mvT hZ w75) (mvT hZ w74) (by decide) (backOf (W := 0) (rm_unit l Z a0 hw []  b142 s_CHARACTERS_BUT_TRAILING_SPACES T144.heap n0 c154 p144_1) hZ w76 w43 (by decide) (by decide)) q160a q160c (g := (mkF m 193 #[.val (.int ki_), .val (.int si_), .val (.int fr_), .val (.int bk_), .val (.long mo_), .second, .val (.int (1 : Int32)), .val (.ref s_CHARACTERS_BUT_TRAILING_SPACES), .val (.int (4 : Int32)), .val (.ref b2), .val (.ref x_137), .val (.int ((own_ushr si_ (8 : Int32)) &&& (63 : Int32))), .val (.ref b140), .val (.ref b142), .val (.ref x_137), .val (.long (own_tr4 u0 u1 u2 u3).toInt64), .second, .val (.long (own_tr4 u0 u1 u2 u3).toInt64), .second] [(.ref b142)])) rfl (by rw [hml]; rfl) (Steps.refl _) (argsL := []) (rest := []) (lenOf own_pd19 rfl) rfl (by show 2 * 0 + _ ≤ _; exact Nat.le_of_eq rfl) (hb hby at_193) (fun _ _ => ⟨rfl, e156, (by decide : 6 + 0 ≤ _), (by decide : 81 + 0 ≤ _)⟩)
        dsimp only [Pt.U, Pt.locs, Pt.cells, Pt.slots] at X160 l160 y160 z160 st160 hQ160
        subst l160 y160 z160
        obtain ⟨rfl, Nq160, e160⟩ := hQ160
        have N160 := Fr.app N156 Nq160
        refine otr (S' := T160.setTop (mkF m 196 #[.val (.int ki_), .val (.int si_), .val (.int fr_), .val (.int bk_), .val (.long mo_), .second, .val (.int (1 : Int32)), .val (.ref s_CHARACTERS_BUT_TRAILING_SPACES), .val (.int (4 : Int32)), .val (.ref b2), .val (.ref x_137), .val (.int ((own_ushr si_ (8 : Int32)) &&& (63 : Int32))), .val (.ref b140), .val (.ref b142), .val (.ref x_137), .val (.long (own_tr4 u0 u1 u2 u3).toInt64), .second, .val (.long (own_tr4 u0 u1 u2 u3).toInt64), .second] [(.ref s_CHARACTERS_BUT_TRAILING_SPACES)])) st160 ?_
        refine o_aload X160 hx (hb hby at_196) rfl rfl ?_
        refine o_acmp X160 hx 201 true rfl rfl (hb hby at_198) (decide_eq_true rfl) (by decide) (by decide) ?_
        refine o_aload X160 hx (hb hby at_201) rfl rfl ?_
        obtain ⟨cq161, kq161, q161a, q161b, q161c⟩ := isOf hZ e160 p144_0
        obtain ⟨_, _, ⟨T161, L161, kc161, n161⟩, -, X161, ⟨Lc161, hQ161, l161, y161, z161⟩, st161⟩ := X160.virtualBack hx (y := yM14) (z := yM14) hown (mvT hZ w77) (mvT hZ w78) (notFace_of_selects (args := #[]) (mvT hZ w80)) (mvT hZ w80) (mvT hZ w79) (by decide) (backOf (W := 0) (rm_most l Z a0 hw []  b142 mo_ T144.heap n0 c154 p144_2) hZ w81 w43 (by decide) (by decide)) q161a q161c (g := (mkF m 203 #[.val (.int ki_), .val (.int si_), .val (.int fr_), .val (.int bk_), .val (.long mo_), .second, .val (.int (1 : Int32)), .val (.ref s_CHARACTERS_BUT_TRAILING_SPACES), .val (.int (4 : Int32)), .val (.ref b2), .val (.ref x_137), .val (.int ((own_ushr si_ (8 : Int32)) &&& (63 : Int32))), .val (.ref b140), .val (.ref b142), .val (.ref x_137), .val (.long (own_tr4 u0 u1 u2 u3).toInt64), .second, .val (.long (own_tr4 u0 u1 u2 u3).toInt64), .second] [(.ref b142)])) rfl (by rw [hml]; rfl) (Steps.refl _) (argsL := []) (rest := []) (lenOf own_pd20 rfl) rfl (by show 2 * 0 + _ ≤ _; exact Nat.le_of_eq rfl) (hb hby at_203) (fun _ _ => ⟨rfl, e160, (by decide : 6 + 0 ≤ _), (by decide : 81 + 0 ≤ _)⟩)
        dsimp only [Pt.U, Pt.locs, Pt.cells, Pt.slots] at X161 l161 y161 z161 st161 hQ161
        subst l161 y161 z161
        obtain ⟨rfl, Nq161, e161⟩ := hQ161
        have N161 := Fr.app N160 Nq161
        refine otr (S' := T161.setTop (mkF m 206 #[.val (.int ki_), .val (.int si_), .val (.int fr_), .val (.int bk_), .val (.long mo_), .second, .val (.int (1 : Int32)), .val (.ref s_CHARACTERS_BUT_TRAILING_SPACES), .val (.int (4 : Int32)), .val (.ref b2), .val (.ref x_137), .val (.int ((own_ushr si_ (8 : Int32)) &&& (63 : Int32))), .val (.ref b140), .val (.ref b142), .val (.ref x_137), .val (.long (own_tr4 u0 u1 u2 u3).toInt64), .second, .val (.long (own_tr4 u0 u1 u2 u3).toInt64), .second] [(.long mo_)])) st161 ?_
        refine o_lload X161 hx (hb hby at_206) rfl ?_
        refine o_lcmp X161 hx (hb hby at_208) ?_
        refine o_ifNo X161 hx (hb hby at_209) (teq ((lw_eq _ _).mpr (rfl : mo_ = mo_))).2 ?_
        refine o_iconst X161 hx (1 : Int32) (hb hby at_212) rfl ?_
        refine o_goto X161 hx 217 (hb hby at_213) (by decide) (by decide) ?_
        refine oendS X161 hlk hS0 (Nat.le_trans (Nat.zero_le _) (Nat.le_trans (Nat.le_trans (Nat.le_trans (Nat.le_trans (Nat.le_trans (Nat.le_trans (Nat.le_trans (Nat.le_trans E2.1 (Keep.of_wr W5).1) (Keep.of_wr W8).1) (Keep.of_wr W11).1) (Keep.of_wr W14).1) K137.1) E140.1) E142.1) K144.1)) e161 hZ hEL hs0 (CHr.trans (CHr.trans (CHr.trans (CHr.trans (CHr.trans (CHr.trans (CHr.trans (CHr.trans (CHr.trans (CHr.refl H0) (CHr.ext E2 H0)) (CHr.wr W5 (Safe.exa hZ.alike Ex2 (by decide) (by decide)) H3)) (CHr.wr W8 (Safe.exa hZ.alike (Exa.wr W5 Ex2) (by decide) (by decide)) H6)) (CHr.wr W11 (Safe.exa hZ.alike (Exa.wr W8 (Exa.wr W5 Ex2)) (by decide) (by decide)) H9)) (CHr.wr W14 (Safe.exa hZ.alike (Exa.wr W11 (Exa.wr W8 (Exa.wr W5 Ex2))) (by decide) (by decide)) H12)) (CHr.keep K137 all0 H15)) (CHr.ext E140 H139)) (CHr.ext E142 H141)) (CHr.keep K144 (allS (Safe.exa hZ.alike A142 (by decide) (by decide)) all0) H143)) (v := some (.int (1 : Int32))) (fun h => by rw [hret] at h; cases h) (fun fs hr => retN X161 hx (t := .boolean) hret (by simp) (hb hby at_217) hr) (by decide) (by decide) ?_
        show own_Q_law Z _ _ _ _ _ _ _ _ _ _ h0 n0 _ T161.heap _
        rw [e161]
        exact ⟨rfl, N161, ((((((((((Keep.refl h0 []).ext E2).wr W5 (Or.inr (Nat.le_trans (Nat.le_refl _) (Nat.le_of_eq g2.symm)))).wr W8 (Or.inr (Nat.le_trans (Nat.le_refl _) (Nat.le_of_eq g2.symm)))).wr W11 (Or.inr (Nat.le_trans (Nat.le_refl _) (Nat.le_of_eq g2.symm)))).wr W14 (Or.inr (Nat.le_trans (Nat.le_refl _) (Nat.le_of_eq g2.symm)))).trans K137 all0).ext E140).ext E142).trans K144 (allS (Or.inr (Nat.le_trans (Nat.le_trans (Nat.le_trans (Nat.le_trans (Nat.le_trans (Nat.le_trans (Nat.le_trans E2.1 (Keep.of_wr W5).1) (Keep.of_wr W8).1) (Keep.of_wr W11).1) (Keep.of_wr W14).1) K137.1) E140.1) (Nat.le_of_eq g142.symm))) all0))⟩
      · refine o_iload X144 hx (hb hby at_124) rfl ?_
        refine o_iconst X144 hx (2 : Int32) (hb hby at_126) rfl ?_
        refine o_icmpNo X144 hx (hb hby at_127) (teq (by decide : (2 : Int32) = (2 : Int32))).2 ?_
        refine o_aload X144 hx (hb hby at_130) rfl rfl ?_
        refine o_astore X144 hx (l' := #[.val (.int ki_), .val (.int si_), .val (.int fr_), .val (.int bk_), .val (.long mo_), .second, .val (.int (2 : Int32)), .val (.ref s_BYTES), .val (.int (4 : Int32)), .val (.ref b2), .val (.ref x_137), .val (.int ((own_ushr si_ (8 : Int32)) &&& (63 : Int32))), .val (.ref b140), .val (.ref b142), .val (.ref b140), .unset, .unset, .unset, .unset]) (hb hby at_132) rfl rfl ?_
        refine o_iload X144 hx (hb hby at_134) rfl ?_
        refine o_i2l X144 hx (hb hby at_136) ?_
        refine o_lstore X144 hx (l' := #[.val (.int ki_), .val (.int si_), .val (.int fr_), .val (.int bk_), .val (.long mo_), .second, .val (.int (2 : Int32)), .val (.ref s_BYTES), .val (.int (4 : Int32)), .val (.ref b2), .val (.ref x_137), .val (.int ((own_ushr si_ (8 : Int32)) &&& (63 : Int32))), .val (.ref b140), .val (.ref b142), .val (.ref b140), .val (.long ((own_ushr si_ (8 : Int32)) &&& (63 : Int32)).toInt64), .second, .unset, .unset]) (hb hby at_137) rfl ?_
        refine o_goto X144 hx 174 (hb hby at_139) (by decide) (by decide) ?_
        refine o_aload X144 hx (hb hby at_174) rfl rfl ?_
        refine o_aload X144 hx (hb hby at_176) rfl rfl ?_
        have c163 := ((((c138.keep K137 all0).ext E140).ext E142).keep K144 (allS n0_b142 all0))
        have c164 := ((V140.ext E142).keep K144 (ninS (Nat.ne_of_lt (Nat.lt_of_lt_of_le (Nat.lt_of_lt_of_le V140.lt (Nat.le_refl _)) (Nat.le_of_eq g142.symm))) nin0))
        obtain ⟨cq162, kq162, q162a, q162b, q162c⟩ := isOf hZ rfl p144_0
        obtain ⟨_, _, ⟨T162, L162, kc162, n162⟩, -, X162, ⟨Lc162, hQ162, l162, y162, z162⟩, st162⟩ := X144.virtualBack hx (y := yM15) (z := yM15) hown (mvT hZ w52) (mvT hZ w53) (notFace_of_selects (args := #[]) (mvT hZ w55)) (mvT hZ w55) (mvT hZ w54) (by decide) (backOf (W := 0) (rm_of_bytes l Z a0 hw [] s_CHARACTERS s_BYTES s_CHARACTERS_BUT_TRAILING_SPACES z_CS v_FMT b142 b140 k140 ((own_ushr si_ (8 : Int32)) &&& (63 : Int32)) T144.heap n0 SB c163 p144_1 ((Exa.ext E142 Ex140).keep K144) c164) hZ w56 w43 (by decide) (by decide)) q162a q162c (g := (mkF m 178 #[.val (.int ki_), .val (.int si_), .val (.int fr_), .val (.int bk_), .val (.long mo_), .second, .val (.int (2 : Int32)), .val (.ref s_BYTES), .val (.int (4 : Int32)), .val (.ref b2), .val (.ref x_137), .val (.int ((own_ushr si_ (8 : Int32)) &&& (63 : Int32))), .val (.ref b140), .val (.ref b142), .val (.ref b140), .val (.long ((own_ushr si_ (8 : Int32)) &&& (63 : Int32)).toInt64), .second, .unset, .unset] [(.ref b140), (.ref b142)])) rfl (by rw [hml]; rfl) (Steps.refl _) (argsL := [(.ref b140)]) (rest := []) (lenOf own_pd18 rfl) rfl (by show 2 * 0 + _ ≤ _; exact Nat.le_of_eq rfl) (hb hby at_178) (fun _ _ => ⟨rfl, rfl, (by decide : 6 + 0 ≤ _), (by decide : 81 + 0 ≤ _)⟩)
        dsimp only [Pt.U, Pt.locs, Pt.cells, Pt.slots] at X162 l162 y162 z162 st162 hQ162
        subst l162 y162 z162
        obtain ⟨rfl, Nq162, e162⟩ := hQ162
        have N162 := Fr.app N144 Nq162
        refine otr (S' := T162.setTop (mkF m 181 #[.val (.int ki_), .val (.int si_), .val (.int fr_), .val (.int bk_), .val (.long mo_), .second, .val (.int (2 : Int32)), .val (.ref s_BYTES), .val (.int (4 : Int32)), .val (.ref b2), .val (.ref x_137), .val (.int ((own_ushr si_ (8 : Int32)) &&& (63 : Int32))), .val (.ref b140), .val (.ref b142), .val (.ref b140), .val (.long ((own_ushr si_ (8 : Int32)) &&& (63 : Int32)).toInt64), .second, .unset, .unset] [(.long ((own_ushr si_ (8 : Int32)) &&& (63 : Int32)).toInt64)])) st162 ?_
        refine o_lstore X162 hx (l' := #[.val (.int ki_), .val (.int si_), .val (.int fr_), .val (.int bk_), .val (.long mo_), .second, .val (.int (2 : Int32)), .val (.ref s_BYTES), .val (.int (4 : Int32)), .val (.ref b2), .val (.ref x_137), .val (.int ((own_ushr si_ (8 : Int32)) &&& (63 : Int32))), .val (.ref b140), .val (.ref b142), .val (.ref b140), .val (.long ((own_ushr si_ (8 : Int32)) &&& (63 : Int32)).toInt64), .second, .val (.long ((own_ushr si_ (8 : Int32)) &&& (63 : Int32)).toInt64), .second]) (hb hby at_181) rfl ?_
        refine o_lload X162 hx (hb hby at_183) rfl ?_
        refine o_lload X162 hx (hb hby at_185) rfl ?_
        refine o_lcmp X162 hx (hb hby at_187) ?_
        refine o_ifNo X162 hx (hb hby at_188) (teq ((lw_eq _ _).mpr (rfl : ((own_ushr si_ (8 : Int32)) &&& (63 : Int32)).toInt64 = ((own_ushr si_ (8 : Int32)) &&& (63 : Int32)).toInt64))).2 ?_
        refine o_aload X162 hx (hb hby at_191) rfl rfl ?_
        obtain ⟨cq165, kq165, q165a, q165b, q165c⟩ := isOf hZ e162 p144_0
        obtain ⟨_, _, ⟨T165, L165, kc165, n165⟩, -, X165, ⟨Lc165, hQ165, l165, y165, z165⟩, st165⟩ := X162.virtualBack hx (y := yM13) (z := yM13) hown (mvT hZ w72) (mvT hZ w73) (notFace_of_selects (args := #[]) (mvT hZ w75)) (mvT hZ w75) (mvT hZ w74) (by decide) (backOf (W := 0) (rm_unit l Z a0 hw []  b142 s_BYTES T144.heap n0 c163 p144_1) hZ w76 w43 (by decide) (by decide)) q165a q165c (g := (mkF m 193 #[.val (.int ki_), .val (.int si_), .val (.int fr_), .val (.int bk_), .val (.long mo_), .second, .val (.int (2 : Int32)), .val (.ref s_BYTES), .val (.int (4 : Int32)), .val (.ref b2), .val (.ref x_137), .val (.int ((own_ushr si_ (8 : Int32)) &&& (63 : Int32))), .val (.ref b140), .val (.ref b142), .val (.ref b140), .val (.long ((own_ushr si_ (8 : Int32)) &&& (63 : Int32)).toInt64), .second, .val (.long ((own_ushr si_ (8 : Int32)) &&& (63 : Int32)).toInt64), .second] [(.ref b142)])) rfl (by rw [hml]; rfl) (Steps.refl _) (argsL := []) (rest := []) (lenOf own_pd19 rfl) rfl (by show 2 * 0 + _ ≤ _; exact Nat.le_of_eq rfl) (hb hby at_193) (fun _ _ => ⟨rfl, e162, (by decide : 6 + 0 ≤ _), (by decide : 81 + 0 ≤ _)⟩)
        dsimp only [Pt.U, Pt.locs, Pt.cells, Pt.slots] at X165 l165 y165 z165 st165 hQ165
        subst l165 y165 z165
        obtain ⟨rfl, Nq165, e165⟩ := hQ165
        have N165 := Fr.app N162 Nq165
        refine otr (S' := T165.setTop (mkF m 196 #[.val (.int ki_), .val (.int si_), .val (.int fr_), .val (.int bk_), .val (.long mo_), .second, .val (.int (2 : Int32)), .val (.ref s_BYTES), .val (.int (4 : Int32)), .val (.ref b2), .val (.ref x_137), .val (.int ((own_ushr si_ (8 : Int32)) &&& (63 : Int32))), .val (.ref b140), .val (.ref b142), .val (.ref b140), .val (.long ((own_ushr si_ (8 : Int32)) &&& (63 : Int32)).toInt64), .second, .val (.long ((own_ushr si_ (8 : Int32)) &&& (63 : Int32)).toInt64), .second] [(.ref s_BYTES)])) st165 ?_
        refine o_aload X165 hx (hb hby at_196) rfl rfl ?_
        refine o_acmp X165 hx 201 true rfl rfl (hb hby at_198) (decide_eq_true rfl) (by decide) (by decide) ?_
        refine o_aload X165 hx (hb hby at_201) rfl rfl ?_
        obtain ⟨cq166, kq166, q166a, q166b, q166c⟩ := isOf hZ e165 p144_0
        obtain ⟨_, _, ⟨T166, L166, kc166, n166⟩, -, X166, ⟨Lc166, hQ166, l166, y166, z166⟩, st166⟩ := X165.virtualBack hx (y := yM14) (z := yM14) hown (mvT hZ w77) (mvT hZ w78) (notFace_of_selects (args := #[]) (mvT hZ w80)) (mvT hZ w80) (mvT hZ w79) (by decide) (backOf (W := 0) (rm_most l Z a0 hw []  b142 mo_ T144.heap n0 c163 p144_2) hZ w81 w43 (by decide) (by decide)) q166a q166c (g := (mkF m 203 #[.val (.int ki_), .val (.int si_), .val (.int fr_), .val (.int bk_), .val (.long mo_), .second, .val (.int (2 : Int32)), .val (.ref s_BYTES), .val (.int (4 : Int32)), .val (.ref b2), .val (.ref x_137), .val (.int ((own_ushr si_ (8 : Int32)) &&& (63 : Int32))), .val (.ref b140), .val (.ref b142), .val (.ref b140), .val (.long ((own_ushr si_ (8 : Int32)) &&& (63 : Int32)).toInt64), .second, .val (.long ((own_ushr si_ (8 : Int32)) &&& (63 : Int32)).toInt64), .second] [(.ref b142)])) rfl (by rw [hml]; rfl) (Steps.refl _) (argsL := []) (rest := []) (lenOf own_pd20 rfl) rfl (by show 2 * 0 + _ ≤ _; exact Nat.le_of_eq rfl) (hb hby at_203) (fun _ _ => ⟨rfl, e165, (by decide : 6 + 0 ≤ _), (by decide : 81 + 0 ≤ _)⟩)
        dsimp only [Pt.U, Pt.locs, Pt.cells, Pt.slots] at X166 l166 y166 z166 st166 hQ166
        subst l166 y166 z166
        obtain ⟨rfl, Nq166, e166⟩ := hQ166
        have N166 := Fr.app N165 Nq166
        refine otr (S' := T166.setTop (mkF m 206 #[.val (.int ki_), .val (.int si_), .val (.int fr_), .val (.int bk_), .val (.long mo_), .second, .val (.int (2 : Int32)), .val (.ref s_BYTES), .val (.int (4 : Int32)), .val (.ref b2), .val (.ref x_137), .val (.int ((own_ushr si_ (8 : Int32)) &&& (63 : Int32))), .val (.ref b140), .val (.ref b142), .val (.ref b140), .val (.long ((own_ushr si_ (8 : Int32)) &&& (63 : Int32)).toInt64), .second, .val (.long ((own_ushr si_ (8 : Int32)) &&& (63 : Int32)).toInt64), .second] [(.long mo_)])) st166 ?_
        refine o_lload X166 hx (hb hby at_206) rfl ?_
        refine o_lcmp X166 hx (hb hby at_208) ?_
        refine o_ifNo X166 hx (hb hby at_209) (teq ((lw_eq _ _).mpr (rfl : mo_ = mo_))).2 ?_
        refine o_iconst X166 hx (1 : Int32) (hb hby at_212) rfl ?_
        refine o_goto X166 hx 217 (hb hby at_213) (by decide) (by decide) ?_
        refine oendS X166 hlk hS0 (Nat.le_trans (Nat.zero_le _) (Nat.le_trans (Nat.le_trans (Nat.le_trans (Nat.le_trans (Nat.le_trans (Nat.le_trans (Nat.le_trans (Nat.le_trans E2.1 (Keep.of_wr W5).1) (Keep.of_wr W8).1) (Keep.of_wr W11).1) (Keep.of_wr W14).1) K137.1) E140.1) E142.1) K144.1)) e166 hZ hEL hs0 (CHr.trans (CHr.trans (CHr.trans (CHr.trans (CHr.trans (CHr.trans (CHr.trans (CHr.trans (CHr.trans (CHr.refl H0) (CHr.ext E2 H0)) (CHr.wr W5 (Safe.exa hZ.alike Ex2 (by decide) (by decide)) H3)) (CHr.wr W8 (Safe.exa hZ.alike (Exa.wr W5 Ex2) (by decide) (by decide)) H6)) (CHr.wr W11 (Safe.exa hZ.alike (Exa.wr W8 (Exa.wr W5 Ex2)) (by decide) (by decide)) H9)) (CHr.wr W14 (Safe.exa hZ.alike (Exa.wr W11 (Exa.wr W8 (Exa.wr W5 Ex2))) (by decide) (by decide)) H12)) (CHr.keep K137 all0 H15)) (CHr.ext E140 H139)) (CHr.ext E142 H141)) (CHr.keep K144 (allS (Safe.exa hZ.alike A142 (by decide) (by decide)) all0) H143)) (v := some (.int (1 : Int32))) (fun h => by rw [hret] at h; cases h) (fun fs hr => retN X166 hx (t := .boolean) hret (by simp) (hb hby at_217) hr) (by decide) (by decide) ?_
        show own_Q_law Z _ _ _ _ _ _ _ _ _ _ h0 n0 _ T166.heap _
        rw [e166]
        exact ⟨rfl, N166, ((((((((((Keep.refl h0 []).ext E2).wr W5 (Or.inr (Nat.le_trans (Nat.le_refl _) (Nat.le_of_eq g2.symm)))).wr W8 (Or.inr (Nat.le_trans (Nat.le_refl _) (Nat.le_of_eq g2.symm)))).wr W11 (Or.inr (Nat.le_trans (Nat.le_refl _) (Nat.le_of_eq g2.symm)))).wr W14 (Or.inr (Nat.le_trans (Nat.le_refl _) (Nat.le_of_eq g2.symm)))).trans K137 all0).ext E140).ext E142).trans K144 (allS (Or.inr (Nat.le_trans (Nat.le_trans (Nat.le_trans (Nat.le_trans (Nat.le_trans (Nat.le_trans (Nat.le_trans E2.1 (Keep.of_wr W5).1) (Keep.of_wr W8).1) (Keep.of_wr W11).1) (Keep.of_wr W14).1) K137.1) E140.1) (Nat.le_of_eq g142.symm))) all0))⟩
  rcases own_rem3 ki_ with hs167 | hs167 | hs167
  · rw [hs167]
    refine o_iload X0 hx (hb hby at_8) rfl ?_
    refine o_ifNo X0 hx (hb hby at_10) (teq (by decide : (0 : Int32) = (0 : Int32))).2 ?_
    obtain ⟨T168, X168, e168, st168⟩ := getS2 X0 hx hZ hown (host := "") (Or.inl w1) Via.refl e0 (Sta.ext O0.2 S_s_CHARACTERS) (g := (mkF m 13 #[.val (.int ki_), .val (.int si_), .val (.int fr_), .val (.int bk_), .val (.long mo_), .second, .val (.int (0 : Int32)), .unset, .unset, .unset, .unset, .unset, .unset, .unset, .unset, .unset, .unset, .unset, .unset] [])) rfl (hb hby at_13)
    refine ogo (S' := T168.setTop (mkF m 16 #[.val (.int ki_), .val (.int si_), .val (.int fr_), .val (.int bk_), .val (.long mo_), .second, .val (.int (0 : Int32)), .unset, .unset, .unset, .unset, .unset, .unset, .unset, .unset, .unset, .unset, .unset, .unset] [(.ref s_CHARACTERS)])) st168 ?_
    refine o_goto X168 hx 34 (hb hby at_16) (by decide) (by decide) ?_
    refine o_astore X168 hx (l' := #[.val (.int ki_), .val (.int si_), .val (.int fr_), .val (.int bk_), .val (.long mo_), .second, .val (.int (0 : Int32)), .val (.ref s_CHARACTERS), .unset, .unset, .unset, .unset, .unset, .unset, .unset, .unset, .unset, .unset, .unset]) (hb hby at_34) rfl rfl ?_
    exact tl T168 X168 e168 (0 : Int32) s_CHARACTERS (Or.inl ⟨rfl, rfl⟩)
  · rw [hs167]
    refine o_iload X0 hx (hb hby at_8) rfl ?_
    refine o_ifYes X0 hx 19 (hb hby at_10) (feq (by decide : ¬ ((1 : Int32) = (0 : Int32)))).2 (by decide) (by decide) ?_
    refine o_iload X0 hx (hb hby at_19) rfl ?_
    refine o_iconst X0 hx (1 : Int32) (hb hby at_21) rfl ?_
    refine o_icmpNo X0 hx (hb hby at_22) (teq (by decide : (1 : Int32) = (1 : Int32))).2 ?_
    obtain ⟨T169, X169, e169, st169⟩ := getS2 X0 hx hZ hown (host := "") (Or.inl w82) Via.refl e0 (Sta.ext O0.2 S_s_CHARACTERS_BUT_TRAILING_SPACES) (g := (mkF m 25 #[.val (.int ki_), .val (.int si_), .val (.int fr_), .val (.int bk_), .val (.long mo_), .second, .val (.int (1 : Int32)), .unset, .unset, .unset, .unset, .unset, .unset, .unset, .unset, .unset, .unset, .unset, .unset] [])) rfl (hb hby at_25)
    refine ogo (S' := T169.setTop (mkF m 28 #[.val (.int ki_), .val (.int si_), .val (.int fr_), .val (.int bk_), .val (.long mo_), .second, .val (.int (1 : Int32)), .unset, .unset, .unset, .unset, .unset, .unset, .unset, .unset, .unset, .unset, .unset, .unset] [(.ref s_CHARACTERS_BUT_TRAILING_SPACES)])) st169 ?_
    refine o_goto X169 hx 34 (hb hby at_28) (by decide) (by decide) ?_
    refine o_astore X169 hx (l' := #[.val (.int ki_), .val (.int si_), .val (.int fr_), .val (.int bk_), .val (.long mo_), .second, .val (.int (1 : Int32)), .val (.ref s_CHARACTERS_BUT_TRAILING_SPACES), .unset, .unset, .unset, .unset, .unset, .unset, .unset, .unset, .unset, .unset, .unset]) (hb hby at_34) rfl rfl ?_
    exact tl T169 X169 e169 (1 : Int32) s_CHARACTERS_BUT_TRAILING_SPACES (Or.inr (Or.inl ⟨rfl, rfl⟩))
  · rw [hs167]
    refine o_iload X0 hx (hb hby at_8) rfl ?_
    refine o_ifYes X0 hx 19 (hb hby at_10) (feq (by decide : ¬ ((2 : Int32) = (0 : Int32)))).2 (by decide) (by decide) ?_
    refine o_iload X0 hx (hb hby at_19) rfl ?_
    refine o_iconst X0 hx (1 : Int32) (hb hby at_21) rfl ?_
    refine o_icmpYes X0 hx 31 (hb hby at_22) (feq (by decide : ¬ ((2 : Int32) = (1 : Int32)))).2 (by decide) (by decide) ?_
    obtain ⟨T170, X170, e170, st170⟩ := getS2 X0 hx hZ hown (host := "") (Or.inl w89) Via.refl e0 (Sta.ext O0.2 S_s_BYTES) (g := (mkF m 31 #[.val (.int ki_), .val (.int si_), .val (.int fr_), .val (.int bk_), .val (.long mo_), .second, .val (.int (2 : Int32)), .unset, .unset, .unset, .unset, .unset, .unset, .unset, .unset, .unset, .unset, .unset, .unset] [])) rfl (hb hby at_31)
    refine ogo (S' := T170.setTop (mkF m 34 #[.val (.int ki_), .val (.int si_), .val (.int fr_), .val (.int bk_), .val (.long mo_), .second, .val (.int (2 : Int32)), .unset, .unset, .unset, .unset, .unset, .unset, .unset, .unset, .unset, .unset, .unset, .unset] [(.ref s_BYTES)])) st170 ?_
    refine o_astore X170 hx (l' := #[.val (.int ki_), .val (.int si_), .val (.int fr_), .val (.int bk_), .val (.long mo_), .second, .val (.int (2 : Int32)), .val (.ref s_BYTES), .unset, .unset, .unset, .unset, .unset, .unset, .unset, .unset, .unset, .unset, .unset]) (hb hby at_34) rfl rfl ?_
    exact tl T170 X170 e170 (2 : Int32) s_BYTES (Or.inr (Or.inr ⟨rfl, rfl⟩))
set_option maxRecDepth 65536 in
set_option maxHeartbeats 40000000 in
theorem comes_1 {Post : Tables → Env → Array Value → State → Outcome → State → Prop} (hpost : ∀ tb e args s v u, (limb_1_1.after args s (.returned v) u = true ∧ limb_1_2.after args s (.returned v) u = true ∧ True) → ReturnedEndW s (.returned v) u (Jvm.fieldLocs frame_1_writes args s ++ Jvm.arrayLocs frame_1_arrays args s ++ Jvm.staticLocs frame_1_statics s) 24 1280 → Post tb e args s (.returned v) u) :
    ArmFor flags0 classFile x code maxLocals ret World_1 tables_1 room_1 Calls_1 rest_1 Pre_1 Post := by
  intro l hfl _ _ p e ha hc hk s m args below hf hA hF happ hP
  obtain ⟨hcalls, hrest, hpre⟩ := hP
  obtain ⟨-, -, -, hnamed, -, -, -, hat⟩ := (Spec.applies_iff hf).mp happ
  obtain ⟨hg, hn⟩ := and_e (Cond.before_iff.mp (show (Jvm.Cond.and given_1 narrow_1).before args s = true from hpre))
  obtain ⟨g0, gr0⟩ := and_e hg
  obtain ⟨g1, gr1⟩ := and_e gr0
  obtain ⟨g2, gr2⟩ := and_e gr1
  obtain ⟨g3, gr3⟩ := and_e gr2
  obtain ⟨g4, gr4⟩ := and_e gr3
  obtain ⟨w0, w1, w2, w3, w4, rfl⟩ : ∃ w0 w1 w2 w3 w4 : Value, args = #[w0, w1, w2, w3, w4] := by
    have hs : args.size = 5 := by simpa [Cond.value, given_1] using g0
    obtain ⟨L⟩ := args
    match L, hs with
    | [w0, w1, w2, w3, w4], _ => exact ⟨w0, w1, w2, w3, w4, rfl⟩
  have hw := fun d (hd : d ∈ tables_1) => atoms_spec (ws := Jvm.Cond.code x code maxLocals ret :: tables_1) hat d (List.mem_cons_of_mem _ hd)
  obtain ⟨hsets, hown0⟩ := atoms_of _ (rest_1_c_eq ▸ (show rest_1_c.before _ s = true from hrest))
  have hfit : Fit s := fun {y c} hc i hi => by
    obtain ⟨ha, rfl⟩ := Array.getElem?_eq_some_iff.mp hc
    have q := List.all_eq_true.mp ((Array.all_eq_true_iff_forall_mem.mp hF) _ (Array.getElem_mem ha)) i (List.mem_range.mpr hi)
    simpa [Array.getElem?_eq_getElem hi] using q
  obtain ⟨i0, ei0⟩ := is_v g1
  obtain rfl : w0 = (.int i0) := Option.some.inj ei0
  obtain ⟨i1, ei1⟩ := is_v g2
  obtain rfl : w1 = (.int i1) := Option.some.inj ei1
  obtain ⟨i2, ei2⟩ := is_v g3
  obtain rfl : w2 = (.int i2) := Option.some.inj ei2
  obtain ⟨i3, ei3⟩ := is_v g4
  obtain rfl : w3 = (.int i3) := Option.some.inj ei3
  obtain ⟨i4, ei4⟩ := isL_v gr4
  obtain rfl : w4 = (.long i4) := Option.some.inj ei4
  obtain ⟨nw0, hn0⟩ := and_e hn
  obtain ⟨nw1, hn1⟩ := and_e hn0
  obtain ⟨nw2, hn2⟩ := and_e hn1
  obtain ⟨nw3, hn3⟩ := and_e hn2
  obtain ⟨nw4, hn4⟩ := and_e hn3
  obtain ⟨s_CHARACTERS, ev_s_CHARACTERS⟩ := exa_v nw0
  obtain ⟨s_BYTES, ev_s_BYTES⟩ := exa_v nw1
  obtain ⟨s_CHARACTERS_BUT_TRAILING_SPACES, ev_s_CHARACTERS_BUT_TRAILING_SPACES⟩ := exa_v nw4
  obtain ⟨z_CS, ev_CS⟩ := is_v (Cond.before_iff.mp (hsets _ (List.mem_of_getElem? (i := 1) rfl)))
  have n_CS := not_v (Cond.before_iff.mp (hsets _ (List.mem_of_getElem? (i := 2) rfl)))
  obtain ⟨v_FMT, ev_FMT, rf_FMT⟩ := isR_v (Cond.before_iff.mp (hsets _ (List.mem_of_getElem? (i := 8) rfl)))
  have hcw : Jvm.Lit.compactW.before _ s = true := (hsets _ (List.mem_of_getElem? (i := 2) rfl))
  have hCH : CHv s own_EL s.vm s.heap := CHv.start (own_EW hw) (fun q hq => hcalls.1 q hq) hcw (hw _ (List.mem_of_getElem? (i := 30) rfl)) (hw _ (List.mem_of_getElem? (i := 13) rfl))
  have SB : own_Start s s_CHARACTERS s_BYTES s_CHARACTERS_BUT_TRAILING_SPACES z_CS v_FMT := ⟨(Sta.start ev_s_CHARACTERS (Or.inr ⟨(hw _ (List.mem_of_getElem? (i := 2) rfl)), (hw _ (List.mem_of_getElem? (i := 3) rfl))⟩)), (Exa.start ev_s_CHARACTERS nw0), (Sta.start ev_s_BYTES (Or.inr ⟨(hw _ (List.mem_of_getElem? (i := 2) rfl)), (hw _ (List.mem_of_getElem? (i := 58) rfl))⟩)), (Exa.start ev_s_BYTES nw1), (Sta.start ev_s_CHARACTERS_BUT_TRAILING_SPACES (Or.inr ⟨(hw _ (List.mem_of_getElem? (i := 2) rfl)), (hw _ (List.mem_of_getElem? (i := 60) rfl))⟩)), (Exa.start ev_s_CHARACTERS_BUT_TRAILING_SPACES nw4), (Fld.start ((fld_at ev_s_CHARACTERS).symm.trans (Cond.eq_int (Cond.before_iff.mpr nw2) rfl))), (Fld.start ((fld_at ev_s_BYTES).symm.trans (Cond.eq_int (Cond.before_iff.mpr nw3) rfl))), (Fld.start ((fld_at ev_s_CHARACTERS_BUT_TRAILING_SPACES).symm.trans (Cond.eq_int (Cond.before_iff.mpr hn4) rfl))), (Sta.start ev_CS (Or.inl (hsets _ (List.mem_of_getElem? (i := 0) rfl)))), (gotF (Cond.eq_ints ev_CS (Term.int_eval (0))) n_CS), (Sta.start ev_FMT (Or.inl (hsets _ (List.mem_of_getElem? (i := 7) rfl)))), rf_FMT⟩
  obtain ⟨n, o, h1, h2, h3, _, L, rfl, ⟨rfl, N, -⟩, -, hq⟩ := rm_law l s _ hw tables_1 s_CHARACTERS s_BYTES s_CHARACTERS_BUT_TRAILING_SPACES z_CS v_FMT i0 i1 i2 i3 i4 s.heap s.heap.size SB (Old.start s)  p e ha hc hk s m _ below hf ((Spec.applies_iff_loose hf).mp happ).1 ⟨rfl, State.Warmed39.refl s, rfl, hCH⟩ trivial
  refine ⟨n, _, h1, h2, h3, hpost _ _ _ _ _ _ ⟨Cond.after_iff.mpr rfl, Cond.after_iff.mpr (eq_i res_at (Term.int_eval (1)) rfl), trivial⟩ ⟨hq.1, hq.2.1, hq.2.2.1, (hq.2.2.2.sift fun y hy => Or.inr (N y hy)).mono (by decide) (by decide)⟩⟩
theorem main_1_1 : Claimed_1_1 := comes_1 fun _ _ _ _ _ _ h hF => ⟨h.1, hF⟩
theorem main_1_2 : Claimed_1_2 := comes_1 fun _ _ _ _ _ _ h hF => ⟨h.2.1, hF⟩
end Jvm.Pilot.@@N@@
namespace Jvm.Pilot.@@N@@
open Jvm Jvm.ClassFile Sem Op Lib Jvm.Free Jvm.Stand Jvm.Pilot.@@N@@.Jvm.D
/-! MADE BY PROGRAM (witnessworld.py) out of the Statement's table words and the real class files: 22 classes; the members and pool entries that the words name. The judged class is class 1, her method 1. -/
namespace start1
open Jvm.ClassFile
def u (s : String) : CpInfo := .utf8 (stringToUtf16 s)
/-- a pool by its gaps: so many unusable entries, then the entry; so many at the end -/
def gap : Nat → List CpInfo → List CpInfo
  | 0, r => r
  | n + 1, r => .unusable :: gap n r
def poolList (es : List (Nat × CpInfo)) (last : Nat) : List CpInfo := es.foldr (fun e r => gap e.1 (e.2 :: r)) (gap last [])
def pool (es : List (Nat × CpInfo)) (last : Nat) : Array CpInfo := ⟨poolList es last⟩
def fileOf (pool : Array CpInfo) (this : Nat) (attrs : Array Attribute := #[]) (ms : Array MethodInfo := #[]) (fl : Nat := 33) (sup : Nat := 0) (ifs : Array Nat := #[]) (fds : Array FieldInfo := #[]) : ClassFile where
  minorVersion := 0
  majorVersion := 65
  constantPool := pool
  accessFlags := fl
  thisClass := this
  superClass := sup
  interfaces := ifs
  fields := fds
  methods := ms
  attributes := attrs
def plain (name : String) (sup : Option ClassId) : Class where
  name := name
  kind := .ordinary
  loader := none
  accessFlags := 33
  super := sup
  interfaces := #[]
  cf := none
  fields := #[]
  methods := #[]
  instanceTypes := #[]
  staticTypes := #[]
  resolved := #[]
  callSites := []
  init := .initialized
  statics := none
  mirror := none

def pool0 : Array CpInfo := pool [(5, u "<init>"), (0, u "()V"), (1, .class_ 10), (1, u "java/lang/Object")] 113

def k0c0 : Code := { maxStack := 0, maxLocals := 1, code := object_method_1_code, exceptionTable := #[], attributes := #[] }
def k0m0 : Method := { name := "<init>", desc := "()V", sig := { parameters := [], returnType := none }, accessFlags := 1, code := some k0c0 }
/-- java/lang/Object -/
def k0 : Class := { plain "java/lang/Object" none with
  accessFlags := 33
  interfaces := #[]
  cf := some (fileOf pool0 8 #[] #[{ accessFlags := 1, nameIndex := 5, descriptorIndex := 6, attributes := #[] }] 33 0 #[] #[])
  fields := #[]
  methods := #[k0m0]
  instanceTypes := #[]
  staticTypes := #[]
  resolved := Array.replicate 124 none
  statics := none }

def pool1 : Array CpInfo := pool [(2, .class_ 4), (1, u "java/lang/Object"), (0, u "<init>"), (0, u "()V"), (0, .integer 2147483647), (0, .fieldref 9 10), (0, .class_ 11), (0, .nameAndType 12 13), (0, u "com/example/upshot/upshot/ColumnCatalog$Length$Unit"), (0, u "CHARACTERS"), (0, u "Lcom/example/upshot/upshot/ColumnCatalog$Length$Unit;"), (0, .fieldref 9 15), (0, .nameAndType 16 13), (0, u "CHARACTERS_BUT_TRAILING_SPACES"), (0, .fieldref 9 18), (0, .nameAndType 19 13), (0, u "BYTES"), (0, .methodref 21 22), (0, .class_ 23), (0, .nameAndType 24 25), (0, u "com/example/upshot/upshot/LengthOfPinLaw"), (0, u "draw"), (0, u "(I)C"), (0, .methodref 21 27), (0, .nameAndType 28 29), (0, u "text"), (0, u "([CI)Ljava/lang/String;"), (0, .class_ 31), (0, u "com/example/upshot/upshot/ColumnCatalog$Length"), (0, .methodref 30 33), (0, .nameAndType 5 34), (0, u "(Lcom/example/upshot/upshot/ColumnCatalog$Length$Unit;J)V"), (0, .methodref 21 36), (0, .nameAndType 37 38), (0, u "trimmed"), (0, u "([CI)I"), (0, .methodref 30 40), (0, .nameAndType 41 42), (0, u "of"), (0, u "(Ljava/lang/Object;)J"), (0, .methodref 30 44), (0, .nameAndType 45 46), (0, u "unit"), (0, u "()Lcom/example/upshot/upshot/ColumnCatalog$Length$Unit;"), (0, .methodref 30 48), (0, .nameAndType 49 50), (0, u "most"), (0, u "()J"), (0, .class_ 52), (0, u "java/lang/String"), (0, .methodref 51 54), (0, .nameAndType 5 55), (0, u "([C)V"), (0, .methodref 51 57), (0, .nameAndType 58 59), (0, u "valueOf"), (0, u "(C)Ljava/lang/String;"), (2, u "law"), (0, u "(IIIIJ)Z")] 12

def k1m0 : Method := { name := "<init>", desc := "()V", sig := { parameters := [], returnType := none }, accessFlags := 1, code := none }
def k1c1 : Code := { maxStack := 5, maxLocals := 19, code := code, exceptionTable := #[], attributes := #[] }
def k1m1 : Method := { name := "law", desc := "(IIIIJ)Z", sig := { parameters := [.int, .int, .int, .int, .long], returnType := some .boolean }, accessFlags := 9, code := some k1c1 }
def k1c2 : Code := { maxStack := 2, maxLocals := 1, code := method_3_code, exceptionTable := #[], attributes := #[] }
def k1m2 : Method := { name := "draw", desc := "(I)C", sig := { parameters := [.int], returnType := some .char }, accessFlags := 10, code := some k1c2 }
def k1c3 : Code := { maxStack := 7, maxLocals := 2, code := method_4_code, exceptionTable := #[], attributes := #[] }
def k1m3 : Method := { name := "text", desc := "([CI)Ljava/lang/String;", sig := { parameters := [(.array .char), .int], returnType := some (.object "java/lang/String") }, accessFlags := 10, code := some k1c3 }
def k1c4 : Code := { maxStack := 2, maxLocals := 2, code := method_5_code, exceptionTable := #[], attributes := #[] }
def k1m4 : Method := { name := "trimmed", desc := "([CI)I", sig := { parameters := [(.array .char), .int], returnType := some .int }, accessFlags := 10, code := some k1c4 }
/-- com/example/upshot/upshot/LengthOfPinLaw -/
def k1 : Class := { plain "com/example/upshot/upshot/LengthOfPinLaw" (some 0) with
  accessFlags := 49
  interfaces := #[]
  cf := some (fileOf pool1 21 #[] #[{ accessFlags := 1, nameIndex := 5, descriptorIndex := 6, attributes := #[] }, { accessFlags := 9, nameIndex := 62, descriptorIndex := 63, attributes := #[] }, { accessFlags := 10, nameIndex := 24, descriptorIndex := 25, attributes := #[] }, { accessFlags := 10, nameIndex := 28, descriptorIndex := 29, attributes := #[] }, { accessFlags := 10, nameIndex := 37, descriptorIndex := 38, attributes := #[] }] 49 2 #[] #[])
  fields := #[]
  methods := #[k1m0, k1m1, k1m2, k1m3, k1m4]
  instanceTypes := #[]
  staticTypes := #[]
  resolved := Array.replicate 76 none
  statics := none }

def pool2 : Array CpInfo := pool [(1, .class_ 2), (0, u "java/lang/constant/Constable"), (0, .class_ 4), (0, u "java/lang/Object")] 6

/-- java/lang/constant/Constable -/
def k2 : Class := { plain "java/lang/constant/Constable" (some 0) with
  accessFlags := 1537
  interfaces := #[]
  cf := some (fileOf pool2 1 #[] #[] 1537 3 #[] #[])
  fields := #[]
  methods := #[]
  instanceTypes := #[]
  staticTypes := #[]
  resolved := Array.replicate 11 none
  statics := none }

def pool3 : Array CpInfo := pool [(1, .class_ 2), (0, u "java/lang/Comparable"), (0, .class_ 4), (0, u "java/lang/Object")] 7

/-- java/lang/Comparable -/
def k3 : Class := { plain "java/lang/Comparable" (some 0) with
  accessFlags := 1537
  interfaces := #[]
  cf := some (fileOf pool3 1 #[] #[] 1537 3 #[] #[])
  fields := #[]
  methods := #[]
  instanceTypes := #[]
  staticTypes := #[]
  resolved := Array.replicate 12 none
  statics := none }

def pool4 : Array CpInfo := pool [(1, .class_ 2), (0, u "java/io/Serializable"), (0, .class_ 4), (0, u "java/lang/Object")] 2

/-- java/io/Serializable -/
def k4 : Class := { plain "java/io/Serializable" (some 0) with
  accessFlags := 1537
  interfaces := #[]
  cf := some (fileOf pool4 1 #[] #[] 1537 3 #[] #[])
  fields := #[]
  methods := #[]
  instanceTypes := #[]
  staticTypes := #[]
  resolved := Array.replicate 7 none
  statics := none }

def pool5 : Array CpInfo := pool [(2, .class_ 4), (1, u "java/lang/Enum"), (0, u "name"), (0, u "Ljava/lang/String;"), (2, u "ordinal"), (0, u "I"), (1, .class_ 14), (1, u "java/lang/Object"), (4, u "hash"), (86, .class_ 108), (1, u "java/lang/Enum$EnumDesc"), (2, .class_ 112), (0, u "java/lang/constant/Constable"), (0, .class_ 114), (0, u "java/lang/Comparable"), (0, .class_ 116), (0, u "java/io/Serializable")] 87

/-- java/lang/Enum -/
def k5 : Class := { plain "java/lang/Enum" (some 0) with
  accessFlags := 1057
  interfaces := #[2, 3, 4]
  cf := some (fileOf pool5 2 #[.nestMembers #[106]] #[] 1057 12 #[111, 113, 115] #[{ accessFlags := 18, nameIndex := 5, descriptorIndex := 6, attributes := #[] }, { accessFlags := 18, nameIndex := 9, descriptorIndex := 10, attributes := #[] }, { accessFlags := 2, nameIndex := 19, descriptorIndex := 10, attributes := #[] }])
  fields := #[{ name := "name", type := (.object "java/lang/String"), accessFlags := 18, slot := 0, constantValue := 0 }, { name := "ordinal", type := .int, accessFlags := 18, slot := 1, constantValue := 0 }, { name := "hash", type := .int, accessFlags := 2, slot := 2, constantValue := 0 }]
  methods := #[]
  instanceTypes := #[(.object "java/lang/String"), .int, .int]
  staticTypes := #[]
  resolved := Array.replicate 204 none
  statics := none }

def pool6 : Array CpInfo := pool [(1, .class_ 2), (0, u "com/example/upshot/upshot/ColumnCatalog$Length$Unit"), (2, u "CHARACTERS"), (0, u "Lcom/example/upshot/upshot/ColumnCatalog$Length$Unit;"), (2, u "CHARACTERS_BUT_TRAILING_SPACES"), (2, u "BYTES"), (2, u "$VALUES"), (0, u "[Lcom/example/upshot/upshot/ColumnCatalog$Length$Unit;"), (6, .class_ 25), (1, u "java/lang/Enum"), (26, .class_ 53), (0, u "com/example/upshot/upshot/ColumnCatalog")] 5

/-- com/example/upshot/upshot/ColumnCatalog$Length$Unit -/
def k6 : Class := { plain "com/example/upshot/upshot/ColumnCatalog$Length$Unit" (some 5) with
  accessFlags := 16432
  interfaces := #[]
  cf := some (fileOf pool6 1 #[.nestHost 52] #[] 16432 23 #[] #[{ accessFlags := 16409, nameIndex := 5, descriptorIndex := 6, attributes := #[] }, { accessFlags := 16409, nameIndex := 9, descriptorIndex := 6, attributes := #[] }, { accessFlags := 16409, nameIndex := 12, descriptorIndex := 6, attributes := #[] }, { accessFlags := 4122, nameIndex := 15, descriptorIndex := 16, attributes := #[] }])
  fields := #[{ name := "CHARACTERS", type := (.object "com/example/upshot/upshot/ColumnCatalog$Length$Unit"), accessFlags := 16409, slot := 0, constantValue := 0 }, { name := "CHARACTERS_BUT_TRAILING_SPACES", type := (.object "com/example/upshot/upshot/ColumnCatalog$Length$Unit"), accessFlags := 16409, slot := 1, constantValue := 0 }, { name := "BYTES", type := (.object "com/example/upshot/upshot/ColumnCatalog$Length$Unit"), accessFlags := 16409, slot := 2, constantValue := 0 }, { name := "$VALUES", type := (.array (.object "com/example/upshot/upshot/ColumnCatalog$Length$Unit")), accessFlags := 4122, slot := 3, constantValue := 0 }]
  methods := #[]
  instanceTypes := #[(.object "java/lang/String"), .int, .int]
  staticTypes := #[(.object "com/example/upshot/upshot/ColumnCatalog$Length$Unit"), (.object "com/example/upshot/upshot/ColumnCatalog$Length$Unit"), (.object "com/example/upshot/upshot/ColumnCatalog$Length$Unit"), (.array (.object "com/example/upshot/upshot/ColumnCatalog$Length$Unit"))]
  resolved := Array.replicate 59 none
  statics := some 0 }

def pool7 : Array CpInfo := pool [(2, .class_ 4), (1, u "java/lang/CharSequence"), (42, .class_ 48), (0, u "java/lang/CharSequence$1CodePointIterator"), (10, .class_ 60), (0, u "java/lang/CharSequence$1CharIterator"), (5, .class_ 67), (0, u "java/lang/Object")] 63

/-- java/lang/CharSequence -/
def k7 : Class := { plain "java/lang/CharSequence" (some 0) with
  accessFlags := 1537
  interfaces := #[]
  cf := some (fileOf pool7 2 #[.nestMembers #[47, 59]] #[] 1537 66 #[] #[])
  fields := #[]
  methods := #[]
  instanceTypes := #[]
  staticTypes := #[]
  resolved := Array.replicate 131 none
  statics := none }

def pool8 : Array CpInfo := pool [(1, .class_ 2), (0, u "java/lang/constant/ConstantDesc"), (0, .class_ 4), (0, u "java/lang/Object")] 32

/-- java/lang/constant/ConstantDesc -/
def k8 : Class := { plain "java/lang/constant/ConstantDesc" (some 0) with
  accessFlags := 1537
  interfaces := #[]
  cf := some (fileOf pool8 1 #[] #[] 1537 3 #[] #[])
  fields := #[]
  methods := #[]
  instanceTypes := #[]
  staticTypes := #[]
  resolved := Array.replicate 37 none
  statics := none }

def pool9 : Array CpInfo := pool [(1, .methodref 2 3), (0, .class_ 4), (0, .nameAndType 5 6), (0, u "java/lang/Object"), (0, u "<init>"), (0, u "()V"), (0, .string 8), (0, u ""), (0, .fieldref 10 11), (0, .class_ 12), (0, .nameAndType 13 14), (0, u "java/lang/String"), (0, u "value"), (0, u "[B"), (0, .fieldref 10 16), (0, .nameAndType 17 18), (0, u "coder"), (0, u "B"), (2, u "hash"), (0, u "I"), (2, u "hashIsZero"), (0, u "Z"), (0, .methodref 10 28), (0, .nameAndType 5 29), (0, u "([CIILjava/lang/Void;)V"), (8, .fieldref 10 39), (0, .nameAndType 40 26), (0, u "COMPACT_STRINGS"), (1, .class_ 44), (1, u "java/lang/StringUTF16"), (0, u "compress"), (1, .methodref 42 48), (0, .nameAndType 49 50), (0, u "coderFromArrayLen"), (0, u "([BI)B"), (2, u "toBytes"), (53, .class_ 109), (1, u "java/lang/StringLatin1"), (32, u "()Z"), (34, .methodref 42 178), (0, .nameAndType 45 179), (0, u "([CII)[B"), (29, .methodref 10 210), (0, .nameAndType 5 211), (0, u "([BB)V"), (122, u "()I"), (0, .methodref 10 336), (0, .nameAndType 17 337), (0, u "()B"), (25, u "([BI)C"), (5, u "(C)Z"), (21, u "(II)V"), (35, u "(I)C"), (64, .methodref 10 493), (0, .nameAndType 494 142), (0, u "isLatin1"), (0, .methodref 107 496), (0, .nameAndType 497 363), (0, u "charAt"), (3, u "checkIndex"), (5, u "length"), (67, .class_ 576), (0, u "java/lang/CharSequence"), (22, u "CASE_INSENSITIVE_ORDER"), (0, u "Ljava/util/Comparator;"), (181, u "valueOf"), (0, u "(C)Ljava/lang/String;"), (226, u "([C)V"), (4, .methodref 107 1016), (0, .nameAndType 1017 369), (0, u "canEncode"), (0, .methodref 107 1019), (0, .nameAndType 53 1020), (0, u "(C)[B"), (32, .fieldref 1054 1055), (0, .class_ 1056), (0, .nameAndType 1057 1058), (0, u "jdk/internal/util/Preconditions"), (0, u "SIOOBE_FORMATTER"), (0, u "Ljava/util/function/BiFunction;"), (0, .methodref 1054 1060), (0, .nameAndType 501 1061), (0, u "(IILjava/util/function/BiFunction;)I"), (39, u "serialPersistentFields"), (0, u "[Ljava/io/ObjectStreamField;"), (0, .class_ 1104), (0, u "java/lang/String$CaseInsensitiveComparator"), (1, .class_ 1107), (0, u "java/io/Serializable"), (0, .class_ 1109), (0, u "java/lang/Comparable"), (0, .class_ 1111), (0, u "java/lang/constant/Constable"), (0, .class_ 1113), (0, u "java/lang/constant/ConstantDesc"), (2, u "serialVersionUID"), (0, u "J"), (3, u "REPL"), (0, u "C"), (2, u "LATIN1"), (1, u "UTF16")] 323

def k9m0 : Method := { name := "<init>", desc := "()V", sig := { parameters := [], returnType := none }, accessFlags := 1, code := none }
def k9c1 : Code := { maxStack := 5, maxLocals := 2, code := jdk_42_method_3_code, exceptionTable := #[], attributes := #[] }
def k9m1 : Method := { name := "<init>", desc := "([C)V", sig := { parameters := [(.array .char)], returnType := none }, accessFlags := 1, code := some k9c1 }
def k9c2 : Code := { maxStack := 2, maxLocals := 1, code := jdk_42_method_54_code, exceptionTable := #[], attributes := #[] }
def k9m2 : Method := { name := "length", desc := "()I", sig := { parameters := [], returnType := some .int }, accessFlags := 1, code := some k9c2 }
def k9c3 : Code := { maxStack := 2, maxLocals := 2, code := jdk_42_method_56_code, exceptionTable := #[], attributes := #[] }
def k9m3 : Method := { name := "charAt", desc := "(I)C", sig := { parameters := [.int], returnType := some .char }, accessFlags := 1, code := some k9c3 }
def k9c4 : Code := { maxStack := 4, maxLocals := 1, code := jdk_42_method_139_code, exceptionTable := #[], attributes := #[] }
def k9m4 : Method := { name := "valueOf", desc := "(C)Ljava/lang/String;", sig := { parameters := [.char], returnType := some (.object "java/lang/String") }, accessFlags := 9, code := some k9c4 }
def k9c5 : Code := { maxStack := 4, maxLocals := 6, code := jdk_42_method_149_code, exceptionTable := #[], attributes := #[] }
def k9m5 : Method := { name := "<init>", desc := "([CIILjava/lang/Void;)V", sig := { parameters := [(.array .char), .int, .int, (.object "java/lang/Void")], returnType := none }, accessFlags := 2, code := some k9c5 }
def k9c6 : Code := { maxStack := 2, maxLocals := 3, code := jdk_42_method_151_code, exceptionTable := #[], attributes := #[] }
def k9m6 : Method := { name := "<init>", desc := "([BB)V", sig := { parameters := [(.array .byte), .byte], returnType := none }, accessFlags := 0, code := some k9c6 }
def k9c7 : Code := { maxStack := 1, maxLocals := 1, code := jdk_42_method_152_code, exceptionTable := #[], attributes := #[] }
def k9m7 : Method := { name := "coder", desc := "()B", sig := { parameters := [], returnType := some .byte }, accessFlags := 0, code := some k9c7 }
def k9c8 : Code := { maxStack := 1, maxLocals := 1, code := jdk_42_method_154_code, exceptionTable := #[], attributes := #[] }
def k9m8 : Method := { name := "isLatin1", desc := "()Z", sig := { parameters := [], returnType := some .boolean }, accessFlags := 0, code := some k9c8 }
def k9c9 : Code := { maxStack := 3, maxLocals := 2, code := jdk_42_method_155_code, exceptionTable := #[], attributes := #[] }
def k9m9 : Method := { name := "checkIndex", desc := "(II)V", sig := { parameters := [.int, .int], returnType := none }, accessFlags := 8, code := some k9c9 }
/-- java/lang/String -/
def k9 : Class := { plain "java/lang/String" (some 0) with
  accessFlags := 49
  interfaces := #[4, 3, 7, 2, 8]
  cf := some (fileOf pool9 10 #[.nestMembers #[1103]] #[{ accessFlags := 1, nameIndex := 5, descriptorIndex := 6, attributes := #[] }, { accessFlags := 1, nameIndex := 5, descriptorIndex := 1010, attributes := #[] }, { accessFlags := 1, nameIndex := 507, descriptorIndex := 334, attributes := #[] }, { accessFlags := 1, nameIndex := 497, descriptorIndex := 427, attributes := #[] }, { accessFlags := 9, nameIndex := 782, descriptorIndex := 783, attributes := #[] }, { accessFlags := 2, nameIndex := 5, descriptorIndex := 29, attributes := #[] }, { accessFlags := 0, nameIndex := 5, descriptorIndex := 211, attributes := #[] }, { accessFlags := 0, nameIndex := 17, descriptorIndex := 337, attributes := #[] }, { accessFlags := 0, nameIndex := 494, descriptorIndex := 142, attributes := #[] }, { accessFlags := 8, nameIndex := 501, descriptorIndex := 391, attributes := #[] }] 49 2 #[1106, 1108, 575, 1110, 1112] #[{ accessFlags := 18, nameIndex := 13, descriptorIndex := 14, attributes := #[] }, { accessFlags := 18, nameIndex := 17, descriptorIndex := 18, attributes := #[] }, { accessFlags := 2, nameIndex := 21, descriptorIndex := 22, attributes := #[] }, { accessFlags := 2, nameIndex := 25, descriptorIndex := 26, attributes := #[] }, { accessFlags := 26, nameIndex := 1116, descriptorIndex := 1117, attributes := #[] }, { accessFlags := 24, nameIndex := 40, descriptorIndex := 26, attributes := #[] }, { accessFlags := 26, nameIndex := 1101, descriptorIndex := 1102, attributes := #[] }, { accessFlags := 26, nameIndex := 1121, descriptorIndex := 1122, attributes := #[] }, { accessFlags := 25, nameIndex := 599, descriptorIndex := 600, attributes := #[] }, { accessFlags := 24, nameIndex := 1125, descriptorIndex := 18, attributes := #[] }, { accessFlags := 24, nameIndex := 1127, descriptorIndex := 18, attributes := #[] }])
  fields := #[{ name := "value", type := (.array .byte), accessFlags := 18, slot := 0, constantValue := 0 }, { name := "coder", type := .byte, accessFlags := 18, slot := 1, constantValue := 0 }, { name := "hash", type := .int, accessFlags := 2, slot := 2, constantValue := 0 }, { name := "hashIsZero", type := .boolean, accessFlags := 2, slot := 3, constantValue := 0 }, { name := "serialVersionUID", type := .long, accessFlags := 26, slot := 0, constantValue := 0 }, { name := "COMPACT_STRINGS", type := .boolean, accessFlags := 24, slot := 1, constantValue := 0 }, { name := "serialPersistentFields", type := (.array (.object "java/io/ObjectStreamField")), accessFlags := 26, slot := 2, constantValue := 0 }, { name := "REPL", type := .char, accessFlags := 26, slot := 3, constantValue := 0 }, { name := "CASE_INSENSITIVE_ORDER", type := (.object "java/util/Comparator"), accessFlags := 25, slot := 4, constantValue := 0 }, { name := "LATIN1", type := .byte, accessFlags := 24, slot := 5, constantValue := 0 }, { name := "UTF16", type := .byte, accessFlags := 24, slot := 6, constantValue := 0 }]
  methods := #[k9m0, k9m1, k9m2, k9m3, k9m4, k9m5, k9m6, k9m7, k9m8, k9m9]
  instanceTypes := #[(.array .byte), .byte, .int, .boolean]
  staticTypes := #[.long, .boolean, (.array (.object "java/io/ObjectStreamField")), .char, (.object "java/util/Comparator"), .byte, .byte]
  resolved := Array.replicate 1451 none
  statics := some 1 }

def pool10 : Array CpInfo := pool [(6, .class_ 8), (1, u "java/lang/Object"), (0, u "<init>"), (0, u "()V"), (1, .class_ 14), (1, u "java/lang/StringUTF16"), (31, u "$assertionsDisabled"), (0, u "Z"), (13, u "HI_BYTE_SHIFT"), (0, u "I"), (2, u "LO_BYTE_SHIFT"), (49, .methodref 12 116), (0, .nameAndType 117 118), (0, u "compress"), (0, u "([CI[BII)I"), (3, u "([CII)[B"), (138, u "coderFromArrayLen"), (0, u "([BI)B"), (106, .class_ 371), (1, u "java/lang/StringUTF16$LinesSpliterator"), (58, u "MAX_LENGTH"), (196, .class_ 628), (0, u "java/lang/StringUTF16$CodePointsSpliterator"), (0, .class_ 630), (0, u "java/lang/StringUTF16$CharsSpliterator")] 4

def k10m0 : Method := { name := "<init>", desc := "()V", sig := { parameters := [], returnType := none }, accessFlags := 0, code := none }
def k10c1 : Code := { maxStack := 2, maxLocals := 2, code := jdk_52_method_15_code, exceptionTable := #[], attributes := #[] }
def k10m1 : Method := { name := "coderFromArrayLen", desc := "([BI)B", sig := { parameters := [(.array .byte), .int], returnType := some .byte }, accessFlags := 8, code := some k10c1 }
def k10c2 : Code := { maxStack := 5, maxLocals := 6, code := jdk_52_method_16_code, exceptionTable := #[], attributes := #[] }
def k10m2 : Method := { name := "compress", desc := "([CII)[B", sig := { parameters := [(.array .char), .int, .int], returnType := some (.array .byte) }, accessFlags := 9, code := some k10c2 }
def k10c3 : Code := { maxStack := 3, maxLocals := 7, code := jdk_52_method_21_code, exceptionTable := #[], attributes := #[] }
def k10m3 : Method := { name := "compress", desc := "([CI[BII)I", sig := { parameters := [(.array .char), .int, (.array .byte), .int, .int], returnType := some .int }, accessFlags := 9, code := some k10c3 }
/-- java/lang/StringUTF16 -/
def k10 : Class := { plain "java/lang/StringUTF16" (some 0) with
  accessFlags := 48
  interfaces := #[]
  cf := some (fileOf pool10 12 #[.nestMembers #[627, 629, 369]] #[{ accessFlags := 0, nameIndex := 9, descriptorIndex := 10, attributes := #[] }, { accessFlags := 8, nameIndex := 261, descriptorIndex := 262, attributes := #[] }, { accessFlags := 9, nameIndex := 117, descriptorIndex := 122, attributes := #[] }, { accessFlags := 9, nameIndex := 117, descriptorIndex := 118, attributes := #[] }] 48 6 #[] #[{ accessFlags := 26, nameIndex := 61, descriptorIndex := 62, attributes := #[] }, { accessFlags := 26, nameIndex := 65, descriptorIndex := 62, attributes := #[] }, { accessFlags := 24, nameIndex := 430, descriptorIndex := 62, attributes := #[] }, { accessFlags := 4120, nameIndex := 46, descriptorIndex := 47, attributes := #[] }])
  fields := #[{ name := "HI_BYTE_SHIFT", type := .int, accessFlags := 26, slot := 0, constantValue := 0 }, { name := "LO_BYTE_SHIFT", type := .int, accessFlags := 26, slot := 1, constantValue := 0 }, { name := "MAX_LENGTH", type := .int, accessFlags := 24, slot := 2, constantValue := 0 }, { name := "$assertionsDisabled", type := .boolean, accessFlags := 4120, slot := 3, constantValue := 0 }]
  methods := #[k10m0, k10m1, k10m2, k10m3]
  instanceTypes := #[]
  staticTypes := #[.int, .int, .int, .boolean]
  resolved := Array.replicate 635 none
  statics := none }

def pool11 : Array CpInfo := pool [(1, .methodref 2 3), (0, .class_ 4), (0, .nameAndType 5 6), (0, u "java/lang/Object"), (0, u "<init>"), (0, u "()V"), (0, .fieldref 8 9), (0, .class_ 10), (0, .nameAndType 11 12), (0, u "com/example/upshot/upshot/ColumnCatalog$Length"), (0, u "unit"), (0, u "Lcom/example/upshot/upshot/ColumnCatalog$Length$Unit;"), (0, .fieldref 8 14), (0, .nameAndType 15 16), (0, u "most"), (0, u "J"), (0, .fieldref 18 19), (0, .class_ 20), (0, .nameAndType 21 12), (0, u "com/example/upshot/upshot/ColumnCatalog$Length$Unit"), (0, u "BYTES"), (0, .class_ 23), (0, u "[B"), (0, .class_ 25), (0, u "java/lang/String"), (0, .fieldref 18 27), (0, .nameAndType 28 12), (0, u "CHARACTERS_BUT_TRAILING_SPACES"), (0, .methodref 24 30), (0, .nameAndType 31 32), (0, u "length"), (0, u "()I"), (0, .methodref 24 34), (0, .nameAndType 35 36), (0, u "charAt"), (0, u "(I)C"), (0, u "(Lcom/example/upshot/upshot/ColumnCatalog$Length$Unit;J)V"), (2, u "()Lcom/example/upshot/upshot/ColumnCatalog$Length$Unit;"), (0, u "()J"), (3, u "of"), (0, u "(Ljava/lang/Object;)J"), (3, .class_ 51), (0, u "com/example/upshot/upshot/ColumnCatalog")] 3

def k11c0 : Code := { maxStack := 3, maxLocals := 4, code := prog_3_method_1_code, exceptionTable := #[], attributes := #[] }
def k11m0 : Method := { name := "<init>", desc := "(Lcom/example/upshot/upshot/ColumnCatalog$Length$Unit;J)V", sig := { parameters := [(.object "com/example/upshot/upshot/ColumnCatalog$Length$Unit"), .long], returnType := none }, accessFlags := 0, code := some k11c0 }
def k11c1 : Code := { maxStack := 1, maxLocals := 1, code := prog_3_method_2_code, exceptionTable := #[], attributes := #[] }
def k11m1 : Method := { name := "unit", desc := "()Lcom/example/upshot/upshot/ColumnCatalog$Length$Unit;", sig := { parameters := [], returnType := some (.object "com/example/upshot/upshot/ColumnCatalog$Length$Unit") }, accessFlags := 0, code := some k11c1 }
def k11c2 : Code := { maxStack := 2, maxLocals := 1, code := prog_3_method_3_code, exceptionTable := #[], attributes := #[] }
def k11m2 : Method := { name := "most", desc := "()J", sig := { parameters := [], returnType := some .long }, accessFlags := 0, code := some k11c2 }
def k11c3 : Code := { maxStack := 3, maxLocals := 6, code := prog_3_method_5_code, exceptionTable := #[], attributes := #[] }
def k11m3 : Method := { name := "of", desc := "(Ljava/lang/Object;)J", sig := { parameters := [(.object "java/lang/Object")], returnType := some .long }, accessFlags := 0, code := some k11c3 }
/-- com/example/upshot/upshot/ColumnCatalog$Length -/
def k11 : Class := { plain "com/example/upshot/upshot/ColumnCatalog$Length" (some 0) with
  accessFlags := 48
  interfaces := #[]
  cf := some (fileOf pool11 8 #[.nestHost 50] #[{ accessFlags := 0, nameIndex := 5, descriptorIndex := 37, attributes := #[] }, { accessFlags := 0, nameIndex := 11, descriptorIndex := 40, attributes := #[] }, { accessFlags := 0, nameIndex := 15, descriptorIndex := 41, attributes := #[] }, { accessFlags := 0, nameIndex := 45, descriptorIndex := 46, attributes := #[] }] 48 2 #[] #[{ accessFlags := 18, nameIndex := 11, descriptorIndex := 12, attributes := #[] }, { accessFlags := 18, nameIndex := 15, descriptorIndex := 16, attributes := #[] }])
  fields := #[{ name := "unit", type := (.object "com/example/upshot/upshot/ColumnCatalog$Length$Unit"), accessFlags := 18, slot := 0, constantValue := 0 }, { name := "most", type := .long, accessFlags := 18, slot := 1, constantValue := 0 }]
  methods := #[k11m0, k11m1, k11m2, k11m3]
  instanceTypes := #[(.object "com/example/upshot/upshot/ColumnCatalog$Length$Unit"), .long]
  staticTypes := #[]
  resolved := Array.replicate 55 none
  statics := none }

def pool12 : Array CpInfo := pool [(1, .class_ 2), (0, u "java/lang/String"), (1, .class_ 6), (1, u "java/lang/Object"), (0, u "<init>"), (0, u "()V"), (0, .methodref 1 10), (0, .nameAndType 11 12), (0, u "checkIndex"), (0, u "(II)V"), (1, .class_ 16), (1, u "java/lang/StringLatin1"), (36, u "([BI)C"), (36, u "canEncode"), (14, u "(C)Z"), (15, u "$assertionsDisabled"), (0, u "Z"), (98, .class_ 223), (1, u "java/lang/StringLatin1$LinesSpliterator"), (28, u "charAt"), (127, u "toBytes"), (1, u "(C)[B"), (7, .class_ 391), (0, u "java/lang/StringLatin1$CharsSpliterator")] 3

def k12m0 : Method := { name := "<init>", desc := "()V", sig := { parameters := [], returnType := none }, accessFlags := 0, code := none }
def k12c1 : Code := { maxStack := 2, maxLocals := 2, code := jdk_43_method_2_code, exceptionTable := #[], attributes := #[] }
def k12m1 : Method := { name := "charAt", desc := "([BI)C", sig := { parameters := [(.array .byte), .int], returnType := some .char }, accessFlags := 9, code := some k12c1 }
def k12c2 : Code := { maxStack := 2, maxLocals := 1, code := jdk_43_method_3_code, exceptionTable := #[], attributes := #[] }
def k12m2 : Method := { name := "canEncode", desc := "(C)Z", sig := { parameters := [.char], returnType := some .boolean }, accessFlags := 9, code := some k12c2 }
def k12c3 : Code := { maxStack := 4, maxLocals := 1, code := jdk_43_method_46_code, exceptionTable := #[], attributes := #[] }
def k12m3 : Method := { name := "toBytes", desc := "(C)[B", sig := { parameters := [.char], returnType := some (.array .byte) }, accessFlags := 9, code := some k12c3 }
/-- java/lang/StringLatin1 -/
def k12 : Class := { plain "java/lang/StringLatin1" (some 0) with
  accessFlags := 48
  interfaces := #[]
  cf := some (fileOf pool12 14 #[.nestMembers #[390, 221]] #[{ accessFlags := 0, nameIndex := 7, descriptorIndex := 8, attributes := #[] }, { accessFlags := 9, nameIndex := 252, descriptorIndex := 53, attributes := #[] }, { accessFlags := 9, nameIndex := 90, descriptorIndex := 105, attributes := #[] }, { accessFlags := 9, nameIndex := 380, descriptorIndex := 382, attributes := #[] }] 48 4 #[] #[{ accessFlags := 4120, nameIndex := 121, descriptorIndex := 122, attributes := #[] }])
  fields := #[{ name := "$assertionsDisabled", type := .boolean, accessFlags := 4120, slot := 0, constantValue := 0 }]
  methods := #[k12m0, k12m1, k12m2, k12m3]
  instanceTypes := #[]
  staticTypes := #[.boolean]
  resolved := Array.replicate 395 none
  statics := none }

def pool13 : Array CpInfo := pool [(2, .class_ 4), (1, u "java/lang/Object"), (0, u "<init>"), (0, u "()V"), (17, .class_ 26), (1, u "jdk/internal/util/Preconditions"), (6, u "checkIndex"), (21, .class_ 56), (0, u "jdk/internal/util/Preconditions$4"), (57, .class_ 115), (0, u "jdk/internal/util/Preconditions$1"), (7, u "SIOOBE_FORMATTER"), (0, u "Ljava/util/function/BiFunction;"), (0, .class_ 126), (0, u "jdk/internal/util/Preconditions$2"), (3, u "AIOOBE_FORMATTER"), (0, .class_ 132), (0, u "jdk/internal/util/Preconditions$3"), (3, u "IOOBE_FORMATTER"), (41, u "(IILjava/util/function/BiFunction;)I")] 15

def k13m0 : Method := { name := "<init>", desc := "()V", sig := { parameters := [], returnType := none }, accessFlags := 1, code := none }
def k13c1 : Code := { maxStack := 3, maxLocals := 3, code := jdk_41_method_11_code, exceptionTable := #[], attributes := #[] }
def k13m1 : Method := { name := "checkIndex", desc := "(IILjava/util/function/BiFunction;)I", sig := { parameters := [.int, .int, (.object "java/util/function/BiFunction")], returnType := some .int }, accessFlags := 9, code := some k13c1 }
/-- jdk/internal/util/Preconditions -/
def k13 : Class := { plain "jdk/internal/util/Preconditions" (some 0) with
  accessFlags := 33
  interfaces := #[]
  cf := some (fileOf pool13 24 #[.nestMembers #[55, 131, 125, 114]] #[{ accessFlags := 1, nameIndex := 5, descriptorIndex := 6, attributes := #[] }, { accessFlags := 9, nameIndex := 33, descriptorIndex := 178, attributes := #[] }] 33 2 #[] #[{ accessFlags := 25, nameIndex := 123, descriptorIndex := 124, attributes := #[] }, { accessFlags := 25, nameIndex := 130, descriptorIndex := 124, attributes := #[] }, { accessFlags := 25, nameIndex := 136, descriptorIndex := 124, attributes := #[] }])
  fields := #[{ name := "SIOOBE_FORMATTER", type := (.object "java/util/function/BiFunction"), accessFlags := 25, slot := 0, constantValue := 0 }, { name := "AIOOBE_FORMATTER", type := (.object "java/util/function/BiFunction"), accessFlags := 25, slot := 1, constantValue := 0 }, { name := "IOOBE_FORMATTER", type := (.object "java/util/function/BiFunction"), accessFlags := 25, slot := 2, constantValue := 0 }]
  methods := #[k13m0, k13m1]
  instanceTypes := #[]
  staticTypes := #[(.object "java/util/function/BiFunction"), (.object "java/util/function/BiFunction"), (.object "java/util/function/BiFunction")]
  resolved := Array.replicate 194 none
  statics := some 2 }

def pool14 : Array CpInfo := pool [(9, u "<init>"), (6, .class_ 18), (1, u "java/lang/Object"), (0, u "()V"), (1, .class_ 23), (1, u "jdk/internal/util/ArraysSupport"), (0, u "LOG2_ARRAY_LONG_INDEX_SCALE"), (0, u "I"), (2, u "U"), (0, u "Ljdk/internal/misc/Unsafe;"), (8, u "BIG_ENDIAN"), (0, u "Z"), (8, u "LOG2_BYTE_BIT_SIZE"), (4, u "LOG2_ARRAY_INT_INDEX_SCALE"), (54, u "JLA"), (0, u "Ljdk/internal/access/JavaLangAccess;"), (11, u "LOG2_ARRAY_BOOLEAN_INDEX_SCALE"), (9, u "LOG2_ARRAY_BYTE_INDEX_SCALE"), (5, u "LOG2_ARRAY_CHAR_INDEX_SCALE"), (5, u "LOG2_ARRAY_SHORT_INDEX_SCALE"), (18, u "LOG2_ARRAY_FLOAT_INDEX_SCALE"), (24, u "LOG2_ARRAY_DOUBLE_INDEX_SCALE"), (89, u "T_BOOLEAN"), (2, u "T_CHAR"), (1, u "T_FLOAT"), (1, u "T_DOUBLE"), (1, u "T_BYTE"), (1, u "T_SHORT"), (1, u "T_INT"), (1, u "T_LONG"), (1, u "SOFT_MAX_ARRAY_LENGTH")] 83

def k14m0 : Method := { name := "<init>", desc := "()V", sig := { parameters := [], returnType := none }, accessFlags := 2, code := none }
/-- jdk/internal/util/ArraysSupport -/
def k14 : Class := { plain "jdk/internal/util/ArraysSupport" (some 0) with
  accessFlags := 33
  interfaces := #[]
  cf := some (fileOf pool14 21 #[] #[{ accessFlags := 2, nameIndex := 9, descriptorIndex := 19, attributes := #[] }] 33 16 #[] #[{ accessFlags := 24, nameIndex := 28, descriptorIndex := 29, attributes := #[] }, { accessFlags := 26, nameIndex := 38, descriptorIndex := 39, attributes := #[] }, { accessFlags := 25, nameIndex := 121, descriptorIndex := 25, attributes := #[] }, { accessFlags := 25, nameIndex := 131, descriptorIndex := 25, attributes := #[] }, { accessFlags := 25, nameIndex := 137, descriptorIndex := 25, attributes := #[] }, { accessFlags := 25, nameIndex := 143, descriptorIndex := 25, attributes := #[] }, { accessFlags := 25, nameIndex := 53, descriptorIndex := 25, attributes := #[] }, { accessFlags := 25, nameIndex := 24, descriptorIndex := 25, attributes := #[] }, { accessFlags := 25, nameIndex := 162, descriptorIndex := 25, attributes := #[] }, { accessFlags := 25, nameIndex := 187, descriptorIndex := 25, attributes := #[] }, { accessFlags := 26, nameIndex := 48, descriptorIndex := 25, attributes := #[] }, { accessFlags := 25, nameIndex := 277, descriptorIndex := 25, attributes := #[] }, { accessFlags := 25, nameIndex := 280, descriptorIndex := 25, attributes := #[] }, { accessFlags := 25, nameIndex := 282, descriptorIndex := 25, attributes := #[] }, { accessFlags := 25, nameIndex := 284, descriptorIndex := 25, attributes := #[] }, { accessFlags := 25, nameIndex := 286, descriptorIndex := 25, attributes := #[] }, { accessFlags := 25, nameIndex := 288, descriptorIndex := 25, attributes := #[] }, { accessFlags := 25, nameIndex := 290, descriptorIndex := 25, attributes := #[] }, { accessFlags := 25, nameIndex := 292, descriptorIndex := 25, attributes := #[] }, { accessFlags := 26, nameIndex := 108, descriptorIndex := 109, attributes := #[] }, { accessFlags := 25, nameIndex := 294, descriptorIndex := 25, attributes := #[] }])
  fields := #[{ name := "U", type := (.object "jdk/internal/misc/Unsafe"), accessFlags := 24, slot := 0, constantValue := 0 }, { name := "BIG_ENDIAN", type := .boolean, accessFlags := 26, slot := 1, constantValue := 0 }, { name := "LOG2_ARRAY_BOOLEAN_INDEX_SCALE", type := .int, accessFlags := 25, slot := 2, constantValue := 0 }, { name := "LOG2_ARRAY_BYTE_INDEX_SCALE", type := .int, accessFlags := 25, slot := 3, constantValue := 0 }, { name := "LOG2_ARRAY_CHAR_INDEX_SCALE", type := .int, accessFlags := 25, slot := 4, constantValue := 0 }, { name := "LOG2_ARRAY_SHORT_INDEX_SCALE", type := .int, accessFlags := 25, slot := 5, constantValue := 0 }, { name := "LOG2_ARRAY_INT_INDEX_SCALE", type := .int, accessFlags := 25, slot := 6, constantValue := 0 }, { name := "LOG2_ARRAY_LONG_INDEX_SCALE", type := .int, accessFlags := 25, slot := 7, constantValue := 0 }, { name := "LOG2_ARRAY_FLOAT_INDEX_SCALE", type := .int, accessFlags := 25, slot := 8, constantValue := 0 }, { name := "LOG2_ARRAY_DOUBLE_INDEX_SCALE", type := .int, accessFlags := 25, slot := 9, constantValue := 0 }, { name := "LOG2_BYTE_BIT_SIZE", type := .int, accessFlags := 26, slot := 10, constantValue := 0 }, { name := "T_BOOLEAN", type := .int, accessFlags := 25, slot := 11, constantValue := 0 }, { name := "T_CHAR", type := .int, accessFlags := 25, slot := 12, constantValue := 0 }, { name := "T_FLOAT", type := .int, accessFlags := 25, slot := 13, constantValue := 0 }, { name := "T_DOUBLE", type := .int, accessFlags := 25, slot := 14, constantValue := 0 }, { name := "T_BYTE", type := .int, accessFlags := 25, slot := 15, constantValue := 0 }, { name := "T_SHORT", type := .int, accessFlags := 25, slot := 16, constantValue := 0 }, { name := "T_INT", type := .int, accessFlags := 25, slot := 17, constantValue := 0 }, { name := "T_LONG", type := .int, accessFlags := 25, slot := 18, constantValue := 0 }, { name := "JLA", type := (.object "jdk/internal/access/JavaLangAccess"), accessFlags := 26, slot := 19, constantValue := 0 }, { name := "SOFT_MAX_ARRAY_LENGTH", type := .int, accessFlags := 25, slot := 20, constantValue := 0 }]
  methods := #[k14m0]
  instanceTypes := #[]
  staticTypes := #[(.object "jdk/internal/misc/Unsafe"), .boolean, .int, .int, .int, .int, .int, .int, .int, .int, .int, .int, .int, .int, .int, .int, .int, .int, .int, (.object "jdk/internal/access/JavaLangAccess"), .int]
  resolved := Array.replicate 378 none
  statics := none }

def pool15 : Array CpInfo := pool [(1, u "java/lang/Cloneable"), (0, .class_ 1), (0, u "java/lang/Object"), (0, .class_ 3)] 3

/-- java/lang/Cloneable -/
def k15 : Class := { plain "java/lang/Cloneable" (some 0) with
  accessFlags := 1537
  interfaces := #[]
  cf := some (fileOf pool15 2 #[] #[] 1537 4 #[] #[])
  fields := #[]
  methods := #[]
  instanceTypes := #[]
  staticTypes := #[]
  resolved := Array.replicate 8 none
  statics := none }

/-- the primitive byte -/
def k16 : Class := { plain "byte" none with kind := .primitive 'B', accessFlags := 0x411 }
/-- [B -/
def k17 : Class := { plain "[B" (some 0) with kind := .array 16 .byte, interfaces := #[15, 4], accessFlags := 1041 }

/-- the primitive char -/
def k18 : Class := { plain "char" none with kind := .primitive 'C', accessFlags := 0x411 }
/-- [C -/
def k19 : Class := { plain "[C" (some 0) with kind := .array 18 .char, interfaces := #[15, 4], accessFlags := 1041 }

/-- the primitive int -/
def k20 : Class := { plain "int" none with kind := .primitive 'I', accessFlags := 0x411 }
/-- [I -/
def k21 : Class := { plain "[I" (some 0) with kind := .array 20 .int, interfaces := #[15, 4], accessFlags := 1041 }

def heap : Heap := #[{ cls := 6, slots := #[.ref 3, .ref 4, .ref 5, .null], vm := .statics 6 },
  { cls := 9, slots := #[.long 0, .int 1, .null, .int 0, .null, .int 0, .int 0], vm := .statics 9 },
  { cls := 13, slots := #[.null, .null, .null], vm := .statics 13 },
  { cls := 6, slots := #[.null, .int 0, .int 0], vm := .none },
  { cls := 6, slots := #[.null, .int 1, .int 0], vm := .none },
  { cls := 6, slots := #[.null, .int 2, .int 0], vm := .none }]
def classes : Array Class := #[k0, k1, k2, k3, k4, k5, k6, k7, k8, k9, k10, k11, k12, k13, k14, k15, k16, k17, k18, k19, k20, k21]
def interned : List (Array UInt16 × Addr) := []
def slotsUsed : Nat := 23
def theMethod : MethodId := ⟨1, 1⟩
def args0 : Array Value := #[.int 1, .int 2, .int 3, .int 4, .long 5]
def aboutOver (below : List Frame) : State where
  vm := { classes := classes, interned := interned.toArray }
  heap := heap
  slotsUsed := slotsUsed
  threads := #[{ frames := .invoking theMethod args0 :: below }]
def below0 : List Frame := [.native { method := ⟨0, 0⟩, args := #[] }]
def about1 : State := aboutOver below0
def p0 : Program := .bare "" "" ""
def e0 : Env := launch0.env 0 0 0
theorem w_frames : about1.frames = Frame.invoking theMethod args0 :: below0 := rfl
set_option maxRecDepth 65536 in
theorem w_args : argsFit about1.vm theMethod args0 = true := by decide +kernel
set_option maxRecDepth 65536 in
theorem w_heap : heapFits about1 = true := by decide +kernel
set_option maxRecDepth 65536 in
theorem w_runnable : about1.curStatus? = some .runnable := by decide +kernel
set_option maxRecDepth 65536 in
theorem w_alone : about1.alone = true := by decide +kernel
set_option maxRecDepth 65536 in
theorem w_named : about1.methodNamed? x = some theMethod := by decide +kernel
set_option maxRecDepth 65536 in
theorem w_hears : about1.hears theMethod below0 = true := by decide +kernel
set_option maxRecDepth 65536 in
theorem w_ripe : about1.ripe theMethod args0 below0 = true := by decide +kernel
theorem w_running : about1.status = .running := rfl
set_option maxRecDepth 65536 in
theorem w_room : about1.hasRoom e0.platform room_1 = true :=
  launch0.hasRoom_least _ room_1 (by decide +kernel) (by decide +kernel) (by decide +kernel) (by decide +kernel) (by decide +kernel) (by decide +kernel)
theorem allAtoms_all (ts : List Jvm.Cond) (a : Array Jvm.Value) (st : Jvm.State) : (allAtoms ts).before a st = ts.all (fun c => c.before a st) := by
  induction ts with
  | nil => rfl
  | cons c t ih =>
    show (Jvm.Cond.and c (allAtoms t)).before a st = _
    rw [Jvm.Cond.before_and, ih, List.all_cons]
def words1 : List Jvm.Cond := Jvm.Cond.code x code maxLocals ret :: tables_1
/-- a 'code' word, met by the world's own term for the bytes: nothing is compared byte by byte -/
theorem code_word {y : MethodName} {bytes : ByteArray} {mx : Nat} {rt : Option FieldType} {a : Array Value} {s : State} {m : MethodId} {meth : Method} {c : Code} (h1 : s.methodNamed? y = some m) (h2 : s.vm.method? m = some meth) (h3 : meth.code = some c) (h4 : c.code = bytes)
    (h5 : (c.maxLocals == mx && c.exceptionTable.isEmpty && decide (c.maxStack ≤ mostOperands) && decide (meth.sig.returnType = rt) && !meth.locks && decide (parseMethodDescriptor y.desc = some meth.sig)) = true) : (Jvm.Cond.code y bytes mx rt).before a s = true := by
  simp only [Bool.and_eq_true, beq_iff_eq, Bool.not_eq_true', decide_eq_true_eq] at h5
  obtain ⟨⟨⟨⟨⟨g1, g2⟩, g3⟩, g4⟩, g5⟩, g6⟩ := h5
  simp [Cond.before, Cond.holds, Cond.value, h1, h2, h3, h4, g1, g2, g3, g4, g5, g6]
def isCode : Jvm.Cond → Bool
  | .code _ _ _ _ => true
  | _ => false
theorem all_split {L : List Jvm.Cond} {P : Jvm.Cond → Bool} (h1 : L.all (fun c => isCode c || P c) = true) (h2 : ∀ c ∈ L.filter isCode, P c = true) : L.all P = true := by
  refine List.all_eq_true.mpr fun c hc => ?_
  have h := List.all_eq_true.mp h1 c hc
  rcases Bool.eq_false_or_eq_true (isCode c) with hi | hi
  · exact h2 c (List.mem_filter.mpr ⟨hc, hi⟩)
  · simpa [hi] using h
set_option maxRecDepth 65536 in
theorem w_c0 : (Jvm.Cond.code x code maxLocals ret).before args0 about1 = true := code_word (m := ⟨1, 1⟩) (meth := k1m1) (c := k1c1) (by decide +kernel) rfl rfl rfl (by decide +kernel)
set_option maxRecDepth 65536 in
theorem w_c1 : (Jvm.Cond.code ({ cls := "com/example/upshot/upshot/LengthOfPinLaw", name := "draw", desc := "(I)C" } : Jvm.MethodName) method_3_code (1 : Nat) (Option.some Jvm.ClassFile.FieldType.char)).before args0 about1 = true := code_word (m := ⟨1, 2⟩) (meth := k1m2) (c := k1c2) (by decide +kernel) rfl rfl rfl (by decide +kernel)
set_option maxRecDepth 65536 in
theorem w_c2 : (Jvm.Cond.code ({ cls := "com/example/upshot/upshot/LengthOfPinLaw", name := "text", desc := "([CI)Ljava/lang/String;" } : Jvm.MethodName) method_4_code (2 : Nat) (Option.some (Jvm.ClassFile.FieldType.object "java/lang/String"))).before args0 about1 = true := code_word (m := ⟨1, 3⟩) (meth := k1m3) (c := k1c3) (by decide +kernel) rfl rfl rfl (by decide +kernel)
set_option maxRecDepth 65536 in
theorem w_c3 : (Jvm.Cond.code ({ cls := "java/lang/String", name := "<init>", desc := "([C)V" } : Jvm.MethodName) jdk_42_method_3_code (2 : Nat) (Option.none : Option Jvm.ClassFile.FieldType)).before args0 about1 = true := code_word (m := ⟨9, 1⟩) (meth := k9m1) (c := k9c1) (by decide +kernel) rfl rfl rfl (by decide +kernel)
set_option maxRecDepth 65536 in
theorem w_c4 : (Jvm.Cond.code ({ cls := "java/lang/String", name := "<init>", desc := "([CIILjava/lang/Void;)V" } : Jvm.MethodName) jdk_42_method_149_code (6 : Nat) (Option.none : Option Jvm.ClassFile.FieldType)).before args0 about1 = true := code_word (m := ⟨9, 5⟩) (meth := k9m5) (c := k9c5) (by decide +kernel) rfl rfl rfl (by decide +kernel)
set_option maxRecDepth 65536 in
theorem w_c5 : (Jvm.Cond.code ({ cls := "java/lang/Object", name := "<init>", desc := "()V" } : Jvm.MethodName) object_method_1_code (1 : Nat) (Option.none : Option Jvm.ClassFile.FieldType)).before args0 about1 = true := code_word (m := ⟨0, 0⟩) (meth := k0m0) (c := k0c0) (by decide +kernel) rfl rfl rfl (by decide +kernel)
set_option maxRecDepth 65536 in
theorem w_c6 : (Jvm.Cond.code ({ cls := "java/lang/StringUTF16", name := "compress", desc := "([CII)[B" } : Jvm.MethodName) jdk_52_method_16_code (6 : Nat) (Option.some (Jvm.ClassFile.FieldType.array Jvm.ClassFile.FieldType.byte))).before args0 about1 = true := code_word (m := ⟨10, 2⟩) (meth := k10m2) (c := k10c2) (by decide +kernel) rfl rfl rfl (by decide +kernel)
set_option maxRecDepth 65536 in
theorem w_c7 : (Jvm.Cond.code ({ cls := "java/lang/StringUTF16", name := "compress", desc := "([CI[BII)I" } : Jvm.MethodName) jdk_52_method_21_code (7 : Nat) (Option.some Jvm.ClassFile.FieldType.int)).before args0 about1 = true := code_word (m := ⟨10, 3⟩) (meth := k10m3) (c := k10c3) (by decide +kernel) rfl rfl rfl (by decide +kernel)
set_option maxRecDepth 65536 in
theorem w_c8 : (Jvm.Cond.code ({ cls := "java/lang/StringUTF16", name := "coderFromArrayLen", desc := "([BI)B" } : Jvm.MethodName) jdk_52_method_15_code (2 : Nat) (Option.some Jvm.ClassFile.FieldType.byte)).before args0 about1 = true := code_word (m := ⟨10, 1⟩) (meth := k10m1) (c := k10c1) (by decide +kernel) rfl rfl rfl (by decide +kernel)
set_option maxRecDepth 65536 in
theorem w_c9 : (Jvm.Cond.code ({ cls := "com/example/upshot/upshot/ColumnCatalog$Length", name := "<init>", desc := "(Lcom/example/upshot/upshot/ColumnCatalog$Length$Unit;J)V" } : Jvm.MethodName) prog_3_method_1_code (4 : Nat) (Option.none : Option Jvm.ClassFile.FieldType)).before args0 about1 = true := code_word (m := ⟨11, 0⟩) (meth := k11m0) (c := k11c0) (by decide +kernel) rfl rfl rfl (by decide +kernel)
set_option maxRecDepth 65536 in
theorem w_c10 : (Jvm.Cond.code ({ cls := "com/example/upshot/upshot/ColumnCatalog$Length", name := "of", desc := "(Ljava/lang/Object;)J" } : Jvm.MethodName) prog_3_method_5_code (6 : Nat) (Option.some Jvm.ClassFile.FieldType.long)).before args0 about1 = true := code_word (m := ⟨11, 3⟩) (meth := k11m3) (c := k11c3) (by decide +kernel) rfl rfl rfl (by decide +kernel)
set_option maxRecDepth 65536 in
theorem w_c11 : (Jvm.Cond.code ({ cls := "java/lang/String", name := "length", desc := "()I" } : Jvm.MethodName) jdk_42_method_54_code (1 : Nat) (Option.some Jvm.ClassFile.FieldType.int)).before args0 about1 = true := code_word (m := ⟨9, 2⟩) (meth := k9m2) (c := k9c2) (by decide +kernel) rfl rfl rfl (by decide +kernel)
set_option maxRecDepth 65536 in
theorem w_c12 : (Jvm.Cond.code ({ cls := "java/lang/String", name := "coder", desc := "()B" } : Jvm.MethodName) jdk_42_method_152_code (1 : Nat) (Option.some Jvm.ClassFile.FieldType.byte)).before args0 about1 = true := code_word (m := ⟨9, 7⟩) (meth := k9m7) (c := k9c7) (by decide +kernel) rfl rfl rfl (by decide +kernel)
set_option maxRecDepth 65536 in
theorem w_c13 : (Jvm.Cond.code ({ cls := "com/example/upshot/upshot/ColumnCatalog$Length", name := "unit", desc := "()Lcom/example/upshot/upshot/ColumnCatalog$Length$Unit;" } : Jvm.MethodName) prog_3_method_2_code (1 : Nat) (Option.some (Jvm.ClassFile.FieldType.object "com/example/upshot/upshot/ColumnCatalog$Length$Unit"))).before args0 about1 = true := code_word (m := ⟨11, 1⟩) (meth := k11m1) (c := k11c1) (by decide +kernel) rfl rfl rfl (by decide +kernel)
set_option maxRecDepth 65536 in
theorem w_c14 : (Jvm.Cond.code ({ cls := "com/example/upshot/upshot/ColumnCatalog$Length", name := "most", desc := "()J" } : Jvm.MethodName) prog_3_method_3_code (1 : Nat) (Option.some Jvm.ClassFile.FieldType.long)).before args0 about1 = true := code_word (m := ⟨11, 2⟩) (meth := k11m2) (c := k11c2) (by decide +kernel) rfl rfl rfl (by decide +kernel)
set_option maxRecDepth 65536 in
theorem w_c15 : (Jvm.Cond.code ({ cls := "com/example/upshot/upshot/LengthOfPinLaw", name := "trimmed", desc := "([CI)I" } : Jvm.MethodName) method_5_code (2 : Nat) (Option.some Jvm.ClassFile.FieldType.int)).before args0 about1 = true := code_word (m := ⟨1, 4⟩) (meth := k1m4) (c := k1c4) (by decide +kernel) rfl rfl rfl (by decide +kernel)
set_option maxRecDepth 65536 in
theorem w_c16 : (Jvm.Cond.code ({ cls := "java/lang/String", name := "valueOf", desc := "(C)Ljava/lang/String;" } : Jvm.MethodName) jdk_42_method_139_code (1 : Nat) (Option.some (Jvm.ClassFile.FieldType.object "java/lang/String"))).before args0 about1 = true := code_word (m := ⟨9, 4⟩) (meth := k9m4) (c := k9c4) (by decide +kernel) rfl rfl rfl (by decide +kernel)
set_option maxRecDepth 65536 in
theorem w_c17 : (Jvm.Cond.code ({ cls := "java/lang/StringLatin1", name := "canEncode", desc := "(C)Z" } : Jvm.MethodName) jdk_43_method_3_code (1 : Nat) (Option.some Jvm.ClassFile.FieldType.boolean)).before args0 about1 = true := code_word (m := ⟨12, 2⟩) (meth := k12m2) (c := k12c2) (by decide +kernel) rfl rfl rfl (by decide +kernel)
set_option maxRecDepth 65536 in
theorem w_c18 : (Jvm.Cond.code ({ cls := "java/lang/StringLatin1", name := "toBytes", desc := "(C)[B" } : Jvm.MethodName) jdk_43_method_46_code (1 : Nat) (Option.some (Jvm.ClassFile.FieldType.array Jvm.ClassFile.FieldType.byte))).before args0 about1 = true := code_word (m := ⟨12, 3⟩) (meth := k12m3) (c := k12c3) (by decide +kernel) rfl rfl rfl (by decide +kernel)
set_option maxRecDepth 65536 in
theorem w_c19 : (Jvm.Cond.code ({ cls := "java/lang/String", name := "<init>", desc := "([BB)V" } : Jvm.MethodName) jdk_42_method_151_code (3 : Nat) (Option.none : Option Jvm.ClassFile.FieldType)).before args0 about1 = true := code_word (m := ⟨9, 6⟩) (meth := k9m6) (c := k9c6) (by decide +kernel) rfl rfl rfl (by decide +kernel)
set_option maxRecDepth 65536 in
theorem w_c20 : (Jvm.Cond.code ({ cls := "java/lang/String", name := "charAt", desc := "(I)C" } : Jvm.MethodName) jdk_42_method_56_code (2 : Nat) (Option.some Jvm.ClassFile.FieldType.char)).before args0 about1 = true := code_word (m := ⟨9, 3⟩) (meth := k9m3) (c := k9c3) (by decide +kernel) rfl rfl rfl (by decide +kernel)
set_option maxRecDepth 65536 in
theorem w_c21 : (Jvm.Cond.code ({ cls := "java/lang/String", name := "isLatin1", desc := "()Z" } : Jvm.MethodName) jdk_42_method_154_code (1 : Nat) (Option.some Jvm.ClassFile.FieldType.boolean)).before args0 about1 = true := code_word (m := ⟨9, 8⟩) (meth := k9m8) (c := k9c8) (by decide +kernel) rfl rfl rfl (by decide +kernel)
set_option maxRecDepth 65536 in
theorem w_c22 : (Jvm.Cond.code ({ cls := "java/lang/StringLatin1", name := "charAt", desc := "([BI)C" } : Jvm.MethodName) jdk_43_method_2_code (2 : Nat) (Option.some Jvm.ClassFile.FieldType.char)).before args0 about1 = true := code_word (m := ⟨12, 1⟩) (meth := k12m1) (c := k12c1) (by decide +kernel) rfl rfl rfl (by decide +kernel)
set_option maxRecDepth 65536 in
theorem w_c23 : (Jvm.Cond.code ({ cls := "java/lang/String", name := "checkIndex", desc := "(II)V" } : Jvm.MethodName) jdk_42_method_155_code (2 : Nat) (Option.none : Option Jvm.ClassFile.FieldType)).before args0 about1 = true := code_word (m := ⟨9, 9⟩) (meth := k9m9) (c := k9c9) (by decide +kernel) rfl rfl rfl (by decide +kernel)
set_option maxRecDepth 65536 in
theorem w_c24 : (Jvm.Cond.code ({ cls := "jdk/internal/util/Preconditions", name := "checkIndex", desc := "(IILjava/util/function/BiFunction;)I" } : Jvm.MethodName) jdk_41_method_11_code (3 : Nat) (Option.some Jvm.ClassFile.FieldType.int)).before args0 about1 = true := code_word (m := ⟨13, 1⟩) (meth := k13m1) (c := k13c1) (by decide +kernel) rfl rfl rfl (by decide +kernel)
def codes1 : List Jvm.Cond := [Jvm.Cond.code x code maxLocals ret, Jvm.Cond.code ({ cls := "com/example/upshot/upshot/LengthOfPinLaw", name := "draw", desc := "(I)C" } : Jvm.MethodName) method_3_code (1 : Nat) (Option.some Jvm.ClassFile.FieldType.char), Jvm.Cond.code ({ cls := "com/example/upshot/upshot/LengthOfPinLaw", name := "text", desc := "([CI)Ljava/lang/String;" } : Jvm.MethodName) method_4_code (2 : Nat) (Option.some (Jvm.ClassFile.FieldType.object "java/lang/String")), Jvm.Cond.code ({ cls := "java/lang/String", name := "<init>", desc := "([C)V" } : Jvm.MethodName) jdk_42_method_3_code (2 : Nat) (Option.none : Option Jvm.ClassFile.FieldType), Jvm.Cond.code ({ cls := "java/lang/String", name := "<init>", desc := "([CIILjava/lang/Void;)V" } : Jvm.MethodName) jdk_42_method_149_code (6 : Nat) (Option.none : Option Jvm.ClassFile.FieldType), Jvm.Cond.code ({ cls := "java/lang/Object", name := "<init>", desc := "()V" } : Jvm.MethodName) object_method_1_code (1 : Nat) (Option.none : Option Jvm.ClassFile.FieldType), Jvm.Cond.code ({ cls := "java/lang/StringUTF16", name := "compress", desc := "([CII)[B" } : Jvm.MethodName) jdk_52_method_16_code (6 : Nat) (Option.some (Jvm.ClassFile.FieldType.array Jvm.ClassFile.FieldType.byte)), Jvm.Cond.code ({ cls := "java/lang/StringUTF16", name := "compress", desc := "([CI[BII)I" } : Jvm.MethodName) jdk_52_method_21_code (7 : Nat) (Option.some Jvm.ClassFile.FieldType.int), Jvm.Cond.code ({ cls := "java/lang/StringUTF16", name := "coderFromArrayLen", desc := "([BI)B" } : Jvm.MethodName) jdk_52_method_15_code (2 : Nat) (Option.some Jvm.ClassFile.FieldType.byte), Jvm.Cond.code ({ cls := "com/example/upshot/upshot/ColumnCatalog$Length", name := "<init>", desc := "(Lcom/example/upshot/upshot/ColumnCatalog$Length$Unit;J)V" } : Jvm.MethodName) prog_3_method_1_code (4 : Nat) (Option.none : Option Jvm.ClassFile.FieldType), Jvm.Cond.code ({ cls := "com/example/upshot/upshot/ColumnCatalog$Length", name := "of", desc := "(Ljava/lang/Object;)J" } : Jvm.MethodName) prog_3_method_5_code (6 : Nat) (Option.some Jvm.ClassFile.FieldType.long), Jvm.Cond.code ({ cls := "java/lang/String", name := "length", desc := "()I" } : Jvm.MethodName) jdk_42_method_54_code (1 : Nat) (Option.some Jvm.ClassFile.FieldType.int), Jvm.Cond.code ({ cls := "java/lang/String", name := "coder", desc := "()B" } : Jvm.MethodName) jdk_42_method_152_code (1 : Nat) (Option.some Jvm.ClassFile.FieldType.byte), Jvm.Cond.code ({ cls := "com/example/upshot/upshot/ColumnCatalog$Length", name := "unit", desc := "()Lcom/example/upshot/upshot/ColumnCatalog$Length$Unit;" } : Jvm.MethodName) prog_3_method_2_code (1 : Nat) (Option.some (Jvm.ClassFile.FieldType.object "com/example/upshot/upshot/ColumnCatalog$Length$Unit")), Jvm.Cond.code ({ cls := "com/example/upshot/upshot/ColumnCatalog$Length", name := "most", desc := "()J" } : Jvm.MethodName) prog_3_method_3_code (1 : Nat) (Option.some Jvm.ClassFile.FieldType.long), Jvm.Cond.code ({ cls := "com/example/upshot/upshot/LengthOfPinLaw", name := "trimmed", desc := "([CI)I" } : Jvm.MethodName) method_5_code (2 : Nat) (Option.some Jvm.ClassFile.FieldType.int), Jvm.Cond.code ({ cls := "java/lang/String", name := "valueOf", desc := "(C)Ljava/lang/String;" } : Jvm.MethodName) jdk_42_method_139_code (1 : Nat) (Option.some (Jvm.ClassFile.FieldType.object "java/lang/String")), Jvm.Cond.code ({ cls := "java/lang/StringLatin1", name := "canEncode", desc := "(C)Z" } : Jvm.MethodName) jdk_43_method_3_code (1 : Nat) (Option.some Jvm.ClassFile.FieldType.boolean), Jvm.Cond.code ({ cls := "java/lang/StringLatin1", name := "toBytes", desc := "(C)[B" } : Jvm.MethodName) jdk_43_method_46_code (1 : Nat) (Option.some (Jvm.ClassFile.FieldType.array Jvm.ClassFile.FieldType.byte)), Jvm.Cond.code ({ cls := "java/lang/String", name := "<init>", desc := "([BB)V" } : Jvm.MethodName) jdk_42_method_151_code (3 : Nat) (Option.none : Option Jvm.ClassFile.FieldType), Jvm.Cond.code ({ cls := "java/lang/String", name := "charAt", desc := "(I)C" } : Jvm.MethodName) jdk_42_method_56_code (2 : Nat) (Option.some Jvm.ClassFile.FieldType.char), Jvm.Cond.code ({ cls := "java/lang/String", name := "isLatin1", desc := "()Z" } : Jvm.MethodName) jdk_42_method_154_code (1 : Nat) (Option.some Jvm.ClassFile.FieldType.boolean), Jvm.Cond.code ({ cls := "java/lang/StringLatin1", name := "charAt", desc := "([BI)C" } : Jvm.MethodName) jdk_43_method_2_code (2 : Nat) (Option.some Jvm.ClassFile.FieldType.char), Jvm.Cond.code ({ cls := "java/lang/String", name := "checkIndex", desc := "(II)V" } : Jvm.MethodName) jdk_42_method_155_code (2 : Nat) (Option.none : Option Jvm.ClassFile.FieldType), Jvm.Cond.code ({ cls := "jdk/internal/util/Preconditions", name := "checkIndex", desc := "(IILjava/util/function/BiFunction;)I" } : Jvm.MethodName) jdk_41_method_11_code (3 : Nat) (Option.some Jvm.ClassFile.FieldType.int)]
set_option maxRecDepth 65536 in
theorem codes_eq : words1.filter isCode = codes1 := rfl
theorem w_codes : ∀ c ∈ words1.filter isCode, c.before args0 about1 = true := by
  rw [codes_eq]
  intro c hc
  simp only [codes1, List.mem_cons, List.not_mem_nil, or_false] at hc
  rcases hc with rfl | rfl | rfl | rfl | rfl | rfl | rfl | rfl | rfl | rfl | rfl | rfl | rfl | rfl | rfl | rfl | rfl | rfl | rfl | rfl | rfl | rfl | rfl | rfl | rfl
  · exact w_c0
  · exact w_c1
  · exact w_c2
  · exact w_c3
  · exact w_c4
  · exact w_c5
  · exact w_c6
  · exact w_c7
  · exact w_c8
  · exact w_c9
  · exact w_c10
  · exact w_c11
  · exact w_c12
  · exact w_c13
  · exact w_c14
  · exact w_c15
  · exact w_c16
  · exact w_c17
  · exact w_c18
  · exact w_c19
  · exact w_c20
  · exact w_c21
  · exact w_c22
  · exact w_c23
  · exact w_c24
set_option maxRecDepth 65536 in
theorem w_t1 : (words1.take 24).all (fun c => isCode c || c.before args0 about1) = true := by decide +kernel
set_option maxRecDepth 65536 in
theorem w_t2 : ((words1.drop 24).take 24).all (fun c => isCode c || c.before args0 about1) = true := by decide +kernel
set_option maxRecDepth 65536 in
theorem w_t3 : (((words1.drop 24).drop 24).take 24).all (fun c => isCode c || c.before args0 about1) = true := by decide +kernel
set_option maxRecDepth 65536 in
theorem w_t4 : ((((words1.drop 24).drop 24).drop 24).take 24).all (fun c => isCode c || c.before args0 about1) = true := by decide +kernel
set_option maxRecDepth 65536 in
theorem w_t5 : (((((words1.drop 24).drop 24).drop 24).drop 24).take 24).all (fun c => isCode c || c.before args0 about1) = true := by decide +kernel
set_option maxRecDepth 65536 in
theorem w_t6 : (((((words1.drop 24).drop 24).drop 24).drop 24).drop 24).all (fun c => isCode c || c.before args0 about1) = true := by decide +kernel
theorem w_tables : (allAtoms (Jvm.Cond.code x code maxLocals ret :: tables_1)).before args0 about1 = true := by
  rw [allAtoms_all]
  show words1.all (fun c => c.before args0 about1) = true
  refine all_split ?_ w_codes
  rw [← List.take_append_drop 24 words1, List.all_append, w_t1, ← List.take_append_drop 24 (words1.drop 24), List.all_append, w_t2, ← List.take_append_drop 24 ((words1.drop 24).drop 24), List.all_append, w_t3, ← List.take_append_drop 24 (((words1.drop 24).drop 24).drop 24), List.all_append, w_t4, ← List.take_append_drop 24 ((((words1.drop 24).drop 24).drop 24).drop 24), List.all_append, w_t5, w_t6]
  rfl
set_option maxRecDepth 65536 in
theorem w_rest : rest_1_c.before args0 about1 = true := by decide +kernel
set_option maxRecDepth 65536 in
theorem w_case : (Jvm.Cond.and given_1 narrow_1).before args0 about1 = true := by decide +kernel
set_option maxRecDepth 65536 in
theorem w_consts : constsHeld consts_1 about1 := Jvm.Lit.constsHeldB_iff.mp (by decide +kernel)
theorem w_applies : (headSpec (Jvm.Cond.code x code maxLocals ret :: tables_1) room_1).applies x e0.platform about1 = true :=
  (Spec.applies_iff w_frames).mpr ⟨w_running, w_runnable, w_alone, w_named, w_hears, w_ripe, w_room, w_tables⟩
theorem atStart : AtStart classFile x code maxLocals ret World_1 tables_1 room_1 Calls_1 rest_1 Pre_1 launch0 p0 e0 about1 theMethod args0 below0 :=
  ⟨lists_1, trivial, launch0.admits_env _ _ _, launch0.least_env, fairChoices_fair.cas, fairChoices_fair.clock, w_frames, w_args, w_heap, w_applies, ⟨w_consts, trivial⟩, w_rest, w_case⟩
end start1
theorem witness_1 : WitnessClaimed_1 := ⟨start1.p0, start1.e0, start1.about1, start1.theMethod, start1.args0, start1.below0, start1.atStart⟩
end Jvm.Pilot.@@N@@
