import JvmDerived
import JvmDerived.Pilot.@@N@@Statement
import JvmDerived.Pilot.@@N@@Code
set_option linter.unusedVariables false
set_option linter.unusedSimpArgs false
namespace Jvm.Pilot.@@N@@
open Jvm Jvm.ClassFile Sem Op Lib Jvm.Free Jvm.Stand Jvm.LawKit Jvm.RoadKit Bundle Jvm.Pilot.@@N@@.Jvm.D
/-- from the state S the run comes to an end of which Q holds -/
def Own (p : Program) (e : Env) (below : List Frame) (Q : State → Outcome → Prop) (S : State) : Prop := ∃ s₂ o, Steps p.tables e below S s₂ ∧ s₂.status = .running ∧ Ended s₂ below o ∧ Q s₂ o
theorem ogo {p : Program} {e : Env} {below : List Frame} {Q : State → Outcome → Prop} {S S' : State} (h : ∀ t, Steps p.tables e below S' t → Steps p.tables e below S t) (k : Own p e below Q S') : Own p e below Q S := by
  obtain ⟨t, o, k1, k2⟩ := k; exact ⟨t, o, h _ k1, k2⟩
theorem otr {p : Program} {e : Env} {below : List Frame} {Q : State → Outcome → Prop} {S S' : State} (h : Steps p.tables e below S S') (k : Own p e below Q S') : Own p e below Q S := by
  obtain ⟨t, o, k1, k2⟩ := k; exact ⟨t, o, h.trans k1, k2⟩
/-- what a contract says of the end: q of what is returned, of the heap and of the places written; the frame -/
abbrev oPost (q : Option Value → Heap → List Loc → Prop) (s : State) (cc ss : Nat) : State → Outcome → Prop := fun s₂ o => ∃ v L, o = .returned v ∧ q v s₂.heap L ∧ FrameEnd s o s₂ L cc ss
abbrev oMet (l : Launch) (Z : State) (y : MethodName) (code : ByteArray) (maxL : Nat) (ret : Option FieldType) (ws : List Jvm.Cond) (rm : Room) (cc ss : Nat) (as' : Array Value) (h0 : Heap) (q : Option Value → Heap → List Loc → Prop) : Prop :=
  MetFree l y (head1 (Jvm.Cond.code y code maxL ret :: ws) rm) (fun a U => a = as' ∧ Z.Warmed39 U.vm ∧ U.heap = h0) (fun _ _ _ _ _ => True) (fun _ U o U' => ∃ v L, o = .returned v ∧ q v U'.heap L ∧ FrameEnd U o U' L cc ss)
theorem oenter {l : Launch} {Z : State} {y : MethodName} {code : ByteArray} {maxL : Nat} {ret : Option FieldType} {ws : List Jvm.Cond} {rm : Room} {cc ss : Nat} {as' : Array Value} {h0 : Heap} {q : Option Value → Heap → List Loc → Prop} (pn : plainName y.cls = true) (Ls : Array Slot) (ef : ∀ m, entryFrame m as' maxL = mkF m 0 Ls [])
    (body : ∀ (p : Program) (e : Env) (s : State) (m : MethodId) (below : List Frame) (meth : Method) (c : Code) (s₁ : State), Stand p l e rm s m as' below meth c s₁ [] 0 0 → p.tables.exec = Jvm.exec → Z.Warmed39 s.vm → c.code = code → c.maxLocals = maxL → meth.sig.returnType = ret → s.vm.findClass y.cls = some m.cls → meth.name = y.name → meth.locks = false → s₁.heap = h0 → Own p e below (oPost q s cc ss) (s₁.setTop (mkF m 0 Ls []))) : oMet l Z y code maxL ret ws rm cc ss as' h0 q := by
  refine MetFree.of_bodySF (plainFor_of_name pn) hisR ?_
  intro p e s m args below meth c s₁ Bd hml0 hP hK
  obtain ⟨rfl, hZ, hh⟩ := hP
  have e0 : s₁.heap = h0 := by rw [← hh, Bd.state]; rfl
  obtain ⟨t, o, h1, h2⟩ := body p e s m below meth c s₁ (Stand.of_body Bd) Bd.exec hZ Bd.bytes hml0 Bd.returns (findClass_of_methodNamed Bd.named) (name_of_methodNamed Bd.named Bd.method).1 (BodyLoose.notSynchronized Bd) e0
  exact ⟨t, o, castTop (ef m) h1, h2⟩
def own_ushr (x y : Int32) : Int32 := (x.toUInt32 >>> (y &&& 31).toUInt32).toInt32
def own_ushrL (x : Int64) (y : Int32) : Int64 := (x.toUInt64 >>> (y &&& 0x3f).toInt64.toUInt64).toInt64
section Steps
variable {p : Program} {l : Launch} {e : Env} {R : Room} {s : State} {m : MethodId} {args : Array Value} {below : List Frame} {meth : Method} {c : Code} {T : State} {locs : List Loc} {cells slots : Nat} {Q : State → Outcome → Prop}
theorem oend {v : Option Value} {q : Option Value → Heap → List Loc → Prop} {cc ss : Nat} {S : State} (X : Stand p l e R s m args below meth c T locs cells slots) (hlk : meth.locks = false) (hv : meth.sig.returnType = none → v = none)
    (st : ∀ fs, (∀ (f : JFrame) (acts : List Action), f.method = m → f.locked = none → f.entered = [] → (doReturn e (T.setTop f) acts v).1 = T.setFrames fs) → Steps p.tables e below S (T.setFrames fs)) (hc : cells ≤ cc) (hs : slots ≤ ss) (hq : q v T.heap locs) : Own p e below (oPost q s cc ss) S := by
  obtain ⟨fs, hr, hrun, hended, hW, hsame⟩ := X.leave (v := v) hv hlk
  exact ⟨_, _, st fs hr, hrun, hended, _, _, rfl, hq, ⟨_, rfl⟩, hW, hsame.mono hc hs⟩
theorem o_aloadN (X : Stand p l e R s m args below meth c T locs cells slots) (hx : p.tables.exec = Jvm.exec) {pc : Nat} {L : Array Slot} {S : List Value} {i : Fin 4} {v : Value} (hd : decode c.code pc = .ok (.aload_n i, 1)) (hl : L[i.val]? = some (.val v)) (hv : v.isRef = true) (k : Own p e below Q (T.setTop (mkF m (pc + 1) L (v :: S)))) : Own p e below Q (T.setTop (mkF m pc L S)) :=
  ogo (fun _ k => XS.aloadN X.here hx rfl hd hl hv k) k
theorem o_aload (X : Stand p l e R s m args below meth c T locs cells slots) (hx : p.tables.exec = Jvm.exec) {pc : Nat} {L : Array Slot} {S : List Value} {i : Nat} {v : Value} (hd : decode c.code pc = .ok (.aload i, 2)) (hl : L[i]? = some (.val v)) (hv : v.isRef = true) (k : Own p e below Q (T.setTop (mkF m (pc + 2) L (v :: S)))) : Own p e below Q (T.setTop (mkF m pc L S)) :=
  ogo (fun _ k => XS.aload X.here hx rfl hd hl hv k) k
theorem o_iloadN (X : Stand p l e R s m args below meth c T locs cells slots) (hx : p.tables.exec = Jvm.exec) {pc : Nat} {L : Array Slot} {S : List Value} {i : Fin 4} {v : Int32} (hd : decode c.code pc = .ok (.iload_n i, 1)) (hl : L[i.val]? = some (.val (.int v))) (k : Own p e below Q (T.setTop (mkF m (pc + 1) L ((.int v) :: S)))) : Own p e below Q (T.setTop (mkF m pc L S)) :=
  ogo (fun _ k => XS.iloadN X.here hx rfl hd hl k) k
theorem o_iload (X : Stand p l e R s m args below meth c T locs cells slots) (hx : p.tables.exec = Jvm.exec) {pc : Nat} {L : Array Slot} {S : List Value} {i : Nat} {v : Int32} (hd : decode c.code pc = .ok (.iload i, 2)) (hl : L[i]? = some (.val (.int v))) (k : Own p e below Q (T.setTop (mkF m (pc + 2) L ((.int v) :: S)))) : Own p e below Q (T.setTop (mkF m pc L S)) :=
  ogo (fun _ k => XS.iload X.here hx rfl hd hl k) k
theorem o_lloadN (X : Stand p l e R s m args below meth c T locs cells slots) (hx : p.tables.exec = Jvm.exec) {pc : Nat} {L : Array Slot} {S : List Value} {i : Fin 4} {v : Int64} (hd : decode c.code pc = .ok (.lload_n i, 1)) (hl : L[i.val]? = some (.val (.long v))) (k : Own p e below Q (T.setTop (mkF m (pc + 1) L ((.long v) :: S)))) : Own p e below Q (T.setTop (mkF m pc L S)) :=
  ogo (fun _ k => XS.lloadN X.here hx rfl hd hl k) k
theorem o_lload (X : Stand p l e R s m args below meth c T locs cells slots) (hx : p.tables.exec = Jvm.exec) {pc : Nat} {L : Array Slot} {S : List Value} {i : Nat} {v : Int64} (hd : decode c.code pc = .ok (.lload i, 2)) (hl : L[i]? = some (.val (.long v))) (k : Own p e below Q (T.setTop (mkF m (pc + 2) L ((.long v) :: S)))) : Own p e below Q (T.setTop (mkF m pc L S)) :=
  ogo (fun _ k => XS.lload X.here hx rfl hd hl k) k
theorem o_astoreN (X : Stand p l e R s m args below meth c T locs cells slots) (hx : p.tables.exec = Jvm.exec) {pc : Nat} {L : Array Slot} {S : List Value} {i : Fin 4} {v : Value} {l' : Array Slot} (hd : decode c.code pc = .ok (.astore_n i, 1)) (hv : v.isRef = true) (hl : storeLocals L i.val v = some l') (k : Own p e below Q (T.setTop (mkF m (pc + 1) l' S))) : Own p e below Q (T.setTop (mkF m pc L (v :: S))) :=
  ogo (fun _ k => XS.astoreN X.here hx rfl hd rfl hv hl k) k
theorem o_astore (X : Stand p l e R s m args below meth c T locs cells slots) (hx : p.tables.exec = Jvm.exec) {pc : Nat} {L : Array Slot} {S : List Value} {i : Nat} {v : Value} {l' : Array Slot} (hd : decode c.code pc = .ok (.astore i, 2)) (hv : v.isRef = true) (hl : storeLocals L i v = some l') (k : Own p e below Q (T.setTop (mkF m (pc + 2) l' S))) : Own p e below Q (T.setTop (mkF m pc L (v :: S))) :=
  ogo (fun _ k => XS.astore X.here hx rfl hd rfl hv hl k) k
theorem o_istoreN (X : Stand p l e R s m args below meth c T locs cells slots) (hx : p.tables.exec = Jvm.exec) {pc : Nat} {L : Array Slot} {S : List Value} {i : Fin 4} {v : Int32} {l' : Array Slot} (hd : decode c.code pc = .ok (.istore_n i, 1)) (hl : storeLocals L i.val (.int v) = some l') (k : Own p e below Q (T.setTop (mkF m (pc + 1) l' S))) : Own p e below Q (T.setTop (mkF m pc L ((.int v) :: S))) :=
  ogo (fun _ k => XS.istoreN X.here hx rfl hd rfl hl k) k
theorem o_istore (X : Stand p l e R s m args below meth c T locs cells slots) (hx : p.tables.exec = Jvm.exec) {pc : Nat} {L : Array Slot} {S : List Value} {i : Nat} {v : Int32} {l' : Array Slot} (hd : decode c.code pc = .ok (.istore i, 2)) (hl : storeLocals L i (.int v) = some l') (k : Own p e below Q (T.setTop (mkF m (pc + 2) l' S))) : Own p e below Q (T.setTop (mkF m pc L ((.int v) :: S))) :=
  ogo (fun _ k => XS.istore X.here hx rfl hd rfl hl k) k
theorem o_lstoreN (X : Stand p l e R s m args below meth c T locs cells slots) (hx : p.tables.exec = Jvm.exec) {pc : Nat} {L : Array Slot} {S : List Value} {i : Fin 4} {v : Int64} {l' : Array Slot} (hd : decode c.code pc = .ok (.lstore_n i, 1)) (hl : storeLocals L i.val (.long v) = some l') (k : Own p e below Q (T.setTop (mkF m (pc + 1) l' S))) : Own p e below Q (T.setTop (mkF m pc L ((.long v) :: S))) :=
  ogo (fun _ k => XS.lstoreN X.here hx rfl hd rfl hl k) k
theorem o_lstore (X : Stand p l e R s m args below meth c T locs cells slots) (hx : p.tables.exec = Jvm.exec) {pc : Nat} {L : Array Slot} {S : List Value} {i : Nat} {v : Int64} {l' : Array Slot} (hd : decode c.code pc = .ok (.lstore i, 2)) (hl : storeLocals L i (.long v) = some l') (k : Own p e below Q (T.setTop (mkF m (pc + 2) l' S))) : Own p e below Q (T.setTop (mkF m pc L ((.long v) :: S))) :=
  ogo (fun _ k => XS.lstore X.here hx rfl hd rfl hl k) k
theorem o_iconst (X : Stand p l e R s m args below meth c T locs cells slots) (hx : p.tables.exec = Jvm.exec) {pc : Nat} {L : Array Slot} {S : List Value} {i : Int} (v : Int32) (hd : decode c.code pc = .ok (.iconst i, 1)) (hv : Int32.ofInt i = v) (k : Own p e below Q (T.setTop (mkF m (pc + 1) L (.int v :: S)))) : Own p e below Q (T.setTop (mkF m pc L S)) := by
  subst hv; exact ogo (fun _ k => XS.iconst X.here hx rfl hd k) k
theorem o_bipush (X : Stand p l e R s m args below meth c T locs cells slots) (hx : p.tables.exec = Jvm.exec) {pc : Nat} {L : Array Slot} {S : List Value} {i : Int} (v : Int32) (hd : decode c.code pc = .ok (.bipush i, 2)) (hv : (Int8.ofInt i).toInt32 = v) (k : Own p e below Q (T.setTop (mkF m (pc + 2) L (.int v :: S)))) : Own p e below Q (T.setTop (mkF m pc L S)) := by
  subst hv; exact ogo (fun _ k => XS.bipush X.here hx rfl hd k) k
theorem o_sipush (X : Stand p l e R s m args below meth c T locs cells slots) (hx : p.tables.exec = Jvm.exec) {pc : Nat} {L : Array Slot} {S : List Value} {i : Int} (v : Int32) (hd : decode c.code pc = .ok (.sipush i, 3)) (hv : (Int16.ofInt i).toInt32 = v) (k : Own p e below Q (T.setTop (mkF m (pc + 3) L (.int v :: S)))) : Own p e below Q (T.setTop (mkF m pc L S)) := by
  subst hv; exact ogo (fun _ k => XS.sipush X.here hx rfl hd k) k
theorem o_lconst (X : Stand p l e R s m args below meth c T locs cells slots) (hx : p.tables.exec = Jvm.exec) {pc : Nat} {L : Array Slot} {S : List Value} {i : Fin 2} (v : Int64) (hd : decode c.code pc = .ok (.lconst i, 1)) (hv : Int64.ofNat i = v) (k : Own p e below Q (T.setTop (mkF m (pc + 1) L (.long v :: S)))) : Own p e below Q (T.setTop (mkF m pc L S)) := by
  subst hv; exact ogo (fun _ k => XS.lconst X.here hx rfl hd k) k
theorem o_aconst_null (X : Stand p l e R s m args below meth c T locs cells slots) (hx : p.tables.exec = Jvm.exec) {pc : Nat} {L : Array Slot} {S : List Value} (hd : decode c.code pc = .ok (.aconst_null, 1)) (k : Own p e below Q (T.setTop (mkF m (pc + 1) L (.null :: S)))) : Own p e below Q (T.setTop (mkF m pc L S)) :=
  ogo (fun _ k => XS.aconstNull X.here hx rfl hd k) k
theorem o_iadd (X : Stand p l e R s m args below meth c T locs cells slots) (hx : p.tables.exec = Jvm.exec) {pc : Nat} {L : Array Slot} {S : List Value} {x y : Int32} (hd : decode c.code pc = .ok (.iadd, 1)) (k : Own p e below Q (T.setTop (mkF m (pc + 1) L (.int (x + y) :: S)))) : Own p e below Q (T.setTop (mkF m pc L (.int y :: .int x :: S))) :=
  ogo (fun _ k => XS.iadd X.here hx rfl hd rfl k) k
theorem o_isub (X : Stand p l e R s m args below meth c T locs cells slots) (hx : p.tables.exec = Jvm.exec) {pc : Nat} {L : Array Slot} {S : List Value} {x y : Int32} (hd : decode c.code pc = .ok (.isub, 1)) (k : Own p e below Q (T.setTop (mkF m (pc + 1) L (.int (x - y) :: S)))) : Own p e below Q (T.setTop (mkF m pc L (.int y :: .int x :: S))) :=
  ogo (fun _ k => XS.isub X.here hx rfl hd rfl k) k
theorem o_imul (X : Stand p l e R s m args below meth c T locs cells slots) (hx : p.tables.exec = Jvm.exec) {pc : Nat} {L : Array Slot} {S : List Value} {x y : Int32} (hd : decode c.code pc = .ok (.imul, 1)) (k : Own p e below Q (T.setTop (mkF m (pc + 1) L (.int (x * y) :: S)))) : Own p e below Q (T.setTop (mkF m pc L (.int y :: .int x :: S))) :=
  ogo (fun _ k => XS.imul X.here hx rfl hd rfl k) k
theorem o_iand (X : Stand p l e R s m args below meth c T locs cells slots) (hx : p.tables.exec = Jvm.exec) {pc : Nat} {L : Array Slot} {S : List Value} {x y : Int32} (hd : decode c.code pc = .ok (.iand, 1)) (k : Own p e below Q (T.setTop (mkF m (pc + 1) L (.int (x &&& y) :: S)))) : Own p e below Q (T.setTop (mkF m pc L (.int y :: .int x :: S))) :=
  ogo (fun _ k => XS.iand X.here hx rfl hd rfl k) k
theorem o_ior (X : Stand p l e R s m args below meth c T locs cells slots) (hx : p.tables.exec = Jvm.exec) {pc : Nat} {L : Array Slot} {S : List Value} {x y : Int32} (hd : decode c.code pc = .ok (.ior, 1)) (k : Own p e below Q (T.setTop (mkF m (pc + 1) L (.int (x ||| y) :: S)))) : Own p e below Q (T.setTop (mkF m pc L (.int y :: .int x :: S))) :=
  ogo (fun _ k => XS.ior X.here hx rfl hd rfl k) k
theorem o_ixor (X : Stand p l e R s m args below meth c T locs cells slots) (hx : p.tables.exec = Jvm.exec) {pc : Nat} {L : Array Slot} {S : List Value} {x y : Int32} (hd : decode c.code pc = .ok (.ixor, 1)) (k : Own p e below Q (T.setTop (mkF m (pc + 1) L (.int (x ^^^ y) :: S)))) : Own p e below Q (T.setTop (mkF m pc L (.int y :: .int x :: S))) :=
  ogo (fun _ k => XS.ixor X.here hx rfl hd rfl k) k
theorem o_ladd (X : Stand p l e R s m args below meth c T locs cells slots) (hx : p.tables.exec = Jvm.exec) {pc : Nat} {L : Array Slot} {S : List Value} {x y : Int64} (hd : decode c.code pc = .ok (.ladd, 1)) (k : Own p e below Q (T.setTop (mkF m (pc + 1) L (.long (x + y) :: S)))) : Own p e below Q (T.setTop (mkF m pc L (.long y :: .long x :: S))) :=
  ogo (fun _ k => XS.ladd X.here hx rfl hd rfl k) k
theorem o_lsub (X : Stand p l e R s m args below meth c T locs cells slots) (hx : p.tables.exec = Jvm.exec) {pc : Nat} {L : Array Slot} {S : List Value} {x y : Int64} (hd : decode c.code pc = .ok (.lsub, 1)) (k : Own p e below Q (T.setTop (mkF m (pc + 1) L (.long (x - y) :: S)))) : Own p e below Q (T.setTop (mkF m pc L (.long y :: .long x :: S))) :=
  ogo (fun _ k => XS.lsub X.here hx rfl hd rfl k) k
theorem o_lmul (X : Stand p l e R s m args below meth c T locs cells slots) (hx : p.tables.exec = Jvm.exec) {pc : Nat} {L : Array Slot} {S : List Value} {x y : Int64} (hd : decode c.code pc = .ok (.lmul, 1)) (k : Own p e below Q (T.setTop (mkF m (pc + 1) L (.long (x * y) :: S)))) : Own p e below Q (T.setTop (mkF m pc L (.long y :: .long x :: S))) :=
  ogo (fun _ k => XS.lmul X.here hx rfl hd rfl k) k
theorem o_land (X : Stand p l e R s m args below meth c T locs cells slots) (hx : p.tables.exec = Jvm.exec) {pc : Nat} {L : Array Slot} {S : List Value} {x y : Int64} (hd : decode c.code pc = .ok (.land, 1)) (k : Own p e below Q (T.setTop (mkF m (pc + 1) L (.long (x &&& y) :: S)))) : Own p e below Q (T.setTop (mkF m pc L (.long y :: .long x :: S))) :=
  ogo (fun _ k => XS.land X.here hx rfl hd rfl k) k
theorem o_lor (X : Stand p l e R s m args below meth c T locs cells slots) (hx : p.tables.exec = Jvm.exec) {pc : Nat} {L : Array Slot} {S : List Value} {x y : Int64} (hd : decode c.code pc = .ok (.lor, 1)) (k : Own p e below Q (T.setTop (mkF m (pc + 1) L (.long (x ||| y) :: S)))) : Own p e below Q (T.setTop (mkF m pc L (.long y :: .long x :: S))) :=
  ogo (fun _ k => XS.lor X.here hx rfl hd rfl k) k
theorem o_lxor (X : Stand p l e R s m args below meth c T locs cells slots) (hx : p.tables.exec = Jvm.exec) {pc : Nat} {L : Array Slot} {S : List Value} {x y : Int64} (hd : decode c.code pc = .ok (.lxor, 1)) (k : Own p e below Q (T.setTop (mkF m (pc + 1) L (.long (x ^^^ y) :: S)))) : Own p e below Q (T.setTop (mkF m pc L (.long y :: .long x :: S))) :=
  ogo (fun _ k => XS.lxor X.here hx rfl hd rfl k) k
theorem o_ishl (X : Stand p l e R s m args below meth c T locs cells slots) (hx : p.tables.exec = Jvm.exec) {pc : Nat} {L : Array Slot} {S : List Value} {x : Int32} {y : Int32} (hd : decode c.code pc = .ok (.ishl, 1)) (k : Own p e below Q (T.setTop (mkF m (pc + 1) L (.int (x <<< (y &&& 31)) :: S)))) : Own p e below Q (T.setTop (mkF m pc L (.int y :: .int x :: S))) :=
  ogo (fun _ k => XS.ishl X.here hx rfl hd rfl k) k
theorem o_ishr (X : Stand p l e R s m args below meth c T locs cells slots) (hx : p.tables.exec = Jvm.exec) {pc : Nat} {L : Array Slot} {S : List Value} {x : Int32} {y : Int32} (hd : decode c.code pc = .ok (.ishr, 1)) (k : Own p e below Q (T.setTop (mkF m (pc + 1) L (.int (x >>> (y &&& 31)) :: S)))) : Own p e below Q (T.setTop (mkF m pc L (.int y :: .int x :: S))) :=
  ogo (fun _ k => XS.ishr X.here hx rfl hd rfl k) k
theorem o_iushr (X : Stand p l e R s m args below meth c T locs cells slots) (hx : p.tables.exec = Jvm.exec) {pc : Nat} {L : Array Slot} {S : List Value} {x : Int32} {y : Int32} (hd : decode c.code pc = .ok (.iushr, 1)) (k : Own p e below Q (T.setTop (mkF m (pc + 1) L (.int (own_ushr x y) :: S)))) : Own p e below Q (T.setTop (mkF m pc L (.int y :: .int x :: S))) :=
  ogo (fun _ k => XS.iushr X.here hx rfl hd rfl k) k
theorem o_lshl (X : Stand p l e R s m args below meth c T locs cells slots) (hx : p.tables.exec = Jvm.exec) {pc : Nat} {L : Array Slot} {S : List Value} {x : Int64} {y : Int32} (hd : decode c.code pc = .ok (.lshl, 1)) (k : Own p e below Q (T.setTop (mkF m (pc + 1) L (.long (x <<< (y &&& 0x3f).toInt64) :: S)))) : Own p e below Q (T.setTop (mkF m pc L (.int y :: .long x :: S))) :=
  ogo (fun _ k => XS.lshl X.here hx rfl hd rfl k) k
theorem o_lshr (X : Stand p l e R s m args below meth c T locs cells slots) (hx : p.tables.exec = Jvm.exec) {pc : Nat} {L : Array Slot} {S : List Value} {x : Int64} {y : Int32} (hd : decode c.code pc = .ok (.lshr, 1)) (k : Own p e below Q (T.setTop (mkF m (pc + 1) L (.long (x >>> (y &&& 0x3f).toInt64) :: S)))) : Own p e below Q (T.setTop (mkF m pc L (.int y :: .long x :: S))) :=
  ogo (fun _ k => XS.lshr X.here hx rfl hd rfl k) k
theorem o_lushr (X : Stand p l e R s m args below meth c T locs cells slots) (hx : p.tables.exec = Jvm.exec) {pc : Nat} {L : Array Slot} {S : List Value} {x : Int64} {y : Int32} (hd : decode c.code pc = .ok (.lushr, 1)) (k : Own p e below Q (T.setTop (mkF m (pc + 1) L (.long (own_ushrL x y) :: S)))) : Own p e below Q (T.setTop (mkF m pc L (.int y :: .long x :: S))) :=
  ogo (fun _ k => XS.lushr X.here hx rfl hd rfl k) k
theorem o_ineg (X : Stand p l e R s m args below meth c T locs cells slots) (hx : p.tables.exec = Jvm.exec) {pc : Nat} {L : Array Slot} {S : List Value} {x : Int32} (hd : decode c.code pc = .ok (.ineg, 1)) (k : Own p e below Q (T.setTop (mkF m (pc + 1) L (.int (-x) :: S)))) : Own p e below Q (T.setTop (mkF m pc L (.int x :: S))) :=
  ogo (fun _ k => XS.ineg X.here hx rfl hd rfl k) k
theorem o_lneg (X : Stand p l e R s m args below meth c T locs cells slots) (hx : p.tables.exec = Jvm.exec) {pc : Nat} {L : Array Slot} {S : List Value} {x : Int64} (hd : decode c.code pc = .ok (.lneg, 1)) (k : Own p e below Q (T.setTop (mkF m (pc + 1) L (.long (-x) :: S)))) : Own p e below Q (T.setTop (mkF m pc L (.long x :: S))) :=
  ogo (fun _ k => XS.lneg X.here hx rfl hd rfl k) k
theorem o_i2l (X : Stand p l e R s m args below meth c T locs cells slots) (hx : p.tables.exec = Jvm.exec) {pc : Nat} {L : Array Slot} {S : List Value} {x : Int32} (hd : decode c.code pc = .ok (.i2l, 1)) (k : Own p e below Q (T.setTop (mkF m (pc + 1) L (.long (x.toInt64) :: S)))) : Own p e below Q (T.setTop (mkF m pc L (.int x :: S))) :=
  ogo (fun _ k => XS.i2l X.here hx rfl hd rfl k) k
theorem o_l2i (X : Stand p l e R s m args below meth c T locs cells slots) (hx : p.tables.exec = Jvm.exec) {pc : Nat} {L : Array Slot} {S : List Value} {x : Int64} (hd : decode c.code pc = .ok (.l2i, 1)) (k : Own p e below Q (T.setTop (mkF m (pc + 1) L (.int (x.toInt32) :: S)))) : Own p e below Q (T.setTop (mkF m pc L (.long x :: S))) :=
  ogo (fun _ k => XS.l2i X.here hx rfl hd rfl k) k
theorem o_i2b (X : Stand p l e R s m args below meth c T locs cells slots) (hx : p.tables.exec = Jvm.exec) {pc : Nat} {L : Array Slot} {S : List Value} {x : Int32} (hd : decode c.code pc = .ok (.i2b, 1)) (k : Own p e below Q (T.setTop (mkF m (pc + 1) L (.int (x.toInt8.toInt32) :: S)))) : Own p e below Q (T.setTop (mkF m pc L (.int x :: S))) :=
  ogo (fun _ k => XS.i2b X.here hx rfl hd rfl k) k
theorem o_i2s (X : Stand p l e R s m args below meth c T locs cells slots) (hx : p.tables.exec = Jvm.exec) {pc : Nat} {L : Array Slot} {S : List Value} {x : Int32} (hd : decode c.code pc = .ok (.i2s, 1)) (k : Own p e below Q (T.setTop (mkF m (pc + 1) L (.int (x.toInt16.toInt32) :: S)))) : Own p e below Q (T.setTop (mkF m pc L (.int x :: S))) :=
  ogo (fun _ k => XS.i2s X.here hx rfl hd rfl k) k
theorem o_i2c (X : Stand p l e R s m args below meth c T locs cells slots) (hx : p.tables.exec = Jvm.exec) {pc : Nat} {L : Array Slot} {S : List Value} {x : Int32} (hd : decode c.code pc = .ok (.i2c, 1)) (k : Own p e below Q (T.setTop (mkF m (pc + 1) L (.int (nar .char x) :: S)))) : Own p e below Q (T.setTop (mkF m pc L (.int x :: S))) :=
  ogo (fun _ k => XS.i2c X.here hx rfl hd rfl k) k
theorem o_lcmp (X : Stand p l e R s m args below meth c T locs cells slots) (hx : p.tables.exec = Jvm.exec) {pc : Nat} {L : Array Slot} {S : List Value} {x y : Int64} (hd : decode c.code pc = .ok (.lcmp, 1)) (k : Own p e below Q (T.setTop (mkF m (pc + 1) L (.int (lcmpW x y) :: S)))) : Own p e below Q (T.setTop (mkF m pc L (.long y :: .long x :: S))) :=
  ogo (fun _ k => XS.lcmp X.here hx rfl hd rfl k) k
theorem o_idiv (X : Stand p l e R s m args below meth c T locs cells slots) (hx : p.tables.exec = Jvm.exec) {pc : Nat} {L : Array Slot} {S : List Value} {x y : Int32} (hd : decode c.code pc = .ok (.idiv, 1)) (hy : y ≠ 0) (k : Own p e below Q (T.setTop (mkF m (pc + 1) L (.int (x / y) :: S)))) : Own p e below Q (T.setTop (mkF m pc L (.int y :: .int x :: S))) :=
  ogo (fun _ k => XS.idiv X.here hx rfl hd rfl hy k) k
theorem o_ldiv (X : Stand p l e R s m args below meth c T locs cells slots) (hx : p.tables.exec = Jvm.exec) {pc : Nat} {L : Array Slot} {S : List Value} {x y : Int64} (hd : decode c.code pc = .ok (.ldiv, 1)) (hy : y ≠ 0) (k : Own p e below Q (T.setTop (mkF m (pc + 1) L (.long (x / y) :: S)))) : Own p e below Q (T.setTop (mkF m pc L (.long y :: .long x :: S))) :=
  ogo (fun _ k => XS.ldiv X.here hx rfl hd rfl hy k) k
theorem o_lrem (X : Stand p l e R s m args below meth c T locs cells slots) (hx : p.tables.exec = Jvm.exec) {pc : Nat} {L : Array Slot} {S : List Value} {x y : Int64} (hd : decode c.code pc = .ok (.lrem, 1)) (hy : y ≠ 0) (k : Own p e below Q (T.setTop (mkF m (pc + 1) L (.long (x - (x / y) * y) :: S)))) : Own p e below Q (T.setTop (mkF m pc L (.long y :: .long x :: S))) :=
  ogo (fun _ k => XS.lrem X.here hx rfl hd rfl hy k) k
theorem o_irem (X : Stand p l e R s m args below meth c T locs cells slots) (hx : p.tables.exec = Jvm.exec) {pc : Nat} {L : Array Slot} {S : List Value} {x y : Int32} (hd : decode c.code pc = .ok (.irem, 1)) (hy : y ≠ 0) (k : Own p e below Q (T.setTop (mkF m (pc + 1) L (.int (x % y) :: S)))) : Own p e below Q (T.setTop (mkF m pc L (.int y :: .int x :: S))) :=
  ogo (fun _ k => iremM X hx rfl hd rfl hy k) k
theorem o_iinc (X : Stand p l e R s m args below meth c T locs cells slots) (hx : p.tables.exec = Jvm.exec) {pc : Nat} {L : Array Slot} {S : List Value} {i : Nat} {n : Int} {x : Int32} {l' : Array Slot} (hd : decode c.code pc = .ok (.iinc i n, 3)) (hl : L[i]? = some (.val (.int x))) (hl' : storeLocals L i (.int (x + Int32.ofInt n)) = some l') (k : Own p e below Q (T.setTop (mkF m (pc + 3) l' S))) : Own p e below Q (T.setTop (mkF m pc L S)) :=
  ogo (fun _ k => XS.iinc X.here hx rfl hd hl hl' k) k
theorem o_dup (X : Stand p l e R s m args below meth c T locs cells slots) (hx : p.tables.exec = Jvm.exec) {pc : Nat} {L : Array Slot} {S : List Value} {v : Value} (hd : decode c.code pc = .ok (.dup, 1)) (hc : v.category = 1) (k : Own p e below Q (T.setTop (mkF m (pc + 1) L (v :: v :: S)))) : Own p e below Q (T.setTop (mkF m pc L (v :: S))) :=
  ogo (fun _ k => XS.dup X.here hx rfl hd rfl hc k) k
theorem o_dup_x1 (X : Stand p l e R s m args below meth c T locs cells slots) (hx : p.tables.exec = Jvm.exec) {pc : Nat} {L : Array Slot} {S : List Value} {v w : Value} (hd : decode c.code pc = .ok (.dup_x1, 1)) (hc : v.category = 1) (hc' : w.category = 1) (k : Own p e below Q (T.setTop (mkF m (pc + 1) L (v :: w :: v :: S)))) : Own p e below Q (T.setTop (mkF m pc L (v :: w :: S))) :=
  ogo (fun _ k => XS.dupX1 X.here hx rfl hd rfl hc hc' k) k
theorem o_pop (X : Stand p l e R s m args below meth c T locs cells slots) (hx : p.tables.exec = Jvm.exec) {pc : Nat} {L : Array Slot} {S : List Value} {v : Value} (hd : decode c.code pc = .ok (.pop, 1)) (hc : v.category = 1) (k : Own p e below Q (T.setTop (mkF m (pc + 1) L S))) : Own p e below Q (T.setTop (mkF m pc L (v :: S))) :=
  ogo (fun _ k => XS.pop X.here hx rfl hd rfl hc k) k
theorem o_goto (X : Stand p l e R s m args below meth c T locs cells slots) (hx : p.tables.exec = Jvm.exec) {pc : Nat} {L : Array Slot} {S : List Value} {o : Int} (pc' : Nat) (hd : decode c.code pc = .ok (.goto o, 3)) (ho : 0 ≤ (pc : Int) + o) (hp : ((pc : Int) + o).toNat = pc') (k : Own p e below Q (T.setTop (mkF m (pc') L S))) : Own p e below Q (T.setTop (mkF m pc L S)) :=
  ogo (fun _ k => XS.goto X.here hx rfl rfl hd ho hp k) k
theorem o_ifYes (X : Stand p l e R s m args below meth c T locs cells slots) (hx : p.tables.exec = Jvm.exec) {pc : Nat} {L : Array Slot} {S : List Value} {cd : ClassFile.Cond} {x : Int32} {o : Int} (pc' : Nat) (hd : decode c.code pc = .ok (.ifCond cd o, 3)) (hc : if_icmp.holds cd x 0 = true) (ho : 0 ≤ (pc : Int) + o) (hp : ((pc : Int) + o).toNat = pc') (k : Own p e below Q (T.setTop (mkF m (pc') L S))) : Own p e below Q (T.setTop (mkF m pc L (.int x :: S))) :=
  ogo (fun _ k => XS.ifYes X.here hx rfl rfl hd rfl ((if0 _ _).trans hc) ho hp k) k
theorem o_ifNo (X : Stand p l e R s m args below meth c T locs cells slots) (hx : p.tables.exec = Jvm.exec) {pc : Nat} {L : Array Slot} {S : List Value} {cd : ClassFile.Cond} {x : Int32} {o : Int} (hd : decode c.code pc = .ok (.ifCond cd o, 3)) (hc : if_icmp.holds cd x 0 = false) (k : Own p e below Q (T.setTop (mkF m (pc + 3) L S))) : Own p e below Q (T.setTop (mkF m pc L (.int x :: S))) :=
  ogo (fun _ k => XS.ifNo X.here hx rfl hd rfl ((if0 _ _).trans hc) k) k
theorem o_icmpYes (X : Stand p l e R s m args below meth c T locs cells slots) (hx : p.tables.exec = Jvm.exec) {pc : Nat} {L : Array Slot} {S : List Value} {cd : ClassFile.Cond} {x y : Int32} {o : Int} (pc' : Nat) (hd : decode c.code pc = .ok (.if_icmp cd o, 3)) (hc : if_icmp.holds cd x y = true) (ho : 0 ≤ (pc : Int) + o) (hp : ((pc : Int) + o).toNat = pc') (k : Own p e below Q (T.setTop (mkF m (pc') L S))) : Own p e below Q (T.setTop (mkF m pc L (.int y :: .int x :: S))) :=
  ogo (fun _ k => XS.icmpYes X.here hx rfl rfl hd rfl hc ho hp k) k
theorem o_icmpNo (X : Stand p l e R s m args below meth c T locs cells slots) (hx : p.tables.exec = Jvm.exec) {pc : Nat} {L : Array Slot} {S : List Value} {cd : ClassFile.Cond} {x y : Int32} {o : Int} (hd : decode c.code pc = .ok (.if_icmp cd o, 3)) (hc : if_icmp.holds cd x y = false) (k : Own p e below Q (T.setTop (mkF m (pc + 3) L S))) : Own p e below Q (T.setTop (mkF m pc L (.int y :: .int x :: S))) :=
  ogo (fun _ k => XS.icmpNo X.here hx rfl hd rfl hc k) k
theorem o_ifnullYes (X : Stand p l e R s m args below meth c T locs cells slots) (hx : p.tables.exec = Jvm.exec) {pc : Nat} {L : Array Slot} {S : List Value} {o : Int} (pc' : Nat) (hd : decode c.code pc = .ok (.ifnull o, 3)) (ho : 0 ≤ (pc : Int) + o) (hp : ((pc : Int) + o).toNat = pc') (k : Own p e below Q (T.setTop (mkF m (pc') L S))) : Own p e below Q (T.setTop (mkF m pc L (.null :: S))) :=
  ogo (fun _ k => XS.ifnullYes X.here hx rfl rfl hd rfl ho hp k) k
theorem o_ifnullNo (X : Stand p l e R s m args below meth c T locs cells slots) (hx : p.tables.exec = Jvm.exec) {pc : Nat} {L : Array Slot} {S : List Value} {o : Int} {b : Addr} (hd : decode c.code pc = .ok (.ifnull o, 3)) (k : Own p e below Q (T.setTop (mkF m (pc + 3) L S))) : Own p e below Q (T.setTop (mkF m pc L (.ref b :: S))) :=
  ogo (fun _ k => XS.ifnullNo X.here hx rfl hd rfl k) k
theorem o_ifnonnullYes (X : Stand p l e R s m args below meth c T locs cells slots) (hx : p.tables.exec = Jvm.exec) {pc : Nat} {L : Array Slot} {S : List Value} {o : Int} {b : Addr} (pc' : Nat) (hd : decode c.code pc = .ok (.ifnonnull o, 3)) (ho : 0 ≤ (pc : Int) + o) (hp : ((pc : Int) + o).toNat = pc') (k : Own p e below Q (T.setTop (mkF m (pc') L S))) : Own p e below Q (T.setTop (mkF m pc L (.ref b :: S))) :=
  ogo (fun _ k => XS.ifnonnullYes X.here hx rfl rfl hd rfl ho hp k) k
theorem o_ifnonnullNo (X : Stand p l e R s m args below meth c T locs cells slots) (hx : p.tables.exec = Jvm.exec) {pc : Nat} {L : Array Slot} {S : List Value} {o : Int} (hd : decode c.code pc = .ok (.ifnonnull o, 3)) (k : Own p e below Q (T.setTop (mkF m (pc + 3) L S))) : Own p e below Q (T.setTop (mkF m pc L (.null :: S))) :=
  ogo (fun _ k => XS.ifnonnullNo X.here hx rfl hd rfl k) k
theorem o_acmp (X : Stand p l e R s m args below meth c T locs cells slots) (hx : p.tables.exec = Jvm.exec) {pc : Nat} {L : Array Slot} {S : List Value} {cd : ClassFile.ACond} {x y : Value} {o : Int} (pc' : Nat) (same : Bool) (h1 : x.isRef = true) (h2 : y.isRef = true) (hd : decode c.code pc = .ok (.if_acmp cd o, 3)) (hq : decide (x = y) = same) (ho : 0 ≤ (pc : Int) + o) (hp : pc' = if acV cd same = true then ((pc : Int) + o).toNat else pc + 3) (k : Own p e below Q (T.setTop (mkF m (pc') L S))) : Own p e below Q (T.setTop (mkF m pc L (y :: x :: S))) :=
  ogo (fun _ k => Jvm.RoadKit.acmp X hx rfl h1 h2 rfl hd rfl hq ho hp k) k
theorem o_tswIn (X : Stand p l e R s m args below meth c T locs cells slots) (hx : p.tables.exec = Jvm.exec) {pc : Nat} {L : Array Slot} {S : List Value} {d lo hi : Int} {offs : Array Int} {len : Nat} {o : Int} {i : Int32} (pc' : Nat) (hd : decode c.code pc = .ok (.tableswitch d lo hi offs, len)) (hin : ¬ (i.toInt < lo ∨ i.toInt > hi)) (hoff : offs[(i.toInt - lo).toNat]? = some o) (ho : 0 ≤ (pc : Int) + o) (hp : ((pc : Int) + o).toNat = pc') (k : Own p e below Q (T.setTop (mkF m (pc') L S))) : Own p e below Q (T.setTop (mkF m pc L (.int i :: S))) :=
  ogo (fun _ k => XS.tswIn X.here hx rfl rfl hd rfl hin hoff ho hp k) k
theorem o_tswOut (X : Stand p l e R s m args below meth c T locs cells slots) (hx : p.tables.exec = Jvm.exec) {pc : Nat} {L : Array Slot} {S : List Value} {d lo hi : Int} {offs : Array Int} {len : Nat} {i : Int32} (pc' : Nat) (hd : decode c.code pc = .ok (.tableswitch d lo hi offs, len)) (hout : i.toInt < lo ∨ i.toInt > hi) (ho : 0 ≤ (pc : Int) + d) (hp : ((pc : Int) + d).toNat = pc') (k : Own p e below Q (T.setTop (mkF m (pc') L S))) : Own p e below Q (T.setTop (mkF m pc L (.int i :: S))) :=
  ogo (fun _ k => XS.tswOut X.here hx rfl rfl hd rfl hout ho hp k) k
end Steps

theorem own_cat {v : Value} (h : v.isRef = true) : v.category = 1 := by cases v <;> simp_all [Value.isRef, Value.category]
theorem own_narc (x : Int32) : nar .char (nar .char x) = nar .char x := by
  have h := c_i2c x
  have h' := c_i2c (nar .char x)
  refine Int32.toInt_inj.mp ?_
  show (nar .char x).toUInt32.toUInt16.toUInt32.toInt32.toInt = (nar .char x).toInt
  have e : (nar .char x).toInt = x.toUInt32.toUInt16.toUInt32.toInt32.toInt := rfl
  omega
theorem own_narb (x : Int32) : nar .byte x.toInt8.toInt32 = x.toInt8.toInt32 := by
  have h := c_i2b x
  have h' := c_i2b x.toInt8.toInt32
  refine Int32.toInt_inj.mp ?_
  show x.toInt8.toInt32.toInt8.toInt32.toInt = x.toInt8.toInt32.toInt
  omega
theorem own_eqref {args : Array Value} {s : State} {a b : Term} {z : Addr} (h : (Jvm.Cond.eq a b).value args s none s [] = some true) (hb : b.eval args s none [] s = some (.ref z)) : a.eval args s none [] s = some (.ref z) := by
  obtain ⟨x, y, h1, h2, k1, k2⟩ := cmp_v (Or.inl h)
  cases hb.symm.trans h2
  have q := gotT (eq_R h1 h2 k2.2 rfl) h
  rw [← q]; exact h1
theorem own_arv {Z : State} {args : Array Value} (hfit : Fit Z) {t : Term} {a : Addr} {ty : FieldType} {z : Int32} {vs : List Value} {dv : Value} (ev : t.eval args Z none [] Z = some (.ref a)) (ha : (Jvm.Cond.arrayOf t ty).value args Z none Z [] = some true) (hl : (Term.length t).eval args Z none [] Z = some (.int z)) (hz : ¬ z < 0) (hl2 : z.toNatClampNeg = vs.length) (H : ∀ cl, Z.heap[a]? = some cl → HasL cl 0 vs) : ∃ k, Arv Z Z.heap a k ty z vs dv := by
  obtain ⟨c, A⟩ := Arr.start ev ha
  have hc := Arr.fin (Vm.Alike.refl _) A
  have h31 := SBG.length_lt ev hc hl
  have e := len_f ev hc h31
  have ez : c.slots.size.toInt32 = z := by
    have q := e.symm.trans hl
    simpa using q
  exact ⟨_, Arv.start hfit A h31 ez hz hl2 (H c A.1)⟩
theorem own_char {c : Int32} (h0 : ¬ (c < (0 : Int32))) (h1 : ¬ ((255 : Int32) < c)) : nar .char (c.toInt8.toInt32 &&& (255 : Int32)) = c := by
  rw [Int32.lt_iff_toInt_lt] at h0 h1
  have e0 : (0 : Int32).toInt = 0 := rfl
  have e1 : (255 : Int32).toInt = 255 := rfl
  have a := c_i2b c
  have b := c_mask c.toInt8.toInt32 (255 : Int32) 8 (by decide) (by decide)
  have d := c_i2c (c.toInt8.toInt32 &&& (255 : Int32))
  refine Int32.toInt_inj.mp ?_
  show (c.toInt8.toInt32 &&& (255 : Int32)).toUInt32.toUInt16.toUInt32.toInt32.toInt = c.toInt
  simp only [Nat.reducePow] at b
  omega
theorem own_narsm {c : Int32} (h0 : ¬ (c < (0 : Int32))) (h1 : ¬ ((255 : Int32) < c)) : nar .char c = c := by
  rw [Int32.lt_iff_toInt_lt] at h0 h1
  have e0 : (0 : Int32).toInt = 0 := rfl
  have e1 : (255 : Int32).toInt = 255 := rfl
  have d := c_i2c c
  refine Int32.toInt_inj.mp ?_
  show c.toUInt32.toUInt16.toUInt32.toInt32.toInt = c.toInt
  omega
theorem own_rem3 (k : Int32) : ((k &&& (2147483647 : Int32)) % (3 : Int32)) = (0 : Int32) ∨ ((k &&& (2147483647 : Int32)) % (3 : Int32)) = (1 : Int32) ∨ ((k &&& (2147483647 : Int32)) % (3 : Int32)) = (2 : Int32) := by
  have h0 := (c_and k (2147483647 : Int32) (by decide)).1
  have h1 := (c_irem (k &&& (2147483647 : Int32)) (3 : Int32) 3 rfl).1 h0
  simp only [← Int32.toInt_inj, h1, show (0 : Int32).toInt = 0 from rfl, show (1 : Int32).toInt = 1 from rfl, show (2 : Int32).toInt = 2 from rfl]
  omega
def own_Start (Z : State) (s_LIKE : Addr) (s_TOGGLE : Addr) (s__VALUES : Addr) (s_FAV : Addr) (s_VIEW : Addr) (s_LIKE_id : Addr) (s_LIKE_id_value : Addr) (s_INCREMENT : Addr) (s_FAV_id : Addr) (s_FAV_id_value : Addr) (s_VIEW_id : Addr) (s_VIEW_id_value : Addr) (k_s__VALUES : ClassId) (k_s_LIKE_id_value : ClassId) (k_s_FAV_id_value : ClassId) (k_s_VIEW_id_value : ClassId) (z_CS : Int32) (v_FMT : Value) : Prop := (Sta Z Z.heap "com/example/atomic_tally/atomictally/model/Metric" "LIKE" "Lcom/example/atomic_tally/atomictally/model/Metric;" (.ref s_LIKE)) ∧ (Exa Z Z.heap s_LIKE "com/example/atomic_tally/atomictally/model/Metric") ∧ (Sta Z Z.heap "com/example/atomic_tally/atomictally/model/Metric$Kind" "TOGGLE" "Lcom/example/atomic_tally/atomictally/model/Metric$Kind;" (.ref s_TOGGLE)) ∧ (Exa Z Z.heap s_TOGGLE "com/example/atomic_tally/atomictally/model/Metric$Kind") ∧ (Sta Z Z.heap "com/example/atomic_tally/atomictally/model/Metric" "$VALUES" "[Lcom/example/atomic_tally/atomictally/model/Metric;" (.ref s__VALUES)) ∧ (Exa Z Z.heap s__VALUES "[Lcom/example/atomic_tally/atomictally/model/Metric;") ∧ (Sta Z Z.heap "com/example/atomic_tally/atomictally/model/Metric" "FAV" "Lcom/example/atomic_tally/atomictally/model/Metric;" (.ref s_FAV)) ∧ (Exa Z Z.heap s_FAV "com/example/atomic_tally/atomictally/model/Metric") ∧ (Sta Z Z.heap "com/example/atomic_tally/atomictally/model/Metric" "VIEW" "Lcom/example/atomic_tally/atomictally/model/Metric;" (.ref s_VIEW)) ∧ (Exa Z Z.heap s_VIEW "com/example/atomic_tally/atomictally/model/Metric") ∧ (Fld Z Z.heap s_LIKE "com/example/atomic_tally/atomictally/model/Metric" "id" "Ljava/lang/String;" (.ref s_LIKE_id)) ∧ (Exa Z Z.heap s_LIKE_id "java/lang/String") ∧ (Fld Z Z.heap s_LIKE_id "java/lang/String" "value" "[B" (.ref s_LIKE_id_value)) ∧ (Sta Z Z.heap "com/example/atomic_tally/atomictally/model/Metric$Kind" "INCREMENT" "Lcom/example/atomic_tally/atomictally/model/Metric$Kind;" (.ref s_INCREMENT)) ∧ (Exa Z Z.heap s_INCREMENT "com/example/atomic_tally/atomictally/model/Metric$Kind") ∧ (Fld Z Z.heap s_FAV "com/example/atomic_tally/atomictally/model/Metric" "id" "Ljava/lang/String;" (.ref s_FAV_id)) ∧ (Exa Z Z.heap s_FAV_id "java/lang/String") ∧ (Fld Z Z.heap s_FAV_id "java/lang/String" "value" "[B" (.ref s_FAV_id_value)) ∧ (Fld Z Z.heap s_VIEW "com/example/atomic_tally/atomictally/model/Metric" "id" "Ljava/lang/String;" (.ref s_VIEW_id)) ∧ (Exa Z Z.heap s_VIEW_id "java/lang/String") ∧ (Fld Z Z.heap s_VIEW_id "java/lang/String" "value" "[B" (.ref s_VIEW_id_value)) ∧ (Fld Z Z.heap s_LIKE_id "java/lang/String" "coder" "B" (.int (0 : Int32))) ∧ (Fld Z Z.heap s_LIKE "com/example/atomic_tally/atomictally/model/Metric" "kind" "Lcom/example/atomic_tally/atomictally/model/Metric$Kind;" (.ref s_TOGGLE)) ∧ (Fld Z Z.heap s_FAV_id "java/lang/String" "coder" "B" (.int (0 : Int32))) ∧ (Fld Z Z.heap s_VIEW_id "java/lang/String" "coder" "B" (.int (0 : Int32))) ∧ (Fld Z Z.heap s_VIEW "com/example/atomic_tally/atomictally/model/Metric" "kind" "Lcom/example/atomic_tally/atomictally/model/Metric$Kind;" (.ref s_INCREMENT)) ∧ (Fld Z Z.heap s_FAV "com/example/atomic_tally/atomictally/model/Metric" "kind" "Lcom/example/atomic_tally/atomictally/model/Metric$Kind;" (.ref s_TOGGLE)) ∧ (Arv Z Z.heap s__VALUES k_s__VALUES (.object "com/example/atomic_tally/atomictally/model/Metric") (3 : Int32) [(.ref s_LIKE), (.ref s_FAV), (.ref s_VIEW)] .null) ∧ (Arv Z Z.heap s_LIKE_id_value k_s_LIKE_id_value .byte (4 : Int32) [(.int (108 : Int32)), (.int (105 : Int32)), (.int (107 : Int32)), (.int (101 : Int32))] (.int 0)) ∧ (Arv Z Z.heap s_FAV_id_value k_s_FAV_id_value .byte (3 : Int32) [(.int (102 : Int32)), (.int (97 : Int32)), (.int (118 : Int32))] (.int 0)) ∧ (Arv Z Z.heap s_VIEW_id_value k_s_VIEW_id_value .byte (4 : Int32) [(.int (118 : Int32)), (.int (105 : Int32)), (.int (101 : Int32)), (.int (119 : Int32))] (.int 0)) ∧ (Sta Z Z.heap "java/lang/String" "COMPACT_STRINGS" "Z" (.int z_CS)) ∧ (¬ (z_CS = (0 : Int32))) ∧ (Sta Z Z.heap "jdk/internal/util/Preconditions" "SIOOBE_FORMATTER" "Ljava/util/function/BiFunction;" v_FMT) ∧ (v_FMT.isRef = true)
theorem d1_0 : decode prog_5_method_1_code 0 = .ok (.getstatic 13, 3) := by decide +kernel
theorem d1_3 : decode prog_5_method_1_code 3 = .ok (.invokevirtual 17, 3) := by decide +kernel
theorem d1_6 : decode prog_5_method_1_code 6 = .ok (.checkcast 18, 3) := by decide +kernel
theorem d1_9 : decode prog_5_method_1_code 9 = .ok (.areturn, 1) := by decide +kernel
theorem own_pn0 : plainName "com/example/atomic_tally/atomictally/model/Metric" = true := by first | (simp [plainName, overriddenIn]; done) | decide +kernel
def own_Q_values (Z : State) (s_LIKE : Addr) (s_TOGGLE : Addr) (s__VALUES : Addr) (s_FAV : Addr) (s_VIEW : Addr) (s_LIKE_id : Addr) (s_LIKE_id_value : Addr) (s_INCREMENT : Addr) (s_FAV_id : Addr) (s_FAV_id_value : Addr) (s_VIEW_id : Addr) (s_VIEW_id_value : Addr) (k_s__VALUES : ClassId) (k_s_LIKE_id_value : ClassId) (k_s_FAV_id_value : ClassId) (k_s_VIEW_id_value : ClassId) (z_CS : Int32) (v_FMT : Value)  (h0 : Heap) (n0 : Nat) (v : Option Value) (h : Heap) (L : List Loc) : Prop := ∃ va_ : Addr, (v = some (.ref va_)) ∧ (Fr n0 L) ∧ (Keep h0 h []) ∧ (h0.size ≤ va_) ∧ (Arv Z h va_ k_s__VALUES (.object "com/example/atomic_tally/atomictally/model/Metric") (3 : Int32) [(.ref s_LIKE), (.ref s_FAV), (.ref s_VIEW)] .null) ∧ (Exa Z h va_ "[Lcom/example/atomic_tally/atomictally/model/Metric;")
abbrev yM0 : MethodName := ⟨"com/example/atomic_tally/atomictally/model/Metric", "values", "()[Lcom/example/atomic_tally/atomictally/model/Metric;"⟩
set_option maxRecDepth 65536 in
set_option maxHeartbeats 40000000 in
theorem rm_values (l : Launch) (Z : State) (a0 : Array Value) (hw : ∀ d ∈ tables_1, d.before a0 Z = true) (ws : List Jvm.Cond) (s_LIKE : Addr) (s_TOGGLE : Addr) (s__VALUES : Addr) (s_FAV : Addr) (s_VIEW : Addr) (s_LIKE_id : Addr) (s_LIKE_id_value : Addr) (s_INCREMENT : Addr) (s_FAV_id : Addr) (s_FAV_id_value : Addr) (s_VIEW_id : Addr) (s_VIEW_id_value : Addr) (k_s__VALUES : ClassId) (k_s_LIKE_id_value : ClassId) (k_s_FAV_id_value : ClassId) (k_s_VIEW_id_value : ClassId) (z_CS : Int32) (v_FMT : Value)  (h0 : Heap) (n0 : Nat) (SB : own_Start Z s_LIKE s_TOGGLE s__VALUES s_FAV s_VIEW s_LIKE_id s_LIKE_id_value s_INCREMENT s_FAV_id s_FAV_id_value s_VIEW_id s_VIEW_id_value k_s__VALUES k_s_LIKE_id_value k_s_FAV_id_value k_s_VIEW_id_value z_CS v_FMT) (O0 : Old Z n0 h0)  :
    oMet l Z yM0 prog_5_method_1_code 0 (some (.array (.object "com/example/atomic_tally/atomictally/model/Metric"))) ws ({ frames := 1, cells := 1, slots := 3, locals := 14 } : Room) 1 3 #[] h0 (own_Q_values Z s_LIKE s_TOGGLE s__VALUES s_FAV s_VIEW s_LIKE_id s_LIKE_id_value s_INCREMENT s_FAV_id s_FAV_id_value s_VIEW_id s_VIEW_id_value k_s__VALUES k_s_LIKE_id_value k_s_FAV_id_value k_s_VIEW_id_value z_CS v_FMT  h0 n0) := by
  refine oenter own_pn0 #[] (fun m => by first | (simp [entryFrame, mkF, argsToLocals, Value.category]; done) | rfl) ?_
  intro p e s m below meth c s₁ X0 hx hZ hby hml hret hown0 hnm hlk e0
  have hown : s.vm.findClass "com/example/atomic_tally/atomictally/model/Metric" = some m.cls := hown0
  have N0 := Fr.nil n0
  obtain ⟨S_s_LIKE, E_s_LIKE, S_s_TOGGLE, E_s_TOGGLE, S_s__VALUES, E_s__VALUES, S_s_FAV, E_s_FAV, S_s_VIEW, E_s_VIEW, F_s_LIKE_id, E_s_LIKE_id, F_s_LIKE_id_value, S_s_INCREMENT, E_s_INCREMENT, F_s_FAV_id, E_s_FAV_id, F_s_FAV_id_value, F_s_VIEW_id, E_s_VIEW_id, F_s_VIEW_id_value, F_s_LIKE_id_coder, F_s_LIKE_kind, F_s_FAV_id_coder, F_s_VIEW_id_coder, F_s_VIEW_kind, F_s_FAV_kind, V_s__VALUES, V_s_LIKE_id_value, V_s_FAV_id_value, V_s_VIEW_id_value, S_CS, H_CS, S_FMT, R_FMT⟩ := (id SB)
  have w46 := hw _ (List.mem_of_getElem? (i := 46) rfl)
  have w48 := hw _ (List.mem_of_getElem? (i := 48) rfl)
  have w49 := hw _ (List.mem_of_getElem? (i := 49) rfl)
  have w51 := hw _ (List.mem_of_getElem? (i := 51) rfl)
  have w52 := hw _ (List.mem_of_getElem? (i := 52) rfl)
  have w53 := hw _ (List.mem_of_getElem? (i := 53) rfl)
  have w54 := hw _ (List.mem_of_getElem? (i := 54) rfl)
  have w58 := hw _ (List.mem_of_getElem? (i := 58) rfl)
  obtain ⟨T1, X1, e1, st1⟩ := getS2 X0 hx hZ hown (host := "") (Or.inl w46) Via.refl e0 (Sta.ext O0.2 S_s__VALUES) (g := (mkF m 0 #[] [])) rfl (hb hby d1_0)
  refine ogo (S' := T1.setTop (mkF m 3 #[] [(.ref s__VALUES)])) st1 ?_
  obtain ⟨cl2, Ar2, q2, S2, N2z, H2, G2⟩ := (id (V_s__VALUES.ext O0.2))
  have FC2 : FitC Z cl2 := fitC_of Ar2 fun i hi v hv => by rw [H2 i hi] at hv; cases hv; exact G2 i hi
  obtain ⟨T2, _, X2, rfl, E2, A2, Ex2, st2⟩ := cloneA X1 hx hZ hown w48 w49 w53 w51 w52 w54 e1 Ar2 (Exa.ext O0.2 E_s__VALUES) FC2 (g := (mkF m 3 #[] [(.ref s__VALUES)])) rfl (by rw [hml]; rfl) rfl (hb hby d1_3) (by decide) (W := 0) (cap := 3) (by show 2 * 0 + _ ≤ _; exact Nat.le_of_eq rfl) (by decide) (by rw [S2]; decide) (by decide) (by decide)
  obtain ⟨b2, g2⟩ : ∃ z, z = h0.size := ⟨_, rfl⟩
  rw [← g2] at A2 Ex2 st2
  have n0_b2 : n0 ≤ b2 := Nat.le_trans (Nat.le_trans (Nat.le_of_eq O0.1.symm) O0.2.1) (Nat.le_trans (Nat.le_refl _) (Nat.le_of_eq g2.symm))
  have V2 : Arv Z T2.heap b2 k_s__VALUES (.object "com/example/atomic_tally/atomictally/model/Metric") (3 : Int32) [(.ref s_LIKE), (.ref s_FAV), (.ref s_VIEW)] .null := ⟨cloneOf cl2, A2, q2, S2, N2z, H2, G2⟩
  refine ogo (S' := T2.setTop (mkF m 6 #[] [(.ref b2)])) st2 ?_
  obtain ⟨T3, X3, e3, st3⟩ := castY X2 hx hZ hown w58 rfl (Ins.self Ex2) (g := (mkF m 6 #[] [(.ref b2)])) rfl rfl (hb hby d1_6)
  refine ogo (S' := T3.setTop (mkF m 9 #[] [(.ref b2)])) st3 ?_
  refine oend X3 hlk (v := some (.ref b2)) (fun h => by rw [hret] at h; cases h) (fun fs hr => retOut X3 hx (t := (.array (.object "com/example/atomic_tally/atomictally/model/Metric"))) (i := .areturn) hret rfl (Or.inr (Or.inr (Or.inr (Or.inr ⟨rfl, rfl, rfl⟩)))) (hb hby d1_9) hr) (by decide) (by decide) ?_
  show own_Q_values Z _ _ _ _ _ _ _ _ _ _ _ _ _ _ _ _ _ _ h0 n0 _ T3.heap _
  rw [e3]
  exact ⟨b2, rfl, N0, ((Keep.refl h0 []).ext E2), (Nat.le_trans (Nat.le_refl _) (Nat.le_of_eq g2.symm)), V2, Ex2⟩
theorem d2_0 : decode jdk_43_method_13_code 0 = .ok (.aload_n 0, 1) := by decide +kernel
theorem d2_1 : decode jdk_43_method_13_code 1 = .ok (.arraylength, 1) := by decide +kernel
theorem d2_2 : decode jdk_43_method_13_code 2 = .ok (.aload_n 1, 1) := by decide +kernel
theorem d2_3 : decode jdk_43_method_13_code 3 = .ok (.arraylength, 1) := by decide +kernel
theorem d2_4 : decode jdk_43_method_13_code 4 = .ok (.if_icmp .ne 30, 3) := by decide +kernel
theorem d2_7 : decode jdk_43_method_13_code 7 = .ok (.iconst 0, 1) := by decide +kernel
theorem d2_8 : decode jdk_43_method_13_code 8 = .ok (.istore_n 2, 1) := by decide +kernel
theorem d2_9 : decode jdk_43_method_13_code 9 = .ok (.iload_n 2, 1) := by decide +kernel
theorem d2_10 : decode jdk_43_method_13_code 10 = .ok (.aload_n 0, 1) := by decide +kernel
theorem d2_11 : decode jdk_43_method_13_code 11 = .ok (.arraylength, 1) := by decide +kernel
theorem d2_12 : decode jdk_43_method_13_code 12 = .ok (.if_icmp .ge 20, 3) := by decide +kernel
theorem d2_15 : decode jdk_43_method_13_code 15 = .ok (.aload_n 0, 1) := by decide +kernel
theorem d2_16 : decode jdk_43_method_13_code 16 = .ok (.iload_n 2, 1) := by decide +kernel
theorem d2_17 : decode jdk_43_method_13_code 17 = .ok (.baload, 1) := by decide +kernel
theorem d2_18 : decode jdk_43_method_13_code 18 = .ok (.aload_n 1, 1) := by decide +kernel
theorem d2_19 : decode jdk_43_method_13_code 19 = .ok (.iload_n 2, 1) := by decide +kernel
theorem d2_20 : decode jdk_43_method_13_code 20 = .ok (.baload, 1) := by decide +kernel
theorem d2_21 : decode jdk_43_method_13_code 21 = .ok (.if_icmp .eq 5, 3) := by decide +kernel
theorem d2_26 : decode jdk_43_method_13_code 26 = .ok (.iinc 2 1, 3) := by decide +kernel
theorem d2_29 : decode jdk_43_method_13_code 29 = .ok (.goto (-20), 3) := by decide +kernel
theorem d2_32 : decode jdk_43_method_13_code 32 = .ok (.iconst 1, 1) := by decide +kernel
theorem d2_33 : decode jdk_43_method_13_code 33 = .ok (.ireturn, 1) := by decide +kernel
theorem own_pn1 : plainName "java/lang/StringLatin1" = true := by first | (simp [plainName, overriddenIn]; done) | decide +kernel
def own_Q_l1eq_108_105_107_101_108_105_107_101 (Z : State)  (ba_ : Addr) (kb_ : ClassId) (bb_ : Addr) (kc_ : ClassId) (h0 : Heap) (n0 : Nat) (v : Option Value) (h : Heap) (L : List Loc) : Prop := (v = some (.int (1 : Int32))) ∧ (Fr n0 L) ∧ (h = h0)
abbrev yM1 : MethodName := ⟨"java/lang/StringLatin1", "equals", "([B[B)Z"⟩
set_option maxRecDepth 65536 in
set_option maxHeartbeats 40000000 in
theorem rm_l1eq_108_105_107_101_108_105_107_101 (l : Launch) (Z : State) (a0 : Array Value) (hw : ∀ d ∈ tables_1, d.before a0 Z = true) (ws : List Jvm.Cond)  (ba_ : Addr) (kb_ : ClassId) (bb_ : Addr) (kc_ : ClassId) (h0 : Heap) (n0 : Nat) (O0 : Old Z n0 h0) (pr0 : Arv Z h0 ba_ kb_ .byte (4 : Int32) [(.int (108 : Int32)), (.int (105 : Int32)), (.int (107 : Int32)), (.int (101 : Int32))] (.int 0)) (pr1 : Arv Z h0 bb_ kc_ .byte (4 : Int32) [(.int (108 : Int32)), (.int (105 : Int32)), (.int (107 : Int32)), (.int (101 : Int32))] (.int 0)) :
    oMet l Z yM1 jdk_43_method_13_code 3 (some .boolean) ws ({ frames := 0, cells := 0, slots := 0, locals := 0 } : Room) 0 0 #[(.ref ba_), (.ref bb_)] h0 (own_Q_l1eq_108_105_107_101_108_105_107_101 Z  ba_ kb_ bb_ kc_ h0 n0) := by
  refine oenter own_pn1 #[.val (.ref ba_), .val (.ref bb_), .unset] (fun m => by first | (simp [entryFrame, mkF, argsToLocals, Value.category]; done) | rfl) ?_
  intro p e s m below meth c s₁ X0 hx hZ hby hml hret hown0 hnm hlk e0
  have hown : s.vm.findClass "java/lang/StringLatin1" = some m.cls := hown0
  have N0 := Fr.nil n0
  refine o_aloadN X0 hx (hb hby d2_0) rfl rfl ?_
  obtain ⟨cl1, Ar1, -, S1, N1z, -, -⟩ := (id pr0)
  refine ogo (S' := s₁.setTop (mkF m 2 #[.val (.ref ba_), .val (.ref bb_), .unset] [(.int (4 : Int32))])) (fun _ kt_ => X0.arraylength hx (by rw [e0]; exact Ar1.1) (State.isArrayOf_alike hZ.alike Ar1.2.1) (g := (mkF m 1 #[.val (.ref ba_), .val (.ref bb_), .unset] [(.ref ba_)])) rfl rfl (hb hby d2_1) _ (by rw [len_of S1 N1z]; exact kt_)) ?_
  refine o_aloadN X0 hx (hb hby d2_2) rfl rfl ?_
  obtain ⟨cl2, Ar2, -, S2, N2z, -, -⟩ := (id pr1)
  refine ogo (S' := s₁.setTop (mkF m 4 #[.val (.ref ba_), .val (.ref bb_), .unset] [(.int (4 : Int32)), (.int (4 : Int32))])) (fun _ kt_ => X0.arraylength hx (by rw [e0]; exact Ar2.1) (State.isArrayOf_alike hZ.alike Ar2.2.1) (g := (mkF m 3 #[.val (.ref ba_), .val (.ref bb_), .unset] [(.ref bb_), (.int (4 : Int32))])) rfl rfl (hb hby d2_3) _ (by rw [len_of S2 N2z]; exact kt_)) ?_
  refine o_icmpNo X0 hx (hb hby d2_4) (teq (by decide : (4 : Int32) = (4 : Int32))).2 ?_
  refine o_iconst X0 hx (0 : Int32) (hb hby d2_7) rfl ?_
  refine o_istoreN X0 hx (l' := #[.val (.ref ba_), .val (.ref bb_), .val (.int (0 : Int32))]) (hb hby d2_8) rfl ?_
  refine o_iloadN X0 hx (hb hby d2_9) rfl ?_
  refine o_aloadN X0 hx (hb hby d2_10) rfl rfl ?_
  obtain ⟨cl3, Ar3, -, S3, N3z, -, -⟩ := (id pr0)
  refine ogo (S' := s₁.setTop (mkF m 12 #[.val (.ref ba_), .val (.ref bb_), .val (.int (0 : Int32))] [(.int (4 : Int32)), (.int (0 : Int32))])) (fun _ kt_ => X0.arraylength hx (by rw [e0]; exact Ar3.1) (State.isArrayOf_alike hZ.alike Ar3.2.1) (g := (mkF m 11 #[.val (.ref ba_), .val (.ref bb_), .val (.int (0 : Int32))] [(.ref ba_), (.int (0 : Int32))])) rfl rfl (hb hby d2_11) _ (by rw [len_of S3 N3z]; exact kt_)) ?_
  refine o_icmpNo X0 hx (hb hby d2_12) (tlt (by decide : (0 : Int32) < (4 : Int32))).2.1 ?_
  refine o_aloadN X0 hx (hb hby d2_15) rfl rfl ?_
  refine o_iloadN X0 hx (hb hby d2_16) rfl ?_
  obtain ⟨cl4, Ar4, q4, S4, N4z, H4, G4⟩ := (id pr0)
  have hi4 := inb_of (j := (0 : Int32)) S4 ⟨by decide, by decide⟩
  have ha4 := Has.at (v := (.int (108 : Int32))) H4 hi4 rfl
  refine ogo (S' := s₁.setTop (mkF m 18 #[.val (.ref ba_), .val (.ref bb_), .val (.int (0 : Int32))] [(.int (108 : Int32))])) (X0.baloadBytes hx (j := (0 : Int32)) (v := (.int (108 : Int32))) (by rw [e0]; exact Ar4.1) (State.isArrayOf_alike hZ.alike Ar4.2.1) Ar4.2.2 hi4 ha4 (g := (mkF m 17 #[.val (.ref ba_), .val (.ref bb_), .val (.int (0 : Int32))] [(.int (0 : Int32)), (.ref ba_)])) rfl rfl (hb hby d2_17)) ?_
  refine o_aloadN X0 hx (hb hby d2_18) rfl rfl ?_
  refine o_iloadN X0 hx (hb hby d2_19) rfl ?_
  obtain ⟨cl5, Ar5, q5, S5, N5z, H5, G5⟩ := (id pr1)
  have hi5 := inb_of (j := (0 : Int32)) S5 ⟨by decide, by decide⟩
  have ha5 := Has.at (v := (.int (108 : Int32))) H5 hi5 rfl
  refine ogo (S' := s₁.setTop (mkF m 21 #[.val (.ref ba_), .val (.ref bb_), .val (.int (0 : Int32))] [(.int (108 : Int32)), (.int (108 : Int32))])) (X0.baloadBytes hx (j := (0 : Int32)) (v := (.int (108 : Int32))) (by rw [e0]; exact Ar5.1) (State.isArrayOf_alike hZ.alike Ar5.2.1) Ar5.2.2 hi5 ha5 (g := (mkF m 20 #[.val (.ref ba_), .val (.ref bb_), .val (.int (0 : Int32))] [(.int (0 : Int32)), (.ref bb_), (.int (108 : Int32))])) rfl rfl (hb hby d2_20)) ?_
  refine o_icmpYes X0 hx 26 (hb hby d2_21) (teq (by decide : (108 : Int32) = (108 : Int32))).1 (by decide) (by decide) ?_
  refine o_iinc X0 hx (l' := #[.val (.ref ba_), .val (.ref bb_), .val (.int (1 : Int32))]) (hb hby d2_26) rfl rfl ?_
  refine o_goto X0 hx 9 (hb hby d2_29) (by decide) (by decide) ?_
  refine o_iloadN X0 hx (hb hby d2_9) rfl ?_
  refine o_aloadN X0 hx (hb hby d2_10) rfl rfl ?_
  obtain ⟨cl6, Ar6, -, S6, N6z, -, -⟩ := (id pr0)
  refine ogo (S' := s₁.setTop (mkF m 12 #[.val (.ref ba_), .val (.ref bb_), .val (.int (1 : Int32))] [(.int (4 : Int32)), (.int (1 : Int32))])) (fun _ kt_ => X0.arraylength hx (by rw [e0]; exact Ar6.1) (State.isArrayOf_alike hZ.alike Ar6.2.1) (g := (mkF m 11 #[.val (.ref ba_), .val (.ref bb_), .val (.int (1 : Int32))] [(.ref ba_), (.int (1 : Int32))])) rfl rfl (hb hby d2_11) _ (by rw [len_of S6 N6z]; exact kt_)) ?_
  refine o_icmpNo X0 hx (hb hby d2_12) (tlt (by decide : (1 : Int32) < (4 : Int32))).2.1 ?_
  refine o_aloadN X0 hx (hb hby d2_15) rfl rfl ?_
  refine o_iloadN X0 hx (hb hby d2_16) rfl ?_
  obtain ⟨cl7, Ar7, q7, S7, N7z, H7, G7⟩ := (id pr0)
  have hi7 := inb_of (j := (1 : Int32)) S7 ⟨by decide, by decide⟩
  have ha7 := Has.at (v := (.int (105 : Int32))) H7 hi7 rfl
  refine ogo (S' := s₁.setTop (mkF m 18 #[.val (.ref ba_), .val (.ref bb_), .val (.int (1 : Int32))] [(.int (105 : Int32))])) (X0.baloadBytes hx (j := (1 : Int32)) (v := (.int (105 : Int32))) (by rw [e0]; exact Ar7.1) (State.isArrayOf_alike hZ.alike Ar7.2.1) Ar7.2.2 hi7 ha7 (g := (mkF m 17 #[.val (.ref ba_), .val (.ref bb_), .val (.int (1 : Int32))] [(.int (1 : Int32)), (.ref ba_)])) rfl rfl (hb hby d2_17)) ?_
  refine o_aloadN X0 hx (hb hby d2_18) rfl rfl ?_
  refine o_iloadN X0 hx (hb hby d2_19) rfl ?_
  obtain ⟨cl8, Ar8, q8, S8, N8z, H8, G8⟩ := (id pr1)
  have hi8 := inb_of (j := (1 : Int32)) S8 ⟨by decide, by decide⟩
  have ha8 := Has.at (v := (.int (105 : Int32))) H8 hi8 rfl
  refine ogo (S' := s₁.setTop (mkF m 21 #[.val (.ref ba_), .val (.ref bb_), .val (.int (1 : Int32))] [(.int (105 : Int32)), (.int (105 : Int32))])) (X0.baloadBytes hx (j := (1 : Int32)) (v := (.int (105 : Int32))) (by rw [e0]; exact Ar8.1) (State.isArrayOf_alike hZ.alike Ar8.2.1) Ar8.2.2 hi8 ha8 (g := (mkF m 20 #[.val (.ref ba_), .val (.ref bb_), .val (.int (1 : Int32))] [(.int (1 : Int32)), (.ref bb_), (.int (105 : Int32))])) rfl rfl (hb hby d2_20)) ?_
  refine o_icmpYes X0 hx 26 (hb hby d2_21) (teq (by decide : (105 : Int32) = (105 : Int32))).1 (by decide) (by decide) ?_
  refine o_iinc X0 hx (l' := #[.val (.ref ba_), .val (.ref bb_), .val (.int (2 : Int32))]) (hb hby d2_26) rfl rfl ?_
  refine o_goto X0 hx 9 (hb hby d2_29) (by decide) (by decide) ?_
  refine o_iloadN X0 hx (hb hby d2_9) rfl ?_
  refine o_aloadN X0 hx (hb hby d2_10) rfl rfl ?_
  obtain ⟨cl9, Ar9, -, S9, N9z, -, -⟩ := (id pr0)
  refine ogo (S' := s₁.setTop (mkF m 12 #[.val (.ref ba_), .val (.ref bb_), .val (.int (2 : Int32))] [(.int (4 : Int32)), (.int (2 : Int32))])) (fun _ kt_ => X0.arraylength hx (by rw [e0]; exact Ar9.1) (State.isArrayOf_alike hZ.alike Ar9.2.1) (g := (mkF m 11 #[.val (.ref ba_), .val (.ref bb_), .val (.int (2 : Int32))] [(.ref ba_), (.int (2 : Int32))])) rfl rfl (hb hby d2_11) _ (by rw [len_of S9 N9z]; exact kt_)) ?_
  refine o_icmpNo X0 hx (hb hby d2_12) (tlt (by decide : (2 : Int32) < (4 : Int32))).2.1 ?_
  refine o_aloadN X0 hx (hb hby d2_15) rfl rfl ?_
  refine o_iloadN X0 hx (hb hby d2_16) rfl ?_
  obtain ⟨cl10, Ar10, q10, S10, N10z, H10, G10⟩ := (id pr0)
  have hi10 := inb_of (j := (2 : Int32)) S10 ⟨by decide, by decide⟩
  have ha10 := Has.at (v := (.int (107 : Int32))) H10 hi10 rfl
  refine ogo (S' := s₁.setTop (mkF m 18 #[.val (.ref ba_), .val (.ref bb_), .val (.int (2 : Int32))] [(.int (107 : Int32))])) (X0.baloadBytes hx (j := (2 : Int32)) (v := (.int (107 : Int32))) (by rw [e0]; exact Ar10.1) (State.isArrayOf_alike hZ.alike Ar10.2.1) Ar10.2.2 hi10 ha10 (g := (mkF m 17 #[.val (.ref ba_), .val (.ref bb_), .val (.int (2 : Int32))] [(.int (2 : Int32)), (.ref ba_)])) rfl rfl (hb hby d2_17)) ?_
  refine o_aloadN X0 hx (hb hby d2_18) rfl rfl ?_
  refine o_iloadN X0 hx (hb hby d2_19) rfl ?_
  obtain ⟨cl11, Ar11, q11, S11, N11z, H11, G11⟩ := (id pr1)
  have hi11 := inb_of (j := (2 : Int32)) S11 ⟨by decide, by decide⟩
  have ha11 := Has.at (v := (.int (107 : Int32))) H11 hi11 rfl
  refine ogo (S' := s₁.setTop (mkF m 21 #[.val (.ref ba_), .val (.ref bb_), .val (.int (2 : Int32))] [(.int (107 : Int32)), (.int (107 : Int32))])) (X0.baloadBytes hx (j := (2 : Int32)) (v := (.int (107 : Int32))) (by rw [e0]; exact Ar11.1) (State.isArrayOf_alike hZ.alike Ar11.2.1) Ar11.2.2 hi11 ha11 (g := (mkF m 20 #[.val (.ref ba_), .val (.ref bb_), .val (.int (2 : Int32))] [(.int (2 : Int32)), (.ref bb_), (.int (107 : Int32))])) rfl rfl (hb hby d2_20)) ?_
  refine o_icmpYes X0 hx 26 (hb hby d2_21) (teq (by decide : (107 : Int32) = (107 : Int32))).1 (by decide) (by decide) ?_
  refine o_iinc X0 hx (l' := #[.val (.ref ba_), .val (.ref bb_), .val (.int (3 : Int32))]) (hb hby d2_26) rfl rfl ?_
  refine o_goto X0 hx 9 (hb hby d2_29) (by decide) (by decide) ?_
  refine o_iloadN X0 hx (hb hby d2_9) rfl ?_
  refine o_aloadN X0 hx (hb hby d2_10) rfl rfl ?_
  obtain ⟨cl12, Ar12, -, S12, N12z, -, -⟩ := (id pr0)
  refine ogo (S' := s₁.setTop (mkF m 12 #[.val (.ref ba_), .val (.ref bb_), .val (.int (3 : Int32))] [(.int (4 : Int32)), (.int (3 : Int32))])) (fun _ kt_ => X0.arraylength hx (by rw [e0]; exact Ar12.1) (State.isArrayOf_alike hZ.alike Ar12.2.1) (g := (mkF m 11 #[.val (.ref ba_), .val (.ref bb_), .val (.int (3 : Int32))] [(.ref ba_), (.int (3 : Int32))])) rfl rfl (hb hby d2_11) _ (by rw [len_of S12 N12z]; exact kt_)) ?_
  refine o_icmpNo X0 hx (hb hby d2_12) (tlt (by decide : (3 : Int32) < (4 : Int32))).2.1 ?_
  refine o_aloadN X0 hx (hb hby d2_15) rfl rfl ?_
  refine o_iloadN X0 hx (hb hby d2_16) rfl ?_
  obtain ⟨cl13, Ar13, q13, S13, N13z, H13, G13⟩ := (id pr0)
  have hi13 := inb_of (j := (3 : Int32)) S13 ⟨by decide, by decide⟩
  have ha13 := Has.at (v := (.int (101 : Int32))) H13 hi13 rfl
  refine ogo (S' := s₁.setTop (mkF m 18 #[.val (.ref ba_), .val (.ref bb_), .val (.int (3 : Int32))] [(.int (101 : Int32))])) (X0.baloadBytes hx (j := (3 : Int32)) (v := (.int (101 : Int32))) (by rw [e0]; exact Ar13.1) (State.isArrayOf_alike hZ.alike Ar13.2.1) Ar13.2.2 hi13 ha13 (g := (mkF m 17 #[.val (.ref ba_), .val (.ref bb_), .val (.int (3 : Int32))] [(.int (3 : Int32)), (.ref ba_)])) rfl rfl (hb hby d2_17)) ?_
  refine o_aloadN X0 hx (hb hby d2_18) rfl rfl ?_
  refine o_iloadN X0 hx (hb hby d2_19) rfl ?_
  obtain ⟨cl14, Ar14, q14, S14, N14z, H14, G14⟩ := (id pr1)
  have hi14 := inb_of (j := (3 : Int32)) S14 ⟨by decide, by decide⟩
  have ha14 := Has.at (v := (.int (101 : Int32))) H14 hi14 rfl
  refine ogo (S' := s₁.setTop (mkF m 21 #[.val (.ref ba_), .val (.ref bb_), .val (.int (3 : Int32))] [(.int (101 : Int32)), (.int (101 : Int32))])) (X0.baloadBytes hx (j := (3 : Int32)) (v := (.int (101 : Int32))) (by rw [e0]; exact Ar14.1) (State.isArrayOf_alike hZ.alike Ar14.2.1) Ar14.2.2 hi14 ha14 (g := (mkF m 20 #[.val (.ref ba_), .val (.ref bb_), .val (.int (3 : Int32))] [(.int (3 : Int32)), (.ref bb_), (.int (101 : Int32))])) rfl rfl (hb hby d2_20)) ?_
  refine o_icmpYes X0 hx 26 (hb hby d2_21) (teq (by decide : (101 : Int32) = (101 : Int32))).1 (by decide) (by decide) ?_
  refine o_iinc X0 hx (l' := #[.val (.ref ba_), .val (.ref bb_), .val (.int (4 : Int32))]) (hb hby d2_26) rfl rfl ?_
  refine o_goto X0 hx 9 (hb hby d2_29) (by decide) (by decide) ?_
  refine o_iloadN X0 hx (hb hby d2_9) rfl ?_
  refine o_aloadN X0 hx (hb hby d2_10) rfl rfl ?_
  obtain ⟨cl15, Ar15, -, S15, N15z, -, -⟩ := (id pr0)
  refine ogo (S' := s₁.setTop (mkF m 12 #[.val (.ref ba_), .val (.ref bb_), .val (.int (4 : Int32))] [(.int (4 : Int32)), (.int (4 : Int32))])) (fun _ kt_ => X0.arraylength hx (by rw [e0]; exact Ar15.1) (State.isArrayOf_alike hZ.alike Ar15.2.1) (g := (mkF m 11 #[.val (.ref ba_), .val (.ref bb_), .val (.int (4 : Int32))] [(.ref ba_), (.int (4 : Int32))])) rfl rfl (hb hby d2_11) _ (by rw [len_of S15 N15z]; exact kt_)) ?_
  refine o_icmpYes X0 hx 32 (hb hby d2_12) (flt (by decide : ¬ ((4 : Int32) < (4 : Int32)))).2.1 (by decide) (by decide) ?_
  refine o_iconst X0 hx (1 : Int32) (hb hby d2_32) rfl ?_
  refine oend X0 hlk (v := some (.int (1 : Int32))) (fun h => by rw [hret] at h; cases h) (fun fs hr => retN X0 hx (t := .boolean) hret (by simp) (hb hby d2_33) hr) (by decide) (by decide) ?_
  show own_Q_l1eq_108_105_107_101_108_105_107_101 Z _ _ _ _ h0 n0 _ s₁.heap _
  rw [e0]
  exact ⟨rfl, N0, rfl⟩
theorem own_pd0 : parseMethodDescriptor "([B[B)Z" = some ⟨[(.array .byte), (.array .byte)], some .boolean⟩ := by decide +kernel
theorem d3_0 : decode jdk_42_method_66_code 0 = .ok (.aload_n 0, 1) := by decide +kernel
theorem d3_1 : decode jdk_42_method_66_code 1 = .ok (.aload_n 1, 1) := by decide +kernel
theorem d3_2 : decode jdk_42_method_66_code 2 = .ok (.if_acmp .ne 5, 3) := by decide +kernel
theorem d3_7 : decode jdk_42_method_66_code 7 = .ok (.aload_n 1, 1) := by decide +kernel
theorem d3_8 : decode jdk_42_method_66_code 8 = .ok (.instanceof 10, 3) := by decide +kernel
theorem d3_11 : decode jdk_42_method_66_code 11 = .ok (.ifCond .eq 43, 3) := by decide +kernel
theorem d3_14 : decode jdk_42_method_66_code 14 = .ok (.aload_n 1, 1) := by decide +kernel
theorem d3_15 : decode jdk_42_method_66_code 15 = .ok (.checkcast 10, 3) := by decide +kernel
theorem d3_18 : decode jdk_42_method_66_code 18 = .ok (.astore_n 2, 1) := by decide +kernel
theorem d3_19 : decode jdk_42_method_66_code 19 = .ok (.getstatic 38, 3) := by decide +kernel
theorem d3_22 : decode jdk_42_method_66_code 22 = .ok (.ifCond .eq 14, 3) := by decide +kernel
theorem d3_25 : decode jdk_42_method_66_code 25 = .ok (.aload_n 0, 1) := by decide +kernel
theorem d3_26 : decode jdk_42_method_66_code 26 = .ok (.getfield 15, 3) := by decide +kernel
theorem d3_29 : decode jdk_42_method_66_code 29 = .ok (.aload_n 2, 1) := by decide +kernel
theorem d3_30 : decode jdk_42_method_66_code 30 = .ok (.getfield 15, 3) := by decide +kernel
theorem d3_33 : decode jdk_42_method_66_code 33 = .ok (.if_icmp .ne 21, 3) := by decide +kernel
theorem d3_36 : decode jdk_42_method_66_code 36 = .ok (.aload_n 0, 1) := by decide +kernel
theorem d3_37 : decode jdk_42_method_66_code 37 = .ok (.getfield 9, 3) := by decide +kernel
theorem d3_40 : decode jdk_42_method_66_code 40 = .ok (.aload_n 2, 1) := by decide +kernel
theorem d3_41 : decode jdk_42_method_66_code 41 = .ok (.getfield 9, 3) := by decide +kernel
theorem d3_44 : decode jdk_42_method_66_code 44 = .ok (.invokestatic 541, 3) := by decide +kernel
theorem d3_47 : decode jdk_42_method_66_code 47 = .ok (.ifCond .eq 7, 3) := by decide +kernel
theorem d3_50 : decode jdk_42_method_66_code 50 = .ok (.iconst 1, 1) := by decide +kernel
theorem d3_51 : decode jdk_42_method_66_code 51 = .ok (.goto 4, 3) := by decide +kernel
theorem d3_55 : decode jdk_42_method_66_code 55 = .ok (.ireturn, 1) := by decide +kernel
theorem own_pn2 : plainName "java/lang/String" = true := by first | (simp [plainName, overriddenIn]; done) | decide +kernel
def own_Q_eq_108_105_107_101_108_105_107_101 (Z : State) (s_LIKE : Addr) (s_TOGGLE : Addr) (s__VALUES : Addr) (s_FAV : Addr) (s_VIEW : Addr) (s_LIKE_id : Addr) (s_LIKE_id_value : Addr) (s_INCREMENT : Addr) (s_FAV_id : Addr) (s_FAV_id_value : Addr) (s_VIEW_id : Addr) (s_VIEW_id_value : Addr) (k_s__VALUES : ClassId) (k_s_LIKE_id_value : ClassId) (k_s_FAV_id_value : ClassId) (k_s_VIEW_id_value : ClassId) (z_CS : Int32) (v_FMT : Value) (t_ : Addr) (ba_ : Addr) (kb_ : ClassId) (x_ : Addr) (bb_ : Addr) (kc_ : ClassId) (h0 : Heap) (n0 : Nat) (v : Option Value) (h : Heap) (L : List Loc) : Prop := (v = some (.int (1 : Int32))) ∧ (Fr n0 L) ∧ (h = h0)
abbrev yM2 : MethodName := ⟨"java/lang/String", "equals", "(Ljava/lang/Object;)Z"⟩
set_option maxRecDepth 65536 in
set_option maxHeartbeats 40000000 in
theorem rm_eq_108_105_107_101_108_105_107_101 (l : Launch) (Z : State) (a0 : Array Value) (hw : ∀ d ∈ tables_1, d.before a0 Z = true) (ws : List Jvm.Cond) (s_LIKE : Addr) (s_TOGGLE : Addr) (s__VALUES : Addr) (s_FAV : Addr) (s_VIEW : Addr) (s_LIKE_id : Addr) (s_LIKE_id_value : Addr) (s_INCREMENT : Addr) (s_FAV_id : Addr) (s_FAV_id_value : Addr) (s_VIEW_id : Addr) (s_VIEW_id_value : Addr) (k_s__VALUES : ClassId) (k_s_LIKE_id_value : ClassId) (k_s_FAV_id_value : ClassId) (k_s_VIEW_id_value : ClassId) (z_CS : Int32) (v_FMT : Value) (t_ : Addr) (ba_ : Addr) (kb_ : ClassId) (x_ : Addr) (bb_ : Addr) (kc_ : ClassId) (h0 : Heap) (n0 : Nat) (SB : own_Start Z s_LIKE s_TOGGLE s__VALUES s_FAV s_VIEW s_LIKE_id s_LIKE_id_value s_INCREMENT s_FAV_id s_FAV_id_value s_VIEW_id s_VIEW_id_value k_s__VALUES k_s_LIKE_id_value k_s_FAV_id_value k_s_VIEW_id_value z_CS v_FMT) (O0 : Old Z n0 h0) (pr0 : Exa Z h0 t_ "java/lang/String") (pr1 : Fld Z h0 t_ "java/lang/String" "coder" "B" (.int (0 : Int32))) (pr2 : Fld Z h0 t_ "java/lang/String" "value" "[B" (.ref ba_)) (pr3 : Arv Z h0 ba_ kb_ .byte (4 : Int32) [(.int (108 : Int32)), (.int (105 : Int32)), (.int (107 : Int32)), (.int (101 : Int32))] (.int 0)) (pr4 : Exa Z h0 x_ "java/lang/String") (pr5 : Fld Z h0 x_ "java/lang/String" "coder" "B" (.int (0 : Int32))) (pr6 : Fld Z h0 x_ "java/lang/String" "value" "[B" (.ref bb_)) (pr7 : Arv Z h0 bb_ kc_ .byte (4 : Int32) [(.int (108 : Int32)), (.int (105 : Int32)), (.int (107 : Int32)), (.int (101 : Int32))] (.int 0)) (pr8 : t_ ≠ x_) :
    oMet l Z yM2 jdk_42_method_66_code 3 (some .boolean) ws ({ frames := 1, cells := 0, slots := 0, locals := 14 } : Room) 0 0 #[(.ref t_), (.ref x_)] h0 (own_Q_eq_108_105_107_101_108_105_107_101 Z s_LIKE s_TOGGLE s__VALUES s_FAV s_VIEW s_LIKE_id s_LIKE_id_value s_INCREMENT s_FAV_id s_FAV_id_value s_VIEW_id s_VIEW_id_value k_s__VALUES k_s_LIKE_id_value k_s_FAV_id_value k_s_VIEW_id_value z_CS v_FMT t_ ba_ kb_ x_ bb_ kc_ h0 n0) := by
  refine oenter own_pn2 #[.val (.ref t_), .val (.ref x_), .unset] (fun m => by first | (simp [entryFrame, mkF, argsToLocals, Value.category]; done) | rfl) ?_
  intro p e s m below meth c s₁ X0 hx hZ hby hml hret hown0 hnm hlk e0
  have hown : s.vm.findClass "java/lang/String" = some m.cls := hown0
  have N0 := Fr.nil n0
  obtain ⟨S_s_LIKE, E_s_LIKE, S_s_TOGGLE, E_s_TOGGLE, S_s__VALUES, E_s__VALUES, S_s_FAV, E_s_FAV, S_s_VIEW, E_s_VIEW, F_s_LIKE_id, E_s_LIKE_id, F_s_LIKE_id_value, S_s_INCREMENT, E_s_INCREMENT, F_s_FAV_id, E_s_FAV_id, F_s_FAV_id_value, F_s_VIEW_id, E_s_VIEW_id, F_s_VIEW_id_value, F_s_LIKE_id_coder, F_s_LIKE_kind, F_s_FAV_id_coder, F_s_VIEW_id_coder, F_s_VIEW_kind, F_s_FAV_kind, V_s__VALUES, V_s_LIKE_id_value, V_s_FAV_id_value, V_s_VIEW_id_value, S_CS, H_CS, S_FMT, R_FMT⟩ := (id SB)
  have w21 := hw _ (List.mem_of_getElem? (i := 21) rfl)
  have w33 := hw _ (List.mem_of_getElem? (i := 33) rfl)
  have w35 := hw _ (List.mem_of_getElem? (i := 35) rfl)
  have w67 := hw _ (List.mem_of_getElem? (i := 67) rfl)
  have w68 := hw _ (List.mem_of_getElem? (i := 68) rfl)
  have w69 := hw _ (List.mem_of_getElem? (i := 69) rfl)
  have w70 := hw _ (List.mem_of_getElem? (i := 70) rfl)
  have w71 := hw _ (List.mem_of_getElem? (i := 71) rfl)
  refine o_aloadN X0 hx (hb hby d3_0) rfl rfl ?_
  refine o_aloadN X0 hx (hb hby d3_1) rfl rfl ?_
  refine o_acmp X0 hx 7 false rfl rfl (hb hby d3_2) (decide_eq_false fun q => pr8 (Value.ref.inj q)) (by decide) (by decide) ?_
  refine o_aloadN X0 hx (hb hby d3_7) rfl rfl ?_
  obtain ⟨T1, X1, e1, st1⟩ := instY X0 hx hZ hown w67 e0 (Ins.self pr4) (g := (mkF m 8 #[.val (.ref t_), .val (.ref x_), .unset] [(.ref x_)])) rfl rfl (hb hby d3_8)
  refine ogo (S' := T1.setTop (mkF m 11 #[.val (.ref t_), .val (.ref x_), .unset] [(.int (1 : Int32))])) st1 ?_
  refine o_ifNo X1 hx (hb hby d3_11) (feq (by decide : ¬ ((1 : Int32) = (0 : Int32)))).1 ?_
  refine o_aloadN X1 hx (hb hby d3_14) rfl rfl ?_
  obtain ⟨T2, X2, e2, st2⟩ := castY X1 hx hZ hown w67 e1 (Ins.self pr4) (g := (mkF m 15 #[.val (.ref t_), .val (.ref x_), .unset] [(.ref x_)])) rfl rfl (hb hby d3_15)
  refine ogo (S' := T2.setTop (mkF m 18 #[.val (.ref t_), .val (.ref x_), .unset] [(.ref x_)])) st2 ?_
  refine o_astoreN X2 hx (l' := #[.val (.ref t_), .val (.ref x_), .val (.ref x_)]) (hb hby d3_18) rfl rfl ?_
  obtain ⟨T3, X3, e3, st3⟩ := getS2 X2 hx hZ hown (host := "") (Or.inl w21) Via.refl e2 (Sta.ext O0.2 S_CS) (g := (mkF m 19 #[.val (.ref t_), .val (.ref x_), .val (.ref x_)] [])) rfl (hb hby d3_19)
  refine ogo (S' := T3.setTop (mkF m 22 #[.val (.ref t_), .val (.ref x_), .val (.ref x_)] [(.int z_CS)])) st3 ?_
  refine o_ifNo X3 hx (hb hby d3_22) (feq H_CS).1 ?_
  refine o_aloadN X3 hx (hb hby d3_25) rfl rfl ?_
  obtain ⟨T4, X4, e4, st4⟩ := getF X3 hx hZ hown (host := "") (Or.inl w33) Via.refl e3 pr1 (g := (mkF m 26 #[.val (.ref t_), .val (.ref x_), .val (.ref x_)] [(.ref t_)])) rfl rfl (hb hby d3_26)
  refine ogo (S' := T4.setTop (mkF m 29 #[.val (.ref t_), .val (.ref x_), .val (.ref x_)] [(.int (0 : Int32))])) st4 ?_
  refine o_aloadN X4 hx (hb hby d3_29) rfl rfl ?_
  obtain ⟨T5, X5, e5, st5⟩ := getF X4 hx hZ hown (host := "") (Or.inl w33) Via.refl e4 pr5 (g := (mkF m 30 #[.val (.ref t_), .val (.ref x_), .val (.ref x_)] [(.ref x_), (.int (0 : Int32))])) rfl rfl (hb hby d3_30)
  refine ogo (S' := T5.setTop (mkF m 33 #[.val (.ref t_), .val (.ref x_), .val (.ref x_)] [(.int (0 : Int32)), (.int (0 : Int32))])) st5 ?_
  refine o_icmpNo X5 hx (hb hby d3_33) (teq (by decide : (0 : Int32) = (0 : Int32))).2 ?_
  refine o_aloadN X5 hx (hb hby d3_36) rfl rfl ?_
  obtain ⟨T6, X6, e6, st6⟩ := getF X5 hx hZ hown (host := "") (Or.inl w35) Via.refl e5 pr2 (g := (mkF m 37 #[.val (.ref t_), .val (.ref x_), .val (.ref x_)] [(.ref t_)])) rfl rfl (hb hby d3_37)
  refine ogo (S' := T6.setTop (mkF m 40 #[.val (.ref t_), .val (.ref x_), .val (.ref x_)] [(.ref ba_)])) st6 ?_
  refine o_aloadN X6 hx (hb hby d3_40) rfl rfl ?_
  obtain ⟨T7, X7, e7, st7⟩ := getF X6 hx hZ hown (host := "") (Or.inl w35) Via.refl e6 pr6 (g := (mkF m 41 #[.val (.ref t_), .val (.ref x_), .val (.ref x_)] [(.ref x_), (.ref ba_)])) rfl rfl (hb hby d3_41)
  refine ogo (S' := T7.setTop (mkF m 44 #[.val (.ref t_), .val (.ref x_), .val (.ref x_)] [(.ref bb_), (.ref ba_)])) st7 ?_
  obtain ⟨_, _, ⟨T8, L8, kc8, n8⟩, -, X8, ⟨Lc8, hQ8, l8, y8, z8⟩, st8⟩ := Jvm.LawKit.callS X7 hx (y := yM1) hown (mvT hZ w68) (mvT hZ w69) (mvT hZ w70) (mvT hZ w71) (by decide) (backOf (W := 0) (rm_l1eq_108_105_107_101_108_105_107_101 l Z a0 hw []  ba_ kb_ bb_ kc_ h0 n0 O0 pr3 pr7) hZ w71 w70 (by decide) (by decide)) (g := (mkF m 44 #[.val (.ref t_), .val (.ref x_), .val (.ref x_)] [(.ref bb_), (.ref ba_)])) rfl (by rw [hml]; rfl) (argsL := [(.ref ba_), (.ref bb_)]) (rest := []) (lenOf own_pd0 rfl) rfl (by show 2 * 0 + _ ≤ _; exact Nat.le_of_eq rfl) (hb hby d3_44) (fun _ _ => ⟨rfl, e7, (by decide : 0 + 0 ≤ _), (by decide : 0 + 0 ≤ _)⟩)
  dsimp only [Pt.U, Pt.locs, Pt.cells, Pt.slots] at X8 l8 y8 z8 st8 hQ8
  subst l8 y8 z8
  obtain ⟨rfl, Nq8, e8⟩ := hQ8
  have N8 := Fr.app N0 Nq8
  refine ogo (S' := T8.setTop (mkF m 47 #[.val (.ref t_), .val (.ref x_), .val (.ref x_)] [(.int (1 : Int32))])) st8 ?_
  refine o_ifNo X8 hx (hb hby d3_47) (feq (by decide : ¬ ((1 : Int32) = (0 : Int32)))).1 ?_
  refine o_iconst X8 hx (1 : Int32) (hb hby d3_50) rfl ?_
  refine o_goto X8 hx 55 (hb hby d3_51) (by decide) (by decide) ?_
  refine oend X8 hlk (v := some (.int (1 : Int32))) (fun h => by rw [hret] at h; cases h) (fun fs hr => retN X8 hx (t := .boolean) hret (by simp) (hb hby d3_55) hr) (by decide) (by decide) ?_
  show own_Q_eq_108_105_107_101_108_105_107_101 Z _ _ _ _ _ _ _ _ _ _ _ _ _ _ _ _ _ _ _ _ _ _ _ _ h0 n0 _ T8.heap _
  rw [e8]
  exact ⟨rfl, N8, rfl⟩
theorem own_pd1 : parseMethodDescriptor "()[Lcom/example/atomic_tally/atomictally/model/Metric;" = some ⟨[], some (.array (.object "com/example/atomic_tally/atomictally/model/Metric"))⟩ := by decide +kernel
theorem own_pd2 : parseMethodDescriptor "(Ljava/lang/Object;)Z" = some ⟨[(.object "java/lang/Object")], some .boolean⟩ := by decide +kernel
theorem d4_0 : decode prog_5_method_6_code 0 = .ok (.invokestatic 40, 3) := by decide +kernel
theorem d4_3 : decode prog_5_method_6_code 3 = .ok (.astore_n 1, 1) := by decide +kernel
theorem d4_4 : decode prog_5_method_6_code 4 = .ok (.aload_n 1, 1) := by decide +kernel
theorem d4_5 : decode prog_5_method_6_code 5 = .ok (.arraylength, 1) := by decide +kernel
theorem d4_6 : decode prog_5_method_6_code 6 = .ok (.istore_n 2, 1) := by decide +kernel
theorem d4_7 : decode prog_5_method_6_code 7 = .ok (.iconst 0, 1) := by decide +kernel
theorem d4_8 : decode prog_5_method_6_code 8 = .ok (.istore_n 3, 1) := by decide +kernel
theorem d4_9 : decode prog_5_method_6_code 9 = .ok (.iload_n 3, 1) := by decide +kernel
theorem d4_10 : decode prog_5_method_6_code 10 = .ok (.iload_n 2, 1) := by decide +kernel
theorem d4_11 : decode prog_5_method_6_code 11 = .ok (.if_icmp .ge 29, 3) := by decide +kernel
theorem d4_14 : decode prog_5_method_6_code 14 = .ok (.aload_n 1, 1) := by decide +kernel
theorem d4_15 : decode prog_5_method_6_code 15 = .ok (.iload_n 3, 1) := by decide +kernel
theorem d4_16 : decode prog_5_method_6_code 16 = .ok (.aaload, 1) := by decide +kernel
theorem d4_17 : decode prog_5_method_6_code 17 = .ok (.astore 4, 2) := by decide +kernel
theorem d4_19 : decode prog_5_method_6_code 19 = .ok (.aload 4, 2) := by decide +kernel
theorem d4_21 : decode prog_5_method_6_code 21 = .ok (.getfield 32, 3) := by decide +kernel
theorem d4_24 : decode prog_5_method_6_code 24 = .ok (.aload_n 0, 1) := by decide +kernel
theorem d4_25 : decode prog_5_method_6_code 25 = .ok (.invokevirtual 44, 3) := by decide +kernel
theorem d4_28 : decode prog_5_method_6_code 28 = .ok (.ifCond .eq 6, 3) := by decide +kernel
theorem d4_31 : decode prog_5_method_6_code 31 = .ok (.aload 4, 2) := by decide +kernel
theorem d4_33 : decode prog_5_method_6_code 33 = .ok (.areturn, 1) := by decide +kernel
def own_Q_parse_0 (Z : State) (s_LIKE : Addr) (s_TOGGLE : Addr) (s__VALUES : Addr) (s_FAV : Addr) (s_VIEW : Addr) (s_LIKE_id : Addr) (s_LIKE_id_value : Addr) (s_INCREMENT : Addr) (s_FAV_id : Addr) (s_FAV_id_value : Addr) (s_VIEW_id : Addr) (s_VIEW_id_value : Addr) (k_s__VALUES : ClassId) (k_s_LIKE_id_value : ClassId) (k_s_FAV_id_value : ClassId) (k_s_VIEW_id_value : ClassId) (z_CS : Int32) (v_FMT : Value) (x_ : Addr) (bb_ : Addr) (kc_ : ClassId) (h0 : Heap) (n0 : Nat) (v : Option Value) (h : Heap) (L : List Loc) : Prop := (v = some (.ref s_LIKE)) ∧ (Fr n0 L) ∧ (Keep h0 h [])
abbrev yM3 : MethodName := ⟨"com/example/atomic_tally/atomictally/model/Metric", "parse", "(Ljava/lang/String;)Lcom/example/atomic_tally/atomictally/model/Metric;"⟩
set_option maxRecDepth 65536 in
set_option maxHeartbeats 40000000 in
theorem rm_parse_0 (l : Launch) (Z : State) (a0 : Array Value) (hw : ∀ d ∈ tables_1, d.before a0 Z = true) (ws : List Jvm.Cond) (s_LIKE : Addr) (s_TOGGLE : Addr) (s__VALUES : Addr) (s_FAV : Addr) (s_VIEW : Addr) (s_LIKE_id : Addr) (s_LIKE_id_value : Addr) (s_INCREMENT : Addr) (s_FAV_id : Addr) (s_FAV_id_value : Addr) (s_VIEW_id : Addr) (s_VIEW_id_value : Addr) (k_s__VALUES : ClassId) (k_s_LIKE_id_value : ClassId) (k_s_FAV_id_value : ClassId) (k_s_VIEW_id_value : ClassId) (z_CS : Int32) (v_FMT : Value) (x_ : Addr) (bb_ : Addr) (kc_ : ClassId) (h0 : Heap) (n0 : Nat) (SB : own_Start Z s_LIKE s_TOGGLE s__VALUES s_FAV s_VIEW s_LIKE_id s_LIKE_id_value s_INCREMENT s_FAV_id s_FAV_id_value s_VIEW_id s_VIEW_id_value k_s__VALUES k_s_LIKE_id_value k_s_FAV_id_value k_s_VIEW_id_value z_CS v_FMT) (O0 : Old Z n0 h0) (pr0 : Exa Z h0 x_ "java/lang/String") (pr1 : Fld Z h0 x_ "java/lang/String" "coder" "B" (.int (0 : Int32))) (pr2 : Fld Z h0 x_ "java/lang/String" "value" "[B" (.ref bb_)) (pr3 : Arv Z h0 bb_ kc_ .byte (4 : Int32) [(.int (108 : Int32)), (.int (105 : Int32)), (.int (107 : Int32)), (.int (101 : Int32))] (.int 0)) (pr4 : n0 ≤ x_) :
    oMet l Z yM3 prog_5_method_6_code 5 (some (.object "com/example/atomic_tally/atomictally/model/Metric")) ws ({ frames := 2, cells := 1, slots := 3, locals := 28 } : Room) 1 3 #[(.ref x_)] h0 (own_Q_parse_0 Z s_LIKE s_TOGGLE s__VALUES s_FAV s_VIEW s_LIKE_id s_LIKE_id_value s_INCREMENT s_FAV_id s_FAV_id_value s_VIEW_id s_VIEW_id_value k_s__VALUES k_s_LIKE_id_value k_s_FAV_id_value k_s_VIEW_id_value z_CS v_FMT x_ bb_ kc_ h0 n0) := by
  refine oenter own_pn0 #[.val (.ref x_), .unset, .unset, .unset, .unset] (fun m => by first | (simp [entryFrame, mkF, argsToLocals, Value.category]; done) | rfl) ?_
  intro p e s m below meth c s₁ X0 hx hZ hby hml hret hown0 hnm hlk e0
  have hown : s.vm.findClass "com/example/atomic_tally/atomictally/model/Metric" = some m.cls := hown0
  have N0 := Fr.nil n0
  obtain ⟨S_s_LIKE, E_s_LIKE, S_s_TOGGLE, E_s_TOGGLE, S_s__VALUES, E_s__VALUES, S_s_FAV, E_s_FAV, S_s_VIEW, E_s_VIEW, F_s_LIKE_id, E_s_LIKE_id, F_s_LIKE_id_value, S_s_INCREMENT, E_s_INCREMENT, F_s_FAV_id, E_s_FAV_id, F_s_FAV_id_value, F_s_VIEW_id, E_s_VIEW_id, F_s_VIEW_id_value, F_s_LIKE_id_coder, F_s_LIKE_kind, F_s_FAV_id_coder, F_s_VIEW_id_coder, F_s_VIEW_kind, F_s_FAV_kind, V_s__VALUES, V_s_LIKE_id_value, V_s_FAV_id_value, V_s_VIEW_id_value, S_CS, H_CS, S_FMT, R_FMT⟩ := (id SB)
  have w3 := hw _ (List.mem_of_getElem? (i := 3) rfl)
  have w10 := hw _ (List.mem_of_getElem? (i := 10) rfl)
  have w43 := hw _ (List.mem_of_getElem? (i := 43) rfl)
  have w44 := hw _ (List.mem_of_getElem? (i := 44) rfl)
  have w45 := hw _ (List.mem_of_getElem? (i := 45) rfl)
  have w60 := hw _ (List.mem_of_getElem? (i := 60) rfl)
  have w62 := hw _ (List.mem_of_getElem? (i := 62) rfl)
  have w63 := hw _ (List.mem_of_getElem? (i := 63) rfl)
  have w64 := hw _ (List.mem_of_getElem? (i := 64) rfl)
  have w65 := hw _ (List.mem_of_getElem? (i := 65) rfl)
  have w66 := hw _ (List.mem_of_getElem? (i := 66) rfl)
  obtain ⟨_, _, ⟨T1, L1, kc1, n1⟩, -, X1, ⟨Lc1, hQ1, l1, y1, z1⟩, st1⟩ := Jvm.LawKit.callS X0 hx (y := yM0) hown (mvT hZ w43) (mvT hZ w44) (mvT hZ w3) (mvT hZ w45) (by decide) (backOf (W := 0) (rm_values l Z a0 hw [] s_LIKE s_TOGGLE s__VALUES s_FAV s_VIEW s_LIKE_id s_LIKE_id_value s_INCREMENT s_FAV_id s_FAV_id_value s_VIEW_id s_VIEW_id_value k_s__VALUES k_s_LIKE_id_value k_s_FAV_id_value k_s_VIEW_id_value z_CS v_FMT  h0 n0 SB O0 ) hZ w45 w3 (by decide) (by decide)) (g := (mkF m 0 #[.val (.ref x_), .unset, .unset, .unset, .unset] [])) rfl (by rw [hml]; rfl) (argsL := []) (rest := []) (lenOf own_pd1 rfl) rfl (by show 2 * 0 + _ ≤ _; exact Nat.le_of_eq rfl) (hb hby d4_0) (fun _ _ => ⟨rfl, e0, (by decide : 0 + 1 ≤ _), (by decide : 0 + 3 ≤ _)⟩)
  dsimp only [Pt.U, Pt.locs, Pt.cells, Pt.slots] at X1 l1 y1 z1 st1 hQ1
  subst l1 y1 z1
  obtain ⟨va_1, rfl, Nq1, K1, p1_0, p1_1, p1_2⟩ := hQ1
  have N1 := Fr.app N0 Nq1
  have n0_va_1 : n0 ≤ va_1 := Nat.le_trans (Nat.le_trans (Nat.le_of_eq O0.1.symm) O0.2.1) (Nat.le_trans (Nat.le_refl _) p1_0)
  refine ogo (S' := T1.setTop (mkF m 3 #[.val (.ref x_), .unset, .unset, .unset, .unset] [(.ref va_1)])) st1 ?_
  refine o_astoreN X1 hx (l' := #[.val (.ref x_), .val (.ref va_1), .unset, .unset, .unset]) (hb hby d4_3) rfl rfl ?_
  refine o_aloadN X1 hx (hb hby d4_4) rfl rfl ?_
  obtain ⟨cl2, Ar2, -, S2, N2z, -, -⟩ := (id p1_1)
  refine ogo (S' := T1.setTop (mkF m 6 #[.val (.ref x_), .val (.ref va_1), .unset, .unset, .unset] [(.int (3 : Int32))])) (fun _ kt_ => X1.arraylength hx Ar2.1 (State.isArrayOf_alike hZ.alike Ar2.2.1) (g := (mkF m 5 #[.val (.ref x_), .val (.ref va_1), .unset, .unset, .unset] [(.ref va_1)])) rfl rfl (hb hby d4_5) _ (by rw [len_of S2 N2z]; exact kt_)) ?_
  refine o_istoreN X1 hx (l' := #[.val (.ref x_), .val (.ref va_1), .val (.int (3 : Int32)), .unset, .unset]) (hb hby d4_6) rfl ?_
  refine o_iconst X1 hx (0 : Int32) (hb hby d4_7) rfl ?_
  refine o_istoreN X1 hx (l' := #[.val (.ref x_), .val (.ref va_1), .val (.int (3 : Int32)), .val (.int (0 : Int32)), .unset]) (hb hby d4_8) rfl ?_
  refine o_iloadN X1 hx (hb hby d4_9) rfl ?_
  refine o_iloadN X1 hx (hb hby d4_10) rfl ?_
  refine o_icmpNo X1 hx (hb hby d4_11) (tlt (by decide : (0 : Int32) < (3 : Int32))).2.1 ?_
  refine o_aloadN X1 hx (hb hby d4_14) rfl rfl ?_
  refine o_iloadN X1 hx (hb hby d4_15) rfl ?_
  obtain ⟨cl3, Ar3, q3, S3, N3z, H3, G3⟩ := (id p1_1)
  have hi3 := inb_of (j := (0 : Int32)) S3 ⟨by decide, by decide⟩
  have ha3 := Has.at (v := (.ref s_LIKE)) H3 hi3 rfl
  refine ogo (S' := T1.setTop (mkF m 17 #[.val (.ref x_), .val (.ref va_1), .val (.int (3 : Int32)), .val (.int (0 : Int32)), .unset] [(.ref s_LIKE)])) (X1.aaload hx (j := (0 : Int32)) (v := (.ref s_LIKE)) Ar3.1 (State.isArrayOf_alike hZ.alike Ar3.2.1) rfl Ar3.2.2 hi3 ha3 (g := (mkF m 16 #[.val (.ref x_), .val (.ref va_1), .val (.int (3 : Int32)), .val (.int (0 : Int32)), .unset] [(.int (0 : Int32)), (.ref va_1)])) rfl rfl (hb hby d4_16)) ?_
  refine o_astore X1 hx (l' := #[.val (.ref x_), .val (.ref va_1), .val (.int (3 : Int32)), .val (.int (0 : Int32)), .val (.ref s_LIKE)]) (hb hby d4_17) rfl rfl ?_
  refine o_aload X1 hx (hb hby d4_19) rfl rfl ?_
  obtain ⟨T4, X4, e4, st4⟩ := getF X1 hx hZ hown (host := "") (Or.inl w60) Via.refl rfl (Fld.ext (O0.keep K1 all0).2 F_s_LIKE_id) (g := (mkF m 21 #[.val (.ref x_), .val (.ref va_1), .val (.int (3 : Int32)), .val (.int (0 : Int32)), .val (.ref s_LIKE)] [(.ref s_LIKE)])) rfl rfl (hb hby d4_21)
  refine ogo (S' := T4.setTop (mkF m 24 #[.val (.ref x_), .val (.ref va_1), .val (.int (3 : Int32)), .val (.int (0 : Int32)), .val (.ref s_LIKE)] [(.ref s_LIKE_id)])) st4 ?_
  refine o_aloadN X4 hx (hb hby d4_24) rfl rfl ?_
  obtain ⟨cq5, kq5, q5a, q5b, q5c⟩ := isOf hZ e4 (Exa.ext (O0.keep K1 all0).2 E_s_LIKE_id)
  obtain ⟨_, _, ⟨T5, L5, kc5, n5⟩, -, X5, ⟨Lc5, hQ5, l5, y5, z5⟩, st5⟩ := X4.virtualBack hx (y := yM2) (z := yM2) hown (mvT hZ w62) (mvT hZ w63) (notFace_of_selects (args := #[]) (mvT hZ w65)) (mvT hZ w65) (mvT hZ w64) (by decide) (backOf (W := 0) (rm_eq_108_105_107_101_108_105_107_101 l Z a0 hw [] s_LIKE s_TOGGLE s__VALUES s_FAV s_VIEW s_LIKE_id s_LIKE_id_value s_INCREMENT s_FAV_id s_FAV_id_value s_VIEW_id s_VIEW_id_value k_s__VALUES k_s_LIKE_id_value k_s_FAV_id_value k_s_VIEW_id_value z_CS v_FMT s_LIKE_id s_LIKE_id_value k_s_LIKE_id_value x_ bb_ kc_ T1.heap n0 SB (O0.keep K1 all0) (Exa.ext (O0.keep K1 all0).2 E_s_LIKE_id) (Fld.ext (O0.keep K1 all0).2 F_s_LIKE_id_coder) (Fld.ext (O0.keep K1 all0).2 F_s_LIKE_id_value) (V_s_LIKE_id_value.ext (O0.keep K1 all0).2) (pr0.keep K1) (pr1.keep K1 nin0) (pr2.keep K1 nin0) (pr3.keep K1 nin0) (Old.ne (O0.keep K1 all0) E_s_LIKE_id.lt pr4)) hZ w66 w10 (by decide) (by decide)) q5a q5c (g := (mkF m 25 #[.val (.ref x_), .val (.ref va_1), .val (.int (3 : Int32)), .val (.int (0 : Int32)), .val (.ref s_LIKE)] [(.ref x_), (.ref s_LIKE_id)])) rfl (by rw [hml]; rfl) (Steps.refl _) (argsL := [(.ref x_)]) (rest := []) (lenOf own_pd2 rfl) rfl (by show 2 * 0 + _ ≤ _; exact Nat.le_of_eq rfl) (hb hby d4_25) (fun _ _ => ⟨rfl, e4, (by decide : 1 + 0 ≤ _), (by decide : 3 + 0 ≤ _)⟩)
  dsimp only [Pt.U, Pt.locs, Pt.cells, Pt.slots] at X5 l5 y5 z5 st5 hQ5
  subst l5 y5 z5
  obtain ⟨rfl, Nq5, e5⟩ := hQ5
  have N5 := Fr.app N1 Nq5
  refine otr (S' := T5.setTop (mkF m 28 #[.val (.ref x_), .val (.ref va_1), .val (.int (3 : Int32)), .val (.int (0 : Int32)), .val (.ref s_LIKE)] [(.int (1 : Int32))])) st5 ?_
  refine o_ifNo X5 hx (hb hby d4_28) (feq (by decide : ¬ ((1 : Int32) = (0 : Int32)))).1 ?_
  refine o_aload X5 hx (hb hby d4_31) rfl rfl ?_
  refine oend X5 hlk (v := some (.ref s_LIKE)) (fun h => by rw [hret] at h; cases h) (fun fs hr => retOut X5 hx (t := (.object "com/example/atomic_tally/atomictally/model/Metric")) (i := .areturn) hret rfl (Or.inr (Or.inr (Or.inr (Or.inr ⟨rfl, rfl, rfl⟩)))) (hb hby d4_33) hr) (by decide) (by decide) ?_
  show own_Q_parse_0 Z _ _ _ _ _ _ _ _ _ _ _ _ _ _ _ _ _ _ _ _ _ h0 n0 _ T5.heap _
  rw [e5]
  exact ⟨rfl, N5, ((Keep.refl h0 []).trans K1 all0)⟩
theorem d2_34 : decode jdk_43_method_13_code 34 = .ok (.iconst 0, 1) := by decide +kernel
theorem d2_35 : decode jdk_43_method_13_code 35 = .ok (.ireturn, 1) := by decide +kernel
def own_Q_l1eq_108_105_107_101_102_97_118 (Z : State)  (ba_ : Addr) (kb_ : ClassId) (bb_ : Addr) (kc_ : ClassId) (h0 : Heap) (n0 : Nat) (v : Option Value) (h : Heap) (L : List Loc) : Prop := (v = some (.int (0 : Int32))) ∧ (Fr n0 L) ∧ (h = h0)
set_option maxRecDepth 65536 in
set_option maxHeartbeats 40000000 in
theorem rm_l1eq_108_105_107_101_102_97_118 (l : Launch) (Z : State) (a0 : Array Value) (hw : ∀ d ∈ tables_1, d.before a0 Z = true) (ws : List Jvm.Cond)  (ba_ : Addr) (kb_ : ClassId) (bb_ : Addr) (kc_ : ClassId) (h0 : Heap) (n0 : Nat) (O0 : Old Z n0 h0) (pr0 : Arv Z h0 ba_ kb_ .byte (4 : Int32) [(.int (108 : Int32)), (.int (105 : Int32)), (.int (107 : Int32)), (.int (101 : Int32))] (.int 0)) (pr1 : Arv Z h0 bb_ kc_ .byte (3 : Int32) [(.int (102 : Int32)), (.int (97 : Int32)), (.int (118 : Int32))] (.int 0)) :
    oMet l Z yM1 jdk_43_method_13_code 3 (some .boolean) ws ({ frames := 0, cells := 0, slots := 0, locals := 0 } : Room) 0 0 #[(.ref ba_), (.ref bb_)] h0 (own_Q_l1eq_108_105_107_101_102_97_118 Z  ba_ kb_ bb_ kc_ h0 n0) := by
  refine oenter own_pn1 #[.val (.ref ba_), .val (.ref bb_), .unset] (fun m => by first | (simp [entryFrame, mkF, argsToLocals, Value.category]; done) | rfl) ?_
  intro p e s m below meth c s₁ X0 hx hZ hby hml hret hown0 hnm hlk e0
  have hown : s.vm.findClass "java/lang/StringLatin1" = some m.cls := hown0
  have N0 := Fr.nil n0
  refine o_aloadN X0 hx (hb hby d2_0) rfl rfl ?_
  obtain ⟨cl1, Ar1, -, S1, N1z, -, -⟩ := (id pr0)
  refine ogo (S' := s₁.setTop (mkF m 2 #[.val (.ref ba_), .val (.ref bb_), .unset] [(.int (4 : Int32))])) (fun _ kt_ => X0.arraylength hx (by rw [e0]; exact Ar1.1) (State.isArrayOf_alike hZ.alike Ar1.2.1) (g := (mkF m 1 #[.val (.ref ba_), .val (.ref bb_), .unset] [(.ref ba_)])) rfl rfl (hb hby d2_1) _ (by rw [len_of S1 N1z]; exact kt_)) ?_
  refine o_aloadN X0 hx (hb hby d2_2) rfl rfl ?_
  obtain ⟨cl2, Ar2, -, S2, N2z, -, -⟩ := (id pr1)
  refine ogo (S' := s₁.setTop (mkF m 4 #[.val (.ref ba_), .val (.ref bb_), .unset] [(.int (3 : Int32)), (.int (4 : Int32))])) (fun _ kt_ => X0.arraylength hx (by rw [e0]; exact Ar2.1) (State.isArrayOf_alike hZ.alike Ar2.2.1) (g := (mkF m 3 #[.val (.ref ba_), .val (.ref bb_), .unset] [(.ref bb_), (.int (4 : Int32))])) rfl rfl (hb hby d2_3) _ (by rw [len_of S2 N2z]; exact kt_)) ?_
  refine o_icmpYes X0 hx 34 (hb hby d2_4) (feq (by decide : ¬ ((4 : Int32) = (3 : Int32)))).2 (by decide) (by decide) ?_
  refine o_iconst X0 hx (0 : Int32) (hb hby d2_34) rfl ?_
  refine oend X0 hlk (v := some (.int (0 : Int32))) (fun h => by rw [hret] at h; cases h) (fun fs hr => retN X0 hx (t := .boolean) hret (by simp) (hb hby d2_35) hr) (by decide) (by decide) ?_
  show own_Q_l1eq_108_105_107_101_102_97_118 Z _ _ _ _ h0 n0 _ s₁.heap _
  rw [e0]
  exact ⟨rfl, N0, rfl⟩
theorem d3_54 : decode jdk_42_method_66_code 54 = .ok (.iconst 0, 1) := by decide +kernel
def own_Q_eq_108_105_107_101_102_97_118 (Z : State) (s_LIKE : Addr) (s_TOGGLE : Addr) (s__VALUES : Addr) (s_FAV : Addr) (s_VIEW : Addr) (s_LIKE_id : Addr) (s_LIKE_id_value : Addr) (s_INCREMENT : Addr) (s_FAV_id : Addr) (s_FAV_id_value : Addr) (s_VIEW_id : Addr) (s_VIEW_id_value : Addr) (k_s__VALUES : ClassId) (k_s_LIKE_id_value : ClassId) (k_s_FAV_id_value : ClassId) (k_s_VIEW_id_value : ClassId) (z_CS : Int32) (v_FMT : Value) (t_ : Addr) (ba_ : Addr) (kb_ : ClassId) (x_ : Addr) (bb_ : Addr) (kc_ : ClassId) (h0 : Heap) (n0 : Nat) (v : Option Value) (h : Heap) (L : List Loc) : Prop := (v = some (.int (0 : Int32))) ∧ (Fr n0 L) ∧ (h = h0)
set_option maxRecDepth 65536 in
set_option maxHeartbeats 40000000 in
theorem rm_eq_108_105_107_101_102_97_118 (l : Launch) (Z : State) (a0 : Array Value) (hw : ∀ d ∈ tables_1, d.before a0 Z = true) (ws : List Jvm.Cond) (s_LIKE : Addr) (s_TOGGLE : Addr) (s__VALUES : Addr) (s_FAV : Addr) (s_VIEW : Addr) (s_LIKE_id : Addr) (s_LIKE_id_value : Addr) (s_INCREMENT : Addr) (s_FAV_id : Addr) (s_FAV_id_value : Addr) (s_VIEW_id : Addr) (s_VIEW_id_value : Addr) (k_s__VALUES : ClassId) (k_s_LIKE_id_value : ClassId) (k_s_FAV_id_value : ClassId) (k_s_VIEW_id_value : ClassId) (z_CS : Int32) (v_FMT : Value) (t_ : Addr) (ba_ : Addr) (kb_ : ClassId) (x_ : Addr) (bb_ : Addr) (kc_ : ClassId) (h0 : Heap) (n0 : Nat) (SB : own_Start Z s_LIKE s_TOGGLE s__VALUES s_FAV s_VIEW s_LIKE_id s_LIKE_id_value s_INCREMENT s_FAV_id s_FAV_id_value s_VIEW_id s_VIEW_id_value k_s__VALUES k_s_LIKE_id_value k_s_FAV_id_value k_s_VIEW_id_value z_CS v_FMT) (O0 : Old Z n0 h0) (pr0 : Exa Z h0 t_ "java/lang/String") (pr1 : Fld Z h0 t_ "java/lang/String" "coder" "B" (.int (0 : Int32))) (pr2 : Fld Z h0 t_ "java/lang/String" "value" "[B" (.ref ba_)) (pr3 : Arv Z h0 ba_ kb_ .byte (4 : Int32) [(.int (108 : Int32)), (.int (105 : Int32)), (.int (107 : Int32)), (.int (101 : Int32))] (.int 0)) (pr4 : Exa Z h0 x_ "java/lang/String") (pr5 : Fld Z h0 x_ "java/lang/String" "coder" "B" (.int (0 : Int32))) (pr6 : Fld Z h0 x_ "java/lang/String" "value" "[B" (.ref bb_)) (pr7 : Arv Z h0 bb_ kc_ .byte (3 : Int32) [(.int (102 : Int32)), (.int (97 : Int32)), (.int (118 : Int32))] (.int 0)) (pr8 : t_ ≠ x_) :
    oMet l Z yM2 jdk_42_method_66_code 3 (some .boolean) ws ({ frames := 1, cells := 0, slots := 0, locals := 14 } : Room) 0 0 #[(.ref t_), (.ref x_)] h0 (own_Q_eq_108_105_107_101_102_97_118 Z s_LIKE s_TOGGLE s__VALUES s_FAV s_VIEW s_LIKE_id s_LIKE_id_value s_INCREMENT s_FAV_id s_FAV_id_value s_VIEW_id s_VIEW_id_value k_s__VALUES k_s_LIKE_id_value k_s_FAV_id_value k_s_VIEW_id_value z_CS v_FMT t_ ba_ kb_ x_ bb_ kc_ h0 n0) := by
  refine oenter own_pn2 #[.val (.ref t_), .val (.ref x_), .unset] (fun m => by first | (simp [entryFrame, mkF, argsToLocals, Value.category]; done) | rfl) ?_
  intro p e s m below meth c s₁ X0 hx hZ hby hml hret hown0 hnm hlk e0
  have hown : s.vm.findClass "java/lang/String" = some m.cls := hown0
  have N0 := Fr.nil n0
  obtain ⟨S_s_LIKE, E_s_LIKE, S_s_TOGGLE, E_s_TOGGLE, S_s__VALUES, E_s__VALUES, S_s_FAV, E_s_FAV, S_s_VIEW, E_s_VIEW, F_s_LIKE_id, E_s_LIKE_id, F_s_LIKE_id_value, S_s_INCREMENT, E_s_INCREMENT, F_s_FAV_id, E_s_FAV_id, F_s_FAV_id_value, F_s_VIEW_id, E_s_VIEW_id, F_s_VIEW_id_value, F_s_LIKE_id_coder, F_s_LIKE_kind, F_s_FAV_id_coder, F_s_VIEW_id_coder, F_s_VIEW_kind, F_s_FAV_kind, V_s__VALUES, V_s_LIKE_id_value, V_s_FAV_id_value, V_s_VIEW_id_value, S_CS, H_CS, S_FMT, R_FMT⟩ := (id SB)
  have w21 := hw _ (List.mem_of_getElem? (i := 21) rfl)
  have w33 := hw _ (List.mem_of_getElem? (i := 33) rfl)
  have w35 := hw _ (List.mem_of_getElem? (i := 35) rfl)
  have w67 := hw _ (List.mem_of_getElem? (i := 67) rfl)
  have w68 := hw _ (List.mem_of_getElem? (i := 68) rfl)
  have w69 := hw _ (List.mem_of_getElem? (i := 69) rfl)
  have w70 := hw _ (List.mem_of_getElem? (i := 70) rfl)
  have w71 := hw _ (List.mem_of_getElem? (i := 71) rfl)
  refine o_aloadN X0 hx (hb hby d3_0) rfl rfl ?_
  refine o_aloadN X0 hx (hb hby d3_1) rfl rfl ?_
  refine o_acmp X0 hx 7 false rfl rfl (hb hby d3_2) (decide_eq_false fun q => pr8 (Value.ref.inj q)) (by decide) (by decide) ?_
  refine o_aloadN X0 hx (hb hby d3_7) rfl rfl ?_
  obtain ⟨T1, X1, e1, st1⟩ := instY X0 hx hZ hown w67 e0 (Ins.self pr4) (g := (mkF m 8 #[.val (.ref t_), .val (.ref x_), .unset] [(.ref x_)])) rfl rfl (hb hby d3_8)
  refine ogo (S' := T1.setTop (mkF m 11 #[.val (.ref t_), .val (.ref x_), .unset] [(.int (1 : Int32))])) st1 ?_
  refine o_ifNo X1 hx (hb hby d3_11) (feq (by decide : ¬ ((1 : Int32) = (0 : Int32)))).1 ?_
  refine o_aloadN X1 hx (hb hby d3_14) rfl rfl ?_
  obtain ⟨T2, X2, e2, st2⟩ := castY X1 hx hZ hown w67 e1 (Ins.self pr4) (g := (mkF m 15 #[.val (.ref t_), .val (.ref x_), .unset] [(.ref x_)])) rfl rfl (hb hby d3_15)
  refine ogo (S' := T2.setTop (mkF m 18 #[.val (.ref t_), .val (.ref x_), .unset] [(.ref x_)])) st2 ?_
  refine o_astoreN X2 hx (l' := #[.val (.ref t_), .val (.ref x_), .val (.ref x_)]) (hb hby d3_18) rfl rfl ?_
  obtain ⟨T3, X3, e3, st3⟩ := getS2 X2 hx hZ hown (host := "") (Or.inl w21) Via.refl e2 (Sta.ext O0.2 S_CS) (g := (mkF m 19 #[.val (.ref t_), .val (.ref x_), .val (.ref x_)] [])) rfl (hb hby d3_19)
  refine ogo (S' := T3.setTop (mkF m 22 #[.val (.ref t_), .val (.ref x_), .val (.ref x_)] [(.int z_CS)])) st3 ?_
  refine o_ifNo X3 hx (hb hby d3_22) (feq H_CS).1 ?_
  refine o_aloadN X3 hx (hb hby d3_25) rfl rfl ?_
  obtain ⟨T4, X4, e4, st4⟩ := getF X3 hx hZ hown (host := "") (Or.inl w33) Via.refl e3 pr1 (g := (mkF m 26 #[.val (.ref t_), .val (.ref x_), .val (.ref x_)] [(.ref t_)])) rfl rfl (hb hby d3_26)
  refine ogo (S' := T4.setTop (mkF m 29 #[.val (.ref t_), .val (.ref x_), .val (.ref x_)] [(.int (0 : Int32))])) st4 ?_
  refine o_aloadN X4 hx (hb hby d3_29) rfl rfl ?_
  obtain ⟨T5, X5, e5, st5⟩ := getF X4 hx hZ hown (host := "") (Or.inl w33) Via.refl e4 pr5 (g := (mkF m 30 #[.val (.ref t_), .val (.ref x_), .val (.ref x_)] [(.ref x_), (.int (0 : Int32))])) rfl rfl (hb hby d3_30)
  refine ogo (S' := T5.setTop (mkF m 33 #[.val (.ref t_), .val (.ref x_), .val (.ref x_)] [(.int (0 : Int32)), (.int (0 : Int32))])) st5 ?_
  refine o_icmpNo X5 hx (hb hby d3_33) (teq (by decide : (0 : Int32) = (0 : Int32))).2 ?_
  refine o_aloadN X5 hx (hb hby d3_36) rfl rfl ?_
  obtain ⟨T6, X6, e6, st6⟩ := getF X5 hx hZ hown (host := "") (Or.inl w35) Via.refl e5 pr2 (g := (mkF m 37 #[.val (.ref t_), .val (.ref x_), .val (.ref x_)] [(.ref t_)])) rfl rfl (hb hby d3_37)
  refine ogo (S' := T6.setTop (mkF m 40 #[.val (.ref t_), .val (.ref x_), .val (.ref x_)] [(.ref ba_)])) st6 ?_
  refine o_aloadN X6 hx (hb hby d3_40) rfl rfl ?_
  obtain ⟨T7, X7, e7, st7⟩ := getF X6 hx hZ hown (host := "") (Or.inl w35) Via.refl e6 pr6 (g := (mkF m 41 #[.val (.ref t_), .val (.ref x_), .val (.ref x_)] [(.ref x_), (.ref ba_)])) rfl rfl (hb hby d3_41)
  refine ogo (S' := T7.setTop (mkF m 44 #[.val (.ref t_), .val (.ref x_), .val (.ref x_)] [(.ref bb_), (.ref ba_)])) st7 ?_
  obtain ⟨_, _, ⟨T8, L8, kc8, n8⟩, -, X8, ⟨Lc8, hQ8, l8, y8, z8⟩, st8⟩ := Jvm.LawKit.callS X7 hx (y := yM1) hown (mvT hZ w68) (mvT hZ w69) (mvT hZ w70) (mvT hZ w71) (by decide) (backOf (W := 0) (rm_l1eq_108_105_107_101_102_97_118 l Z a0 hw []  ba_ kb_ bb_ kc_ h0 n0 O0 pr3 pr7) hZ w71 w70 (by decide) (by decide)) (g := (mkF m 44 #[.val (.ref t_), .val (.ref x_), .val (.ref x_)] [(.ref bb_), (.ref ba_)])) rfl (by rw [hml]; rfl) (argsL := [(.ref ba_), (.ref bb_)]) (rest := []) (lenOf own_pd0 rfl) rfl (by show 2 * 0 + _ ≤ _; exact Nat.le_of_eq rfl) (hb hby d3_44) (fun _ _ => ⟨rfl, e7, (by decide : 0 + 0 ≤ _), (by decide : 0 + 0 ≤ _)⟩)
  dsimp only [Pt.U, Pt.locs, Pt.cells, Pt.slots] at X8 l8 y8 z8 st8 hQ8
  subst l8 y8 z8
  obtain ⟨rfl, Nq8, e8⟩ := hQ8
  have N8 := Fr.app N0 Nq8
  refine ogo (S' := T8.setTop (mkF m 47 #[.val (.ref t_), .val (.ref x_), .val (.ref x_)] [(.int (0 : Int32))])) st8 ?_
  refine o_ifYes X8 hx 54 (hb hby d3_47) (teq (by decide : (0 : Int32) = (0 : Int32))).1 (by decide) (by decide) ?_
  refine o_iconst X8 hx (0 : Int32) (hb hby d3_54) rfl ?_
  refine oend X8 hlk (v := some (.int (0 : Int32))) (fun h => by rw [hret] at h; cases h) (fun fs hr => retN X8 hx (t := .boolean) hret (by simp) (hb hby d3_55) hr) (by decide) (by decide) ?_
  show own_Q_eq_108_105_107_101_102_97_118 Z _ _ _ _ _ _ _ _ _ _ _ _ _ _ _ _ _ _ _ _ _ _ _ _ h0 n0 _ T8.heap _
  rw [e8]
  exact ⟨rfl, N8, rfl⟩
def own_Q_l1eq_102_97_118_102_97_118 (Z : State)  (ba_ : Addr) (kb_ : ClassId) (bb_ : Addr) (kc_ : ClassId) (h0 : Heap) (n0 : Nat) (v : Option Value) (h : Heap) (L : List Loc) : Prop := (v = some (.int (1 : Int32))) ∧ (Fr n0 L) ∧ (h = h0)
set_option maxRecDepth 65536 in
set_option maxHeartbeats 40000000 in
theorem rm_l1eq_102_97_118_102_97_118 (l : Launch) (Z : State) (a0 : Array Value) (hw : ∀ d ∈ tables_1, d.before a0 Z = true) (ws : List Jvm.Cond)  (ba_ : Addr) (kb_ : ClassId) (bb_ : Addr) (kc_ : ClassId) (h0 : Heap) (n0 : Nat) (O0 : Old Z n0 h0) (pr0 : Arv Z h0 ba_ kb_ .byte (3 : Int32) [(.int (102 : Int32)), (.int (97 : Int32)), (.int (118 : Int32))] (.int 0)) (pr1 : Arv Z h0 bb_ kc_ .byte (3 : Int32) [(.int (102 : Int32)), (.int (97 : Int32)), (.int (118 : Int32))] (.int 0)) :
    oMet l Z yM1 jdk_43_method_13_code 3 (some .boolean) ws ({ frames := 0, cells := 0, slots := 0, locals := 0 } : Room) 0 0 #[(.ref ba_), (.ref bb_)] h0 (own_Q_l1eq_102_97_118_102_97_118 Z  ba_ kb_ bb_ kc_ h0 n0) := by
  refine oenter own_pn1 #[.val (.ref ba_), .val (.ref bb_), .unset] (fun m => by first | (simp [entryFrame, mkF, argsToLocals, Value.category]; done) | rfl) ?_
  intro p e s m below meth c s₁ X0 hx hZ hby hml hret hown0 hnm hlk e0
  have hown : s.vm.findClass "java/lang/StringLatin1" = some m.cls := hown0
  have N0 := Fr.nil n0
  refine o_aloadN X0 hx (hb hby d2_0) rfl rfl ?_
  obtain ⟨cl1, Ar1, -, S1, N1z, -, -⟩ := (id pr0)
  refine ogo (S' := s₁.setTop (mkF m 2 #[.val (.ref ba_), .val (.ref bb_), .unset] [(.int (3 : Int32))])) (fun _ kt_ => X0.arraylength hx (by rw [e0]; exact Ar1.1) (State.isArrayOf_alike hZ.alike Ar1.2.1) (g := (mkF m 1 #[.val (.ref ba_), .val (.ref bb_), .unset] [(.ref ba_)])) rfl rfl (hb hby d2_1) _ (by rw [len_of S1 N1z]; exact kt_)) ?_
  refine o_aloadN X0 hx (hb hby d2_2) rfl rfl ?_
  obtain ⟨cl2, Ar2, -, S2, N2z, -, -⟩ := (id pr1)
  refine ogo (S' := s₁.setTop (mkF m 4 #[.val (.ref ba_), .val (.ref bb_), .unset] [(.int (3 : Int32)), (.int (3 : Int32))])) (fun _ kt_ => X0.arraylength hx (by rw [e0]; exact Ar2.1) (State.isArrayOf_alike hZ.alike Ar2.2.1) (g := (mkF m 3 #[.val (.ref ba_), .val (.ref bb_), .unset] [(.ref bb_), (.int (3 : Int32))])) rfl rfl (hb hby d2_3) _ (by rw [len_of S2 N2z]; exact kt_)) ?_
  refine o_icmpNo X0 hx (hb hby d2_4) (teq (by decide : (3 : Int32) = (3 : Int32))).2 ?_
  refine o_iconst X0 hx (0 : Int32) (hb hby d2_7) rfl ?_
  refine o_istoreN X0 hx (l' := #[.val (.ref ba_), .val (.ref bb_), .val (.int (0 : Int32))]) (hb hby d2_8) rfl ?_
  refine o_iloadN X0 hx (hb hby d2_9) rfl ?_
  refine o_aloadN X0 hx (hb hby d2_10) rfl rfl ?_
  obtain ⟨cl3, Ar3, -, S3, N3z, -, -⟩ := (id pr0)
  refine ogo (S' := s₁.setTop (mkF m 12 #[.val (.ref ba_), .val (.ref bb_), .val (.int (0 : Int32))] [(.int (3 : Int32)), (.int (0 : Int32))])) (fun _ kt_ => X0.arraylength hx (by rw [e0]; exact Ar3.1) (State.isArrayOf_alike hZ.alike Ar3.2.1) (g := (mkF m 11 #[.val (.ref ba_), .val (.ref bb_), .val (.int (0 : Int32))] [(.ref ba_), (.int (0 : Int32))])) rfl rfl (hb hby d2_11) _ (by rw [len_of S3 N3z]; exact kt_)) ?_
  refine o_icmpNo X0 hx (hb hby d2_12) (tlt (by decide : (0 : Int32) < (3 : Int32))).2.1 ?_
  refine o_aloadN X0 hx (hb hby d2_15) rfl rfl ?_
  refine o_iloadN X0 hx (hb hby d2_16) rfl ?_
  obtain ⟨cl4, Ar4, q4, S4, N4z, H4, G4⟩ := (id pr0)
  have hi4 := inb_of (j := (0 : Int32)) S4 ⟨by decide, by decide⟩
  have ha4 := Has.at (v := (.int (102 : Int32))) H4 hi4 rfl
  refine ogo (S' := s₁.setTop (mkF m 18 #[.val (.ref ba_), .val (.ref bb_), .val (.int (0 : Int32))] [(.int (102 : Int32))])) (X0.baloadBytes hx (j := (0 : Int32)) (v := (.int (102 : Int32))) (by rw [e0]; exact Ar4.1) (State.isArrayOf_alike hZ.alike Ar4.2.1) Ar4.2.2 hi4 ha4 (g := (mkF m 17 #[.val (.ref ba_), .val (.ref bb_), .val (.int (0 : Int32))] [(.int (0 : Int32)), (.ref ba_)])) rfl rfl (hb hby d2_17)) ?_
  refine o_aloadN X0 hx (hb hby d2_18) rfl rfl ?_
  refine o_iloadN X0 hx (hb hby d2_19) rfl ?_
  obtain ⟨cl5, Ar5, q5, S5, N5z, H5, G5⟩ := (id pr1)
  have hi5 := inb_of (j := (0 : Int32)) S5 ⟨by decide, by decide⟩
  have ha5 := Has.at (v := (.int (102 : Int32))) H5 hi5 rfl
  refine ogo (S' := s₁.setTop (mkF m 21 #[.val (.ref ba_), .val (.ref bb_), .val (.int (0 : Int32))] [(.int (102 : Int32)), (.int (102 : Int32))])) (X0.baloadBytes hx (j := (0 : Int32)) (v := (.int (102 : Int32))) (by rw [e0]; exact Ar5.1) (State.isArrayOf_alike hZ.alike Ar5.2.1) Ar5.2.2 hi5 ha5 (g := (mkF m 20 #[.val (.ref ba_), .val (.ref bb_), .val (.int (0 : Int32))] [(.int (0 : Int32)), (.ref bb_), (.int (102 : Int32))])) rfl rfl (hb hby d2_20)) ?_
  refine o_icmpYes X0 hx 26 (hb hby d2_21) (teq (by decide : (102 : Int32) = (102 : Int32))).1 (by decide) (by decide) ?_
  refine o_iinc X0 hx (l' := #[.val (.ref ba_), .val (.ref bb_), .val (.int (1 : Int32))]) (hb hby d2_26) rfl rfl ?_
  refine o_goto X0 hx 9 (hb hby d2_29) (by decide) (by decide) ?_
  refine o_iloadN X0 hx (hb hby d2_9) rfl ?_
  refine o_aloadN X0 hx (hb hby d2_10) rfl rfl ?_
  obtain ⟨cl6, Ar6, -, S6, N6z, -, -⟩ := (id pr0)
  refine ogo (S' := s₁.setTop (mkF m 12 #[.val (.ref ba_), .val (.ref bb_), .val (.int (1 : Int32))] [(.int (3 : Int32)), (.int (1 : Int32))])) (fun _ kt_ => X0.arraylength hx (by rw [e0]; exact Ar6.1) (State.isArrayOf_alike hZ.alike Ar6.2.1) (g := (mkF m 11 #[.val (.ref ba_), .val (.ref bb_), .val (.int (1 : Int32))] [(.ref ba_), (.int (1 : Int32))])) rfl rfl (hb hby d2_11) _ (by rw [len_of S6 N6z]; exact kt_)) ?_
  refine o_icmpNo X0 hx (hb hby d2_12) (tlt (by decide : (1 : Int32) < (3 : Int32))).2.1 ?_
  refine o_aloadN X0 hx (hb hby d2_15) rfl rfl ?_
  refine o_iloadN X0 hx (hb hby d2_16) rfl ?_
  obtain ⟨cl7, Ar7, q7, S7, N7z, H7, G7⟩ := (id pr0)
  have hi7 := inb_of (j := (1 : Int32)) S7 ⟨by decide, by decide⟩
  have ha7 := Has.at (v := (.int (97 : Int32))) H7 hi7 rfl
  refine ogo (S' := s₁.setTop (mkF m 18 #[.val (.ref ba_), .val (.ref bb_), .val (.int (1 : Int32))] [(.int (97 : Int32))])) (X0.baloadBytes hx (j := (1 : Int32)) (v := (.int (97 : Int32))) (by rw [e0]; exact Ar7.1) (State.isArrayOf_alike hZ.alike Ar7.2.1) Ar7.2.2 hi7 ha7 (g := (mkF m 17 #[.val (.ref ba_), .val (.ref bb_), .val (.int (1 : Int32))] [(.int (1 : Int32)), (.ref ba_)])) rfl rfl (hb hby d2_17)) ?_
  refine o_aloadN X0 hx (hb hby d2_18) rfl rfl ?_
  refine o_iloadN X0 hx (hb hby d2_19) rfl ?_
  obtain ⟨cl8, Ar8, q8, S8, N8z, H8, G8⟩ := (id pr1)
  have hi8 := inb_of (j := (1 : Int32)) S8 ⟨by decide, by decide⟩
  have ha8 := Has.at (v := (.int (97 : Int32))) H8 hi8 rfl
  refine ogo (S' := s₁.setTop (mkF m 21 #[.val (.ref ba_), .val (.ref bb_), .val (.int (1 : Int32))] [(.int (97 : Int32)), (.int (97 : Int32))])) (X0.baloadBytes hx (j := (1 : Int32)) (v := (.int (97 : Int32))) (by rw [e0]; exact Ar8.1) (State.isArrayOf_alike hZ.alike Ar8.2.1) Ar8.2.2 hi8 ha8 (g := (mkF m 20 #[.val (.ref ba_), .val (.ref bb_), .val (.int (1 : Int32))] [(.int (1 : Int32)), (.ref bb_), (.int (97 : Int32))])) rfl rfl (hb hby d2_20)) ?_
  refine o_icmpYes X0 hx 26 (hb hby d2_21) (teq (by decide : (97 : Int32) = (97 : Int32))).1 (by decide) (by decide) ?_
  refine o_iinc X0 hx (l' := #[.val (.ref ba_), .val (.ref bb_), .val (.int (2 : Int32))]) (hb hby d2_26) rfl rfl ?_
  refine o_goto X0 hx 9 (hb hby d2_29) (by decide) (by decide) ?_
  refine o_iloadN X0 hx (hb hby d2_9) rfl ?_
  refine o_aloadN X0 hx (hb hby d2_10) rfl rfl ?_
  obtain ⟨cl9, Ar9, -, S9, N9z, -, -⟩ := (id pr0)
  refine ogo (S' := s₁.setTop (mkF m 12 #[.val (.ref ba_), .val (.ref bb_), .val (.int (2 : Int32))] [(.int (3 : Int32)), (.int (2 : Int32))])) (fun _ kt_ => X0.arraylength hx (by rw [e0]; exact Ar9.1) (State.isArrayOf_alike hZ.alike Ar9.2.1) (g := (mkF m 11 #[.val (.ref ba_), .val (.ref bb_), .val (.int (2 : Int32))] [(.ref ba_), (.int (2 : Int32))])) rfl rfl (hb hby d2_11) _ (by rw [len_of S9 N9z]; exact kt_)) ?_
  refine o_icmpNo X0 hx (hb hby d2_12) (tlt (by decide : (2 : Int32) < (3 : Int32))).2.1 ?_
  refine o_aloadN X0 hx (hb hby d2_15) rfl rfl ?_
  refine o_iloadN X0 hx (hb hby d2_16) rfl ?_
  obtain ⟨cl10, Ar10, q10, S10, N10z, H10, G10⟩ := (id pr0)
  have hi10 := inb_of (j := (2 : Int32)) S10 ⟨by decide, by decide⟩
  have ha10 := Has.at (v := (.int (118 : Int32))) H10 hi10 rfl
  refine ogo (S' := s₁.setTop (mkF m 18 #[.val (.ref ba_), .val (.ref bb_), .val (.int (2 : Int32))] [(.int (118 : Int32))])) (X0.baloadBytes hx (j := (2 : Int32)) (v := (.int (118 : Int32))) (by rw [e0]; exact Ar10.1) (State.isArrayOf_alike hZ.alike Ar10.2.1) Ar10.2.2 hi10 ha10 (g := (mkF m 17 #[.val (.ref ba_), .val (.ref bb_), .val (.int (2 : Int32))] [(.int (2 : Int32)), (.ref ba_)])) rfl rfl (hb hby d2_17)) ?_
  refine o_aloadN X0 hx (hb hby d2_18) rfl rfl ?_
  refine o_iloadN X0 hx (hb hby d2_19) rfl ?_
  obtain ⟨cl11, Ar11, q11, S11, N11z, H11, G11⟩ := (id pr1)
  have hi11 := inb_of (j := (2 : Int32)) S11 ⟨by decide, by decide⟩
  have ha11 := Has.at (v := (.int (118 : Int32))) H11 hi11 rfl
  refine ogo (S' := s₁.setTop (mkF m 21 #[.val (.ref ba_), .val (.ref bb_), .val (.int (2 : Int32))] [(.int (118 : Int32)), (.int (118 : Int32))])) (X0.baloadBytes hx (j := (2 : Int32)) (v := (.int (118 : Int32))) (by rw [e0]; exact Ar11.1) (State.isArrayOf_alike hZ.alike Ar11.2.1) Ar11.2.2 hi11 ha11 (g := (mkF m 20 #[.val (.ref ba_), .val (.ref bb_), .val (.int (2 : Int32))] [(.int (2 : Int32)), (.ref bb_), (.int (118 : Int32))])) rfl rfl (hb hby d2_20)) ?_
  refine o_icmpYes X0 hx 26 (hb hby d2_21) (teq (by decide : (118 : Int32) = (118 : Int32))).1 (by decide) (by decide) ?_
  refine o_iinc X0 hx (l' := #[.val (.ref ba_), .val (.ref bb_), .val (.int (3 : Int32))]) (hb hby d2_26) rfl rfl ?_
  refine o_goto X0 hx 9 (hb hby d2_29) (by decide) (by decide) ?_
  refine o_iloadN X0 hx (hb hby d2_9) rfl ?_
  refine o_aloadN X0 hx (hb hby d2_10) rfl rfl ?_
  obtain ⟨cl12, Ar12, -, S12, N12z, -, -⟩ := (id pr0)
  refine ogo (S' := s₁.setTop (mkF m 12 #[.val (.ref ba_), .val (.ref bb_), .val (.int (3 : Int32))] [(.int (3 : Int32)), (.int (3 : Int32))])) (fun _ kt_ => X0.arraylength hx (by rw [e0]; exact Ar12.1) (State.isArrayOf_alike hZ.alike Ar12.2.1) (g := (mkF m 11 #[.val (.ref ba_), .val (.ref bb_), .val (.int (3 : Int32))] [(.ref ba_), (.int (3 : Int32))])) rfl rfl (hb hby d2_11) _ (by rw [len_of S12 N12z]; exact kt_)) ?_
  refine o_icmpYes X0 hx 32 (hb hby d2_12) (flt (by decide : ¬ ((3 : Int32) < (3 : Int32)))).2.1 (by decide) (by decide) ?_
  refine o_iconst X0 hx (1 : Int32) (hb hby d2_32) rfl ?_
  refine oend X0 hlk (v := some (.int (1 : Int32))) (fun h => by rw [hret] at h; cases h) (fun fs hr => retN X0 hx (t := .boolean) hret (by simp) (hb hby d2_33) hr) (by decide) (by decide) ?_
  show own_Q_l1eq_102_97_118_102_97_118 Z _ _ _ _ h0 n0 _ s₁.heap _
  rw [e0]
  exact ⟨rfl, N0, rfl⟩
def own_Q_eq_102_97_118_102_97_118 (Z : State) (s_LIKE : Addr) (s_TOGGLE : Addr) (s__VALUES : Addr) (s_FAV : Addr) (s_VIEW : Addr) (s_LIKE_id : Addr) (s_LIKE_id_value : Addr) (s_INCREMENT : Addr) (s_FAV_id : Addr) (s_FAV_id_value : Addr) (s_VIEW_id : Addr) (s_VIEW_id_value : Addr) (k_s__VALUES : ClassId) (k_s_LIKE_id_value : ClassId) (k_s_FAV_id_value : ClassId) (k_s_VIEW_id_value : ClassId) (z_CS : Int32) (v_FMT : Value) (t_ : Addr) (ba_ : Addr) (kb_ : ClassId) (x_ : Addr) (bb_ : Addr) (kc_ : ClassId) (h0 : Heap) (n0 : Nat) (v : Option Value) (h : Heap) (L : List Loc) : Prop := (v = some (.int (1 : Int32))) ∧ (Fr n0 L) ∧ (h = h0)
set_option maxRecDepth 65536 in
set_option maxHeartbeats 40000000 in
theorem rm_eq_102_97_118_102_97_118 (l : Launch) (Z : State) (a0 : Array Value) (hw : ∀ d ∈ tables_1, d.before a0 Z = true) (ws : List Jvm.Cond) (s_LIKE : Addr) (s_TOGGLE : Addr) (s__VALUES : Addr) (s_FAV : Addr) (s_VIEW : Addr) (s_LIKE_id : Addr) (s_LIKE_id_value : Addr) (s_INCREMENT : Addr) (s_FAV_id : Addr) (s_FAV_id_value : Addr) (s_VIEW_id : Addr) (s_VIEW_id_value : Addr) (k_s__VALUES : ClassId) (k_s_LIKE_id_value : ClassId) (k_s_FAV_id_value : ClassId) (k_s_VIEW_id_value : ClassId) (z_CS : Int32) (v_FMT : Value) (t_ : Addr) (ba_ : Addr) (kb_ : ClassId) (x_ : Addr) (bb_ : Addr) (kc_ : ClassId) (h0 : Heap) (n0 : Nat) (SB : own_Start Z s_LIKE s_TOGGLE s__VALUES s_FAV s_VIEW s_LIKE_id s_LIKE_id_value s_INCREMENT s_FAV_id s_FAV_id_value s_VIEW_id s_VIEW_id_value k_s__VALUES k_s_LIKE_id_value k_s_FAV_id_value k_s_VIEW_id_value z_CS v_FMT) (O0 : Old Z n0 h0) (pr0 : Exa Z h0 t_ "java/lang/String") (pr1 : Fld Z h0 t_ "java/lang/String" "coder" "B" (.int (0 : Int32))) (pr2 : Fld Z h0 t_ "java/lang/String" "value" "[B" (.ref ba_)) (pr3 : Arv Z h0 ba_ kb_ .byte (3 : Int32) [(.int (102 : Int32)), (.int (97 : Int32)), (.int (118 : Int32))] (.int 0)) (pr4 : Exa Z h0 x_ "java/lang/String") (pr5 : Fld Z h0 x_ "java/lang/String" "coder" "B" (.int (0 : Int32))) (pr6 : Fld Z h0 x_ "java/lang/String" "value" "[B" (.ref bb_)) (pr7 : Arv Z h0 bb_ kc_ .byte (3 : Int32) [(.int (102 : Int32)), (.int (97 : Int32)), (.int (118 : Int32))] (.int 0)) (pr8 : t_ ≠ x_) :
    oMet l Z yM2 jdk_42_method_66_code 3 (some .boolean) ws ({ frames := 1, cells := 0, slots := 0, locals := 14 } : Room) 0 0 #[(.ref t_), (.ref x_)] h0 (own_Q_eq_102_97_118_102_97_118 Z s_LIKE s_TOGGLE s__VALUES s_FAV s_VIEW s_LIKE_id s_LIKE_id_value s_INCREMENT s_FAV_id s_FAV_id_value s_VIEW_id s_VIEW_id_value k_s__VALUES k_s_LIKE_id_value k_s_FAV_id_value k_s_VIEW_id_value z_CS v_FMT t_ ba_ kb_ x_ bb_ kc_ h0 n0) := by
  refine oenter own_pn2 #[.val (.ref t_), .val (.ref x_), .unset] (fun m => by first | (simp [entryFrame, mkF, argsToLocals, Value.category]; done) | rfl) ?_
  intro p e s m below meth c s₁ X0 hx hZ hby hml hret hown0 hnm hlk e0
  have hown : s.vm.findClass "java/lang/String" = some m.cls := hown0
  have N0 := Fr.nil n0
  obtain ⟨S_s_LIKE, E_s_LIKE, S_s_TOGGLE, E_s_TOGGLE, S_s__VALUES, E_s__VALUES, S_s_FAV, E_s_FAV, S_s_VIEW, E_s_VIEW, F_s_LIKE_id, E_s_LIKE_id, F_s_LIKE_id_value, S_s_INCREMENT, E_s_INCREMENT, F_s_FAV_id, E_s_FAV_id, F_s_FAV_id_value, F_s_VIEW_id, E_s_VIEW_id, F_s_VIEW_id_value, F_s_LIKE_id_coder, F_s_LIKE_kind, F_s_FAV_id_coder, F_s_VIEW_id_coder, F_s_VIEW_kind, F_s_FAV_kind, V_s__VALUES, V_s_LIKE_id_value, V_s_FAV_id_value, V_s_VIEW_id_value, S_CS, H_CS, S_FMT, R_FMT⟩ := (id SB)
  have w21 := hw _ (List.mem_of_getElem? (i := 21) rfl)
  have w33 := hw _ (List.mem_of_getElem? (i := 33) rfl)
  have w35 := hw _ (List.mem_of_getElem? (i := 35) rfl)
  have w67 := hw _ (List.mem_of_getElem? (i := 67) rfl)
  have w68 := hw _ (List.mem_of_getElem? (i := 68) rfl)
  have w69 := hw _ (List.mem_of_getElem? (i := 69) rfl)
  have w70 := hw _ (List.mem_of_getElem? (i := 70) rfl)
  have w71 := hw _ (List.mem_of_getElem? (i := 71) rfl)
  refine o_aloadN X0 hx (hb hby d3_0) rfl rfl ?_
  refine o_aloadN X0 hx (hb hby d3_1) rfl rfl ?_
  refine o_acmp X0 hx 7 false rfl rfl (hb hby d3_2) (decide_eq_false fun q => pr8 (Value.ref.inj q)) (by decide) (by decide) ?_
  refine o_aloadN X0 hx (hb hby d3_7) rfl rfl ?_
  obtain ⟨T1, X1, e1, st1⟩ := instY X0 hx hZ hown w67 e0 (Ins.self pr4) (g := (mkF m 8 #[.val (.ref t_), .val (.ref x_), .unset] [(.ref x_)])) rfl rfl (hb hby d3_8)
  refine ogo (S' := T1.setTop (mkF m 11 #[.val (.ref t_), .val (.ref x_), .unset] [(.int (1 : Int32))])) st1 ?_
  refine o_ifNo X1 hx (hb hby d3_11) (feq (by decide : ¬ ((1 : Int32) = (0 : Int32)))).1 ?_
  refine o_aloadN X1 hx (hb hby d3_14) rfl rfl ?_
  obtain ⟨T2, X2, e2, st2⟩ := castY X1 hx hZ hown w67 e1 (Ins.self pr4) (g := (mkF m 15 #[.val (.ref t_), .val (.ref x_), .unset] [(.ref x_)])) rfl rfl (hb hby d3_15)
  refine ogo (S' := T2.setTop (mkF m 18 #[.val (.ref t_), .val (.ref x_), .unset] [(.ref x_)])) st2 ?_
  refine o_astoreN X2 hx (l' := #[.val (.ref t_), .val (.ref x_), .val (.ref x_)]) (hb hby d3_18) rfl rfl ?_
  obtain ⟨T3, X3, e3, st3⟩ := getS2 X2 hx hZ hown (host := "") (Or.inl w21) Via.refl e2 (Sta.ext O0.2 S_CS) (g := (mkF m 19 #[.val (.ref t_), .val (.ref x_), .val (.ref x_)] [])) rfl (hb hby d3_19)
  refine ogo (S' := T3.setTop (mkF m 22 #[.val (.ref t_), .val (.ref x_), .val (.ref x_)] [(.int z_CS)])) st3 ?_
  refine o_ifNo X3 hx (hb hby d3_22) (feq H_CS).1 ?_
  refine o_aloadN X3 hx (hb hby d3_25) rfl rfl ?_
  obtain ⟨T4, X4, e4, st4⟩ := getF X3 hx hZ hown (host := "") (Or.inl w33) Via.refl e3 pr1 (g := (mkF m 26 #[.val (.ref t_), .val (.ref x_), .val (.ref x_)] [(.ref t_)])) rfl rfl (hb hby d3_26)
  refine ogo (S' := T4.setTop (mkF m 29 #[.val (.ref t_), .val (.ref x_), .val (.ref x_)] [(.int (0 : Int32))])) st4 ?_
  refine o_aloadN X4 hx (hb hby d3_29) rfl rfl ?_
  obtain ⟨T5, X5, e5, st5⟩ := getF X4 hx hZ hown (host := "") (Or.inl w33) Via.refl e4 pr5 (g := (mkF m 30 #[.val (.ref t_), .val (.ref x_), .val (.ref x_)] [(.ref x_), (.int (0 : Int32))])) rfl rfl (hb hby d3_30)
  refine ogo (S' := T5.setTop (mkF m 33 #[.val (.ref t_), .val (.ref x_), .val (.ref x_)] [(.int (0 : Int32)), (.int (0 : Int32))])) st5 ?_
  refine o_icmpNo X5 hx (hb hby d3_33) (teq (by decide : (0 : Int32) = (0 : Int32))).2 ?_
  refine o_aloadN X5 hx (hb hby d3_36) rfl rfl ?_
  obtain ⟨T6, X6, e6, st6⟩ := getF X5 hx hZ hown (host := "") (Or.inl w35) Via.refl e5 pr2 (g := (mkF m 37 #[.val (.ref t_), .val (.ref x_), .val (.ref x_)] [(.ref t_)])) rfl rfl (hb hby d3_37)
  refine ogo (S' := T6.setTop (mkF m 40 #[.val (.ref t_), .val (.ref x_), .val (.ref x_)] [(.ref ba_)])) st6 ?_
  refine o_aloadN X6 hx (hb hby d3_40) rfl rfl ?_
  obtain ⟨T7, X7, e7, st7⟩ := getF X6 hx hZ hown (host := "") (Or.inl w35) Via.refl e6 pr6 (g := (mkF m 41 #[.val (.ref t_), .val (.ref x_), .val (.ref x_)] [(.ref x_), (.ref ba_)])) rfl rfl (hb hby d3_41)
  refine ogo (S' := T7.setTop (mkF m 44 #[.val (.ref t_), .val (.ref x_), .val (.ref x_)] [(.ref bb_), (.ref ba_)])) st7 ?_
  obtain ⟨_, _, ⟨T8, L8, kc8, n8⟩, -, X8, ⟨Lc8, hQ8, l8, y8, z8⟩, st8⟩ := Jvm.LawKit.callS X7 hx (y := yM1) hown (mvT hZ w68) (mvT hZ w69) (mvT hZ w70) (mvT hZ w71) (by decide) (backOf (W := 0) (rm_l1eq_102_97_118_102_97_118 l Z a0 hw []  ba_ kb_ bb_ kc_ h0 n0 O0 pr3 pr7) hZ w71 w70 (by decide) (by decide)) (g := (mkF m 44 #[.val (.ref t_), .val (.ref x_), .val (.ref x_)] [(.ref bb_), (.ref ba_)])) rfl (by rw [hml]; rfl) (argsL := [(.ref ba_), (.ref bb_)]) (rest := []) (lenOf own_pd0 rfl) rfl (by show 2 * 0 + _ ≤ _; exact Nat.le_of_eq rfl) (hb hby d3_44) (fun _ _ => ⟨rfl, e7, (by decide : 0 + 0 ≤ _), (by decide : 0 + 0 ≤ _)⟩)
  dsimp only [Pt.U, Pt.locs, Pt.cells, Pt.slots] at X8 l8 y8 z8 st8 hQ8
  subst l8 y8 z8
  obtain ⟨rfl, Nq8, e8⟩ := hQ8
  have N8 := Fr.app N0 Nq8
  refine ogo (S' := T8.setTop (mkF m 47 #[.val (.ref t_), .val (.ref x_), .val (.ref x_)] [(.int (1 : Int32))])) st8 ?_
  refine o_ifNo X8 hx (hb hby d3_47) (feq (by decide : ¬ ((1 : Int32) = (0 : Int32)))).1 ?_
  refine o_iconst X8 hx (1 : Int32) (hb hby d3_50) rfl ?_
  refine o_goto X8 hx 55 (hb hby d3_51) (by decide) (by decide) ?_
  refine oend X8 hlk (v := some (.int (1 : Int32))) (fun h => by rw [hret] at h; cases h) (fun fs hr => retN X8 hx (t := .boolean) hret (by simp) (hb hby d3_55) hr) (by decide) (by decide) ?_
  show own_Q_eq_102_97_118_102_97_118 Z _ _ _ _ _ _ _ _ _ _ _ _ _ _ _ _ _ _ _ _ _ _ _ _ h0 n0 _ T8.heap _
  rw [e8]
  exact ⟨rfl, N8, rfl⟩
theorem d4_34 : decode prog_5_method_6_code 34 = .ok (.iinc 3 1, 3) := by decide +kernel
theorem d4_37 : decode prog_5_method_6_code 37 = .ok (.goto (-28), 3) := by decide +kernel
def own_Q_parse_1 (Z : State) (s_LIKE : Addr) (s_TOGGLE : Addr) (s__VALUES : Addr) (s_FAV : Addr) (s_VIEW : Addr) (s_LIKE_id : Addr) (s_LIKE_id_value : Addr) (s_INCREMENT : Addr) (s_FAV_id : Addr) (s_FAV_id_value : Addr) (s_VIEW_id : Addr) (s_VIEW_id_value : Addr) (k_s__VALUES : ClassId) (k_s_LIKE_id_value : ClassId) (k_s_FAV_id_value : ClassId) (k_s_VIEW_id_value : ClassId) (z_CS : Int32) (v_FMT : Value) (x_ : Addr) (bb_ : Addr) (kc_ : ClassId) (h0 : Heap) (n0 : Nat) (v : Option Value) (h : Heap) (L : List Loc) : Prop := (v = some (.ref s_FAV)) ∧ (Fr n0 L) ∧ (Keep h0 h [])
set_option maxRecDepth 65536 in
set_option maxHeartbeats 40000000 in
theorem rm_parse_1 (l : Launch) (Z : State) (a0 : Array Value) (hw : ∀ d ∈ tables_1, d.before a0 Z = true) (ws : List Jvm.Cond) (s_LIKE : Addr) (s_TOGGLE : Addr) (s__VALUES : Addr) (s_FAV : Addr) (s_VIEW : Addr) (s_LIKE_id : Addr) (s_LIKE_id_value : Addr) (s_INCREMENT : Addr) (s_FAV_id : Addr) (s_FAV_id_value : Addr) (s_VIEW_id : Addr) (s_VIEW_id_value : Addr) (k_s__VALUES : ClassId) (k_s_LIKE_id_value : ClassId) (k_s_FAV_id_value : ClassId) (k_s_VIEW_id_value : ClassId) (z_CS : Int32) (v_FMT : Value) (x_ : Addr) (bb_ : Addr) (kc_ : ClassId) (h0 : Heap) (n0 : Nat) (SB : own_Start Z s_LIKE s_TOGGLE s__VALUES s_FAV s_VIEW s_LIKE_id s_LIKE_id_value s_INCREMENT s_FAV_id s_FAV_id_value s_VIEW_id s_VIEW_id_value k_s__VALUES k_s_LIKE_id_value k_s_FAV_id_value k_s_VIEW_id_value z_CS v_FMT) (O0 : Old Z n0 h0) (pr0 : Exa Z h0 x_ "java/lang/String") (pr1 : Fld Z h0 x_ "java/lang/String" "coder" "B" (.int (0 : Int32))) (pr2 : Fld Z h0 x_ "java/lang/String" "value" "[B" (.ref bb_)) (pr3 : Arv Z h0 bb_ kc_ .byte (3 : Int32) [(.int (102 : Int32)), (.int (97 : Int32)), (.int (118 : Int32))] (.int 0)) (pr4 : n0 ≤ x_) :
    oMet l Z yM3 prog_5_method_6_code 5 (some (.object "com/example/atomic_tally/atomictally/model/Metric")) ws ({ frames := 2, cells := 1, slots := 3, locals := 28 } : Room) 1 3 #[(.ref x_)] h0 (own_Q_parse_1 Z s_LIKE s_TOGGLE s__VALUES s_FAV s_VIEW s_LIKE_id s_LIKE_id_value s_INCREMENT s_FAV_id s_FAV_id_value s_VIEW_id s_VIEW_id_value k_s__VALUES k_s_LIKE_id_value k_s_FAV_id_value k_s_VIEW_id_value z_CS v_FMT x_ bb_ kc_ h0 n0) := by
  refine oenter own_pn0 #[.val (.ref x_), .unset, .unset, .unset, .unset] (fun m => by first | (simp [entryFrame, mkF, argsToLocals, Value.category]; done) | rfl) ?_
  intro p e s m below meth c s₁ X0 hx hZ hby hml hret hown0 hnm hlk e0
  have hown : s.vm.findClass "com/example/atomic_tally/atomictally/model/Metric" = some m.cls := hown0
  have N0 := Fr.nil n0
  obtain ⟨S_s_LIKE, E_s_LIKE, S_s_TOGGLE, E_s_TOGGLE, S_s__VALUES, E_s__VALUES, S_s_FAV, E_s_FAV, S_s_VIEW, E_s_VIEW, F_s_LIKE_id, E_s_LIKE_id, F_s_LIKE_id_value, S_s_INCREMENT, E_s_INCREMENT, F_s_FAV_id, E_s_FAV_id, F_s_FAV_id_value, F_s_VIEW_id, E_s_VIEW_id, F_s_VIEW_id_value, F_s_LIKE_id_coder, F_s_LIKE_kind, F_s_FAV_id_coder, F_s_VIEW_id_coder, F_s_VIEW_kind, F_s_FAV_kind, V_s__VALUES, V_s_LIKE_id_value, V_s_FAV_id_value, V_s_VIEW_id_value, S_CS, H_CS, S_FMT, R_FMT⟩ := (id SB)
  have w3 := hw _ (List.mem_of_getElem? (i := 3) rfl)
  have w10 := hw _ (List.mem_of_getElem? (i := 10) rfl)
  have w43 := hw _ (List.mem_of_getElem? (i := 43) rfl)
  have w44 := hw _ (List.mem_of_getElem? (i := 44) rfl)
  have w45 := hw _ (List.mem_of_getElem? (i := 45) rfl)
  have w60 := hw _ (List.mem_of_getElem? (i := 60) rfl)
  have w62 := hw _ (List.mem_of_getElem? (i := 62) rfl)
  have w63 := hw _ (List.mem_of_getElem? (i := 63) rfl)
  have w64 := hw _ (List.mem_of_getElem? (i := 64) rfl)
  have w65 := hw _ (List.mem_of_getElem? (i := 65) rfl)
  have w66 := hw _ (List.mem_of_getElem? (i := 66) rfl)
  obtain ⟨_, _, ⟨T1, L1, kc1, n1⟩, -, X1, ⟨Lc1, hQ1, l1, y1, z1⟩, st1⟩ := Jvm.LawKit.callS X0 hx (y := yM0) hown (mvT hZ w43) (mvT hZ w44) (mvT hZ w3) (mvT hZ w45) (by decide) (backOf (W := 0) (rm_values l Z a0 hw [] s_LIKE s_TOGGLE s__VALUES s_FAV s_VIEW s_LIKE_id s_LIKE_id_value s_INCREMENT s_FAV_id s_FAV_id_value s_VIEW_id s_VIEW_id_value k_s__VALUES k_s_LIKE_id_value k_s_FAV_id_value k_s_VIEW_id_value z_CS v_FMT  h0 n0 SB O0 ) hZ w45 w3 (by decide) (by decide)) (g := (mkF m 0 #[.val (.ref x_), .unset, .unset, .unset, .unset] [])) rfl (by rw [hml]; rfl) (argsL := []) (rest := []) (lenOf own_pd1 rfl) rfl (by show 2 * 0 + _ ≤ _; exact Nat.le_of_eq rfl) (hb hby d4_0) (fun _ _ => ⟨rfl, e0, (by decide : 0 + 1 ≤ _), (by decide : 0 + 3 ≤ _)⟩)
  dsimp only [Pt.U, Pt.locs, Pt.cells, Pt.slots] at X1 l1 y1 z1 st1 hQ1
  subst l1 y1 z1
  obtain ⟨va_1, rfl, Nq1, K1, p1_0, p1_1, p1_2⟩ := hQ1
  have N1 := Fr.app N0 Nq1
  have n0_va_1 : n0 ≤ va_1 := Nat.le_trans (Nat.le_trans (Nat.le_of_eq O0.1.symm) O0.2.1) (Nat.le_trans (Nat.le_refl _) p1_0)
  refine ogo (S' := T1.setTop (mkF m 3 #[.val (.ref x_), .unset, .unset, .unset, .unset] [(.ref va_1)])) st1 ?_
  refine o_astoreN X1 hx (l' := #[.val (.ref x_), .val (.ref va_1), .unset, .unset, .unset]) (hb hby d4_3) rfl rfl ?_
  refine o_aloadN X1 hx (hb hby d4_4) rfl rfl ?_
  obtain ⟨cl2, Ar2, -, S2, N2z, -, -⟩ := (id p1_1)
  refine ogo (S' := T1.setTop (mkF m 6 #[.val (.ref x_), .val (.ref va_1), .unset, .unset, .unset] [(.int (3 : Int32))])) (fun _ kt_ => X1.arraylength hx Ar2.1 (State.isArrayOf_alike hZ.alike Ar2.2.1) (g := (mkF m 5 #[.val (.ref x_), .val (.ref va_1), .unset, .unset, .unset] [(.ref va_1)])) rfl rfl (hb hby d4_5) _ (by rw [len_of S2 N2z]; exact kt_)) ?_
  refine o_istoreN X1 hx (l' := #[.val (.ref x_), .val (.ref va_1), .val (.int (3 : Int32)), .unset, .unset]) (hb hby d4_6) rfl ?_
  refine o_iconst X1 hx (0 : Int32) (hb hby d4_7) rfl ?_
  refine o_istoreN X1 hx (l' := #[.val (.ref x_), .val (.ref va_1), .val (.int (3 : Int32)), .val (.int (0 : Int32)), .unset]) (hb hby d4_8) rfl ?_
  refine o_iloadN X1 hx (hb hby d4_9) rfl ?_
  refine o_iloadN X1 hx (hb hby d4_10) rfl ?_
  refine o_icmpNo X1 hx (hb hby d4_11) (tlt (by decide : (0 : Int32) < (3 : Int32))).2.1 ?_
  refine o_aloadN X1 hx (hb hby d4_14) rfl rfl ?_
  refine o_iloadN X1 hx (hb hby d4_15) rfl ?_
  obtain ⟨cl3, Ar3, q3, S3, N3z, H3, G3⟩ := (id p1_1)
  have hi3 := inb_of (j := (0 : Int32)) S3 ⟨by decide, by decide⟩
  have ha3 := Has.at (v := (.ref s_LIKE)) H3 hi3 rfl
  refine ogo (S' := T1.setTop (mkF m 17 #[.val (.ref x_), .val (.ref va_1), .val (.int (3 : Int32)), .val (.int (0 : Int32)), .unset] [(.ref s_LIKE)])) (X1.aaload hx (j := (0 : Int32)) (v := (.ref s_LIKE)) Ar3.1 (State.isArrayOf_alike hZ.alike Ar3.2.1) rfl Ar3.2.2 hi3 ha3 (g := (mkF m 16 #[.val (.ref x_), .val (.ref va_1), .val (.int (3 : Int32)), .val (.int (0 : Int32)), .unset] [(.int (0 : Int32)), (.ref va_1)])) rfl rfl (hb hby d4_16)) ?_
  refine o_astore X1 hx (l' := #[.val (.ref x_), .val (.ref va_1), .val (.int (3 : Int32)), .val (.int (0 : Int32)), .val (.ref s_LIKE)]) (hb hby d4_17) rfl rfl ?_
  refine o_aload X1 hx (hb hby d4_19) rfl rfl ?_
  obtain ⟨T4, X4, e4, st4⟩ := getF X1 hx hZ hown (host := "") (Or.inl w60) Via.refl rfl (Fld.ext (O0.keep K1 all0).2 F_s_LIKE_id) (g := (mkF m 21 #[.val (.ref x_), .val (.ref va_1), .val (.int (3 : Int32)), .val (.int (0 : Int32)), .val (.ref s_LIKE)] [(.ref s_LIKE)])) rfl rfl (hb hby d4_21)
  refine ogo (S' := T4.setTop (mkF m 24 #[.val (.ref x_), .val (.ref va_1), .val (.int (3 : Int32)), .val (.int (0 : Int32)), .val (.ref s_LIKE)] [(.ref s_LIKE_id)])) st4 ?_
  refine o_aloadN X4 hx (hb hby d4_24) rfl rfl ?_
  obtain ⟨cq5, kq5, q5a, q5b, q5c⟩ := isOf hZ e4 (Exa.ext (O0.keep K1 all0).2 E_s_LIKE_id)
  obtain ⟨_, _, ⟨T5, L5, kc5, n5⟩, -, X5, ⟨Lc5, hQ5, l5, y5, z5⟩, st5⟩ := X4.virtualBack hx (y := yM2) (z := yM2) hown (mvT hZ w62) (mvT hZ w63) (notFace_of_selects (args := #[]) (mvT hZ w65)) (mvT hZ w65) (mvT hZ w64) (by decide) (backOf (W := 0) (rm_eq_108_105_107_101_102_97_118 l Z a0 hw [] s_LIKE s_TOGGLE s__VALUES s_FAV s_VIEW s_LIKE_id s_LIKE_id_value s_INCREMENT s_FAV_id s_FAV_id_value s_VIEW_id s_VIEW_id_value k_s__VALUES k_s_LIKE_id_value k_s_FAV_id_value k_s_VIEW_id_value z_CS v_FMT s_LIKE_id s_LIKE_id_value k_s_LIKE_id_value x_ bb_ kc_ T1.heap n0 SB (O0.keep K1 all0) (Exa.ext (O0.keep K1 all0).2 E_s_LIKE_id) (Fld.ext (O0.keep K1 all0).2 F_s_LIKE_id_coder) (Fld.ext (O0.keep K1 all0).2 F_s_LIKE_id_value) (V_s_LIKE_id_value.ext (O0.keep K1 all0).2) (pr0.keep K1) (pr1.keep K1 nin0) (pr2.keep K1 nin0) (pr3.keep K1 nin0) (Old.ne (O0.keep K1 all0) E_s_LIKE_id.lt pr4)) hZ w66 w10 (by decide) (by decide)) q5a q5c (g := (mkF m 25 #[.val (.ref x_), .val (.ref va_1), .val (.int (3 : Int32)), .val (.int (0 : Int32)), .val (.ref s_LIKE)] [(.ref x_), (.ref s_LIKE_id)])) rfl (by rw [hml]; rfl) (Steps.refl _) (argsL := [(.ref x_)]) (rest := []) (lenOf own_pd2 rfl) rfl (by show 2 * 0 + _ ≤ _; exact Nat.le_of_eq rfl) (hb hby d4_25) (fun _ _ => ⟨rfl, e4, (by decide : 1 + 0 ≤ _), (by decide : 3 + 0 ≤ _)⟩)
  dsimp only [Pt.U, Pt.locs, Pt.cells, Pt.slots] at X5 l5 y5 z5 st5 hQ5
  subst l5 y5 z5
  obtain ⟨rfl, Nq5, e5⟩ := hQ5
  have N5 := Fr.app N1 Nq5
  refine otr (S' := T5.setTop (mkF m 28 #[.val (.ref x_), .val (.ref va_1), .val (.int (3 : Int32)), .val (.int (0 : Int32)), .val (.ref s_LIKE)] [(.int (0 : Int32))])) st5 ?_
  refine o_ifYes X5 hx 34 (hb hby d4_28) (teq (by decide : (0 : Int32) = (0 : Int32))).1 (by decide) (by decide) ?_
  refine o_iinc X5 hx (l' := #[.val (.ref x_), .val (.ref va_1), .val (.int (3 : Int32)), .val (.int (1 : Int32)), .val (.ref s_LIKE)]) (hb hby d4_34) rfl rfl ?_
  refine o_goto X5 hx 9 (hb hby d4_37) (by decide) (by decide) ?_
  refine o_iloadN X5 hx (hb hby d4_9) rfl ?_
  refine o_iloadN X5 hx (hb hby d4_10) rfl ?_
  refine o_icmpNo X5 hx (hb hby d4_11) (tlt (by decide : (1 : Int32) < (3 : Int32))).2.1 ?_
  refine o_aloadN X5 hx (hb hby d4_14) rfl rfl ?_
  refine o_iloadN X5 hx (hb hby d4_15) rfl ?_
  obtain ⟨cl6, Ar6, q6, S6, N6z, H6, G6⟩ := (id p1_1)
  have hi6 := inb_of (j := (1 : Int32)) S6 ⟨by decide, by decide⟩
  have ha6 := Has.at (v := (.ref s_FAV)) H6 hi6 rfl
  refine ogo (S' := T5.setTop (mkF m 17 #[.val (.ref x_), .val (.ref va_1), .val (.int (3 : Int32)), .val (.int (1 : Int32)), .val (.ref s_LIKE)] [(.ref s_FAV)])) (X5.aaload hx (j := (1 : Int32)) (v := (.ref s_FAV)) (by rw [e5]; exact Ar6.1) (State.isArrayOf_alike hZ.alike Ar6.2.1) rfl Ar6.2.2 hi6 ha6 (g := (mkF m 16 #[.val (.ref x_), .val (.ref va_1), .val (.int (3 : Int32)), .val (.int (1 : Int32)), .val (.ref s_LIKE)] [(.int (1 : Int32)), (.ref va_1)])) rfl rfl (hb hby d4_16)) ?_
  refine o_astore X5 hx (l' := #[.val (.ref x_), .val (.ref va_1), .val (.int (3 : Int32)), .val (.int (1 : Int32)), .val (.ref s_FAV)]) (hb hby d4_17) rfl rfl ?_
  refine o_aload X5 hx (hb hby d4_19) rfl rfl ?_
  obtain ⟨T7, X7, e7, st7⟩ := getF X5 hx hZ hown (host := "") (Or.inl w60) Via.refl e5 (Fld.ext (O0.keep K1 all0).2 F_s_FAV_id) (g := (mkF m 21 #[.val (.ref x_), .val (.ref va_1), .val (.int (3 : Int32)), .val (.int (1 : Int32)), .val (.ref s_FAV)] [(.ref s_FAV)])) rfl rfl (hb hby d4_21)
  refine ogo (S' := T7.setTop (mkF m 24 #[.val (.ref x_), .val (.ref va_1), .val (.int (3 : Int32)), .val (.int (1 : Int32)), .val (.ref s_FAV)] [(.ref s_FAV_id)])) st7 ?_
  refine o_aloadN X7 hx (hb hby d4_24) rfl rfl ?_
  obtain ⟨cq8, kq8, q8a, q8b, q8c⟩ := isOf hZ e7 (Exa.ext (O0.keep K1 all0).2 E_s_FAV_id)
  obtain ⟨_, _, ⟨T8, L8, kc8, n8⟩, -, X8, ⟨Lc8, hQ8, l8, y8, z8⟩, st8⟩ := X7.virtualBack hx (y := yM2) (z := yM2) hown (mvT hZ w62) (mvT hZ w63) (notFace_of_selects (args := #[]) (mvT hZ w65)) (mvT hZ w65) (mvT hZ w64) (by decide) (backOf (W := 0) (rm_eq_102_97_118_102_97_118 l Z a0 hw [] s_LIKE s_TOGGLE s__VALUES s_FAV s_VIEW s_LIKE_id s_LIKE_id_value s_INCREMENT s_FAV_id s_FAV_id_value s_VIEW_id s_VIEW_id_value k_s__VALUES k_s_LIKE_id_value k_s_FAV_id_value k_s_VIEW_id_value z_CS v_FMT s_FAV_id s_FAV_id_value k_s_FAV_id_value x_ bb_ kc_ T1.heap n0 SB (O0.keep K1 all0) (Exa.ext (O0.keep K1 all0).2 E_s_FAV_id) (Fld.ext (O0.keep K1 all0).2 F_s_FAV_id_coder) (Fld.ext (O0.keep K1 all0).2 F_s_FAV_id_value) (V_s_FAV_id_value.ext (O0.keep K1 all0).2) (pr0.keep K1) (pr1.keep K1 nin0) (pr2.keep K1 nin0) (pr3.keep K1 nin0) (Old.ne (O0.keep K1 all0) E_s_FAV_id.lt pr4)) hZ w66 w10 (by decide) (by decide)) q8a q8c (g := (mkF m 25 #[.val (.ref x_), .val (.ref va_1), .val (.int (3 : Int32)), .val (.int (1 : Int32)), .val (.ref s_FAV)] [(.ref x_), (.ref s_FAV_id)])) rfl (by rw [hml]; rfl) (Steps.refl _) (argsL := [(.ref x_)]) (rest := []) (lenOf own_pd2 rfl) rfl (by show 2 * 0 + _ ≤ _; exact Nat.le_of_eq rfl) (hb hby d4_25) (fun _ _ => ⟨rfl, e7, (by decide : 1 + 0 ≤ _), (by decide : 3 + 0 ≤ _)⟩)
  dsimp only [Pt.U, Pt.locs, Pt.cells, Pt.slots] at X8 l8 y8 z8 st8 hQ8
  subst l8 y8 z8
  obtain ⟨rfl, Nq8, e8⟩ := hQ8
  have N8 := Fr.app N5 Nq8
  refine otr (S' := T8.setTop (mkF m 28 #[.val (.ref x_), .val (.ref va_1), .val (.int (3 : Int32)), .val (.int (1 : Int32)), .val (.ref s_FAV)] [(.int (1 : Int32))])) st8 ?_
  refine o_ifNo X8 hx (hb hby d4_28) (feq (by decide : ¬ ((1 : Int32) = (0 : Int32)))).1 ?_
  refine o_aload X8 hx (hb hby d4_31) rfl rfl ?_
  refine oend X8 hlk (v := some (.ref s_FAV)) (fun h => by rw [hret] at h; cases h) (fun fs hr => retOut X8 hx (t := (.object "com/example/atomic_tally/atomictally/model/Metric")) (i := .areturn) hret rfl (Or.inr (Or.inr (Or.inr (Or.inr ⟨rfl, rfl, rfl⟩)))) (hb hby d4_33) hr) (by decide) (by decide) ?_
  show own_Q_parse_1 Z _ _ _ _ _ _ _ _ _ _ _ _ _ _ _ _ _ _ _ _ _ h0 n0 _ T8.heap _
  rw [e8]
  exact ⟨rfl, N8, ((Keep.refl h0 []).trans K1 all0)⟩
theorem d2_24 : decode jdk_43_method_13_code 24 = .ok (.iconst 0, 1) := by decide +kernel
theorem d2_25 : decode jdk_43_method_13_code 25 = .ok (.ireturn, 1) := by decide +kernel
def own_Q_l1eq_108_105_107_101_118_105_101_119 (Z : State)  (ba_ : Addr) (kb_ : ClassId) (bb_ : Addr) (kc_ : ClassId) (h0 : Heap) (n0 : Nat) (v : Option Value) (h : Heap) (L : List Loc) : Prop := (v = some (.int (0 : Int32))) ∧ (Fr n0 L) ∧ (h = h0)
set_option maxRecDepth 65536 in
set_option maxHeartbeats 40000000 in
theorem rm_l1eq_108_105_107_101_118_105_101_119 (l : Launch) (Z : State) (a0 : Array Value) (hw : ∀ d ∈ tables_1, d.before a0 Z = true) (ws : List Jvm.Cond)  (ba_ : Addr) (kb_ : ClassId) (bb_ : Addr) (kc_ : ClassId) (h0 : Heap) (n0 : Nat) (O0 : Old Z n0 h0) (pr0 : Arv Z h0 ba_ kb_ .byte (4 : Int32) [(.int (108 : Int32)), (.int (105 : Int32)), (.int (107 : Int32)), (.int (101 : Int32))] (.int 0)) (pr1 : Arv Z h0 bb_ kc_ .byte (4 : Int32) [(.int (118 : Int32)), (.int (105 : Int32)), (.int (101 : Int32)), (.int (119 : Int32))] (.int 0)) :
    oMet l Z yM1 jdk_43_method_13_code 3 (some .boolean) ws ({ frames := 0, cells := 0, slots := 0, locals := 0 } : Room) 0 0 #[(.ref ba_), (.ref bb_)] h0 (own_Q_l1eq_108_105_107_101_118_105_101_119 Z  ba_ kb_ bb_ kc_ h0 n0) := by
  refine oenter own_pn1 #[.val (.ref ba_), .val (.ref bb_), .unset] (fun m => by first | (simp [entryFrame, mkF, argsToLocals, Value.category]; done) | rfl) ?_
  intro p e s m below meth c s₁ X0 hx hZ hby hml hret hown0 hnm hlk e0
  have hown : s.vm.findClass "java/lang/StringLatin1" = some m.cls := hown0
  have N0 := Fr.nil n0
  refine o_aloadN X0 hx (hb hby d2_0) rfl rfl ?_
  obtain ⟨cl1, Ar1, -, S1, N1z, -, -⟩ := (id pr0)
  refine ogo (S' := s₁.setTop (mkF m 2 #[.val (.ref ba_), .val (.ref bb_), .unset] [(.int (4 : Int32))])) (fun _ kt_ => X0.arraylength hx (by rw [e0]; exact Ar1.1) (State.isArrayOf_alike hZ.alike Ar1.2.1) (g := (mkF m 1 #[.val (.ref ba_), .val (.ref bb_), .unset] [(.ref ba_)])) rfl rfl (hb hby d2_1) _ (by rw [len_of S1 N1z]; exact kt_)) ?_
  refine o_aloadN X0 hx (hb hby d2_2) rfl rfl ?_
  obtain ⟨cl2, Ar2, -, S2, N2z, -, -⟩ := (id pr1)
  refine ogo (S' := s₁.setTop (mkF m 4 #[.val (.ref ba_), .val (.ref bb_), .unset] [(.int (4 : Int32)), (.int (4 : Int32))])) (fun _ kt_ => X0.arraylength hx (by rw [e0]; exact Ar2.1) (State.isArrayOf_alike hZ.alike Ar2.2.1) (g := (mkF m 3 #[.val (.ref ba_), .val (.ref bb_), .unset] [(.ref bb_), (.int (4 : Int32))])) rfl rfl (hb hby d2_3) _ (by rw [len_of S2 N2z]; exact kt_)) ?_
  refine o_icmpNo X0 hx (hb hby d2_4) (teq (by decide : (4 : Int32) = (4 : Int32))).2 ?_
  refine o_iconst X0 hx (0 : Int32) (hb hby d2_7) rfl ?_
  refine o_istoreN X0 hx (l' := #[.val (.ref ba_), .val (.ref bb_), .val (.int (0 : Int32))]) (hb hby d2_8) rfl ?_
  refine o_iloadN X0 hx (hb hby d2_9) rfl ?_
  refine o_aloadN X0 hx (hb hby d2_10) rfl rfl ?_
  obtain ⟨cl3, Ar3, -, S3, N3z, -, -⟩ := (id pr0)
  refine ogo (S' := s₁.setTop (mkF m 12 #[.val (.ref ba_), .val (.ref bb_), .val (.int (0 : Int32))] [(.int (4 : Int32)), (.int (0 : Int32))])) (fun _ kt_ => X0.arraylength hx (by rw [e0]; exact Ar3.1) (State.isArrayOf_alike hZ.alike Ar3.2.1) (g := (mkF m 11 #[.val (.ref ba_), .val (.ref bb_), .val (.int (0 : Int32))] [(.ref ba_), (.int (0 : Int32))])) rfl rfl (hb hby d2_11) _ (by rw [len_of S3 N3z]; exact kt_)) ?_
  refine o_icmpNo X0 hx (hb hby d2_12) (tlt (by decide : (0 : Int32) < (4 : Int32))).2.1 ?_
  refine o_aloadN X0 hx (hb hby d2_15) rfl rfl ?_
  refine o_iloadN X0 hx (hb hby d2_16) rfl ?_
  obtain ⟨cl4, Ar4, q4, S4, N4z, H4, G4⟩ := (id pr0)
  have hi4 := inb_of (j := (0 : Int32)) S4 ⟨by decide, by decide⟩
  have ha4 := Has.at (v := (.int (108 : Int32))) H4 hi4 rfl
  refine ogo (S' := s₁.setTop (mkF m 18 #[.val (.ref ba_), .val (.ref bb_), .val (.int (0 : Int32))] [(.int (108 : Int32))])) (X0.baloadBytes hx (j := (0 : Int32)) (v := (.int (108 : Int32))) (by rw [e0]; exact Ar4.1) (State.isArrayOf_alike hZ.alike Ar4.2.1) Ar4.2.2 hi4 ha4 (g := (mkF m 17 #[.val (.ref ba_), .val (.ref bb_), .val (.int (0 : Int32))] [(.int (0 : Int32)), (.ref ba_)])) rfl rfl (hb hby d2_17)) ?_
  refine o_aloadN X0 hx (hb hby d2_18) rfl rfl ?_
  refine o_iloadN X0 hx (hb hby d2_19) rfl ?_
  obtain ⟨cl5, Ar5, q5, S5, N5z, H5, G5⟩ := (id pr1)
  have hi5 := inb_of (j := (0 : Int32)) S5 ⟨by decide, by decide⟩
  have ha5 := Has.at (v := (.int (118 : Int32))) H5 hi5 rfl
  refine ogo (S' := s₁.setTop (mkF m 21 #[.val (.ref ba_), .val (.ref bb_), .val (.int (0 : Int32))] [(.int (118 : Int32)), (.int (108 : Int32))])) (X0.baloadBytes hx (j := (0 : Int32)) (v := (.int (118 : Int32))) (by rw [e0]; exact Ar5.1) (State.isArrayOf_alike hZ.alike Ar5.2.1) Ar5.2.2 hi5 ha5 (g := (mkF m 20 #[.val (.ref ba_), .val (.ref bb_), .val (.int (0 : Int32))] [(.int (0 : Int32)), (.ref bb_), (.int (108 : Int32))])) rfl rfl (hb hby d2_20)) ?_
  refine o_icmpNo X0 hx (hb hby d2_21) (feq (by decide : ¬ ((108 : Int32) = (118 : Int32)))).1 ?_
  refine o_iconst X0 hx (0 : Int32) (hb hby d2_24) rfl ?_
  refine oend X0 hlk (v := some (.int (0 : Int32))) (fun h => by rw [hret] at h; cases h) (fun fs hr => retN X0 hx (t := .boolean) hret (by simp) (hb hby d2_25) hr) (by decide) (by decide) ?_
  show own_Q_l1eq_108_105_107_101_118_105_101_119 Z _ _ _ _ h0 n0 _ s₁.heap _
  rw [e0]
  exact ⟨rfl, N0, rfl⟩
def own_Q_eq_108_105_107_101_118_105_101_119 (Z : State) (s_LIKE : Addr) (s_TOGGLE : Addr) (s__VALUES : Addr) (s_FAV : Addr) (s_VIEW : Addr) (s_LIKE_id : Addr) (s_LIKE_id_value : Addr) (s_INCREMENT : Addr) (s_FAV_id : Addr) (s_FAV_id_value : Addr) (s_VIEW_id : Addr) (s_VIEW_id_value : Addr) (k_s__VALUES : ClassId) (k_s_LIKE_id_value : ClassId) (k_s_FAV_id_value : ClassId) (k_s_VIEW_id_value : ClassId) (z_CS : Int32) (v_FMT : Value) (t_ : Addr) (ba_ : Addr) (kb_ : ClassId) (x_ : Addr) (bb_ : Addr) (kc_ : ClassId) (h0 : Heap) (n0 : Nat) (v : Option Value) (h : Heap) (L : List Loc) : Prop := (v = some (.int (0 : Int32))) ∧ (Fr n0 L) ∧ (h = h0)
set_option maxRecDepth 65536 in
set_option maxHeartbeats 40000000 in
theorem rm_eq_108_105_107_101_118_105_101_119 (l : Launch) (Z : State) (a0 : Array Value) (hw : ∀ d ∈ tables_1, d.before a0 Z = true) (ws : List Jvm.Cond) (s_LIKE : Addr) (s_TOGGLE : Addr) (s__VALUES : Addr) (s_FAV : Addr) (s_VIEW : Addr) (s_LIKE_id : Addr) (s_LIKE_id_value : Addr) (s_INCREMENT : Addr) (s_FAV_id : Addr) (s_FAV_id_value : Addr) (s_VIEW_id : Addr) (s_VIEW_id_value : Addr) (k_s__VALUES : ClassId) (k_s_LIKE_id_value : ClassId) (k_s_FAV_id_value : ClassId) (k_s_VIEW_id_value : ClassId) (z_CS : Int32) (v_FMT : Value) (t_ : Addr) (ba_ : Addr) (kb_ : ClassId) (x_ : Addr) (bb_ : Addr) (kc_ : ClassId) (h0 : Heap) (n0 : Nat) (SB : own_Start Z s_LIKE s_TOGGLE s__VALUES s_FAV s_VIEW s_LIKE_id s_LIKE_id_value s_INCREMENT s_FAV_id s_FAV_id_value s_VIEW_id s_VIEW_id_value k_s__VALUES k_s_LIKE_id_value k_s_FAV_id_value k_s_VIEW_id_value z_CS v_FMT) (O0 : Old Z n0 h0) (pr0 : Exa Z h0 t_ "java/lang/String") (pr1 : Fld Z h0 t_ "java/lang/String" "coder" "B" (.int (0 : Int32))) (pr2 : Fld Z h0 t_ "java/lang/String" "value" "[B" (.ref ba_)) (pr3 : Arv Z h0 ba_ kb_ .byte (4 : Int32) [(.int (108 : Int32)), (.int (105 : Int32)), (.int (107 : Int32)), (.int (101 : Int32))] (.int 0)) (pr4 : Exa Z h0 x_ "java/lang/String") (pr5 : Fld Z h0 x_ "java/lang/String" "coder" "B" (.int (0 : Int32))) (pr6 : Fld Z h0 x_ "java/lang/String" "value" "[B" (.ref bb_)) (pr7 : Arv Z h0 bb_ kc_ .byte (4 : Int32) [(.int (118 : Int32)), (.int (105 : Int32)), (.int (101 : Int32)), (.int (119 : Int32))] (.int 0)) (pr8 : t_ ≠ x_) :
    oMet l Z yM2 jdk_42_method_66_code 3 (some .boolean) ws ({ frames := 1, cells := 0, slots := 0, locals := 14 } : Room) 0 0 #[(.ref t_), (.ref x_)] h0 (own_Q_eq_108_105_107_101_118_105_101_119 Z s_LIKE s_TOGGLE s__VALUES s_FAV s_VIEW s_LIKE_id s_LIKE_id_value s_INCREMENT s_FAV_id s_FAV_id_value s_VIEW_id s_VIEW_id_value k_s__VALUES k_s_LIKE_id_value k_s_FAV_id_value k_s_VIEW_id_value z_CS v_FMT t_ ba_ kb_ x_ bb_ kc_ h0 n0) := by
  refine oenter own_pn2 #[.val (.ref t_), .val (.ref x_), .unset] (fun m => by first | (simp [entryFrame, mkF, argsToLocals, Value.category]; done) | rfl) ?_
  intro p e s m below meth c s₁ X0 hx hZ hby hml hret hown0 hnm hlk e0
  have hown : s.vm.findClass "java/lang/String" = some m.cls := hown0
  have N0 := Fr.nil n0
  obtain ⟨S_s_LIKE, E_s_LIKE, S_s_TOGGLE, E_s_TOGGLE, S_s__VALUES, E_s__VALUES, S_s_FAV, E_s_FAV, S_s_VIEW, E_s_VIEW, F_s_LIKE_id, E_s_LIKE_id, F_s_LIKE_id_value, S_s_INCREMENT, E_s_INCREMENT, F_s_FAV_id, E_s_FAV_id, F_s_FAV_id_value, F_s_VIEW_id, E_s_VIEW_id, F_s_VIEW_id_value, F_s_LIKE_id_coder, F_s_LIKE_kind, F_s_FAV_id_coder, F_s_VIEW_id_coder, F_s_VIEW_kind, F_s_FAV_kind, V_s__VALUES, V_s_LIKE_id_value, V_s_FAV_id_value, V_s_VIEW_id_value, S_CS, H_CS, S_FMT, R_FMT⟩ := (id SB)
  have w21 := hw _ (List.mem_of_getElem? (i := 21) rfl)
  have w33 := hw _ (List.mem_of_getElem? (i := 33) rfl)
  have w35 := hw _ (List.mem_of_getElem? (i := 35) rfl)
  have w67 := hw _ (List.mem_of_getElem? (i := 67) rfl)
  have w68 := hw _ (List.mem_of_getElem? (i := 68) rfl)
  have w69 := hw _ (List.mem_of_getElem? (i := 69) rfl)
  have w70 := hw _ (List.mem_of_getElem? (i := 70) rfl)
  have w71 := hw _ (List.mem_of_getElem? (i := 71) rfl)
  refine o_aloadN X0 hx (hb hby d3_0) rfl rfl ?_
  refine o_aloadN X0 hx (hb hby d3_1) rfl rfl ?_
  refine o_acmp X0 hx 7 false rfl rfl (hb hby d3_2) (decide_eq_false fun q => pr8 (Value.ref.inj q)) (by decide) (by decide) ?_
  refine o_aloadN X0 hx (hb hby d3_7) rfl rfl ?_
  obtain ⟨T1, X1, e1, st1⟩ := instY X0 hx hZ hown w67 e0 (Ins.self pr4) (g := (mkF m 8 #[.val (.ref t_), .val (.ref x_), .unset] [(.ref x_)])) rfl rfl (hb hby d3_8)
  refine ogo (S' := T1.setTop (mkF m 11 #[.val (.ref t_), .val (.ref x_), .unset] [(.int (1 : Int32))])) st1 ?_
  refine o_ifNo X1 hx (hb hby d3_11) (feq (by decide : ¬ ((1 : Int32) = (0 : Int32)))).1 ?_
  refine o_aloadN X1 hx (hb hby d3_14) rfl rfl ?_
  obtain ⟨T2, X2, e2, st2⟩ := castY X1 hx hZ hown w67 e1 (Ins.self pr4) (g := (mkF m 15 #[.val (.ref t_), .val (.ref x_), .unset] [(.ref x_)])) rfl rfl (hb hby d3_15)
  refine ogo (S' := T2.setTop (mkF m 18 #[.val (.ref t_), .val (.ref x_), .unset] [(.ref x_)])) st2 ?_
  refine o_astoreN X2 hx (l' := #[.val (.ref t_), .val (.ref x_), .val (.ref x_)]) (hb hby d3_18) rfl rfl ?_
  obtain ⟨T3, X3, e3, st3⟩ := getS2 X2 hx hZ hown (host := "") (Or.inl w21) Via.refl e2 (Sta.ext O0.2 S_CS) (g := (mkF m 19 #[.val (.ref t_), .val (.ref x_), .val (.ref x_)] [])) rfl (hb hby d3_19)
  refine ogo (S' := T3.setTop (mkF m 22 #[.val (.ref t_), .val (.ref x_), .val (.ref x_)] [(.int z_CS)])) st3 ?_
  refine o_ifNo X3 hx (hb hby d3_22) (feq H_CS).1 ?_
  refine o_aloadN X3 hx (hb hby d3_25) rfl rfl ?_
  obtain ⟨T4, X4, e4, st4⟩ := getF X3 hx hZ hown (host := "") (Or.inl w33) Via.refl e3 pr1 (g := (mkF m 26 #[.val (.ref t_), .val (.ref x_), .val (.ref x_)] [(.ref t_)])) rfl rfl (hb hby d3_26)
  refine ogo (S' := T4.setTop (mkF m 29 #[.val (.ref t_), .val (.ref x_), .val (.ref x_)] [(.int (0 : Int32))])) st4 ?_
  refine o_aloadN X4 hx (hb hby d3_29) rfl rfl ?_
  obtain ⟨T5, X5, e5, st5⟩ := getF X4 hx hZ hown (host := "") (Or.inl w33) Via.refl e4 pr5 (g := (mkF m 30 #[.val (.ref t_), .val (.ref x_), .val (.ref x_)] [(.ref x_), (.int (0 : Int32))])) rfl rfl (hb hby d3_30)
  refine ogo (S' := T5.setTop (mkF m 33 #[.val (.ref t_), .val (.ref x_), .val (.ref x_)] [(.int (0 : Int32)), (.int (0 : Int32))])) st5 ?_
  refine o_icmpNo X5 hx (hb hby d3_33) (teq (by decide : (0 : Int32) = (0 : Int32))).2 ?_
  refine o_aloadN X5 hx (hb hby d3_36) rfl rfl ?_
  obtain ⟨T6, X6, e6, st6⟩ := getF X5 hx hZ hown (host := "") (Or.inl w35) Via.refl e5 pr2 (g := (mkF m 37 #[.val (.ref t_), .val (.ref x_), .val (.ref x_)] [(.ref t_)])) rfl rfl (hb hby d3_37)
  refine ogo (S' := T6.setTop (mkF m 40 #[.val (.ref t_), .val (.ref x_), .val (.ref x_)] [(.ref ba_)])) st6 ?_
  refine o_aloadN X6 hx (hb hby d3_40) rfl rfl ?_
  obtain ⟨T7, X7, e7, st7⟩ := getF X6 hx hZ hown (host := "") (Or.inl w35) Via.refl e6 pr6 (g := (mkF m 41 #[.val (.ref t_), .val (.ref x_), .val (.ref x_)] [(.ref x_), (.ref ba_)])) rfl rfl (hb hby d3_41)
  refine ogo (S' := T7.setTop (mkF m 44 #[.val (.ref t_), .val (.ref x_), .val (.ref x_)] [(.ref bb_), (.ref ba_)])) st7 ?_
  obtain ⟨_, _, ⟨T8, L8, kc8, n8⟩, -, X8, ⟨Lc8, hQ8, l8, y8, z8⟩, st8⟩ := Jvm.LawKit.callS X7 hx (y := yM1) hown (mvT hZ w68) (mvT hZ w69) (mvT hZ w70) (mvT hZ w71) (by decide) (backOf (W := 0) (rm_l1eq_108_105_107_101_118_105_101_119 l Z a0 hw []  ba_ kb_ bb_ kc_ h0 n0 O0 pr3 pr7) hZ w71 w70 (by decide) (by decide)) (g := (mkF m 44 #[.val (.ref t_), .val (.ref x_), .val (.ref x_)] [(.ref bb_), (.ref ba_)])) rfl (by rw [hml]; rfl) (argsL := [(.ref ba_), (.ref bb_)]) (rest := []) (lenOf own_pd0 rfl) rfl (by show 2 * 0 + _ ≤ _; exact Nat.le_of_eq rfl) (hb hby d3_44) (fun _ _ => ⟨rfl, e7, (by decide : 0 + 0 ≤ _), (by decide : 0 + 0 ≤ _)⟩)
  dsimp only [Pt.U, Pt.locs, Pt.cells, Pt.slots] at X8 l8 y8 z8 st8 hQ8
  subst l8 y8 z8
  obtain ⟨rfl, Nq8, e8⟩ := hQ8
  have N8 := Fr.app N0 Nq8
  refine ogo (S' := T8.setTop (mkF m 47 #[.val (.ref t_), .val (.ref x_), .val (.ref x_)] [(.int (0 : Int32))])) st8 ?_
  refine o_ifYes X8 hx 54 (hb hby d3_47) (teq (by decide : (0 : Int32) = (0 : Int32))).1 (by decide) (by decide) ?_
  refine o_iconst X8 hx (0 : Int32) (hb hby d3_54) rfl ?_
  refine oend X8 hlk (v := some (.int (0 : Int32))) (fun h => by rw [hret] at h; cases h) (fun fs hr => retN X8 hx (t := .boolean) hret (by simp) (hb hby d3_55) hr) (by decide) (by decide) ?_
  show own_Q_eq_108_105_107_101_118_105_101_119 Z _ _ _ _ _ _ _ _ _ _ _ _ _ _ _ _ _ _ _ _ _ _ _ _ h0 n0 _ T8.heap _
  rw [e8]
  exact ⟨rfl, N8, rfl⟩
def own_Q_l1eq_102_97_118_118_105_101_119 (Z : State)  (ba_ : Addr) (kb_ : ClassId) (bb_ : Addr) (kc_ : ClassId) (h0 : Heap) (n0 : Nat) (v : Option Value) (h : Heap) (L : List Loc) : Prop := (v = some (.int (0 : Int32))) ∧ (Fr n0 L) ∧ (h = h0)
set_option maxRecDepth 65536 in
set_option maxHeartbeats 40000000 in
theorem rm_l1eq_102_97_118_118_105_101_119 (l : Launch) (Z : State) (a0 : Array Value) (hw : ∀ d ∈ tables_1, d.before a0 Z = true) (ws : List Jvm.Cond)  (ba_ : Addr) (kb_ : ClassId) (bb_ : Addr) (kc_ : ClassId) (h0 : Heap) (n0 : Nat) (O0 : Old Z n0 h0) (pr0 : Arv Z h0 ba_ kb_ .byte (3 : Int32) [(.int (102 : Int32)), (.int (97 : Int32)), (.int (118 : Int32))] (.int 0)) (pr1 : Arv Z h0 bb_ kc_ .byte (4 : Int32) [(.int (118 : Int32)), (.int (105 : Int32)), (.int (101 : Int32)), (.int (119 : Int32))] (.int 0)) :
    oMet l Z yM1 jdk_43_method_13_code 3 (some .boolean) ws ({ frames := 0, cells := 0, slots := 0, locals := 0 } : Room) 0 0 #[(.ref ba_), (.ref bb_)] h0 (own_Q_l1eq_102_97_118_118_105_101_119 Z  ba_ kb_ bb_ kc_ h0 n0) := by
  refine oenter own_pn1 #[.val (.ref ba_), .val (.ref bb_), .unset] (fun m => by first | (simp [entryFrame, mkF, argsToLocals, Value.category]; done) | rfl) ?_
  intro p e s m below meth c s₁ X0 hx hZ hby hml hret hown0 hnm hlk e0
  have hown : s.vm.findClass "java/lang/StringLatin1" = some m.cls := hown0
  have N0 := Fr.nil n0
  refine o_aloadN X0 hx (hb hby d2_0) rfl rfl ?_
  obtain ⟨cl1, Ar1, -, S1, N1z, -, -⟩ := (id pr0)
  refine ogo (S' := s₁.setTop (mkF m 2 #[.val (.ref ba_), .val (.ref bb_), .unset] [(.int (3 : Int32))])) (fun _ kt_ => X0.arraylength hx (by rw [e0]; exact Ar1.1) (State.isArrayOf_alike hZ.alike Ar1.2.1) (g := (mkF m 1 #[.val (.ref ba_), .val (.ref bb_), .unset] [(.ref ba_)])) rfl rfl (hb hby d2_1) _ (by rw [len_of S1 N1z]; exact kt_)) ?_
  refine o_aloadN X0 hx (hb hby d2_2) rfl rfl ?_
  obtain ⟨cl2, Ar2, -, S2, N2z, -, -⟩ := (id pr1)
  refine ogo (S' := s₁.setTop (mkF m 4 #[.val (.ref ba_), .val (.ref bb_), .unset] [(.int (4 : Int32)), (.int (3 : Int32))])) (fun _ kt_ => X0.arraylength hx (by rw [e0]; exact Ar2.1) (State.isArrayOf_alike hZ.alike Ar2.2.1) (g := (mkF m 3 #[.val (.ref ba_), .val (.ref bb_), .unset] [(.ref bb_), (.int (3 : Int32))])) rfl rfl (hb hby d2_3) _ (by rw [len_of S2 N2z]; exact kt_)) ?_
  refine o_icmpYes X0 hx 34 (hb hby d2_4) (feq (by decide : ¬ ((3 : Int32) = (4 : Int32)))).2 (by decide) (by decide) ?_
  refine o_iconst X0 hx (0 : Int32) (hb hby d2_34) rfl ?_
  refine oend X0 hlk (v := some (.int (0 : Int32))) (fun h => by rw [hret] at h; cases h) (fun fs hr => retN X0 hx (t := .boolean) hret (by simp) (hb hby d2_35) hr) (by decide) (by decide) ?_
  show own_Q_l1eq_102_97_118_118_105_101_119 Z _ _ _ _ h0 n0 _ s₁.heap _
  rw [e0]
  exact ⟨rfl, N0, rfl⟩
def own_Q_eq_102_97_118_118_105_101_119 (Z : State) (s_LIKE : Addr) (s_TOGGLE : Addr) (s__VALUES : Addr) (s_FAV : Addr) (s_VIEW : Addr) (s_LIKE_id : Addr) (s_LIKE_id_value : Addr) (s_INCREMENT : Addr) (s_FAV_id : Addr) (s_FAV_id_value : Addr) (s_VIEW_id : Addr) (s_VIEW_id_value : Addr) (k_s__VALUES : ClassId) (k_s_LIKE_id_value : ClassId) (k_s_FAV_id_value : ClassId) (k_s_VIEW_id_value : ClassId) (z_CS : Int32) (v_FMT : Value) (t_ : Addr) (ba_ : Addr) (kb_ : ClassId) (x_ : Addr) (bb_ : Addr) (kc_ : ClassId) (h0 : Heap) (n0 : Nat) (v : Option Value) (h : Heap) (L : List Loc) : Prop := (v = some (.int (0 : Int32))) ∧ (Fr n0 L) ∧ (h = h0)
set_option maxRecDepth 65536 in
set_option maxHeartbeats 40000000 in
theorem rm_eq_102_97_118_118_105_101_119 (l : Launch) (Z : State) (a0 : Array Value) (hw : ∀ d ∈ tables_1, d.before a0 Z = true) (ws : List Jvm.Cond) (s_LIKE : Addr) (s_TOGGLE : Addr) (s__VALUES : Addr) (s_FAV : Addr) (s_VIEW : Addr) (s_LIKE_id : Addr) (s_LIKE_id_value : Addr) (s_INCREMENT : Addr) (s_FAV_id : Addr) (s_FAV_id_value : Addr) (s_VIEW_id : Addr) (s_VIEW_id_value : Addr) (k_s__VALUES : ClassId) (k_s_LIKE_id_value : ClassId) (k_s_FAV_id_value : ClassId) (k_s_VIEW_id_value : ClassId) (z_CS : Int32) (v_FMT : Value) (t_ : Addr) (ba_ : Addr) (kb_ : ClassId) (x_ : Addr) (bb_ : Addr) (kc_ : ClassId) (h0 : Heap) (n0 : Nat) (SB : own_Start Z s_LIKE s_TOGGLE s__VALUES s_FAV s_VIEW s_LIKE_id s_LIKE_id_value s_INCREMENT s_FAV_id s_FAV_id_value s_VIEW_id s_VIEW_id_value k_s__VALUES k_s_LIKE_id_value k_s_FAV_id_value k_s_VIEW_id_value z_CS v_FMT) (O0 : Old Z n0 h0) (pr0 : Exa Z h0 t_ "java/lang/String") (pr1 : Fld Z h0 t_ "java/lang/String" "coder" "B" (.int (0 : Int32))) (pr2 : Fld Z h0 t_ "java/lang/String" "value" "[B" (.ref ba_)) (pr3 : Arv Z h0 ba_ kb_ .byte (3 : Int32) [(.int (102 : Int32)), (.int (97 : Int32)), (.int (118 : Int32))] (.int 0)) (pr4 : Exa Z h0 x_ "java/lang/String") (pr5 : Fld Z h0 x_ "java/lang/String" "coder" "B" (.int (0 : Int32))) (pr6 : Fld Z h0 x_ "java/lang/String" "value" "[B" (.ref bb_)) (pr7 : Arv Z h0 bb_ kc_ .byte (4 : Int32) [(.int (118 : Int32)), (.int (105 : Int32)), (.int (101 : Int32)), (.int (119 : Int32))] (.int 0)) (pr8 : t_ ≠ x_) :
    oMet l Z yM2 jdk_42_method_66_code 3 (some .boolean) ws ({ frames := 1, cells := 0, slots := 0, locals := 14 } : Room) 0 0 #[(.ref t_), (.ref x_)] h0 (own_Q_eq_102_97_118_118_105_101_119 Z s_LIKE s_TOGGLE s__VALUES s_FAV s_VIEW s_LIKE_id s_LIKE_id_value s_INCREMENT s_FAV_id s_FAV_id_value s_VIEW_id s_VIEW_id_value k_s__VALUES k_s_LIKE_id_value k_s_FAV_id_value k_s_VIEW_id_value z_CS v_FMT t_ ba_ kb_ x_ bb_ kc_ h0 n0) := by
  refine oenter own_pn2 #[.val (.ref t_), .val (.ref x_), .unset] (fun m => by first | (simp [entryFrame, mkF, argsToLocals, Value.category]; done) | rfl) ?_
  intro p e s m below meth c s₁ X0 hx hZ hby hml hret hown0 hnm hlk e0
  have hown : s.vm.findClass "java/lang/String" = some m.cls := hown0
  have N0 := Fr.nil n0
  obtain ⟨S_s_LIKE, E_s_LIKE, S_s_TOGGLE, E_s_TOGGLE, S_s__VALUES, E_s__VALUES, S_s_FAV, E_s_FAV, S_s_VIEW, E_s_VIEW, F_s_LIKE_id, E_s_LIKE_id, F_s_LIKE_id_value, S_s_INCREMENT, E_s_INCREMENT, F_s_FAV_id, E_s_FAV_id, F_s_FAV_id_value, F_s_VIEW_id, E_s_VIEW_id, F_s_VIEW_id_value, F_s_LIKE_id_coder, F_s_LIKE_kind, F_s_FAV_id_coder, F_s_VIEW_id_coder, F_s_VIEW_kind, F_s_FAV_kind, V_s__VALUES, V_s_LIKE_id_value, V_s_FAV_id_value, V_s_VIEW_id_value, S_CS, H_CS, S_FMT, R_FMT⟩ := (id SB)
  have w21 := hw _ (List.mem_of_getElem? (i := 21) rfl)
  have w33 := hw _ (List.mem_of_getElem? (i := 33) rfl)
  have w35 := hw _ (List.mem_of_getElem? (i := 35) rfl)
  have w67 := hw _ (List.mem_of_getElem? (i := 67) rfl)
  have w68 := hw _ (List.mem_of_getElem? (i := 68) rfl)
  have w69 := hw _ (List.mem_of_getElem? (i := 69) rfl)
  have w70 := hw _ (List.mem_of_getElem? (i := 70) rfl)
  have w71 := hw _ (List.mem_of_getElem? (i := 71) rfl)
  refine o_aloadN X0 hx (hb hby d3_0) rfl rfl ?_
  refine o_aloadN X0 hx (hb hby d3_1) rfl rfl ?_
  refine o_acmp X0 hx 7 false rfl rfl (hb hby d3_2) (decide_eq_false fun q => pr8 (Value.ref.inj q)) (by decide) (by decide) ?_
  refine o_aloadN X0 hx (hb hby d3_7) rfl rfl ?_
  obtain ⟨T1, X1, e1, st1⟩ := instY X0 hx hZ hown w67 e0 (Ins.self pr4) (g := (mkF m 8 #[.val (.ref t_), .val (.ref x_), .unset] [(.ref x_)])) rfl rfl (hb hby d3_8)
  refine ogo (S' := T1.setTop (mkF m 11 #[.val (.ref t_), .val (.ref x_), .unset] [(.int (1 : Int32))])) st1 ?_
  refine o_ifNo X1 hx (hb hby d3_11) (feq (by decide : ¬ ((1 : Int32) = (0 : Int32)))).1 ?_
  refine o_aloadN X1 hx (hb hby d3_14) rfl rfl ?_
  obtain ⟨T2, X2, e2, st2⟩ := castY X1 hx hZ hown w67 e1 (Ins.self pr4) (g := (mkF m 15 #[.val (.ref t_), .val (.ref x_), .unset] [(.ref x_)])) rfl rfl (hb hby d3_15)
  refine ogo (S' := T2.setTop (mkF m 18 #[.val (.ref t_), .val (.ref x_), .unset] [(.ref x_)])) st2 ?_
  refine o_astoreN X2 hx (l' := #[.val (.ref t_), .val (.ref x_), .val (.ref x_)]) (hb hby d3_18) rfl rfl ?_
  obtain ⟨T3, X3, e3, st3⟩ := getS2 X2 hx hZ hown (host := "") (Or.inl w21) Via.refl e2 (Sta.ext O0.2 S_CS) (g := (mkF m 19 #[.val (.ref t_), .val (.ref x_), .val (.ref x_)] [])) rfl (hb hby d3_19)
  refine ogo (S' := T3.setTop (mkF m 22 #[.val (.ref t_), .val (.ref x_), .val (.ref x_)] [(.int z_CS)])) st3 ?_
  refine o_ifNo X3 hx (hb hby d3_22) (feq H_CS).1 ?_
  refine o_aloadN X3 hx (hb hby d3_25) rfl rfl ?_
  obtain ⟨T4, X4, e4, st4⟩ := getF X3 hx hZ hown (host := "") (Or.inl w33) Via.refl e3 pr1 (g := (mkF m 26 #[.val (.ref t_), .val (.ref x_), .val (.ref x_)] [(.ref t_)])) rfl rfl (hb hby d3_26)
  refine ogo (S' := T4.setTop (mkF m 29 #[.val (.ref t_), .val (.ref x_), .val (.ref x_)] [(.int (0 : Int32))])) st4 ?_
  refine o_aloadN X4 hx (hb hby d3_29) rfl rfl ?_
  obtain ⟨T5, X5, e5, st5⟩ := getF X4 hx hZ hown (host := "") (Or.inl w33) Via.refl e4 pr5 (g := (mkF m 30 #[.val (.ref t_), .val (.ref x_), .val (.ref x_)] [(.ref x_), (.int (0 : Int32))])) rfl rfl (hb hby d3_30)
  refine ogo (S' := T5.setTop (mkF m 33 #[.val (.ref t_), .val (.ref x_), .val (.ref x_)] [(.int (0 : Int32)), (.int (0 : Int32))])) st5 ?_
  refine o_icmpNo X5 hx (hb hby d3_33) (teq (by decide : (0 : Int32) = (0 : Int32))).2 ?_
  refine o_aloadN X5 hx (hb hby d3_36) rfl rfl ?_
  obtain ⟨T6, X6, e6, st6⟩ := getF X5 hx hZ hown (host := "") (Or.inl w35) Via.refl e5 pr2 (g := (mkF m 37 #[.val (.ref t_), .val (.ref x_), .val (.ref x_)] [(.ref t_)])) rfl rfl (hb hby d3_37)
  refine ogo (S' := T6.setTop (mkF m 40 #[.val (.ref t_), .val (.ref x_), .val (.ref x_)] [(.ref ba_)])) st6 ?_
  refine o_aloadN X6 hx (hb hby d3_40) rfl rfl ?_
  obtain ⟨T7, X7, e7, st7⟩ := getF X6 hx hZ hown (host := "") (Or.inl w35) Via.refl e6 pr6 (g := (mkF m 41 #[.val (.ref t_), .val (.ref x_), .val (.ref x_)] [(.ref x_), (.ref ba_)])) rfl rfl (hb hby d3_41)
  refine ogo (S' := T7.setTop (mkF m 44 #[.val (.ref t_), .val (.ref x_), .val (.ref x_)] [(.ref bb_), (.ref ba_)])) st7 ?_
  obtain ⟨_, _, ⟨T8, L8, kc8, n8⟩, -, X8, ⟨Lc8, hQ8, l8, y8, z8⟩, st8⟩ := Jvm.LawKit.callS X7 hx (y := yM1) hown (mvT hZ w68) (mvT hZ w69) (mvT hZ w70) (mvT hZ w71) (by decide) (backOf (W := 0) (rm_l1eq_102_97_118_118_105_101_119 l Z a0 hw []  ba_ kb_ bb_ kc_ h0 n0 O0 pr3 pr7) hZ w71 w70 (by decide) (by decide)) (g := (mkF m 44 #[.val (.ref t_), .val (.ref x_), .val (.ref x_)] [(.ref bb_), (.ref ba_)])) rfl (by rw [hml]; rfl) (argsL := [(.ref ba_), (.ref bb_)]) (rest := []) (lenOf own_pd0 rfl) rfl (by show 2 * 0 + _ ≤ _; exact Nat.le_of_eq rfl) (hb hby d3_44) (fun _ _ => ⟨rfl, e7, (by decide : 0 + 0 ≤ _), (by decide : 0 + 0 ≤ _)⟩)
  dsimp only [Pt.U, Pt.locs, Pt.cells, Pt.slots] at X8 l8 y8 z8 st8 hQ8
  subst l8 y8 z8
  obtain ⟨rfl, Nq8, e8⟩ := hQ8
  have N8 := Fr.app N0 Nq8
  refine ogo (S' := T8.setTop (mkF m 47 #[.val (.ref t_), .val (.ref x_), .val (.ref x_)] [(.int (0 : Int32))])) st8 ?_
  refine o_ifYes X8 hx 54 (hb hby d3_47) (teq (by decide : (0 : Int32) = (0 : Int32))).1 (by decide) (by decide) ?_
  refine o_iconst X8 hx (0 : Int32) (hb hby d3_54) rfl ?_
  refine oend X8 hlk (v := some (.int (0 : Int32))) (fun h => by rw [hret] at h; cases h) (fun fs hr => retN X8 hx (t := .boolean) hret (by simp) (hb hby d3_55) hr) (by decide) (by decide) ?_
  show own_Q_eq_102_97_118_118_105_101_119 Z _ _ _ _ _ _ _ _ _ _ _ _ _ _ _ _ _ _ _ _ _ _ _ _ h0 n0 _ T8.heap _
  rw [e8]
  exact ⟨rfl, N8, rfl⟩
def own_Q_l1eq_118_105_101_119_118_105_101_119 (Z : State)  (ba_ : Addr) (kb_ : ClassId) (bb_ : Addr) (kc_ : ClassId) (h0 : Heap) (n0 : Nat) (v : Option Value) (h : Heap) (L : List Loc) : Prop := (v = some (.int (1 : Int32))) ∧ (Fr n0 L) ∧ (h = h0)
set_option maxRecDepth 65536 in
set_option maxHeartbeats 40000000 in
theorem rm_l1eq_118_105_101_119_118_105_101_119 (l : Launch) (Z : State) (a0 : Array Value) (hw : ∀ d ∈ tables_1, d.before a0 Z = true) (ws : List Jvm.Cond)  (ba_ : Addr) (kb_ : ClassId) (bb_ : Addr) (kc_ : ClassId) (h0 : Heap) (n0 : Nat) (O0 : Old Z n0 h0) (pr0 : Arv Z h0 ba_ kb_ .byte (4 : Int32) [(.int (118 : Int32)), (.int (105 : Int32)), (.int (101 : Int32)), (.int (119 : Int32))] (.int 0)) (pr1 : Arv Z h0 bb_ kc_ .byte (4 : Int32) [(.int (118 : Int32)), (.int (105 : Int32)), (.int (101 : Int32)), (.int (119 : Int32))] (.int 0)) :
    oMet l Z yM1 jdk_43_method_13_code 3 (some .boolean) ws ({ frames := 0, cells := 0, slots := 0, locals := 0 } : Room) 0 0 #[(.ref ba_), (.ref bb_)] h0 (own_Q_l1eq_118_105_101_119_118_105_101_119 Z  ba_ kb_ bb_ kc_ h0 n0) := by
  refine oenter own_pn1 #[.val (.ref ba_), .val (.ref bb_), .unset] (fun m => by first | (simp [entryFrame, mkF, argsToLocals, Value.category]; done) | rfl) ?_
  intro p e s m below meth c s₁ X0 hx hZ hby hml hret hown0 hnm hlk e0
  have hown : s.vm.findClass "java/lang/StringLatin1" = some m.cls := hown0
  have N0 := Fr.nil n0
  refine o_aloadN X0 hx (hb hby d2_0) rfl rfl ?_
  obtain ⟨cl1, Ar1, -, S1, N1z, -, -⟩ := (id pr0)
  refine ogo (S' := s₁.setTop (mkF m 2 #[.val (.ref ba_), .val (.ref bb_), .unset] [(.int (4 : Int32))])) (fun _ kt_ => X0.arraylength hx (by rw [e0]; exact Ar1.1) (State.isArrayOf_alike hZ.alike Ar1.2.1) (g := (mkF m 1 #[.val (.ref ba_), .val (.ref bb_), .unset] [(.ref ba_)])) rfl rfl (hb hby d2_1) _ (by rw [len_of S1 N1z]; exact kt_)) ?_
  refine o_aloadN X0 hx (hb hby d2_2) rfl rfl ?_
  obtain ⟨cl2, Ar2, -, S2, N2z, -, -⟩ := (id pr1)
  refine ogo (S' := s₁.setTop (mkF m 4 #[.val (.ref ba_), .val (.ref bb_), .unset] [(.int (4 : Int32)), (.int (4 : Int32))])) (fun _ kt_ => X0.arraylength hx (by rw [e0]; exact Ar2.1) (State.isArrayOf_alike hZ.alike Ar2.2.1) (g := (mkF m 3 #[.val (.ref ba_), .val (.ref bb_), .unset] [(.ref bb_), (.int (4 : Int32))])) rfl rfl (hb hby d2_3) _ (by rw [len_of S2 N2z]; exact kt_)) ?_
  refine o_icmpNo X0 hx (hb hby d2_4) (teq (by decide : (4 : Int32) = (4 : Int32))).2 ?_
  refine o_iconst X0 hx (0 : Int32) (hb hby d2_7) rfl ?_
  refine o_istoreN X0 hx (l' := #[.val (.ref ba_), .val (.ref bb_), .val (.int (0 : Int32))]) (hb hby d2_8) rfl ?_
  refine o_iloadN X0 hx (hb hby d2_9) rfl ?_
  refine o_aloadN X0 hx (hb hby d2_10) rfl rfl ?_
  obtain ⟨cl3, Ar3, -, S3, N3z, -, -⟩ := (id pr0)
  refine ogo (S' := s₁.setTop (mkF m 12 #[.val (.ref ba_), .val (.ref bb_), .val (.int (0 : Int32))] [(.int (4 : Int32)), (.int (0 : Int32))])) (fun _ kt_ => X0.arraylength hx (by rw [e0]; exact Ar3.1) (State.isArrayOf_alike hZ.alike Ar3.2.1) (g := (mkF m 11 #[.val (.ref ba_), .val (.ref bb_), .val (.int (0 : Int32))] [(.ref ba_), (.int (0 : Int32))])) rfl rfl (hb hby d2_11) _ (by rw [len_of S3 N3z]; exact kt_)) ?_
  refine o_icmpNo X0 hx (hb hby d2_12) (tlt (by decide : (0 : Int32) < (4 : Int32))).2.1 ?_
  refine o_aloadN X0 hx (hb hby d2_15) rfl rfl ?_
  refine o_iloadN X0 hx (hb hby d2_16) rfl ?_
  obtain ⟨cl4, Ar4, q4, S4, N4z, H4, G4⟩ := (id pr0)
  have hi4 := inb_of (j := (0 : Int32)) S4 ⟨by decide, by decide⟩
  have ha4 := Has.at (v := (.int (118 : Int32))) H4 hi4 rfl
  refine ogo (S' := s₁.setTop (mkF m 18 #[.val (.ref ba_), .val (.ref bb_), .val (.int (0 : Int32))] [(.int (118 : Int32))])) (X0.baloadBytes hx (j := (0 : Int32)) (v := (.int (118 : Int32))) (by rw [e0]; exact Ar4.1) (State.isArrayOf_alike hZ.alike Ar4.2.1) Ar4.2.2 hi4 ha4 (g := (mkF m 17 #[.val (.ref ba_), .val (.ref bb_), .val (.int (0 : Int32))] [(.int (0 : Int32)), (.ref ba_)])) rfl rfl (hb hby d2_17)) ?_
  refine o_aloadN X0 hx (hb hby d2_18) rfl rfl ?_
  refine o_iloadN X0 hx (hb hby d2_19) rfl ?_
  obtain ⟨cl5, Ar5, q5, S5, N5z, H5, G5⟩ := (id pr1)
  have hi5 := inb_of (j := (0 : Int32)) S5 ⟨by decide, by decide⟩
  have ha5 := Has.at (v := (.int (118 : Int32))) H5 hi5 rfl
  refine ogo (S' := s₁.setTop (mkF m 21 #[.val (.ref ba_), .val (.ref bb_), .val (.int (0 : Int32))] [(.int (118 : Int32)), (.int (118 : Int32))])) (X0.baloadBytes hx (j := (0 : Int32)) (v := (.int (118 : Int32))) (by rw [e0]; exact Ar5.1) (State.isArrayOf_alike hZ.alike Ar5.2.1) Ar5.2.2 hi5 ha5 (g := (mkF m 20 #[.val (.ref ba_), .val (.ref bb_), .val (.int (0 : Int32))] [(.int (0 : Int32)), (.ref bb_), (.int (118 : Int32))])) rfl rfl (hb hby d2_20)) ?_
  refine o_icmpYes X0 hx 26 (hb hby d2_21) (teq (by decide : (118 : Int32) = (118 : Int32))).1 (by decide) (by decide) ?_
  refine o_iinc X0 hx (l' := #[.val (.ref ba_), .val (.ref bb_), .val (.int (1 : Int32))]) (hb hby d2_26) rfl rfl ?_
  refine o_goto X0 hx 9 (hb hby d2_29) (by decide) (by decide) ?_
  refine o_iloadN X0 hx (hb hby d2_9) rfl ?_
  refine o_aloadN X0 hx (hb hby d2_10) rfl rfl ?_
  obtain ⟨cl6, Ar6, -, S6, N6z, -, -⟩ := (id pr0)
  refine ogo (S' := s₁.setTop (mkF m 12 #[.val (.ref ba_), .val (.ref bb_), .val (.int (1 : Int32))] [(.int (4 : Int32)), (.int (1 : Int32))])) (fun _ kt_ => X0.arraylength hx (by rw [e0]; exact Ar6.1) (State.isArrayOf_alike hZ.alike Ar6.2.1) (g := (mkF m 11 #[.val (.ref ba_), .val (.ref bb_), .val (.int (1 : Int32))] [(.ref ba_), (.int (1 : Int32))])) rfl rfl (hb hby d2_11) _ (by rw [len_of S6 N6z]; exact kt_)) ?_
  refine o_icmpNo X0 hx (hb hby d2_12) (tlt (by decide : (1 : Int32) < (4 : Int32))).2.1 ?_
  refine o_aloadN X0 hx (hb hby d2_15) rfl rfl ?_
  refine o_iloadN X0 hx (hb hby d2_16) rfl ?_
  obtain ⟨cl7, Ar7, q7, S7, N7z, H7, G7⟩ := (id pr0)
  have hi7 := inb_of (j := (1 : Int32)) S7 ⟨by decide, by decide⟩
  have ha7 := Has.at (v := (.int (105 : Int32))) H7 hi7 rfl
  refine ogo (S' := s₁.setTop (mkF m 18 #[.val (.ref ba_), .val (.ref bb_), .val (.int (1 : Int32))] [(.int (105 : Int32))])) (X0.baloadBytes hx (j := (1 : Int32)) (v := (.int (105 : Int32))) (by rw [e0]; exact Ar7.1) (State.isArrayOf_alike hZ.alike Ar7.2.1) Ar7.2.2 hi7 ha7 (g := (mkF m 17 #[.val (.ref ba_), .val (.ref bb_), .val (.int (1 : Int32))] [(.int (1 : Int32)), (.ref ba_)])) rfl rfl (hb hby d2_17)) ?_
  refine o_aloadN X0 hx (hb hby d2_18) rfl rfl ?_
  refine o_iloadN X0 hx (hb hby d2_19) rfl ?_
  obtain ⟨cl8, Ar8, q8, S8, N8z, H8, G8⟩ := (id pr1)
  have hi8 := inb_of (j := (1 : Int32)) S8 ⟨by decide, by decide⟩
  have ha8 := Has.at (v := (.int (105 : Int32))) H8 hi8 rfl
  refine ogo (S' := s₁.setTop (mkF m 21 #[.val (.ref ba_), .val (.ref bb_), .val (.int (1 : Int32))] [(.int (105 : Int32)), (.int (105 : Int32))])) (X0.baloadBytes hx (j := (1 : Int32)) (v := (.int (105 : Int32))) (by rw [e0]; exact Ar8.1) (State.isArrayOf_alike hZ.alike Ar8.2.1) Ar8.2.2 hi8 ha8 (g := (mkF m 20 #[.val (.ref ba_), .val (.ref bb_), .val (.int (1 : Int32))] [(.int (1 : Int32)), (.ref bb_), (.int (105 : Int32))])) rfl rfl (hb hby d2_20)) ?_
  refine o_icmpYes X0 hx 26 (hb hby d2_21) (teq (by decide : (105 : Int32) = (105 : Int32))).1 (by decide) (by decide) ?_
  refine o_iinc X0 hx (l' := #[.val (.ref ba_), .val (.ref bb_), .val (.int (2 : Int32))]) (hb hby d2_26) rfl rfl ?_
  refine o_goto X0 hx 9 (hb hby d2_29) (by decide) (by decide) ?_
  refine o_iloadN X0 hx (hb hby d2_9) rfl ?_
  refine o_aloadN X0 hx (hb hby d2_10) rfl rfl ?_
  obtain ⟨cl9, Ar9, -, S9, N9z, -, -⟩ := (id pr0)
  refine ogo (S' := s₁.setTop (mkF m 12 #[.val (.ref ba_), .val (.ref bb_), .val (.int (2 : Int32))] [(.int (4 : Int32)), (.int (2 : Int32))])) (fun _ kt_ => X0.arraylength hx (by rw [e0]; exact Ar9.1) (State.isArrayOf_alike hZ.alike Ar9.2.1) (g := (mkF m 11 #[.val (.ref ba_), .val (.ref bb_), .val (.int (2 : Int32))] [(.ref ba_), (.int (2 : Int32))])) rfl rfl (hb hby d2_11) _ (by rw [len_of S9 N9z]; exact kt_)) ?_
  refine o_icmpNo X0 hx (hb hby d2_12) (tlt (by decide : (2 : Int32) < (4 : Int32))).2.1 ?_
  refine o_aloadN X0 hx (hb hby d2_15) rfl rfl ?_
  refine o_iloadN X0 hx (hb hby d2_16) rfl ?_
  obtain ⟨cl10, Ar10, q10, S10, N10z, H10, G10⟩ := (id pr0)
  have hi10 := inb_of (j := (2 : Int32)) S10 ⟨by decide, by decide⟩
  have ha10 := Has.at (v := (.int (101 : Int32))) H10 hi10 rfl
  refine ogo (S' := s₁.setTop (mkF m 18 #[.val (.ref ba_), .val (.ref bb_), .val (.int (2 : Int32))] [(.int (101 : Int32))])) (X0.baloadBytes hx (j := (2 : Int32)) (v := (.int (101 : Int32))) (by rw [e0]; exact Ar10.1) (State.isArrayOf_alike hZ.alike Ar10.2.1) Ar10.2.2 hi10 ha10 (g := (mkF m 17 #[.val (.ref ba_), .val (.ref bb_), .val (.int (2 : Int32))] [(.int (2 : Int32)), (.ref ba_)])) rfl rfl (hb hby d2_17)) ?_
  refine o_aloadN X0 hx (hb hby d2_18) rfl rfl ?_
  refine o_iloadN X0 hx (hb hby d2_19) rfl ?_
  obtain ⟨cl11, Ar11, q11, S11, N11z, H11, G11⟩ := (id pr1)
  have hi11 := inb_of (j := (2 : Int32)) S11 ⟨by decide, by decide⟩
  have ha11 := Has.at (v := (.int (101 : Int32))) H11 hi11 rfl
  refine ogo (S' := s₁.setTop (mkF m 21 #[.val (.ref ba_), .val (.ref bb_), .val (.int (2 : Int32))] [(.int (101 : Int32)), (.int (101 : Int32))])) (X0.baloadBytes hx (j := (2 : Int32)) (v := (.int (101 : Int32))) (by rw [e0]; exact Ar11.1) (State.isArrayOf_alike hZ.alike Ar11.2.1) Ar11.2.2 hi11 ha11 (g := (mkF m 20 #[.val (.ref ba_), .val (.ref bb_), .val (.int (2 : Int32))] [(.int (2 : Int32)), (.ref bb_), (.int (101 : Int32))])) rfl rfl (hb hby d2_20)) ?_
  refine o_icmpYes X0 hx 26 (hb hby d2_21) (teq (by decide : (101 : Int32) = (101 : Int32))).1 (by decide) (by decide) ?_
  refine o_iinc X0 hx (l' := #[.val (.ref ba_), .val (.ref bb_), .val (.int (3 : Int32))]) (hb hby d2_26) rfl rfl ?_
  refine o_goto X0 hx 9 (hb hby d2_29) (by decide) (by decide) ?_
  refine o_iloadN X0 hx (hb hby d2_9) rfl ?_
  refine o_aloadN X0 hx (hb hby d2_10) rfl rfl ?_
  obtain ⟨cl12, Ar12, -, S12, N12z, -, -⟩ := (id pr0)
  refine ogo (S' := s₁.setTop (mkF m 12 #[.val (.ref ba_), .val (.ref bb_), .val (.int (3 : Int32))] [(.int (4 : Int32)), (.int (3 : Int32))])) (fun _ kt_ => X0.arraylength hx (by rw [e0]; exact Ar12.1) (State.isArrayOf_alike hZ.alike Ar12.2.1) (g := (mkF m 11 #[.val (.ref ba_), .val (.ref bb_), .val (.int (3 : Int32))] [(.ref ba_), (.int (3 : Int32))])) rfl rfl (hb hby d2_11) _ (by rw [len_of S12 N12z]; exact kt_)) ?_
  refine o_icmpNo X0 hx (hb hby d2_12) (tlt (by decide : (3 : Int32) < (4 : Int32))).2.1 ?_
  refine o_aloadN X0 hx (hb hby d2_15) rfl rfl ?_
  refine o_iloadN X0 hx (hb hby d2_16) rfl ?_
  obtain ⟨cl13, Ar13, q13, S13, N13z, H13, G13⟩ := (id pr0)
  have hi13 := inb_of (j := (3 : Int32)) S13 ⟨by decide, by decide⟩
  have ha13 := Has.at (v := (.int (119 : Int32))) H13 hi13 rfl
  refine ogo (S' := s₁.setTop (mkF m 18 #[.val (.ref ba_), .val (.ref bb_), .val (.int (3 : Int32))] [(.int (119 : Int32))])) (X0.baloadBytes hx (j := (3 : Int32)) (v := (.int (119 : Int32))) (by rw [e0]; exact Ar13.1) (State.isArrayOf_alike hZ.alike Ar13.2.1) Ar13.2.2 hi13 ha13 (g := (mkF m 17 #[.val (.ref ba_), .val (.ref bb_), .val (.int (3 : Int32))] [(.int (3 : Int32)), (.ref ba_)])) rfl rfl (hb hby d2_17)) ?_
  refine o_aloadN X0 hx (hb hby d2_18) rfl rfl ?_
  refine o_iloadN X0 hx (hb hby d2_19) rfl ?_
  obtain ⟨cl14, Ar14, q14, S14, N14z, H14, G14⟩ := (id pr1)
  have hi14 := inb_of (j := (3 : Int32)) S14 ⟨by decide, by decide⟩
  have ha14 := Has.at (v := (.int (119 : Int32))) H14 hi14 rfl
  refine ogo (S' := s₁.setTop (mkF m 21 #[.val (.ref ba_), .val (.ref bb_), .val (.int (3 : Int32))] [(.int (119 : Int32)), (.int (119 : Int32))])) (X0.baloadBytes hx (j := (3 : Int32)) (v := (.int (119 : Int32))) (by rw [e0]; exact Ar14.1) (State.isArrayOf_alike hZ.alike Ar14.2.1) Ar14.2.2 hi14 ha14 (g := (mkF m 20 #[.val (.ref ba_), .val (.ref bb_), .val (.int (3 : Int32))] [(.int (3 : Int32)), (.ref bb_), (.int (119 : Int32))])) rfl rfl (hb hby d2_20)) ?_
  refine o_icmpYes X0 hx 26 (hb hby d2_21) (teq (by decide : (119 : Int32) = (119 : Int32))).1 (by decide) (by decide) ?_
  refine o_iinc X0 hx (l' := #[.val (.ref ba_), .val (.ref bb_), .val (.int (4 : Int32))]) (hb hby d2_26) rfl rfl ?_
  refine o_goto X0 hx 9 (hb hby d2_29) (by decide) (by decide) ?_
  refine o_iloadN X0 hx (hb hby d2_9) rfl ?_
  refine o_aloadN X0 hx (hb hby d2_10) rfl rfl ?_
  obtain ⟨cl15, Ar15, -, S15, N15z, -, -⟩ := (id pr0)
  refine ogo (S' := s₁.setTop (mkF m 12 #[.val (.ref ba_), .val (.ref bb_), .val (.int (4 : Int32))] [(.int (4 : Int32)), (.int (4 : Int32))])) (fun _ kt_ => X0.arraylength hx (by rw [e0]; exact Ar15.1) (State.isArrayOf_alike hZ.alike Ar15.2.1) (g := (mkF m 11 #[.val (.ref ba_), .val (.ref bb_), .val (.int (4 : Int32))] [(.ref ba_), (.int (4 : Int32))])) rfl rfl (hb hby d2_11) _ (by rw [len_of S15 N15z]; exact kt_)) ?_
  refine o_icmpYes X0 hx 32 (hb hby d2_12) (flt (by decide : ¬ ((4 : Int32) < (4 : Int32)))).2.1 (by decide) (by decide) ?_
  refine o_iconst X0 hx (1 : Int32) (hb hby d2_32) rfl ?_
  refine oend X0 hlk (v := some (.int (1 : Int32))) (fun h => by rw [hret] at h; cases h) (fun fs hr => retN X0 hx (t := .boolean) hret (by simp) (hb hby d2_33) hr) (by decide) (by decide) ?_
  show own_Q_l1eq_118_105_101_119_118_105_101_119 Z _ _ _ _ h0 n0 _ s₁.heap _
  rw [e0]
  exact ⟨rfl, N0, rfl⟩
def own_Q_eq_118_105_101_119_118_105_101_119 (Z : State) (s_LIKE : Addr) (s_TOGGLE : Addr) (s__VALUES : Addr) (s_FAV : Addr) (s_VIEW : Addr) (s_LIKE_id : Addr) (s_LIKE_id_value : Addr) (s_INCREMENT : Addr) (s_FAV_id : Addr) (s_FAV_id_value : Addr) (s_VIEW_id : Addr) (s_VIEW_id_value : Addr) (k_s__VALUES : ClassId) (k_s_LIKE_id_value : ClassId) (k_s_FAV_id_value : ClassId) (k_s_VIEW_id_value : ClassId) (z_CS : Int32) (v_FMT : Value) (t_ : Addr) (ba_ : Addr) (kb_ : ClassId) (x_ : Addr) (bb_ : Addr) (kc_ : ClassId) (h0 : Heap) (n0 : Nat) (v : Option Value) (h : Heap) (L : List Loc) : Prop := (v = some (.int (1 : Int32))) ∧ (Fr n0 L) ∧ (h = h0)
set_option maxRecDepth 65536 in
set_option maxHeartbeats 40000000 in
theorem rm_eq_118_105_101_119_118_105_101_119 (l : Launch) (Z : State) (a0 : Array Value) (hw : ∀ d ∈ tables_1, d.before a0 Z = true) (ws : List Jvm.Cond) (s_LIKE : Addr) (s_TOGGLE : Addr) (s__VALUES : Addr) (s_FAV : Addr) (s_VIEW : Addr) (s_LIKE_id : Addr) (s_LIKE_id_value : Addr) (s_INCREMENT : Addr) (s_FAV_id : Addr) (s_FAV_id_value : Addr) (s_VIEW_id : Addr) (s_VIEW_id_value : Addr) (k_s__VALUES : ClassId) (k_s_LIKE_id_value : ClassId) (k_s_FAV_id_value : ClassId) (k_s_VIEW_id_value : ClassId) (z_CS : Int32) (v_FMT : Value) (t_ : Addr) (ba_ : Addr) (kb_ : ClassId) (x_ : Addr) (bb_ : Addr) (kc_ : ClassId) (h0 : Heap) (n0 : Nat) (SB : own_Start Z s_LIKE s_TOGGLE s__VALUES s_FAV s_VIEW s_LIKE_id s_LIKE_id_value s_INCREMENT s_FAV_id s_FAV_id_value s_VIEW_id s_VIEW_id_value k_s__VALUES k_s_LIKE_id_value k_s_FAV_id_value k_s_VIEW_id_value z_CS v_FMT) (O0 : Old Z n0 h0) (pr0 : Exa Z h0 t_ "java/lang/String") (pr1 : Fld Z h0 t_ "java/lang/String" "coder" "B" (.int (0 : Int32))) (pr2 : Fld Z h0 t_ "java/lang/String" "value" "[B" (.ref ba_)) (pr3 : Arv Z h0 ba_ kb_ .byte (4 : Int32) [(.int (118 : Int32)), (.int (105 : Int32)), (.int (101 : Int32)), (.int (119 : Int32))] (.int 0)) (pr4 : Exa Z h0 x_ "java/lang/String") (pr5 : Fld Z h0 x_ "java/lang/String" "coder" "B" (.int (0 : Int32))) (pr6 : Fld Z h0 x_ "java/lang/String" "value" "[B" (.ref bb_)) (pr7 : Arv Z h0 bb_ kc_ .byte (4 : Int32) [(.int (118 : Int32)), (.int (105 : Int32)), (.int (101 : Int32)), (.int (119 : Int32))] (.int 0)) (pr8 : t_ ≠ x_) :
    oMet l Z yM2 jdk_42_method_66_code 3 (some .boolean) ws ({ frames := 1, cells := 0, slots := 0, locals := 14 } : Room) 0 0 #[(.ref t_), (.ref x_)] h0 (own_Q_eq_118_105_101_119_118_105_101_119 Z s_LIKE s_TOGGLE s__VALUES s_FAV s_VIEW s_LIKE_id s_LIKE_id_value s_INCREMENT s_FAV_id s_FAV_id_value s_VIEW_id s_VIEW_id_value k_s__VALUES k_s_LIKE_id_value k_s_FAV_id_value k_s_VIEW_id_value z_CS v_FMT t_ ba_ kb_ x_ bb_ kc_ h0 n0) := by
  refine oenter own_pn2 #[.val (.ref t_), .val (.ref x_), .unset] (fun m => by first | (simp [entryFrame, mkF, argsToLocals, Value.category]; done) | rfl) ?_
  intro p e s m below meth c s₁ X0 hx hZ hby hml hret hown0 hnm hlk e0
  have hown : s.vm.findClass "java/lang/String" = some m.cls := hown0
  have N0 := Fr.nil n0
  obtain ⟨S_s_LIKE, E_s_LIKE, S_s_TOGGLE, E_s_TOGGLE, S_s__VALUES, E_s__VALUES, S_s_FAV, E_s_FAV, S_s_VIEW, E_s_VIEW, F_s_LIKE_id, E_s_LIKE_id, F_s_LIKE_id_value, S_s_INCREMENT, E_s_INCREMENT, F_s_FAV_id, E_s_FAV_id, F_s_FAV_id_value, F_s_VIEW_id, E_s_VIEW_id, F_s_VIEW_id_value, F_s_LIKE_id_coder, F_s_LIKE_kind, F_s_FAV_id_coder, F_s_VIEW_id_coder, F_s_VIEW_kind, F_s_FAV_kind, V_s__VALUES, V_s_LIKE_id_value, V_s_FAV_id_value, V_s_VIEW_id_value, S_CS, H_CS, S_FMT, R_FMT⟩ := (id SB)
  have w21 := hw _ (List.mem_of_getElem? (i := 21) rfl)
  have w33 := hw _ (List.mem_of_getElem? (i := 33) rfl)
  have w35 := hw _ (List.mem_of_getElem? (i := 35) rfl)
  have w67 := hw _ (List.mem_of_getElem? (i := 67) rfl)
  have w68 := hw _ (List.mem_of_getElem? (i := 68) rfl)
  have w69 := hw _ (List.mem_of_getElem? (i := 69) rfl)
  have w70 := hw _ (List.mem_of_getElem? (i := 70) rfl)
  have w71 := hw _ (List.mem_of_getElem? (i := 71) rfl)
  refine o_aloadN X0 hx (hb hby d3_0) rfl rfl ?_
  refine o_aloadN X0 hx (hb hby d3_1) rfl rfl ?_
  refine o_acmp X0 hx 7 false rfl rfl (hb hby d3_2) (decide_eq_false fun q => pr8 (Value.ref.inj q)) (by decide) (by decide) ?_
  refine o_aloadN X0 hx (hb hby d3_7) rfl rfl ?_
  obtain ⟨T1, X1, e1, st1⟩ := instY X0 hx hZ hown w67 e0 (Ins.self pr4) (g := (mkF m 8 #[.val (.ref t_), .val (.ref x_), .unset] [(.ref x_)])) rfl rfl (hb hby d3_8)
  refine ogo (S' := T1.setTop (mkF m 11 #[.val (.ref t_), .val (.ref x_), .unset] [(.int (1 : Int32))])) st1 ?_
  refine o_ifNo X1 hx (hb hby d3_11) (feq (by decide : ¬ ((1 : Int32) = (0 : Int32)))).1 ?_
  refine o_aloadN X1 hx (hb hby d3_14) rfl rfl ?_
  obtain ⟨T2, X2, e2, st2⟩ := castY X1 hx hZ hown w67 e1 (Ins.self pr4) (g := (mkF m 15 #[.val (.ref t_), .val (.ref x_), .unset] [(.ref x_)])) rfl rfl (hb hby d3_15)
  refine ogo (S' := T2.setTop (mkF m 18 #[.val (.ref t_), .val (.ref x_), .unset] [(.ref x_)])) st2 ?_
  refine o_astoreN X2 hx (l' := #[.val (.ref t_), .val (.ref x_), .val (.ref x_)]) (hb hby d3_18) rfl rfl ?_
  obtain ⟨T3, X3, e3, st3⟩ := getS2 X2 hx hZ hown (host := "") (Or.inl w21) Via.refl e2 (Sta.ext O0.2 S_CS) (g := (mkF m 19 #[.val (.ref t_), .val (.ref x_), .val (.ref x_)] [])) rfl (hb hby d3_19)
  refine ogo (S' := T3.setTop (mkF m 22 #[.val (.ref t_), .val (.ref x_), .val (.ref x_)] [(.int z_CS)])) st3 ?_
  refine o_ifNo X3 hx (hb hby d3_22) (feq H_CS).1 ?_
  refine o_aloadN X3 hx (hb hby d3_25) rfl rfl ?_
  obtain ⟨T4, X4, e4, st4⟩ := getF X3 hx hZ hown (host := "") (Or.inl w33) Via.refl e3 pr1 (g := (mkF m 26 #[.val (.ref t_), .val (.ref x_), .val (.ref x_)] [(.ref t_)])) rfl rfl (hb hby d3_26)
  refine ogo (S' := T4.setTop (mkF m 29 #[.val (.ref t_), .val (.ref x_), .val (.ref x_)] [(.int (0 : Int32))])) st4 ?_
  refine o_aloadN X4 hx (hb hby d3_29) rfl rfl ?_
  obtain ⟨T5, X5, e5, st5⟩ := getF X4 hx hZ hown (host := "") (Or.inl w33) Via.refl e4 pr5 (g := (mkF m 30 #[.val (.ref t_), .val (.ref x_), .val (.ref x_)] [(.ref x_), (.int (0 : Int32))])) rfl rfl (hb hby d3_30)
  refine ogo (S' := T5.setTop (mkF m 33 #[.val (.ref t_), .val (.ref x_), .val (.ref x_)] [(.int (0 : Int32)), (.int (0 : Int32))])) st5 ?_
  refine o_icmpNo X5 hx (hb hby d3_33) (teq (by decide : (0 : Int32) = (0 : Int32))).2 ?_
  refine o_aloadN X5 hx (hb hby d3_36) rfl rfl ?_
  obtain ⟨T6, X6, e6, st6⟩ := getF X5 hx hZ hown (host := "") (Or.inl w35) Via.refl e5 pr2 (g := (mkF m 37 #[.val (.ref t_), .val (.ref x_), .val (.ref x_)] [(.ref t_)])) rfl rfl (hb hby d3_37)
  refine ogo (S' := T6.setTop (mkF m 40 #[.val (.ref t_), .val (.ref x_), .val (.ref x_)] [(.ref ba_)])) st6 ?_
  refine o_aloadN X6 hx (hb hby d3_40) rfl rfl ?_
  obtain ⟨T7, X7, e7, st7⟩ := getF X6 hx hZ hown (host := "") (Or.inl w35) Via.refl e6 pr6 (g := (mkF m 41 #[.val (.ref t_), .val (.ref x_), .val (.ref x_)] [(.ref x_), (.ref ba_)])) rfl rfl (hb hby d3_41)
  refine ogo (S' := T7.setTop (mkF m 44 #[.val (.ref t_), .val (.ref x_), .val (.ref x_)] [(.ref bb_), (.ref ba_)])) st7 ?_
  obtain ⟨_, _, ⟨T8, L8, kc8, n8⟩, -, X8, ⟨Lc8, hQ8, l8, y8, z8⟩, st8⟩ := Jvm.LawKit.callS X7 hx (y := yM1) hown (mvT hZ w68) (mvT hZ w69) (mvT hZ w70) (mvT hZ w71) (by decide) (backOf (W := 0) (rm_l1eq_118_105_101_119_118_105_101_119 l Z a0 hw []  ba_ kb_ bb_ kc_ h0 n0 O0 pr3 pr7) hZ w71 w70 (by decide) (by decide)) (g := (mkF m 44 #[.val (.ref t_), .val (.ref x_), .val (.ref x_)] [(.ref bb_), (.ref ba_)])) rfl (by rw [hml]; rfl) (argsL := [(.ref ba_), (.ref bb_)]) (rest := []) (lenOf own_pd0 rfl) rfl (by show 2 * 0 + _ ≤ _; exact Nat.le_of_eq rfl) (hb hby d3_44) (fun _ _ => ⟨rfl, e7, (by decide : 0 + 0 ≤ _), (by decide : 0 + 0 ≤ _)⟩)
  dsimp only [Pt.U, Pt.locs, Pt.cells, Pt.slots] at X8 l8 y8 z8 st8 hQ8
  subst l8 y8 z8
  obtain ⟨rfl, Nq8, e8⟩ := hQ8
  have N8 := Fr.app N0 Nq8
  refine ogo (S' := T8.setTop (mkF m 47 #[.val (.ref t_), .val (.ref x_), .val (.ref x_)] [(.int (1 : Int32))])) st8 ?_
  refine o_ifNo X8 hx (hb hby d3_47) (feq (by decide : ¬ ((1 : Int32) = (0 : Int32)))).1 ?_
  refine o_iconst X8 hx (1 : Int32) (hb hby d3_50) rfl ?_
  refine o_goto X8 hx 55 (hb hby d3_51) (by decide) (by decide) ?_
  refine oend X8 hlk (v := some (.int (1 : Int32))) (fun h => by rw [hret] at h; cases h) (fun fs hr => retN X8 hx (t := .boolean) hret (by simp) (hb hby d3_55) hr) (by decide) (by decide) ?_
  show own_Q_eq_118_105_101_119_118_105_101_119 Z _ _ _ _ _ _ _ _ _ _ _ _ _ _ _ _ _ _ _ _ _ _ _ _ h0 n0 _ T8.heap _
  rw [e8]
  exact ⟨rfl, N8, rfl⟩
def own_Q_parse_2 (Z : State) (s_LIKE : Addr) (s_TOGGLE : Addr) (s__VALUES : Addr) (s_FAV : Addr) (s_VIEW : Addr) (s_LIKE_id : Addr) (s_LIKE_id_value : Addr) (s_INCREMENT : Addr) (s_FAV_id : Addr) (s_FAV_id_value : Addr) (s_VIEW_id : Addr) (s_VIEW_id_value : Addr) (k_s__VALUES : ClassId) (k_s_LIKE_id_value : ClassId) (k_s_FAV_id_value : ClassId) (k_s_VIEW_id_value : ClassId) (z_CS : Int32) (v_FMT : Value) (x_ : Addr) (bb_ : Addr) (kc_ : ClassId) (h0 : Heap) (n0 : Nat) (v : Option Value) (h : Heap) (L : List Loc) : Prop := (v = some (.ref s_VIEW)) ∧ (Fr n0 L) ∧ (Keep h0 h [])
set_option maxRecDepth 65536 in
set_option maxHeartbeats 40000000 in
theorem rm_parse_2 (l : Launch) (Z : State) (a0 : Array Value) (hw : ∀ d ∈ tables_1, d.before a0 Z = true) (ws : List Jvm.Cond) (s_LIKE : Addr) (s_TOGGLE : Addr) (s__VALUES : Addr) (s_FAV : Addr) (s_VIEW : Addr) (s_LIKE_id : Addr) (s_LIKE_id_value : Addr) (s_INCREMENT : Addr) (s_FAV_id : Addr) (s_FAV_id_value : Addr) (s_VIEW_id : Addr) (s_VIEW_id_value : Addr) (k_s__VALUES : ClassId) (k_s_LIKE_id_value : ClassId) (k_s_FAV_id_value : ClassId) (k_s_VIEW_id_value : ClassId) (z_CS : Int32) (v_FMT : Value) (x_ : Addr) (bb_ : Addr) (kc_ : ClassId) (h0 : Heap) (n0 : Nat) (SB : own_Start Z s_LIKE s_TOGGLE s__VALUES s_FAV s_VIEW s_LIKE_id s_LIKE_id_value s_INCREMENT s_FAV_id s_FAV_id_value s_VIEW_id s_VIEW_id_value k_s__VALUES k_s_LIKE_id_value k_s_FAV_id_value k_s_VIEW_id_value z_CS v_FMT) (O0 : Old Z n0 h0) (pr0 : Exa Z h0 x_ "java/lang/String") (pr1 : Fld Z h0 x_ "java/lang/String" "coder" "B" (.int (0 : Int32))) (pr2 : Fld Z h0 x_ "java/lang/String" "value" "[B" (.ref bb_)) (pr3 : Arv Z h0 bb_ kc_ .byte (4 : Int32) [(.int (118 : Int32)), (.int (105 : Int32)), (.int (101 : Int32)), (.int (119 : Int32))] (.int 0)) (pr4 : n0 ≤ x_) :
    oMet l Z yM3 prog_5_method_6_code 5 (some (.object "com/example/atomic_tally/atomictally/model/Metric")) ws ({ frames := 2, cells := 1, slots := 3, locals := 28 } : Room) 1 3 #[(.ref x_)] h0 (own_Q_parse_2 Z s_LIKE s_TOGGLE s__VALUES s_FAV s_VIEW s_LIKE_id s_LIKE_id_value s_INCREMENT s_FAV_id s_FAV_id_value s_VIEW_id s_VIEW_id_value k_s__VALUES k_s_LIKE_id_value k_s_FAV_id_value k_s_VIEW_id_value z_CS v_FMT x_ bb_ kc_ h0 n0) := by
  refine oenter own_pn0 #[.val (.ref x_), .unset, .unset, .unset, .unset] (fun m => by first | (simp [entryFrame, mkF, argsToLocals, Value.category]; done) | rfl) ?_
  intro p e s m below meth c s₁ X0 hx hZ hby hml hret hown0 hnm hlk e0
  have hown : s.vm.findClass "com/example/atomic_tally/atomictally/model/Metric" = some m.cls := hown0
  have N0 := Fr.nil n0
  obtain ⟨S_s_LIKE, E_s_LIKE, S_s_TOGGLE, E_s_TOGGLE, S_s__VALUES, E_s__VALUES, S_s_FAV, E_s_FAV, S_s_VIEW, E_s_VIEW, F_s_LIKE_id, E_s_LIKE_id, F_s_LIKE_id_value, S_s_INCREMENT, E_s_INCREMENT, F_s_FAV_id, E_s_FAV_id, F_s_FAV_id_value, F_s_VIEW_id, E_s_VIEW_id, F_s_VIEW_id_value, F_s_LIKE_id_coder, F_s_LIKE_kind, F_s_FAV_id_coder, F_s_VIEW_id_coder, F_s_VIEW_kind, F_s_FAV_kind, V_s__VALUES, V_s_LIKE_id_value, V_s_FAV_id_value, V_s_VIEW_id_value, S_CS, H_CS, S_FMT, R_FMT⟩ := (id SB)
  have w3 := hw _ (List.mem_of_getElem? (i := 3) rfl)
  have w10 := hw _ (List.mem_of_getElem? (i := 10) rfl)
  have w43 := hw _ (List.mem_of_getElem? (i := 43) rfl)
  have w44 := hw _ (List.mem_of_getElem? (i := 44) rfl)
  have w45 := hw _ (List.mem_of_getElem? (i := 45) rfl)
  have w60 := hw _ (List.mem_of_getElem? (i := 60) rfl)
  have w62 := hw _ (List.mem_of_getElem? (i := 62) rfl)
  have w63 := hw _ (List.mem_of_getElem? (i := 63) rfl)
  have w64 := hw _ (List.mem_of_getElem? (i := 64) rfl)
  have w65 := hw _ (List.mem_of_getElem? (i := 65) rfl)
  have w66 := hw _ (List.mem_of_getElem? (i := 66) rfl)
  obtain ⟨_, _, ⟨T1, L1, kc1, n1⟩, -, X1, ⟨Lc1, hQ1, l1, y1, z1⟩, st1⟩ := Jvm.LawKit.callS X0 hx (y := yM0) hown (mvT hZ w43) (mvT hZ w44) (mvT hZ w3) (mvT hZ w45) (by decide) (backOf (W := 0) (rm_values l Z a0 hw [] s_LIKE s_TOGGLE s__VALUES s_FAV s_VIEW s_LIKE_id s_LIKE_id_value s_INCREMENT s_FAV_id s_FAV_id_value s_VIEW_id s_VIEW_id_value k_s__VALUES k_s_LIKE_id_value k_s_FAV_id_value k_s_VIEW_id_value z_CS v_FMT  h0 n0 SB O0 ) hZ w45 w3 (by decide) (by decide)) (g := (mkF m 0 #[.val (.ref x_), .unset, .unset, .unset, .unset] [])) rfl (by rw [hml]; rfl) (argsL := []) (rest := []) (lenOf own_pd1 rfl) rfl (by show 2 * 0 + _ ≤ _; exact Nat.le_of_eq rfl) (hb hby d4_0) (fun _ _ => ⟨rfl, e0, (by decide : 0 + 1 ≤ _), (by decide : 0 + 3 ≤ _)⟩)
  dsimp only [Pt.U, Pt.locs, Pt.cells, Pt.slots] at X1 l1 y1 z1 st1 hQ1
  subst l1 y1 z1
  obtain ⟨va_1, rfl, Nq1, K1, p1_0, p1_1, p1_2⟩ := hQ1
  have N1 := Fr.app N0 Nq1
  have n0_va_1 : n0 ≤ va_1 := Nat.le_trans (Nat.le_trans (Nat.le_of_eq O0.1.symm) O0.2.1) (Nat.le_trans (Nat.le_refl _) p1_0)
  refine ogo (S' := T1.setTop (mkF m 3 #[.val (.ref x_), .unset, .unset, .unset, .unset] [(.ref va_1)])) st1 ?_
  refine o_astoreN X1 hx (l' := #[.val (.ref x_), .val (.ref va_1), .unset, .unset, .unset]) (hb hby d4_3) rfl rfl ?_
  refine o_aloadN X1 hx (hb hby d4_4) rfl rfl ?_
  obtain ⟨cl2, Ar2, -, S2, N2z, -, -⟩ := (id p1_1)
  refine ogo (S' := T1.setTop (mkF m 6 #[.val (.ref x_), .val (.ref va_1), .unset, .unset, .unset] [(.int (3 : Int32))])) (fun _ kt_ => X1.arraylength hx Ar2.1 (State.isArrayOf_alike hZ.alike Ar2.2.1) (g := (mkF m 5 #[.val (.ref x_), .val (.ref va_1), .unset, .unset, .unset] [(.ref va_1)])) rfl rfl (hb hby d4_5) _ (by rw [len_of S2 N2z]; exact kt_)) ?_
  refine o_istoreN X1 hx (l' := #[.val (.ref x_), .val (.ref va_1), .val (.int (3 : Int32)), .unset, .unset]) (hb hby d4_6) rfl ?_
  refine o_iconst X1 hx (0 : Int32) (hb hby d4_7) rfl ?_
  refine o_istoreN X1 hx (l' := #[.val (.ref x_), .val (.ref va_1), .val (.int (3 : Int32)), .val (.int (0 : Int32)), .unset]) (hb hby d4_8) rfl ?_
  refine o_iloadN X1 hx (hb hby d4_9) rfl ?_
  refine o_iloadN X1 hx (hb hby d4_10) rfl ?_
  refine o_icmpNo X1 hx (hb hby d4_11) (tlt (by decide : (0 : Int32) < (3 : Int32))).2.1 ?_
  refine o_aloadN X1 hx (hb hby d4_14) rfl rfl ?_
  refine o_iloadN X1 hx (hb hby d4_15) rfl ?_
  obtain ⟨cl3, Ar3, q3, S3, N3z, H3, G3⟩ := (id p1_1)
  have hi3 := inb_of (j := (0 : Int32)) S3 ⟨by decide, by decide⟩
  have ha3 := Has.at (v := (.ref s_LIKE)) H3 hi3 rfl
  refine ogo (S' := T1.setTop (mkF m 17 #[.val (.ref x_), .val (.ref va_1), .val (.int (3 : Int32)), .val (.int (0 : Int32)), .unset] [(.ref s_LIKE)])) (X1.aaload hx (j := (0 : Int32)) (v := (.ref s_LIKE)) Ar3.1 (State.isArrayOf_alike hZ.alike Ar3.2.1) rfl Ar3.2.2 hi3 ha3 (g := (mkF m 16 #[.val (.ref x_), .val (.ref va_1), .val (.int (3 : Int32)), .val (.int (0 : Int32)), .unset] [(.int (0 : Int32)), (.ref va_1)])) rfl rfl (hb hby d4_16)) ?_
  refine o_astore X1 hx (l' := #[.val (.ref x_), .val (.ref va_1), .val (.int (3 : Int32)), .val (.int (0 : Int32)), .val (.ref s_LIKE)]) (hb hby d4_17) rfl rfl ?_
  refine o_aload X1 hx (hb hby d4_19) rfl rfl ?_
  obtain ⟨T4, X4, e4, st4⟩ := getF X1 hx hZ hown (host := "") (Or.inl w60) Via.refl rfl (Fld.ext (O0.keep K1 all0).2 F_s_LIKE_id) (g := (mkF m 21 #[.val (.ref x_), .val (.ref va_1), .val (.int (3 : Int32)), .val (.int (0 : Int32)), .val (.ref s_LIKE)] [(.ref s_LIKE)])) rfl rfl (hb hby d4_21)
  refine ogo (S' := T4.setTop (mkF m 24 #[.val (.ref x_), .val (.ref va_1), .val (.int (3 : Int32)), .val (.int (0 : Int32)), .val (.ref s_LIKE)] [(.ref s_LIKE_id)])) st4 ?_
  refine o_aloadN X4 hx (hb hby d4_24) rfl rfl ?_
  obtain ⟨cq5, kq5, q5a, q5b, q5c⟩ := isOf hZ e4 (Exa.ext (O0.keep K1 all0).2 E_s_LIKE_id)
  obtain ⟨_, _, ⟨T5, L5, kc5, n5⟩, -, X5, ⟨Lc5, hQ5, l5, y5, z5⟩, st5⟩ := X4.virtualBack hx (y := yM2) (z := yM2) hown (mvT hZ w62) (mvT hZ w63) (notFace_of_selects (args := #[]) (mvT hZ w65)) (mvT hZ w65) (mvT hZ w64) (by decide) (backOf (W := 0) (rm_eq_108_105_107_101_118_105_101_119 l Z a0 hw [] s_LIKE s_TOGGLE s__VALUES s_FAV s_VIEW s_LIKE_id s_LIKE_id_value s_INCREMENT s_FAV_id s_FAV_id_value s_VIEW_id s_VIEW_id_value k_s__VALUES k_s_LIKE_id_value k_s_FAV_id_value k_s_VIEW_id_value z_CS v_FMT s_LIKE_id s_LIKE_id_value k_s_LIKE_id_value x_ bb_ kc_ T1.heap n0 SB (O0.keep K1 all0) (Exa.ext (O0.keep K1 all0).2 E_s_LIKE_id) (Fld.ext (O0.keep K1 all0).2 F_s_LIKE_id_coder) (Fld.ext (O0.keep K1 all0).2 F_s_LIKE_id_value) (V_s_LIKE_id_value.ext (O0.keep K1 all0).2) (pr0.keep K1) (pr1.keep K1 nin0) (pr2.keep K1 nin0) (pr3.keep K1 nin0) (Old.ne (O0.keep K1 all0) E_s_LIKE_id.lt pr4)) hZ w66 w10 (by decide) (by decide)) q5a q5c (g := (mkF m 25 #[.val (.ref x_), .val (.ref va_1), .val (.int (3 : Int32)), .val (.int (0 : Int32)), .val (.ref s_LIKE)] [(.ref x_), (.ref s_LIKE_id)])) rfl (by rw [hml]; rfl) (Steps.refl _) (argsL := [(.ref x_)]) (rest := []) (lenOf own_pd2 rfl) rfl (by show 2 * 0 + _ ≤ _; exact Nat.le_of_eq rfl) (hb hby d4_25) (fun _ _ => ⟨rfl, e4, (by decide : 1 + 0 ≤ _), (by decide : 3 + 0 ≤ _)⟩)
  dsimp only [Pt.U, Pt.locs, Pt.cells, Pt.slots] at X5 l5 y5 z5 st5 hQ5
  subst l5 y5 z5
  obtain ⟨rfl, Nq5, e5⟩ := hQ5
  have N5 := Fr.app N1 Nq5
  refine otr (S' := T5.setTop (mkF m 28 #[.val (.ref x_), .val (.ref va_1), .val (.int (3 : Int32)), .val (.int (0 : Int32)), .val (.ref s_LIKE)] [(.int (0 : Int32))])) st5 ?_
  refine o_ifYes X5 hx 34 (hb hby d4_28) (teq (by decide : (0 : Int32) = (0 : Int32))).1 (by decide) (by decide) ?_
  refine o_iinc X5 hx (l' := #[.val (.ref x_), .val (.ref va_1), .val (.int (3 : Int32)), .val (.int (1 : Int32)), .val (.ref s_LIKE)]) (hb hby d4_34) rfl rfl ?_
  refine o_goto X5 hx 9 (hb hby d4_37) (by decide) (by decide) ?_
  refine o_iloadN X5 hx (hb hby d4_9) rfl ?_
  refine o_iloadN X5 hx (hb hby d4_10) rfl ?_
  refine o_icmpNo X5 hx (hb hby d4_11) (tlt (by decide : (1 : Int32) < (3 : Int32))).2.1 ?_
  refine o_aloadN X5 hx (hb hby d4_14) rfl rfl ?_
  refine o_iloadN X5 hx (hb hby d4_15) rfl ?_
  obtain ⟨cl6, Ar6, q6, S6, N6z, H6, G6⟩ := (id p1_1)
  have hi6 := inb_of (j := (1 : Int32)) S6 ⟨by decide, by decide⟩
  have ha6 := Has.at (v := (.ref s_FAV)) H6 hi6 rfl
  refine ogo (S' := T5.setTop (mkF m 17 #[.val (.ref x_), .val (.ref va_1), .val (.int (3 : Int32)), .val (.int (1 : Int32)), .val (.ref s_LIKE)] [(.ref s_FAV)])) (X5.aaload hx (j := (1 : Int32)) (v := (.ref s_FAV)) (by rw [e5]; exact Ar6.1) (State.isArrayOf_alike hZ.alike Ar6.2.1) rfl Ar6.2.2 hi6 ha6 (g := (mkF m 16 #[.val (.ref x_), .val (.ref va_1), .val (.int (3 : Int32)), .val (.int (1 : Int32)), .val (.ref s_LIKE)] [(.int (1 : Int32)), (.ref va_1)])) rfl rfl (hb hby d4_16)) ?_
  refine o_astore X5 hx (l' := #[.val (.ref x_), .val (.ref va_1), .val (.int (3 : Int32)), .val (.int (1 : Int32)), .val (.ref s_FAV)]) (hb hby d4_17) rfl rfl ?_
  refine o_aload X5 hx (hb hby d4_19) rfl rfl ?_
  obtain ⟨T7, X7, e7, st7⟩ := getF X5 hx hZ hown (host := "") (Or.inl w60) Via.refl e5 (Fld.ext (O0.keep K1 all0).2 F_s_FAV_id) (g := (mkF m 21 #[.val (.ref x_), .val (.ref va_1), .val (.int (3 : Int32)), .val (.int (1 : Int32)), .val (.ref s_FAV)] [(.ref s_FAV)])) rfl rfl (hb hby d4_21)
  refine ogo (S' := T7.setTop (mkF m 24 #[.val (.ref x_), .val (.ref va_1), .val (.int (3 : Int32)), .val (.int (1 : Int32)), .val (.ref s_FAV)] [(.ref s_FAV_id)])) st7 ?_
  refine o_aloadN X7 hx (hb hby d4_24) rfl rfl ?_
  obtain ⟨cq8, kq8, q8a, q8b, q8c⟩ := isOf hZ e7 (Exa.ext (O0.keep K1 all0).2 E_s_FAV_id)
  obtain ⟨_, _, ⟨T8, L8, kc8, n8⟩, -, X8, ⟨Lc8, hQ8, l8, y8, z8⟩, st8⟩ := X7.virtualBack hx (y := yM2) (z := yM2) hown (mvT hZ w62) (mvT hZ w63) (notFace_of_selects (args := #[]) (mvT hZ w65)) (mvT hZ w65) (mvT hZ w64) (by decide) (backOf (W := 0) (rm_eq_102_97_118_118_105_101_119 l Z a0 hw [] s_LIKE s_TOGGLE s__VALUES s_FAV s_VIEW s_LIKE_id s_LIKE_id_value s_INCREMENT s_FAV_id s_FAV_id_value s_VIEW_id s_VIEW_id_value k_s__VALUES k_s_LIKE_id_value k_s_FAV_id_value k_s_VIEW_id_value z_CS v_FMT s_FAV_id s_FAV_id_value k_s_FAV_id_value x_ bb_ kc_ T1.heap n0 SB (O0.keep K1 all0) (Exa.ext (O0.keep K1 all0).2 E_s_FAV_id) (Fld.ext (O0.keep K1 all0).2 F_s_FAV_id_coder) (Fld.ext (O0.keep K1 all0).2 F_s_FAV_id_value) (V_s_FAV_id_value.ext (O0.keep K1 all0).2) (pr0.keep K1) (pr1.keep K1 nin0) (pr2.keep K1 nin0) (pr3.keep K1 nin0) (Old.ne (O0.keep K1 all0) E_s_FAV_id.lt pr4)) hZ w66 w10 (by decide) (by decide)) q8a q8c (g := (mkF m 25 #[.val (.ref x_), .val (.ref va_1), .val (.int (3 : Int32)), .val (.int (1 : Int32)), .val (.ref s_FAV)] [(.ref x_), (.ref s_FAV_id)])) rfl (by rw [hml]; rfl) (Steps.refl _) (argsL := [(.ref x_)]) (rest := []) (lenOf own_pd2 rfl) rfl (by show 2 * 0 + _ ≤ _; exact Nat.le_of_eq rfl) (hb hby d4_25) (fun _ _ => ⟨rfl, e7, (by decide : 1 + 0 ≤ _), (by decide : 3 + 0 ≤ _)⟩)
  dsimp only [Pt.U, Pt.locs, Pt.cells, Pt.slots] at X8 l8 y8 z8 st8 hQ8
  subst l8 y8 z8
  obtain ⟨rfl, Nq8, e8⟩ := hQ8
  have N8 := Fr.app N5 Nq8
  refine otr (S' := T8.setTop (mkF m 28 #[.val (.ref x_), .val (.ref va_1), .val (.int (3 : Int32)), .val (.int (1 : Int32)), .val (.ref s_FAV)] [(.int (0 : Int32))])) st8 ?_
  refine o_ifYes X8 hx 34 (hb hby d4_28) (teq (by decide : (0 : Int32) = (0 : Int32))).1 (by decide) (by decide) ?_
  refine o_iinc X8 hx (l' := #[.val (.ref x_), .val (.ref va_1), .val (.int (3 : Int32)), .val (.int (2 : Int32)), .val (.ref s_FAV)]) (hb hby d4_34) rfl rfl ?_
  refine o_goto X8 hx 9 (hb hby d4_37) (by decide) (by decide) ?_
  refine o_iloadN X8 hx (hb hby d4_9) rfl ?_
  refine o_iloadN X8 hx (hb hby d4_10) rfl ?_
  refine o_icmpNo X8 hx (hb hby d4_11) (tlt (by decide : (2 : Int32) < (3 : Int32))).2.1 ?_
  refine o_aloadN X8 hx (hb hby d4_14) rfl rfl ?_
  refine o_iloadN X8 hx (hb hby d4_15) rfl ?_
  obtain ⟨cl9, Ar9, q9, S9, N9z, H9, G9⟩ := (id p1_1)
  have hi9 := inb_of (j := (2 : Int32)) S9 ⟨by decide, by decide⟩
  have ha9 := Has.at (v := (.ref s_VIEW)) H9 hi9 rfl
  refine ogo (S' := T8.setTop (mkF m 17 #[.val (.ref x_), .val (.ref va_1), .val (.int (3 : Int32)), .val (.int (2 : Int32)), .val (.ref s_FAV)] [(.ref s_VIEW)])) (X8.aaload hx (j := (2 : Int32)) (v := (.ref s_VIEW)) (by rw [e8]; exact Ar9.1) (State.isArrayOf_alike hZ.alike Ar9.2.1) rfl Ar9.2.2 hi9 ha9 (g := (mkF m 16 #[.val (.ref x_), .val (.ref va_1), .val (.int (3 : Int32)), .val (.int (2 : Int32)), .val (.ref s_FAV)] [(.int (2 : Int32)), (.ref va_1)])) rfl rfl (hb hby d4_16)) ?_
  refine o_astore X8 hx (l' := #[.val (.ref x_), .val (.ref va_1), .val (.int (3 : Int32)), .val (.int (2 : Int32)), .val (.ref s_VIEW)]) (hb hby d4_17) rfl rfl ?_
  refine o_aload X8 hx (hb hby d4_19) rfl rfl ?_
  obtain ⟨T10, X10, e10, st10⟩ := getF X8 hx hZ hown (host := "") (Or.inl w60) Via.refl e8 (Fld.ext (O0.keep K1 all0).2 F_s_VIEW_id) (g := (mkF m 21 #[.val (.ref x_), .val (.ref va_1), .val (.int (3 : Int32)), .val (.int (2 : Int32)), .val (.ref s_VIEW)] [(.ref s_VIEW)])) rfl rfl (hb hby d4_21)
  refine ogo (S' := T10.setTop (mkF m 24 #[.val (.ref x_), .val (.ref va_1), .val (.int (3 : Int32)), .val (.int (2 : Int32)), .val (.ref s_VIEW)] [(.ref s_VIEW_id)])) st10 ?_
  refine o_aloadN X10 hx (hb hby d4_24) rfl rfl ?_
  obtain ⟨cq11, kq11, q11a, q11b, q11c⟩ := isOf hZ e10 (Exa.ext (O0.keep K1 all0).2 E_s_VIEW_id)
  obtain ⟨_, _, ⟨T11, L11, kc11, n11⟩, -, X11, ⟨Lc11, hQ11, l11, y11, z11⟩, st11⟩ := X10.virtualBack hx (y := yM2) (z := yM2) hown (mvT hZ w62) (mvT hZ w63) (notFace_of_selects (args := #[]) (mvT hZ w65)) (mvT hZ w65) (mvT hZ w64) (by decide) (backOf (W := 0) (rm_eq_118_105_101_119_118_105_101_119 l Z a0 hw [] s_LIKE s_TOGGLE s__VALUES s_FAV s_VIEW s_LIKE_id s_LIKE_id_value s_INCREMENT s_FAV_id s_FAV_id_value s_VIEW_id s_VIEW_id_value k_s__VALUES k_s_LIKE_id_value k_s_FAV_id_value k_s_VIEW_id_value z_CS v_FMT s_VIEW_id s_VIEW_id_value k_s_VIEW_id_value x_ bb_ kc_ T1.heap n0 SB (O0.keep K1 all0) (Exa.ext (O0.keep K1 all0).2 E_s_VIEW_id) (Fld.ext (O0.keep K1 all0).2 F_s_VIEW_id_coder) (Fld.ext (O0.keep K1 all0).2 F_s_VIEW_id_value) (V_s_VIEW_id_value.ext (O0.keep K1 all0).2) (pr0.keep K1) (pr1.keep K1 nin0) (pr2.keep K1 nin0) (pr3.keep K1 nin0) (Old.ne (O0.keep K1 all0) E_s_VIEW_id.lt pr4)) hZ w66 w10 (by decide) (by decide)) q11a q11c (g := (mkF m 25 #[.val (.ref x_), .val (.ref va_1), .val (.int (3 : Int32)), .val (.int (2 : Int32)), .val (.ref s_VIEW)] [(.ref x_), (.ref s_VIEW_id)])) rfl (by rw [hml]; rfl) (Steps.refl _) (argsL := [(.ref x_)]) (rest := []) (lenOf own_pd2 rfl) rfl (by show 2 * 0 + _ ≤ _; exact Nat.le_of_eq rfl) (hb hby d4_25) (fun _ _ => ⟨rfl, e10, (by decide : 1 + 0 ≤ _), (by decide : 3 + 0 ≤ _)⟩)
  dsimp only [Pt.U, Pt.locs, Pt.cells, Pt.slots] at X11 l11 y11 z11 st11 hQ11
  subst l11 y11 z11
  obtain ⟨rfl, Nq11, e11⟩ := hQ11
  have N11 := Fr.app N8 Nq11
  refine otr (S' := T11.setTop (mkF m 28 #[.val (.ref x_), .val (.ref va_1), .val (.int (3 : Int32)), .val (.int (2 : Int32)), .val (.ref s_VIEW)] [(.int (1 : Int32))])) st11 ?_
  refine o_ifNo X11 hx (hb hby d4_28) (feq (by decide : ¬ ((1 : Int32) = (0 : Int32)))).1 ?_
  refine o_aload X11 hx (hb hby d4_31) rfl rfl ?_
  refine oend X11 hlk (v := some (.ref s_VIEW)) (fun h => by rw [hret] at h; cases h) (fun fs hr => retOut X11 hx (t := (.object "com/example/atomic_tally/atomictally/model/Metric")) (i := .areturn) hret rfl (Or.inr (Or.inr (Or.inr (Or.inr ⟨rfl, rfl, rfl⟩)))) (hb hby d4_33) hr) (by decide) (by decide) ?_
  show own_Q_parse_2 Z _ _ _ _ _ _ _ _ _ _ _ _ _ _ _ _ _ _ _ _ _ h0 n0 _ T11.heap _
  rw [e11]
  exact ⟨rfl, N11, ((Keep.refl h0 []).trans K1 all0)⟩
theorem d5_0 : decode prog_5_method_4_code 0 = .ok (.aload_n 0, 1) := by decide +kernel
theorem d5_1 : decode prog_5_method_4_code 1 = .ok (.getfield 32, 3) := by decide +kernel
theorem d5_4 : decode prog_5_method_4_code 4 = .ok (.areturn, 1) := by decide +kernel
def own_Q_id (Z : State)  (t_ : Addr) (v_ : Addr) (h0 : Heap) (n0 : Nat) (v : Option Value) (h : Heap) (L : List Loc) : Prop := (v = some (.ref v_)) ∧ (Fr n0 L) ∧ (h = h0)
abbrev yM4 : MethodName := ⟨"com/example/atomic_tally/atomictally/model/Metric", "id", "()Ljava/lang/String;"⟩
set_option maxRecDepth 65536 in
set_option maxHeartbeats 40000000 in
theorem rm_id (l : Launch) (Z : State) (a0 : Array Value) (hw : ∀ d ∈ tables_1, d.before a0 Z = true) (ws : List Jvm.Cond)  (t_ : Addr) (v_ : Addr) (h0 : Heap) (n0 : Nat) (O0 : Old Z n0 h0) (pr0 : Fld Z h0 t_ "com/example/atomic_tally/atomictally/model/Metric" "id" "Ljava/lang/String;" (.ref v_)) :
    oMet l Z yM4 prog_5_method_4_code 1 (some (.object "java/lang/String")) ws ({ frames := 0, cells := 0, slots := 0, locals := 0 } : Room) 0 0 #[(.ref t_)] h0 (own_Q_id Z  t_ v_ h0 n0) := by
  refine oenter own_pn0 #[.val (.ref t_)] (fun m => by first | (simp [entryFrame, mkF, argsToLocals, Value.category]; done) | rfl) ?_
  intro p e s m below meth c s₁ X0 hx hZ hby hml hret hown0 hnm hlk e0
  have hown : s.vm.findClass "com/example/atomic_tally/atomictally/model/Metric" = some m.cls := hown0
  have N0 := Fr.nil n0
  have w60 := hw _ (List.mem_of_getElem? (i := 60) rfl)
  refine o_aloadN X0 hx (hb hby d5_0) rfl rfl ?_
  obtain ⟨T1, X1, e1, st1⟩ := getF X0 hx hZ hown (host := "") (Or.inl w60) Via.refl e0 pr0 (g := (mkF m 1 #[.val (.ref t_)] [(.ref t_)])) rfl rfl (hb hby d5_1)
  refine ogo (S' := T1.setTop (mkF m 4 #[.val (.ref t_)] [(.ref v_)])) st1 ?_
  refine oend X1 hlk (v := some (.ref v_)) (fun h => by rw [hret] at h; cases h) (fun fs hr => retOut X1 hx (t := (.object "java/lang/String")) (i := .areturn) hret rfl (Or.inr (Or.inr (Or.inr (Or.inr ⟨rfl, rfl, rfl⟩)))) (hb hby d5_4) hr) (by decide) (by decide) ?_
  show own_Q_id Z _ _ h0 n0 _ T1.heap _
  rw [e1]
  exact ⟨rfl, N0, rfl⟩
theorem d6_0 : decode jdk_52_method_21_code 0 = .ok (.iconst 0, 1) := by decide +kernel
theorem d6_1 : decode jdk_52_method_21_code 1 = .ok (.istore 5, 2) := by decide +kernel
theorem d6_3 : decode jdk_52_method_21_code 3 = .ok (.iload 5, 2) := by decide +kernel
theorem d6_5 : decode jdk_52_method_21_code 5 = .ok (.iload 4, 2) := by decide +kernel
theorem d6_7 : decode jdk_52_method_21_code 7 = .ok (.if_icmp .ge 37, 3) := by decide +kernel
theorem d6_10 : decode jdk_52_method_21_code 10 = .ok (.aload_n 0, 1) := by decide +kernel
theorem d6_11 : decode jdk_52_method_21_code 11 = .ok (.iload_n 1, 1) := by decide +kernel
theorem d6_12 : decode jdk_52_method_21_code 12 = .ok (.caload, 1) := by decide +kernel
theorem d6_13 : decode jdk_52_method_21_code 13 = .ok (.istore 6, 2) := by decide +kernel
theorem d6_15 : decode jdk_52_method_21_code 15 = .ok (.iload 6, 2) := by decide +kernel
theorem d6_17 : decode jdk_52_method_21_code 17 = .ok (.sipush 255, 3) := by decide +kernel
theorem d6_20 : decode jdk_52_method_21_code 20 = .ok (.if_icmp .le 6, 3) := by decide +kernel
theorem d6_26 : decode jdk_52_method_21_code 26 = .ok (.aload_n 2, 1) := by decide +kernel
theorem d6_27 : decode jdk_52_method_21_code 27 = .ok (.iload_n 3, 1) := by decide +kernel
theorem d6_28 : decode jdk_52_method_21_code 28 = .ok (.iload 6, 2) := by decide +kernel
theorem d6_30 : decode jdk_52_method_21_code 30 = .ok (.i2b, 1) := by decide +kernel
theorem d6_31 : decode jdk_52_method_21_code 31 = .ok (.bastore, 1) := by decide +kernel
theorem d6_32 : decode jdk_52_method_21_code 32 = .ok (.iinc 1 1, 3) := by decide +kernel
theorem d6_35 : decode jdk_52_method_21_code 35 = .ok (.iinc 3 1, 3) := by decide +kernel
theorem d6_38 : decode jdk_52_method_21_code 38 = .ok (.iinc 5 1, 3) := by decide +kernel
theorem d6_41 : decode jdk_52_method_21_code 41 = .ok (.goto (-38), 3) := by decide +kernel
theorem d6_44 : decode jdk_52_method_21_code 44 = .ok (.iload 4, 2) := by decide +kernel
theorem d6_46 : decode jdk_52_method_21_code 46 = .ok (.ireturn, 1) := by decide +kernel
theorem own_pn3 : plainName "java/lang/StringUTF16" = true := by first | (simp [plainName, overriddenIn]; done) | decide +kernel
def own_Q_cmp5_3 (Z : State)  (ca_ : Addr) (kc_ : ClassId) (ba_ : Addr) (kb_ : ClassId) (c0_ : Int32) (c1_ : Int32) (c2_ : Int32) (h0 : Heap) (n0 : Nat) (v : Option Value) (h : Heap) (L : List Loc) : Prop := (v = some (.int (3 : Int32))) ∧ (Fr n0 L) ∧ (Keep h0 h [ba_]) ∧ (Arv Z h ba_ kb_ .byte (3 : Int32) [(.int c0_.toInt8.toInt32), (.int c1_.toInt8.toInt32), (.int c2_.toInt8.toInt32)] (.int 0))
abbrev yM5 : MethodName := ⟨"java/lang/StringUTF16", "compress", "([CI[BII)I"⟩
set_option maxRecDepth 65536 in
set_option maxHeartbeats 40000000 in
theorem rm_cmp5_3 (l : Launch) (Z : State) (a0 : Array Value) (hw : ∀ d ∈ tables_1, d.before a0 Z = true) (ws : List Jvm.Cond)  (ca_ : Addr) (kc_ : ClassId) (ba_ : Addr) (kb_ : ClassId) (c0_ : Int32) (c1_ : Int32) (c2_ : Int32) (h0 : Heap) (n0 : Nat) (O0 : Old Z n0 h0) (pr0 : Arv Z h0 ca_ kc_ .char (3 : Int32) [(.int c0_), (.int c1_), (.int c2_)] (.int 0)) (pr1 : Arv Z h0 ba_ kb_ .byte (3 : Int32) [(.int 0), (.int 0), (.int 0)] (.int 0)) (pr2 : ca_ ≠ ba_) (pr3 : n0 ≤ ba_) (pr4 : ¬ ((255 : Int32) < c0_)) (pr5 : ¬ ((255 : Int32) < c1_)) (pr6 : ¬ ((255 : Int32) < c2_)) :
    oMet l Z yM5 jdk_52_method_21_code 7 (some .int) ws ({ frames := 0, cells := 0, slots := 0, locals := 0 } : Room) 0 0 #[(.ref ca_), (.int (0 : Int32)), (.ref ba_), (.int (0 : Int32)), (.int (3 : Int32))] h0 (own_Q_cmp5_3 Z  ca_ kc_ ba_ kb_ c0_ c1_ c2_ h0 n0) := by
  refine oenter own_pn3 #[.val (.ref ca_), .val (.int (0 : Int32)), .val (.ref ba_), .val (.int (0 : Int32)), .val (.int (3 : Int32)), .unset, .unset] (fun m => by first | (simp [entryFrame, mkF, argsToLocals, Value.category]; done) | rfl) ?_
  intro p e s m below meth c s₁ X0 hx hZ hby hml hret hown0 hnm hlk e0
  have hown : s.vm.findClass "java/lang/StringUTF16" = some m.cls := hown0
  have N0 := Fr.nil n0
  refine o_iconst X0 hx (0 : Int32) (hb hby d6_0) rfl ?_
  refine o_istore X0 hx (l' := #[.val (.ref ca_), .val (.int (0 : Int32)), .val (.ref ba_), .val (.int (0 : Int32)), .val (.int (3 : Int32)), .val (.int (0 : Int32)), .unset]) (hb hby d6_1) rfl ?_
  refine o_iload X0 hx (hb hby d6_3) rfl ?_
  refine o_iload X0 hx (hb hby d6_5) rfl ?_
  refine o_icmpNo X0 hx (hb hby d6_7) (tlt (by decide : (0 : Int32) < (3 : Int32))).2.1 ?_
  refine o_aloadN X0 hx (hb hby d6_10) rfl rfl ?_
  refine o_iloadN X0 hx (hb hby d6_11) rfl ?_
  obtain ⟨cl1, Ar1, q1, S1, N1z, H1, G1⟩ := (id pr0)
  have hi1 := inb_of (j := (0 : Int32)) S1 ⟨by decide, by decide⟩
  have ha1 := Has.at (v := (.int c0_)) H1 hi1 rfl
  refine ogo (S' := s₁.setTop (mkF m 13 #[.val (.ref ca_), .val (.int (0 : Int32)), .val (.ref ba_), .val (.int (0 : Int32)), .val (.int (3 : Int32)), .val (.int (0 : Int32)), .unset] [(.int c0_)])) (X0.caload hx (j := (0 : Int32)) (v := (.int c0_)) (by rw [e0]; exact Ar1.1) (State.isArrayOf_alike hZ.alike Ar1.2.1) Ar1.2.2 hi1 ha1 (g := (mkF m 12 #[.val (.ref ca_), .val (.int (0 : Int32)), .val (.ref ba_), .val (.int (0 : Int32)), .val (.int (3 : Int32)), .val (.int (0 : Int32)), .unset] [(.int (0 : Int32)), (.ref ca_)])) rfl rfl (hb hby d6_12)) ?_
  refine o_istore X0 hx (l' := #[.val (.ref ca_), .val (.int (0 : Int32)), .val (.ref ba_), .val (.int (0 : Int32)), .val (.int (3 : Int32)), .val (.int (0 : Int32)), .val (.int c0_)]) (hb hby d6_13) rfl ?_
  refine o_iload X0 hx (hb hby d6_15) rfl ?_
  refine o_sipush X0 hx (255 : Int32) (hb hby d6_17) rfl ?_
  refine o_icmpYes X0 hx 26 (hb hby d6_20) (flt pr4).2.2.2 (by decide) (by decide) ?_
  refine o_aloadN X0 hx (hb hby d6_26) rfl rfl ?_
  refine o_iloadN X0 hx (hb hby d6_27) rfl ?_
  refine o_iload X0 hx (hb hby d6_28) rfl ?_
  refine o_i2b X0 hx (hb hby d6_30) ?_
  obtain ⟨cl2, Ar2, q2, S2, N2z, H2, G2⟩ := (id pr1)
  obtain ⟨T2, _, X2, rfl, W2, st2⟩ := stB X0 hx hZ e0 Ar2 (j := (0 : Int32)) (inb_of S2 ⟨by decide, by decide⟩) (g := (mkF m 31 #[.val (.ref ca_), .val (.int (0 : Int32)), .val (.ref ba_), .val (.int (0 : Int32)), .val (.int (3 : Int32)), .val (.int (0 : Int32)), .val (.int c0_)] [(.int c0_.toInt8.toInt32), (.int (0 : Int32)), (.ref ba_)])) rfl rfl (hb hby d6_31)
  rw [own_narb] at W2
  have V2 : Arv Z T2.heap ba_ kb_ .byte (3 : Int32) [(.int c0_.toInt8.toInt32), (.int 0), (.int 0)] (.int 0) := Arv.set Ar2 q2 S2 N2z H2 G2 (fits_nar_byte _) W2 0 rfl (Nat.le_of_ble_eq_true rfl)
  have N2 := Fr.snoc X2 N0 pr3
  refine ogo (S' := T2.setTop (mkF m 32 #[.val (.ref ca_), .val (.int (0 : Int32)), .val (.ref ba_), .val (.int (0 : Int32)), .val (.int (3 : Int32)), .val (.int (0 : Int32)), .val (.int c0_)] [])) st2 ?_
  refine o_iinc X2 hx (l' := #[.val (.ref ca_), .val (.int (1 : Int32)), .val (.ref ba_), .val (.int (0 : Int32)), .val (.int (3 : Int32)), .val (.int (0 : Int32)), .val (.int c0_)]) (hb hby d6_32) rfl rfl ?_
  refine o_iinc X2 hx (l' := #[.val (.ref ca_), .val (.int (1 : Int32)), .val (.ref ba_), .val (.int (1 : Int32)), .val (.int (3 : Int32)), .val (.int (0 : Int32)), .val (.int c0_)]) (hb hby d6_35) rfl rfl ?_
  refine o_iinc X2 hx (l' := #[.val (.ref ca_), .val (.int (1 : Int32)), .val (.ref ba_), .val (.int (1 : Int32)), .val (.int (3 : Int32)), .val (.int (1 : Int32)), .val (.int c0_)]) (hb hby d6_38) rfl rfl ?_
  refine o_goto X2 hx 3 (hb hby d6_41) (by decide) (by decide) ?_
  refine o_iload X2 hx (hb hby d6_3) rfl ?_
  refine o_iload X2 hx (hb hby d6_5) rfl ?_
  refine o_icmpNo X2 hx (hb hby d6_7) (tlt (by decide : (1 : Int32) < (3 : Int32))).2.1 ?_
  refine o_aloadN X2 hx (hb hby d6_10) rfl rfl ?_
  refine o_iloadN X2 hx (hb hby d6_11) rfl ?_
  obtain ⟨cl3, Ar3, q3, S3, N3z, H3, G3⟩ := (id (pr0.other W2 pr2))
  have hi3 := inb_of (j := (1 : Int32)) S3 ⟨by decide, by decide⟩
  have ha3 := Has.at (v := (.int c1_)) H3 hi3 rfl
  refine ogo (S' := T2.setTop (mkF m 13 #[.val (.ref ca_), .val (.int (1 : Int32)), .val (.ref ba_), .val (.int (1 : Int32)), .val (.int (3 : Int32)), .val (.int (1 : Int32)), .val (.int c0_)] [(.int c1_)])) (X2.caload hx (j := (1 : Int32)) (v := (.int c1_)) Ar3.1 (State.isArrayOf_alike hZ.alike Ar3.2.1) Ar3.2.2 hi3 ha3 (g := (mkF m 12 #[.val (.ref ca_), .val (.int (1 : Int32)), .val (.ref ba_), .val (.int (1 : Int32)), .val (.int (3 : Int32)), .val (.int (1 : Int32)), .val (.int c0_)] [(.int (1 : Int32)), (.ref ca_)])) rfl rfl (hb hby d6_12)) ?_
  refine o_istore X2 hx (l' := #[.val (.ref ca_), .val (.int (1 : Int32)), .val (.ref ba_), .val (.int (1 : Int32)), .val (.int (3 : Int32)), .val (.int (1 : Int32)), .val (.int c1_)]) (hb hby d6_13) rfl ?_
  refine o_iload X2 hx (hb hby d6_15) rfl ?_
  refine o_sipush X2 hx (255 : Int32) (hb hby d6_17) rfl ?_
  refine o_icmpYes X2 hx 26 (hb hby d6_20) (flt pr5).2.2.2 (by decide) (by decide) ?_
  refine o_aloadN X2 hx (hb hby d6_26) rfl rfl ?_
  refine o_iloadN X2 hx (hb hby d6_27) rfl ?_
  refine o_iload X2 hx (hb hby d6_28) rfl ?_
  refine o_i2b X2 hx (hb hby d6_30) ?_
  obtain ⟨cl4, Ar4, q4, S4, N4z, H4, G4⟩ := (id V2)
  obtain ⟨T4, _, X4, rfl, W4, st4⟩ := stB X2 hx hZ rfl Ar4 (j := (1 : Int32)) (inb_of S4 ⟨by decide, by decide⟩) (g := (mkF m 31 #[.val (.ref ca_), .val (.int (1 : Int32)), .val (.ref ba_), .val (.int (1 : Int32)), .val (.int (3 : Int32)), .val (.int (1 : Int32)), .val (.int c1_)] [(.int c1_.toInt8.toInt32), (.int (1 : Int32)), (.ref ba_)])) rfl rfl (hb hby d6_31)
  rw [own_narb] at W4
  have V4 : Arv Z T4.heap ba_ kb_ .byte (3 : Int32) [(.int c0_.toInt8.toInt32), (.int c1_.toInt8.toInt32), (.int 0)] (.int 0) := Arv.set Ar4 q4 S4 N4z H4 G4 (fits_nar_byte _) W4 1 rfl (Nat.le_of_ble_eq_true rfl)
  have N4 := Fr.snoc X4 N2 pr3
  refine ogo (S' := T4.setTop (mkF m 32 #[.val (.ref ca_), .val (.int (1 : Int32)), .val (.ref ba_), .val (.int (1 : Int32)), .val (.int (3 : Int32)), .val (.int (1 : Int32)), .val (.int c1_)] [])) st4 ?_
  refine o_iinc X4 hx (l' := #[.val (.ref ca_), .val (.int (2 : Int32)), .val (.ref ba_), .val (.int (1 : Int32)), .val (.int (3 : Int32)), .val (.int (1 : Int32)), .val (.int c1_)]) (hb hby d6_32) rfl rfl ?_
  refine o_iinc X4 hx (l' := #[.val (.ref ca_), .val (.int (2 : Int32)), .val (.ref ba_), .val (.int (2 : Int32)), .val (.int (3 : Int32)), .val (.int (1 : Int32)), .val (.int c1_)]) (hb hby d6_35) rfl rfl ?_
  refine o_iinc X4 hx (l' := #[.val (.ref ca_), .val (.int (2 : Int32)), .val (.ref ba_), .val (.int (2 : Int32)), .val (.int (3 : Int32)), .val (.int (2 : Int32)), .val (.int c1_)]) (hb hby d6_38) rfl rfl ?_
  refine o_goto X4 hx 3 (hb hby d6_41) (by decide) (by decide) ?_
  refine o_iload X4 hx (hb hby d6_3) rfl ?_
  refine o_iload X4 hx (hb hby d6_5) rfl ?_
  refine o_icmpNo X4 hx (hb hby d6_7) (tlt (by decide : (2 : Int32) < (3 : Int32))).2.1 ?_
  refine o_aloadN X4 hx (hb hby d6_10) rfl rfl ?_
  refine o_iloadN X4 hx (hb hby d6_11) rfl ?_
  obtain ⟨cl5, Ar5, q5, S5, N5z, H5, G5⟩ := (id ((pr0.other W2 pr2).other W4 pr2))
  have hi5 := inb_of (j := (2 : Int32)) S5 ⟨by decide, by decide⟩
  have ha5 := Has.at (v := (.int c2_)) H5 hi5 rfl
  refine ogo (S' := T4.setTop (mkF m 13 #[.val (.ref ca_), .val (.int (2 : Int32)), .val (.ref ba_), .val (.int (2 : Int32)), .val (.int (3 : Int32)), .val (.int (2 : Int32)), .val (.int c1_)] [(.int c2_)])) (X4.caload hx (j := (2 : Int32)) (v := (.int c2_)) Ar5.1 (State.isArrayOf_alike hZ.alike Ar5.2.1) Ar5.2.2 hi5 ha5 (g := (mkF m 12 #[.val (.ref ca_), .val (.int (2 : Int32)), .val (.ref ba_), .val (.int (2 : Int32)), .val (.int (3 : Int32)), .val (.int (2 : Int32)), .val (.int c1_)] [(.int (2 : Int32)), (.ref ca_)])) rfl rfl (hb hby d6_12)) ?_
  refine o_istore X4 hx (l' := #[.val (.ref ca_), .val (.int (2 : Int32)), .val (.ref ba_), .val (.int (2 : Int32)), .val (.int (3 : Int32)), .val (.int (2 : Int32)), .val (.int c2_)]) (hb hby d6_13) rfl ?_
  refine o_iload X4 hx (hb hby d6_15) rfl ?_
  refine o_sipush X4 hx (255 : Int32) (hb hby d6_17) rfl ?_
  refine o_icmpYes X4 hx 26 (hb hby d6_20) (flt pr6).2.2.2 (by decide) (by decide) ?_
  refine o_aloadN X4 hx (hb hby d6_26) rfl rfl ?_
  refine o_iloadN X4 hx (hb hby d6_27) rfl ?_
  refine o_iload X4 hx (hb hby d6_28) rfl ?_
  refine o_i2b X4 hx (hb hby d6_30) ?_
  obtain ⟨cl6, Ar6, q6, S6, N6z, H6, G6⟩ := (id V4)
  obtain ⟨T6, _, X6, rfl, W6, st6⟩ := stB X4 hx hZ rfl Ar6 (j := (2 : Int32)) (inb_of S6 ⟨by decide, by decide⟩) (g := (mkF m 31 #[.val (.ref ca_), .val (.int (2 : Int32)), .val (.ref ba_), .val (.int (2 : Int32)), .val (.int (3 : Int32)), .val (.int (2 : Int32)), .val (.int c2_)] [(.int c2_.toInt8.toInt32), (.int (2 : Int32)), (.ref ba_)])) rfl rfl (hb hby d6_31)
  rw [own_narb] at W6
  have V6 : Arv Z T6.heap ba_ kb_ .byte (3 : Int32) [(.int c0_.toInt8.toInt32), (.int c1_.toInt8.toInt32), (.int c2_.toInt8.toInt32)] (.int 0) := Arv.set Ar6 q6 S6 N6z H6 G6 (fits_nar_byte _) W6 2 rfl (Nat.le_of_ble_eq_true rfl)
  have N6 := Fr.snoc X6 N4 pr3
  refine ogo (S' := T6.setTop (mkF m 32 #[.val (.ref ca_), .val (.int (2 : Int32)), .val (.ref ba_), .val (.int (2 : Int32)), .val (.int (3 : Int32)), .val (.int (2 : Int32)), .val (.int c2_)] [])) st6 ?_
  refine o_iinc X6 hx (l' := #[.val (.ref ca_), .val (.int (3 : Int32)), .val (.ref ba_), .val (.int (2 : Int32)), .val (.int (3 : Int32)), .val (.int (2 : Int32)), .val (.int c2_)]) (hb hby d6_32) rfl rfl ?_
  refine o_iinc X6 hx (l' := #[.val (.ref ca_), .val (.int (3 : Int32)), .val (.ref ba_), .val (.int (3 : Int32)), .val (.int (3 : Int32)), .val (.int (2 : Int32)), .val (.int c2_)]) (hb hby d6_35) rfl rfl ?_
  refine o_iinc X6 hx (l' := #[.val (.ref ca_), .val (.int (3 : Int32)), .val (.ref ba_), .val (.int (3 : Int32)), .val (.int (3 : Int32)), .val (.int (3 : Int32)), .val (.int c2_)]) (hb hby d6_38) rfl rfl ?_
  refine o_goto X6 hx 3 (hb hby d6_41) (by decide) (by decide) ?_
  refine o_iload X6 hx (hb hby d6_3) rfl ?_
  refine o_iload X6 hx (hb hby d6_5) rfl ?_
  refine o_icmpYes X6 hx 44 (hb hby d6_7) (flt (by decide : ¬ ((3 : Int32) < (3 : Int32)))).2.1 (by decide) (by decide) ?_
  refine o_iload X6 hx (hb hby d6_44) rfl ?_
  refine oend X6 hlk (v := some (.int (3 : Int32))) (fun h => by rw [hret] at h; cases h) (fun fs hr => retOut X6 hx (t := .int) (i := .ireturn) hret rfl (Or.inl ⟨rfl, Or.inl rfl, _, rfl⟩) (hb hby d6_46) hr) (by decide) (by decide) ?_
  show own_Q_cmp5_3 Z _ _ _ _ _ _ _ h0 n0 _ T6.heap _
  exact ⟨rfl, N6, ((((Keep.refl h0 [ba_]).wr W2 (Or.inl (List.mem_of_getElem? (i := 0) rfl))).wr W4 (Or.inl (List.mem_of_getElem? (i := 0) rfl))).wr W6 (Or.inl (List.mem_of_getElem? (i := 0) rfl))), V6⟩
theorem own_pd3 : parseMethodDescriptor "([CI[BII)I" = some ⟨[(.array .char), .int, (.array .byte), .int, .int], some .int⟩ := by decide +kernel
theorem d7_0 : decode jdk_52_method_16_code 0 = .ok (.iload_n 2, 1) := by decide +kernel
theorem d7_1 : decode jdk_52_method_16_code 1 = .ok (.newarray .byte, 2) := by decide +kernel
theorem d7_3 : decode jdk_52_method_16_code 3 = .ok (.astore_n 3, 1) := by decide +kernel
theorem d7_4 : decode jdk_52_method_16_code 4 = .ok (.aload_n 0, 1) := by decide +kernel
theorem d7_5 : decode jdk_52_method_16_code 5 = .ok (.iload_n 1, 1) := by decide +kernel
theorem d7_6 : decode jdk_52_method_16_code 6 = .ok (.aload_n 3, 1) := by decide +kernel
theorem d7_7 : decode jdk_52_method_16_code 7 = .ok (.iconst 0, 1) := by decide +kernel
theorem d7_8 : decode jdk_52_method_16_code 8 = .ok (.iload_n 2, 1) := by decide +kernel
theorem d7_9 : decode jdk_52_method_16_code 9 = .ok (.invokestatic 115, 3) := by decide +kernel
theorem d7_12 : decode jdk_52_method_16_code 12 = .ok (.istore 4, 2) := by decide +kernel
theorem d7_14 : decode jdk_52_method_16_code 14 = .ok (.iload 4, 2) := by decide +kernel
theorem d7_16 : decode jdk_52_method_16_code 16 = .ok (.iload_n 2, 1) := by decide +kernel
theorem d7_17 : decode jdk_52_method_16_code 17 = .ok (.if_icmp .eq 40, 3) := by decide +kernel
theorem d7_57 : decode jdk_52_method_16_code 57 = .ok (.aload_n 3, 1) := by decide +kernel
theorem d7_58 : decode jdk_52_method_16_code 58 = .ok (.areturn, 1) := by decide +kernel
def own_Q_cmp3_3 (Z : State)  (ca_ : Addr) (kc_ : ClassId) (c0_ : Int32) (c1_ : Int32) (c2_ : Int32) (h0 : Heap) (n0 : Nat) (v : Option Value) (h : Heap) (L : List Loc) : Prop := ∃ ba_ : Addr, ∃ kb_ : ClassId, (v = some (.ref ba_)) ∧ (Fr n0 L) ∧ (Keep h0 h []) ∧ (h0.size ≤ ba_) ∧ (Arv Z h ba_ kb_ .byte (3 : Int32) [(.int c0_.toInt8.toInt32), (.int c1_.toInt8.toInt32), (.int c2_.toInt8.toInt32)] (.int 0))
abbrev yM6 : MethodName := ⟨"java/lang/StringUTF16", "compress", "([CII)[B"⟩
set_option maxRecDepth 65536 in
set_option maxHeartbeats 40000000 in
theorem rm_cmp3_3 (l : Launch) (Z : State) (a0 : Array Value) (hw : ∀ d ∈ tables_1, d.before a0 Z = true) (ws : List Jvm.Cond)  (ca_ : Addr) (kc_ : ClassId) (c0_ : Int32) (c1_ : Int32) (c2_ : Int32) (h0 : Heap) (n0 : Nat) (O0 : Old Z n0 h0) (pr0 : Arv Z h0 ca_ kc_ .char (3 : Int32) [(.int c0_), (.int c1_), (.int c2_)] (.int 0)) (pr1 : ¬ ((255 : Int32) < c0_)) (pr2 : ¬ ((255 : Int32) < c1_)) (pr3 : ¬ ((255 : Int32) < c2_)) :
    oMet l Z yM6 jdk_52_method_16_code 6 (some (.array .byte)) ws ({ frames := 1, cells := 1, slots := 3, locals := 18 } : Room) 1 3 #[(.ref ca_), (.int (0 : Int32)), (.int (3 : Int32))] h0 (own_Q_cmp3_3 Z  ca_ kc_ c0_ c1_ c2_ h0 n0) := by
  refine oenter own_pn3 #[.val (.ref ca_), .val (.int (0 : Int32)), .val (.int (3 : Int32)), .unset, .unset, .unset] (fun m => by first | (simp [entryFrame, mkF, argsToLocals, Value.category]; done) | rfl) ?_
  intro p e s m below meth c s₁ X0 hx hZ hby hml hret hown0 hnm hlk e0
  have hown : s.vm.findClass "java/lang/StringUTF16" = some m.cls := hown0
  have N0 := Fr.nil n0
  have w24 := hw _ (List.mem_of_getElem? (i := 24) rfl)
  have w26 := hw _ (List.mem_of_getElem? (i := 26) rfl)
  have w27 := hw _ (List.mem_of_getElem? (i := 27) rfl)
  have w28 := hw _ (List.mem_of_getElem? (i := 28) rfl)
  have w29 := hw _ (List.mem_of_getElem? (i := 29) rfl)
  refine o_iloadN X0 hx (hb hby d7_0) rfl ?_
  obtain ⟨T1, _, k1, X1, rfl, E1, A1, Ex1, st1⟩ := newPE (aty := .byte) X0 hx hZ w26 e0 (g := (mkF m 1 #[.val (.ref ca_), .val (.int (0 : Int32)), .val (.int (3 : Int32)), .unset, .unset, .unset] [(.int (3 : Int32))])) rfl (hb hby d7_1) rfl (by decide) (cap := 3) (by decide) (by decide) (by decide) (by decide) (ad := "[B") rfl
  obtain ⟨b1, g1⟩ : ∃ z, z = h0.size := ⟨_, rfl⟩
  rw [← g1] at A1 Ex1 st1
  have n0_b1 : n0 ≤ b1 := Nat.le_trans (Nat.le_trans (Nat.le_of_eq O0.1.symm) O0.2.1) (Nat.le_trans (Nat.le_refl _) (Nat.le_of_eq g1.symm))
  have V1 : Arv Z T1.heap b1 k1 .byte (3 : Int32) [(.int 0), (.int 0), (.int 0)] (.int 0) := (Arv.new A1 (by decide)).pad (pad_rep [] (.int 0) 3)
  refine ogo (S' := T1.setTop (mkF m 3 #[.val (.ref ca_), .val (.int (0 : Int32)), .val (.int (3 : Int32)), .unset, .unset, .unset] [(.ref b1)])) st1 ?_
  refine o_astoreN X1 hx (l' := #[.val (.ref ca_), .val (.int (0 : Int32)), .val (.int (3 : Int32)), .val (.ref b1), .unset, .unset]) (hb hby d7_3) rfl rfl ?_
  refine o_aloadN X1 hx (hb hby d7_4) rfl rfl ?_
  refine o_iloadN X1 hx (hb hby d7_5) rfl ?_
  refine o_aloadN X1 hx (hb hby d7_6) rfl rfl ?_
  refine o_iconst X1 hx (0 : Int32) (hb hby d7_7) rfl ?_
  refine o_iloadN X1 hx (hb hby d7_8) rfl ?_
  obtain ⟨_, _, ⟨T2, L2, kc2, n2⟩, -, X2, ⟨Lc2, hQ2, l2, y2, z2⟩, st2⟩ := Jvm.LawKit.callS X1 hx (y := yM5) hown (mvT hZ w27) (mvT hZ w28) (mvT hZ w24) (mvT hZ w29) (by decide) (backOf (W := 0) (rm_cmp5_3 l Z a0 hw []  ca_ kc_ b1 k1 c0_ c1_ c2_ T1.heap n0 (O0.ext E1) (pr0.ext E1) V1 (Nat.ne_of_lt (Nat.lt_of_lt_of_le (Nat.lt_of_lt_of_le pr0.lt (Nat.le_refl _)) (Nat.le_of_eq g1.symm))) n0_b1 pr1 pr2 pr3) hZ w29 w24 (by decide) (by decide)) (g := (mkF m 9 #[.val (.ref ca_), .val (.int (0 : Int32)), .val (.int (3 : Int32)), .val (.ref b1), .unset, .unset] [(.int (3 : Int32)), (.int (0 : Int32)), (.ref b1), (.int (0 : Int32)), (.ref ca_)])) rfl (by rw [hml]; rfl) (argsL := [(.ref ca_), (.int (0 : Int32)), (.ref b1), (.int (0 : Int32)), (.int (3 : Int32))]) (rest := []) (lenOf own_pd3 rfl) rfl (by show 2 * 0 + _ ≤ _; exact Nat.le_of_eq rfl) (hb hby d7_9) (fun _ _ => ⟨rfl, rfl, (by decide : 1 + 0 ≤ _), (by decide : 3 + 0 ≤ _)⟩)
  dsimp only [Pt.U, Pt.locs, Pt.cells, Pt.slots] at X2 l2 y2 z2 st2 hQ2
  subst l2 y2 z2
  obtain ⟨rfl, Nq2, K2, p2_0⟩ := hQ2
  have N2 := Fr.app N0 Nq2
  refine ogo (S' := T2.setTop (mkF m 12 #[.val (.ref ca_), .val (.int (0 : Int32)), .val (.int (3 : Int32)), .val (.ref b1), .unset, .unset] [(.int (3 : Int32))])) st2 ?_
  refine o_istore X2 hx (l' := #[.val (.ref ca_), .val (.int (0 : Int32)), .val (.int (3 : Int32)), .val (.ref b1), .val (.int (3 : Int32)), .unset]) (hb hby d7_12) rfl ?_
  refine o_iload X2 hx (hb hby d7_14) rfl ?_
  refine o_iloadN X2 hx (hb hby d7_16) rfl ?_
  refine o_icmpYes X2 hx 57 (hb hby d7_17) (teq (by decide : (3 : Int32) = (3 : Int32))).1 (by decide) (by decide) ?_
  refine o_aloadN X2 hx (hb hby d7_57) rfl rfl ?_
  refine oend X2 hlk (v := some (.ref b1)) (fun h => by rw [hret] at h; cases h) (fun fs hr => retOut X2 hx (t := (.array .byte)) (i := .areturn) hret rfl (Or.inr (Or.inr (Or.inr (Or.inr ⟨rfl, rfl, rfl⟩)))) (hb hby d7_58) hr) (by decide) (by decide) ?_
  show own_Q_cmp3_3 Z _ _ _ _ _ h0 n0 _ T2.heap _
  exact ⟨b1, k1, rfl, N2, (((Keep.refl h0 []).ext E1).trans K2 (allS (Or.inr (Nat.le_trans (Nat.le_refl _) (Nat.le_of_eq g1.symm))) all0)), (Nat.le_trans (Nat.le_refl _) (Nat.le_of_eq g1.symm)), p2_0⟩
theorem d8_0 : decode jdk_52_method_15_code 0 = .ok (.iload_n 1, 1) := by decide +kernel
theorem d8_1 : decode jdk_52_method_15_code 1 = .ok (.aload_n 0, 1) := by decide +kernel
theorem d8_2 : decode jdk_52_method_15_code 2 = .ok (.arraylength, 1) := by decide +kernel
theorem d8_3 : decode jdk_52_method_15_code 3 = .ok (.isub, 1) := by decide +kernel
theorem d8_4 : decode jdk_52_method_15_code 4 = .ok (.bipush 31, 2) := by decide +kernel
theorem d8_6 : decode jdk_52_method_15_code 6 = .ok (.iushr, 1) := by decide +kernel
theorem d8_7 : decode jdk_52_method_15_code 7 = .ok (.i2b, 1) := by decide +kernel
theorem d8_8 : decode jdk_52_method_15_code 8 = .ok (.ireturn, 1) := by decide +kernel
def own_Q_codl_3 (Z : State)  (ba_ : Addr) (kb_ : ClassId) (vs_ : List Value) (h0 : Heap) (n0 : Nat) (v : Option Value) (h : Heap) (L : List Loc) : Prop := (v = some (.int (0 : Int32))) ∧ (Fr n0 L) ∧ (h = h0)
abbrev yM7 : MethodName := ⟨"java/lang/StringUTF16", "coderFromArrayLen", "([BI)B"⟩
set_option maxRecDepth 65536 in
set_option maxHeartbeats 40000000 in
theorem rm_codl_3 (l : Launch) (Z : State) (a0 : Array Value) (hw : ∀ d ∈ tables_1, d.before a0 Z = true) (ws : List Jvm.Cond)  (ba_ : Addr) (kb_ : ClassId) (vs_ : List Value) (h0 : Heap) (n0 : Nat) (O0 : Old Z n0 h0) (pr0 : Arv Z h0 ba_ kb_ .byte (3 : Int32) vs_ (.int 0)) :
    oMet l Z yM7 jdk_52_method_15_code 2 (some .byte) ws ({ frames := 0, cells := 0, slots := 0, locals := 0 } : Room) 0 0 #[(.ref ba_), (.int (3 : Int32))] h0 (own_Q_codl_3 Z  ba_ kb_ vs_ h0 n0) := by
  refine oenter own_pn3 #[.val (.ref ba_), .val (.int (3 : Int32))] (fun m => by first | (simp [entryFrame, mkF, argsToLocals, Value.category]; done) | rfl) ?_
  intro p e s m below meth c s₁ X0 hx hZ hby hml hret hown0 hnm hlk e0
  have hown : s.vm.findClass "java/lang/StringUTF16" = some m.cls := hown0
  have N0 := Fr.nil n0
  refine o_iloadN X0 hx (hb hby d8_0) rfl ?_
  refine o_aloadN X0 hx (hb hby d8_1) rfl rfl ?_
  obtain ⟨cl1, Ar1, -, S1, N1z, -, -⟩ := (id pr0)
  refine ogo (S' := s₁.setTop (mkF m 3 #[.val (.ref ba_), .val (.int (3 : Int32))] [(.int (3 : Int32)), (.int (3 : Int32))])) (fun _ kt_ => X0.arraylength hx (by rw [e0]; exact Ar1.1) (State.isArrayOf_alike hZ.alike Ar1.2.1) (g := (mkF m 2 #[.val (.ref ba_), .val (.int (3 : Int32))] [(.ref ba_), (.int (3 : Int32))])) rfl rfl (hb hby d8_2) _ (by rw [len_of S1 N1z]; exact kt_)) ?_
  refine o_isub X0 hx (hb hby d8_3) ?_
  refine o_bipush X0 hx (31 : Int32) (hb hby d8_4) rfl ?_
  refine o_iushr X0 hx (hb hby d8_6) ?_
  refine o_i2b X0 hx (hb hby d8_7) ?_
  refine oend X0 hlk (v := some (.int (0 : Int32))) (fun h => by rw [hret] at h; cases h) (fun fs hr => retN X0 hx (t := .byte) hret (by simp) (hb hby d8_8) hr) (by decide) (by decide) ?_
  show own_Q_codl_3 Z _ _ _ h0 n0 _ s₁.heap _
  rw [e0]
  exact ⟨rfl, N0, rfl⟩
theorem own_pd4 : parseMethodDescriptor "([CII)[B" = some ⟨[(.array .char), .int, .int], some (.array .byte)⟩ := by decide +kernel
theorem own_pd5 : parseMethodDescriptor "([BI)B" = some ⟨[(.array .byte), .int], some .byte⟩ := by decide +kernel
theorem d9_0 : decode jdk_42_method_149_code 0 = .ok (.aload_n 0, 1) := by decide +kernel
theorem d9_1 : decode jdk_42_method_149_code 1 = .ok (.invokespecial 1, 3) := by decide +kernel
theorem d9_4 : decode jdk_42_method_149_code 4 = .ok (.iload_n 3, 1) := by decide +kernel
theorem d9_5 : decode jdk_42_method_149_code 5 = .ok (.ifCond .ne 22, 3) := by decide +kernel
theorem d9_27 : decode jdk_42_method_149_code 27 = .ok (.getstatic 38, 3) := by decide +kernel
theorem d9_30 : decode jdk_42_method_149_code 30 = .ok (.ifCond .eq 28, 3) := by decide +kernel
theorem d9_33 : decode jdk_42_method_149_code 33 = .ok (.aload_n 1, 1) := by decide +kernel
theorem d9_34 : decode jdk_42_method_149_code 34 = .ok (.iload_n 2, 1) := by decide +kernel
theorem d9_35 : decode jdk_42_method_149_code 35 = .ok (.iload_n 3, 1) := by decide +kernel
theorem d9_36 : decode jdk_42_method_149_code 36 = .ok (.invokestatic 177, 3) := by decide +kernel
theorem d9_39 : decode jdk_42_method_149_code 39 = .ok (.astore 5, 2) := by decide +kernel
theorem d9_41 : decode jdk_42_method_149_code 41 = .ok (.aload_n 0, 1) := by decide +kernel
theorem d9_42 : decode jdk_42_method_149_code 42 = .ok (.aload 5, 2) := by decide +kernel
theorem d9_44 : decode jdk_42_method_149_code 44 = .ok (.iload_n 3, 1) := by decide +kernel
theorem d9_45 : decode jdk_42_method_149_code 45 = .ok (.invokestatic 47, 3) := by decide +kernel
theorem d9_48 : decode jdk_42_method_149_code 48 = .ok (.putfield 15, 3) := by decide +kernel
theorem d9_51 : decode jdk_42_method_149_code 51 = .ok (.aload_n 0, 1) := by decide +kernel
theorem d9_52 : decode jdk_42_method_149_code 52 = .ok (.aload 5, 2) := by decide +kernel
theorem d9_54 : decode jdk_42_method_149_code 54 = .ok (.putfield 9, 3) := by decide +kernel
theorem d9_57 : decode jdk_42_method_149_code 57 = .ok (.return_, 1) := by decide +kernel
def own_Q_new4_3 (Z : State) (s_LIKE : Addr) (s_TOGGLE : Addr) (s__VALUES : Addr) (s_FAV : Addr) (s_VIEW : Addr) (s_LIKE_id : Addr) (s_LIKE_id_value : Addr) (s_INCREMENT : Addr) (s_FAV_id : Addr) (s_FAV_id_value : Addr) (s_VIEW_id : Addr) (s_VIEW_id_value : Addr) (k_s__VALUES : ClassId) (k_s_LIKE_id_value : ClassId) (k_s_FAV_id_value : ClassId) (k_s_VIEW_id_value : ClassId) (z_CS : Int32) (v_FMT : Value) (x_ : Addr) (ca_ : Addr) (kc_ : ClassId) (c0_ : Int32) (c1_ : Int32) (c2_ : Int32) (h0 : Heap) (n0 : Nat) (v : Option Value) (h : Heap) (L : List Loc) : Prop := ∃ ba_ : Addr, ∃ kb_ : ClassId, (v = none) ∧ (Fr n0 L) ∧ (Keep h0 h [x_]) ∧ (h0.size ≤ ba_) ∧ (Arv Z h ba_ kb_ .byte (3 : Int32) [(.int c0_.toInt8.toInt32), (.int c1_.toInt8.toInt32), (.int c2_.toInt8.toInt32)] (.int 0)) ∧ (Exa Z h x_ "java/lang/String") ∧ (Fld Z h x_ "java/lang/String" "value" "[B" (.ref ba_)) ∧ (Fld Z h x_ "java/lang/String" "coder" "B" (.int (0 : Int32)))
abbrev yM8 : MethodName := ⟨"java/lang/String", "<init>", "([CIILjava/lang/Void;)V"⟩
set_option maxRecDepth 65536 in
set_option maxHeartbeats 40000000 in
theorem rm_new4_3 (l : Launch) (Z : State) (a0 : Array Value) (hw : ∀ d ∈ tables_1, d.before a0 Z = true) (ws : List Jvm.Cond) (s_LIKE : Addr) (s_TOGGLE : Addr) (s__VALUES : Addr) (s_FAV : Addr) (s_VIEW : Addr) (s_LIKE_id : Addr) (s_LIKE_id_value : Addr) (s_INCREMENT : Addr) (s_FAV_id : Addr) (s_FAV_id_value : Addr) (s_VIEW_id : Addr) (s_VIEW_id_value : Addr) (k_s__VALUES : ClassId) (k_s_LIKE_id_value : ClassId) (k_s_FAV_id_value : ClassId) (k_s_VIEW_id_value : ClassId) (z_CS : Int32) (v_FMT : Value) (x_ : Addr) (ca_ : Addr) (kc_ : ClassId) (c0_ : Int32) (c1_ : Int32) (c2_ : Int32) (h0 : Heap) (n0 : Nat) (SB : own_Start Z s_LIKE s_TOGGLE s__VALUES s_FAV s_VIEW s_LIKE_id s_LIKE_id_value s_INCREMENT s_FAV_id s_FAV_id_value s_VIEW_id s_VIEW_id_value k_s__VALUES k_s_LIKE_id_value k_s_FAV_id_value k_s_VIEW_id_value z_CS v_FMT) (O0 : Old Z n0 h0) (pr0 : Exa Z h0 x_ "java/lang/String") (pr1 : Fld Z h0 x_ "java/lang/String" "value" "[B" .null) (pr2 : Fld Z h0 x_ "java/lang/String" "coder" "B" (.int (0 : Int32))) (pr3 : Arv Z h0 ca_ kc_ .char (3 : Int32) [(.int c0_), (.int c1_), (.int c2_)] (.int 0)) (pr4 : n0 ≤ x_) (pr5 : ¬ ((255 : Int32) < c0_)) (pr6 : ¬ ((255 : Int32) < c1_)) (pr7 : ¬ ((255 : Int32) < c2_)) :
    oMet l Z yM8 jdk_42_method_149_code 6 none ws ({ frames := 2, cells := 1, slots := 3, locals := 35 } : Room) 1 3 #[(.ref x_), (.ref ca_), (.int (0 : Int32)), (.int (3 : Int32)), .null] h0 (own_Q_new4_3 Z s_LIKE s_TOGGLE s__VALUES s_FAV s_VIEW s_LIKE_id s_LIKE_id_value s_INCREMENT s_FAV_id s_FAV_id_value s_VIEW_id s_VIEW_id_value k_s__VALUES k_s_LIKE_id_value k_s_FAV_id_value k_s_VIEW_id_value z_CS v_FMT x_ ca_ kc_ c0_ c1_ c2_ h0 n0) := by
  refine oenter own_pn2 #[.val (.ref x_), .val (.ref ca_), .val (.int (0 : Int32)), .val (.int (3 : Int32)), .val .null, .unset] (fun m => by first | (simp [entryFrame, mkF, argsToLocals, Value.category]; done) | rfl) ?_
  intro p e s m below meth c s₁ X0 hx hZ hby hml hret hown0 hnm hlk e0
  have hown : s.vm.findClass "java/lang/String" = some m.cls := hown0
  have N0 := Fr.nil n0
  obtain ⟨S_s_LIKE, E_s_LIKE, S_s_TOGGLE, E_s_TOGGLE, S_s__VALUES, E_s__VALUES, S_s_FAV, E_s_FAV, S_s_VIEW, E_s_VIEW, F_s_LIKE_id, E_s_LIKE_id, F_s_LIKE_id_value, S_s_INCREMENT, E_s_INCREMENT, F_s_FAV_id, E_s_FAV_id, F_s_FAV_id_value, F_s_VIEW_id, E_s_VIEW_id, F_s_VIEW_id_value, F_s_LIKE_id_coder, F_s_LIKE_kind, F_s_FAV_id_coder, F_s_VIEW_id_coder, F_s_VIEW_kind, F_s_FAV_kind, V_s__VALUES, V_s_LIKE_id_value, V_s_FAV_id_value, V_s_VIEW_id_value, S_CS, H_CS, S_FMT, R_FMT⟩ := (id SB)
  have w9 := hw _ (List.mem_of_getElem? (i := 9) rfl)
  have w18 := hw _ (List.mem_of_getElem? (i := 18) rfl)
  have w19 := hw _ (List.mem_of_getElem? (i := 19) rfl)
  have w20 := hw _ (List.mem_of_getElem? (i := 20) rfl)
  have w21 := hw _ (List.mem_of_getElem? (i := 21) rfl)
  have w22 := hw _ (List.mem_of_getElem? (i := 22) rfl)
  have w23 := hw _ (List.mem_of_getElem? (i := 23) rfl)
  have w24 := hw _ (List.mem_of_getElem? (i := 24) rfl)
  have w25 := hw _ (List.mem_of_getElem? (i := 25) rfl)
  have w30 := hw _ (List.mem_of_getElem? (i := 30) rfl)
  have w31 := hw _ (List.mem_of_getElem? (i := 31) rfl)
  have w32 := hw _ (List.mem_of_getElem? (i := 32) rfl)
  have w33 := hw _ (List.mem_of_getElem? (i := 33) rfl)
  have w34 := hw _ (List.mem_of_getElem? (i := 34) rfl)
  have w35 := hw _ (List.mem_of_getElem? (i := 35) rfl)
  have w36 := hw _ (List.mem_of_getElem? (i := 36) rfl)
  refine o_aloadN X0 hx (hb hby d9_0) rfl rfl ?_
  obtain ⟨T1, X1, e1, st1⟩ := initO X0 hx hZ hown w18 w19 w20 e0 (g := (mkF m 1 #[.val (.ref x_), .val (.ref ca_), .val (.int (0 : Int32)), .val (.int (3 : Int32)), .val .null, .unset] [(.ref x_)])) rfl (by rw [hml]; rfl) rfl (hb hby d9_1) (by decide) (W := 0) (by show 2 * 0 + _ ≤ _; exact Nat.le_of_eq rfl) (by decide)
  refine ogo (S' := T1.setTop (mkF m 4 #[.val (.ref x_), .val (.ref ca_), .val (.int (0 : Int32)), .val (.int (3 : Int32)), .val .null, .unset] [])) st1 ?_
  refine o_iloadN X1 hx (hb hby d9_4) rfl ?_
  refine o_ifYes X1 hx 27 (hb hby d9_5) (feq (by decide : ¬ ((3 : Int32) = (0 : Int32)))).2 (by decide) (by decide) ?_
  obtain ⟨T2, X2, e2, st2⟩ := getS2 X1 hx hZ hown (host := "") (Or.inl w21) Via.refl e1 (Sta.ext O0.2 S_CS) (g := (mkF m 27 #[.val (.ref x_), .val (.ref ca_), .val (.int (0 : Int32)), .val (.int (3 : Int32)), .val .null, .unset] [])) rfl (hb hby d9_27)
  refine ogo (S' := T2.setTop (mkF m 30 #[.val (.ref x_), .val (.ref ca_), .val (.int (0 : Int32)), .val (.int (3 : Int32)), .val .null, .unset] [(.int z_CS)])) st2 ?_
  refine o_ifNo X2 hx (hb hby d9_30) (feq H_CS).1 ?_
  refine o_aloadN X2 hx (hb hby d9_33) rfl rfl ?_
  refine o_iloadN X2 hx (hb hby d9_34) rfl ?_
  refine o_iloadN X2 hx (hb hby d9_35) rfl ?_
  obtain ⟨_, _, ⟨T3, L3, kc3, n3⟩, -, X3, ⟨Lc3, hQ3, l3, y3, z3⟩, st3⟩ := Jvm.LawKit.callS X2 hx (y := yM6) hown (mvT hZ w22) (mvT hZ w23) (mvT hZ w24) (mvT hZ w25) (by decide) (backOf (W := 0) (rm_cmp3_3 l Z a0 hw []  ca_ kc_ c0_ c1_ c2_ h0 n0 O0 pr3 pr5 pr6 pr7) hZ w25 w24 (by decide) (by decide)) (g := (mkF m 36 #[.val (.ref x_), .val (.ref ca_), .val (.int (0 : Int32)), .val (.int (3 : Int32)), .val .null, .unset] [(.int (3 : Int32)), (.int (0 : Int32)), (.ref ca_)])) rfl (by rw [hml]; rfl) (argsL := [(.ref ca_), (.int (0 : Int32)), (.int (3 : Int32))]) (rest := []) (lenOf own_pd4 rfl) rfl (by show 2 * 0 + _ ≤ _; exact Nat.le_of_eq rfl) (hb hby d9_36) (fun _ _ => ⟨rfl, e2, (by decide : 0 + 1 ≤ _), (by decide : 0 + 3 ≤ _)⟩)
  dsimp only [Pt.U, Pt.locs, Pt.cells, Pt.slots] at X3 l3 y3 z3 st3 hQ3
  subst l3 y3 z3
  obtain ⟨ba_3, kb_3, rfl, Nq3, K3, p3_0, p3_1⟩ := hQ3
  have N3 := Fr.app N0 Nq3
  have n0_ba_3 : n0 ≤ ba_3 := Nat.le_trans (Nat.le_trans (Nat.le_of_eq O0.1.symm) O0.2.1) (Nat.le_trans (Nat.le_refl _) p3_0)
  refine ogo (S' := T3.setTop (mkF m 39 #[.val (.ref x_), .val (.ref ca_), .val (.int (0 : Int32)), .val (.int (3 : Int32)), .val .null, .unset] [(.ref ba_3)])) st3 ?_
  refine o_astore X3 hx (l' := #[.val (.ref x_), .val (.ref ca_), .val (.int (0 : Int32)), .val (.int (3 : Int32)), .val .null, .val (.ref ba_3)]) (hb hby d9_39) rfl rfl ?_
  refine o_aloadN X3 hx (hb hby d9_41) rfl rfl ?_
  refine o_aload X3 hx (hb hby d9_42) rfl rfl ?_
  refine o_iloadN X3 hx (hb hby d9_44) rfl ?_
  obtain ⟨_, _, ⟨T4, L4, kc4, n4⟩, -, X4, ⟨Lc4, hQ4, l4, y4, z4⟩, st4⟩ := Jvm.LawKit.callS X3 hx (y := yM7) hown (mvT hZ w30) (mvT hZ w31) (mvT hZ w24) (mvT hZ w32) (by decide) (backOf (W := 1) (rm_codl_3 l Z a0 hw []  ba_3 kb_3 [(.int c0_.toInt8.toInt32), (.int c1_.toInt8.toInt32), (.int c2_.toInt8.toInt32)] T3.heap n0 (O0.keep K3 all0) p3_1) hZ w32 w24 (by decide) (by decide)) (g := (mkF m 45 #[.val (.ref x_), .val (.ref ca_), .val (.int (0 : Int32)), .val (.int (3 : Int32)), .val .null, .val (.ref ba_3)] [(.int (3 : Int32)), (.ref ba_3), (.ref x_)])) rfl (by rw [hml]; rfl) (argsL := [(.ref ba_3), (.int (3 : Int32))]) (rest := [(.ref x_)]) (lenOf own_pd5 rfl) rfl (by show 2 * 0 + _ ≤ _; exact Nat.le_of_eq rfl) (hb hby d9_45) (fun _ _ => ⟨rfl, rfl, (by decide : 1 + 0 ≤ _), (by decide : 3 + 0 ≤ _)⟩)
  dsimp only [Pt.U, Pt.locs, Pt.cells, Pt.slots] at X4 l4 y4 z4 st4 hQ4
  subst l4 y4 z4
  obtain ⟨rfl, Nq4, e4⟩ := hQ4
  have N4 := Fr.app N3 Nq4
  refine ogo (S' := T4.setTop (mkF m 48 #[.val (.ref x_), .val (.ref ca_), .val (.int (0 : Int32)), .val (.int (3 : Int32)), .val .null, .val (.ref ba_3)] [(.int (0 : Int32)), (.ref x_)])) st4 ?_
  obtain ⟨T5, _, X5, rfl, W5, st5⟩ := putFN X4 hx hZ hown w33 Via.refl e4 (pr2.keep K3 nin0) (pr0.keep K3) (Or.inr ⟨w34, rfl, hnm⟩) w9 (ty := .byte) (v' := (.int (0 : Int32))) (by decide) rfl (by decide) (g := (mkF m 48 #[.val (.ref x_), .val (.ref ca_), .val (.int (0 : Int32)), .val (.int (3 : Int32)), .val .null, .val (.ref ba_3)] [(.int (0 : Int32)), (.ref x_)])) rfl rfl (hb hby d9_48)
  have N5 := Fr.snoc X5 N4 pr4
  have F5 := Fld.same W5 (pr2.keep K3 nin0)
  refine ogo (S' := T5.setTop (mkF m 51 #[.val (.ref x_), .val (.ref ca_), .val (.int (0 : Int32)), .val (.int (3 : Int32)), .val .null, .val (.ref ba_3)] [])) st5 ?_
  refine o_aloadN X5 hx (hb hby d9_51) rfl rfl ?_
  refine o_aload X5 hx (hb hby d9_52) rfl rfl ?_
  have c7 := (Fld.other W5 (pr1.keep K3 nin0) (Or.inr (slot_ne (Or.inr w36) (Or.inr w34) (by decide) (t := (.array .byte)) (t' := .byte) (by decide) (by decide))))
  obtain ⟨T6, _, X6, rfl, W6, st6⟩ := putF X5 hx hZ hown (host := "") (Or.inl w35) Via.refl rfl c7 (Exa.wr W5 (pr0.keep K3)) (Or.inr ⟨w36, rfl, hnm⟩) w9 (ty := (.array .byte)) (by decide) rfl rfl (g := (mkF m 54 #[.val (.ref x_), .val (.ref ca_), .val (.int (0 : Int32)), .val (.int (3 : Int32)), .val .null, .val (.ref ba_3)] [(.ref ba_3), (.ref x_)])) rfl rfl (hb hby d9_54)
  have N6 := Fr.snoc X6 N5 pr4
  have F6 := Fld.same W6 c7
  refine ogo (S' := T6.setTop (mkF m 57 #[.val (.ref x_), .val (.ref ca_), .val (.int (0 : Int32)), .val (.int (3 : Int32)), .val .null, .val (.ref ba_3)] [])) st6 ?_
  have c8 := ((p3_1.other W5 (Nat.ne_of_gt (Nat.lt_of_lt_of_le (Nat.lt_of_lt_of_le pr0.lt (Nat.le_refl _)) p3_0))).other W6 (Nat.ne_of_gt (Nat.lt_of_lt_of_le (Nat.lt_of_lt_of_le pr0.lt (Nat.le_refl _)) p3_0)))
  have c9 := (Fld.other W6 F5 (Or.inr (slot_ne (Or.inr w34) (Or.inr w36) (by decide) (t := .byte) (t' := (.array .byte)) (by decide) (by decide))))
  refine oend X6 hlk (v := none) (fun _ => rfl) (fun fs hr => X6.returnOut hx hret (hb hby d9_57) hr) (by decide) (by decide) ?_
  show own_Q_new4_3 Z _ _ _ _ _ _ _ _ _ _ _ _ _ _ _ _ _ _ _ _ _ _ _ _ h0 n0 _ T6.heap _
  exact ⟨ba_3, kb_3, rfl, N6, ((((Keep.refl h0 [x_]).trans K3 all0).wr W5 (Or.inl (List.mem_of_getElem? (i := 0) rfl))).wr W6 (Or.inl (List.mem_of_getElem? (i := 0) rfl))), (Nat.le_trans (Nat.le_refl _) p3_0), c8, (Exa.wr W6 (Exa.wr W5 (pr0.keep K3))), F6, c9⟩
theorem own_pd6 : parseMethodDescriptor "([CIILjava/lang/Void;)V" = some ⟨[(.array .char), .int, .int, (.object "java/lang/Void")], none⟩ := by decide +kernel
theorem d10_0 : decode jdk_42_method_3_code 0 = .ok (.aload_n 0, 1) := by decide +kernel
theorem d10_1 : decode jdk_42_method_3_code 1 = .ok (.aload_n 1, 1) := by decide +kernel
theorem d10_2 : decode jdk_42_method_3_code 2 = .ok (.iconst 0, 1) := by decide +kernel
theorem d10_3 : decode jdk_42_method_3_code 3 = .ok (.aload_n 1, 1) := by decide +kernel
theorem d10_4 : decode jdk_42_method_3_code 4 = .ok (.arraylength, 1) := by decide +kernel
theorem d10_5 : decode jdk_42_method_3_code 5 = .ok (.aconst_null, 1) := by decide +kernel
theorem d10_6 : decode jdk_42_method_3_code 6 = .ok (.invokespecial 27, 3) := by decide +kernel
theorem d10_9 : decode jdk_42_method_3_code 9 = .ok (.return_, 1) := by decide +kernel
def own_Q_new1_3 (Z : State) (s_LIKE : Addr) (s_TOGGLE : Addr) (s__VALUES : Addr) (s_FAV : Addr) (s_VIEW : Addr) (s_LIKE_id : Addr) (s_LIKE_id_value : Addr) (s_INCREMENT : Addr) (s_FAV_id : Addr) (s_FAV_id_value : Addr) (s_VIEW_id : Addr) (s_VIEW_id_value : Addr) (k_s__VALUES : ClassId) (k_s_LIKE_id_value : ClassId) (k_s_FAV_id_value : ClassId) (k_s_VIEW_id_value : ClassId) (z_CS : Int32) (v_FMT : Value) (x_ : Addr) (ca_ : Addr) (kc_ : ClassId) (c0_ : Int32) (c1_ : Int32) (c2_ : Int32) (h0 : Heap) (n0 : Nat) (v : Option Value) (h : Heap) (L : List Loc) : Prop := ∃ ba_ : Addr, ∃ kb_ : ClassId, (v = none) ∧ (Fr n0 L) ∧ (Keep h0 h [x_]) ∧ (h0.size ≤ ba_) ∧ (Arv Z h ba_ kb_ .byte (3 : Int32) [(.int c0_.toInt8.toInt32), (.int c1_.toInt8.toInt32), (.int c2_.toInt8.toInt32)] (.int 0)) ∧ (Exa Z h x_ "java/lang/String") ∧ (Fld Z h x_ "java/lang/String" "value" "[B" (.ref ba_)) ∧ (Fld Z h x_ "java/lang/String" "coder" "B" (.int (0 : Int32)))
abbrev yM9 : MethodName := ⟨"java/lang/String", "<init>", "([C)V"⟩
set_option maxRecDepth 65536 in
set_option maxHeartbeats 40000000 in
theorem rm_new1_3 (l : Launch) (Z : State) (a0 : Array Value) (hw : ∀ d ∈ tables_1, d.before a0 Z = true) (ws : List Jvm.Cond) (s_LIKE : Addr) (s_TOGGLE : Addr) (s__VALUES : Addr) (s_FAV : Addr) (s_VIEW : Addr) (s_LIKE_id : Addr) (s_LIKE_id_value : Addr) (s_INCREMENT : Addr) (s_FAV_id : Addr) (s_FAV_id_value : Addr) (s_VIEW_id : Addr) (s_VIEW_id_value : Addr) (k_s__VALUES : ClassId) (k_s_LIKE_id_value : ClassId) (k_s_FAV_id_value : ClassId) (k_s_VIEW_id_value : ClassId) (z_CS : Int32) (v_FMT : Value) (x_ : Addr) (ca_ : Addr) (kc_ : ClassId) (c0_ : Int32) (c1_ : Int32) (c2_ : Int32) (h0 : Heap) (n0 : Nat) (SB : own_Start Z s_LIKE s_TOGGLE s__VALUES s_FAV s_VIEW s_LIKE_id s_LIKE_id_value s_INCREMENT s_FAV_id s_FAV_id_value s_VIEW_id s_VIEW_id_value k_s__VALUES k_s_LIKE_id_value k_s_FAV_id_value k_s_VIEW_id_value z_CS v_FMT) (O0 : Old Z n0 h0) (pr0 : Exa Z h0 x_ "java/lang/String") (pr1 : Fld Z h0 x_ "java/lang/String" "value" "[B" .null) (pr2 : Fld Z h0 x_ "java/lang/String" "coder" "B" (.int (0 : Int32))) (pr3 : Arv Z h0 ca_ kc_ .char (3 : Int32) [(.int c0_), (.int c1_), (.int c2_)] (.int 0)) (pr4 : n0 ≤ x_) (pr5 : ¬ ((255 : Int32) < c0_)) (pr6 : ¬ ((255 : Int32) < c1_)) (pr7 : ¬ ((255 : Int32) < c2_)) :
    oMet l Z yM9 jdk_42_method_3_code 2 none ws ({ frames := 3, cells := 1, slots := 3, locals := 52 } : Room) 1 3 #[(.ref x_), (.ref ca_)] h0 (own_Q_new1_3 Z s_LIKE s_TOGGLE s__VALUES s_FAV s_VIEW s_LIKE_id s_LIKE_id_value s_INCREMENT s_FAV_id s_FAV_id_value s_VIEW_id s_VIEW_id_value k_s__VALUES k_s_LIKE_id_value k_s_FAV_id_value k_s_VIEW_id_value z_CS v_FMT x_ ca_ kc_ c0_ c1_ c2_ h0 n0) := by
  refine oenter own_pn2 #[.val (.ref x_), .val (.ref ca_)] (fun m => by first | (simp [entryFrame, mkF, argsToLocals, Value.category]; done) | rfl) ?_
  intro p e s m below meth c s₁ X0 hx hZ hby hml hret hown0 hnm hlk e0
  have hown : s.vm.findClass "java/lang/String" = some m.cls := hown0
  have N0 := Fr.nil n0
  obtain ⟨S_s_LIKE, E_s_LIKE, S_s_TOGGLE, E_s_TOGGLE, S_s__VALUES, E_s__VALUES, S_s_FAV, E_s_FAV, S_s_VIEW, E_s_VIEW, F_s_LIKE_id, E_s_LIKE_id, F_s_LIKE_id_value, S_s_INCREMENT, E_s_INCREMENT, F_s_FAV_id, E_s_FAV_id, F_s_FAV_id_value, F_s_VIEW_id, E_s_VIEW_id, F_s_VIEW_id_value, F_s_LIKE_id_coder, F_s_LIKE_kind, F_s_FAV_id_coder, F_s_VIEW_id_coder, F_s_VIEW_kind, F_s_FAV_kind, V_s__VALUES, V_s_LIKE_id_value, V_s_FAV_id_value, V_s_VIEW_id_value, S_CS, H_CS, S_FMT, R_FMT⟩ := (id SB)
  have w10 := hw _ (List.mem_of_getElem? (i := 10) rfl)
  have w14 := hw _ (List.mem_of_getElem? (i := 14) rfl)
  have w15 := hw _ (List.mem_of_getElem? (i := 15) rfl)
  have w17 := hw _ (List.mem_of_getElem? (i := 17) rfl)
  refine o_aloadN X0 hx (hb hby d10_0) rfl rfl ?_
  refine o_aloadN X0 hx (hb hby d10_1) rfl rfl ?_
  refine o_iconst X0 hx (0 : Int32) (hb hby d10_2) rfl ?_
  refine o_aloadN X0 hx (hb hby d10_3) rfl rfl ?_
  obtain ⟨cl1, Ar1, -, S1, N1z, -, -⟩ := (id pr3)
  refine ogo (S' := s₁.setTop (mkF m 5 #[.val (.ref x_), .val (.ref ca_)] [(.int (3 : Int32)), (.int (0 : Int32)), (.ref ca_), (.ref x_)])) (fun _ kt_ => X0.arraylength hx (by rw [e0]; exact Ar1.1) (State.isArrayOf_alike hZ.alike Ar1.2.1) (g := (mkF m 4 #[.val (.ref x_), .val (.ref ca_)] [(.ref ca_), (.int (0 : Int32)), (.ref ca_), (.ref x_)])) rfl rfl (hb hby d10_4) _ (by rw [len_of S1 N1z]; exact kt_)) ?_
  refine o_aconst_null X0 hx (hb hby d10_5) ?_
  obtain ⟨_, _, ⟨T2, L2, kc2, n2⟩, -, X2, ⟨Lc2, hQ2, l2, y2, z2⟩, st2⟩ := X0.specialBack hx (y := yM8) rfl hown (mvT hZ w14) (mvT hZ w15) (mvT hZ w17) (by decide) (backOf (W := 0) (rm_new4_3 l Z a0 hw [] s_LIKE s_TOGGLE s__VALUES s_FAV s_VIEW s_LIKE_id s_LIKE_id_value s_INCREMENT s_FAV_id s_FAV_id_value s_VIEW_id s_VIEW_id_value k_s__VALUES k_s_LIKE_id_value k_s_FAV_id_value k_s_VIEW_id_value z_CS v_FMT x_ ca_ kc_ c0_ c1_ c2_ h0 n0 SB O0 pr0 pr1 pr2 pr3 pr4 pr5 pr6 pr7) hZ w17 w10 (by decide) (by decide)) (g := (mkF m 6 #[.val (.ref x_), .val (.ref ca_)] [.null, (.int (3 : Int32)), (.int (0 : Int32)), (.ref ca_), (.ref x_)])) rfl (by rw [hml]; rfl) (Steps.refl _) (a := x_) (argsL := [(.ref ca_), (.int (0 : Int32)), (.int (3 : Int32)), .null]) (rest := []) (lenOf own_pd6 rfl) rfl (by show 2 * 0 + _ ≤ _; exact Nat.le_of_eq rfl) (hb hby d10_6) (fun _ _ => ⟨rfl, e0, (by decide : 0 + 1 ≤ _), (by decide : 0 + 3 ≤ _)⟩)
  dsimp only [Pt.U, Pt.locs, Pt.cells, Pt.slots] at X2 l2 y2 z2 st2 hQ2
  subst l2 y2 z2
  obtain ⟨ba_2, kb_2, rfl, Nq2, K2, p2_0, p2_1, p2_2, p2_3, p2_4⟩ := hQ2
  have N2 := Fr.app N0 Nq2
  have n0_ba_2 : n0 ≤ ba_2 := Nat.le_trans (Nat.le_trans (Nat.le_of_eq O0.1.symm) O0.2.1) (Nat.le_trans (Nat.le_refl _) p2_0)
  refine otr (S' := T2.setTop (mkF m 9 #[.val (.ref x_), .val (.ref ca_)] [])) st2 ?_
  refine oend X2 hlk (v := none) (fun _ => rfl) (fun fs hr => X2.returnOut hx hret (hb hby d10_9) hr) (by decide) (by decide) ?_
  show own_Q_new1_3 Z _ _ _ _ _ _ _ _ _ _ _ _ _ _ _ _ _ _ _ _ _ _ _ _ h0 n0 _ T2.heap _
  exact ⟨ba_2, kb_2, rfl, N2, ((Keep.refl h0 [x_]).trans K2 (allS (Or.inl (List.mem_of_getElem? (i := 0) rfl)) all0)), (Nat.le_trans (Nat.le_refl _) p2_0), p2_1, p2_2, p2_3, p2_4⟩
def own_Q_cmp5_4 (Z : State)  (ca_ : Addr) (kc_ : ClassId) (ba_ : Addr) (kb_ : ClassId) (c0_ : Int32) (c1_ : Int32) (c2_ : Int32) (c3_ : Int32) (h0 : Heap) (n0 : Nat) (v : Option Value) (h : Heap) (L : List Loc) : Prop := (v = some (.int (4 : Int32))) ∧ (Fr n0 L) ∧ (Keep h0 h [ba_]) ∧ (Arv Z h ba_ kb_ .byte (4 : Int32) [(.int c0_.toInt8.toInt32), (.int c1_.toInt8.toInt32), (.int c2_.toInt8.toInt32), (.int c3_.toInt8.toInt32)] (.int 0))
set_option maxRecDepth 65536 in
set_option maxHeartbeats 40000000 in
theorem rm_cmp5_4 (l : Launch) (Z : State) (a0 : Array Value) (hw : ∀ d ∈ tables_1, d.before a0 Z = true) (ws : List Jvm.Cond)  (ca_ : Addr) (kc_ : ClassId) (ba_ : Addr) (kb_ : ClassId) (c0_ : Int32) (c1_ : Int32) (c2_ : Int32) (c3_ : Int32) (h0 : Heap) (n0 : Nat) (O0 : Old Z n0 h0) (pr0 : Arv Z h0 ca_ kc_ .char (4 : Int32) [(.int c0_), (.int c1_), (.int c2_), (.int c3_)] (.int 0)) (pr1 : Arv Z h0 ba_ kb_ .byte (4 : Int32) [(.int 0), (.int 0), (.int 0), (.int 0)] (.int 0)) (pr2 : ca_ ≠ ba_) (pr3 : n0 ≤ ba_) (pr4 : ¬ ((255 : Int32) < c0_)) (pr5 : ¬ ((255 : Int32) < c1_)) (pr6 : ¬ ((255 : Int32) < c2_)) (pr7 : ¬ ((255 : Int32) < c3_)) :
    oMet l Z yM5 jdk_52_method_21_code 7 (some .int) ws ({ frames := 0, cells := 0, slots := 0, locals := 0 } : Room) 0 0 #[(.ref ca_), (.int (0 : Int32)), (.ref ba_), (.int (0 : Int32)), (.int (4 : Int32))] h0 (own_Q_cmp5_4 Z  ca_ kc_ ba_ kb_ c0_ c1_ c2_ c3_ h0 n0) := by
  refine oenter own_pn3 #[.val (.ref ca_), .val (.int (0 : Int32)), .val (.ref ba_), .val (.int (0 : Int32)), .val (.int (4 : Int32)), .unset, .unset] (fun m => by first | (simp [entryFrame, mkF, argsToLocals, Value.category]; done) | rfl) ?_
  intro p e s m below meth c s₁ X0 hx hZ hby hml hret hown0 hnm hlk e0
  have hown : s.vm.findClass "java/lang/StringUTF16" = some m.cls := hown0
  have N0 := Fr.nil n0
  refine o_iconst X0 hx (0 : Int32) (hb hby d6_0) rfl ?_
  refine o_istore X0 hx (l' := #[.val (.ref ca_), .val (.int (0 : Int32)), .val (.ref ba_), .val (.int (0 : Int32)), .val (.int (4 : Int32)), .val (.int (0 : Int32)), .unset]) (hb hby d6_1) rfl ?_
  refine o_iload X0 hx (hb hby d6_3) rfl ?_
  refine o_iload X0 hx (hb hby d6_5) rfl ?_
  refine o_icmpNo X0 hx (hb hby d6_7) (tlt (by decide : (0 : Int32) < (4 : Int32))).2.1 ?_
  refine o_aloadN X0 hx (hb hby d6_10) rfl rfl ?_
  refine o_iloadN X0 hx (hb hby d6_11) rfl ?_
  obtain ⟨cl1, Ar1, q1, S1, N1z, H1, G1⟩ := (id pr0)
  have hi1 := inb_of (j := (0 : Int32)) S1 ⟨by decide, by decide⟩
  have ha1 := Has.at (v := (.int c0_)) H1 hi1 rfl
  refine ogo (S' := s₁.setTop (mkF m 13 #[.val (.ref ca_), .val (.int (0 : Int32)), .val (.ref ba_), .val (.int (0 : Int32)), .val (.int (4 : Int32)), .val (.int (0 : Int32)), .unset] [(.int c0_)])) (X0.caload hx (j := (0 : Int32)) (v := (.int c0_)) (by rw [e0]; exact Ar1.1) (State.isArrayOf_alike hZ.alike Ar1.2.1) Ar1.2.2 hi1 ha1 (g := (mkF m 12 #[.val (.ref ca_), .val (.int (0 : Int32)), .val (.ref ba_), .val (.int (0 : Int32)), .val (.int (4 : Int32)), .val (.int (0 : Int32)), .unset] [(.int (0 : Int32)), (.ref ca_)])) rfl rfl (hb hby d6_12)) ?_
  refine o_istore X0 hx (l' := #[.val (.ref ca_), .val (.int (0 : Int32)), .val (.ref ba_), .val (.int (0 : Int32)), .val (.int (4 : Int32)), .val (.int (0 : Int32)), .val (.int c0_)]) (hb hby d6_13) rfl ?_
  refine o_iload X0 hx (hb hby d6_15) rfl ?_
  refine o_sipush X0 hx (255 : Int32) (hb hby d6_17) rfl ?_
  refine o_icmpYes X0 hx 26 (hb hby d6_20) (flt pr4).2.2.2 (by decide) (by decide) ?_
  refine o_aloadN X0 hx (hb hby d6_26) rfl rfl ?_
  refine o_iloadN X0 hx (hb hby d6_27) rfl ?_
  refine o_iload X0 hx (hb hby d6_28) rfl ?_
  refine o_i2b X0 hx (hb hby d6_30) ?_
  obtain ⟨cl2, Ar2, q2, S2, N2z, H2, G2⟩ := (id pr1)
  obtain ⟨T2, _, X2, rfl, W2, st2⟩ := stB X0 hx hZ e0 Ar2 (j := (0 : Int32)) (inb_of S2 ⟨by decide, by decide⟩) (g := (mkF m 31 #[.val (.ref ca_), .val (.int (0 : Int32)), .val (.ref ba_), .val (.int (0 : Int32)), .val (.int (4 : Int32)), .val (.int (0 : Int32)), .val (.int c0_)] [(.int c0_.toInt8.toInt32), (.int (0 : Int32)), (.ref ba_)])) rfl rfl (hb hby d6_31)
  rw [own_narb] at W2
  have V2 : Arv Z T2.heap ba_ kb_ .byte (4 : Int32) [(.int c0_.toInt8.toInt32), (.int 0), (.int 0), (.int 0)] (.int 0) := Arv.set Ar2 q2 S2 N2z H2 G2 (fits_nar_byte _) W2 0 rfl (Nat.le_of_ble_eq_true rfl)
  have N2 := Fr.snoc X2 N0 pr3
  refine ogo (S' := T2.setTop (mkF m 32 #[.val (.ref ca_), .val (.int (0 : Int32)), .val (.ref ba_), .val (.int (0 : Int32)), .val (.int (4 : Int32)), .val (.int (0 : Int32)), .val (.int c0_)] [])) st2 ?_
  refine o_iinc X2 hx (l' := #[.val (.ref ca_), .val (.int (1 : Int32)), .val (.ref ba_), .val (.int (0 : Int32)), .val (.int (4 : Int32)), .val (.int (0 : Int32)), .val (.int c0_)]) (hb hby d6_32) rfl rfl ?_
  refine o_iinc X2 hx (l' := #[.val (.ref ca_), .val (.int (1 : Int32)), .val (.ref ba_), .val (.int (1 : Int32)), .val (.int (4 : Int32)), .val (.int (0 : Int32)), .val (.int c0_)]) (hb hby d6_35) rfl rfl ?_
  refine o_iinc X2 hx (l' := #[.val (.ref ca_), .val (.int (1 : Int32)), .val (.ref ba_), .val (.int (1 : Int32)), .val (.int (4 : Int32)), .val (.int (1 : Int32)), .val (.int c0_)]) (hb hby d6_38) rfl rfl ?_
  refine o_goto X2 hx 3 (hb hby d6_41) (by decide) (by decide) ?_
  refine o_iload X2 hx (hb hby d6_3) rfl ?_
  refine o_iload X2 hx (hb hby d6_5) rfl ?_
  refine o_icmpNo X2 hx (hb hby d6_7) (tlt (by decide : (1 : Int32) < (4 : Int32))).2.1 ?_
  refine o_aloadN X2 hx (hb hby d6_10) rfl rfl ?_
  refine o_iloadN X2 hx (hb hby d6_11) rfl ?_
  obtain ⟨cl3, Ar3, q3, S3, N3z, H3, G3⟩ := (id (pr0.other W2 pr2))
  have hi3 := inb_of (j := (1 : Int32)) S3 ⟨by decide, by decide⟩
  have ha3 := Has.at (v := (.int c1_)) H3 hi3 rfl
  refine ogo (S' := T2.setTop (mkF m 13 #[.val (.ref ca_), .val (.int (1 : Int32)), .val (.ref ba_), .val (.int (1 : Int32)), .val (.int (4 : Int32)), .val (.int (1 : Int32)), .val (.int c0_)] [(.int c1_)])) (X2.caload hx (j := (1 : Int32)) (v := (.int c1_)) Ar3.1 (State.isArrayOf_alike hZ.alike Ar3.2.1) Ar3.2.2 hi3 ha3 (g := (mkF m 12 #[.val (.ref ca_), .val (.int (1 : Int32)), .val (.ref ba_), .val (.int (1 : Int32)), .val (.int (4 : Int32)), .val (.int (1 : Int32)), .val (.int c0_)] [(.int (1 : Int32)), (.ref ca_)])) rfl rfl (hb hby d6_12)) ?_
  refine o_istore X2 hx (l' := #[.val (.ref ca_), .val (.int (1 : Int32)), .val (.ref ba_), .val (.int (1 : Int32)), .val (.int (4 : Int32)), .val (.int (1 : Int32)), .val (.int c1_)]) (hb hby d6_13) rfl ?_
  refine o_iload X2 hx (hb hby d6_15) rfl ?_
  refine o_sipush X2 hx (255 : Int32) (hb hby d6_17) rfl ?_
  refine o_icmpYes X2 hx 26 (hb hby d6_20) (flt pr5).2.2.2 (by decide) (by decide) ?_
  refine o_aloadN X2 hx (hb hby d6_26) rfl rfl ?_
  refine o_iloadN X2 hx (hb hby d6_27) rfl ?_
  refine o_iload X2 hx (hb hby d6_28) rfl ?_
  refine o_i2b X2 hx (hb hby d6_30) ?_
  obtain ⟨cl4, Ar4, q4, S4, N4z, H4, G4⟩ := (id V2)
  obtain ⟨T4, _, X4, rfl, W4, st4⟩ := stB X2 hx hZ rfl Ar4 (j := (1 : Int32)) (inb_of S4 ⟨by decide, by decide⟩) (g := (mkF m 31 #[.val (.ref ca_), .val (.int (1 : Int32)), .val (.ref ba_), .val (.int (1 : Int32)), .val (.int (4 : Int32)), .val (.int (1 : Int32)), .val (.int c1_)] [(.int c1_.toInt8.toInt32), (.int (1 : Int32)), (.ref ba_)])) rfl rfl (hb hby d6_31)
  rw [own_narb] at W4
  have V4 : Arv Z T4.heap ba_ kb_ .byte (4 : Int32) [(.int c0_.toInt8.toInt32), (.int c1_.toInt8.toInt32), (.int 0), (.int 0)] (.int 0) := Arv.set Ar4 q4 S4 N4z H4 G4 (fits_nar_byte _) W4 1 rfl (Nat.le_of_ble_eq_true rfl)
  have N4 := Fr.snoc X4 N2 pr3
  refine ogo (S' := T4.setTop (mkF m 32 #[.val (.ref ca_), .val (.int (1 : Int32)), .val (.ref ba_), .val (.int (1 : Int32)), .val (.int (4 : Int32)), .val (.int (1 : Int32)), .val (.int c1_)] [])) st4 ?_
  refine o_iinc X4 hx (l' := #[.val (.ref ca_), .val (.int (2 : Int32)), .val (.ref ba_), .val (.int (1 : Int32)), .val (.int (4 : Int32)), .val (.int (1 : Int32)), .val (.int c1_)]) (hb hby d6_32) rfl rfl ?_
  refine o_iinc X4 hx (l' := #[.val (.ref ca_), .val (.int (2 : Int32)), .val (.ref ba_), .val (.int (2 : Int32)), .val (.int (4 : Int32)), .val (.int (1 : Int32)), .val (.int c1_)]) (hb hby d6_35) rfl rfl ?_
  refine o_iinc X4 hx (l' := #[.val (.ref ca_), .val (.int (2 : Int32)), .val (.ref ba_), .val (.int (2 : Int32)), .val (.int (4 : Int32)), .val (.int (2 : Int32)), .val (.int c1_)]) (hb hby d6_38) rfl rfl ?_
  refine o_goto X4 hx 3 (hb hby d6_41) (by decide) (by decide) ?_
  refine o_iload X4 hx (hb hby d6_3) rfl ?_
  refine o_iload X4 hx (hb hby d6_5) rfl ?_
  refine o_icmpNo X4 hx (hb hby d6_7) (tlt (by decide : (2 : Int32) < (4 : Int32))).2.1 ?_
  refine o_aloadN X4 hx (hb hby d6_10) rfl rfl ?_
  refine o_iloadN X4 hx (hb hby d6_11) rfl ?_
  obtain ⟨cl5, Ar5, q5, S5, N5z, H5, G5⟩ := (id ((pr0.other W2 pr2).other W4 pr2))
  have hi5 := inb_of (j := (2 : Int32)) S5 ⟨by decide, by decide⟩
  have ha5 := Has.at (v := (.int c2_)) H5 hi5 rfl
  refine ogo (S' := T4.setTop (mkF m 13 #[.val (.ref ca_), .val (.int (2 : Int32)), .val (.ref ba_), .val (.int (2 : Int32)), .val (.int (4 : Int32)), .val (.int (2 : Int32)), .val (.int c1_)] [(.int c2_)])) (X4.caload hx (j := (2 : Int32)) (v := (.int c2_)) Ar5.1 (State.isArrayOf_alike hZ.alike Ar5.2.1) Ar5.2.2 hi5 ha5 (g := (mkF m 12 #[.val (.ref ca_), .val (.int (2 : Int32)), .val (.ref ba_), .val (.int (2 : Int32)), .val (.int (4 : Int32)), .val (.int (2 : Int32)), .val (.int c1_)] [(.int (2 : Int32)), (.ref ca_)])) rfl rfl (hb hby d6_12)) ?_
  refine o_istore X4 hx (l' := #[.val (.ref ca_), .val (.int (2 : Int32)), .val (.ref ba_), .val (.int (2 : Int32)), .val (.int (4 : Int32)), .val (.int (2 : Int32)), .val (.int c2_)]) (hb hby d6_13) rfl ?_
  refine o_iload X4 hx (hb hby d6_15) rfl ?_
  refine o_sipush X4 hx (255 : Int32) (hb hby d6_17) rfl ?_
  refine o_icmpYes X4 hx 26 (hb hby d6_20) (flt pr6).2.2.2 (by decide) (by decide) ?_
  refine o_aloadN X4 hx (hb hby d6_26) rfl rfl ?_
  refine o_iloadN X4 hx (hb hby d6_27) rfl ?_
  refine o_iload X4 hx (hb hby d6_28) rfl ?_
  refine o_i2b X4 hx (hb hby d6_30) ?_
  obtain ⟨cl6, Ar6, q6, S6, N6z, H6, G6⟩ := (id V4)
  obtain ⟨T6, _, X6, rfl, W6, st6⟩ := stB X4 hx hZ rfl Ar6 (j := (2 : Int32)) (inb_of S6 ⟨by decide, by decide⟩) (g := (mkF m 31 #[.val (.ref ca_), .val (.int (2 : Int32)), .val (.ref ba_), .val (.int (2 : Int32)), .val (.int (4 : Int32)), .val (.int (2 : Int32)), .val (.int c2_)] [(.int c2_.toInt8.toInt32), (.int (2 : Int32)), (.ref ba_)])) rfl rfl (hb hby d6_31)
  rw [own_narb] at W6
  have V6 : Arv Z T6.heap ba_ kb_ .byte (4 : Int32) [(.int c0_.toInt8.toInt32), (.int c1_.toInt8.toInt32), (.int c2_.toInt8.toInt32), (.int 0)] (.int 0) := Arv.set Ar6 q6 S6 N6z H6 G6 (fits_nar_byte _) W6 2 rfl (Nat.le_of_ble_eq_true rfl)
  have N6 := Fr.snoc X6 N4 pr3
  refine ogo (S' := T6.setTop (mkF m 32 #[.val (.ref ca_), .val (.int (2 : Int32)), .val (.ref ba_), .val (.int (2 : Int32)), .val (.int (4 : Int32)), .val (.int (2 : Int32)), .val (.int c2_)] [])) st6 ?_
  refine o_iinc X6 hx (l' := #[.val (.ref ca_), .val (.int (3 : Int32)), .val (.ref ba_), .val (.int (2 : Int32)), .val (.int (4 : Int32)), .val (.int (2 : Int32)), .val (.int c2_)]) (hb hby d6_32) rfl rfl ?_
  refine o_iinc X6 hx (l' := #[.val (.ref ca_), .val (.int (3 : Int32)), .val (.ref ba_), .val (.int (3 : Int32)), .val (.int (4 : Int32)), .val (.int (2 : Int32)), .val (.int c2_)]) (hb hby d6_35) rfl rfl ?_
  refine o_iinc X6 hx (l' := #[.val (.ref ca_), .val (.int (3 : Int32)), .val (.ref ba_), .val (.int (3 : Int32)), .val (.int (4 : Int32)), .val (.int (3 : Int32)), .val (.int c2_)]) (hb hby d6_38) rfl rfl ?_
  refine o_goto X6 hx 3 (hb hby d6_41) (by decide) (by decide) ?_
  refine o_iload X6 hx (hb hby d6_3) rfl ?_
  refine o_iload X6 hx (hb hby d6_5) rfl ?_
  refine o_icmpNo X6 hx (hb hby d6_7) (tlt (by decide : (3 : Int32) < (4 : Int32))).2.1 ?_
  refine o_aloadN X6 hx (hb hby d6_10) rfl rfl ?_
  refine o_iloadN X6 hx (hb hby d6_11) rfl ?_
  obtain ⟨cl7, Ar7, q7, S7, N7z, H7, G7⟩ := (id (((pr0.other W2 pr2).other W4 pr2).other W6 pr2))
  have hi7 := inb_of (j := (3 : Int32)) S7 ⟨by decide, by decide⟩
  have ha7 := Has.at (v := (.int c3_)) H7 hi7 rfl
  refine ogo (S' := T6.setTop (mkF m 13 #[.val (.ref ca_), .val (.int (3 : Int32)), .val (.ref ba_), .val (.int (3 : Int32)), .val (.int (4 : Int32)), .val (.int (3 : Int32)), .val (.int c2_)] [(.int c3_)])) (X6.caload hx (j := (3 : Int32)) (v := (.int c3_)) Ar7.1 (State.isArrayOf_alike hZ.alike Ar7.2.1) Ar7.2.2 hi7 ha7 (g := (mkF m 12 #[.val (.ref ca_), .val (.int (3 : Int32)), .val (.ref ba_), .val (.int (3 : Int32)), .val (.int (4 : Int32)), .val (.int (3 : Int32)), .val (.int c2_)] [(.int (3 : Int32)), (.ref ca_)])) rfl rfl (hb hby d6_12)) ?_
  refine o_istore X6 hx (l' := #[.val (.ref ca_), .val (.int (3 : Int32)), .val (.ref ba_), .val (.int (3 : Int32)), .val (.int (4 : Int32)), .val (.int (3 : Int32)), .val (.int c3_)]) (hb hby d6_13) rfl ?_
  refine o_iload X6 hx (hb hby d6_15) rfl ?_
  refine o_sipush X6 hx (255 : Int32) (hb hby d6_17) rfl ?_
  refine o_icmpYes X6 hx 26 (hb hby d6_20) (flt pr7).2.2.2 (by decide) (by decide) ?_
  refine o_aloadN X6 hx (hb hby d6_26) rfl rfl ?_
  refine o_iloadN X6 hx (hb hby d6_27) rfl ?_
  refine o_iload X6 hx (hb hby d6_28) rfl ?_
  refine o_i2b X6 hx (hb hby d6_30) ?_
  obtain ⟨cl8, Ar8, q8, S8, N8z, H8, G8⟩ := (id V6)
  obtain ⟨T8, _, X8, rfl, W8, st8⟩ := stB X6 hx hZ rfl Ar8 (j := (3 : Int32)) (inb_of S8 ⟨by decide, by decide⟩) (g := (mkF m 31 #[.val (.ref ca_), .val (.int (3 : Int32)), .val (.ref ba_), .val (.int (3 : Int32)), .val (.int (4 : Int32)), .val (.int (3 : Int32)), .val (.int c3_)] [(.int c3_.toInt8.toInt32), (.int (3 : Int32)), (.ref ba_)])) rfl rfl (hb hby d6_31)
  rw [own_narb] at W8
  have V8 : Arv Z T8.heap ba_ kb_ .byte (4 : Int32) [(.int c0_.toInt8.toInt32), (.int c1_.toInt8.toInt32), (.int c2_.toInt8.toInt32), (.int c3_.toInt8.toInt32)] (.int 0) := Arv.set Ar8 q8 S8 N8z H8 G8 (fits_nar_byte _) W8 3 rfl (Nat.le_of_ble_eq_true rfl)
  have N8 := Fr.snoc X8 N6 pr3
  refine ogo (S' := T8.setTop (mkF m 32 #[.val (.ref ca_), .val (.int (3 : Int32)), .val (.ref ba_), .val (.int (3 : Int32)), .val (.int (4 : Int32)), .val (.int (3 : Int32)), .val (.int c3_)] [])) st8 ?_
  refine o_iinc X8 hx (l' := #[.val (.ref ca_), .val (.int (4 : Int32)), .val (.ref ba_), .val (.int (3 : Int32)), .val (.int (4 : Int32)), .val (.int (3 : Int32)), .val (.int c3_)]) (hb hby d6_32) rfl rfl ?_
  refine o_iinc X8 hx (l' := #[.val (.ref ca_), .val (.int (4 : Int32)), .val (.ref ba_), .val (.int (4 : Int32)), .val (.int (4 : Int32)), .val (.int (3 : Int32)), .val (.int c3_)]) (hb hby d6_35) rfl rfl ?_
  refine o_iinc X8 hx (l' := #[.val (.ref ca_), .val (.int (4 : Int32)), .val (.ref ba_), .val (.int (4 : Int32)), .val (.int (4 : Int32)), .val (.int (4 : Int32)), .val (.int c3_)]) (hb hby d6_38) rfl rfl ?_
  refine o_goto X8 hx 3 (hb hby d6_41) (by decide) (by decide) ?_
  refine o_iload X8 hx (hb hby d6_3) rfl ?_
  refine o_iload X8 hx (hb hby d6_5) rfl ?_
  refine o_icmpYes X8 hx 44 (hb hby d6_7) (flt (by decide : ¬ ((4 : Int32) < (4 : Int32)))).2.1 (by decide) (by decide) ?_
  refine o_iload X8 hx (hb hby d6_44) rfl ?_
  refine oend X8 hlk (v := some (.int (4 : Int32))) (fun h => by rw [hret] at h; cases h) (fun fs hr => retOut X8 hx (t := .int) (i := .ireturn) hret rfl (Or.inl ⟨rfl, Or.inl rfl, _, rfl⟩) (hb hby d6_46) hr) (by decide) (by decide) ?_
  show own_Q_cmp5_4 Z _ _ _ _ _ _ _ _ h0 n0 _ T8.heap _
  exact ⟨rfl, N8, (((((Keep.refl h0 [ba_]).wr W2 (Or.inl (List.mem_of_getElem? (i := 0) rfl))).wr W4 (Or.inl (List.mem_of_getElem? (i := 0) rfl))).wr W6 (Or.inl (List.mem_of_getElem? (i := 0) rfl))).wr W8 (Or.inl (List.mem_of_getElem? (i := 0) rfl))), V8⟩
def own_Q_cmp3_4 (Z : State)  (ca_ : Addr) (kc_ : ClassId) (c0_ : Int32) (c1_ : Int32) (c2_ : Int32) (c3_ : Int32) (h0 : Heap) (n0 : Nat) (v : Option Value) (h : Heap) (L : List Loc) : Prop := ∃ ba_ : Addr, ∃ kb_ : ClassId, (v = some (.ref ba_)) ∧ (Fr n0 L) ∧ (Keep h0 h []) ∧ (h0.size ≤ ba_) ∧ (Arv Z h ba_ kb_ .byte (4 : Int32) [(.int c0_.toInt8.toInt32), (.int c1_.toInt8.toInt32), (.int c2_.toInt8.toInt32), (.int c3_.toInt8.toInt32)] (.int 0))
set_option maxRecDepth 65536 in
set_option maxHeartbeats 40000000 in
theorem rm_cmp3_4 (l : Launch) (Z : State) (a0 : Array Value) (hw : ∀ d ∈ tables_1, d.before a0 Z = true) (ws : List Jvm.Cond)  (ca_ : Addr) (kc_ : ClassId) (c0_ : Int32) (c1_ : Int32) (c2_ : Int32) (c3_ : Int32) (h0 : Heap) (n0 : Nat) (O0 : Old Z n0 h0) (pr0 : Arv Z h0 ca_ kc_ .char (4 : Int32) [(.int c0_), (.int c1_), (.int c2_), (.int c3_)] (.int 0)) (pr1 : ¬ ((255 : Int32) < c0_)) (pr2 : ¬ ((255 : Int32) < c1_)) (pr3 : ¬ ((255 : Int32) < c2_)) (pr4 : ¬ ((255 : Int32) < c3_)) :
    oMet l Z yM6 jdk_52_method_16_code 6 (some (.array .byte)) ws ({ frames := 1, cells := 1, slots := 4, locals := 18 } : Room) 1 4 #[(.ref ca_), (.int (0 : Int32)), (.int (4 : Int32))] h0 (own_Q_cmp3_4 Z  ca_ kc_ c0_ c1_ c2_ c3_ h0 n0) := by
  refine oenter own_pn3 #[.val (.ref ca_), .val (.int (0 : Int32)), .val (.int (4 : Int32)), .unset, .unset, .unset] (fun m => by first | (simp [entryFrame, mkF, argsToLocals, Value.category]; done) | rfl) ?_
  intro p e s m below meth c s₁ X0 hx hZ hby hml hret hown0 hnm hlk e0
  have hown : s.vm.findClass "java/lang/StringUTF16" = some m.cls := hown0
  have N0 := Fr.nil n0
  have w24 := hw _ (List.mem_of_getElem? (i := 24) rfl)
  have w26 := hw _ (List.mem_of_getElem? (i := 26) rfl)
  have w27 := hw _ (List.mem_of_getElem? (i := 27) rfl)
  have w28 := hw _ (List.mem_of_getElem? (i := 28) rfl)
  have w29 := hw _ (List.mem_of_getElem? (i := 29) rfl)
  refine o_iloadN X0 hx (hb hby d7_0) rfl ?_
  obtain ⟨T1, _, k1, X1, rfl, E1, A1, Ex1, st1⟩ := newPE (aty := .byte) X0 hx hZ w26 e0 (g := (mkF m 1 #[.val (.ref ca_), .val (.int (0 : Int32)), .val (.int (4 : Int32)), .unset, .unset, .unset] [(.int (4 : Int32))])) rfl (hb hby d7_1) rfl (by decide) (cap := 4) (by decide) (by decide) (by decide) (by decide) (ad := "[B") rfl
  obtain ⟨b1, g1⟩ : ∃ z, z = h0.size := ⟨_, rfl⟩
  rw [← g1] at A1 Ex1 st1
  have n0_b1 : n0 ≤ b1 := Nat.le_trans (Nat.le_trans (Nat.le_of_eq O0.1.symm) O0.2.1) (Nat.le_trans (Nat.le_refl _) (Nat.le_of_eq g1.symm))
  have V1 : Arv Z T1.heap b1 k1 .byte (4 : Int32) [(.int 0), (.int 0), (.int 0), (.int 0)] (.int 0) := (Arv.new A1 (by decide)).pad (pad_rep [] (.int 0) 4)
  refine ogo (S' := T1.setTop (mkF m 3 #[.val (.ref ca_), .val (.int (0 : Int32)), .val (.int (4 : Int32)), .unset, .unset, .unset] [(.ref b1)])) st1 ?_
  refine o_astoreN X1 hx (l' := #[.val (.ref ca_), .val (.int (0 : Int32)), .val (.int (4 : Int32)), .val (.ref b1), .unset, .unset]) (hb hby d7_3) rfl rfl ?_
  refine o_aloadN X1 hx (hb hby d7_4) rfl rfl ?_
  refine o_iloadN X1 hx (hb hby d7_5) rfl ?_
  refine o_aloadN X1 hx (hb hby d7_6) rfl rfl ?_
  refine o_iconst X1 hx (0 : Int32) (hb hby d7_7) rfl ?_
  refine o_iloadN X1 hx (hb hby d7_8) rfl ?_
  obtain ⟨_, _, ⟨T2, L2, kc2, n2⟩, -, X2, ⟨Lc2, hQ2, l2, y2, z2⟩, st2⟩ := Jvm.LawKit.callS X1 hx (y := yM5) hown (mvT hZ w27) (mvT hZ w28) (mvT hZ w24) (mvT hZ w29) (by decide) (backOf (W := 0) (rm_cmp5_4 l Z a0 hw []  ca_ kc_ b1 k1 c0_ c1_ c2_ c3_ T1.heap n0 (O0.ext E1) (pr0.ext E1) V1 (Nat.ne_of_lt (Nat.lt_of_lt_of_le (Nat.lt_of_lt_of_le pr0.lt (Nat.le_refl _)) (Nat.le_of_eq g1.symm))) n0_b1 pr1 pr2 pr3 pr4) hZ w29 w24 (by decide) (by decide)) (g := (mkF m 9 #[.val (.ref ca_), .val (.int (0 : Int32)), .val (.int (4 : Int32)), .val (.ref b1), .unset, .unset] [(.int (4 : Int32)), (.int (0 : Int32)), (.ref b1), (.int (0 : Int32)), (.ref ca_)])) rfl (by rw [hml]; rfl) (argsL := [(.ref ca_), (.int (0 : Int32)), (.ref b1), (.int (0 : Int32)), (.int (4 : Int32))]) (rest := []) (lenOf own_pd3 rfl) rfl (by show 2 * 0 + _ ≤ _; exact Nat.le_of_eq rfl) (hb hby d7_9) (fun _ _ => ⟨rfl, rfl, (by decide : 1 + 0 ≤ _), (by decide : 4 + 0 ≤ _)⟩)
  dsimp only [Pt.U, Pt.locs, Pt.cells, Pt.slots] at X2 l2 y2 z2 st2 hQ2
  subst l2 y2 z2
  obtain ⟨rfl, Nq2, K2, p2_0⟩ := hQ2
  have N2 := Fr.app N0 Nq2
  refine ogo (S' := T2.setTop (mkF m 12 #[.val (.ref ca_), .val (.int (0 : Int32)), .val (.int (4 : Int32)), .val (.ref b1), .unset, .unset] [(.int (4 : Int32))])) st2 ?_
  refine o_istore X2 hx (l' := #[.val (.ref ca_), .val (.int (0 : Int32)), .val (.int (4 : Int32)), .val (.ref b1), .val (.int (4 : Int32)), .unset]) (hb hby d7_12) rfl ?_
  refine o_iload X2 hx (hb hby d7_14) rfl ?_
  refine o_iloadN X2 hx (hb hby d7_16) rfl ?_
  refine o_icmpYes X2 hx 57 (hb hby d7_17) (teq (by decide : (4 : Int32) = (4 : Int32))).1 (by decide) (by decide) ?_
  refine o_aloadN X2 hx (hb hby d7_57) rfl rfl ?_
  refine oend X2 hlk (v := some (.ref b1)) (fun h => by rw [hret] at h; cases h) (fun fs hr => retOut X2 hx (t := (.array .byte)) (i := .areturn) hret rfl (Or.inr (Or.inr (Or.inr (Or.inr ⟨rfl, rfl, rfl⟩)))) (hb hby d7_58) hr) (by decide) (by decide) ?_
  show own_Q_cmp3_4 Z _ _ _ _ _ _ h0 n0 _ T2.heap _
  exact ⟨b1, k1, rfl, N2, (((Keep.refl h0 []).ext E1).trans K2 (allS (Or.inr (Nat.le_trans (Nat.le_refl _) (Nat.le_of_eq g1.symm))) all0)), (Nat.le_trans (Nat.le_refl _) (Nat.le_of_eq g1.symm)), p2_0⟩
def own_Q_codl_4 (Z : State)  (ba_ : Addr) (kb_ : ClassId) (vs_ : List Value) (h0 : Heap) (n0 : Nat) (v : Option Value) (h : Heap) (L : List Loc) : Prop := (v = some (.int (0 : Int32))) ∧ (Fr n0 L) ∧ (h = h0)
set_option maxRecDepth 65536 in
set_option maxHeartbeats 40000000 in
theorem rm_codl_4 (l : Launch) (Z : State) (a0 : Array Value) (hw : ∀ d ∈ tables_1, d.before a0 Z = true) (ws : List Jvm.Cond)  (ba_ : Addr) (kb_ : ClassId) (vs_ : List Value) (h0 : Heap) (n0 : Nat) (O0 : Old Z n0 h0) (pr0 : Arv Z h0 ba_ kb_ .byte (4 : Int32) vs_ (.int 0)) :
    oMet l Z yM7 jdk_52_method_15_code 2 (some .byte) ws ({ frames := 0, cells := 0, slots := 0, locals := 0 } : Room) 0 0 #[(.ref ba_), (.int (4 : Int32))] h0 (own_Q_codl_4 Z  ba_ kb_ vs_ h0 n0) := by
  refine oenter own_pn3 #[.val (.ref ba_), .val (.int (4 : Int32))] (fun m => by first | (simp [entryFrame, mkF, argsToLocals, Value.category]; done) | rfl) ?_
  intro p e s m below meth c s₁ X0 hx hZ hby hml hret hown0 hnm hlk e0
  have hown : s.vm.findClass "java/lang/StringUTF16" = some m.cls := hown0
  have N0 := Fr.nil n0
  refine o_iloadN X0 hx (hb hby d8_0) rfl ?_
  refine o_aloadN X0 hx (hb hby d8_1) rfl rfl ?_
  obtain ⟨cl1, Ar1, -, S1, N1z, -, -⟩ := (id pr0)
  refine ogo (S' := s₁.setTop (mkF m 3 #[.val (.ref ba_), .val (.int (4 : Int32))] [(.int (4 : Int32)), (.int (4 : Int32))])) (fun _ kt_ => X0.arraylength hx (by rw [e0]; exact Ar1.1) (State.isArrayOf_alike hZ.alike Ar1.2.1) (g := (mkF m 2 #[.val (.ref ba_), .val (.int (4 : Int32))] [(.ref ba_), (.int (4 : Int32))])) rfl rfl (hb hby d8_2) _ (by rw [len_of S1 N1z]; exact kt_)) ?_
  refine o_isub X0 hx (hb hby d8_3) ?_
  refine o_bipush X0 hx (31 : Int32) (hb hby d8_4) rfl ?_
  refine o_iushr X0 hx (hb hby d8_6) ?_
  refine o_i2b X0 hx (hb hby d8_7) ?_
  refine oend X0 hlk (v := some (.int (0 : Int32))) (fun h => by rw [hret] at h; cases h) (fun fs hr => retN X0 hx (t := .byte) hret (by simp) (hb hby d8_8) hr) (by decide) (by decide) ?_
  show own_Q_codl_4 Z _ _ _ h0 n0 _ s₁.heap _
  rw [e0]
  exact ⟨rfl, N0, rfl⟩
def own_Q_new4_4 (Z : State) (s_LIKE : Addr) (s_TOGGLE : Addr) (s__VALUES : Addr) (s_FAV : Addr) (s_VIEW : Addr) (s_LIKE_id : Addr) (s_LIKE_id_value : Addr) (s_INCREMENT : Addr) (s_FAV_id : Addr) (s_FAV_id_value : Addr) (s_VIEW_id : Addr) (s_VIEW_id_value : Addr) (k_s__VALUES : ClassId) (k_s_LIKE_id_value : ClassId) (k_s_FAV_id_value : ClassId) (k_s_VIEW_id_value : ClassId) (z_CS : Int32) (v_FMT : Value) (x_ : Addr) (ca_ : Addr) (kc_ : ClassId) (c0_ : Int32) (c1_ : Int32) (c2_ : Int32) (c3_ : Int32) (h0 : Heap) (n0 : Nat) (v : Option Value) (h : Heap) (L : List Loc) : Prop := ∃ ba_ : Addr, ∃ kb_ : ClassId, (v = none) ∧ (Fr n0 L) ∧ (Keep h0 h [x_]) ∧ (h0.size ≤ ba_) ∧ (Arv Z h ba_ kb_ .byte (4 : Int32) [(.int c0_.toInt8.toInt32), (.int c1_.toInt8.toInt32), (.int c2_.toInt8.toInt32), (.int c3_.toInt8.toInt32)] (.int 0)) ∧ (Exa Z h x_ "java/lang/String") ∧ (Fld Z h x_ "java/lang/String" "value" "[B" (.ref ba_)) ∧ (Fld Z h x_ "java/lang/String" "coder" "B" (.int (0 : Int32)))
set_option maxRecDepth 65536 in
set_option maxHeartbeats 40000000 in
theorem rm_new4_4 (l : Launch) (Z : State) (a0 : Array Value) (hw : ∀ d ∈ tables_1, d.before a0 Z = true) (ws : List Jvm.Cond) (s_LIKE : Addr) (s_TOGGLE : Addr) (s__VALUES : Addr) (s_FAV : Addr) (s_VIEW : Addr) (s_LIKE_id : Addr) (s_LIKE_id_value : Addr) (s_INCREMENT : Addr) (s_FAV_id : Addr) (s_FAV_id_value : Addr) (s_VIEW_id : Addr) (s_VIEW_id_value : Addr) (k_s__VALUES : ClassId) (k_s_LIKE_id_value : ClassId) (k_s_FAV_id_value : ClassId) (k_s_VIEW_id_value : ClassId) (z_CS : Int32) (v_FMT : Value) (x_ : Addr) (ca_ : Addr) (kc_ : ClassId) (c0_ : Int32) (c1_ : Int32) (c2_ : Int32) (c3_ : Int32) (h0 : Heap) (n0 : Nat) (SB : own_Start Z s_LIKE s_TOGGLE s__VALUES s_FAV s_VIEW s_LIKE_id s_LIKE_id_value s_INCREMENT s_FAV_id s_FAV_id_value s_VIEW_id s_VIEW_id_value k_s__VALUES k_s_LIKE_id_value k_s_FAV_id_value k_s_VIEW_id_value z_CS v_FMT) (O0 : Old Z n0 h0) (pr0 : Exa Z h0 x_ "java/lang/String") (pr1 : Fld Z h0 x_ "java/lang/String" "value" "[B" .null) (pr2 : Fld Z h0 x_ "java/lang/String" "coder" "B" (.int (0 : Int32))) (pr3 : Arv Z h0 ca_ kc_ .char (4 : Int32) [(.int c0_), (.int c1_), (.int c2_), (.int c3_)] (.int 0)) (pr4 : n0 ≤ x_) (pr5 : ¬ ((255 : Int32) < c0_)) (pr6 : ¬ ((255 : Int32) < c1_)) (pr7 : ¬ ((255 : Int32) < c2_)) (pr8 : ¬ ((255 : Int32) < c3_)) :
    oMet l Z yM8 jdk_42_method_149_code 6 none ws ({ frames := 2, cells := 1, slots := 4, locals := 35 } : Room) 1 4 #[(.ref x_), (.ref ca_), (.int (0 : Int32)), (.int (4 : Int32)), .null] h0 (own_Q_new4_4 Z s_LIKE s_TOGGLE s__VALUES s_FAV s_VIEW s_LIKE_id s_LIKE_id_value s_INCREMENT s_FAV_id s_FAV_id_value s_VIEW_id s_VIEW_id_value k_s__VALUES k_s_LIKE_id_value k_s_FAV_id_value k_s_VIEW_id_value z_CS v_FMT x_ ca_ kc_ c0_ c1_ c2_ c3_ h0 n0) := by
  refine oenter own_pn2 #[.val (.ref x_), .val (.ref ca_), .val (.int (0 : Int32)), .val (.int (4 : Int32)), .val .null, .unset] (fun m => by first | (simp [entryFrame, mkF, argsToLocals, Value.category]; done) | rfl) ?_
  intro p e s m below meth c s₁ X0 hx hZ hby hml hret hown0 hnm hlk e0
  have hown : s.vm.findClass "java/lang/String" = some m.cls := hown0
  have N0 := Fr.nil n0
  obtain ⟨S_s_LIKE, E_s_LIKE, S_s_TOGGLE, E_s_TOGGLE, S_s__VALUES, E_s__VALUES, S_s_FAV, E_s_FAV, S_s_VIEW, E_s_VIEW, F_s_LIKE_id, E_s_LIKE_id, F_s_LIKE_id_value, S_s_INCREMENT, E_s_INCREMENT, F_s_FAV_id, E_s_FAV_id, F_s_FAV_id_value, F_s_VIEW_id, E_s_VIEW_id, F_s_VIEW_id_value, F_s_LIKE_id_coder, F_s_LIKE_kind, F_s_FAV_id_coder, F_s_VIEW_id_coder, F_s_VIEW_kind, F_s_FAV_kind, V_s__VALUES, V_s_LIKE_id_value, V_s_FAV_id_value, V_s_VIEW_id_value, S_CS, H_CS, S_FMT, R_FMT⟩ := (id SB)
  have w9 := hw _ (List.mem_of_getElem? (i := 9) rfl)
  have w18 := hw _ (List.mem_of_getElem? (i := 18) rfl)
  have w19 := hw _ (List.mem_of_getElem? (i := 19) rfl)
  have w20 := hw _ (List.mem_of_getElem? (i := 20) rfl)
  have w21 := hw _ (List.mem_of_getElem? (i := 21) rfl)
  have w22 := hw _ (List.mem_of_getElem? (i := 22) rfl)
  have w23 := hw _ (List.mem_of_getElem? (i := 23) rfl)
  have w24 := hw _ (List.mem_of_getElem? (i := 24) rfl)
  have w25 := hw _ (List.mem_of_getElem? (i := 25) rfl)
  have w30 := hw _ (List.mem_of_getElem? (i := 30) rfl)
  have w31 := hw _ (List.mem_of_getElem? (i := 31) rfl)
  have w32 := hw _ (List.mem_of_getElem? (i := 32) rfl)
  have w33 := hw _ (List.mem_of_getElem? (i := 33) rfl)
  have w34 := hw _ (List.mem_of_getElem? (i := 34) rfl)
  have w35 := hw _ (List.mem_of_getElem? (i := 35) rfl)
  have w36 := hw _ (List.mem_of_getElem? (i := 36) rfl)
  refine o_aloadN X0 hx (hb hby d9_0) rfl rfl ?_
  obtain ⟨T1, X1, e1, st1⟩ := initO X0 hx hZ hown w18 w19 w20 e0 (g := (mkF m 1 #[.val (.ref x_), .val (.ref ca_), .val (.int (0 : Int32)), .val (.int (4 : Int32)), .val .null, .unset] [(.ref x_)])) rfl (by rw [hml]; rfl) rfl (hb hby d9_1) (by decide) (W := 0) (by show 2 * 0 + _ ≤ _; exact Nat.le_of_eq rfl) (by decide)
  refine ogo (S' := T1.setTop (mkF m 4 #[.val (.ref x_), .val (.ref ca_), .val (.int (0 : Int32)), .val (.int (4 : Int32)), .val .null, .unset] [])) st1 ?_
  refine o_iloadN X1 hx (hb hby d9_4) rfl ?_
  refine o_ifYes X1 hx 27 (hb hby d9_5) (feq (by decide : ¬ ((4 : Int32) = (0 : Int32)))).2 (by decide) (by decide) ?_
  obtain ⟨T2, X2, e2, st2⟩ := getS2 X1 hx hZ hown (host := "") (Or.inl w21) Via.refl e1 (Sta.ext O0.2 S_CS) (g := (mkF m 27 #[.val (.ref x_), .val (.ref ca_), .val (.int (0 : Int32)), .val (.int (4 : Int32)), .val .null, .unset] [])) rfl (hb hby d9_27)
  refine ogo (S' := T2.setTop (mkF m 30 #[.val (.ref x_), .val (.ref ca_), .val (.int (0 : Int32)), .val (.int (4 : Int32)), .val .null, .unset] [(.int z_CS)])) st2 ?_
  refine o_ifNo X2 hx (hb hby d9_30) (feq H_CS).1 ?_
  refine o_aloadN X2 hx (hb hby d9_33) rfl rfl ?_
  refine o_iloadN X2 hx (hb hby d9_34) rfl ?_
  refine o_iloadN X2 hx (hb hby d9_35) rfl ?_
  obtain ⟨_, _, ⟨T3, L3, kc3, n3⟩, -, X3, ⟨Lc3, hQ3, l3, y3, z3⟩, st3⟩ := Jvm.LawKit.callS X2 hx (y := yM6) hown (mvT hZ w22) (mvT hZ w23) (mvT hZ w24) (mvT hZ w25) (by decide) (backOf (W := 0) (rm_cmp3_4 l Z a0 hw []  ca_ kc_ c0_ c1_ c2_ c3_ h0 n0 O0 pr3 pr5 pr6 pr7 pr8) hZ w25 w24 (by decide) (by decide)) (g := (mkF m 36 #[.val (.ref x_), .val (.ref ca_), .val (.int (0 : Int32)), .val (.int (4 : Int32)), .val .null, .unset] [(.int (4 : Int32)), (.int (0 : Int32)), (.ref ca_)])) rfl (by rw [hml]; rfl) (argsL := [(.ref ca_), (.int (0 : Int32)), (.int (4 : Int32))]) (rest := []) (lenOf own_pd4 rfl) rfl (by show 2 * 0 + _ ≤ _; exact Nat.le_of_eq rfl) (hb hby d9_36) (fun _ _ => ⟨rfl, e2, (by decide : 0 + 1 ≤ _), (by decide : 0 + 4 ≤ _)⟩)
  dsimp only [Pt.U, Pt.locs, Pt.cells, Pt.slots] at X3 l3 y3 z3 st3 hQ3
  subst l3 y3 z3
  obtain ⟨ba_3, kb_3, rfl, Nq3, K3, p3_0, p3_1⟩ := hQ3
  have N3 := Fr.app N0 Nq3
  have n0_ba_3 : n0 ≤ ba_3 := Nat.le_trans (Nat.le_trans (Nat.le_of_eq O0.1.symm) O0.2.1) (Nat.le_trans (Nat.le_refl _) p3_0)
  refine ogo (S' := T3.setTop (mkF m 39 #[.val (.ref x_), .val (.ref ca_), .val (.int (0 : Int32)), .val (.int (4 : Int32)), .val .null, .unset] [(.ref ba_3)])) st3 ?_
  refine o_astore X3 hx (l' := #[.val (.ref x_), .val (.ref ca_), .val (.int (0 : Int32)), .val (.int (4 : Int32)), .val .null, .val (.ref ba_3)]) (hb hby d9_39) rfl rfl ?_
  refine o_aloadN X3 hx (hb hby d9_41) rfl rfl ?_
  refine o_aload X3 hx (hb hby d9_42) rfl rfl ?_
  refine o_iloadN X3 hx (hb hby d9_44) rfl ?_
  obtain ⟨_, _, ⟨T4, L4, kc4, n4⟩, -, X4, ⟨Lc4, hQ4, l4, y4, z4⟩, st4⟩ := Jvm.LawKit.callS X3 hx (y := yM7) hown (mvT hZ w30) (mvT hZ w31) (mvT hZ w24) (mvT hZ w32) (by decide) (backOf (W := 1) (rm_codl_4 l Z a0 hw []  ba_3 kb_3 [(.int c0_.toInt8.toInt32), (.int c1_.toInt8.toInt32), (.int c2_.toInt8.toInt32), (.int c3_.toInt8.toInt32)] T3.heap n0 (O0.keep K3 all0) p3_1) hZ w32 w24 (by decide) (by decide)) (g := (mkF m 45 #[.val (.ref x_), .val (.ref ca_), .val (.int (0 : Int32)), .val (.int (4 : Int32)), .val .null, .val (.ref ba_3)] [(.int (4 : Int32)), (.ref ba_3), (.ref x_)])) rfl (by rw [hml]; rfl) (argsL := [(.ref ba_3), (.int (4 : Int32))]) (rest := [(.ref x_)]) (lenOf own_pd5 rfl) rfl (by show 2 * 0 + _ ≤ _; exact Nat.le_of_eq rfl) (hb hby d9_45) (fun _ _ => ⟨rfl, rfl, (by decide : 1 + 0 ≤ _), (by decide : 4 + 0 ≤ _)⟩)
  dsimp only [Pt.U, Pt.locs, Pt.cells, Pt.slots] at X4 l4 y4 z4 st4 hQ4
  subst l4 y4 z4
  obtain ⟨rfl, Nq4, e4⟩ := hQ4
  have N4 := Fr.app N3 Nq4
  refine ogo (S' := T4.setTop (mkF m 48 #[.val (.ref x_), .val (.ref ca_), .val (.int (0 : Int32)), .val (.int (4 : Int32)), .val .null, .val (.ref ba_3)] [(.int (0 : Int32)), (.ref x_)])) st4 ?_
  obtain ⟨T5, _, X5, rfl, W5, st5⟩ := putFN X4 hx hZ hown w33 Via.refl e4 (pr2.keep K3 nin0) (pr0.keep K3) (Or.inr ⟨w34, rfl, hnm⟩) w9 (ty := .byte) (v' := (.int (0 : Int32))) (by decide) rfl (by decide) (g := (mkF m 48 #[.val (.ref x_), .val (.ref ca_), .val (.int (0 : Int32)), .val (.int (4 : Int32)), .val .null, .val (.ref ba_3)] [(.int (0 : Int32)), (.ref x_)])) rfl rfl (hb hby d9_48)
  have N5 := Fr.snoc X5 N4 pr4
  have F5 := Fld.same W5 (pr2.keep K3 nin0)
  refine ogo (S' := T5.setTop (mkF m 51 #[.val (.ref x_), .val (.ref ca_), .val (.int (0 : Int32)), .val (.int (4 : Int32)), .val .null, .val (.ref ba_3)] [])) st5 ?_
  refine o_aloadN X5 hx (hb hby d9_51) rfl rfl ?_
  refine o_aload X5 hx (hb hby d9_52) rfl rfl ?_
  have c7 := (Fld.other W5 (pr1.keep K3 nin0) (Or.inr (slot_ne (Or.inr w36) (Or.inr w34) (by decide) (t := (.array .byte)) (t' := .byte) (by decide) (by decide))))
  obtain ⟨T6, _, X6, rfl, W6, st6⟩ := putF X5 hx hZ hown (host := "") (Or.inl w35) Via.refl rfl c7 (Exa.wr W5 (pr0.keep K3)) (Or.inr ⟨w36, rfl, hnm⟩) w9 (ty := (.array .byte)) (by decide) rfl rfl (g := (mkF m 54 #[.val (.ref x_), .val (.ref ca_), .val (.int (0 : Int32)), .val (.int (4 : Int32)), .val .null, .val (.ref ba_3)] [(.ref ba_3), (.ref x_)])) rfl rfl (hb hby d9_54)
  have N6 := Fr.snoc X6 N5 pr4
  have F6 := Fld.same W6 c7
  refine ogo (S' := T6.setTop (mkF m 57 #[.val (.ref x_), .val (.ref ca_), .val (.int (0 : Int32)), .val (.int (4 : Int32)), .val .null, .val (.ref ba_3)] [])) st6 ?_
  have c8 := ((p3_1.other W5 (Nat.ne_of_gt (Nat.lt_of_lt_of_le (Nat.lt_of_lt_of_le pr0.lt (Nat.le_refl _)) p3_0))).other W6 (Nat.ne_of_gt (Nat.lt_of_lt_of_le (Nat.lt_of_lt_of_le pr0.lt (Nat.le_refl _)) p3_0)))
  have c9 := (Fld.other W6 F5 (Or.inr (slot_ne (Or.inr w34) (Or.inr w36) (by decide) (t := .byte) (t' := (.array .byte)) (by decide) (by decide))))
  refine oend X6 hlk (v := none) (fun _ => rfl) (fun fs hr => X6.returnOut hx hret (hb hby d9_57) hr) (by decide) (by decide) ?_
  show own_Q_new4_4 Z _ _ _ _ _ _ _ _ _ _ _ _ _ _ _ _ _ _ _ _ _ _ _ _ _ h0 n0 _ T6.heap _
  exact ⟨ba_3, kb_3, rfl, N6, ((((Keep.refl h0 [x_]).trans K3 all0).wr W5 (Or.inl (List.mem_of_getElem? (i := 0) rfl))).wr W6 (Or.inl (List.mem_of_getElem? (i := 0) rfl))), (Nat.le_trans (Nat.le_refl _) p3_0), c8, (Exa.wr W6 (Exa.wr W5 (pr0.keep K3))), F6, c9⟩
def own_Q_new1_4 (Z : State) (s_LIKE : Addr) (s_TOGGLE : Addr) (s__VALUES : Addr) (s_FAV : Addr) (s_VIEW : Addr) (s_LIKE_id : Addr) (s_LIKE_id_value : Addr) (s_INCREMENT : Addr) (s_FAV_id : Addr) (s_FAV_id_value : Addr) (s_VIEW_id : Addr) (s_VIEW_id_value : Addr) (k_s__VALUES : ClassId) (k_s_LIKE_id_value : ClassId) (k_s_FAV_id_value : ClassId) (k_s_VIEW_id_value : ClassId) (z_CS : Int32) (v_FMT : Value) (x_ : Addr) (ca_ : Addr) (kc_ : ClassId) (c0_ : Int32) (c1_ : Int32) (c2_ : Int32) (c3_ : Int32) (h0 : Heap) (n0 : Nat) (v : Option Value) (h : Heap) (L : List Loc) : Prop := ∃ ba_ : Addr, ∃ kb_ : ClassId, (v = none) ∧ (Fr n0 L) ∧ (Keep h0 h [x_]) ∧ (h0.size ≤ ba_) ∧ (Arv Z h ba_ kb_ .byte (4 : Int32) [(.int c0_.toInt8.toInt32), (.int c1_.toInt8.toInt32), (.int c2_.toInt8.toInt32), (.int c3_.toInt8.toInt32)] (.int 0)) ∧ (Exa Z h x_ "java/lang/String") ∧ (Fld Z h x_ "java/lang/String" "value" "[B" (.ref ba_)) ∧ (Fld Z h x_ "java/lang/String" "coder" "B" (.int (0 : Int32)))
set_option maxRecDepth 65536 in
set_option maxHeartbeats 40000000 in
theorem rm_new1_4 (l : Launch) (Z : State) (a0 : Array Value) (hw : ∀ d ∈ tables_1, d.before a0 Z = true) (ws : List Jvm.Cond) (s_LIKE : Addr) (s_TOGGLE : Addr) (s__VALUES : Addr) (s_FAV : Addr) (s_VIEW : Addr) (s_LIKE_id : Addr) (s_LIKE_id_value : Addr) (s_INCREMENT : Addr) (s_FAV_id : Addr) (s_FAV_id_value : Addr) (s_VIEW_id : Addr) (s_VIEW_id_value : Addr) (k_s__VALUES : ClassId) (k_s_LIKE_id_value : ClassId) (k_s_FAV_id_value : ClassId) (k_s_VIEW_id_value : ClassId) (z_CS : Int32) (v_FMT : Value) (x_ : Addr) (ca_ : Addr) (kc_ : ClassId) (c0_ : Int32) (c1_ : Int32) (c2_ : Int32) (c3_ : Int32) (h0 : Heap) (n0 : Nat) (SB : own_Start Z s_LIKE s_TOGGLE s__VALUES s_FAV s_VIEW s_LIKE_id s_LIKE_id_value s_INCREMENT s_FAV_id s_FAV_id_value s_VIEW_id s_VIEW_id_value k_s__VALUES k_s_LIKE_id_value k_s_FAV_id_value k_s_VIEW_id_value z_CS v_FMT) (O0 : Old Z n0 h0) (pr0 : Exa Z h0 x_ "java/lang/String") (pr1 : Fld Z h0 x_ "java/lang/String" "value" "[B" .null) (pr2 : Fld Z h0 x_ "java/lang/String" "coder" "B" (.int (0 : Int32))) (pr3 : Arv Z h0 ca_ kc_ .char (4 : Int32) [(.int c0_), (.int c1_), (.int c2_), (.int c3_)] (.int 0)) (pr4 : n0 ≤ x_) (pr5 : ¬ ((255 : Int32) < c0_)) (pr6 : ¬ ((255 : Int32) < c1_)) (pr7 : ¬ ((255 : Int32) < c2_)) (pr8 : ¬ ((255 : Int32) < c3_)) :
    oMet l Z yM9 jdk_42_method_3_code 2 none ws ({ frames := 3, cells := 1, slots := 4, locals := 52 } : Room) 1 4 #[(.ref x_), (.ref ca_)] h0 (own_Q_new1_4 Z s_LIKE s_TOGGLE s__VALUES s_FAV s_VIEW s_LIKE_id s_LIKE_id_value s_INCREMENT s_FAV_id s_FAV_id_value s_VIEW_id s_VIEW_id_value k_s__VALUES k_s_LIKE_id_value k_s_FAV_id_value k_s_VIEW_id_value z_CS v_FMT x_ ca_ kc_ c0_ c1_ c2_ c3_ h0 n0) := by
  refine oenter own_pn2 #[.val (.ref x_), .val (.ref ca_)] (fun m => by first | (simp [entryFrame, mkF, argsToLocals, Value.category]; done) | rfl) ?_
  intro p e s m below meth c s₁ X0 hx hZ hby hml hret hown0 hnm hlk e0
  have hown : s.vm.findClass "java/lang/String" = some m.cls := hown0
  have N0 := Fr.nil n0
  obtain ⟨S_s_LIKE, E_s_LIKE, S_s_TOGGLE, E_s_TOGGLE, S_s__VALUES, E_s__VALUES, S_s_FAV, E_s_FAV, S_s_VIEW, E_s_VIEW, F_s_LIKE_id, E_s_LIKE_id, F_s_LIKE_id_value, S_s_INCREMENT, E_s_INCREMENT, F_s_FAV_id, E_s_FAV_id, F_s_FAV_id_value, F_s_VIEW_id, E_s_VIEW_id, F_s_VIEW_id_value, F_s_LIKE_id_coder, F_s_LIKE_kind, F_s_FAV_id_coder, F_s_VIEW_id_coder, F_s_VIEW_kind, F_s_FAV_kind, V_s__VALUES, V_s_LIKE_id_value, V_s_FAV_id_value, V_s_VIEW_id_value, S_CS, H_CS, S_FMT, R_FMT⟩ := (id SB)
  have w10 := hw _ (List.mem_of_getElem? (i := 10) rfl)
  have w14 := hw _ (List.mem_of_getElem? (i := 14) rfl)
  have w15 := hw _ (List.mem_of_getElem? (i := 15) rfl)
  have w17 := hw _ (List.mem_of_getElem? (i := 17) rfl)
  refine o_aloadN X0 hx (hb hby d10_0) rfl rfl ?_
  refine o_aloadN X0 hx (hb hby d10_1) rfl rfl ?_
  refine o_iconst X0 hx (0 : Int32) (hb hby d10_2) rfl ?_
  refine o_aloadN X0 hx (hb hby d10_3) rfl rfl ?_
  obtain ⟨cl1, Ar1, -, S1, N1z, -, -⟩ := (id pr3)
  refine ogo (S' := s₁.setTop (mkF m 5 #[.val (.ref x_), .val (.ref ca_)] [(.int (4 : Int32)), (.int (0 : Int32)), (.ref ca_), (.ref x_)])) (fun _ kt_ => X0.arraylength hx (by rw [e0]; exact Ar1.1) (State.isArrayOf_alike hZ.alike Ar1.2.1) (g := (mkF m 4 #[.val (.ref x_), .val (.ref ca_)] [(.ref ca_), (.int (0 : Int32)), (.ref ca_), (.ref x_)])) rfl rfl (hb hby d10_4) _ (by rw [len_of S1 N1z]; exact kt_)) ?_
  refine o_aconst_null X0 hx (hb hby d10_5) ?_
  obtain ⟨_, _, ⟨T2, L2, kc2, n2⟩, -, X2, ⟨Lc2, hQ2, l2, y2, z2⟩, st2⟩ := X0.specialBack hx (y := yM8) rfl hown (mvT hZ w14) (mvT hZ w15) (mvT hZ w17) (by decide) (backOf (W := 0) (rm_new4_4 l Z a0 hw [] s_LIKE s_TOGGLE s__VALUES s_FAV s_VIEW s_LIKE_id s_LIKE_id_value s_INCREMENT s_FAV_id s_FAV_id_value s_VIEW_id s_VIEW_id_value k_s__VALUES k_s_LIKE_id_value k_s_FAV_id_value k_s_VIEW_id_value z_CS v_FMT x_ ca_ kc_ c0_ c1_ c2_ c3_ h0 n0 SB O0 pr0 pr1 pr2 pr3 pr4 pr5 pr6 pr7 pr8) hZ w17 w10 (by decide) (by decide)) (g := (mkF m 6 #[.val (.ref x_), .val (.ref ca_)] [.null, (.int (4 : Int32)), (.int (0 : Int32)), (.ref ca_), (.ref x_)])) rfl (by rw [hml]; rfl) (Steps.refl _) (a := x_) (argsL := [(.ref ca_), (.int (0 : Int32)), (.int (4 : Int32)), .null]) (rest := []) (lenOf own_pd6 rfl) rfl (by show 2 * 0 + _ ≤ _; exact Nat.le_of_eq rfl) (hb hby d10_6) (fun _ _ => ⟨rfl, e0, (by decide : 0 + 1 ≤ _), (by decide : 0 + 4 ≤ _)⟩)
  dsimp only [Pt.U, Pt.locs, Pt.cells, Pt.slots] at X2 l2 y2 z2 st2 hQ2
  subst l2 y2 z2
  obtain ⟨ba_2, kb_2, rfl, Nq2, K2, p2_0, p2_1, p2_2, p2_3, p2_4⟩ := hQ2
  have N2 := Fr.app N0 Nq2
  have n0_ba_2 : n0 ≤ ba_2 := Nat.le_trans (Nat.le_trans (Nat.le_of_eq O0.1.symm) O0.2.1) (Nat.le_trans (Nat.le_refl _) p2_0)
  refine otr (S' := T2.setTop (mkF m 9 #[.val (.ref x_), .val (.ref ca_)] [])) st2 ?_
  refine oend X2 hlk (v := none) (fun _ => rfl) (fun fs hr => X2.returnOut hx hret (hb hby d10_9) hr) (by decide) (by decide) ?_
  show own_Q_new1_4 Z _ _ _ _ _ _ _ _ _ _ _ _ _ _ _ _ _ _ _ _ _ _ _ _ _ h0 n0 _ T2.heap _
  exact ⟨ba_2, kb_2, rfl, N2, ((Keep.refl h0 [x_]).trans K2 (allS (Or.inl (List.mem_of_getElem? (i := 0) rfl)) all0)), (Nat.le_trans (Nat.le_refl _) p2_0), p2_1, p2_2, p2_3, p2_4⟩
theorem own_pd7 : parseMethodDescriptor "(Ljava/lang/String;)Lcom/example/atomic_tally/atomictally/model/Metric;" = some ⟨[(.object "java/lang/String")], some (.object "com/example/atomic_tally/atomictally/model/Metric")⟩ := by decide +kernel
theorem d11_0 : decode prog_5_method_8_code 0 = .ok (.aload_n 0, 1) := by decide +kernel
theorem d11_1 : decode prog_5_method_8_code 1 = .ok (.invokestatic 90, 3) := by decide +kernel
theorem d11_4 : decode prog_5_method_8_code 4 = .ok (.astore_n 2, 1) := by decide +kernel
theorem d11_5 : decode prog_5_method_8_code 5 = .ok (.aload_n 2, 1) := by decide +kernel
theorem d11_6 : decode prog_5_method_8_code 6 = .ok (.getfield 36, 3) := by decide +kernel
theorem d11_9 : decode prog_5_method_8_code 9 = .ok (.aload_n 1, 1) := by decide +kernel
theorem d11_10 : decode prog_5_method_8_code 10 = .ok (.if_acmp .eq 28, 3) := by decide +kernel
theorem d11_38 : decode prog_5_method_8_code 38 = .ok (.aload_n 2, 1) := by decide +kernel
theorem d11_39 : decode prog_5_method_8_code 39 = .ok (.areturn, 1) := by decide +kernel
def own_Q_parse2_0 (Z : State) (s_LIKE : Addr) (s_TOGGLE : Addr) (s__VALUES : Addr) (s_FAV : Addr) (s_VIEW : Addr) (s_LIKE_id : Addr) (s_LIKE_id_value : Addr) (s_INCREMENT : Addr) (s_FAV_id : Addr) (s_FAV_id_value : Addr) (s_VIEW_id : Addr) (s_VIEW_id_value : Addr) (k_s__VALUES : ClassId) (k_s_LIKE_id_value : ClassId) (k_s_FAV_id_value : ClassId) (k_s_VIEW_id_value : ClassId) (z_CS : Int32) (v_FMT : Value) (x_ : Addr) (bb_ : Addr) (kc_ : ClassId) (h0 : Heap) (n0 : Nat) (v : Option Value) (h : Heap) (L : List Loc) : Prop := (v = some (.ref s_LIKE)) ∧ (Fr n0 L) ∧ (Keep h0 h [])
abbrev yM10 : MethodName := ⟨"com/example/atomic_tally/atomictally/model/Metric", "parse", "(Ljava/lang/String;Lcom/example/atomic_tally/atomictally/model/Metric$Kind;)Lcom/example/atomic_tally/atomictally/model/Metric;"⟩
set_option maxRecDepth 65536 in
set_option maxHeartbeats 40000000 in
theorem rm_parse2_0 (l : Launch) (Z : State) (a0 : Array Value) (hw : ∀ d ∈ tables_1, d.before a0 Z = true) (ws : List Jvm.Cond) (s_LIKE : Addr) (s_TOGGLE : Addr) (s__VALUES : Addr) (s_FAV : Addr) (s_VIEW : Addr) (s_LIKE_id : Addr) (s_LIKE_id_value : Addr) (s_INCREMENT : Addr) (s_FAV_id : Addr) (s_FAV_id_value : Addr) (s_VIEW_id : Addr) (s_VIEW_id_value : Addr) (k_s__VALUES : ClassId) (k_s_LIKE_id_value : ClassId) (k_s_FAV_id_value : ClassId) (k_s_VIEW_id_value : ClassId) (z_CS : Int32) (v_FMT : Value) (x_ : Addr) (bb_ : Addr) (kc_ : ClassId) (h0 : Heap) (n0 : Nat) (SB : own_Start Z s_LIKE s_TOGGLE s__VALUES s_FAV s_VIEW s_LIKE_id s_LIKE_id_value s_INCREMENT s_FAV_id s_FAV_id_value s_VIEW_id s_VIEW_id_value k_s__VALUES k_s_LIKE_id_value k_s_FAV_id_value k_s_VIEW_id_value z_CS v_FMT) (O0 : Old Z n0 h0) (pr0 : Exa Z h0 x_ "java/lang/String") (pr1 : Fld Z h0 x_ "java/lang/String" "coder" "B" (.int (0 : Int32))) (pr2 : Fld Z h0 x_ "java/lang/String" "value" "[B" (.ref bb_)) (pr3 : Arv Z h0 bb_ kc_ .byte (4 : Int32) [(.int (108 : Int32)), (.int (105 : Int32)), (.int (107 : Int32)), (.int (101 : Int32))] (.int 0)) (pr4 : n0 ≤ x_) :
    oMet l Z yM10 prog_5_method_8_code 3 (some (.object "com/example/atomic_tally/atomictally/model/Metric")) ws ({ frames := 3, cells := 1, slots := 3, locals := 44 } : Room) 1 3 #[(.ref x_), (.ref s_TOGGLE)] h0 (own_Q_parse2_0 Z s_LIKE s_TOGGLE s__VALUES s_FAV s_VIEW s_LIKE_id s_LIKE_id_value s_INCREMENT s_FAV_id s_FAV_id_value s_VIEW_id s_VIEW_id_value k_s__VALUES k_s_LIKE_id_value k_s_FAV_id_value k_s_VIEW_id_value z_CS v_FMT x_ bb_ kc_ h0 n0) := by
  refine oenter own_pn0 #[.val (.ref x_), .val (.ref s_TOGGLE), .unset] (fun m => by first | (simp [entryFrame, mkF, argsToLocals, Value.category]; done) | rfl) ?_
  intro p e s m below meth c s₁ X0 hx hZ hby hml hret hown0 hnm hlk e0
  have hown : s.vm.findClass "com/example/atomic_tally/atomictally/model/Metric" = some m.cls := hown0
  have N0 := Fr.nil n0
  obtain ⟨S_s_LIKE, E_s_LIKE, S_s_TOGGLE, E_s_TOGGLE, S_s__VALUES, E_s__VALUES, S_s_FAV, E_s_FAV, S_s_VIEW, E_s_VIEW, F_s_LIKE_id, E_s_LIKE_id, F_s_LIKE_id_value, S_s_INCREMENT, E_s_INCREMENT, F_s_FAV_id, E_s_FAV_id, F_s_FAV_id_value, F_s_VIEW_id, E_s_VIEW_id, F_s_VIEW_id_value, F_s_LIKE_id_coder, F_s_LIKE_kind, F_s_FAV_id_coder, F_s_VIEW_id_coder, F_s_VIEW_kind, F_s_FAV_kind, V_s__VALUES, V_s_LIKE_id_value, V_s_FAV_id_value, V_s_VIEW_id_value, S_CS, H_CS, S_FMT, R_FMT⟩ := (id SB)
  have w3 := hw _ (List.mem_of_getElem? (i := 3) rfl)
  have w40 := hw _ (List.mem_of_getElem? (i := 40) rfl)
  have w41 := hw _ (List.mem_of_getElem? (i := 41) rfl)
  have w42 := hw _ (List.mem_of_getElem? (i := 42) rfl)
  have w72 := hw _ (List.mem_of_getElem? (i := 72) rfl)
  refine o_aloadN X0 hx (hb hby d11_0) rfl rfl ?_
  obtain ⟨_, _, ⟨T1, L1, kc1, n1⟩, -, X1, ⟨Lc1, hQ1, l1, y1, z1⟩, st1⟩ := Jvm.LawKit.callS X0 hx (y := yM3) hown (mvT hZ w40) (mvT hZ w41) (mvT hZ w3) (mvT hZ w42) (by decide) (backOf (W := 0) (rm_parse_0 l Z a0 hw [] s_LIKE s_TOGGLE s__VALUES s_FAV s_VIEW s_LIKE_id s_LIKE_id_value s_INCREMENT s_FAV_id s_FAV_id_value s_VIEW_id s_VIEW_id_value k_s__VALUES k_s_LIKE_id_value k_s_FAV_id_value k_s_VIEW_id_value z_CS v_FMT x_ bb_ kc_ h0 n0 SB O0 pr0 pr1 pr2 pr3 pr4) hZ w42 w3 (by decide) (by decide)) (g := (mkF m 1 #[.val (.ref x_), .val (.ref s_TOGGLE), .unset] [(.ref x_)])) rfl (by rw [hml]; rfl) (argsL := [(.ref x_)]) (rest := []) (lenOf own_pd7 rfl) rfl (by show 2 * 0 + _ ≤ _; exact Nat.le_of_eq rfl) (hb hby d11_1) (fun _ _ => ⟨rfl, e0, (by decide : 0 + 1 ≤ _), (by decide : 0 + 3 ≤ _)⟩)
  dsimp only [Pt.U, Pt.locs, Pt.cells, Pt.slots] at X1 l1 y1 z1 st1 hQ1
  subst l1 y1 z1
  obtain ⟨rfl, Nq1, K1⟩ := hQ1
  have N1 := Fr.app N0 Nq1
  refine ogo (S' := T1.setTop (mkF m 4 #[.val (.ref x_), .val (.ref s_TOGGLE), .unset] [(.ref s_LIKE)])) st1 ?_
  refine o_astoreN X1 hx (l' := #[.val (.ref x_), .val (.ref s_TOGGLE), .val (.ref s_LIKE)]) (hb hby d11_4) rfl rfl ?_
  refine o_aloadN X1 hx (hb hby d11_5) rfl rfl ?_
  obtain ⟨T2, X2, e2, st2⟩ := getF X1 hx hZ hown (host := "") (Or.inl w72) Via.refl rfl (Fld.ext (O0.keep K1 all0).2 F_s_LIKE_kind) (g := (mkF m 6 #[.val (.ref x_), .val (.ref s_TOGGLE), .val (.ref s_LIKE)] [(.ref s_LIKE)])) rfl rfl (hb hby d11_6)
  refine ogo (S' := T2.setTop (mkF m 9 #[.val (.ref x_), .val (.ref s_TOGGLE), .val (.ref s_LIKE)] [(.ref s_TOGGLE)])) st2 ?_
  refine o_aloadN X2 hx (hb hby d11_9) rfl rfl ?_
  refine o_acmp X2 hx 38 true rfl rfl (hb hby d11_10) (decide_eq_true rfl) (by decide) (by decide) ?_
  refine o_aloadN X2 hx (hb hby d11_38) rfl rfl ?_
  refine oend X2 hlk (v := some (.ref s_LIKE)) (fun h => by rw [hret] at h; cases h) (fun fs hr => retOut X2 hx (t := (.object "com/example/atomic_tally/atomictally/model/Metric")) (i := .areturn) hret rfl (Or.inr (Or.inr (Or.inr (Or.inr ⟨rfl, rfl, rfl⟩)))) (hb hby d11_39) hr) (by decide) (by decide) ?_
  show own_Q_parse2_0 Z _ _ _ _ _ _ _ _ _ _ _ _ _ _ _ _ _ _ _ _ _ h0 n0 _ T2.heap _
  rw [e2]
  exact ⟨rfl, N1, ((Keep.refl h0 []).trans K1 all0)⟩
def own_Q_parse2_1 (Z : State) (s_LIKE : Addr) (s_TOGGLE : Addr) (s__VALUES : Addr) (s_FAV : Addr) (s_VIEW : Addr) (s_LIKE_id : Addr) (s_LIKE_id_value : Addr) (s_INCREMENT : Addr) (s_FAV_id : Addr) (s_FAV_id_value : Addr) (s_VIEW_id : Addr) (s_VIEW_id_value : Addr) (k_s__VALUES : ClassId) (k_s_LIKE_id_value : ClassId) (k_s_FAV_id_value : ClassId) (k_s_VIEW_id_value : ClassId) (z_CS : Int32) (v_FMT : Value) (x_ : Addr) (bb_ : Addr) (kc_ : ClassId) (h0 : Heap) (n0 : Nat) (v : Option Value) (h : Heap) (L : List Loc) : Prop := (v = some (.ref s_FAV)) ∧ (Fr n0 L) ∧ (Keep h0 h [])
set_option maxRecDepth 65536 in
set_option maxHeartbeats 40000000 in
theorem rm_parse2_1 (l : Launch) (Z : State) (a0 : Array Value) (hw : ∀ d ∈ tables_1, d.before a0 Z = true) (ws : List Jvm.Cond) (s_LIKE : Addr) (s_TOGGLE : Addr) (s__VALUES : Addr) (s_FAV : Addr) (s_VIEW : Addr) (s_LIKE_id : Addr) (s_LIKE_id_value : Addr) (s_INCREMENT : Addr) (s_FAV_id : Addr) (s_FAV_id_value : Addr) (s_VIEW_id : Addr) (s_VIEW_id_value : Addr) (k_s__VALUES : ClassId) (k_s_LIKE_id_value : ClassId) (k_s_FAV_id_value : ClassId) (k_s_VIEW_id_value : ClassId) (z_CS : Int32) (v_FMT : Value) (x_ : Addr) (bb_ : Addr) (kc_ : ClassId) (h0 : Heap) (n0 : Nat) (SB : own_Start Z s_LIKE s_TOGGLE s__VALUES s_FAV s_VIEW s_LIKE_id s_LIKE_id_value s_INCREMENT s_FAV_id s_FAV_id_value s_VIEW_id s_VIEW_id_value k_s__VALUES k_s_LIKE_id_value k_s_FAV_id_value k_s_VIEW_id_value z_CS v_FMT) (O0 : Old Z n0 h0) (pr0 : Exa Z h0 x_ "java/lang/String") (pr1 : Fld Z h0 x_ "java/lang/String" "coder" "B" (.int (0 : Int32))) (pr2 : Fld Z h0 x_ "java/lang/String" "value" "[B" (.ref bb_)) (pr3 : Arv Z h0 bb_ kc_ .byte (3 : Int32) [(.int (102 : Int32)), (.int (97 : Int32)), (.int (118 : Int32))] (.int 0)) (pr4 : n0 ≤ x_) :
    oMet l Z yM10 prog_5_method_8_code 3 (some (.object "com/example/atomic_tally/atomictally/model/Metric")) ws ({ frames := 3, cells := 1, slots := 3, locals := 44 } : Room) 1 3 #[(.ref x_), (.ref s_TOGGLE)] h0 (own_Q_parse2_1 Z s_LIKE s_TOGGLE s__VALUES s_FAV s_VIEW s_LIKE_id s_LIKE_id_value s_INCREMENT s_FAV_id s_FAV_id_value s_VIEW_id s_VIEW_id_value k_s__VALUES k_s_LIKE_id_value k_s_FAV_id_value k_s_VIEW_id_value z_CS v_FMT x_ bb_ kc_ h0 n0) := by
  refine oenter own_pn0 #[.val (.ref x_), .val (.ref s_TOGGLE), .unset] (fun m => by first | (simp [entryFrame, mkF, argsToLocals, Value.category]; done) | rfl) ?_
  intro p e s m below meth c s₁ X0 hx hZ hby hml hret hown0 hnm hlk e0
  have hown : s.vm.findClass "com/example/atomic_tally/atomictally/model/Metric" = some m.cls := hown0
  have N0 := Fr.nil n0
  obtain ⟨S_s_LIKE, E_s_LIKE, S_s_TOGGLE, E_s_TOGGLE, S_s__VALUES, E_s__VALUES, S_s_FAV, E_s_FAV, S_s_VIEW, E_s_VIEW, F_s_LIKE_id, E_s_LIKE_id, F_s_LIKE_id_value, S_s_INCREMENT, E_s_INCREMENT, F_s_FAV_id, E_s_FAV_id, F_s_FAV_id_value, F_s_VIEW_id, E_s_VIEW_id, F_s_VIEW_id_value, F_s_LIKE_id_coder, F_s_LIKE_kind, F_s_FAV_id_coder, F_s_VIEW_id_coder, F_s_VIEW_kind, F_s_FAV_kind, V_s__VALUES, V_s_LIKE_id_value, V_s_FAV_id_value, V_s_VIEW_id_value, S_CS, H_CS, S_FMT, R_FMT⟩ := (id SB)
  have w3 := hw _ (List.mem_of_getElem? (i := 3) rfl)
  have w40 := hw _ (List.mem_of_getElem? (i := 40) rfl)
  have w41 := hw _ (List.mem_of_getElem? (i := 41) rfl)
  have w42 := hw _ (List.mem_of_getElem? (i := 42) rfl)
  have w72 := hw _ (List.mem_of_getElem? (i := 72) rfl)
  refine o_aloadN X0 hx (hb hby d11_0) rfl rfl ?_
  obtain ⟨_, _, ⟨T1, L1, kc1, n1⟩, -, X1, ⟨Lc1, hQ1, l1, y1, z1⟩, st1⟩ := Jvm.LawKit.callS X0 hx (y := yM3) hown (mvT hZ w40) (mvT hZ w41) (mvT hZ w3) (mvT hZ w42) (by decide) (backOf (W := 0) (rm_parse_1 l Z a0 hw [] s_LIKE s_TOGGLE s__VALUES s_FAV s_VIEW s_LIKE_id s_LIKE_id_value s_INCREMENT s_FAV_id s_FAV_id_value s_VIEW_id s_VIEW_id_value k_s__VALUES k_s_LIKE_id_value k_s_FAV_id_value k_s_VIEW_id_value z_CS v_FMT x_ bb_ kc_ h0 n0 SB O0 pr0 pr1 pr2 pr3 pr4) hZ w42 w3 (by decide) (by decide)) (g := (mkF m 1 #[.val (.ref x_), .val (.ref s_TOGGLE), .unset] [(.ref x_)])) rfl (by rw [hml]; rfl) (argsL := [(.ref x_)]) (rest := []) (lenOf own_pd7 rfl) rfl (by show 2 * 0 + _ ≤ _; exact Nat.le_of_eq rfl) (hb hby d11_1) (fun _ _ => ⟨rfl, e0, (by decide : 0 + 1 ≤ _), (by decide : 0 + 3 ≤ _)⟩)
  dsimp only [Pt.U, Pt.locs, Pt.cells, Pt.slots] at X1 l1 y1 z1 st1 hQ1
  subst l1 y1 z1
  obtain ⟨rfl, Nq1, K1⟩ := hQ1
  have N1 := Fr.app N0 Nq1
  refine ogo (S' := T1.setTop (mkF m 4 #[.val (.ref x_), .val (.ref s_TOGGLE), .unset] [(.ref s_FAV)])) st1 ?_
  refine o_astoreN X1 hx (l' := #[.val (.ref x_), .val (.ref s_TOGGLE), .val (.ref s_FAV)]) (hb hby d11_4) rfl rfl ?_
  refine o_aloadN X1 hx (hb hby d11_5) rfl rfl ?_
  obtain ⟨T2, X2, e2, st2⟩ := getF X1 hx hZ hown (host := "") (Or.inl w72) Via.refl rfl (Fld.ext (O0.keep K1 all0).2 F_s_FAV_kind) (g := (mkF m 6 #[.val (.ref x_), .val (.ref s_TOGGLE), .val (.ref s_FAV)] [(.ref s_FAV)])) rfl rfl (hb hby d11_6)
  refine ogo (S' := T2.setTop (mkF m 9 #[.val (.ref x_), .val (.ref s_TOGGLE), .val (.ref s_FAV)] [(.ref s_TOGGLE)])) st2 ?_
  refine o_aloadN X2 hx (hb hby d11_9) rfl rfl ?_
  refine o_acmp X2 hx 38 true rfl rfl (hb hby d11_10) (decide_eq_true rfl) (by decide) (by decide) ?_
  refine o_aloadN X2 hx (hb hby d11_38) rfl rfl ?_
  refine oend X2 hlk (v := some (.ref s_FAV)) (fun h => by rw [hret] at h; cases h) (fun fs hr => retOut X2 hx (t := (.object "com/example/atomic_tally/atomictally/model/Metric")) (i := .areturn) hret rfl (Or.inr (Or.inr (Or.inr (Or.inr ⟨rfl, rfl, rfl⟩)))) (hb hby d11_39) hr) (by decide) (by decide) ?_
  show own_Q_parse2_1 Z _ _ _ _ _ _ _ _ _ _ _ _ _ _ _ _ _ _ _ _ _ h0 n0 _ T2.heap _
  rw [e2]
  exact ⟨rfl, N1, ((Keep.refl h0 []).trans K1 all0)⟩
def own_Q_parse2_2 (Z : State) (s_LIKE : Addr) (s_TOGGLE : Addr) (s__VALUES : Addr) (s_FAV : Addr) (s_VIEW : Addr) (s_LIKE_id : Addr) (s_LIKE_id_value : Addr) (s_INCREMENT : Addr) (s_FAV_id : Addr) (s_FAV_id_value : Addr) (s_VIEW_id : Addr) (s_VIEW_id_value : Addr) (k_s__VALUES : ClassId) (k_s_LIKE_id_value : ClassId) (k_s_FAV_id_value : ClassId) (k_s_VIEW_id_value : ClassId) (z_CS : Int32) (v_FMT : Value) (x_ : Addr) (bb_ : Addr) (kc_ : ClassId) (h0 : Heap) (n0 : Nat) (v : Option Value) (h : Heap) (L : List Loc) : Prop := (v = some (.ref s_VIEW)) ∧ (Fr n0 L) ∧ (Keep h0 h [])
set_option maxRecDepth 65536 in
set_option maxHeartbeats 40000000 in
theorem rm_parse2_2 (l : Launch) (Z : State) (a0 : Array Value) (hw : ∀ d ∈ tables_1, d.before a0 Z = true) (ws : List Jvm.Cond) (s_LIKE : Addr) (s_TOGGLE : Addr) (s__VALUES : Addr) (s_FAV : Addr) (s_VIEW : Addr) (s_LIKE_id : Addr) (s_LIKE_id_value : Addr) (s_INCREMENT : Addr) (s_FAV_id : Addr) (s_FAV_id_value : Addr) (s_VIEW_id : Addr) (s_VIEW_id_value : Addr) (k_s__VALUES : ClassId) (k_s_LIKE_id_value : ClassId) (k_s_FAV_id_value : ClassId) (k_s_VIEW_id_value : ClassId) (z_CS : Int32) (v_FMT : Value) (x_ : Addr) (bb_ : Addr) (kc_ : ClassId) (h0 : Heap) (n0 : Nat) (SB : own_Start Z s_LIKE s_TOGGLE s__VALUES s_FAV s_VIEW s_LIKE_id s_LIKE_id_value s_INCREMENT s_FAV_id s_FAV_id_value s_VIEW_id s_VIEW_id_value k_s__VALUES k_s_LIKE_id_value k_s_FAV_id_value k_s_VIEW_id_value z_CS v_FMT) (O0 : Old Z n0 h0) (pr0 : Exa Z h0 x_ "java/lang/String") (pr1 : Fld Z h0 x_ "java/lang/String" "coder" "B" (.int (0 : Int32))) (pr2 : Fld Z h0 x_ "java/lang/String" "value" "[B" (.ref bb_)) (pr3 : Arv Z h0 bb_ kc_ .byte (4 : Int32) [(.int (118 : Int32)), (.int (105 : Int32)), (.int (101 : Int32)), (.int (119 : Int32))] (.int 0)) (pr4 : n0 ≤ x_) :
    oMet l Z yM10 prog_5_method_8_code 3 (some (.object "com/example/atomic_tally/atomictally/model/Metric")) ws ({ frames := 3, cells := 1, slots := 3, locals := 44 } : Room) 1 3 #[(.ref x_), (.ref s_INCREMENT)] h0 (own_Q_parse2_2 Z s_LIKE s_TOGGLE s__VALUES s_FAV s_VIEW s_LIKE_id s_LIKE_id_value s_INCREMENT s_FAV_id s_FAV_id_value s_VIEW_id s_VIEW_id_value k_s__VALUES k_s_LIKE_id_value k_s_FAV_id_value k_s_VIEW_id_value z_CS v_FMT x_ bb_ kc_ h0 n0) := by
  refine oenter own_pn0 #[.val (.ref x_), .val (.ref s_INCREMENT), .unset] (fun m => by first | (simp [entryFrame, mkF, argsToLocals, Value.category]; done) | rfl) ?_
  intro p e s m below meth c s₁ X0 hx hZ hby hml hret hown0 hnm hlk e0
  have hown : s.vm.findClass "com/example/atomic_tally/atomictally/model/Metric" = some m.cls := hown0
  have N0 := Fr.nil n0
  obtain ⟨S_s_LIKE, E_s_LIKE, S_s_TOGGLE, E_s_TOGGLE, S_s__VALUES, E_s__VALUES, S_s_FAV, E_s_FAV, S_s_VIEW, E_s_VIEW, F_s_LIKE_id, E_s_LIKE_id, F_s_LIKE_id_value, S_s_INCREMENT, E_s_INCREMENT, F_s_FAV_id, E_s_FAV_id, F_s_FAV_id_value, F_s_VIEW_id, E_s_VIEW_id, F_s_VIEW_id_value, F_s_LIKE_id_coder, F_s_LIKE_kind, F_s_FAV_id_coder, F_s_VIEW_id_coder, F_s_VIEW_kind, F_s_FAV_kind, V_s__VALUES, V_s_LIKE_id_value, V_s_FAV_id_value, V_s_VIEW_id_value, S_CS, H_CS, S_FMT, R_FMT⟩ := (id SB)
  have w3 := hw _ (List.mem_of_getElem? (i := 3) rfl)
  have w40 := hw _ (List.mem_of_getElem? (i := 40) rfl)
  have w41 := hw _ (List.mem_of_getElem? (i := 41) rfl)
  have w42 := hw _ (List.mem_of_getElem? (i := 42) rfl)
  have w72 := hw _ (List.mem_of_getElem? (i := 72) rfl)
  refine o_aloadN X0 hx (hb hby d11_0) rfl rfl ?_
  obtain ⟨_, _, ⟨T1, L1, kc1, n1⟩, -, X1, ⟨Lc1, hQ1, l1, y1, z1⟩, st1⟩ := Jvm.LawKit.callS X0 hx (y := yM3) hown (mvT hZ w40) (mvT hZ w41) (mvT hZ w3) (mvT hZ w42) (by decide) (backOf (W := 0) (rm_parse_2 l Z a0 hw [] s_LIKE s_TOGGLE s__VALUES s_FAV s_VIEW s_LIKE_id s_LIKE_id_value s_INCREMENT s_FAV_id s_FAV_id_value s_VIEW_id s_VIEW_id_value k_s__VALUES k_s_LIKE_id_value k_s_FAV_id_value k_s_VIEW_id_value z_CS v_FMT x_ bb_ kc_ h0 n0 SB O0 pr0 pr1 pr2 pr3 pr4) hZ w42 w3 (by decide) (by decide)) (g := (mkF m 1 #[.val (.ref x_), .val (.ref s_INCREMENT), .unset] [(.ref x_)])) rfl (by rw [hml]; rfl) (argsL := [(.ref x_)]) (rest := []) (lenOf own_pd7 rfl) rfl (by show 2 * 0 + _ ≤ _; exact Nat.le_of_eq rfl) (hb hby d11_1) (fun _ _ => ⟨rfl, e0, (by decide : 0 + 1 ≤ _), (by decide : 0 + 3 ≤ _)⟩)
  dsimp only [Pt.U, Pt.locs, Pt.cells, Pt.slots] at X1 l1 y1 z1 st1 hQ1
  subst l1 y1 z1
  obtain ⟨rfl, Nq1, K1⟩ := hQ1
  have N1 := Fr.app N0 Nq1
  refine ogo (S' := T1.setTop (mkF m 4 #[.val (.ref x_), .val (.ref s_INCREMENT), .unset] [(.ref s_VIEW)])) st1 ?_
  refine o_astoreN X1 hx (l' := #[.val (.ref x_), .val (.ref s_INCREMENT), .val (.ref s_VIEW)]) (hb hby d11_4) rfl rfl ?_
  refine o_aloadN X1 hx (hb hby d11_5) rfl rfl ?_
  obtain ⟨T2, X2, e2, st2⟩ := getF X1 hx hZ hown (host := "") (Or.inl w72) Via.refl rfl (Fld.ext (O0.keep K1 all0).2 F_s_VIEW_kind) (g := (mkF m 6 #[.val (.ref x_), .val (.ref s_INCREMENT), .val (.ref s_VIEW)] [(.ref s_VIEW)])) rfl rfl (hb hby d11_6)
  refine ogo (S' := T2.setTop (mkF m 9 #[.val (.ref x_), .val (.ref s_INCREMENT), .val (.ref s_VIEW)] [(.ref s_INCREMENT)])) st2 ?_
  refine o_aloadN X2 hx (hb hby d11_9) rfl rfl ?_
  refine o_acmp X2 hx 38 true rfl rfl (hb hby d11_10) (decide_eq_true rfl) (by decide) (by decide) ?_
  refine o_aloadN X2 hx (hb hby d11_38) rfl rfl ?_
  refine oend X2 hlk (v := some (.ref s_VIEW)) (fun h => by rw [hret] at h; cases h) (fun fs hr => retOut X2 hx (t := (.object "com/example/atomic_tally/atomictally/model/Metric")) (i := .areturn) hret rfl (Or.inr (Or.inr (Or.inr (Or.inr ⟨rfl, rfl, rfl⟩)))) (hb hby d11_39) hr) (by decide) (by decide) ?_
  show own_Q_parse2_2 Z _ _ _ _ _ _ _ _ _ _ _ _ _ _ _ _ _ _ _ _ _ h0 n0 _ T2.heap _
  rw [e2]
  exact ⟨rfl, N1, ((Keep.refl h0 []).trans K1 all0)⟩
theorem d12_0 : decode prog_5_method_5_code 0 = .ok (.aload_n 0, 1) := by decide +kernel
theorem d12_1 : decode prog_5_method_5_code 1 = .ok (.getfield 36, 3) := by decide +kernel
theorem d12_4 : decode prog_5_method_5_code 4 = .ok (.areturn, 1) := by decide +kernel
def own_Q_kind (Z : State)  (t_ : Addr) (v_ : Addr) (h0 : Heap) (n0 : Nat) (v : Option Value) (h : Heap) (L : List Loc) : Prop := (v = some (.ref v_)) ∧ (Fr n0 L) ∧ (h = h0)
abbrev yM11 : MethodName := ⟨"com/example/atomic_tally/atomictally/model/Metric", "kind", "()Lcom/example/atomic_tally/atomictally/model/Metric$Kind;"⟩
set_option maxRecDepth 65536 in
set_option maxHeartbeats 40000000 in
theorem rm_kind (l : Launch) (Z : State) (a0 : Array Value) (hw : ∀ d ∈ tables_1, d.before a0 Z = true) (ws : List Jvm.Cond)  (t_ : Addr) (v_ : Addr) (h0 : Heap) (n0 : Nat) (O0 : Old Z n0 h0) (pr0 : Fld Z h0 t_ "com/example/atomic_tally/atomictally/model/Metric" "kind" "Lcom/example/atomic_tally/atomictally/model/Metric$Kind;" (.ref v_)) :
    oMet l Z yM11 prog_5_method_5_code 1 (some (.object "com/example/atomic_tally/atomictally/model/Metric$Kind")) ws ({ frames := 0, cells := 0, slots := 0, locals := 0 } : Room) 0 0 #[(.ref t_)] h0 (own_Q_kind Z  t_ v_ h0 n0) := by
  refine oenter own_pn0 #[.val (.ref t_)] (fun m => by first | (simp [entryFrame, mkF, argsToLocals, Value.category]; done) | rfl) ?_
  intro p e s m below meth c s₁ X0 hx hZ hby hml hret hown0 hnm hlk e0
  have hown : s.vm.findClass "com/example/atomic_tally/atomictally/model/Metric" = some m.cls := hown0
  have N0 := Fr.nil n0
  have w72 := hw _ (List.mem_of_getElem? (i := 72) rfl)
  refine o_aloadN X0 hx (hb hby d12_0) rfl rfl ?_
  obtain ⟨T1, X1, e1, st1⟩ := getF X0 hx hZ hown (host := "") (Or.inl w72) Via.refl e0 pr0 (g := (mkF m 1 #[.val (.ref t_)] [(.ref t_)])) rfl rfl (hb hby d12_1)
  refine ogo (S' := T1.setTop (mkF m 4 #[.val (.ref t_)] [(.ref v_)])) st1 ?_
  refine oend X1 hlk (v := some (.ref v_)) (fun h => by rw [hret] at h; cases h) (fun fs hr => retOut X1 hx (t := (.object "com/example/atomic_tally/atomictally/model/Metric$Kind")) (i := .areturn) hret rfl (Or.inr (Or.inr (Or.inr (Or.inr ⟨rfl, rfl, rfl⟩)))) (hb hby d12_4) hr) (by decide) (by decide) ?_
  show own_Q_kind Z _ _ h0 n0 _ T1.heap _
  rw [e1]
  exact ⟨rfl, N0, rfl⟩
theorem own_pd8 : parseMethodDescriptor "([C)V" = some ⟨[(.array .char)], none⟩ := by decide +kernel
theorem own_pd9 : parseMethodDescriptor "(Ljava/lang/String;Lcom/example/atomic_tally/atomictally/model/Metric$Kind;)Lcom/example/atomic_tally/atomictally/model/Metric;" = some ⟨[(.object "java/lang/String"), (.object "com/example/atomic_tally/atomictally/model/Metric$Kind")], some (.object "com/example/atomic_tally/atomictally/model/Metric")⟩ := by decide +kernel
theorem own_pd10 : parseMethodDescriptor "()Lcom/example/atomic_tally/atomictally/model/Metric$Kind;" = some ⟨[], some (.object "com/example/atomic_tally/atomictally/model/Metric$Kind")⟩ := by decide +kernel
theorem own_pd11 : parseMethodDescriptor "()Ljava/lang/String;" = some ⟨[], some (.object "java/lang/String")⟩ := by decide +kernel
theorem own_pn4 : plainName "com/example/atomic_tally/atomictally/model/MetricParse325PinLaw" = true := by first | (simp [plainName, overriddenIn]; done) | decide +kernel
def own_Q_law (Z : State) (s_LIKE : Addr) (s_TOGGLE : Addr) (s__VALUES : Addr) (s_FAV : Addr) (s_VIEW : Addr) (s_LIKE_id : Addr) (s_LIKE_id_value : Addr) (s_INCREMENT : Addr) (s_FAV_id : Addr) (s_FAV_id_value : Addr) (s_VIEW_id : Addr) (s_VIEW_id_value : Addr) (k_s__VALUES : ClassId) (k_s_LIKE_id_value : ClassId) (k_s_FAV_id_value : ClassId) (k_s_VIEW_id_value : ClassId) (z_CS : Int32) (v_FMT : Value) (k_ : Int32) (h0 : Heap) (n0 : Nat) (v : Option Value) (h : Heap) (L : List Loc) : Prop := (v = some (.int (1 : Int32))) ∧ (Fr n0 L) ∧ (Keep h0 h [])
set_option maxRecDepth 65536 in
set_option maxHeartbeats 40000000 in
theorem rm_law (l : Launch) (Z : State) (a0 : Array Value) (hw : ∀ d ∈ tables_1, d.before a0 Z = true) (ws : List Jvm.Cond) (s_LIKE : Addr) (s_TOGGLE : Addr) (s__VALUES : Addr) (s_FAV : Addr) (s_VIEW : Addr) (s_LIKE_id : Addr) (s_LIKE_id_value : Addr) (s_INCREMENT : Addr) (s_FAV_id : Addr) (s_FAV_id_value : Addr) (s_VIEW_id : Addr) (s_VIEW_id_value : Addr) (k_s__VALUES : ClassId) (k_s_LIKE_id_value : ClassId) (k_s_FAV_id_value : ClassId) (k_s_VIEW_id_value : ClassId) (z_CS : Int32) (v_FMT : Value) (k_ : Int32) (h0 : Heap) (n0 : Nat) (SB : own_Start Z s_LIKE s_TOGGLE s__VALUES s_FAV s_VIEW s_LIKE_id s_LIKE_id_value s_INCREMENT s_FAV_id s_FAV_id_value s_VIEW_id s_VIEW_id_value k_s__VALUES k_s_LIKE_id_value k_s_FAV_id_value k_s_VIEW_id_value z_CS v_FMT) (O0 : Old Z n0 h0)  :
    oMet l Z x code maxLocals ret ws room_1 16 128 #[(.int k_)] h0 (own_Q_law Z s_LIKE s_TOGGLE s__VALUES s_FAV s_VIEW s_LIKE_id s_LIKE_id_value s_INCREMENT s_FAV_id s_FAV_id_value s_VIEW_id s_VIEW_id_value k_s__VALUES k_s_LIKE_id_value k_s_FAV_id_value k_s_VIEW_id_value z_CS v_FMT k_ h0 n0) := by
  refine oenter own_pn4 #[.val (.int k_), .unset, .unset, .unset, .unset, .unset, .unset] (fun m => by first | (simp [entryFrame, mkF, argsToLocals, Value.category, maxLocals]; done) | rfl) ?_
  intro p e s m below meth c s₁ X0 hx hZ hby hml hret hown0 hnm hlk e0
  have hown : s.vm.findClass "com/example/atomic_tally/atomictally/model/MetricParse325PinLaw" = some m.cls := hown0
  have N0 := Fr.nil n0
  obtain ⟨S_s_LIKE, E_s_LIKE, S_s_TOGGLE, E_s_TOGGLE, S_s__VALUES, E_s__VALUES, S_s_FAV, E_s_FAV, S_s_VIEW, E_s_VIEW, F_s_LIKE_id, E_s_LIKE_id, F_s_LIKE_id_value, S_s_INCREMENT, E_s_INCREMENT, F_s_FAV_id, E_s_FAV_id, F_s_FAV_id_value, F_s_VIEW_id, E_s_VIEW_id, F_s_VIEW_id_value, F_s_LIKE_id_coder, F_s_LIKE_kind, F_s_FAV_id_coder, F_s_VIEW_id_coder, F_s_VIEW_kind, F_s_FAV_kind, V_s__VALUES, V_s_LIKE_id_value, V_s_FAV_id_value, V_s_VIEW_id_value, S_CS, H_CS, S_FMT, R_FMT⟩ := (id SB)
  have w0 := hw _ (List.mem_of_getElem? (i := 0) rfl)
  have w1 := hw _ (List.mem_of_getElem? (i := 1) rfl)
  have w2 := hw _ (List.mem_of_getElem? (i := 2) rfl)
  have w3 := hw _ (List.mem_of_getElem? (i := 3) rfl)
  have w5 := hw _ (List.mem_of_getElem? (i := 5) rfl)
  have w8 := hw _ (List.mem_of_getElem? (i := 8) rfl)
  have w9 := hw _ (List.mem_of_getElem? (i := 9) rfl)
  have w10 := hw _ (List.mem_of_getElem? (i := 10) rfl)
  have w11 := hw _ (List.mem_of_getElem? (i := 11) rfl)
  have w12 := hw _ (List.mem_of_getElem? (i := 12) rfl)
  have w13 := hw _ (List.mem_of_getElem? (i := 13) rfl)
  have w34 := hw _ (List.mem_of_getElem? (i := 34) rfl)
  have w36 := hw _ (List.mem_of_getElem? (i := 36) rfl)
  have w37 := hw _ (List.mem_of_getElem? (i := 37) rfl)
  have w38 := hw _ (List.mem_of_getElem? (i := 38) rfl)
  have w39 := hw _ (List.mem_of_getElem? (i := 39) rfl)
  have w63 := hw _ (List.mem_of_getElem? (i := 63) rfl)
  have w64 := hw _ (List.mem_of_getElem? (i := 64) rfl)
  have w65 := hw _ (List.mem_of_getElem? (i := 65) rfl)
  have w66 := hw _ (List.mem_of_getElem? (i := 66) rfl)
  have w74 := hw _ (List.mem_of_getElem? (i := 74) rfl)
  have w75 := hw _ (List.mem_of_getElem? (i := 75) rfl)
  have w76 := hw _ (List.mem_of_getElem? (i := 76) rfl)
  have w77 := hw _ (List.mem_of_getElem? (i := 77) rfl)
  have w78 := hw _ (List.mem_of_getElem? (i := 78) rfl)
  have w79 := hw _ (List.mem_of_getElem? (i := 79) rfl)
  have w80 := hw _ (List.mem_of_getElem? (i := 80) rfl)
  have w81 := hw _ (List.mem_of_getElem? (i := 81) rfl)
  have w82 := hw _ (List.mem_of_getElem? (i := 82) rfl)
  have w83 := hw _ (List.mem_of_getElem? (i := 83) rfl)
  have w84 := hw _ (List.mem_of_getElem? (i := 84) rfl)
  have w85 := hw _ (List.mem_of_getElem? (i := 85) rfl)
  have w86 := hw _ (List.mem_of_getElem? (i := 86) rfl)
  have w88 := hw _ (List.mem_of_getElem? (i := 88) rfl)
  refine o_iloadN X0 hx (hb hby at_0) rfl ?_
  refine ogo (S' := s₁.setTop (mkF m 3 #[.val (.int k_), .unset, .unset, .unset, .unset, .unset, .unset] [(.int (2147483647 : Int32)), (.int k_)])) (X0.ldcInt hx hown (mvT hZ w0) (g := (mkF m 1 #[.val (.int k_), .unset, .unset, .unset, .unset, .unset, .unset] [(.int k_)])) rfl (hb hby at_1)) ?_
  refine o_iand X0 hx (hb hby at_3) ?_
  refine o_iconst X0 hx (3 : Int32) (hb hby at_4) rfl ?_
  refine o_irem X0 hx (hb hby at_5) (by decide) ?_
  refine o_istoreN X0 hx (l' := #[.val (.int k_), .val (.int ((k_ &&& (2147483647 : Int32)) % (3 : Int32))), .unset, .unset, .unset, .unset, .unset]) (hb hby at_6) rfl ?_
  rcases own_rem3 k_ with hs1 | hs1 | hs1
  · rw [hs1]
    refine o_iloadN X0 hx (hb hby at_7) rfl ?_
    refine o_ifNo X0 hx (hb hby at_8) (teq (by decide : (0 : Int32) = (0 : Int32))).2 ?_
    refine o_iconst X0 hx (4 : Int32) (hb hby at_11) rfl ?_
    obtain ⟨T2, _, k2, X2, rfl, E2, A2, Ex2, st2⟩ := newPE (aty := .char) X0 hx hZ w1 e0 (g := (mkF m 12 #[.val (.int k_), .val (.int (0 : Int32)), .unset, .unset, .unset, .unset, .unset] [(.int (4 : Int32))])) rfl (hb hby at_12) rfl (by decide) (cap := 4) (by decide) (by decide) (by decide) (by decide) (ad := "[C") rfl
    obtain ⟨b2, g2⟩ : ∃ z, z = h0.size := ⟨_, rfl⟩
    rw [← g2] at A2 Ex2 st2
    have n0_b2 : n0 ≤ b2 := Nat.le_trans (Nat.le_trans (Nat.le_of_eq O0.1.symm) O0.2.1) (Nat.le_trans (Nat.le_refl _) (Nat.le_of_eq g2.symm))
    have V2 : Arv Z T2.heap b2 k2 .char (4 : Int32) [(.int 0), (.int 0), (.int 0), (.int 0)] (.int 0) := (Arv.new A2 (by decide)).pad (pad_rep [] (.int 0) 4)
    refine ogo (S' := T2.setTop (mkF m 14 #[.val (.int k_), .val (.int (0 : Int32)), .unset, .unset, .unset, .unset, .unset] [(.ref b2)])) st2 ?_
    refine o_dup X2 hx (hb hby at_14) rfl ?_
    refine o_iconst X2 hx (0 : Int32) (hb hby at_15) rfl ?_
    refine o_bipush X2 hx (108 : Int32) (hb hby at_16) rfl ?_
    obtain ⟨cl3, Ar3, q3, S3, N3z, H3, G3⟩ := (id V2)
    obtain ⟨T3, _, X3, rfl, W3, st3⟩ := stC X2 hx hZ rfl Ar3 (j := (0 : Int32)) (inb_of S3 ⟨by decide, by decide⟩) (g := (mkF m 18 #[.val (.int k_), .val (.int (0 : Int32)), .unset, .unset, .unset, .unset, .unset] [(.int (108 : Int32)), (.int (0 : Int32)), (.ref b2), (.ref b2)])) rfl rfl (hb hby at_18)
    have V3 : Arv Z T3.heap b2 k2 .char (4 : Int32) [(.int (108 : Int32)), (.int 0), (.int 0), (.int 0)] (.int 0) := Arv.set Ar3 q3 S3 N3z H3 G3 (fits_nar_char _) W3 0 rfl (Nat.le_of_ble_eq_true rfl)
    have N3 := Fr.snoc X3 N0 n0_b2
    refine ogo (S' := T3.setTop (mkF m 19 #[.val (.int k_), .val (.int (0 : Int32)), .unset, .unset, .unset, .unset, .unset] [(.ref b2)])) st3 ?_
    refine o_dup X3 hx (hb hby at_19) rfl ?_
    refine o_iconst X3 hx (1 : Int32) (hb hby at_20) rfl ?_
    refine o_bipush X3 hx (105 : Int32) (hb hby at_21) rfl ?_
    obtain ⟨cl4, Ar4, q4, S4, N4z, H4, G4⟩ := (id V3)
    obtain ⟨T4, _, X4, rfl, W4, st4⟩ := stC X3 hx hZ rfl Ar4 (j := (1 : Int32)) (inb_of S4 ⟨by decide, by decide⟩) (g := (mkF m 23 #[.val (.int k_), .val (.int (0 : Int32)), .unset, .unset, .unset, .unset, .unset] [(.int (105 : Int32)), (.int (1 : Int32)), (.ref b2), (.ref b2)])) rfl rfl (hb hby at_23)
    have V4 : Arv Z T4.heap b2 k2 .char (4 : Int32) [(.int (108 : Int32)), (.int (105 : Int32)), (.int 0), (.int 0)] (.int 0) := Arv.set Ar4 q4 S4 N4z H4 G4 (fits_nar_char _) W4 1 rfl (Nat.le_of_ble_eq_true rfl)
    have N4 := Fr.snoc X4 N3 n0_b2
    refine ogo (S' := T4.setTop (mkF m 24 #[.val (.int k_), .val (.int (0 : Int32)), .unset, .unset, .unset, .unset, .unset] [(.ref b2)])) st4 ?_
    refine o_dup X4 hx (hb hby at_24) rfl ?_
    refine o_iconst X4 hx (2 : Int32) (hb hby at_25) rfl ?_
    refine o_bipush X4 hx (107 : Int32) (hb hby at_26) rfl ?_
    obtain ⟨cl5, Ar5, q5, S5, N5z, H5, G5⟩ := (id V4)
    obtain ⟨T5, _, X5, rfl, W5, st5⟩ := stC X4 hx hZ rfl Ar5 (j := (2 : Int32)) (inb_of S5 ⟨by decide, by decide⟩) (g := (mkF m 28 #[.val (.int k_), .val (.int (0 : Int32)), .unset, .unset, .unset, .unset, .unset] [(.int (107 : Int32)), (.int (2 : Int32)), (.ref b2), (.ref b2)])) rfl rfl (hb hby at_28)
    have V5 : Arv Z T5.heap b2 k2 .char (4 : Int32) [(.int (108 : Int32)), (.int (105 : Int32)), (.int (107 : Int32)), (.int 0)] (.int 0) := Arv.set Ar5 q5 S5 N5z H5 G5 (fits_nar_char _) W5 2 rfl (Nat.le_of_ble_eq_true rfl)
    have N5 := Fr.snoc X5 N4 n0_b2
    refine ogo (S' := T5.setTop (mkF m 29 #[.val (.int k_), .val (.int (0 : Int32)), .unset, .unset, .unset, .unset, .unset] [(.ref b2)])) st5 ?_
    refine o_dup X5 hx (hb hby at_29) rfl ?_
    refine o_iconst X5 hx (3 : Int32) (hb hby at_30) rfl ?_
    refine o_bipush X5 hx (101 : Int32) (hb hby at_31) rfl ?_
    obtain ⟨cl6, Ar6, q6, S6, N6z, H6, G6⟩ := (id V5)
    obtain ⟨T6, _, X6, rfl, W6, st6⟩ := stC X5 hx hZ rfl Ar6 (j := (3 : Int32)) (inb_of S6 ⟨by decide, by decide⟩) (g := (mkF m 33 #[.val (.int k_), .val (.int (0 : Int32)), .unset, .unset, .unset, .unset, .unset] [(.int (101 : Int32)), (.int (3 : Int32)), (.ref b2), (.ref b2)])) rfl rfl (hb hby at_33)
    have V6 : Arv Z T6.heap b2 k2 .char (4 : Int32) [(.int (108 : Int32)), (.int (105 : Int32)), (.int (107 : Int32)), (.int (101 : Int32))] (.int 0) := Arv.set Ar6 q6 S6 N6z H6 G6 (fits_nar_char _) W6 3 rfl (Nat.le_of_ble_eq_true rfl)
    have N6 := Fr.snoc X6 N5 n0_b2
    refine ogo (S' := T6.setTop (mkF m 34 #[.val (.int k_), .val (.int (0 : Int32)), .unset, .unset, .unset, .unset, .unset] [(.ref b2)])) st6 ?_
    refine o_astoreN X6 hx (l' := #[.val (.int k_), .val (.int (0 : Int32)), .val (.ref b2), .unset, .unset, .unset, .unset]) (hb hby at_34) rfl rfl ?_
    have c8 := (((((O0.ext E2).wr W3 n0_b2).wr W4 n0_b2).wr W5 n0_b2).wr W6 n0_b2)
    obtain ⟨T7, X7, e7, st7⟩ := getS2 X6 hx hZ hown (host := "") (Or.inl w2) Via.refl rfl (Sta.ext c8.2 S_s_LIKE) (g := (mkF m 35 #[.val (.int k_), .val (.int (0 : Int32)), .val (.ref b2), .unset, .unset, .unset, .unset] [])) rfl (hb hby at_35)
    refine ogo (S' := T7.setTop (mkF m 38 #[.val (.int k_), .val (.int (0 : Int32)), .val (.ref b2), .unset, .unset, .unset, .unset] [(.ref s_LIKE)])) st7 ?_
    refine o_astoreN X7 hx (l' := #[.val (.int k_), .val (.int (0 : Int32)), .val (.ref b2), .val (.ref s_LIKE), .unset, .unset, .unset]) (hb hby at_38) rfl rfl ?_
    obtain ⟨T9, X9, e9, st9⟩ := getS2 X7 hx hZ hown (host := "") (Or.inl w5) Via.refl e7 (Sta.ext c8.2 S_s_TOGGLE) (g := (mkF m 39 #[.val (.int k_), .val (.int (0 : Int32)), .val (.ref b2), .val (.ref s_LIKE), .unset, .unset, .unset] [])) rfl (hb hby at_39)
    refine ogo (S' := T9.setTop (mkF m 42 #[.val (.int k_), .val (.int (0 : Int32)), .val (.ref b2), .val (.ref s_LIKE), .unset, .unset, .unset] [(.ref s_TOGGLE)])) st9 ?_
    refine o_astore X9 hx (l' := #[.val (.int k_), .val (.int (0 : Int32)), .val (.ref b2), .val (.ref s_LIKE), .val (.ref s_TOGGLE), .unset, .unset]) (hb hby at_42) rfl rfl ?_
    refine o_goto X9 hx 116 (hb hby at_44) (by decide) (by decide) ?_
    obtain ⟨T10, _, X10, rfl, E10, A10, D10, -, st10⟩ := newO X9 hx hZ hown w8 w9 w10 e9 (g := (mkF m 116 #[.val (.int k_), .val (.int (0 : Int32)), .val (.ref b2), .val (.ref s_LIKE), .val (.ref s_TOGGLE), .unset, .unset] [])) rfl (hb hby at_116) (by decide) (by decide)
    obtain ⟨b10, g10⟩ : ∃ z, z = T6.heap.size := ⟨_, rfl⟩
    rw [← g10] at A10 D10 st10
    have n0_b10 : n0 ≤ b10 := Nat.le_trans (Nat.le_trans (Nat.le_of_eq O0.1.symm) O0.2.1) (Nat.le_trans (Nat.le_trans (Nat.le_trans (Nat.le_trans (Nat.le_trans E2.1 (Keep.of_wr W3).1) (Keep.of_wr W4).1) (Keep.of_wr W5).1) (Keep.of_wr W6).1) (Nat.le_of_eq g10.symm))
    have F10_coder : Fld Z T10.heap b10 "java/lang/String" "coder" "B" (.int (0 : Int32)) := D10 (Or.inr w34) (ty := .byte) (by decide)
    have F10_value : Fld Z T10.heap b10 "java/lang/String" "value" "[B" .null := D10 (Or.inr w36) (ty := (.array .byte)) (by decide)
    refine ogo (S' := T10.setTop (mkF m 119 #[.val (.int k_), .val (.int (0 : Int32)), .val (.ref b2), .val (.ref s_LIKE), .val (.ref s_TOGGLE), .unset, .unset] [(.ref b10)])) st10 ?_
    refine o_dup X10 hx (hb hby at_119) rfl ?_
    refine o_aloadN X10 hx (hb hby at_120) rfl rfl ?_
    obtain ⟨_, _, ⟨T11, L11, kc11, n11⟩, -, X11, ⟨Lc11, hQ11, l11, y11, z11⟩, st11⟩ := X10.specialBack hx (y := yM9) rfl hown (mvT hZ w11) (mvT hZ w12) (mvT hZ w13) (by decide) (backOf (W := 1) (rm_new1_4 l Z a0 hw [] s_LIKE s_TOGGLE s__VALUES s_FAV s_VIEW s_LIKE_id s_LIKE_id_value s_INCREMENT s_FAV_id s_FAV_id_value s_VIEW_id s_VIEW_id_value k_s__VALUES k_s_LIKE_id_value k_s_FAV_id_value k_s_VIEW_id_value z_CS v_FMT b10 b2 k2 (108 : Int32) (105 : Int32) (107 : Int32) (101 : Int32) T10.heap n0 SB (c8.ext E10) A10 F10_value F10_coder (V6.ext E10) n0_b10 (by decide) (by decide) (by decide) (by decide)) hZ w13 w10 (by decide) (by decide)) (g := (mkF m 121 #[.val (.int k_), .val (.int (0 : Int32)), .val (.ref b2), .val (.ref s_LIKE), .val (.ref s_TOGGLE), .unset, .unset] [(.ref b2), (.ref b10), (.ref b10)])) rfl (by rw [hml]; rfl) (Steps.refl _) (a := b10) (argsL := [(.ref b2)]) (rest := [(.ref b10)]) (lenOf own_pd8 rfl) rfl (by show 2 * 0 + _ ≤ _; exact Nat.le_of_eq rfl) (hb hby at_121) (fun _ _ => ⟨rfl, rfl, (by decide : 2 + 1 ≤ _), (by decide : 8 + 4 ≤ _)⟩)
    dsimp only [Pt.U, Pt.locs, Pt.cells, Pt.slots] at X11 l11 y11 z11 st11 hQ11
    subst l11 y11 z11
    obtain ⟨ba_11, kb_11, rfl, Nq11, K11, p11_0, p11_1, p11_2, p11_3, p11_4⟩ := hQ11
    have N11 := Fr.app N6 Nq11
    have n0_ba_11 : n0 ≤ ba_11 := Nat.le_trans (Nat.le_trans (Nat.le_of_eq O0.1.symm) O0.2.1) (Nat.le_trans (Nat.le_trans (Nat.le_trans (Nat.le_trans (Nat.le_trans (Nat.le_trans E2.1 (Keep.of_wr W3).1) (Keep.of_wr W4).1) (Keep.of_wr W5).1) (Keep.of_wr W6).1) E10.1) p11_0)
    refine otr (S' := T11.setTop (mkF m 124 #[.val (.int k_), .val (.int (0 : Int32)), .val (.ref b2), .val (.ref s_LIKE), .val (.ref s_TOGGLE), .unset, .unset] [(.ref b10)])) st11 ?_
    have Vl12 : Arv Z T11.heap ba_11 kb_11 .byte (4 : Int32) [(.int (108 : Int32)), (.int (105 : Int32)), (.int (107 : Int32)), (.int (101 : Int32))] (.int 0) := p11_1
    refine o_astore X11 hx (l' := #[.val (.int k_), .val (.int (0 : Int32)), .val (.ref b2), .val (.ref s_LIKE), .val (.ref s_TOGGLE), .val (.ref b10), .unset]) (hb hby at_124) rfl rfl ?_
    refine o_aload X11 hx (hb hby at_126) rfl rfl ?_
    refine o_aload X11 hx (hb hby at_128) rfl rfl ?_
    obtain ⟨_, _, ⟨T13, L13, kc13, n13⟩, -, X13, ⟨Lc13, hQ13, l13, y13, z13⟩, st13⟩ := Jvm.LawKit.callS X11 hx (y := yM10) hown (mvT hZ w37) (mvT hZ w38) (mvT hZ w3) (mvT hZ w39) (by decide) (backOf (W := 0) (rm_parse2_0 l Z a0 hw [] s_LIKE s_TOGGLE s__VALUES s_FAV s_VIEW s_LIKE_id s_LIKE_id_value s_INCREMENT s_FAV_id s_FAV_id_value s_VIEW_id s_VIEW_id_value k_s__VALUES k_s_LIKE_id_value k_s_FAV_id_value k_s_VIEW_id_value z_CS v_FMT b10 ba_11 kb_11 T11.heap n0 SB ((c8.ext E10).keep K11 (allS n0_b10 all0)) p11_2 p11_4 p11_3 Vl12 n0_b10) hZ w39 w3 (by decide) (by decide)) (g := (mkF m 130 #[.val (.int k_), .val (.int (0 : Int32)), .val (.ref b2), .val (.ref s_LIKE), .val (.ref s_TOGGLE), .val (.ref b10), .unset] [(.ref s_TOGGLE), (.ref b10)])) rfl (by rw [hml]; rfl) (argsL := [(.ref b10), (.ref s_TOGGLE)]) (rest := []) (lenOf own_pd9 rfl) rfl (by show 2 * 0 + _ ≤ _; exact Nat.le_of_eq rfl) (hb hby at_130) (fun _ _ => ⟨rfl, rfl, (by decide : 3 + 1 ≤ _), (by decide : 12 + 3 ≤ _)⟩)
    dsimp only [Pt.U, Pt.locs, Pt.cells, Pt.slots] at X13 l13 y13 z13 st13 hQ13
    subst l13 y13 z13
    obtain ⟨rfl, Nq13, K13⟩ := hQ13
    have N13 := Fr.app N11 Nq13
    refine ogo (S' := T13.setTop (mkF m 133 #[.val (.int k_), .val (.int (0 : Int32)), .val (.ref b2), .val (.ref s_LIKE), .val (.ref s_TOGGLE), .val (.ref b10), .unset] [(.ref s_LIKE)])) st13 ?_
    refine o_astore X13 hx (l' := #[.val (.int k_), .val (.int (0 : Int32)), .val (.ref b2), .val (.ref s_LIKE), .val (.ref s_TOGGLE), .val (.ref b10), .val (.ref s_LIKE)]) (hb hby at_133) rfl rfl ?_
    refine o_aload X13 hx (hb hby at_135) rfl rfl ?_
    refine o_aloadN X13 hx (hb hby at_137) rfl rfl ?_
    refine o_acmp X13 hx 141 true rfl rfl (hb hby at_138) (decide_eq_true rfl) (by decide) (by decide) ?_
    refine o_aload X13 hx (hb hby at_141) rfl rfl ?_
    obtain ⟨cq14, kq14, q14a, q14b, q14c⟩ := isOf hZ rfl (Exa.ext (((c8.ext E10).keep K11 (allS n0_b10 all0)).keep K13 all0).2 E_s_LIKE)
    obtain ⟨_, _, ⟨T14, L14, kc14, n14⟩, -, X14, ⟨Lc14, hQ14, l14, y14, z14⟩, st14⟩ := X13.virtualBack hx (y := yM11) (z := yM11) hown (mvT hZ w74) (mvT hZ w75) (notFace_of_selects (args := #[]) (mvT hZ w77)) (mvT hZ w77) (mvT hZ w76) (by decide) (backOf (W := 0) (rm_kind l Z a0 hw []  s_LIKE s_TOGGLE T13.heap n0 (((c8.ext E10).keep K11 (allS n0_b10 all0)).keep K13 all0) (Fld.ext (((c8.ext E10).keep K11 (allS n0_b10 all0)).keep K13 all0).2 F_s_LIKE_kind)) hZ w78 w3 (by decide) (by decide)) q14a q14c (g := (mkF m 143 #[.val (.int k_), .val (.int (0 : Int32)), .val (.ref b2), .val (.ref s_LIKE), .val (.ref s_TOGGLE), .val (.ref b10), .val (.ref s_LIKE)] [(.ref s_LIKE)])) rfl (by rw [hml]; rfl) (Steps.refl _) (argsL := []) (rest := []) (lenOf own_pd10 rfl) rfl (by show 2 * 0 + _ ≤ _; exact Nat.le_of_eq rfl) (hb hby at_143) (fun _ _ => ⟨rfl, rfl, (by decide : 4 + 0 ≤ _), (by decide : 15 + 0 ≤ _)⟩)
    dsimp only [Pt.U, Pt.locs, Pt.cells, Pt.slots] at X14 l14 y14 z14 st14 hQ14
    subst l14 y14 z14
    obtain ⟨rfl, Nq14, e14⟩ := hQ14
    have N14 := Fr.app N13 Nq14
    refine otr (S' := T14.setTop (mkF m 146 #[.val (.int k_), .val (.int (0 : Int32)), .val (.ref b2), .val (.ref s_LIKE), .val (.ref s_TOGGLE), .val (.ref b10), .val (.ref s_LIKE)] [(.ref s_TOGGLE)])) st14 ?_
    refine o_aload X14 hx (hb hby at_146) rfl rfl ?_
    refine o_acmp X14 hx 151 true rfl rfl (hb hby at_148) (decide_eq_true rfl) (by decide) (by decide) ?_
    refine o_aload X14 hx (hb hby at_151) rfl rfl ?_
    refine o_aload X14 hx (hb hby at_153) rfl rfl ?_
    obtain ⟨cq15, kq15, q15a, q15b, q15c⟩ := isOf hZ e14 (Exa.ext (((c8.ext E10).keep K11 (allS n0_b10 all0)).keep K13 all0).2 E_s_LIKE)
    obtain ⟨_, _, ⟨T15, L15, kc15, n15⟩, -, X15, ⟨Lc15, hQ15, l15, y15, z15⟩, st15⟩ := X14.virtualBack hx (y := yM4) (z := yM4) hown (mvT hZ w79) (mvT hZ w80) (notFace_of_selects (args := #[]) (mvT hZ w82)) (mvT hZ w82) (mvT hZ w81) (by decide) (backOf (W := 1) (rm_id l Z a0 hw []  s_LIKE s_LIKE_id T13.heap n0 (((c8.ext E10).keep K11 (allS n0_b10 all0)).keep K13 all0) (Fld.ext (((c8.ext E10).keep K11 (allS n0_b10 all0)).keep K13 all0).2 F_s_LIKE_id)) hZ w83 w3 (by decide) (by decide)) q15a q15c (g := (mkF m 155 #[.val (.int k_), .val (.int (0 : Int32)), .val (.ref b2), .val (.ref s_LIKE), .val (.ref s_TOGGLE), .val (.ref b10), .val (.ref s_LIKE)] [(.ref s_LIKE), (.ref b10)])) rfl (by rw [hml]; rfl) (Steps.refl _) (argsL := []) (rest := [(.ref b10)]) (lenOf own_pd11 rfl) rfl (by show 2 * 0 + _ ≤ _; exact Nat.le_of_eq rfl) (hb hby at_155) (fun _ _ => ⟨rfl, e14, (by decide : 4 + 0 ≤ _), (by decide : 15 + 0 ≤ _)⟩)
    dsimp only [Pt.U, Pt.locs, Pt.cells, Pt.slots] at X15 l15 y15 z15 st15 hQ15
    subst l15 y15 z15
    obtain ⟨rfl, Nq15, e15⟩ := hQ15
    have N15 := Fr.app N14 Nq15
    refine otr (S' := T15.setTop (mkF m 158 #[.val (.int k_), .val (.int (0 : Int32)), .val (.ref b2), .val (.ref s_LIKE), .val (.ref s_TOGGLE), .val (.ref b10), .val (.ref s_LIKE)] [(.ref s_LIKE_id), (.ref b10)])) st15 ?_
    obtain ⟨cq16, kq16, q16a, q16b, q16c⟩ := isOf hZ e15 (p11_2.keep K13)
    obtain ⟨_, _, ⟨T16, L16, kc16, n16⟩, -, X16, ⟨Lc16, hQ16, l16, y16, z16⟩, st16⟩ := X15.virtualBack hx (y := yM2) (z := yM2) hown (mvT hZ w84) (mvT hZ w63) (notFace_of_selects (args := #[]) (mvT hZ w65)) (mvT hZ w65) (mvT hZ w64) (by decide) (backOf (W := 0) (rm_eq_108_105_107_101_108_105_107_101 l Z a0 hw [] s_LIKE s_TOGGLE s__VALUES s_FAV s_VIEW s_LIKE_id s_LIKE_id_value s_INCREMENT s_FAV_id s_FAV_id_value s_VIEW_id s_VIEW_id_value k_s__VALUES k_s_LIKE_id_value k_s_FAV_id_value k_s_VIEW_id_value z_CS v_FMT b10 ba_11 kb_11 s_LIKE_id s_LIKE_id_value k_s_LIKE_id_value T13.heap n0 SB (((c8.ext E10).keep K11 (allS n0_b10 all0)).keep K13 all0) (p11_2.keep K13) (p11_4.keep K13 nin0) (p11_3.keep K13 nin0) (Vl12.keep K13 nin0) (Exa.ext (((c8.ext E10).keep K11 (allS n0_b10 all0)).keep K13 all0).2 E_s_LIKE_id) (Fld.ext (((c8.ext E10).keep K11 (allS n0_b10 all0)).keep K13 all0).2 F_s_LIKE_id_coder) (Fld.ext (((c8.ext E10).keep K11 (allS n0_b10 all0)).keep K13 all0).2 F_s_LIKE_id_value) (V_s_LIKE_id_value.ext (((c8.ext E10).keep K11 (allS n0_b10 all0)).keep K13 all0).2) (Ne.symm (Old.ne (((c8.ext E10).keep K11 (allS n0_b10 all0)).keep K13 all0) E_s_LIKE_id.lt n0_b10))) hZ w66 w10 (by decide) (by decide)) q16a q16c (g := (mkF m 158 #[.val (.int k_), .val (.int (0 : Int32)), .val (.ref b2), .val (.ref s_LIKE), .val (.ref s_TOGGLE), .val (.ref b10), .val (.ref s_LIKE)] [(.ref s_LIKE_id), (.ref b10)])) rfl (by rw [hml]; rfl) (Steps.refl _) (argsL := [(.ref s_LIKE_id)]) (rest := []) (lenOf own_pd2 rfl) rfl (by show 2 * 0 + _ ≤ _; exact Nat.le_of_eq rfl) (hb hby at_158) (fun _ _ => ⟨rfl, e15, (by decide : 4 + 0 ≤ _), (by decide : 15 + 0 ≤ _)⟩)
    dsimp only [Pt.U, Pt.locs, Pt.cells, Pt.slots] at X16 l16 y16 z16 st16 hQ16
    subst l16 y16 z16
    obtain ⟨rfl, Nq16, e16⟩ := hQ16
    have N16 := Fr.app N15 Nq16
    refine otr (S' := T16.setTop (mkF m 161 #[.val (.int k_), .val (.int (0 : Int32)), .val (.ref b2), .val (.ref s_LIKE), .val (.ref s_TOGGLE), .val (.ref b10), .val (.ref s_LIKE)] [(.int (1 : Int32))])) st16 ?_
    refine o_ifNo X16 hx (hb hby at_161) (feq (by decide : ¬ ((1 : Int32) = (0 : Int32)))).1 ?_
    refine o_iconst X16 hx (1 : Int32) (hb hby at_164) rfl ?_
    refine o_goto X16 hx 169 (hb hby at_165) (by decide) (by decide) ?_
    refine oend X16 hlk (v := some (.int (1 : Int32))) (fun h => by rw [hret] at h; cases h) (fun fs hr => retN X16 hx (t := .boolean) hret (by simp) (hb hby at_169) hr) (by decide) (by decide) ?_
    show own_Q_law Z _ _ _ _ _ _ _ _ _ _ _ _ _ _ _ _ _ _ _ h0 n0 _ T16.heap _
    rw [e16]
    exact ⟨rfl, N16, (((((((((Keep.refl h0 []).ext E2).wr W3 (Or.inr (Nat.le_trans (Nat.le_refl _) (Nat.le_of_eq g2.symm)))).wr W4 (Or.inr (Nat.le_trans (Nat.le_refl _) (Nat.le_of_eq g2.symm)))).wr W5 (Or.inr (Nat.le_trans (Nat.le_refl _) (Nat.le_of_eq g2.symm)))).wr W6 (Or.inr (Nat.le_trans (Nat.le_refl _) (Nat.le_of_eq g2.symm)))).ext E10).trans K11 (allS (Or.inr (Nat.le_trans (Nat.le_trans (Nat.le_trans (Nat.le_trans (Nat.le_trans E2.1 (Keep.of_wr W3).1) (Keep.of_wr W4).1) (Keep.of_wr W5).1) (Keep.of_wr W6).1) (Nat.le_of_eq g10.symm))) all0)).trans K13 all0)⟩
  · rw [hs1]
    refine o_iloadN X0 hx (hb hby at_7) rfl ?_
    refine o_ifYes X0 hx 47 (hb hby at_8) (feq (by decide : ¬ ((1 : Int32) = (0 : Int32)))).2 (by decide) (by decide) ?_
    refine o_iloadN X0 hx (hb hby at_47) rfl ?_
    refine o_iconst X0 hx (1 : Int32) (hb hby at_48) rfl ?_
    refine o_icmpNo X0 hx (hb hby at_49) (teq (by decide : (1 : Int32) = (1 : Int32))).2 ?_
    refine o_iconst X0 hx (3 : Int32) (hb hby at_52) rfl ?_
    obtain ⟨T17, _, k17, X17, rfl, E17, A17, Ex17, st17⟩ := newPE (aty := .char) X0 hx hZ w1 e0 (g := (mkF m 53 #[.val (.int k_), .val (.int (1 : Int32)), .unset, .unset, .unset, .unset, .unset] [(.int (3 : Int32))])) rfl (hb hby at_53) rfl (by decide) (cap := 3) (by decide) (by decide) (by decide) (by decide) (ad := "[C") rfl
    obtain ⟨b17, g17⟩ : ∃ z, z = h0.size := ⟨_, rfl⟩
    rw [← g17] at A17 Ex17 st17
    have n0_b17 : n0 ≤ b17 := Nat.le_trans (Nat.le_trans (Nat.le_of_eq O0.1.symm) O0.2.1) (Nat.le_trans (Nat.le_refl _) (Nat.le_of_eq g17.symm))
    have V17 : Arv Z T17.heap b17 k17 .char (3 : Int32) [(.int 0), (.int 0), (.int 0)] (.int 0) := (Arv.new A17 (by decide)).pad (pad_rep [] (.int 0) 3)
    refine ogo (S' := T17.setTop (mkF m 55 #[.val (.int k_), .val (.int (1 : Int32)), .unset, .unset, .unset, .unset, .unset] [(.ref b17)])) st17 ?_
    refine o_dup X17 hx (hb hby at_55) rfl ?_
    refine o_iconst X17 hx (0 : Int32) (hb hby at_56) rfl ?_
    refine o_bipush X17 hx (102 : Int32) (hb hby at_57) rfl ?_
    obtain ⟨cl18, Ar18, q18, S18, N18z, H18, G18⟩ := (id V17)
    obtain ⟨T18, _, X18, rfl, W18, st18⟩ := stC X17 hx hZ rfl Ar18 (j := (0 : Int32)) (inb_of S18 ⟨by decide, by decide⟩) (g := (mkF m 59 #[.val (.int k_), .val (.int (1 : Int32)), .unset, .unset, .unset, .unset, .unset] [(.int (102 : Int32)), (.int (0 : Int32)), (.ref b17), (.ref b17)])) rfl rfl (hb hby at_59)
    have V18 : Arv Z T18.heap b17 k17 .char (3 : Int32) [(.int (102 : Int32)), (.int 0), (.int 0)] (.int 0) := Arv.set Ar18 q18 S18 N18z H18 G18 (fits_nar_char _) W18 0 rfl (Nat.le_of_ble_eq_true rfl)
    have N18 := Fr.snoc X18 N0 n0_b17
    refine ogo (S' := T18.setTop (mkF m 60 #[.val (.int k_), .val (.int (1 : Int32)), .unset, .unset, .unset, .unset, .unset] [(.ref b17)])) st18 ?_
    refine o_dup X18 hx (hb hby at_60) rfl ?_
    refine o_iconst X18 hx (1 : Int32) (hb hby at_61) rfl ?_
    refine o_bipush X18 hx (97 : Int32) (hb hby at_62) rfl ?_
    obtain ⟨cl19, Ar19, q19, S19, N19z, H19, G19⟩ := (id V18)
    obtain ⟨T19, _, X19, rfl, W19, st19⟩ := stC X18 hx hZ rfl Ar19 (j := (1 : Int32)) (inb_of S19 ⟨by decide, by decide⟩) (g := (mkF m 64 #[.val (.int k_), .val (.int (1 : Int32)), .unset, .unset, .unset, .unset, .unset] [(.int (97 : Int32)), (.int (1 : Int32)), (.ref b17), (.ref b17)])) rfl rfl (hb hby at_64)
    have V19 : Arv Z T19.heap b17 k17 .char (3 : Int32) [(.int (102 : Int32)), (.int (97 : Int32)), (.int 0)] (.int 0) := Arv.set Ar19 q19 S19 N19z H19 G19 (fits_nar_char _) W19 1 rfl (Nat.le_of_ble_eq_true rfl)
    have N19 := Fr.snoc X19 N18 n0_b17
    refine ogo (S' := T19.setTop (mkF m 65 #[.val (.int k_), .val (.int (1 : Int32)), .unset, .unset, .unset, .unset, .unset] [(.ref b17)])) st19 ?_
    refine o_dup X19 hx (hb hby at_65) rfl ?_
    refine o_iconst X19 hx (2 : Int32) (hb hby at_66) rfl ?_
    refine o_bipush X19 hx (118 : Int32) (hb hby at_67) rfl ?_
    obtain ⟨cl20, Ar20, q20, S20, N20z, H20, G20⟩ := (id V19)
    obtain ⟨T20, _, X20, rfl, W20, st20⟩ := stC X19 hx hZ rfl Ar20 (j := (2 : Int32)) (inb_of S20 ⟨by decide, by decide⟩) (g := (mkF m 69 #[.val (.int k_), .val (.int (1 : Int32)), .unset, .unset, .unset, .unset, .unset] [(.int (118 : Int32)), (.int (2 : Int32)), (.ref b17), (.ref b17)])) rfl rfl (hb hby at_69)
    have V20 : Arv Z T20.heap b17 k17 .char (3 : Int32) [(.int (102 : Int32)), (.int (97 : Int32)), (.int (118 : Int32))] (.int 0) := Arv.set Ar20 q20 S20 N20z H20 G20 (fits_nar_char _) W20 2 rfl (Nat.le_of_ble_eq_true rfl)
    have N20 := Fr.snoc X20 N19 n0_b17
    refine ogo (S' := T20.setTop (mkF m 70 #[.val (.int k_), .val (.int (1 : Int32)), .unset, .unset, .unset, .unset, .unset] [(.ref b17)])) st20 ?_
    refine o_astoreN X20 hx (l' := #[.val (.int k_), .val (.int (1 : Int32)), .val (.ref b17), .unset, .unset, .unset, .unset]) (hb hby at_70) rfl rfl ?_
    have c22 := ((((O0.ext E17).wr W18 n0_b17).wr W19 n0_b17).wr W20 n0_b17)
    obtain ⟨T21, X21, e21, st21⟩ := getS2 X20 hx hZ hown (host := "") (Or.inl w88) Via.refl rfl (Sta.ext c22.2 S_s_FAV) (g := (mkF m 71 #[.val (.int k_), .val (.int (1 : Int32)), .val (.ref b17), .unset, .unset, .unset, .unset] [])) rfl (hb hby at_71)
    refine ogo (S' := T21.setTop (mkF m 74 #[.val (.int k_), .val (.int (1 : Int32)), .val (.ref b17), .unset, .unset, .unset, .unset] [(.ref s_FAV)])) st21 ?_
    refine o_astoreN X21 hx (l' := #[.val (.int k_), .val (.int (1 : Int32)), .val (.ref b17), .val (.ref s_FAV), .unset, .unset, .unset]) (hb hby at_74) rfl rfl ?_
    obtain ⟨T23, X23, e23, st23⟩ := getS2 X21 hx hZ hown (host := "") (Or.inl w5) Via.refl e21 (Sta.ext c22.2 S_s_TOGGLE) (g := (mkF m 75 #[.val (.int k_), .val (.int (1 : Int32)), .val (.ref b17), .val (.ref s_FAV), .unset, .unset, .unset] [])) rfl (hb hby at_75)
    refine ogo (S' := T23.setTop (mkF m 78 #[.val (.int k_), .val (.int (1 : Int32)), .val (.ref b17), .val (.ref s_FAV), .unset, .unset, .unset] [(.ref s_TOGGLE)])) st23 ?_
    refine o_astore X23 hx (l' := #[.val (.int k_), .val (.int (1 : Int32)), .val (.ref b17), .val (.ref s_FAV), .val (.ref s_TOGGLE), .unset, .unset]) (hb hby at_78) rfl rfl ?_
    refine o_goto X23 hx 116 (hb hby at_80) (by decide) (by decide) ?_
    obtain ⟨T24, _, X24, rfl, E24, A24, D24, -, st24⟩ := newO X23 hx hZ hown w8 w9 w10 e23 (g := (mkF m 116 #[.val (.int k_), .val (.int (1 : Int32)), .val (.ref b17), .val (.ref s_FAV), .val (.ref s_TOGGLE), .unset, .unset] [])) rfl (hb hby at_116) (by decide) (by decide)
    obtain ⟨b24, g24⟩ : ∃ z, z = T20.heap.size := ⟨_, rfl⟩
    rw [← g24] at A24 D24 st24
    have n0_b24 : n0 ≤ b24 := Nat.le_trans (Nat.le_trans (Nat.le_of_eq O0.1.symm) O0.2.1) (Nat.le_trans (Nat.le_trans (Nat.le_trans (Nat.le_trans E17.1 (Keep.of_wr W18).1) (Keep.of_wr W19).1) (Keep.of_wr W20).1) (Nat.le_of_eq g24.symm))
    have F24_coder : Fld Z T24.heap b24 "java/lang/String" "coder" "B" (.int (0 : Int32)) := D24 (Or.inr w34) (ty := .byte) (by decide)
    have F24_value : Fld Z T24.heap b24 "java/lang/String" "value" "[B" .null := D24 (Or.inr w36) (ty := (.array .byte)) (by decide)
    refine ogo (S' := T24.setTop (mkF m 119 #[.val (.int k_), .val (.int (1 : Int32)), .val (.ref b17), .val (.ref s_FAV), .val (.ref s_TOGGLE), .unset, .unset] [(.ref b24)])) st24 ?_
    refine o_dup X24 hx (hb hby at_119) rfl ?_
    refine o_aloadN X24 hx (hb hby at_120) rfl rfl ?_
    obtain ⟨_, _, ⟨T25, L25, kc25, n25⟩, -, X25, ⟨Lc25, hQ25, l25, y25, z25⟩, st25⟩ := X24.specialBack hx (y := yM9) rfl hown (mvT hZ w11) (mvT hZ w12) (mvT hZ w13) (by decide) (backOf (W := 1) (rm_new1_3 l Z a0 hw [] s_LIKE s_TOGGLE s__VALUES s_FAV s_VIEW s_LIKE_id s_LIKE_id_value s_INCREMENT s_FAV_id s_FAV_id_value s_VIEW_id s_VIEW_id_value k_s__VALUES k_s_LIKE_id_value k_s_FAV_id_value k_s_VIEW_id_value z_CS v_FMT b24 b17 k17 (102 : Int32) (97 : Int32) (118 : Int32) T24.heap n0 SB (c22.ext E24) A24 F24_value F24_coder (V20.ext E24) n0_b24 (by decide) (by decide) (by decide)) hZ w13 w10 (by decide) (by decide)) (g := (mkF m 121 #[.val (.int k_), .val (.int (1 : Int32)), .val (.ref b17), .val (.ref s_FAV), .val (.ref s_TOGGLE), .unset, .unset] [(.ref b17), (.ref b24), (.ref b24)])) rfl (by rw [hml]; rfl) (Steps.refl _) (a := b24) (argsL := [(.ref b17)]) (rest := [(.ref b24)]) (lenOf own_pd8 rfl) rfl (by show 2 * 0 + _ ≤ _; exact Nat.le_of_eq rfl) (hb hby at_121) (fun _ _ => ⟨rfl, rfl, (by decide : 2 + 1 ≤ _), (by decide : 7 + 3 ≤ _)⟩)
    dsimp only [Pt.U, Pt.locs, Pt.cells, Pt.slots] at X25 l25 y25 z25 st25 hQ25
    subst l25 y25 z25
    obtain ⟨ba_25, kb_25, rfl, Nq25, K25, p25_0, p25_1, p25_2, p25_3, p25_4⟩ := hQ25
    have N25 := Fr.app N20 Nq25
    have n0_ba_25 : n0 ≤ ba_25 := Nat.le_trans (Nat.le_trans (Nat.le_of_eq O0.1.symm) O0.2.1) (Nat.le_trans (Nat.le_trans (Nat.le_trans (Nat.le_trans (Nat.le_trans E17.1 (Keep.of_wr W18).1) (Keep.of_wr W19).1) (Keep.of_wr W20).1) E24.1) p25_0)
    refine otr (S' := T25.setTop (mkF m 124 #[.val (.int k_), .val (.int (1 : Int32)), .val (.ref b17), .val (.ref s_FAV), .val (.ref s_TOGGLE), .unset, .unset] [(.ref b24)])) st25 ?_
    have Vl26 : Arv Z T25.heap ba_25 kb_25 .byte (3 : Int32) [(.int (102 : Int32)), (.int (97 : Int32)), (.int (118 : Int32))] (.int 0) := p25_1
    refine o_astore X25 hx (l' := #[.val (.int k_), .val (.int (1 : Int32)), .val (.ref b17), .val (.ref s_FAV), .val (.ref s_TOGGLE), .val (.ref b24), .unset]) (hb hby at_124) rfl rfl ?_
    refine o_aload X25 hx (hb hby at_126) rfl rfl ?_
    refine o_aload X25 hx (hb hby at_128) rfl rfl ?_
    obtain ⟨_, _, ⟨T27, L27, kc27, n27⟩, -, X27, ⟨Lc27, hQ27, l27, y27, z27⟩, st27⟩ := Jvm.LawKit.callS X25 hx (y := yM10) hown (mvT hZ w37) (mvT hZ w38) (mvT hZ w3) (mvT hZ w39) (by decide) (backOf (W := 0) (rm_parse2_1 l Z a0 hw [] s_LIKE s_TOGGLE s__VALUES s_FAV s_VIEW s_LIKE_id s_LIKE_id_value s_INCREMENT s_FAV_id s_FAV_id_value s_VIEW_id s_VIEW_id_value k_s__VALUES k_s_LIKE_id_value k_s_FAV_id_value k_s_VIEW_id_value z_CS v_FMT b24 ba_25 kb_25 T25.heap n0 SB ((c22.ext E24).keep K25 (allS n0_b24 all0)) p25_2 p25_4 p25_3 Vl26 n0_b24) hZ w39 w3 (by decide) (by decide)) (g := (mkF m 130 #[.val (.int k_), .val (.int (1 : Int32)), .val (.ref b17), .val (.ref s_FAV), .val (.ref s_TOGGLE), .val (.ref b24), .unset] [(.ref s_TOGGLE), (.ref b24)])) rfl (by rw [hml]; rfl) (argsL := [(.ref b24), (.ref s_TOGGLE)]) (rest := []) (lenOf own_pd9 rfl) rfl (by show 2 * 0 + _ ≤ _; exact Nat.le_of_eq rfl) (hb hby at_130) (fun _ _ => ⟨rfl, rfl, (by decide : 3 + 1 ≤ _), (by decide : 10 + 3 ≤ _)⟩)
    dsimp only [Pt.U, Pt.locs, Pt.cells, Pt.slots] at X27 l27 y27 z27 st27 hQ27
    subst l27 y27 z27
    obtain ⟨rfl, Nq27, K27⟩ := hQ27
    have N27 := Fr.app N25 Nq27
    refine ogo (S' := T27.setTop (mkF m 133 #[.val (.int k_), .val (.int (1 : Int32)), .val (.ref b17), .val (.ref s_FAV), .val (.ref s_TOGGLE), .val (.ref b24), .unset] [(.ref s_FAV)])) st27 ?_
    refine o_astore X27 hx (l' := #[.val (.int k_), .val (.int (1 : Int32)), .val (.ref b17), .val (.ref s_FAV), .val (.ref s_TOGGLE), .val (.ref b24), .val (.ref s_FAV)]) (hb hby at_133) rfl rfl ?_
    refine o_aload X27 hx (hb hby at_135) rfl rfl ?_
    refine o_aloadN X27 hx (hb hby at_137) rfl rfl ?_
    refine o_acmp X27 hx 141 true rfl rfl (hb hby at_138) (decide_eq_true rfl) (by decide) (by decide) ?_
    refine o_aload X27 hx (hb hby at_141) rfl rfl ?_
    obtain ⟨cq28, kq28, q28a, q28b, q28c⟩ := isOf hZ rfl (Exa.ext (((c22.ext E24).keep K25 (allS n0_b24 all0)).keep K27 all0).2 E_s_FAV)
    obtain ⟨_, _, ⟨T28, L28, kc28, n28⟩, -, X28, ⟨Lc28, hQ28, l28, y28, z28⟩, st28⟩ := X27.virtualBack hx (y := yM11) (z := yM11) hown (mvT hZ w74) (mvT hZ w75) (notFace_of_selects (args := #[]) (mvT hZ w77)) (mvT hZ w77) (mvT hZ w76) (by decide) (backOf (W := 0) (rm_kind l Z a0 hw []  s_FAV s_TOGGLE T27.heap n0 (((c22.ext E24).keep K25 (allS n0_b24 all0)).keep K27 all0) (Fld.ext (((c22.ext E24).keep K25 (allS n0_b24 all0)).keep K27 all0).2 F_s_FAV_kind)) hZ w78 w3 (by decide) (by decide)) q28a q28c (g := (mkF m 143 #[.val (.int k_), .val (.int (1 : Int32)), .val (.ref b17), .val (.ref s_FAV), .val (.ref s_TOGGLE), .val (.ref b24), .val (.ref s_FAV)] [(.ref s_FAV)])) rfl (by rw [hml]; rfl) (Steps.refl _) (argsL := []) (rest := []) (lenOf own_pd10 rfl) rfl (by show 2 * 0 + _ ≤ _; exact Nat.le_of_eq rfl) (hb hby at_143) (fun _ _ => ⟨rfl, rfl, (by decide : 4 + 0 ≤ _), (by decide : 13 + 0 ≤ _)⟩)
    dsimp only [Pt.U, Pt.locs, Pt.cells, Pt.slots] at X28 l28 y28 z28 st28 hQ28
    subst l28 y28 z28
    obtain ⟨rfl, Nq28, e28⟩ := hQ28
    have N28 := Fr.app N27 Nq28
    refine otr (S' := T28.setTop (mkF m 146 #[.val (.int k_), .val (.int (1 : Int32)), .val (.ref b17), .val (.ref s_FAV), .val (.ref s_TOGGLE), .val (.ref b24), .val (.ref s_FAV)] [(.ref s_TOGGLE)])) st28 ?_
    refine o_aload X28 hx (hb hby at_146) rfl rfl ?_
    refine o_acmp X28 hx 151 true rfl rfl (hb hby at_148) (decide_eq_true rfl) (by decide) (by decide) ?_
    refine o_aload X28 hx (hb hby at_151) rfl rfl ?_
    refine o_aload X28 hx (hb hby at_153) rfl rfl ?_
    obtain ⟨cq29, kq29, q29a, q29b, q29c⟩ := isOf hZ e28 (Exa.ext (((c22.ext E24).keep K25 (allS n0_b24 all0)).keep K27 all0).2 E_s_FAV)
    obtain ⟨_, _, ⟨T29, L29, kc29, n29⟩, -, X29, ⟨Lc29, hQ29, l29, y29, z29⟩, st29⟩ := X28.virtualBack hx (y := yM4) (z := yM4) hown (mvT hZ w79) (mvT hZ w80) (notFace_of_selects (args := #[]) (mvT hZ w82)) (mvT hZ w82) (mvT hZ w81) (by decide) (backOf (W := 1) (rm_id l Z a0 hw []  s_FAV s_FAV_id T27.heap n0 (((c22.ext E24).keep K25 (allS n0_b24 all0)).keep K27 all0) (Fld.ext (((c22.ext E24).keep K25 (allS n0_b24 all0)).keep K27 all0).2 F_s_FAV_id)) hZ w83 w3 (by decide) (by decide)) q29a q29c (g := (mkF m 155 #[.val (.int k_), .val (.int (1 : Int32)), .val (.ref b17), .val (.ref s_FAV), .val (.ref s_TOGGLE), .val (.ref b24), .val (.ref s_FAV)] [(.ref s_FAV), (.ref b24)])) rfl (by rw [hml]; rfl) (Steps.refl _) (argsL := []) (rest := [(.ref b24)]) (lenOf own_pd11 rfl) rfl (by show 2 * 0 + _ ≤ _; exact Nat.le_of_eq rfl) (hb hby at_155) (fun _ _ => ⟨rfl, e28, (by decide : 4 + 0 ≤ _), (by decide : 13 + 0 ≤ _)⟩)
    dsimp only [Pt.U, Pt.locs, Pt.cells, Pt.slots] at X29 l29 y29 z29 st29 hQ29
    subst l29 y29 z29
    obtain ⟨rfl, Nq29, e29⟩ := hQ29
    have N29 := Fr.app N28 Nq29
    refine otr (S' := T29.setTop (mkF m 158 #[.val (.int k_), .val (.int (1 : Int32)), .val (.ref b17), .val (.ref s_FAV), .val (.ref s_TOGGLE), .val (.ref b24), .val (.ref s_FAV)] [(.ref s_FAV_id), (.ref b24)])) st29 ?_
    obtain ⟨cq30, kq30, q30a, q30b, q30c⟩ := isOf hZ e29 (p25_2.keep K27)
    obtain ⟨_, _, ⟨T30, L30, kc30, n30⟩, -, X30, ⟨Lc30, hQ30, l30, y30, z30⟩, st30⟩ := X29.virtualBack hx (y := yM2) (z := yM2) hown (mvT hZ w84) (mvT hZ w63) (notFace_of_selects (args := #[]) (mvT hZ w65)) (mvT hZ w65) (mvT hZ w64) (by decide) (backOf (W := 0) (rm_eq_102_97_118_102_97_118 l Z a0 hw [] s_LIKE s_TOGGLE s__VALUES s_FAV s_VIEW s_LIKE_id s_LIKE_id_value s_INCREMENT s_FAV_id s_FAV_id_value s_VIEW_id s_VIEW_id_value k_s__VALUES k_s_LIKE_id_value k_s_FAV_id_value k_s_VIEW_id_value z_CS v_FMT b24 ba_25 kb_25 s_FAV_id s_FAV_id_value k_s_FAV_id_value T27.heap n0 SB (((c22.ext E24).keep K25 (allS n0_b24 all0)).keep K27 all0) (p25_2.keep K27) (p25_4.keep K27 nin0) (p25_3.keep K27 nin0) (Vl26.keep K27 nin0) (Exa.ext (((c22.ext E24).keep K25 (allS n0_b24 all0)).keep K27 all0).2 E_s_FAV_id) (Fld.ext (((c22.ext E24).keep K25 (allS n0_b24 all0)).keep K27 all0).2 F_s_FAV_id_coder) (Fld.ext (((c22.ext E24).keep K25 (allS n0_b24 all0)).keep K27 all0).2 F_s_FAV_id_value) (V_s_FAV_id_value.ext (((c22.ext E24).keep K25 (allS n0_b24 all0)).keep K27 all0).2) (Ne.symm (Old.ne (((c22.ext E24).keep K25 (allS n0_b24 all0)).keep K27 all0) E_s_FAV_id.lt n0_b24))) hZ w66 w10 (by decide) (by decide)) q30a q30c (g := (mkF m 158 #[.val (.int k_), .val (.int (1 : Int32)), .val (.ref b17), .val (.ref s_FAV), .val (.ref s_TOGGLE), .val (.ref b24), .val (.ref s_FAV)] [(.ref s_FAV_id), (.ref b24)])) rfl (by rw [hml]; rfl) (Steps.refl _) (argsL := [(.ref s_FAV_id)]) (rest := []) (lenOf own_pd2 rfl) rfl (by show 2 * 0 + _ ≤ _; exact Nat.le_of_eq rfl) (hb hby at_158) (fun _ _ => ⟨rfl, e29, (by decide : 4 + 0 ≤ _), (by decide : 13 + 0 ≤ _)⟩)
    dsimp only [Pt.U, Pt.locs, Pt.cells, Pt.slots] at X30 l30 y30 z30 st30 hQ30
    subst l30 y30 z30
    obtain ⟨rfl, Nq30, e30⟩ := hQ30
    have N30 := Fr.app N29 Nq30
    refine otr (S' := T30.setTop (mkF m 161 #[.val (.int k_), .val (.int (1 : Int32)), .val (.ref b17), .val (.ref s_FAV), .val (.ref s_TOGGLE), .val (.ref b24), .val (.ref s_FAV)] [(.int (1 : Int32))])) st30 ?_
    refine o_ifNo X30 hx (hb hby at_161) (feq (by decide : ¬ ((1 : Int32) = (0 : Int32)))).1 ?_
    refine o_iconst X30 hx (1 : Int32) (hb hby at_164) rfl ?_
    refine o_goto X30 hx 169 (hb hby at_165) (by decide) (by decide) ?_
    refine oend X30 hlk (v := some (.int (1 : Int32))) (fun h => by rw [hret] at h; cases h) (fun fs hr => retN X30 hx (t := .boolean) hret (by simp) (hb hby at_169) hr) (by decide) (by decide) ?_
    show own_Q_law Z _ _ _ _ _ _ _ _ _ _ _ _ _ _ _ _ _ _ _ h0 n0 _ T30.heap _
    rw [e30]
    exact ⟨rfl, N30, ((((((((Keep.refl h0 []).ext E17).wr W18 (Or.inr (Nat.le_trans (Nat.le_refl _) (Nat.le_of_eq g17.symm)))).wr W19 (Or.inr (Nat.le_trans (Nat.le_refl _) (Nat.le_of_eq g17.symm)))).wr W20 (Or.inr (Nat.le_trans (Nat.le_refl _) (Nat.le_of_eq g17.symm)))).ext E24).trans K25 (allS (Or.inr (Nat.le_trans (Nat.le_trans (Nat.le_trans (Nat.le_trans E17.1 (Keep.of_wr W18).1) (Keep.of_wr W19).1) (Keep.of_wr W20).1) (Nat.le_of_eq g24.symm))) all0)).trans K27 all0)⟩
  · rw [hs1]
    refine o_iloadN X0 hx (hb hby at_7) rfl ?_
    refine o_ifYes X0 hx 47 (hb hby at_8) (feq (by decide : ¬ ((2 : Int32) = (0 : Int32)))).2 (by decide) (by decide) ?_
    refine o_iloadN X0 hx (hb hby at_47) rfl ?_
    refine o_iconst X0 hx (1 : Int32) (hb hby at_48) rfl ?_
    refine o_icmpYes X0 hx 83 (hb hby at_49) (feq (by decide : ¬ ((2 : Int32) = (1 : Int32)))).2 (by decide) (by decide) ?_
    refine o_iconst X0 hx (4 : Int32) (hb hby at_83) rfl ?_
    obtain ⟨T31, _, k31, X31, rfl, E31, A31, Ex31, st31⟩ := newPE (aty := .char) X0 hx hZ w1 e0 (g := (mkF m 84 #[.val (.int k_), .val (.int (2 : Int32)), .unset, .unset, .unset, .unset, .unset] [(.int (4 : Int32))])) rfl (hb hby at_84) rfl (by decide) (cap := 4) (by decide) (by decide) (by decide) (by decide) (ad := "[C") rfl
    obtain ⟨b31, g31⟩ : ∃ z, z = h0.size := ⟨_, rfl⟩
    rw [← g31] at A31 Ex31 st31
    have n0_b31 : n0 ≤ b31 := Nat.le_trans (Nat.le_trans (Nat.le_of_eq O0.1.symm) O0.2.1) (Nat.le_trans (Nat.le_refl _) (Nat.le_of_eq g31.symm))
    have V31 : Arv Z T31.heap b31 k31 .char (4 : Int32) [(.int 0), (.int 0), (.int 0), (.int 0)] (.int 0) := (Arv.new A31 (by decide)).pad (pad_rep [] (.int 0) 4)
    refine ogo (S' := T31.setTop (mkF m 86 #[.val (.int k_), .val (.int (2 : Int32)), .unset, .unset, .unset, .unset, .unset] [(.ref b31)])) st31 ?_
    refine o_dup X31 hx (hb hby at_86) rfl ?_
    refine o_iconst X31 hx (0 : Int32) (hb hby at_87) rfl ?_
    refine o_bipush X31 hx (118 : Int32) (hb hby at_88) rfl ?_
    obtain ⟨cl32, Ar32, q32, S32, N32z, H32, G32⟩ := (id V31)
    obtain ⟨T32, _, X32, rfl, W32, st32⟩ := stC X31 hx hZ rfl Ar32 (j := (0 : Int32)) (inb_of S32 ⟨by decide, by decide⟩) (g := (mkF m 90 #[.val (.int k_), .val (.int (2 : Int32)), .unset, .unset, .unset, .unset, .unset] [(.int (118 : Int32)), (.int (0 : Int32)), (.ref b31), (.ref b31)])) rfl rfl (hb hby at_90)
    have V32 : Arv Z T32.heap b31 k31 .char (4 : Int32) [(.int (118 : Int32)), (.int 0), (.int 0), (.int 0)] (.int 0) := Arv.set Ar32 q32 S32 N32z H32 G32 (fits_nar_char _) W32 0 rfl (Nat.le_of_ble_eq_true rfl)
    have N32 := Fr.snoc X32 N0 n0_b31
    refine ogo (S' := T32.setTop (mkF m 91 #[.val (.int k_), .val (.int (2 : Int32)), .unset, .unset, .unset, .unset, .unset] [(.ref b31)])) st32 ?_
    refine o_dup X32 hx (hb hby at_91) rfl ?_
    refine o_iconst X32 hx (1 : Int32) (hb hby at_92) rfl ?_
    refine o_bipush X32 hx (105 : Int32) (hb hby at_93) rfl ?_
    obtain ⟨cl33, Ar33, q33, S33, N33z, H33, G33⟩ := (id V32)
    obtain ⟨T33, _, X33, rfl, W33, st33⟩ := stC X32 hx hZ rfl Ar33 (j := (1 : Int32)) (inb_of S33 ⟨by decide, by decide⟩) (g := (mkF m 95 #[.val (.int k_), .val (.int (2 : Int32)), .unset, .unset, .unset, .unset, .unset] [(.int (105 : Int32)), (.int (1 : Int32)), (.ref b31), (.ref b31)])) rfl rfl (hb hby at_95)
    have V33 : Arv Z T33.heap b31 k31 .char (4 : Int32) [(.int (118 : Int32)), (.int (105 : Int32)), (.int 0), (.int 0)] (.int 0) := Arv.set Ar33 q33 S33 N33z H33 G33 (fits_nar_char _) W33 1 rfl (Nat.le_of_ble_eq_true rfl)
    have N33 := Fr.snoc X33 N32 n0_b31
    refine ogo (S' := T33.setTop (mkF m 96 #[.val (.int k_), .val (.int (2 : Int32)), .unset, .unset, .unset, .unset, .unset] [(.ref b31)])) st33 ?_
    refine o_dup X33 hx (hb hby at_96) rfl ?_
    refine o_iconst X33 hx (2 : Int32) (hb hby at_97) rfl ?_
    refine o_bipush X33 hx (101 : Int32) (hb hby at_98) rfl ?_
    obtain ⟨cl34, Ar34, q34, S34, N34z, H34, G34⟩ := (id V33)
    obtain ⟨T34, _, X34, rfl, W34, st34⟩ := stC X33 hx hZ rfl Ar34 (j := (2 : Int32)) (inb_of S34 ⟨by decide, by decide⟩) (g := (mkF m 100 #[.val (.int k_), .val (.int (2 : Int32)), .unset, .unset, .unset, .unset, .unset] [(.int (101 : Int32)), (.int (2 : Int32)), (.ref b31), (.ref b31)])) rfl rfl (hb hby at_100)
    have V34 : Arv Z T34.heap b31 k31 .char (4 : Int32) [(.int (118 : Int32)), (.int (105 : Int32)), (.int (101 : Int32)), (.int 0)] (.int 0) := Arv.set Ar34 q34 S34 N34z H34 G34 (fits_nar_char _) W34 2 rfl (Nat.le_of_ble_eq_true rfl)
    have N34 := Fr.snoc X34 N33 n0_b31
    refine ogo (S' := T34.setTop (mkF m 101 #[.val (.int k_), .val (.int (2 : Int32)), .unset, .unset, .unset, .unset, .unset] [(.ref b31)])) st34 ?_
    refine o_dup X34 hx (hb hby at_101) rfl ?_
    refine o_iconst X34 hx (3 : Int32) (hb hby at_102) rfl ?_
    refine o_bipush X34 hx (119 : Int32) (hb hby at_103) rfl ?_
    obtain ⟨cl35, Ar35, q35, S35, N35z, H35, G35⟩ := (id V34)
    obtain ⟨T35, _, X35, rfl, W35, st35⟩ := stC X34 hx hZ rfl Ar35 (j := (3 : Int32)) (inb_of S35 ⟨by decide, by decide⟩) (g := (mkF m 105 #[.val (.int k_), .val (.int (2 : Int32)), .unset, .unset, .unset, .unset, .unset] [(.int (119 : Int32)), (.int (3 : Int32)), (.ref b31), (.ref b31)])) rfl rfl (hb hby at_105)
    have V35 : Arv Z T35.heap b31 k31 .char (4 : Int32) [(.int (118 : Int32)), (.int (105 : Int32)), (.int (101 : Int32)), (.int (119 : Int32))] (.int 0) := Arv.set Ar35 q35 S35 N35z H35 G35 (fits_nar_char _) W35 3 rfl (Nat.le_of_ble_eq_true rfl)
    have N35 := Fr.snoc X35 N34 n0_b31
    refine ogo (S' := T35.setTop (mkF m 106 #[.val (.int k_), .val (.int (2 : Int32)), .unset, .unset, .unset, .unset, .unset] [(.ref b31)])) st35 ?_
    refine o_astoreN X35 hx (l' := #[.val (.int k_), .val (.int (2 : Int32)), .val (.ref b31), .unset, .unset, .unset, .unset]) (hb hby at_106) rfl rfl ?_
    have c37 := (((((O0.ext E31).wr W32 n0_b31).wr W33 n0_b31).wr W34 n0_b31).wr W35 n0_b31)
    obtain ⟨T36, X36, e36, st36⟩ := getS2 X35 hx hZ hown (host := "") (Or.inl w85) Via.refl rfl (Sta.ext c37.2 S_s_VIEW) (g := (mkF m 107 #[.val (.int k_), .val (.int (2 : Int32)), .val (.ref b31), .unset, .unset, .unset, .unset] [])) rfl (hb hby at_107)
    refine ogo (S' := T36.setTop (mkF m 110 #[.val (.int k_), .val (.int (2 : Int32)), .val (.ref b31), .unset, .unset, .unset, .unset] [(.ref s_VIEW)])) st36 ?_
    refine o_astoreN X36 hx (l' := #[.val (.int k_), .val (.int (2 : Int32)), .val (.ref b31), .val (.ref s_VIEW), .unset, .unset, .unset]) (hb hby at_110) rfl rfl ?_
    obtain ⟨T38, X38, e38, st38⟩ := getS2 X36 hx hZ hown (host := "") (Or.inl w86) Via.refl e36 (Sta.ext c37.2 S_s_INCREMENT) (g := (mkF m 111 #[.val (.int k_), .val (.int (2 : Int32)), .val (.ref b31), .val (.ref s_VIEW), .unset, .unset, .unset] [])) rfl (hb hby at_111)
    refine ogo (S' := T38.setTop (mkF m 114 #[.val (.int k_), .val (.int (2 : Int32)), .val (.ref b31), .val (.ref s_VIEW), .unset, .unset, .unset] [(.ref s_INCREMENT)])) st38 ?_
    refine o_astore X38 hx (l' := #[.val (.int k_), .val (.int (2 : Int32)), .val (.ref b31), .val (.ref s_VIEW), .val (.ref s_INCREMENT), .unset, .unset]) (hb hby at_114) rfl rfl ?_
    obtain ⟨T39, _, X39, rfl, E39, A39, D39, -, st39⟩ := newO X38 hx hZ hown w8 w9 w10 e38 (g := (mkF m 116 #[.val (.int k_), .val (.int (2 : Int32)), .val (.ref b31), .val (.ref s_VIEW), .val (.ref s_INCREMENT), .unset, .unset] [])) rfl (hb hby at_116) (by decide) (by decide)
    obtain ⟨b39, g39⟩ : ∃ z, z = T35.heap.size := ⟨_, rfl⟩
    rw [← g39] at A39 D39 st39
    have n0_b39 : n0 ≤ b39 := Nat.le_trans (Nat.le_trans (Nat.le_of_eq O0.1.symm) O0.2.1) (Nat.le_trans (Nat.le_trans (Nat.le_trans (Nat.le_trans (Nat.le_trans E31.1 (Keep.of_wr W32).1) (Keep.of_wr W33).1) (Keep.of_wr W34).1) (Keep.of_wr W35).1) (Nat.le_of_eq g39.symm))
    have F39_coder : Fld Z T39.heap b39 "java/lang/String" "coder" "B" (.int (0 : Int32)) := D39 (Or.inr w34) (ty := .byte) (by decide)
    have F39_value : Fld Z T39.heap b39 "java/lang/String" "value" "[B" .null := D39 (Or.inr w36) (ty := (.array .byte)) (by decide)
    refine ogo (S' := T39.setTop (mkF m 119 #[.val (.int k_), .val (.int (2 : Int32)), .val (.ref b31), .val (.ref s_VIEW), .val (.ref s_INCREMENT), .unset, .unset] [(.ref b39)])) st39 ?_
    refine o_dup X39 hx (hb hby at_119) rfl ?_
    refine o_aloadN X39 hx (hb hby at_120) rfl rfl ?_
    obtain ⟨_, _, ⟨T40, L40, kc40, n40⟩, -, X40, ⟨Lc40, hQ40, l40, y40, z40⟩, st40⟩ := X39.specialBack hx (y := yM9) rfl hown (mvT hZ w11) (mvT hZ w12) (mvT hZ w13) (by decide) (backOf (W := 1) (rm_new1_4 l Z a0 hw [] s_LIKE s_TOGGLE s__VALUES s_FAV s_VIEW s_LIKE_id s_LIKE_id_value s_INCREMENT s_FAV_id s_FAV_id_value s_VIEW_id s_VIEW_id_value k_s__VALUES k_s_LIKE_id_value k_s_FAV_id_value k_s_VIEW_id_value z_CS v_FMT b39 b31 k31 (118 : Int32) (105 : Int32) (101 : Int32) (119 : Int32) T39.heap n0 SB (c37.ext E39) A39 F39_value F39_coder (V35.ext E39) n0_b39 (by decide) (by decide) (by decide) (by decide)) hZ w13 w10 (by decide) (by decide)) (g := (mkF m 121 #[.val (.int k_), .val (.int (2 : Int32)), .val (.ref b31), .val (.ref s_VIEW), .val (.ref s_INCREMENT), .unset, .unset] [(.ref b31), (.ref b39), (.ref b39)])) rfl (by rw [hml]; rfl) (Steps.refl _) (a := b39) (argsL := [(.ref b31)]) (rest := [(.ref b39)]) (lenOf own_pd8 rfl) rfl (by show 2 * 0 + _ ≤ _; exact Nat.le_of_eq rfl) (hb hby at_121) (fun _ _ => ⟨rfl, rfl, (by decide : 2 + 1 ≤ _), (by decide : 8 + 4 ≤ _)⟩)
    dsimp only [Pt.U, Pt.locs, Pt.cells, Pt.slots] at X40 l40 y40 z40 st40 hQ40
    subst l40 y40 z40
    obtain ⟨ba_40, kb_40, rfl, Nq40, K40, p40_0, p40_1, p40_2, p40_3, p40_4⟩ := hQ40
    have N40 := Fr.app N35 Nq40
    have n0_ba_40 : n0 ≤ ba_40 := Nat.le_trans (Nat.le_trans (Nat.le_of_eq O0.1.symm) O0.2.1) (Nat.le_trans (Nat.le_trans (Nat.le_trans (Nat.le_trans (Nat.le_trans (Nat.le_trans E31.1 (Keep.of_wr W32).1) (Keep.of_wr W33).1) (Keep.of_wr W34).1) (Keep.of_wr W35).1) E39.1) p40_0)
    refine otr (S' := T40.setTop (mkF m 124 #[.val (.int k_), .val (.int (2 : Int32)), .val (.ref b31), .val (.ref s_VIEW), .val (.ref s_INCREMENT), .unset, .unset] [(.ref b39)])) st40 ?_
    have Vl41 : Arv Z T40.heap ba_40 kb_40 .byte (4 : Int32) [(.int (118 : Int32)), (.int (105 : Int32)), (.int (101 : Int32)), (.int (119 : Int32))] (.int 0) := p40_1
    refine o_astore X40 hx (l' := #[.val (.int k_), .val (.int (2 : Int32)), .val (.ref b31), .val (.ref s_VIEW), .val (.ref s_INCREMENT), .val (.ref b39), .unset]) (hb hby at_124) rfl rfl ?_
    refine o_aload X40 hx (hb hby at_126) rfl rfl ?_
    refine o_aload X40 hx (hb hby at_128) rfl rfl ?_
    obtain ⟨_, _, ⟨T42, L42, kc42, n42⟩, -, X42, ⟨Lc42, hQ42, l42, y42, z42⟩, st42⟩ := Jvm.LawKit.callS X40 hx (y := yM10) hown (mvT hZ w37) (mvT hZ w38) (mvT hZ w3) (mvT hZ w39) (by decide) (backOf (W := 0) (rm_parse2_2 l Z a0 hw [] s_LIKE s_TOGGLE s__VALUES s_FAV s_VIEW s_LIKE_id s_LIKE_id_value s_INCREMENT s_FAV_id s_FAV_id_value s_VIEW_id s_VIEW_id_value k_s__VALUES k_s_LIKE_id_value k_s_FAV_id_value k_s_VIEW_id_value z_CS v_FMT b39 ba_40 kb_40 T40.heap n0 SB ((c37.ext E39).keep K40 (allS n0_b39 all0)) p40_2 p40_4 p40_3 Vl41 n0_b39) hZ w39 w3 (by decide) (by decide)) (g := (mkF m 130 #[.val (.int k_), .val (.int (2 : Int32)), .val (.ref b31), .val (.ref s_VIEW), .val (.ref s_INCREMENT), .val (.ref b39), .unset] [(.ref s_INCREMENT), (.ref b39)])) rfl (by rw [hml]; rfl) (argsL := [(.ref b39), (.ref s_INCREMENT)]) (rest := []) (lenOf own_pd9 rfl) rfl (by show 2 * 0 + _ ≤ _; exact Nat.le_of_eq rfl) (hb hby at_130) (fun _ _ => ⟨rfl, rfl, (by decide : 3 + 1 ≤ _), (by decide : 12 + 3 ≤ _)⟩)
    dsimp only [Pt.U, Pt.locs, Pt.cells, Pt.slots] at X42 l42 y42 z42 st42 hQ42
    subst l42 y42 z42
    obtain ⟨rfl, Nq42, K42⟩ := hQ42
    have N42 := Fr.app N40 Nq42
    refine ogo (S' := T42.setTop (mkF m 133 #[.val (.int k_), .val (.int (2 : Int32)), .val (.ref b31), .val (.ref s_VIEW), .val (.ref s_INCREMENT), .val (.ref b39), .unset] [(.ref s_VIEW)])) st42 ?_
    refine o_astore X42 hx (l' := #[.val (.int k_), .val (.int (2 : Int32)), .val (.ref b31), .val (.ref s_VIEW), .val (.ref s_INCREMENT), .val (.ref b39), .val (.ref s_VIEW)]) (hb hby at_133) rfl rfl ?_
    refine o_aload X42 hx (hb hby at_135) rfl rfl ?_
    refine o_aloadN X42 hx (hb hby at_137) rfl rfl ?_
    refine o_acmp X42 hx 141 true rfl rfl (hb hby at_138) (decide_eq_true rfl) (by decide) (by decide) ?_
    refine o_aload X42 hx (hb hby at_141) rfl rfl ?_
    obtain ⟨cq43, kq43, q43a, q43b, q43c⟩ := isOf hZ rfl (Exa.ext (((c37.ext E39).keep K40 (allS n0_b39 all0)).keep K42 all0).2 E_s_VIEW)
    obtain ⟨_, _, ⟨T43, L43, kc43, n43⟩, -, X43, ⟨Lc43, hQ43, l43, y43, z43⟩, st43⟩ := X42.virtualBack hx (y := yM11) (z := yM11) hown (mvT hZ w74) (mvT hZ w75) (notFace_of_selects (args := #[]) (mvT hZ w77)) (mvT hZ w77) (mvT hZ w76) (by decide) (backOf (W := 0) (rm_kind l Z a0 hw []  s_VIEW s_INCREMENT T42.heap n0 (((c37.ext E39).keep K40 (allS n0_b39 all0)).keep K42 all0) (Fld.ext (((c37.ext E39).keep K40 (allS n0_b39 all0)).keep K42 all0).2 F_s_VIEW_kind)) hZ w78 w3 (by decide) (by decide)) q43a q43c (g := (mkF m 143 #[.val (.int k_), .val (.int (2 : Int32)), .val (.ref b31), .val (.ref s_VIEW), .val (.ref s_INCREMENT), .val (.ref b39), .val (.ref s_VIEW)] [(.ref s_VIEW)])) rfl (by rw [hml]; rfl) (Steps.refl _) (argsL := []) (rest := []) (lenOf own_pd10 rfl) rfl (by show 2 * 0 + _ ≤ _; exact Nat.le_of_eq rfl) (hb hby at_143) (fun _ _ => ⟨rfl, rfl, (by decide : 4 + 0 ≤ _), (by decide : 15 + 0 ≤ _)⟩)
    dsimp only [Pt.U, Pt.locs, Pt.cells, Pt.slots] at X43 l43 y43 z43 st43 hQ43
    subst l43 y43 z43
    obtain ⟨rfl, Nq43, e43⟩ := hQ43
    have N43 := Fr.app N42 Nq43
    refine otr (S' := T43.setTop (mkF m 146 #[.val (.int k_), .val (.int (2 : Int32)), .val (.ref b31), .val (.ref s_VIEW), .val (.ref s_INCREMENT), .val (.ref b39), .val (.ref s_VIEW)] [(.ref s_INCREMENT)])) st43 ?_
    refine o_aload X43 hx (hb hby at_146) rfl rfl ?_
    refine o_acmp X43 hx 151 true rfl rfl (hb hby at_148) (decide_eq_true rfl) (by decide) (by decide) ?_
    refine o_aload X43 hx (hb hby at_151) rfl rfl ?_
    refine o_aload X43 hx (hb hby at_153) rfl rfl ?_
    obtain ⟨cq44, kq44, q44a, q44b, q44c⟩ := isOf hZ e43 (Exa.ext (((c37.ext E39).keep K40 (allS n0_b39 all0)).keep K42 all0).2 E_s_VIEW)
    obtain ⟨_, _, ⟨T44, L44, kc44, n44⟩, -, X44, ⟨Lc44, hQ44, l44, y44, z44⟩, st44⟩ := X43.virtualBack hx (y := yM4) (z := yM4) hown (mvT hZ w79) (mvT hZ w80) (notFace_of_selects (args := #[]) (mvT hZ w82)) (mvT hZ w82) (mvT hZ w81) (by decide) (backOf (W := 1) (rm_id l Z a0 hw []  s_VIEW s_VIEW_id T42.heap n0 (((c37.ext E39).keep K40 (allS n0_b39 all0)).keep K42 all0) (Fld.ext (((c37.ext E39).keep K40 (allS n0_b39 all0)).keep K42 all0).2 F_s_VIEW_id)) hZ w83 w3 (by decide) (by decide)) q44a q44c (g := (mkF m 155 #[.val (.int k_), .val (.int (2 : Int32)), .val (.ref b31), .val (.ref s_VIEW), .val (.ref s_INCREMENT), .val (.ref b39), .val (.ref s_VIEW)] [(.ref s_VIEW), (.ref b39)])) rfl (by rw [hml]; rfl) (Steps.refl _) (argsL := []) (rest := [(.ref b39)]) (lenOf own_pd11 rfl) rfl (by show 2 * 0 + _ ≤ _; exact Nat.le_of_eq rfl) (hb hby at_155) (fun _ _ => ⟨rfl, e43, (by decide : 4 + 0 ≤ _), (by decide : 15 + 0 ≤ _)⟩)
    dsimp only [Pt.U, Pt.locs, Pt.cells, Pt.slots] at X44 l44 y44 z44 st44 hQ44
    subst l44 y44 z44
    obtain ⟨rfl, Nq44, e44⟩ := hQ44
    have N44 := Fr.app N43 Nq44
    refine otr (S' := T44.setTop (mkF m 158 #[.val (.int k_), .val (.int (2 : Int32)), .val (.ref b31), .val (.ref s_VIEW), .val (.ref s_INCREMENT), .val (.ref b39), .val (.ref s_VIEW)] [(.ref s_VIEW_id), (.ref b39)])) st44 ?_
    obtain ⟨cq45, kq45, q45a, q45b, q45c⟩ := isOf hZ e44 (p40_2.keep K42)
    obtain ⟨_, _, ⟨T45, L45, kc45, n45⟩, -, X45, ⟨Lc45, hQ45, l45, y45, z45⟩, st45⟩ := X44.virtualBack hx (y := yM2) (z := yM2) hown (mvT hZ w84) (mvT hZ w63) (notFace_of_selects (args := #[]) (mvT hZ w65)) (mvT hZ w65) (mvT hZ w64) (by decide) (backOf (W := 0) (rm_eq_118_105_101_119_118_105_101_119 l Z a0 hw [] s_LIKE s_TOGGLE s__VALUES s_FAV s_VIEW s_LIKE_id s_LIKE_id_value s_INCREMENT s_FAV_id s_FAV_id_value s_VIEW_id s_VIEW_id_value k_s__VALUES k_s_LIKE_id_value k_s_FAV_id_value k_s_VIEW_id_value z_CS v_FMT b39 ba_40 kb_40 s_VIEW_id s_VIEW_id_value k_s_VIEW_id_value T42.heap n0 SB (((c37.ext E39).keep K40 (allS n0_b39 all0)).keep K42 all0) (p40_2.keep K42) (p40_4.keep K42 nin0) (p40_3.keep K42 nin0) (Vl41.keep K42 nin0) (Exa.ext (((c37.ext E39).keep K40 (allS n0_b39 all0)).keep K42 all0).2 E_s_VIEW_id) (Fld.ext (((c37.ext E39).keep K40 (allS n0_b39 all0)).keep K42 all0).2 F_s_VIEW_id_coder) (Fld.ext (((c37.ext E39).keep K40 (allS n0_b39 all0)).keep K42 all0).2 F_s_VIEW_id_value) (V_s_VIEW_id_value.ext (((c37.ext E39).keep K40 (allS n0_b39 all0)).keep K42 all0).2) (Ne.symm (Old.ne (((c37.ext E39).keep K40 (allS n0_b39 all0)).keep K42 all0) E_s_VIEW_id.lt n0_b39))) hZ w66 w10 (by decide) (by decide)) q45a q45c (g := (mkF m 158 #[.val (.int k_), .val (.int (2 : Int32)), .val (.ref b31), .val (.ref s_VIEW), .val (.ref s_INCREMENT), .val (.ref b39), .val (.ref s_VIEW)] [(.ref s_VIEW_id), (.ref b39)])) rfl (by rw [hml]; rfl) (Steps.refl _) (argsL := [(.ref s_VIEW_id)]) (rest := []) (lenOf own_pd2 rfl) rfl (by show 2 * 0 + _ ≤ _; exact Nat.le_of_eq rfl) (hb hby at_158) (fun _ _ => ⟨rfl, e44, (by decide : 4 + 0 ≤ _), (by decide : 15 + 0 ≤ _)⟩)
    dsimp only [Pt.U, Pt.locs, Pt.cells, Pt.slots] at X45 l45 y45 z45 st45 hQ45
    subst l45 y45 z45
    obtain ⟨rfl, Nq45, e45⟩ := hQ45
    have N45 := Fr.app N44 Nq45
    refine otr (S' := T45.setTop (mkF m 161 #[.val (.int k_), .val (.int (2 : Int32)), .val (.ref b31), .val (.ref s_VIEW), .val (.ref s_INCREMENT), .val (.ref b39), .val (.ref s_VIEW)] [(.int (1 : Int32))])) st45 ?_
    refine o_ifNo X45 hx (hb hby at_161) (feq (by decide : ¬ ((1 : Int32) = (0 : Int32)))).1 ?_
    refine o_iconst X45 hx (1 : Int32) (hb hby at_164) rfl ?_
    refine o_goto X45 hx 169 (hb hby at_165) (by decide) (by decide) ?_
    refine oend X45 hlk (v := some (.int (1 : Int32))) (fun h => by rw [hret] at h; cases h) (fun fs hr => retN X45 hx (t := .boolean) hret (by simp) (hb hby at_169) hr) (by decide) (by decide) ?_
    show own_Q_law Z _ _ _ _ _ _ _ _ _ _ _ _ _ _ _ _ _ _ _ h0 n0 _ T45.heap _
    rw [e45]
    exact ⟨rfl, N45, (((((((((Keep.refl h0 []).ext E31).wr W32 (Or.inr (Nat.le_trans (Nat.le_refl _) (Nat.le_of_eq g31.symm)))).wr W33 (Or.inr (Nat.le_trans (Nat.le_refl _) (Nat.le_of_eq g31.symm)))).wr W34 (Or.inr (Nat.le_trans (Nat.le_refl _) (Nat.le_of_eq g31.symm)))).wr W35 (Or.inr (Nat.le_trans (Nat.le_refl _) (Nat.le_of_eq g31.symm)))).ext E39).trans K40 (allS (Or.inr (Nat.le_trans (Nat.le_trans (Nat.le_trans (Nat.le_trans (Nat.le_trans E31.1 (Keep.of_wr W32).1) (Keep.of_wr W33).1) (Keep.of_wr W34).1) (Keep.of_wr W35).1) (Nat.le_of_eq g39.symm))) all0)).trans K42 all0)⟩
set_option maxRecDepth 65536 in
set_option maxHeartbeats 40000000 in
theorem comes_1 {Post : Tables → Env → Array Value → State → Outcome → State → Prop} (hpost : ∀ tb e args s v u, (limb_1_1.after args s (.returned v) u = true ∧ limb_1_2.after args s (.returned v) u = true ∧ True) → FrameEnd s (.returned v) u (Jvm.fieldLocs frame_1_writes args s ++ Jvm.arrayLocs frame_1_arrays args s ++ Jvm.staticLocs frame_1_statics s) 16 128 → Post tb e args s (.returned v) u) :
    ArmFor flags0 classFile x code maxLocals ret World_1 tables_1 room_1 Calls_1 rest_1 Pre_1 Post := by
  intro l hfl _ _ p e ha hc hk s m args below hf hA hF happ hP
  obtain ⟨hcalls, hrest, hpre⟩ := hP
  obtain ⟨-, -, -, hnamed, -, -, -, hat⟩ := (Spec.applies_iff hf).mp happ
  obtain ⟨hg, hn⟩ := and_e (Cond.before_iff.mp (show (Jvm.Cond.and given_1 narrow_1).before args s = true from hpre))
  obtain ⟨g0, gr0⟩ := and_e hg
  obtain ⟨w0, rfl⟩ : ∃ w0 : Value, args = #[w0] := by
    have hs : args.size = 1 := by simpa [Cond.value, given_1] using g0
    obtain ⟨L⟩ := args
    match L, hs with
    | [w0], _ => exact ⟨w0, rfl⟩
  have hw := fun d (hd : d ∈ tables_1) => atoms_spec (ws := Jvm.Cond.code x code maxLocals ret :: tables_1) hat d (List.mem_cons_of_mem _ hd)
  obtain ⟨hsets, hown0⟩ := atoms_of _ (rest_1_c_eq ▸ (show rest_1_c.before _ s = true from hrest))
  have hfit : Fit s := fun {y c} hc i hi => by
    obtain ⟨ha, rfl⟩ := Array.getElem?_eq_some_iff.mp hc
    have q := List.all_eq_true.mp ((Array.all_eq_true_iff_forall_mem.mp hF) _ (Array.getElem_mem ha)) i (List.mem_range.mpr hi)
    simpa [Array.getElem?_eq_getElem hi] using q
  obtain ⟨i0, ei0⟩ := is_v gr0
  obtain rfl : w0 = (.int i0) := Option.some.inj ei0
  obtain ⟨nw0, hn0⟩ := and_e hn
  obtain ⟨nw1, hn1⟩ := and_e hn0
  obtain ⟨nw2, hn2⟩ := and_e hn1
  obtain ⟨nw3, hn3⟩ := and_e hn2
  obtain ⟨nw4, hn4⟩ := and_e hn3
  obtain ⟨nw5, hn5⟩ := and_e hn4
  obtain ⟨nw6, hn6⟩ := and_e hn5
  obtain ⟨nw7, hn7⟩ := and_e hn6
  obtain ⟨nw8, hn8⟩ := and_e hn7
  obtain ⟨nw9, hn9⟩ := and_e hn8
  obtain ⟨nw10, hn10⟩ := and_e hn9
  obtain ⟨nw11, hn11⟩ := and_e hn10
  obtain ⟨nw12, hn12⟩ := and_e hn11
  obtain ⟨nw13, hn13⟩ := and_e hn12
  obtain ⟨nw14, hn14⟩ := and_e hn13
  obtain ⟨nw15, hn15⟩ := and_e hn14
  obtain ⟨nw16, hn16⟩ := and_e hn15
  obtain ⟨nw17, hn17⟩ := and_e hn16
  obtain ⟨nw18, hn18⟩ := and_e hn17
  obtain ⟨nw19, hn19⟩ := and_e hn18
  obtain ⟨nw20, hn20⟩ := and_e hn19
  obtain ⟨nw21, hn21⟩ := and_e hn20
  obtain ⟨nw22, hn22⟩ := and_e hn21
  obtain ⟨nw23, hn23⟩ := and_e hn22
  obtain ⟨nw24, hn24⟩ := and_e hn23
  obtain ⟨nw25, hn25⟩ := and_e hn24
  obtain ⟨nw26, hn26⟩ := and_e hn25
  obtain ⟨nw27, hn27⟩ := and_e hn26
  obtain ⟨nw28, hn28⟩ := and_e hn27
  obtain ⟨nw29, hn29⟩ := and_e hn28
  obtain ⟨nw30, hn30⟩ := and_e hn29
  obtain ⟨nw31, hn31⟩ := and_e hn30
  obtain ⟨nw32, hn32⟩ := and_e hn31
  obtain ⟨nw33, hn33⟩ := and_e hn32
  obtain ⟨nw34, hn34⟩ := and_e hn33
  obtain ⟨nw35, hn35⟩ := and_e hn34
  obtain ⟨s_LIKE, ev_s_LIKE⟩ := exa_v nw0
  obtain ⟨s_TOGGLE, ev_s_TOGGLE⟩ := exa_v nw1
  obtain ⟨s__VALUES, ev_s__VALUES⟩ := arr_v nw2
  obtain ⟨s_FAV, ev_s_FAV⟩ := exa_v nw6
  obtain ⟨s_VIEW, ev_s_VIEW⟩ := exa_v nw8
  obtain ⟨s_LIKE_id, ev_s_LIKE_id⟩ := exa_v nw10
  obtain ⟨s_LIKE_id_value, ev_s_LIKE_id_value⟩ := arr_v nw12
  obtain ⟨s_INCREMENT, ev_s_INCREMENT⟩ := exa_v nw19
  obtain ⟨s_FAV_id, ev_s_FAV_id⟩ := exa_v nw20
  obtain ⟨s_FAV_id_value, ev_s_FAV_id_value⟩ := arr_v nw22
  obtain ⟨s_VIEW_id, ev_s_VIEW_id⟩ := exa_v nw24
  obtain ⟨s_VIEW_id_value, ev_s_VIEW_id_value⟩ := arr_v nw26
  obtain ⟨k_s__VALUES, V_s__VALUES⟩ := own_arv (dv := .null) (vs := [(.ref s_LIKE), (.ref s_FAV), (.ref s_VIEW)]) hfit ev_s__VALUES nw2 (Cond.eq_int (Cond.before_iff.mpr nw4) rfl) (by decide) rfl (fun cl hc => ⟨(elem_in (own_eqref nw5 ev_s_LIKE) ev_s__VALUES rfl hc).2, (elem_in (own_eqref nw7 ev_s_FAV) ev_s__VALUES rfl hc).2, (elem_in (own_eqref nw9 ev_s_VIEW) ev_s__VALUES rfl hc).2, trivial⟩)
  obtain ⟨k_s_LIKE_id_value, V_s_LIKE_id_value⟩ := own_arv (dv := (.int 0)) (vs := [(.int (108 : Int32)), (.int (105 : Int32)), (.int (107 : Int32)), (.int (101 : Int32))]) hfit ev_s_LIKE_id_value nw12 (Cond.eq_int (Cond.before_iff.mpr nw13) rfl) (by decide) rfl (fun cl hc => ⟨(elem_in (Cond.eq_int (Cond.before_iff.mpr nw14) rfl) ev_s_LIKE_id_value rfl hc).2, (elem_in (Cond.eq_int (Cond.before_iff.mpr nw15) rfl) ev_s_LIKE_id_value rfl hc).2, (elem_in (Cond.eq_int (Cond.before_iff.mpr nw16) rfl) ev_s_LIKE_id_value rfl hc).2, (elem_in (Cond.eq_int (Cond.before_iff.mpr nw17) rfl) ev_s_LIKE_id_value rfl hc).2, trivial⟩)
  obtain ⟨k_s_FAV_id_value, V_s_FAV_id_value⟩ := own_arv (dv := (.int 0)) (vs := [(.int (102 : Int32)), (.int (97 : Int32)), (.int (118 : Int32))]) hfit ev_s_FAV_id_value nw22 (Cond.eq_int (Cond.before_iff.mpr nw23) rfl) (by decide) rfl (fun cl hc => ⟨(elem_in (Cond.eq_int (Cond.before_iff.mpr nw33) rfl) ev_s_FAV_id_value rfl hc).2, (elem_in (Cond.eq_int (Cond.before_iff.mpr nw34) rfl) ev_s_FAV_id_value rfl hc).2, (elem_in (Cond.eq_int (Cond.before_iff.mpr nw35) rfl) ev_s_FAV_id_value rfl hc).2, trivial⟩)
  obtain ⟨k_s_VIEW_id_value, V_s_VIEW_id_value⟩ := own_arv (dv := (.int 0)) (vs := [(.int (118 : Int32)), (.int (105 : Int32)), (.int (101 : Int32)), (.int (119 : Int32))]) hfit ev_s_VIEW_id_value nw26 (Cond.eq_int (Cond.before_iff.mpr nw27) rfl) (by decide) rfl (fun cl hc => ⟨(elem_in (Cond.eq_int (Cond.before_iff.mpr nw28) rfl) ev_s_VIEW_id_value rfl hc).2, (elem_in (Cond.eq_int (Cond.before_iff.mpr nw29) rfl) ev_s_VIEW_id_value rfl hc).2, (elem_in (Cond.eq_int (Cond.before_iff.mpr nw30) rfl) ev_s_VIEW_id_value rfl hc).2, (elem_in (Cond.eq_int (Cond.before_iff.mpr nw31) rfl) ev_s_VIEW_id_value rfl hc).2, trivial⟩)
  obtain ⟨z_CS, ev_CS⟩ := is_v (Cond.before_iff.mp (hsets _ (List.mem_of_getElem? (i := 1) rfl)))
  have n_CS := not_v (Cond.before_iff.mp (hsets _ (List.mem_of_getElem? (i := 2) rfl)))
  obtain ⟨v_FMT, ev_FMT, rf_FMT⟩ := isR_v (Cond.before_iff.mp (hsets _ (List.mem_of_getElem? (i := 8) rfl)))
  have SB : own_Start s s_LIKE s_TOGGLE s__VALUES s_FAV s_VIEW s_LIKE_id s_LIKE_id_value s_INCREMENT s_FAV_id s_FAV_id_value s_VIEW_id s_VIEW_id_value k_s__VALUES k_s_LIKE_id_value k_s_FAV_id_value k_s_VIEW_id_value z_CS v_FMT := ⟨(Sta.start ev_s_LIKE (Or.inr ⟨(hw _ (List.mem_of_getElem? (i := 3) rfl)), (hw _ (List.mem_of_getElem? (i := 4) rfl))⟩)), (Exa.start ev_s_LIKE nw0), (Sta.start ev_s_TOGGLE (Or.inr ⟨(hw _ (List.mem_of_getElem? (i := 6) rfl)), (hw _ (List.mem_of_getElem? (i := 7) rfl))⟩)), (Exa.start ev_s_TOGGLE nw1), (Sta.start ev_s__VALUES (Or.inr ⟨(hw _ (List.mem_of_getElem? (i := 3) rfl)), (hw _ (List.mem_of_getElem? (i := 47) rfl))⟩)), (Exa.start ev_s__VALUES nw3), (Sta.start ev_s_FAV (Or.inr ⟨(hw _ (List.mem_of_getElem? (i := 3) rfl)), (hw _ (List.mem_of_getElem? (i := 55) rfl))⟩)), (Exa.start ev_s_FAV nw6), (Sta.start ev_s_VIEW (Or.inr ⟨(hw _ (List.mem_of_getElem? (i := 3) rfl)), (hw _ (List.mem_of_getElem? (i := 56) rfl))⟩)), (Exa.start ev_s_VIEW nw8), (Fld.start ((fld_at ev_s_LIKE).symm.trans ev_s_LIKE_id)), (Exa.start ev_s_LIKE_id nw10), (Fld.start ((fld_at ev_s_LIKE_id).symm.trans ev_s_LIKE_id_value)), (Sta.start ev_s_INCREMENT (Or.inr ⟨(hw _ (List.mem_of_getElem? (i := 6) rfl)), (hw _ (List.mem_of_getElem? (i := 87) rfl))⟩)), (Exa.start ev_s_INCREMENT nw19), (Fld.start ((fld_at ev_s_FAV).symm.trans ev_s_FAV_id)), (Exa.start ev_s_FAV_id nw20), (Fld.start ((fld_at ev_s_FAV_id).symm.trans ev_s_FAV_id_value)), (Fld.start ((fld_at ev_s_VIEW).symm.trans ev_s_VIEW_id)), (Exa.start ev_s_VIEW_id nw24), (Fld.start ((fld_at ev_s_VIEW_id).symm.trans ev_s_VIEW_id_value)), (Fld.start ((fld_at ev_s_LIKE_id).symm.trans (Cond.eq_int (Cond.before_iff.mpr nw11) rfl))), (Fld.start ((fld_at ev_s_LIKE).symm.trans (own_eqref nw18 ev_s_TOGGLE))), (Fld.start ((fld_at ev_s_FAV_id).symm.trans (Cond.eq_int (Cond.before_iff.mpr nw21) rfl))), (Fld.start ((fld_at ev_s_VIEW_id).symm.trans (Cond.eq_int (Cond.before_iff.mpr nw25) rfl))), (Fld.start ((fld_at ev_s_VIEW).symm.trans (own_eqref nw32 ev_s_INCREMENT))), (Fld.start ((fld_at ev_s_FAV).symm.trans (own_eqref hn35 ev_s_TOGGLE))), V_s__VALUES, V_s_LIKE_id_value, V_s_FAV_id_value, V_s_VIEW_id_value, (Sta.start ev_CS (Or.inl (hsets _ (List.mem_of_getElem? (i := 0) rfl)))), (gotF (Cond.eq_ints ev_CS (Term.int_eval (0))) n_CS), (Sta.start ev_FMT (Or.inl (hsets _ (List.mem_of_getElem? (i := 7) rfl)))), rf_FMT⟩
  obtain ⟨n, o, h1, h2, h3, _, L, rfl, ⟨rfl, N, -⟩, hq⟩ := rm_law l s _ hw tables_1 s_LIKE s_TOGGLE s__VALUES s_FAV s_VIEW s_LIKE_id s_LIKE_id_value s_INCREMENT s_FAV_id s_FAV_id_value s_VIEW_id s_VIEW_id_value k_s__VALUES k_s_LIKE_id_value k_s_FAV_id_value k_s_VIEW_id_value z_CS v_FMT i0 s.heap s.heap.size SB (Old.start s)  p e ha hc hk s m _ below hf ((Spec.applies_iff_loose hf).mp happ).1 ⟨rfl, State.Warmed39.refl s, rfl⟩ trivial
  refine ⟨n, _, h1, h2, h3, hpost _ _ _ _ _ _ ⟨Cond.after_iff.mpr rfl, Cond.after_iff.mpr (eq_i res_at (Term.int_eval (1)) rfl), trivial⟩ ⟨hq.1, hq.2.1, (hq.2.2.sift fun y hy => Or.inr (N y hy)).mono (by decide) (by decide)⟩⟩
theorem main_1_1 : Claimed_1_1 := comes_1 fun _ _ _ _ _ _ h hF => ⟨h.1, hF⟩
theorem main_1_2 : Claimed_1_2 := comes_1 fun _ _ _ _ _ _ h hF => ⟨h.2.1, hF⟩
end Jvm.Pilot.@@N@@
namespace Jvm.Pilot.@@N@@
open Jvm Jvm.ClassFile Sem Op Lib Jvm.Free Jvm.Stand Jvm.Pilot.@@N@@.Jvm.D
/-! MADE BY PROGRAM (witnessworld.py) out of the Statement's table words and the real class files: 23 classes; the members and pool entries that the words name. The judged class is class 1, her method 1. -/
namespace start1
open Jvm.ClassFile
def u (s : String) : CpInfo := .utf8 (stringToUtf16 s)
/-- a pool by its gaps: so many unusable entries, then the entry; so many at the end -/
def gap : Nat → List CpInfo → List CpInfo
  | 0, r => r
  | n + 1, r => .unusable :: gap n r
def poolList (es : List (Nat × CpInfo)) (last : Nat) : List CpInfo := es.foldr (fun e r => gap e.1 (e.2 :: r)) (gap last [])
def pool (es : List (Nat × CpInfo)) (last : Nat) : Array CpInfo := ⟨poolList es last⟩
def fileOf (pool : Array CpInfo) (this : Nat) (attrs : Array Attribute := #[]) (ms : Array MethodInfo := #[]) (fl : Nat := 33) (sup : Nat := 0) (ifs : Array Nat := #[]) (fds : Array FieldInfo := #[]) : ClassFile where
  minorVersion := 0
  majorVersion := 65
  constantPool := pool
  accessFlags := fl
  thisClass := this
  superClass := sup
  interfaces := ifs
  fields := fds
  methods := ms
  attributes := attrs
def plain (name : String) (sup : Option ClassId) : Class where
  name := name
  kind := .ordinary
  loader := none
  accessFlags := 33
  super := sup
  interfaces := #[]
  cf := none
  fields := #[]
  methods := #[]
  instanceTypes := #[]
  staticTypes := #[]
  resolved := #[]
  callSites := []
  init := .initialized
  statics := none
  mirror := none

def pool0 : Array CpInfo := pool [(5, u "<init>"), (0, u "()V"), (1, .class_ 10), (1, u "java/lang/Object"), (85, u "clone"), (0, u "()Ljava/lang/Object;")] 26

def k0c0 : Code := { maxStack := 0, maxLocals := 1, code := object_method_1_code, exceptionTable := #[], attributes := #[] }
def k0m0 : Method := { name := "<init>", desc := "()V", sig := { parameters := [], returnType := none }, accessFlags := 1, code := some k0c0 }
def k0m1 : Method := { name := "clone", desc := "()Ljava/lang/Object;", sig := { parameters := [], returnType := some (.object "java/lang/Object") }, accessFlags := 260, code := none }
/-- java/lang/Object -/
def k0 : Class := { plain "java/lang/Object" none with
  accessFlags := 33
  interfaces := #[]
  cf := some (fileOf pool0 8 #[] #[{ accessFlags := 1, nameIndex := 5, descriptorIndex := 6, attributes := #[] }, { accessFlags := 260, nameIndex := 96, descriptorIndex := 97, attributes := #[] }] 33 0 #[] #[])
  fields := #[]
  methods := #[k0m0, k0m1]
  instanceTypes := #[]
  staticTypes := #[]
  resolved := Array.replicate 124 none
  statics := none }

def pool1 : Array CpInfo := pool [(2, .class_ 4), (1, u "java/lang/Object"), (0, u "<init>"), (0, u "()V"), (0, .integer 2147483647), (0, .fieldref 9 10), (0, .class_ 11), (0, .nameAndType 12 13), (0, u "com/example/atomic_tally/atomictally/model/Metric"), (0, u "LIKE"), (0, u "Lcom/example/atomic_tally/atomictally/model/Metric;"), (0, .fieldref 15 16), (0, .class_ 17), (0, .nameAndType 18 19), (0, u "com/example/atomic_tally/atomictally/model/Metric$Kind"), (0, u "TOGGLE"), (0, u "Lcom/example/atomic_tally/atomictally/model/Metric$Kind;"), (0, .fieldref 9 21), (0, .nameAndType 22 13), (0, u "FAV"), (0, .fieldref 9 24), (0, .nameAndType 25 13), (0, u "VIEW"), (0, .fieldref 15 27), (0, .nameAndType 28 19), (0, u "INCREMENT"), (0, .class_ 30), (0, u "java/lang/String"), (0, .methodref 29 32), (0, .nameAndType 5 33), (0, u "([C)V"), (0, .methodref 9 35), (0, .nameAndType 36 37), (0, u "parse"), (0, u "(Ljava/lang/String;Lcom/example/atomic_tally/atomictally/model/Metric$Kind;)Lcom/example/atomic_tally/atomictally/model/Metric;"), (0, .methodref 9 39), (0, .nameAndType 40 41), (0, u "kind"), (0, u "()Lcom/example/atomic_tally/atomictally/model/Metric$Kind;"), (0, .methodref 9 43), (0, .nameAndType 44 45), (0, u "id"), (0, u "()Ljava/lang/String;"), (0, .methodref 29 47), (0, .nameAndType 48 49), (0, u "equals"), (0, u "(Ljava/lang/Object;)Z"), (0, .class_ 51), (0, u "com/example/atomic_tally/atomictally/model/MetricParse325PinLaw"), (2, u "law"), (0, u "(I)Z")] 7

def k1m0 : Method := { name := "<init>", desc := "()V", sig := { parameters := [], returnType := none }, accessFlags := 1, code := none }
def k1c1 : Code := { maxStack := 4, maxLocals := 7, code := code, exceptionTable := #[], attributes := #[] }
def k1m1 : Method := { name := "law", desc := "(I)Z", sig := { parameters := [.int], returnType := some .boolean }, accessFlags := 9, code := some k1c1 }
/-- com/example/atomic_tally/atomictally/model/MetricParse325PinLaw -/
def k1 : Class := { plain "com/example/atomic_tally/atomictally/model/MetricParse325PinLaw" (some 0) with
  accessFlags := 49
  interfaces := #[]
  cf := some (fileOf pool1 50 #[] #[{ accessFlags := 1, nameIndex := 5, descriptorIndex := 6, attributes := #[] }, { accessFlags := 9, nameIndex := 54, descriptorIndex := 55, attributes := #[] }] 49 2 #[] #[])
  fields := #[]
  methods := #[k1m0, k1m1]
  instanceTypes := #[]
  staticTypes := #[]
  resolved := Array.replicate 63 none
  statics := none }

def pool2 : Array CpInfo := pool [(1, .class_ 2), (0, u "java/lang/constant/Constable"), (0, .class_ 4), (0, u "java/lang/Object")] 6

/-- java/lang/constant/Constable -/
def k2 : Class := { plain "java/lang/constant/Constable" (some 0) with
  accessFlags := 1537
  interfaces := #[]
  cf := some (fileOf pool2 1 #[] #[] 1537 3 #[] #[])
  fields := #[]
  methods := #[]
  instanceTypes := #[]
  staticTypes := #[]
  resolved := Array.replicate 11 none
  statics := none }

def pool3 : Array CpInfo := pool [(1, .class_ 2), (0, u "java/lang/Comparable"), (0, .class_ 4), (0, u "java/lang/Object")] 7

/-- java/lang/Comparable -/
def k3 : Class := { plain "java/lang/Comparable" (some 0) with
  accessFlags := 1537
  interfaces := #[]
  cf := some (fileOf pool3 1 #[] #[] 1537 3 #[] #[])
  fields := #[]
  methods := #[]
  instanceTypes := #[]
  staticTypes := #[]
  resolved := Array.replicate 12 none
  statics := none }

def pool4 : Array CpInfo := pool [(1, .class_ 2), (0, u "java/io/Serializable"), (0, .class_ 4), (0, u "java/lang/Object")] 2

/-- java/io/Serializable -/
def k4 : Class := { plain "java/io/Serializable" (some 0) with
  accessFlags := 1537
  interfaces := #[]
  cf := some (fileOf pool4 1 #[] #[] 1537 3 #[] #[])
  fields := #[]
  methods := #[]
  instanceTypes := #[]
  staticTypes := #[]
  resolved := Array.replicate 7 none
  statics := none }

def pool5 : Array CpInfo := pool [(2, .class_ 4), (1, u "java/lang/Enum"), (0, u "name"), (0, u "Ljava/lang/String;"), (2, u "ordinal"), (0, u "I"), (1, .class_ 14), (1, u "java/lang/Object"), (4, u "hash"), (86, .class_ 108), (1, u "java/lang/Enum$EnumDesc"), (2, .class_ 112), (0, u "java/lang/constant/Constable"), (0, .class_ 114), (0, u "java/lang/Comparable"), (0, .class_ 116), (0, u "java/io/Serializable")] 87

/-- java/lang/Enum -/
def k5 : Class := { plain "java/lang/Enum" (some 0) with
  accessFlags := 1057
  interfaces := #[2, 3, 4]
  cf := some (fileOf pool5 2 #[.nestMembers #[106]] #[] 1057 12 #[111, 113, 115] #[{ accessFlags := 18, nameIndex := 5, descriptorIndex := 6, attributes := #[] }, { accessFlags := 18, nameIndex := 9, descriptorIndex := 10, attributes := #[] }, { accessFlags := 2, nameIndex := 19, descriptorIndex := 10, attributes := #[] }])
  fields := #[{ name := "name", type := (.object "java/lang/String"), accessFlags := 18, slot := 0, constantValue := 0 }, { name := "ordinal", type := .int, accessFlags := 18, slot := 1, constantValue := 0 }, { name := "hash", type := .int, accessFlags := 2, slot := 2, constantValue := 0 }]
  methods := #[]
  instanceTypes := #[(.object "java/lang/String"), .int, .int]
  staticTypes := #[]
  resolved := Array.replicate 204 none
  statics := none }

def pool6 : Array CpInfo := pool [(1, .class_ 2), (0, u "com/example/atomic_tally/atomictally/model/Metric"), (2, u "LIKE"), (0, u "Lcom/example/atomic_tally/atomictally/model/Metric;"), (2, u "FAV"), (2, u "VIEW"), (0, .fieldref 1 14), (0, .nameAndType 15 16), (0, u "$VALUES"), (0, u "[Lcom/example/atomic_tally/atomictally/model/Metric;"), (0, .methodref 18 19), (0, .class_ 16), (0, .nameAndType 20 21), (0, u "clone"), (0, u "()Ljava/lang/Object;"), (1, .class_ 25), (1, u "java/lang/Enum"), (6, .fieldref 1 33), (0, .nameAndType 34 35), (0, u "id"), (0, u "Ljava/lang/String;"), (0, .fieldref 1 37), (0, .nameAndType 38 39), (0, u "kind"), (0, u "Lcom/example/atomic_tally/atomictally/model/Metric$Kind;"), (0, .methodref 1 41), (0, .nameAndType 42 43), (0, u "values"), (0, u "()[Lcom/example/atomic_tally/atomictally/model/Metric;"), (0, .methodref 45 46), (0, .class_ 47), (0, .nameAndType 48 49), (0, u "java/lang/String"), (0, u "equals"), (0, u "(Ljava/lang/Object;)Z"), (4, u "NAMES"), (35, .methodref 1 91), (0, .nameAndType 92 93), (0, u "parse"), (0, u "(Ljava/lang/String;)Lcom/example/atomic_tally/atomictally/model/Metric;"), (1, .class_ 97), (1, u "com/example/atomic_tally/atomictally/model/Metric$Kind"), (48, u "()Ljava/lang/String;"), (0, u "()Lcom/example/atomic_tally/atomictally/model/Metric$Kind;"), (4, u "(Ljava/lang/String;Lcom/example/atomic_tally/atomictally/model/Metric$Kind;)Lcom/example/atomic_tally/atomictally/model/Metric;")] 40

def k6c0 : Code := { maxStack := 1, maxLocals := 0, code := prog_5_method_1_code, exceptionTable := #[], attributes := #[] }
def k6m0 : Method := { name := "values", desc := "()[Lcom/example/atomic_tally/atomictally/model/Metric;", sig := { parameters := [], returnType := some (.array (.object "com/example/atomic_tally/atomictally/model/Metric")) }, accessFlags := 9, code := some k6c0 }
def k6c1 : Code := { maxStack := 1, maxLocals := 1, code := prog_5_method_4_code, exceptionTable := #[], attributes := #[] }
def k6m1 : Method := { name := "id", desc := "()Ljava/lang/String;", sig := { parameters := [], returnType := some (.object "java/lang/String") }, accessFlags := 1, code := some k6c1 }
def k6c2 : Code := { maxStack := 1, maxLocals := 1, code := prog_5_method_5_code, exceptionTable := #[], attributes := #[] }
def k6m2 : Method := { name := "kind", desc := "()Lcom/example/atomic_tally/atomictally/model/Metric$Kind;", sig := { parameters := [], returnType := some (.object "com/example/atomic_tally/atomictally/model/Metric$Kind") }, accessFlags := 1, code := some k6c2 }
def k6c3 : Code := { maxStack := 3, maxLocals := 5, code := prog_5_method_6_code, exceptionTable := #[], attributes := #[] }
def k6m3 : Method := { name := "parse", desc := "(Ljava/lang/String;)Lcom/example/atomic_tally/atomictally/model/Metric;", sig := { parameters := [(.object "java/lang/String")], returnType := some (.object "com/example/atomic_tally/atomictally/model/Metric") }, accessFlags := 9, code := some k6c3 }
def k6c4 : Code := { maxStack := 5, maxLocals := 3, code := prog_5_method_8_code, exceptionTable := #[], attributes := #[] }
def k6m4 : Method := { name := "parse", desc := "(Ljava/lang/String;Lcom/example/atomic_tally/atomictally/model/Metric$Kind;)Lcom/example/atomic_tally/atomictally/model/Metric;", sig := { parameters := [(.object "java/lang/String"), (.object "com/example/atomic_tally/atomictally/model/Metric$Kind")], returnType := some (.object "com/example/atomic_tally/atomictally/model/Metric") }, accessFlags := 9, code := some k6c4 }
/-- com/example/atomic_tally/atomictally/model/Metric -/
def k6 : Class := { plain "com/example/atomic_tally/atomictally/model/Metric" (some 5) with
  accessFlags := 16433
  interfaces := #[]
  cf := some (fileOf pool6 1 #[.nestMembers #[95]] #[{ accessFlags := 9, nameIndex := 42, descriptorIndex := 43, attributes := #[] }, { accessFlags := 1, nameIndex := 34, descriptorIndex := 146, attributes := #[] }, { accessFlags := 1, nameIndex := 38, descriptorIndex := 147, attributes := #[] }, { accessFlags := 9, nameIndex := 92, descriptorIndex := 93, attributes := #[] }, { accessFlags := 9, nameIndex := 92, descriptorIndex := 152, attributes := #[] }] 16433 23 #[] #[{ accessFlags := 16409, nameIndex := 5, descriptorIndex := 6, attributes := #[] }, { accessFlags := 16409, nameIndex := 9, descriptorIndex := 6, attributes := #[] }, { accessFlags := 16409, nameIndex := 12, descriptorIndex := 6, attributes := #[] }, { accessFlags := 26, nameIndex := 54, descriptorIndex := 35, attributes := #[] }, { accessFlags := 18, nameIndex := 34, descriptorIndex := 35, attributes := #[] }, { accessFlags := 18, nameIndex := 38, descriptorIndex := 39, attributes := #[] }, { accessFlags := 4122, nameIndex := 15, descriptorIndex := 16, attributes := #[] }])
  fields := #[{ name := "LIKE", type := (.object "com/example/atomic_tally/atomictally/model/Metric"), accessFlags := 16409, slot := 0, constantValue := 0 }, { name := "FAV", type := (.object "com/example/atomic_tally/atomictally/model/Metric"), accessFlags := 16409, slot := 1, constantValue := 0 }, { name := "VIEW", type := (.object "com/example/atomic_tally/atomictally/model/Metric"), accessFlags := 16409, slot := 2, constantValue := 0 }, { name := "NAMES", type := (.object "java/lang/String"), accessFlags := 26, slot := 3, constantValue := 0 }, { name := "id", type := (.object "java/lang/String"), accessFlags := 18, slot := 3, constantValue := 0 }, { name := "kind", type := (.object "com/example/atomic_tally/atomictally/model/Metric$Kind"), accessFlags := 18, slot := 4, constantValue := 0 }, { name := "$VALUES", type := (.array (.object "com/example/atomic_tally/atomictally/model/Metric")), accessFlags := 4122, slot := 4, constantValue := 0 }]
  methods := #[k6m0, k6m1, k6m2, k6m3, k6m4]
  instanceTypes := #[(.object "java/lang/String"), .int, .int, (.object "java/lang/String"), (.object "com/example/atomic_tally/atomictally/model/Metric$Kind")]
  staticTypes := #[(.object "com/example/atomic_tally/atomictally/model/Metric"), (.object "com/example/atomic_tally/atomictally/model/Metric"), (.object "com/example/atomic_tally/atomictally/model/Metric"), (.object "java/lang/String"), (.array (.object "com/example/atomic_tally/atomictally/model/Metric"))]
  resolved := Array.replicate 193 none
  statics := some 0 }

def pool7 : Array CpInfo := pool [(1, .class_ 2), (0, u "com/example/atomic_tally/atomictally/model/Metric$Kind"), (2, u "TOGGLE"), (0, u "Lcom/example/atomic_tally/atomictally/model/Metric$Kind;"), (2, u "INCREMENT"), (2, u "$VALUES"), (0, u "[Lcom/example/atomic_tally/atomictally/model/Metric$Kind;"), (6, .class_ 22), (1, u "java/lang/Enum"), (8, u "noun"), (0, u "Ljava/lang/String;"), (26, .class_ 60), (0, u "com/example/atomic_tally/atomictally/model/Metric")] 2

/-- com/example/atomic_tally/atomictally/model/Metric$Kind -/
def k7 : Class := { plain "com/example/atomic_tally/atomictally/model/Metric$Kind" (some 5) with
  accessFlags := 16433
  interfaces := #[]
  cf := some (fileOf pool7 1 #[.nestHost 59] #[] 16433 20 #[] #[{ accessFlags := 16409, nameIndex := 5, descriptorIndex := 6, attributes := #[] }, { accessFlags := 16409, nameIndex := 9, descriptorIndex := 6, attributes := #[] }, { accessFlags := 18, nameIndex := 31, descriptorIndex := 32, attributes := #[] }, { accessFlags := 4122, nameIndex := 12, descriptorIndex := 13, attributes := #[] }])
  fields := #[{ name := "TOGGLE", type := (.object "com/example/atomic_tally/atomictally/model/Metric$Kind"), accessFlags := 16409, slot := 0, constantValue := 0 }, { name := "INCREMENT", type := (.object "com/example/atomic_tally/atomictally/model/Metric$Kind"), accessFlags := 16409, slot := 1, constantValue := 0 }, { name := "noun", type := (.object "java/lang/String"), accessFlags := 18, slot := 3, constantValue := 0 }, { name := "$VALUES", type := (.array (.object "com/example/atomic_tally/atomictally/model/Metric$Kind")), accessFlags := 4122, slot := 2, constantValue := 0 }]
  methods := #[]
  instanceTypes := #[(.object "java/lang/String"), .int, .int, (.object "java/lang/String")]
  staticTypes := #[(.object "com/example/atomic_tally/atomictally/model/Metric$Kind"), (.object "com/example/atomic_tally/atomictally/model/Metric$Kind"), (.array (.object "com/example/atomic_tally/atomictally/model/Metric$Kind"))]
  resolved := Array.replicate 63 none
  statics := some 1 }

def pool8 : Array CpInfo := pool [(2, .class_ 4), (1, u "java/lang/CharSequence"), (42, .class_ 48), (0, u "java/lang/CharSequence$1CodePointIterator"), (10, .class_ 60), (0, u "java/lang/CharSequence$1CharIterator"), (5, .class_ 67), (0, u "java/lang/Object")] 63

/-- java/lang/CharSequence -/
def k8 : Class := { plain "java/lang/CharSequence" (some 0) with
  accessFlags := 1537
  interfaces := #[]
  cf := some (fileOf pool8 2 #[.nestMembers #[47, 59]] #[] 1537 66 #[] #[])
  fields := #[]
  methods := #[]
  instanceTypes := #[]
  staticTypes := #[]
  resolved := Array.replicate 131 none
  statics := none }

def pool9 : Array CpInfo := pool [(1, .class_ 2), (0, u "java/lang/constant/ConstantDesc"), (0, .class_ 4), (0, u "java/lang/Object")] 32

/-- java/lang/constant/ConstantDesc -/
def k9 : Class := { plain "java/lang/constant/ConstantDesc" (some 0) with
  accessFlags := 1537
  interfaces := #[]
  cf := some (fileOf pool9 1 #[] #[] 1537 3 #[] #[])
  fields := #[]
  methods := #[]
  instanceTypes := #[]
  staticTypes := #[]
  resolved := Array.replicate 37 none
  statics := none }

def pool10 : Array CpInfo := pool [(1, .methodref 2 3), (0, .class_ 4), (0, .nameAndType 5 6), (0, u "java/lang/Object"), (0, u "<init>"), (0, u "()V"), (2, .fieldref 10 11), (0, .class_ 12), (0, .nameAndType 13 14), (0, u "java/lang/String"), (0, u "value"), (0, u "[B"), (0, .fieldref 10 16), (0, .nameAndType 17 18), (0, u "coder"), (0, u "B"), (2, u "hash"), (0, u "I"), (2, u "hashIsZero"), (0, u "Z"), (0, .methodref 10 28), (0, .nameAndType 5 29), (0, u "([CIILjava/lang/Void;)V"), (8, .fieldref 10 39), (0, .nameAndType 40 26), (0, u "COMPACT_STRINGS"), (1, .class_ 44), (1, u "java/lang/StringUTF16"), (0, u "compress"), (1, .methodref 42 48), (0, .nameAndType 49 50), (0, u "coderFromArrayLen"), (0, u "([BI)B"), (56, .class_ 109), (1, u "java/lang/StringLatin1"), (67, .methodref 42 178), (0, .nameAndType 45 179), (0, u "([CII)[B"), (361, .methodref 107 542), (0, .nameAndType 543 544), (0, u "equals"), (0, u "([B[B)Z"), (28, u "(Ljava/lang/Object;)Z"), (1, .class_ 576), (0, u "java/lang/CharSequence"), (22, u "CASE_INSENSITIVE_ORDER"), (0, u "Ljava/util/Comparator;"), (409, u "([C)V"), (90, u "serialPersistentFields"), (0, u "[Ljava/io/ObjectStreamField;"), (0, .class_ 1104), (0, u "java/lang/String$CaseInsensitiveComparator"), (1, .class_ 1107), (0, u "java/io/Serializable"), (0, .class_ 1109), (0, u "java/lang/Comparable"), (0, .class_ 1111), (0, u "java/lang/constant/Constable"), (0, .class_ 1113), (0, u "java/lang/constant/ConstantDesc"), (2, u "serialVersionUID"), (0, u "J"), (3, u "REPL"), (0, u "C"), (2, u "LATIN1"), (1, u "UTF16")] 323

def k10m0 : Method := { name := "<init>", desc := "()V", sig := { parameters := [], returnType := none }, accessFlags := 1, code := none }
def k10c1 : Code := { maxStack := 5, maxLocals := 2, code := jdk_42_method_3_code, exceptionTable := #[], attributes := #[] }
def k10m1 : Method := { name := "<init>", desc := "([C)V", sig := { parameters := [(.array .char)], returnType := none }, accessFlags := 1, code := some k10c1 }
def k10c2 : Code := { maxStack := 2, maxLocals := 3, code := jdk_42_method_66_code, exceptionTable := #[], attributes := #[] }
def k10m2 : Method := { name := "equals", desc := "(Ljava/lang/Object;)Z", sig := { parameters := [(.object "java/lang/Object")], returnType := some .boolean }, accessFlags := 1, code := some k10c2 }
def k10c3 : Code := { maxStack := 4, maxLocals := 6, code := jdk_42_method_149_code, exceptionTable := #[], attributes := #[] }
def k10m3 : Method := { name := "<init>", desc := "([CIILjava/lang/Void;)V", sig := { parameters := [(.array .char), .int, .int, (.object "java/lang/Void")], returnType := none }, accessFlags := 2, code := some k10c3 }
/-- java/lang/String -/
def k10 : Class := { plain "java/lang/String" (some 0) with
  accessFlags := 49
  interfaces := #[4, 3, 8, 2, 9]
  cf := some (fileOf pool10 10 #[.nestMembers #[1103]] #[{ accessFlags := 1, nameIndex := 5, descriptorIndex := 6, attributes := #[] }, { accessFlags := 1, nameIndex := 5, descriptorIndex := 1010, attributes := #[] }, { accessFlags := 1, nameIndex := 543, descriptorIndex := 573, attributes := #[] }, { accessFlags := 2, nameIndex := 5, descriptorIndex := 29, attributes := #[] }] 49 2 #[1106, 1108, 575, 1110, 1112] #[{ accessFlags := 18, nameIndex := 13, descriptorIndex := 14, attributes := #[] }, { accessFlags := 18, nameIndex := 17, descriptorIndex := 18, attributes := #[] }, { accessFlags := 2, nameIndex := 21, descriptorIndex := 22, attributes := #[] }, { accessFlags := 2, nameIndex := 25, descriptorIndex := 26, attributes := #[] }, { accessFlags := 26, nameIndex := 1116, descriptorIndex := 1117, attributes := #[] }, { accessFlags := 24, nameIndex := 40, descriptorIndex := 26, attributes := #[] }, { accessFlags := 26, nameIndex := 1101, descriptorIndex := 1102, attributes := #[] }, { accessFlags := 26, nameIndex := 1121, descriptorIndex := 1122, attributes := #[] }, { accessFlags := 25, nameIndex := 599, descriptorIndex := 600, attributes := #[] }, { accessFlags := 24, nameIndex := 1125, descriptorIndex := 18, attributes := #[] }, { accessFlags := 24, nameIndex := 1127, descriptorIndex := 18, attributes := #[] }])
  fields := #[{ name := "value", type := (.array .byte), accessFlags := 18, slot := 0, constantValue := 0 }, { name := "coder", type := .byte, accessFlags := 18, slot := 1, constantValue := 0 }, { name := "hash", type := .int, accessFlags := 2, slot := 2, constantValue := 0 }, { name := "hashIsZero", type := .boolean, accessFlags := 2, slot := 3, constantValue := 0 }, { name := "serialVersionUID", type := .long, accessFlags := 26, slot := 0, constantValue := 0 }, { name := "COMPACT_STRINGS", type := .boolean, accessFlags := 24, slot := 1, constantValue := 0 }, { name := "serialPersistentFields", type := (.array (.object "java/io/ObjectStreamField")), accessFlags := 26, slot := 2, constantValue := 0 }, { name := "REPL", type := .char, accessFlags := 26, slot := 3, constantValue := 0 }, { name := "CASE_INSENSITIVE_ORDER", type := (.object "java/util/Comparator"), accessFlags := 25, slot := 4, constantValue := 0 }, { name := "LATIN1", type := .byte, accessFlags := 24, slot := 5, constantValue := 0 }, { name := "UTF16", type := .byte, accessFlags := 24, slot := 6, constantValue := 0 }]
  methods := #[k10m0, k10m1, k10m2, k10m3]
  instanceTypes := #[(.array .byte), .byte, .int, .boolean]
  staticTypes := #[.long, .boolean, (.array (.object "java/io/ObjectStreamField")), .char, (.object "java/util/Comparator"), .byte, .byte]
  resolved := Array.replicate 1451 none
  statics := some 2 }

def pool11 : Array CpInfo := pool [(6, .class_ 8), (1, u "java/lang/Object"), (0, u "<init>"), (0, u "()V"), (1, .class_ 14), (1, u "java/lang/StringUTF16"), (31, u "$assertionsDisabled"), (0, u "Z"), (13, u "HI_BYTE_SHIFT"), (0, u "I"), (2, u "LO_BYTE_SHIFT"), (49, .methodref 12 116), (0, .nameAndType 117 118), (0, u "compress"), (0, u "([CI[BII)I"), (3, u "([CII)[B"), (138, u "coderFromArrayLen"), (0, u "([BI)B"), (106, .class_ 371), (1, u "java/lang/StringUTF16$LinesSpliterator"), (58, u "MAX_LENGTH"), (196, .class_ 628), (0, u "java/lang/StringUTF16$CodePointsSpliterator"), (0, .class_ 630), (0, u "java/lang/StringUTF16$CharsSpliterator")] 4

def k11m0 : Method := { name := "<init>", desc := "()V", sig := { parameters := [], returnType := none }, accessFlags := 0, code := none }
def k11c1 : Code := { maxStack := 2, maxLocals := 2, code := jdk_52_method_15_code, exceptionTable := #[], attributes := #[] }
def k11m1 : Method := { name := "coderFromArrayLen", desc := "([BI)B", sig := { parameters := [(.array .byte), .int], returnType := some .byte }, accessFlags := 8, code := some k11c1 }
def k11c2 : Code := { maxStack := 5, maxLocals := 6, code := jdk_52_method_16_code, exceptionTable := #[], attributes := #[] }
def k11m2 : Method := { name := "compress", desc := "([CII)[B", sig := { parameters := [(.array .char), .int, .int], returnType := some (.array .byte) }, accessFlags := 9, code := some k11c2 }
def k11c3 : Code := { maxStack := 3, maxLocals := 7, code := jdk_52_method_21_code, exceptionTable := #[], attributes := #[] }
def k11m3 : Method := { name := "compress", desc := "([CI[BII)I", sig := { parameters := [(.array .char), .int, (.array .byte), .int, .int], returnType := some .int }, accessFlags := 9, code := some k11c3 }
/-- java/lang/StringUTF16 -/
def k11 : Class := { plain "java/lang/StringUTF16" (some 0) with
  accessFlags := 48
  interfaces := #[]
  cf := some (fileOf pool11 12 #[.nestMembers #[627, 629, 369]] #[{ accessFlags := 0, nameIndex := 9, descriptorIndex := 10, attributes := #[] }, { accessFlags := 8, nameIndex := 261, descriptorIndex := 262, attributes := #[] }, { accessFlags := 9, nameIndex := 117, descriptorIndex := 122, attributes := #[] }, { accessFlags := 9, nameIndex := 117, descriptorIndex := 118, attributes := #[] }] 48 6 #[] #[{ accessFlags := 26, nameIndex := 61, descriptorIndex := 62, attributes := #[] }, { accessFlags := 26, nameIndex := 65, descriptorIndex := 62, attributes := #[] }, { accessFlags := 24, nameIndex := 430, descriptorIndex := 62, attributes := #[] }, { accessFlags := 4120, nameIndex := 46, descriptorIndex := 47, attributes := #[] }])
  fields := #[{ name := "HI_BYTE_SHIFT", type := .int, accessFlags := 26, slot := 0, constantValue := 0 }, { name := "LO_BYTE_SHIFT", type := .int, accessFlags := 26, slot := 1, constantValue := 0 }, { name := "MAX_LENGTH", type := .int, accessFlags := 24, slot := 2, constantValue := 0 }, { name := "$assertionsDisabled", type := .boolean, accessFlags := 4120, slot := 3, constantValue := 0 }]
  methods := #[k11m0, k11m1, k11m2, k11m3]
  instanceTypes := #[]
  staticTypes := #[.int, .int, .int, .boolean]
  resolved := Array.replicate 635 none
  statics := none }

def pool12 : Array CpInfo := pool [(1, .class_ 2), (0, u "java/lang/Cloneable"), (0, .class_ 4), (0, u "java/lang/Object")] 2

/-- java/lang/Cloneable -/
def k12 : Class := { plain "java/lang/Cloneable" (some 0) with
  accessFlags := 1537
  interfaces := #[]
  cf := some (fileOf pool12 1 #[] #[] 1537 3 #[] #[])
  fields := #[]
  methods := #[]
  instanceTypes := #[]
  staticTypes := #[]
  resolved := Array.replicate 7 none
  statics := none }

def pool13 : Array CpInfo := pool [(4, .class_ 6), (1, u "java/lang/Object"), (0, u "<init>"), (0, u "()V"), (5, .class_ 16), (1, u "java/lang/StringLatin1"), (104, u "$assertionsDisabled"), (0, u "Z"), (98, .class_ 223), (1, u "java/lang/StringLatin1$LinesSpliterator"), (57, u "equals"), (0, u "([B[B)Z"), (107, .class_ 391), (0, u "java/lang/StringLatin1$CharsSpliterator")] 3

def k13m0 : Method := { name := "<init>", desc := "()V", sig := { parameters := [], returnType := none }, accessFlags := 0, code := none }
def k13c1 : Code := { maxStack := 3, maxLocals := 3, code := jdk_43_method_13_code, exceptionTable := #[], attributes := #[] }
def k13m1 : Method := { name := "equals", desc := "([B[B)Z", sig := { parameters := [(.array .byte), (.array .byte)], returnType := some .boolean }, accessFlags := 9, code := some k13c1 }
/-- java/lang/StringLatin1 -/
def k13 : Class := { plain "java/lang/StringLatin1" (some 0) with
  accessFlags := 48
  interfaces := #[]
  cf := some (fileOf pool13 14 #[.nestMembers #[390, 221]] #[{ accessFlags := 0, nameIndex := 7, descriptorIndex := 8, attributes := #[] }, { accessFlags := 9, nameIndex := 281, descriptorIndex := 282, attributes := #[] }] 48 4 #[] #[{ accessFlags := 4120, nameIndex := 121, descriptorIndex := 122, attributes := #[] }])
  fields := #[{ name := "$assertionsDisabled", type := .boolean, accessFlags := 4120, slot := 0, constantValue := 0 }]
  methods := #[k13m0, k13m1]
  instanceTypes := #[]
  staticTypes := #[.boolean]
  resolved := Array.replicate 395 none
  statics := none }

def pool14 : Array CpInfo := pool [(2, .class_ 4), (1, u "java/lang/Object"), (0, u "<init>"), (0, u "()V"), (17, .class_ 26), (1, u "jdk/internal/util/Preconditions"), (28, .class_ 56), (0, u "jdk/internal/util/Preconditions$4"), (57, .class_ 115), (0, u "jdk/internal/util/Preconditions$1"), (7, u "SIOOBE_FORMATTER"), (0, u "Ljava/util/function/BiFunction;"), (0, .class_ 126), (0, u "jdk/internal/util/Preconditions$2"), (3, u "AIOOBE_FORMATTER"), (0, .class_ 132), (0, u "jdk/internal/util/Preconditions$3"), (3, u "IOOBE_FORMATTER")] 57

def k14m0 : Method := { name := "<init>", desc := "()V", sig := { parameters := [], returnType := none }, accessFlags := 1, code := none }
/-- jdk/internal/util/Preconditions -/
def k14 : Class := { plain "jdk/internal/util/Preconditions" (some 0) with
  accessFlags := 33
  interfaces := #[]
  cf := some (fileOf pool14 24 #[.nestMembers #[55, 131, 125, 114]] #[{ accessFlags := 1, nameIndex := 5, descriptorIndex := 6, attributes := #[] }] 33 2 #[] #[{ accessFlags := 25, nameIndex := 123, descriptorIndex := 124, attributes := #[] }, { accessFlags := 25, nameIndex := 130, descriptorIndex := 124, attributes := #[] }, { accessFlags := 25, nameIndex := 136, descriptorIndex := 124, attributes := #[] }])
  fields := #[{ name := "SIOOBE_FORMATTER", type := (.object "java/util/function/BiFunction"), accessFlags := 25, slot := 0, constantValue := 0 }, { name := "AIOOBE_FORMATTER", type := (.object "java/util/function/BiFunction"), accessFlags := 25, slot := 1, constantValue := 0 }, { name := "IOOBE_FORMATTER", type := (.object "java/util/function/BiFunction"), accessFlags := 25, slot := 2, constantValue := 0 }]
  methods := #[k14m0]
  instanceTypes := #[]
  staticTypes := #[(.object "java/util/function/BiFunction"), (.object "java/util/function/BiFunction"), (.object "java/util/function/BiFunction")]
  resolved := Array.replicate 194 none
  statics := some 3 }

def pool15 : Array CpInfo := pool [(9, u "<init>"), (6, .class_ 18), (1, u "java/lang/Object"), (0, u "()V"), (1, .class_ 23), (1, u "jdk/internal/util/ArraysSupport"), (0, u "LOG2_ARRAY_LONG_INDEX_SCALE"), (0, u "I"), (2, u "U"), (0, u "Ljdk/internal/misc/Unsafe;"), (8, u "BIG_ENDIAN"), (0, u "Z"), (8, u "LOG2_BYTE_BIT_SIZE"), (4, u "LOG2_ARRAY_INT_INDEX_SCALE"), (54, u "JLA"), (0, u "Ljdk/internal/access/JavaLangAccess;"), (11, u "LOG2_ARRAY_BOOLEAN_INDEX_SCALE"), (9, u "LOG2_ARRAY_BYTE_INDEX_SCALE"), (5, u "LOG2_ARRAY_CHAR_INDEX_SCALE"), (5, u "LOG2_ARRAY_SHORT_INDEX_SCALE"), (18, u "LOG2_ARRAY_FLOAT_INDEX_SCALE"), (24, u "LOG2_ARRAY_DOUBLE_INDEX_SCALE"), (89, u "T_BOOLEAN"), (2, u "T_CHAR"), (1, u "T_FLOAT"), (1, u "T_DOUBLE"), (1, u "T_BYTE"), (1, u "T_SHORT"), (1, u "T_INT"), (1, u "T_LONG"), (1, u "SOFT_MAX_ARRAY_LENGTH")] 83

def k15m0 : Method := { name := "<init>", desc := "()V", sig := { parameters := [], returnType := none }, accessFlags := 2, code := none }
/-- jdk/internal/util/ArraysSupport -/
def k15 : Class := { plain "jdk/internal/util/ArraysSupport" (some 0) with
  accessFlags := 33
  interfaces := #[]
  cf := some (fileOf pool15 21 #[] #[{ accessFlags := 2, nameIndex := 9, descriptorIndex := 19, attributes := #[] }] 33 16 #[] #[{ accessFlags := 24, nameIndex := 28, descriptorIndex := 29, attributes := #[] }, { accessFlags := 26, nameIndex := 38, descriptorIndex := 39, attributes := #[] }, { accessFlags := 25, nameIndex := 121, descriptorIndex := 25, attributes := #[] }, { accessFlags := 25, nameIndex := 131, descriptorIndex := 25, attributes := #[] }, { accessFlags := 25, nameIndex := 137, descriptorIndex := 25, attributes := #[] }, { accessFlags := 25, nameIndex := 143, descriptorIndex := 25, attributes := #[] }, { accessFlags := 25, nameIndex := 53, descriptorIndex := 25, attributes := #[] }, { accessFlags := 25, nameIndex := 24, descriptorIndex := 25, attributes := #[] }, { accessFlags := 25, nameIndex := 162, descriptorIndex := 25, attributes := #[] }, { accessFlags := 25, nameIndex := 187, descriptorIndex := 25, attributes := #[] }, { accessFlags := 26, nameIndex := 48, descriptorIndex := 25, attributes := #[] }, { accessFlags := 25, nameIndex := 277, descriptorIndex := 25, attributes := #[] }, { accessFlags := 25, nameIndex := 280, descriptorIndex := 25, attributes := #[] }, { accessFlags := 25, nameIndex := 282, descriptorIndex := 25, attributes := #[] }, { accessFlags := 25, nameIndex := 284, descriptorIndex := 25, attributes := #[] }, { accessFlags := 25, nameIndex := 286, descriptorIndex := 25, attributes := #[] }, { accessFlags := 25, nameIndex := 288, descriptorIndex := 25, attributes := #[] }, { accessFlags := 25, nameIndex := 290, descriptorIndex := 25, attributes := #[] }, { accessFlags := 25, nameIndex := 292, descriptorIndex := 25, attributes := #[] }, { accessFlags := 26, nameIndex := 108, descriptorIndex := 109, attributes := #[] }, { accessFlags := 25, nameIndex := 294, descriptorIndex := 25, attributes := #[] }])
  fields := #[{ name := "U", type := (.object "jdk/internal/misc/Unsafe"), accessFlags := 24, slot := 0, constantValue := 0 }, { name := "BIG_ENDIAN", type := .boolean, accessFlags := 26, slot := 1, constantValue := 0 }, { name := "LOG2_ARRAY_BOOLEAN_INDEX_SCALE", type := .int, accessFlags := 25, slot := 2, constantValue := 0 }, { name := "LOG2_ARRAY_BYTE_INDEX_SCALE", type := .int, accessFlags := 25, slot := 3, constantValue := 0 }, { name := "LOG2_ARRAY_CHAR_INDEX_SCALE", type := .int, accessFlags := 25, slot := 4, constantValue := 0 }, { name := "LOG2_ARRAY_SHORT_INDEX_SCALE", type := .int, accessFlags := 25, slot := 5, constantValue := 0 }, { name := "LOG2_ARRAY_INT_INDEX_SCALE", type := .int, accessFlags := 25, slot := 6, constantValue := 0 }, { name := "LOG2_ARRAY_LONG_INDEX_SCALE", type := .int, accessFlags := 25, slot := 7, constantValue := 0 }, { name := "LOG2_ARRAY_FLOAT_INDEX_SCALE", type := .int, accessFlags := 25, slot := 8, constantValue := 0 }, { name := "LOG2_ARRAY_DOUBLE_INDEX_SCALE", type := .int, accessFlags := 25, slot := 9, constantValue := 0 }, { name := "LOG2_BYTE_BIT_SIZE", type := .int, accessFlags := 26, slot := 10, constantValue := 0 }, { name := "T_BOOLEAN", type := .int, accessFlags := 25, slot := 11, constantValue := 0 }, { name := "T_CHAR", type := .int, accessFlags := 25, slot := 12, constantValue := 0 }, { name := "T_FLOAT", type := .int, accessFlags := 25, slot := 13, constantValue := 0 }, { name := "T_DOUBLE", type := .int, accessFlags := 25, slot := 14, constantValue := 0 }, { name := "T_BYTE", type := .int, accessFlags := 25, slot := 15, constantValue := 0 }, { name := "T_SHORT", type := .int, accessFlags := 25, slot := 16, constantValue := 0 }, { name := "T_INT", type := .int, accessFlags := 25, slot := 17, constantValue := 0 }, { name := "T_LONG", type := .int, accessFlags := 25, slot := 18, constantValue := 0 }, { name := "JLA", type := (.object "jdk/internal/access/JavaLangAccess"), accessFlags := 26, slot := 19, constantValue := 0 }, { name := "SOFT_MAX_ARRAY_LENGTH", type := .int, accessFlags := 25, slot := 20, constantValue := 0 }]
  methods := #[k15m0]
  instanceTypes := #[]
  staticTypes := #[(.object "jdk/internal/misc/Unsafe"), .boolean, .int, .int, .int, .int, .int, .int, .int, .int, .int, .int, .int, .int, .int, .int, .int, .int, .int, (.object "jdk/internal/access/JavaLangAccess"), .int]
  resolved := Array.replicate 378 none
  statics := none }

/-- the primitive byte -/
def k16 : Class := { plain "byte" none with kind := .primitive 'B', accessFlags := 0x411 }
/-- [B -/
def k17 : Class := { plain "[B" (some 0) with kind := .array 16 .byte, interfaces := #[12, 4], accessFlags := 1041 }

/-- the primitive char -/
def k18 : Class := { plain "char" none with kind := .primitive 'C', accessFlags := 0x411 }
/-- [C -/
def k19 : Class := { plain "[C" (some 0) with kind := .array 18 .char, interfaces := #[12, 4], accessFlags := 1041 }

/-- the primitive int -/
def k20 : Class := { plain "int" none with kind := .primitive 'I', accessFlags := 0x411 }
/-- [I -/
def k21 : Class := { plain "[I" (some 0) with kind := .array 20 .int, interfaces := #[12, 4], accessFlags := 1041 }

/-- [Lcom/example/atomic_tally/atomictally/model/Metric; -/
def k22 : Class := { plain "[Lcom/example/atomic_tally/atomictally/model/Metric;" (some 0) with kind := .array 6 (.object "com/example/atomic_tally/atomictally/model/Metric"), interfaces := #[12, 4], accessFlags := 1041 }

def heap : Heap := #[{ cls := 6, slots := #[.ref 5, .ref 6, .ref 7, .null, .ref 4], vm := .statics 6 },
  { cls := 7, slots := #[.ref 14, .ref 15, .null], vm := .statics 7 },
  { cls := 10, slots := #[.long 0, .int 1, .null, .int 0, .null, .int 0, .int 0], vm := .statics 10 },
  { cls := 14, slots := #[.null, .null, .null], vm := .statics 14 },
  { cls := 22, slots := #[.ref 5, .ref 6, .ref 7], vm := .none },
  { cls := 6, slots := #[.null, .int 0, .int 0, .ref 8, .ref 14], vm := .none },
  { cls := 6, slots := #[.null, .int 1, .int 0, .ref 9, .ref 14], vm := .none },
  { cls := 6, slots := #[.null, .int 2, .int 0, .ref 10, .ref 15], vm := .none },
  { cls := 10, slots := #[.ref 11, .int 0, .int 0, .int 0], vm := .none },
  { cls := 10, slots := #[.ref 12, .int 0, .int 0, .int 0], vm := .none },
  { cls := 10, slots := #[.ref 13, .int 0, .int 0, .int 0], vm := .none },
  { cls := 17, slots := #[.int 108, .int 105, .int 107, .int 101], vm := .none },
  { cls := 17, slots := #[.int 102, .int 97, .int 118], vm := .none },
  { cls := 17, slots := #[.int 118, .int 105, .int 101, .int 119], vm := .none },
  { cls := 7, slots := #[.null, .int 0, .int 0, .null], vm := .none },
  { cls := 7, slots := #[.null, .int 1, .int 0, .null], vm := .none }]
def classes : Array Class := #[k0, k1, k2, k3, k4, k5, k6, k7, k8, k9, k10, k11, k12, k13, k14, k15, k16, k17, k18, k19, k20, k21, k22]
def interned : List (Array UInt16 × Addr) := []
def slotsUsed : Nat := 67
def theMethod : MethodId := ⟨1, 1⟩
def args0 : Array Value := #[.int 5]
def aboutOver (below : List Frame) : State where
  vm := { classes := classes, interned := interned.toArray }
  heap := heap
  slotsUsed := slotsUsed
  threads := #[{ frames := .invoking theMethod args0 :: below }]
def below0 : List Frame := [.native { method := ⟨0, 0⟩, args := #[] }]
def about1 : State := aboutOver below0
def p0 : Program := .bare "" "" ""
def e0 : Env := launch0.env 0 0 0
theorem w_frames : about1.frames = Frame.invoking theMethod args0 :: below0 := rfl
set_option maxRecDepth 65536 in
theorem w_args : argsFit about1.vm theMethod args0 = true := by decide +kernel
set_option maxRecDepth 65536 in
theorem w_heap : heapFits about1 = true := by decide +kernel
set_option maxRecDepth 65536 in
theorem w_runnable : about1.curStatus? = some .runnable := by decide +kernel
set_option maxRecDepth 65536 in
theorem w_alone : about1.alone = true := by decide +kernel
set_option maxRecDepth 65536 in
theorem w_named : about1.methodNamed? x = some theMethod := by decide +kernel
set_option maxRecDepth 65536 in
theorem w_hears : about1.hears theMethod below0 = true := by decide +kernel
set_option maxRecDepth 65536 in
theorem w_ripe : about1.ripe theMethod args0 below0 = true := by decide +kernel
theorem w_running : about1.status = .running := rfl
set_option maxRecDepth 65536 in
theorem w_room : about1.hasRoom e0.platform room_1 = true :=
  launch0.hasRoom_least _ room_1 (by decide +kernel) (by decide +kernel) (by decide +kernel) (by decide +kernel) (by decide +kernel) (by decide +kernel)
theorem allAtoms_all (ts : List Jvm.Cond) (a : Array Jvm.Value) (st : Jvm.State) : (allAtoms ts).before a st = ts.all (fun c => c.before a st) := by
  induction ts with
  | nil => rfl
  | cons c t ih =>
    show (Jvm.Cond.and c (allAtoms t)).before a st = _
    rw [Jvm.Cond.before_and, ih, List.all_cons]
def words1 : List Jvm.Cond := Jvm.Cond.code x code maxLocals ret :: tables_1
/-- a 'code' word, met by the world's own term for the bytes: nothing is compared byte by byte -/
theorem code_word {y : MethodName} {bytes : ByteArray} {mx : Nat} {rt : Option FieldType} {a : Array Value} {s : State} {m : MethodId} {meth : Method} {c : Code} (h1 : s.methodNamed? y = some m) (h2 : s.vm.method? m = some meth) (h3 : meth.code = some c) (h4 : c.code = bytes)
    (h5 : (c.maxLocals == mx && c.exceptionTable.isEmpty && decide (c.maxStack ≤ mostOperands) && decide (meth.sig.returnType = rt) && !meth.locks && decide (parseMethodDescriptor y.desc = some meth.sig)) = true) : (Jvm.Cond.code y bytes mx rt).before a s = true := by
  simp only [Bool.and_eq_true, beq_iff_eq, Bool.not_eq_true', decide_eq_true_eq] at h5
  obtain ⟨⟨⟨⟨⟨g1, g2⟩, g3⟩, g4⟩, g5⟩, g6⟩ := h5
  simp [Cond.before, Cond.holds, Cond.value, h1, h2, h3, h4, g1, g2, g3, g4, g5, g6]
def isCode : Jvm.Cond → Bool
  | .code _ _ _ _ => true
  | _ => false
theorem all_split {L : List Jvm.Cond} {P : Jvm.Cond → Bool} (h1 : L.all (fun c => isCode c || P c) = true) (h2 : ∀ c ∈ L.filter isCode, P c = true) : L.all P = true := by
  refine List.all_eq_true.mpr fun c hc => ?_
  have h := List.all_eq_true.mp h1 c hc
  rcases Bool.eq_false_or_eq_true (isCode c) with hi | hi
  · exact h2 c (List.mem_filter.mpr ⟨hc, hi⟩)
  · simpa [hi] using h
set_option maxRecDepth 65536 in
theorem w_c0 : (Jvm.Cond.code x code maxLocals ret).before args0 about1 = true := code_word (m := ⟨1, 1⟩) (meth := k1m1) (c := k1c1) (by decide +kernel) rfl rfl rfl (by decide +kernel)
set_option maxRecDepth 65536 in
theorem w_c1 : (Jvm.Cond.code ({ cls := "java/lang/String", name := "<init>", desc := "([C)V" } : Jvm.MethodName) jdk_42_method_3_code (2 : Nat) (Option.none : Option Jvm.ClassFile.FieldType)).before args0 about1 = true := code_word (m := ⟨10, 1⟩) (meth := k10m1) (c := k10c1) (by decide +kernel) rfl rfl rfl (by decide +kernel)
set_option maxRecDepth 65536 in
theorem w_c2 : (Jvm.Cond.code ({ cls := "java/lang/String", name := "<init>", desc := "([CIILjava/lang/Void;)V" } : Jvm.MethodName) jdk_42_method_149_code (6 : Nat) (Option.none : Option Jvm.ClassFile.FieldType)).before args0 about1 = true := code_word (m := ⟨10, 3⟩) (meth := k10m3) (c := k10c3) (by decide +kernel) rfl rfl rfl (by decide +kernel)
set_option maxRecDepth 65536 in
theorem w_c3 : (Jvm.Cond.code ({ cls := "java/lang/Object", name := "<init>", desc := "()V" } : Jvm.MethodName) object_method_1_code (1 : Nat) (Option.none : Option Jvm.ClassFile.FieldType)).before args0 about1 = true := code_word (m := ⟨0, 0⟩) (meth := k0m0) (c := k0c0) (by decide +kernel) rfl rfl rfl (by decide +kernel)
set_option maxRecDepth 65536 in
theorem w_c4 : (Jvm.Cond.code ({ cls := "java/lang/StringUTF16", name := "compress", desc := "([CII)[B" } : Jvm.MethodName) jdk_52_method_16_code (6 : Nat) (Option.some (Jvm.ClassFile.FieldType.array Jvm.ClassFile.FieldType.byte))).before args0 about1 = true := code_word (m := ⟨11, 2⟩) (meth := k11m2) (c := k11c2) (by decide +kernel) rfl rfl rfl (by decide +kernel)
set_option maxRecDepth 65536 in
theorem w_c5 : (Jvm.Cond.code ({ cls := "java/lang/StringUTF16", name := "compress", desc := "([CI[BII)I" } : Jvm.MethodName) jdk_52_method_21_code (7 : Nat) (Option.some Jvm.ClassFile.FieldType.int)).before args0 about1 = true := code_word (m := ⟨11, 3⟩) (meth := k11m3) (c := k11c3) (by decide +kernel) rfl rfl rfl (by decide +kernel)
set_option maxRecDepth 65536 in
theorem w_c6 : (Jvm.Cond.code ({ cls := "java/lang/StringUTF16", name := "coderFromArrayLen", desc := "([BI)B" } : Jvm.MethodName) jdk_52_method_15_code (2 : Nat) (Option.some Jvm.ClassFile.FieldType.byte)).before args0 about1 = true := code_word (m := ⟨11, 1⟩) (meth := k11m1) (c := k11c1) (by decide +kernel) rfl rfl rfl (by decide +kernel)
set_option maxRecDepth 65536 in
theorem w_c7 : (Jvm.Cond.code ({ cls := "com/example/atomic_tally/atomictally/model/Metric", name := "parse", desc := "(Ljava/lang/String;Lcom/example/atomic_tally/atomictally/model/Metric$Kind;)Lcom/example/atomic_tally/atomictally/model/Metric;" } : Jvm.MethodName) prog_5_method_8_code (3 : Nat) (Option.some (Jvm.ClassFile.FieldType.object "com/example/atomic_tally/atomictally/model/Metric"))).before args0 about1 = true := code_word (m := ⟨6, 4⟩) (meth := k6m4) (c := k6c4) (by decide +kernel) rfl rfl rfl (by decide +kernel)
set_option maxRecDepth 65536 in
theorem w_c8 : (Jvm.Cond.code ({ cls := "com/example/atomic_tally/atomictally/model/Metric", name := "parse", desc := "(Ljava/lang/String;)Lcom/example/atomic_tally/atomictally/model/Metric;" } : Jvm.MethodName) prog_5_method_6_code (5 : Nat) (Option.some (Jvm.ClassFile.FieldType.object "com/example/atomic_tally/atomictally/model/Metric"))).before args0 about1 = true := code_word (m := ⟨6, 3⟩) (meth := k6m3) (c := k6c3) (by decide +kernel) rfl rfl rfl (by decide +kernel)
set_option maxRecDepth 65536 in
theorem w_c9 : (Jvm.Cond.code ({ cls := "com/example/atomic_tally/atomictally/model/Metric", name := "values", desc := "()[Lcom/example/atomic_tally/atomictally/model/Metric;" } : Jvm.MethodName) prog_5_method_1_code (0 : Nat) (Option.some (Jvm.ClassFile.FieldType.array (Jvm.ClassFile.FieldType.object "com/example/atomic_tally/atomictally/model/Metric")))).before args0 about1 = true := code_word (m := ⟨6, 0⟩) (meth := k6m0) (c := k6c0) (by decide +kernel) rfl rfl rfl (by decide +kernel)
set_option maxRecDepth 65536 in
theorem w_c10 : (Jvm.Cond.code ({ cls := "java/lang/String", name := "equals", desc := "(Ljava/lang/Object;)Z" } : Jvm.MethodName) jdk_42_method_66_code (3 : Nat) (Option.some Jvm.ClassFile.FieldType.boolean)).before args0 about1 = true := code_word (m := ⟨10, 2⟩) (meth := k10m2) (c := k10c2) (by decide +kernel) rfl rfl rfl (by decide +kernel)
set_option maxRecDepth 65536 in
theorem w_c11 : (Jvm.Cond.code ({ cls := "java/lang/StringLatin1", name := "equals", desc := "([B[B)Z" } : Jvm.MethodName) jdk_43_method_13_code (3 : Nat) (Option.some Jvm.ClassFile.FieldType.boolean)).before args0 about1 = true := code_word (m := ⟨13, 1⟩) (meth := k13m1) (c := k13c1) (by decide +kernel) rfl rfl rfl (by decide +kernel)
set_option maxRecDepth 65536 in
theorem w_c12 : (Jvm.Cond.code ({ cls := "com/example/atomic_tally/atomictally/model/Metric", name := "kind", desc := "()Lcom/example/atomic_tally/atomictally/model/Metric$Kind;" } : Jvm.MethodName) prog_5_method_5_code (1 : Nat) (Option.some (Jvm.ClassFile.FieldType.object "com/example/atomic_tally/atomictally/model/Metric$Kind"))).before args0 about1 = true := code_word (m := ⟨6, 2⟩) (meth := k6m2) (c := k6c2) (by decide +kernel) rfl rfl rfl (by decide +kernel)
set_option maxRecDepth 65536 in
theorem w_c13 : (Jvm.Cond.code ({ cls := "com/example/atomic_tally/atomictally/model/Metric", name := "id", desc := "()Ljava/lang/String;" } : Jvm.MethodName) prog_5_method_4_code (1 : Nat) (Option.some (Jvm.ClassFile.FieldType.object "java/lang/String"))).before args0 about1 = true := code_word (m := ⟨6, 1⟩) (meth := k6m1) (c := k6c1) (by decide +kernel) rfl rfl rfl (by decide +kernel)
def codes1 : List Jvm.Cond := [Jvm.Cond.code x code maxLocals ret, Jvm.Cond.code ({ cls := "java/lang/String", name := "<init>", desc := "([C)V" } : Jvm.MethodName) jdk_42_method_3_code (2 : Nat) (Option.none : Option Jvm.ClassFile.FieldType), Jvm.Cond.code ({ cls := "java/lang/String", name := "<init>", desc := "([CIILjava/lang/Void;)V" } : Jvm.MethodName) jdk_42_method_149_code (6 : Nat) (Option.none : Option Jvm.ClassFile.FieldType), Jvm.Cond.code ({ cls := "java/lang/Object", name := "<init>", desc := "()V" } : Jvm.MethodName) object_method_1_code (1 : Nat) (Option.none : Option Jvm.ClassFile.FieldType), Jvm.Cond.code ({ cls := "java/lang/StringUTF16", name := "compress", desc := "([CII)[B" } : Jvm.MethodName) jdk_52_method_16_code (6 : Nat) (Option.some (Jvm.ClassFile.FieldType.array Jvm.ClassFile.FieldType.byte)), Jvm.Cond.code ({ cls := "java/lang/StringUTF16", name := "compress", desc := "([CI[BII)I" } : Jvm.MethodName) jdk_52_method_21_code (7 : Nat) (Option.some Jvm.ClassFile.FieldType.int), Jvm.Cond.code ({ cls := "java/lang/StringUTF16", name := "coderFromArrayLen", desc := "([BI)B" } : Jvm.MethodName) jdk_52_method_15_code (2 : Nat) (Option.some Jvm.ClassFile.FieldType.byte), Jvm.Cond.code ({ cls := "com/example/atomic_tally/atomictally/model/Metric", name := "parse", desc := "(Ljava/lang/String;Lcom/example/atomic_tally/atomictally/model/Metric$Kind;)Lcom/example/atomic_tally/atomictally/model/Metric;" } : Jvm.MethodName) prog_5_method_8_code (3 : Nat) (Option.some (Jvm.ClassFile.FieldType.object "com/example/atomic_tally/atomictally/model/Metric")), Jvm.Cond.code ({ cls := "com/example/atomic_tally/atomictally/model/Metric", name := "parse", desc := "(Ljava/lang/String;)Lcom/example/atomic_tally/atomictally/model/Metric;" } : Jvm.MethodName) prog_5_method_6_code (5 : Nat) (Option.some (Jvm.ClassFile.FieldType.object "com/example/atomic_tally/atomictally/model/Metric")), Jvm.Cond.code ({ cls := "com/example/atomic_tally/atomictally/model/Metric", name := "values", desc := "()[Lcom/example/atomic_tally/atomictally/model/Metric;" } : Jvm.MethodName) prog_5_method_1_code (0 : Nat) (Option.some (Jvm.ClassFile.FieldType.array (Jvm.ClassFile.FieldType.object "com/example/atomic_tally/atomictally/model/Metric"))), Jvm.Cond.code ({ cls := "java/lang/String", name := "equals", desc := "(Ljava/lang/Object;)Z" } : Jvm.MethodName) jdk_42_method_66_code (3 : Nat) (Option.some Jvm.ClassFile.FieldType.boolean), Jvm.Cond.code ({ cls := "java/lang/StringLatin1", name := "equals", desc := "([B[B)Z" } : Jvm.MethodName) jdk_43_method_13_code (3 : Nat) (Option.some Jvm.ClassFile.FieldType.boolean), Jvm.Cond.code ({ cls := "com/example/atomic_tally/atomictally/model/Metric", name := "kind", desc := "()Lcom/example/atomic_tally/atomictally/model/Metric$Kind;" } : Jvm.MethodName) prog_5_method_5_code (1 : Nat) (Option.some (Jvm.ClassFile.FieldType.object "com/example/atomic_tally/atomictally/model/Metric$Kind")), Jvm.Cond.code ({ cls := "com/example/atomic_tally/atomictally/model/Metric", name := "id", desc := "()Ljava/lang/String;" } : Jvm.MethodName) prog_5_method_4_code (1 : Nat) (Option.some (Jvm.ClassFile.FieldType.object "java/lang/String"))]
set_option maxRecDepth 65536 in
theorem codes_eq : words1.filter isCode = codes1 := rfl
theorem w_codes : ∀ c ∈ words1.filter isCode, c.before args0 about1 = true := by
  rw [codes_eq]
  intro c hc
  simp only [codes1, List.mem_cons, List.not_mem_nil, or_false] at hc
  rcases hc with rfl | rfl | rfl | rfl | rfl | rfl | rfl | rfl | rfl | rfl | rfl | rfl | rfl | rfl
  · exact w_c0
  · exact w_c1
  · exact w_c2
  · exact w_c3
  · exact w_c4
  · exact w_c5
  · exact w_c6
  · exact w_c7
  · exact w_c8
  · exact w_c9
  · exact w_c10
  · exact w_c11
  · exact w_c12
  · exact w_c13
set_option maxRecDepth 65536 in
theorem w_t1 : (words1.take 24).all (fun c => isCode c || c.before args0 about1) = true := by decide +kernel
set_option maxRecDepth 65536 in
theorem w_t2 : ((words1.drop 24).take 24).all (fun c => isCode c || c.before args0 about1) = true := by decide +kernel
set_option maxRecDepth 65536 in
theorem w_t3 : (((words1.drop 24).drop 24).take 24).all (fun c => isCode c || c.before args0 about1) = true := by decide +kernel
set_option maxRecDepth 65536 in
theorem w_t4 : (((words1.drop 24).drop 24).drop 24).all (fun c => isCode c || c.before args0 about1) = true := by decide +kernel
theorem w_tables : (allAtoms (Jvm.Cond.code x code maxLocals ret :: tables_1)).before args0 about1 = true := by
  rw [allAtoms_all]
  show words1.all (fun c => c.before args0 about1) = true
  refine all_split ?_ w_codes
  rw [← List.take_append_drop 24 words1, List.all_append, w_t1, ← List.take_append_drop 24 (words1.drop 24), List.all_append, w_t2, ← List.take_append_drop 24 ((words1.drop 24).drop 24), List.all_append, w_t3, w_t4]
  rfl
set_option maxRecDepth 65536 in
theorem w_rest : rest_1_c.before args0 about1 = true := by decide +kernel
set_option maxRecDepth 65536 in
theorem w_case : (Jvm.Cond.and given_1 narrow_1).before args0 about1 = true := by decide +kernel
theorem w_applies : (headSpec (Jvm.Cond.code x code maxLocals ret :: tables_1) room_1).applies x e0.platform about1 = true :=
  (Spec.applies_iff w_frames).mpr ⟨w_running, w_runnable, w_alone, w_named, w_hears, w_ripe, w_room, w_tables⟩
theorem atStart : AtStart classFile x code maxLocals ret World_1 tables_1 room_1 Calls_1 rest_1 Pre_1 launch0 p0 e0 about1 theMethod args0 below0 :=
  ⟨lists_1, trivial, launch0.admits_env _ _ _, launch0.least_env, fairChoices_fair.cas, fairChoices_fair.clock, w_frames, w_args, w_heap, w_applies, trivial, w_rest, w_case⟩
end start1
theorem witness_1 : WitnessClaimed_1 := ⟨start1.p0, start1.e0, start1.about1, start1.theMethod, start1.args0, start1.below0, start1.atStart⟩
end Jvm.Pilot.@@N@@
