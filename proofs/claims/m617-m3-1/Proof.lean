import JvmDerived
import JvmDerived.Pilot.@@N@@Statement
import JvmDerived.Pilot.@@N@@Code
set_option linter.unusedVariables false
set_option linter.unusedSimpArgs false
namespace Jvm.Pilot.@@N@@
open Jvm Jvm.ClassFile Sem Op Lib Jvm.Free Jvm.Stand Jvm.LawKit Jvm.RoadKit Bundle Jvm.Pilot.@@N@@.Jvm.D
/-- from the state S the run comes to an end of which Q holds -/
def Own (p : Program) (e : Env) (below : List Frame) (Q : State → Outcome → Prop) (S : State) : Prop := ∃ s₂ o, Steps p.tables e below S s₂ ∧ s₂.status = .running ∧ Ended s₂ below o ∧ Q s₂ o
theorem ogo {p : Program} {e : Env} {below : List Frame} {Q : State → Outcome → Prop} {S S' : State} (h : ∀ t, Steps p.tables e below S' t → Steps p.tables e below S t) (k : Own p e below Q S') : Own p e below Q S := by
  obtain ⟨t, o, k1, k2⟩ := k; exact ⟨t, o, h _ k1, k2⟩
theorem otr {p : Program} {e : Env} {below : List Frame} {Q : State → Outcome → Prop} {S S' : State} (h : Steps p.tables e below S S') (k : Own p e below Q S') : Own p e below Q S := by
  obtain ⟨t, o, k1, k2⟩ := k; exact ⟨t, o, h.trans k1, k2⟩
/-- what a contract says of the end: q of what is returned, of the heap and of the places written; the frame -/
abbrev oPost (q : Option Value → Heap → List Loc → Prop) (s : State) (cc ss : Nat) : State → Outcome → Prop := fun s₂ o => ∃ v L, o = .returned v ∧ q v s₂.heap L ∧ FrameEnd s o s₂ L cc ss
abbrev oMet (l : Launch) (Z : State) (y : MethodName) (code : ByteArray) (maxL : Nat) (ret : Option FieldType) (ws : List Jvm.Cond) (rm : Room) (cc ss : Nat) (as' : Array Value) (h0 : Heap) (q : Option Value → Heap → List Loc → Prop) : Prop :=
  MetFree l y (head1 (Jvm.Cond.code y code maxL ret :: ws) rm) (fun a U => a = as' ∧ Z.Warmed39 U.vm ∧ U.heap = h0) (fun _ _ _ _ _ => True) (fun _ U o U' => ∃ v L, o = .returned v ∧ q v U'.heap L ∧ FrameEnd U o U' L cc ss)
theorem oenter {l : Launch} {Z : State} {y : MethodName} {code : ByteArray} {maxL : Nat} {ret : Option FieldType} {ws : List Jvm.Cond} {rm : Room} {cc ss : Nat} {as' : Array Value} {h0 : Heap} {q : Option Value → Heap → List Loc → Prop} (pn : plainName y.cls = true) (Ls : Array Slot) (ef : ∀ m, entryFrame m as' maxL = mkF m 0 Ls [])
    (body : ∀ (p : Program) (e : Env) (s : State) (m : MethodId) (below : List Frame) (meth : Method) (c : Code) (s₁ : State), Stand p l e rm s m as' below meth c s₁ [] 0 0 → p.tables.exec = Jvm.exec → Z.Warmed39 s.vm → c.code = code → c.maxLocals = maxL → meth.sig.returnType = ret → s.vm.findClass y.cls = some m.cls → meth.name = y.name → meth.locks = false → s₁.heap = h0 → Own p e below (oPost q s cc ss) (s₁.setTop (mkF m 0 Ls []))) : oMet l Z y code maxL ret ws rm cc ss as' h0 q := by
  refine MetFree.of_bodySF (plainFor_of_name pn) hisR ?_
  intro p e s m args below meth c s₁ Bd hml0 hP hK
  obtain ⟨rfl, hZ, hh⟩ := hP
  have e0 : s₁.heap = h0 := by rw [← hh, Bd.state]; rfl
  obtain ⟨t, o, h1, h2⟩ := body p e s m below meth c s₁ (Stand.of_body Bd) Bd.exec hZ Bd.bytes hml0 Bd.returns (findClass_of_methodNamed Bd.named) (name_of_methodNamed Bd.named Bd.method).1 (BodyLoose.notSynchronized Bd) e0
  exact ⟨t, o, castTop (ef m) h1, h2⟩
def own_ushr (x y : Int32) : Int32 := (x.toUInt32 >>> (y &&& 31).toUInt32).toInt32
def own_ushrL (x : Int64) (y : Int32) : Int64 := (x.toUInt64 >>> (y &&& 0x3f).toInt64.toUInt64).toInt64
section Steps
variable {p : Program} {l : Launch} {e : Env} {R : Room} {s : State} {m : MethodId} {args : Array Value} {below : List Frame} {meth : Method} {c : Code} {T : State} {locs : List Loc} {cells slots : Nat} {Q : State → Outcome → Prop}
theorem oend {v : Option Value} {q : Option Value → Heap → List Loc → Prop} {cc ss : Nat} {S : State} (X : Stand p l e R s m args below meth c T locs cells slots) (hlk : meth.locks = false) (hv : meth.sig.returnType = none → v = none)
    (st : ∀ fs, (∀ (f : JFrame) (acts : List Action), f.method = m → f.locked = none → f.entered = [] → (doReturn e (T.setTop f) acts v).1 = T.setFrames fs) → Steps p.tables e below S (T.setFrames fs)) (hc : cells ≤ cc) (hs : slots ≤ ss) (hq : q v T.heap locs) : Own p e below (oPost q s cc ss) S := by
  obtain ⟨fs, hr, hrun, hended, hW, hsame⟩ := X.leave (v := v) hv hlk
  exact ⟨_, _, st fs hr, hrun, hended, _, _, rfl, hq, ⟨_, rfl⟩, hW, hsame.mono hc hs⟩
theorem o_aloadN (X : Stand p l e R s m args below meth c T locs cells slots) (hx : p.tables.exec = Jvm.exec) {pc : Nat} {L : Array Slot} {S : List Value} {i : Fin 4} {v : Value} (hd : decode c.code pc = .ok (.aload_n i, 1)) (hl : L[i.val]? = some (.val v)) (hv : v.isRef = true) (k : Own p e below Q (T.setTop (mkF m (pc + 1) L (v :: S)))) : Own p e below Q (T.setTop (mkF m pc L S)) :=
  ogo (fun _ k => XS.aloadN X.here hx rfl hd hl hv k) k
theorem o_aload (X : Stand p l e R s m args below meth c T locs cells slots) (hx : p.tables.exec = Jvm.exec) {pc : Nat} {L : Array Slot} {S : List Value} {i : Nat} {v : Value} (hd : decode c.code pc = .ok (.aload i, 2)) (hl : L[i]? = some (.val v)) (hv : v.isRef = true) (k : Own p e below Q (T.setTop (mkF m (pc + 2) L (v :: S)))) : Own p e below Q (T.setTop (mkF m pc L S)) :=
  ogo (fun _ k => XS.aload X.here hx rfl hd hl hv k) k
theorem o_iloadN (X : Stand p l e R s m args below meth c T locs cells slots) (hx : p.tables.exec = Jvm.exec) {pc : Nat} {L : Array Slot} {S : List Value} {i : Fin 4} {v : Int32} (hd : decode c.code pc = .ok (.iload_n i, 1)) (hl : L[i.val]? = some (.val (.int v))) (k : Own p e below Q (T.setTop (mkF m (pc + 1) L ((.int v) :: S)))) : Own p e below Q (T.setTop (mkF m pc L S)) :=
  ogo (fun _ k => XS.iloadN X.here hx rfl hd hl k) k
theorem o_iload (X : Stand p l e R s m args below meth c T locs cells slots) (hx : p.tables.exec = Jvm.exec) {pc : Nat} {L : Array Slot} {S : List Value} {i : Nat} {v : Int32} (hd : decode c.code pc = .ok (.iload i, 2)) (hl : L[i]? = some (.val (.int v))) (k : Own p e below Q (T.setTop (mkF m (pc + 2) L ((.int v) :: S)))) : Own p e below Q (T.setTop (mkF m pc L S)) :=
  ogo (fun _ k => XS.iload X.here hx rfl hd hl k) k
theorem o_lloadN (X : Stand p l e R s m args below meth c T locs cells slots) (hx : p.tables.exec = Jvm.exec) {pc : Nat} {L : Array Slot} {S : List Value} {i : Fin 4} {v : Int64} (hd : decode c.code pc = .ok (.lload_n i, 1)) (hl : L[i.val]? = some (.val (.long v))) (k : Own p e below Q (T.setTop (mkF m (pc + 1) L ((.long v) :: S)))) : Own p e below Q (T.setTop (mkF m pc L S)) :=
  ogo (fun _ k => XS.lloadN X.here hx rfl hd hl k) k
theorem o_lload (X : Stand p l e R s m args below meth c T locs cells slots) (hx : p.tables.exec = Jvm.exec) {pc : Nat} {L : Array Slot} {S : List Value} {i : Nat} {v : Int64} (hd : decode c.code pc = .ok (.lload i, 2)) (hl : L[i]? = some (.val (.long v))) (k : Own p e below Q (T.setTop (mkF m (pc + 2) L ((.long v) :: S)))) : Own p e below Q (T.setTop (mkF m pc L S)) :=
  ogo (fun _ k => XS.lload X.here hx rfl hd hl k) k
theorem o_astoreN (X : Stand p l e R s m args below meth c T locs cells slots) (hx : p.tables.exec = Jvm.exec) {pc : Nat} {L : Array Slot} {S : List Value} {i : Fin 4} {v : Value} {l' : Array Slot} (hd : decode c.code pc = .ok (.astore_n i, 1)) (hv : v.isRef = true) (hl : storeLocals L i.val v = some l') (k : Own p e below Q (T.setTop (mkF m (pc + 1) l' S))) : Own p e below Q (T.setTop (mkF m pc L (v :: S))) :=
  ogo (fun _ k => XS.astoreN X.here hx rfl hd rfl hv hl k) k
theorem o_astore (X : Stand p l e R s m args below meth c T locs cells slots) (hx : p.tables.exec = Jvm.exec) {pc : Nat} {L : Array Slot} {S : List Value} {i : Nat} {v : Value} {l' : Array Slot} (hd : decode c.code pc = .ok (.astore i, 2)) (hv : v.isRef = true) (hl : storeLocals L i v = some l') (k : Own p e below Q (T.setTop (mkF m (pc + 2) l' S))) : Own p e below Q (T.setTop (mkF m pc L (v :: S))) :=
  ogo (fun _ k => XS.astore X.here hx rfl hd rfl hv hl k) k
theorem o_istoreN (X : Stand p l e R s m args below meth c T locs cells slots) (hx : p.tables.exec = Jvm.exec) {pc : Nat} {L : Array Slot} {S : List Value} {i : Fin 4} {v : Int32} {l' : Array Slot} (hd : decode c.code pc = .ok (.istore_n i, 1)) (hl : storeLocals L i.val (.int v) = some l') (k : Own p e below Q (T.setTop (mkF m (pc + 1) l' S))) : Own p e below Q (T.setTop (mkF m pc L ((.int v) :: S))) :=
  ogo (fun _ k => XS.istoreN X.here hx rfl hd rfl hl k) k
theorem o_istore (X : Stand p l e R s m args below meth c T locs cells slots) (hx : p.tables.exec = Jvm.exec) {pc : Nat} {L : Array Slot} {S : List Value} {i : Nat} {v : Int32} {l' : Array Slot} (hd : decode c.code pc = .ok (.istore i, 2)) (hl : storeLocals L i (.int v) = some l') (k : Own p e below Q (T.setTop (mkF m (pc + 2) l' S))) : Own p e below Q (T.setTop (mkF m pc L ((.int v) :: S))) :=
  ogo (fun _ k => XS.istore X.here hx rfl hd rfl hl k) k
theorem o_lstoreN (X : Stand p l e R s m args below meth c T locs cells slots) (hx : p.tables.exec = Jvm.exec) {pc : Nat} {L : Array Slot} {S : List Value} {i : Fin 4} {v : Int64} {l' : Array Slot} (hd : decode c.code pc = .ok (.lstore_n i, 1)) (hl : storeLocals L i.val (.long v) = some l') (k : Own p e below Q (T.setTop (mkF m (pc + 1) l' S))) : Own p e below Q (T.setTop (mkF m pc L ((.long v) :: S))) :=
  ogo (fun _ k => XS.lstoreN X.here hx rfl hd rfl hl k) k
theorem o_lstore (X : Stand p l e R s m args below meth c T locs cells slots) (hx : p.tables.exec = Jvm.exec) {pc : Nat} {L : Array Slot} {S : List Value} {i : Nat} {v : Int64} {l' : Array Slot} (hd : decode c.code pc = .ok (.lstore i, 2)) (hl : storeLocals L i (.long v) = some l') (k : Own p e below Q (T.setTop (mkF m (pc + 2) l' S))) : Own p e below Q (T.setTop (mkF m pc L ((.long v) :: S))) :=
  ogo (fun _ k => XS.lstore X.here hx rfl hd rfl hl k) k
theorem o_iconst (X : Stand p l e R s m args below meth c T locs cells slots) (hx : p.tables.exec = Jvm.exec) {pc : Nat} {L : Array Slot} {S : List Value} {i : Int} (v : Int32) (hd : decode c.code pc = .ok (.iconst i, 1)) (hv : Int32.ofInt i = v) (k : Own p e below Q (T.setTop (mkF m (pc + 1) L (.int v :: S)))) : Own p e below Q (T.setTop (mkF m pc L S)) := by
  subst hv; exact ogo (fun _ k => XS.iconst X.here hx rfl hd k) k
theorem o_bipush (X : Stand p l e R s m args below meth c T locs cells slots) (hx : p.tables.exec = Jvm.exec) {pc : Nat} {L : Array Slot} {S : List Value} {i : Int} (v : Int32) (hd : decode c.code pc = .ok (.bipush i, 2)) (hv : (Int8.ofInt i).toInt32 = v) (k : Own p e below Q (T.setTop (mkF m (pc + 2) L (.int v :: S)))) : Own p e below Q (T.setTop (mkF m pc L S)) := by
  subst hv; exact ogo (fun _ k => XS.bipush X.here hx rfl hd k) k
theorem o_sipush (X : Stand p l e R s m args below meth c T locs cells slots) (hx : p.tables.exec = Jvm.exec) {pc : Nat} {L : Array Slot} {S : List Value} {i : Int} (v : Int32) (hd : decode c.code pc = .ok (.sipush i, 3)) (hv : (Int16.ofInt i).toInt32 = v) (k : Own p e below Q (T.setTop (mkF m (pc + 3) L (.int v :: S)))) : Own p e below Q (T.setTop (mkF m pc L S)) := by
  subst hv; exact ogo (fun _ k => XS.sipush X.here hx rfl hd k) k
theorem o_lconst (X : Stand p l e R s m args below meth c T locs cells slots) (hx : p.tables.exec = Jvm.exec) {pc : Nat} {L : Array Slot} {S : List Value} {i : Fin 2} (v : Int64) (hd : decode c.code pc = .ok (.lconst i, 1)) (hv : Int64.ofNat i = v) (k : Own p e below Q (T.setTop (mkF m (pc + 1) L (.long v :: S)))) : Own p e below Q (T.setTop (mkF m pc L S)) := by
  subst hv; exact ogo (fun _ k => XS.lconst X.here hx rfl hd k) k
theorem o_aconst_null (X : Stand p l e R s m args below meth c T locs cells slots) (hx : p.tables.exec = Jvm.exec) {pc : Nat} {L : Array Slot} {S : List Value} (hd : decode c.code pc = .ok (.aconst_null, 1)) (k : Own p e below Q (T.setTop (mkF m (pc + 1) L (.null :: S)))) : Own p e below Q (T.setTop (mkF m pc L S)) :=
  ogo (fun _ k => XS.aconstNull X.here hx rfl hd k) k
theorem o_iadd (X : Stand p l e R s m args below meth c T locs cells slots) (hx : p.tables.exec = Jvm.exec) {pc : Nat} {L : Array Slot} {S : List Value} {x y : Int32} (hd : decode c.code pc = .ok (.iadd, 1)) (k : Own p e below Q (T.setTop (mkF m (pc + 1) L (.int (x + y) :: S)))) : Own p e below Q (T.setTop (mkF m pc L (.int y :: .int x :: S))) :=
  ogo (fun _ k => XS.iadd X.here hx rfl hd rfl k) k
theorem o_isub (X : Stand p l e R s m args below meth c T locs cells slots) (hx : p.tables.exec = Jvm.exec) {pc : Nat} {L : Array Slot} {S : List Value} {x y : Int32} (hd : decode c.code pc = .ok (.isub, 1)) (k : Own p e below Q (T.setTop (mkF m (pc + 1) L (.int (x - y) :: S)))) : Own p e below Q (T.setTop (mkF m pc L (.int y :: .int x :: S))) :=
  ogo (fun _ k => XS.isub X.here hx rfl hd rfl k) k
theorem o_imul (X : Stand p l e R s m args below meth c T locs cells slots) (hx : p.tables.exec = Jvm.exec) {pc : Nat} {L : Array Slot} {S : List Value} {x y : Int32} (hd : decode c.code pc = .ok (.imul, 1)) (k : Own p e below Q (T.setTop (mkF m (pc + 1) L (.int (x * y) :: S)))) : Own p e below Q (T.setTop (mkF m pc L (.int y :: .int x :: S))) :=
  ogo (fun _ k => XS.imul X.here hx rfl hd rfl k) k
theorem o_iand (X : Stand p l e R s m args below meth c T locs cells slots) (hx : p.tables.exec = Jvm.exec) {pc : Nat} {L : Array Slot} {S : List Value} {x y : Int32} (hd : decode c.code pc = .ok (.iand, 1)) (k : Own p e below Q (T.setTop (mkF m (pc + 1) L (.int (x &&& y) :: S)))) : Own p e below Q (T.setTop (mkF m pc L (.int y :: .int x :: S))) :=
  ogo (fun _ k => XS.iand X.here hx rfl hd rfl k) k
theorem o_ior (X : Stand p l e R s m args below meth c T locs cells slots) (hx : p.tables.exec = Jvm.exec) {pc : Nat} {L : Array Slot} {S : List Value} {x y : Int32} (hd : decode c.code pc = .ok (.ior, 1)) (k : Own p e below Q (T.setTop (mkF m (pc + 1) L (.int (x ||| y) :: S)))) : Own p e below Q (T.setTop (mkF m pc L (.int y :: .int x :: S))) :=
  ogo (fun _ k => XS.ior X.here hx rfl hd rfl k) k
theorem o_ixor (X : Stand p l e R s m args below meth c T locs cells slots) (hx : p.tables.exec = Jvm.exec) {pc : Nat} {L : Array Slot} {S : List Value} {x y : Int32} (hd : decode c.code pc = .ok (.ixor, 1)) (k : Own p e below Q (T.setTop (mkF m (pc + 1) L (.int (x ^^^ y) :: S)))) : Own p e below Q (T.setTop (mkF m pc L (.int y :: .int x :: S))) :=
  ogo (fun _ k => XS.ixor X.here hx rfl hd rfl k) k
theorem o_ladd (X : Stand p l e R s m args below meth c T locs cells slots) (hx : p.tables.exec = Jvm.exec) {pc : Nat} {L : Array Slot} {S : List Value} {x y : Int64} (hd : decode c.code pc = .ok (.ladd, 1)) (k : Own p e below Q (T.setTop (mkF m (pc + 1) L (.long (x + y) :: S)))) : Own p e below Q (T.setTop (mkF m pc L (.long y :: .long x :: S))) :=
  ogo (fun _ k => XS.ladd X.here hx rfl hd rfl k) k
theorem o_lsub (X : Stand p l e R s m args below meth c T locs cells slots) (hx : p.tables.exec = Jvm.exec) {pc : Nat} {L : Array Slot} {S : List Value} {x y : Int64} (hd : decode c.code pc = .ok (.lsub, 1)) (k : Own p e below Q (T.setTop (mkF m (pc + 1) L (.long (x - y) :: S)))) : Own p e below Q (T.setTop (mkF m pc L (.long y :: .long x :: S))) :=
  ogo (fun _ k => XS.lsub X.here hx rfl hd rfl k) k
theorem o_lmul (X : Stand p l e R s m args below meth c T locs cells slots) (hx : p.tables.exec = Jvm.exec) {pc : Nat} {L : Array Slot} {S : List Value} {x y : Int64} (hd : decode c.code pc = .ok (.lmul, 1)) (k : Own p e below Q (T.setTop (mkF m (pc + 1) L (.long (x * y) :: S)))) : Own p e below Q (T.setTop (mkF m pc L (.long y :: .long x :: S))) :=
  ogo (fun _ k => XS.lmul X.here hx rfl hd rfl k) k
theorem o_land (X : Stand p l e R s m args below meth c T locs cells slots) (hx : p.tables.exec = Jvm.exec) {pc : Nat} {L : Array Slot} {S : List Value} {x y : Int64} (hd : decode c.code pc = .ok (.land, 1)) (k : Own p e below Q (T.setTop (mkF m (pc + 1) L (.long (x &&& y) :: S)))) : Own p e below Q (T.setTop (mkF m pc L (.long y :: .long x :: S))) :=
  ogo (fun _ k => XS.land X.here hx rfl hd rfl k) k
theorem o_lor (X : Stand p l e R s m args below meth c T locs cells slots) (hx : p.tables.exec = Jvm.exec) {pc : Nat} {L : Array Slot} {S : List Value} {x y : Int64} (hd : decode c.code pc = .ok (.lor, 1)) (k : Own p e below Q (T.setTop (mkF m (pc + 1) L (.long (x ||| y) :: S)))) : Own p e below Q (T.setTop (mkF m pc L (.long y :: .long x :: S))) :=
  ogo (fun _ k => XS.lor X.here hx rfl hd rfl k) k
theorem o_lxor (X : Stand p l e R s m args below meth c T locs cells slots) (hx : p.tables.exec = Jvm.exec) {pc : Nat} {L : Array Slot} {S : List Value} {x y : Int64} (hd : decode c.code pc = .ok (.lxor, 1)) (k : Own p e below Q (T.setTop (mkF m (pc + 1) L (.long (x ^^^ y) :: S)))) : Own p e below Q (T.setTop (mkF m pc L (.long y :: .long x :: S))) :=
  ogo (fun _ k => XS.lxor X.here hx rfl hd rfl k) k
theorem o_ishl (X : Stand p l e R s m args below meth c T locs cells slots) (hx : p.tables.exec = Jvm.exec) {pc : Nat} {L : Array Slot} {S : List Value} {x : Int32} {y : Int32} (hd : decode c.code pc = .ok (.ishl, 1)) (k : Own p e below Q (T.setTop (mkF m (pc + 1) L (.int (x <<< (y &&& 31)) :: S)))) : Own p e below Q (T.setTop (mkF m pc L (.int y :: .int x :: S))) :=
  ogo (fun _ k => XS.ishl X.here hx rfl hd rfl k) k
theorem o_ishr (X : Stand p l e R s m args below meth c T locs cells slots) (hx : p.tables.exec = Jvm.exec) {pc : Nat} {L : Array Slot} {S : List Value} {x : Int32} {y : Int32} (hd : decode c.code pc = .ok (.ishr, 1)) (k : Own p e below Q (T.setTop (mkF m (pc + 1) L (.int (x >>> (y &&& 31)) :: S)))) : Own p e below Q (T.setTop (mkF m pc L (.int y :: .int x :: S))) :=
  ogo (fun _ k => XS.ishr X.here hx rfl hd rfl k) k
theorem o_iushr (X : Stand p l e R s m args below meth c T locs cells slots) (hx : p.tables.exec = Jvm.exec) {pc : Nat} {L : Array Slot} {S : List Value} {x : Int32} {y : Int32} (hd : decode c.code pc = .ok (.iushr, 1)) (k : Own p e below Q (T.setTop (mkF m (pc + 1) L (.int (own_ushr x y) :: S)))) : Own p e below Q (T.setTop (mkF m pc L (.int y :: .int x :: S))) :=
  ogo (fun _ k => XS.iushr X.here hx rfl hd rfl k) k
theorem o_lshl (X : Stand p l e R s m args below meth c T locs cells slots) (hx : p.tables.exec = Jvm.exec) {pc : Nat} {L : Array Slot} {S : List Value} {x : Int64} {y : Int32} (hd : decode c.code pc = .ok (.lshl, 1)) (k : Own p e below Q (T.setTop (mkF m (pc + 1) L (.long (x <<< (y &&& 0x3f).toInt64) :: S)))) : Own p e below Q (T.setTop (mkF m pc L (.int y :: .long x :: S))) :=
  ogo (fun _ k => XS.lshl X.here hx rfl hd rfl k) k
theorem o_lshr (X : Stand p l e R s m args below meth c T locs cells slots) (hx : p.tables.exec = Jvm.exec) {pc : Nat} {L : Array Slot} {S : List Value} {x : Int64} {y : Int32} (hd : decode c.code pc = .ok (.lshr, 1)) (k : Own p e below Q (T.setTop (mkF m (pc + 1) L (.long (x >>> (y &&& 0x3f).toInt64) :: S)))) : Own p e below Q (T.setTop (mkF m pc L (.int y :: .long x :: S))) :=
  ogo (fun _ k => XS.lshr X.here hx rfl hd rfl k) k
theorem o_lushr (X : Stand p l e R s m args below meth c T locs cells slots) (hx : p.tables.exec = Jvm.exec) {pc : Nat} {L : Array Slot} {S : List Value} {x : Int64} {y : Int32} (hd : decode c.code pc = .ok (.lushr, 1)) (k : Own p e below Q (T.setTop (mkF m (pc + 1) L (.long (own_ushrL x y) :: S)))) : Own p e below Q (T.setTop (mkF m pc L (.int y :: .long x :: S))) :=
  ogo (fun _ k => XS.lushr X.here hx rfl hd rfl k) k
theorem o_ineg (X : Stand p l e R s m args below meth c T locs cells slots) (hx : p.tables.exec = Jvm.exec) {pc : Nat} {L : Array Slot} {S : List Value} {x : Int32} (hd : decode c.code pc = .ok (.ineg, 1)) (k : Own p e below Q (T.setTop (mkF m (pc + 1) L (.int (-x) :: S)))) : Own p e below Q (T.setTop (mkF m pc L (.int x :: S))) :=
  ogo (fun _ k => XS.ineg X.here hx rfl hd rfl k) k
theorem o_lneg (X : Stand p l e R s m args below meth c T locs cells slots) (hx : p.tables.exec = Jvm.exec) {pc : Nat} {L : Array Slot} {S : List Value} {x : Int64} (hd : decode c.code pc = .ok (.lneg, 1)) (k : Own p e below Q (T.setTop (mkF m (pc + 1) L (.long (-x) :: S)))) : Own p e below Q (T.setTop (mkF m pc L (.long x :: S))) :=
  ogo (fun _ k => XS.lneg X.here hx rfl hd rfl k) k
theorem o_i2l (X : Stand p l e R s m args below meth c T locs cells slots) (hx : p.tables.exec = Jvm.exec) {pc : Nat} {L : Array Slot} {S : List Value} {x : Int32} (hd : decode c.code pc = .ok (.i2l, 1)) (k : Own p e below Q (T.setTop (mkF m (pc + 1) L (.long (x.toInt64) :: S)))) : Own p e below Q (T.setTop (mkF m pc L (.int x :: S))) :=
  ogo (fun _ k => XS.i2l X.here hx rfl hd rfl k) k
theorem o_l2i (X : Stand p l e R s m args below meth c T locs cells slots) (hx : p.tables.exec = Jvm.exec) {pc : Nat} {L : Array Slot} {S : List Value} {x : Int64} (hd : decode c.code pc = .ok (.l2i, 1)) (k : Own p e below Q (T.setTop (mkF m (pc + 1) L (.int (x.toInt32) :: S)))) : Own p e below Q (T.setTop (mkF m pc L (.long x :: S))) :=
  ogo (fun _ k => XS.l2i X.here hx rfl hd rfl k) k
theorem o_i2b (X : Stand p l e R s m args below meth c T locs cells slots) (hx : p.tables.exec = Jvm.exec) {pc : Nat} {L : Array Slot} {S : List Value} {x : Int32} (hd : decode c.code pc = .ok (.i2b, 1)) (k : Own p e below Q (T.setTop (mkF m (pc + 1) L (.int (x.toInt8.toInt32) :: S)))) : Own p e below Q (T.setTop (mkF m pc L (.int x :: S))) :=
  ogo (fun _ k => XS.i2b X.here hx rfl hd rfl k) k
theorem o_i2s (X : Stand p l e R s m args below meth c T locs cells slots) (hx : p.tables.exec = Jvm.exec) {pc : Nat} {L : Array Slot} {S : List Value} {x : Int32} (hd : decode c.code pc = .ok (.i2s, 1)) (k : Own p e below Q (T.setTop (mkF m (pc + 1) L (.int (x.toInt16.toInt32) :: S)))) : Own p e below Q (T.setTop (mkF m pc L (.int x :: S))) :=
  ogo (fun _ k => XS.i2s X.here hx rfl hd rfl k) k
theorem o_i2c (X : Stand p l e R s m args below meth c T locs cells slots) (hx : p.tables.exec = Jvm.exec) {pc : Nat} {L : Array Slot} {S : List Value} {x : Int32} (hd : decode c.code pc = .ok (.i2c, 1)) (k : Own p e below Q (T.setTop (mkF m (pc + 1) L (.int (nar .char x) :: S)))) : Own p e below Q (T.setTop (mkF m pc L (.int x :: S))) :=
  ogo (fun _ k => XS.i2c X.here hx rfl hd rfl k) k
theorem o_lcmp (X : Stand p l e R s m args below meth c T locs cells slots) (hx : p.tables.exec = Jvm.exec) {pc : Nat} {L : Array Slot} {S : List Value} {x y : Int64} (hd : decode c.code pc = .ok (.lcmp, 1)) (k : Own p e below Q (T.setTop (mkF m (pc + 1) L (.int (lcmpW x y) :: S)))) : Own p e below Q (T.setTop (mkF m pc L (.long y :: .long x :: S))) :=
  ogo (fun _ k => XS.lcmp X.here hx rfl hd rfl k) k
theorem o_idiv (X : Stand p l e R s m args below meth c T locs cells slots) (hx : p.tables.exec = Jvm.exec) {pc : Nat} {L : Array Slot} {S : List Value} {x y : Int32} (hd : decode c.code pc = .ok (.idiv, 1)) (hy : y ≠ 0) (k : Own p e below Q (T.setTop (mkF m (pc + 1) L (.int (x / y) :: S)))) : Own p e below Q (T.setTop (mkF m pc L (.int y :: .int x :: S))) :=
  ogo (fun _ k => XS.idiv X.here hx rfl hd rfl hy k) k
theorem o_ldiv (X : Stand p l e R s m args below meth c T locs cells slots) (hx : p.tables.exec = Jvm.exec) {pc : Nat} {L : Array Slot} {S : List Value} {x y : Int64} (hd : decode c.code pc = .ok (.ldiv, 1)) (hy : y ≠ 0) (k : Own p e below Q (T.setTop (mkF m (pc + 1) L (.long (x / y) :: S)))) : Own p e below Q (T.setTop (mkF m pc L (.long y :: .long x :: S))) :=
  ogo (fun _ k => XS.ldiv X.here hx rfl hd rfl hy k) k
theorem o_lrem (X : Stand p l e R s m args below meth c T locs cells slots) (hx : p.tables.exec = Jvm.exec) {pc : Nat} {L : Array Slot} {S : List Value} {x y : Int64} (hd : decode c.code pc = .ok (.lrem, 1)) (hy : y ≠ 0) (k : Own p e below Q (T.setTop (mkF m (pc + 1) L (.long (x - (x / y) * y) :: S)))) : Own p e below Q (T.setTop (mkF m pc L (.long y :: .long x :: S))) :=
  ogo (fun _ k => XS.lrem X.here hx rfl hd rfl hy k) k
theorem o_irem (X : Stand p l e R s m args below meth c T locs cells slots) (hx : p.tables.exec = Jvm.exec) {pc : Nat} {L : Array Slot} {S : List Value} {x y : Int32} (hd : decode c.code pc = .ok (.irem, 1)) (hy : y ≠ 0) (k : Own p e below Q (T.setTop (mkF m (pc + 1) L (.int (x % y) :: S)))) : Own p e below Q (T.setTop (mkF m pc L (.int y :: .int x :: S))) :=
  ogo (fun _ k => iremM X hx rfl hd rfl hy k) k
theorem o_iinc (X : Stand p l e R s m args below meth c T locs cells slots) (hx : p.tables.exec = Jvm.exec) {pc : Nat} {L : Array Slot} {S : List Value} {i : Nat} {n : Int} {x : Int32} {l' : Array Slot} (hd : decode c.code pc = .ok (.iinc i n, 3)) (hl : L[i]? = some (.val (.int x))) (hl' : storeLocals L i (.int (x + Int32.ofInt n)) = some l') (k : Own p e below Q (T.setTop (mkF m (pc + 3) l' S))) : Own p e below Q (T.setTop (mkF m pc L S)) :=
  ogo (fun _ k => XS.iinc X.here hx rfl hd hl hl' k) k
theorem o_dup (X : Stand p l e R s m args below meth c T locs cells slots) (hx : p.tables.exec = Jvm.exec) {pc : Nat} {L : Array Slot} {S : List Value} {v : Value} (hd : decode c.code pc = .ok (.dup, 1)) (hc : v.category = 1) (k : Own p e below Q (T.setTop (mkF m (pc + 1) L (v :: v :: S)))) : Own p e below Q (T.setTop (mkF m pc L (v :: S))) :=
  ogo (fun _ k => XS.dup X.here hx rfl hd rfl hc k) k
theorem o_dup_x1 (X : Stand p l e R s m args below meth c T locs cells slots) (hx : p.tables.exec = Jvm.exec) {pc : Nat} {L : Array Slot} {S : List Value} {v w : Value} (hd : decode c.code pc = .ok (.dup_x1, 1)) (hc : v.category = 1) (hc' : w.category = 1) (k : Own p e below Q (T.setTop (mkF m (pc + 1) L (v :: w :: v :: S)))) : Own p e below Q (T.setTop (mkF m pc L (v :: w :: S))) :=
  ogo (fun _ k => XS.dupX1 X.here hx rfl hd rfl hc hc' k) k
theorem o_pop (X : Stand p l e R s m args below meth c T locs cells slots) (hx : p.tables.exec = Jvm.exec) {pc : Nat} {L : Array Slot} {S : List Value} {v : Value} (hd : decode c.code pc = .ok (.pop, 1)) (hc : v.category = 1) (k : Own p e below Q (T.setTop (mkF m (pc + 1) L S))) : Own p e below Q (T.setTop (mkF m pc L (v :: S))) :=
  ogo (fun _ k => XS.pop X.here hx rfl hd rfl hc k) k
theorem o_goto (X : Stand p l e R s m args below meth c T locs cells slots) (hx : p.tables.exec = Jvm.exec) {pc : Nat} {L : Array Slot} {S : List Value} {o : Int} (pc' : Nat) (hd : decode c.code pc = .ok (.goto o, 3)) (ho : 0 ≤ (pc : Int) + o) (hp : ((pc : Int) + o).toNat = pc') (k : Own p e below Q (T.setTop (mkF m (pc') L S))) : Own p e below Q (T.setTop (mkF m pc L S)) :=
  ogo (fun _ k => XS.goto X.here hx rfl rfl hd ho hp k) k
theorem o_ifYes (X : Stand p l e R s m args below meth c T locs cells slots) (hx : p.tables.exec = Jvm.exec) {pc : Nat} {L : Array Slot} {S : List Value} {cd : ClassFile.Cond} {x : Int32} {o : Int} (pc' : Nat) (hd : decode c.code pc = .ok (.ifCond cd o, 3)) (hc : if_icmp.holds cd x 0 = true) (ho : 0 ≤ (pc : Int) + o) (hp : ((pc : Int) + o).toNat = pc') (k : Own p e below Q (T.setTop (mkF m (pc') L S))) : Own p e below Q (T.setTop (mkF m pc L (.int x :: S))) :=
  ogo (fun _ k => XS.ifYes X.here hx rfl rfl hd rfl ((if0 _ _).trans hc) ho hp k) k
theorem o_ifNo (X : Stand p l e R s m args below meth c T locs cells slots) (hx : p.tables.exec = Jvm.exec) {pc : Nat} {L : Array Slot} {S : List Value} {cd : ClassFile.Cond} {x : Int32} {o : Int} (hd : decode c.code pc = .ok (.ifCond cd o, 3)) (hc : if_icmp.holds cd x 0 = false) (k : Own p e below Q (T.setTop (mkF m (pc + 3) L S))) : Own p e below Q (T.setTop (mkF m pc L (.int x :: S))) :=
  ogo (fun _ k => XS.ifNo X.here hx rfl hd rfl ((if0 _ _).trans hc) k) k
theorem o_icmpYes (X : Stand p l e R s m args below meth c T locs cells slots) (hx : p.tables.exec = Jvm.exec) {pc : Nat} {L : Array Slot} {S : List Value} {cd : ClassFile.Cond} {x y : Int32} {o : Int} (pc' : Nat) (hd : decode c.code pc = .ok (.if_icmp cd o, 3)) (hc : if_icmp.holds cd x y = true) (ho : 0 ≤ (pc : Int) + o) (hp : ((pc : Int) + o).toNat = pc') (k : Own p e below Q (T.setTop (mkF m (pc') L S))) : Own p e below Q (T.setTop (mkF m pc L (.int y :: .int x :: S))) :=
  ogo (fun _ k => XS.icmpYes X.here hx rfl rfl hd rfl hc ho hp k) k
theorem o_icmpNo (X : Stand p l e R s m args below meth c T locs cells slots) (hx : p.tables.exec = Jvm.exec) {pc : Nat} {L : Array Slot} {S : List Value} {cd : ClassFile.Cond} {x y : Int32} {o : Int} (hd : decode c.code pc = .ok (.if_icmp cd o, 3)) (hc : if_icmp.holds cd x y = false) (k : Own p e below Q (T.setTop (mkF m (pc + 3) L S))) : Own p e below Q (T.setTop (mkF m pc L (.int y :: .int x :: S))) :=
  ogo (fun _ k => XS.icmpNo X.here hx rfl hd rfl hc k) k
theorem o_ifnullYes (X : Stand p l e R s m args below meth c T locs cells slots) (hx : p.tables.exec = Jvm.exec) {pc : Nat} {L : Array Slot} {S : List Value} {o : Int} (pc' : Nat) (hd : decode c.code pc = .ok (.ifnull o, 3)) (ho : 0 ≤ (pc : Int) + o) (hp : ((pc : Int) + o).toNat = pc') (k : Own p e below Q (T.setTop (mkF m (pc') L S))) : Own p e below Q (T.setTop (mkF m pc L (.null :: S))) :=
  ogo (fun _ k => XS.ifnullYes X.here hx rfl rfl hd rfl ho hp k) k
theorem o_ifnullNo (X : Stand p l e R s m args below meth c T locs cells slots) (hx : p.tables.exec = Jvm.exec) {pc : Nat} {L : Array Slot} {S : List Value} {o : Int} {b : Addr} (hd : decode c.code pc = .ok (.ifnull o, 3)) (k : Own p e below Q (T.setTop (mkF m (pc + 3) L S))) : Own p e below Q (T.setTop (mkF m pc L (.ref b :: S))) :=
  ogo (fun _ k => XS.ifnullNo X.here hx rfl hd rfl k) k
theorem o_ifnonnullYes (X : Stand p l e R s m args below meth c T locs cells slots) (hx : p.tables.exec = Jvm.exec) {pc : Nat} {L : Array Slot} {S : List Value} {o : Int} {b : Addr} (pc' : Nat) (hd : decode c.code pc = .ok (.ifnonnull o, 3)) (ho : 0 ≤ (pc : Int) + o) (hp : ((pc : Int) + o).toNat = pc') (k : Own p e below Q (T.setTop (mkF m (pc') L S))) : Own p e below Q (T.setTop (mkF m pc L (.ref b :: S))) :=
  ogo (fun _ k => XS.ifnonnullYes X.here hx rfl rfl hd rfl ho hp k) k
theorem o_ifnonnullNo (X : Stand p l e R s m args below meth c T locs cells slots) (hx : p.tables.exec = Jvm.exec) {pc : Nat} {L : Array Slot} {S : List Value} {o : Int} (hd : decode c.code pc = .ok (.ifnonnull o, 3)) (k : Own p e below Q (T.setTop (mkF m (pc + 3) L S))) : Own p e below Q (T.setTop (mkF m pc L (.null :: S))) :=
  ogo (fun _ k => XS.ifnonnullNo X.here hx rfl hd rfl k) k
theorem o_acmp (X : Stand p l e R s m args below meth c T locs cells slots) (hx : p.tables.exec = Jvm.exec) {pc : Nat} {L : Array Slot} {S : List Value} {cd : ClassFile.ACond} {x y : Value} {o : Int} (pc' : Nat) (same : Bool) (h1 : x.isRef = true) (h2 : y.isRef = true) (hd : decode c.code pc = .ok (.if_acmp cd o, 3)) (hq : decide (x = y) = same) (ho : 0 ≤ (pc : Int) + o) (hp : pc' = if acV cd same = true then ((pc : Int) + o).toNat else pc + 3) (k : Own p e below Q (T.setTop (mkF m (pc') L S))) : Own p e below Q (T.setTop (mkF m pc L (y :: x :: S))) :=
  ogo (fun _ k => Jvm.RoadKit.acmp X hx rfl h1 h2 rfl hd rfl hq ho hp k) k
theorem o_tswIn (X : Stand p l e R s m args below meth c T locs cells slots) (hx : p.tables.exec = Jvm.exec) {pc : Nat} {L : Array Slot} {S : List Value} {d lo hi : Int} {offs : Array Int} {len : Nat} {o : Int} {i : Int32} (pc' : Nat) (hd : decode c.code pc = .ok (.tableswitch d lo hi offs, len)) (hin : ¬ (i.toInt < lo ∨ i.toInt > hi)) (hoff : offs[(i.toInt - lo).toNat]? = some o) (ho : 0 ≤ (pc : Int) + o) (hp : ((pc : Int) + o).toNat = pc') (k : Own p e below Q (T.setTop (mkF m (pc') L S))) : Own p e below Q (T.setTop (mkF m pc L (.int i :: S))) :=
  ogo (fun _ k => XS.tswIn X.here hx rfl rfl hd rfl hin hoff ho hp k) k
theorem o_tswOut (X : Stand p l e R s m args below meth c T locs cells slots) (hx : p.tables.exec = Jvm.exec) {pc : Nat} {L : Array Slot} {S : List Value} {d lo hi : Int} {offs : Array Int} {len : Nat} {i : Int32} (pc' : Nat) (hd : decode c.code pc = .ok (.tableswitch d lo hi offs, len)) (hout : i.toInt < lo ∨ i.toInt > hi) (ho : 0 ≤ (pc : Int) + d) (hp : ((pc : Int) + d).toNat = pc') (k : Own p e below Q (T.setTop (mkF m (pc') L S))) : Own p e below Q (T.setTop (mkF m pc L (.int i :: S))) :=
  ogo (fun _ k => XS.tswOut X.here hx rfl rfl hd rfl hout ho hp k) k
end Steps

theorem own_cat {v : Value} (h : v.isRef = true) : v.category = 1 := by cases v <;> simp_all [Value.isRef, Value.category]
theorem own_narc (x : Int32) : nar .char (nar .char x) = nar .char x := by
  have h := c_i2c x
  have h' := c_i2c (nar .char x)
  refine Int32.toInt_inj.mp ?_
  show (nar .char x).toUInt32.toUInt16.toUInt32.toInt32.toInt = (nar .char x).toInt
  have e : (nar .char x).toInt = x.toUInt32.toUInt16.toUInt32.toInt32.toInt := rfl
  omega
theorem own_narb (x : Int32) : nar .byte x.toInt8.toInt32 = x.toInt8.toInt32 := by
  have h := c_i2b x
  have h' := c_i2b x.toInt8.toInt32
  refine Int32.toInt_inj.mp ?_
  show x.toInt8.toInt32.toInt8.toInt32.toInt = x.toInt8.toInt32.toInt
  omega
theorem own_eqref {args : Array Value} {s : State} {a b : Term} {z : Addr} (h : (Jvm.Cond.eq a b).value args s none s [] = some true) (hb : b.eval args s none [] s = some (.ref z)) : a.eval args s none [] s = some (.ref z) := by
  obtain ⟨x, y, h1, h2, k1, k2⟩ := cmp_v (Or.inl h)
  cases hb.symm.trans h2
  have q := gotT (eq_R h1 h2 k2.2 rfl) h
  rw [← q]; exact h1
theorem own_arv {Z : State} {args : Array Value} (hfit : Fit Z) {t : Term} {a : Addr} {ty : FieldType} {z : Int32} {vs : List Value} {dv : Value} (ev : t.eval args Z none [] Z = some (.ref a)) (ha : (Jvm.Cond.arrayOf t ty).value args Z none Z [] = some true) (hl : (Term.length t).eval args Z none [] Z = some (.int z)) (hz : ¬ z < 0) (hl2 : z.toNatClampNeg = vs.length) (H : ∀ cl, Z.heap[a]? = some cl → HasL cl 0 vs) : ∃ k, Arv Z Z.heap a k ty z vs dv := by
  obtain ⟨c, A⟩ := Arr.start ev ha
  have hc := Arr.fin (Vm.Alike.refl _) A
  have h31 := SBG.length_lt ev hc hl
  have e := len_f ev hc h31
  have ez : c.slots.size.toInt32 = z := by
    have q := e.symm.trans hl
    simpa using q
  exact ⟨_, Arv.start hfit A h31 ez hz hl2 (H c A.1)⟩
theorem own_char {c : Int32} (h0 : ¬ (c < (0 : Int32))) (h1 : ¬ ((255 : Int32) < c)) : nar .char (c.toInt8.toInt32 &&& (255 : Int32)) = c := by
  rw [Int32.lt_iff_toInt_lt] at h0 h1
  have e0 : (0 : Int32).toInt = 0 := rfl
  have e1 : (255 : Int32).toInt = 255 := rfl
  have a := c_i2b c
  have b := c_mask c.toInt8.toInt32 (255 : Int32) 8 (by decide) (by decide)
  have d := c_i2c (c.toInt8.toInt32 &&& (255 : Int32))
  refine Int32.toInt_inj.mp ?_
  show (c.toInt8.toInt32 &&& (255 : Int32)).toUInt32.toUInt16.toUInt32.toInt32.toInt = c.toInt
  simp only [Nat.reducePow] at b
  omega
theorem own_narsm {c : Int32} (h0 : ¬ (c < (0 : Int32))) (h1 : ¬ ((255 : Int32) < c)) : nar .char c = c := by
  rw [Int32.lt_iff_toInt_lt] at h0 h1
  have e0 : (0 : Int32).toInt = 0 := rfl
  have e1 : (255 : Int32).toInt = 255 := rfl
  have d := c_i2c c
  refine Int32.toInt_inj.mp ?_
  show c.toUInt32.toUInt16.toUInt32.toInt32.toInt = c.toInt
  omega
def own_k (x : Int32) : Int32 := (x &&& (2147483647 : Int32)) % (66 : Int32)
def own_eid (x : Int32) : Int32 := if own_k x < (26 : Int32) then nar .char ((65 : Int32) + own_k x) else if own_k x < (52 : Int32) then nar .char ((97 : Int32) + (own_k x - (26 : Int32))) else if own_k x < (62 : Int32) then nar .char ((48 : Int32) + (own_k x - (52 : Int32))) else if own_k x = (62 : Int32) then (46 : Int32) else if own_k x = (63 : Int32) then (95 : Int32) else if own_k x = (64 : Int32) then (58 : Int32) else (45 : Int32)
/-- the chars that an id may be spelled of -/
def own_ok (c : Int32) : Prop := c = (45 : Int32) ∨ c = (46 : Int32) ∨ (48 ≤ c.toInt ∧ c.toInt < 59) ∨ (65 ≤ c.toInt ∧ c.toInt < 91) ∨ c = (95 : Int32) ∨ (97 ≤ c.toInt ∧ c.toInt < 123)
theorem own_eid_ok (x : Int32) : own_ok (own_eid x) := by
  have h0 := (c_and x (2147483647 : Int32) (by decide)).1
  have h1 := (c_irem (x &&& (2147483647 : Int32)) (66 : Int32) 66 rfl).1 h0
  have h2 : 0 ≤ (own_k x).toInt ∧ (own_k x).toInt < 66 := by show 0 ≤ ((x &&& (2147483647 : Int32)) % (66 : Int32)).toInt ∧ ((x &&& (2147483647 : Int32)) % (66 : Int32)).toInt < 66; omega
  unfold own_eid
  generalize own_k x = k at *
  have e26 : (26 : Int32).toInt = 26 := rfl
  have e52 : (52 : Int32).toInt = 52 := rfl
  have e62 : (62 : Int32).toInt = 62 := rfl
  have e65 : (65 : Int32).toInt = 65 := rfl
  have e97 : (97 : Int32).toInt = 97 := rfl
  have e48 : (48 : Int32).toInt = 48 := rfl
  have a1 := c_iadd (65 : Int32) k; have b1 := rng32 ((65 : Int32) + k); have d1 := c_i2c ((65 : Int32) + k)
  have s2 := c_isub k (26 : Int32); have t2 := rng32 (k - (26 : Int32)); have a2 := c_iadd (97 : Int32) (k - (26 : Int32)); have b2 := rng32 ((97 : Int32) + (k - (26 : Int32))); have d2 := c_i2c ((97 : Int32) + (k - (26 : Int32)))
  have s3 := c_isub k (52 : Int32); have t3 := rng32 (k - (52 : Int32)); have a3 := c_iadd (48 : Int32) (k - (52 : Int32)); have b3 := rng32 ((48 : Int32) + (k - (52 : Int32))); have d3 := c_i2c ((48 : Int32) + (k - (52 : Int32)))
  split
  · rename_i q; rw [Int32.lt_iff_toInt_lt] at q
    exact Or.inr (Or.inr (Or.inr (Or.inl (by show 65 ≤ ((65 : Int32) + k).toUInt32.toUInt16.toUInt32.toInt32.toInt ∧ ((65 : Int32) + k).toUInt32.toUInt16.toUInt32.toInt32.toInt < 91; omega))))
  split
  · rename_i q' q; rw [Int32.lt_iff_toInt_lt] at q q'
    exact Or.inr (Or.inr (Or.inr (Or.inr (Or.inr (by show 97 ≤ ((97 : Int32) + (k - (26 : Int32))).toUInt32.toUInt16.toUInt32.toInt32.toInt ∧ ((97 : Int32) + (k - (26 : Int32))).toUInt32.toUInt16.toUInt32.toInt32.toInt < 123; omega)))))
  split
  · rename_i q' q; rw [Int32.lt_iff_toInt_lt] at q q'
    exact Or.inr (Or.inr (Or.inl (by show 48 ≤ ((48 : Int32) + (k - (52 : Int32))).toUInt32.toUInt16.toUInt32.toInt32.toInt ∧ ((48 : Int32) + (k - (52 : Int32))).toUInt32.toUInt16.toUInt32.toInt32.toInt < 59; omega)))
  split
  · exact Or.inr (Or.inl rfl)
  split
  · exact Or.inr (Or.inr (Or.inr (Or.inr (Or.inl rfl))))
  split
  · exact Or.inr (Or.inr (Or.inl (by decide)))
  · exact Or.inl rfl
theorem own_ok_rng {c : Int32} (h : own_ok c) : 0 ≤ c.toInt ∧ c.toInt < 128 := by
  rcases h with rfl | rfl | h | h | rfl | h
  all_goals first | decide | omega
theorem own_ok_0 {c : Int32} (h : own_ok c) : ¬ (c < (0 : Int32)) := by
  have := own_ok_rng h; rw [Int32.lt_iff_toInt_lt]; have e : (0 : Int32).toInt = 0 := rfl; omega
theorem own_ok_255 {c : Int32} (h : own_ok c) : ¬ ((255 : Int32) < c) := by
  have := own_ok_rng h; rw [Int32.lt_iff_toInt_lt]; have e : (255 : Int32).toInt = 255 := rfl; omega
theorem own_ok_128 {c : Int32} (h : own_ok c) : c < (128 : Int32) := by
  have := own_ok_rng h; rw [Int32.lt_iff_toInt_lt]; have e : (128 : Int32).toInt = 128 := rfl; omega
theorem own_or {args : Array Value} {s : State} {idx : List Nat} {a b : Jvm.Cond} (h : (Jvm.Cond.or a b).value args s none s idx = some true) (ha : a.value args s none s idx = some false) : b.value args s none s idx = some true := by
  simpa [Cond.value, ha] using h
theorem own_len (n : Int32) : ((1 : Int32) + (n &&& (3 : Int32))) = (1 : Int32) ∨ ((1 : Int32) + (n &&& (3 : Int32))) = (2 : Int32) ∨ ((1 : Int32) + (n &&& (3 : Int32))) = (3 : Int32) ∨ ((1 : Int32) + (n &&& (3 : Int32))) = (4 : Int32) := by
  have h := c_mask n (3 : Int32) 2 (by decide) (by decide)
  have a := c_iadd (1 : Int32) (n &&& (3 : Int32)); have b := rng32 ((1 : Int32) + (n &&& (3 : Int32)))
  have e1 : (1 : Int32).toInt = 1 := rfl
  simp only [Nat.reducePow] at h
  simp only [← Int32.toInt_inj, show (1 : Int32).toInt = 1 from rfl, show (2 : Int32).toInt = 2 from rfl, show (3 : Int32).toInt = 3 from rfl, show (4 : Int32).toInt = 4 from rfl]
  omega
theorem own_size {args : Array Value} {s : State} {t : Term} {a : Addr} {c : Cell} {z : Int32} (ev : t.eval args s none [] s = some (.ref a)) (hc : s.arrayAt? a = some c) (h31 : c.slots.size < 2 ^ 31) (hl : (Term.length t).eval args s none [] s = some (.int z)) : c.slots.size = z.toNatClampNeg := by
  have q := (len_f ev hc h31).symm.trans hl
  have q' : c.slots.size.toInt32 = z := by simpa using q
  rw [← q']; simp only [Int32.toNatClampNeg, len_toInt h31]; rfl
theorem own_rngT {args : Array Value} {s : State} {a : Addr} {c : Cell} {t : Term} {lo hi : Int32} (ev : ∀ idx, t.eval args s none idx s = some (.ref a)) (hc : s.arrayAt? a = some c) (hs : c.slots.size = 128)
    (h : (Jvm.Cond.all t (Jvm.Cond.or (Jvm.Cond.lt (Jvm.Term.index 0) (Jvm.Term.int lo)) (Jvm.Cond.or (Jvm.Cond.le (Jvm.Term.int hi) (Jvm.Term.index 0)) (Jvm.Cond.eq (Jvm.Term.elem t (Jvm.Term.index 0)) (Jvm.Term.int (1 : Int32)))))).value args s none s [] = some true)
    {j : Int32} (h0 : 0 ≤ j.toInt) (h1 : j.toInt < 128) (hlo : lo.toInt ≤ j.toInt) (hhi : j.toInt < hi.toInt) : c.slots[j.toNatClampNeg]? = some (.int 1) := by
  have nn : ¬ j < 0 := by rw [Int32.lt_iff_toInt_lt]; have e : (0 : Int32).toInt = 0 := rfl; omega
  have hj : j.toNatClampNeg < c.slots.size := by rw [hs]; simp only [Int32.toNatClampNeg]; omega
  have q := Cond.all_elim (ev []) hc h j.toNatClampNeg hj
  have ei : (Jvm.Term.index 0).eval args s none [j.toNatClampNeg] s = some (.int j) := idx_at nn
  have q1 := own_or q (nay (Cond.lt_ints ei (Term.int_eval lo)) (by rw [Int32.lt_iff_toInt_lt]; omega))
  have q2 := own_or q1 (nay (Cond.le_ints (Term.int_eval hi) ei) (by rw [Int32.le_iff_toInt_le]; omega))
  have q3 := eqv_i (Term.int_eval 1) q2
  exact (elem_f (ev _) ei hc nn).symm.trans q3
theorem own_tab {args : Array Value} {s : State} {a : Addr} {c : Cell} (ev : ((Jvm.Term.static "com/example/atomic_tally/atomictally/model/Names" "EID_CHARS" "[Z")).eval args s none [] s = some (.ref a)) (hcell : s.heap[a]? = some c) (hc : s.arrayAt? a = some c) (hs : c.slots.size = (128 : Int32).toNatClampNeg)
    (e45 : (Jvm.Term.elem (Jvm.Term.static "com/example/atomic_tally/atomictally/model/Names" "EID_CHARS" "[Z") (Jvm.Term.int (45 : Int32))).eval args s none [] s = some (.int 1)) (e46 : (Jvm.Term.elem (Jvm.Term.static "com/example/atomic_tally/atomictally/model/Names" "EID_CHARS" "[Z") (Jvm.Term.int (46 : Int32))).eval args s none [] s = some (.int 1)) (e95 : (Jvm.Term.elem (Jvm.Term.static "com/example/atomic_tally/atomictally/model/Names" "EID_CHARS" "[Z") (Jvm.Term.int (95 : Int32))).eval args s none [] s = some (.int 1))
    (h48 : (Jvm.Cond.all (Jvm.Term.static "com/example/atomic_tally/atomictally/model/Names" "EID_CHARS" "[Z") (Jvm.Cond.or (Jvm.Cond.lt (Jvm.Term.index 0) (Jvm.Term.int (48 : Int32))) (Jvm.Cond.or (Jvm.Cond.le (Jvm.Term.int (59 : Int32)) (Jvm.Term.index 0)) (Jvm.Cond.eq (Jvm.Term.elem (Jvm.Term.static "com/example/atomic_tally/atomictally/model/Names" "EID_CHARS" "[Z") (Jvm.Term.index 0)) (Jvm.Term.int (1 : Int32)))))).value args s none s [] = some true)
    (h65 : (Jvm.Cond.all (Jvm.Term.static "com/example/atomic_tally/atomictally/model/Names" "EID_CHARS" "[Z") (Jvm.Cond.or (Jvm.Cond.lt (Jvm.Term.index 0) (Jvm.Term.int (65 : Int32))) (Jvm.Cond.or (Jvm.Cond.le (Jvm.Term.int (91 : Int32)) (Jvm.Term.index 0)) (Jvm.Cond.eq (Jvm.Term.elem (Jvm.Term.static "com/example/atomic_tally/atomictally/model/Names" "EID_CHARS" "[Z") (Jvm.Term.index 0)) (Jvm.Term.int (1 : Int32)))))).value args s none s [] = some true)
    (h97 : (Jvm.Cond.all (Jvm.Term.static "com/example/atomic_tally/atomictally/model/Names" "EID_CHARS" "[Z") (Jvm.Cond.or (Jvm.Cond.lt (Jvm.Term.index 0) (Jvm.Term.int (97 : Int32))) (Jvm.Cond.or (Jvm.Cond.le (Jvm.Term.int (123 : Int32)) (Jvm.Term.index 0)) (Jvm.Cond.eq (Jvm.Term.elem (Jvm.Term.static "com/example/atomic_tally/atomictally/model/Names" "EID_CHARS" "[Z") (Jvm.Term.index 0)) (Jvm.Term.int (1 : Int32)))))).value args s none s [] = some true) :
    ∀ j, own_ok j → c.slots[j.toNatClampNeg]? = some (.int 1) := fun j ok => by
  have r := own_ok_rng ok
  have hs' : c.slots.size = 128 := hs
  have ev' : ∀ idx, ((Jvm.Term.static "com/example/atomic_tally/atomictally/model/Names" "EID_CHARS" "[Z")).eval args s none idx s = some (.ref a) := fun idx => ev
  rcases ok with rfl | rfl | q | q | rfl | q
  · exact (elem_in e45 ev rfl hcell).2
  · exact (elem_in e46 ev rfl hcell).2
  · exact own_rngT ev' hc hs' h48 r.1 r.2 q.1 q.2
  · exact own_rngT ev' hc hs' h65 r.1 r.2 q.1 q.2
  · exact (elem_in e95 ev rfl hcell).2
  · exact own_rngT ev' hc hs' h97 r.1 r.2 q.1 q.2
def own_Start (Z : State) (s_EID_CHARS : Addr) (cl_T : Cell) (z_CS : Int32) (v_FMT : Value) : Prop := (Sta Z Z.heap "com/example/atomic_tally/atomictally/model/Names" "EID_CHARS" "[Z" (.ref s_EID_CHARS)) ∧ (Arr Z Z.heap s_EID_CHARS cl_T .boolean) ∧ (cl_T.slots.size = (128 : Int32).toNatClampNeg) ∧ (∀ c, own_ok c → cl_T.slots[c.toNatClampNeg]? = some (.int 1)) ∧ (Sta Z Z.heap "java/lang/String" "COMPACT_STRINGS" "Z" (.int z_CS)) ∧ (¬ (z_CS = (0 : Int32))) ∧ (Sta Z Z.heap "jdk/internal/util/Preconditions" "SIOOBE_FORMATTER" "Ljava/util/function/BiFunction;" v_FMT) ∧ (v_FMT.isRef = true)
theorem d1_0 : decode method_2_code 0 = .ok (.iload_n 0, 1) := by decide +kernel
theorem d1_1 : decode method_2_code 1 = .ok (.ldc 7, 2) := by decide +kernel
theorem d1_3 : decode method_2_code 3 = .ok (.iand, 1) := by decide +kernel
theorem d1_4 : decode method_2_code 4 = .ok (.bipush 66, 2) := by decide +kernel
theorem d1_6 : decode method_2_code 6 = .ok (.irem, 1) := by decide +kernel
theorem d1_7 : decode method_2_code 7 = .ok (.istore_n 1, 1) := by decide +kernel
theorem d1_8 : decode method_2_code 8 = .ok (.iload_n 1, 1) := by decide +kernel
theorem d1_9 : decode method_2_code 9 = .ok (.bipush 26, 2) := by decide +kernel
theorem d1_11 : decode method_2_code 11 = .ok (.if_icmp .ge 9, 3) := by decide +kernel
theorem d1_14 : decode method_2_code 14 = .ok (.bipush 65, 2) := by decide +kernel
theorem d1_16 : decode method_2_code 16 = .ok (.iload_n 1, 1) := by decide +kernel
theorem d1_17 : decode method_2_code 17 = .ok (.iadd, 1) := by decide +kernel
theorem d1_18 : decode method_2_code 18 = .ok (.i2c, 1) := by decide +kernel
theorem d1_19 : decode method_2_code 19 = .ok (.ireturn, 1) := by decide +kernel
theorem d1_20 : decode method_2_code 20 = .ok (.iload_n 1, 1) := by decide +kernel
theorem d1_21 : decode method_2_code 21 = .ok (.bipush 52, 2) := by decide +kernel
theorem d1_23 : decode method_2_code 23 = .ok (.if_icmp .ge 12, 3) := by decide +kernel
theorem d1_26 : decode method_2_code 26 = .ok (.bipush 97, 2) := by decide +kernel
theorem d1_28 : decode method_2_code 28 = .ok (.iload_n 1, 1) := by decide +kernel
theorem d1_29 : decode method_2_code 29 = .ok (.bipush 26, 2) := by decide +kernel
theorem d1_31 : decode method_2_code 31 = .ok (.isub, 1) := by decide +kernel
theorem d1_32 : decode method_2_code 32 = .ok (.iadd, 1) := by decide +kernel
theorem d1_33 : decode method_2_code 33 = .ok (.i2c, 1) := by decide +kernel
theorem d1_34 : decode method_2_code 34 = .ok (.ireturn, 1) := by decide +kernel
theorem d1_35 : decode method_2_code 35 = .ok (.iload_n 1, 1) := by decide +kernel
theorem d1_36 : decode method_2_code 36 = .ok (.bipush 62, 2) := by decide +kernel
theorem d1_38 : decode method_2_code 38 = .ok (.if_icmp .ge 12, 3) := by decide +kernel
theorem d1_41 : decode method_2_code 41 = .ok (.bipush 48, 2) := by decide +kernel
theorem d1_43 : decode method_2_code 43 = .ok (.iload_n 1, 1) := by decide +kernel
theorem d1_44 : decode method_2_code 44 = .ok (.bipush 52, 2) := by decide +kernel
theorem d1_46 : decode method_2_code 46 = .ok (.isub, 1) := by decide +kernel
theorem d1_47 : decode method_2_code 47 = .ok (.iadd, 1) := by decide +kernel
theorem d1_48 : decode method_2_code 48 = .ok (.i2c, 1) := by decide +kernel
theorem d1_49 : decode method_2_code 49 = .ok (.ireturn, 1) := by decide +kernel
theorem d1_50 : decode method_2_code 50 = .ok (.iload_n 1, 1) := by decide +kernel
theorem d1_51 : decode method_2_code 51 = .ok (.bipush 62, 2) := by decide +kernel
theorem d1_53 : decode method_2_code 53 = .ok (.if_icmp .ne 6, 3) := by decide +kernel
theorem d1_56 : decode method_2_code 56 = .ok (.bipush 46, 2) := by decide +kernel
theorem d1_58 : decode method_2_code 58 = .ok (.ireturn, 1) := by decide +kernel
theorem d1_59 : decode method_2_code 59 = .ok (.iload_n 1, 1) := by decide +kernel
theorem d1_60 : decode method_2_code 60 = .ok (.bipush 63, 2) := by decide +kernel
theorem d1_62 : decode method_2_code 62 = .ok (.if_icmp .ne 6, 3) := by decide +kernel
theorem d1_65 : decode method_2_code 65 = .ok (.bipush 95, 2) := by decide +kernel
theorem d1_67 : decode method_2_code 67 = .ok (.ireturn, 1) := by decide +kernel
theorem d1_68 : decode method_2_code 68 = .ok (.iload_n 1, 1) := by decide +kernel
theorem d1_69 : decode method_2_code 69 = .ok (.bipush 64, 2) := by decide +kernel
theorem d1_71 : decode method_2_code 71 = .ok (.if_icmp .ne 6, 3) := by decide +kernel
theorem d1_74 : decode method_2_code 74 = .ok (.bipush 58, 2) := by decide +kernel
theorem d1_76 : decode method_2_code 76 = .ok (.ireturn, 1) := by decide +kernel
theorem d1_77 : decode method_2_code 77 = .ok (.bipush 45, 2) := by decide +kernel
theorem d1_79 : decode method_2_code 79 = .ok (.ireturn, 1) := by decide +kernel
theorem own_pn0 : plainName "com/example/atomic_tally/atomictally/model/NamesCheckEidPinLaw" = true := by first | (simp [plainName, overriddenIn]; done) | decide +kernel
def own_Q_eidChar (Z : State)  (x_ : Int32) (h0 : Heap) (n0 : Nat) (v : Option Value) (h : Heap) (L : List Loc) : Prop := (v = some (.int (own_eid x_))) ∧ (Fr n0 L) ∧ (h = h0)
abbrev yM0 : MethodName := ⟨"com/example/atomic_tally/atomictally/model/NamesCheckEidPinLaw", "eidChar", "(I)C"⟩
set_option maxRecDepth 65536 in
set_option maxHeartbeats 40000000 in
theorem rm_eidChar (l : Launch) (Z : State) (a0 : Array Value) (hw : ∀ d ∈ tables_1, d.before a0 Z = true) (ws : List Jvm.Cond)  (x_ : Int32) (h0 : Heap) (n0 : Nat) (O0 : Old Z n0 h0)  :
    oMet l Z yM0 method_2_code 2 (some .char) ws ({ frames := 0, cells := 0, slots := 0, locals := 0 } : Room) 0 0 #[(.int x_)] h0 (own_Q_eidChar Z  x_ h0 n0) := by
  refine oenter own_pn0 #[.val (.int x_), .unset] (fun m => by first | (simp [entryFrame, mkF, argsToLocals, Value.category]; done) | rfl) ?_
  intro p e s m below meth c s₁ X0 hx hZ hby hml hret hown0 hnm hlk e0
  have hown : s.vm.findClass "com/example/atomic_tally/atomictally/model/NamesCheckEidPinLaw" = some m.cls := hown0
  have N0 := Fr.nil n0
  have w4 := hw _ (List.mem_of_getElem? (i := 4) rfl)
  refine o_iloadN X0 hx (hb hby d1_0) rfl ?_
  refine ogo (S' := s₁.setTop (mkF m 3 #[.val (.int x_), .unset] [(.int (2147483647 : Int32)), (.int x_)])) (X0.ldcInt hx hown (mvT hZ w4) (g := (mkF m 1 #[.val (.int x_), .unset] [(.int x_)])) rfl (hb hby d1_1)) ?_
  refine o_iand X0 hx (hb hby d1_3) ?_
  refine o_bipush X0 hx (66 : Int32) (hb hby d1_4) rfl ?_
  refine o_irem X0 hx (hb hby d1_6) (by decide) ?_
  rw [show (x_ &&& (2147483647 : Int32)) % (66 : Int32) = own_k x_ from rfl]
  refine o_istoreN X0 hx (l' := #[.val (.int x_), .val (.int (own_k x_))]) (hb hby d1_7) rfl ?_
  refine o_iloadN X0 hx (hb hby d1_8) rfl ?_
  refine o_bipush X0 hx (26 : Int32) (hb hby d1_9) rfl ?_
  by_cases hc1 : (own_k x_) < (26 : Int32)
  · refine o_icmpNo X0 hx (hb hby d1_11) (tlt hc1).2.1 ?_
    refine o_bipush X0 hx (65 : Int32) (hb hby d1_14) rfl ?_
    refine o_iloadN X0 hx (hb hby d1_16) rfl ?_
    refine o_iadd X0 hx (hb hby d1_17) ?_
    refine o_i2c X0 hx (hb hby d1_18) ?_
    refine oend X0 hlk (v := some (.int (nar .char ((65 : Int32) + (own_k x_))))) (fun h => by rw [hret] at h; cases h) (fun fs hr => retN X0 hx (t := .char) hret (by simp) (hb hby d1_19) (by rw [own_narc _]; exact hr)) (by decide) (by decide) ?_
    show own_Q_eidChar Z _ h0 n0 _ s₁.heap _
    rw [e0]
    refine ⟨?_, N0, rfl⟩
    simp [own_eid, hc1]
  · refine o_icmpYes X0 hx 20 (hb hby d1_11) (flt hc1).2.1 (by decide) (by decide) ?_
    refine o_iloadN X0 hx (hb hby d1_20) rfl ?_
    refine o_bipush X0 hx (52 : Int32) (hb hby d1_21) rfl ?_
    by_cases hc2 : (own_k x_) < (52 : Int32)
    · refine o_icmpNo X0 hx (hb hby d1_23) (tlt hc2).2.1 ?_
      refine o_bipush X0 hx (97 : Int32) (hb hby d1_26) rfl ?_
      refine o_iloadN X0 hx (hb hby d1_28) rfl ?_
      refine o_bipush X0 hx (26 : Int32) (hb hby d1_29) rfl ?_
      refine o_isub X0 hx (hb hby d1_31) ?_
      refine o_iadd X0 hx (hb hby d1_32) ?_
      refine o_i2c X0 hx (hb hby d1_33) ?_
      refine oend X0 hlk (v := some (.int (nar .char ((97 : Int32) + ((own_k x_) - (26 : Int32)))))) (fun h => by rw [hret] at h; cases h) (fun fs hr => retN X0 hx (t := .char) hret (by simp) (hb hby d1_34) (by rw [own_narc _]; exact hr)) (by decide) (by decide) ?_
      show own_Q_eidChar Z _ h0 n0 _ s₁.heap _
      rw [e0]
      refine ⟨?_, N0, rfl⟩
      simp [own_eid, hc1, hc2]
    · refine o_icmpYes X0 hx 35 (hb hby d1_23) (flt hc2).2.1 (by decide) (by decide) ?_
      refine o_iloadN X0 hx (hb hby d1_35) rfl ?_
      refine o_bipush X0 hx (62 : Int32) (hb hby d1_36) rfl ?_
      by_cases hc3 : (own_k x_) < (62 : Int32)
      · refine o_icmpNo X0 hx (hb hby d1_38) (tlt hc3).2.1 ?_
        refine o_bipush X0 hx (48 : Int32) (hb hby d1_41) rfl ?_
        refine o_iloadN X0 hx (hb hby d1_43) rfl ?_
        refine o_bipush X0 hx (52 : Int32) (hb hby d1_44) rfl ?_
        refine o_isub X0 hx (hb hby d1_46) ?_
        refine o_iadd X0 hx (hb hby d1_47) ?_
        refine o_i2c X0 hx (hb hby d1_48) ?_
        refine oend X0 hlk (v := some (.int (nar .char ((48 : Int32) + ((own_k x_) - (52 : Int32)))))) (fun h => by rw [hret] at h; cases h) (fun fs hr => retN X0 hx (t := .char) hret (by simp) (hb hby d1_49) (by rw [own_narc _]; exact hr)) (by decide) (by decide) ?_
        show own_Q_eidChar Z _ h0 n0 _ s₁.heap _
        rw [e0]
        refine ⟨?_, N0, rfl⟩
        simp [own_eid, hc1, hc2, hc3]
      · refine o_icmpYes X0 hx 50 (hb hby d1_38) (flt hc3).2.1 (by decide) (by decide) ?_
        refine o_iloadN X0 hx (hb hby d1_50) rfl ?_
        refine o_bipush X0 hx (62 : Int32) (hb hby d1_51) rfl ?_
        by_cases hc4 : (own_k x_) = (62 : Int32)
        · refine o_icmpNo X0 hx (hb hby d1_53) (teq hc4).2 ?_
          refine o_bipush X0 hx (46 : Int32) (hb hby d1_56) rfl ?_
          refine oend X0 hlk (v := some (.int (46 : Int32))) (fun h => by rw [hret] at h; cases h) (fun fs hr => retN X0 hx (t := .char) hret (by simp) (hb hby d1_58) hr) (by decide) (by decide) ?_
          show own_Q_eidChar Z _ h0 n0 _ s₁.heap _
          rw [e0]
          refine ⟨?_, N0, rfl⟩
          simp [own_eid, hc1, hc2, hc3, hc4]
        · refine o_icmpYes X0 hx 59 (hb hby d1_53) (feq hc4).2 (by decide) (by decide) ?_
          refine o_iloadN X0 hx (hb hby d1_59) rfl ?_
          refine o_bipush X0 hx (63 : Int32) (hb hby d1_60) rfl ?_
          by_cases hc5 : (own_k x_) = (63 : Int32)
          · refine o_icmpNo X0 hx (hb hby d1_62) (teq hc5).2 ?_
            refine o_bipush X0 hx (95 : Int32) (hb hby d1_65) rfl ?_
            refine oend X0 hlk (v := some (.int (95 : Int32))) (fun h => by rw [hret] at h; cases h) (fun fs hr => retN X0 hx (t := .char) hret (by simp) (hb hby d1_67) hr) (by decide) (by decide) ?_
            show own_Q_eidChar Z _ h0 n0 _ s₁.heap _
            rw [e0]
            refine ⟨?_, N0, rfl⟩
            simp [own_eid, hc1, hc2, hc3, hc4, hc5]
          · refine o_icmpYes X0 hx 68 (hb hby d1_62) (feq hc5).2 (by decide) (by decide) ?_
            refine o_iloadN X0 hx (hb hby d1_68) rfl ?_
            refine o_bipush X0 hx (64 : Int32) (hb hby d1_69) rfl ?_
            by_cases hc6 : (own_k x_) = (64 : Int32)
            · refine o_icmpNo X0 hx (hb hby d1_71) (teq hc6).2 ?_
              refine o_bipush X0 hx (58 : Int32) (hb hby d1_74) rfl ?_
              refine oend X0 hlk (v := some (.int (58 : Int32))) (fun h => by rw [hret] at h; cases h) (fun fs hr => retN X0 hx (t := .char) hret (by simp) (hb hby d1_76) hr) (by decide) (by decide) ?_
              show own_Q_eidChar Z _ h0 n0 _ s₁.heap _
              rw [e0]
              refine ⟨?_, N0, rfl⟩
              simp [own_eid, hc1, hc2, hc3, hc4, hc5, hc6]
            · refine o_icmpYes X0 hx 77 (hb hby d1_71) (feq hc6).2 (by decide) (by decide) ?_
              refine o_bipush X0 hx (45 : Int32) (hb hby d1_77) rfl ?_
              refine oend X0 hlk (v := some (.int (45 : Int32))) (fun h => by rw [hret] at h; cases h) (fun fs hr => retN X0 hx (t := .char) hret (by simp) (hb hby d1_79) hr) (by decide) (by decide) ?_
              show own_Q_eidChar Z _ h0 n0 _ s₁.heap _
              rw [e0]
              refine ⟨?_, N0, rfl⟩
              simp [own_eid, hc1, hc2, hc3, hc4, hc5, hc6]
theorem d2_0 : decode jdk_52_method_21_code 0 = .ok (.iconst 0, 1) := by decide +kernel
theorem d2_1 : decode jdk_52_method_21_code 1 = .ok (.istore 5, 2) := by decide +kernel
theorem d2_3 : decode jdk_52_method_21_code 3 = .ok (.iload 5, 2) := by decide +kernel
theorem d2_5 : decode jdk_52_method_21_code 5 = .ok (.iload 4, 2) := by decide +kernel
theorem d2_7 : decode jdk_52_method_21_code 7 = .ok (.if_icmp .ge 37, 3) := by decide +kernel
theorem d2_10 : decode jdk_52_method_21_code 10 = .ok (.aload_n 0, 1) := by decide +kernel
theorem d2_11 : decode jdk_52_method_21_code 11 = .ok (.iload_n 1, 1) := by decide +kernel
theorem d2_12 : decode jdk_52_method_21_code 12 = .ok (.caload, 1) := by decide +kernel
theorem d2_13 : decode jdk_52_method_21_code 13 = .ok (.istore 6, 2) := by decide +kernel
theorem d2_15 : decode jdk_52_method_21_code 15 = .ok (.iload 6, 2) := by decide +kernel
theorem d2_17 : decode jdk_52_method_21_code 17 = .ok (.sipush 255, 3) := by decide +kernel
theorem d2_20 : decode jdk_52_method_21_code 20 = .ok (.if_icmp .le 6, 3) := by decide +kernel
theorem d2_26 : decode jdk_52_method_21_code 26 = .ok (.aload_n 2, 1) := by decide +kernel
theorem d2_27 : decode jdk_52_method_21_code 27 = .ok (.iload_n 3, 1) := by decide +kernel
theorem d2_28 : decode jdk_52_method_21_code 28 = .ok (.iload 6, 2) := by decide +kernel
theorem d2_30 : decode jdk_52_method_21_code 30 = .ok (.i2b, 1) := by decide +kernel
theorem d2_31 : decode jdk_52_method_21_code 31 = .ok (.bastore, 1) := by decide +kernel
theorem d2_32 : decode jdk_52_method_21_code 32 = .ok (.iinc 1 1, 3) := by decide +kernel
theorem d2_35 : decode jdk_52_method_21_code 35 = .ok (.iinc 3 1, 3) := by decide +kernel
theorem d2_38 : decode jdk_52_method_21_code 38 = .ok (.iinc 5 1, 3) := by decide +kernel
theorem d2_41 : decode jdk_52_method_21_code 41 = .ok (.goto (-38), 3) := by decide +kernel
theorem d2_44 : decode jdk_52_method_21_code 44 = .ok (.iload 4, 2) := by decide +kernel
theorem d2_46 : decode jdk_52_method_21_code 46 = .ok (.ireturn, 1) := by decide +kernel
theorem own_pn1 : plainName "java/lang/StringUTF16" = true := by first | (simp [plainName, overriddenIn]; done) | decide +kernel
def own_Q_cmp5_1 (Z : State)  (ca_ : Addr) (kc_ : ClassId) (ba_ : Addr) (kb_ : ClassId) (c0_ : Int32) (h0 : Heap) (n0 : Nat) (v : Option Value) (h : Heap) (L : List Loc) : Prop := (v = some (.int (1 : Int32))) ∧ (Fr n0 L) ∧ (Keep h0 h [ba_]) ∧ (Arv Z h ba_ kb_ .byte (1 : Int32) [(.int c0_.toInt8.toInt32)] (.int 0))
abbrev yM1 : MethodName := ⟨"java/lang/StringUTF16", "compress", "([CI[BII)I"⟩
set_option maxRecDepth 65536 in
set_option maxHeartbeats 40000000 in
theorem rm_cmp5_1 (l : Launch) (Z : State) (a0 : Array Value) (hw : ∀ d ∈ tables_1, d.before a0 Z = true) (ws : List Jvm.Cond)  (ca_ : Addr) (kc_ : ClassId) (ba_ : Addr) (kb_ : ClassId) (c0_ : Int32) (h0 : Heap) (n0 : Nat) (O0 : Old Z n0 h0) (pr0 : Arv Z h0 ca_ kc_ .char (1 : Int32) [(.int c0_)] (.int 0)) (pr1 : Arv Z h0 ba_ kb_ .byte (1 : Int32) [(.int 0)] (.int 0)) (pr2 : ca_ ≠ ba_) (pr3 : n0 ≤ ba_) (pr4 : ¬ ((255 : Int32) < c0_)) :
    oMet l Z yM1 jdk_52_method_21_code 7 (some .int) ws ({ frames := 0, cells := 0, slots := 0, locals := 0 } : Room) 0 0 #[(.ref ca_), (.int (0 : Int32)), (.ref ba_), (.int (0 : Int32)), (.int (1 : Int32))] h0 (own_Q_cmp5_1 Z  ca_ kc_ ba_ kb_ c0_ h0 n0) := by
  refine oenter own_pn1 #[.val (.ref ca_), .val (.int (0 : Int32)), .val (.ref ba_), .val (.int (0 : Int32)), .val (.int (1 : Int32)), .unset, .unset] (fun m => by first | (simp [entryFrame, mkF, argsToLocals, Value.category]; done) | rfl) ?_
  intro p e s m below meth c s₁ X0 hx hZ hby hml hret hown0 hnm hlk e0
  have hown : s.vm.findClass "java/lang/StringUTF16" = some m.cls := hown0
  have N0 := Fr.nil n0
  refine o_iconst X0 hx (0 : Int32) (hb hby d2_0) rfl ?_
  refine o_istore X0 hx (l' := #[.val (.ref ca_), .val (.int (0 : Int32)), .val (.ref ba_), .val (.int (0 : Int32)), .val (.int (1 : Int32)), .val (.int (0 : Int32)), .unset]) (hb hby d2_1) rfl ?_
  refine o_iload X0 hx (hb hby d2_3) rfl ?_
  refine o_iload X0 hx (hb hby d2_5) rfl ?_
  refine o_icmpNo X0 hx (hb hby d2_7) (tlt (by decide : (0 : Int32) < (1 : Int32))).2.1 ?_
  refine o_aloadN X0 hx (hb hby d2_10) rfl rfl ?_
  refine o_iloadN X0 hx (hb hby d2_11) rfl ?_
  obtain ⟨cl1, Ar1, q1, S1, N1z, H1, G1⟩ := (id pr0)
  have hi1 := inb_of (j := (0 : Int32)) S1 ⟨by decide, by decide⟩
  have ha1 := Has.at (v := (.int c0_)) H1 hi1 rfl
  refine ogo (S' := s₁.setTop (mkF m 13 #[.val (.ref ca_), .val (.int (0 : Int32)), .val (.ref ba_), .val (.int (0 : Int32)), .val (.int (1 : Int32)), .val (.int (0 : Int32)), .unset] [(.int c0_)])) (X0.caload hx (j := (0 : Int32)) (v := (.int c0_)) (by rw [e0]; exact Ar1.1) (State.isArrayOf_alike hZ.alike Ar1.2.1) Ar1.2.2 hi1 ha1 (g := (mkF m 12 #[.val (.ref ca_), .val (.int (0 : Int32)), .val (.ref ba_), .val (.int (0 : Int32)), .val (.int (1 : Int32)), .val (.int (0 : Int32)), .unset] [(.int (0 : Int32)), (.ref ca_)])) rfl rfl (hb hby d2_12)) ?_
  refine o_istore X0 hx (l' := #[.val (.ref ca_), .val (.int (0 : Int32)), .val (.ref ba_), .val (.int (0 : Int32)), .val (.int (1 : Int32)), .val (.int (0 : Int32)), .val (.int c0_)]) (hb hby d2_13) rfl ?_
  refine o_iload X0 hx (hb hby d2_15) rfl ?_
  refine o_sipush X0 hx (255 : Int32) (hb hby d2_17) rfl ?_
  refine o_icmpYes X0 hx 26 (hb hby d2_20) (flt pr4).2.2.2 (by decide) (by decide) ?_
  refine o_aloadN X0 hx (hb hby d2_26) rfl rfl ?_
  refine o_iloadN X0 hx (hb hby d2_27) rfl ?_
  refine o_iload X0 hx (hb hby d2_28) rfl ?_
  refine o_i2b X0 hx (hb hby d2_30) ?_
  obtain ⟨cl2, Ar2, q2, S2, N2z, H2, G2⟩ := (id pr1)
  obtain ⟨T2, _, X2, rfl, W2, st2⟩ := stB X0 hx hZ e0 Ar2 (j := (0 : Int32)) (inb_of S2 ⟨by decide, by decide⟩) (g := (mkF m 31 #[.val (.ref ca_), .val (.int (0 : Int32)), .val (.ref ba_), .val (.int (0 : Int32)), .val (.int (1 : Int32)), .val (.int (0 : Int32)), .val (.int c0_)] [(.int c0_.toInt8.toInt32), (.int (0 : Int32)), (.ref ba_)])) rfl rfl (hb hby d2_31)
  rw [own_narb] at W2
  have V2 : Arv Z T2.heap ba_ kb_ .byte (1 : Int32) [(.int c0_.toInt8.toInt32)] (.int 0) := Arv.set Ar2 q2 S2 N2z H2 G2 (fits_nar_byte _) W2 0 rfl (Nat.le_of_ble_eq_true rfl)
  have N2 := Fr.snoc X2 N0 pr3
  refine ogo (S' := T2.setTop (mkF m 32 #[.val (.ref ca_), .val (.int (0 : Int32)), .val (.ref ba_), .val (.int (0 : Int32)), .val (.int (1 : Int32)), .val (.int (0 : Int32)), .val (.int c0_)] [])) st2 ?_
  refine o_iinc X2 hx (l' := #[.val (.ref ca_), .val (.int (1 : Int32)), .val (.ref ba_), .val (.int (0 : Int32)), .val (.int (1 : Int32)), .val (.int (0 : Int32)), .val (.int c0_)]) (hb hby d2_32) rfl rfl ?_
  refine o_iinc X2 hx (l' := #[.val (.ref ca_), .val (.int (1 : Int32)), .val (.ref ba_), .val (.int (1 : Int32)), .val (.int (1 : Int32)), .val (.int (0 : Int32)), .val (.int c0_)]) (hb hby d2_35) rfl rfl ?_
  refine o_iinc X2 hx (l' := #[.val (.ref ca_), .val (.int (1 : Int32)), .val (.ref ba_), .val (.int (1 : Int32)), .val (.int (1 : Int32)), .val (.int (1 : Int32)), .val (.int c0_)]) (hb hby d2_38) rfl rfl ?_
  refine o_goto X2 hx 3 (hb hby d2_41) (by decide) (by decide) ?_
  refine o_iload X2 hx (hb hby d2_3) rfl ?_
  refine o_iload X2 hx (hb hby d2_5) rfl ?_
  refine o_icmpYes X2 hx 44 (hb hby d2_7) (flt (by decide : ¬ ((1 : Int32) < (1 : Int32)))).2.1 (by decide) (by decide) ?_
  refine o_iload X2 hx (hb hby d2_44) rfl ?_
  refine oend X2 hlk (v := some (.int (1 : Int32))) (fun h => by rw [hret] at h; cases h) (fun fs hr => retOut X2 hx (t := .int) (i := .ireturn) hret rfl (Or.inl ⟨rfl, Or.inl rfl, _, rfl⟩) (hb hby d2_46) hr) (by decide) (by decide) ?_
  show own_Q_cmp5_1 Z _ _ _ _ _ h0 n0 _ T2.heap _
  exact ⟨rfl, N2, ((Keep.refl h0 [ba_]).wr W2 (Or.inl (List.mem_of_getElem? (i := 0) rfl))), V2⟩
theorem own_pd0 : parseMethodDescriptor "([CI[BII)I" = some ⟨[(.array .char), .int, (.array .byte), .int, .int], some .int⟩ := by decide +kernel
theorem d3_0 : decode jdk_52_method_16_code 0 = .ok (.iload_n 2, 1) := by decide +kernel
theorem d3_1 : decode jdk_52_method_16_code 1 = .ok (.newarray .byte, 2) := by decide +kernel
theorem d3_3 : decode jdk_52_method_16_code 3 = .ok (.astore_n 3, 1) := by decide +kernel
theorem d3_4 : decode jdk_52_method_16_code 4 = .ok (.aload_n 0, 1) := by decide +kernel
theorem d3_5 : decode jdk_52_method_16_code 5 = .ok (.iload_n 1, 1) := by decide +kernel
theorem d3_6 : decode jdk_52_method_16_code 6 = .ok (.aload_n 3, 1) := by decide +kernel
theorem d3_7 : decode jdk_52_method_16_code 7 = .ok (.iconst 0, 1) := by decide +kernel
theorem d3_8 : decode jdk_52_method_16_code 8 = .ok (.iload_n 2, 1) := by decide +kernel
theorem d3_9 : decode jdk_52_method_16_code 9 = .ok (.invokestatic 115, 3) := by decide +kernel
theorem d3_12 : decode jdk_52_method_16_code 12 = .ok (.istore 4, 2) := by decide +kernel
theorem d3_14 : decode jdk_52_method_16_code 14 = .ok (.iload 4, 2) := by decide +kernel
theorem d3_16 : decode jdk_52_method_16_code 16 = .ok (.iload_n 2, 1) := by decide +kernel
theorem d3_17 : decode jdk_52_method_16_code 17 = .ok (.if_icmp .eq 40, 3) := by decide +kernel
theorem d3_57 : decode jdk_52_method_16_code 57 = .ok (.aload_n 3, 1) := by decide +kernel
theorem d3_58 : decode jdk_52_method_16_code 58 = .ok (.areturn, 1) := by decide +kernel
def own_Q_cmp3_1 (Z : State)  (ca_ : Addr) (kc_ : ClassId) (c0_ : Int32) (h0 : Heap) (n0 : Nat) (v : Option Value) (h : Heap) (L : List Loc) : Prop := ∃ ba_ : Addr, ∃ kb_ : ClassId, (v = some (.ref ba_)) ∧ (Fr n0 L) ∧ (Keep h0 h []) ∧ (h0.size ≤ ba_) ∧ (Arv Z h ba_ kb_ .byte (1 : Int32) [(.int c0_.toInt8.toInt32)] (.int 0))
abbrev yM2 : MethodName := ⟨"java/lang/StringUTF16", "compress", "([CII)[B"⟩
set_option maxRecDepth 65536 in
set_option maxHeartbeats 40000000 in
theorem rm_cmp3_1 (l : Launch) (Z : State) (a0 : Array Value) (hw : ∀ d ∈ tables_1, d.before a0 Z = true) (ws : List Jvm.Cond)  (ca_ : Addr) (kc_ : ClassId) (c0_ : Int32) (h0 : Heap) (n0 : Nat) (O0 : Old Z n0 h0) (pr0 : Arv Z h0 ca_ kc_ .char (1 : Int32) [(.int c0_)] (.int 0)) (pr1 : ¬ ((255 : Int32) < c0_)) :
    oMet l Z yM2 jdk_52_method_16_code 6 (some (.array .byte)) ws ({ frames := 1, cells := 1, slots := 1, locals := 18 } : Room) 1 1 #[(.ref ca_), (.int (0 : Int32)), (.int (1 : Int32))] h0 (own_Q_cmp3_1 Z  ca_ kc_ c0_ h0 n0) := by
  refine oenter own_pn1 #[.val (.ref ca_), .val (.int (0 : Int32)), .val (.int (1 : Int32)), .unset, .unset, .unset] (fun m => by first | (simp [entryFrame, mkF, argsToLocals, Value.category]; done) | rfl) ?_
  intro p e s m below meth c s₁ X0 hx hZ hby hml hret hown0 hnm hlk e0
  have hown : s.vm.findClass "java/lang/StringUTF16" = some m.cls := hown0
  have N0 := Fr.nil n0
  have w25 := hw _ (List.mem_of_getElem? (i := 25) rfl)
  have w27 := hw _ (List.mem_of_getElem? (i := 27) rfl)
  have w28 := hw _ (List.mem_of_getElem? (i := 28) rfl)
  have w29 := hw _ (List.mem_of_getElem? (i := 29) rfl)
  have w30 := hw _ (List.mem_of_getElem? (i := 30) rfl)
  refine o_iloadN X0 hx (hb hby d3_0) rfl ?_
  obtain ⟨T1, _, k1, X1, rfl, E1, A1, Ex1, st1⟩ := newPE (aty := .byte) X0 hx hZ w27 e0 (g := (mkF m 1 #[.val (.ref ca_), .val (.int (0 : Int32)), .val (.int (1 : Int32)), .unset, .unset, .unset] [(.int (1 : Int32))])) rfl (hb hby d3_1) rfl (by decide) (cap := 1) (by decide) (by decide) (by decide) (by decide) (ad := "[B") rfl
  obtain ⟨b1, g1⟩ : ∃ z, z = h0.size := ⟨_, rfl⟩
  rw [← g1] at A1 Ex1 st1
  have n0_b1 : n0 ≤ b1 := Nat.le_trans (Nat.le_trans (Nat.le_of_eq O0.1.symm) O0.2.1) (Nat.le_trans (Nat.le_refl _) (Nat.le_of_eq g1.symm))
  have V1 : Arv Z T1.heap b1 k1 .byte (1 : Int32) [(.int 0)] (.int 0) := (Arv.new A1 (by decide)).pad (pad_rep [] (.int 0) 1)
  refine ogo (S' := T1.setTop (mkF m 3 #[.val (.ref ca_), .val (.int (0 : Int32)), .val (.int (1 : Int32)), .unset, .unset, .unset] [(.ref b1)])) st1 ?_
  refine o_astoreN X1 hx (l' := #[.val (.ref ca_), .val (.int (0 : Int32)), .val (.int (1 : Int32)), .val (.ref b1), .unset, .unset]) (hb hby d3_3) rfl rfl ?_
  refine o_aloadN X1 hx (hb hby d3_4) rfl rfl ?_
  refine o_iloadN X1 hx (hb hby d3_5) rfl ?_
  refine o_aloadN X1 hx (hb hby d3_6) rfl rfl ?_
  refine o_iconst X1 hx (0 : Int32) (hb hby d3_7) rfl ?_
  refine o_iloadN X1 hx (hb hby d3_8) rfl ?_
  obtain ⟨_, _, ⟨T2, L2, kc2, n2⟩, -, X2, ⟨Lc2, hQ2, l2, y2, z2⟩, st2⟩ := Jvm.LawKit.callS X1 hx (y := yM1) hown (mvT hZ w28) (mvT hZ w29) (mvT hZ w25) (mvT hZ w30) (by decide) (backOf (W := 0) (rm_cmp5_1 l Z a0 hw []  ca_ kc_ b1 k1 c0_ T1.heap n0 (O0.ext E1) (pr0.ext E1) V1 (Nat.ne_of_lt (Nat.lt_of_lt_of_le (Nat.lt_of_lt_of_le pr0.lt (Nat.le_refl _)) (Nat.le_of_eq g1.symm))) n0_b1 pr1) hZ w30 w25 (by decide) (by decide)) (g := (mkF m 9 #[.val (.ref ca_), .val (.int (0 : Int32)), .val (.int (1 : Int32)), .val (.ref b1), .unset, .unset] [(.int (1 : Int32)), (.int (0 : Int32)), (.ref b1), (.int (0 : Int32)), (.ref ca_)])) rfl (by rw [hml]; rfl) (argsL := [(.ref ca_), (.int (0 : Int32)), (.ref b1), (.int (0 : Int32)), (.int (1 : Int32))]) (rest := []) (lenOf own_pd0 rfl) rfl (by show 2 * 0 + _ ≤ _; exact Nat.le_of_eq rfl) (hb hby d3_9) (fun _ _ => ⟨rfl, rfl, (by decide : 1 + 0 ≤ _), (by decide : 1 + 0 ≤ _)⟩)
  dsimp only [Pt.U, Pt.locs, Pt.cells, Pt.slots] at X2 l2 y2 z2 st2 hQ2
  subst l2 y2 z2
  obtain ⟨rfl, Nq2, K2, p2_0⟩ := hQ2
  have N2 := Fr.app N0 Nq2
  refine ogo (S' := T2.setTop (mkF m 12 #[.val (.ref ca_), .val (.int (0 : Int32)), .val (.int (1 : Int32)), .val (.ref b1), .unset, .unset] [(.int (1 : Int32))])) st2 ?_
  refine o_istore X2 hx (l' := #[.val (.ref ca_), .val (.int (0 : Int32)), .val (.int (1 : Int32)), .val (.ref b1), .val (.int (1 : Int32)), .unset]) (hb hby d3_12) rfl ?_
  refine o_iload X2 hx (hb hby d3_14) rfl ?_
  refine o_iloadN X2 hx (hb hby d3_16) rfl ?_
  refine o_icmpYes X2 hx 57 (hb hby d3_17) (teq (by decide : (1 : Int32) = (1 : Int32))).1 (by decide) (by decide) ?_
  refine o_aloadN X2 hx (hb hby d3_57) rfl rfl ?_
  refine oend X2 hlk (v := some (.ref b1)) (fun h => by rw [hret] at h; cases h) (fun fs hr => retOut X2 hx (t := (.array .byte)) (i := .areturn) hret rfl (Or.inr (Or.inr (Or.inr (Or.inr ⟨rfl, rfl, rfl⟩)))) (hb hby d3_58) hr) (by decide) (by decide) ?_
  show own_Q_cmp3_1 Z _ _ _ h0 n0 _ T2.heap _
  exact ⟨b1, k1, rfl, N2, (((Keep.refl h0 []).ext E1).trans K2 (allS (Or.inr (Nat.le_trans (Nat.le_refl _) (Nat.le_of_eq g1.symm))) all0)), (Nat.le_trans (Nat.le_refl _) (Nat.le_of_eq g1.symm)), p2_0⟩
theorem d4_0 : decode jdk_52_method_15_code 0 = .ok (.iload_n 1, 1) := by decide +kernel
theorem d4_1 : decode jdk_52_method_15_code 1 = .ok (.aload_n 0, 1) := by decide +kernel
theorem d4_2 : decode jdk_52_method_15_code 2 = .ok (.arraylength, 1) := by decide +kernel
theorem d4_3 : decode jdk_52_method_15_code 3 = .ok (.isub, 1) := by decide +kernel
theorem d4_4 : decode jdk_52_method_15_code 4 = .ok (.bipush 31, 2) := by decide +kernel
theorem d4_6 : decode jdk_52_method_15_code 6 = .ok (.iushr, 1) := by decide +kernel
theorem d4_7 : decode jdk_52_method_15_code 7 = .ok (.i2b, 1) := by decide +kernel
theorem d4_8 : decode jdk_52_method_15_code 8 = .ok (.ireturn, 1) := by decide +kernel
def own_Q_codl_1 (Z : State)  (ba_ : Addr) (kb_ : ClassId) (vs_ : List Value) (h0 : Heap) (n0 : Nat) (v : Option Value) (h : Heap) (L : List Loc) : Prop := (v = some (.int (0 : Int32))) ∧ (Fr n0 L) ∧ (h = h0)
abbrev yM3 : MethodName := ⟨"java/lang/StringUTF16", "coderFromArrayLen", "([BI)B"⟩
set_option maxRecDepth 65536 in
set_option maxHeartbeats 40000000 in
theorem rm_codl_1 (l : Launch) (Z : State) (a0 : Array Value) (hw : ∀ d ∈ tables_1, d.before a0 Z = true) (ws : List Jvm.Cond)  (ba_ : Addr) (kb_ : ClassId) (vs_ : List Value) (h0 : Heap) (n0 : Nat) (O0 : Old Z n0 h0) (pr0 : Arv Z h0 ba_ kb_ .byte (1 : Int32) vs_ (.int 0)) :
    oMet l Z yM3 jdk_52_method_15_code 2 (some .byte) ws ({ frames := 0, cells := 0, slots := 0, locals := 0 } : Room) 0 0 #[(.ref ba_), (.int (1 : Int32))] h0 (own_Q_codl_1 Z  ba_ kb_ vs_ h0 n0) := by
  refine oenter own_pn1 #[.val (.ref ba_), .val (.int (1 : Int32))] (fun m => by first | (simp [entryFrame, mkF, argsToLocals, Value.category]; done) | rfl) ?_
  intro p e s m below meth c s₁ X0 hx hZ hby hml hret hown0 hnm hlk e0
  have hown : s.vm.findClass "java/lang/StringUTF16" = some m.cls := hown0
  have N0 := Fr.nil n0
  refine o_iloadN X0 hx (hb hby d4_0) rfl ?_
  refine o_aloadN X0 hx (hb hby d4_1) rfl rfl ?_
  obtain ⟨cl1, Ar1, -, S1, N1z, -, -⟩ := (id pr0)
  refine ogo (S' := s₁.setTop (mkF m 3 #[.val (.ref ba_), .val (.int (1 : Int32))] [(.int (1 : Int32)), (.int (1 : Int32))])) (fun _ kt_ => X0.arraylength hx (by rw [e0]; exact Ar1.1) (State.isArrayOf_alike hZ.alike Ar1.2.1) (g := (mkF m 2 #[.val (.ref ba_), .val (.int (1 : Int32))] [(.ref ba_), (.int (1 : Int32))])) rfl rfl (hb hby d4_2) _ (by rw [len_of S1 N1z]; exact kt_)) ?_
  refine o_isub X0 hx (hb hby d4_3) ?_
  refine o_bipush X0 hx (31 : Int32) (hb hby d4_4) rfl ?_
  refine o_iushr X0 hx (hb hby d4_6) ?_
  refine o_i2b X0 hx (hb hby d4_7) ?_
  refine oend X0 hlk (v := some (.int (0 : Int32))) (fun h => by rw [hret] at h; cases h) (fun fs hr => retN X0 hx (t := .byte) hret (by simp) (hb hby d4_8) hr) (by decide) (by decide) ?_
  show own_Q_codl_1 Z _ _ _ h0 n0 _ s₁.heap _
  rw [e0]
  exact ⟨rfl, N0, rfl⟩
theorem own_pd1 : parseMethodDescriptor "([CII)[B" = some ⟨[(.array .char), .int, .int], some (.array .byte)⟩ := by decide +kernel
theorem own_pd2 : parseMethodDescriptor "([BI)B" = some ⟨[(.array .byte), .int], some .byte⟩ := by decide +kernel
theorem d5_0 : decode jdk_42_method_149_code 0 = .ok (.aload_n 0, 1) := by decide +kernel
theorem d5_1 : decode jdk_42_method_149_code 1 = .ok (.invokespecial 1, 3) := by decide +kernel
theorem d5_4 : decode jdk_42_method_149_code 4 = .ok (.iload_n 3, 1) := by decide +kernel
theorem d5_5 : decode jdk_42_method_149_code 5 = .ok (.ifCond .ne 22, 3) := by decide +kernel
theorem d5_27 : decode jdk_42_method_149_code 27 = .ok (.getstatic 38, 3) := by decide +kernel
theorem d5_30 : decode jdk_42_method_149_code 30 = .ok (.ifCond .eq 28, 3) := by decide +kernel
theorem d5_33 : decode jdk_42_method_149_code 33 = .ok (.aload_n 1, 1) := by decide +kernel
theorem d5_34 : decode jdk_42_method_149_code 34 = .ok (.iload_n 2, 1) := by decide +kernel
theorem d5_35 : decode jdk_42_method_149_code 35 = .ok (.iload_n 3, 1) := by decide +kernel
theorem d5_36 : decode jdk_42_method_149_code 36 = .ok (.invokestatic 177, 3) := by decide +kernel
theorem d5_39 : decode jdk_42_method_149_code 39 = .ok (.astore 5, 2) := by decide +kernel
theorem d5_41 : decode jdk_42_method_149_code 41 = .ok (.aload_n 0, 1) := by decide +kernel
theorem d5_42 : decode jdk_42_method_149_code 42 = .ok (.aload 5, 2) := by decide +kernel
theorem d5_44 : decode jdk_42_method_149_code 44 = .ok (.iload_n 3, 1) := by decide +kernel
theorem d5_45 : decode jdk_42_method_149_code 45 = .ok (.invokestatic 47, 3) := by decide +kernel
theorem d5_48 : decode jdk_42_method_149_code 48 = .ok (.putfield 15, 3) := by decide +kernel
theorem d5_51 : decode jdk_42_method_149_code 51 = .ok (.aload_n 0, 1) := by decide +kernel
theorem d5_52 : decode jdk_42_method_149_code 52 = .ok (.aload 5, 2) := by decide +kernel
theorem d5_54 : decode jdk_42_method_149_code 54 = .ok (.putfield 9, 3) := by decide +kernel
theorem d5_57 : decode jdk_42_method_149_code 57 = .ok (.return_, 1) := by decide +kernel
theorem own_pn2 : plainName "java/lang/String" = true := by first | (simp [plainName, overriddenIn]; done) | decide +kernel
def own_Q_new4_1 (Z : State) (s_EID_CHARS : Addr) (cl_T : Cell) (z_CS : Int32) (v_FMT : Value) (x_ : Addr) (ca_ : Addr) (kc_ : ClassId) (c0_ : Int32) (h0 : Heap) (n0 : Nat) (v : Option Value) (h : Heap) (L : List Loc) : Prop := ∃ ba_ : Addr, ∃ kb_ : ClassId, (v = none) ∧ (Fr n0 L) ∧ (Keep h0 h [x_]) ∧ (h0.size ≤ ba_) ∧ (Arv Z h ba_ kb_ .byte (1 : Int32) [(.int c0_.toInt8.toInt32)] (.int 0)) ∧ (Exa Z h x_ "java/lang/String") ∧ (Fld Z h x_ "java/lang/String" "value" "[B" (.ref ba_)) ∧ (Fld Z h x_ "java/lang/String" "coder" "B" (.int (0 : Int32)))
abbrev yM4 : MethodName := ⟨"java/lang/String", "<init>", "([CIILjava/lang/Void;)V"⟩
set_option maxRecDepth 65536 in
set_option maxHeartbeats 40000000 in
theorem rm_new4_1 (l : Launch) (Z : State) (a0 : Array Value) (hw : ∀ d ∈ tables_1, d.before a0 Z = true) (ws : List Jvm.Cond) (s_EID_CHARS : Addr) (cl_T : Cell) (z_CS : Int32) (v_FMT : Value) (x_ : Addr) (ca_ : Addr) (kc_ : ClassId) (c0_ : Int32) (h0 : Heap) (n0 : Nat) (SB : own_Start Z s_EID_CHARS cl_T z_CS v_FMT) (O0 : Old Z n0 h0) (pr0 : Exa Z h0 x_ "java/lang/String") (pr1 : Fld Z h0 x_ "java/lang/String" "value" "[B" .null) (pr2 : Fld Z h0 x_ "java/lang/String" "coder" "B" (.int (0 : Int32))) (pr3 : Arv Z h0 ca_ kc_ .char (1 : Int32) [(.int c0_)] (.int 0)) (pr4 : n0 ≤ x_) (pr5 : ¬ ((255 : Int32) < c0_)) :
    oMet l Z yM4 jdk_42_method_149_code 6 none ws ({ frames := 2, cells := 1, slots := 1, locals := 35 } : Room) 1 1 #[(.ref x_), (.ref ca_), (.int (0 : Int32)), (.int (1 : Int32)), .null] h0 (own_Q_new4_1 Z s_EID_CHARS cl_T z_CS v_FMT x_ ca_ kc_ c0_ h0 n0) := by
  refine oenter own_pn2 #[.val (.ref x_), .val (.ref ca_), .val (.int (0 : Int32)), .val (.int (1 : Int32)), .val .null, .unset] (fun m => by first | (simp [entryFrame, mkF, argsToLocals, Value.category]; done) | rfl) ?_
  intro p e s m below meth c s₁ X0 hx hZ hby hml hret hown0 hnm hlk e0
  have hown : s.vm.findClass "java/lang/String" = some m.cls := hown0
  have N0 := Fr.nil n0
  obtain ⟨S_s_EID_CHARS, A_T, L_T, T_T, S_CS, H_CS, S_FMT, R_FMT⟩ := (id SB)
  have w9 := hw _ (List.mem_of_getElem? (i := 9) rfl)
  have w19 := hw _ (List.mem_of_getElem? (i := 19) rfl)
  have w20 := hw _ (List.mem_of_getElem? (i := 20) rfl)
  have w21 := hw _ (List.mem_of_getElem? (i := 21) rfl)
  have w22 := hw _ (List.mem_of_getElem? (i := 22) rfl)
  have w23 := hw _ (List.mem_of_getElem? (i := 23) rfl)
  have w24 := hw _ (List.mem_of_getElem? (i := 24) rfl)
  have w25 := hw _ (List.mem_of_getElem? (i := 25) rfl)
  have w26 := hw _ (List.mem_of_getElem? (i := 26) rfl)
  have w31 := hw _ (List.mem_of_getElem? (i := 31) rfl)
  have w32 := hw _ (List.mem_of_getElem? (i := 32) rfl)
  have w33 := hw _ (List.mem_of_getElem? (i := 33) rfl)
  have w34 := hw _ (List.mem_of_getElem? (i := 34) rfl)
  have w35 := hw _ (List.mem_of_getElem? (i := 35) rfl)
  have w36 := hw _ (List.mem_of_getElem? (i := 36) rfl)
  have w37 := hw _ (List.mem_of_getElem? (i := 37) rfl)
  refine o_aloadN X0 hx (hb hby d5_0) rfl rfl ?_
  obtain ⟨T1, X1, e1, st1⟩ := initO X0 hx hZ hown w19 w20 w21 e0 (g := (mkF m 1 #[.val (.ref x_), .val (.ref ca_), .val (.int (0 : Int32)), .val (.int (1 : Int32)), .val .null, .unset] [(.ref x_)])) rfl (by rw [hml]; rfl) rfl (hb hby d5_1) (by decide) (W := 0) (by show 2 * 0 + _ ≤ _; exact Nat.le_of_eq rfl) (by decide)
  refine ogo (S' := T1.setTop (mkF m 4 #[.val (.ref x_), .val (.ref ca_), .val (.int (0 : Int32)), .val (.int (1 : Int32)), .val .null, .unset] [])) st1 ?_
  refine o_iloadN X1 hx (hb hby d5_4) rfl ?_
  refine o_ifYes X1 hx 27 (hb hby d5_5) (feq (by decide : ¬ ((1 : Int32) = (0 : Int32)))).2 (by decide) (by decide) ?_
  obtain ⟨T2, X2, e2, st2⟩ := getS2 X1 hx hZ hown (host := "") (Or.inl w22) Via.refl e1 (Sta.ext O0.2 S_CS) (g := (mkF m 27 #[.val (.ref x_), .val (.ref ca_), .val (.int (0 : Int32)), .val (.int (1 : Int32)), .val .null, .unset] [])) rfl (hb hby d5_27)
  refine ogo (S' := T2.setTop (mkF m 30 #[.val (.ref x_), .val (.ref ca_), .val (.int (0 : Int32)), .val (.int (1 : Int32)), .val .null, .unset] [(.int z_CS)])) st2 ?_
  refine o_ifNo X2 hx (hb hby d5_30) (feq H_CS).1 ?_
  refine o_aloadN X2 hx (hb hby d5_33) rfl rfl ?_
  refine o_iloadN X2 hx (hb hby d5_34) rfl ?_
  refine o_iloadN X2 hx (hb hby d5_35) rfl ?_
  obtain ⟨_, _, ⟨T3, L3, kc3, n3⟩, -, X3, ⟨Lc3, hQ3, l3, y3, z3⟩, st3⟩ := Jvm.LawKit.callS X2 hx (y := yM2) hown (mvT hZ w23) (mvT hZ w24) (mvT hZ w25) (mvT hZ w26) (by decide) (backOf (W := 0) (rm_cmp3_1 l Z a0 hw []  ca_ kc_ c0_ h0 n0 O0 pr3 pr5) hZ w26 w25 (by decide) (by decide)) (g := (mkF m 36 #[.val (.ref x_), .val (.ref ca_), .val (.int (0 : Int32)), .val (.int (1 : Int32)), .val .null, .unset] [(.int (1 : Int32)), (.int (0 : Int32)), (.ref ca_)])) rfl (by rw [hml]; rfl) (argsL := [(.ref ca_), (.int (0 : Int32)), (.int (1 : Int32))]) (rest := []) (lenOf own_pd1 rfl) rfl (by show 2 * 0 + _ ≤ _; exact Nat.le_of_eq rfl) (hb hby d5_36) (fun _ _ => ⟨rfl, e2, (by decide : 0 + 1 ≤ _), (by decide : 0 + 1 ≤ _)⟩)
  dsimp only [Pt.U, Pt.locs, Pt.cells, Pt.slots] at X3 l3 y3 z3 st3 hQ3
  subst l3 y3 z3
  obtain ⟨ba_3, kb_3, rfl, Nq3, K3, p3_0, p3_1⟩ := hQ3
  have N3 := Fr.app N0 Nq3
  have n0_ba_3 : n0 ≤ ba_3 := Nat.le_trans (Nat.le_trans (Nat.le_of_eq O0.1.symm) O0.2.1) (Nat.le_trans (Nat.le_refl _) p3_0)
  refine ogo (S' := T3.setTop (mkF m 39 #[.val (.ref x_), .val (.ref ca_), .val (.int (0 : Int32)), .val (.int (1 : Int32)), .val .null, .unset] [(.ref ba_3)])) st3 ?_
  refine o_astore X3 hx (l' := #[.val (.ref x_), .val (.ref ca_), .val (.int (0 : Int32)), .val (.int (1 : Int32)), .val .null, .val (.ref ba_3)]) (hb hby d5_39) rfl rfl ?_
  refine o_aloadN X3 hx (hb hby d5_41) rfl rfl ?_
  refine o_aload X3 hx (hb hby d5_42) rfl rfl ?_
  refine o_iloadN X3 hx (hb hby d5_44) rfl ?_
  obtain ⟨_, _, ⟨T4, L4, kc4, n4⟩, -, X4, ⟨Lc4, hQ4, l4, y4, z4⟩, st4⟩ := Jvm.LawKit.callS X3 hx (y := yM3) hown (mvT hZ w31) (mvT hZ w32) (mvT hZ w25) (mvT hZ w33) (by decide) (backOf (W := 1) (rm_codl_1 l Z a0 hw []  ba_3 kb_3 [(.int c0_.toInt8.toInt32)] T3.heap n0 (O0.keep K3 all0) p3_1) hZ w33 w25 (by decide) (by decide)) (g := (mkF m 45 #[.val (.ref x_), .val (.ref ca_), .val (.int (0 : Int32)), .val (.int (1 : Int32)), .val .null, .val (.ref ba_3)] [(.int (1 : Int32)), (.ref ba_3), (.ref x_)])) rfl (by rw [hml]; rfl) (argsL := [(.ref ba_3), (.int (1 : Int32))]) (rest := [(.ref x_)]) (lenOf own_pd2 rfl) rfl (by show 2 * 0 + _ ≤ _; exact Nat.le_of_eq rfl) (hb hby d5_45) (fun _ _ => ⟨rfl, rfl, (by decide : 1 + 0 ≤ _), (by decide : 1 + 0 ≤ _)⟩)
  dsimp only [Pt.U, Pt.locs, Pt.cells, Pt.slots] at X4 l4 y4 z4 st4 hQ4
  subst l4 y4 z4
  obtain ⟨rfl, Nq4, e4⟩ := hQ4
  have N4 := Fr.app N3 Nq4
  refine ogo (S' := T4.setTop (mkF m 48 #[.val (.ref x_), .val (.ref ca_), .val (.int (0 : Int32)), .val (.int (1 : Int32)), .val .null, .val (.ref ba_3)] [(.int (0 : Int32)), (.ref x_)])) st4 ?_
  obtain ⟨T5, _, X5, rfl, W5, st5⟩ := putFN X4 hx hZ hown w34 Via.refl e4 (pr2.keep K3 nin0) (pr0.keep K3) (Or.inr ⟨w35, rfl, hnm⟩) w9 (ty := .byte) (v' := (.int (0 : Int32))) (by decide) rfl (by decide) (g := (mkF m 48 #[.val (.ref x_), .val (.ref ca_), .val (.int (0 : Int32)), .val (.int (1 : Int32)), .val .null, .val (.ref ba_3)] [(.int (0 : Int32)), (.ref x_)])) rfl rfl (hb hby d5_48)
  have N5 := Fr.snoc X5 N4 pr4
  have F5 := Fld.same W5 (pr2.keep K3 nin0)
  refine ogo (S' := T5.setTop (mkF m 51 #[.val (.ref x_), .val (.ref ca_), .val (.int (0 : Int32)), .val (.int (1 : Int32)), .val .null, .val (.ref ba_3)] [])) st5 ?_
  refine o_aloadN X5 hx (hb hby d5_51) rfl rfl ?_
  refine o_aload X5 hx (hb hby d5_52) rfl rfl ?_
  have c7 := (Fld.other W5 (pr1.keep K3 nin0) (Or.inr (slot_ne (Or.inr w37) (Or.inr w35) (by decide) (t := (.array .byte)) (t' := .byte) (by decide) (by decide))))
  obtain ⟨T6, _, X6, rfl, W6, st6⟩ := putF X5 hx hZ hown (host := "") (Or.inl w36) Via.refl rfl c7 (Exa.wr W5 (pr0.keep K3)) (Or.inr ⟨w37, rfl, hnm⟩) w9 (ty := (.array .byte)) (by decide) rfl rfl (g := (mkF m 54 #[.val (.ref x_), .val (.ref ca_), .val (.int (0 : Int32)), .val (.int (1 : Int32)), .val .null, .val (.ref ba_3)] [(.ref ba_3), (.ref x_)])) rfl rfl (hb hby d5_54)
  have N6 := Fr.snoc X6 N5 pr4
  have F6 := Fld.same W6 c7
  refine ogo (S' := T6.setTop (mkF m 57 #[.val (.ref x_), .val (.ref ca_), .val (.int (0 : Int32)), .val (.int (1 : Int32)), .val .null, .val (.ref ba_3)] [])) st6 ?_
  have c8 := ((p3_1.other W5 (Nat.ne_of_gt (Nat.lt_of_lt_of_le (Nat.lt_of_lt_of_le pr0.lt (Nat.le_refl _)) p3_0))).other W6 (Nat.ne_of_gt (Nat.lt_of_lt_of_le (Nat.lt_of_lt_of_le pr0.lt (Nat.le_refl _)) p3_0)))
  have c9 := (Fld.other W6 F5 (Or.inr (slot_ne (Or.inr w35) (Or.inr w37) (by decide) (t := .byte) (t' := (.array .byte)) (by decide) (by decide))))
  refine oend X6 hlk (v := none) (fun _ => rfl) (fun fs hr => X6.returnOut hx hret (hb hby d5_57) hr) (by decide) (by decide) ?_
  show own_Q_new4_1 Z _ _ _ _ _ _ _ _ h0 n0 _ T6.heap _
  exact ⟨ba_3, kb_3, rfl, N6, ((((Keep.refl h0 [x_]).trans K3 all0).wr W5 (Or.inl (List.mem_of_getElem? (i := 0) rfl))).wr W6 (Or.inl (List.mem_of_getElem? (i := 0) rfl))), (Nat.le_trans (Nat.le_refl _) p3_0), c8, (Exa.wr W6 (Exa.wr W5 (pr0.keep K3))), F6, c9⟩
theorem own_pd3 : parseMethodDescriptor "([CIILjava/lang/Void;)V" = some ⟨[(.array .char), .int, .int, (.object "java/lang/Void")], none⟩ := by decide +kernel
theorem d6_0 : decode jdk_42_method_3_code 0 = .ok (.aload_n 0, 1) := by decide +kernel
theorem d6_1 : decode jdk_42_method_3_code 1 = .ok (.aload_n 1, 1) := by decide +kernel
theorem d6_2 : decode jdk_42_method_3_code 2 = .ok (.iconst 0, 1) := by decide +kernel
theorem d6_3 : decode jdk_42_method_3_code 3 = .ok (.aload_n 1, 1) := by decide +kernel
theorem d6_4 : decode jdk_42_method_3_code 4 = .ok (.arraylength, 1) := by decide +kernel
theorem d6_5 : decode jdk_42_method_3_code 5 = .ok (.aconst_null, 1) := by decide +kernel
theorem d6_6 : decode jdk_42_method_3_code 6 = .ok (.invokespecial 27, 3) := by decide +kernel
theorem d6_9 : decode jdk_42_method_3_code 9 = .ok (.return_, 1) := by decide +kernel
def own_Q_new1_1 (Z : State) (s_EID_CHARS : Addr) (cl_T : Cell) (z_CS : Int32) (v_FMT : Value) (x_ : Addr) (ca_ : Addr) (kc_ : ClassId) (c0_ : Int32) (h0 : Heap) (n0 : Nat) (v : Option Value) (h : Heap) (L : List Loc) : Prop := ∃ ba_ : Addr, ∃ kb_ : ClassId, (v = none) ∧ (Fr n0 L) ∧ (Keep h0 h [x_]) ∧ (h0.size ≤ ba_) ∧ (Arv Z h ba_ kb_ .byte (1 : Int32) [(.int c0_.toInt8.toInt32)] (.int 0)) ∧ (Exa Z h x_ "java/lang/String") ∧ (Fld Z h x_ "java/lang/String" "value" "[B" (.ref ba_)) ∧ (Fld Z h x_ "java/lang/String" "coder" "B" (.int (0 : Int32)))
abbrev yM5 : MethodName := ⟨"java/lang/String", "<init>", "([C)V"⟩
set_option maxRecDepth 65536 in
set_option maxHeartbeats 40000000 in
theorem rm_new1_1 (l : Launch) (Z : State) (a0 : Array Value) (hw : ∀ d ∈ tables_1, d.before a0 Z = true) (ws : List Jvm.Cond) (s_EID_CHARS : Addr) (cl_T : Cell) (z_CS : Int32) (v_FMT : Value) (x_ : Addr) (ca_ : Addr) (kc_ : ClassId) (c0_ : Int32) (h0 : Heap) (n0 : Nat) (SB : own_Start Z s_EID_CHARS cl_T z_CS v_FMT) (O0 : Old Z n0 h0) (pr0 : Exa Z h0 x_ "java/lang/String") (pr1 : Fld Z h0 x_ "java/lang/String" "value" "[B" .null) (pr2 : Fld Z h0 x_ "java/lang/String" "coder" "B" (.int (0 : Int32))) (pr3 : Arv Z h0 ca_ kc_ .char (1 : Int32) [(.int c0_)] (.int 0)) (pr4 : n0 ≤ x_) (pr5 : ¬ ((255 : Int32) < c0_)) :
    oMet l Z yM5 jdk_42_method_3_code 2 none ws ({ frames := 3, cells := 1, slots := 1, locals := 52 } : Room) 1 1 #[(.ref x_), (.ref ca_)] h0 (own_Q_new1_1 Z s_EID_CHARS cl_T z_CS v_FMT x_ ca_ kc_ c0_ h0 n0) := by
  refine oenter own_pn2 #[.val (.ref x_), .val (.ref ca_)] (fun m => by first | (simp [entryFrame, mkF, argsToLocals, Value.category]; done) | rfl) ?_
  intro p e s m below meth c s₁ X0 hx hZ hby hml hret hown0 hnm hlk e0
  have hown : s.vm.findClass "java/lang/String" = some m.cls := hown0
  have N0 := Fr.nil n0
  obtain ⟨S_s_EID_CHARS, A_T, L_T, T_T, S_CS, H_CS, S_FMT, R_FMT⟩ := (id SB)
  have w10 := hw _ (List.mem_of_getElem? (i := 10) rfl)
  have w15 := hw _ (List.mem_of_getElem? (i := 15) rfl)
  have w16 := hw _ (List.mem_of_getElem? (i := 16) rfl)
  have w18 := hw _ (List.mem_of_getElem? (i := 18) rfl)
  refine o_aloadN X0 hx (hb hby d6_0) rfl rfl ?_
  refine o_aloadN X0 hx (hb hby d6_1) rfl rfl ?_
  refine o_iconst X0 hx (0 : Int32) (hb hby d6_2) rfl ?_
  refine o_aloadN X0 hx (hb hby d6_3) rfl rfl ?_
  obtain ⟨cl1, Ar1, -, S1, N1z, -, -⟩ := (id pr3)
  refine ogo (S' := s₁.setTop (mkF m 5 #[.val (.ref x_), .val (.ref ca_)] [(.int (1 : Int32)), (.int (0 : Int32)), (.ref ca_), (.ref x_)])) (fun _ kt_ => X0.arraylength hx (by rw [e0]; exact Ar1.1) (State.isArrayOf_alike hZ.alike Ar1.2.1) (g := (mkF m 4 #[.val (.ref x_), .val (.ref ca_)] [(.ref ca_), (.int (0 : Int32)), (.ref ca_), (.ref x_)])) rfl rfl (hb hby d6_4) _ (by rw [len_of S1 N1z]; exact kt_)) ?_
  refine o_aconst_null X0 hx (hb hby d6_5) ?_
  obtain ⟨_, _, ⟨T2, L2, kc2, n2⟩, -, X2, ⟨Lc2, hQ2, l2, y2, z2⟩, st2⟩ := X0.specialBack hx (y := yM4) rfl hown (mvT hZ w15) (mvT hZ w16) (mvT hZ w18) (by decide) (backOf (W := 0) (rm_new4_1 l Z a0 hw [] s_EID_CHARS cl_T z_CS v_FMT x_ ca_ kc_ c0_ h0 n0 SB O0 pr0 pr1 pr2 pr3 pr4 pr5) hZ w18 w10 (by decide) (by decide)) (g := (mkF m 6 #[.val (.ref x_), .val (.ref ca_)] [.null, (.int (1 : Int32)), (.int (0 : Int32)), (.ref ca_), (.ref x_)])) rfl (by rw [hml]; rfl) (Steps.refl _) (a := x_) (argsL := [(.ref ca_), (.int (0 : Int32)), (.int (1 : Int32)), .null]) (rest := []) (lenOf own_pd3 rfl) rfl (by show 2 * 0 + _ ≤ _; exact Nat.le_of_eq rfl) (hb hby d6_6) (fun _ _ => ⟨rfl, e0, (by decide : 0 + 1 ≤ _), (by decide : 0 + 1 ≤ _)⟩)
  dsimp only [Pt.U, Pt.locs, Pt.cells, Pt.slots] at X2 l2 y2 z2 st2 hQ2
  subst l2 y2 z2
  obtain ⟨ba_2, kb_2, rfl, Nq2, K2, p2_0, p2_1, p2_2, p2_3, p2_4⟩ := hQ2
  have N2 := Fr.app N0 Nq2
  have n0_ba_2 : n0 ≤ ba_2 := Nat.le_trans (Nat.le_trans (Nat.le_of_eq O0.1.symm) O0.2.1) (Nat.le_trans (Nat.le_refl _) p2_0)
  refine otr (S' := T2.setTop (mkF m 9 #[.val (.ref x_), .val (.ref ca_)] [])) st2 ?_
  refine oend X2 hlk (v := none) (fun _ => rfl) (fun fs hr => X2.returnOut hx hret (hb hby d6_9) hr) (by decide) (by decide) ?_
  show own_Q_new1_1 Z _ _ _ _ _ _ _ _ h0 n0 _ T2.heap _
  exact ⟨ba_2, kb_2, rfl, N2, ((Keep.refl h0 [x_]).trans K2 (allS (Or.inl (List.mem_of_getElem? (i := 0) rfl)) all0)), (Nat.le_trans (Nat.le_refl _) p2_0), p2_1, p2_2, p2_3, p2_4⟩
def own_Q_cmp5_2 (Z : State)  (ca_ : Addr) (kc_ : ClassId) (ba_ : Addr) (kb_ : ClassId) (c0_ : Int32) (c1_ : Int32) (h0 : Heap) (n0 : Nat) (v : Option Value) (h : Heap) (L : List Loc) : Prop := (v = some (.int (2 : Int32))) ∧ (Fr n0 L) ∧ (Keep h0 h [ba_]) ∧ (Arv Z h ba_ kb_ .byte (2 : Int32) [(.int c0_.toInt8.toInt32), (.int c1_.toInt8.toInt32)] (.int 0))
set_option maxRecDepth 65536 in
set_option maxHeartbeats 40000000 in
theorem rm_cmp5_2 (l : Launch) (Z : State) (a0 : Array Value) (hw : ∀ d ∈ tables_1, d.before a0 Z = true) (ws : List Jvm.Cond)  (ca_ : Addr) (kc_ : ClassId) (ba_ : Addr) (kb_ : ClassId) (c0_ : Int32) (c1_ : Int32) (h0 : Heap) (n0 : Nat) (O0 : Old Z n0 h0) (pr0 : Arv Z h0 ca_ kc_ .char (2 : Int32) [(.int c0_), (.int c1_)] (.int 0)) (pr1 : Arv Z h0 ba_ kb_ .byte (2 : Int32) [(.int 0), (.int 0)] (.int 0)) (pr2 : ca_ ≠ ba_) (pr3 : n0 ≤ ba_) (pr4 : ¬ ((255 : Int32) < c0_)) (pr5 : ¬ ((255 : Int32) < c1_)) :
    oMet l Z yM1 jdk_52_method_21_code 7 (some .int) ws ({ frames := 0, cells := 0, slots := 0, locals := 0 } : Room) 0 0 #[(.ref ca_), (.int (0 : Int32)), (.ref ba_), (.int (0 : Int32)), (.int (2 : Int32))] h0 (own_Q_cmp5_2 Z  ca_ kc_ ba_ kb_ c0_ c1_ h0 n0) := by
  refine oenter own_pn1 #[.val (.ref ca_), .val (.int (0 : Int32)), .val (.ref ba_), .val (.int (0 : Int32)), .val (.int (2 : Int32)), .unset, .unset] (fun m => by first | (simp [entryFrame, mkF, argsToLocals, Value.category]; done) | rfl) ?_
  intro p e s m below meth c s₁ X0 hx hZ hby hml hret hown0 hnm hlk e0
  have hown : s.vm.findClass "java/lang/StringUTF16" = some m.cls := hown0
  have N0 := Fr.nil n0
  refine o_iconst X0 hx (0 : Int32) (hb hby d2_0) rfl ?_
  refine o_istore X0 hx (l' := #[.val (.ref ca_), .val (.int (0 : Int32)), .val (.ref ba_), .val (.int (0 : Int32)), .val (.int (2 : Int32)), .val (.int (0 : Int32)), .unset]) (hb hby d2_1) rfl ?_
  refine o_iload X0 hx (hb hby d2_3) rfl ?_
  refine o_iload X0 hx (hb hby d2_5) rfl ?_
  refine o_icmpNo X0 hx (hb hby d2_7) (tlt (by decide : (0 : Int32) < (2 : Int32))).2.1 ?_
  refine o_aloadN X0 hx (hb hby d2_10) rfl rfl ?_
  refine o_iloadN X0 hx (hb hby d2_11) rfl ?_
  obtain ⟨cl1, Ar1, q1, S1, N1z, H1, G1⟩ := (id pr0)
  have hi1 := inb_of (j := (0 : Int32)) S1 ⟨by decide, by decide⟩
  have ha1 := Has.at (v := (.int c0_)) H1 hi1 rfl
  refine ogo (S' := s₁.setTop (mkF m 13 #[.val (.ref ca_), .val (.int (0 : Int32)), .val (.ref ba_), .val (.int (0 : Int32)), .val (.int (2 : Int32)), .val (.int (0 : Int32)), .unset] [(.int c0_)])) (X0.caload hx (j := (0 : Int32)) (v := (.int c0_)) (by rw [e0]; exact Ar1.1) (State.isArrayOf_alike hZ.alike Ar1.2.1) Ar1.2.2 hi1 ha1 (g := (mkF m 12 #[.val (.ref ca_), .val (.int (0 : Int32)), .val (.ref ba_), .val (.int (0 : Int32)), .val (.int (2 : Int32)), .val (.int (0 : Int32)), .unset] [(.int (0 : Int32)), (.ref ca_)])) rfl rfl (hb hby d2_12)) ?_
  refine o_istore X0 hx (l' := #[.val (.ref ca_), .val (.int (0 : Int32)), .val (.ref ba_), .val (.int (0 : Int32)), .val (.int (2 : Int32)), .val (.int (0 : Int32)), .val (.int c0_)]) (hb hby d2_13) rfl ?_
  refine o_iload X0 hx (hb hby d2_15) rfl ?_
  refine o_sipush X0 hx (255 : Int32) (hb hby d2_17) rfl ?_
  refine o_icmpYes X0 hx 26 (hb hby d2_20) (flt pr4).2.2.2 (by decide) (by decide) ?_
  refine o_aloadN X0 hx (hb hby d2_26) rfl rfl ?_
  refine o_iloadN X0 hx (hb hby d2_27) rfl ?_
  refine o_iload X0 hx (hb hby d2_28) rfl ?_
  refine o_i2b X0 hx (hb hby d2_30) ?_
  obtain ⟨cl2, Ar2, q2, S2, N2z, H2, G2⟩ := (id pr1)
  obtain ⟨T2, _, X2, rfl, W2, st2⟩ := stB X0 hx hZ e0 Ar2 (j := (0 : Int32)) (inb_of S2 ⟨by decide, by decide⟩) (g := (mkF m 31 #[.val (.ref ca_), .val (.int (0 : Int32)), .val (.ref ba_), .val (.int (0 : Int32)), .val (.int (2 : Int32)), .val (.int (0 : Int32)), .val (.int c0_)] [(.int c0_.toInt8.toInt32), (.int (0 : Int32)), (.ref ba_)])) rfl rfl (hb hby d2_31)
  rw [own_narb] at W2
  have V2 : Arv Z T2.heap ba_ kb_ .byte (2 : Int32) [(.int c0_.toInt8.toInt32), (.int 0)] (.int 0) := Arv.set Ar2 q2 S2 N2z H2 G2 (fits_nar_byte _) W2 0 rfl (Nat.le_of_ble_eq_true rfl)
  have N2 := Fr.snoc X2 N0 pr3
  refine ogo (S' := T2.setTop (mkF m 32 #[.val (.ref ca_), .val (.int (0 : Int32)), .val (.ref ba_), .val (.int (0 : Int32)), .val (.int (2 : Int32)), .val (.int (0 : Int32)), .val (.int c0_)] [])) st2 ?_
  refine o_iinc X2 hx (l' := #[.val (.ref ca_), .val (.int (1 : Int32)), .val (.ref ba_), .val (.int (0 : Int32)), .val (.int (2 : Int32)), .val (.int (0 : Int32)), .val (.int c0_)]) (hb hby d2_32) rfl rfl ?_
  refine o_iinc X2 hx (l' := #[.val (.ref ca_), .val (.int (1 : Int32)), .val (.ref ba_), .val (.int (1 : Int32)), .val (.int (2 : Int32)), .val (.int (0 : Int32)), .val (.int c0_)]) (hb hby d2_35) rfl rfl ?_
  refine o_iinc X2 hx (l' := #[.val (.ref ca_), .val (.int (1 : Int32)), .val (.ref ba_), .val (.int (1 : Int32)), .val (.int (2 : Int32)), .val (.int (1 : Int32)), .val (.int c0_)]) (hb hby d2_38) rfl rfl ?_
  refine o_goto X2 hx 3 (hb hby d2_41) (by decide) (by decide) ?_
  refine o_iload X2 hx (hb hby d2_3) rfl ?_
  refine o_iload X2 hx (hb hby d2_5) rfl ?_
  refine o_icmpNo X2 hx (hb hby d2_7) (tlt (by decide : (1 : Int32) < (2 : Int32))).2.1 ?_
  refine o_aloadN X2 hx (hb hby d2_10) rfl rfl ?_
  refine o_iloadN X2 hx (hb hby d2_11) rfl ?_
  obtain ⟨cl3, Ar3, q3, S3, N3z, H3, G3⟩ := (id (pr0.other W2 pr2))
  have hi3 := inb_of (j := (1 : Int32)) S3 ⟨by decide, by decide⟩
  have ha3 := Has.at (v := (.int c1_)) H3 hi3 rfl
  refine ogo (S' := T2.setTop (mkF m 13 #[.val (.ref ca_), .val (.int (1 : Int32)), .val (.ref ba_), .val (.int (1 : Int32)), .val (.int (2 : Int32)), .val (.int (1 : Int32)), .val (.int c0_)] [(.int c1_)])) (X2.caload hx (j := (1 : Int32)) (v := (.int c1_)) Ar3.1 (State.isArrayOf_alike hZ.alike Ar3.2.1) Ar3.2.2 hi3 ha3 (g := (mkF m 12 #[.val (.ref ca_), .val (.int (1 : Int32)), .val (.ref ba_), .val (.int (1 : Int32)), .val (.int (2 : Int32)), .val (.int (1 : Int32)), .val (.int c0_)] [(.int (1 : Int32)), (.ref ca_)])) rfl rfl (hb hby d2_12)) ?_
  refine o_istore X2 hx (l' := #[.val (.ref ca_), .val (.int (1 : Int32)), .val (.ref ba_), .val (.int (1 : Int32)), .val (.int (2 : Int32)), .val (.int (1 : Int32)), .val (.int c1_)]) (hb hby d2_13) rfl ?_
  refine o_iload X2 hx (hb hby d2_15) rfl ?_
  refine o_sipush X2 hx (255 : Int32) (hb hby d2_17) rfl ?_
  refine o_icmpYes X2 hx 26 (hb hby d2_20) (flt pr5).2.2.2 (by decide) (by decide) ?_
  refine o_aloadN X2 hx (hb hby d2_26) rfl rfl ?_
  refine o_iloadN X2 hx (hb hby d2_27) rfl ?_
  refine o_iload X2 hx (hb hby d2_28) rfl ?_
  refine o_i2b X2 hx (hb hby d2_30) ?_
  obtain ⟨cl4, Ar4, q4, S4, N4z, H4, G4⟩ := (id V2)
  obtain ⟨T4, _, X4, rfl, W4, st4⟩ := stB X2 hx hZ rfl Ar4 (j := (1 : Int32)) (inb_of S4 ⟨by decide, by decide⟩) (g := (mkF m 31 #[.val (.ref ca_), .val (.int (1 : Int32)), .val (.ref ba_), .val (.int (1 : Int32)), .val (.int (2 : Int32)), .val (.int (1 : Int32)), .val (.int c1_)] [(.int c1_.toInt8.toInt32), (.int (1 : Int32)), (.ref ba_)])) rfl rfl (hb hby d2_31)
  rw [own_narb] at W4
  have V4 : Arv Z T4.heap ba_ kb_ .byte (2 : Int32) [(.int c0_.toInt8.toInt32), (.int c1_.toInt8.toInt32)] (.int 0) := Arv.set Ar4 q4 S4 N4z H4 G4 (fits_nar_byte _) W4 1 rfl (Nat.le_of_ble_eq_true rfl)
  have N4 := Fr.snoc X4 N2 pr3
  refine ogo (S' := T4.setTop (mkF m 32 #[.val (.ref ca_), .val (.int (1 : Int32)), .val (.ref ba_), .val (.int (1 : Int32)), .val (.int (2 : Int32)), .val (.int (1 : Int32)), .val (.int c1_)] [])) st4 ?_
  refine o_iinc X4 hx (l' := #[.val (.ref ca_), .val (.int (2 : Int32)), .val (.ref ba_), .val (.int (1 : Int32)), .val (.int (2 : Int32)), .val (.int (1 : Int32)), .val (.int c1_)]) (hb hby d2_32) rfl rfl ?_
  refine o_iinc X4 hx (l' := #[.val (.ref ca_), .val (.int (2 : Int32)), .val (.ref ba_), .val (.int (2 : Int32)), .val (.int (2 : Int32)), .val (.int (1 : Int32)), .val (.int c1_)]) (hb hby d2_35) rfl rfl ?_
  refine o_iinc X4 hx (l' := #[.val (.ref ca_), .val (.int (2 : Int32)), .val (.ref ba_), .val (.int (2 : Int32)), .val (.int (2 : Int32)), .val (.int (2 : Int32)), .val (.int c1_)]) (hb hby d2_38) rfl rfl ?_
  refine o_goto X4 hx 3 (hb hby d2_41) (by decide) (by decide) ?_
  refine o_iload X4 hx (hb hby d2_3) rfl ?_
  refine o_iload X4 hx (hb hby d2_5) rfl ?_
  refine o_icmpYes X4 hx 44 (hb hby d2_7) (flt (by decide : ¬ ((2 : Int32) < (2 : Int32)))).2.1 (by decide) (by decide) ?_
  refine o_iload X4 hx (hb hby d2_44) rfl ?_
  refine oend X4 hlk (v := some (.int (2 : Int32))) (fun h => by rw [hret] at h; cases h) (fun fs hr => retOut X4 hx (t := .int) (i := .ireturn) hret rfl (Or.inl ⟨rfl, Or.inl rfl, _, rfl⟩) (hb hby d2_46) hr) (by decide) (by decide) ?_
  show own_Q_cmp5_2 Z _ _ _ _ _ _ h0 n0 _ T4.heap _
  exact ⟨rfl, N4, (((Keep.refl h0 [ba_]).wr W2 (Or.inl (List.mem_of_getElem? (i := 0) rfl))).wr W4 (Or.inl (List.mem_of_getElem? (i := 0) rfl))), V4⟩
def own_Q_cmp3_2 (Z : State)  (ca_ : Addr) (kc_ : ClassId) (c0_ : Int32) (c1_ : Int32) (h0 : Heap) (n0 : Nat) (v : Option Value) (h : Heap) (L : List Loc) : Prop := ∃ ba_ : Addr, ∃ kb_ : ClassId, (v = some (.ref ba_)) ∧ (Fr n0 L) ∧ (Keep h0 h []) ∧ (h0.size ≤ ba_) ∧ (Arv Z h ba_ kb_ .byte (2 : Int32) [(.int c0_.toInt8.toInt32), (.int c1_.toInt8.toInt32)] (.int 0))
set_option maxRecDepth 65536 in
set_option maxHeartbeats 40000000 in
theorem rm_cmp3_2 (l : Launch) (Z : State) (a0 : Array Value) (hw : ∀ d ∈ tables_1, d.before a0 Z = true) (ws : List Jvm.Cond)  (ca_ : Addr) (kc_ : ClassId) (c0_ : Int32) (c1_ : Int32) (h0 : Heap) (n0 : Nat) (O0 : Old Z n0 h0) (pr0 : Arv Z h0 ca_ kc_ .char (2 : Int32) [(.int c0_), (.int c1_)] (.int 0)) (pr1 : ¬ ((255 : Int32) < c0_)) (pr2 : ¬ ((255 : Int32) < c1_)) :
    oMet l Z yM2 jdk_52_method_16_code 6 (some (.array .byte)) ws ({ frames := 1, cells := 1, slots := 2, locals := 18 } : Room) 1 2 #[(.ref ca_), (.int (0 : Int32)), (.int (2 : Int32))] h0 (own_Q_cmp3_2 Z  ca_ kc_ c0_ c1_ h0 n0) := by
  refine oenter own_pn1 #[.val (.ref ca_), .val (.int (0 : Int32)), .val (.int (2 : Int32)), .unset, .unset, .unset] (fun m => by first | (simp [entryFrame, mkF, argsToLocals, Value.category]; done) | rfl) ?_
  intro p e s m below meth c s₁ X0 hx hZ hby hml hret hown0 hnm hlk e0
  have hown : s.vm.findClass "java/lang/StringUTF16" = some m.cls := hown0
  have N0 := Fr.nil n0
  have w25 := hw _ (List.mem_of_getElem? (i := 25) rfl)
  have w27 := hw _ (List.mem_of_getElem? (i := 27) rfl)
  have w28 := hw _ (List.mem_of_getElem? (i := 28) rfl)
  have w29 := hw _ (List.mem_of_getElem? (i := 29) rfl)
  have w30 := hw _ (List.mem_of_getElem? (i := 30) rfl)
  refine o_iloadN X0 hx (hb hby d3_0) rfl ?_
  obtain ⟨T1, _, k1, X1, rfl, E1, A1, Ex1, st1⟩ := newPE (aty := .byte) X0 hx hZ w27 e0 (g := (mkF m 1 #[.val (.ref ca_), .val (.int (0 : Int32)), .val (.int (2 : Int32)), .unset, .unset, .unset] [(.int (2 : Int32))])) rfl (hb hby d3_1) rfl (by decide) (cap := 2) (by decide) (by decide) (by decide) (by decide) (ad := "[B") rfl
  obtain ⟨b1, g1⟩ : ∃ z, z = h0.size := ⟨_, rfl⟩
  rw [← g1] at A1 Ex1 st1
  have n0_b1 : n0 ≤ b1 := Nat.le_trans (Nat.le_trans (Nat.le_of_eq O0.1.symm) O0.2.1) (Nat.le_trans (Nat.le_refl _) (Nat.le_of_eq g1.symm))
  have V1 : Arv Z T1.heap b1 k1 .byte (2 : Int32) [(.int 0), (.int 0)] (.int 0) := (Arv.new A1 (by decide)).pad (pad_rep [] (.int 0) 2)
  refine ogo (S' := T1.setTop (mkF m 3 #[.val (.ref ca_), .val (.int (0 : Int32)), .val (.int (2 : Int32)), .unset, .unset, .unset] [(.ref b1)])) st1 ?_
  refine o_astoreN X1 hx (l' := #[.val (.ref ca_), .val (.int (0 : Int32)), .val (.int (2 : Int32)), .val (.ref b1), .unset, .unset]) (hb hby d3_3) rfl rfl ?_
  refine o_aloadN X1 hx (hb hby d3_4) rfl rfl ?_
  refine o_iloadN X1 hx (hb hby d3_5) rfl ?_
  refine o_aloadN X1 hx (hb hby d3_6) rfl rfl ?_
  refine o_iconst X1 hx (0 : Int32) (hb hby d3_7) rfl ?_
  refine o_iloadN X1 hx (hb hby d3_8) rfl ?_
  obtain ⟨_, _, ⟨T2, L2, kc2, n2⟩, -, X2, ⟨Lc2, hQ2, l2, y2, z2⟩, st2⟩ := Jvm.LawKit.callS X1 hx (y := yM1) hown (mvT hZ w28) (mvT hZ w29) (mvT hZ w25) (mvT hZ w30) (by decide) (backOf (W := 0) (rm_cmp5_2 l Z a0 hw []  ca_ kc_ b1 k1 c0_ c1_ T1.heap n0 (O0.ext E1) (pr0.ext E1) V1 (Nat.ne_of_lt (Nat.lt_of_lt_of_le (Nat.lt_of_lt_of_le pr0.lt (Nat.le_refl _)) (Nat.le_of_eq g1.symm))) n0_b1 pr1 pr2) hZ w30 w25 (by decide) (by decide)) (g := (mkF m 9 #[.val (.ref ca_), .val (.int (0 : Int32)), .val (.int (2 : Int32)), .val (.ref b1), .unset, .unset] [(.int (2 : Int32)), (.int (0 : Int32)), (.ref b1), (.int (0 : Int32)), (.ref ca_)])) rfl (by rw [hml]; rfl) (argsL := [(.ref ca_), (.int (0 : Int32)), (.ref b1), (.int (0 : Int32)), (.int (2 : Int32))]) (rest := []) (lenOf own_pd0 rfl) rfl (by show 2 * 0 + _ ≤ _; exact Nat.le_of_eq rfl) (hb hby d3_9) (fun _ _ => ⟨rfl, rfl, (by decide : 1 + 0 ≤ _), (by decide : 2 + 0 ≤ _)⟩)
  dsimp only [Pt.U, Pt.locs, Pt.cells, Pt.slots] at X2 l2 y2 z2 st2 hQ2
  subst l2 y2 z2
  obtain ⟨rfl, Nq2, K2, p2_0⟩ := hQ2
  have N2 := Fr.app N0 Nq2
  refine ogo (S' := T2.setTop (mkF m 12 #[.val (.ref ca_), .val (.int (0 : Int32)), .val (.int (2 : Int32)), .val (.ref b1), .unset, .unset] [(.int (2 : Int32))])) st2 ?_
  refine o_istore X2 hx (l' := #[.val (.ref ca_), .val (.int (0 : Int32)), .val (.int (2 : Int32)), .val (.ref b1), .val (.int (2 : Int32)), .unset]) (hb hby d3_12) rfl ?_
  refine o_iload X2 hx (hb hby d3_14) rfl ?_
  refine o_iloadN X2 hx (hb hby d3_16) rfl ?_
  refine o_icmpYes X2 hx 57 (hb hby d3_17) (teq (by decide : (2 : Int32) = (2 : Int32))).1 (by decide) (by decide) ?_
  refine o_aloadN X2 hx (hb hby d3_57) rfl rfl ?_
  refine oend X2 hlk (v := some (.ref b1)) (fun h => by rw [hret] at h; cases h) (fun fs hr => retOut X2 hx (t := (.array .byte)) (i := .areturn) hret rfl (Or.inr (Or.inr (Or.inr (Or.inr ⟨rfl, rfl, rfl⟩)))) (hb hby d3_58) hr) (by decide) (by decide) ?_
  show own_Q_cmp3_2 Z _ _ _ _ h0 n0 _ T2.heap _
  exact ⟨b1, k1, rfl, N2, (((Keep.refl h0 []).ext E1).trans K2 (allS (Or.inr (Nat.le_trans (Nat.le_refl _) (Nat.le_of_eq g1.symm))) all0)), (Nat.le_trans (Nat.le_refl _) (Nat.le_of_eq g1.symm)), p2_0⟩
def own_Q_codl_2 (Z : State)  (ba_ : Addr) (kb_ : ClassId) (vs_ : List Value) (h0 : Heap) (n0 : Nat) (v : Option Value) (h : Heap) (L : List Loc) : Prop := (v = some (.int (0 : Int32))) ∧ (Fr n0 L) ∧ (h = h0)
set_option maxRecDepth 65536 in
set_option maxHeartbeats 40000000 in
theorem rm_codl_2 (l : Launch) (Z : State) (a0 : Array Value) (hw : ∀ d ∈ tables_1, d.before a0 Z = true) (ws : List Jvm.Cond)  (ba_ : Addr) (kb_ : ClassId) (vs_ : List Value) (h0 : Heap) (n0 : Nat) (O0 : Old Z n0 h0) (pr0 : Arv Z h0 ba_ kb_ .byte (2 : Int32) vs_ (.int 0)) :
    oMet l Z yM3 jdk_52_method_15_code 2 (some .byte) ws ({ frames := 0, cells := 0, slots := 0, locals := 0 } : Room) 0 0 #[(.ref ba_), (.int (2 : Int32))] h0 (own_Q_codl_2 Z  ba_ kb_ vs_ h0 n0) := by
  refine oenter own_pn1 #[.val (.ref ba_), .val (.int (2 : Int32))] (fun m => by first | (simp [entryFrame, mkF, argsToLocals, Value.category]; done) | rfl) ?_
  intro p e s m below meth c s₁ X0 hx hZ hby hml hret hown0 hnm hlk e0
  have hown : s.vm.findClass "java/lang/StringUTF16" = some m.cls := hown0
  have N0 := Fr.nil n0
  refine o_iloadN X0 hx (hb hby d4_0) rfl ?_
  refine o_aloadN X0 hx (hb hby d4_1) rfl rfl ?_
  obtain ⟨cl1, Ar1, -, S1, N1z, -, -⟩ := (id pr0)
  refine ogo (S' := s₁.setTop (mkF m 3 #[.val (.ref ba_), .val (.int (2 : Int32))] [(.int (2 : Int32)), (.int (2 : Int32))])) (fun _ kt_ => X0.arraylength hx (by rw [e0]; exact Ar1.1) (State.isArrayOf_alike hZ.alike Ar1.2.1) (g := (mkF m 2 #[.val (.ref ba_), .val (.int (2 : Int32))] [(.ref ba_), (.int (2 : Int32))])) rfl rfl (hb hby d4_2) _ (by rw [len_of S1 N1z]; exact kt_)) ?_
  refine o_isub X0 hx (hb hby d4_3) ?_
  refine o_bipush X0 hx (31 : Int32) (hb hby d4_4) rfl ?_
  refine o_iushr X0 hx (hb hby d4_6) ?_
  refine o_i2b X0 hx (hb hby d4_7) ?_
  refine oend X0 hlk (v := some (.int (0 : Int32))) (fun h => by rw [hret] at h; cases h) (fun fs hr => retN X0 hx (t := .byte) hret (by simp) (hb hby d4_8) hr) (by decide) (by decide) ?_
  show own_Q_codl_2 Z _ _ _ h0 n0 _ s₁.heap _
  rw [e0]
  exact ⟨rfl, N0, rfl⟩
def own_Q_new4_2 (Z : State) (s_EID_CHARS : Addr) (cl_T : Cell) (z_CS : Int32) (v_FMT : Value) (x_ : Addr) (ca_ : Addr) (kc_ : ClassId) (c0_ : Int32) (c1_ : Int32) (h0 : Heap) (n0 : Nat) (v : Option Value) (h : Heap) (L : List Loc) : Prop := ∃ ba_ : Addr, ∃ kb_ : ClassId, (v = none) ∧ (Fr n0 L) ∧ (Keep h0 h [x_]) ∧ (h0.size ≤ ba_) ∧ (Arv Z h ba_ kb_ .byte (2 : Int32) [(.int c0_.toInt8.toInt32), (.int c1_.toInt8.toInt32)] (.int 0)) ∧ (Exa Z h x_ "java/lang/String") ∧ (Fld Z h x_ "java/lang/String" "value" "[B" (.ref ba_)) ∧ (Fld Z h x_ "java/lang/String" "coder" "B" (.int (0 : Int32)))
set_option maxRecDepth 65536 in
set_option maxHeartbeats 40000000 in
theorem rm_new4_2 (l : Launch) (Z : State) (a0 : Array Value) (hw : ∀ d ∈ tables_1, d.before a0 Z = true) (ws : List Jvm.Cond) (s_EID_CHARS : Addr) (cl_T : Cell) (z_CS : Int32) (v_FMT : Value) (x_ : Addr) (ca_ : Addr) (kc_ : ClassId) (c0_ : Int32) (c1_ : Int32) (h0 : Heap) (n0 : Nat) (SB : own_Start Z s_EID_CHARS cl_T z_CS v_FMT) (O0 : Old Z n0 h0) (pr0 : Exa Z h0 x_ "java/lang/String") (pr1 : Fld Z h0 x_ "java/lang/String" "value" "[B" .null) (pr2 : Fld Z h0 x_ "java/lang/String" "coder" "B" (.int (0 : Int32))) (pr3 : Arv Z h0 ca_ kc_ .char (2 : Int32) [(.int c0_), (.int c1_)] (.int 0)) (pr4 : n0 ≤ x_) (pr5 : ¬ ((255 : Int32) < c0_)) (pr6 : ¬ ((255 : Int32) < c1_)) :
    oMet l Z yM4 jdk_42_method_149_code 6 none ws ({ frames := 2, cells := 1, slots := 2, locals := 35 } : Room) 1 2 #[(.ref x_), (.ref ca_), (.int (0 : Int32)), (.int (2 : Int32)), .null] h0 (own_Q_new4_2 Z s_EID_CHARS cl_T z_CS v_FMT x_ ca_ kc_ c0_ c1_ h0 n0) := by
  refine oenter own_pn2 #[.val (.ref x_), .val (.ref ca_), .val (.int (0 : Int32)), .val (.int (2 : Int32)), .val .null, .unset] (fun m => by first | (simp [entryFrame, mkF, argsToLocals, Value.category]; done) | rfl) ?_
  intro p e s m below meth c s₁ X0 hx hZ hby hml hret hown0 hnm hlk e0
  have hown : s.vm.findClass "java/lang/String" = some m.cls := hown0
  have N0 := Fr.nil n0
  obtain ⟨S_s_EID_CHARS, A_T, L_T, T_T, S_CS, H_CS, S_FMT, R_FMT⟩ := (id SB)
  have w9 := hw _ (List.mem_of_getElem? (i := 9) rfl)
  have w19 := hw _ (List.mem_of_getElem? (i := 19) rfl)
  have w20 := hw _ (List.mem_of_getElem? (i := 20) rfl)
  have w21 := hw _ (List.mem_of_getElem? (i := 21) rfl)
  have w22 := hw _ (List.mem_of_getElem? (i := 22) rfl)
  have w23 := hw _ (List.mem_of_getElem? (i := 23) rfl)
  have w24 := hw _ (List.mem_of_getElem? (i := 24) rfl)
  have w25 := hw _ (List.mem_of_getElem? (i := 25) rfl)
  have w26 := hw _ (List.mem_of_getElem? (i := 26) rfl)
  have w31 := hw _ (List.mem_of_getElem? (i := 31) rfl)
  have w32 := hw _ (List.mem_of_getElem? (i := 32) rfl)
  have w33 := hw _ (List.mem_of_getElem? (i := 33) rfl)
  have w34 := hw _ (List.mem_of_getElem? (i := 34) rfl)
  have w35 := hw _ (List.mem_of_getElem? (i := 35) rfl)
  have w36 := hw _ (List.mem_of_getElem? (i := 36) rfl)
  have w37 := hw _ (List.mem_of_getElem? (i := 37) rfl)
  refine o_aloadN X0 hx (hb hby d5_0) rfl rfl ?_
  obtain ⟨T1, X1, e1, st1⟩ := initO X0 hx hZ hown w19 w20 w21 e0 (g := (mkF m 1 #[.val (.ref x_), .val (.ref ca_), .val (.int (0 : Int32)), .val (.int (2 : Int32)), .val .null, .unset] [(.ref x_)])) rfl (by rw [hml]; rfl) rfl (hb hby d5_1) (by decide) (W := 0) (by show 2 * 0 + _ ≤ _; exact Nat.le_of_eq rfl) (by decide)
  refine ogo (S' := T1.setTop (mkF m 4 #[.val (.ref x_), .val (.ref ca_), .val (.int (0 : Int32)), .val (.int (2 : Int32)), .val .null, .unset] [])) st1 ?_
  refine o_iloadN X1 hx (hb hby d5_4) rfl ?_
  refine o_ifYes X1 hx 27 (hb hby d5_5) (feq (by decide : ¬ ((2 : Int32) = (0 : Int32)))).2 (by decide) (by decide) ?_
  obtain ⟨T2, X2, e2, st2⟩ := getS2 X1 hx hZ hown (host := "") (Or.inl w22) Via.refl e1 (Sta.ext O0.2 S_CS) (g := (mkF m 27 #[.val (.ref x_), .val (.ref ca_), .val (.int (0 : Int32)), .val (.int (2 : Int32)), .val .null, .unset] [])) rfl (hb hby d5_27)
  refine ogo (S' := T2.setTop (mkF m 30 #[.val (.ref x_), .val (.ref ca_), .val (.int (0 : Int32)), .val (.int (2 : Int32)), .val .null, .unset] [(.int z_CS)])) st2 ?_
  refine o_ifNo X2 hx (hb hby d5_30) (feq H_CS).1 ?_
  refine o_aloadN X2 hx (hb hby d5_33) rfl rfl ?_
  refine o_iloadN X2 hx (hb hby d5_34) rfl ?_
  refine o_iloadN X2 hx (hb hby d5_35) rfl ?_
  obtain ⟨_, _, ⟨T3, L3, kc3, n3⟩, -, X3, ⟨Lc3, hQ3, l3, y3, z3⟩, st3⟩ := Jvm.LawKit.callS X2 hx (y := yM2) hown (mvT hZ w23) (mvT hZ w24) (mvT hZ w25) (mvT hZ w26) (by decide) (backOf (W := 0) (rm_cmp3_2 l Z a0 hw []  ca_ kc_ c0_ c1_ h0 n0 O0 pr3 pr5 pr6) hZ w26 w25 (by decide) (by decide)) (g := (mkF m 36 #[.val (.ref x_), .val (.ref ca_), .val (.int (0 : Int32)), .val (.int (2 : Int32)), .val .null, .unset] [(.int (2 : Int32)), (.int (0 : Int32)), (.ref ca_)])) rfl (by rw [hml]; rfl) (argsL := [(.ref ca_), (.int (0 : Int32)), (.int (2 : Int32))]) (rest := []) (lenOf own_pd1 rfl) rfl (by show 2 * 0 + _ ≤ _; exact Nat.le_of_eq rfl) (hb hby d5_36) (fun _ _ => ⟨rfl, e2, (by decide : 0 + 1 ≤ _), (by decide : 0 + 2 ≤ _)⟩)
  dsimp only [Pt.U, Pt.locs, Pt.cells, Pt.slots] at X3 l3 y3 z3 st3 hQ3
  subst l3 y3 z3
  obtain ⟨ba_3, kb_3, rfl, Nq3, K3, p3_0, p3_1⟩ := hQ3
  have N3 := Fr.app N0 Nq3
  have n0_ba_3 : n0 ≤ ba_3 := Nat.le_trans (Nat.le_trans (Nat.le_of_eq O0.1.symm) O0.2.1) (Nat.le_trans (Nat.le_refl _) p3_0)
  refine ogo (S' := T3.setTop (mkF m 39 #[.val (.ref x_), .val (.ref ca_), .val (.int (0 : Int32)), .val (.int (2 : Int32)), .val .null, .unset] [(.ref ba_3)])) st3 ?_
  refine o_astore X3 hx (l' := #[.val (.ref x_), .val (.ref ca_), .val (.int (0 : Int32)), .val (.int (2 : Int32)), .val .null, .val (.ref ba_3)]) (hb hby d5_39) rfl rfl ?_
  refine o_aloadN X3 hx (hb hby d5_41) rfl rfl ?_
  refine o_aload X3 hx (hb hby d5_42) rfl rfl ?_
  refine o_iloadN X3 hx (hb hby d5_44) rfl ?_
  obtain ⟨_, _, ⟨T4, L4, kc4, n4⟩, -, X4, ⟨Lc4, hQ4, l4, y4, z4⟩, st4⟩ := Jvm.LawKit.callS X3 hx (y := yM3) hown (mvT hZ w31) (mvT hZ w32) (mvT hZ w25) (mvT hZ w33) (by decide) (backOf (W := 1) (rm_codl_2 l Z a0 hw []  ba_3 kb_3 [(.int c0_.toInt8.toInt32), (.int c1_.toInt8.toInt32)] T3.heap n0 (O0.keep K3 all0) p3_1) hZ w33 w25 (by decide) (by decide)) (g := (mkF m 45 #[.val (.ref x_), .val (.ref ca_), .val (.int (0 : Int32)), .val (.int (2 : Int32)), .val .null, .val (.ref ba_3)] [(.int (2 : Int32)), (.ref ba_3), (.ref x_)])) rfl (by rw [hml]; rfl) (argsL := [(.ref ba_3), (.int (2 : Int32))]) (rest := [(.ref x_)]) (lenOf own_pd2 rfl) rfl (by show 2 * 0 + _ ≤ _; exact Nat.le_of_eq rfl) (hb hby d5_45) (fun _ _ => ⟨rfl, rfl, (by decide : 1 + 0 ≤ _), (by decide : 2 + 0 ≤ _)⟩)
  dsimp only [Pt.U, Pt.locs, Pt.cells, Pt.slots] at X4 l4 y4 z4 st4 hQ4
  subst l4 y4 z4
  obtain ⟨rfl, Nq4, e4⟩ := hQ4
  have N4 := Fr.app N3 Nq4
  refine ogo (S' := T4.setTop (mkF m 48 #[.val (.ref x_), .val (.ref ca_), .val (.int (0 : Int32)), .val (.int (2 : Int32)), .val .null, .val (.ref ba_3)] [(.int (0 : Int32)), (.ref x_)])) st4 ?_
  obtain ⟨T5, _, X5, rfl, W5, st5⟩ := putFN X4 hx hZ hown w34 Via.refl e4 (pr2.keep K3 nin0) (pr0.keep K3) (Or.inr ⟨w35, rfl, hnm⟩) w9 (ty := .byte) (v' := (.int (0 : Int32))) (by decide) rfl (by decide) (g := (mkF m 48 #[.val (.ref x_), .val (.ref ca_), .val (.int (0 : Int32)), .val (.int (2 : Int32)), .val .null, .val (.ref ba_3)] [(.int (0 : Int32)), (.ref x_)])) rfl rfl (hb hby d5_48)
  have N5 := Fr.snoc X5 N4 pr4
  have F5 := Fld.same W5 (pr2.keep K3 nin0)
  refine ogo (S' := T5.setTop (mkF m 51 #[.val (.ref x_), .val (.ref ca_), .val (.int (0 : Int32)), .val (.int (2 : Int32)), .val .null, .val (.ref ba_3)] [])) st5 ?_
  refine o_aloadN X5 hx (hb hby d5_51) rfl rfl ?_
  refine o_aload X5 hx (hb hby d5_52) rfl rfl ?_
  have c7 := (Fld.other W5 (pr1.keep K3 nin0) (Or.inr (slot_ne (Or.inr w37) (Or.inr w35) (by decide) (t := (.array .byte)) (t' := .byte) (by decide) (by decide))))
  obtain ⟨T6, _, X6, rfl, W6, st6⟩ := putF X5 hx hZ hown (host := "") (Or.inl w36) Via.refl rfl c7 (Exa.wr W5 (pr0.keep K3)) (Or.inr ⟨w37, rfl, hnm⟩) w9 (ty := (.array .byte)) (by decide) rfl rfl (g := (mkF m 54 #[.val (.ref x_), .val (.ref ca_), .val (.int (0 : Int32)), .val (.int (2 : Int32)), .val .null, .val (.ref ba_3)] [(.ref ba_3), (.ref x_)])) rfl rfl (hb hby d5_54)
  have N6 := Fr.snoc X6 N5 pr4
  have F6 := Fld.same W6 c7
  refine ogo (S' := T6.setTop (mkF m 57 #[.val (.ref x_), .val (.ref ca_), .val (.int (0 : Int32)), .val (.int (2 : Int32)), .val .null, .val (.ref ba_3)] [])) st6 ?_
  have c8 := ((p3_1.other W5 (Nat.ne_of_gt (Nat.lt_of_lt_of_le (Nat.lt_of_lt_of_le pr0.lt (Nat.le_refl _)) p3_0))).other W6 (Nat.ne_of_gt (Nat.lt_of_lt_of_le (Nat.lt_of_lt_of_le pr0.lt (Nat.le_refl _)) p3_0)))
  have c9 := (Fld.other W6 F5 (Or.inr (slot_ne (Or.inr w35) (Or.inr w37) (by decide) (t := .byte) (t' := (.array .byte)) (by decide) (by decide))))
  refine oend X6 hlk (v := none) (fun _ => rfl) (fun fs hr => X6.returnOut hx hret (hb hby d5_57) hr) (by decide) (by decide) ?_
  show own_Q_new4_2 Z _ _ _ _ _ _ _ _ _ h0 n0 _ T6.heap _
  exact ⟨ba_3, kb_3, rfl, N6, ((((Keep.refl h0 [x_]).trans K3 all0).wr W5 (Or.inl (List.mem_of_getElem? (i := 0) rfl))).wr W6 (Or.inl (List.mem_of_getElem? (i := 0) rfl))), (Nat.le_trans (Nat.le_refl _) p3_0), c8, (Exa.wr W6 (Exa.wr W5 (pr0.keep K3))), F6, c9⟩
def own_Q_new1_2 (Z : State) (s_EID_CHARS : Addr) (cl_T : Cell) (z_CS : Int32) (v_FMT : Value) (x_ : Addr) (ca_ : Addr) (kc_ : ClassId) (c0_ : Int32) (c1_ : Int32) (h0 : Heap) (n0 : Nat) (v : Option Value) (h : Heap) (L : List Loc) : Prop := ∃ ba_ : Addr, ∃ kb_ : ClassId, (v = none) ∧ (Fr n0 L) ∧ (Keep h0 h [x_]) ∧ (h0.size ≤ ba_) ∧ (Arv Z h ba_ kb_ .byte (2 : Int32) [(.int c0_.toInt8.toInt32), (.int c1_.toInt8.toInt32)] (.int 0)) ∧ (Exa Z h x_ "java/lang/String") ∧ (Fld Z h x_ "java/lang/String" "value" "[B" (.ref ba_)) ∧ (Fld Z h x_ "java/lang/String" "coder" "B" (.int (0 : Int32)))
set_option maxRecDepth 65536 in
set_option maxHeartbeats 40000000 in
theorem rm_new1_2 (l : Launch) (Z : State) (a0 : Array Value) (hw : ∀ d ∈ tables_1, d.before a0 Z = true) (ws : List Jvm.Cond) (s_EID_CHARS : Addr) (cl_T : Cell) (z_CS : Int32) (v_FMT : Value) (x_ : Addr) (ca_ : Addr) (kc_ : ClassId) (c0_ : Int32) (c1_ : Int32) (h0 : Heap) (n0 : Nat) (SB : own_Start Z s_EID_CHARS cl_T z_CS v_FMT) (O0 : Old Z n0 h0) (pr0 : Exa Z h0 x_ "java/lang/String") (pr1 : Fld Z h0 x_ "java/lang/String" "value" "[B" .null) (pr2 : Fld Z h0 x_ "java/lang/String" "coder" "B" (.int (0 : Int32))) (pr3 : Arv Z h0 ca_ kc_ .char (2 : Int32) [(.int c0_), (.int c1_)] (.int 0)) (pr4 : n0 ≤ x_) (pr5 : ¬ ((255 : Int32) < c0_)) (pr6 : ¬ ((255 : Int32) < c1_)) :
    oMet l Z yM5 jdk_42_method_3_code 2 none ws ({ frames := 3, cells := 1, slots := 2, locals := 52 } : Room) 1 2 #[(.ref x_), (.ref ca_)] h0 (own_Q_new1_2 Z s_EID_CHARS cl_T z_CS v_FMT x_ ca_ kc_ c0_ c1_ h0 n0) := by
  refine oenter own_pn2 #[.val (.ref x_), .val (.ref ca_)] (fun m => by first | (simp [entryFrame, mkF, argsToLocals, Value.category]; done) | rfl) ?_
  intro p e s m below meth c s₁ X0 hx hZ hby hml hret hown0 hnm hlk e0
  have hown : s.vm.findClass "java/lang/String" = some m.cls := hown0
  have N0 := Fr.nil n0
  obtain ⟨S_s_EID_CHARS, A_T, L_T, T_T, S_CS, H_CS, S_FMT, R_FMT⟩ := (id SB)
  have w10 := hw _ (List.mem_of_getElem? (i := 10) rfl)
  have w15 := hw _ (List.mem_of_getElem? (i := 15) rfl)
  have w16 := hw _ (List.mem_of_getElem? (i := 16) rfl)
  have w18 := hw _ (List.mem_of_getElem? (i := 18) rfl)
  refine o_aloadN X0 hx (hb hby d6_0) rfl rfl ?_
  refine o_aloadN X0 hx (hb hby d6_1) rfl rfl ?_
  refine o_iconst X0 hx (0 : Int32) (hb hby d6_2) rfl ?_
  refine o_aloadN X0 hx (hb hby d6_3) rfl rfl ?_
  obtain ⟨cl1, Ar1, -, S1, N1z, -, -⟩ := (id pr3)
  refine ogo (S' := s₁.setTop (mkF m 5 #[.val (.ref x_), .val (.ref ca_)] [(.int (2 : Int32)), (.int (0 : Int32)), (.ref ca_), (.ref x_)])) (fun _ kt_ => X0.arraylength hx (by rw [e0]; exact Ar1.1) (State.isArrayOf_alike hZ.alike Ar1.2.1) (g := (mkF m 4 #[.val (.ref x_), .val (.ref ca_)] [(.ref ca_), (.int (0 : Int32)), (.ref ca_), (.ref x_)])) rfl rfl (hb hby d6_4) _ (by rw [len_of S1 N1z]; exact kt_)) ?_
  refine o_aconst_null X0 hx (hb hby d6_5) ?_
  obtain ⟨_, _, ⟨T2, L2, kc2, n2⟩, -, X2, ⟨Lc2, hQ2, l2, y2, z2⟩, st2⟩ := X0.specialBack hx (y := yM4) rfl hown (mvT hZ w15) (mvT hZ w16) (mvT hZ w18) (by decide) (backOf (W := 0) (rm_new4_2 l Z a0 hw [] s_EID_CHARS cl_T z_CS v_FMT x_ ca_ kc_ c0_ c1_ h0 n0 SB O0 pr0 pr1 pr2 pr3 pr4 pr5 pr6) hZ w18 w10 (by decide) (by decide)) (g := (mkF m 6 #[.val (.ref x_), .val (.ref ca_)] [.null, (.int (2 : Int32)), (.int (0 : Int32)), (.ref ca_), (.ref x_)])) rfl (by rw [hml]; rfl) (Steps.refl _) (a := x_) (argsL := [(.ref ca_), (.int (0 : Int32)), (.int (2 : Int32)), .null]) (rest := []) (lenOf own_pd3 rfl) rfl (by show 2 * 0 + _ ≤ _; exact Nat.le_of_eq rfl) (hb hby d6_6) (fun _ _ => ⟨rfl, e0, (by decide : 0 + 1 ≤ _), (by decide : 0 + 2 ≤ _)⟩)
  dsimp only [Pt.U, Pt.locs, Pt.cells, Pt.slots] at X2 l2 y2 z2 st2 hQ2
  subst l2 y2 z2
  obtain ⟨ba_2, kb_2, rfl, Nq2, K2, p2_0, p2_1, p2_2, p2_3, p2_4⟩ := hQ2
  have N2 := Fr.app N0 Nq2
  have n0_ba_2 : n0 ≤ ba_2 := Nat.le_trans (Nat.le_trans (Nat.le_of_eq O0.1.symm) O0.2.1) (Nat.le_trans (Nat.le_refl _) p2_0)
  refine otr (S' := T2.setTop (mkF m 9 #[.val (.ref x_), .val (.ref ca_)] [])) st2 ?_
  refine oend X2 hlk (v := none) (fun _ => rfl) (fun fs hr => X2.returnOut hx hret (hb hby d6_9) hr) (by decide) (by decide) ?_
  show own_Q_new1_2 Z _ _ _ _ _ _ _ _ _ h0 n0 _ T2.heap _
  exact ⟨ba_2, kb_2, rfl, N2, ((Keep.refl h0 [x_]).trans K2 (allS (Or.inl (List.mem_of_getElem? (i := 0) rfl)) all0)), (Nat.le_trans (Nat.le_refl _) p2_0), p2_1, p2_2, p2_3, p2_4⟩
def own_Q_cmp5_3 (Z : State)  (ca_ : Addr) (kc_ : ClassId) (ba_ : Addr) (kb_ : ClassId) (c0_ : Int32) (c1_ : Int32) (c2_ : Int32) (h0 : Heap) (n0 : Nat) (v : Option Value) (h : Heap) (L : List Loc) : Prop := (v = some (.int (3 : Int32))) ∧ (Fr n0 L) ∧ (Keep h0 h [ba_]) ∧ (Arv Z h ba_ kb_ .byte (3 : Int32) [(.int c0_.toInt8.toInt32), (.int c1_.toInt8.toInt32), (.int c2_.toInt8.toInt32)] (.int 0))
set_option maxRecDepth 65536 in
set_option maxHeartbeats 40000000 in
theorem rm_cmp5_3 (l : Launch) (Z : State) (a0 : Array Value) (hw : ∀ d ∈ tables_1, d.before a0 Z = true) (ws : List Jvm.Cond)  (ca_ : Addr) (kc_ : ClassId) (ba_ : Addr) (kb_ : ClassId) (c0_ : Int32) (c1_ : Int32) (c2_ : Int32) (h0 : Heap) (n0 : Nat) (O0 : Old Z n0 h0) (pr0 : Arv Z h0 ca_ kc_ .char (3 : Int32) [(.int c0_), (.int c1_), (.int c2_)] (.int 0)) (pr1 : Arv Z h0 ba_ kb_ .byte (3 : Int32) [(.int 0), (.int 0), (.int 0)] (.int 0)) (pr2 : ca_ ≠ ba_) (pr3 : n0 ≤ ba_) (pr4 : ¬ ((255 : Int32) < c0_)) (pr5 : ¬ ((255 : Int32) < c1_)) (pr6 : ¬ ((255 : Int32) < c2_)) :
    oMet l Z yM1 jdk_52_method_21_code 7 (some .int) ws ({ frames := 0, cells := 0, slots := 0, locals := 0 } : Room) 0 0 #[(.ref ca_), (.int (0 : Int32)), (.ref ba_), (.int (0 : Int32)), (.int (3 : Int32))] h0 (own_Q_cmp5_3 Z  ca_ kc_ ba_ kb_ c0_ c1_ c2_ h0 n0) := by
  refine oenter own_pn1 #[.val (.ref ca_), .val (.int (0 : Int32)), .val (.ref ba_), .val (.int (0 : Int32)), .val (.int (3 : Int32)), .unset, .unset] (fun m => by first | (simp [entryFrame, mkF, argsToLocals, Value.category]; done) | rfl) ?_
  intro p e s m below meth c s₁ X0 hx hZ hby hml hret hown0 hnm hlk e0
  have hown : s.vm.findClass "java/lang/StringUTF16" = some m.cls := hown0
  have N0 := Fr.nil n0
  refine o_iconst X0 hx (0 : Int32) (hb hby d2_0) rfl ?_
  refine o_istore X0 hx (l' := #[.val (.ref ca_), .val (.int (0 : Int32)), .val (.ref ba_), .val (.int (0 : Int32)), .val (.int (3 : Int32)), .val (.int (0 : Int32)), .unset]) (hb hby d2_1) rfl ?_
  refine o_iload X0 hx (hb hby d2_3) rfl ?_
  refine o_iload X0 hx (hb hby d2_5) rfl ?_
  refine o_icmpNo X0 hx (hb hby d2_7) (tlt (by decide : (0 : Int32) < (3 : Int32))).2.1 ?_
  refine o_aloadN X0 hx (hb hby d2_10) rfl rfl ?_
  refine o_iloadN X0 hx (hb hby d2_11) rfl ?_
  obtain ⟨cl1, Ar1, q1, S1, N1z, H1, G1⟩ := (id pr0)
  have hi1 := inb_of (j := (0 : Int32)) S1 ⟨by decide, by decide⟩
  have ha1 := Has.at (v := (.int c0_)) H1 hi1 rfl
  refine ogo (S' := s₁.setTop (mkF m 13 #[.val (.ref ca_), .val (.int (0 : Int32)), .val (.ref ba_), .val (.int (0 : Int32)), .val (.int (3 : Int32)), .val (.int (0 : Int32)), .unset] [(.int c0_)])) (X0.caload hx (j := (0 : Int32)) (v := (.int c0_)) (by rw [e0]; exact Ar1.1) (State.isArrayOf_alike hZ.alike Ar1.2.1) Ar1.2.2 hi1 ha1 (g := (mkF m 12 #[.val (.ref ca_), .val (.int (0 : Int32)), .val (.ref ba_), .val (.int (0 : Int32)), .val (.int (3 : Int32)), .val (.int (0 : Int32)), .unset] [(.int (0 : Int32)), (.ref ca_)])) rfl rfl (hb hby d2_12)) ?_
  refine o_istore X0 hx (l' := #[.val (.ref ca_), .val (.int (0 : Int32)), .val (.ref ba_), .val (.int (0 : Int32)), .val (.int (3 : Int32)), .val (.int (0 : Int32)), .val (.int c0_)]) (hb hby d2_13) rfl ?_
  refine o_iload X0 hx (hb hby d2_15) rfl ?_
  refine o_sipush X0 hx (255 : Int32) (hb hby d2_17) rfl ?_
  refine o_icmpYes X0 hx 26 (hb hby d2_20) (flt pr4).2.2.2 (by decide) (by decide) ?_
  refine o_aloadN X0 hx (hb hby d2_26) rfl rfl ?_
  refine o_iloadN X0 hx (hb hby d2_27) rfl ?_
  refine o_iload X0 hx (hb hby d2_28) rfl ?_
  refine o_i2b X0 hx (hb hby d2_30) ?_
  obtain ⟨cl2, Ar2, q2, S2, N2z, H2, G2⟩ := (id pr1)
  obtain ⟨T2, _, X2, rfl, W2, st2⟩ := stB X0 hx hZ e0 Ar2 (j := (0 : Int32)) (inb_of S2 ⟨by decide, by decide⟩) (g := (mkF m 31 #[.val (.ref ca_), .val (.int (0 : Int32)), .val (.ref ba_), .val (.int (0 : Int32)), .val (.int (3 : Int32)), .val (.int (0 : Int32)), .val (.int c0_)] [(.int c0_.toInt8.toInt32), (.int (0 : Int32)), (.ref ba_)])) rfl rfl (hb hby d2_31)
  rw [own_narb] at W2
  have V2 : Arv Z T2.heap ba_ kb_ .byte (3 : Int32) [(.int c0_.toInt8.toInt32), (.int 0), (.int 0)] (.int 0) := Arv.set Ar2 q2 S2 N2z H2 G2 (fits_nar_byte _) W2 0 rfl (Nat.le_of_ble_eq_true rfl)
  have N2 := Fr.snoc X2 N0 pr3
  refine ogo (S' := T2.setTop (mkF m 32 #[.val (.ref ca_), .val (.int (0 : Int32)), .val (.ref ba_), .val (.int (0 : Int32)), .val (.int (3 : Int32)), .val (.int (0 : Int32)), .val (.int c0_)] [])) st2 ?_
  refine o_iinc X2 hx (l' := #[.val (.ref ca_), .val (.int (1 : Int32)), .val (.ref ba_), .val (.int (0 : Int32)), .val (.int (3 : Int32)), .val (.int (0 : Int32)), .val (.int c0_)]) (hb hby d2_32) rfl rfl ?_
  refine o_iinc X2 hx (l' := #[.val (.ref ca_), .val (.int (1 : Int32)), .val (.ref ba_), .val (.int (1 : Int32)), .val (.int (3 : Int32)), .val (.int (0 : Int32)), .val (.int c0_)]) (hb hby d2_35) rfl rfl ?_
  refine o_iinc X2 hx (l' := #[.val (.ref ca_), .val (.int (1 : Int32)), .val (.ref ba_), .val (.int (1 : Int32)), .val (.int (3 : Int32)), .val (.int (1 : Int32)), .val (.int c0_)]) (hb hby d2_38) rfl rfl ?_
  refine o_goto X2 hx 3 (hb hby d2_41) (by decide) (by decide) ?_
  refine o_iload X2 hx (hb hby d2_3) rfl ?_
  refine o_iload X2 hx (hb hby d2_5) rfl ?_
  refine o_icmpNo X2 hx (hb hby d2_7) (tlt (by decide : (1 : Int32) < (3 : Int32))).2.1 ?_
  refine o_aloadN X2 hx (hb hby d2_10) rfl rfl ?_
  refine o_iloadN X2 hx (hb hby d2_11) rfl ?_
  obtain ⟨cl3, Ar3, q3, S3, N3z, H3, G3⟩ := (id (pr0.other W2 pr2))
  have hi3 := inb_of (j := (1 : Int32)) S3 ⟨by decide, by decide⟩
  have ha3 := Has.at (v := (.int c1_)) H3 hi3 rfl
  refine ogo (S' := T2.setTop (mkF m 13 #[.val (.ref ca_), .val (.int (1 : Int32)), .val (.ref ba_), .val (.int (1 : Int32)), .val (.int (3 : Int32)), .val (.int (1 : Int32)), .val (.int c0_)] [(.int c1_)])) (X2.caload hx (j := (1 : Int32)) (v := (.int c1_)) Ar3.1 (State.isArrayOf_alike hZ.alike Ar3.2.1) Ar3.2.2 hi3 ha3 (g := (mkF m 12 #[.val (.ref ca_), .val (.int (1 : Int32)), .val (.ref ba_), .val (.int (1 : Int32)), .val (.int (3 : Int32)), .val (.int (1 : Int32)), .val (.int c0_)] [(.int (1 : Int32)), (.ref ca_)])) rfl rfl (hb hby d2_12)) ?_
  refine o_istore X2 hx (l' := #[.val (.ref ca_), .val (.int (1 : Int32)), .val (.ref ba_), .val (.int (1 : Int32)), .val (.int (3 : Int32)), .val (.int (1 : Int32)), .val (.int c1_)]) (hb hby d2_13) rfl ?_
  refine o_iload X2 hx (hb hby d2_15) rfl ?_
  refine o_sipush X2 hx (255 : Int32) (hb hby d2_17) rfl ?_
  refine o_icmpYes X2 hx 26 (hb hby d2_20) (flt pr5).2.2.2 (by decide) (by decide) ?_
  refine o_aloadN X2 hx (hb hby d2_26) rfl rfl ?_
  refine o_iloadN X2 hx (hb hby d2_27) rfl ?_
  refine o_iload X2 hx (hb hby d2_28) rfl ?_
  refine o_i2b X2 hx (hb hby d2_30) ?_
  obtain ⟨cl4, Ar4, q4, S4, N4z, H4, G4⟩ := (id V2)
  obtain ⟨T4, _, X4, rfl, W4, st4⟩ := stB X2 hx hZ rfl Ar4 (j := (1 : Int32)) (inb_of S4 ⟨by decide, by decide⟩) (g := (mkF m 31 #[.val (.ref ca_), .val (.int (1 : Int32)), .val (.ref ba_), .val (.int (1 : Int32)), .val (.int (3 : Int32)), .val (.int (1 : Int32)), .val (.int c1_)] [(.int c1_.toInt8.toInt32), (.int (1 : Int32)), (.ref ba_)])) rfl rfl (hb hby d2_31)
  rw [own_narb] at W4
  have V4 : Arv Z T4.heap ba_ kb_ .byte (3 : Int32) [(.int c0_.toInt8.toInt32), (.int c1_.toInt8.toInt32), (.int 0)] (.int 0) := Arv.set Ar4 q4 S4 N4z H4 G4 (fits_nar_byte _) W4 1 rfl (Nat.le_of_ble_eq_true rfl)
  have N4 := Fr.snoc X4 N2 pr3
  refine ogo (S' := T4.setTop (mkF m 32 #[.val (.ref ca_), .val (.int (1 : Int32)), .val (.ref ba_), .val (.int (1 : Int32)), .val (.int (3 : Int32)), .val (.int (1 : Int32)), .val (.int c1_)] [])) st4 ?_
  refine o_iinc X4 hx (l' := #[.val (.ref ca_), .val (.int (2 : Int32)), .val (.ref ba_), .val (.int (1 : Int32)), .val (.int (3 : Int32)), .val (.int (1 : Int32)), .val (.int c1_)]) (hb hby d2_32) rfl rfl ?_
  refine o_iinc X4 hx (l' := #[.val (.ref ca_), .val (.int (2 : Int32)), .val (.ref ba_), .val (.int (2 : Int32)), .val (.int (3 : Int32)), .val (.int (1 : Int32)), .val (.int c1_)]) (hb hby d2_35) rfl rfl ?_
  refine o_iinc X4 hx (l' := #[.val (.ref ca_), .val (.int (2 : Int32)), .val (.ref ba_), .val (.int (2 : Int32)), .val (.int (3 : Int32)), .val (.int (2 : Int32)), .val (.int c1_)]) (hb hby d2_38) rfl rfl ?_
  refine o_goto X4 hx 3 (hb hby d2_41) (by decide) (by decide) ?_
  refine o_iload X4 hx (hb hby d2_3) rfl ?_
  refine o_iload X4 hx (hb hby d2_5) rfl ?_
  refine o_icmpNo X4 hx (hb hby d2_7) (tlt (by decide : (2 : Int32) < (3 : Int32))).2.1 ?_
  refine o_aloadN X4 hx (hb hby d2_10) rfl rfl ?_
  refine o_iloadN X4 hx (hb hby d2_11) rfl ?_
  obtain ⟨cl5, Ar5, q5, S5, N5z, H5, G5⟩ := (id ((pr0.other W2 pr2).other W4 pr2))
  have hi5 := inb_of (j := (2 : Int32)) S5 ⟨by decide, by decide⟩
  have ha5 := Has.at (v := (.int c2_)) H5 hi5 rfl
  refine ogo (S' := T4.setTop (mkF m 13 #[.val (.ref ca_), .val (.int (2 : Int32)), .val (.ref ba_), .val (.int (2 : Int32)), .val (.int (3 : Int32)), .val (.int (2 : Int32)), .val (.int c1_)] [(.int c2_)])) (X4.caload hx (j := (2 : Int32)) (v := (.int c2_)) Ar5.1 (State.isArrayOf_alike hZ.alike Ar5.2.1) Ar5.2.2 hi5 ha5 (g := (mkF m 12 #[.val (.ref ca_), .val (.int (2 : Int32)), .val (.ref ba_), .val (.int (2 : Int32)), .val (.int (3 : Int32)), .val (.int (2 : Int32)), .val (.int c1_)] [(.int (2 : Int32)), (.ref ca_)])) rfl rfl (hb hby d2_12)) ?_
  refine o_istore X4 hx (l' := #[.val (.ref ca_), .val (.int (2 : Int32)), .val (.ref ba_), .val (.int (2 : Int32)), .val (.int (3 : Int32)), .val (.int (2 : Int32)), .val (.int c2_)]) (hb hby d2_13) rfl ?_
  refine o_iload X4 hx (hb hby d2_15) rfl ?_
  refine o_sipush X4 hx (255 : Int32) (hb hby d2_17) rfl ?_
  refine o_icmpYes X4 hx 26 (hb hby d2_20) (flt pr6).2.2.2 (by decide) (by decide) ?_
  refine o_aloadN X4 hx (hb hby d2_26) rfl rfl ?_
  refine o_iloadN X4 hx (hb hby d2_27) rfl ?_
  refine o_iload X4 hx (hb hby d2_28) rfl ?_
  refine o_i2b X4 hx (hb hby d2_30) ?_
  obtain ⟨cl6, Ar6, q6, S6, N6z, H6, G6⟩ := (id V4)
  obtain ⟨T6, _, X6, rfl, W6, st6⟩ := stB X4 hx hZ rfl Ar6 (j := (2 : Int32)) (inb_of S6 ⟨by decide, by decide⟩) (g := (mkF m 31 #[.val (.ref ca_), .val (.int (2 : Int32)), .val (.ref ba_), .val (.int (2 : Int32)), .val (.int (3 : Int32)), .val (.int (2 : Int32)), .val (.int c2_)] [(.int c2_.toInt8.toInt32), (.int (2 : Int32)), (.ref ba_)])) rfl rfl (hb hby d2_31)
  rw [own_narb] at W6
  have V6 : Arv Z T6.heap ba_ kb_ .byte (3 : Int32) [(.int c0_.toInt8.toInt32), (.int c1_.toInt8.toInt32), (.int c2_.toInt8.toInt32)] (.int 0) := Arv.set Ar6 q6 S6 N6z H6 G6 (fits_nar_byte _) W6 2 rfl (Nat.le_of_ble_eq_true rfl)
  have N6 := Fr.snoc X6 N4 pr3
  refine ogo (S' := T6.setTop (mkF m 32 #[.val (.ref ca_), .val (.int (2 : Int32)), .val (.ref ba_), .val (.int (2 : Int32)), .val (.int (3 : Int32)), .val (.int (2 : Int32)), .val (.int c2_)] [])) st6 ?_
  refine o_iinc X6 hx (l' := #[.val (.ref ca_), .val (.int (3 : Int32)), .val (.ref ba_), .val (.int (2 : Int32)), .val (.int (3 : Int32)), .val (.int (2 : Int32)), .val (.int c2_)]) (hb hby d2_32) rfl rfl ?_
  refine o_iinc X6 hx (l' := #[.val (.ref ca_), .val (.int (3 : Int32)), .val (.ref ba_), .val (.int (3 : Int32)), .val (.int (3 : Int32)), .val (.int (2 : Int32)), .val (.int c2_)]) (hb hby d2_35) rfl rfl ?_
  refine o_iinc X6 hx (l' := #[.val (.ref ca_), .val (.int (3 : Int32)), .val (.ref ba_), .val (.int (3 : Int32)), .val (.int (3 : Int32)), .val (.int (3 : Int32)), .val (.int c2_)]) (hb hby d2_38) rfl rfl ?_
  refine o_goto X6 hx 3 (hb hby d2_41) (by decide) (by decide) ?_
  refine o_iload X6 hx (hb hby d2_3) rfl ?_
  refine o_iload X6 hx (hb hby d2_5) rfl ?_
  refine o_icmpYes X6 hx 44 (hb hby d2_7) (flt (by decide : ¬ ((3 : Int32) < (3 : Int32)))).2.1 (by decide) (by decide) ?_
  refine o_iload X6 hx (hb hby d2_44) rfl ?_
  refine oend X6 hlk (v := some (.int (3 : Int32))) (fun h => by rw [hret] at h; cases h) (fun fs hr => retOut X6 hx (t := .int) (i := .ireturn) hret rfl (Or.inl ⟨rfl, Or.inl rfl, _, rfl⟩) (hb hby d2_46) hr) (by decide) (by decide) ?_
  show own_Q_cmp5_3 Z _ _ _ _ _ _ _ h0 n0 _ T6.heap _
  exact ⟨rfl, N6, ((((Keep.refl h0 [ba_]).wr W2 (Or.inl (List.mem_of_getElem? (i := 0) rfl))).wr W4 (Or.inl (List.mem_of_getElem? (i := 0) rfl))).wr W6 (Or.inl (List.mem_of_getElem? (i := 0) rfl))), V6⟩
def own_Q_cmp3_3 (Z : State)  (ca_ : Addr) (kc_ : ClassId) (c0_ : Int32) (c1_ : Int32) (c2_ : Int32) (h0 : Heap) (n0 : Nat) (v : Option Value) (h : Heap) (L : List Loc) : Prop := ∃ ba_ : Addr, ∃ kb_ : ClassId, (v = some (.ref ba_)) ∧ (Fr n0 L) ∧ (Keep h0 h []) ∧ (h0.size ≤ ba_) ∧ (Arv Z h ba_ kb_ .byte (3 : Int32) [(.int c0_.toInt8.toInt32), (.int c1_.toInt8.toInt32), (.int c2_.toInt8.toInt32)] (.int 0))
set_option maxRecDepth 65536 in
set_option maxHeartbeats 40000000 in
theorem rm_cmp3_3 (l : Launch) (Z : State) (a0 : Array Value) (hw : ∀ d ∈ tables_1, d.before a0 Z = true) (ws : List Jvm.Cond)  (ca_ : Addr) (kc_ : ClassId) (c0_ : Int32) (c1_ : Int32) (c2_ : Int32) (h0 : Heap) (n0 : Nat) (O0 : Old Z n0 h0) (pr0 : Arv Z h0 ca_ kc_ .char (3 : Int32) [(.int c0_), (.int c1_), (.int c2_)] (.int 0)) (pr1 : ¬ ((255 : Int32) < c0_)) (pr2 : ¬ ((255 : Int32) < c1_)) (pr3 : ¬ ((255 : Int32) < c2_)) :
    oMet l Z yM2 jdk_52_method_16_code 6 (some (.array .byte)) ws ({ frames := 1, cells := 1, slots := 3, locals := 18 } : Room) 1 3 #[(.ref ca_), (.int (0 : Int32)), (.int (3 : Int32))] h0 (own_Q_cmp3_3 Z  ca_ kc_ c0_ c1_ c2_ h0 n0) := by
  refine oenter own_pn1 #[.val (.ref ca_), .val (.int (0 : Int32)), .val (.int (3 : Int32)), .unset, .unset, .unset] (fun m => by first | (simp [entryFrame, mkF, argsToLocals, Value.category]; done) | rfl) ?_
  intro p e s m below meth c s₁ X0 hx hZ hby hml hret hown0 hnm hlk e0
  have hown : s.vm.findClass "java/lang/StringUTF16" = some m.cls := hown0
  have N0 := Fr.nil n0
  have w25 := hw _ (List.mem_of_getElem? (i := 25) rfl)
  have w27 := hw _ (List.mem_of_getElem? (i := 27) rfl)
  have w28 := hw _ (List.mem_of_getElem? (i := 28) rfl)
  have w29 := hw _ (List.mem_of_getElem? (i := 29) rfl)
  have w30 := hw _ (List.mem_of_getElem? (i := 30) rfl)
  refine o_iloadN X0 hx (hb hby d3_0) rfl ?_
  obtain ⟨T1, _, k1, X1, rfl, E1, A1, Ex1, st1⟩ := newPE (aty := .byte) X0 hx hZ w27 e0 (g := (mkF m 1 #[.val (.ref ca_), .val (.int (0 : Int32)), .val (.int (3 : Int32)), .unset, .unset, .unset] [(.int (3 : Int32))])) rfl (hb hby d3_1) rfl (by decide) (cap := 3) (by decide) (by decide) (by decide) (by decide) (ad := "[B") rfl
  obtain ⟨b1, g1⟩ : ∃ z, z = h0.size := ⟨_, rfl⟩
  rw [← g1] at A1 Ex1 st1
  have n0_b1 : n0 ≤ b1 := Nat.le_trans (Nat.le_trans (Nat.le_of_eq O0.1.symm) O0.2.1) (Nat.le_trans (Nat.le_refl _) (Nat.le_of_eq g1.symm))
  have V1 : Arv Z T1.heap b1 k1 .byte (3 : Int32) [(.int 0), (.int 0), (.int 0)] (.int 0) := (Arv.new A1 (by decide)).pad (pad_rep [] (.int 0) 3)
  refine ogo (S' := T1.setTop (mkF m 3 #[.val (.ref ca_), .val (.int (0 : Int32)), .val (.int (3 : Int32)), .unset, .unset, .unset] [(.ref b1)])) st1 ?_
  refine o_astoreN X1 hx (l' := #[.val (.ref ca_), .val (.int (0 : Int32)), .val (.int (3 : Int32)), .val (.ref b1), .unset, .unset]) (hb hby d3_3) rfl rfl ?_
  refine o_aloadN X1 hx (hb hby d3_4) rfl rfl ?_
  refine o_iloadN X1 hx (hb hby d3_5) rfl ?_
  refine o_aloadN X1 hx (hb hby d3_6) rfl rfl ?_
  refine o_iconst X1 hx (0 : Int32) (hb hby d3_7) rfl ?_
  refine o_iloadN X1 hx (hb hby d3_8) rfl ?_
  obtain ⟨_, _, ⟨T2, L2, kc2, n2⟩, -, X2, ⟨Lc2, hQ2, l2, y2, z2⟩, st2⟩ := Jvm.LawKit.callS X1 hx (y := yM1) hown (mvT hZ w28) (mvT hZ w29) (mvT hZ w25) (mvT hZ w30) (by decide) (backOf (W := 0) (rm_cmp5_3 l Z a0 hw []  ca_ kc_ b1 k1 c0_ c1_ c2_ T1.heap n0 (O0.ext E1) (pr0.ext E1) V1 (Nat.ne_of_lt (Nat.lt_of_lt_of_le (Nat.lt_of_lt_of_le pr0.lt (Nat.le_refl _)) (Nat.le_of_eq g1.symm))) n0_b1 pr1 pr2 pr3) hZ w30 w25 (by decide) (by decide)) (g := (mkF m 9 #[.val (.ref ca_), .val (.int (0 : Int32)), .val (.int (3 : Int32)), .val (.ref b1), .unset, .unset] [(.int (3 : Int32)), (.int (0 : Int32)), (.ref b1), (.int (0 : Int32)), (.ref ca_)])) rfl (by rw [hml]; rfl) (argsL := [(.ref ca_), (.int (0 : Int32)), (.ref b1), (.int (0 : Int32)), (.int (3 : Int32))]) (rest := []) (lenOf own_pd0 rfl) rfl (by show 2 * 0 + _ ≤ _; exact Nat.le_of_eq rfl) (hb hby d3_9) (fun _ _ => ⟨rfl, rfl, (by decide : 1 + 0 ≤ _), (by decide : 3 + 0 ≤ _)⟩)
  dsimp only [Pt.U, Pt.locs, Pt.cells, Pt.slots] at X2 l2 y2 z2 st2 hQ2
  subst l2 y2 z2
  obtain ⟨rfl, Nq2, K2, p2_0⟩ := hQ2
  have N2 := Fr.app N0 Nq2
  refine ogo (S' := T2.setTop (mkF m 12 #[.val (.ref ca_), .val (.int (0 : Int32)), .val (.int (3 : Int32)), .val (.ref b1), .unset, .unset] [(.int (3 : Int32))])) st2 ?_
  refine o_istore X2 hx (l' := #[.val (.ref ca_), .val (.int (0 : Int32)), .val (.int (3 : Int32)), .val (.ref b1), .val (.int (3 : Int32)), .unset]) (hb hby d3_12) rfl ?_
  refine o_iload X2 hx (hb hby d3_14) rfl ?_
  refine o_iloadN X2 hx (hb hby d3_16) rfl ?_
  refine o_icmpYes X2 hx 57 (hb hby d3_17) (teq (by decide : (3 : Int32) = (3 : Int32))).1 (by decide) (by decide) ?_
  refine o_aloadN X2 hx (hb hby d3_57) rfl rfl ?_
  refine oend X2 hlk (v := some (.ref b1)) (fun h => by rw [hret] at h; cases h) (fun fs hr => retOut X2 hx (t := (.array .byte)) (i := .areturn) hret rfl (Or.inr (Or.inr (Or.inr (Or.inr ⟨rfl, rfl, rfl⟩)))) (hb hby d3_58) hr) (by decide) (by decide) ?_
  show own_Q_cmp3_3 Z _ _ _ _ _ h0 n0 _ T2.heap _
  exact ⟨b1, k1, rfl, N2, (((Keep.refl h0 []).ext E1).trans K2 (allS (Or.inr (Nat.le_trans (Nat.le_refl _) (Nat.le_of_eq g1.symm))) all0)), (Nat.le_trans (Nat.le_refl _) (Nat.le_of_eq g1.symm)), p2_0⟩
def own_Q_codl_3 (Z : State)  (ba_ : Addr) (kb_ : ClassId) (vs_ : List Value) (h0 : Heap) (n0 : Nat) (v : Option Value) (h : Heap) (L : List Loc) : Prop := (v = some (.int (0 : Int32))) ∧ (Fr n0 L) ∧ (h = h0)
set_option maxRecDepth 65536 in
set_option maxHeartbeats 40000000 in
theorem rm_codl_3 (l : Launch) (Z : State) (a0 : Array Value) (hw : ∀ d ∈ tables_1, d.before a0 Z = true) (ws : List Jvm.Cond)  (ba_ : Addr) (kb_ : ClassId) (vs_ : List Value) (h0 : Heap) (n0 : Nat) (O0 : Old Z n0 h0) (pr0 : Arv Z h0 ba_ kb_ .byte (3 : Int32) vs_ (.int 0)) :
    oMet l Z yM3 jdk_52_method_15_code 2 (some .byte) ws ({ frames := 0, cells := 0, slots := 0, locals := 0 } : Room) 0 0 #[(.ref ba_), (.int (3 : Int32))] h0 (own_Q_codl_3 Z  ba_ kb_ vs_ h0 n0) := by
  refine oenter own_pn1 #[.val (.ref ba_), .val (.int (3 : Int32))] (fun m => by first | (simp [entryFrame, mkF, argsToLocals, Value.category]; done) | rfl) ?_
  intro p e s m below meth c s₁ X0 hx hZ hby hml hret hown0 hnm hlk e0
  have hown : s.vm.findClass "java/lang/StringUTF16" = some m.cls := hown0
  have N0 := Fr.nil n0
  refine o_iloadN X0 hx (hb hby d4_0) rfl ?_
  refine o_aloadN X0 hx (hb hby d4_1) rfl rfl ?_
  obtain ⟨cl1, Ar1, -, S1, N1z, -, -⟩ := (id pr0)
  refine ogo (S' := s₁.setTop (mkF m 3 #[.val (.ref ba_), .val (.int (3 : Int32))] [(.int (3 : Int32)), (.int (3 : Int32))])) (fun _ kt_ => X0.arraylength hx (by rw [e0]; exact Ar1.1) (State.isArrayOf_alike hZ.alike Ar1.2.1) (g := (mkF m 2 #[.val (.ref ba_), .val (.int (3 : Int32))] [(.ref ba_), (.int (3 : Int32))])) rfl rfl (hb hby d4_2) _ (by rw [len_of S1 N1z]; exact kt_)) ?_
  refine o_isub X0 hx (hb hby d4_3) ?_
  refine o_bipush X0 hx (31 : Int32) (hb hby d4_4) rfl ?_
  refine o_iushr X0 hx (hb hby d4_6) ?_
  refine o_i2b X0 hx (hb hby d4_7) ?_
  refine oend X0 hlk (v := some (.int (0 : Int32))) (fun h => by rw [hret] at h; cases h) (fun fs hr => retN X0 hx (t := .byte) hret (by simp) (hb hby d4_8) hr) (by decide) (by decide) ?_
  show own_Q_codl_3 Z _ _ _ h0 n0 _ s₁.heap _
  rw [e0]
  exact ⟨rfl, N0, rfl⟩
def own_Q_new4_3 (Z : State) (s_EID_CHARS : Addr) (cl_T : Cell) (z_CS : Int32) (v_FMT : Value) (x_ : Addr) (ca_ : Addr) (kc_ : ClassId) (c0_ : Int32) (c1_ : Int32) (c2_ : Int32) (h0 : Heap) (n0 : Nat) (v : Option Value) (h : Heap) (L : List Loc) : Prop := ∃ ba_ : Addr, ∃ kb_ : ClassId, (v = none) ∧ (Fr n0 L) ∧ (Keep h0 h [x_]) ∧ (h0.size ≤ ba_) ∧ (Arv Z h ba_ kb_ .byte (3 : Int32) [(.int c0_.toInt8.toInt32), (.int c1_.toInt8.toInt32), (.int c2_.toInt8.toInt32)] (.int 0)) ∧ (Exa Z h x_ "java/lang/String") ∧ (Fld Z h x_ "java/lang/String" "value" "[B" (.ref ba_)) ∧ (Fld Z h x_ "java/lang/String" "coder" "B" (.int (0 : Int32)))
set_option maxRecDepth 65536 in
set_option maxHeartbeats 40000000 in
theorem rm_new4_3 (l : Launch) (Z : State) (a0 : Array Value) (hw : ∀ d ∈ tables_1, d.before a0 Z = true) (ws : List Jvm.Cond) (s_EID_CHARS : Addr) (cl_T : Cell) (z_CS : Int32) (v_FMT : Value) (x_ : Addr) (ca_ : Addr) (kc_ : ClassId) (c0_ : Int32) (c1_ : Int32) (c2_ : Int32) (h0 : Heap) (n0 : Nat) (SB : own_Start Z s_EID_CHARS cl_T z_CS v_FMT) (O0 : Old Z n0 h0) (pr0 : Exa Z h0 x_ "java/lang/String") (pr1 : Fld Z h0 x_ "java/lang/String" "value" "[B" .null) (pr2 : Fld Z h0 x_ "java/lang/String" "coder" "B" (.int (0 : Int32))) (pr3 : Arv Z h0 ca_ kc_ .char (3 : Int32) [(.int c0_), (.int c1_), (.int c2_)] (.int 0)) (pr4 : n0 ≤ x_) (pr5 : ¬ ((255 : Int32) < c0_)) (pr6 : ¬ ((255 : Int32) < c1_)) (pr7 : ¬ ((255 : Int32) < c2_)) :
    oMet l Z yM4 jdk_42_method_149_code 6 none ws ({ frames := 2, cells := 1, slots := 3, locals := 35 } : Room) 1 3 #[(.ref x_), (.ref ca_), (.int (0 : Int32)), (.int (3 : Int32)), .null] h0 (own_Q_new4_3 Z s_EID_CHARS cl_T z_CS v_FMT x_ ca_ kc_ c0_ c1_ c2_ h0 n0) := by
  refine oenter own_pn2 #[.val (.ref x_), .val (.ref ca_), .val (.int (0 : Int32)), .val (.int (3 : Int32)), .val .null, .unset] (fun m => by first | (simp [entryFrame, mkF, argsToLocals, Value.category]; done) | rfl) ?_
  intro p e s m below meth c s₁ X0 hx hZ hby hml hret hown0 hnm hlk e0
  have hown : s.vm.findClass "java/lang/String" = some m.cls := hown0
  have N0 := Fr.nil n0
  obtain ⟨S_s_EID_CHARS, A_T, L_T, T_T, S_CS, H_CS, S_FMT, R_FMT⟩ := (id SB)
  have w9 := hw _ (List.mem_of_getElem? (i := 9) rfl)
  have w19 := hw _ (List.mem_of_getElem? (i := 19) rfl)
  have w20 := hw _ (List.mem_of_getElem? (i := 20) rfl)
  have w21 := hw _ (List.mem_of_getElem? (i := 21) rfl)
  have w22 := hw _ (List.mem_of_getElem? (i := 22) rfl)
  have w23 := hw _ (List.mem_of_getElem? (i := 23) rfl)
  have w24 := hw _ (List.mem_of_getElem? (i := 24) rfl)
  have w25 := hw _ (List.mem_of_getElem? (i := 25) rfl)
  have w26 := hw _ (List.mem_of_getElem? (i := 26) rfl)
  have w31 := hw _ (List.mem_of_getElem? (i := 31) rfl)
  have w32 := hw _ (List.mem_of_getElem? (i := 32) rfl)
  have w33 := hw _ (List.mem_of_getElem? (i := 33) rfl)
  have w34 := hw _ (List.mem_of_getElem? (i := 34) rfl)
  have w35 := hw _ (List.mem_of_getElem? (i := 35) rfl)
  have w36 := hw _ (List.mem_of_getElem? (i := 36) rfl)
  have w37 := hw _ (List.mem_of_getElem? (i := 37) rfl)
  refine o_aloadN X0 hx (hb hby d5_0) rfl rfl ?_
  obtain ⟨T1, X1, e1, st1⟩ := initO X0 hx hZ hown w19 w20 w21 e0 (g := (mkF m 1 #[.val (.ref x_), .val (.ref ca_), .val (.int (0 : Int32)), .val (.int (3 : Int32)), .val .null, .unset] [(.ref x_)])) rfl (by rw [hml]; rfl) rfl (hb hby d5_1) (by decide) (W := 0) (by show 2 * 0 + _ ≤ _; exact Nat.le_of_eq rfl) (by decide)
  refine ogo (S' := T1.setTop (mkF m 4 #[.val (.ref x_), .val (.ref ca_), .val (.int (0 : Int32)), .val (.int (3 : Int32)), .val .null, .unset] [])) st1 ?_
  refine o_iloadN X1 hx (hb hby d5_4) rfl ?_
  refine o_ifYes X1 hx 27 (hb hby d5_5) (feq (by decide : ¬ ((3 : Int32) = (0 : Int32)))).2 (by decide) (by decide) ?_
  obtain ⟨T2, X2, e2, st2⟩ := getS2 X1 hx hZ hown (host := "") (Or.inl w22) Via.refl e1 (Sta.ext O0.2 S_CS) (g := (mkF m 27 #[.val (.ref x_), .val (.ref ca_), .val (.int (0 : Int32)), .val (.int (3 : Int32)), .val .null, .unset] [])) rfl (hb hby d5_27)
  refine ogo (S' := T2.setTop (mkF m 30 #[.val (.ref x_), .val (.ref ca_), .val (.int (0 : Int32)), .val (.int (3 : Int32)), .val .null, .unset] [(.int z_CS)])) st2 ?_
  refine o_ifNo X2 hx (hb hby d5_30) (feq H_CS).1 ?_
  refine o_aloadN X2 hx (hb hby d5_33) rfl rfl ?_
  refine o_iloadN X2 hx (hb hby d5_34) rfl ?_
  refine o_iloadN X2 hx (hb hby d5_35) rfl ?_
  obtain ⟨_, _, ⟨T3, L3, kc3, n3⟩, -, X3, ⟨Lc3, hQ3, l3, y3, z3⟩, st3⟩ := Jvm.LawKit.callS X2 hx (y := yM2) hown (mvT hZ w23) (mvT hZ w24) (mvT hZ w25) (mvT hZ w26) (by decide) (backOf (W := 0) (rm_cmp3_3 l Z a0 hw []  ca_ kc_ c0_ c1_ c2_ h0 n0 O0 pr3 pr5 pr6 pr7) hZ w26 w25 (by decide) (by decide)) (g := (mkF m 36 #[.val (.ref x_), .val (.ref ca_), .val (.int (0 : Int32)), .val (.int (3 : Int32)), .val .null, .unset] [(.int (3 : Int32)), (.int (0 : Int32)), (.ref ca_)])) rfl (by rw [hml]; rfl) (argsL := [(.ref ca_), (.int (0 : Int32)), (.int (3 : Int32))]) (rest := []) (lenOf own_pd1 rfl) rfl (by show 2 * 0 + _ ≤ _; exact Nat.le_of_eq rfl) (hb hby d5_36) (fun _ _ => ⟨rfl, e2, (by decide : 0 + 1 ≤ _), (by decide : 0 + 3 ≤ _)⟩)
  dsimp only [Pt.U, Pt.locs, Pt.cells, Pt.slots] at X3 l3 y3 z3 st3 hQ3
  subst l3 y3 z3
  obtain ⟨ba_3, kb_3, rfl, Nq3, K3, p3_0, p3_1⟩ := hQ3
  have N3 := Fr.app N0 Nq3
  have n0_ba_3 : n0 ≤ ba_3 := Nat.le_trans (Nat.le_trans (Nat.le_of_eq O0.1.symm) O0.2.1) (Nat.le_trans (Nat.le_refl _) p3_0)
  refine ogo (S' := T3.setTop (mkF m 39 #[.val (.ref x_), .val (.ref ca_), .val (.int (0 : Int32)), .val (.int (3 : Int32)), .val .null, .unset] [(.ref ba_3)])) st3 ?_
  refine o_astore X3 hx (l' := #[.val (.ref x_), .val (.ref ca_), .val (.int (0 : Int32)), .val (.int (3 : Int32)), .val .null, .val (.ref ba_3)]) (hb hby d5_39) rfl rfl ?_
  refine o_aloadN X3 hx (hb hby d5_41) rfl rfl ?_
  refine o_aload X3 hx (hb hby d5_42) rfl rfl ?_
  refine o_iloadN X3 hx (hb hby d5_44) rfl ?_
  obtain ⟨_, _, ⟨T4, L4, kc4, n4⟩, -, X4, ⟨Lc4, hQ4, l4, y4, z4⟩, st4⟩ := Jvm.LawKit.callS X3 hx (y := yM3) hown (mvT hZ w31) (mvT hZ w32) (mvT hZ w25) (mvT hZ w33) (by decide) (backOf (W := 1) (rm_codl_3 l Z a0 hw []  ba_3 kb_3 [(.int c0_.toInt8.toInt32), (.int c1_.toInt8.toInt32), (.int c2_.toInt8.toInt32)] T3.heap n0 (O0.keep K3 all0) p3_1) hZ w33 w25 (by decide) (by decide)) (g := (mkF m 45 #[.val (.ref x_), .val (.ref ca_), .val (.int (0 : Int32)), .val (.int (3 : Int32)), .val .null, .val (.ref ba_3)] [(.int (3 : Int32)), (.ref ba_3), (.ref x_)])) rfl (by rw [hml]; rfl) (argsL := [(.ref ba_3), (.int (3 : Int32))]) (rest := [(.ref x_)]) (lenOf own_pd2 rfl) rfl (by show 2 * 0 + _ ≤ _; exact Nat.le_of_eq rfl) (hb hby d5_45) (fun _ _ => ⟨rfl, rfl, (by decide : 1 + 0 ≤ _), (by decide : 3 + 0 ≤ _)⟩)
  dsimp only [Pt.U, Pt.locs, Pt.cells, Pt.slots] at X4 l4 y4 z4 st4 hQ4
  subst l4 y4 z4
  obtain ⟨rfl, Nq4, e4⟩ := hQ4
  have N4 := Fr.app N3 Nq4
  refine ogo (S' := T4.setTop (mkF m 48 #[.val (.ref x_), .val (.ref ca_), .val (.int (0 : Int32)), .val (.int (3 : Int32)), .val .null, .val (.ref ba_3)] [(.int (0 : Int32)), (.ref x_)])) st4 ?_
  obtain ⟨T5, _, X5, rfl, W5, st5⟩ := putFN X4 hx hZ hown w34 Via.refl e4 (pr2.keep K3 nin0) (pr0.keep K3) (Or.inr ⟨w35, rfl, hnm⟩) w9 (ty := .byte) (v' := (.int (0 : Int32))) (by decide) rfl (by decide) (g := (mkF m 48 #[.val (.ref x_), .val (.ref ca_), .val (.int (0 : Int32)), .val (.int (3 : Int32)), .val .null, .val (.ref ba_3)] [(.int (0 : Int32)), (.ref x_)])) rfl rfl (hb hby d5_48)
  have N5 := Fr.snoc X5 N4 pr4
  have F5 := Fld.same W5 (pr2.keep K3 nin0)
  refine ogo (S' := T5.setTop (mkF m 51 #[.val (.ref x_), .val (.ref ca_), .val (.int (0 : Int32)), .val (.int (3 : Int32)), .val .null, .val (.ref ba_3)] [])) st5 ?_
  refine o_aloadN X5 hx (hb hby d5_51) rfl rfl ?_
  refine o_aload X5 hx (hb hby d5_52) rfl rfl ?_
  have c7 := (Fld.other W5 (pr1.keep K3 nin0) (Or.inr (slot_ne (Or.inr w37) (Or.inr w35) (by decide) (t := (.array .byte)) (t' := .byte) (by decide) (by decide))))
  obtain ⟨T6, _, X6, rfl, W6, st6⟩ := putF X5 hx hZ hown (host := "") (Or.inl w36) Via.refl rfl c7 (Exa.wr W5 (pr0.keep K3)) (Or.inr ⟨w37, rfl, hnm⟩) w9 (ty := (.array .byte)) (by decide) rfl rfl (g := (mkF m 54 #[.val (.ref x_), .val (.ref ca_), .val (.int (0 : Int32)), .val (.int (3 : Int32)), .val .null, .val (.ref ba_3)] [(.ref ba_3), (.ref x_)])) rfl rfl (hb hby d5_54)
  have N6 := Fr.snoc X6 N5 pr4
  have F6 := Fld.same W6 c7
  refine ogo (S' := T6.setTop (mkF m 57 #[.val (.ref x_), .val (.ref ca_), .val (.int (0 : Int32)), .val (.int (3 : Int32)), .val .null, .val (.ref ba_3)] [])) st6 ?_
  have c8 := ((p3_1.other W5 (Nat.ne_of_gt (Nat.lt_of_lt_of_le (Nat.lt_of_lt_of_le pr0.lt (Nat.le_refl _)) p3_0))).other W6 (Nat.ne_of_gt (Nat.lt_of_lt_of_le (Nat.lt_of_lt_of_le pr0.lt (Nat.le_refl _)) p3_0)))
  have c9 := (Fld.other W6 F5 (Or.inr (slot_ne (Or.inr w35) (Or.inr w37) (by decide) (t := .byte) (t' := (.array .byte)) (by decide) (by decide))))
  refine oend X6 hlk (v := none) (fun _ => rfl) (fun fs hr => X6.returnOut hx hret (hb hby d5_57) hr) (by decide) (by decide) ?_
  show own_Q_new4_3 Z _ _ _ _ _ _ _ _ _ _ h0 n0 _ T6.heap _
  exact ⟨ba_3, kb_3, rfl, N6, ((((Keep.refl h0 [x_]).trans K3 all0).wr W5 (Or.inl (List.mem_of_getElem? (i := 0) rfl))).wr W6 (Or.inl (List.mem_of_getElem? (i := 0) rfl))), (Nat.le_trans (Nat.le_refl _) p3_0), c8, (Exa.wr W6 (Exa.wr W5 (pr0.keep K3))), F6, c9⟩
def own_Q_new1_3 (Z : State) (s_EID_CHARS : Addr) (cl_T : Cell) (z_CS : Int32) (v_FMT : Value) (x_ : Addr) (ca_ : Addr) (kc_ : ClassId) (c0_ : Int32) (c1_ : Int32) (c2_ : Int32) (h0 : Heap) (n0 : Nat) (v : Option Value) (h : Heap) (L : List Loc) : Prop := ∃ ba_ : Addr, ∃ kb_ : ClassId, (v = none) ∧ (Fr n0 L) ∧ (Keep h0 h [x_]) ∧ (h0.size ≤ ba_) ∧ (Arv Z h ba_ kb_ .byte (3 : Int32) [(.int c0_.toInt8.toInt32), (.int c1_.toInt8.toInt32), (.int c2_.toInt8.toInt32)] (.int 0)) ∧ (Exa Z h x_ "java/lang/String") ∧ (Fld Z h x_ "java/lang/String" "value" "[B" (.ref ba_)) ∧ (Fld Z h x_ "java/lang/String" "coder" "B" (.int (0 : Int32)))
set_option maxRecDepth 65536 in
set_option maxHeartbeats 40000000 in
theorem rm_new1_3 (l : Launch) (Z : State) (a0 : Array Value) (hw : ∀ d ∈ tables_1, d.before a0 Z = true) (ws : List Jvm.Cond) (s_EID_CHARS : Addr) (cl_T : Cell) (z_CS : Int32) (v_FMT : Value) (x_ : Addr) (ca_ : Addr) (kc_ : ClassId) (c0_ : Int32) (c1_ : Int32) (c2_ : Int32) (h0 : Heap) (n0 : Nat) (SB : own_Start Z s_EID_CHARS cl_T z_CS v_FMT) (O0 : Old Z n0 h0) (pr0 : Exa Z h0 x_ "java/lang/String") (pr1 : Fld Z h0 x_ "java/lang/String" "value" "[B" .null) (pr2 : Fld Z h0 x_ "java/lang/String" "coder" "B" (.int (0 : Int32))) (pr3 : Arv Z h0 ca_ kc_ .char (3 : Int32) [(.int c0_), (.int c1_), (.int c2_)] (.int 0)) (pr4 : n0 ≤ x_) (pr5 : ¬ ((255 : Int32) < c0_)) (pr6 : ¬ ((255 : Int32) < c1_)) (pr7 : ¬ ((255 : Int32) < c2_)) :
    oMet l Z yM5 jdk_42_method_3_code 2 none ws ({ frames := 3, cells := 1, slots := 3, locals := 52 } : Room) 1 3 #[(.ref x_), (.ref ca_)] h0 (own_Q_new1_3 Z s_EID_CHARS cl_T z_CS v_FMT x_ ca_ kc_ c0_ c1_ c2_ h0 n0) := by
  refine oenter own_pn2 #[.val (.ref x_), .val (.ref ca_)] (fun m => by first | (simp [entryFrame, mkF, argsToLocals, Value.category]; done) | rfl) ?_
  intro p e s m below meth c s₁ X0 hx hZ hby hml hret hown0 hnm hlk e0
  have hown : s.vm.findClass "java/lang/String" = some m.cls := hown0
  have N0 := Fr.nil n0
  obtain ⟨S_s_EID_CHARS, A_T, L_T, T_T, S_CS, H_CS, S_FMT, R_FMT⟩ := (id SB)
  have w10 := hw _ (List.mem_of_getElem? (i := 10) rfl)
  have w15 := hw _ (List.mem_of_getElem? (i := 15) rfl)
  have w16 := hw _ (List.mem_of_getElem? (i := 16) rfl)
  have w18 := hw _ (List.mem_of_getElem? (i := 18) rfl)
  refine o_aloadN X0 hx (hb hby d6_0) rfl rfl ?_
  refine o_aloadN X0 hx (hb hby d6_1) rfl rfl ?_
  refine o_iconst X0 hx (0 : Int32) (hb hby d6_2) rfl ?_
  refine o_aloadN X0 hx (hb hby d6_3) rfl rfl ?_
  obtain ⟨cl1, Ar1, -, S1, N1z, -, -⟩ := (id pr3)
  refine ogo (S' := s₁.setTop (mkF m 5 #[.val (.ref x_), .val (.ref ca_)] [(.int (3 : Int32)), (.int (0 : Int32)), (.ref ca_), (.ref x_)])) (fun _ kt_ => X0.arraylength hx (by rw [e0]; exact Ar1.1) (State.isArrayOf_alike hZ.alike Ar1.2.1) (g := (mkF m 4 #[.val (.ref x_), .val (.ref ca_)] [(.ref ca_), (.int (0 : Int32)), (.ref ca_), (.ref x_)])) rfl rfl (hb hby d6_4) _ (by rw [len_of S1 N1z]; exact kt_)) ?_
  refine o_aconst_null X0 hx (hb hby d6_5) ?_
  obtain ⟨_, _, ⟨T2, L2, kc2, n2⟩, -, X2, ⟨Lc2, hQ2, l2, y2, z2⟩, st2⟩ := X0.specialBack hx (y := yM4) rfl hown (mvT hZ w15) (mvT hZ w16) (mvT hZ w18) (by decide) (backOf (W := 0) (rm_new4_3 l Z a0 hw [] s_EID_CHARS cl_T z_CS v_FMT x_ ca_ kc_ c0_ c1_ c2_ h0 n0 SB O0 pr0 pr1 pr2 pr3 pr4 pr5 pr6 pr7) hZ w18 w10 (by decide) (by decide)) (g := (mkF m 6 #[.val (.ref x_), .val (.ref ca_)] [.null, (.int (3 : Int32)), (.int (0 : Int32)), (.ref ca_), (.ref x_)])) rfl (by rw [hml]; rfl) (Steps.refl _) (a := x_) (argsL := [(.ref ca_), (.int (0 : Int32)), (.int (3 : Int32)), .null]) (rest := []) (lenOf own_pd3 rfl) rfl (by show 2 * 0 + _ ≤ _; exact Nat.le_of_eq rfl) (hb hby d6_6) (fun _ _ => ⟨rfl, e0, (by decide : 0 + 1 ≤ _), (by decide : 0 + 3 ≤ _)⟩)
  dsimp only [Pt.U, Pt.locs, Pt.cells, Pt.slots] at X2 l2 y2 z2 st2 hQ2
  subst l2 y2 z2
  obtain ⟨ba_2, kb_2, rfl, Nq2, K2, p2_0, p2_1, p2_2, p2_3, p2_4⟩ := hQ2
  have N2 := Fr.app N0 Nq2
  have n0_ba_2 : n0 ≤ ba_2 := Nat.le_trans (Nat.le_trans (Nat.le_of_eq O0.1.symm) O0.2.1) (Nat.le_trans (Nat.le_refl _) p2_0)
  refine otr (S' := T2.setTop (mkF m 9 #[.val (.ref x_), .val (.ref ca_)] [])) st2 ?_
  refine oend X2 hlk (v := none) (fun _ => rfl) (fun fs hr => X2.returnOut hx hret (hb hby d6_9) hr) (by decide) (by decide) ?_
  show own_Q_new1_3 Z _ _ _ _ _ _ _ _ _ _ h0 n0 _ T2.heap _
  exact ⟨ba_2, kb_2, rfl, N2, ((Keep.refl h0 [x_]).trans K2 (allS (Or.inl (List.mem_of_getElem? (i := 0) rfl)) all0)), (Nat.le_trans (Nat.le_refl _) p2_0), p2_1, p2_2, p2_3, p2_4⟩
def own_Q_cmp5_4 (Z : State)  (ca_ : Addr) (kc_ : ClassId) (ba_ : Addr) (kb_ : ClassId) (c0_ : Int32) (c1_ : Int32) (c2_ : Int32) (c3_ : Int32) (h0 : Heap) (n0 : Nat) (v : Option Value) (h : Heap) (L : List Loc) : Prop := (v = some (.int (4 : Int32))) ∧ (Fr n0 L) ∧ (Keep h0 h [ba_]) ∧ (Arv Z h ba_ kb_ .byte (4 : Int32) [(.int c0_.toInt8.toInt32), (.int c1_.toInt8.toInt32), (.int c2_.toInt8.toInt32), (.int c3_.toInt8.toInt32)] (.int 0))
set_option maxRecDepth 65536 in
set_option maxHeartbeats 40000000 in
theorem rm_cmp5_4 (l : Launch) (Z : State) (a0 : Array Value) (hw : ∀ d ∈ tables_1, d.before a0 Z = true) (ws : List Jvm.Cond)  (ca_ : Addr) (kc_ : ClassId) (ba_ : Addr) (kb_ : ClassId) (c0_ : Int32) (c1_ : Int32) (c2_ : Int32) (c3_ : Int32) (h0 : Heap) (n0 : Nat) (O0 : Old Z n0 h0) (pr0 : Arv Z h0 ca_ kc_ .char (4 : Int32) [(.int c0_), (.int c1_), (.int c2_), (.int c3_)] (.int 0)) (pr1 : Arv Z h0 ba_ kb_ .byte (4 : Int32) [(.int 0), (.int 0), (.int 0), (.int 0)] (.int 0)) (pr2 : ca_ ≠ ba_) (pr3 : n0 ≤ ba_) (pr4 : ¬ ((255 : Int32) < c0_)) (pr5 : ¬ ((255 : Int32) < c1_)) (pr6 : ¬ ((255 : Int32) < c2_)) (pr7 : ¬ ((255 : Int32) < c3_)) :
    oMet l Z yM1 jdk_52_method_21_code 7 (some .int) ws ({ frames := 0, cells := 0, slots := 0, locals := 0 } : Room) 0 0 #[(.ref ca_), (.int (0 : Int32)), (.ref ba_), (.int (0 : Int32)), (.int (4 : Int32))] h0 (own_Q_cmp5_4 Z  ca_ kc_ ba_ kb_ c0_ c1_ c2_ c3_ h0 n0) := by
  refine oenter own_pn1 #[.val (.ref ca_), .val (.int (0 : Int32)), .val (.ref ba_), .val (.int (0 : Int32)), .val (.int (4 : Int32)), .unset, .unset] (fun m => by first | (simp [entryFrame, mkF, argsToLocals, Value.category]; done) | rfl) ?_
  intro p e s m below meth c s₁ X0 hx hZ hby hml hret hown0 hnm hlk e0
  have hown : s.vm.findClass "java/lang/StringUTF16" = some m.cls := hown0
  have N0 := Fr.nil n0
  refine o_iconst X0 hx (0 : Int32) (hb hby d2_0) rfl ?_
  refine o_istore X0 hx (l' := #[.val (.ref ca_), .val (.int (0 : Int32)), .val (.ref ba_), .val (.int (0 : Int32)), .val (.int (4 : Int32)), .val (.int (0 : Int32)), .unset]) (hb hby d2_1) rfl ?_
  refine o_iload X0 hx (hb hby d2_3) rfl ?_
  refine o_iload X0 hx (hb hby d2_5) rfl ?_
  refine o_icmpNo X0 hx (hb hby d2_7) (tlt (by decide : (0 : Int32) < (4 : Int32))).2.1 ?_
  refine o_aloadN X0 hx (hb hby d2_10) rfl rfl ?_
  refine o_iloadN X0 hx (hb hby d2_11) rfl ?_
  obtain ⟨cl1, Ar1, q1, S1, N1z, H1, G1⟩ := (id pr0)
  have hi1 := inb_of (j := (0 : Int32)) S1 ⟨by decide, by decide⟩
  have ha1 := Has.at (v := (.int c0_)) H1 hi1 rfl
  refine ogo (S' := s₁.setTop (mkF m 13 #[.val (.ref ca_), .val (.int (0 : Int32)), .val (.ref ba_), .val (.int (0 : Int32)), .val (.int (4 : Int32)), .val (.int (0 : Int32)), .unset] [(.int c0_)])) (X0.caload hx (j := (0 : Int32)) (v := (.int c0_)) (by rw [e0]; exact Ar1.1) (State.isArrayOf_alike hZ.alike Ar1.2.1) Ar1.2.2 hi1 ha1 (g := (mkF m 12 #[.val (.ref ca_), .val (.int (0 : Int32)), .val (.ref ba_), .val (.int (0 : Int32)), .val (.int (4 : Int32)), .val (.int (0 : Int32)), .unset] [(.int (0 : Int32)), (.ref ca_)])) rfl rfl (hb hby d2_12)) ?_
  refine o_istore X0 hx (l' := #[.val (.ref ca_), .val (.int (0 : Int32)), .val (.ref ba_), .val (.int (0 : Int32)), .val (.int (4 : Int32)), .val (.int (0 : Int32)), .val (.int c0_)]) (hb hby d2_13) rfl ?_
  refine o_iload X0 hx (hb hby d2_15) rfl ?_
  refine o_sipush X0 hx (255 : Int32) (hb hby d2_17) rfl ?_
  refine o_icmpYes X0 hx 26 (hb hby d2_20) (flt pr4).2.2.2 (by decide) (by decide) ?_
  refine o_aloadN X0 hx (hb hby d2_26) rfl rfl ?_
  refine o_iloadN X0 hx (hb hby d2_27) rfl ?_
  refine o_iload X0 hx (hb hby d2_28) rfl ?_
  refine o_i2b X0 hx (hb hby d2_30) ?_
  obtain ⟨cl2, Ar2, q2, S2, N2z, H2, G2⟩ := (id pr1)
  obtain ⟨T2, _, X2, rfl, W2, st2⟩ := stB X0 hx hZ e0 Ar2 (j := (0 : Int32)) (inb_of S2 ⟨by decide, by decide⟩) (g := (mkF m 31 #[.val (.ref ca_), .val (.int (0 : Int32)), .val (.ref ba_), .val (.int (0 : Int32)), .val (.int (4 : Int32)), .val (.int (0 : Int32)), .val (.int c0_)] [(.int c0_.toInt8.toInt32), (.int (0 : Int32)), (.ref ba_)])) rfl rfl (hb hby d2_31)
  rw [own_narb] at W2
  have V2 : Arv Z T2.heap ba_ kb_ .byte (4 : Int32) [(.int c0_.toInt8.toInt32), (.int 0), (.int 0), (.int 0)] (.int 0) := Arv.set Ar2 q2 S2 N2z H2 G2 (fits_nar_byte _) W2 0 rfl (Nat.le_of_ble_eq_true rfl)
  have N2 := Fr.snoc X2 N0 pr3
  refine ogo (S' := T2.setTop (mkF m 32 #[.val (.ref ca_), .val (.int (0 : Int32)), .val (.ref ba_), .val (.int (0 : Int32)), .val (.int (4 : Int32)), .val (.int (0 : Int32)), .val (.int c0_)] [])) st2 ?_
  refine o_iinc X2 hx (l' := #[.val (.ref ca_), .val (.int (1 : Int32)), .val (.ref ba_), .val (.int (0 : Int32)), .val (.int (4 : Int32)), .val (.int (0 : Int32)), .val (.int c0_)]) (hb hby d2_32) rfl rfl ?_
  refine o_iinc X2 hx (l' := #[.val (.ref ca_), .val (.int (1 : Int32)), .val (.ref ba_), .val (.int (1 : Int32)), .val (.int (4 : Int32)), .val (.int (0 : Int32)), .val (.int c0_)]) (hb hby d2_35) rfl rfl ?_
  refine o_iinc X2 hx (l' := #[.val (.ref ca_), .val (.int (1 : Int32)), .val (.ref ba_), .val (.int (1 : Int32)), .val (.int (4 : Int32)), .val (.int (1 : Int32)), .val (.int c0_)]) (hb hby d2_38) rfl rfl ?_
  refine o_goto X2 hx 3 (hb hby d2_41) (by decide) (by decide) ?_
  refine o_iload X2 hx (hb hby d2_3) rfl ?_
  refine o_iload X2 hx (hb hby d2_5) rfl ?_
  refine o_icmpNo X2 hx (hb hby d2_7) (tlt (by decide : (1 : Int32) < (4 : Int32))).2.1 ?_
  refine o_aloadN X2 hx (hb hby d2_10) rfl rfl ?_
  refine o_iloadN X2 hx (hb hby d2_11) rfl ?_
  obtain ⟨cl3, Ar3, q3, S3, N3z, H3, G3⟩ := (id (pr0.other W2 pr2))
  have hi3 := inb_of (j := (1 : Int32)) S3 ⟨by decide, by decide⟩
  have ha3 := Has.at (v := (.int c1_)) H3 hi3 rfl
  refine ogo (S' := T2.setTop (mkF m 13 #[.val (.ref ca_), .val (.int (1 : Int32)), .val (.ref ba_), .val (.int (1 : Int32)), .val (.int (4 : Int32)), .val (.int (1 : Int32)), .val (.int c0_)] [(.int c1_)])) (X2.caload hx (j := (1 : Int32)) (v := (.int c1_)) Ar3.1 (State.isArrayOf_alike hZ.alike Ar3.2.1) Ar3.2.2 hi3 ha3 (g := (mkF m 12 #[.val (.ref ca_), .val (.int (1 : Int32)), .val (.ref ba_), .val (.int (1 : Int32)), .val (.int (4 : Int32)), .val (.int (1 : Int32)), .val (.int c0_)] [(.int (1 : Int32)), (.ref ca_)])) rfl rfl (hb hby d2_12)) ?_
  refine o_istore X2 hx (l' := #[.val (.ref ca_), .val (.int (1 : Int32)), .val (.ref ba_), .val (.int (1 : Int32)), .val (.int (4 : Int32)), .val (.int (1 : Int32)), .val (.int c1_)]) (hb hby d2_13) rfl ?_
  refine o_iload X2 hx (hb hby d2_15) rfl ?_
  refine o_sipush X2 hx (255 : Int32) (hb hby d2_17) rfl ?_
  refine o_icmpYes X2 hx 26 (hb hby d2_20) (flt pr5).2.2.2 (by decide) (by decide) ?_
  refine o_aloadN X2 hx (hb hby d2_26) rfl rfl ?_
  refine o_iloadN X2 hx (hb hby d2_27) rfl ?_
  refine o_iload X2 hx (hb hby d2_28) rfl ?_
  refine o_i2b X2 hx (hb hby d2_30) ?_
  obtain ⟨cl4, Ar4, q4, S4, N4z, H4, G4⟩ := (id V2)
  obtain ⟨T4, _, X4, rfl, W4, st4⟩ := stB X2 hx hZ rfl Ar4 (j := (1 : Int32)) (inb_of S4 ⟨by decide, by decide⟩) (g := (mkF m 31 #[.val (.ref ca_), .val (.int (1 : Int32)), .val (.ref ba_), .val (.int (1 : Int32)), .val (.int (4 : Int32)), .val (.int (1 : Int32)), .val (.int c1_)] [(.int c1_.toInt8.toInt32), (.int (1 : Int32)), (.ref ba_)])) rfl rfl (hb hby d2_31)
  rw [own_narb] at W4
  have V4 : Arv Z T4.heap ba_ kb_ .byte (4 : Int32) [(.int c0_.toInt8.toInt32), (.int c1_.toInt8.toInt32), (.int 0), (.int 0)] (.int 0) := Arv.set Ar4 q4 S4 N4z H4 G4 (fits_nar_byte _) W4 1 rfl (Nat.le_of_ble_eq_true rfl)
  have N4 := Fr.snoc X4 N2 pr3
  refine ogo (S' := T4.setTop (mkF m 32 #[.val (.ref ca_), .val (.int (1 : Int32)), .val (.ref ba_), .val (.int (1 : Int32)), .val (.int (4 : Int32)), .val (.int (1 : Int32)), .val (.int c1_)] [])) st4 ?_
  refine o_iinc X4 hx (l' := #[.val (.ref ca_), .val (.int (2 : Int32)), .val (.ref ba_), .val (.int (1 : Int32)), .val (.int (4 : Int32)), .val (.int (1 : Int32)), .val (.int c1_)]) (hb hby d2_32) rfl rfl ?_
  refine o_iinc X4 hx (l' := #[.val (.ref ca_), .val (.int (2 : Int32)), .val (.ref ba_), .val (.int (2 : Int32)), .val (.int (4 : Int32)), .val (.int (1 : Int32)), .val (.int c1_)]) (hb hby d2_35) rfl rfl ?_
  refine o_iinc X4 hx (l' := #[.val (.ref ca_), .val (.int (2 : Int32)), .val (.ref ba_), .val (.int (2 : Int32)), .val (.int (4 : Int32)), .val (.int (2 : Int32)), .val (.int c1_)]) (hb hby d2_38) rfl rfl ?_
  refine o_goto X4 hx 3 (hb hby d2_41) (by decide) (by decide) ?_
  refine o_iload X4 hx (hb hby d2_3) rfl ?_
  refine o_iload X4 hx (hb hby d2_5) rfl ?_
  refine o_icmpNo X4 hx (hb hby d2_7) (tlt (by decide : (2 : Int32) < (4 : Int32))).2.1 ?_
  refine o_aloadN X4 hx (hb hby d2_10) rfl rfl ?_
  refine o_iloadN X4 hx (hb hby d2_11) rfl ?_
  obtain ⟨cl5, Ar5, q5, S5, N5z, H5, G5⟩ := (id ((pr0.other W2 pr2).other W4 pr2))
  have hi5 := inb_of (j := (2 : Int32)) S5 ⟨by decide, by decide⟩
  have ha5 := Has.at (v := (.int c2_)) H5 hi5 rfl
  refine ogo (S' := T4.setTop (mkF m 13 #[.val (.ref ca_), .val (.int (2 : Int32)), .val (.ref ba_), .val (.int (2 : Int32)), .val (.int (4 : Int32)), .val (.int (2 : Int32)), .val (.int c1_)] [(.int c2_)])) (X4.caload hx (j := (2 : Int32)) (v := (.int c2_)) Ar5.1 (State.isArrayOf_alike hZ.alike Ar5.2.1) Ar5.2.2 hi5 ha5 (g := (mkF m 12 #[.val (.ref ca_), .val (.int (2 : Int32)), .val (.ref ba_), .val (.int (2 : Int32)), .val (.int (4 : Int32)), .val (.int (2 : Int32)), .val (.int c1_)] [(.int (2 : Int32)), (.ref ca_)])) rfl rfl (hb hby d2_12)) ?_
  refine o_istore X4 hx (l' := #[.val (.ref ca_), .val (.int (2 : Int32)), .val (.ref ba_), .val (.int (2 : Int32)), .val (.int (4 : Int32)), .val (.int (2 : Int32)), .val (.int c2_)]) (hb hby d2_13) rfl ?_
  refine o_iload X4 hx (hb hby d2_15) rfl ?_
  refine o_sipush X4 hx (255 : Int32) (hb hby d2_17) rfl ?_
  refine o_icmpYes X4 hx 26 (hb hby d2_20) (flt pr6).2.2.2 (by decide) (by decide) ?_
  refine o_aloadN X4 hx (hb hby d2_26) rfl rfl ?_
  refine o_iloadN X4 hx (hb hby d2_27) rfl ?_
  refine o_iload X4 hx (hb hby d2_28) rfl ?_
  refine o_i2b X4 hx (hb hby d2_30) ?_
  obtain ⟨cl6, Ar6, q6, S6, N6z, H6, G6⟩ := (id V4)
  obtain ⟨T6, _, X6, rfl, W6, st6⟩ := stB X4 hx hZ rfl Ar6 (j := (2 : Int32)) (inb_of S6 ⟨by decide, by decide⟩) (g := (mkF m 31 #[.val (.ref ca_), .val (.int (2 : Int32)), .val (.ref ba_), .val (.int (2 : Int32)), .val (.int (4 : Int32)), .val (.int (2 : Int32)), .val (.int c2_)] [(.int c2_.toInt8.toInt32), (.int (2 : Int32)), (.ref ba_)])) rfl rfl (hb hby d2_31)
  rw [own_narb] at W6
  have V6 : Arv Z T6.heap ba_ kb_ .byte (4 : Int32) [(.int c0_.toInt8.toInt32), (.int c1_.toInt8.toInt32), (.int c2_.toInt8.toInt32), (.int 0)] (.int 0) := Arv.set Ar6 q6 S6 N6z H6 G6 (fits_nar_byte _) W6 2 rfl (Nat.le_of_ble_eq_true rfl)
  have N6 := Fr.snoc X6 N4 pr3
  refine ogo (S' := T6.setTop (mkF m 32 #[.val (.ref ca_), .val (.int (2 : Int32)), .val (.ref ba_), .val (.int (2 : Int32)), .val (.int (4 : Int32)), .val (.int (2 : Int32)), .val (.int c2_)] [])) st6 ?_
  refine o_iinc X6 hx (l' := #[.val (.ref ca_), .val (.int (3 : Int32)), .val (.ref ba_), .val (.int (2 : Int32)), .val (.int (4 : Int32)), .val (.int (2 : Int32)), .val (.int c2_)]) (hb hby d2_32) rfl rfl ?_
  refine o_iinc X6 hx (l' := #[.val (.ref ca_), .val (.int (3 : Int32)), .val (.ref ba_), .val (.int (3 : Int32)), .val (.int (4 : Int32)), .val (.int (2 : Int32)), .val (.int c2_)]) (hb hby d2_35) rfl rfl ?_
  refine o_iinc X6 hx (l' := #[.val (.ref ca_), .val (.int (3 : Int32)), .val (.ref ba_), .val (.int (3 : Int32)), .val (.int (4 : Int32)), .val (.int (3 : Int32)), .val (.int c2_)]) (hb hby d2_38) rfl rfl ?_
  refine o_goto X6 hx 3 (hb hby d2_41) (by decide) (by decide) ?_
  refine o_iload X6 hx (hb hby d2_3) rfl ?_
  refine o_iload X6 hx (hb hby d2_5) rfl ?_
  refine o_icmpNo X6 hx (hb hby d2_7) (tlt (by decide : (3 : Int32) < (4 : Int32))).2.1 ?_
  refine o_aloadN X6 hx (hb hby d2_10) rfl rfl ?_
  refine o_iloadN X6 hx (hb hby d2_11) rfl ?_
  obtain ⟨cl7, Ar7, q7, S7, N7z, H7, G7⟩ := (id (((pr0.other W2 pr2).other W4 pr2).other W6 pr2))
  have hi7 := inb_of (j := (3 : Int32)) S7 ⟨by decide, by decide⟩
  have ha7 := Has.at (v := (.int c3_)) H7 hi7 rfl
  refine ogo (S' := T6.setTop (mkF m 13 #[.val (.ref ca_), .val (.int (3 : Int32)), .val (.ref ba_), .val (.int (3 : Int32)), .val (.int (4 : Int32)), .val (.int (3 : Int32)), .val (.int c2_)] [(.int c3_)])) (X6.caload hx (j := (3 : Int32)) (v := (.int c3_)) Ar7.1 (State.isArrayOf_alike hZ.alike Ar7.2.1) Ar7.2.2 hi7 ha7 (g := (mkF m 12 #[.val (.ref ca_), .val (.int (3 : Int32)), .val (.ref ba_), .val (.int (3 : Int32)), .val (.int (4 : Int32)), .val (.int (3 : Int32)), .val (.int c2_)] [(.int (3 : Int32)), (.ref ca_)])) rfl rfl (hb hby d2_12)) ?_
  refine o_istore X6 hx (l' := #[.val (.ref ca_), .val (.int (3 : Int32)), .val (.ref ba_), .val (.int (3 : Int32)), .val (.int (4 : Int32)), .val (.int (3 : Int32)), .val (.int c3_)]) (hb hby d2_13) rfl ?_
  refine o_iload X6 hx (hb hby d2_15) rfl ?_
  refine o_sipush X6 hx (255 : Int32) (hb hby d2_17) rfl ?_
  refine o_icmpYes X6 hx 26 (hb hby d2_20) (flt pr7).2.2.2 (by decide) (by decide) ?_
  refine o_aloadN X6 hx (hb hby d2_26) rfl rfl ?_
  refine o_iloadN X6 hx (hb hby d2_27) rfl ?_
  refine o_iload X6 hx (hb hby d2_28) rfl ?_
  refine o_i2b X6 hx (hb hby d2_30) ?_
  obtain ⟨cl8, Ar8, q8, S8, N8z, H8, G8⟩ := (id V6)
  obtain ⟨T8, _, X8, rfl, W8, st8⟩ := stB X6 hx hZ rfl Ar8 (j := (3 : Int32)) (inb_of S8 ⟨by decide, by decide⟩) (g := (mkF m 31 #[.val (.ref ca_), .val (.int (3 : Int32)), .val (.ref ba_), .val (.int (3 : Int32)), .val (.int (4 : Int32)), .val (.int (3 : Int32)), .val (.int c3_)] [(.int c3_.toInt8.toInt32), (.int (3 : Int32)), (.ref ba_)])) rfl rfl (hb hby d2_31)
  rw [own_narb] at W8
  have V8 : Arv Z T8.heap ba_ kb_ .byte (4 : Int32) [(.int c0_.toInt8.toInt32), (.int c1_.toInt8.toInt32), (.int c2_.toInt8.toInt32), (.int c3_.toInt8.toInt32)] (.int 0) := Arv.set Ar8 q8 S8 N8z H8 G8 (fits_nar_byte _) W8 3 rfl (Nat.le_of_ble_eq_true rfl)
  have N8 := Fr.snoc X8 N6 pr3
  refine ogo (S' := T8.setTop (mkF m 32 #[.val (.ref ca_), .val (.int (3 : Int32)), .val (.ref ba_), .val (.int (3 : Int32)), .val (.int (4 : Int32)), .val (.int (3 : Int32)), .val (.int c3_)] [])) st8 ?_
  refine o_iinc X8 hx (l' := #[.val (.ref ca_), .val (.int (4 : Int32)), .val (.ref ba_), .val (.int (3 : Int32)), .val (.int (4 : Int32)), .val (.int (3 : Int32)), .val (.int c3_)]) (hb hby d2_32) rfl rfl ?_
  refine o_iinc X8 hx (l' := #[.val (.ref ca_), .val (.int (4 : Int32)), .val (.ref ba_), .val (.int (4 : Int32)), .val (.int (4 : Int32)), .val (.int (3 : Int32)), .val (.int c3_)]) (hb hby d2_35) rfl rfl ?_
  refine o_iinc X8 hx (l' := #[.val (.ref ca_), .val (.int (4 : Int32)), .val (.ref ba_), .val (.int (4 : Int32)), .val (.int (4 : Int32)), .val (.int (4 : Int32)), .val (.int c3_)]) (hb hby d2_38) rfl rfl ?_
  refine o_goto X8 hx 3 (hb hby d2_41) (by decide) (by decide) ?_
  refine o_iload X8 hx (hb hby d2_3) rfl ?_
  refine o_iload X8 hx (hb hby d2_5) rfl ?_
  refine o_icmpYes X8 hx 44 (hb hby d2_7) (flt (by decide : ¬ ((4 : Int32) < (4 : Int32)))).2.1 (by decide) (by decide) ?_
  refine o_iload X8 hx (hb hby d2_44) rfl ?_
  refine oend X8 hlk (v := some (.int (4 : Int32))) (fun h => by rw [hret] at h; cases h) (fun fs hr => retOut X8 hx (t := .int) (i := .ireturn) hret rfl (Or.inl ⟨rfl, Or.inl rfl, _, rfl⟩) (hb hby d2_46) hr) (by decide) (by decide) ?_
  show own_Q_cmp5_4 Z _ _ _ _ _ _ _ _ h0 n0 _ T8.heap _
  exact ⟨rfl, N8, (((((Keep.refl h0 [ba_]).wr W2 (Or.inl (List.mem_of_getElem? (i := 0) rfl))).wr W4 (Or.inl (List.mem_of_getElem? (i := 0) rfl))).wr W6 (Or.inl (List.mem_of_getElem? (i := 0) rfl))).wr W8 (Or.inl (List.mem_of_getElem? (i := 0) rfl))), V8⟩
def own_Q_cmp3_4 (Z : State)  (ca_ : Addr) (kc_ : ClassId) (c0_ : Int32) (c1_ : Int32) (c2_ : Int32) (c3_ : Int32) (h0 : Heap) (n0 : Nat) (v : Option Value) (h : Heap) (L : List Loc) : Prop := ∃ ba_ : Addr, ∃ kb_ : ClassId, (v = some (.ref ba_)) ∧ (Fr n0 L) ∧ (Keep h0 h []) ∧ (h0.size ≤ ba_) ∧ (Arv Z h ba_ kb_ .byte (4 : Int32) [(.int c0_.toInt8.toInt32), (.int c1_.toInt8.toInt32), (.int c2_.toInt8.toInt32), (.int c3_.toInt8.toInt32)] (.int 0))
set_option maxRecDepth 65536 in
set_option maxHeartbeats 40000000 in
theorem rm_cmp3_4 (l : Launch) (Z : State) (a0 : Array Value) (hw : ∀ d ∈ tables_1, d.before a0 Z = true) (ws : List Jvm.Cond)  (ca_ : Addr) (kc_ : ClassId) (c0_ : Int32) (c1_ : Int32) (c2_ : Int32) (c3_ : Int32) (h0 : Heap) (n0 : Nat) (O0 : Old Z n0 h0) (pr0 : Arv Z h0 ca_ kc_ .char (4 : Int32) [(.int c0_), (.int c1_), (.int c2_), (.int c3_)] (.int 0)) (pr1 : ¬ ((255 : Int32) < c0_)) (pr2 : ¬ ((255 : Int32) < c1_)) (pr3 : ¬ ((255 : Int32) < c2_)) (pr4 : ¬ ((255 : Int32) < c3_)) :
    oMet l Z yM2 jdk_52_method_16_code 6 (some (.array .byte)) ws ({ frames := 1, cells := 1, slots := 4, locals := 18 } : Room) 1 4 #[(.ref ca_), (.int (0 : Int32)), (.int (4 : Int32))] h0 (own_Q_cmp3_4 Z  ca_ kc_ c0_ c1_ c2_ c3_ h0 n0) := by
  refine oenter own_pn1 #[.val (.ref ca_), .val (.int (0 : Int32)), .val (.int (4 : Int32)), .unset, .unset, .unset] (fun m => by first | (simp [entryFrame, mkF, argsToLocals, Value.category]; done) | rfl) ?_
  intro p e s m below meth c s₁ X0 hx hZ hby hml hret hown0 hnm hlk e0
  have hown : s.vm.findClass "java/lang/StringUTF16" = some m.cls := hown0
  have N0 := Fr.nil n0
  have w25 := hw _ (List.mem_of_getElem? (i := 25) rfl)
  have w27 := hw _ (List.mem_of_getElem? (i := 27) rfl)
  have w28 := hw _ (List.mem_of_getElem? (i := 28) rfl)
  have w29 := hw _ (List.mem_of_getElem? (i := 29) rfl)
  have w30 := hw _ (List.mem_of_getElem? (i := 30) rfl)
  refine o_iloadN X0 hx (hb hby d3_0) rfl ?_
  obtain ⟨T1, _, k1, X1, rfl, E1, A1, Ex1, st1⟩ := newPE (aty := .byte) X0 hx hZ w27 e0 (g := (mkF m 1 #[.val (.ref ca_), .val (.int (0 : Int32)), .val (.int (4 : Int32)), .unset, .unset, .unset] [(.int (4 : Int32))])) rfl (hb hby d3_1) rfl (by decide) (cap := 4) (by decide) (by decide) (by decide) (by decide) (ad := "[B") rfl
  obtain ⟨b1, g1⟩ : ∃ z, z = h0.size := ⟨_, rfl⟩
  rw [← g1] at A1 Ex1 st1
  have n0_b1 : n0 ≤ b1 := Nat.le_trans (Nat.le_trans (Nat.le_of_eq O0.1.symm) O0.2.1) (Nat.le_trans (Nat.le_refl _) (Nat.le_of_eq g1.symm))
  have V1 : Arv Z T1.heap b1 k1 .byte (4 : Int32) [(.int 0), (.int 0), (.int 0), (.int 0)] (.int 0) := (Arv.new A1 (by decide)).pad (pad_rep [] (.int 0) 4)
  refine ogo (S' := T1.setTop (mkF m 3 #[.val (.ref ca_), .val (.int (0 : Int32)), .val (.int (4 : Int32)), .unset, .unset, .unset] [(.ref b1)])) st1 ?_
  refine o_astoreN X1 hx (l' := #[.val (.ref ca_), .val (.int (0 : Int32)), .val (.int (4 : Int32)), .val (.ref b1), .unset, .unset]) (hb hby d3_3) rfl rfl ?_
  refine o_aloadN X1 hx (hb hby d3_4) rfl rfl ?_
  refine o_iloadN X1 hx (hb hby d3_5) rfl ?_
  refine o_aloadN X1 hx (hb hby d3_6) rfl rfl ?_
  refine o_iconst X1 hx (0 : Int32) (hb hby d3_7) rfl ?_
  refine o_iloadN X1 hx (hb hby d3_8) rfl ?_
  obtain ⟨_, _, ⟨T2, L2, kc2, n2⟩, -, X2, ⟨Lc2, hQ2, l2, y2, z2⟩, st2⟩ := Jvm.LawKit.callS X1 hx (y := yM1) hown (mvT hZ w28) (mvT hZ w29) (mvT hZ w25) (mvT hZ w30) (by decide) (backOf (W := 0) (rm_cmp5_4 l Z a0 hw []  ca_ kc_ b1 k1 c0_ c1_ c2_ c3_ T1.heap n0 (O0.ext E1) (pr0.ext E1) V1 (Nat.ne_of_lt (Nat.lt_of_lt_of_le (Nat.lt_of_lt_of_le pr0.lt (Nat.le_refl _)) (Nat.le_of_eq g1.symm))) n0_b1 pr1 pr2 pr3 pr4) hZ w30 w25 (by decide) (by decide)) (g := (mkF m 9 #[.val (.ref ca_), .val (.int (0 : Int32)), .val (.int (4 : Int32)), .val (.ref b1), .unset, .unset] [(.int (4 : Int32)), (.int (0 : Int32)), (.ref b1), (.int (0 : Int32)), (.ref ca_)])) rfl (by rw [hml]; rfl) (argsL := [(.ref ca_), (.int (0 : Int32)), (.ref b1), (.int (0 : Int32)), (.int (4 : Int32))]) (rest := []) (lenOf own_pd0 rfl) rfl (by show 2 * 0 + _ ≤ _; exact Nat.le_of_eq rfl) (hb hby d3_9) (fun _ _ => ⟨rfl, rfl, (by decide : 1 + 0 ≤ _), (by decide : 4 + 0 ≤ _)⟩)
  dsimp only [Pt.U, Pt.locs, Pt.cells, Pt.slots] at X2 l2 y2 z2 st2 hQ2
  subst l2 y2 z2
  obtain ⟨rfl, Nq2, K2, p2_0⟩ := hQ2
  have N2 := Fr.app N0 Nq2
  refine ogo (S' := T2.setTop (mkF m 12 #[.val (.ref ca_), .val (.int (0 : Int32)), .val (.int (4 : Int32)), .val (.ref b1), .unset, .unset] [(.int (4 : Int32))])) st2 ?_
  refine o_istore X2 hx (l' := #[.val (.ref ca_), .val (.int (0 : Int32)), .val (.int (4 : Int32)), .val (.ref b1), .val (.int (4 : Int32)), .unset]) (hb hby d3_12) rfl ?_
  refine o_iload X2 hx (hb hby d3_14) rfl ?_
  refine o_iloadN X2 hx (hb hby d3_16) rfl ?_
  refine o_icmpYes X2 hx 57 (hb hby d3_17) (teq (by decide : (4 : Int32) = (4 : Int32))).1 (by decide) (by decide) ?_
  refine o_aloadN X2 hx (hb hby d3_57) rfl rfl ?_
  refine oend X2 hlk (v := some (.ref b1)) (fun h => by rw [hret] at h; cases h) (fun fs hr => retOut X2 hx (t := (.array .byte)) (i := .areturn) hret rfl (Or.inr (Or.inr (Or.inr (Or.inr ⟨rfl, rfl, rfl⟩)))) (hb hby d3_58) hr) (by decide) (by decide) ?_
  show own_Q_cmp3_4 Z _ _ _ _ _ _ h0 n0 _ T2.heap _
  exact ⟨b1, k1, rfl, N2, (((Keep.refl h0 []).ext E1).trans K2 (allS (Or.inr (Nat.le_trans (Nat.le_refl _) (Nat.le_of_eq g1.symm))) all0)), (Nat.le_trans (Nat.le_refl _) (Nat.le_of_eq g1.symm)), p2_0⟩
def own_Q_codl_4 (Z : State)  (ba_ : Addr) (kb_ : ClassId) (vs_ : List Value) (h0 : Heap) (n0 : Nat) (v : Option Value) (h : Heap) (L : List Loc) : Prop := (v = some (.int (0 : Int32))) ∧ (Fr n0 L) ∧ (h = h0)
set_option maxRecDepth 65536 in
set_option maxHeartbeats 40000000 in
theorem rm_codl_4 (l : Launch) (Z : State) (a0 : Array Value) (hw : ∀ d ∈ tables_1, d.before a0 Z = true) (ws : List Jvm.Cond)  (ba_ : Addr) (kb_ : ClassId) (vs_ : List Value) (h0 : Heap) (n0 : Nat) (O0 : Old Z n0 h0) (pr0 : Arv Z h0 ba_ kb_ .byte (4 : Int32) vs_ (.int 0)) :
    oMet l Z yM3 jdk_52_method_15_code 2 (some .byte) ws ({ frames := 0, cells := 0, slots := 0, locals := 0 } : Room) 0 0 #[(.ref ba_), (.int (4 : Int32))] h0 (own_Q_codl_4 Z  ba_ kb_ vs_ h0 n0) := by
  refine oenter own_pn1 #[.val (.ref ba_), .val (.int (4 : Int32))] (fun m => by first | (simp [entryFrame, mkF, argsToLocals, Value.category]; done) | rfl) ?_
  intro p e s m below meth c s₁ X0 hx hZ hby hml hret hown0 hnm hlk e0
  have hown : s.vm.findClass "java/lang/StringUTF16" = some m.cls := hown0
  have N0 := Fr.nil n0
  refine o_iloadN X0 hx (hb hby d4_0) rfl ?_
  refine o_aloadN X0 hx (hb hby d4_1) rfl rfl ?_
  obtain ⟨cl1, Ar1, -, S1, N1z, -, -⟩ := (id pr0)
  refine ogo (S' := s₁.setTop (mkF m 3 #[.val (.ref ba_), .val (.int (4 : Int32))] [(.int (4 : Int32)), (.int (4 : Int32))])) (fun _ kt_ => X0.arraylength hx (by rw [e0]; exact Ar1.1) (State.isArrayOf_alike hZ.alike Ar1.2.1) (g := (mkF m 2 #[.val (.ref ba_), .val (.int (4 : Int32))] [(.ref ba_), (.int (4 : Int32))])) rfl rfl (hb hby d4_2) _ (by rw [len_of S1 N1z]; exact kt_)) ?_
  refine o_isub X0 hx (hb hby d4_3) ?_
  refine o_bipush X0 hx (31 : Int32) (hb hby d4_4) rfl ?_
  refine o_iushr X0 hx (hb hby d4_6) ?_
  refine o_i2b X0 hx (hb hby d4_7) ?_
  refine oend X0 hlk (v := some (.int (0 : Int32))) (fun h => by rw [hret] at h; cases h) (fun fs hr => retN X0 hx (t := .byte) hret (by simp) (hb hby d4_8) hr) (by decide) (by decide) ?_
  show own_Q_codl_4 Z _ _ _ h0 n0 _ s₁.heap _
  rw [e0]
  exact ⟨rfl, N0, rfl⟩
def own_Q_new4_4 (Z : State) (s_EID_CHARS : Addr) (cl_T : Cell) (z_CS : Int32) (v_FMT : Value) (x_ : Addr) (ca_ : Addr) (kc_ : ClassId) (c0_ : Int32) (c1_ : Int32) (c2_ : Int32) (c3_ : Int32) (h0 : Heap) (n0 : Nat) (v : Option Value) (h : Heap) (L : List Loc) : Prop := ∃ ba_ : Addr, ∃ kb_ : ClassId, (v = none) ∧ (Fr n0 L) ∧ (Keep h0 h [x_]) ∧ (h0.size ≤ ba_) ∧ (Arv Z h ba_ kb_ .byte (4 : Int32) [(.int c0_.toInt8.toInt32), (.int c1_.toInt8.toInt32), (.int c2_.toInt8.toInt32), (.int c3_.toInt8.toInt32)] (.int 0)) ∧ (Exa Z h x_ "java/lang/String") ∧ (Fld Z h x_ "java/lang/String" "value" "[B" (.ref ba_)) ∧ (Fld Z h x_ "java/lang/String" "coder" "B" (.int (0 : Int32)))
set_option maxRecDepth 65536 in
set_option maxHeartbeats 40000000 in
theorem rm_new4_4 (l : Launch) (Z : State) (a0 : Array Value) (hw : ∀ d ∈ tables_1, d.before a0 Z = true) (ws : List Jvm.Cond) (s_EID_CHARS : Addr) (cl_T : Cell) (z_CS : Int32) (v_FMT : Value) (x_ : Addr) (ca_ : Addr) (kc_ : ClassId) (c0_ : Int32) (c1_ : Int32) (c2_ : Int32) (c3_ : Int32) (h0 : Heap) (n0 : Nat) (SB : own_Start Z s_EID_CHARS cl_T z_CS v_FMT) (O0 : Old Z n0 h0) (pr0 : Exa Z h0 x_ "java/lang/String") (pr1 : Fld Z h0 x_ "java/lang/String" "value" "[B" .null) (pr2 : Fld Z h0 x_ "java/lang/String" "coder" "B" (.int (0 : Int32))) (pr3 : Arv Z h0 ca_ kc_ .char (4 : Int32) [(.int c0_), (.int c1_), (.int c2_), (.int c3_)] (.int 0)) (pr4 : n0 ≤ x_) (pr5 : ¬ ((255 : Int32) < c0_)) (pr6 : ¬ ((255 : Int32) < c1_)) (pr7 : ¬ ((255 : Int32) < c2_)) (pr8 : ¬ ((255 : Int32) < c3_)) :
    oMet l Z yM4 jdk_42_method_149_code 6 none ws ({ frames := 2, cells := 1, slots := 4, locals := 35 } : Room) 1 4 #[(.ref x_), (.ref ca_), (.int (0 : Int32)), (.int (4 : Int32)), .null] h0 (own_Q_new4_4 Z s_EID_CHARS cl_T z_CS v_FMT x_ ca_ kc_ c0_ c1_ c2_ c3_ h0 n0) := by
  refine oenter own_pn2 #[.val (.ref x_), .val (.ref ca_), .val (.int (0 : Int32)), .val (.int (4 : Int32)), .val .null, .unset] (fun m => by first | (simp [entryFrame, mkF, argsToLocals, Value.category]; done) | rfl) ?_
  intro p e s m below meth c s₁ X0 hx hZ hby hml hret hown0 hnm hlk e0
  have hown : s.vm.findClass "java/lang/String" = some m.cls := hown0
  have N0 := Fr.nil n0
  obtain ⟨S_s_EID_CHARS, A_T, L_T, T_T, S_CS, H_CS, S_FMT, R_FMT⟩ := (id SB)
  have w9 := hw _ (List.mem_of_getElem? (i := 9) rfl)
  have w19 := hw _ (List.mem_of_getElem? (i := 19) rfl)
  have w20 := hw _ (List.mem_of_getElem? (i := 20) rfl)
  have w21 := hw _ (List.mem_of_getElem? (i := 21) rfl)
  have w22 := hw _ (List.mem_of_getElem? (i := 22) rfl)
  have w23 := hw _ (List.mem_of_getElem? (i := 23) rfl)
  have w24 := hw _ (List.mem_of_getElem? (i := 24) rfl)
  have w25 := hw _ (List.mem_of_getElem? (i := 25) rfl)
  have w26 := hw _ (List.mem_of_getElem? (i := 26) rfl)
  have w31 := hw _ (List.mem_of_getElem? (i := 31) rfl)
  have w32 := hw _ (List.mem_of_getElem? (i := 32) rfl)
  have w33 := hw _ (List.mem_of_getElem? (i := 33) rfl)
  have w34 := hw _ (List.mem_of_getElem? (i := 34) rfl)
  have w35 := hw _ (List.mem_of_getElem? (i := 35) rfl)
  have w36 := hw _ (List.mem_of_getElem? (i := 36) rfl)
  have w37 := hw _ (List.mem_of_getElem? (i := 37) rfl)
  refine o_aloadN X0 hx (hb hby d5_0) rfl rfl ?_
  obtain ⟨T1, X1, e1, st1⟩ := initO X0 hx hZ hown w19 w20 w21 e0 (g := (mkF m 1 #[.val (.ref x_), .val (.ref ca_), .val (.int (0 : Int32)), .val (.int (4 : Int32)), .val .null, .unset] [(.ref x_)])) rfl (by rw [hml]; rfl) rfl (hb hby d5_1) (by decide) (W := 0) (by show 2 * 0 + _ ≤ _; exact Nat.le_of_eq rfl) (by decide)
  refine ogo (S' := T1.setTop (mkF m 4 #[.val (.ref x_), .val (.ref ca_), .val (.int (0 : Int32)), .val (.int (4 : Int32)), .val .null, .unset] [])) st1 ?_
  refine o_iloadN X1 hx (hb hby d5_4) rfl ?_
  refine o_ifYes X1 hx 27 (hb hby d5_5) (feq (by decide : ¬ ((4 : Int32) = (0 : Int32)))).2 (by decide) (by decide) ?_
  obtain ⟨T2, X2, e2, st2⟩ := getS2 X1 hx hZ hown (host := "") (Or.inl w22) Via.refl e1 (Sta.ext O0.2 S_CS) (g := (mkF m 27 #[.val (.ref x_), .val (.ref ca_), .val (.int (0 : Int32)), .val (.int (4 : Int32)), .val .null, .unset] [])) rfl (hb hby d5_27)
  refine ogo (S' := T2.setTop (mkF m 30 #[.val (.ref x_), .val (.ref ca_), .val (.int (0 : Int32)), .val (.int (4 : Int32)), .val .null, .unset] [(.int z_CS)])) st2 ?_
  refine o_ifNo X2 hx (hb hby d5_30) (feq H_CS).1 ?_
  refine o_aloadN X2 hx (hb hby d5_33) rfl rfl ?_
  refine o_iloadN X2 hx (hb hby d5_34) rfl ?_
  refine o_iloadN X2 hx (hb hby d5_35) rfl ?_
  obtain ⟨_, _, ⟨T3, L3, kc3, n3⟩, -, X3, ⟨Lc3, hQ3, l3, y3, z3⟩, st3⟩ := Jvm.LawKit.callS X2 hx (y := yM2) hown (mvT hZ w23) (mvT hZ w24) (mvT hZ w25) (mvT hZ w26) (by decide) (backOf (W := 0) (rm_cmp3_4 l Z a0 hw []  ca_ kc_ c0_ c1_ c2_ c3_ h0 n0 O0 pr3 pr5 pr6 pr7 pr8) hZ w26 w25 (by decide) (by decide)) (g := (mkF m 36 #[.val (.ref x_), .val (.ref ca_), .val (.int (0 : Int32)), .val (.int (4 : Int32)), .val .null, .unset] [(.int (4 : Int32)), (.int (0 : Int32)), (.ref ca_)])) rfl (by rw [hml]; rfl) (argsL := [(.ref ca_), (.int (0 : Int32)), (.int (4 : Int32))]) (rest := []) (lenOf own_pd1 rfl) rfl (by show 2 * 0 + _ ≤ _; exact Nat.le_of_eq rfl) (hb hby d5_36) (fun _ _ => ⟨rfl, e2, (by decide : 0 + 1 ≤ _), (by decide : 0 + 4 ≤ _)⟩)
  dsimp only [Pt.U, Pt.locs, Pt.cells, Pt.slots] at X3 l3 y3 z3 st3 hQ3
  subst l3 y3 z3
  obtain ⟨ba_3, kb_3, rfl, Nq3, K3, p3_0, p3_1⟩ := hQ3
  have N3 := Fr.app N0 Nq3
  have n0_ba_3 : n0 ≤ ba_3 := Nat.le_trans (Nat.le_trans (Nat.le_of_eq O0.1.symm) O0.2.1) (Nat.le_trans (Nat.le_refl _) p3_0)
  refine ogo (S' := T3.setTop (mkF m 39 #[.val (.ref x_), .val (.ref ca_), .val (.int (0 : Int32)), .val (.int (4 : Int32)), .val .null, .unset] [(.ref ba_3)])) st3 ?_
  refine o_astore X3 hx (l' := #[.val (.ref x_), .val (.ref ca_), .val (.int (0 : Int32)), .val (.int (4 : Int32)), .val .null, .val (.ref ba_3)]) (hb hby d5_39) rfl rfl ?_
  refine o_aloadN X3 hx (hb hby d5_41) rfl rfl ?_
  refine o_aload X3 hx (hb hby d5_42) rfl rfl ?_
  refine o_iloadN X3 hx (hb hby d5_44) rfl ?_
  obtain ⟨_, _, ⟨T4, L4, kc4, n4⟩, -, X4, ⟨Lc4, hQ4, l4, y4, z4⟩, st4⟩ := Jvm.LawKit.callS X3 hx (y := yM3) hown (mvT hZ w31) (mvT hZ w32) (mvT hZ w25) (mvT hZ w33) (by decide) (backOf (W := 1) (rm_codl_4 l Z a0 hw []  ba_3 kb_3 [(.int c0_.toInt8.toInt32), (.int c1_.toInt8.toInt32), (.int c2_.toInt8.toInt32), (.int c3_.toInt8.toInt32)] T3.heap n0 (O0.keep K3 all0) p3_1) hZ w33 w25 (by decide) (by decide)) (g := (mkF m 45 #[.val (.ref x_), .val (.ref ca_), .val (.int (0 : Int32)), .val (.int (4 : Int32)), .val .null, .val (.ref ba_3)] [(.int (4 : Int32)), (.ref ba_3), (.ref x_)])) rfl (by rw [hml]; rfl) (argsL := [(.ref ba_3), (.int (4 : Int32))]) (rest := [(.ref x_)]) (lenOf own_pd2 rfl) rfl (by show 2 * 0 + _ ≤ _; exact Nat.le_of_eq rfl) (hb hby d5_45) (fun _ _ => ⟨rfl, rfl, (by decide : 1 + 0 ≤ _), (by decide : 4 + 0 ≤ _)⟩)
  dsimp only [Pt.U, Pt.locs, Pt.cells, Pt.slots] at X4 l4 y4 z4 st4 hQ4
  subst l4 y4 z4
  obtain ⟨rfl, Nq4, e4⟩ := hQ4
  have N4 := Fr.app N3 Nq4
  refine ogo (S' := T4.setTop (mkF m 48 #[.val (.ref x_), .val (.ref ca_), .val (.int (0 : Int32)), .val (.int (4 : Int32)), .val .null, .val (.ref ba_3)] [(.int (0 : Int32)), (.ref x_)])) st4 ?_
  obtain ⟨T5, _, X5, rfl, W5, st5⟩ := putFN X4 hx hZ hown w34 Via.refl e4 (pr2.keep K3 nin0) (pr0.keep K3) (Or.inr ⟨w35, rfl, hnm⟩) w9 (ty := .byte) (v' := (.int (0 : Int32))) (by decide) rfl (by decide) (g := (mkF m 48 #[.val (.ref x_), .val (.ref ca_), .val (.int (0 : Int32)), .val (.int (4 : Int32)), .val .null, .val (.ref ba_3)] [(.int (0 : Int32)), (.ref x_)])) rfl rfl (hb hby d5_48)
  have N5 := Fr.snoc X5 N4 pr4
  have F5 := Fld.same W5 (pr2.keep K3 nin0)
  refine ogo (S' := T5.setTop (mkF m 51 #[.val (.ref x_), .val (.ref ca_), .val (.int (0 : Int32)), .val (.int (4 : Int32)), .val .null, .val (.ref ba_3)] [])) st5 ?_
  refine o_aloadN X5 hx (hb hby d5_51) rfl rfl ?_
  refine o_aload X5 hx (hb hby d5_52) rfl rfl ?_
  have c7 := (Fld.other W5 (pr1.keep K3 nin0) (Or.inr (slot_ne (Or.inr w37) (Or.inr w35) (by decide) (t := (.array .byte)) (t' := .byte) (by decide) (by decide))))
  obtain ⟨T6, _, X6, rfl, W6, st6⟩ := putF X5 hx hZ hown (host := "") (Or.inl w36) Via.refl rfl c7 (Exa.wr W5 (pr0.keep K3)) (Or.inr ⟨w37, rfl, hnm⟩) w9 (ty := (.array .byte)) (by decide) rfl rfl (g := (mkF m 54 #[.val (.ref x_), .val (.ref ca_), .val (.int (0 : Int32)), .val (.int (4 : Int32)), .val .null, .val (.ref ba_3)] [(.ref ba_3), (.ref x_)])) rfl rfl (hb hby d5_54)
  have N6 := Fr.snoc X6 N5 pr4
  have F6 := Fld.same W6 c7
  refine ogo (S' := T6.setTop (mkF m 57 #[.val (.ref x_), .val (.ref ca_), .val (.int (0 : Int32)), .val (.int (4 : Int32)), .val .null, .val (.ref ba_3)] [])) st6 ?_
  have c8 := ((p3_1.other W5 (Nat.ne_of_gt (Nat.lt_of_lt_of_le (Nat.lt_of_lt_of_le pr0.lt (Nat.le_refl _)) p3_0))).other W6 (Nat.ne_of_gt (Nat.lt_of_lt_of_le (Nat.lt_of_lt_of_le pr0.lt (Nat.le_refl _)) p3_0)))
  have c9 := (Fld.other W6 F5 (Or.inr (slot_ne (Or.inr w35) (Or.inr w37) (by decide) (t := .byte) (t' := (.array .byte)) (by decide) (by decide))))
  refine oend X6 hlk (v := none) (fun _ => rfl) (fun fs hr => X6.returnOut hx hret (hb hby d5_57) hr) (by decide) (by decide) ?_
  show own_Q_new4_4 Z _ _ _ _ _ _ _ _ _ _ _ h0 n0 _ T6.heap _
  exact ⟨ba_3, kb_3, rfl, N6, ((((Keep.refl h0 [x_]).trans K3 all0).wr W5 (Or.inl (List.mem_of_getElem? (i := 0) rfl))).wr W6 (Or.inl (List.mem_of_getElem? (i := 0) rfl))), (Nat.le_trans (Nat.le_refl _) p3_0), c8, (Exa.wr W6 (Exa.wr W5 (pr0.keep K3))), F6, c9⟩
def own_Q_new1_4 (Z : State) (s_EID_CHARS : Addr) (cl_T : Cell) (z_CS : Int32) (v_FMT : Value) (x_ : Addr) (ca_ : Addr) (kc_ : ClassId) (c0_ : Int32) (c1_ : Int32) (c2_ : Int32) (c3_ : Int32) (h0 : Heap) (n0 : Nat) (v : Option Value) (h : Heap) (L : List Loc) : Prop := ∃ ba_ : Addr, ∃ kb_ : ClassId, (v = none) ∧ (Fr n0 L) ∧ (Keep h0 h [x_]) ∧ (h0.size ≤ ba_) ∧ (Arv Z h ba_ kb_ .byte (4 : Int32) [(.int c0_.toInt8.toInt32), (.int c1_.toInt8.toInt32), (.int c2_.toInt8.toInt32), (.int c3_.toInt8.toInt32)] (.int 0)) ∧ (Exa Z h x_ "java/lang/String") ∧ (Fld Z h x_ "java/lang/String" "value" "[B" (.ref ba_)) ∧ (Fld Z h x_ "java/lang/String" "coder" "B" (.int (0 : Int32)))
set_option maxRecDepth 65536 in
set_option maxHeartbeats 40000000 in
theorem rm_new1_4 (l : Launch) (Z : State) (a0 : Array Value) (hw : ∀ d ∈ tables_1, d.before a0 Z = true) (ws : List Jvm.Cond) (s_EID_CHARS : Addr) (cl_T : Cell) (z_CS : Int32) (v_FMT : Value) (x_ : Addr) (ca_ : Addr) (kc_ : ClassId) (c0_ : Int32) (c1_ : Int32) (c2_ : Int32) (c3_ : Int32) (h0 : Heap) (n0 : Nat) (SB : own_Start Z s_EID_CHARS cl_T z_CS v_FMT) (O0 : Old Z n0 h0) (pr0 : Exa Z h0 x_ "java/lang/String") (pr1 : Fld Z h0 x_ "java/lang/String" "value" "[B" .null) (pr2 : Fld Z h0 x_ "java/lang/String" "coder" "B" (.int (0 : Int32))) (pr3 : Arv Z h0 ca_ kc_ .char (4 : Int32) [(.int c0_), (.int c1_), (.int c2_), (.int c3_)] (.int 0)) (pr4 : n0 ≤ x_) (pr5 : ¬ ((255 : Int32) < c0_)) (pr6 : ¬ ((255 : Int32) < c1_)) (pr7 : ¬ ((255 : Int32) < c2_)) (pr8 : ¬ ((255 : Int32) < c3_)) :
    oMet l Z yM5 jdk_42_method_3_code 2 none ws ({ frames := 3, cells := 1, slots := 4, locals := 52 } : Room) 1 4 #[(.ref x_), (.ref ca_)] h0 (own_Q_new1_4 Z s_EID_CHARS cl_T z_CS v_FMT x_ ca_ kc_ c0_ c1_ c2_ c3_ h0 n0) := by
  refine oenter own_pn2 #[.val (.ref x_), .val (.ref ca_)] (fun m => by first | (simp [entryFrame, mkF, argsToLocals, Value.category]; done) | rfl) ?_
  intro p e s m below meth c s₁ X0 hx hZ hby hml hret hown0 hnm hlk e0
  have hown : s.vm.findClass "java/lang/String" = some m.cls := hown0
  have N0 := Fr.nil n0
  obtain ⟨S_s_EID_CHARS, A_T, L_T, T_T, S_CS, H_CS, S_FMT, R_FMT⟩ := (id SB)
  have w10 := hw _ (List.mem_of_getElem? (i := 10) rfl)
  have w15 := hw _ (List.mem_of_getElem? (i := 15) rfl)
  have w16 := hw _ (List.mem_of_getElem? (i := 16) rfl)
  have w18 := hw _ (List.mem_of_getElem? (i := 18) rfl)
  refine o_aloadN X0 hx (hb hby d6_0) rfl rfl ?_
  refine o_aloadN X0 hx (hb hby d6_1) rfl rfl ?_
  refine o_iconst X0 hx (0 : Int32) (hb hby d6_2) rfl ?_
  refine o_aloadN X0 hx (hb hby d6_3) rfl rfl ?_
  obtain ⟨cl1, Ar1, -, S1, N1z, -, -⟩ := (id pr3)
  refine ogo (S' := s₁.setTop (mkF m 5 #[.val (.ref x_), .val (.ref ca_)] [(.int (4 : Int32)), (.int (0 : Int32)), (.ref ca_), (.ref x_)])) (fun _ kt_ => X0.arraylength hx (by rw [e0]; exact Ar1.1) (State.isArrayOf_alike hZ.alike Ar1.2.1) (g := (mkF m 4 #[.val (.ref x_), .val (.ref ca_)] [(.ref ca_), (.int (0 : Int32)), (.ref ca_), (.ref x_)])) rfl rfl (hb hby d6_4) _ (by rw [len_of S1 N1z]; exact kt_)) ?_
  refine o_aconst_null X0 hx (hb hby d6_5) ?_
  obtain ⟨_, _, ⟨T2, L2, kc2, n2⟩, -, X2, ⟨Lc2, hQ2, l2, y2, z2⟩, st2⟩ := X0.specialBack hx (y := yM4) rfl hown (mvT hZ w15) (mvT hZ w16) (mvT hZ w18) (by decide) (backOf (W := 0) (rm_new4_4 l Z a0 hw [] s_EID_CHARS cl_T z_CS v_FMT x_ ca_ kc_ c0_ c1_ c2_ c3_ h0 n0 SB O0 pr0 pr1 pr2 pr3 pr4 pr5 pr6 pr7 pr8) hZ w18 w10 (by decide) (by decide)) (g := (mkF m 6 #[.val (.ref x_), .val (.ref ca_)] [.null, (.int (4 : Int32)), (.int (0 : Int32)), (.ref ca_), (.ref x_)])) rfl (by rw [hml]; rfl) (Steps.refl _) (a := x_) (argsL := [(.ref ca_), (.int (0 : Int32)), (.int (4 : Int32)), .null]) (rest := []) (lenOf own_pd3 rfl) rfl (by show 2 * 0 + _ ≤ _; exact Nat.le_of_eq rfl) (hb hby d6_6) (fun _ _ => ⟨rfl, e0, (by decide : 0 + 1 ≤ _), (by decide : 0 + 4 ≤ _)⟩)
  dsimp only [Pt.U, Pt.locs, Pt.cells, Pt.slots] at X2 l2 y2 z2 st2 hQ2
  subst l2 y2 z2
  obtain ⟨ba_2, kb_2, rfl, Nq2, K2, p2_0, p2_1, p2_2, p2_3, p2_4⟩ := hQ2
  have N2 := Fr.app N0 Nq2
  have n0_ba_2 : n0 ≤ ba_2 := Nat.le_trans (Nat.le_trans (Nat.le_of_eq O0.1.symm) O0.2.1) (Nat.le_trans (Nat.le_refl _) p2_0)
  refine otr (S' := T2.setTop (mkF m 9 #[.val (.ref x_), .val (.ref ca_)] [])) st2 ?_
  refine oend X2 hlk (v := none) (fun _ => rfl) (fun fs hr => X2.returnOut hx hret (hb hby d6_9) hr) (by decide) (by decide) ?_
  show own_Q_new1_4 Z _ _ _ _ _ _ _ _ _ _ _ h0 n0 _ T2.heap _
  exact ⟨ba_2, kb_2, rfl, N2, ((Keep.refl h0 [x_]).trans K2 (allS (Or.inl (List.mem_of_getElem? (i := 0) rfl)) all0)), (Nat.le_trans (Nat.le_refl _) p2_0), p2_1, p2_2, p2_3, p2_4⟩
theorem own_pd4 : parseMethodDescriptor "([C)V" = some ⟨[(.array .char)], none⟩ := by decide +kernel
theorem d7_0 : decode method_3_code 0 = .ok (.iload_n 0, 1) := by decide +kernel
theorem d7_1 : decode method_3_code 1 = .ok (.iconst 1, 1) := by decide +kernel
theorem d7_2 : decode method_3_code 2 = .ok (.if_icmp .ne 18, 3) := by decide +kernel
theorem d7_5 : decode method_3_code 5 = .ok (.new 8, 3) := by decide +kernel
theorem d7_8 : decode method_3_code 8 = .ok (.dup, 1) := by decide +kernel
theorem d7_9 : decode method_3_code 9 = .ok (.iconst 1, 1) := by decide +kernel
theorem d7_10 : decode method_3_code 10 = .ok (.newarray .char, 2) := by decide +kernel
theorem d7_12 : decode method_3_code 12 = .ok (.dup, 1) := by decide +kernel
theorem d7_13 : decode method_3_code 13 = .ok (.iconst 0, 1) := by decide +kernel
theorem d7_14 : decode method_3_code 14 = .ok (.iload_n 1, 1) := by decide +kernel
theorem d7_15 : decode method_3_code 15 = .ok (.castore, 1) := by decide +kernel
theorem d7_16 : decode method_3_code 16 = .ok (.invokespecial 10, 3) := by decide +kernel
theorem d7_19 : decode method_3_code 19 = .ok (.areturn, 1) := by decide +kernel
def own_Q_build_1 (Z : State) (s_EID_CHARS : Addr) (cl_T : Cell) (z_CS : Int32) (v_FMT : Value) (c0_ : Int32) (c1_ : Int32) (c2_ : Int32) (c3_ : Int32) (h0 : Heap) (n0 : Nat) (v : Option Value) (h : Heap) (L : List Loc) : Prop := ∃ x_ : Addr, ∃ ba_ : Addr, ∃ kb_ : ClassId, (v = some (.ref x_)) ∧ (Fr n0 L) ∧ (Keep h0 h []) ∧ (h0.size ≤ x_) ∧ (h0.size ≤ ba_) ∧ (Exa Z h x_ "java/lang/String") ∧ (Fld Z h x_ "java/lang/String" "coder" "B" (.int (0 : Int32))) ∧ (Fld Z h x_ "java/lang/String" "value" "[B" (.ref ba_)) ∧ (Arv Z h ba_ kb_ .byte (1 : Int32) [(.int c0_.toInt8.toInt32)] (.int 0))
abbrev yM6 : MethodName := ⟨"com/example/atomic_tally/atomictally/model/NamesCheckEidPinLaw", "build", "(ICCCC)Ljava/lang/String;"⟩
set_option maxRecDepth 65536 in
set_option maxHeartbeats 40000000 in
theorem rm_build_1 (l : Launch) (Z : State) (a0 : Array Value) (hw : ∀ d ∈ tables_1, d.before a0 Z = true) (ws : List Jvm.Cond) (s_EID_CHARS : Addr) (cl_T : Cell) (z_CS : Int32) (v_FMT : Value) (c0_ : Int32) (c1_ : Int32) (c2_ : Int32) (c3_ : Int32) (h0 : Heap) (n0 : Nat) (SB : own_Start Z s_EID_CHARS cl_T z_CS v_FMT) (O0 : Old Z n0 h0) (pr0 : nar .char c0_ = c0_) (pr1 : ¬ ((255 : Int32) < c0_)) :
    oMet l Z yM6 method_3_code 5 (some (.object "java/lang/String")) ws ({ frames := 4, cells := 3, slots := 6, locals := 66 } : Room) 3 6 #[(.int (1 : Int32)), (.int c0_), (.int c1_), (.int c2_), (.int c3_)] h0 (own_Q_build_1 Z s_EID_CHARS cl_T z_CS v_FMT c0_ c1_ c2_ c3_ h0 n0) := by
  refine oenter own_pn0 #[.val (.int (1 : Int32)), .val (.int c0_), .val (.int c1_), .val (.int c2_), .val (.int c3_)] (fun m => by first | (simp [entryFrame, mkF, argsToLocals, Value.category]; done) | rfl) ?_
  intro p e s m below meth c s₁ X0 hx hZ hby hml hret hown0 hnm hlk e0
  have hown : s.vm.findClass "com/example/atomic_tally/atomictally/model/NamesCheckEidPinLaw" = some m.cls := hown0
  have N0 := Fr.nil n0
  obtain ⟨S_s_EID_CHARS, A_T, L_T, T_T, S_CS, H_CS, S_FMT, R_FMT⟩ := (id SB)
  have w8 := hw _ (List.mem_of_getElem? (i := 8) rfl)
  have w9 := hw _ (List.mem_of_getElem? (i := 9) rfl)
  have w10 := hw _ (List.mem_of_getElem? (i := 10) rfl)
  have w11 := hw _ (List.mem_of_getElem? (i := 11) rfl)
  have w12 := hw _ (List.mem_of_getElem? (i := 12) rfl)
  have w13 := hw _ (List.mem_of_getElem? (i := 13) rfl)
  have w14 := hw _ (List.mem_of_getElem? (i := 14) rfl)
  have w35 := hw _ (List.mem_of_getElem? (i := 35) rfl)
  have w37 := hw _ (List.mem_of_getElem? (i := 37) rfl)
  refine o_iloadN X0 hx (hb hby d7_0) rfl ?_
  refine o_iconst X0 hx (1 : Int32) (hb hby d7_1) rfl ?_
  refine o_icmpNo X0 hx (hb hby d7_2) (teq (by decide : (1 : Int32) = (1 : Int32))).2 ?_
  obtain ⟨T1, _, X1, rfl, E1, A1, D1, -, st1⟩ := newO X0 hx hZ hown w8 w9 w10 e0 (g := (mkF m 5 #[.val (.int (1 : Int32)), .val (.int c0_), .val (.int c1_), .val (.int c2_), .val (.int c3_)] [])) rfl (hb hby d7_5) (by decide) (by decide)
  obtain ⟨b1, g1⟩ : ∃ z, z = h0.size := ⟨_, rfl⟩
  rw [← g1] at A1 D1 st1
  have n0_b1 : n0 ≤ b1 := Nat.le_trans (Nat.le_trans (Nat.le_of_eq O0.1.symm) O0.2.1) (Nat.le_trans (Nat.le_refl _) (Nat.le_of_eq g1.symm))
  have F1_coder : Fld Z T1.heap b1 "java/lang/String" "coder" "B" (.int (0 : Int32)) := D1 (Or.inr w35) (ty := .byte) (by decide)
  have F1_value : Fld Z T1.heap b1 "java/lang/String" "value" "[B" .null := D1 (Or.inr w37) (ty := (.array .byte)) (by decide)
  refine ogo (S' := T1.setTop (mkF m 8 #[.val (.int (1 : Int32)), .val (.int c0_), .val (.int c1_), .val (.int c2_), .val (.int c3_)] [(.ref b1)])) st1 ?_
  refine o_dup X1 hx (hb hby d7_8) rfl ?_
  refine o_iconst X1 hx (1 : Int32) (hb hby d7_9) rfl ?_
  obtain ⟨T2, _, k2, X2, rfl, E2, A2, Ex2, st2⟩ := newPE (aty := .char) X1 hx hZ w11 rfl (g := (mkF m 10 #[.val (.int (1 : Int32)), .val (.int c0_), .val (.int c1_), .val (.int c2_), .val (.int c3_)] [(.int (1 : Int32)), (.ref b1), (.ref b1)])) rfl (hb hby d7_10) rfl (by decide) (cap := 1) (by decide) (by decide) (by decide) (by decide) (ad := "[C") rfl
  obtain ⟨b2, g2⟩ : ∃ z, z = T1.heap.size := ⟨_, rfl⟩
  rw [← g2] at A2 Ex2 st2
  have n0_b2 : n0 ≤ b2 := Nat.le_trans (Nat.le_trans (Nat.le_of_eq O0.1.symm) O0.2.1) (Nat.le_trans E1.1 (Nat.le_of_eq g2.symm))
  have V2 : Arv Z T2.heap b2 k2 .char (1 : Int32) [(.int 0)] (.int 0) := (Arv.new A2 (by decide)).pad (pad_rep [] (.int 0) 1)
  refine ogo (S' := T2.setTop (mkF m 12 #[.val (.int (1 : Int32)), .val (.int c0_), .val (.int c1_), .val (.int c2_), .val (.int c3_)] [(.ref b2), (.ref b1), (.ref b1)])) st2 ?_
  refine o_dup X2 hx (hb hby d7_12) rfl ?_
  refine o_iconst X2 hx (0 : Int32) (hb hby d7_13) rfl ?_
  refine o_iloadN X2 hx (hb hby d7_14) rfl ?_
  obtain ⟨cl3, Ar3, q3, S3, N3z, H3, G3⟩ := (id V2)
  obtain ⟨T3, _, X3, rfl, W3, st3⟩ := stC X2 hx hZ rfl Ar3 (j := (0 : Int32)) (inb_of S3 ⟨by decide, by decide⟩) (g := (mkF m 15 #[.val (.int (1 : Int32)), .val (.int c0_), .val (.int c1_), .val (.int c2_), .val (.int c3_)] [(.int c0_), (.int (0 : Int32)), (.ref b2), (.ref b2), (.ref b1), (.ref b1)])) rfl rfl (hb hby d7_15)
  rw [pr0] at W3
  have V3 : Arv Z T3.heap b2 k2 .char (1 : Int32) [(.int c0_)] (.int 0) := Arv.set Ar3 q3 S3 N3z H3 G3 (by have q := fits_nar_char c0_; rw [pr0] at q; exact q) W3 0 rfl (Nat.le_of_ble_eq_true rfl)
  have N3 := Fr.snoc X3 N0 n0_b2
  refine ogo (S' := T3.setTop (mkF m 16 #[.val (.int (1 : Int32)), .val (.int c0_), .val (.int c1_), .val (.int c2_), .val (.int c3_)] [(.ref b2), (.ref b1), (.ref b1)])) st3 ?_
  have c5 := (Fld.other W3 (Fld.ext E2 F1_value) (Or.inl (Nat.ne_of_lt (Nat.lt_of_lt_of_le (Nat.lt_of_lt_of_le A1.lt (Nat.le_refl _)) (Nat.le_of_eq g2.symm)))))
  have c6 := (Fld.other W3 (Fld.ext E2 F1_coder) (Or.inl (Nat.ne_of_lt (Nat.lt_of_lt_of_le (Nat.lt_of_lt_of_le A1.lt (Nat.le_refl _)) (Nat.le_of_eq g2.symm)))))
  obtain ⟨_, _, ⟨T4, L4, kc4, n4⟩, -, X4, ⟨Lc4, hQ4, l4, y4, z4⟩, st4⟩ := X3.specialBack hx (y := yM5) rfl hown (mvT hZ w12) (mvT hZ w13) (mvT hZ w14) (by decide) (backOf (W := 1) (rm_new1_1 l Z a0 hw [] s_EID_CHARS cl_T z_CS v_FMT b1 b2 k2 c0_ T3.heap n0 SB (((O0.ext E1).ext E2).wr W3 n0_b2) (Exa.wr W3 (Exa.ext E2 A1)) c5 c6 V3 n0_b1 pr1) hZ w14 w10 (by decide) (by decide)) (g := (mkF m 16 #[.val (.int (1 : Int32)), .val (.int c0_), .val (.int c1_), .val (.int c2_), .val (.int c3_)] [(.ref b2), (.ref b1), (.ref b1)])) rfl (by rw [hml]; rfl) (Steps.refl _) (a := b1) (argsL := [(.ref b2)]) (rest := [(.ref b1)]) (lenOf own_pd4 rfl) rfl (by show 2 * 0 + _ ≤ _; exact Nat.le_of_eq rfl) (hb hby d7_16) (fun _ _ => ⟨rfl, rfl, (by decide : 2 + 1 ≤ _), (by decide : 5 + 1 ≤ _)⟩)
  dsimp only [Pt.U, Pt.locs, Pt.cells, Pt.slots] at X4 l4 y4 z4 st4 hQ4
  subst l4 y4 z4
  obtain ⟨ba_4, kb_4, rfl, Nq4, K4, p4_0, p4_1, p4_2, p4_3, p4_4⟩ := hQ4
  have N4 := Fr.app N3 Nq4
  have n0_ba_4 : n0 ≤ ba_4 := Nat.le_trans (Nat.le_trans (Nat.le_of_eq O0.1.symm) O0.2.1) (Nat.le_trans (Nat.le_trans (Nat.le_trans E1.1 E2.1) (Keep.of_wr W3).1) p4_0)
  refine otr (S' := T4.setTop (mkF m 19 #[.val (.int (1 : Int32)), .val (.int c0_), .val (.int c1_), .val (.int c2_), .val (.int c3_)] [(.ref b1)])) st4 ?_
  refine oend X4 hlk (v := some (.ref b1)) (fun h => by rw [hret] at h; cases h) (fun fs hr => retOut X4 hx (t := (.object "java/lang/String")) (i := .areturn) hret rfl (Or.inr (Or.inr (Or.inr (Or.inr ⟨rfl, rfl, rfl⟩)))) (hb hby d7_19) hr) (by decide) (by decide) ?_
  show own_Q_build_1 Z _ _ _ _ _ _ _ _ h0 n0 _ T4.heap _
  exact ⟨b1, ba_4, kb_4, rfl, N4, (((((Keep.refl h0 []).ext E1).ext E2).wr W3 (Or.inr (Nat.le_trans E1.1 (Nat.le_of_eq g2.symm)))).trans K4 (allS (Or.inr (Nat.le_trans (Nat.le_refl _) (Nat.le_of_eq g1.symm))) all0)), (Nat.le_trans (Nat.le_refl _) (Nat.le_of_eq g1.symm)), (Nat.le_trans (Nat.le_trans (Nat.le_trans E1.1 E2.1) (Keep.of_wr W3).1) p4_0), p4_2, p4_4, p4_3, p4_1⟩
theorem d7_20 : decode method_3_code 20 = .ok (.iload_n 0, 1) := by decide +kernel
theorem d7_21 : decode method_3_code 21 = .ok (.iconst 2, 1) := by decide +kernel
theorem d7_22 : decode method_3_code 22 = .ok (.if_icmp .ne 22, 3) := by decide +kernel
theorem d7_25 : decode method_3_code 25 = .ok (.new 8, 3) := by decide +kernel
theorem d7_28 : decode method_3_code 28 = .ok (.dup, 1) := by decide +kernel
theorem d7_29 : decode method_3_code 29 = .ok (.iconst 2, 1) := by decide +kernel
theorem d7_30 : decode method_3_code 30 = .ok (.newarray .char, 2) := by decide +kernel
theorem d7_32 : decode method_3_code 32 = .ok (.dup, 1) := by decide +kernel
theorem d7_33 : decode method_3_code 33 = .ok (.iconst 0, 1) := by decide +kernel
theorem d7_34 : decode method_3_code 34 = .ok (.iload_n 1, 1) := by decide +kernel
theorem d7_35 : decode method_3_code 35 = .ok (.castore, 1) := by decide +kernel
theorem d7_36 : decode method_3_code 36 = .ok (.dup, 1) := by decide +kernel
theorem d7_37 : decode method_3_code 37 = .ok (.iconst 1, 1) := by decide +kernel
theorem d7_38 : decode method_3_code 38 = .ok (.iload_n 2, 1) := by decide +kernel
theorem d7_39 : decode method_3_code 39 = .ok (.castore, 1) := by decide +kernel
theorem d7_40 : decode method_3_code 40 = .ok (.invokespecial 10, 3) := by decide +kernel
theorem d7_43 : decode method_3_code 43 = .ok (.areturn, 1) := by decide +kernel
def own_Q_build_2 (Z : State) (s_EID_CHARS : Addr) (cl_T : Cell) (z_CS : Int32) (v_FMT : Value) (c0_ : Int32) (c1_ : Int32) (c2_ : Int32) (c3_ : Int32) (h0 : Heap) (n0 : Nat) (v : Option Value) (h : Heap) (L : List Loc) : Prop := ∃ x_ : Addr, ∃ ba_ : Addr, ∃ kb_ : ClassId, (v = some (.ref x_)) ∧ (Fr n0 L) ∧ (Keep h0 h []) ∧ (h0.size ≤ x_) ∧ (h0.size ≤ ba_) ∧ (Exa Z h x_ "java/lang/String") ∧ (Fld Z h x_ "java/lang/String" "coder" "B" (.int (0 : Int32))) ∧ (Fld Z h x_ "java/lang/String" "value" "[B" (.ref ba_)) ∧ (Arv Z h ba_ kb_ .byte (2 : Int32) [(.int c0_.toInt8.toInt32), (.int c1_.toInt8.toInt32)] (.int 0))
set_option maxRecDepth 65536 in
set_option maxHeartbeats 40000000 in
theorem rm_build_2 (l : Launch) (Z : State) (a0 : Array Value) (hw : ∀ d ∈ tables_1, d.before a0 Z = true) (ws : List Jvm.Cond) (s_EID_CHARS : Addr) (cl_T : Cell) (z_CS : Int32) (v_FMT : Value) (c0_ : Int32) (c1_ : Int32) (c2_ : Int32) (c3_ : Int32) (h0 : Heap) (n0 : Nat) (SB : own_Start Z s_EID_CHARS cl_T z_CS v_FMT) (O0 : Old Z n0 h0) (pr0 : nar .char c0_ = c0_) (pr1 : nar .char c1_ = c1_) (pr2 : ¬ ((255 : Int32) < c0_)) (pr3 : ¬ ((255 : Int32) < c1_)) :
    oMet l Z yM6 method_3_code 5 (some (.object "java/lang/String")) ws ({ frames := 4, cells := 3, slots := 8, locals := 66 } : Room) 3 8 #[(.int (2 : Int32)), (.int c0_), (.int c1_), (.int c2_), (.int c3_)] h0 (own_Q_build_2 Z s_EID_CHARS cl_T z_CS v_FMT c0_ c1_ c2_ c3_ h0 n0) := by
  refine oenter own_pn0 #[.val (.int (2 : Int32)), .val (.int c0_), .val (.int c1_), .val (.int c2_), .val (.int c3_)] (fun m => by first | (simp [entryFrame, mkF, argsToLocals, Value.category]; done) | rfl) ?_
  intro p e s m below meth c s₁ X0 hx hZ hby hml hret hown0 hnm hlk e0
  have hown : s.vm.findClass "com/example/atomic_tally/atomictally/model/NamesCheckEidPinLaw" = some m.cls := hown0
  have N0 := Fr.nil n0
  obtain ⟨S_s_EID_CHARS, A_T, L_T, T_T, S_CS, H_CS, S_FMT, R_FMT⟩ := (id SB)
  have w8 := hw _ (List.mem_of_getElem? (i := 8) rfl)
  have w9 := hw _ (List.mem_of_getElem? (i := 9) rfl)
  have w10 := hw _ (List.mem_of_getElem? (i := 10) rfl)
  have w11 := hw _ (List.mem_of_getElem? (i := 11) rfl)
  have w12 := hw _ (List.mem_of_getElem? (i := 12) rfl)
  have w13 := hw _ (List.mem_of_getElem? (i := 13) rfl)
  have w14 := hw _ (List.mem_of_getElem? (i := 14) rfl)
  have w35 := hw _ (List.mem_of_getElem? (i := 35) rfl)
  have w37 := hw _ (List.mem_of_getElem? (i := 37) rfl)
  refine o_iloadN X0 hx (hb hby d7_0) rfl ?_
  refine o_iconst X0 hx (1 : Int32) (hb hby d7_1) rfl ?_
  refine o_icmpYes X0 hx 20 (hb hby d7_2) (feq (by decide : ¬ ((2 : Int32) = (1 : Int32)))).2 (by decide) (by decide) ?_
  refine o_iloadN X0 hx (hb hby d7_20) rfl ?_
  refine o_iconst X0 hx (2 : Int32) (hb hby d7_21) rfl ?_
  refine o_icmpNo X0 hx (hb hby d7_22) (teq (by decide : (2 : Int32) = (2 : Int32))).2 ?_
  obtain ⟨T1, _, X1, rfl, E1, A1, D1, -, st1⟩ := newO X0 hx hZ hown w8 w9 w10 e0 (g := (mkF m 25 #[.val (.int (2 : Int32)), .val (.int c0_), .val (.int c1_), .val (.int c2_), .val (.int c3_)] [])) rfl (hb hby d7_25) (by decide) (by decide)
  obtain ⟨b1, g1⟩ : ∃ z, z = h0.size := ⟨_, rfl⟩
  rw [← g1] at A1 D1 st1
  have n0_b1 : n0 ≤ b1 := Nat.le_trans (Nat.le_trans (Nat.le_of_eq O0.1.symm) O0.2.1) (Nat.le_trans (Nat.le_refl _) (Nat.le_of_eq g1.symm))
  have F1_coder : Fld Z T1.heap b1 "java/lang/String" "coder" "B" (.int (0 : Int32)) := D1 (Or.inr w35) (ty := .byte) (by decide)
  have F1_value : Fld Z T1.heap b1 "java/lang/String" "value" "[B" .null := D1 (Or.inr w37) (ty := (.array .byte)) (by decide)
  refine ogo (S' := T1.setTop (mkF m 28 #[.val (.int (2 : Int32)), .val (.int c0_), .val (.int c1_), .val (.int c2_), .val (.int c3_)] [(.ref b1)])) st1 ?_
  refine o_dup X1 hx (hb hby d7_28) rfl ?_
  refine o_iconst X1 hx (2 : Int32) (hb hby d7_29) rfl ?_
  obtain ⟨T2, _, k2, X2, rfl, E2, A2, Ex2, st2⟩ := newPE (aty := .char) X1 hx hZ w11 rfl (g := (mkF m 30 #[.val (.int (2 : Int32)), .val (.int c0_), .val (.int c1_), .val (.int c2_), .val (.int c3_)] [(.int (2 : Int32)), (.ref b1), (.ref b1)])) rfl (hb hby d7_30) rfl (by decide) (cap := 2) (by decide) (by decide) (by decide) (by decide) (ad := "[C") rfl
  obtain ⟨b2, g2⟩ : ∃ z, z = T1.heap.size := ⟨_, rfl⟩
  rw [← g2] at A2 Ex2 st2
  have n0_b2 : n0 ≤ b2 := Nat.le_trans (Nat.le_trans (Nat.le_of_eq O0.1.symm) O0.2.1) (Nat.le_trans E1.1 (Nat.le_of_eq g2.symm))
  have V2 : Arv Z T2.heap b2 k2 .char (2 : Int32) [(.int 0), (.int 0)] (.int 0) := (Arv.new A2 (by decide)).pad (pad_rep [] (.int 0) 2)
  refine ogo (S' := T2.setTop (mkF m 32 #[.val (.int (2 : Int32)), .val (.int c0_), .val (.int c1_), .val (.int c2_), .val (.int c3_)] [(.ref b2), (.ref b1), (.ref b1)])) st2 ?_
  refine o_dup X2 hx (hb hby d7_32) rfl ?_
  refine o_iconst X2 hx (0 : Int32) (hb hby d7_33) rfl ?_
  refine o_iloadN X2 hx (hb hby d7_34) rfl ?_
  obtain ⟨cl3, Ar3, q3, S3, N3z, H3, G3⟩ := (id V2)
  obtain ⟨T3, _, X3, rfl, W3, st3⟩ := stC X2 hx hZ rfl Ar3 (j := (0 : Int32)) (inb_of S3 ⟨by decide, by decide⟩) (g := (mkF m 35 #[.val (.int (2 : Int32)), .val (.int c0_), .val (.int c1_), .val (.int c2_), .val (.int c3_)] [(.int c0_), (.int (0 : Int32)), (.ref b2), (.ref b2), (.ref b1), (.ref b1)])) rfl rfl (hb hby d7_35)
  rw [pr0] at W3
  have V3 : Arv Z T3.heap b2 k2 .char (2 : Int32) [(.int c0_), (.int 0)] (.int 0) := Arv.set Ar3 q3 S3 N3z H3 G3 (by have q := fits_nar_char c0_; rw [pr0] at q; exact q) W3 0 rfl (Nat.le_of_ble_eq_true rfl)
  have N3 := Fr.snoc X3 N0 n0_b2
  refine ogo (S' := T3.setTop (mkF m 36 #[.val (.int (2 : Int32)), .val (.int c0_), .val (.int c1_), .val (.int c2_), .val (.int c3_)] [(.ref b2), (.ref b1), (.ref b1)])) st3 ?_
  refine o_dup X3 hx (hb hby d7_36) rfl ?_
  refine o_iconst X3 hx (1 : Int32) (hb hby d7_37) rfl ?_
  refine o_iloadN X3 hx (hb hby d7_38) rfl ?_
  obtain ⟨cl4, Ar4, q4, S4, N4z, H4, G4⟩ := (id V3)
  obtain ⟨T4, _, X4, rfl, W4, st4⟩ := stC X3 hx hZ rfl Ar4 (j := (1 : Int32)) (inb_of S4 ⟨by decide, by decide⟩) (g := (mkF m 39 #[.val (.int (2 : Int32)), .val (.int c0_), .val (.int c1_), .val (.int c2_), .val (.int c3_)] [(.int c1_), (.int (1 : Int32)), (.ref b2), (.ref b2), (.ref b1), (.ref b1)])) rfl rfl (hb hby d7_39)
  rw [pr1] at W4
  have V4 : Arv Z T4.heap b2 k2 .char (2 : Int32) [(.int c0_), (.int c1_)] (.int 0) := Arv.set Ar4 q4 S4 N4z H4 G4 (by have q := fits_nar_char c1_; rw [pr1] at q; exact q) W4 1 rfl (Nat.le_of_ble_eq_true rfl)
  have N4 := Fr.snoc X4 N3 n0_b2
  refine ogo (S' := T4.setTop (mkF m 40 #[.val (.int (2 : Int32)), .val (.int c0_), .val (.int c1_), .val (.int c2_), .val (.int c3_)] [(.ref b2), (.ref b1), (.ref b1)])) st4 ?_
  have c6 := (Fld.other W4 (Fld.other W3 (Fld.ext E2 F1_value) (Or.inl (Nat.ne_of_lt (Nat.lt_of_lt_of_le (Nat.lt_of_lt_of_le A1.lt (Nat.le_refl _)) (Nat.le_of_eq g2.symm))))) (Or.inl (Nat.ne_of_lt (Nat.lt_of_lt_of_le (Nat.lt_of_lt_of_le A1.lt (Nat.le_refl _)) (Nat.le_of_eq g2.symm)))))
  have c7 := (Fld.other W4 (Fld.other W3 (Fld.ext E2 F1_coder) (Or.inl (Nat.ne_of_lt (Nat.lt_of_lt_of_le (Nat.lt_of_lt_of_le A1.lt (Nat.le_refl _)) (Nat.le_of_eq g2.symm))))) (Or.inl (Nat.ne_of_lt (Nat.lt_of_lt_of_le (Nat.lt_of_lt_of_le A1.lt (Nat.le_refl _)) (Nat.le_of_eq g2.symm)))))
  obtain ⟨_, _, ⟨T5, L5, kc5, n5⟩, -, X5, ⟨Lc5, hQ5, l5, y5, z5⟩, st5⟩ := X4.specialBack hx (y := yM5) rfl hown (mvT hZ w12) (mvT hZ w13) (mvT hZ w14) (by decide) (backOf (W := 1) (rm_new1_2 l Z a0 hw [] s_EID_CHARS cl_T z_CS v_FMT b1 b2 k2 c0_ c1_ T4.heap n0 SB ((((O0.ext E1).ext E2).wr W3 n0_b2).wr W4 n0_b2) (Exa.wr W4 (Exa.wr W3 (Exa.ext E2 A1))) c6 c7 V4 n0_b1 pr2 pr3) hZ w14 w10 (by decide) (by decide)) (g := (mkF m 40 #[.val (.int (2 : Int32)), .val (.int c0_), .val (.int c1_), .val (.int c2_), .val (.int c3_)] [(.ref b2), (.ref b1), (.ref b1)])) rfl (by rw [hml]; rfl) (Steps.refl _) (a := b1) (argsL := [(.ref b2)]) (rest := [(.ref b1)]) (lenOf own_pd4 rfl) rfl (by show 2 * 0 + _ ≤ _; exact Nat.le_of_eq rfl) (hb hby d7_40) (fun _ _ => ⟨rfl, rfl, (by decide : 2 + 1 ≤ _), (by decide : 6 + 2 ≤ _)⟩)
  dsimp only [Pt.U, Pt.locs, Pt.cells, Pt.slots] at X5 l5 y5 z5 st5 hQ5
  subst l5 y5 z5
  obtain ⟨ba_5, kb_5, rfl, Nq5, K5, p5_0, p5_1, p5_2, p5_3, p5_4⟩ := hQ5
  have N5 := Fr.app N4 Nq5
  have n0_ba_5 : n0 ≤ ba_5 := Nat.le_trans (Nat.le_trans (Nat.le_of_eq O0.1.symm) O0.2.1) (Nat.le_trans (Nat.le_trans (Nat.le_trans (Nat.le_trans E1.1 E2.1) (Keep.of_wr W3).1) (Keep.of_wr W4).1) p5_0)
  refine otr (S' := T5.setTop (mkF m 43 #[.val (.int (2 : Int32)), .val (.int c0_), .val (.int c1_), .val (.int c2_), .val (.int c3_)] [(.ref b1)])) st5 ?_
  refine oend X5 hlk (v := some (.ref b1)) (fun h => by rw [hret] at h; cases h) (fun fs hr => retOut X5 hx (t := (.object "java/lang/String")) (i := .areturn) hret rfl (Or.inr (Or.inr (Or.inr (Or.inr ⟨rfl, rfl, rfl⟩)))) (hb hby d7_43) hr) (by decide) (by decide) ?_
  show own_Q_build_2 Z _ _ _ _ _ _ _ _ h0 n0 _ T5.heap _
  exact ⟨b1, ba_5, kb_5, rfl, N5, ((((((Keep.refl h0 []).ext E1).ext E2).wr W3 (Or.inr (Nat.le_trans E1.1 (Nat.le_of_eq g2.symm)))).wr W4 (Or.inr (Nat.le_trans E1.1 (Nat.le_of_eq g2.symm)))).trans K5 (allS (Or.inr (Nat.le_trans (Nat.le_refl _) (Nat.le_of_eq g1.symm))) all0)), (Nat.le_trans (Nat.le_refl _) (Nat.le_of_eq g1.symm)), (Nat.le_trans (Nat.le_trans (Nat.le_trans (Nat.le_trans E1.1 E2.1) (Keep.of_wr W3).1) (Keep.of_wr W4).1) p5_0), p5_2, p5_4, p5_3, p5_1⟩
theorem d7_44 : decode method_3_code 44 = .ok (.iload_n 0, 1) := by decide +kernel
theorem d7_45 : decode method_3_code 45 = .ok (.iconst 3, 1) := by decide +kernel
theorem d7_46 : decode method_3_code 46 = .ok (.if_icmp .ne 26, 3) := by decide +kernel
theorem d7_49 : decode method_3_code 49 = .ok (.new 8, 3) := by decide +kernel
theorem d7_52 : decode method_3_code 52 = .ok (.dup, 1) := by decide +kernel
theorem d7_53 : decode method_3_code 53 = .ok (.iconst 3, 1) := by decide +kernel
theorem d7_54 : decode method_3_code 54 = .ok (.newarray .char, 2) := by decide +kernel
theorem d7_56 : decode method_3_code 56 = .ok (.dup, 1) := by decide +kernel
theorem d7_57 : decode method_3_code 57 = .ok (.iconst 0, 1) := by decide +kernel
theorem d7_58 : decode method_3_code 58 = .ok (.iload_n 1, 1) := by decide +kernel
theorem d7_59 : decode method_3_code 59 = .ok (.castore, 1) := by decide +kernel
theorem d7_60 : decode method_3_code 60 = .ok (.dup, 1) := by decide +kernel
theorem d7_61 : decode method_3_code 61 = .ok (.iconst 1, 1) := by decide +kernel
theorem d7_62 : decode method_3_code 62 = .ok (.iload_n 2, 1) := by decide +kernel
theorem d7_63 : decode method_3_code 63 = .ok (.castore, 1) := by decide +kernel
theorem d7_64 : decode method_3_code 64 = .ok (.dup, 1) := by decide +kernel
theorem d7_65 : decode method_3_code 65 = .ok (.iconst 2, 1) := by decide +kernel
theorem d7_66 : decode method_3_code 66 = .ok (.iload_n 3, 1) := by decide +kernel
theorem d7_67 : decode method_3_code 67 = .ok (.castore, 1) := by decide +kernel
theorem d7_68 : decode method_3_code 68 = .ok (.invokespecial 10, 3) := by decide +kernel
theorem d7_71 : decode method_3_code 71 = .ok (.areturn, 1) := by decide +kernel
def own_Q_build_3 (Z : State) (s_EID_CHARS : Addr) (cl_T : Cell) (z_CS : Int32) (v_FMT : Value) (c0_ : Int32) (c1_ : Int32) (c2_ : Int32) (c3_ : Int32) (h0 : Heap) (n0 : Nat) (v : Option Value) (h : Heap) (L : List Loc) : Prop := ∃ x_ : Addr, ∃ ba_ : Addr, ∃ kb_ : ClassId, (v = some (.ref x_)) ∧ (Fr n0 L) ∧ (Keep h0 h []) ∧ (h0.size ≤ x_) ∧ (h0.size ≤ ba_) ∧ (Exa Z h x_ "java/lang/String") ∧ (Fld Z h x_ "java/lang/String" "coder" "B" (.int (0 : Int32))) ∧ (Fld Z h x_ "java/lang/String" "value" "[B" (.ref ba_)) ∧ (Arv Z h ba_ kb_ .byte (3 : Int32) [(.int c0_.toInt8.toInt32), (.int c1_.toInt8.toInt32), (.int c2_.toInt8.toInt32)] (.int 0))
set_option maxRecDepth 65536 in
set_option maxHeartbeats 40000000 in
theorem rm_build_3 (l : Launch) (Z : State) (a0 : Array Value) (hw : ∀ d ∈ tables_1, d.before a0 Z = true) (ws : List Jvm.Cond) (s_EID_CHARS : Addr) (cl_T : Cell) (z_CS : Int32) (v_FMT : Value) (c0_ : Int32) (c1_ : Int32) (c2_ : Int32) (c3_ : Int32) (h0 : Heap) (n0 : Nat) (SB : own_Start Z s_EID_CHARS cl_T z_CS v_FMT) (O0 : Old Z n0 h0) (pr0 : nar .char c0_ = c0_) (pr1 : nar .char c1_ = c1_) (pr2 : nar .char c2_ = c2_) (pr3 : ¬ ((255 : Int32) < c0_)) (pr4 : ¬ ((255 : Int32) < c1_)) (pr5 : ¬ ((255 : Int32) < c2_)) :
    oMet l Z yM6 method_3_code 5 (some (.object "java/lang/String")) ws ({ frames := 4, cells := 3, slots := 10, locals := 66 } : Room) 3 10 #[(.int (3 : Int32)), (.int c0_), (.int c1_), (.int c2_), (.int c3_)] h0 (own_Q_build_3 Z s_EID_CHARS cl_T z_CS v_FMT c0_ c1_ c2_ c3_ h0 n0) := by
  refine oenter own_pn0 #[.val (.int (3 : Int32)), .val (.int c0_), .val (.int c1_), .val (.int c2_), .val (.int c3_)] (fun m => by first | (simp [entryFrame, mkF, argsToLocals, Value.category]; done) | rfl) ?_
  intro p e s m below meth c s₁ X0 hx hZ hby hml hret hown0 hnm hlk e0
  have hown : s.vm.findClass "com/example/atomic_tally/atomictally/model/NamesCheckEidPinLaw" = some m.cls := hown0
  have N0 := Fr.nil n0
  obtain ⟨S_s_EID_CHARS, A_T, L_T, T_T, S_CS, H_CS, S_FMT, R_FMT⟩ := (id SB)
  have w8 := hw _ (List.mem_of_getElem? (i := 8) rfl)
  have w9 := hw _ (List.mem_of_getElem? (i := 9) rfl)
  have w10 := hw _ (List.mem_of_getElem? (i := 10) rfl)
  have w11 := hw _ (List.mem_of_getElem? (i := 11) rfl)
  have w12 := hw _ (List.mem_of_getElem? (i := 12) rfl)
  have w13 := hw _ (List.mem_of_getElem? (i := 13) rfl)
  have w14 := hw _ (List.mem_of_getElem? (i := 14) rfl)
  have w35 := hw _ (List.mem_of_getElem? (i := 35) rfl)
  have w37 := hw _ (List.mem_of_getElem? (i := 37) rfl)
  refine o_iloadN X0 hx (hb hby d7_0) rfl ?_
  refine o_iconst X0 hx (1 : Int32) (hb hby d7_1) rfl ?_
  refine o_icmpYes X0 hx 20 (hb hby d7_2) (feq (by decide : ¬ ((3 : Int32) = (1 : Int32)))).2 (by decide) (by decide) ?_
  refine o_iloadN X0 hx (hb hby d7_20) rfl ?_
  refine o_iconst X0 hx (2 : Int32) (hb hby d7_21) rfl ?_
  refine o_icmpYes X0 hx 44 (hb hby d7_22) (feq (by decide : ¬ ((3 : Int32) = (2 : Int32)))).2 (by decide) (by decide) ?_
  refine o_iloadN X0 hx (hb hby d7_44) rfl ?_
  refine o_iconst X0 hx (3 : Int32) (hb hby d7_45) rfl ?_
  refine o_icmpNo X0 hx (hb hby d7_46) (teq (by decide : (3 : Int32) = (3 : Int32))).2 ?_
  obtain ⟨T1, _, X1, rfl, E1, A1, D1, -, st1⟩ := newO X0 hx hZ hown w8 w9 w10 e0 (g := (mkF m 49 #[.val (.int (3 : Int32)), .val (.int c0_), .val (.int c1_), .val (.int c2_), .val (.int c3_)] [])) rfl (hb hby d7_49) (by decide) (by decide)
  obtain ⟨b1, g1⟩ : ∃ z, z = h0.size := ⟨_, rfl⟩
  rw [← g1] at A1 D1 st1
  have n0_b1 : n0 ≤ b1 := Nat.le_trans (Nat.le_trans (Nat.le_of_eq O0.1.symm) O0.2.1) (Nat.le_trans (Nat.le_refl _) (Nat.le_of_eq g1.symm))
  have F1_coder : Fld Z T1.heap b1 "java/lang/String" "coder" "B" (.int (0 : Int32)) := D1 (Or.inr w35) (ty := .byte) (by decide)
  have F1_value : Fld Z T1.heap b1 "java/lang/String" "value" "[B" .null := D1 (Or.inr w37) (ty := (.array .byte)) (by decide)
  refine ogo (S' := T1.setTop (mkF m 52 #[.val (.int (3 : Int32)), .val (.int c0_), .val (.int c1_), .val (.int c2_), .val (.int c3_)] [(.ref b1)])) st1 ?_
  refine o_dup X1 hx (hb hby d7_52) rfl ?_
  refine o_iconst X1 hx (3 : Int32) (hb hby d7_53) rfl ?_
  obtain ⟨T2, _, k2, X2, rfl, E2, A2, Ex2, st2⟩ := newPE (aty := .char) X1 hx hZ w11 rfl (g := (mkF m 54 #[.val (.int (3 : Int32)), .val (.int c0_), .val (.int c1_), .val (.int c2_), .val (.int c3_)] [(.int (3 : Int32)), (.ref b1), (.ref b1)])) rfl (hb hby d7_54) rfl (by decide) (cap := 3) (by decide) (by decide) (by decide) (by decide) (ad := "[C") rfl
  obtain ⟨b2, g2⟩ : ∃ z, z = T1.heap.size := ⟨_, rfl⟩
  rw [← g2] at A2 Ex2 st2
  have n0_b2 : n0 ≤ b2 := Nat.le_trans (Nat.le_trans (Nat.le_of_eq O0.1.symm) O0.2.1) (Nat.le_trans E1.1 (Nat.le_of_eq g2.symm))
  have V2 : Arv Z T2.heap b2 k2 .char (3 : Int32) [(.int 0), (.int 0), (.int 0)] (.int 0) := (Arv.new A2 (by decide)).pad (pad_rep [] (.int 0) 3)
  refine ogo (S' := T2.setTop (mkF m 56 #[.val (.int (3 : Int32)), .val (.int c0_), .val (.int c1_), .val (.int c2_), .val (.int c3_)] [(.ref b2), (.ref b1), (.ref b1)])) st2 ?_
  refine o_dup X2 hx (hb hby d7_56) rfl ?_
  refine o_iconst X2 hx (0 : Int32) (hb hby d7_57) rfl ?_
  refine o_iloadN X2 hx (hb hby d7_58) rfl ?_
  obtain ⟨cl3, Ar3, q3, S3, N3z, H3, G3⟩ := (id V2)
  obtain ⟨T3, _, X3, rfl, W3, st3⟩ := stC X2 hx hZ rfl Ar3 (j := (0 : Int32)) (inb_of S3 ⟨by decide, by decide⟩) (g := (mkF m 59 #[.val (.int (3 : Int32)), .val (.int c0_), .val (.int c1_), .val (.int c2_), .val (.int c3_)] [(.int c0_), (.int (0 : Int32)), (.ref b2), (.ref b2), (.ref b1), (.ref b1)])) rfl rfl (hb hby d7_59)
  rw [pr0] at W3
  have V3 : Arv Z T3.heap b2 k2 .char (3 : Int32) [(.int c0_), (.int 0), (.int 0)] (.int 0) := Arv.set Ar3 q3 S3 N3z H3 G3 (by have q := fits_nar_char c0_; rw [pr0] at q; exact q) W3 0 rfl (Nat.le_of_ble_eq_true rfl)
  have N3 := Fr.snoc X3 N0 n0_b2
  refine ogo (S' := T3.setTop (mkF m 60 #[.val (.int (3 : Int32)), .val (.int c0_), .val (.int c1_), .val (.int c2_), .val (.int c3_)] [(.ref b2), (.ref b1), (.ref b1)])) st3 ?_
  refine o_dup X3 hx (hb hby d7_60) rfl ?_
  refine o_iconst X3 hx (1 : Int32) (hb hby d7_61) rfl ?_
  refine o_iloadN X3 hx (hb hby d7_62) rfl ?_
  obtain ⟨cl4, Ar4, q4, S4, N4z, H4, G4⟩ := (id V3)
  obtain ⟨T4, _, X4, rfl, W4, st4⟩ := stC X3 hx hZ rfl Ar4 (j := (1 : Int32)) (inb_of S4 ⟨by decide, by decide⟩) (g := (mkF m 63 #[.val (.int (3 : Int32)), .val (.int c0_), .val (.int c1_), .val (.int c2_), .val (.int c3_)] [(.int c1_), (.int (1 : Int32)), (.ref b2), (.ref b2), (.ref b1), (.ref b1)])) rfl rfl (hb hby d7_63)
  rw [pr1] at W4
  have V4 : Arv Z T4.heap b2 k2 .char (3 : Int32) [(.int c0_), (.int c1_), (.int 0)] (.int 0) := Arv.set Ar4 q4 S4 N4z H4 G4 (by have q := fits_nar_char c1_; rw [pr1] at q; exact q) W4 1 rfl (Nat.le_of_ble_eq_true rfl)
  have N4 := Fr.snoc X4 N3 n0_b2
  refine ogo (S' := T4.setTop (mkF m 64 #[.val (.int (3 : Int32)), .val (.int c0_), .val (.int c1_), .val (.int c2_), .val (.int c3_)] [(.ref b2), (.ref b1), (.ref b1)])) st4 ?_
  refine o_dup X4 hx (hb hby d7_64) rfl ?_
  refine o_iconst X4 hx (2 : Int32) (hb hby d7_65) rfl ?_
  refine o_iloadN X4 hx (hb hby d7_66) rfl ?_
  obtain ⟨cl5, Ar5, q5, S5, N5z, H5, G5⟩ := (id V4)
  obtain ⟨T5, _, X5, rfl, W5, st5⟩ := stC X4 hx hZ rfl Ar5 (j := (2 : Int32)) (inb_of S5 ⟨by decide, by decide⟩) (g := (mkF m 67 #[.val (.int (3 : Int32)), .val (.int c0_), .val (.int c1_), .val (.int c2_), .val (.int c3_)] [(.int c2_), (.int (2 : Int32)), (.ref b2), (.ref b2), (.ref b1), (.ref b1)])) rfl rfl (hb hby d7_67)
  rw [pr2] at W5
  have V5 : Arv Z T5.heap b2 k2 .char (3 : Int32) [(.int c0_), (.int c1_), (.int c2_)] (.int 0) := Arv.set Ar5 q5 S5 N5z H5 G5 (by have q := fits_nar_char c2_; rw [pr2] at q; exact q) W5 2 rfl (Nat.le_of_ble_eq_true rfl)
  have N5 := Fr.snoc X5 N4 n0_b2
  refine ogo (S' := T5.setTop (mkF m 68 #[.val (.int (3 : Int32)), .val (.int c0_), .val (.int c1_), .val (.int c2_), .val (.int c3_)] [(.ref b2), (.ref b1), (.ref b1)])) st5 ?_
  have c7 := (((((O0.ext E1).ext E2).wr W3 n0_b2).wr W4 n0_b2).wr W5 n0_b2)
  have c8 := (Fld.other W5 (Fld.other W4 (Fld.other W3 (Fld.ext E2 F1_value) (Or.inl (Nat.ne_of_lt (Nat.lt_of_lt_of_le (Nat.lt_of_lt_of_le A1.lt (Nat.le_refl _)) (Nat.le_of_eq g2.symm))))) (Or.inl (Nat.ne_of_lt (Nat.lt_of_lt_of_le (Nat.lt_of_lt_of_le A1.lt (Nat.le_refl _)) (Nat.le_of_eq g2.symm))))) (Or.inl (Nat.ne_of_lt (Nat.lt_of_lt_of_le (Nat.lt_of_lt_of_le A1.lt (Nat.le_refl _)) (Nat.le_of_eq g2.symm)))))
  have c9 := (Fld.other W5 (Fld.other W4 (Fld.other W3 (Fld.ext E2 F1_coder) (Or.inl (Nat.ne_of_lt (Nat.lt_of_lt_of_le (Nat.lt_of_lt_of_le A1.lt (Nat.le_refl _)) (Nat.le_of_eq g2.symm))))) (Or.inl (Nat.ne_of_lt (Nat.lt_of_lt_of_le (Nat.lt_of_lt_of_le A1.lt (Nat.le_refl _)) (Nat.le_of_eq g2.symm))))) (Or.inl (Nat.ne_of_lt (Nat.lt_of_lt_of_le (Nat.lt_of_lt_of_le A1.lt (Nat.le_refl _)) (Nat.le_of_eq g2.symm)))))
  obtain ⟨_, _, ⟨T6, L6, kc6, n6⟩, -, X6, ⟨Lc6, hQ6, l6, y6, z6⟩, st6⟩ := X5.specialBack hx (y := yM5) rfl hown (mvT hZ w12) (mvT hZ w13) (mvT hZ w14) (by decide) (backOf (W := 1) (rm_new1_3 l Z a0 hw [] s_EID_CHARS cl_T z_CS v_FMT b1 b2 k2 c0_ c1_ c2_ T5.heap n0 SB c7 (Exa.wr W5 (Exa.wr W4 (Exa.wr W3 (Exa.ext E2 A1)))) c8 c9 V5 n0_b1 pr3 pr4 pr5) hZ w14 w10 (by decide) (by decide)) (g := (mkF m 68 #[.val (.int (3 : Int32)), .val (.int c0_), .val (.int c1_), .val (.int c2_), .val (.int c3_)] [(.ref b2), (.ref b1), (.ref b1)])) rfl (by rw [hml]; rfl) (Steps.refl _) (a := b1) (argsL := [(.ref b2)]) (rest := [(.ref b1)]) (lenOf own_pd4 rfl) rfl (by show 2 * 0 + _ ≤ _; exact Nat.le_of_eq rfl) (hb hby d7_68) (fun _ _ => ⟨rfl, rfl, (by decide : 2 + 1 ≤ _), (by decide : 7 + 3 ≤ _)⟩)
  dsimp only [Pt.U, Pt.locs, Pt.cells, Pt.slots] at X6 l6 y6 z6 st6 hQ6
  subst l6 y6 z6
  obtain ⟨ba_6, kb_6, rfl, Nq6, K6, p6_0, p6_1, p6_2, p6_3, p6_4⟩ := hQ6
  have N6 := Fr.app N5 Nq6
  have n0_ba_6 : n0 ≤ ba_6 := Nat.le_trans (Nat.le_trans (Nat.le_of_eq O0.1.symm) O0.2.1) (Nat.le_trans (Nat.le_trans (Nat.le_trans (Nat.le_trans (Nat.le_trans E1.1 E2.1) (Keep.of_wr W3).1) (Keep.of_wr W4).1) (Keep.of_wr W5).1) p6_0)
  refine otr (S' := T6.setTop (mkF m 71 #[.val (.int (3 : Int32)), .val (.int c0_), .val (.int c1_), .val (.int c2_), .val (.int c3_)] [(.ref b1)])) st6 ?_
  refine oend X6 hlk (v := some (.ref b1)) (fun h => by rw [hret] at h; cases h) (fun fs hr => retOut X6 hx (t := (.object "java/lang/String")) (i := .areturn) hret rfl (Or.inr (Or.inr (Or.inr (Or.inr ⟨rfl, rfl, rfl⟩)))) (hb hby d7_71) hr) (by decide) (by decide) ?_
  show own_Q_build_3 Z _ _ _ _ _ _ _ _ h0 n0 _ T6.heap _
  exact ⟨b1, ba_6, kb_6, rfl, N6, (((((((Keep.refl h0 []).ext E1).ext E2).wr W3 (Or.inr (Nat.le_trans E1.1 (Nat.le_of_eq g2.symm)))).wr W4 (Or.inr (Nat.le_trans E1.1 (Nat.le_of_eq g2.symm)))).wr W5 (Or.inr (Nat.le_trans E1.1 (Nat.le_of_eq g2.symm)))).trans K6 (allS (Or.inr (Nat.le_trans (Nat.le_refl _) (Nat.le_of_eq g1.symm))) all0)), (Nat.le_trans (Nat.le_refl _) (Nat.le_of_eq g1.symm)), (Nat.le_trans (Nat.le_trans (Nat.le_trans (Nat.le_trans (Nat.le_trans E1.1 E2.1) (Keep.of_wr W3).1) (Keep.of_wr W4).1) (Keep.of_wr W5).1) p6_0), p6_2, p6_4, p6_3, p6_1⟩
theorem d7_72 : decode method_3_code 72 = .ok (.new 8, 3) := by decide +kernel
theorem d7_75 : decode method_3_code 75 = .ok (.dup, 1) := by decide +kernel
theorem d7_76 : decode method_3_code 76 = .ok (.iconst 4, 1) := by decide +kernel
theorem d7_77 : decode method_3_code 77 = .ok (.newarray .char, 2) := by decide +kernel
theorem d7_79 : decode method_3_code 79 = .ok (.dup, 1) := by decide +kernel
theorem d7_80 : decode method_3_code 80 = .ok (.iconst 0, 1) := by decide +kernel
theorem d7_81 : decode method_3_code 81 = .ok (.iload_n 1, 1) := by decide +kernel
theorem d7_82 : decode method_3_code 82 = .ok (.castore, 1) := by decide +kernel
theorem d7_83 : decode method_3_code 83 = .ok (.dup, 1) := by decide +kernel
theorem d7_84 : decode method_3_code 84 = .ok (.iconst 1, 1) := by decide +kernel
theorem d7_85 : decode method_3_code 85 = .ok (.iload_n 2, 1) := by decide +kernel
theorem d7_86 : decode method_3_code 86 = .ok (.castore, 1) := by decide +kernel
theorem d7_87 : decode method_3_code 87 = .ok (.dup, 1) := by decide +kernel
theorem d7_88 : decode method_3_code 88 = .ok (.iconst 2, 1) := by decide +kernel
theorem d7_89 : decode method_3_code 89 = .ok (.iload_n 3, 1) := by decide +kernel
theorem d7_90 : decode method_3_code 90 = .ok (.castore, 1) := by decide +kernel
theorem d7_91 : decode method_3_code 91 = .ok (.dup, 1) := by decide +kernel
theorem d7_92 : decode method_3_code 92 = .ok (.iconst 3, 1) := by decide +kernel
theorem d7_93 : decode method_3_code 93 = .ok (.iload 4, 2) := by decide +kernel
theorem d7_95 : decode method_3_code 95 = .ok (.castore, 1) := by decide +kernel
theorem d7_96 : decode method_3_code 96 = .ok (.invokespecial 10, 3) := by decide +kernel
theorem d7_99 : decode method_3_code 99 = .ok (.areturn, 1) := by decide +kernel
def own_Q_build_4 (Z : State) (s_EID_CHARS : Addr) (cl_T : Cell) (z_CS : Int32) (v_FMT : Value) (c0_ : Int32) (c1_ : Int32) (c2_ : Int32) (c3_ : Int32) (h0 : Heap) (n0 : Nat) (v : Option Value) (h : Heap) (L : List Loc) : Prop := ∃ x_ : Addr, ∃ ba_ : Addr, ∃ kb_ : ClassId, (v = some (.ref x_)) ∧ (Fr n0 L) ∧ (Keep h0 h []) ∧ (h0.size ≤ x_) ∧ (h0.size ≤ ba_) ∧ (Exa Z h x_ "java/lang/String") ∧ (Fld Z h x_ "java/lang/String" "coder" "B" (.int (0 : Int32))) ∧ (Fld Z h x_ "java/lang/String" "value" "[B" (.ref ba_)) ∧ (Arv Z h ba_ kb_ .byte (4 : Int32) [(.int c0_.toInt8.toInt32), (.int c1_.toInt8.toInt32), (.int c2_.toInt8.toInt32), (.int c3_.toInt8.toInt32)] (.int 0))
set_option maxRecDepth 65536 in
set_option maxHeartbeats 40000000 in
theorem rm_build_4 (l : Launch) (Z : State) (a0 : Array Value) (hw : ∀ d ∈ tables_1, d.before a0 Z = true) (ws : List Jvm.Cond) (s_EID_CHARS : Addr) (cl_T : Cell) (z_CS : Int32) (v_FMT : Value) (c0_ : Int32) (c1_ : Int32) (c2_ : Int32) (c3_ : Int32) (h0 : Heap) (n0 : Nat) (SB : own_Start Z s_EID_CHARS cl_T z_CS v_FMT) (O0 : Old Z n0 h0) (pr0 : nar .char c0_ = c0_) (pr1 : nar .char c1_ = c1_) (pr2 : nar .char c2_ = c2_) (pr3 : nar .char c3_ = c3_) (pr4 : ¬ ((255 : Int32) < c0_)) (pr5 : ¬ ((255 : Int32) < c1_)) (pr6 : ¬ ((255 : Int32) < c2_)) (pr7 : ¬ ((255 : Int32) < c3_)) :
    oMet l Z yM6 method_3_code 5 (some (.object "java/lang/String")) ws ({ frames := 4, cells := 3, slots := 12, locals := 66 } : Room) 3 12 #[(.int (4 : Int32)), (.int c0_), (.int c1_), (.int c2_), (.int c3_)] h0 (own_Q_build_4 Z s_EID_CHARS cl_T z_CS v_FMT c0_ c1_ c2_ c3_ h0 n0) := by
  refine oenter own_pn0 #[.val (.int (4 : Int32)), .val (.int c0_), .val (.int c1_), .val (.int c2_), .val (.int c3_)] (fun m => by first | (simp [entryFrame, mkF, argsToLocals, Value.category]; done) | rfl) ?_
  intro p e s m below meth c s₁ X0 hx hZ hby hml hret hown0 hnm hlk e0
  have hown : s.vm.findClass "com/example/atomic_tally/atomictally/model/NamesCheckEidPinLaw" = some m.cls := hown0
  have N0 := Fr.nil n0
  obtain ⟨S_s_EID_CHARS, A_T, L_T, T_T, S_CS, H_CS, S_FMT, R_FMT⟩ := (id SB)
  have w8 := hw _ (List.mem_of_getElem? (i := 8) rfl)
  have w9 := hw _ (List.mem_of_getElem? (i := 9) rfl)
  have w10 := hw _ (List.mem_of_getElem? (i := 10) rfl)
  have w11 := hw _ (List.mem_of_getElem? (i := 11) rfl)
  have w12 := hw _ (List.mem_of_getElem? (i := 12) rfl)
  have w13 := hw _ (List.mem_of_getElem? (i := 13) rfl)
  have w14 := hw _ (List.mem_of_getElem? (i := 14) rfl)
  have w35 := hw _ (List.mem_of_getElem? (i := 35) rfl)
  have w37 := hw _ (List.mem_of_getElem? (i := 37) rfl)
  refine o_iloadN X0 hx (hb hby d7_0) rfl ?_
  refine o_iconst X0 hx (1 : Int32) (hb hby d7_1) rfl ?_
  refine o_icmpYes X0 hx 20 (hb hby d7_2) (feq (by decide : ¬ ((4 : Int32) = (1 : Int32)))).2 (by decide) (by decide) ?_
  refine o_iloadN X0 hx (hb hby d7_20) rfl ?_
  refine o_iconst X0 hx (2 : Int32) (hb hby d7_21) rfl ?_
  refine o_icmpYes X0 hx 44 (hb hby d7_22) (feq (by decide : ¬ ((4 : Int32) = (2 : Int32)))).2 (by decide) (by decide) ?_
  refine o_iloadN X0 hx (hb hby d7_44) rfl ?_
  refine o_iconst X0 hx (3 : Int32) (hb hby d7_45) rfl ?_
  refine o_icmpYes X0 hx 72 (hb hby d7_46) (feq (by decide : ¬ ((4 : Int32) = (3 : Int32)))).2 (by decide) (by decide) ?_
  obtain ⟨T1, _, X1, rfl, E1, A1, D1, -, st1⟩ := newO X0 hx hZ hown w8 w9 w10 e0 (g := (mkF m 72 #[.val (.int (4 : Int32)), .val (.int c0_), .val (.int c1_), .val (.int c2_), .val (.int c3_)] [])) rfl (hb hby d7_72) (by decide) (by decide)
  obtain ⟨b1, g1⟩ : ∃ z, z = h0.size := ⟨_, rfl⟩
  rw [← g1] at A1 D1 st1
  have n0_b1 : n0 ≤ b1 := Nat.le_trans (Nat.le_trans (Nat.le_of_eq O0.1.symm) O0.2.1) (Nat.le_trans (Nat.le_refl _) (Nat.le_of_eq g1.symm))
  have F1_coder : Fld Z T1.heap b1 "java/lang/String" "coder" "B" (.int (0 : Int32)) := D1 (Or.inr w35) (ty := .byte) (by decide)
  have F1_value : Fld Z T1.heap b1 "java/lang/String" "value" "[B" .null := D1 (Or.inr w37) (ty := (.array .byte)) (by decide)
  refine ogo (S' := T1.setTop (mkF m 75 #[.val (.int (4 : Int32)), .val (.int c0_), .val (.int c1_), .val (.int c2_), .val (.int c3_)] [(.ref b1)])) st1 ?_
  refine o_dup X1 hx (hb hby d7_75) rfl ?_
  refine o_iconst X1 hx (4 : Int32) (hb hby d7_76) rfl ?_
  obtain ⟨T2, _, k2, X2, rfl, E2, A2, Ex2, st2⟩ := newPE (aty := .char) X1 hx hZ w11 rfl (g := (mkF m 77 #[.val (.int (4 : Int32)), .val (.int c0_), .val (.int c1_), .val (.int c2_), .val (.int c3_)] [(.int (4 : Int32)), (.ref b1), (.ref b1)])) rfl (hb hby d7_77) rfl (by decide) (cap := 4) (by decide) (by decide) (by decide) (by decide) (ad := "[C") rfl
  obtain ⟨b2, g2⟩ : ∃ z, z = T1.heap.size := ⟨_, rfl⟩
  rw [← g2] at A2 Ex2 st2
  have n0_b2 : n0 ≤ b2 := Nat.le_trans (Nat.le_trans (Nat.le_of_eq O0.1.symm) O0.2.1) (Nat.le_trans E1.1 (Nat.le_of_eq g2.symm))
  have V2 : Arv Z T2.heap b2 k2 .char (4 : Int32) [(.int 0), (.int 0), (.int 0), (.int 0)] (.int 0) := (Arv.new A2 (by decide)).pad (pad_rep [] (.int 0) 4)
  refine ogo (S' := T2.setTop (mkF m 79 #[.val (.int (4 : Int32)), .val (.int c0_), .val (.int c1_), .val (.int c2_), .val (.int c3_)] [(.ref b2), (.ref b1), (.ref b1)])) st2 ?_
  refine o_dup X2 hx (hb hby d7_79) rfl ?_
  refine o_iconst X2 hx (0 : Int32) (hb hby d7_80) rfl ?_
  refine o_iloadN X2 hx (hb hby d7_81) rfl ?_
  obtain ⟨cl3, Ar3, q3, S3, N3z, H3, G3⟩ := (id V2)
  obtain ⟨T3, _, X3, rfl, W3, st3⟩ := stC X2 hx hZ rfl Ar3 (j := (0 : Int32)) (inb_of S3 ⟨by decide, by decide⟩) (g := (mkF m 82 #[.val (.int (4 : Int32)), .val (.int c0_), .val (.int c1_), .val (.int c2_), .val (.int c3_)] [(.int c0_), (.int (0 : Int32)), (.ref b2), (.ref b2), (.ref b1), (.ref b1)])) rfl rfl (hb hby d7_82)
  rw [pr0] at W3
  have V3 : Arv Z T3.heap b2 k2 .char (4 : Int32) [(.int c0_), (.int 0), (.int 0), (.int 0)] (.int 0) := Arv.set Ar3 q3 S3 N3z H3 G3 (by have q := fits_nar_char c0_; rw [pr0] at q; exact q) W3 0 rfl (Nat.le_of_ble_eq_true rfl)
  have N3 := Fr.snoc X3 N0 n0_b2
  refine ogo (S' := T3.setTop (mkF m 83 #[.val (.int (4 : Int32)), .val (.int c0_), .val (.int c1_), .val (.int c2_), .val (.int c3_)] [(.ref b2), (.ref b1), (.ref b1)])) st3 ?_
  refine o_dup X3 hx (hb hby d7_83) rfl ?_
  refine o_iconst X3 hx (1 : Int32) (hb hby d7_84) rfl ?_
  refine o_iloadN X3 hx (hb hby d7_85) rfl ?_
  obtain ⟨cl4, Ar4, q4, S4, N4z, H4, G4⟩ := (id V3)
  obtain ⟨T4, _, X4, rfl, W4, st4⟩ := stC X3 hx hZ rfl Ar4 (j := (1 : Int32)) (inb_of S4 ⟨by decide, by decide⟩) (g := (mkF m 86 #[.val (.int (4 : Int32)), .val (.int c0_), .val (.int c1_), .val (.int c2_), .val (.int c3_)] [(.int c1_), (.int (1 : Int32)), (.ref b2), (.ref b2), (.ref b1), (.ref b1)])) rfl rfl (hb hby d7_86)
  rw [pr1] at W4
  have V4 : Arv Z T4.heap b2 k2 .char (4 : Int32) [(.int c0_), (.int c1_), (.int 0), (.int 0)] (.int 0) := Arv.set Ar4 q4 S4 N4z H4 G4 (by have q := fits_nar_char c1_; rw [pr1] at q; exact q) W4 1 rfl (Nat.le_of_ble_eq_true rfl)
  have N4 := Fr.snoc X4 N3 n0_b2
  refine ogo (S' := T4.setTop (mkF m 87 #[.val (.int (4 : Int32)), .val (.int c0_), .val (.int c1_), .val (.int c2_), .val (.int c3_)] [(.ref b2), (.ref b1), (.ref b1)])) st4 ?_
  refine o_dup X4 hx (hb hby d7_87) rfl ?_
  refine o_iconst X4 hx (2 : Int32) (hb hby d7_88) rfl ?_
  refine o_iloadN X4 hx (hb hby d7_89) rfl ?_
  obtain ⟨cl5, Ar5, q5, S5, N5z, H5, G5⟩ := (id V4)
  obtain ⟨T5, _, X5, rfl, W5, st5⟩ := stC X4 hx hZ rfl Ar5 (j := (2 : Int32)) (inb_of S5 ⟨by decide, by decide⟩) (g := (mkF m 90 #[.val (.int (4 : Int32)), .val (.int c0_), .val (.int c1_), .val (.int c2_), .val (.int c3_)] [(.int c2_), (.int (2 : Int32)), (.ref b2), (.ref b2), (.ref b1), (.ref b1)])) rfl rfl (hb hby d7_90)
  rw [pr2] at W5
  have V5 : Arv Z T5.heap b2 k2 .char (4 : Int32) [(.int c0_), (.int c1_), (.int c2_), (.int 0)] (.int 0) := Arv.set Ar5 q5 S5 N5z H5 G5 (by have q := fits_nar_char c2_; rw [pr2] at q; exact q) W5 2 rfl (Nat.le_of_ble_eq_true rfl)
  have N5 := Fr.snoc X5 N4 n0_b2
  refine ogo (S' := T5.setTop (mkF m 91 #[.val (.int (4 : Int32)), .val (.int c0_), .val (.int c1_), .val (.int c2_), .val (.int c3_)] [(.ref b2), (.ref b1), (.ref b1)])) st5 ?_
  refine o_dup X5 hx (hb hby d7_91) rfl ?_
  refine o_iconst X5 hx (3 : Int32) (hb hby d7_92) rfl ?_
  refine o_iload X5 hx (hb hby d7_93) rfl ?_
  obtain ⟨cl6, Ar6, q6, S6, N6z, H6, G6⟩ := (id V5)
  obtain ⟨T6, _, X6, rfl, W6, st6⟩ := stC X5 hx hZ rfl Ar6 (j := (3 : Int32)) (inb_of S6 ⟨by decide, by decide⟩) (g := (mkF m 95 #[.val (.int (4 : Int32)), .val (.int c0_), .val (.int c1_), .val (.int c2_), .val (.int c3_)] [(.int c3_), (.int (3 : Int32)), (.ref b2), (.ref b2), (.ref b1), (.ref b1)])) rfl rfl (hb hby d7_95)
  rw [pr3] at W6
  have V6 : Arv Z T6.heap b2 k2 .char (4 : Int32) [(.int c0_), (.int c1_), (.int c2_), (.int c3_)] (.int 0) := Arv.set Ar6 q6 S6 N6z H6 G6 (by have q := fits_nar_char c3_; rw [pr3] at q; exact q) W6 3 rfl (Nat.le_of_ble_eq_true rfl)
  have N6 := Fr.snoc X6 N5 n0_b2
  refine ogo (S' := T6.setTop (mkF m 96 #[.val (.int (4 : Int32)), .val (.int c0_), .val (.int c1_), .val (.int c2_), .val (.int c3_)] [(.ref b2), (.ref b1), (.ref b1)])) st6 ?_
  have c8 := ((((((O0.ext E1).ext E2).wr W3 n0_b2).wr W4 n0_b2).wr W5 n0_b2).wr W6 n0_b2)
  have c9 := (Exa.wr W6 (Exa.wr W5 (Exa.wr W4 (Exa.wr W3 (Exa.ext E2 A1)))))
  have c10 := (Fld.other W6 (Fld.other W5 (Fld.other W4 (Fld.other W3 (Fld.ext E2 F1_value) (Or.inl (Nat.ne_of_lt (Nat.lt_of_lt_of_le (Nat.lt_of_lt_of_le A1.lt (Nat.le_refl _)) (Nat.le_of_eq g2.symm))))) (Or.inl (Nat.ne_of_lt (Nat.lt_of_lt_of_le (Nat.lt_of_lt_of_le A1.lt (Nat.le_refl _)) (Nat.le_of_eq g2.symm))))) (Or.inl (Nat.ne_of_lt (Nat.lt_of_lt_of_le (Nat.lt_of_lt_of_le A1.lt (Nat.le_refl _)) (Nat.le_of_eq g2.symm))))) (Or.inl (Nat.ne_of_lt (Nat.lt_of_lt_of_le (Nat.lt_of_lt_of_le A1.lt (Nat.le_refl _)) (Nat.le_of_eq g2.symm)))))
  have c11 := (Fld.other W6 (Fld.other W5 (Fld.other W4 (Fld.other W3 (Fld.ext E2 F1_coder) (Or.inl (Nat.ne_of_lt (Nat.lt_of_lt_of_le (Nat.lt_of_lt_of_le A1.lt (Nat.le_refl _)) (Nat.le_of_eq g2.symm))))) (Or.inl (Nat.ne_of_lt (Nat.lt_of_lt_of_le (Nat.lt_of_lt_of_le A1.lt (Nat.le_refl _)) (Nat.le_of_eq g2.symm))))) (Or.inl (Nat.ne_of_lt (Nat.lt_of_lt_of_le (Nat.lt_of_lt_of_le A1.lt (Nat.le_refl _)) (Nat.le_of_eq g2.symm))))) (Or.inl (Nat.ne_of_lt (Nat.lt_of_lt_of_le (Nat.lt_of_lt_of_le A1.lt (Nat.le_refl _)) (Nat.le_of_eq g2.symm)))))
  obtain ⟨_, _, ⟨T7, L7, kc7, n7⟩, -, X7, ⟨Lc7, hQ7, l7, y7, z7⟩, st7⟩ := X6.specialBack hx (y := yM5) rfl hown (mvT hZ w12) (mvT hZ w13) (mvT hZ w14) (by decide) (backOf (W := 1) (rm_new1_4 l Z a0 hw [] s_EID_CHARS cl_T z_CS v_FMT b1 b2 k2 c0_ c1_ c2_ c3_ T6.heap n0 SB c8 c9 c10 c11 V6 n0_b1 pr4 pr5 pr6 pr7) hZ w14 w10 (by decide) (by decide)) (g := (mkF m 96 #[.val (.int (4 : Int32)), .val (.int c0_), .val (.int c1_), .val (.int c2_), .val (.int c3_)] [(.ref b2), (.ref b1), (.ref b1)])) rfl (by rw [hml]; rfl) (Steps.refl _) (a := b1) (argsL := [(.ref b2)]) (rest := [(.ref b1)]) (lenOf own_pd4 rfl) rfl (by show 2 * 0 + _ ≤ _; exact Nat.le_of_eq rfl) (hb hby d7_96) (fun _ _ => ⟨rfl, rfl, (by decide : 2 + 1 ≤ _), (by decide : 8 + 4 ≤ _)⟩)
  dsimp only [Pt.U, Pt.locs, Pt.cells, Pt.slots] at X7 l7 y7 z7 st7 hQ7
  subst l7 y7 z7
  obtain ⟨ba_7, kb_7, rfl, Nq7, K7, p7_0, p7_1, p7_2, p7_3, p7_4⟩ := hQ7
  have N7 := Fr.app N6 Nq7
  have n0_ba_7 : n0 ≤ ba_7 := Nat.le_trans (Nat.le_trans (Nat.le_of_eq O0.1.symm) O0.2.1) (Nat.le_trans (Nat.le_trans (Nat.le_trans (Nat.le_trans (Nat.le_trans (Nat.le_trans E1.1 E2.1) (Keep.of_wr W3).1) (Keep.of_wr W4).1) (Keep.of_wr W5).1) (Keep.of_wr W6).1) p7_0)
  refine otr (S' := T7.setTop (mkF m 99 #[.val (.int (4 : Int32)), .val (.int c0_), .val (.int c1_), .val (.int c2_), .val (.int c3_)] [(.ref b1)])) st7 ?_
  refine oend X7 hlk (v := some (.ref b1)) (fun h => by rw [hret] at h; cases h) (fun fs hr => retOut X7 hx (t := (.object "java/lang/String")) (i := .areturn) hret rfl (Or.inr (Or.inr (Or.inr (Or.inr ⟨rfl, rfl, rfl⟩)))) (hb hby d7_99) hr) (by decide) (by decide) ?_
  show own_Q_build_4 Z _ _ _ _ _ _ _ _ h0 n0 _ T7.heap _
  exact ⟨b1, ba_7, kb_7, rfl, N7, ((((((((Keep.refl h0 []).ext E1).ext E2).wr W3 (Or.inr (Nat.le_trans E1.1 (Nat.le_of_eq g2.symm)))).wr W4 (Or.inr (Nat.le_trans E1.1 (Nat.le_of_eq g2.symm)))).wr W5 (Or.inr (Nat.le_trans E1.1 (Nat.le_of_eq g2.symm)))).wr W6 (Or.inr (Nat.le_trans E1.1 (Nat.le_of_eq g2.symm)))).trans K7 (allS (Or.inr (Nat.le_trans (Nat.le_refl _) (Nat.le_of_eq g1.symm))) all0)), (Nat.le_trans (Nat.le_refl _) (Nat.le_of_eq g1.symm)), (Nat.le_trans (Nat.le_trans (Nat.le_trans (Nat.le_trans (Nat.le_trans (Nat.le_trans E1.1 E2.1) (Keep.of_wr W3).1) (Keep.of_wr W4).1) (Keep.of_wr W5).1) (Keep.of_wr W6).1) p7_0), p7_2, p7_4, p7_3, p7_1⟩
theorem d8_0 : decode jdk_42_method_152_code 0 = .ok (.getstatic 38, 3) := by decide +kernel
theorem d8_3 : decode jdk_42_method_152_code 3 = .ok (.ifCond .eq 10, 3) := by decide +kernel
theorem d8_6 : decode jdk_42_method_152_code 6 = .ok (.aload_n 0, 1) := by decide +kernel
theorem d8_7 : decode jdk_42_method_152_code 7 = .ok (.getfield 15, 3) := by decide +kernel
theorem d8_10 : decode jdk_42_method_152_code 10 = .ok (.goto 4, 3) := by decide +kernel
theorem d8_14 : decode jdk_42_method_152_code 14 = .ok (.ireturn, 1) := by decide +kernel
def own_Q_coder (Z : State) (s_EID_CHARS : Addr) (cl_T : Cell) (z_CS : Int32) (v_FMT : Value) (x_ : Addr) (h0 : Heap) (n0 : Nat) (v : Option Value) (h : Heap) (L : List Loc) : Prop := (v = some (.int (0 : Int32))) ∧ (Fr n0 L) ∧ (h = h0)
abbrev yM7 : MethodName := ⟨"java/lang/String", "coder", "()B"⟩
set_option maxRecDepth 65536 in
set_option maxHeartbeats 40000000 in
theorem rm_coder (l : Launch) (Z : State) (a0 : Array Value) (hw : ∀ d ∈ tables_1, d.before a0 Z = true) (ws : List Jvm.Cond) (s_EID_CHARS : Addr) (cl_T : Cell) (z_CS : Int32) (v_FMT : Value) (x_ : Addr) (h0 : Heap) (n0 : Nat) (SB : own_Start Z s_EID_CHARS cl_T z_CS v_FMT) (O0 : Old Z n0 h0) (pr0 : Fld Z h0 x_ "java/lang/String" "coder" "B" (.int (0 : Int32))) :
    oMet l Z yM7 jdk_42_method_152_code 1 (some .byte) ws ({ frames := 0, cells := 0, slots := 0, locals := 0 } : Room) 0 0 #[(.ref x_)] h0 (own_Q_coder Z s_EID_CHARS cl_T z_CS v_FMT x_ h0 n0) := by
  refine oenter own_pn2 #[.val (.ref x_)] (fun m => by first | (simp [entryFrame, mkF, argsToLocals, Value.category]; done) | rfl) ?_
  intro p e s m below meth c s₁ X0 hx hZ hby hml hret hown0 hnm hlk e0
  have hown : s.vm.findClass "java/lang/String" = some m.cls := hown0
  have N0 := Fr.nil n0
  obtain ⟨S_s_EID_CHARS, A_T, L_T, T_T, S_CS, H_CS, S_FMT, R_FMT⟩ := (id SB)
  have w22 := hw _ (List.mem_of_getElem? (i := 22) rfl)
  have w34 := hw _ (List.mem_of_getElem? (i := 34) rfl)
  obtain ⟨T1, X1, e1, st1⟩ := getS2 X0 hx hZ hown (host := "") (Or.inl w22) Via.refl e0 (Sta.ext O0.2 S_CS) (g := (mkF m 0 #[.val (.ref x_)] [])) rfl (hb hby d8_0)
  refine ogo (S' := T1.setTop (mkF m 3 #[.val (.ref x_)] [(.int z_CS)])) st1 ?_
  refine o_ifNo X1 hx (hb hby d8_3) (feq H_CS).1 ?_
  refine o_aloadN X1 hx (hb hby d8_6) rfl rfl ?_
  obtain ⟨T2, X2, e2, st2⟩ := getF X1 hx hZ hown (host := "") (Or.inl w34) Via.refl e1 pr0 (g := (mkF m 7 #[.val (.ref x_)] [(.ref x_)])) rfl rfl (hb hby d8_7)
  refine ogo (S' := T2.setTop (mkF m 10 #[.val (.ref x_)] [(.int (0 : Int32))])) st2 ?_
  refine o_goto X2 hx 14 (hb hby d8_10) (by decide) (by decide) ?_
  refine oend X2 hlk (v := some (.int (0 : Int32))) (fun h => by rw [hret] at h; cases h) (fun fs hr => retN X2 hx (t := .byte) hret (by simp) (hb hby d8_14) hr) (by decide) (by decide) ?_
  show own_Q_coder Z _ _ _ _ _ h0 n0 _ T2.heap _
  rw [e2]
  exact ⟨rfl, N0, rfl⟩
theorem own_pd5 : parseMethodDescriptor "()B" = some ⟨[], some .byte⟩ := by decide +kernel
theorem d9_0 : decode jdk_42_method_54_code 0 = .ok (.aload_n 0, 1) := by decide +kernel
theorem d9_1 : decode jdk_42_method_54_code 1 = .ok (.getfield 9, 3) := by decide +kernel
theorem d9_4 : decode jdk_42_method_54_code 4 = .ok (.arraylength, 1) := by decide +kernel
theorem d9_5 : decode jdk_42_method_54_code 5 = .ok (.aload_n 0, 1) := by decide +kernel
theorem d9_6 : decode jdk_42_method_54_code 6 = .ok (.invokevirtual 335, 3) := by decide +kernel
theorem d9_9 : decode jdk_42_method_54_code 9 = .ok (.ishr, 1) := by decide +kernel
theorem d9_10 : decode jdk_42_method_54_code 10 = .ok (.ireturn, 1) := by decide +kernel
def own_Q_len_1 (Z : State) (s_EID_CHARS : Addr) (cl_T : Cell) (z_CS : Int32) (v_FMT : Value) (x_ : Addr) (ba_ : Addr) (kb_ : ClassId) (vs_ : List Value) (h0 : Heap) (n0 : Nat) (v : Option Value) (h : Heap) (L : List Loc) : Prop := (v = some (.int (1 : Int32))) ∧ (Fr n0 L) ∧ (h = h0)
abbrev yM8 : MethodName := ⟨"java/lang/String", "length", "()I"⟩
set_option maxRecDepth 65536 in
set_option maxHeartbeats 40000000 in
theorem rm_len_1 (l : Launch) (Z : State) (a0 : Array Value) (hw : ∀ d ∈ tables_1, d.before a0 Z = true) (ws : List Jvm.Cond) (s_EID_CHARS : Addr) (cl_T : Cell) (z_CS : Int32) (v_FMT : Value) (x_ : Addr) (ba_ : Addr) (kb_ : ClassId) (vs_ : List Value) (h0 : Heap) (n0 : Nat) (SB : own_Start Z s_EID_CHARS cl_T z_CS v_FMT) (O0 : Old Z n0 h0) (pr0 : Exa Z h0 x_ "java/lang/String") (pr1 : Fld Z h0 x_ "java/lang/String" "coder" "B" (.int (0 : Int32))) (pr2 : Fld Z h0 x_ "java/lang/String" "value" "[B" (.ref ba_)) (pr3 : Arv Z h0 ba_ kb_ .byte (1 : Int32) vs_ (.int 0)) :
    oMet l Z yM8 jdk_42_method_54_code 1 (some .int) ws ({ frames := 1, cells := 0, slots := 0, locals := 13 } : Room) 0 0 #[(.ref x_)] h0 (own_Q_len_1 Z s_EID_CHARS cl_T z_CS v_FMT x_ ba_ kb_ vs_ h0 n0) := by
  refine oenter own_pn2 #[.val (.ref x_)] (fun m => by first | (simp [entryFrame, mkF, argsToLocals, Value.category]; done) | rfl) ?_
  intro p e s m below meth c s₁ X0 hx hZ hby hml hret hown0 hnm hlk e0
  have hown : s.vm.findClass "java/lang/String" = some m.cls := hown0
  have N0 := Fr.nil n0
  obtain ⟨S_s_EID_CHARS, A_T, L_T, T_T, S_CS, H_CS, S_FMT, R_FMT⟩ := (id SB)
  have w10 := hw _ (List.mem_of_getElem? (i := 10) rfl)
  have w36 := hw _ (List.mem_of_getElem? (i := 36) rfl)
  have w57 := hw _ (List.mem_of_getElem? (i := 57) rfl)
  have w58 := hw _ (List.mem_of_getElem? (i := 58) rfl)
  have w59 := hw _ (List.mem_of_getElem? (i := 59) rfl)
  have w60 := hw _ (List.mem_of_getElem? (i := 60) rfl)
  have w61 := hw _ (List.mem_of_getElem? (i := 61) rfl)
  refine o_aloadN X0 hx (hb hby d9_0) rfl rfl ?_
  obtain ⟨T1, X1, e1, st1⟩ := getF X0 hx hZ hown (host := "") (Or.inl w36) Via.refl e0 pr2 (g := (mkF m 1 #[.val (.ref x_)] [(.ref x_)])) rfl rfl (hb hby d9_1)
  refine ogo (S' := T1.setTop (mkF m 4 #[.val (.ref x_)] [(.ref ba_)])) st1 ?_
  obtain ⟨cl2, Ar2, -, S2, N2z, -, -⟩ := (id pr3)
  refine ogo (S' := T1.setTop (mkF m 5 #[.val (.ref x_)] [(.int (1 : Int32))])) (fun _ kt_ => X1.arraylength hx (by rw [e1]; exact Ar2.1) (State.isArrayOf_alike hZ.alike Ar2.2.1) (g := (mkF m 4 #[.val (.ref x_)] [(.ref ba_)])) rfl rfl (hb hby d9_4) _ (by rw [len_of S2 N2z]; exact kt_)) ?_
  refine o_aloadN X1 hx (hb hby d9_5) rfl rfl ?_
  obtain ⟨cq3, kq3, q3a, q3b, q3c⟩ := isOf hZ e1 pr0
  obtain ⟨_, _, ⟨T3, L3, kc3, n3⟩, -, X3, ⟨Lc3, hQ3, l3, y3, z3⟩, st3⟩ := X1.virtualBack hx (y := yM7) (z := yM7) hown (mvT hZ w57) (mvT hZ w58) (notFace_of_selects (args := #[]) (mvT hZ w60)) (mvT hZ w60) (mvT hZ w59) (by decide) (backOf (W := 1) (rm_coder l Z a0 hw [] s_EID_CHARS cl_T z_CS v_FMT x_ h0 n0 SB O0 pr1) hZ w61 w10 (by decide) (by decide)) q3a q3c (g := (mkF m 6 #[.val (.ref x_)] [(.ref x_), (.int (1 : Int32))])) rfl (by rw [hml]; rfl) (Steps.refl _) (argsL := []) (rest := [(.int (1 : Int32))]) (lenOf own_pd5 rfl) rfl (by show 2 * 0 + _ ≤ _; exact Nat.le_of_eq rfl) (hb hby d9_6) (fun _ _ => ⟨rfl, e1, (by decide : 0 + 0 ≤ _), (by decide : 0 + 0 ≤ _)⟩)
  dsimp only [Pt.U, Pt.locs, Pt.cells, Pt.slots] at X3 l3 y3 z3 st3 hQ3
  subst l3 y3 z3
  obtain ⟨rfl, Nq3, e3⟩ := hQ3
  have N3 := Fr.app N0 Nq3
  refine otr (S' := T3.setTop (mkF m 9 #[.val (.ref x_)] [(.int (0 : Int32)), (.int (1 : Int32))])) st3 ?_
  refine o_ishr X3 hx (hb hby d9_9) ?_
  refine oend X3 hlk (v := some (.int (1 : Int32))) (fun h => by rw [hret] at h; cases h) (fun fs hr => retOut X3 hx (t := .int) (i := .ireturn) hret rfl (Or.inl ⟨rfl, Or.inl rfl, _, rfl⟩) (hb hby d9_10) hr) (by decide) (by decide) ?_
  show own_Q_len_1 Z _ _ _ _ _ _ _ _ h0 n0 _ T3.heap _
  rw [e3]
  exact ⟨rfl, N3, rfl⟩
theorem d10_0 : decode jdk_42_method_55_code 0 = .ok (.aload_n 0, 1) := by decide +kernel
theorem d10_1 : decode jdk_42_method_55_code 1 = .ok (.getfield 9, 3) := by decide +kernel
theorem d10_4 : decode jdk_42_method_55_code 4 = .ok (.arraylength, 1) := by decide +kernel
theorem d10_5 : decode jdk_42_method_55_code 5 = .ok (.ifCond .ne 7, 3) := by decide +kernel
theorem d10_12 : decode jdk_42_method_55_code 12 = .ok (.iconst 0, 1) := by decide +kernel
theorem d10_13 : decode jdk_42_method_55_code 13 = .ok (.ireturn, 1) := by decide +kernel
def own_Q_emp_1 (Z : State)  (x_ : Addr) (ba_ : Addr) (kb_ : ClassId) (vs_ : List Value) (h0 : Heap) (n0 : Nat) (v : Option Value) (h : Heap) (L : List Loc) : Prop := (v = some (.int (0 : Int32))) ∧ (Fr n0 L) ∧ (h = h0)
abbrev yM9 : MethodName := ⟨"java/lang/String", "isEmpty", "()Z"⟩
set_option maxRecDepth 65536 in
set_option maxHeartbeats 40000000 in
theorem rm_emp_1 (l : Launch) (Z : State) (a0 : Array Value) (hw : ∀ d ∈ tables_1, d.before a0 Z = true) (ws : List Jvm.Cond)  (x_ : Addr) (ba_ : Addr) (kb_ : ClassId) (vs_ : List Value) (h0 : Heap) (n0 : Nat) (O0 : Old Z n0 h0) (pr0 : Exa Z h0 x_ "java/lang/String") (pr1 : Fld Z h0 x_ "java/lang/String" "coder" "B" (.int (0 : Int32))) (pr2 : Fld Z h0 x_ "java/lang/String" "value" "[B" (.ref ba_)) (pr3 : Arv Z h0 ba_ kb_ .byte (1 : Int32) vs_ (.int 0)) :
    oMet l Z yM9 jdk_42_method_55_code 1 (some .boolean) ws ({ frames := 0, cells := 0, slots := 0, locals := 0 } : Room) 0 0 #[(.ref x_)] h0 (own_Q_emp_1 Z  x_ ba_ kb_ vs_ h0 n0) := by
  refine oenter own_pn2 #[.val (.ref x_)] (fun m => by first | (simp [entryFrame, mkF, argsToLocals, Value.category]; done) | rfl) ?_
  intro p e s m below meth c s₁ X0 hx hZ hby hml hret hown0 hnm hlk e0
  have hown : s.vm.findClass "java/lang/String" = some m.cls := hown0
  have N0 := Fr.nil n0
  have w36 := hw _ (List.mem_of_getElem? (i := 36) rfl)
  refine o_aloadN X0 hx (hb hby d10_0) rfl rfl ?_
  obtain ⟨T1, X1, e1, st1⟩ := getF X0 hx hZ hown (host := "") (Or.inl w36) Via.refl e0 pr2 (g := (mkF m 1 #[.val (.ref x_)] [(.ref x_)])) rfl rfl (hb hby d10_1)
  refine ogo (S' := T1.setTop (mkF m 4 #[.val (.ref x_)] [(.ref ba_)])) st1 ?_
  obtain ⟨cl2, Ar2, -, S2, N2z, -, -⟩ := (id pr3)
  refine ogo (S' := T1.setTop (mkF m 5 #[.val (.ref x_)] [(.int (1 : Int32))])) (fun _ kt_ => X1.arraylength hx (by rw [e1]; exact Ar2.1) (State.isArrayOf_alike hZ.alike Ar2.2.1) (g := (mkF m 4 #[.val (.ref x_)] [(.ref ba_)])) rfl rfl (hb hby d10_4) _ (by rw [len_of S2 N2z]; exact kt_)) ?_
  refine o_ifYes X1 hx 12 (hb hby d10_5) (feq (by decide : ¬ ((1 : Int32) = (0 : Int32)))).2 (by decide) (by decide) ?_
  refine o_iconst X1 hx (0 : Int32) (hb hby d10_12) rfl ?_
  refine oend X1 hlk (v := some (.int (0 : Int32))) (fun h => by rw [hret] at h; cases h) (fun fs hr => retN X1 hx (t := .boolean) hret (by simp) (hb hby d10_13) hr) (by decide) (by decide) ?_
  show own_Q_emp_1 Z _ _ _ _ h0 n0 _ T1.heap _
  rw [e1]
  exact ⟨rfl, N0, rfl⟩
theorem d11_0 : decode jdk_42_method_154_code 0 = .ok (.getstatic 38, 3) := by decide +kernel
theorem d11_3 : decode jdk_42_method_154_code 3 = .ok (.ifCond .eq 14, 3) := by decide +kernel
theorem d11_6 : decode jdk_42_method_154_code 6 = .ok (.aload_n 0, 1) := by decide +kernel
theorem d11_7 : decode jdk_42_method_154_code 7 = .ok (.getfield 15, 3) := by decide +kernel
theorem d11_10 : decode jdk_42_method_154_code 10 = .ok (.ifCond .ne 7, 3) := by decide +kernel
theorem d11_13 : decode jdk_42_method_154_code 13 = .ok (.iconst 1, 1) := by decide +kernel
theorem d11_14 : decode jdk_42_method_154_code 14 = .ok (.goto 4, 3) := by decide +kernel
theorem d11_18 : decode jdk_42_method_154_code 18 = .ok (.ireturn, 1) := by decide +kernel
def own_Q_isl1 (Z : State) (s_EID_CHARS : Addr) (cl_T : Cell) (z_CS : Int32) (v_FMT : Value) (x_ : Addr) (h0 : Heap) (n0 : Nat) (v : Option Value) (h : Heap) (L : List Loc) : Prop := (v = some (.int (1 : Int32))) ∧ (Fr n0 L) ∧ (h = h0)
abbrev yM10 : MethodName := ⟨"java/lang/String", "isLatin1", "()Z"⟩
set_option maxRecDepth 65536 in
set_option maxHeartbeats 40000000 in
theorem rm_isl1 (l : Launch) (Z : State) (a0 : Array Value) (hw : ∀ d ∈ tables_1, d.before a0 Z = true) (ws : List Jvm.Cond) (s_EID_CHARS : Addr) (cl_T : Cell) (z_CS : Int32) (v_FMT : Value) (x_ : Addr) (h0 : Heap) (n0 : Nat) (SB : own_Start Z s_EID_CHARS cl_T z_CS v_FMT) (O0 : Old Z n0 h0) (pr0 : Fld Z h0 x_ "java/lang/String" "coder" "B" (.int (0 : Int32))) :
    oMet l Z yM10 jdk_42_method_154_code 1 (some .boolean) ws ({ frames := 0, cells := 0, slots := 0, locals := 0 } : Room) 0 0 #[(.ref x_)] h0 (own_Q_isl1 Z s_EID_CHARS cl_T z_CS v_FMT x_ h0 n0) := by
  refine oenter own_pn2 #[.val (.ref x_)] (fun m => by first | (simp [entryFrame, mkF, argsToLocals, Value.category]; done) | rfl) ?_
  intro p e s m below meth c s₁ X0 hx hZ hby hml hret hown0 hnm hlk e0
  have hown : s.vm.findClass "java/lang/String" = some m.cls := hown0
  have N0 := Fr.nil n0
  obtain ⟨S_s_EID_CHARS, A_T, L_T, T_T, S_CS, H_CS, S_FMT, R_FMT⟩ := (id SB)
  have w22 := hw _ (List.mem_of_getElem? (i := 22) rfl)
  have w34 := hw _ (List.mem_of_getElem? (i := 34) rfl)
  obtain ⟨T1, X1, e1, st1⟩ := getS2 X0 hx hZ hown (host := "") (Or.inl w22) Via.refl e0 (Sta.ext O0.2 S_CS) (g := (mkF m 0 #[.val (.ref x_)] [])) rfl (hb hby d11_0)
  refine ogo (S' := T1.setTop (mkF m 3 #[.val (.ref x_)] [(.int z_CS)])) st1 ?_
  refine o_ifNo X1 hx (hb hby d11_3) (feq H_CS).1 ?_
  refine o_aloadN X1 hx (hb hby d11_6) rfl rfl ?_
  obtain ⟨T2, X2, e2, st2⟩ := getF X1 hx hZ hown (host := "") (Or.inl w34) Via.refl e1 pr0 (g := (mkF m 7 #[.val (.ref x_)] [(.ref x_)])) rfl rfl (hb hby d11_7)
  refine ogo (S' := T2.setTop (mkF m 10 #[.val (.ref x_)] [(.int (0 : Int32))])) st2 ?_
  refine o_ifNo X2 hx (hb hby d11_10) (teq (by decide : (0 : Int32) = (0 : Int32))).2 ?_
  refine o_iconst X2 hx (1 : Int32) (hb hby d11_13) rfl ?_
  refine o_goto X2 hx 18 (hb hby d11_14) (by decide) (by decide) ?_
  refine oend X2 hlk (v := some (.int (1 : Int32))) (fun h => by rw [hret] at h; cases h) (fun fs hr => retN X2 hx (t := .boolean) hret (by simp) (hb hby d11_18) hr) (by decide) (by decide) ?_
  show own_Q_isl1 Z _ _ _ _ _ h0 n0 _ T2.heap _
  rw [e2]
  exact ⟨rfl, N0, rfl⟩
theorem d12_0 : decode jdk_41_method_11_code 0 = .ok (.iload_n 0, 1) := by decide +kernel
theorem d12_1 : decode jdk_41_method_11_code 1 = .ok (.ifCond .lt 8, 3) := by decide +kernel
theorem d12_4 : decode jdk_41_method_11_code 4 = .ok (.iload_n 0, 1) := by decide +kernel
theorem d12_5 : decode jdk_41_method_11_code 5 = .ok (.iload_n 1, 1) := by decide +kernel
theorem d12_6 : decode jdk_41_method_11_code 6 = .ok (.if_icmp .lt 10, 3) := by decide +kernel
theorem d12_16 : decode jdk_41_method_11_code 16 = .ok (.iload_n 0, 1) := by decide +kernel
theorem d12_17 : decode jdk_41_method_11_code 17 = .ok (.ireturn, 1) := by decide +kernel
theorem own_pn3 : plainName "jdk/internal/util/Preconditions" = true := by first | (simp [plainName, overriddenIn]; done) | decide +kernel
def own_Q_pci (Z : State)  (i_ : Int32) (n_ : Int32) (f_ : Value) (h0 : Heap) (n0 : Nat) (v : Option Value) (h : Heap) (L : List Loc) : Prop := (v = some (.int i_)) ∧ (Fr n0 L) ∧ (h = h0)
abbrev yM11 : MethodName := ⟨"jdk/internal/util/Preconditions", "checkIndex", "(IILjava/util/function/BiFunction;)I"⟩
set_option maxRecDepth 65536 in
set_option maxHeartbeats 40000000 in
theorem rm_pci (l : Launch) (Z : State) (a0 : Array Value) (hw : ∀ d ∈ tables_1, d.before a0 Z = true) (ws : List Jvm.Cond)  (i_ : Int32) (n_ : Int32) (f_ : Value) (h0 : Heap) (n0 : Nat) (O0 : Old Z n0 h0) (pr0 : ¬ (i_ < (0 : Int32))) (pr1 : i_ < n_) (pr2 : f_.isRef = true) (pr3 : f_.category = 1) :
    oMet l Z yM11 jdk_41_method_11_code 3 (some .int) ws ({ frames := 0, cells := 0, slots := 0, locals := 0 } : Room) 0 0 #[(.int i_), (.int n_), f_] h0 (own_Q_pci Z  i_ n_ f_ h0 n0) := by
  refine oenter own_pn3 #[.val (.int i_), .val (.int n_), .val f_] (fun m => by first | (simp [entryFrame, mkF, argsToLocals, Value.category, pr3]; done) | rfl | (cases f_ <;> first | rfl | (cases pr2))) ?_
  intro p e s m below meth c s₁ X0 hx hZ hby hml hret hown0 hnm hlk e0
  have hown : s.vm.findClass "jdk/internal/util/Preconditions" = some m.cls := hown0
  have N0 := Fr.nil n0
  refine o_iloadN X0 hx (hb hby d12_0) rfl ?_
  refine o_ifNo X0 hx (hb hby d12_1) (flt pr0).1 ?_
  refine o_iloadN X0 hx (hb hby d12_4) rfl ?_
  refine o_iloadN X0 hx (hb hby d12_5) rfl ?_
  refine o_icmpYes X0 hx 16 (hb hby d12_6) (tlt pr1).1 (by decide) (by decide) ?_
  refine o_iloadN X0 hx (hb hby d12_16) rfl ?_
  refine oend X0 hlk (v := some (.int i_)) (fun h => by rw [hret] at h; cases h) (fun fs hr => retOut X0 hx (t := .int) (i := .ireturn) hret rfl (Or.inl ⟨rfl, Or.inl rfl, _, rfl⟩) (hb hby d12_17) hr) (by decide) (by decide) ?_
  show own_Q_pci Z _ _ _ h0 n0 _ s₁.heap _
  rw [e0]
  exact ⟨rfl, N0, rfl⟩
theorem own_pd6 : parseMethodDescriptor "(IILjava/util/function/BiFunction;)I" = some ⟨[.int, .int, (.object "java/util/function/BiFunction")], some .int⟩ := by decide +kernel
theorem d13_0 : decode jdk_42_method_155_code 0 = .ok (.iload_n 0, 1) := by decide +kernel
theorem d13_1 : decode jdk_42_method_155_code 1 = .ok (.iload_n 1, 1) := by decide +kernel
theorem d13_2 : decode jdk_42_method_155_code 2 = .ok (.getstatic 1053, 3) := by decide +kernel
theorem d13_5 : decode jdk_42_method_155_code 5 = .ok (.invokestatic 1059, 3) := by decide +kernel
theorem d13_8 : decode jdk_42_method_155_code 8 = .ok (.pop, 1) := by decide +kernel
theorem d13_9 : decode jdk_42_method_155_code 9 = .ok (.return_, 1) := by decide +kernel
def own_Q_sci (Z : State) (s_EID_CHARS : Addr) (cl_T : Cell) (z_CS : Int32) (v_FMT : Value) (i_ : Int32) (n_ : Int32) (h0 : Heap) (n0 : Nat) (v : Option Value) (h : Heap) (L : List Loc) : Prop := (v = none) ∧ (Fr n0 L) ∧ (h = h0)
abbrev yM12 : MethodName := ⟨"java/lang/String", "checkIndex", "(II)V"⟩
set_option maxRecDepth 65536 in
set_option maxHeartbeats 40000000 in
theorem rm_sci (l : Launch) (Z : State) (a0 : Array Value) (hw : ∀ d ∈ tables_1, d.before a0 Z = true) (ws : List Jvm.Cond) (s_EID_CHARS : Addr) (cl_T : Cell) (z_CS : Int32) (v_FMT : Value) (i_ : Int32) (n_ : Int32) (h0 : Heap) (n0 : Nat) (SB : own_Start Z s_EID_CHARS cl_T z_CS v_FMT) (O0 : Old Z n0 h0) (pr0 : ¬ (i_ < (0 : Int32))) (pr1 : i_ < n_) :
    oMet l Z yM12 jdk_42_method_155_code 2 none ws ({ frames := 1, cells := 0, slots := 0, locals := 14 } : Room) 0 0 #[(.int i_), (.int n_)] h0 (own_Q_sci Z s_EID_CHARS cl_T z_CS v_FMT i_ n_ h0 n0) := by
  refine oenter own_pn2 #[.val (.int i_), .val (.int n_)] (fun m => by first | (simp [entryFrame, mkF, argsToLocals, Value.category]; done) | rfl) ?_
  intro p e s m below meth c s₁ X0 hx hZ hby hml hret hown0 hnm hlk e0
  have hown : s.vm.findClass "java/lang/String" = some m.cls := hown0
  have N0 := Fr.nil n0
  obtain ⟨S_s_EID_CHARS, A_T, L_T, T_T, S_CS, H_CS, S_FMT, R_FMT⟩ := (id SB)
  have w79 := hw _ (List.mem_of_getElem? (i := 79) rfl)
  have w80 := hw _ (List.mem_of_getElem? (i := 80) rfl)
  have w81 := hw _ (List.mem_of_getElem? (i := 81) rfl)
  have w82 := hw _ (List.mem_of_getElem? (i := 82) rfl)
  have w83 := hw _ (List.mem_of_getElem? (i := 83) rfl)
  refine o_iloadN X0 hx (hb hby d13_0) rfl ?_
  refine o_iloadN X0 hx (hb hby d13_1) rfl ?_
  obtain ⟨T1, X1, e1, st1⟩ := getS2 X0 hx hZ hown (host := "") (Or.inl w79) Via.refl e0 (Sta.ext O0.2 S_FMT) (g := (mkF m 2 #[.val (.int i_), .val (.int n_)] [(.int n_), (.int i_)])) rfl (hb hby d13_2)
  refine ogo (S' := T1.setTop (mkF m 5 #[.val (.int i_), .val (.int n_)] [v_FMT, (.int n_), (.int i_)])) st1 ?_
  obtain ⟨_, _, ⟨T2, L2, kc2, n2⟩, -, X2, ⟨Lc2, hQ2, l2, y2, z2⟩, st2⟩ := Jvm.LawKit.callS X1 hx (y := yM11) hown (mvT hZ w81) (mvT hZ w82) (mvT hZ w80) (mvT hZ w83) (by decide) (backOf (W := 0) (rm_pci l Z a0 hw []  i_ n_ v_FMT h0 n0 O0 pr0 pr1 R_FMT (own_cat R_FMT)) hZ w83 w80 (by decide) (by decide)) (g := (mkF m 5 #[.val (.int i_), .val (.int n_)] [v_FMT, (.int n_), (.int i_)])) rfl (by rw [hml]; rfl) (argsL := [(.int i_), (.int n_), v_FMT]) (rest := []) (lenOf own_pd6 rfl) rfl (by show 2 * 0 + _ ≤ _; exact Nat.le_of_eq rfl) (hb hby d13_5) (fun _ _ => ⟨rfl, e1, (by decide : 0 + 0 ≤ _), (by decide : 0 + 0 ≤ _)⟩)
  dsimp only [Pt.U, Pt.locs, Pt.cells, Pt.slots] at X2 l2 y2 z2 st2 hQ2
  subst l2 y2 z2
  obtain ⟨rfl, Nq2, e2⟩ := hQ2
  have N2 := Fr.app N0 Nq2
  refine ogo (S' := T2.setTop (mkF m 8 #[.val (.int i_), .val (.int n_)] [(.int i_)])) st2 ?_
  refine o_pop X2 hx (hb hby d13_8) rfl ?_
  refine oend X2 hlk (v := none) (fun _ => rfl) (fun fs hr => X2.returnOut hx hret (hb hby d13_9) hr) (by decide) (by decide) ?_
  show own_Q_sci Z _ _ _ _ _ _ h0 n0 _ T2.heap _
  rw [e2]
  exact ⟨rfl, N2, rfl⟩
theorem own_pd7 : parseMethodDescriptor "(II)V" = some ⟨[.int, .int], none⟩ := by decide +kernel
theorem d14_0 : decode jdk_43_method_2_code 0 = .ok (.iload_n 1, 1) := by decide +kernel
theorem d14_1 : decode jdk_43_method_2_code 1 = .ok (.aload_n 0, 1) := by decide +kernel
theorem d14_2 : decode jdk_43_method_2_code 2 = .ok (.arraylength, 1) := by decide +kernel
theorem d14_3 : decode jdk_43_method_2_code 3 = .ok (.invokestatic 9, 3) := by decide +kernel
theorem d14_6 : decode jdk_43_method_2_code 6 = .ok (.aload_n 0, 1) := by decide +kernel
theorem d14_7 : decode jdk_43_method_2_code 7 = .ok (.iload_n 1, 1) := by decide +kernel
theorem d14_8 : decode jdk_43_method_2_code 8 = .ok (.baload, 1) := by decide +kernel
theorem d14_9 : decode jdk_43_method_2_code 9 = .ok (.sipush 255, 3) := by decide +kernel
theorem d14_12 : decode jdk_43_method_2_code 12 = .ok (.iand, 1) := by decide +kernel
theorem d14_13 : decode jdk_43_method_2_code 13 = .ok (.i2c, 1) := by decide +kernel
theorem d14_14 : decode jdk_43_method_2_code 14 = .ok (.ireturn, 1) := by decide +kernel
theorem own_pn4 : plainName "java/lang/StringLatin1" = true := by first | (simp [plainName, overriddenIn]; done) | decide +kernel
def own_Q_l1c_1_0 (Z : State) (s_EID_CHARS : Addr) (cl_T : Cell) (z_CS : Int32) (v_FMT : Value) (ba_ : Addr) (kb_ : ClassId) (c0_ : Int32) (h0 : Heap) (n0 : Nat) (v : Option Value) (h : Heap) (L : List Loc) : Prop := (v = some (.int c0_)) ∧ (Fr n0 L) ∧ (h = h0)
abbrev yM13 : MethodName := ⟨"java/lang/StringLatin1", "charAt", "([BI)C"⟩
set_option maxRecDepth 65536 in
set_option maxHeartbeats 40000000 in
theorem rm_l1c_1_0 (l : Launch) (Z : State) (a0 : Array Value) (hw : ∀ d ∈ tables_1, d.before a0 Z = true) (ws : List Jvm.Cond) (s_EID_CHARS : Addr) (cl_T : Cell) (z_CS : Int32) (v_FMT : Value) (ba_ : Addr) (kb_ : ClassId) (c0_ : Int32) (h0 : Heap) (n0 : Nat) (SB : own_Start Z s_EID_CHARS cl_T z_CS v_FMT) (O0 : Old Z n0 h0) (pr0 : Arv Z h0 ba_ kb_ .byte (1 : Int32) [(.int c0_.toInt8.toInt32)] (.int 0)) (pr1 : ¬ (c0_ < (0 : Int32))) (pr2 : ¬ ((255 : Int32) < c0_)) :
    oMet l Z yM13 jdk_43_method_2_code 2 (some .char) ws ({ frames := 2, cells := 0, slots := 0, locals := 27 } : Room) 0 0 #[(.ref ba_), (.int (0 : Int32))] h0 (own_Q_l1c_1_0 Z s_EID_CHARS cl_T z_CS v_FMT ba_ kb_ c0_ h0 n0) := by
  refine oenter own_pn4 #[.val (.ref ba_), .val (.int (0 : Int32))] (fun m => by first | (simp [entryFrame, mkF, argsToLocals, Value.category]; done) | rfl) ?_
  intro p e s m below meth c s₁ X0 hx hZ hby hml hret hown0 hnm hlk e0
  have hown : s.vm.findClass "java/lang/StringLatin1" = some m.cls := hown0
  have N0 := Fr.nil n0
  obtain ⟨S_s_EID_CHARS, A_T, L_T, T_T, S_CS, H_CS, S_FMT, R_FMT⟩ := (id SB)
  have w10 := hw _ (List.mem_of_getElem? (i := 10) rfl)
  have w76 := hw _ (List.mem_of_getElem? (i := 76) rfl)
  have w77 := hw _ (List.mem_of_getElem? (i := 77) rfl)
  have w78 := hw _ (List.mem_of_getElem? (i := 78) rfl)
  refine o_iloadN X0 hx (hb hby d14_0) rfl ?_
  refine o_aloadN X0 hx (hb hby d14_1) rfl rfl ?_
  obtain ⟨cl1, Ar1, -, S1, N1z, -, -⟩ := (id pr0)
  refine ogo (S' := s₁.setTop (mkF m 3 #[.val (.ref ba_), .val (.int (0 : Int32))] [(.int (1 : Int32)), (.int (0 : Int32))])) (fun _ kt_ => X0.arraylength hx (by rw [e0]; exact Ar1.1) (State.isArrayOf_alike hZ.alike Ar1.2.1) (g := (mkF m 2 #[.val (.ref ba_), .val (.int (0 : Int32))] [(.ref ba_), (.int (0 : Int32))])) rfl rfl (hb hby d14_2) _ (by rw [len_of S1 N1z]; exact kt_)) ?_
  obtain ⟨_, _, ⟨T2, L2, kc2, n2⟩, -, X2, ⟨Lc2, hQ2, l2, y2, z2⟩, st2⟩ := Jvm.LawKit.callS X0 hx (y := yM12) hown (mvT hZ w76) (mvT hZ w77) (mvT hZ w10) (mvT hZ w78) (by decide) (backOf (W := 0) (rm_sci l Z a0 hw [] s_EID_CHARS cl_T z_CS v_FMT (0 : Int32) (1 : Int32) h0 n0 SB O0 (by decide) (by decide)) hZ w78 w10 (by decide) (by decide)) (g := (mkF m 3 #[.val (.ref ba_), .val (.int (0 : Int32))] [(.int (1 : Int32)), (.int (0 : Int32))])) rfl (by rw [hml]; rfl) (argsL := [(.int (0 : Int32)), (.int (1 : Int32))]) (rest := []) (lenOf own_pd7 rfl) rfl (by show 2 * 0 + _ ≤ _; exact Nat.le_of_eq rfl) (hb hby d14_3) (fun _ _ => ⟨rfl, e0, (by decide : 0 + 0 ≤ _), (by decide : 0 + 0 ≤ _)⟩)
  dsimp only [Pt.U, Pt.locs, Pt.cells, Pt.slots] at X2 l2 y2 z2 st2 hQ2
  subst l2 y2 z2
  obtain ⟨rfl, Nq2, e2⟩ := hQ2
  have N2 := Fr.app N0 Nq2
  refine ogo (S' := T2.setTop (mkF m 6 #[.val (.ref ba_), .val (.int (0 : Int32))] [])) st2 ?_
  refine o_aloadN X2 hx (hb hby d14_6) rfl rfl ?_
  refine o_iloadN X2 hx (hb hby d14_7) rfl ?_
  obtain ⟨cl3, Ar3, q3, S3, N3z, H3, G3⟩ := (id pr0)
  have hi3 := inb_of (j := (0 : Int32)) S3 ⟨by decide, by decide⟩
  have ha3 := Has.at (v := (.int c0_.toInt8.toInt32)) H3 hi3 rfl
  refine ogo (S' := T2.setTop (mkF m 9 #[.val (.ref ba_), .val (.int (0 : Int32))] [(.int c0_.toInt8.toInt32)])) (X2.baloadBytes hx (j := (0 : Int32)) (v := (.int c0_.toInt8.toInt32)) (by rw [e2]; exact Ar3.1) (State.isArrayOf_alike hZ.alike Ar3.2.1) Ar3.2.2 hi3 ha3 (g := (mkF m 8 #[.val (.ref ba_), .val (.int (0 : Int32))] [(.int (0 : Int32)), (.ref ba_)])) rfl rfl (hb hby d14_8)) ?_
  refine o_sipush X2 hx (255 : Int32) (hb hby d14_9) rfl ?_
  refine o_iand X2 hx (hb hby d14_12) ?_
  refine o_i2c X2 hx (hb hby d14_13) ?_
  rw [own_char pr1 pr2]
  refine oend X2 hlk (v := some (.int c0_)) (fun h => by rw [hret] at h; cases h) (fun fs hr => retN X2 hx (t := .char) hret (by simp) (hb hby d14_14) (by rw [(own_narsm pr1 pr2)]; exact hr)) (by decide) (by decide) ?_
  show own_Q_l1c_1_0 Z _ _ _ _ _ _ _ h0 n0 _ T2.heap _
  rw [e2]
  exact ⟨rfl, N2, rfl⟩
theorem own_pd8 : parseMethodDescriptor "()Z" = some ⟨[], some .boolean⟩ := by decide +kernel
theorem own_pd9 : parseMethodDescriptor "([BI)C" = some ⟨[(.array .byte), .int], some .char⟩ := by decide +kernel
theorem d15_0 : decode jdk_42_method_56_code 0 = .ok (.aload_n 0, 1) := by decide +kernel
theorem d15_1 : decode jdk_42_method_56_code 1 = .ok (.invokevirtual 492, 3) := by decide +kernel
theorem d15_4 : decode jdk_42_method_56_code 4 = .ok (.ifCond .eq 12, 3) := by decide +kernel
theorem d15_7 : decode jdk_42_method_56_code 7 = .ok (.aload_n 0, 1) := by decide +kernel
theorem d15_8 : decode jdk_42_method_56_code 8 = .ok (.getfield 9, 3) := by decide +kernel
theorem d15_11 : decode jdk_42_method_56_code 11 = .ok (.iload_n 1, 1) := by decide +kernel
theorem d15_12 : decode jdk_42_method_56_code 12 = .ok (.invokestatic 495, 3) := by decide +kernel
theorem d15_15 : decode jdk_42_method_56_code 15 = .ok (.ireturn, 1) := by decide +kernel
def own_Q_cat_1_0 (Z : State) (s_EID_CHARS : Addr) (cl_T : Cell) (z_CS : Int32) (v_FMT : Value) (x_ : Addr) (ba_ : Addr) (kb_ : ClassId) (c0_ : Int32) (h0 : Heap) (n0 : Nat) (v : Option Value) (h : Heap) (L : List Loc) : Prop := (v = some (.int c0_)) ∧ (Fr n0 L) ∧ (h = h0)
abbrev yM14 : MethodName := ⟨"java/lang/String", "charAt", "(I)C"⟩
set_option maxRecDepth 65536 in
set_option maxHeartbeats 40000000 in
theorem rm_cat_1_0 (l : Launch) (Z : State) (a0 : Array Value) (hw : ∀ d ∈ tables_1, d.before a0 Z = true) (ws : List Jvm.Cond) (s_EID_CHARS : Addr) (cl_T : Cell) (z_CS : Int32) (v_FMT : Value) (x_ : Addr) (ba_ : Addr) (kb_ : ClassId) (c0_ : Int32) (h0 : Heap) (n0 : Nat) (SB : own_Start Z s_EID_CHARS cl_T z_CS v_FMT) (O0 : Old Z n0 h0) (pr0 : Exa Z h0 x_ "java/lang/String") (pr1 : Fld Z h0 x_ "java/lang/String" "coder" "B" (.int (0 : Int32))) (pr2 : Fld Z h0 x_ "java/lang/String" "value" "[B" (.ref ba_)) (pr3 : Arv Z h0 ba_ kb_ .byte (1 : Int32) [(.int c0_.toInt8.toInt32)] (.int 0)) (pr4 : ¬ (c0_ < (0 : Int32))) (pr5 : ¬ ((255 : Int32) < c0_)) :
    oMet l Z yM14 jdk_42_method_56_code 2 (some .char) ws ({ frames := 3, cells := 0, slots := 0, locals := 40 } : Room) 0 0 #[(.ref x_), (.int (0 : Int32))] h0 (own_Q_cat_1_0 Z s_EID_CHARS cl_T z_CS v_FMT x_ ba_ kb_ c0_ h0 n0) := by
  refine oenter own_pn2 #[.val (.ref x_), .val (.int (0 : Int32))] (fun m => by first | (simp [entryFrame, mkF, argsToLocals, Value.category]; done) | rfl) ?_
  intro p e s m below meth c s₁ X0 hx hZ hby hml hret hown0 hnm hlk e0
  have hown : s.vm.findClass "java/lang/String" = some m.cls := hown0
  have N0 := Fr.nil n0
  obtain ⟨S_s_EID_CHARS, A_T, L_T, T_T, S_CS, H_CS, S_FMT, R_FMT⟩ := (id SB)
  have w10 := hw _ (List.mem_of_getElem? (i := 10) rfl)
  have w36 := hw _ (List.mem_of_getElem? (i := 36) rfl)
  have w67 := hw _ (List.mem_of_getElem? (i := 67) rfl)
  have w68 := hw _ (List.mem_of_getElem? (i := 68) rfl)
  have w69 := hw _ (List.mem_of_getElem? (i := 69) rfl)
  have w70 := hw _ (List.mem_of_getElem? (i := 70) rfl)
  have w71 := hw _ (List.mem_of_getElem? (i := 71) rfl)
  have w72 := hw _ (List.mem_of_getElem? (i := 72) rfl)
  have w73 := hw _ (List.mem_of_getElem? (i := 73) rfl)
  have w74 := hw _ (List.mem_of_getElem? (i := 74) rfl)
  have w75 := hw _ (List.mem_of_getElem? (i := 75) rfl)
  refine o_aloadN X0 hx (hb hby d15_0) rfl rfl ?_
  obtain ⟨cq1, kq1, q1a, q1b, q1c⟩ := isOf hZ e0 pr0
  obtain ⟨_, _, ⟨T1, L1, kc1, n1⟩, -, X1, ⟨Lc1, hQ1, l1, y1, z1⟩, st1⟩ := X0.virtualBack hx (y := yM10) (z := yM10) hown (mvT hZ w67) (mvT hZ w68) (notFace_of_selects (args := #[]) (mvT hZ w70)) (mvT hZ w70) (mvT hZ w69) (by decide) (backOf (W := 0) (rm_isl1 l Z a0 hw [] s_EID_CHARS cl_T z_CS v_FMT x_ h0 n0 SB O0 pr1) hZ w71 w10 (by decide) (by decide)) q1a q1c (g := (mkF m 1 #[.val (.ref x_), .val (.int (0 : Int32))] [(.ref x_)])) rfl (by rw [hml]; rfl) (Steps.refl _) (argsL := []) (rest := []) (lenOf own_pd8 rfl) rfl (by show 2 * 0 + _ ≤ _; exact Nat.le_of_eq rfl) (hb hby d15_1) (fun _ _ => ⟨rfl, e0, (by decide : 0 + 0 ≤ _), (by decide : 0 + 0 ≤ _)⟩)
  dsimp only [Pt.U, Pt.locs, Pt.cells, Pt.slots] at X1 l1 y1 z1 st1 hQ1
  subst l1 y1 z1
  obtain ⟨rfl, Nq1, e1⟩ := hQ1
  have N1 := Fr.app N0 Nq1
  refine otr (S' := T1.setTop (mkF m 4 #[.val (.ref x_), .val (.int (0 : Int32))] [(.int (1 : Int32))])) st1 ?_
  refine o_ifNo X1 hx (hb hby d15_4) (feq (by decide : ¬ ((1 : Int32) = (0 : Int32)))).1 ?_
  refine o_aloadN X1 hx (hb hby d15_7) rfl rfl ?_
  obtain ⟨T2, X2, e2, st2⟩ := getF X1 hx hZ hown (host := "") (Or.inl w36) Via.refl e1 pr2 (g := (mkF m 8 #[.val (.ref x_), .val (.int (0 : Int32))] [(.ref x_)])) rfl rfl (hb hby d15_8)
  refine ogo (S' := T2.setTop (mkF m 11 #[.val (.ref x_), .val (.int (0 : Int32))] [(.ref ba_)])) st2 ?_
  refine o_iloadN X2 hx (hb hby d15_11) rfl ?_
  obtain ⟨_, _, ⟨T3, L3, kc3, n3⟩, -, X3, ⟨Lc3, hQ3, l3, y3, z3⟩, st3⟩ := Jvm.LawKit.callS X2 hx (y := yM13) hown (mvT hZ w72) (mvT hZ w73) (mvT hZ w74) (mvT hZ w75) (by decide) (backOf (W := 0) (rm_l1c_1_0 l Z a0 hw [] s_EID_CHARS cl_T z_CS v_FMT ba_ kb_ c0_ h0 n0 SB O0 pr3 pr4 pr5) hZ w75 w74 (by decide) (by decide)) (g := (mkF m 12 #[.val (.ref x_), .val (.int (0 : Int32))] [(.int (0 : Int32)), (.ref ba_)])) rfl (by rw [hml]; rfl) (argsL := [(.ref ba_), (.int (0 : Int32))]) (rest := []) (lenOf own_pd9 rfl) rfl (by show 2 * 0 + _ ≤ _; exact Nat.le_of_eq rfl) (hb hby d15_12) (fun _ _ => ⟨rfl, e2, (by decide : 0 + 0 ≤ _), (by decide : 0 + 0 ≤ _)⟩)
  dsimp only [Pt.U, Pt.locs, Pt.cells, Pt.slots] at X3 l3 y3 z3 st3 hQ3
  subst l3 y3 z3
  obtain ⟨rfl, Nq3, e3⟩ := hQ3
  have N3 := Fr.app N1 Nq3
  refine ogo (S' := T3.setTop (mkF m 15 #[.val (.ref x_), .val (.int (0 : Int32))] [(.int c0_)])) st3 ?_
  refine oend X3 hlk (v := some (.int c0_)) (fun h => by rw [hret] at h; cases h) (fun fs hr => retN X3 hx (t := .char) hret (by simp) (hb hby d15_15) (by rw [(own_narsm pr4 pr5)]; exact hr)) (by decide) (by decide) ?_
  show own_Q_cat_1_0 Z _ _ _ _ _ _ _ _ h0 n0 _ T3.heap _
  rw [e3]
  exact ⟨rfl, N3, rfl⟩
theorem own_pd10 : parseMethodDescriptor "()I" = some ⟨[], some .int⟩ := by decide +kernel
theorem own_pd11 : parseMethodDescriptor "(I)C" = some ⟨[.int], some .char⟩ := by decide +kernel
theorem d16_0 : decode prog_7_method_6_code 0 = .ok (.aload_n 0, 1) := by decide +kernel
theorem d16_1 : decode prog_7_method_6_code 1 = .ok (.ifnull 18, 3) := by decide +kernel
theorem d16_4 : decode prog_7_method_6_code 4 = .ok (.aload_n 0, 1) := by decide +kernel
theorem d16_5 : decode prog_7_method_6_code 5 = .ok (.invokevirtual 52, 3) := by decide +kernel
theorem d16_8 : decode prog_7_method_6_code 8 = .ok (.ifCond .ne 11, 3) := by decide +kernel
theorem d16_11 : decode prog_7_method_6_code 11 = .ok (.aload_n 0, 1) := by decide +kernel
theorem d16_12 : decode prog_7_method_6_code 12 = .ok (.invokevirtual 58, 3) := by decide +kernel
theorem d16_15 : decode prog_7_method_6_code 15 = .ok (.iload_n 1, 1) := by decide +kernel
theorem d16_16 : decode prog_7_method_6_code 16 = .ok (.if_icmp .le 5, 3) := by decide +kernel
theorem d16_21 : decode prog_7_method_6_code 21 = .ok (.iconst 0, 1) := by decide +kernel
theorem d16_22 : decode prog_7_method_6_code 22 = .ok (.istore_n 3, 1) := by decide +kernel
theorem d16_23 : decode prog_7_method_6_code 23 = .ok (.iload_n 3, 1) := by decide +kernel
theorem d16_24 : decode prog_7_method_6_code 24 = .ok (.aload_n 0, 1) := by decide +kernel
theorem d16_25 : decode prog_7_method_6_code 25 = .ok (.invokevirtual 58, 3) := by decide +kernel
theorem d16_28 : decode prog_7_method_6_code 28 = .ok (.if_icmp .ge 32, 3) := by decide +kernel
theorem d16_31 : decode prog_7_method_6_code 31 = .ok (.aload_n 0, 1) := by decide +kernel
theorem d16_32 : decode prog_7_method_6_code 32 = .ok (.iload_n 3, 1) := by decide +kernel
theorem d16_33 : decode prog_7_method_6_code 33 = .ok (.invokevirtual 62, 3) := by decide +kernel
theorem d16_36 : decode prog_7_method_6_code 36 = .ok (.istore 4, 2) := by decide +kernel
theorem d16_38 : decode prog_7_method_6_code 38 = .ok (.iload 4, 2) := by decide +kernel
theorem d16_40 : decode prog_7_method_6_code 40 = .ok (.aload_n 2, 1) := by decide +kernel
theorem d16_41 : decode prog_7_method_6_code 41 = .ok (.arraylength, 1) := by decide +kernel
theorem d16_42 : decode prog_7_method_6_code 42 = .ok (.if_icmp .ge 10, 3) := by decide +kernel
theorem d16_45 : decode prog_7_method_6_code 45 = .ok (.aload_n 2, 1) := by decide +kernel
theorem d16_46 : decode prog_7_method_6_code 46 = .ok (.iload 4, 2) := by decide +kernel
theorem d16_48 : decode prog_7_method_6_code 48 = .ok (.baload, 1) := by decide +kernel
theorem d16_49 : decode prog_7_method_6_code 49 = .ok (.ifCond .ne 5, 3) := by decide +kernel
theorem d16_54 : decode prog_7_method_6_code 54 = .ok (.iinc 3 1, 3) := by decide +kernel
theorem d16_57 : decode prog_7_method_6_code 57 = .ok (.goto (-34), 3) := by decide +kernel
theorem d16_60 : decode prog_7_method_6_code 60 = .ok (.iconst 1, 1) := by decide +kernel
theorem d16_61 : decode prog_7_method_6_code 61 = .ok (.ireturn, 1) := by decide +kernel
theorem own_pn5 : plainName "com/example/atomic_tally/atomictally/model/Names" = true := by first | (simp [plainName, overriddenIn]; done) | decide +kernel
def own_Q_spelled_1 (Z : State) (s_EID_CHARS : Addr) (cl_T : Cell) (z_CS : Int32) (v_FMT : Value) (x_ : Addr) (ba_ : Addr) (kb_ : ClassId) (c0_ : Int32) (h0 : Heap) (n0 : Nat) (v : Option Value) (h : Heap) (L : List Loc) : Prop := (v = some (.int (1 : Int32))) ∧ (Fr n0 L) ∧ (h = h0)
abbrev yM15 : MethodName := ⟨"com/example/atomic_tally/atomictally/model/Names", "isSpelledFrom", "(Ljava/lang/String;I[Z)Z"⟩
set_option maxRecDepth 65536 in
set_option maxHeartbeats 40000000 in
theorem rm_spelled_1 (l : Launch) (Z : State) (a0 : Array Value) (hw : ∀ d ∈ tables_1, d.before a0 Z = true) (ws : List Jvm.Cond) (s_EID_CHARS : Addr) (cl_T : Cell) (z_CS : Int32) (v_FMT : Value) (x_ : Addr) (ba_ : Addr) (kb_ : ClassId) (c0_ : Int32) (h0 : Heap) (n0 : Nat) (SB : own_Start Z s_EID_CHARS cl_T z_CS v_FMT) (O0 : Old Z n0 h0) (pr0 : Exa Z h0 x_ "java/lang/String") (pr1 : Fld Z h0 x_ "java/lang/String" "coder" "B" (.int (0 : Int32))) (pr2 : Fld Z h0 x_ "java/lang/String" "value" "[B" (.ref ba_)) (pr3 : Arv Z h0 ba_ kb_ .byte (1 : Int32) [(.int c0_.toInt8.toInt32)] (.int 0)) (pr4 : own_ok c0_) (pr5 : ¬ (c0_ < (0 : Int32))) (pr6 : ¬ ((255 : Int32) < c0_)) :
    oMet l Z yM15 prog_7_method_6_code 5 (some .boolean) ws ({ frames := 4, cells := 0, slots := 0, locals := 53 } : Room) 0 0 #[(.ref x_), (.int (128 : Int32)), (.ref s_EID_CHARS)] h0 (own_Q_spelled_1 Z s_EID_CHARS cl_T z_CS v_FMT x_ ba_ kb_ c0_ h0 n0) := by
  refine oenter own_pn5 #[.val (.ref x_), .val (.int (128 : Int32)), .val (.ref s_EID_CHARS), .unset, .unset] (fun m => by first | (simp [entryFrame, mkF, argsToLocals, Value.category]; done) | rfl) ?_
  intro p e s m below meth c s₁ X0 hx hZ hby hml hret hown0 hnm hlk e0
  have hown : s.vm.findClass "com/example/atomic_tally/atomictally/model/Names" = some m.cls := hown0
  have N0 := Fr.nil n0
  obtain ⟨S_s_EID_CHARS, A_T, L_T, T_T, S_CS, H_CS, S_FMT, R_FMT⟩ := (id SB)
  have w10 := hw _ (List.mem_of_getElem? (i := 10) rfl)
  have w47 := hw _ (List.mem_of_getElem? (i := 47) rfl)
  have w48 := hw _ (List.mem_of_getElem? (i := 48) rfl)
  have w49 := hw _ (List.mem_of_getElem? (i := 49) rfl)
  have w50 := hw _ (List.mem_of_getElem? (i := 50) rfl)
  have w51 := hw _ (List.mem_of_getElem? (i := 51) rfl)
  have w52 := hw _ (List.mem_of_getElem? (i := 52) rfl)
  have w53 := hw _ (List.mem_of_getElem? (i := 53) rfl)
  have w54 := hw _ (List.mem_of_getElem? (i := 54) rfl)
  have w55 := hw _ (List.mem_of_getElem? (i := 55) rfl)
  have w56 := hw _ (List.mem_of_getElem? (i := 56) rfl)
  have w62 := hw _ (List.mem_of_getElem? (i := 62) rfl)
  have w63 := hw _ (List.mem_of_getElem? (i := 63) rfl)
  have w64 := hw _ (List.mem_of_getElem? (i := 64) rfl)
  have w65 := hw _ (List.mem_of_getElem? (i := 65) rfl)
  have w66 := hw _ (List.mem_of_getElem? (i := 66) rfl)
  refine o_aloadN X0 hx (hb hby d16_0) rfl rfl ?_
  refine o_ifnullNo X0 hx (hb hby d16_1) ?_
  refine o_aloadN X0 hx (hb hby d16_4) rfl rfl ?_
  obtain ⟨cq1, kq1, q1a, q1b, q1c⟩ := isOf hZ e0 pr0
  obtain ⟨_, _, ⟨T1, L1, kc1, n1⟩, -, X1, ⟨Lc1, hQ1, l1, y1, z1⟩, st1⟩ := X0.virtualBack hx (y := yM9) (z := yM9) hown (mvT hZ w47) (mvT hZ w48) (notFace_of_selects (args := #[]) (mvT hZ w50)) (mvT hZ w50) (mvT hZ w49) (by decide) (backOf (W := 0) (rm_emp_1 l Z a0 hw []  x_ ba_ kb_ [(.int c0_.toInt8.toInt32)] h0 n0 O0 pr0 pr1 pr2 pr3) hZ w51 w10 (by decide) (by decide)) q1a q1c (g := (mkF m 5 #[.val (.ref x_), .val (.int (128 : Int32)), .val (.ref s_EID_CHARS), .unset, .unset] [(.ref x_)])) rfl (by rw [hml]; rfl) (Steps.refl _) (argsL := []) (rest := []) (lenOf own_pd8 rfl) rfl (by show 2 * 0 + _ ≤ _; exact Nat.le_of_eq rfl) (hb hby d16_5) (fun _ _ => ⟨rfl, e0, (by decide : 0 + 0 ≤ _), (by decide : 0 + 0 ≤ _)⟩)
  dsimp only [Pt.U, Pt.locs, Pt.cells, Pt.slots] at X1 l1 y1 z1 st1 hQ1
  subst l1 y1 z1
  obtain ⟨rfl, Nq1, e1⟩ := hQ1
  have N1 := Fr.app N0 Nq1
  refine otr (S' := T1.setTop (mkF m 8 #[.val (.ref x_), .val (.int (128 : Int32)), .val (.ref s_EID_CHARS), .unset, .unset] [(.int (0 : Int32))])) st1 ?_
  refine o_ifNo X1 hx (hb hby d16_8) (teq (by decide : (0 : Int32) = (0 : Int32))).2 ?_
  refine o_aloadN X1 hx (hb hby d16_11) rfl rfl ?_
  obtain ⟨cq2, kq2, q2a, q2b, q2c⟩ := isOf hZ e1 pr0
  obtain ⟨_, _, ⟨T2, L2, kc2, n2⟩, -, X2, ⟨Lc2, hQ2, l2, y2, z2⟩, st2⟩ := X1.virtualBack hx (y := yM8) (z := yM8) hown (mvT hZ w52) (mvT hZ w53) (notFace_of_selects (args := #[]) (mvT hZ w55)) (mvT hZ w55) (mvT hZ w54) (by decide) (backOf (W := 0) (rm_len_1 l Z a0 hw [] s_EID_CHARS cl_T z_CS v_FMT x_ ba_ kb_ [(.int c0_.toInt8.toInt32)] h0 n0 SB O0 pr0 pr1 pr2 pr3) hZ w56 w10 (by decide) (by decide)) q2a q2c (g := (mkF m 12 #[.val (.ref x_), .val (.int (128 : Int32)), .val (.ref s_EID_CHARS), .unset, .unset] [(.ref x_)])) rfl (by rw [hml]; rfl) (Steps.refl _) (argsL := []) (rest := []) (lenOf own_pd10 rfl) rfl (by show 2 * 0 + _ ≤ _; exact Nat.le_of_eq rfl) (hb hby d16_12) (fun _ _ => ⟨rfl, e1, (by decide : 0 + 0 ≤ _), (by decide : 0 + 0 ≤ _)⟩)
  dsimp only [Pt.U, Pt.locs, Pt.cells, Pt.slots] at X2 l2 y2 z2 st2 hQ2
  subst l2 y2 z2
  obtain ⟨rfl, Nq2, e2⟩ := hQ2
  have N2 := Fr.app N1 Nq2
  refine otr (S' := T2.setTop (mkF m 15 #[.val (.ref x_), .val (.int (128 : Int32)), .val (.ref s_EID_CHARS), .unset, .unset] [(.int (1 : Int32))])) st2 ?_
  refine o_iloadN X2 hx (hb hby d16_15) rfl ?_
  refine o_icmpYes X2 hx 21 (hb hby d16_16) (flt (by decide : ¬ ((128 : Int32) < (1 : Int32)))).2.2.2 (by decide) (by decide) ?_
  refine o_iconst X2 hx (0 : Int32) (hb hby d16_21) rfl ?_
  refine o_istoreN X2 hx (l' := #[.val (.ref x_), .val (.int (128 : Int32)), .val (.ref s_EID_CHARS), .val (.int (0 : Int32)), .unset]) (hb hby d16_22) rfl ?_
  refine o_iloadN X2 hx (hb hby d16_23) rfl ?_
  refine o_aloadN X2 hx (hb hby d16_24) rfl rfl ?_
  obtain ⟨cq3, kq3, q3a, q3b, q3c⟩ := isOf hZ e2 pr0
  obtain ⟨_, _, ⟨T3, L3, kc3, n3⟩, -, X3, ⟨Lc3, hQ3, l3, y3, z3⟩, st3⟩ := X2.virtualBack hx (y := yM8) (z := yM8) hown (mvT hZ w52) (mvT hZ w53) (notFace_of_selects (args := #[]) (mvT hZ w55)) (mvT hZ w55) (mvT hZ w54) (by decide) (backOf (W := 1) (rm_len_1 l Z a0 hw [] s_EID_CHARS cl_T z_CS v_FMT x_ ba_ kb_ [(.int c0_.toInt8.toInt32)] h0 n0 SB O0 pr0 pr1 pr2 pr3) hZ w56 w10 (by decide) (by decide)) q3a q3c (g := (mkF m 25 #[.val (.ref x_), .val (.int (128 : Int32)), .val (.ref s_EID_CHARS), .val (.int (0 : Int32)), .unset] [(.ref x_), (.int (0 : Int32))])) rfl (by rw [hml]; rfl) (Steps.refl _) (argsL := []) (rest := [(.int (0 : Int32))]) (lenOf own_pd10 rfl) rfl (by show 2 * 0 + _ ≤ _; exact Nat.le_of_eq rfl) (hb hby d16_25) (fun _ _ => ⟨rfl, e2, (by decide : 0 + 0 ≤ _), (by decide : 0 + 0 ≤ _)⟩)
  dsimp only [Pt.U, Pt.locs, Pt.cells, Pt.slots] at X3 l3 y3 z3 st3 hQ3
  subst l3 y3 z3
  obtain ⟨rfl, Nq3, e3⟩ := hQ3
  have N3 := Fr.app N2 Nq3
  refine otr (S' := T3.setTop (mkF m 28 #[.val (.ref x_), .val (.int (128 : Int32)), .val (.ref s_EID_CHARS), .val (.int (0 : Int32)), .unset] [(.int (1 : Int32)), (.int (0 : Int32))])) st3 ?_
  refine o_icmpNo X3 hx (hb hby d16_28) (tlt (by decide : (0 : Int32) < (1 : Int32))).2.1 ?_
  refine o_aloadN X3 hx (hb hby d16_31) rfl rfl ?_
  refine o_iloadN X3 hx (hb hby d16_32) rfl ?_
  obtain ⟨cq4, kq4, q4a, q4b, q4c⟩ := isOf hZ e3 pr0
  obtain ⟨_, _, ⟨T4, L4, kc4, n4⟩, -, X4, ⟨Lc4, hQ4, l4, y4, z4⟩, st4⟩ := X3.virtualBack hx (y := yM14) (z := yM14) hown (mvT hZ w62) (mvT hZ w63) (notFace_of_selects (args := #[]) (mvT hZ w65)) (mvT hZ w65) (mvT hZ w64) (by decide) (backOf (W := 0) (rm_cat_1_0 l Z a0 hw [] s_EID_CHARS cl_T z_CS v_FMT x_ ba_ kb_ c0_ h0 n0 SB O0 pr0 pr1 pr2 pr3 pr5 pr6) hZ w66 w10 (by decide) (by decide)) q4a q4c (g := (mkF m 33 #[.val (.ref x_), .val (.int (128 : Int32)), .val (.ref s_EID_CHARS), .val (.int (0 : Int32)), .unset] [(.int (0 : Int32)), (.ref x_)])) rfl (by rw [hml]; rfl) (Steps.refl _) (argsL := [(.int (0 : Int32))]) (rest := []) (lenOf own_pd11 rfl) rfl (by show 2 * 0 + _ ≤ _; exact Nat.le_of_eq rfl) (hb hby d16_33) (fun _ _ => ⟨rfl, e3, (by decide : 0 + 0 ≤ _), (by decide : 0 + 0 ≤ _)⟩)
  dsimp only [Pt.U, Pt.locs, Pt.cells, Pt.slots] at X4 l4 y4 z4 st4 hQ4
  subst l4 y4 z4
  obtain ⟨rfl, Nq4, e4⟩ := hQ4
  have N4 := Fr.app N3 Nq4
  refine otr (S' := T4.setTop (mkF m 36 #[.val (.ref x_), .val (.int (128 : Int32)), .val (.ref s_EID_CHARS), .val (.int (0 : Int32)), .unset] [(.int c0_)])) st4 ?_
  refine o_istore X4 hx (l' := #[.val (.ref x_), .val (.int (128 : Int32)), .val (.ref s_EID_CHARS), .val (.int (0 : Int32)), .val (.int c0_)]) (hb hby d16_36) rfl ?_
  refine o_iload X4 hx (hb hby d16_38) rfl ?_
  refine o_aloadN X4 hx (hb hby d16_40) rfl rfl ?_
  refine ogo (S' := T4.setTop (mkF m 42 #[.val (.ref x_), .val (.int (128 : Int32)), .val (.ref s_EID_CHARS), .val (.int (0 : Int32)), .val (.int c0_)] [(.int (128 : Int32)), (.int c0_)])) (fun _ kt_ => X4.arraylength hx (by rw [e4]; exact (Arr.ext O0.2 A_T).1) (State.isArrayOf_alike hZ.alike A_T.2.1) (g := (mkF m 41 #[.val (.ref x_), .val (.int (128 : Int32)), .val (.ref s_EID_CHARS), .val (.int (0 : Int32)), .val (.int c0_)] [(.ref s_EID_CHARS), (.int c0_)])) rfl rfl (hb hby d16_41) _ (by rw [len_of L_T (by decide)]; exact kt_)) ?_
  refine o_icmpNo X4 hx (hb hby d16_42) (tlt (own_ok_128 pr4)).2.1 ?_
  refine o_aloadN X4 hx (hb hby d16_45) rfl rfl ?_
  refine o_iload X4 hx (hb hby d16_46) rfl ?_
  refine ogo (S' := T4.setTop (mkF m 49 #[.val (.ref x_), .val (.int (128 : Int32)), .val (.ref s_EID_CHARS), .val (.int (0 : Int32)), .val (.int c0_)] [(.int (1 : Int32))])) (X4.baloadBooleans hx (j := c0_) (v := (.int 1)) (by rw [e4]; exact (Arr.ext O0.2 A_T).1) (State.isArrayOf_alike hZ.alike A_T.2.1) A_T.2.2 (inb_of L_T ⟨own_ok_0 pr4, own_ok_128 pr4⟩) (T_T _ pr4) (g := (mkF m 48 #[.val (.ref x_), .val (.int (128 : Int32)), .val (.ref s_EID_CHARS), .val (.int (0 : Int32)), .val (.int c0_)] [(.int c0_), (.ref s_EID_CHARS)])) rfl rfl (hb hby d16_48)) ?_
  refine o_ifYes X4 hx 54 (hb hby d16_49) (feq (by decide : ¬ ((1 : Int32) = (0 : Int32)))).2 (by decide) (by decide) ?_
  refine o_iinc X4 hx (l' := #[.val (.ref x_), .val (.int (128 : Int32)), .val (.ref s_EID_CHARS), .val (.int (1 : Int32)), .val (.int c0_)]) (hb hby d16_54) rfl rfl ?_
  refine o_goto X4 hx 23 (hb hby d16_57) (by decide) (by decide) ?_
  refine o_iloadN X4 hx (hb hby d16_23) rfl ?_
  refine o_aloadN X4 hx (hb hby d16_24) rfl rfl ?_
  obtain ⟨cq5, kq5, q5a, q5b, q5c⟩ := isOf hZ e4 pr0
  obtain ⟨_, _, ⟨T5, L5, kc5, n5⟩, -, X5, ⟨Lc5, hQ5, l5, y5, z5⟩, st5⟩ := X4.virtualBack hx (y := yM8) (z := yM8) hown (mvT hZ w52) (mvT hZ w53) (notFace_of_selects (args := #[]) (mvT hZ w55)) (mvT hZ w55) (mvT hZ w54) (by decide) (backOf (W := 1) (rm_len_1 l Z a0 hw [] s_EID_CHARS cl_T z_CS v_FMT x_ ba_ kb_ [(.int c0_.toInt8.toInt32)] h0 n0 SB O0 pr0 pr1 pr2 pr3) hZ w56 w10 (by decide) (by decide)) q5a q5c (g := (mkF m 25 #[.val (.ref x_), .val (.int (128 : Int32)), .val (.ref s_EID_CHARS), .val (.int (1 : Int32)), .val (.int c0_)] [(.ref x_), (.int (1 : Int32))])) rfl (by rw [hml]; rfl) (Steps.refl _) (argsL := []) (rest := [(.int (1 : Int32))]) (lenOf own_pd10 rfl) rfl (by show 2 * 0 + _ ≤ _; exact Nat.le_of_eq rfl) (hb hby d16_25) (fun _ _ => ⟨rfl, e4, (by decide : 0 + 0 ≤ _), (by decide : 0 + 0 ≤ _)⟩)
  dsimp only [Pt.U, Pt.locs, Pt.cells, Pt.slots] at X5 l5 y5 z5 st5 hQ5
  subst l5 y5 z5
  obtain ⟨rfl, Nq5, e5⟩ := hQ5
  have N5 := Fr.app N4 Nq5
  refine otr (S' := T5.setTop (mkF m 28 #[.val (.ref x_), .val (.int (128 : Int32)), .val (.ref s_EID_CHARS), .val (.int (1 : Int32)), .val (.int c0_)] [(.int (1 : Int32)), (.int (1 : Int32))])) st5 ?_
  refine o_icmpYes X5 hx 60 (hb hby d16_28) (flt (by decide : ¬ ((1 : Int32) < (1 : Int32)))).2.1 (by decide) (by decide) ?_
  refine o_iconst X5 hx (1 : Int32) (hb hby d16_60) rfl ?_
  refine oend X5 hlk (v := some (.int (1 : Int32))) (fun h => by rw [hret] at h; cases h) (fun fs hr => retN X5 hx (t := .boolean) hret (by simp) (hb hby d16_61) hr) (by decide) (by decide) ?_
  show own_Q_spelled_1 Z _ _ _ _ _ _ _ _ h0 n0 _ T5.heap _
  rw [e5]
  exact ⟨rfl, N5, rfl⟩
def own_Q_len_2 (Z : State) (s_EID_CHARS : Addr) (cl_T : Cell) (z_CS : Int32) (v_FMT : Value) (x_ : Addr) (ba_ : Addr) (kb_ : ClassId) (vs_ : List Value) (h0 : Heap) (n0 : Nat) (v : Option Value) (h : Heap) (L : List Loc) : Prop := (v = some (.int (2 : Int32))) ∧ (Fr n0 L) ∧ (h = h0)
set_option maxRecDepth 65536 in
set_option maxHeartbeats 40000000 in
theorem rm_len_2 (l : Launch) (Z : State) (a0 : Array Value) (hw : ∀ d ∈ tables_1, d.before a0 Z = true) (ws : List Jvm.Cond) (s_EID_CHARS : Addr) (cl_T : Cell) (z_CS : Int32) (v_FMT : Value) (x_ : Addr) (ba_ : Addr) (kb_ : ClassId) (vs_ : List Value) (h0 : Heap) (n0 : Nat) (SB : own_Start Z s_EID_CHARS cl_T z_CS v_FMT) (O0 : Old Z n0 h0) (pr0 : Exa Z h0 x_ "java/lang/String") (pr1 : Fld Z h0 x_ "java/lang/String" "coder" "B" (.int (0 : Int32))) (pr2 : Fld Z h0 x_ "java/lang/String" "value" "[B" (.ref ba_)) (pr3 : Arv Z h0 ba_ kb_ .byte (2 : Int32) vs_ (.int 0)) :
    oMet l Z yM8 jdk_42_method_54_code 1 (some .int) ws ({ frames := 1, cells := 0, slots := 0, locals := 13 } : Room) 0 0 #[(.ref x_)] h0 (own_Q_len_2 Z s_EID_CHARS cl_T z_CS v_FMT x_ ba_ kb_ vs_ h0 n0) := by
  refine oenter own_pn2 #[.val (.ref x_)] (fun m => by first | (simp [entryFrame, mkF, argsToLocals, Value.category]; done) | rfl) ?_
  intro p e s m below meth c s₁ X0 hx hZ hby hml hret hown0 hnm hlk e0
  have hown : s.vm.findClass "java/lang/String" = some m.cls := hown0
  have N0 := Fr.nil n0
  obtain ⟨S_s_EID_CHARS, A_T, L_T, T_T, S_CS, H_CS, S_FMT, R_FMT⟩ := (id SB)
  have w10 := hw _ (List.mem_of_getElem? (i := 10) rfl)
  have w36 := hw _ (List.mem_of_getElem? (i := 36) rfl)
  have w57 := hw _ (List.mem_of_getElem? (i := 57) rfl)
  have w58 := hw _ (List.mem_of_getElem? (i := 58) rfl)
  have w59 := hw _ (List.mem_of_getElem? (i := 59) rfl)
  have w60 := hw _ (List.mem_of_getElem? (i := 60) rfl)
  have w61 := hw _ (List.mem_of_getElem? (i := 61) rfl)
  refine o_aloadN X0 hx (hb hby d9_0) rfl rfl ?_
  obtain ⟨T1, X1, e1, st1⟩ := getF X0 hx hZ hown (host := "") (Or.inl w36) Via.refl e0 pr2 (g := (mkF m 1 #[.val (.ref x_)] [(.ref x_)])) rfl rfl (hb hby d9_1)
  refine ogo (S' := T1.setTop (mkF m 4 #[.val (.ref x_)] [(.ref ba_)])) st1 ?_
  obtain ⟨cl2, Ar2, -, S2, N2z, -, -⟩ := (id pr3)
  refine ogo (S' := T1.setTop (mkF m 5 #[.val (.ref x_)] [(.int (2 : Int32))])) (fun _ kt_ => X1.arraylength hx (by rw [e1]; exact Ar2.1) (State.isArrayOf_alike hZ.alike Ar2.2.1) (g := (mkF m 4 #[.val (.ref x_)] [(.ref ba_)])) rfl rfl (hb hby d9_4) _ (by rw [len_of S2 N2z]; exact kt_)) ?_
  refine o_aloadN X1 hx (hb hby d9_5) rfl rfl ?_
  obtain ⟨cq3, kq3, q3a, q3b, q3c⟩ := isOf hZ e1 pr0
  obtain ⟨_, _, ⟨T3, L3, kc3, n3⟩, -, X3, ⟨Lc3, hQ3, l3, y3, z3⟩, st3⟩ := X1.virtualBack hx (y := yM7) (z := yM7) hown (mvT hZ w57) (mvT hZ w58) (notFace_of_selects (args := #[]) (mvT hZ w60)) (mvT hZ w60) (mvT hZ w59) (by decide) (backOf (W := 1) (rm_coder l Z a0 hw [] s_EID_CHARS cl_T z_CS v_FMT x_ h0 n0 SB O0 pr1) hZ w61 w10 (by decide) (by decide)) q3a q3c (g := (mkF m 6 #[.val (.ref x_)] [(.ref x_), (.int (2 : Int32))])) rfl (by rw [hml]; rfl) (Steps.refl _) (argsL := []) (rest := [(.int (2 : Int32))]) (lenOf own_pd5 rfl) rfl (by show 2 * 0 + _ ≤ _; exact Nat.le_of_eq rfl) (hb hby d9_6) (fun _ _ => ⟨rfl, e1, (by decide : 0 + 0 ≤ _), (by decide : 0 + 0 ≤ _)⟩)
  dsimp only [Pt.U, Pt.locs, Pt.cells, Pt.slots] at X3 l3 y3 z3 st3 hQ3
  subst l3 y3 z3
  obtain ⟨rfl, Nq3, e3⟩ := hQ3
  have N3 := Fr.app N0 Nq3
  refine otr (S' := T3.setTop (mkF m 9 #[.val (.ref x_)] [(.int (0 : Int32)), (.int (2 : Int32))])) st3 ?_
  refine o_ishr X3 hx (hb hby d9_9) ?_
  refine oend X3 hlk (v := some (.int (2 : Int32))) (fun h => by rw [hret] at h; cases h) (fun fs hr => retOut X3 hx (t := .int) (i := .ireturn) hret rfl (Or.inl ⟨rfl, Or.inl rfl, _, rfl⟩) (hb hby d9_10) hr) (by decide) (by decide) ?_
  show own_Q_len_2 Z _ _ _ _ _ _ _ _ h0 n0 _ T3.heap _
  rw [e3]
  exact ⟨rfl, N3, rfl⟩
def own_Q_emp_2 (Z : State)  (x_ : Addr) (ba_ : Addr) (kb_ : ClassId) (vs_ : List Value) (h0 : Heap) (n0 : Nat) (v : Option Value) (h : Heap) (L : List Loc) : Prop := (v = some (.int (0 : Int32))) ∧ (Fr n0 L) ∧ (h = h0)
set_option maxRecDepth 65536 in
set_option maxHeartbeats 40000000 in
theorem rm_emp_2 (l : Launch) (Z : State) (a0 : Array Value) (hw : ∀ d ∈ tables_1, d.before a0 Z = true) (ws : List Jvm.Cond)  (x_ : Addr) (ba_ : Addr) (kb_ : ClassId) (vs_ : List Value) (h0 : Heap) (n0 : Nat) (O0 : Old Z n0 h0) (pr0 : Exa Z h0 x_ "java/lang/String") (pr1 : Fld Z h0 x_ "java/lang/String" "coder" "B" (.int (0 : Int32))) (pr2 : Fld Z h0 x_ "java/lang/String" "value" "[B" (.ref ba_)) (pr3 : Arv Z h0 ba_ kb_ .byte (2 : Int32) vs_ (.int 0)) :
    oMet l Z yM9 jdk_42_method_55_code 1 (some .boolean) ws ({ frames := 0, cells := 0, slots := 0, locals := 0 } : Room) 0 0 #[(.ref x_)] h0 (own_Q_emp_2 Z  x_ ba_ kb_ vs_ h0 n0) := by
  refine oenter own_pn2 #[.val (.ref x_)] (fun m => by first | (simp [entryFrame, mkF, argsToLocals, Value.category]; done) | rfl) ?_
  intro p e s m below meth c s₁ X0 hx hZ hby hml hret hown0 hnm hlk e0
  have hown : s.vm.findClass "java/lang/String" = some m.cls := hown0
  have N0 := Fr.nil n0
  have w36 := hw _ (List.mem_of_getElem? (i := 36) rfl)
  refine o_aloadN X0 hx (hb hby d10_0) rfl rfl ?_
  obtain ⟨T1, X1, e1, st1⟩ := getF X0 hx hZ hown (host := "") (Or.inl w36) Via.refl e0 pr2 (g := (mkF m 1 #[.val (.ref x_)] [(.ref x_)])) rfl rfl (hb hby d10_1)
  refine ogo (S' := T1.setTop (mkF m 4 #[.val (.ref x_)] [(.ref ba_)])) st1 ?_
  obtain ⟨cl2, Ar2, -, S2, N2z, -, -⟩ := (id pr3)
  refine ogo (S' := T1.setTop (mkF m 5 #[.val (.ref x_)] [(.int (2 : Int32))])) (fun _ kt_ => X1.arraylength hx (by rw [e1]; exact Ar2.1) (State.isArrayOf_alike hZ.alike Ar2.2.1) (g := (mkF m 4 #[.val (.ref x_)] [(.ref ba_)])) rfl rfl (hb hby d10_4) _ (by rw [len_of S2 N2z]; exact kt_)) ?_
  refine o_ifYes X1 hx 12 (hb hby d10_5) (feq (by decide : ¬ ((2 : Int32) = (0 : Int32)))).2 (by decide) (by decide) ?_
  refine o_iconst X1 hx (0 : Int32) (hb hby d10_12) rfl ?_
  refine oend X1 hlk (v := some (.int (0 : Int32))) (fun h => by rw [hret] at h; cases h) (fun fs hr => retN X1 hx (t := .boolean) hret (by simp) (hb hby d10_13) hr) (by decide) (by decide) ?_
  show own_Q_emp_2 Z _ _ _ _ h0 n0 _ T1.heap _
  rw [e1]
  exact ⟨rfl, N0, rfl⟩
def own_Q_l1c_2_0 (Z : State) (s_EID_CHARS : Addr) (cl_T : Cell) (z_CS : Int32) (v_FMT : Value) (ba_ : Addr) (kb_ : ClassId) (c0_ : Int32) (c1_ : Int32) (h0 : Heap) (n0 : Nat) (v : Option Value) (h : Heap) (L : List Loc) : Prop := (v = some (.int c0_)) ∧ (Fr n0 L) ∧ (h = h0)
set_option maxRecDepth 65536 in
set_option maxHeartbeats 40000000 in
theorem rm_l1c_2_0 (l : Launch) (Z : State) (a0 : Array Value) (hw : ∀ d ∈ tables_1, d.before a0 Z = true) (ws : List Jvm.Cond) (s_EID_CHARS : Addr) (cl_T : Cell) (z_CS : Int32) (v_FMT : Value) (ba_ : Addr) (kb_ : ClassId) (c0_ : Int32) (c1_ : Int32) (h0 : Heap) (n0 : Nat) (SB : own_Start Z s_EID_CHARS cl_T z_CS v_FMT) (O0 : Old Z n0 h0) (pr0 : Arv Z h0 ba_ kb_ .byte (2 : Int32) [(.int c0_.toInt8.toInt32), (.int c1_.toInt8.toInt32)] (.int 0)) (pr1 : ¬ (c0_ < (0 : Int32))) (pr2 : ¬ ((255 : Int32) < c0_)) :
    oMet l Z yM13 jdk_43_method_2_code 2 (some .char) ws ({ frames := 2, cells := 0, slots := 0, locals := 27 } : Room) 0 0 #[(.ref ba_), (.int (0 : Int32))] h0 (own_Q_l1c_2_0 Z s_EID_CHARS cl_T z_CS v_FMT ba_ kb_ c0_ c1_ h0 n0) := by
  refine oenter own_pn4 #[.val (.ref ba_), .val (.int (0 : Int32))] (fun m => by first | (simp [entryFrame, mkF, argsToLocals, Value.category]; done) | rfl) ?_
  intro p e s m below meth c s₁ X0 hx hZ hby hml hret hown0 hnm hlk e0
  have hown : s.vm.findClass "java/lang/StringLatin1" = some m.cls := hown0
  have N0 := Fr.nil n0
  obtain ⟨S_s_EID_CHARS, A_T, L_T, T_T, S_CS, H_CS, S_FMT, R_FMT⟩ := (id SB)
  have w10 := hw _ (List.mem_of_getElem? (i := 10) rfl)
  have w76 := hw _ (List.mem_of_getElem? (i := 76) rfl)
  have w77 := hw _ (List.mem_of_getElem? (i := 77) rfl)
  have w78 := hw _ (List.mem_of_getElem? (i := 78) rfl)
  refine o_iloadN X0 hx (hb hby d14_0) rfl ?_
  refine o_aloadN X0 hx (hb hby d14_1) rfl rfl ?_
  obtain ⟨cl1, Ar1, -, S1, N1z, -, -⟩ := (id pr0)
  refine ogo (S' := s₁.setTop (mkF m 3 #[.val (.ref ba_), .val (.int (0 : Int32))] [(.int (2 : Int32)), (.int (0 : Int32))])) (fun _ kt_ => X0.arraylength hx (by rw [e0]; exact Ar1.1) (State.isArrayOf_alike hZ.alike Ar1.2.1) (g := (mkF m 2 #[.val (.ref ba_), .val (.int (0 : Int32))] [(.ref ba_), (.int (0 : Int32))])) rfl rfl (hb hby d14_2) _ (by rw [len_of S1 N1z]; exact kt_)) ?_
  obtain ⟨_, _, ⟨T2, L2, kc2, n2⟩, -, X2, ⟨Lc2, hQ2, l2, y2, z2⟩, st2⟩ := Jvm.LawKit.callS X0 hx (y := yM12) hown (mvT hZ w76) (mvT hZ w77) (mvT hZ w10) (mvT hZ w78) (by decide) (backOf (W := 0) (rm_sci l Z a0 hw [] s_EID_CHARS cl_T z_CS v_FMT (0 : Int32) (2 : Int32) h0 n0 SB O0 (by decide) (by decide)) hZ w78 w10 (by decide) (by decide)) (g := (mkF m 3 #[.val (.ref ba_), .val (.int (0 : Int32))] [(.int (2 : Int32)), (.int (0 : Int32))])) rfl (by rw [hml]; rfl) (argsL := [(.int (0 : Int32)), (.int (2 : Int32))]) (rest := []) (lenOf own_pd7 rfl) rfl (by show 2 * 0 + _ ≤ _; exact Nat.le_of_eq rfl) (hb hby d14_3) (fun _ _ => ⟨rfl, e0, (by decide : 0 + 0 ≤ _), (by decide : 0 + 0 ≤ _)⟩)
  dsimp only [Pt.U, Pt.locs, Pt.cells, Pt.slots] at X2 l2 y2 z2 st2 hQ2
  subst l2 y2 z2
  obtain ⟨rfl, Nq2, e2⟩ := hQ2
  have N2 := Fr.app N0 Nq2
  refine ogo (S' := T2.setTop (mkF m 6 #[.val (.ref ba_), .val (.int (0 : Int32))] [])) st2 ?_
  refine o_aloadN X2 hx (hb hby d14_6) rfl rfl ?_
  refine o_iloadN X2 hx (hb hby d14_7) rfl ?_
  obtain ⟨cl3, Ar3, q3, S3, N3z, H3, G3⟩ := (id pr0)
  have hi3 := inb_of (j := (0 : Int32)) S3 ⟨by decide, by decide⟩
  have ha3 := Has.at (v := (.int c0_.toInt8.toInt32)) H3 hi3 rfl
  refine ogo (S' := T2.setTop (mkF m 9 #[.val (.ref ba_), .val (.int (0 : Int32))] [(.int c0_.toInt8.toInt32)])) (X2.baloadBytes hx (j := (0 : Int32)) (v := (.int c0_.toInt8.toInt32)) (by rw [e2]; exact Ar3.1) (State.isArrayOf_alike hZ.alike Ar3.2.1) Ar3.2.2 hi3 ha3 (g := (mkF m 8 #[.val (.ref ba_), .val (.int (0 : Int32))] [(.int (0 : Int32)), (.ref ba_)])) rfl rfl (hb hby d14_8)) ?_
  refine o_sipush X2 hx (255 : Int32) (hb hby d14_9) rfl ?_
  refine o_iand X2 hx (hb hby d14_12) ?_
  refine o_i2c X2 hx (hb hby d14_13) ?_
  rw [own_char pr1 pr2]
  refine oend X2 hlk (v := some (.int c0_)) (fun h => by rw [hret] at h; cases h) (fun fs hr => retN X2 hx (t := .char) hret (by simp) (hb hby d14_14) (by rw [(own_narsm pr1 pr2)]; exact hr)) (by decide) (by decide) ?_
  show own_Q_l1c_2_0 Z _ _ _ _ _ _ _ _ h0 n0 _ T2.heap _
  rw [e2]
  exact ⟨rfl, N2, rfl⟩
def own_Q_cat_2_0 (Z : State) (s_EID_CHARS : Addr) (cl_T : Cell) (z_CS : Int32) (v_FMT : Value) (x_ : Addr) (ba_ : Addr) (kb_ : ClassId) (c0_ : Int32) (c1_ : Int32) (h0 : Heap) (n0 : Nat) (v : Option Value) (h : Heap) (L : List Loc) : Prop := (v = some (.int c0_)) ∧ (Fr n0 L) ∧ (h = h0)
set_option maxRecDepth 65536 in
set_option maxHeartbeats 40000000 in
theorem rm_cat_2_0 (l : Launch) (Z : State) (a0 : Array Value) (hw : ∀ d ∈ tables_1, d.before a0 Z = true) (ws : List Jvm.Cond) (s_EID_CHARS : Addr) (cl_T : Cell) (z_CS : Int32) (v_FMT : Value) (x_ : Addr) (ba_ : Addr) (kb_ : ClassId) (c0_ : Int32) (c1_ : Int32) (h0 : Heap) (n0 : Nat) (SB : own_Start Z s_EID_CHARS cl_T z_CS v_FMT) (O0 : Old Z n0 h0) (pr0 : Exa Z h0 x_ "java/lang/String") (pr1 : Fld Z h0 x_ "java/lang/String" "coder" "B" (.int (0 : Int32))) (pr2 : Fld Z h0 x_ "java/lang/String" "value" "[B" (.ref ba_)) (pr3 : Arv Z h0 ba_ kb_ .byte (2 : Int32) [(.int c0_.toInt8.toInt32), (.int c1_.toInt8.toInt32)] (.int 0)) (pr4 : ¬ (c0_ < (0 : Int32))) (pr5 : ¬ ((255 : Int32) < c0_)) :
    oMet l Z yM14 jdk_42_method_56_code 2 (some .char) ws ({ frames := 3, cells := 0, slots := 0, locals := 40 } : Room) 0 0 #[(.ref x_), (.int (0 : Int32))] h0 (own_Q_cat_2_0 Z s_EID_CHARS cl_T z_CS v_FMT x_ ba_ kb_ c0_ c1_ h0 n0) := by
  refine oenter own_pn2 #[.val (.ref x_), .val (.int (0 : Int32))] (fun m => by first | (simp [entryFrame, mkF, argsToLocals, Value.category]; done) | rfl) ?_
  intro p e s m below meth c s₁ X0 hx hZ hby hml hret hown0 hnm hlk e0
  have hown : s.vm.findClass "java/lang/String" = some m.cls := hown0
  have N0 := Fr.nil n0
  obtain ⟨S_s_EID_CHARS, A_T, L_T, T_T, S_CS, H_CS, S_FMT, R_FMT⟩ := (id SB)
  have w10 := hw _ (List.mem_of_getElem? (i := 10) rfl)
  have w36 := hw _ (List.mem_of_getElem? (i := 36) rfl)
  have w67 := hw _ (List.mem_of_getElem? (i := 67) rfl)
  have w68 := hw _ (List.mem_of_getElem? (i := 68) rfl)
  have w69 := hw _ (List.mem_of_getElem? (i := 69) rfl)
  have w70 := hw _ (List.mem_of_getElem? (i := 70) rfl)
  have w71 := hw _ (List.mem_of_getElem? (i := 71) rfl)
  have w72 := hw _ (List.mem_of_getElem? (i := 72) rfl)
  have w73 := hw _ (List.mem_of_getElem? (i := 73) rfl)
  have w74 := hw _ (List.mem_of_getElem? (i := 74) rfl)
  have w75 := hw _ (List.mem_of_getElem? (i := 75) rfl)
  refine o_aloadN X0 hx (hb hby d15_0) rfl rfl ?_
  obtain ⟨cq1, kq1, q1a, q1b, q1c⟩ := isOf hZ e0 pr0
  obtain ⟨_, _, ⟨T1, L1, kc1, n1⟩, -, X1, ⟨Lc1, hQ1, l1, y1, z1⟩, st1⟩ := X0.virtualBack hx (y := yM10) (z := yM10) hown (mvT hZ w67) (mvT hZ w68) (notFace_of_selects (args := #[]) (mvT hZ w70)) (mvT hZ w70) (mvT hZ w69) (by decide) (backOf (W := 0) (rm_isl1 l Z a0 hw [] s_EID_CHARS cl_T z_CS v_FMT x_ h0 n0 SB O0 pr1) hZ w71 w10 (by decide) (by decide)) q1a q1c (g := (mkF m 1 #[.val (.ref x_), .val (.int (0 : Int32))] [(.ref x_)])) rfl (by rw [hml]; rfl) (Steps.refl _) (argsL := []) (rest := []) (lenOf own_pd8 rfl) rfl (by show 2 * 0 + _ ≤ _; exact Nat.le_of_eq rfl) (hb hby d15_1) (fun _ _ => ⟨rfl, e0, (by decide : 0 + 0 ≤ _), (by decide : 0 + 0 ≤ _)⟩)
  dsimp only [Pt.U, Pt.locs, Pt.cells, Pt.slots] at X1 l1 y1 z1 st1 hQ1
  subst l1 y1 z1
  obtain ⟨rfl, Nq1, e1⟩ := hQ1
  have N1 := Fr.app N0 Nq1
  refine otr (S' := T1.setTop (mkF m 4 #[.val (.ref x_), .val (.int (0 : Int32))] [(.int (1 : Int32))])) st1 ?_
  refine o_ifNo X1 hx (hb hby d15_4) (feq (by decide : ¬ ((1 : Int32) = (0 : Int32)))).1 ?_
  refine o_aloadN X1 hx (hb hby d15_7) rfl rfl ?_
  obtain ⟨T2, X2, e2, st2⟩ := getF X1 hx hZ hown (host := "") (Or.inl w36) Via.refl e1 pr2 (g := (mkF m 8 #[.val (.ref x_), .val (.int (0 : Int32))] [(.ref x_)])) rfl rfl (hb hby d15_8)
  refine ogo (S' := T2.setTop (mkF m 11 #[.val (.ref x_), .val (.int (0 : Int32))] [(.ref ba_)])) st2 ?_
  refine o_iloadN X2 hx (hb hby d15_11) rfl ?_
  obtain ⟨_, _, ⟨T3, L3, kc3, n3⟩, -, X3, ⟨Lc3, hQ3, l3, y3, z3⟩, st3⟩ := Jvm.LawKit.callS X2 hx (y := yM13) hown (mvT hZ w72) (mvT hZ w73) (mvT hZ w74) (mvT hZ w75) (by decide) (backOf (W := 0) (rm_l1c_2_0 l Z a0 hw [] s_EID_CHARS cl_T z_CS v_FMT ba_ kb_ c0_ c1_ h0 n0 SB O0 pr3 pr4 pr5) hZ w75 w74 (by decide) (by decide)) (g := (mkF m 12 #[.val (.ref x_), .val (.int (0 : Int32))] [(.int (0 : Int32)), (.ref ba_)])) rfl (by rw [hml]; rfl) (argsL := [(.ref ba_), (.int (0 : Int32))]) (rest := []) (lenOf own_pd9 rfl) rfl (by show 2 * 0 + _ ≤ _; exact Nat.le_of_eq rfl) (hb hby d15_12) (fun _ _ => ⟨rfl, e2, (by decide : 0 + 0 ≤ _), (by decide : 0 + 0 ≤ _)⟩)
  dsimp only [Pt.U, Pt.locs, Pt.cells, Pt.slots] at X3 l3 y3 z3 st3 hQ3
  subst l3 y3 z3
  obtain ⟨rfl, Nq3, e3⟩ := hQ3
  have N3 := Fr.app N1 Nq3
  refine ogo (S' := T3.setTop (mkF m 15 #[.val (.ref x_), .val (.int (0 : Int32))] [(.int c0_)])) st3 ?_
  refine oend X3 hlk (v := some (.int c0_)) (fun h => by rw [hret] at h; cases h) (fun fs hr => retN X3 hx (t := .char) hret (by simp) (hb hby d15_15) (by rw [(own_narsm pr4 pr5)]; exact hr)) (by decide) (by decide) ?_
  show own_Q_cat_2_0 Z _ _ _ _ _ _ _ _ _ h0 n0 _ T3.heap _
  rw [e3]
  exact ⟨rfl, N3, rfl⟩
def own_Q_l1c_2_1 (Z : State) (s_EID_CHARS : Addr) (cl_T : Cell) (z_CS : Int32) (v_FMT : Value) (ba_ : Addr) (kb_ : ClassId) (c0_ : Int32) (c1_ : Int32) (h0 : Heap) (n0 : Nat) (v : Option Value) (h : Heap) (L : List Loc) : Prop := (v = some (.int c1_)) ∧ (Fr n0 L) ∧ (h = h0)
set_option maxRecDepth 65536 in
set_option maxHeartbeats 40000000 in
theorem rm_l1c_2_1 (l : Launch) (Z : State) (a0 : Array Value) (hw : ∀ d ∈ tables_1, d.before a0 Z = true) (ws : List Jvm.Cond) (s_EID_CHARS : Addr) (cl_T : Cell) (z_CS : Int32) (v_FMT : Value) (ba_ : Addr) (kb_ : ClassId) (c0_ : Int32) (c1_ : Int32) (h0 : Heap) (n0 : Nat) (SB : own_Start Z s_EID_CHARS cl_T z_CS v_FMT) (O0 : Old Z n0 h0) (pr0 : Arv Z h0 ba_ kb_ .byte (2 : Int32) [(.int c0_.toInt8.toInt32), (.int c1_.toInt8.toInt32)] (.int 0)) (pr1 : ¬ (c1_ < (0 : Int32))) (pr2 : ¬ ((255 : Int32) < c1_)) :
    oMet l Z yM13 jdk_43_method_2_code 2 (some .char) ws ({ frames := 2, cells := 0, slots := 0, locals := 27 } : Room) 0 0 #[(.ref ba_), (.int (1 : Int32))] h0 (own_Q_l1c_2_1 Z s_EID_CHARS cl_T z_CS v_FMT ba_ kb_ c0_ c1_ h0 n0) := by
  refine oenter own_pn4 #[.val (.ref ba_), .val (.int (1 : Int32))] (fun m => by first | (simp [entryFrame, mkF, argsToLocals, Value.category]; done) | rfl) ?_
  intro p e s m below meth c s₁ X0 hx hZ hby hml hret hown0 hnm hlk e0
  have hown : s.vm.findClass "java/lang/StringLatin1" = some m.cls := hown0
  have N0 := Fr.nil n0
  obtain ⟨S_s_EID_CHARS, A_T, L_T, T_T, S_CS, H_CS, S_FMT, R_FMT⟩ := (id SB)
  have w10 := hw _ (List.mem_of_getElem? (i := 10) rfl)
  have w76 := hw _ (List.mem_of_getElem? (i := 76) rfl)
  have w77 := hw _ (List.mem_of_getElem? (i := 77) rfl)
  have w78 := hw _ (List.mem_of_getElem? (i := 78) rfl)
  refine o_iloadN X0 hx (hb hby d14_0) rfl ?_
  refine o_aloadN X0 hx (hb hby d14_1) rfl rfl ?_
  obtain ⟨cl1, Ar1, -, S1, N1z, -, -⟩ := (id pr0)
  refine ogo (S' := s₁.setTop (mkF m 3 #[.val (.ref ba_), .val (.int (1 : Int32))] [(.int (2 : Int32)), (.int (1 : Int32))])) (fun _ kt_ => X0.arraylength hx (by rw [e0]; exact Ar1.1) (State.isArrayOf_alike hZ.alike Ar1.2.1) (g := (mkF m 2 #[.val (.ref ba_), .val (.int (1 : Int32))] [(.ref ba_), (.int (1 : Int32))])) rfl rfl (hb hby d14_2) _ (by rw [len_of S1 N1z]; exact kt_)) ?_
  obtain ⟨_, _, ⟨T2, L2, kc2, n2⟩, -, X2, ⟨Lc2, hQ2, l2, y2, z2⟩, st2⟩ := Jvm.LawKit.callS X0 hx (y := yM12) hown (mvT hZ w76) (mvT hZ w77) (mvT hZ w10) (mvT hZ w78) (by decide) (backOf (W := 0) (rm_sci l Z a0 hw [] s_EID_CHARS cl_T z_CS v_FMT (1 : Int32) (2 : Int32) h0 n0 SB O0 (by decide) (by decide)) hZ w78 w10 (by decide) (by decide)) (g := (mkF m 3 #[.val (.ref ba_), .val (.int (1 : Int32))] [(.int (2 : Int32)), (.int (1 : Int32))])) rfl (by rw [hml]; rfl) (argsL := [(.int (1 : Int32)), (.int (2 : Int32))]) (rest := []) (lenOf own_pd7 rfl) rfl (by show 2 * 0 + _ ≤ _; exact Nat.le_of_eq rfl) (hb hby d14_3) (fun _ _ => ⟨rfl, e0, (by decide : 0 + 0 ≤ _), (by decide : 0 + 0 ≤ _)⟩)
  dsimp only [Pt.U, Pt.locs, Pt.cells, Pt.slots] at X2 l2 y2 z2 st2 hQ2
  subst l2 y2 z2
  obtain ⟨rfl, Nq2, e2⟩ := hQ2
  have N2 := Fr.app N0 Nq2
  refine ogo (S' := T2.setTop (mkF m 6 #[.val (.ref ba_), .val (.int (1 : Int32))] [])) st2 ?_
  refine o_aloadN X2 hx (hb hby d14_6) rfl rfl ?_
  refine o_iloadN X2 hx (hb hby d14_7) rfl ?_
  obtain ⟨cl3, Ar3, q3, S3, N3z, H3, G3⟩ := (id pr0)
  have hi3 := inb_of (j := (1 : Int32)) S3 ⟨by decide, by decide⟩
  have ha3 := Has.at (v := (.int c1_.toInt8.toInt32)) H3 hi3 rfl
  refine ogo (S' := T2.setTop (mkF m 9 #[.val (.ref ba_), .val (.int (1 : Int32))] [(.int c1_.toInt8.toInt32)])) (X2.baloadBytes hx (j := (1 : Int32)) (v := (.int c1_.toInt8.toInt32)) (by rw [e2]; exact Ar3.1) (State.isArrayOf_alike hZ.alike Ar3.2.1) Ar3.2.2 hi3 ha3 (g := (mkF m 8 #[.val (.ref ba_), .val (.int (1 : Int32))] [(.int (1 : Int32)), (.ref ba_)])) rfl rfl (hb hby d14_8)) ?_
  refine o_sipush X2 hx (255 : Int32) (hb hby d14_9) rfl ?_
  refine o_iand X2 hx (hb hby d14_12) ?_
  refine o_i2c X2 hx (hb hby d14_13) ?_
  rw [own_char pr1 pr2]
  refine oend X2 hlk (v := some (.int c1_)) (fun h => by rw [hret] at h; cases h) (fun fs hr => retN X2 hx (t := .char) hret (by simp) (hb hby d14_14) (by rw [(own_narsm pr1 pr2)]; exact hr)) (by decide) (by decide) ?_
  show own_Q_l1c_2_1 Z _ _ _ _ _ _ _ _ h0 n0 _ T2.heap _
  rw [e2]
  exact ⟨rfl, N2, rfl⟩
def own_Q_cat_2_1 (Z : State) (s_EID_CHARS : Addr) (cl_T : Cell) (z_CS : Int32) (v_FMT : Value) (x_ : Addr) (ba_ : Addr) (kb_ : ClassId) (c0_ : Int32) (c1_ : Int32) (h0 : Heap) (n0 : Nat) (v : Option Value) (h : Heap) (L : List Loc) : Prop := (v = some (.int c1_)) ∧ (Fr n0 L) ∧ (h = h0)
set_option maxRecDepth 65536 in
set_option maxHeartbeats 40000000 in
theorem rm_cat_2_1 (l : Launch) (Z : State) (a0 : Array Value) (hw : ∀ d ∈ tables_1, d.before a0 Z = true) (ws : List Jvm.Cond) (s_EID_CHARS : Addr) (cl_T : Cell) (z_CS : Int32) (v_FMT : Value) (x_ : Addr) (ba_ : Addr) (kb_ : ClassId) (c0_ : Int32) (c1_ : Int32) (h0 : Heap) (n0 : Nat) (SB : own_Start Z s_EID_CHARS cl_T z_CS v_FMT) (O0 : Old Z n0 h0) (pr0 : Exa Z h0 x_ "java/lang/String") (pr1 : Fld Z h0 x_ "java/lang/String" "coder" "B" (.int (0 : Int32))) (pr2 : Fld Z h0 x_ "java/lang/String" "value" "[B" (.ref ba_)) (pr3 : Arv Z h0 ba_ kb_ .byte (2 : Int32) [(.int c0_.toInt8.toInt32), (.int c1_.toInt8.toInt32)] (.int 0)) (pr4 : ¬ (c1_ < (0 : Int32))) (pr5 : ¬ ((255 : Int32) < c1_)) :
    oMet l Z yM14 jdk_42_method_56_code 2 (some .char) ws ({ frames := 3, cells := 0, slots := 0, locals := 40 } : Room) 0 0 #[(.ref x_), (.int (1 : Int32))] h0 (own_Q_cat_2_1 Z s_EID_CHARS cl_T z_CS v_FMT x_ ba_ kb_ c0_ c1_ h0 n0) := by
  refine oenter own_pn2 #[.val (.ref x_), .val (.int (1 : Int32))] (fun m => by first | (simp [entryFrame, mkF, argsToLocals, Value.category]; done) | rfl) ?_
  intro p e s m below meth c s₁ X0 hx hZ hby hml hret hown0 hnm hlk e0
  have hown : s.vm.findClass "java/lang/String" = some m.cls := hown0
  have N0 := Fr.nil n0
  obtain ⟨S_s_EID_CHARS, A_T, L_T, T_T, S_CS, H_CS, S_FMT, R_FMT⟩ := (id SB)
  have w10 := hw _ (List.mem_of_getElem? (i := 10) rfl)
  have w36 := hw _ (List.mem_of_getElem? (i := 36) rfl)
  have w67 := hw _ (List.mem_of_getElem? (i := 67) rfl)
  have w68 := hw _ (List.mem_of_getElem? (i := 68) rfl)
  have w69 := hw _ (List.mem_of_getElem? (i := 69) rfl)
  have w70 := hw _ (List.mem_of_getElem? (i := 70) rfl)
  have w71 := hw _ (List.mem_of_getElem? (i := 71) rfl)
  have w72 := hw _ (List.mem_of_getElem? (i := 72) rfl)
  have w73 := hw _ (List.mem_of_getElem? (i := 73) rfl)
  have w74 := hw _ (List.mem_of_getElem? (i := 74) rfl)
  have w75 := hw _ (List.mem_of_getElem? (i := 75) rfl)
  refine o_aloadN X0 hx (hb hby d15_0) rfl rfl ?_
  obtain ⟨cq1, kq1, q1a, q1b, q1c⟩ := isOf hZ e0 pr0
  obtain ⟨_, _, ⟨T1, L1, kc1, n1⟩, -, X1, ⟨Lc1, hQ1, l1, y1, z1⟩, st1⟩ := X0.virtualBack hx (y := yM10) (z := yM10) hown (mvT hZ w67) (mvT hZ w68) (notFace_of_selects (args := #[]) (mvT hZ w70)) (mvT hZ w70) (mvT hZ w69) (by decide) (backOf (W := 0) (rm_isl1 l Z a0 hw [] s_EID_CHARS cl_T z_CS v_FMT x_ h0 n0 SB O0 pr1) hZ w71 w10 (by decide) (by decide)) q1a q1c (g := (mkF m 1 #[.val (.ref x_), .val (.int (1 : Int32))] [(.ref x_)])) rfl (by rw [hml]; rfl) (Steps.refl _) (argsL := []) (rest := []) (lenOf own_pd8 rfl) rfl (by show 2 * 0 + _ ≤ _; exact Nat.le_of_eq rfl) (hb hby d15_1) (fun _ _ => ⟨rfl, e0, (by decide : 0 + 0 ≤ _), (by decide : 0 + 0 ≤ _)⟩)
  dsimp only [Pt.U, Pt.locs, Pt.cells, Pt.slots] at X1 l1 y1 z1 st1 hQ1
  subst l1 y1 z1
  obtain ⟨rfl, Nq1, e1⟩ := hQ1
  have N1 := Fr.app N0 Nq1
  refine otr (S' := T1.setTop (mkF m 4 #[.val (.ref x_), .val (.int (1 : Int32))] [(.int (1 : Int32))])) st1 ?_
  refine o_ifNo X1 hx (hb hby d15_4) (feq (by decide : ¬ ((1 : Int32) = (0 : Int32)))).1 ?_
  refine o_aloadN X1 hx (hb hby d15_7) rfl rfl ?_
  obtain ⟨T2, X2, e2, st2⟩ := getF X1 hx hZ hown (host := "") (Or.inl w36) Via.refl e1 pr2 (g := (mkF m 8 #[.val (.ref x_), .val (.int (1 : Int32))] [(.ref x_)])) rfl rfl (hb hby d15_8)
  refine ogo (S' := T2.setTop (mkF m 11 #[.val (.ref x_), .val (.int (1 : Int32))] [(.ref ba_)])) st2 ?_
  refine o_iloadN X2 hx (hb hby d15_11) rfl ?_
  obtain ⟨_, _, ⟨T3, L3, kc3, n3⟩, -, X3, ⟨Lc3, hQ3, l3, y3, z3⟩, st3⟩ := Jvm.LawKit.callS X2 hx (y := yM13) hown (mvT hZ w72) (mvT hZ w73) (mvT hZ w74) (mvT hZ w75) (by decide) (backOf (W := 0) (rm_l1c_2_1 l Z a0 hw [] s_EID_CHARS cl_T z_CS v_FMT ba_ kb_ c0_ c1_ h0 n0 SB O0 pr3 pr4 pr5) hZ w75 w74 (by decide) (by decide)) (g := (mkF m 12 #[.val (.ref x_), .val (.int (1 : Int32))] [(.int (1 : Int32)), (.ref ba_)])) rfl (by rw [hml]; rfl) (argsL := [(.ref ba_), (.int (1 : Int32))]) (rest := []) (lenOf own_pd9 rfl) rfl (by show 2 * 0 + _ ≤ _; exact Nat.le_of_eq rfl) (hb hby d15_12) (fun _ _ => ⟨rfl, e2, (by decide : 0 + 0 ≤ _), (by decide : 0 + 0 ≤ _)⟩)
  dsimp only [Pt.U, Pt.locs, Pt.cells, Pt.slots] at X3 l3 y3 z3 st3 hQ3
  subst l3 y3 z3
  obtain ⟨rfl, Nq3, e3⟩ := hQ3
  have N3 := Fr.app N1 Nq3
  refine ogo (S' := T3.setTop (mkF m 15 #[.val (.ref x_), .val (.int (1 : Int32))] [(.int c1_)])) st3 ?_
  refine oend X3 hlk (v := some (.int c1_)) (fun h => by rw [hret] at h; cases h) (fun fs hr => retN X3 hx (t := .char) hret (by simp) (hb hby d15_15) (by rw [(own_narsm pr4 pr5)]; exact hr)) (by decide) (by decide) ?_
  show own_Q_cat_2_1 Z _ _ _ _ _ _ _ _ _ h0 n0 _ T3.heap _
  rw [e3]
  exact ⟨rfl, N3, rfl⟩
def own_Q_spelled_2 (Z : State) (s_EID_CHARS : Addr) (cl_T : Cell) (z_CS : Int32) (v_FMT : Value) (x_ : Addr) (ba_ : Addr) (kb_ : ClassId) (c0_ : Int32) (c1_ : Int32) (h0 : Heap) (n0 : Nat) (v : Option Value) (h : Heap) (L : List Loc) : Prop := (v = some (.int (1 : Int32))) ∧ (Fr n0 L) ∧ (h = h0)
set_option maxRecDepth 65536 in
set_option maxHeartbeats 40000000 in
theorem rm_spelled_2 (l : Launch) (Z : State) (a0 : Array Value) (hw : ∀ d ∈ tables_1, d.before a0 Z = true) (ws : List Jvm.Cond) (s_EID_CHARS : Addr) (cl_T : Cell) (z_CS : Int32) (v_FMT : Value) (x_ : Addr) (ba_ : Addr) (kb_ : ClassId) (c0_ : Int32) (c1_ : Int32) (h0 : Heap) (n0 : Nat) (SB : own_Start Z s_EID_CHARS cl_T z_CS v_FMT) (O0 : Old Z n0 h0) (pr0 : Exa Z h0 x_ "java/lang/String") (pr1 : Fld Z h0 x_ "java/lang/String" "coder" "B" (.int (0 : Int32))) (pr2 : Fld Z h0 x_ "java/lang/String" "value" "[B" (.ref ba_)) (pr3 : Arv Z h0 ba_ kb_ .byte (2 : Int32) [(.int c0_.toInt8.toInt32), (.int c1_.toInt8.toInt32)] (.int 0)) (pr4 : own_ok c0_) (pr5 : own_ok c1_) (pr6 : ¬ (c0_ < (0 : Int32))) (pr7 : ¬ (c1_ < (0 : Int32))) (pr8 : ¬ ((255 : Int32) < c0_)) (pr9 : ¬ ((255 : Int32) < c1_)) :
    oMet l Z yM15 prog_7_method_6_code 5 (some .boolean) ws ({ frames := 4, cells := 0, slots := 0, locals := 53 } : Room) 0 0 #[(.ref x_), (.int (128 : Int32)), (.ref s_EID_CHARS)] h0 (own_Q_spelled_2 Z s_EID_CHARS cl_T z_CS v_FMT x_ ba_ kb_ c0_ c1_ h0 n0) := by
  refine oenter own_pn5 #[.val (.ref x_), .val (.int (128 : Int32)), .val (.ref s_EID_CHARS), .unset, .unset] (fun m => by first | (simp [entryFrame, mkF, argsToLocals, Value.category]; done) | rfl) ?_
  intro p e s m below meth c s₁ X0 hx hZ hby hml hret hown0 hnm hlk e0
  have hown : s.vm.findClass "com/example/atomic_tally/atomictally/model/Names" = some m.cls := hown0
  have N0 := Fr.nil n0
  obtain ⟨S_s_EID_CHARS, A_T, L_T, T_T, S_CS, H_CS, S_FMT, R_FMT⟩ := (id SB)
  have w10 := hw _ (List.mem_of_getElem? (i := 10) rfl)
  have w47 := hw _ (List.mem_of_getElem? (i := 47) rfl)
  have w48 := hw _ (List.mem_of_getElem? (i := 48) rfl)
  have w49 := hw _ (List.mem_of_getElem? (i := 49) rfl)
  have w50 := hw _ (List.mem_of_getElem? (i := 50) rfl)
  have w51 := hw _ (List.mem_of_getElem? (i := 51) rfl)
  have w52 := hw _ (List.mem_of_getElem? (i := 52) rfl)
  have w53 := hw _ (List.mem_of_getElem? (i := 53) rfl)
  have w54 := hw _ (List.mem_of_getElem? (i := 54) rfl)
  have w55 := hw _ (List.mem_of_getElem? (i := 55) rfl)
  have w56 := hw _ (List.mem_of_getElem? (i := 56) rfl)
  have w62 := hw _ (List.mem_of_getElem? (i := 62) rfl)
  have w63 := hw _ (List.mem_of_getElem? (i := 63) rfl)
  have w64 := hw _ (List.mem_of_getElem? (i := 64) rfl)
  have w65 := hw _ (List.mem_of_getElem? (i := 65) rfl)
  have w66 := hw _ (List.mem_of_getElem? (i := 66) rfl)
  refine o_aloadN X0 hx (hb hby d16_0) rfl rfl ?_
  refine o_ifnullNo X0 hx (hb hby d16_1) ?_
  refine o_aloadN X0 hx (hb hby d16_4) rfl rfl ?_
  obtain ⟨cq1, kq1, q1a, q1b, q1c⟩ := isOf hZ e0 pr0
  obtain ⟨_, _, ⟨T1, L1, kc1, n1⟩, -, X1, ⟨Lc1, hQ1, l1, y1, z1⟩, st1⟩ := X0.virtualBack hx (y := yM9) (z := yM9) hown (mvT hZ w47) (mvT hZ w48) (notFace_of_selects (args := #[]) (mvT hZ w50)) (mvT hZ w50) (mvT hZ w49) (by decide) (backOf (W := 0) (rm_emp_2 l Z a0 hw []  x_ ba_ kb_ [(.int c0_.toInt8.toInt32), (.int c1_.toInt8.toInt32)] h0 n0 O0 pr0 pr1 pr2 pr3) hZ w51 w10 (by decide) (by decide)) q1a q1c (g := (mkF m 5 #[.val (.ref x_), .val (.int (128 : Int32)), .val (.ref s_EID_CHARS), .unset, .unset] [(.ref x_)])) rfl (by rw [hml]; rfl) (Steps.refl _) (argsL := []) (rest := []) (lenOf own_pd8 rfl) rfl (by show 2 * 0 + _ ≤ _; exact Nat.le_of_eq rfl) (hb hby d16_5) (fun _ _ => ⟨rfl, e0, (by decide : 0 + 0 ≤ _), (by decide : 0 + 0 ≤ _)⟩)
  dsimp only [Pt.U, Pt.locs, Pt.cells, Pt.slots] at X1 l1 y1 z1 st1 hQ1
  subst l1 y1 z1
  obtain ⟨rfl, Nq1, e1⟩ := hQ1
  have N1 := Fr.app N0 Nq1
  refine otr (S' := T1.setTop (mkF m 8 #[.val (.ref x_), .val (.int (128 : Int32)), .val (.ref s_EID_CHARS), .unset, .unset] [(.int (0 : Int32))])) st1 ?_
  refine o_ifNo X1 hx (hb hby d16_8) (teq (by decide : (0 : Int32) = (0 : Int32))).2 ?_
  refine o_aloadN X1 hx (hb hby d16_11) rfl rfl ?_
  obtain ⟨cq2, kq2, q2a, q2b, q2c⟩ := isOf hZ e1 pr0
  obtain ⟨_, _, ⟨T2, L2, kc2, n2⟩, -, X2, ⟨Lc2, hQ2, l2, y2, z2⟩, st2⟩ := X1.virtualBack hx (y := yM8) (z := yM8) hown (mvT hZ w52) (mvT hZ w53) (notFace_of_selects (args := #[]) (mvT hZ w55)) (mvT hZ w55) (mvT hZ w54) (by decide) (backOf (W := 0) (rm_len_2 l Z a0 hw [] s_EID_CHARS cl_T z_CS v_FMT x_ ba_ kb_ [(.int c0_.toInt8.toInt32), (.int c1_.toInt8.toInt32)] h0 n0 SB O0 pr0 pr1 pr2 pr3) hZ w56 w10 (by decide) (by decide)) q2a q2c (g := (mkF m 12 #[.val (.ref x_), .val (.int (128 : Int32)), .val (.ref s_EID_CHARS), .unset, .unset] [(.ref x_)])) rfl (by rw [hml]; rfl) (Steps.refl _) (argsL := []) (rest := []) (lenOf own_pd10 rfl) rfl (by show 2 * 0 + _ ≤ _; exact Nat.le_of_eq rfl) (hb hby d16_12) (fun _ _ => ⟨rfl, e1, (by decide : 0 + 0 ≤ _), (by decide : 0 + 0 ≤ _)⟩)
  dsimp only [Pt.U, Pt.locs, Pt.cells, Pt.slots] at X2 l2 y2 z2 st2 hQ2
  subst l2 y2 z2
  obtain ⟨rfl, Nq2, e2⟩ := hQ2
  have N2 := Fr.app N1 Nq2
  refine otr (S' := T2.setTop (mkF m 15 #[.val (.ref x_), .val (.int (128 : Int32)), .val (.ref s_EID_CHARS), .unset, .unset] [(.int (2 : Int32))])) st2 ?_
  refine o_iloadN X2 hx (hb hby d16_15) rfl ?_
  refine o_icmpYes X2 hx 21 (hb hby d16_16) (flt (by decide : ¬ ((128 : Int32) < (2 : Int32)))).2.2.2 (by decide) (by decide) ?_
  refine o_iconst X2 hx (0 : Int32) (hb hby d16_21) rfl ?_
  refine o_istoreN X2 hx (l' := #[.val (.ref x_), .val (.int (128 : Int32)), .val (.ref s_EID_CHARS), .val (.int (0 : Int32)), .unset]) (hb hby d16_22) rfl ?_
  refine o_iloadN X2 hx (hb hby d16_23) rfl ?_
  refine o_aloadN X2 hx (hb hby d16_24) rfl rfl ?_
  obtain ⟨cq3, kq3, q3a, q3b, q3c⟩ := isOf hZ e2 pr0
  obtain ⟨_, _, ⟨T3, L3, kc3, n3⟩, -, X3, ⟨Lc3, hQ3, l3, y3, z3⟩, st3⟩ := X2.virtualBack hx (y := yM8) (z := yM8) hown (mvT hZ w52) (mvT hZ w53) (notFace_of_selects (args := #[]) (mvT hZ w55)) (mvT hZ w55) (mvT hZ w54) (by decide) (backOf (W := 1) (rm_len_2 l Z a0 hw [] s_EID_CHARS cl_T z_CS v_FMT x_ ba_ kb_ [(.int c0_.toInt8.toInt32), (.int c1_.toInt8.toInt32)] h0 n0 SB O0 pr0 pr1 pr2 pr3) hZ w56 w10 (by decide) (by decide)) q3a q3c (g := (mkF m 25 #[.val (.ref x_), .val (.int (128 : Int32)), .val (.ref s_EID_CHARS), .val (.int (0 : Int32)), .unset] [(.ref x_), (.int (0 : Int32))])) rfl (by rw [hml]; rfl) (Steps.refl _) (argsL := []) (rest := [(.int (0 : Int32))]) (lenOf own_pd10 rfl) rfl (by show 2 * 0 + _ ≤ _; exact Nat.le_of_eq rfl) (hb hby d16_25) (fun _ _ => ⟨rfl, e2, (by decide : 0 + 0 ≤ _), (by decide : 0 + 0 ≤ _)⟩)
  dsimp only [Pt.U, Pt.locs, Pt.cells, Pt.slots] at X3 l3 y3 z3 st3 hQ3
  subst l3 y3 z3
  obtain ⟨rfl, Nq3, e3⟩ := hQ3
  have N3 := Fr.app N2 Nq3
  refine otr (S' := T3.setTop (mkF m 28 #[.val (.ref x_), .val (.int (128 : Int32)), .val (.ref s_EID_CHARS), .val (.int (0 : Int32)), .unset] [(.int (2 : Int32)), (.int (0 : Int32))])) st3 ?_
  refine o_icmpNo X3 hx (hb hby d16_28) (tlt (by decide : (0 : Int32) < (2 : Int32))).2.1 ?_
  refine o_aloadN X3 hx (hb hby d16_31) rfl rfl ?_
  refine o_iloadN X3 hx (hb hby d16_32) rfl ?_
  obtain ⟨cq4, kq4, q4a, q4b, q4c⟩ := isOf hZ e3 pr0
  obtain ⟨_, _, ⟨T4, L4, kc4, n4⟩, -, X4, ⟨Lc4, hQ4, l4, y4, z4⟩, st4⟩ := X3.virtualBack hx (y := yM14) (z := yM14) hown (mvT hZ w62) (mvT hZ w63) (notFace_of_selects (args := #[]) (mvT hZ w65)) (mvT hZ w65) (mvT hZ w64) (by decide) (backOf (W := 0) (rm_cat_2_0 l Z a0 hw [] s_EID_CHARS cl_T z_CS v_FMT x_ ba_ kb_ c0_ c1_ h0 n0 SB O0 pr0 pr1 pr2 pr3 pr6 pr8) hZ w66 w10 (by decide) (by decide)) q4a q4c (g := (mkF m 33 #[.val (.ref x_), .val (.int (128 : Int32)), .val (.ref s_EID_CHARS), .val (.int (0 : Int32)), .unset] [(.int (0 : Int32)), (.ref x_)])) rfl (by rw [hml]; rfl) (Steps.refl _) (argsL := [(.int (0 : Int32))]) (rest := []) (lenOf own_pd11 rfl) rfl (by show 2 * 0 + _ ≤ _; exact Nat.le_of_eq rfl) (hb hby d16_33) (fun _ _ => ⟨rfl, e3, (by decide : 0 + 0 ≤ _), (by decide : 0 + 0 ≤ _)⟩)
  dsimp only [Pt.U, Pt.locs, Pt.cells, Pt.slots] at X4 l4 y4 z4 st4 hQ4
  subst l4 y4 z4
  obtain ⟨rfl, Nq4, e4⟩ := hQ4
  have N4 := Fr.app N3 Nq4
  refine otr (S' := T4.setTop (mkF m 36 #[.val (.ref x_), .val (.int (128 : Int32)), .val (.ref s_EID_CHARS), .val (.int (0 : Int32)), .unset] [(.int c0_)])) st4 ?_
  refine o_istore X4 hx (l' := #[.val (.ref x_), .val (.int (128 : Int32)), .val (.ref s_EID_CHARS), .val (.int (0 : Int32)), .val (.int c0_)]) (hb hby d16_36) rfl ?_
  refine o_iload X4 hx (hb hby d16_38) rfl ?_
  refine o_aloadN X4 hx (hb hby d16_40) rfl rfl ?_
  refine ogo (S' := T4.setTop (mkF m 42 #[.val (.ref x_), .val (.int (128 : Int32)), .val (.ref s_EID_CHARS), .val (.int (0 : Int32)), .val (.int c0_)] [(.int (128 : Int32)), (.int c0_)])) (fun _ kt_ => X4.arraylength hx (by rw [e4]; exact (Arr.ext O0.2 A_T).1) (State.isArrayOf_alike hZ.alike A_T.2.1) (g := (mkF m 41 #[.val (.ref x_), .val (.int (128 : Int32)), .val (.ref s_EID_CHARS), .val (.int (0 : Int32)), .val (.int c0_)] [(.ref s_EID_CHARS), (.int c0_)])) rfl rfl (hb hby d16_41) _ (by rw [len_of L_T (by decide)]; exact kt_)) ?_
  refine o_icmpNo X4 hx (hb hby d16_42) (tlt (own_ok_128 pr4)).2.1 ?_
  refine o_aloadN X4 hx (hb hby d16_45) rfl rfl ?_
  refine o_iload X4 hx (hb hby d16_46) rfl ?_
  refine ogo (S' := T4.setTop (mkF m 49 #[.val (.ref x_), .val (.int (128 : Int32)), .val (.ref s_EID_CHARS), .val (.int (0 : Int32)), .val (.int c0_)] [(.int (1 : Int32))])) (X4.baloadBooleans hx (j := c0_) (v := (.int 1)) (by rw [e4]; exact (Arr.ext O0.2 A_T).1) (State.isArrayOf_alike hZ.alike A_T.2.1) A_T.2.2 (inb_of L_T ⟨own_ok_0 pr4, own_ok_128 pr4⟩) (T_T _ pr4) (g := (mkF m 48 #[.val (.ref x_), .val (.int (128 : Int32)), .val (.ref s_EID_CHARS), .val (.int (0 : Int32)), .val (.int c0_)] [(.int c0_), (.ref s_EID_CHARS)])) rfl rfl (hb hby d16_48)) ?_
  refine o_ifYes X4 hx 54 (hb hby d16_49) (feq (by decide : ¬ ((1 : Int32) = (0 : Int32)))).2 (by decide) (by decide) ?_
  refine o_iinc X4 hx (l' := #[.val (.ref x_), .val (.int (128 : Int32)), .val (.ref s_EID_CHARS), .val (.int (1 : Int32)), .val (.int c0_)]) (hb hby d16_54) rfl rfl ?_
  refine o_goto X4 hx 23 (hb hby d16_57) (by decide) (by decide) ?_
  refine o_iloadN X4 hx (hb hby d16_23) rfl ?_
  refine o_aloadN X4 hx (hb hby d16_24) rfl rfl ?_
  obtain ⟨cq5, kq5, q5a, q5b, q5c⟩ := isOf hZ e4 pr0
  obtain ⟨_, _, ⟨T5, L5, kc5, n5⟩, -, X5, ⟨Lc5, hQ5, l5, y5, z5⟩, st5⟩ := X4.virtualBack hx (y := yM8) (z := yM8) hown (mvT hZ w52) (mvT hZ w53) (notFace_of_selects (args := #[]) (mvT hZ w55)) (mvT hZ w55) (mvT hZ w54) (by decide) (backOf (W := 1) (rm_len_2 l Z a0 hw [] s_EID_CHARS cl_T z_CS v_FMT x_ ba_ kb_ [(.int c0_.toInt8.toInt32), (.int c1_.toInt8.toInt32)] h0 n0 SB O0 pr0 pr1 pr2 pr3) hZ w56 w10 (by decide) (by decide)) q5a q5c (g := (mkF m 25 #[.val (.ref x_), .val (.int (128 : Int32)), .val (.ref s_EID_CHARS), .val (.int (1 : Int32)), .val (.int c0_)] [(.ref x_), (.int (1 : Int32))])) rfl (by rw [hml]; rfl) (Steps.refl _) (argsL := []) (rest := [(.int (1 : Int32))]) (lenOf own_pd10 rfl) rfl (by show 2 * 0 + _ ≤ _; exact Nat.le_of_eq rfl) (hb hby d16_25) (fun _ _ => ⟨rfl, e4, (by decide : 0 + 0 ≤ _), (by decide : 0 + 0 ≤ _)⟩)
  dsimp only [Pt.U, Pt.locs, Pt.cells, Pt.slots] at X5 l5 y5 z5 st5 hQ5
  subst l5 y5 z5
  obtain ⟨rfl, Nq5, e5⟩ := hQ5
  have N5 := Fr.app N4 Nq5
  refine otr (S' := T5.setTop (mkF m 28 #[.val (.ref x_), .val (.int (128 : Int32)), .val (.ref s_EID_CHARS), .val (.int (1 : Int32)), .val (.int c0_)] [(.int (2 : Int32)), (.int (1 : Int32))])) st5 ?_
  refine o_icmpNo X5 hx (hb hby d16_28) (tlt (by decide : (1 : Int32) < (2 : Int32))).2.1 ?_
  refine o_aloadN X5 hx (hb hby d16_31) rfl rfl ?_
  refine o_iloadN X5 hx (hb hby d16_32) rfl ?_
  obtain ⟨cq6, kq6, q6a, q6b, q6c⟩ := isOf hZ e5 pr0
  obtain ⟨_, _, ⟨T6, L6, kc6, n6⟩, -, X6, ⟨Lc6, hQ6, l6, y6, z6⟩, st6⟩ := X5.virtualBack hx (y := yM14) (z := yM14) hown (mvT hZ w62) (mvT hZ w63) (notFace_of_selects (args := #[]) (mvT hZ w65)) (mvT hZ w65) (mvT hZ w64) (by decide) (backOf (W := 0) (rm_cat_2_1 l Z a0 hw [] s_EID_CHARS cl_T z_CS v_FMT x_ ba_ kb_ c0_ c1_ h0 n0 SB O0 pr0 pr1 pr2 pr3 pr7 pr9) hZ w66 w10 (by decide) (by decide)) q6a q6c (g := (mkF m 33 #[.val (.ref x_), .val (.int (128 : Int32)), .val (.ref s_EID_CHARS), .val (.int (1 : Int32)), .val (.int c0_)] [(.int (1 : Int32)), (.ref x_)])) rfl (by rw [hml]; rfl) (Steps.refl _) (argsL := [(.int (1 : Int32))]) (rest := []) (lenOf own_pd11 rfl) rfl (by show 2 * 0 + _ ≤ _; exact Nat.le_of_eq rfl) (hb hby d16_33) (fun _ _ => ⟨rfl, e5, (by decide : 0 + 0 ≤ _), (by decide : 0 + 0 ≤ _)⟩)
  dsimp only [Pt.U, Pt.locs, Pt.cells, Pt.slots] at X6 l6 y6 z6 st6 hQ6
  subst l6 y6 z6
  obtain ⟨rfl, Nq6, e6⟩ := hQ6
  have N6 := Fr.app N5 Nq6
  refine otr (S' := T6.setTop (mkF m 36 #[.val (.ref x_), .val (.int (128 : Int32)), .val (.ref s_EID_CHARS), .val (.int (1 : Int32)), .val (.int c0_)] [(.int c1_)])) st6 ?_
  refine o_istore X6 hx (l' := #[.val (.ref x_), .val (.int (128 : Int32)), .val (.ref s_EID_CHARS), .val (.int (1 : Int32)), .val (.int c1_)]) (hb hby d16_36) rfl ?_
  refine o_iload X6 hx (hb hby d16_38) rfl ?_
  refine o_aloadN X6 hx (hb hby d16_40) rfl rfl ?_
  refine ogo (S' := T6.setTop (mkF m 42 #[.val (.ref x_), .val (.int (128 : Int32)), .val (.ref s_EID_CHARS), .val (.int (1 : Int32)), .val (.int c1_)] [(.int (128 : Int32)), (.int c1_)])) (fun _ kt_ => X6.arraylength hx (by rw [e6]; exact (Arr.ext O0.2 A_T).1) (State.isArrayOf_alike hZ.alike A_T.2.1) (g := (mkF m 41 #[.val (.ref x_), .val (.int (128 : Int32)), .val (.ref s_EID_CHARS), .val (.int (1 : Int32)), .val (.int c1_)] [(.ref s_EID_CHARS), (.int c1_)])) rfl rfl (hb hby d16_41) _ (by rw [len_of L_T (by decide)]; exact kt_)) ?_
  refine o_icmpNo X6 hx (hb hby d16_42) (tlt (own_ok_128 pr5)).2.1 ?_
  refine o_aloadN X6 hx (hb hby d16_45) rfl rfl ?_
  refine o_iload X6 hx (hb hby d16_46) rfl ?_
  refine ogo (S' := T6.setTop (mkF m 49 #[.val (.ref x_), .val (.int (128 : Int32)), .val (.ref s_EID_CHARS), .val (.int (1 : Int32)), .val (.int c1_)] [(.int (1 : Int32))])) (X6.baloadBooleans hx (j := c1_) (v := (.int 1)) (by rw [e6]; exact (Arr.ext O0.2 A_T).1) (State.isArrayOf_alike hZ.alike A_T.2.1) A_T.2.2 (inb_of L_T ⟨own_ok_0 pr5, own_ok_128 pr5⟩) (T_T _ pr5) (g := (mkF m 48 #[.val (.ref x_), .val (.int (128 : Int32)), .val (.ref s_EID_CHARS), .val (.int (1 : Int32)), .val (.int c1_)] [(.int c1_), (.ref s_EID_CHARS)])) rfl rfl (hb hby d16_48)) ?_
  refine o_ifYes X6 hx 54 (hb hby d16_49) (feq (by decide : ¬ ((1 : Int32) = (0 : Int32)))).2 (by decide) (by decide) ?_
  refine o_iinc X6 hx (l' := #[.val (.ref x_), .val (.int (128 : Int32)), .val (.ref s_EID_CHARS), .val (.int (2 : Int32)), .val (.int c1_)]) (hb hby d16_54) rfl rfl ?_
  refine o_goto X6 hx 23 (hb hby d16_57) (by decide) (by decide) ?_
  refine o_iloadN X6 hx (hb hby d16_23) rfl ?_
  refine o_aloadN X6 hx (hb hby d16_24) rfl rfl ?_
  obtain ⟨cq7, kq7, q7a, q7b, q7c⟩ := isOf hZ e6 pr0
  obtain ⟨_, _, ⟨T7, L7, kc7, n7⟩, -, X7, ⟨Lc7, hQ7, l7, y7, z7⟩, st7⟩ := X6.virtualBack hx (y := yM8) (z := yM8) hown (mvT hZ w52) (mvT hZ w53) (notFace_of_selects (args := #[]) (mvT hZ w55)) (mvT hZ w55) (mvT hZ w54) (by decide) (backOf (W := 1) (rm_len_2 l Z a0 hw [] s_EID_CHARS cl_T z_CS v_FMT x_ ba_ kb_ [(.int c0_.toInt8.toInt32), (.int c1_.toInt8.toInt32)] h0 n0 SB O0 pr0 pr1 pr2 pr3) hZ w56 w10 (by decide) (by decide)) q7a q7c (g := (mkF m 25 #[.val (.ref x_), .val (.int (128 : Int32)), .val (.ref s_EID_CHARS), .val (.int (2 : Int32)), .val (.int c1_)] [(.ref x_), (.int (2 : Int32))])) rfl (by rw [hml]; rfl) (Steps.refl _) (argsL := []) (rest := [(.int (2 : Int32))]) (lenOf own_pd10 rfl) rfl (by show 2 * 0 + _ ≤ _; exact Nat.le_of_eq rfl) (hb hby d16_25) (fun _ _ => ⟨rfl, e6, (by decide : 0 + 0 ≤ _), (by decide : 0 + 0 ≤ _)⟩)
  dsimp only [Pt.U, Pt.locs, Pt.cells, Pt.slots] at X7 l7 y7 z7 st7 hQ7
  subst l7 y7 z7
  obtain ⟨rfl, Nq7, e7⟩ := hQ7
  have N7 := Fr.app N6 Nq7
  refine otr (S' := T7.setTop (mkF m 28 #[.val (.ref x_), .val (.int (128 : Int32)), .val (.ref s_EID_CHARS), .val (.int (2 : Int32)), .val (.int c1_)] [(.int (2 : Int32)), (.int (2 : Int32))])) st7 ?_
  refine o_icmpYes X7 hx 60 (hb hby d16_28) (flt (by decide : ¬ ((2 : Int32) < (2 : Int32)))).2.1 (by decide) (by decide) ?_
  refine o_iconst X7 hx (1 : Int32) (hb hby d16_60) rfl ?_
  refine oend X7 hlk (v := some (.int (1 : Int32))) (fun h => by rw [hret] at h; cases h) (fun fs hr => retN X7 hx (t := .boolean) hret (by simp) (hb hby d16_61) hr) (by decide) (by decide) ?_
  show own_Q_spelled_2 Z _ _ _ _ _ _ _ _ _ h0 n0 _ T7.heap _
  rw [e7]
  exact ⟨rfl, N7, rfl⟩
def own_Q_len_3 (Z : State) (s_EID_CHARS : Addr) (cl_T : Cell) (z_CS : Int32) (v_FMT : Value) (x_ : Addr) (ba_ : Addr) (kb_ : ClassId) (vs_ : List Value) (h0 : Heap) (n0 : Nat) (v : Option Value) (h : Heap) (L : List Loc) : Prop := (v = some (.int (3 : Int32))) ∧ (Fr n0 L) ∧ (h = h0)
set_option maxRecDepth 65536 in
set_option maxHeartbeats 40000000 in
theorem rm_len_3 (l : Launch) (Z : State) (a0 : Array Value) (hw : ∀ d ∈ tables_1, d.before a0 Z = true) (ws : List Jvm.Cond) (s_EID_CHARS : Addr) (cl_T : Cell) (z_CS : Int32) (v_FMT : Value) (x_ : Addr) (ba_ : Addr) (kb_ : ClassId) (vs_ : List Value) (h0 : Heap) (n0 : Nat) (SB : own_Start Z s_EID_CHARS cl_T z_CS v_FMT) (O0 : Old Z n0 h0) (pr0 : Exa Z h0 x_ "java/lang/String") (pr1 : Fld Z h0 x_ "java/lang/String" "coder" "B" (.int (0 : Int32))) (pr2 : Fld Z h0 x_ "java/lang/String" "value" "[B" (.ref ba_)) (pr3 : Arv Z h0 ba_ kb_ .byte (3 : Int32) vs_ (.int 0)) :
    oMet l Z yM8 jdk_42_method_54_code 1 (some .int) ws ({ frames := 1, cells := 0, slots := 0, locals := 13 } : Room) 0 0 #[(.ref x_)] h0 (own_Q_len_3 Z s_EID_CHARS cl_T z_CS v_FMT x_ ba_ kb_ vs_ h0 n0) := by
  refine oenter own_pn2 #[.val (.ref x_)] (fun m => by first | (simp [entryFrame, mkF, argsToLocals, Value.category]; done) | rfl) ?_
  intro p e s m below meth c s₁ X0 hx hZ hby hml hret hown0 hnm hlk e0
  have hown : s.vm.findClass "java/lang/String" = some m.cls := hown0
  have N0 := Fr.nil n0
  obtain ⟨S_s_EID_CHARS, A_T, L_T, T_T, S_CS, H_CS, S_FMT, R_FMT⟩ := (id SB)
  have w10 := hw _ (List.mem_of_getElem? (i := 10) rfl)
  have w36 := hw _ (List.mem_of_getElem? (i := 36) rfl)
  have w57 := hw _ (List.mem_of_getElem? (i := 57) rfl)
  have w58 := hw _ (List.mem_of_getElem? (i := 58) rfl)
  have w59 := hw _ (List.mem_of_getElem? (i := 59) rfl)
  have w60 := hw _ (List.mem_of_getElem? (i := 60) rfl)
  have w61 := hw _ (List.mem_of_getElem? (i := 61) rfl)
  refine o_aloadN X0 hx (hb hby d9_0) rfl rfl ?_
  obtain ⟨T1, X1, e1, st1⟩ := getF X0 hx hZ hown (host := "") (Or.inl w36) Via.refl e0 pr2 (g := (mkF m 1 #[.val (.ref x_)] [(.ref x_)])) rfl rfl (hb hby d9_1)
  refine ogo (S' := T1.setTop (mkF m 4 #[.val (.ref x_)] [(.ref ba_)])) st1 ?_
  obtain ⟨cl2, Ar2, -, S2, N2z, -, -⟩ := (id pr3)
  refine ogo (S' := T1.setTop (mkF m 5 #[.val (.ref x_)] [(.int (3 : Int32))])) (fun _ kt_ => X1.arraylength hx (by rw [e1]; exact Ar2.1) (State.isArrayOf_alike hZ.alike Ar2.2.1) (g := (mkF m 4 #[.val (.ref x_)] [(.ref ba_)])) rfl rfl (hb hby d9_4) _ (by rw [len_of S2 N2z]; exact kt_)) ?_
  refine o_aloadN X1 hx (hb hby d9_5) rfl rfl ?_
  obtain ⟨cq3, kq3, q3a, q3b, q3c⟩ := isOf hZ e1 pr0
  obtain ⟨_, _, ⟨T3, L3, kc3, n3⟩, -, X3, ⟨Lc3, hQ3, l3, y3, z3⟩, st3⟩ := X1.virtualBack hx (y := yM7) (z := yM7) hown (mvT hZ w57) (mvT hZ w58) (notFace_of_selects (args := #[]) (mvT hZ w60)) (mvT hZ w60) (mvT hZ w59) (by decide) (backOf (W := 1) (rm_coder l Z a0 hw [] s_EID_CHARS cl_T z_CS v_FMT x_ h0 n0 SB O0 pr1) hZ w61 w10 (by decide) (by decide)) q3a q3c (g := (mkF m 6 #[.val (.ref x_)] [(.ref x_), (.int (3 : Int32))])) rfl (by rw [hml]; rfl) (Steps.refl _) (argsL := []) (rest := [(.int (3 : Int32))]) (lenOf own_pd5 rfl) rfl (by show 2 * 0 + _ ≤ _; exact Nat.le_of_eq rfl) (hb hby d9_6) (fun _ _ => ⟨rfl, e1, (by decide : 0 + 0 ≤ _), (by decide : 0 + 0 ≤ _)⟩)
  dsimp only [Pt.U, Pt.locs, Pt.cells, Pt.slots] at X3 l3 y3 z3 st3 hQ3
  subst l3 y3 z3
  obtain ⟨rfl, Nq3, e3⟩ := hQ3
  have N3 := Fr.app N0 Nq3
  refine otr (S' := T3.setTop (mkF m 9 #[.val (.ref x_)] [(.int (0 : Int32)), (.int (3 : Int32))])) st3 ?_
  refine o_ishr X3 hx (hb hby d9_9) ?_
  refine oend X3 hlk (v := some (.int (3 : Int32))) (fun h => by rw [hret] at h; cases h) (fun fs hr => retOut X3 hx (t := .int) (i := .ireturn) hret rfl (Or.inl ⟨rfl, Or.inl rfl, _, rfl⟩) (hb hby d9_10) hr) (by decide) (by decide) ?_
  show own_Q_len_3 Z _ _ _ _ _ _ _ _ h0 n0 _ T3.heap _
  rw [e3]
  exact ⟨rfl, N3, rfl⟩
def own_Q_emp_3 (Z : State)  (x_ : Addr) (ba_ : Addr) (kb_ : ClassId) (vs_ : List Value) (h0 : Heap) (n0 : Nat) (v : Option Value) (h : Heap) (L : List Loc) : Prop := (v = some (.int (0 : Int32))) ∧ (Fr n0 L) ∧ (h = h0)
set_option maxRecDepth 65536 in
set_option maxHeartbeats 40000000 in
theorem rm_emp_3 (l : Launch) (Z : State) (a0 : Array Value) (hw : ∀ d ∈ tables_1, d.before a0 Z = true) (ws : List Jvm.Cond)  (x_ : Addr) (ba_ : Addr) (kb_ : ClassId) (vs_ : List Value) (h0 : Heap) (n0 : Nat) (O0 : Old Z n0 h0) (pr0 : Exa Z h0 x_ "java/lang/String") (pr1 : Fld Z h0 x_ "java/lang/String" "coder" "B" (.int (0 : Int32))) (pr2 : Fld Z h0 x_ "java/lang/String" "value" "[B" (.ref ba_)) (pr3 : Arv Z h0 ba_ kb_ .byte (3 : Int32) vs_ (.int 0)) :
    oMet l Z yM9 jdk_42_method_55_code 1 (some .boolean) ws ({ frames := 0, cells := 0, slots := 0, locals := 0 } : Room) 0 0 #[(.ref x_)] h0 (own_Q_emp_3 Z  x_ ba_ kb_ vs_ h0 n0) := by
  refine oenter own_pn2 #[.val (.ref x_)] (fun m => by first | (simp [entryFrame, mkF, argsToLocals, Value.category]; done) | rfl) ?_
  intro p e s m below meth c s₁ X0 hx hZ hby hml hret hown0 hnm hlk e0
  have hown : s.vm.findClass "java/lang/String" = some m.cls := hown0
  have N0 := Fr.nil n0
  have w36 := hw _ (List.mem_of_getElem? (i := 36) rfl)
  refine o_aloadN X0 hx (hb hby d10_0) rfl rfl ?_
  obtain ⟨T1, X1, e1, st1⟩ := getF X0 hx hZ hown (host := "") (Or.inl w36) Via.refl e0 pr2 (g := (mkF m 1 #[.val (.ref x_)] [(.ref x_)])) rfl rfl (hb hby d10_1)
  refine ogo (S' := T1.setTop (mkF m 4 #[.val (.ref x_)] [(.ref ba_)])) st1 ?_
  obtain ⟨cl2, Ar2, -, S2, N2z, -, -⟩ := (id pr3)
  refine ogo (S' := T1.setTop (mkF m 5 #[.val (.ref x_)] [(.int (3 : Int32))])) (fun _ kt_ => X1.arraylength hx (by rw [e1]; exact Ar2.1) (State.isArrayOf_alike hZ.alike Ar2.2.1) (g := (mkF m 4 #[.val (.ref x_)] [(.ref ba_)])) rfl rfl (hb hby d10_4) _ (by rw [len_of S2 N2z]; exact kt_)) ?_
  refine o_ifYes X1 hx 12 (hb hby d10_5) (feq (by decide : ¬ ((3 : Int32) = (0 : Int32)))).2 (by decide) (by decide) ?_
  refine o_iconst X1 hx (0 : Int32) (hb hby d10_12) rfl ?_
  refine oend X1 hlk (v := some (.int (0 : Int32))) (fun h => by rw [hret] at h; cases h) (fun fs hr => retN X1 hx (t := .boolean) hret (by simp) (hb hby d10_13) hr) (by decide) (by decide) ?_
  show own_Q_emp_3 Z _ _ _ _ h0 n0 _ T1.heap _
  rw [e1]
  exact ⟨rfl, N0, rfl⟩
def own_Q_l1c_3_0 (Z : State) (s_EID_CHARS : Addr) (cl_T : Cell) (z_CS : Int32) (v_FMT : Value) (ba_ : Addr) (kb_ : ClassId) (c0_ : Int32) (c1_ : Int32) (c2_ : Int32) (h0 : Heap) (n0 : Nat) (v : Option Value) (h : Heap) (L : List Loc) : Prop := (v = some (.int c0_)) ∧ (Fr n0 L) ∧ (h = h0)
set_option maxRecDepth 65536 in
set_option maxHeartbeats 40000000 in
theorem rm_l1c_3_0 (l : Launch) (Z : State) (a0 : Array Value) (hw : ∀ d ∈ tables_1, d.before a0 Z = true) (ws : List Jvm.Cond) (s_EID_CHARS : Addr) (cl_T : Cell) (z_CS : Int32) (v_FMT : Value) (ba_ : Addr) (kb_ : ClassId) (c0_ : Int32) (c1_ : Int32) (c2_ : Int32) (h0 : Heap) (n0 : Nat) (SB : own_Start Z s_EID_CHARS cl_T z_CS v_FMT) (O0 : Old Z n0 h0) (pr0 : Arv Z h0 ba_ kb_ .byte (3 : Int32) [(.int c0_.toInt8.toInt32), (.int c1_.toInt8.toInt32), (.int c2_.toInt8.toInt32)] (.int 0)) (pr1 : ¬ (c0_ < (0 : Int32))) (pr2 : ¬ ((255 : Int32) < c0_)) :
    oMet l Z yM13 jdk_43_method_2_code 2 (some .char) ws ({ frames := 2, cells := 0, slots := 0, locals := 27 } : Room) 0 0 #[(.ref ba_), (.int (0 : Int32))] h0 (own_Q_l1c_3_0 Z s_EID_CHARS cl_T z_CS v_FMT ba_ kb_ c0_ c1_ c2_ h0 n0) := by
  refine oenter own_pn4 #[.val (.ref ba_), .val (.int (0 : Int32))] (fun m => by first | (simp [entryFrame, mkF, argsToLocals, Value.category]; done) | rfl) ?_
  intro p e s m below meth c s₁ X0 hx hZ hby hml hret hown0 hnm hlk e0
  have hown : s.vm.findClass "java/lang/StringLatin1" = some m.cls := hown0
  have N0 := Fr.nil n0
  obtain ⟨S_s_EID_CHARS, A_T, L_T, T_T, S_CS, H_CS, S_FMT, R_FMT⟩ := (id SB)
  have w10 := hw _ (List.mem_of_getElem? (i := 10) rfl)
  have w76 := hw _ (List.mem_of_getElem? (i := 76) rfl)
  have w77 := hw _ (List.mem_of_getElem? (i := 77) rfl)
  have w78 := hw _ (List.mem_of_getElem? (i := 78) rfl)
  refine o_iloadN X0 hx (hb hby d14_0) rfl ?_
  refine o_aloadN X0 hx (hb hby d14_1) rfl rfl ?_
  obtain ⟨cl1, Ar1, -, S1, N1z, -, -⟩ := (id pr0)
  refine ogo (S' := s₁.setTop (mkF m 3 #[.val (.ref ba_), .val (.int (0 : Int32))] [(.int (3 : Int32)), (.int (0 : Int32))])) (fun _ kt_ => X0.arraylength hx (by rw [e0]; exact Ar1.1) (State.isArrayOf_alike hZ.alike Ar1.2.1) (g := (mkF m 2 #[.val (.ref ba_), .val (.int (0 : Int32))] [(.ref ba_), (.int (0 : Int32))])) rfl rfl (hb hby d14_2) _ (by rw [len_of S1 N1z]; exact kt_)) ?_
  obtain ⟨_, _, ⟨T2, L2, kc2, n2⟩, -, X2, ⟨Lc2, hQ2, l2, y2, z2⟩, st2⟩ := Jvm.LawKit.callS X0 hx (y := yM12) hown (mvT hZ w76) (mvT hZ w77) (mvT hZ w10) (mvT hZ w78) (by decide) (backOf (W := 0) (rm_sci l Z a0 hw [] s_EID_CHARS cl_T z_CS v_FMT (0 : Int32) (3 : Int32) h0 n0 SB O0 (by decide) (by decide)) hZ w78 w10 (by decide) (by decide)) (g := (mkF m 3 #[.val (.ref ba_), .val (.int (0 : Int32))] [(.int (3 : Int32)), (.int (0 : Int32))])) rfl (by rw [hml]; rfl) (argsL := [(.int (0 : Int32)), (.int (3 : Int32))]) (rest := []) (lenOf own_pd7 rfl) rfl (by show 2 * 0 + _ ≤ _; exact Nat.le_of_eq rfl) (hb hby d14_3) (fun _ _ => ⟨rfl, e0, (by decide : 0 + 0 ≤ _), (by decide : 0 + 0 ≤ _)⟩)
  dsimp only [Pt.U, Pt.locs, Pt.cells, Pt.slots] at X2 l2 y2 z2 st2 hQ2
  subst l2 y2 z2
  obtain ⟨rfl, Nq2, e2⟩ := hQ2
  have N2 := Fr.app N0 Nq2
  refine ogo (S' := T2.setTop (mkF m 6 #[.val (.ref ba_), .val (.int (0 : Int32))] [])) st2 ?_
  refine o_aloadN X2 hx (hb hby d14_6) rfl rfl ?_
  refine o_iloadN X2 hx (hb hby d14_7) rfl ?_
  obtain ⟨cl3, Ar3, q3, S3, N3z, H3, G3⟩ := (id pr0)
  have hi3 := inb_of (j := (0 : Int32)) S3 ⟨by decide, by decide⟩
  have ha3 := Has.at (v := (.int c0_.toInt8.toInt32)) H3 hi3 rfl
  refine ogo (S' := T2.setTop (mkF m 9 #[.val (.ref ba_), .val (.int (0 : Int32))] [(.int c0_.toInt8.toInt32)])) (X2.baloadBytes hx (j := (0 : Int32)) (v := (.int c0_.toInt8.toInt32)) (by rw [e2]; exact Ar3.1) (State.isArrayOf_alike hZ.alike Ar3.2.1) Ar3.2.2 hi3 ha3 (g := (mkF m 8 #[.val (.ref ba_), .val (.int (0 : Int32))] [(.int (0 : Int32)), (.ref ba_)])) rfl rfl (hb hby d14_8)) ?_
  refine o_sipush X2 hx (255 : Int32) (hb hby d14_9) rfl ?_
  refine o_iand X2 hx (hb hby d14_12) ?_
  refine o_i2c X2 hx (hb hby d14_13) ?_
  rw [own_char pr1 pr2]
  refine oend X2 hlk (v := some (.int c0_)) (fun h => by rw [hret] at h; cases h) (fun fs hr => retN X2 hx (t := .char) hret (by simp) (hb hby d14_14) (by rw [(own_narsm pr1 pr2)]; exact hr)) (by decide) (by decide) ?_
  show own_Q_l1c_3_0 Z _ _ _ _ _ _ _ _ _ h0 n0 _ T2.heap _
  rw [e2]
  exact ⟨rfl, N2, rfl⟩
def own_Q_cat_3_0 (Z : State) (s_EID_CHARS : Addr) (cl_T : Cell) (z_CS : Int32) (v_FMT : Value) (x_ : Addr) (ba_ : Addr) (kb_ : ClassId) (c0_ : Int32) (c1_ : Int32) (c2_ : Int32) (h0 : Heap) (n0 : Nat) (v : Option Value) (h : Heap) (L : List Loc) : Prop := (v = some (.int c0_)) ∧ (Fr n0 L) ∧ (h = h0)
set_option maxRecDepth 65536 in
set_option maxHeartbeats 40000000 in
theorem rm_cat_3_0 (l : Launch) (Z : State) (a0 : Array Value) (hw : ∀ d ∈ tables_1, d.before a0 Z = true) (ws : List Jvm.Cond) (s_EID_CHARS : Addr) (cl_T : Cell) (z_CS : Int32) (v_FMT : Value) (x_ : Addr) (ba_ : Addr) (kb_ : ClassId) (c0_ : Int32) (c1_ : Int32) (c2_ : Int32) (h0 : Heap) (n0 : Nat) (SB : own_Start Z s_EID_CHARS cl_T z_CS v_FMT) (O0 : Old Z n0 h0) (pr0 : Exa Z h0 x_ "java/lang/String") (pr1 : Fld Z h0 x_ "java/lang/String" "coder" "B" (.int (0 : Int32))) (pr2 : Fld Z h0 x_ "java/lang/String" "value" "[B" (.ref ba_)) (pr3 : Arv Z h0 ba_ kb_ .byte (3 : Int32) [(.int c0_.toInt8.toInt32), (.int c1_.toInt8.toInt32), (.int c2_.toInt8.toInt32)] (.int 0)) (pr4 : ¬ (c0_ < (0 : Int32))) (pr5 : ¬ ((255 : Int32) < c0_)) :
    oMet l Z yM14 jdk_42_method_56_code 2 (some .char) ws ({ frames := 3, cells := 0, slots := 0, locals := 40 } : Room) 0 0 #[(.ref x_), (.int (0 : Int32))] h0 (own_Q_cat_3_0 Z s_EID_CHARS cl_T z_CS v_FMT x_ ba_ kb_ c0_ c1_ c2_ h0 n0) := by
  refine oenter own_pn2 #[.val (.ref x_), .val (.int (0 : Int32))] (fun m => by first | (simp [entryFrame, mkF, argsToLocals, Value.category]; done) | rfl) ?_
  intro p e s m below meth c s₁ X0 hx hZ hby hml hret hown0 hnm hlk e0
  have hown : s.vm.findClass "java/lang/String" = some m.cls := hown0
  have N0 := Fr.nil n0
  obtain ⟨S_s_EID_CHARS, A_T, L_T, T_T, S_CS, H_CS, S_FMT, R_FMT⟩ := (id SB)
  have w10 := hw _ (List.mem_of_getElem? (i := 10) rfl)
  have w36 := hw _ (List.mem_of_getElem? (i := 36) rfl)
  have w67 := hw _ (List.mem_of_getElem? (i := 67) rfl)
  have w68 := hw _ (List.mem_of_getElem? (i := 68) rfl)
  have w69 := hw _ (List.mem_of_getElem? (i := 69) rfl)
  have w70 := hw _ (List.mem_of_getElem? (i := 70) rfl)
  have w71 := hw _ (List.mem_of_getElem? (i := 71) rfl)
  have w72 := hw _ (List.mem_of_getElem? (i := 72) rfl)
  have w73 := hw _ (List.mem_of_getElem? (i := 73) rfl)
  have w74 := hw _ (List.mem_of_getElem? (i := 74) rfl)
  have w75 := hw _ (List.mem_of_getElem? (i := 75) rfl)
  refine o_aloadN X0 hx (hb hby d15_0) rfl rfl ?_
  obtain ⟨cq1, kq1, q1a, q1b, q1c⟩ := isOf hZ e0 pr0
  obtain ⟨_, _, ⟨T1, L1, kc1, n1⟩, -, X1, ⟨Lc1, hQ1, l1, y1, z1⟩, st1⟩ := X0.virtualBack hx (y := yM10) (z := yM10) hown (mvT hZ w67) (mvT hZ w68) (notFace_of_selects (args := #[]) (mvT hZ w70)) (mvT hZ w70) (mvT hZ w69) (by decide) (backOf (W := 0) (rm_isl1 l Z a0 hw [] s_EID_CHARS cl_T z_CS v_FMT x_ h0 n0 SB O0 pr1) hZ w71 w10 (by decide) (by decide)) q1a q1c (g := (mkF m 1 #[.val (.ref x_), .val (.int (0 : Int32))] [(.ref x_)])) rfl (by rw [hml]; rfl) (Steps.refl _) (argsL := []) (rest := []) (lenOf own_pd8 rfl) rfl (by show 2 * 0 + _ ≤ _; exact Nat.le_of_eq rfl) (hb hby d15_1) (fun _ _ => ⟨rfl, e0, (by decide : 0 + 0 ≤ _), (by decide : 0 + 0 ≤ _)⟩)
  dsimp only [Pt.U, Pt.locs, Pt.cells, Pt.slots] at X1 l1 y1 z1 st1 hQ1
  subst l1 y1 z1
  obtain ⟨rfl, Nq1, e1⟩ := hQ1
  have N1 := Fr.app N0 Nq1
  refine otr (S' := T1.setTop (mkF m 4 #[.val (.ref x_), .val (.int (0 : Int32))] [(.int (1 : Int32))])) st1 ?_
  refine o_ifNo X1 hx (hb hby d15_4) (feq (by decide : ¬ ((1 : Int32) = (0 : Int32)))).1 ?_
  refine o_aloadN X1 hx (hb hby d15_7) rfl rfl ?_
  obtain ⟨T2, X2, e2, st2⟩ := getF X1 hx hZ hown (host := "") (Or.inl w36) Via.refl e1 pr2 (g := (mkF m 8 #[.val (.ref x_), .val (.int (0 : Int32))] [(.ref x_)])) rfl rfl (hb hby d15_8)
  refine ogo (S' := T2.setTop (mkF m 11 #[.val (.ref x_), .val (.int (0 : Int32))] [(.ref ba_)])) st2 ?_
  refine o_iloadN X2 hx (hb hby d15_11) rfl ?_
  obtain ⟨_, _, ⟨T3, L3, kc3, n3⟩, -, X3, ⟨Lc3, hQ3, l3, y3, z3⟩, st3⟩ := Jvm.LawKit.callS X2 hx (y := yM13) hown (mvT hZ w72) (mvT hZ w73) (mvT hZ w74) (mvT hZ w75) (by decide) (backOf (W := 0) (rm_l1c_3_0 l Z a0 hw [] s_EID_CHARS cl_T z_CS v_FMT ba_ kb_ c0_ c1_ c2_ h0 n0 SB O0 pr3 pr4 pr5) hZ w75 w74 (by decide) (by decide)) (g := (mkF m 12 #[.val (.ref x_), .val (.int (0 : Int32))] [(.int (0 : Int32)), (.ref ba_)])) rfl (by rw [hml]; rfl) (argsL := [(.ref ba_), (.int (0 : Int32))]) (rest := []) (lenOf own_pd9 rfl) rfl (by show 2 * 0 + _ ≤ _; exact Nat.le_of_eq rfl) (hb hby d15_12) (fun _ _ => ⟨rfl, e2, (by decide : 0 + 0 ≤ _), (by decide : 0 + 0 ≤ _)⟩)
  dsimp only [Pt.U, Pt.locs, Pt.cells, Pt.slots] at X3 l3 y3 z3 st3 hQ3
  subst l3 y3 z3
  obtain ⟨rfl, Nq3, e3⟩ := hQ3
  have N3 := Fr.app N1 Nq3
  refine ogo (S' := T3.setTop (mkF m 15 #[.val (.ref x_), .val (.int (0 : Int32))] [(.int c0_)])) st3 ?_
  refine oend X3 hlk (v := some (.int c0_)) (fun h => by rw [hret] at h; cases h) (fun fs hr => retN X3 hx (t := .char) hret (by simp) (hb hby d15_15) (by rw [(own_narsm pr4 pr5)]; exact hr)) (by decide) (by decide) ?_
  show own_Q_cat_3_0 Z _ _ _ _ _ _ _ _ _ _ h0 n0 _ T3.heap _
  rw [e3]
  exact ⟨rfl, N3, rfl⟩
def own_Q_l1c_3_1 (Z : State) (s_EID_CHARS : Addr) (cl_T : Cell) (z_CS : Int32) (v_FMT : Value) (ba_ : Addr) (kb_ : ClassId) (c0_ : Int32) (c1_ : Int32) (c2_ : Int32) (h0 : Heap) (n0 : Nat) (v : Option Value) (h : Heap) (L : List Loc) : Prop := (v = some (.int c1_)) ∧ (Fr n0 L) ∧ (h = h0)
set_option maxRecDepth 65536 in
set_option maxHeartbeats 40000000 in
theorem rm_l1c_3_1 (l : Launch) (Z : State) (a0 : Array Value) (hw : ∀ d ∈ tables_1, d.before a0 Z = true) (ws : List Jvm.Cond) (s_EID_CHARS : Addr) (cl_T : Cell) (z_CS : Int32) (v_FMT : Value) (ba_ : Addr) (kb_ : ClassId) (c0_ : Int32) (c1_ : Int32) (c2_ : Int32) (h0 : Heap) (n0 : Nat) (SB : own_Start Z s_EID_CHARS cl_T z_CS v_FMT) (O0 : Old Z n0 h0) (pr0 : Arv Z h0 ba_ kb_ .byte (3 : Int32) [(.int c0_.toInt8.toInt32), (.int c1_.toInt8.toInt32), (.int c2_.toInt8.toInt32)] (.int 0)) (pr1 : ¬ (c1_ < (0 : Int32))) (pr2 : ¬ ((255 : Int32) < c1_)) :
    oMet l Z yM13 jdk_43_method_2_code 2 (some .char) ws ({ frames := 2, cells := 0, slots := 0, locals := 27 } : Room) 0 0 #[(.ref ba_), (.int (1 : Int32))] h0 (own_Q_l1c_3_1 Z s_EID_CHARS cl_T z_CS v_FMT ba_ kb_ c0_ c1_ c2_ h0 n0) := by
  refine oenter own_pn4 #[.val (.ref ba_), .val (.int (1 : Int32))] (fun m => by first | (simp [entryFrame, mkF, argsToLocals, Value.category]; done) | rfl) ?_
  intro p e s m below meth c s₁ X0 hx hZ hby hml hret hown0 hnm hlk e0
  have hown : s.vm.findClass "java/lang/StringLatin1" = some m.cls := hown0
  have N0 := Fr.nil n0
  obtain ⟨S_s_EID_CHARS, A_T, L_T, T_T, S_CS, H_CS, S_FMT, R_FMT⟩ := (id SB)
  have w10 := hw _ (List.mem_of_getElem? (i := 10) rfl)
  have w76 := hw _ (List.mem_of_getElem? (i := 76) rfl)
  have w77 := hw _ (List.mem_of_getElem? (i := 77) rfl)
  have w78 := hw _ (List.mem_of_getElem? (i := 78) rfl)
  refine o_iloadN X0 hx (hb hby d14_0) rfl ?_
  refine o_aloadN X0 hx (hb hby d14_1) rfl rfl ?_
  obtain ⟨cl1, Ar1, -, S1, N1z, -, -⟩ := (id pr0)
  refine ogo (S' := s₁.setTop (mkF m 3 #[.val (.ref ba_), .val (.int (1 : Int32))] [(.int (3 : Int32)), (.int (1 : Int32))])) (fun _ kt_ => X0.arraylength hx (by rw [e0]; exact Ar1.1) (State.isArrayOf_alike hZ.alike Ar1.2.1) (g := (mkF m 2 #[.val (.ref ba_), .val (.int (1 : Int32))] [(.ref ba_), (.int (1 : Int32))])) rfl rfl (hb hby d14_2) _ (by rw [len_of S1 N1z]; exact kt_)) ?_
  obtain ⟨_, _, ⟨T2, L2, kc2, n2⟩, -, X2, ⟨Lc2, hQ2, l2, y2, z2⟩, st2⟩ := Jvm.LawKit.callS X0 hx (y := yM12) hown (mvT hZ w76) (mvT hZ w77) (mvT hZ w10) (mvT hZ w78) (by decide) (backOf (W := 0) (rm_sci l Z a0 hw [] s_EID_CHARS cl_T z_CS v_FMT (1 : Int32) (3 : Int32) h0 n0 SB O0 (by decide) (by decide)) hZ w78 w10 (by decide) (by decide)) (g := (mkF m 3 #[.val (.ref ba_), .val (.int (1 : Int32))] [(.int (3 : Int32)), (.int (1 : Int32))])) rfl (by rw [hml]; rfl) (argsL := [(.int (1 : Int32)), (.int (3 : Int32))]) (rest := []) (lenOf own_pd7 rfl) rfl (by show 2 * 0 + _ ≤ _; exact Nat.le_of_eq rfl) (hb hby d14_3) (fun _ _ => ⟨rfl, e0, (by decide : 0 + 0 ≤ _), (by decide : 0 + 0 ≤ _)⟩)
  dsimp only [Pt.U, Pt.locs, Pt.cells, Pt.slots] at X2 l2 y2 z2 st2 hQ2
  subst l2 y2 z2
  obtain ⟨rfl, Nq2, e2⟩ := hQ2
  have N2 := Fr.app N0 Nq2
  refine ogo (S' := T2.setTop (mkF m 6 #[.val (.ref ba_), .val (.int (1 : Int32))] [])) st2 ?_
  refine o_aloadN X2 hx (hb hby d14_6) rfl rfl ?_
  refine o_iloadN X2 hx (hb hby d14_7) rfl ?_
  obtain ⟨cl3, Ar3, q3, S3, N3z, H3, G3⟩ := (id pr0)
  have hi3 := inb_of (j := (1 : Int32)) S3 ⟨by decide, by decide⟩
  have ha3 := Has.at (v := (.int c1_.toInt8.toInt32)) H3 hi3 rfl
  refine ogo (S' := T2.setTop (mkF m 9 #[.val (.ref ba_), .val (.int (1 : Int32))] [(.int c1_.toInt8.toInt32)])) (X2.baloadBytes hx (j := (1 : Int32)) (v := (.int c1_.toInt8.toInt32)) (by rw [e2]; exact Ar3.1) (State.isArrayOf_alike hZ.alike Ar3.2.1) Ar3.2.2 hi3 ha3 (g := (mkF m 8 #[.val (.ref ba_), .val (.int (1 : Int32))] [(.int (1 : Int32)), (.ref ba_)])) rfl rfl (hb hby d14_8)) ?_
  refine o_sipush X2 hx (255 : Int32) (hb hby d14_9) rfl ?_
  refine o_iand X2 hx (hb hby d14_12) ?_
  refine o_i2c X2 hx (hb hby d14_13) ?_
  rw [own_char pr1 pr2]
  refine oend X2 hlk (v := some (.int c1_)) (fun h => by rw [hret] at h; cases h) (fun fs hr => retN X2 hx (t := .char) hret (by simp) (hb hby d14_14) (by rw [(own_narsm pr1 pr2)]; exact hr)) (by decide) (by decide) ?_
  show own_Q_l1c_3_1 Z _ _ _ _ _ _ _ _ _ h0 n0 _ T2.heap _
  rw [e2]
  exact ⟨rfl, N2, rfl⟩
def own_Q_cat_3_1 (Z : State) (s_EID_CHARS : Addr) (cl_T : Cell) (z_CS : Int32) (v_FMT : Value) (x_ : Addr) (ba_ : Addr) (kb_ : ClassId) (c0_ : Int32) (c1_ : Int32) (c2_ : Int32) (h0 : Heap) (n0 : Nat) (v : Option Value) (h : Heap) (L : List Loc) : Prop := (v = some (.int c1_)) ∧ (Fr n0 L) ∧ (h = h0)
set_option maxRecDepth 65536 in
set_option maxHeartbeats 40000000 in
theorem rm_cat_3_1 (l : Launch) (Z : State) (a0 : Array Value) (hw : ∀ d ∈ tables_1, d.before a0 Z = true) (ws : List Jvm.Cond) (s_EID_CHARS : Addr) (cl_T : Cell) (z_CS : Int32) (v_FMT : Value) (x_ : Addr) (ba_ : Addr) (kb_ : ClassId) (c0_ : Int32) (c1_ : Int32) (c2_ : Int32) (h0 : Heap) (n0 : Nat) (SB : own_Start Z s_EID_CHARS cl_T z_CS v_FMT) (O0 : Old Z n0 h0) (pr0 : Exa Z h0 x_ "java/lang/String") (pr1 : Fld Z h0 x_ "java/lang/String" "coder" "B" (.int (0 : Int32))) (pr2 : Fld Z h0 x_ "java/lang/String" "value" "[B" (.ref ba_)) (pr3 : Arv Z h0 ba_ kb_ .byte (3 : Int32) [(.int c0_.toInt8.toInt32), (.int c1_.toInt8.toInt32), (.int c2_.toInt8.toInt32)] (.int 0)) (pr4 : ¬ (c1_ < (0 : Int32))) (pr5 : ¬ ((255 : Int32) < c1_)) :
    oMet l Z yM14 jdk_42_method_56_code 2 (some .char) ws ({ frames := 3, cells := 0, slots := 0, locals := 40 } : Room) 0 0 #[(.ref x_), (.int (1 : Int32))] h0 (own_Q_cat_3_1 Z s_EID_CHARS cl_T z_CS v_FMT x_ ba_ kb_ c0_ c1_ c2_ h0 n0) := by
  refine oenter own_pn2 #[.val (.ref x_), .val (.int (1 : Int32))] (fun m => by first | (simp [entryFrame, mkF, argsToLocals, Value.category]; done) | rfl) ?_
  intro p e s m below meth c s₁ X0 hx hZ hby hml hret hown0 hnm hlk e0
  have hown : s.vm.findClass "java/lang/String" = some m.cls := hown0
  have N0 := Fr.nil n0
  obtain ⟨S_s_EID_CHARS, A_T, L_T, T_T, S_CS, H_CS, S_FMT, R_FMT⟩ := (id SB)
  have w10 := hw _ (List.mem_of_getElem? (i := 10) rfl)
  have w36 := hw _ (List.mem_of_getElem? (i := 36) rfl)
  have w67 := hw _ (List.mem_of_getElem? (i := 67) rfl)
  have w68 := hw _ (List.mem_of_getElem? (i := 68) rfl)
  have w69 := hw _ (List.mem_of_getElem? (i := 69) rfl)
  have w70 := hw _ (List.mem_of_getElem? (i := 70) rfl)
  have w71 := hw _ (List.mem_of_getElem? (i := 71) rfl)
  have w72 := hw _ (List.mem_of_getElem? (i := 72) rfl)
  have w73 := hw _ (List.mem_of_getElem? (i := 73) rfl)
  have w74 := hw _ (List.mem_of_getElem? (i := 74) rfl)
  have w75 := hw _ (List.mem_of_getElem? (i := 75) rfl)
  refine o_aloadN X0 hx (hb hby d15_0) rfl rfl ?_
  obtain ⟨cq1, kq1, q1a, q1b, q1c⟩ := isOf hZ e0 pr0
  obtain ⟨_, _, ⟨T1, L1, kc1, n1⟩, -, X1, ⟨Lc1, hQ1, l1, y1, z1⟩, st1⟩ := X0.virtualBack hx (y := yM10) (z := yM10) hown (mvT hZ w67) (mvT hZ w68) (notFace_of_selects (args := #[]) (mvT hZ w70)) (mvT hZ w70) (mvT hZ w69) (by decide) (backOf (W := 0) (rm_isl1 l Z a0 hw [] s_EID_CHARS cl_T z_CS v_FMT x_ h0 n0 SB O0 pr1) hZ w71 w10 (by decide) (by decide)) q1a q1c (g := (mkF m 1 #[.val (.ref x_), .val (.int (1 : Int32))] [(.ref x_)])) rfl (by rw [hml]; rfl) (Steps.refl _) (argsL := []) (rest := []) (lenOf own_pd8 rfl) rfl (by show 2 * 0 + _ ≤ _; exact Nat.le_of_eq rfl) (hb hby d15_1) (fun _ _ => ⟨rfl, e0, (by decide : 0 + 0 ≤ _), (by decide : 0 + 0 ≤ _)⟩)
  dsimp only [Pt.U, Pt.locs, Pt.cells, Pt.slots] at X1 l1 y1 z1 st1 hQ1
  subst l1 y1 z1
  obtain ⟨rfl, Nq1, e1⟩ := hQ1
  have N1 := Fr.app N0 Nq1
  refine otr (S' := T1.setTop (mkF m 4 #[.val (.ref x_), .val (.int (1 : Int32))] [(.int (1 : Int32))])) st1 ?_
  refine o_ifNo X1 hx (hb hby d15_4) (feq (by decide : ¬ ((1 : Int32) = (0 : Int32)))).1 ?_
  refine o_aloadN X1 hx (hb hby d15_7) rfl rfl ?_
  obtain ⟨T2, X2, e2, st2⟩ := getF X1 hx hZ hown (host := "") (Or.inl w36) Via.refl e1 pr2 (g := (mkF m 8 #[.val (.ref x_), .val (.int (1 : Int32))] [(.ref x_)])) rfl rfl (hb hby d15_8)
  refine ogo (S' := T2.setTop (mkF m 11 #[.val (.ref x_), .val (.int (1 : Int32))] [(.ref ba_)])) st2 ?_
  refine o_iloadN X2 hx (hb hby d15_11) rfl ?_
  obtain ⟨_, _, ⟨T3, L3, kc3, n3⟩, -, X3, ⟨Lc3, hQ3, l3, y3, z3⟩, st3⟩ := Jvm.LawKit.callS X2 hx (y := yM13) hown (mvT hZ w72) (mvT hZ w73) (mvT hZ w74) (mvT hZ w75) (by decide) (backOf (W := 0) (rm_l1c_3_1 l Z a0 hw [] s_EID_CHARS cl_T z_CS v_FMT ba_ kb_ c0_ c1_ c2_ h0 n0 SB O0 pr3 pr4 pr5) hZ w75 w74 (by decide) (by decide)) (g := (mkF m 12 #[.val (.ref x_), .val (.int (1 : Int32))] [(.int (1 : Int32)), (.ref ba_)])) rfl (by rw [hml]; rfl) (argsL := [(.ref ba_), (.int (1 : Int32))]) (rest := []) (lenOf own_pd9 rfl) rfl (by show 2 * 0 + _ ≤ _; exact Nat.le_of_eq rfl) (hb hby d15_12) (fun _ _ => ⟨rfl, e2, (by decide : 0 + 0 ≤ _), (by decide : 0 + 0 ≤ _)⟩)
  dsimp only [Pt.U, Pt.locs, Pt.cells, Pt.slots] at X3 l3 y3 z3 st3 hQ3
  subst l3 y3 z3
  obtain ⟨rfl, Nq3, e3⟩ := hQ3
  have N3 := Fr.app N1 Nq3
  refine ogo (S' := T3.setTop (mkF m 15 #[.val (.ref x_), .val (.int (1 : Int32))] [(.int c1_)])) st3 ?_
  refine oend X3 hlk (v := some (.int c1_)) (fun h => by rw [hret] at h; cases h) (fun fs hr => retN X3 hx (t := .char) hret (by simp) (hb hby d15_15) (by rw [(own_narsm pr4 pr5)]; exact hr)) (by decide) (by decide) ?_
  show own_Q_cat_3_1 Z _ _ _ _ _ _ _ _ _ _ h0 n0 _ T3.heap _
  rw [e3]
  exact ⟨rfl, N3, rfl⟩
def own_Q_l1c_3_2 (Z : State) (s_EID_CHARS : Addr) (cl_T : Cell) (z_CS : Int32) (v_FMT : Value) (ba_ : Addr) (kb_ : ClassId) (c0_ : Int32) (c1_ : Int32) (c2_ : Int32) (h0 : Heap) (n0 : Nat) (v : Option Value) (h : Heap) (L : List Loc) : Prop := (v = some (.int c2_)) ∧ (Fr n0 L) ∧ (h = h0)
set_option maxRecDepth 65536 in
set_option maxHeartbeats 40000000 in
theorem rm_l1c_3_2 (l : Launch) (Z : State) (a0 : Array Value) (hw : ∀ d ∈ tables_1, d.before a0 Z = true) (ws : List Jvm.Cond) (s_EID_CHARS : Addr) (cl_T : Cell) (z_CS : Int32) (v_FMT : Value) (ba_ : Addr) (kb_ : ClassId) (c0_ : Int32) (c1_ : Int32) (c2_ : Int32) (h0 : Heap) (n0 : Nat) (SB : own_Start Z s_EID_CHARS cl_T z_CS v_FMT) (O0 : Old Z n0 h0) (pr0 : Arv Z h0 ba_ kb_ .byte (3 : Int32) [(.int c0_.toInt8.toInt32), (.int c1_.toInt8.toInt32), (.int c2_.toInt8.toInt32)] (.int 0)) (pr1 : ¬ (c2_ < (0 : Int32))) (pr2 : ¬ ((255 : Int32) < c2_)) :
    oMet l Z yM13 jdk_43_method_2_code 2 (some .char) ws ({ frames := 2, cells := 0, slots := 0, locals := 27 } : Room) 0 0 #[(.ref ba_), (.int (2 : Int32))] h0 (own_Q_l1c_3_2 Z s_EID_CHARS cl_T z_CS v_FMT ba_ kb_ c0_ c1_ c2_ h0 n0) := by
  refine oenter own_pn4 #[.val (.ref ba_), .val (.int (2 : Int32))] (fun m => by first | (simp [entryFrame, mkF, argsToLocals, Value.category]; done) | rfl) ?_
  intro p e s m below meth c s₁ X0 hx hZ hby hml hret hown0 hnm hlk e0
  have hown : s.vm.findClass "java/lang/StringLatin1" = some m.cls := hown0
  have N0 := Fr.nil n0
  obtain ⟨S_s_EID_CHARS, A_T, L_T, T_T, S_CS, H_CS, S_FMT, R_FMT⟩ := (id SB)
  have w10 := hw _ (List.mem_of_getElem? (i := 10) rfl)
  have w76 := hw _ (List.mem_of_getElem? (i := 76) rfl)
  have w77 := hw _ (List.mem_of_getElem? (i := 77) rfl)
  have w78 := hw _ (List.mem_of_getElem? (i := 78) rfl)
  refine o_iloadN X0 hx (hb hby d14_0) rfl ?_
  refine o_aloadN X0 hx (hb hby d14_1) rfl rfl ?_
  obtain ⟨cl1, Ar1, -, S1, N1z, -, -⟩ := (id pr0)
  refine ogo (S' := s₁.setTop (mkF m 3 #[.val (.ref ba_), .val (.int (2 : Int32))] [(.int (3 : Int32)), (.int (2 : Int32))])) (fun _ kt_ => X0.arraylength hx (by rw [e0]; exact Ar1.1) (State.isArrayOf_alike hZ.alike Ar1.2.1) (g := (mkF m 2 #[.val (.ref ba_), .val (.int (2 : Int32))] [(.ref ba_), (.int (2 : Int32))])) rfl rfl (hb hby d14_2) _ (by rw [len_of S1 N1z]; exact kt_)) ?_
  obtain ⟨_, _, ⟨T2, L2, kc2, n2⟩, -, X2, ⟨Lc2, hQ2, l2, y2, z2⟩, st2⟩ := Jvm.LawKit.callS X0 hx (y := yM12) hown (mvT hZ w76) (mvT hZ w77) (mvT hZ w10) (mvT hZ w78) (by decide) (backOf (W := 0) (rm_sci l Z a0 hw [] s_EID_CHARS cl_T z_CS v_FMT (2 : Int32) (3 : Int32) h0 n0 SB O0 (by decide) (by decide)) hZ w78 w10 (by decide) (by decide)) (g := (mkF m 3 #[.val (.ref ba_), .val (.int (2 : Int32))] [(.int (3 : Int32)), (.int (2 : Int32))])) rfl (by rw [hml]; rfl) (argsL := [(.int (2 : Int32)), (.int (3 : Int32))]) (rest := []) (lenOf own_pd7 rfl) rfl (by show 2 * 0 + _ ≤ _; exact Nat.le_of_eq rfl) (hb hby d14_3) (fun _ _ => ⟨rfl, e0, (by decide : 0 + 0 ≤ _), (by decide : 0 + 0 ≤ _)⟩)
  dsimp only [Pt.U, Pt.locs, Pt.cells, Pt.slots] at X2 l2 y2 z2 st2 hQ2
  subst l2 y2 z2
  obtain ⟨rfl, Nq2, e2⟩ := hQ2
  have N2 := Fr.app N0 Nq2
  refine ogo (S' := T2.setTop (mkF m 6 #[.val (.ref ba_), .val (.int (2 : Int32))] [])) st2 ?_
  refine o_aloadN X2 hx (hb hby d14_6) rfl rfl ?_
  refine o_iloadN X2 hx (hb hby d14_7) rfl ?_
  obtain ⟨cl3, Ar3, q3, S3, N3z, H3, G3⟩ := (id pr0)
  have hi3 := inb_of (j := (2 : Int32)) S3 ⟨by decide, by decide⟩
  have ha3 := Has.at (v := (.int c2_.toInt8.toInt32)) H3 hi3 rfl
  refine ogo (S' := T2.setTop (mkF m 9 #[.val (.ref ba_), .val (.int (2 : Int32))] [(.int c2_.toInt8.toInt32)])) (X2.baloadBytes hx (j := (2 : Int32)) (v := (.int c2_.toInt8.toInt32)) (by rw [e2]; exact Ar3.1) (State.isArrayOf_alike hZ.alike Ar3.2.1) Ar3.2.2 hi3 ha3 (g := (mkF m 8 #[.val (.ref ba_), .val (.int (2 : Int32))] [(.int (2 : Int32)), (.ref ba_)])) rfl rfl (hb hby d14_8)) ?_
  refine o_sipush X2 hx (255 : Int32) (hb hby d14_9) rfl ?_
  refine o_iand X2 hx (hb hby d14_12) ?_
  refine o_i2c X2 hx (hb hby d14_13) ?_
  rw [own_char pr1 pr2]
  refine oend X2 hlk (v := some (.int c2_)) (fun h => by rw [hret] at h; cases h) (fun fs hr => retN X2 hx (t := .char) hret (by simp) (hb hby d14_14) (by rw [(own_narsm pr1 pr2)]; exact hr)) (by decide) (by decide) ?_
  show own_Q_l1c_3_2 Z _ _ _ _ _ _ _ _ _ h0 n0 _ T2.heap _
  rw [e2]
  exact ⟨rfl, N2, rfl⟩
def own_Q_cat_3_2 (Z : State) (s_EID_CHARS : Addr) (cl_T : Cell) (z_CS : Int32) (v_FMT : Value) (x_ : Addr) (ba_ : Addr) (kb_ : ClassId) (c0_ : Int32) (c1_ : Int32) (c2_ : Int32) (h0 : Heap) (n0 : Nat) (v : Option Value) (h : Heap) (L : List Loc) : Prop := (v = some (.int c2_)) ∧ (Fr n0 L) ∧ (h = h0)
set_option maxRecDepth 65536 in
set_option maxHeartbeats 40000000 in
theorem rm_cat_3_2 (l : Launch) (Z : State) (a0 : Array Value) (hw : ∀ d ∈ tables_1, d.before a0 Z = true) (ws : List Jvm.Cond) (s_EID_CHARS : Addr) (cl_T : Cell) (z_CS : Int32) (v_FMT : Value) (x_ : Addr) (ba_ : Addr) (kb_ : ClassId) (c0_ : Int32) (c1_ : Int32) (c2_ : Int32) (h0 : Heap) (n0 : Nat) (SB : own_Start Z s_EID_CHARS cl_T z_CS v_FMT) (O0 : Old Z n0 h0) (pr0 : Exa Z h0 x_ "java/lang/String") (pr1 : Fld Z h0 x_ "java/lang/String" "coder" "B" (.int (0 : Int32))) (pr2 : Fld Z h0 x_ "java/lang/String" "value" "[B" (.ref ba_)) (pr3 : Arv Z h0 ba_ kb_ .byte (3 : Int32) [(.int c0_.toInt8.toInt32), (.int c1_.toInt8.toInt32), (.int c2_.toInt8.toInt32)] (.int 0)) (pr4 : ¬ (c2_ < (0 : Int32))) (pr5 : ¬ ((255 : Int32) < c2_)) :
    oMet l Z yM14 jdk_42_method_56_code 2 (some .char) ws ({ frames := 3, cells := 0, slots := 0, locals := 40 } : Room) 0 0 #[(.ref x_), (.int (2 : Int32))] h0 (own_Q_cat_3_2 Z s_EID_CHARS cl_T z_CS v_FMT x_ ba_ kb_ c0_ c1_ c2_ h0 n0) := by
  refine oenter own_pn2 #[.val (.ref x_), .val (.int (2 : Int32))] (fun m => by first | (simp [entryFrame, mkF, argsToLocals, Value.category]; done) | rfl) ?_
  intro p e s m below meth c s₁ X0 hx hZ hby hml hret hown0 hnm hlk e0
  have hown : s.vm.findClass "java/lang/String" = some m.cls := hown0
  have N0 := Fr.nil n0
  obtain ⟨S_s_EID_CHARS, A_T, L_T, T_T, S_CS, H_CS, S_FMT, R_FMT⟩ := (id SB)
  have w10 := hw _ (List.mem_of_getElem? (i := 10) rfl)
  have w36 := hw _ (List.mem_of_getElem? (i := 36) rfl)
  have w67 := hw _ (List.mem_of_getElem? (i := 67) rfl)
  have w68 := hw _ (List.mem_of_getElem? (i := 68) rfl)
  have w69 := hw _ (List.mem_of_getElem? (i := 69) rfl)
  have w70 := hw _ (List.mem_of_getElem? (i := 70) rfl)
  have w71 := hw _ (List.mem_of_getElem? (i := 71) rfl)
  have w72 := hw _ (List.mem_of_getElem? (i := 72) rfl)
  have w73 := hw _ (List.mem_of_getElem? (i := 73) rfl)
  have w74 := hw _ (List.mem_of_getElem? (i := 74) rfl)
  have w75 := hw _ (List.mem_of_getElem? (i := 75) rfl)
  refine o_aloadN X0 hx (hb hby d15_0) rfl rfl ?_
  obtain ⟨cq1, kq1, q1a, q1b, q1c⟩ := isOf hZ e0 pr0
  obtain ⟨_, _, ⟨T1, L1, kc1, n1⟩, -, X1, ⟨Lc1, hQ1, l1, y1, z1⟩, st1⟩ := X0.virtualBack hx (y := yM10) (z := yM10) hown (mvT hZ w67) (mvT hZ w68) (notFace_of_selects (args := #[]) (mvT hZ w70)) (mvT hZ w70) (mvT hZ w69) (by decide) (backOf (W := 0) (rm_isl1 l Z a0 hw [] s_EID_CHARS cl_T z_CS v_FMT x_ h0 n0 SB O0 pr1) hZ w71 w10 (by decide) (by decide)) q1a q1c (g := (mkF m 1 #[.val (.ref x_), .val (.int (2 : Int32))] [(.ref x_)])) rfl (by rw [hml]; rfl) (Steps.refl _) (argsL := []) (rest := []) (lenOf own_pd8 rfl) rfl (by show 2 * 0 + _ ≤ _; exact Nat.le_of_eq rfl) (hb hby d15_1) (fun _ _ => ⟨rfl, e0, (by decide : 0 + 0 ≤ _), (by decide : 0 + 0 ≤ _)⟩)
  dsimp only [Pt.U, Pt.locs, Pt.cells, Pt.slots] at X1 l1 y1 z1 st1 hQ1
  subst l1 y1 z1
  obtain ⟨rfl, Nq1, e1⟩ := hQ1
  have N1 := Fr.app N0 Nq1
  refine otr (S' := T1.setTop (mkF m 4 #[.val (.ref x_), .val (.int (2 : Int32))] [(.int (1 : Int32))])) st1 ?_
  refine o_ifNo X1 hx (hb hby d15_4) (feq (by decide : ¬ ((1 : Int32) = (0 : Int32)))).1 ?_
  refine o_aloadN X1 hx (hb hby d15_7) rfl rfl ?_
  obtain ⟨T2, X2, e2, st2⟩ := getF X1 hx hZ hown (host := "") (Or.inl w36) Via.refl e1 pr2 (g := (mkF m 8 #[.val (.ref x_), .val (.int (2 : Int32))] [(.ref x_)])) rfl rfl (hb hby d15_8)
  refine ogo (S' := T2.setTop (mkF m 11 #[.val (.ref x_), .val (.int (2 : Int32))] [(.ref ba_)])) st2 ?_
  refine o_iloadN X2 hx (hb hby d15_11) rfl ?_
  obtain ⟨_, _, ⟨T3, L3, kc3, n3⟩, -, X3, ⟨Lc3, hQ3, l3, y3, z3⟩, st3⟩ := Jvm.LawKit.callS X2 hx (y := yM13) hown (mvT hZ w72) (mvT hZ w73) (mvT hZ w74) (mvT hZ w75) (by decide) (backOf (W := 0) (rm_l1c_3_2 l Z a0 hw [] s_EID_CHARS cl_T z_CS v_FMT ba_ kb_ c0_ c1_ c2_ h0 n0 SB O0 pr3 pr4 pr5) hZ w75 w74 (by decide) (by decide)) (g := (mkF m 12 #[.val (.ref x_), .val (.int (2 : Int32))] [(.int (2 : Int32)), (.ref ba_)])) rfl (by rw [hml]; rfl) (argsL := [(.ref ba_), (.int (2 : Int32))]) (rest := []) (lenOf own_pd9 rfl) rfl (by show 2 * 0 + _ ≤ _; exact Nat.le_of_eq rfl) (hb hby d15_12) (fun _ _ => ⟨rfl, e2, (by decide : 0 + 0 ≤ _), (by decide : 0 + 0 ≤ _)⟩)
  dsimp only [Pt.U, Pt.locs, Pt.cells, Pt.slots] at X3 l3 y3 z3 st3 hQ3
  subst l3 y3 z3
  obtain ⟨rfl, Nq3, e3⟩ := hQ3
  have N3 := Fr.app N1 Nq3
  refine ogo (S' := T3.setTop (mkF m 15 #[.val (.ref x_), .val (.int (2 : Int32))] [(.int c2_)])) st3 ?_
  refine oend X3 hlk (v := some (.int c2_)) (fun h => by rw [hret] at h; cases h) (fun fs hr => retN X3 hx (t := .char) hret (by simp) (hb hby d15_15) (by rw [(own_narsm pr4 pr5)]; exact hr)) (by decide) (by decide) ?_
  show own_Q_cat_3_2 Z _ _ _ _ _ _ _ _ _ _ h0 n0 _ T3.heap _
  rw [e3]
  exact ⟨rfl, N3, rfl⟩
def own_Q_spelled_3 (Z : State) (s_EID_CHARS : Addr) (cl_T : Cell) (z_CS : Int32) (v_FMT : Value) (x_ : Addr) (ba_ : Addr) (kb_ : ClassId) (c0_ : Int32) (c1_ : Int32) (c2_ : Int32) (h0 : Heap) (n0 : Nat) (v : Option Value) (h : Heap) (L : List Loc) : Prop := (v = some (.int (1 : Int32))) ∧ (Fr n0 L) ∧ (h = h0)
set_option maxRecDepth 65536 in
set_option maxHeartbeats 40000000 in
theorem rm_spelled_3 (l : Launch) (Z : State) (a0 : Array Value) (hw : ∀ d ∈ tables_1, d.before a0 Z = true) (ws : List Jvm.Cond) (s_EID_CHARS : Addr) (cl_T : Cell) (z_CS : Int32) (v_FMT : Value) (x_ : Addr) (ba_ : Addr) (kb_ : ClassId) (c0_ : Int32) (c1_ : Int32) (c2_ : Int32) (h0 : Heap) (n0 : Nat) (SB : own_Start Z s_EID_CHARS cl_T z_CS v_FMT) (O0 : Old Z n0 h0) (pr0 : Exa Z h0 x_ "java/lang/String") (pr1 : Fld Z h0 x_ "java/lang/String" "coder" "B" (.int (0 : Int32))) (pr2 : Fld Z h0 x_ "java/lang/String" "value" "[B" (.ref ba_)) (pr3 : Arv Z h0 ba_ kb_ .byte (3 : Int32) [(.int c0_.toInt8.toInt32), (.int c1_.toInt8.toInt32), (.int c2_.toInt8.toInt32)] (.int 0)) (pr4 : own_ok c0_) (pr5 : own_ok c1_) (pr6 : own_ok c2_) (pr7 : ¬ (c0_ < (0 : Int32))) (pr8 : ¬ (c1_ < (0 : Int32))) (pr9 : ¬ (c2_ < (0 : Int32))) (pr10 : ¬ ((255 : Int32) < c0_)) (pr11 : ¬ ((255 : Int32) < c1_)) (pr12 : ¬ ((255 : Int32) < c2_)) :
    oMet l Z yM15 prog_7_method_6_code 5 (some .boolean) ws ({ frames := 4, cells := 0, slots := 0, locals := 53 } : Room) 0 0 #[(.ref x_), (.int (128 : Int32)), (.ref s_EID_CHARS)] h0 (own_Q_spelled_3 Z s_EID_CHARS cl_T z_CS v_FMT x_ ba_ kb_ c0_ c1_ c2_ h0 n0) := by
  refine oenter own_pn5 #[.val (.ref x_), .val (.int (128 : Int32)), .val (.ref s_EID_CHARS), .unset, .unset] (fun m => by first | (simp [entryFrame, mkF, argsToLocals, Value.category]; done) | rfl) ?_
  intro p e s m below meth c s₁ X0 hx hZ hby hml hret hown0 hnm hlk e0
  have hown : s.vm.findClass "com/example/atomic_tally/atomictally/model/Names" = some m.cls := hown0
  have N0 := Fr.nil n0
  obtain ⟨S_s_EID_CHARS, A_T, L_T, T_T, S_CS, H_CS, S_FMT, R_FMT⟩ := (id SB)
  have w10 := hw _ (List.mem_of_getElem? (i := 10) rfl)
  have w47 := hw _ (List.mem_of_getElem? (i := 47) rfl)
  have w48 := hw _ (List.mem_of_getElem? (i := 48) rfl)
  have w49 := hw _ (List.mem_of_getElem? (i := 49) rfl)
  have w50 := hw _ (List.mem_of_getElem? (i := 50) rfl)
  have w51 := hw _ (List.mem_of_getElem? (i := 51) rfl)
  have w52 := hw _ (List.mem_of_getElem? (i := 52) rfl)
  have w53 := hw _ (List.mem_of_getElem? (i := 53) rfl)
  have w54 := hw _ (List.mem_of_getElem? (i := 54) rfl)
  have w55 := hw _ (List.mem_of_getElem? (i := 55) rfl)
  have w56 := hw _ (List.mem_of_getElem? (i := 56) rfl)
  have w62 := hw _ (List.mem_of_getElem? (i := 62) rfl)
  have w63 := hw _ (List.mem_of_getElem? (i := 63) rfl)
  have w64 := hw _ (List.mem_of_getElem? (i := 64) rfl)
  have w65 := hw _ (List.mem_of_getElem? (i := 65) rfl)
  have w66 := hw _ (List.mem_of_getElem? (i := 66) rfl)
  refine o_aloadN X0 hx (hb hby d16_0) rfl rfl ?_
  refine o_ifnullNo X0 hx (hb hby d16_1) ?_
  refine o_aloadN X0 hx (hb hby d16_4) rfl rfl ?_
  obtain ⟨cq1, kq1, q1a, q1b, q1c⟩ := isOf hZ e0 pr0
  obtain ⟨_, _, ⟨T1, L1, kc1, n1⟩, -, X1, ⟨Lc1, hQ1, l1, y1, z1⟩, st1⟩ := X0.virtualBack hx (y := yM9) (z := yM9) hown (mvT hZ w47) (mvT hZ w48) (notFace_of_selects (args := #[]) (mvT hZ w50)) (mvT hZ w50) (mvT hZ w49) (by decide) (backOf (W := 0) (rm_emp_3 l Z a0 hw []  x_ ba_ kb_ [(.int c0_.toInt8.toInt32), (.int c1_.toInt8.toInt32), (.int c2_.toInt8.toInt32)] h0 n0 O0 pr0 pr1 pr2 pr3) hZ w51 w10 (by decide) (by decide)) q1a q1c (g := (mkF m 5 #[.val (.ref x_), .val (.int (128 : Int32)), .val (.ref s_EID_CHARS), .unset, .unset] [(.ref x_)])) rfl (by rw [hml]; rfl) (Steps.refl _) (argsL := []) (rest := []) (lenOf own_pd8 rfl) rfl (by show 2 * 0 + _ ≤ _; exact Nat.le_of_eq rfl) (hb hby d16_5) (fun _ _ => ⟨rfl, e0, (by decide : 0 + 0 ≤ _), (by decide : 0 + 0 ≤ _)⟩)
  dsimp only [Pt.U, Pt.locs, Pt.cells, Pt.slots] at X1 l1 y1 z1 st1 hQ1
  subst l1 y1 z1
  obtain ⟨rfl, Nq1, e1⟩ := hQ1
  have N1 := Fr.app N0 Nq1
  refine otr (S' := T1.setTop (mkF m 8 #[.val (.ref x_), .val (.int (128 : Int32)), .val (.ref s_EID_CHARS), .unset, .unset] [(.int (0 : Int32))])) st1 ?_
  refine o_ifNo X1 hx (hb hby d16_8) (teq (by decide : (0 : Int32) = (0 : Int32))).2 ?_
  refine o_aloadN X1 hx (hb hby d16_11) rfl rfl ?_
  obtain ⟨cq2, kq2, q2a, q2b, q2c⟩ := isOf hZ e1 pr0
  obtain ⟨_, _, ⟨T2, L2, kc2, n2⟩, -, X2, ⟨Lc2, hQ2, l2, y2, z2⟩, st2⟩ := X1.virtualBack hx (y := yM8) (z := yM8) hown (mvT hZ w52) (mvT hZ w53) (notFace_of_selects (args := #[]) (mvT hZ w55)) (mvT hZ w55) (mvT hZ w54) (by decide) (backOf (W := 0) (rm_len_3 l Z a0 hw [] s_EID_CHARS cl_T z_CS v_FMT x_ ba_ kb_ [(.int c0_.toInt8.toInt32), (.int c1_.toInt8.toInt32), (.int c2_.toInt8.toInt32)] h0 n0 SB O0 pr0 pr1 pr2 pr3) hZ w56 w10 (by decide) (by decide)) q2a q2c (g := (mkF m 12 #[.val (.ref x_), .val (.int (128 : Int32)), .val (.ref s_EID_CHARS), .unset, .unset] [(.ref x_)])) rfl (by rw [hml]; rfl) (Steps.refl _) (argsL := []) (rest := []) (lenOf own_pd10 rfl) rfl (by show 2 * 0 + _ ≤ _; exact Nat.le_of_eq rfl) (hb hby d16_12) (fun _ _ => ⟨rfl, e1, (by decide : 0 + 0 ≤ _), (by decide : 0 + 0 ≤ _)⟩)
  dsimp only [Pt.U, Pt.locs, Pt.cells, Pt.slots] at X2 l2 y2 z2 st2 hQ2
  subst l2 y2 z2
  obtain ⟨rfl, Nq2, e2⟩ := hQ2
  have N2 := Fr.app N1 Nq2
  refine otr (S' := T2.setTop (mkF m 15 #[.val (.ref x_), .val (.int (128 : Int32)), .val (.ref s_EID_CHARS), .unset, .unset] [(.int (3 : Int32))])) st2 ?_
  refine o_iloadN X2 hx (hb hby d16_15) rfl ?_
  refine o_icmpYes X2 hx 21 (hb hby d16_16) (flt (by decide : ¬ ((128 : Int32) < (3 : Int32)))).2.2.2 (by decide) (by decide) ?_
  refine o_iconst X2 hx (0 : Int32) (hb hby d16_21) rfl ?_
  refine o_istoreN X2 hx (l' := #[.val (.ref x_), .val (.int (128 : Int32)), .val (.ref s_EID_CHARS), .val (.int (0 : Int32)), .unset]) (hb hby d16_22) rfl ?_
  refine o_iloadN X2 hx (hb hby d16_23) rfl ?_
  refine o_aloadN X2 hx (hb hby d16_24) rfl rfl ?_
  obtain ⟨cq3, kq3, q3a, q3b, q3c⟩ := isOf hZ e2 pr0
  obtain ⟨_, _, ⟨T3, L3, kc3, n3⟩, -, X3, ⟨Lc3, hQ3, l3, y3, z3⟩, st3⟩ := X2.virtualBack hx (y := yM8) (z := yM8) hown (mvT hZ w52) (mvT hZ w53) (notFace_of_selects (args := #[]) (mvT hZ w55)) (mvT hZ w55) (mvT hZ w54) (by decide) (backOf (W := 1) (rm_len_3 l Z a0 hw [] s_EID_CHARS cl_T z_CS v_FMT x_ ba_ kb_ [(.int c0_.toInt8.toInt32), (.int c1_.toInt8.toInt32), (.int c2_.toInt8.toInt32)] h0 n0 SB O0 pr0 pr1 pr2 pr3) hZ w56 w10 (by decide) (by decide)) q3a q3c (g := (mkF m 25 #[.val (.ref x_), .val (.int (128 : Int32)), .val (.ref s_EID_CHARS), .val (.int (0 : Int32)), .unset] [(.ref x_), (.int (0 : Int32))])) rfl (by rw [hml]; rfl) (Steps.refl _) (argsL := []) (rest := [(.int (0 : Int32))]) (lenOf own_pd10 rfl) rfl (by show 2 * 0 + _ ≤ _; exact Nat.le_of_eq rfl) (hb hby d16_25) (fun _ _ => ⟨rfl, e2, (by decide : 0 + 0 ≤ _), (by decide : 0 + 0 ≤ _)⟩)
  dsimp only [Pt.U, Pt.locs, Pt.cells, Pt.slots] at X3 l3 y3 z3 st3 hQ3
  subst l3 y3 z3
  obtain ⟨rfl, Nq3, e3⟩ := hQ3
  have N3 := Fr.app N2 Nq3
  refine otr (S' := T3.setTop (mkF m 28 #[.val (.ref x_), .val (.int (128 : Int32)), .val (.ref s_EID_CHARS), .val (.int (0 : Int32)), .unset] [(.int (3 : Int32)), (.int (0 : Int32))])) st3 ?_
  refine o_icmpNo X3 hx (hb hby d16_28) (tlt (by decide : (0 : Int32) < (3 : Int32))).2.1 ?_
  refine o_aloadN X3 hx (hb hby d16_31) rfl rfl ?_
  refine o_iloadN X3 hx (hb hby d16_32) rfl ?_
  obtain ⟨cq4, kq4, q4a, q4b, q4c⟩ := isOf hZ e3 pr0
  obtain ⟨_, _, ⟨T4, L4, kc4, n4⟩, -, X4, ⟨Lc4, hQ4, l4, y4, z4⟩, st4⟩ := X3.virtualBack hx (y := yM14) (z := yM14) hown (mvT hZ w62) (mvT hZ w63) (notFace_of_selects (args := #[]) (mvT hZ w65)) (mvT hZ w65) (mvT hZ w64) (by decide) (backOf (W := 0) (rm_cat_3_0 l Z a0 hw [] s_EID_CHARS cl_T z_CS v_FMT x_ ba_ kb_ c0_ c1_ c2_ h0 n0 SB O0 pr0 pr1 pr2 pr3 pr7 pr10) hZ w66 w10 (by decide) (by decide)) q4a q4c (g := (mkF m 33 #[.val (.ref x_), .val (.int (128 : Int32)), .val (.ref s_EID_CHARS), .val (.int (0 : Int32)), .unset] [(.int (0 : Int32)), (.ref x_)])) rfl (by rw [hml]; rfl) (Steps.refl _) (argsL := [(.int (0 : Int32))]) (rest := []) (lenOf own_pd11 rfl) rfl (by show 2 * 0 + _ ≤ _; exact Nat.le_of_eq rfl) (hb hby d16_33) (fun _ _ => ⟨rfl, e3, (by decide : 0 + 0 ≤ _), (by decide : 0 + 0 ≤ _)⟩)
  dsimp only [Pt.U, Pt.locs, Pt.cells, Pt.slots] at X4 l4 y4 z4 st4 hQ4
  subst l4 y4 z4
  obtain ⟨rfl, Nq4, e4⟩ := hQ4
  have N4 := Fr.app N3 Nq4
  refine otr (S' := T4.setTop (mkF m 36 #[.val (.ref x_), .val (.int (128 : Int32)), .val (.ref s_EID_CHARS), .val (.int (0 : Int32)), .unset] [(.int c0_)])) st4 ?_
  refine o_istore X4 hx (l' := #[.val (.ref x_), .val (.int (128 : Int32)), .val (.ref s_EID_CHARS), .val (.int (0 : Int32)), .val (.int c0_)]) (hb hby d16_36) rfl ?_
  refine o_iload X4 hx (hb hby d16_38) rfl ?_
  refine o_aloadN X4 hx (hb hby d16_40) rfl rfl ?_
  refine ogo (S' := T4.setTop (mkF m 42 #[.val (.ref x_), .val (.int (128 : Int32)), .val (.ref s_EID_CHARS), .val (.int (0 : Int32)), .val (.int c0_)] [(.int (128 : Int32)), (.int c0_)])) (fun _ kt_ => X4.arraylength hx (by rw [e4]; exact (Arr.ext O0.2 A_T).1) (State.isArrayOf_alike hZ.alike A_T.2.1) (g := (mkF m 41 #[.val (.ref x_), .val (.int (128 : Int32)), .val (.ref s_EID_CHARS), .val (.int (0 : Int32)), .val (.int c0_)] [(.ref s_EID_CHARS), (.int c0_)])) rfl rfl (hb hby d16_41) _ (by rw [len_of L_T (by decide)]; exact kt_)) ?_
  refine o_icmpNo X4 hx (hb hby d16_42) (tlt (own_ok_128 pr4)).2.1 ?_
  refine o_aloadN X4 hx (hb hby d16_45) rfl rfl ?_
  refine o_iload X4 hx (hb hby d16_46) rfl ?_
  refine ogo (S' := T4.setTop (mkF m 49 #[.val (.ref x_), .val (.int (128 : Int32)), .val (.ref s_EID_CHARS), .val (.int (0 : Int32)), .val (.int c0_)] [(.int (1 : Int32))])) (X4.baloadBooleans hx (j := c0_) (v := (.int 1)) (by rw [e4]; exact (Arr.ext O0.2 A_T).1) (State.isArrayOf_alike hZ.alike A_T.2.1) A_T.2.2 (inb_of L_T ⟨own_ok_0 pr4, own_ok_128 pr4⟩) (T_T _ pr4) (g := (mkF m 48 #[.val (.ref x_), .val (.int (128 : Int32)), .val (.ref s_EID_CHARS), .val (.int (0 : Int32)), .val (.int c0_)] [(.int c0_), (.ref s_EID_CHARS)])) rfl rfl (hb hby d16_48)) ?_
  refine o_ifYes X4 hx 54 (hb hby d16_49) (feq (by decide : ¬ ((1 : Int32) = (0 : Int32)))).2 (by decide) (by decide) ?_
  refine o_iinc X4 hx (l' := #[.val (.ref x_), .val (.int (128 : Int32)), .val (.ref s_EID_CHARS), .val (.int (1 : Int32)), .val (.int c0_)]) (hb hby d16_54) rfl rfl ?_
  refine o_goto X4 hx 23 (hb hby d16_57) (by decide) (by decide) ?_
  refine o_iloadN X4 hx (hb hby d16_23) rfl ?_
  refine o_aloadN X4 hx (hb hby d16_24) rfl rfl ?_
  obtain ⟨cq5, kq5, q5a, q5b, q5c⟩ := isOf hZ e4 pr0
  obtain ⟨_, _, ⟨T5, L5, kc5, n5⟩, -, X5, ⟨Lc5, hQ5, l5, y5, z5⟩, st5⟩ := X4.virtualBack hx (y := yM8) (z := yM8) hown (mvT hZ w52) (mvT hZ w53) (notFace_of_selects (args := #[]) (mvT hZ w55)) (mvT hZ w55) (mvT hZ w54) (by decide) (backOf (W := 1) (rm_len_3 l Z a0 hw [] s_EID_CHARS cl_T z_CS v_FMT x_ ba_ kb_ [(.int c0_.toInt8.toInt32), (.int c1_.toInt8.toInt32), (.int c2_.toInt8.toInt32)] h0 n0 SB O0 pr0 pr1 pr2 pr3) hZ w56 w10 (by decide) (by decide)) q5a q5c (g := (mkF m 25 #[.val (.ref x_), .val (.int (128 : Int32)), .val (.ref s_EID_CHARS), .val (.int (1 : Int32)), .val (.int c0_)] [(.ref x_), (.int (1 : Int32))])) rfl (by rw [hml]; rfl) (Steps.refl _) (argsL := []) (rest := [(.int (1 : Int32))]) (lenOf own_pd10 rfl) rfl (by show 2 * 0 + _ ≤ _; exact Nat.le_of_eq rfl) (hb hby d16_25) (fun _ _ => ⟨rfl, e4, (by decide : 0 + 0 ≤ _), (by decide : 0 + 0 ≤ _)⟩)
  dsimp only [Pt.U, Pt.locs, Pt.cells, Pt.slots] at X5 l5 y5 z5 st5 hQ5
  subst l5 y5 z5
  obtain ⟨rfl, Nq5, e5⟩ := hQ5
  have N5 := Fr.app N4 Nq5
  refine otr (S' := T5.setTop (mkF m 28 #[.val (.ref x_), .val (.int (128 : Int32)), .val (.ref s_EID_CHARS), .val (.int (1 : Int32)), .val (.int c0_)] [(.int (3 : Int32)), (.int (1 : Int32))])) st5 ?_
  refine o_icmpNo X5 hx (hb hby d16_28) (tlt (by decide : (1 : Int32) < (3 : Int32))).2.1 ?_
  refine o_aloadN X5 hx (hb hby d16_31) rfl rfl ?_
  refine o_iloadN X5 hx (hb hby d16_32) rfl ?_
  obtain ⟨cq6, kq6, q6a, q6b, q6c⟩ := isOf hZ e5 pr0
  obtain ⟨_, _, ⟨T6, L6, kc6, n6⟩, -, X6, ⟨Lc6, hQ6, l6, y6, z6⟩, st6⟩ := X5.virtualBack hx (y := yM14) (z := yM14) hown (mvT hZ w62) (mvT hZ w63) (notFace_of_selects (args := #[]) (mvT hZ w65)) (mvT hZ w65) (mvT hZ w64) (by decide) (backOf (W := 0) (rm_cat_3_1 l Z a0 hw [] s_EID_CHARS cl_T z_CS v_FMT x_ ba_ kb_ c0_ c1_ c2_ h0 n0 SB O0 pr0 pr1 pr2 pr3 pr8 pr11) hZ w66 w10 (by decide) (by decide)) q6a q6c (g := (mkF m 33 #[.val (.ref x_), .val (.int (128 : Int32)), .val (.ref s_EID_CHARS), .val (.int (1 : Int32)), .val (.int c0_)] [(.int (1 : Int32)), (.ref x_)])) rfl (by rw [hml]; rfl) (Steps.refl _) (argsL := [(.int (1 : Int32))]) (rest := []) (lenOf own_pd11 rfl) rfl (by show 2 * 0 + _ ≤ _; exact Nat.le_of_eq rfl) (hb hby d16_33) (fun _ _ => ⟨rfl, e5, (by decide : 0 + 0 ≤ _), (by decide : 0 + 0 ≤ _)⟩)
  dsimp only [Pt.U, Pt.locs, Pt.cells, Pt.slots] at X6 l6 y6 z6 st6 hQ6
  subst l6 y6 z6
  obtain ⟨rfl, Nq6, e6⟩ := hQ6
  have N6 := Fr.app N5 Nq6
  refine otr (S' := T6.setTop (mkF m 36 #[.val (.ref x_), .val (.int (128 : Int32)), .val (.ref s_EID_CHARS), .val (.int (1 : Int32)), .val (.int c0_)] [(.int c1_)])) st6 ?_
  refine o_istore X6 hx (l' := #[.val (.ref x_), .val (.int (128 : Int32)), .val (.ref s_EID_CHARS), .val (.int (1 : Int32)), .val (.int c1_)]) (hb hby d16_36) rfl ?_
  refine o_iload X6 hx (hb hby d16_38) rfl ?_
  refine o_aloadN X6 hx (hb hby d16_40) rfl rfl ?_
  refine ogo (S' := T6.setTop (mkF m 42 #[.val (.ref x_), .val (.int (128 : Int32)), .val (.ref s_EID_CHARS), .val (.int (1 : Int32)), .val (.int c1_)] [(.int (128 : Int32)), (.int c1_)])) (fun _ kt_ => X6.arraylength hx (by rw [e6]; exact (Arr.ext O0.2 A_T).1) (State.isArrayOf_alike hZ.alike A_T.2.1) (g := (mkF m 41 #[.val (.ref x_), .val (.int (128 : Int32)), .val (.ref s_EID_CHARS), .val (.int (1 : Int32)), .val (.int c1_)] [(.ref s_EID_CHARS), (.int c1_)])) rfl rfl (hb hby d16_41) _ (by rw [len_of L_T (by decide)]; exact kt_)) ?_
  refine o_icmpNo X6 hx (hb hby d16_42) (tlt (own_ok_128 pr5)).2.1 ?_
  refine o_aloadN X6 hx (hb hby d16_45) rfl rfl ?_
  refine o_iload X6 hx (hb hby d16_46) rfl ?_
  refine ogo (S' := T6.setTop (mkF m 49 #[.val (.ref x_), .val (.int (128 : Int32)), .val (.ref s_EID_CHARS), .val (.int (1 : Int32)), .val (.int c1_)] [(.int (1 : Int32))])) (X6.baloadBooleans hx (j := c1_) (v := (.int 1)) (by rw [e6]; exact (Arr.ext O0.2 A_T).1) (State.isArrayOf_alike hZ.alike A_T.2.1) A_T.2.2 (inb_of L_T ⟨own_ok_0 pr5, own_ok_128 pr5⟩) (T_T _ pr5) (g := (mkF m 48 #[.val (.ref x_), .val (.int (128 : Int32)), .val (.ref s_EID_CHARS), .val (.int (1 : Int32)), .val (.int c1_)] [(.int c1_), (.ref s_EID_CHARS)])) rfl rfl (hb hby d16_48)) ?_
  refine o_ifYes X6 hx 54 (hb hby d16_49) (feq (by decide : ¬ ((1 : Int32) = (0 : Int32)))).2 (by decide) (by decide) ?_
  refine o_iinc X6 hx (l' := #[.val (.ref x_), .val (.int (128 : Int32)), .val (.ref s_EID_CHARS), .val (.int (2 : Int32)), .val (.int c1_)]) (hb hby d16_54) rfl rfl ?_
  refine o_goto X6 hx 23 (hb hby d16_57) (by decide) (by decide) ?_
  refine o_iloadN X6 hx (hb hby d16_23) rfl ?_
  refine o_aloadN X6 hx (hb hby d16_24) rfl rfl ?_
  obtain ⟨cq7, kq7, q7a, q7b, q7c⟩ := isOf hZ e6 pr0
  obtain ⟨_, _, ⟨T7, L7, kc7, n7⟩, -, X7, ⟨Lc7, hQ7, l7, y7, z7⟩, st7⟩ := X6.virtualBack hx (y := yM8) (z := yM8) hown (mvT hZ w52) (mvT hZ w53) (notFace_of_selects (args := #[]) (mvT hZ w55)) (mvT hZ w55) (mvT hZ w54) (by decide) (backOf (W := 1) (rm_len_3 l Z a0 hw [] s_EID_CHARS cl_T z_CS v_FMT x_ ba_ kb_ [(.int c0_.toInt8.toInt32), (.int c1_.toInt8.toInt32), (.int c2_.toInt8.toInt32)] h0 n0 SB O0 pr0 pr1 pr2 pr3) hZ w56 w10 (by decide) (by decide)) q7a q7c (g := (mkF m 25 #[.val (.ref x_), .val (.int (128 : Int32)), .val (.ref s_EID_CHARS), .val (.int (2 : Int32)), .val (.int c1_)] [(.ref x_), (.int (2 : Int32))])) rfl (by rw [hml]; rfl) (Steps.refl _) (argsL := []) (rest := [(.int (2 : Int32))]) (lenOf own_pd10 rfl) rfl (by show 2 * 0 + _ ≤ _; exact Nat.le_of_eq rfl) (hb hby d16_25) (fun _ _ => ⟨rfl, e6, (by decide : 0 + 0 ≤ _), (by decide : 0 + 0 ≤ _)⟩)
  dsimp only [Pt.U, Pt.locs, Pt.cells, Pt.slots] at X7 l7 y7 z7 st7 hQ7
  subst l7 y7 z7
  obtain ⟨rfl, Nq7, e7⟩ := hQ7
  have N7 := Fr.app N6 Nq7
  refine otr (S' := T7.setTop (mkF m 28 #[.val (.ref x_), .val (.int (128 : Int32)), .val (.ref s_EID_CHARS), .val (.int (2 : Int32)), .val (.int c1_)] [(.int (3 : Int32)), (.int (2 : Int32))])) st7 ?_
  refine o_icmpNo X7 hx (hb hby d16_28) (tlt (by decide : (2 : Int32) < (3 : Int32))).2.1 ?_
  refine o_aloadN X7 hx (hb hby d16_31) rfl rfl ?_
  refine o_iloadN X7 hx (hb hby d16_32) rfl ?_
  obtain ⟨cq8, kq8, q8a, q8b, q8c⟩ := isOf hZ e7 pr0
  obtain ⟨_, _, ⟨T8, L8, kc8, n8⟩, -, X8, ⟨Lc8, hQ8, l8, y8, z8⟩, st8⟩ := X7.virtualBack hx (y := yM14) (z := yM14) hown (mvT hZ w62) (mvT hZ w63) (notFace_of_selects (args := #[]) (mvT hZ w65)) (mvT hZ w65) (mvT hZ w64) (by decide) (backOf (W := 0) (rm_cat_3_2 l Z a0 hw [] s_EID_CHARS cl_T z_CS v_FMT x_ ba_ kb_ c0_ c1_ c2_ h0 n0 SB O0 pr0 pr1 pr2 pr3 pr9 pr12) hZ w66 w10 (by decide) (by decide)) q8a q8c (g := (mkF m 33 #[.val (.ref x_), .val (.int (128 : Int32)), .val (.ref s_EID_CHARS), .val (.int (2 : Int32)), .val (.int c1_)] [(.int (2 : Int32)), (.ref x_)])) rfl (by rw [hml]; rfl) (Steps.refl _) (argsL := [(.int (2 : Int32))]) (rest := []) (lenOf own_pd11 rfl) rfl (by show 2 * 0 + _ ≤ _; exact Nat.le_of_eq rfl) (hb hby d16_33) (fun _ _ => ⟨rfl, e7, (by decide : 0 + 0 ≤ _), (by decide : 0 + 0 ≤ _)⟩)
  dsimp only [Pt.U, Pt.locs, Pt.cells, Pt.slots] at X8 l8 y8 z8 st8 hQ8
  subst l8 y8 z8
  obtain ⟨rfl, Nq8, e8⟩ := hQ8
  have N8 := Fr.app N7 Nq8
  refine otr (S' := T8.setTop (mkF m 36 #[.val (.ref x_), .val (.int (128 : Int32)), .val (.ref s_EID_CHARS), .val (.int (2 : Int32)), .val (.int c1_)] [(.int c2_)])) st8 ?_
  refine o_istore X8 hx (l' := #[.val (.ref x_), .val (.int (128 : Int32)), .val (.ref s_EID_CHARS), .val (.int (2 : Int32)), .val (.int c2_)]) (hb hby d16_36) rfl ?_
  refine o_iload X8 hx (hb hby d16_38) rfl ?_
  refine o_aloadN X8 hx (hb hby d16_40) rfl rfl ?_
  refine ogo (S' := T8.setTop (mkF m 42 #[.val (.ref x_), .val (.int (128 : Int32)), .val (.ref s_EID_CHARS), .val (.int (2 : Int32)), .val (.int c2_)] [(.int (128 : Int32)), (.int c2_)])) (fun _ kt_ => X8.arraylength hx (by rw [e8]; exact (Arr.ext O0.2 A_T).1) (State.isArrayOf_alike hZ.alike A_T.2.1) (g := (mkF m 41 #[.val (.ref x_), .val (.int (128 : Int32)), .val (.ref s_EID_CHARS), .val (.int (2 : Int32)), .val (.int c2_)] [(.ref s_EID_CHARS), (.int c2_)])) rfl rfl (hb hby d16_41) _ (by rw [len_of L_T (by decide)]; exact kt_)) ?_
  refine o_icmpNo X8 hx (hb hby d16_42) (tlt (own_ok_128 pr6)).2.1 ?_
  refine o_aloadN X8 hx (hb hby d16_45) rfl rfl ?_
  refine o_iload X8 hx (hb hby d16_46) rfl ?_
  refine ogo (S' := T8.setTop (mkF m 49 #[.val (.ref x_), .val (.int (128 : Int32)), .val (.ref s_EID_CHARS), .val (.int (2 : Int32)), .val (.int c2_)] [(.int (1 : Int32))])) (X8.baloadBooleans hx (j := c2_) (v := (.int 1)) (by rw [e8]; exact (Arr.ext O0.2 A_T).1) (State.isArrayOf_alike hZ.alike A_T.2.1) A_T.2.2 (inb_of L_T ⟨own_ok_0 pr6, own_ok_128 pr6⟩) (T_T _ pr6) (g := (mkF m 48 #[.val (.ref x_), .val (.int (128 : Int32)), .val (.ref s_EID_CHARS), .val (.int (2 : Int32)), .val (.int c2_)] [(.int c2_), (.ref s_EID_CHARS)])) rfl rfl (hb hby d16_48)) ?_
  refine o_ifYes X8 hx 54 (hb hby d16_49) (feq (by decide : ¬ ((1 : Int32) = (0 : Int32)))).2 (by decide) (by decide) ?_
  refine o_iinc X8 hx (l' := #[.val (.ref x_), .val (.int (128 : Int32)), .val (.ref s_EID_CHARS), .val (.int (3 : Int32)), .val (.int c2_)]) (hb hby d16_54) rfl rfl ?_
  refine o_goto X8 hx 23 (hb hby d16_57) (by decide) (by decide) ?_
  refine o_iloadN X8 hx (hb hby d16_23) rfl ?_
  refine o_aloadN X8 hx (hb hby d16_24) rfl rfl ?_
  obtain ⟨cq9, kq9, q9a, q9b, q9c⟩ := isOf hZ e8 pr0
  obtain ⟨_, _, ⟨T9, L9, kc9, n9⟩, -, X9, ⟨Lc9, hQ9, l9, y9, z9⟩, st9⟩ := X8.virtualBack hx (y := yM8) (z := yM8) hown (mvT hZ w52) (mvT hZ w53) (notFace_of_selects (args := #[]) (mvT hZ w55)) (mvT hZ w55) (mvT hZ w54) (by decide) (backOf (W := 1) (rm_len_3 l Z a0 hw [] s_EID_CHARS cl_T z_CS v_FMT x_ ba_ kb_ [(.int c0_.toInt8.toInt32), (.int c1_.toInt8.toInt32), (.int c2_.toInt8.toInt32)] h0 n0 SB O0 pr0 pr1 pr2 pr3) hZ w56 w10 (by decide) (by decide)) q9a q9c (g := (mkF m 25 #[.val (.ref x_), .val (.int (128 : Int32)), .val (.ref s_EID_CHARS), .val (.int (3 : Int32)), .val (.int c2_)] [(.ref x_), (.int (3 : Int32))])) rfl (by rw [hml]; rfl) (Steps.refl _) (argsL := []) (rest := [(.int (3 : Int32))]) (lenOf own_pd10 rfl) rfl (by show 2 * 0 + _ ≤ _; exact Nat.le_of_eq rfl) (hb hby d16_25) (fun _ _ => ⟨rfl, e8, (by decide : 0 + 0 ≤ _), (by decide : 0 + 0 ≤ _)⟩)
  dsimp only [Pt.U, Pt.locs, Pt.cells, Pt.slots] at X9 l9 y9 z9 st9 hQ9
  subst l9 y9 z9
  obtain ⟨rfl, Nq9, e9⟩ := hQ9
  have N9 := Fr.app N8 Nq9
  refine otr (S' := T9.setTop (mkF m 28 #[.val (.ref x_), .val (.int (128 : Int32)), .val (.ref s_EID_CHARS), .val (.int (3 : Int32)), .val (.int c2_)] [(.int (3 : Int32)), (.int (3 : Int32))])) st9 ?_
  refine o_icmpYes X9 hx 60 (hb hby d16_28) (flt (by decide : ¬ ((3 : Int32) < (3 : Int32)))).2.1 (by decide) (by decide) ?_
  refine o_iconst X9 hx (1 : Int32) (hb hby d16_60) rfl ?_
  refine oend X9 hlk (v := some (.int (1 : Int32))) (fun h => by rw [hret] at h; cases h) (fun fs hr => retN X9 hx (t := .boolean) hret (by simp) (hb hby d16_61) hr) (by decide) (by decide) ?_
  show own_Q_spelled_3 Z _ _ _ _ _ _ _ _ _ _ h0 n0 _ T9.heap _
  rw [e9]
  exact ⟨rfl, N9, rfl⟩
def own_Q_len_4 (Z : State) (s_EID_CHARS : Addr) (cl_T : Cell) (z_CS : Int32) (v_FMT : Value) (x_ : Addr) (ba_ : Addr) (kb_ : ClassId) (vs_ : List Value) (h0 : Heap) (n0 : Nat) (v : Option Value) (h : Heap) (L : List Loc) : Prop := (v = some (.int (4 : Int32))) ∧ (Fr n0 L) ∧ (h = h0)
set_option maxRecDepth 65536 in
set_option maxHeartbeats 40000000 in
theorem rm_len_4 (l : Launch) (Z : State) (a0 : Array Value) (hw : ∀ d ∈ tables_1, d.before a0 Z = true) (ws : List Jvm.Cond) (s_EID_CHARS : Addr) (cl_T : Cell) (z_CS : Int32) (v_FMT : Value) (x_ : Addr) (ba_ : Addr) (kb_ : ClassId) (vs_ : List Value) (h0 : Heap) (n0 : Nat) (SB : own_Start Z s_EID_CHARS cl_T z_CS v_FMT) (O0 : Old Z n0 h0) (pr0 : Exa Z h0 x_ "java/lang/String") (pr1 : Fld Z h0 x_ "java/lang/String" "coder" "B" (.int (0 : Int32))) (pr2 : Fld Z h0 x_ "java/lang/String" "value" "[B" (.ref ba_)) (pr3 : Arv Z h0 ba_ kb_ .byte (4 : Int32) vs_ (.int 0)) :
    oMet l Z yM8 jdk_42_method_54_code 1 (some .int) ws ({ frames := 1, cells := 0, slots := 0, locals := 13 } : Room) 0 0 #[(.ref x_)] h0 (own_Q_len_4 Z s_EID_CHARS cl_T z_CS v_FMT x_ ba_ kb_ vs_ h0 n0) := by
  refine oenter own_pn2 #[.val (.ref x_)] (fun m => by first | (simp [entryFrame, mkF, argsToLocals, Value.category]; done) | rfl) ?_
  intro p e s m below meth c s₁ X0 hx hZ hby hml hret hown0 hnm hlk e0
  have hown : s.vm.findClass "java/lang/String" = some m.cls := hown0
  have N0 := Fr.nil n0
  obtain ⟨S_s_EID_CHARS, A_T, L_T, T_T, S_CS, H_CS, S_FMT, R_FMT⟩ := (id SB)
  have w10 := hw _ (List.mem_of_getElem? (i := 10) rfl)
  have w36 := hw _ (List.mem_of_getElem? (i := 36) rfl)
  have w57 := hw _ (List.mem_of_getElem? (i := 57) rfl)
  have w58 := hw _ (List.mem_of_getElem? (i := 58) rfl)
  have w59 := hw _ (List.mem_of_getElem? (i := 59) rfl)
  have w60 := hw _ (List.mem_of_getElem? (i := 60) rfl)
  have w61 := hw _ (List.mem_of_getElem? (i := 61) rfl)
  refine o_aloadN X0 hx (hb hby d9_0) rfl rfl ?_
  obtain ⟨T1, X1, e1, st1⟩ := getF X0 hx hZ hown (host := "") (Or.inl w36) Via.refl e0 pr2 (g := (mkF m 1 #[.val (.ref x_)] [(.ref x_)])) rfl rfl (hb hby d9_1)
  refine ogo (S' := T1.setTop (mkF m 4 #[.val (.ref x_)] [(.ref ba_)])) st1 ?_
  obtain ⟨cl2, Ar2, -, S2, N2z, -, -⟩ := (id pr3)
  refine ogo (S' := T1.setTop (mkF m 5 #[.val (.ref x_)] [(.int (4 : Int32))])) (fun _ kt_ => X1.arraylength hx (by rw [e1]; exact Ar2.1) (State.isArrayOf_alike hZ.alike Ar2.2.1) (g := (mkF m 4 #[.val (.ref x_)] [(.ref ba_)])) rfl rfl (hb hby d9_4) _ (by rw [len_of S2 N2z]; exact kt_)) ?_
  refine o_aloadN X1 hx (hb hby d9_5) rfl rfl ?_
  obtain ⟨cq3, kq3, q3a, q3b, q3c⟩ := isOf hZ e1 pr0
  obtain ⟨_, _, ⟨T3, L3, kc3, n3⟩, -, X3, ⟨Lc3, hQ3, l3, y3, z3⟩, st3⟩ := X1.virtualBack hx (y := yM7) (z := yM7) hown (mvT hZ w57) (mvT hZ w58) (notFace_of_selects (args := #[]) (mvT hZ w60)) (mvT hZ w60) (mvT hZ w59) (by decide) (backOf (W := 1) (rm_coder l Z a0 hw [] s_EID_CHARS cl_T z_CS v_FMT x_ h0 n0 SB O0 pr1) hZ w61 w10 (by decide) (by decide)) q3a q3c (g := (mkF m 6 #[.val (.ref x_)] [(.ref x_), (.int (4 : Int32))])) rfl (by rw [hml]; rfl) (Steps.refl _) (argsL := []) (rest := [(.int (4 : Int32))]) (lenOf own_pd5 rfl) rfl (by show 2 * 0 + _ ≤ _; exact Nat.le_of_eq rfl) (hb hby d9_6) (fun _ _ => ⟨rfl, e1, (by decide : 0 + 0 ≤ _), (by decide : 0 + 0 ≤ _)⟩)
  dsimp only [Pt.U, Pt.locs, Pt.cells, Pt.slots] at X3 l3 y3 z3 st3 hQ3
  subst l3 y3 z3
  obtain ⟨rfl, Nq3, e3⟩ := hQ3
  have N3 := Fr.app N0 Nq3
  refine otr (S' := T3.setTop (mkF m 9 #[.val (.ref x_)] [(.int (0 : Int32)), (.int (4 : Int32))])) st3 ?_
  refine o_ishr X3 hx (hb hby d9_9) ?_
  refine oend X3 hlk (v := some (.int (4 : Int32))) (fun h => by rw [hret] at h; cases h) (fun fs hr => retOut X3 hx (t := .int) (i := .ireturn) hret rfl (Or.inl ⟨rfl, Or.inl rfl, _, rfl⟩) (hb hby d9_10) hr) (by decide) (by decide) ?_
  show own_Q_len_4 Z _ _ _ _ _ _ _ _ h0 n0 _ T3.heap _
  rw [e3]
  exact ⟨rfl, N3, rfl⟩
def own_Q_emp_4 (Z : State)  (x_ : Addr) (ba_ : Addr) (kb_ : ClassId) (vs_ : List Value) (h0 : Heap) (n0 : Nat) (v : Option Value) (h : Heap) (L : List Loc) : Prop := (v = some (.int (0 : Int32))) ∧ (Fr n0 L) ∧ (h = h0)
set_option maxRecDepth 65536 in
set_option maxHeartbeats 40000000 in
theorem rm_emp_4 (l : Launch) (Z : State) (a0 : Array Value) (hw : ∀ d ∈ tables_1, d.before a0 Z = true) (ws : List Jvm.Cond)  (x_ : Addr) (ba_ : Addr) (kb_ : ClassId) (vs_ : List Value) (h0 : Heap) (n0 : Nat) (O0 : Old Z n0 h0) (pr0 : Exa Z h0 x_ "java/lang/String") (pr1 : Fld Z h0 x_ "java/lang/String" "coder" "B" (.int (0 : Int32))) (pr2 : Fld Z h0 x_ "java/lang/String" "value" "[B" (.ref ba_)) (pr3 : Arv Z h0 ba_ kb_ .byte (4 : Int32) vs_ (.int 0)) :
    oMet l Z yM9 jdk_42_method_55_code 1 (some .boolean) ws ({ frames := 0, cells := 0, slots := 0, locals := 0 } : Room) 0 0 #[(.ref x_)] h0 (own_Q_emp_4 Z  x_ ba_ kb_ vs_ h0 n0) := by
  refine oenter own_pn2 #[.val (.ref x_)] (fun m => by first | (simp [entryFrame, mkF, argsToLocals, Value.category]; done) | rfl) ?_
  intro p e s m below meth c s₁ X0 hx hZ hby hml hret hown0 hnm hlk e0
  have hown : s.vm.findClass "java/lang/String" = some m.cls := hown0
  have N0 := Fr.nil n0
  have w36 := hw _ (List.mem_of_getElem? (i := 36) rfl)
  refine o_aloadN X0 hx (hb hby d10_0) rfl rfl ?_
  obtain ⟨T1, X1, e1, st1⟩ := getF X0 hx hZ hown (host := "") (Or.inl w36) Via.refl e0 pr2 (g := (mkF m 1 #[.val (.ref x_)] [(.ref x_)])) rfl rfl (hb hby d10_1)
  refine ogo (S' := T1.setTop (mkF m 4 #[.val (.ref x_)] [(.ref ba_)])) st1 ?_
  obtain ⟨cl2, Ar2, -, S2, N2z, -, -⟩ := (id pr3)
  refine ogo (S' := T1.setTop (mkF m 5 #[.val (.ref x_)] [(.int (4 : Int32))])) (fun _ kt_ => X1.arraylength hx (by rw [e1]; exact Ar2.1) (State.isArrayOf_alike hZ.alike Ar2.2.1) (g := (mkF m 4 #[.val (.ref x_)] [(.ref ba_)])) rfl rfl (hb hby d10_4) _ (by rw [len_of S2 N2z]; exact kt_)) ?_
  refine o_ifYes X1 hx 12 (hb hby d10_5) (feq (by decide : ¬ ((4 : Int32) = (0 : Int32)))).2 (by decide) (by decide) ?_
  refine o_iconst X1 hx (0 : Int32) (hb hby d10_12) rfl ?_
  refine oend X1 hlk (v := some (.int (0 : Int32))) (fun h => by rw [hret] at h; cases h) (fun fs hr => retN X1 hx (t := .boolean) hret (by simp) (hb hby d10_13) hr) (by decide) (by decide) ?_
  show own_Q_emp_4 Z _ _ _ _ h0 n0 _ T1.heap _
  rw [e1]
  exact ⟨rfl, N0, rfl⟩
def own_Q_l1c_4_0 (Z : State) (s_EID_CHARS : Addr) (cl_T : Cell) (z_CS : Int32) (v_FMT : Value) (ba_ : Addr) (kb_ : ClassId) (c0_ : Int32) (c1_ : Int32) (c2_ : Int32) (c3_ : Int32) (h0 : Heap) (n0 : Nat) (v : Option Value) (h : Heap) (L : List Loc) : Prop := (v = some (.int c0_)) ∧ (Fr n0 L) ∧ (h = h0)
set_option maxRecDepth 65536 in
set_option maxHeartbeats 40000000 in
theorem rm_l1c_4_0 (l : Launch) (Z : State) (a0 : Array Value) (hw : ∀ d ∈ tables_1, d.before a0 Z = true) (ws : List Jvm.Cond) (s_EID_CHARS : Addr) (cl_T : Cell) (z_CS : Int32) (v_FMT : Value) (ba_ : Addr) (kb_ : ClassId) (c0_ : Int32) (c1_ : Int32) (c2_ : Int32) (c3_ : Int32) (h0 : Heap) (n0 : Nat) (SB : own_Start Z s_EID_CHARS cl_T z_CS v_FMT) (O0 : Old Z n0 h0) (pr0 : Arv Z h0 ba_ kb_ .byte (4 : Int32) [(.int c0_.toInt8.toInt32), (.int c1_.toInt8.toInt32), (.int c2_.toInt8.toInt32), (.int c3_.toInt8.toInt32)] (.int 0)) (pr1 : ¬ (c0_ < (0 : Int32))) (pr2 : ¬ ((255 : Int32) < c0_)) :
    oMet l Z yM13 jdk_43_method_2_code 2 (some .char) ws ({ frames := 2, cells := 0, slots := 0, locals := 27 } : Room) 0 0 #[(.ref ba_), (.int (0 : Int32))] h0 (own_Q_l1c_4_0 Z s_EID_CHARS cl_T z_CS v_FMT ba_ kb_ c0_ c1_ c2_ c3_ h0 n0) := by
  refine oenter own_pn4 #[.val (.ref ba_), .val (.int (0 : Int32))] (fun m => by first | (simp [entryFrame, mkF, argsToLocals, Value.category]; done) | rfl) ?_
  intro p e s m below meth c s₁ X0 hx hZ hby hml hret hown0 hnm hlk e0
  have hown : s.vm.findClass "java/lang/StringLatin1" = some m.cls := hown0
  have N0 := Fr.nil n0
  obtain ⟨S_s_EID_CHARS, A_T, L_T, T_T, S_CS, H_CS, S_FMT, R_FMT⟩ := (id SB)
  have w10 := hw _ (List.mem_of_getElem? (i := 10) rfl)
  have w76 := hw _ (List.mem_of_getElem? (i := 76) rfl)
  have w77 := hw _ (List.mem_of_getElem? (i := 77) rfl)
  have w78 := hw _ (List.mem_of_getElem? (i := 78) rfl)
  refine o_iloadN X0 hx (hb hby d14_0) rfl ?_
  refine o_aloadN X0 hx (hb hby d14_1) rfl rfl ?_
  obtain ⟨cl1, Ar1, -, S1, N1z, -, -⟩ := (id pr0)
  refine ogo (S' := s₁.setTop (mkF m 3 #[.val (.ref ba_), .val (.int (0 : Int32))] [(.int (4 : Int32)), (.int (0 : Int32))])) (fun _ kt_ => X0.arraylength hx (by rw [e0]; exact Ar1.1) (State.isArrayOf_alike hZ.alike Ar1.2.1) (g := (mkF m 2 #[.val (.ref ba_), .val (.int (0 : Int32))] [(.ref ba_), (.int (0 : Int32))])) rfl rfl (hb hby d14_2) _ (by rw [len_of S1 N1z]; exact kt_)) ?_
  obtain ⟨_, _, ⟨T2, L2, kc2, n2⟩, -, X2, ⟨Lc2, hQ2, l2, y2, z2⟩, st2⟩ := Jvm.LawKit.callS X0 hx (y := yM12) hown (mvT hZ w76) (mvT hZ w77) (mvT hZ w10) (mvT hZ w78) (by decide) (backOf (W := 0) (rm_sci l Z a0 hw [] s_EID_CHARS cl_T z_CS v_FMT (0 : Int32) (4 : Int32) h0 n0 SB O0 (by decide) (by decide)) hZ w78 w10 (by decide) (by decide)) (g := (mkF m 3 #[.val (.ref ba_), .val (.int (0 : Int32))] [(.int (4 : Int32)), (.int (0 : Int32))])) rfl (by rw [hml]; rfl) (argsL := [(.int (0 : Int32)), (.int (4 : Int32))]) (rest := []) (lenOf own_pd7 rfl) rfl (by show 2 * 0 + _ ≤ _; exact Nat.le_of_eq rfl) (hb hby d14_3) (fun _ _ => ⟨rfl, e0, (by decide : 0 + 0 ≤ _), (by decide : 0 + 0 ≤ _)⟩)
  dsimp only [Pt.U, Pt.locs, Pt.cells, Pt.slots] at X2 l2 y2 z2 st2 hQ2
  subst l2 y2 z2
  obtain ⟨rfl, Nq2, e2⟩ := hQ2
  have N2 := Fr.app N0 Nq2
  refine ogo (S' := T2.setTop (mkF m 6 #[.val (.ref ba_), .val (.int (0 : Int32))] [])) st2 ?_
  refine o_aloadN X2 hx (hb hby d14_6) rfl rfl ?_
  refine o_iloadN X2 hx (hb hby d14_7) rfl ?_
  obtain ⟨cl3, Ar3, q3, S3, N3z, H3, G3⟩ := (id pr0)
  have hi3 := inb_of (j := (0 : Int32)) S3 ⟨by decide, by decide⟩
  have ha3 := Has.at (v := (.int c0_.toInt8.toInt32)) H3 hi3 rfl
  refine ogo (S' := T2.setTop (mkF m 9 #[.val (.ref ba_), .val (.int (0 : Int32))] [(.int c0_.toInt8.toInt32)])) (X2.baloadBytes hx (j := (0 : Int32)) (v := (.int c0_.toInt8.toInt32)) (by rw [e2]; exact Ar3.1) (State.isArrayOf_alike hZ.alike Ar3.2.1) Ar3.2.2 hi3 ha3 (g := (mkF m 8 #[.val (.ref ba_), .val (.int (0 : Int32))] [(.int (0 : Int32)), (.ref ba_)])) rfl rfl (hb hby d14_8)) ?_
  refine o_sipush X2 hx (255 : Int32) (hb hby d14_9) rfl ?_
  refine o_iand X2 hx (hb hby d14_12) ?_
  refine o_i2c X2 hx (hb hby d14_13) ?_
  rw [own_char pr1 pr2]
  refine oend X2 hlk (v := some (.int c0_)) (fun h => by rw [hret] at h; cases h) (fun fs hr => retN X2 hx (t := .char) hret (by simp) (hb hby d14_14) (by rw [(own_narsm pr1 pr2)]; exact hr)) (by decide) (by decide) ?_
  show own_Q_l1c_4_0 Z _ _ _ _ _ _ _ _ _ _ h0 n0 _ T2.heap _
  rw [e2]
  exact ⟨rfl, N2, rfl⟩
def own_Q_cat_4_0 (Z : State) (s_EID_CHARS : Addr) (cl_T : Cell) (z_CS : Int32) (v_FMT : Value) (x_ : Addr) (ba_ : Addr) (kb_ : ClassId) (c0_ : Int32) (c1_ : Int32) (c2_ : Int32) (c3_ : Int32) (h0 : Heap) (n0 : Nat) (v : Option Value) (h : Heap) (L : List Loc) : Prop := (v = some (.int c0_)) ∧ (Fr n0 L) ∧ (h = h0)
set_option maxRecDepth 65536 in
set_option maxHeartbeats 40000000 in
theorem rm_cat_4_0 (l : Launch) (Z : State) (a0 : Array Value) (hw : ∀ d ∈ tables_1, d.before a0 Z = true) (ws : List Jvm.Cond) (s_EID_CHARS : Addr) (cl_T : Cell) (z_CS : Int32) (v_FMT : Value) (x_ : Addr) (ba_ : Addr) (kb_ : ClassId) (c0_ : Int32) (c1_ : Int32) (c2_ : Int32) (c3_ : Int32) (h0 : Heap) (n0 : Nat) (SB : own_Start Z s_EID_CHARS cl_T z_CS v_FMT) (O0 : Old Z n0 h0) (pr0 : Exa Z h0 x_ "java/lang/String") (pr1 : Fld Z h0 x_ "java/lang/String" "coder" "B" (.int (0 : Int32))) (pr2 : Fld Z h0 x_ "java/lang/String" "value" "[B" (.ref ba_)) (pr3 : Arv Z h0 ba_ kb_ .byte (4 : Int32) [(.int c0_.toInt8.toInt32), (.int c1_.toInt8.toInt32), (.int c2_.toInt8.toInt32), (.int c3_.toInt8.toInt32)] (.int 0)) (pr4 : ¬ (c0_ < (0 : Int32))) (pr5 : ¬ ((255 : Int32) < c0_)) :
    oMet l Z yM14 jdk_42_method_56_code 2 (some .char) ws ({ frames := 3, cells := 0, slots := 0, locals := 40 } : Room) 0 0 #[(.ref x_), (.int (0 : Int32))] h0 (own_Q_cat_4_0 Z s_EID_CHARS cl_T z_CS v_FMT x_ ba_ kb_ c0_ c1_ c2_ c3_ h0 n0) := by
  refine oenter own_pn2 #[.val (.ref x_), .val (.int (0 : Int32))] (fun m => by first | (simp [entryFrame, mkF, argsToLocals, Value.category]; done) | rfl) ?_
  intro p e s m below meth c s₁ X0 hx hZ hby hml hret hown0 hnm hlk e0
  have hown : s.vm.findClass "java/lang/String" = some m.cls := hown0
  have N0 := Fr.nil n0
  obtain ⟨S_s_EID_CHARS, A_T, L_T, T_T, S_CS, H_CS, S_FMT, R_FMT⟩ := (id SB)
  have w10 := hw _ (List.mem_of_getElem? (i := 10) rfl)
  have w36 := hw _ (List.mem_of_getElem? (i := 36) rfl)
  have w67 := hw _ (List.mem_of_getElem? (i := 67) rfl)
  have w68 := hw _ (List.mem_of_getElem? (i := 68) rfl)
  have w69 := hw _ (List.mem_of_getElem? (i := 69) rfl)
  have w70 := hw _ (List.mem_of_getElem? (i := 70) rfl)
  have w71 := hw _ (List.mem_of_getElem? (i := 71) rfl)
  have w72 := hw _ (List.mem_of_getElem? (i := 72) rfl)
  have w73 := hw _ (List.mem_of_getElem? (i := 73) rfl)
  have w74 := hw _ (List.mem_of_getElem? (i := 74) rfl)
  have w75 := hw _ (List.mem_of_getElem? (i := 75) rfl)
  refine o_aloadN X0 hx (hb hby d15_0) rfl rfl ?_
  obtain ⟨cq1, kq1, q1a, q1b, q1c⟩ := isOf hZ e0 pr0
  obtain ⟨_, _, ⟨T1, L1, kc1, n1⟩, -, X1, ⟨Lc1, hQ1, l1, y1, z1⟩, st1⟩ := X0.virtualBack hx (y := yM10) (z := yM10) hown (mvT hZ w67) (mvT hZ w68) (notFace_of_selects (args := #[]) (mvT hZ w70)) (mvT hZ w70) (mvT hZ w69) (by decide) (backOf (W := 0) (rm_isl1 l Z a0 hw [] s_EID_CHARS cl_T z_CS v_FMT x_ h0 n0 SB O0 pr1) hZ w71 w10 (by decide) (by decide)) q1a q1c (g := (mkF m 1 #[.val (.ref x_), .val (.int (0 : Int32))] [(.ref x_)])) rfl (by rw [hml]; rfl) (Steps.refl _) (argsL := []) (rest := []) (lenOf own_pd8 rfl) rfl (by show 2 * 0 + _ ≤ _; exact Nat.le_of_eq rfl) (hb hby d15_1) (fun _ _ => ⟨rfl, e0, (by decide : 0 + 0 ≤ _), (by decide : 0 + 0 ≤ _)⟩)
  dsimp only [Pt.U, Pt.locs, Pt.cells, Pt.slots] at X1 l1 y1 z1 st1 hQ1
  subst l1 y1 z1
  obtain ⟨rfl, Nq1, e1⟩ := hQ1
  have N1 := Fr.app N0 Nq1
  refine otr (S' := T1.setTop (mkF m 4 #[.val (.ref x_), .val (.int (0 : Int32))] [(.int (1 : Int32))])) st1 ?_
  refine o_ifNo X1 hx (hb hby d15_4) (feq (by decide : ¬ ((1 : Int32) = (0 : Int32)))).1 ?_
  refine o_aloadN X1 hx (hb hby d15_7) rfl rfl ?_
  obtain ⟨T2, X2, e2, st2⟩ := getF X1 hx hZ hown (host := "") (Or.inl w36) Via.refl e1 pr2 (g := (mkF m 8 #[.val (.ref x_), .val (.int (0 : Int32))] [(.ref x_)])) rfl rfl (hb hby d15_8)
  refine ogo (S' := T2.setTop (mkF m 11 #[.val (.ref x_), .val (.int (0 : Int32))] [(.ref ba_)])) st2 ?_
  refine o_iloadN X2 hx (hb hby d15_11) rfl ?_
  obtain ⟨_, _, ⟨T3, L3, kc3, n3⟩, -, X3, ⟨Lc3, hQ3, l3, y3, z3⟩, st3⟩ := Jvm.LawKit.callS X2 hx (y := yM13) hown (mvT hZ w72) (mvT hZ w73) (mvT hZ w74) (mvT hZ w75) (by decide) (backOf (W := 0) (rm_l1c_4_0 l Z a0 hw [] s_EID_CHARS cl_T z_CS v_FMT ba_ kb_ c0_ c1_ c2_ c3_ h0 n0 SB O0 pr3 pr4 pr5) hZ w75 w74 (by decide) (by decide)) (g := (mkF m 12 #[.val (.ref x_), .val (.int (0 : Int32))] [(.int (0 : Int32)), (.ref ba_)])) rfl (by rw [hml]; rfl) (argsL := [(.ref ba_), (.int (0 : Int32))]) (rest := []) (lenOf own_pd9 rfl) rfl (by show 2 * 0 + _ ≤ _; exact Nat.le_of_eq rfl) (hb hby d15_12) (fun _ _ => ⟨rfl, e2, (by decide : 0 + 0 ≤ _), (by decide : 0 + 0 ≤ _)⟩)
  dsimp only [Pt.U, Pt.locs, Pt.cells, Pt.slots] at X3 l3 y3 z3 st3 hQ3
  subst l3 y3 z3
  obtain ⟨rfl, Nq3, e3⟩ := hQ3
  have N3 := Fr.app N1 Nq3
  refine ogo (S' := T3.setTop (mkF m 15 #[.val (.ref x_), .val (.int (0 : Int32))] [(.int c0_)])) st3 ?_
  refine oend X3 hlk (v := some (.int c0_)) (fun h => by rw [hret] at h; cases h) (fun fs hr => retN X3 hx (t := .char) hret (by simp) (hb hby d15_15) (by rw [(own_narsm pr4 pr5)]; exact hr)) (by decide) (by decide) ?_
  show own_Q_cat_4_0 Z _ _ _ _ _ _ _ _ _ _ _ h0 n0 _ T3.heap _
  rw [e3]
  exact ⟨rfl, N3, rfl⟩
def own_Q_l1c_4_1 (Z : State) (s_EID_CHARS : Addr) (cl_T : Cell) (z_CS : Int32) (v_FMT : Value) (ba_ : Addr) (kb_ : ClassId) (c0_ : Int32) (c1_ : Int32) (c2_ : Int32) (c3_ : Int32) (h0 : Heap) (n0 : Nat) (v : Option Value) (h : Heap) (L : List Loc) : Prop := (v = some (.int c1_)) ∧ (Fr n0 L) ∧ (h = h0)
set_option maxRecDepth 65536 in
set_option maxHeartbeats 40000000 in
theorem rm_l1c_4_1 (l : Launch) (Z : State) (a0 : Array Value) (hw : ∀ d ∈ tables_1, d.before a0 Z = true) (ws : List Jvm.Cond) (s_EID_CHARS : Addr) (cl_T : Cell) (z_CS : Int32) (v_FMT : Value) (ba_ : Addr) (kb_ : ClassId) (c0_ : Int32) (c1_ : Int32) (c2_ : Int32) (c3_ : Int32) (h0 : Heap) (n0 : Nat) (SB : own_Start Z s_EID_CHARS cl_T z_CS v_FMT) (O0 : Old Z n0 h0) (pr0 : Arv Z h0 ba_ kb_ .byte (4 : Int32) [(.int c0_.toInt8.toInt32), (.int c1_.toInt8.toInt32), (.int c2_.toInt8.toInt32), (.int c3_.toInt8.toInt32)] (.int 0)) (pr1 : ¬ (c1_ < (0 : Int32))) (pr2 : ¬ ((255 : Int32) < c1_)) :
    oMet l Z yM13 jdk_43_method_2_code 2 (some .char) ws ({ frames := 2, cells := 0, slots := 0, locals := 27 } : Room) 0 0 #[(.ref ba_), (.int (1 : Int32))] h0 (own_Q_l1c_4_1 Z s_EID_CHARS cl_T z_CS v_FMT ba_ kb_ c0_ c1_ c2_ c3_ h0 n0) := by
  refine oenter own_pn4 #[.val (.ref ba_), .val (.int (1 : Int32))] (fun m => by first | (simp [entryFrame, mkF, argsToLocals, Value.category]; done) | rfl) ?_
  intro p e s m below meth c s₁ X0 hx hZ hby hml hret hown0 hnm hlk e0
  have hown : s.vm.findClass "java/lang/StringLatin1" = some m.cls := hown0
  have N0 := Fr.nil n0
  obtain ⟨S_s_EID_CHARS, A_T, L_T, T_T, S_CS, H_CS, S_FMT, R_FMT⟩ := (id SB)
  have w10 := hw _ (List.mem_of_getElem? (i := 10) rfl)
  have w76 := hw _ (List.mem_of_getElem? (i := 76) rfl)
  have w77 := hw _ (List.mem_of_getElem? (i := 77) rfl)
  have w78 := hw _ (List.mem_of_getElem? (i := 78) rfl)
  refine o_iloadN X0 hx (hb hby d14_0) rfl ?_
  refine o_aloadN X0 hx (hb hby d14_1) rfl rfl ?_
  obtain ⟨cl1, Ar1, -, S1, N1z, -, -⟩ := (id pr0)
  refine ogo (S' := s₁.setTop (mkF m 3 #[.val (.ref ba_), .val (.int (1 : Int32))] [(.int (4 : Int32)), (.int (1 : Int32))])) (fun _ kt_ => X0.arraylength hx (by rw [e0]; exact Ar1.1) (State.isArrayOf_alike hZ.alike Ar1.2.1) (g := (mkF m 2 #[.val (.ref ba_), .val (.int (1 : Int32))] [(.ref ba_), (.int (1 : Int32))])) rfl rfl (hb hby d14_2) _ (by rw [len_of S1 N1z]; exact kt_)) ?_
  obtain ⟨_, _, ⟨T2, L2, kc2, n2⟩, -, X2, ⟨Lc2, hQ2, l2, y2, z2⟩, st2⟩ := Jvm.LawKit.callS X0 hx (y := yM12) hown (mvT hZ w76) (mvT hZ w77) (mvT hZ w10) (mvT hZ w78) (by decide) (backOf (W := 0) (rm_sci l Z a0 hw [] s_EID_CHARS cl_T z_CS v_FMT (1 : Int32) (4 : Int32) h0 n0 SB O0 (by decide) (by decide)) hZ w78 w10 (by decide) (by decide)) (g := (mkF m 3 #[.val (.ref ba_), .val (.int (1 : Int32))] [(.int (4 : Int32)), (.int (1 : Int32))])) rfl (by rw [hml]; rfl) (argsL := [(.int (1 : Int32)), (.int (4 : Int32))]) (rest := []) (lenOf own_pd7 rfl) rfl (by show 2 * 0 + _ ≤ _; exact Nat.le_of_eq rfl) (hb hby d14_3) (fun _ _ => ⟨rfl, e0, (by decide : 0 + 0 ≤ _), (by decide : 0 + 0 ≤ _)⟩)
  dsimp only [Pt.U, Pt.locs, Pt.cells, Pt.slots] at X2 l2 y2 z2 st2 hQ2
  subst l2 y2 z2
  obtain ⟨rfl, Nq2, e2⟩ := hQ2
  have N2 := Fr.app N0 Nq2
  refine ogo (S' := T2.setTop (mkF m 6 #[.val (.ref ba_), .val (.int (1 : Int32))] [])) st2 ?_
  refine o_aloadN X2 hx (hb hby d14_6) rfl rfl ?_
  refine o_iloadN X2 hx (hb hby d14_7) rfl ?_
  obtain ⟨cl3, Ar3, q3, S3, N3z, H3, G3⟩ := (id pr0)
  have hi3 := inb_of (j := (1 : Int32)) S3 ⟨by decide, by decide⟩
  have ha3 := Has.at (v := (.int c1_.toInt8.toInt32)) H3 hi3 rfl
  refine ogo (S' := T2.setTop (mkF m 9 #[.val (.ref ba_), .val (.int (1 : Int32))] [(.int c1_.toInt8.toInt32)])) (X2.baloadBytes hx (j := (1 : Int32)) (v := (.int c1_.toInt8.toInt32)) (by rw [e2]; exact Ar3.1) (State.isArrayOf_alike hZ.alike Ar3.2.1) Ar3.2.2 hi3 ha3 (g := (mkF m 8 #[.val (.ref ba_), .val (.int (1 : Int32))] [(.int (1 : Int32)), (.ref ba_)])) rfl rfl (hb hby d14_8)) ?_
  refine o_sipush X2 hx (255 : Int32) (hb hby d14_9) rfl ?_
  refine o_iand X2 hx (hb hby d14_12) ?_
  refine o_i2c X2 hx (hb hby d14_13) ?_
  rw [own_char pr1 pr2]
  refine oend X2 hlk (v := some (.int c1_)) (fun h => by rw [hret] at h; cases h) (fun fs hr => retN X2 hx (t := .char) hret (by simp) (hb hby d14_14) (by rw [(own_narsm pr1 pr2)]; exact hr)) (by decide) (by decide) ?_
  show own_Q_l1c_4_1 Z _ _ _ _ _ _ _ _ _ _ h0 n0 _ T2.heap _
  rw [e2]
  exact ⟨rfl, N2, rfl⟩
def own_Q_cat_4_1 (Z : State) (s_EID_CHARS : Addr) (cl_T : Cell) (z_CS : Int32) (v_FMT : Value) (x_ : Addr) (ba_ : Addr) (kb_ : ClassId) (c0_ : Int32) (c1_ : Int32) (c2_ : Int32) (c3_ : Int32) (h0 : Heap) (n0 : Nat) (v : Option Value) (h : Heap) (L : List Loc) : Prop := (v = some (.int c1_)) ∧ (Fr n0 L) ∧ (h = h0)
set_option maxRecDepth 65536 in
set_option maxHeartbeats 40000000 in
theorem rm_cat_4_1 (l : Launch) (Z : State) (a0 : Array Value) (hw : ∀ d ∈ tables_1, d.before a0 Z = true) (ws : List Jvm.Cond) (s_EID_CHARS : Addr) (cl_T : Cell) (z_CS : Int32) (v_FMT : Value) (x_ : Addr) (ba_ : Addr) (kb_ : ClassId) (c0_ : Int32) (c1_ : Int32) (c2_ : Int32) (c3_ : Int32) (h0 : Heap) (n0 : Nat) (SB : own_Start Z s_EID_CHARS cl_T z_CS v_FMT) (O0 : Old Z n0 h0) (pr0 : Exa Z h0 x_ "java/lang/String") (pr1 : Fld Z h0 x_ "java/lang/String" "coder" "B" (.int (0 : Int32))) (pr2 : Fld Z h0 x_ "java/lang/String" "value" "[B" (.ref ba_)) (pr3 : Arv Z h0 ba_ kb_ .byte (4 : Int32) [(.int c0_.toInt8.toInt32), (.int c1_.toInt8.toInt32), (.int c2_.toInt8.toInt32), (.int c3_.toInt8.toInt32)] (.int 0)) (pr4 : ¬ (c1_ < (0 : Int32))) (pr5 : ¬ ((255 : Int32) < c1_)) :
    oMet l Z yM14 jdk_42_method_56_code 2 (some .char) ws ({ frames := 3, cells := 0, slots := 0, locals := 40 } : Room) 0 0 #[(.ref x_), (.int (1 : Int32))] h0 (own_Q_cat_4_1 Z s_EID_CHARS cl_T z_CS v_FMT x_ ba_ kb_ c0_ c1_ c2_ c3_ h0 n0) := by
  refine oenter own_pn2 #[.val (.ref x_), .val (.int (1 : Int32))] (fun m => by first | (simp [entryFrame, mkF, argsToLocals, Value.category]; done) | rfl) ?_
  intro p e s m below meth c s₁ X0 hx hZ hby hml hret hown0 hnm hlk e0
  have hown : s.vm.findClass "java/lang/String" = some m.cls := hown0
  have N0 := Fr.nil n0
  obtain ⟨S_s_EID_CHARS, A_T, L_T, T_T, S_CS, H_CS, S_FMT, R_FMT⟩ := (id SB)
  have w10 := hw _ (List.mem_of_getElem? (i := 10) rfl)
  have w36 := hw _ (List.mem_of_getElem? (i := 36) rfl)
  have w67 := hw _ (List.mem_of_getElem? (i := 67) rfl)
  have w68 := hw _ (List.mem_of_getElem? (i := 68) rfl)
  have w69 := hw _ (List.mem_of_getElem? (i := 69) rfl)
  have w70 := hw _ (List.mem_of_getElem? (i := 70) rfl)
  have w71 := hw _ (List.mem_of_getElem? (i := 71) rfl)
  have w72 := hw _ (List.mem_of_getElem? (i := 72) rfl)
  have w73 := hw _ (List.mem_of_getElem? (i := 73) rfl)
  have w74 := hw _ (List.mem_of_getElem? (i := 74) rfl)
  have w75 := hw _ (List.mem_of_getElem? (i := 75) rfl)
  refine o_aloadN X0 hx (hb hby d15_0) rfl rfl ?_
  obtain ⟨cq1, kq1, q1a, q1b, q1c⟩ := isOf hZ e0 pr0
  obtain ⟨_, _, ⟨T1, L1, kc1, n1⟩, -, X1, ⟨Lc1, hQ1, l1, y1, z1⟩, st1⟩ := X0.virtualBack hx (y := yM10) (z := yM10) hown (mvT hZ w67) (mvT hZ w68) (notFace_of_selects (args := #[]) (mvT hZ w70)) (mvT hZ w70) (mvT hZ w69) (by decide) (backOf (W := 0) (rm_isl1 l Z a0 hw [] s_EID_CHARS cl_T z_CS v_FMT x_ h0 n0 SB O0 pr1) hZ w71 w10 (by decide) (by decide)) q1a q1c (g := (mkF m 1 #[.val (.ref x_), .val (.int (1 : Int32))] [(.ref x_)])) rfl (by rw [hml]; rfl) (Steps.refl _) (argsL := []) (rest := []) (lenOf own_pd8 rfl) rfl (by show 2 * 0 + _ ≤ _; exact Nat.le_of_eq rfl) (hb hby d15_1) (fun _ _ => ⟨rfl, e0, (by decide : 0 + 0 ≤ _), (by decide : 0 + 0 ≤ _)⟩)
  dsimp only [Pt.U, Pt.locs, Pt.cells, Pt.slots] at X1 l1 y1 z1 st1 hQ1
  subst l1 y1 z1
  obtain ⟨rfl, Nq1, e1⟩ := hQ1
  have N1 := Fr.app N0 Nq1
  refine otr (S' := T1.setTop (mkF m 4 #[.val (.ref x_), .val (.int (1 : Int32))] [(.int (1 : Int32))])) st1 ?_
  refine o_ifNo X1 hx (hb hby d15_4) (feq (by decide : ¬ ((1 : Int32) = (0 : Int32)))).1 ?_
  refine o_aloadN X1 hx (hb hby d15_7) rfl rfl ?_
  obtain ⟨T2, X2, e2, st2⟩ := getF X1 hx hZ hown (host := "") (Or.inl w36) Via.refl e1 pr2 (g := (mkF m 8 #[.val (.ref x_), .val (.int (1 : Int32))] [(.ref x_)])) rfl rfl (hb hby d15_8)
  refine ogo (S' := T2.setTop (mkF m 11 #[.val (.ref x_), .val (.int (1 : Int32))] [(.ref ba_)])) st2 ?_
  refine o_iloadN X2 hx (hb hby d15_11) rfl ?_
  obtain ⟨_, _, ⟨T3, L3, kc3, n3⟩, -, X3, ⟨Lc3, hQ3, l3, y3, z3⟩, st3⟩ := Jvm.LawKit.callS X2 hx (y := yM13) hown (mvT hZ w72) (mvT hZ w73) (mvT hZ w74) (mvT hZ w75) (by decide) (backOf (W := 0) (rm_l1c_4_1 l Z a0 hw [] s_EID_CHARS cl_T z_CS v_FMT ba_ kb_ c0_ c1_ c2_ c3_ h0 n0 SB O0 pr3 pr4 pr5) hZ w75 w74 (by decide) (by decide)) (g := (mkF m 12 #[.val (.ref x_), .val (.int (1 : Int32))] [(.int (1 : Int32)), (.ref ba_)])) rfl (by rw [hml]; rfl) (argsL := [(.ref ba_), (.int (1 : Int32))]) (rest := []) (lenOf own_pd9 rfl) rfl (by show 2 * 0 + _ ≤ _; exact Nat.le_of_eq rfl) (hb hby d15_12) (fun _ _ => ⟨rfl, e2, (by decide : 0 + 0 ≤ _), (by decide : 0 + 0 ≤ _)⟩)
  dsimp only [Pt.U, Pt.locs, Pt.cells, Pt.slots] at X3 l3 y3 z3 st3 hQ3
  subst l3 y3 z3
  obtain ⟨rfl, Nq3, e3⟩ := hQ3
  have N3 := Fr.app N1 Nq3
  refine ogo (S' := T3.setTop (mkF m 15 #[.val (.ref x_), .val (.int (1 : Int32))] [(.int c1_)])) st3 ?_
  refine oend X3 hlk (v := some (.int c1_)) (fun h => by rw [hret] at h; cases h) (fun fs hr => retN X3 hx (t := .char) hret (by simp) (hb hby d15_15) (by rw [(own_narsm pr4 pr5)]; exact hr)) (by decide) (by decide) ?_
  show own_Q_cat_4_1 Z _ _ _ _ _ _ _ _ _ _ _ h0 n0 _ T3.heap _
  rw [e3]
  exact ⟨rfl, N3, rfl⟩
def own_Q_l1c_4_2 (Z : State) (s_EID_CHARS : Addr) (cl_T : Cell) (z_CS : Int32) (v_FMT : Value) (ba_ : Addr) (kb_ : ClassId) (c0_ : Int32) (c1_ : Int32) (c2_ : Int32) (c3_ : Int32) (h0 : Heap) (n0 : Nat) (v : Option Value) (h : Heap) (L : List Loc) : Prop := (v = some (.int c2_)) ∧ (Fr n0 L) ∧ (h = h0)
set_option maxRecDepth 65536 in
set_option maxHeartbeats 40000000 in
theorem rm_l1c_4_2 (l : Launch) (Z : State) (a0 : Array Value) (hw : ∀ d ∈ tables_1, d.before a0 Z = true) (ws : List Jvm.Cond) (s_EID_CHARS : Addr) (cl_T : Cell) (z_CS : Int32) (v_FMT : Value) (ba_ : Addr) (kb_ : ClassId) (c0_ : Int32) (c1_ : Int32) (c2_ : Int32) (c3_ : Int32) (h0 : Heap) (n0 : Nat) (SB : own_Start Z s_EID_CHARS cl_T z_CS v_FMT) (O0 : Old Z n0 h0) (pr0 : Arv Z h0 ba_ kb_ .byte (4 : Int32) [(.int c0_.toInt8.toInt32), (.int c1_.toInt8.toInt32), (.int c2_.toInt8.toInt32), (.int c3_.toInt8.toInt32)] (.int 0)) (pr1 : ¬ (c2_ < (0 : Int32))) (pr2 : ¬ ((255 : Int32) < c2_)) :
    oMet l Z yM13 jdk_43_method_2_code 2 (some .char) ws ({ frames := 2, cells := 0, slots := 0, locals := 27 } : Room) 0 0 #[(.ref ba_), (.int (2 : Int32))] h0 (own_Q_l1c_4_2 Z s_EID_CHARS cl_T z_CS v_FMT ba_ kb_ c0_ c1_ c2_ c3_ h0 n0) := by
  refine oenter own_pn4 #[.val (.ref ba_), .val (.int (2 : Int32))] (fun m => by first | (simp [entryFrame, mkF, argsToLocals, Value.category]; done) | rfl) ?_
  intro p e s m below meth c s₁ X0 hx hZ hby hml hret hown0 hnm hlk e0
  have hown : s.vm.findClass "java/lang/StringLatin1" = some m.cls := hown0
  have N0 := Fr.nil n0
  obtain ⟨S_s_EID_CHARS, A_T, L_T, T_T, S_CS, H_CS, S_FMT, R_FMT⟩ := (id SB)
  have w10 := hw _ (List.mem_of_getElem? (i := 10) rfl)
  have w76 := hw _ (List.mem_of_getElem? (i := 76) rfl)
  have w77 := hw _ (List.mem_of_getElem? (i := 77) rfl)
  have w78 := hw _ (List.mem_of_getElem? (i := 78) rfl)
  refine o_iloadN X0 hx (hb hby d14_0) rfl ?_
  refine o_aloadN X0 hx (hb hby d14_1) rfl rfl ?_
  obtain ⟨cl1, Ar1, -, S1, N1z, -, -⟩ := (id pr0)
  refine ogo (S' := s₁.setTop (mkF m 3 #[.val (.ref ba_), .val (.int (2 : Int32))] [(.int (4 : Int32)), (.int (2 : Int32))])) (fun _ kt_ => X0.arraylength hx (by rw [e0]; exact Ar1.1) (State.isArrayOf_alike hZ.alike Ar1.2.1) (g := (mkF m 2 #[.val (.ref ba_), .val (.int (2 : Int32))] [(.ref ba_), (.int (2 : Int32))])) rfl rfl (hb hby d14_2) _ (by rw [len_of S1 N1z]; exact kt_)) ?_
  obtain ⟨_, _, ⟨T2, L2, kc2, n2⟩, -, X2, ⟨Lc2, hQ2, l2, y2, z2⟩, st2⟩ := Jvm.LawKit.callS X0 hx (y := yM12) hown (mvT hZ w76) (mvT hZ w77) (mvT hZ w10) (mvT hZ w78) (by decide) (backOf (W := 0) (rm_sci l Z a0 hw [] s_EID_CHARS cl_T z_CS v_FMT (2 : Int32) (4 : Int32) h0 n0 SB O0 (by decide) (by decide)) hZ w78 w10 (by decide) (by decide)) (g := (mkF m 3 #[.val (.ref ba_), .val (.int (2 : Int32))] [(.int (4 : Int32)), (.int (2 : Int32))])) rfl (by rw [hml]; rfl) (argsL := [(.int (2 : Int32)), (.int (4 : Int32))]) (rest := []) (lenOf own_pd7 rfl) rfl (by show 2 * 0 + _ ≤ _; exact Nat.le_of_eq rfl) (hb hby d14_3) (fun _ _ => ⟨rfl, e0, (by decide : 0 + 0 ≤ _), (by decide : 0 + 0 ≤ _)⟩)
  dsimp only [Pt.U, Pt.locs, Pt.cells, Pt.slots] at X2 l2 y2 z2 st2 hQ2
  subst l2 y2 z2
  obtain ⟨rfl, Nq2, e2⟩ := hQ2
  have N2 := Fr.app N0 Nq2
  refine ogo (S' := T2.setTop (mkF m 6 #[.val (.ref ba_), .val (.int (2 : Int32))] [])) st2 ?_
  refine o_aloadN X2 hx (hb hby d14_6) rfl rfl ?_
  refine o_iloadN X2 hx (hb hby d14_7) rfl ?_
  obtain ⟨cl3, Ar3, q3, S3, N3z, H3, G3⟩ := (id pr0)
  have hi3 := inb_of (j := (2 : Int32)) S3 ⟨by decide, by decide⟩
  have ha3 := Has.at (v := (.int c2_.toInt8.toInt32)) H3 hi3 rfl
  refine ogo (S' := T2.setTop (mkF m 9 #[.val (.ref ba_), .val (.int (2 : Int32))] [(.int c2_.toInt8.toInt32)])) (X2.baloadBytes hx (j := (2 : Int32)) (v := (.int c2_.toInt8.toInt32)) (by rw [e2]; exact Ar3.1) (State.isArrayOf_alike hZ.alike Ar3.2.1) Ar3.2.2 hi3 ha3 (g := (mkF m 8 #[.val (.ref ba_), .val (.int (2 : Int32))] [(.int (2 : Int32)), (.ref ba_)])) rfl rfl (hb hby d14_8)) ?_
  refine o_sipush X2 hx (255 : Int32) (hb hby d14_9) rfl ?_
  refine o_iand X2 hx (hb hby d14_12) ?_
  refine o_i2c X2 hx (hb hby d14_13) ?_
  rw [own_char pr1 pr2]
  refine oend X2 hlk (v := some (.int c2_)) (fun h => by rw [hret] at h; cases h) (fun fs hr => retN X2 hx (t := .char) hret (by simp) (hb hby d14_14) (by rw [(own_narsm pr1 pr2)]; exact hr)) (by decide) (by decide) ?_
  show own_Q_l1c_4_2 Z _ _ _ _ _ _ _ _ _ _ h0 n0 _ T2.heap _
  rw [e2]
  exact ⟨rfl, N2, rfl⟩
def own_Q_cat_4_2 (Z : State) (s_EID_CHARS : Addr) (cl_T : Cell) (z_CS : Int32) (v_FMT : Value) (x_ : Addr) (ba_ : Addr) (kb_ : ClassId) (c0_ : Int32) (c1_ : Int32) (c2_ : Int32) (c3_ : Int32) (h0 : Heap) (n0 : Nat) (v : Option Value) (h : Heap) (L : List Loc) : Prop := (v = some (.int c2_)) ∧ (Fr n0 L) ∧ (h = h0)
set_option maxRecDepth 65536 in
set_option maxHeartbeats 40000000 in
theorem rm_cat_4_2 (l : Launch) (Z : State) (a0 : Array Value) (hw : ∀ d ∈ tables_1, d.before a0 Z = true) (ws : List Jvm.Cond) (s_EID_CHARS : Addr) (cl_T : Cell) (z_CS : Int32) (v_FMT : Value) (x_ : Addr) (ba_ : Addr) (kb_ : ClassId) (c0_ : Int32) (c1_ : Int32) (c2_ : Int32) (c3_ : Int32) (h0 : Heap) (n0 : Nat) (SB : own_Start Z s_EID_CHARS cl_T z_CS v_FMT) (O0 : Old Z n0 h0) (pr0 : Exa Z h0 x_ "java/lang/String") (pr1 : Fld Z h0 x_ "java/lang/String" "coder" "B" (.int (0 : Int32))) (pr2 : Fld Z h0 x_ "java/lang/String" "value" "[B" (.ref ba_)) (pr3 : Arv Z h0 ba_ kb_ .byte (4 : Int32) [(.int c0_.toInt8.toInt32), (.int c1_.toInt8.toInt32), (.int c2_.toInt8.toInt32), (.int c3_.toInt8.toInt32)] (.int 0)) (pr4 : ¬ (c2_ < (0 : Int32))) (pr5 : ¬ ((255 : Int32) < c2_)) :
    oMet l Z yM14 jdk_42_method_56_code 2 (some .char) ws ({ frames := 3, cells := 0, slots := 0, locals := 40 } : Room) 0 0 #[(.ref x_), (.int (2 : Int32))] h0 (own_Q_cat_4_2 Z s_EID_CHARS cl_T z_CS v_FMT x_ ba_ kb_ c0_ c1_ c2_ c3_ h0 n0) := by
  refine oenter own_pn2 #[.val (.ref x_), .val (.int (2 : Int32))] (fun m => by first | (simp [entryFrame, mkF, argsToLocals, Value.category]; done) | rfl) ?_
  intro p e s m below meth c s₁ X0 hx hZ hby hml hret hown0 hnm hlk e0
  have hown : s.vm.findClass "java/lang/String" = some m.cls := hown0
  have N0 := Fr.nil n0
  obtain ⟨S_s_EID_CHARS, A_T, L_T, T_T, S_CS, H_CS, S_FMT, R_FMT⟩ := (id SB)
  have w10 := hw _ (List.mem_of_getElem? (i := 10) rfl)
  have w36 := hw _ (List.mem_of_getElem? (i := 36) rfl)
  have w67 := hw _ (List.mem_of_getElem? (i := 67) rfl)
  have w68 := hw _ (List.mem_of_getElem? (i := 68) rfl)
  have w69 := hw _ (List.mem_of_getElem? (i := 69) rfl)
  have w70 := hw _ (List.mem_of_getElem? (i := 70) rfl)
  have w71 := hw _ (List.mem_of_getElem? (i := 71) rfl)
  have w72 := hw _ (List.mem_of_getElem? (i := 72) rfl)
  have w73 := hw _ (List.mem_of_getElem? (i := 73) rfl)
  have w74 := hw _ (List.mem_of_getElem? (i := 74) rfl)
  have w75 := hw _ (List.mem_of_getElem? (i := 75) rfl)
  refine o_aloadN X0 hx (hb hby d15_0) rfl rfl ?_
  obtain ⟨cq1, kq1, q1a, q1b, q1c⟩ := isOf hZ e0 pr0
  obtain ⟨_, _, ⟨T1, L1, kc1, n1⟩, -, X1, ⟨Lc1, hQ1, l1, y1, z1⟩, st1⟩ := X0.virtualBack hx (y := yM10) (z := yM10) hown (mvT hZ w67) (mvT hZ w68) (notFace_of_selects (args := #[]) (mvT hZ w70)) (mvT hZ w70) (mvT hZ w69) (by decide) (backOf (W := 0) (rm_isl1 l Z a0 hw [] s_EID_CHARS cl_T z_CS v_FMT x_ h0 n0 SB O0 pr1) hZ w71 w10 (by decide) (by decide)) q1a q1c (g := (mkF m 1 #[.val (.ref x_), .val (.int (2 : Int32))] [(.ref x_)])) rfl (by rw [hml]; rfl) (Steps.refl _) (argsL := []) (rest := []) (lenOf own_pd8 rfl) rfl (by show 2 * 0 + _ ≤ _; exact Nat.le_of_eq rfl) (hb hby d15_1) (fun _ _ => ⟨rfl, e0, (by decide : 0 + 0 ≤ _), (by decide : 0 + 0 ≤ _)⟩)
  dsimp only [Pt.U, Pt.locs, Pt.cells, Pt.slots] at X1 l1 y1 z1 st1 hQ1
  subst l1 y1 z1
  obtain ⟨rfl, Nq1, e1⟩ := hQ1
  have N1 := Fr.app N0 Nq1
  refine otr (S' := T1.setTop (mkF m 4 #[.val (.ref x_), .val (.int (2 : Int32))] [(.int (1 : Int32))])) st1 ?_
  refine o_ifNo X1 hx (hb hby d15_4) (feq (by decide : ¬ ((1 : Int32) = (0 : Int32)))).1 ?_
  refine o_aloadN X1 hx (hb hby d15_7) rfl rfl ?_
  obtain ⟨T2, X2, e2, st2⟩ := getF X1 hx hZ hown (host := "") (Or.inl w36) Via.refl e1 pr2 (g := (mkF m 8 #[.val (.ref x_), .val (.int (2 : Int32))] [(.ref x_)])) rfl rfl (hb hby d15_8)
  refine ogo (S' := T2.setTop (mkF m 11 #[.val (.ref x_), .val (.int (2 : Int32))] [(.ref ba_)])) st2 ?_
  refine o_iloadN X2 hx (hb hby d15_11) rfl ?_
  obtain ⟨_, _, ⟨T3, L3, kc3, n3⟩, -, X3, ⟨Lc3, hQ3, l3, y3, z3⟩, st3⟩ := Jvm.LawKit.callS X2 hx (y := yM13) hown (mvT hZ w72) (mvT hZ w73) (mvT hZ w74) (mvT hZ w75) (by decide) (backOf (W := 0) (rm_l1c_4_2 l Z a0 hw [] s_EID_CHARS cl_T z_CS v_FMT ba_ kb_ c0_ c1_ c2_ c3_ h0 n0 SB O0 pr3 pr4 pr5) hZ w75 w74 (by decide) (by decide)) (g := (mkF m 12 #[.val (.ref x_), .val (.int (2 : Int32))] [(.int (2 : Int32)), (.ref ba_)])) rfl (by rw [hml]; rfl) (argsL := [(.ref ba_), (.int (2 : Int32))]) (rest := []) (lenOf own_pd9 rfl) rfl (by show 2 * 0 + _ ≤ _; exact Nat.le_of_eq rfl) (hb hby d15_12) (fun _ _ => ⟨rfl, e2, (by decide : 0 + 0 ≤ _), (by decide : 0 + 0 ≤ _)⟩)
  dsimp only [Pt.U, Pt.locs, Pt.cells, Pt.slots] at X3 l3 y3 z3 st3 hQ3
  subst l3 y3 z3
  obtain ⟨rfl, Nq3, e3⟩ := hQ3
  have N3 := Fr.app N1 Nq3
  refine ogo (S' := T3.setTop (mkF m 15 #[.val (.ref x_), .val (.int (2 : Int32))] [(.int c2_)])) st3 ?_
  refine oend X3 hlk (v := some (.int c2_)) (fun h => by rw [hret] at h; cases h) (fun fs hr => retN X3 hx (t := .char) hret (by simp) (hb hby d15_15) (by rw [(own_narsm pr4 pr5)]; exact hr)) (by decide) (by decide) ?_
  show own_Q_cat_4_2 Z _ _ _ _ _ _ _ _ _ _ _ h0 n0 _ T3.heap _
  rw [e3]
  exact ⟨rfl, N3, rfl⟩
def own_Q_l1c_4_3 (Z : State) (s_EID_CHARS : Addr) (cl_T : Cell) (z_CS : Int32) (v_FMT : Value) (ba_ : Addr) (kb_ : ClassId) (c0_ : Int32) (c1_ : Int32) (c2_ : Int32) (c3_ : Int32) (h0 : Heap) (n0 : Nat) (v : Option Value) (h : Heap) (L : List Loc) : Prop := (v = some (.int c3_)) ∧ (Fr n0 L) ∧ (h = h0)
set_option maxRecDepth 65536 in
set_option maxHeartbeats 40000000 in
theorem rm_l1c_4_3 (l : Launch) (Z : State) (a0 : Array Value) (hw : ∀ d ∈ tables_1, d.before a0 Z = true) (ws : List Jvm.Cond) (s_EID_CHARS : Addr) (cl_T : Cell) (z_CS : Int32) (v_FMT : Value) (ba_ : Addr) (kb_ : ClassId) (c0_ : Int32) (c1_ : Int32) (c2_ : Int32) (c3_ : Int32) (h0 : Heap) (n0 : Nat) (SB : own_Start Z s_EID_CHARS cl_T z_CS v_FMT) (O0 : Old Z n0 h0) (pr0 : Arv Z h0 ba_ kb_ .byte (4 : Int32) [(.int c0_.toInt8.toInt32), (.int c1_.toInt8.toInt32), (.int c2_.toInt8.toInt32), (.int c3_.toInt8.toInt32)] (.int 0)) (pr1 : ¬ (c3_ < (0 : Int32))) (pr2 : ¬ ((255 : Int32) < c3_)) :
    oMet l Z yM13 jdk_43_method_2_code 2 (some .char) ws ({ frames := 2, cells := 0, slots := 0, locals := 27 } : Room) 0 0 #[(.ref ba_), (.int (3 : Int32))] h0 (own_Q_l1c_4_3 Z s_EID_CHARS cl_T z_CS v_FMT ba_ kb_ c0_ c1_ c2_ c3_ h0 n0) := by
  refine oenter own_pn4 #[.val (.ref ba_), .val (.int (3 : Int32))] (fun m => by first | (simp [entryFrame, mkF, argsToLocals, Value.category]; done) | rfl) ?_
  intro p e s m below meth c s₁ X0 hx hZ hby hml hret hown0 hnm hlk e0
  have hown : s.vm.findClass "java/lang/StringLatin1" = some m.cls := hown0
  have N0 := Fr.nil n0
  obtain ⟨S_s_EID_CHARS, A_T, L_T, T_T, S_CS, H_CS, S_FMT, R_FMT⟩ := (id SB)
  have w10 := hw _ (List.mem_of_getElem? (i := 10) rfl)
  have w76 := hw _ (List.mem_of_getElem? (i := 76) rfl)
  have w77 := hw _ (List.mem_of_getElem? (i := 77) rfl)
  have w78 := hw _ (List.mem_of_getElem? (i := 78) rfl)
  refine o_iloadN X0 hx (hb hby d14_0) rfl ?_
  refine o_aloadN X0 hx (hb hby d14_1) rfl rfl ?_
  obtain ⟨cl1, Ar1, -, S1, N1z, -, -⟩ := (id pr0)
  refine ogo (S' := s₁.setTop (mkF m 3 #[.val (.ref ba_), .val (.int (3 : Int32))] [(.int (4 : Int32)), (.int (3 : Int32))])) (fun _ kt_ => X0.arraylength hx (by rw [e0]; exact Ar1.1) (State.isArrayOf_alike hZ.alike Ar1.2.1) (g := (mkF m 2 #[.val (.ref ba_), .val (.int (3 : Int32))] [(.ref ba_), (.int (3 : Int32))])) rfl rfl (hb hby d14_2) _ (by rw [len_of S1 N1z]; exact kt_)) ?_
  obtain ⟨_, _, ⟨T2, L2, kc2, n2⟩, -, X2, ⟨Lc2, hQ2, l2, y2, z2⟩, st2⟩ := Jvm.LawKit.callS X0 hx (y := yM12) hown (mvT hZ w76) (mvT hZ w77) (mvT hZ w10) (mvT hZ w78) (by decide) (backOf (W := 0) (rm_sci l Z a0 hw [] s_EID_CHARS cl_T z_CS v_FMT (3 : Int32) (4 : Int32) h0 n0 SB O0 (by decide) (by decide)) hZ w78 w10 (by decide) (by decide)) (g := (mkF m 3 #[.val (.ref ba_), .val (.int (3 : Int32))] [(.int (4 : Int32)), (.int (3 : Int32))])) rfl (by rw [hml]; rfl) (argsL := [(.int (3 : Int32)), (.int (4 : Int32))]) (rest := []) (lenOf own_pd7 rfl) rfl (by show 2 * 0 + _ ≤ _; exact Nat.le_of_eq rfl) (hb hby d14_3) (fun _ _ => ⟨rfl, e0, (by decide : 0 + 0 ≤ _), (by decide : 0 + 0 ≤ _)⟩)
  dsimp only [Pt.U, Pt.locs, Pt.cells, Pt.slots] at X2 l2 y2 z2 st2 hQ2
  subst l2 y2 z2
  obtain ⟨rfl, Nq2, e2⟩ := hQ2
  have N2 := Fr.app N0 Nq2
  refine ogo (S' := T2.setTop (mkF m 6 #[.val (.ref ba_), .val (.int (3 : Int32))] [])) st2 ?_
  refine o_aloadN X2 hx (hb hby d14_6) rfl rfl ?_
  refine o_iloadN X2 hx (hb hby d14_7) rfl ?_
  obtain ⟨cl3, Ar3, q3, S3, N3z, H3, G3⟩ := (id pr0)
  have hi3 := inb_of (j := (3 : Int32)) S3 ⟨by decide, by decide⟩
  have ha3 := Has.at (v := (.int c3_.toInt8.toInt32)) H3 hi3 rfl
  refine ogo (S' := T2.setTop (mkF m 9 #[.val (.ref ba_), .val (.int (3 : Int32))] [(.int c3_.toInt8.toInt32)])) (X2.baloadBytes hx (j := (3 : Int32)) (v := (.int c3_.toInt8.toInt32)) (by rw [e2]; exact Ar3.1) (State.isArrayOf_alike hZ.alike Ar3.2.1) Ar3.2.2 hi3 ha3 (g := (mkF m 8 #[.val (.ref ba_), .val (.int (3 : Int32))] [(.int (3 : Int32)), (.ref ba_)])) rfl rfl (hb hby d14_8)) ?_
  refine o_sipush X2 hx (255 : Int32) (hb hby d14_9) rfl ?_
  refine o_iand X2 hx (hb hby d14_12) ?_
  refine o_i2c X2 hx (hb hby d14_13) ?_
  rw [own_char pr1 pr2]
  refine oend X2 hlk (v := some (.int c3_)) (fun h => by rw [hret] at h; cases h) (fun fs hr => retN X2 hx (t := .char) hret (by simp) (hb hby d14_14) (by rw [(own_narsm pr1 pr2)]; exact hr)) (by decide) (by decide) ?_
  show own_Q_l1c_4_3 Z _ _ _ _ _ _ _ _ _ _ h0 n0 _ T2.heap _
  rw [e2]
  exact ⟨rfl, N2, rfl⟩
def own_Q_cat_4_3 (Z : State) (s_EID_CHARS : Addr) (cl_T : Cell) (z_CS : Int32) (v_FMT : Value) (x_ : Addr) (ba_ : Addr) (kb_ : ClassId) (c0_ : Int32) (c1_ : Int32) (c2_ : Int32) (c3_ : Int32) (h0 : Heap) (n0 : Nat) (v : Option Value) (h : Heap) (L : List Loc) : Prop := (v = some (.int c3_)) ∧ (Fr n0 L) ∧ (h = h0)
set_option maxRecDepth 65536 in
set_option maxHeartbeats 40000000 in
theorem rm_cat_4_3 (l : Launch) (Z : State) (a0 : Array Value) (hw : ∀ d ∈ tables_1, d.before a0 Z = true) (ws : List Jvm.Cond) (s_EID_CHARS : Addr) (cl_T : Cell) (z_CS : Int32) (v_FMT : Value) (x_ : Addr) (ba_ : Addr) (kb_ : ClassId) (c0_ : Int32) (c1_ : Int32) (c2_ : Int32) (c3_ : Int32) (h0 : Heap) (n0 : Nat) (SB : own_Start Z s_EID_CHARS cl_T z_CS v_FMT) (O0 : Old Z n0 h0) (pr0 : Exa Z h0 x_ "java/lang/String") (pr1 : Fld Z h0 x_ "java/lang/String" "coder" "B" (.int (0 : Int32))) (pr2 : Fld Z h0 x_ "java/lang/String" "value" "[B" (.ref ba_)) (pr3 : Arv Z h0 ba_ kb_ .byte (4 : Int32) [(.int c0_.toInt8.toInt32), (.int c1_.toInt8.toInt32), (.int c2_.toInt8.toInt32), (.int c3_.toInt8.toInt32)] (.int 0)) (pr4 : ¬ (c3_ < (0 : Int32))) (pr5 : ¬ ((255 : Int32) < c3_)) :
    oMet l Z yM14 jdk_42_method_56_code 2 (some .char) ws ({ frames := 3, cells := 0, slots := 0, locals := 40 } : Room) 0 0 #[(.ref x_), (.int (3 : Int32))] h0 (own_Q_cat_4_3 Z s_EID_CHARS cl_T z_CS v_FMT x_ ba_ kb_ c0_ c1_ c2_ c3_ h0 n0) := by
  refine oenter own_pn2 #[.val (.ref x_), .val (.int (3 : Int32))] (fun m => by first | (simp [entryFrame, mkF, argsToLocals, Value.category]; done) | rfl) ?_
  intro p e s m below meth c s₁ X0 hx hZ hby hml hret hown0 hnm hlk e0
  have hown : s.vm.findClass "java/lang/String" = some m.cls := hown0
  have N0 := Fr.nil n0
  obtain ⟨S_s_EID_CHARS, A_T, L_T, T_T, S_CS, H_CS, S_FMT, R_FMT⟩ := (id SB)
  have w10 := hw _ (List.mem_of_getElem? (i := 10) rfl)
  have w36 := hw _ (List.mem_of_getElem? (i := 36) rfl)
  have w67 := hw _ (List.mem_of_getElem? (i := 67) rfl)
  have w68 := hw _ (List.mem_of_getElem? (i := 68) rfl)
  have w69 := hw _ (List.mem_of_getElem? (i := 69) rfl)
  have w70 := hw _ (List.mem_of_getElem? (i := 70) rfl)
  have w71 := hw _ (List.mem_of_getElem? (i := 71) rfl)
  have w72 := hw _ (List.mem_of_getElem? (i := 72) rfl)
  have w73 := hw _ (List.mem_of_getElem? (i := 73) rfl)
  have w74 := hw _ (List.mem_of_getElem? (i := 74) rfl)
  have w75 := hw _ (List.mem_of_getElem? (i := 75) rfl)
  refine o_aloadN X0 hx (hb hby d15_0) rfl rfl ?_
  obtain ⟨cq1, kq1, q1a, q1b, q1c⟩ := isOf hZ e0 pr0
  obtain ⟨_, _, ⟨T1, L1, kc1, n1⟩, -, X1, ⟨Lc1, hQ1, l1, y1, z1⟩, st1⟩ := X0.virtualBack hx (y := yM10) (z := yM10) hown (mvT hZ w67) (mvT hZ w68) (notFace_of_selects (args := #[]) (mvT hZ w70)) (mvT hZ w70) (mvT hZ w69) (by decide) (backOf (W := 0) (rm_isl1 l Z a0 hw [] s_EID_CHARS cl_T z_CS v_FMT x_ h0 n0 SB O0 pr1) hZ w71 w10 (by decide) (by decide)) q1a q1c (g := (mkF m 1 #[.val (.ref x_), .val (.int (3 : Int32))] [(.ref x_)])) rfl (by rw [hml]; rfl) (Steps.refl _) (argsL := []) (rest := []) (lenOf own_pd8 rfl) rfl (by show 2 * 0 + _ ≤ _; exact Nat.le_of_eq rfl) (hb hby d15_1) (fun _ _ => ⟨rfl, e0, (by decide : 0 + 0 ≤ _), (by decide : 0 + 0 ≤ _)⟩)
  dsimp only [Pt.U, Pt.locs, Pt.cells, Pt.slots] at X1 l1 y1 z1 st1 hQ1
  subst l1 y1 z1
  obtain ⟨rfl, Nq1, e1⟩ := hQ1
  have N1 := Fr.app N0 Nq1
  refine otr (S' := T1.setTop (mkF m 4 #[.val (.ref x_), .val (.int (3 : Int32))] [(.int (1 : Int32))])) st1 ?_
  refine o_ifNo X1 hx (hb hby d15_4) (feq (by decide : ¬ ((1 : Int32) = (0 : Int32)))).1 ?_
  refine o_aloadN X1 hx (hb hby d15_7) rfl rfl ?_
  obtain ⟨T2, X2, e2, st2⟩ := getF X1 hx hZ hown (host := "") (Or.inl w36) Via.refl e1 pr2 (g := (mkF m 8 #[.val (.ref x_), .val (.int (3 : Int32))] [(.ref x_)])) rfl rfl (hb hby d15_8)
  refine ogo (S' := T2.setTop (mkF m 11 #[.val (.ref x_), .val (.int (3 : Int32))] [(.ref ba_)])) st2 ?_
  refine o_iloadN X2 hx (hb hby d15_11) rfl ?_
  obtain ⟨_, _, ⟨T3, L3, kc3, n3⟩, -, X3, ⟨Lc3, hQ3, l3, y3, z3⟩, st3⟩ := Jvm.LawKit.callS X2 hx (y := yM13) hown (mvT hZ w72) (mvT hZ w73) (mvT hZ w74) (mvT hZ w75) (by decide) (backOf (W := 0) (rm_l1c_4_3 l Z a0 hw [] s_EID_CHARS cl_T z_CS v_FMT ba_ kb_ c0_ c1_ c2_ c3_ h0 n0 SB O0 pr3 pr4 pr5) hZ w75 w74 (by decide) (by decide)) (g := (mkF m 12 #[.val (.ref x_), .val (.int (3 : Int32))] [(.int (3 : Int32)), (.ref ba_)])) rfl (by rw [hml]; rfl) (argsL := [(.ref ba_), (.int (3 : Int32))]) (rest := []) (lenOf own_pd9 rfl) rfl (by show 2 * 0 + _ ≤ _; exact Nat.le_of_eq rfl) (hb hby d15_12) (fun _ _ => ⟨rfl, e2, (by decide : 0 + 0 ≤ _), (by decide : 0 + 0 ≤ _)⟩)
  dsimp only [Pt.U, Pt.locs, Pt.cells, Pt.slots] at X3 l3 y3 z3 st3 hQ3
  subst l3 y3 z3
  obtain ⟨rfl, Nq3, e3⟩ := hQ3
  have N3 := Fr.app N1 Nq3
  refine ogo (S' := T3.setTop (mkF m 15 #[.val (.ref x_), .val (.int (3 : Int32))] [(.int c3_)])) st3 ?_
  refine oend X3 hlk (v := some (.int c3_)) (fun h => by rw [hret] at h; cases h) (fun fs hr => retN X3 hx (t := .char) hret (by simp) (hb hby d15_15) (by rw [(own_narsm pr4 pr5)]; exact hr)) (by decide) (by decide) ?_
  show own_Q_cat_4_3 Z _ _ _ _ _ _ _ _ _ _ _ h0 n0 _ T3.heap _
  rw [e3]
  exact ⟨rfl, N3, rfl⟩
def own_Q_spelled_4 (Z : State) (s_EID_CHARS : Addr) (cl_T : Cell) (z_CS : Int32) (v_FMT : Value) (x_ : Addr) (ba_ : Addr) (kb_ : ClassId) (c0_ : Int32) (c1_ : Int32) (c2_ : Int32) (c3_ : Int32) (h0 : Heap) (n0 : Nat) (v : Option Value) (h : Heap) (L : List Loc) : Prop := (v = some (.int (1 : Int32))) ∧ (Fr n0 L) ∧ (h = h0)
set_option maxRecDepth 65536 in
set_option maxHeartbeats 40000000 in
theorem rm_spelled_4 (l : Launch) (Z : State) (a0 : Array Value) (hw : ∀ d ∈ tables_1, d.before a0 Z = true) (ws : List Jvm.Cond) (s_EID_CHARS : Addr) (cl_T : Cell) (z_CS : Int32) (v_FMT : Value) (x_ : Addr) (ba_ : Addr) (kb_ : ClassId) (c0_ : Int32) (c1_ : Int32) (c2_ : Int32) (c3_ : Int32) (h0 : Heap) (n0 : Nat) (SB : own_Start Z s_EID_CHARS cl_T z_CS v_FMT) (O0 : Old Z n0 h0) (pr0 : Exa Z h0 x_ "java/lang/String") (pr1 : Fld Z h0 x_ "java/lang/String" "coder" "B" (.int (0 : Int32))) (pr2 : Fld Z h0 x_ "java/lang/String" "value" "[B" (.ref ba_)) (pr3 : Arv Z h0 ba_ kb_ .byte (4 : Int32) [(.int c0_.toInt8.toInt32), (.int c1_.toInt8.toInt32), (.int c2_.toInt8.toInt32), (.int c3_.toInt8.toInt32)] (.int 0)) (pr4 : own_ok c0_) (pr5 : own_ok c1_) (pr6 : own_ok c2_) (pr7 : own_ok c3_) (pr8 : ¬ (c0_ < (0 : Int32))) (pr9 : ¬ (c1_ < (0 : Int32))) (pr10 : ¬ (c2_ < (0 : Int32))) (pr11 : ¬ (c3_ < (0 : Int32))) (pr12 : ¬ ((255 : Int32) < c0_)) (pr13 : ¬ ((255 : Int32) < c1_)) (pr14 : ¬ ((255 : Int32) < c2_)) (pr15 : ¬ ((255 : Int32) < c3_)) :
    oMet l Z yM15 prog_7_method_6_code 5 (some .boolean) ws ({ frames := 4, cells := 0, slots := 0, locals := 53 } : Room) 0 0 #[(.ref x_), (.int (128 : Int32)), (.ref s_EID_CHARS)] h0 (own_Q_spelled_4 Z s_EID_CHARS cl_T z_CS v_FMT x_ ba_ kb_ c0_ c1_ c2_ c3_ h0 n0) := by
  refine oenter own_pn5 #[.val (.ref x_), .val (.int (128 : Int32)), .val (.ref s_EID_CHARS), .unset, .unset] (fun m => by first | (simp [entryFrame, mkF, argsToLocals, Value.category]; done) | rfl) ?_
  intro p e s m below meth c s₁ X0 hx hZ hby hml hret hown0 hnm hlk e0
  have hown : s.vm.findClass "com/example/atomic_tally/atomictally/model/Names" = some m.cls := hown0
  have N0 := Fr.nil n0
  obtain ⟨S_s_EID_CHARS, A_T, L_T, T_T, S_CS, H_CS, S_FMT, R_FMT⟩ := (id SB)
  have w10 := hw _ (List.mem_of_getElem? (i := 10) rfl)
  have w47 := hw _ (List.mem_of_getElem? (i := 47) rfl)
  have w48 := hw _ (List.mem_of_getElem? (i := 48) rfl)
  have w49 := hw _ (List.mem_of_getElem? (i := 49) rfl)
  have w50 := hw _ (List.mem_of_getElem? (i := 50) rfl)
  have w51 := hw _ (List.mem_of_getElem? (i := 51) rfl)
  have w52 := hw _ (List.mem_of_getElem? (i := 52) rfl)
  have w53 := hw _ (List.mem_of_getElem? (i := 53) rfl)
  have w54 := hw _ (List.mem_of_getElem? (i := 54) rfl)
  have w55 := hw _ (List.mem_of_getElem? (i := 55) rfl)
  have w56 := hw _ (List.mem_of_getElem? (i := 56) rfl)
  have w62 := hw _ (List.mem_of_getElem? (i := 62) rfl)
  have w63 := hw _ (List.mem_of_getElem? (i := 63) rfl)
  have w64 := hw _ (List.mem_of_getElem? (i := 64) rfl)
  have w65 := hw _ (List.mem_of_getElem? (i := 65) rfl)
  have w66 := hw _ (List.mem_of_getElem? (i := 66) rfl)
  refine o_aloadN X0 hx (hb hby d16_0) rfl rfl ?_
  refine o_ifnullNo X0 hx (hb hby d16_1) ?_
  refine o_aloadN X0 hx (hb hby d16_4) rfl rfl ?_
  obtain ⟨cq1, kq1, q1a, q1b, q1c⟩ := isOf hZ e0 pr0
  obtain ⟨_, _, ⟨T1, L1, kc1, n1⟩, -, X1, ⟨Lc1, hQ1, l1, y1, z1⟩, st1⟩ := X0.virtualBack hx (y := yM9) (z := yM9) hown (mvT hZ w47) (mvT hZ w48) (notFace_of_selects (args := #[]) (mvT hZ w50)) (mvT hZ w50) (mvT hZ w49) (by decide) (backOf (W := 0) (rm_emp_4 l Z a0 hw []  x_ ba_ kb_ [(.int c0_.toInt8.toInt32), (.int c1_.toInt8.toInt32), (.int c2_.toInt8.toInt32), (.int c3_.toInt8.toInt32)] h0 n0 O0 pr0 pr1 pr2 pr3) hZ w51 w10 (by decide) (by decide)) q1a q1c (g := (mkF m 5 #[.val (.ref x_), .val (.int (128 : Int32)), .val (.ref s_EID_CHARS), .unset, .unset] [(.ref x_)])) rfl (by rw [hml]; rfl) (Steps.refl _) (argsL := []) (rest := []) (lenOf own_pd8 rfl) rfl (by show 2 * 0 + _ ≤ _; exact Nat.le_of_eq rfl) (hb hby d16_5) (fun _ _ => ⟨rfl, e0, (by decide : 0 + 0 ≤ _), (by decide : 0 + 0 ≤ _)⟩)
  dsimp only [Pt.U, Pt.locs, Pt.cells, Pt.slots] at X1 l1 y1 z1 st1 hQ1
  subst l1 y1 z1
  obtain ⟨rfl, Nq1, e1⟩ := hQ1
  have N1 := Fr.app N0 Nq1
  refine otr (S' := T1.setTop (mkF m 8 #[.val (.ref x_), .val (.int (128 : Int32)), .val (.ref s_EID_CHARS), .unset, .unset] [(.int (0 : Int32))])) st1 ?_
  refine o_ifNo X1 hx (hb hby d16_8) (teq (by decide : (0 : Int32) = (0 : Int32))).2 ?_
  refine o_aloadN X1 hx (hb hby d16_11) rfl rfl ?_
  obtain ⟨cq2, kq2, q2a, q2b, q2c⟩ := isOf hZ e1 pr0
  obtain ⟨_, _, ⟨T2, L2, kc2, n2⟩, -, X2, ⟨Lc2, hQ2, l2, y2, z2⟩, st2⟩ := X1.virtualBack hx (y := yM8) (z := yM8) hown (mvT hZ w52) (mvT hZ w53) (notFace_of_selects (args := #[]) (mvT hZ w55)) (mvT hZ w55) (mvT hZ w54) (by decide) (backOf (W := 0) (rm_len_4 l Z a0 hw [] s_EID_CHARS cl_T z_CS v_FMT x_ ba_ kb_ [(.int c0_.toInt8.toInt32), (.int c1_.toInt8.toInt32), (.int c2_.toInt8.toInt32), (.int c3_.toInt8.toInt32)] h0 n0 SB O0 pr0 pr1 pr2 pr3) hZ w56 w10 (by decide) (by decide)) q2a q2c (g := (mkF m 12 #[.val (.ref x_), .val (.int (128 : Int32)), .val (.ref s_EID_CHARS), .unset, .unset] [(.ref x_)])) rfl (by rw [hml]; rfl) (Steps.refl _) (argsL := []) (rest := []) (lenOf own_pd10 rfl) rfl (by show 2 * 0 + _ ≤ _; exact Nat.le_of_eq rfl) (hb hby d16_12) (fun _ _ => ⟨rfl, e1, (by decide : 0 + 0 ≤ _), (by decide : 0 + 0 ≤ _)⟩)
  dsimp only [Pt.U, Pt.locs, Pt.cells, Pt.slots] at X2 l2 y2 z2 st2 hQ2
  subst l2 y2 z2
  obtain ⟨rfl, Nq2, e2⟩ := hQ2
  have N2 := Fr.app N1 Nq2
  refine otr (S' := T2.setTop (mkF m 15 #[.val (.ref x_), .val (.int (128 : Int32)), .val (.ref s_EID_CHARS), .unset, .unset] [(.int (4 : Int32))])) st2 ?_
  refine o_iloadN X2 hx (hb hby d16_15) rfl ?_
  refine o_icmpYes X2 hx 21 (hb hby d16_16) (flt (by decide : ¬ ((128 : Int32) < (4 : Int32)))).2.2.2 (by decide) (by decide) ?_
  refine o_iconst X2 hx (0 : Int32) (hb hby d16_21) rfl ?_
  refine o_istoreN X2 hx (l' := #[.val (.ref x_), .val (.int (128 : Int32)), .val (.ref s_EID_CHARS), .val (.int (0 : Int32)), .unset]) (hb hby d16_22) rfl ?_
  refine o_iloadN X2 hx (hb hby d16_23) rfl ?_
  refine o_aloadN X2 hx (hb hby d16_24) rfl rfl ?_
  obtain ⟨cq3, kq3, q3a, q3b, q3c⟩ := isOf hZ e2 pr0
  obtain ⟨_, _, ⟨T3, L3, kc3, n3⟩, -, X3, ⟨Lc3, hQ3, l3, y3, z3⟩, st3⟩ := X2.virtualBack hx (y := yM8) (z := yM8) hown (mvT hZ w52) (mvT hZ w53) (notFace_of_selects (args := #[]) (mvT hZ w55)) (mvT hZ w55) (mvT hZ w54) (by decide) (backOf (W := 1) (rm_len_4 l Z a0 hw [] s_EID_CHARS cl_T z_CS v_FMT x_ ba_ kb_ [(.int c0_.toInt8.toInt32), (.int c1_.toInt8.toInt32), (.int c2_.toInt8.toInt32), (.int c3_.toInt8.toInt32)] h0 n0 SB O0 pr0 pr1 pr2 pr3) hZ w56 w10 (by decide) (by decide)) q3a q3c (g := (mkF m 25 #[.val (.ref x_), .val (.int (128 : Int32)), .val (.ref s_EID_CHARS), .val (.int (0 : Int32)), .unset] [(.ref x_), (.int (0 : Int32))])) rfl (by rw [hml]; rfl) (Steps.refl _) (argsL := []) (rest := [(.int (0 : Int32))]) (lenOf own_pd10 rfl) rfl (by show 2 * 0 + _ ≤ _; exact Nat.le_of_eq rfl) (hb hby d16_25) (fun _ _ => ⟨rfl, e2, (by decide : 0 + 0 ≤ _), (by decide : 0 + 0 ≤ _)⟩)
  dsimp only [Pt.U, Pt.locs, Pt.cells, Pt.slots] at X3 l3 y3 z3 st3 hQ3
  subst l3 y3 z3
  obtain ⟨rfl, Nq3, e3⟩ := hQ3
  have N3 := Fr.app N2 Nq3
  refine otr (S' := T3.setTop (mkF m 28 #[.val (.ref x_), .val (.int (128 : Int32)), .val (.ref s_EID_CHARS), .val (.int (0 : Int32)), .unset] [(.int (4 : Int32)), (.int (0 : Int32))])) st3 ?_
  refine o_icmpNo X3 hx (hb hby d16_28) (tlt (by decide : (0 : Int32) < (4 : Int32))).2.1 ?_
  refine o_aloadN X3 hx (hb hby d16_31) rfl rfl ?_
  refine o_iloadN X3 hx (hb hby d16_32) rfl ?_
  obtain ⟨cq4, kq4, q4a, q4b, q4c⟩ := isOf hZ e3 pr0
  obtain ⟨_, _, ⟨T4, L4, kc4, n4⟩, -, X4, ⟨Lc4, hQ4, l4, y4, z4⟩, st4⟩ := X3.virtualBack hx (y := yM14) (z := yM14) hown (mvT hZ w62) (mvT hZ w63) (notFace_of_selects (args := #[]) (mvT hZ w65)) (mvT hZ w65) (mvT hZ w64) (by decide) (backOf (W := 0) (rm_cat_4_0 l Z a0 hw [] s_EID_CHARS cl_T z_CS v_FMT x_ ba_ kb_ c0_ c1_ c2_ c3_ h0 n0 SB O0 pr0 pr1 pr2 pr3 pr8 pr12) hZ w66 w10 (by decide) (by decide)) q4a q4c (g := (mkF m 33 #[.val (.ref x_), .val (.int (128 : Int32)), .val (.ref s_EID_CHARS), .val (.int (0 : Int32)), .unset] [(.int (0 : Int32)), (.ref x_)])) rfl (by rw [hml]; rfl) (Steps.refl _) (argsL := [(.int (0 : Int32))]) (rest := []) (lenOf own_pd11 rfl) rfl (by show 2 * 0 + _ ≤ _; exact Nat.le_of_eq rfl) (hb hby d16_33) (fun _ _ => ⟨rfl, e3, (by decide : 0 + 0 ≤ _), (by decide : 0 + 0 ≤ _)⟩)
  dsimp only [Pt.U, Pt.locs, Pt.cells, Pt.slots] at X4 l4 y4 z4 st4 hQ4
  subst l4 y4 z4
  obtain ⟨rfl, Nq4, e4⟩ := hQ4
  have N4 := Fr.app N3 Nq4
  refine otr (S' := T4.setTop (mkF m 36 #[.val (.ref x_), .val (.int (128 : Int32)), .val (.ref s_EID_CHARS), .val (.int (0 : Int32)), .unset] [(.int c0_)])) st4 ?_
  refine o_istore X4 hx (l' := #[.val (.ref x_), .val (.int (128 : Int32)), .val (.ref s_EID_CHARS), .val (.int (0 : Int32)), .val (.int c0_)]) (hb hby d16_36) rfl ?_
  refine o_iload X4 hx (hb hby d16_38) rfl ?_
  refine o_aloadN X4 hx (hb hby d16_40) rfl rfl ?_
  refine ogo (S' := T4.setTop (mkF m 42 #[.val (.ref x_), .val (.int (128 : Int32)), .val (.ref s_EID_CHARS), .val (.int (0 : Int32)), .val (.int c0_)] [(.int (128 : Int32)), (.int c0_)])) (fun _ kt_ => X4.arraylength hx (by rw [e4]; exact (Arr.ext O0.2 A_T).1) (State.isArrayOf_alike hZ.alike A_T.2.1) (g := (mkF m 41 #[.val (.ref x_), .val (.int (128 : Int32)), .val (.ref s_EID_CHARS), .val (.int (0 : Int32)), .val (.int c0_)] [(.ref s_EID_CHARS), (.int c0_)])) rfl rfl (hb hby d16_41) _ (by rw [len_of L_T (by decide)]; exact kt_)) ?_
  refine o_icmpNo X4 hx (hb hby d16_42) (tlt (own_ok_128 pr4)).2.1 ?_
  refine o_aloadN X4 hx (hb hby d16_45) rfl rfl ?_
  refine o_iload X4 hx (hb hby d16_46) rfl ?_
  refine ogo (S' := T4.setTop (mkF m 49 #[.val (.ref x_), .val (.int (128 : Int32)), .val (.ref s_EID_CHARS), .val (.int (0 : Int32)), .val (.int c0_)] [(.int (1 : Int32))])) (X4.baloadBooleans hx (j := c0_) (v := (.int 1)) (by rw [e4]; exact (Arr.ext O0.2 A_T).1) (State.isArrayOf_alike hZ.alike A_T.2.1) A_T.2.2 (inb_of L_T ⟨own_ok_0 pr4, own_ok_128 pr4⟩) (T_T _ pr4) (g := (mkF m 48 #[.val (.ref x_), .val (.int (128 : Int32)), .val (.ref s_EID_CHARS), .val (.int (0 : Int32)), .val (.int c0_)] [(.int c0_), (.ref s_EID_CHARS)])) rfl rfl (hb hby d16_48)) ?_
  refine o_ifYes X4 hx 54 (hb hby d16_49) (feq (by decide : ¬ ((1 : Int32) = (0 : Int32)))).2 (by decide) (by decide) ?_
  refine o_iinc X4 hx (l' := #[.val (.ref x_), .val (.int (128 : Int32)), .val (.ref s_EID_CHARS), .val (.int (1 : Int32)), .val (.int c0_)]) (hb hby d16_54) rfl rfl ?_
  refine o_goto X4 hx 23 (hb hby d16_57) (by decide) (by decide) ?_
  refine o_iloadN X4 hx (hb hby d16_23) rfl ?_
  refine o_aloadN X4 hx (hb hby d16_24) rfl rfl ?_
  obtain ⟨cq5, kq5, q5a, q5b, q5c⟩ := isOf hZ e4 pr0
  obtain ⟨_, _, ⟨T5, L5, kc5, n5⟩, -, X5, ⟨Lc5, hQ5, l5, y5, z5⟩, st5⟩ := X4.virtualBack hx (y := yM8) (z := yM8) hown (mvT hZ w52) (mvT hZ w53) (notFace_of_selects (args := #[]) (mvT hZ w55)) (mvT hZ w55) (mvT hZ w54) (by decide) (backOf (W := 1) (rm_len_4 l Z a0 hw [] s_EID_CHARS cl_T z_CS v_FMT x_ ba_ kb_ [(.int c0_.toInt8.toInt32), (.int c1_.toInt8.toInt32), (.int c2_.toInt8.toInt32), (.int c3_.toInt8.toInt32)] h0 n0 SB O0 pr0 pr1 pr2 pr3) hZ w56 w10 (by decide) (by decide)) q5a q5c (g := (mkF m 25 #[.val (.ref x_), .val (.int (128 : Int32)), .val (.ref s_EID_CHARS), .val (.int (1 : Int32)), .val (.int c0_)] [(.ref x_), (.int (1 : Int32))])) rfl (by rw [hml]; rfl) (Steps.refl _) (argsL := []) (rest := [(.int (1 : Int32))]) (lenOf own_pd10 rfl) rfl (by show 2 * 0 + _ ≤ _; exact Nat.le_of_eq rfl) (hb hby d16_25) (fun _ _ => ⟨rfl, e4, (by decide : 0 + 0 ≤ _), (by decide : 0 + 0 ≤ _)⟩)
  dsimp only [Pt.U, Pt.locs, Pt.cells, Pt.slots] at X5 l5 y5 z5 st5 hQ5
  subst l5 y5 z5
  obtain ⟨rfl, Nq5, e5⟩ := hQ5
  have N5 := Fr.app N4 Nq5
  refine otr (S' := T5.setTop (mkF m 28 #[.val (.ref x_), .val (.int (128 : Int32)), .val (.ref s_EID_CHARS), .val (.int (1 : Int32)), .val (.int c0_)] [(.int (4 : Int32)), (.int (1 : Int32))])) st5 ?_
  refine o_icmpNo X5 hx (hb hby d16_28) (tlt (by decide : (1 : Int32) < (4 : Int32))).2.1 ?_
  refine o_aloadN X5 hx (hb hby d16_31) rfl rfl ?_
  refine o_iloadN X5 hx (hb hby d16_32) rfl ?_
  obtain ⟨cq6, kq6, q6a, q6b, q6c⟩ := isOf hZ e5 pr0
  obtain ⟨_, _, ⟨T6, L6, kc6, n6⟩, -, X6, ⟨Lc6, hQ6, l6, y6, z6⟩, st6⟩ := X5.virtualBack hx (y := yM14) (z := yM14) hown (mvT hZ w62) (mvT hZ w63) (notFace_of_selects (args := #[]) (mvT hZ w65)) (mvT hZ w65) (mvT hZ w64) (by decide) (backOf (W := 0) (rm_cat_4_1 l Z a0 hw [] s_EID_CHARS cl_T z_CS v_FMT x_ ba_ kb_ c0_ c1_ c2_ c3_ h0 n0 SB O0 pr0 pr1 pr2 pr3 pr9 pr13) hZ w66 w10 (by decide) (by decide)) q6a q6c (g := (mkF m 33 #[.val (.ref x_), .val (.int (128 : Int32)), .val (.ref s_EID_CHARS), .val (.int (1 : Int32)), .val (.int c0_)] [(.int (1 : Int32)), (.ref x_)])) rfl (by rw [hml]; rfl) (Steps.refl _) (argsL := [(.int (1 : Int32))]) (rest := []) (lenOf own_pd11 rfl) rfl (by show 2 * 0 + _ ≤ _; exact Nat.le_of_eq rfl) (hb hby d16_33) (fun _ _ => ⟨rfl, e5, (by decide : 0 + 0 ≤ _), (by decide : 0 + 0 ≤ _)⟩)
  dsimp only [Pt.U, Pt.locs, Pt.cells, Pt.slots] at X6 l6 y6 z6 st6 hQ6
  subst l6 y6 z6
  obtain ⟨rfl, Nq6, e6⟩ := hQ6
  have N6 := Fr.app N5 Nq6
  refine otr (S' := T6.setTop (mkF m 36 #[.val (.ref x_), .val (.int (128 : Int32)), .val (.ref s_EID_CHARS), .val (.int (1 : Int32)), .val (.int c0_)] [(.int c1_)])) st6 ?_
  refine o_istore X6 hx (l' := #[.val (.ref x_), .val (.int (128 : Int32)), .val (.ref s_EID_CHARS), .val (.int (1 : Int32)), .val (.int c1_)]) (hb hby d16_36) rfl ?_
  refine o_iload X6 hx (hb hby d16_38) rfl ?_
  refine o_aloadN X6 hx (hb hby d16_40) rfl rfl ?_
  refine ogo (S' := T6.setTop (mkF m 42 #[.val (.ref x_), .val (.int (128 : Int32)), .val (.ref s_EID_CHARS), .val (.int (1 : Int32)), .val (.int c1_)] [(.int (128 : Int32)), (.int c1_)])) (fun _ kt_ => X6.arraylength hx (by rw [e6]; exact (Arr.ext O0.2 A_T).1) (State.isArrayOf_alike hZ.alike A_T.2.1) (g := (mkF m 41 #[.val (.ref x_), .val (.int (128 : Int32)), .val (.ref s_EID_CHARS), .val (.int (1 : Int32)), .val (.int c1_)] [(.ref s_EID_CHARS), (.int c1_)])) rfl rfl (hb hby d16_41) _ (by rw [len_of L_T (by decide)]; exact kt_)) ?_
  refine o_icmpNo X6 hx (hb hby d16_42) (tlt (own_ok_128 pr5)).2.1 ?_
  refine o_aloadN X6 hx (hb hby d16_45) rfl rfl ?_
  refine o_iload X6 hx (hb hby d16_46) rfl ?_
  refine ogo (S' := T6.setTop (mkF m 49 #[.val (.ref x_), .val (.int (128 : Int32)), .val (.ref s_EID_CHARS), .val (.int (1 : Int32)), .val (.int c1_)] [(.int (1 : Int32))])) (X6.baloadBooleans hx (j := c1_) (v := (.int 1)) (by rw [e6]; exact (Arr.ext O0.2 A_T).1) (State.isArrayOf_alike hZ.alike A_T.2.1) A_T.2.2 (inb_of L_T ⟨own_ok_0 pr5, own_ok_128 pr5⟩) (T_T _ pr5) (g := (mkF m 48 #[.val (.ref x_), .val (.int (128 : Int32)), .val (.ref s_EID_CHARS), .val (.int (1 : Int32)), .val (.int c1_)] [(.int c1_), (.ref s_EID_CHARS)])) rfl rfl (hb hby d16_48)) ?_
  refine o_ifYes X6 hx 54 (hb hby d16_49) (feq (by decide : ¬ ((1 : Int32) = (0 : Int32)))).2 (by decide) (by decide) ?_
  refine o_iinc X6 hx (l' := #[.val (.ref x_), .val (.int (128 : Int32)), .val (.ref s_EID_CHARS), .val (.int (2 : Int32)), .val (.int c1_)]) (hb hby d16_54) rfl rfl ?_
  refine o_goto X6 hx 23 (hb hby d16_57) (by decide) (by decide) ?_
  refine o_iloadN X6 hx (hb hby d16_23) rfl ?_
  refine o_aloadN X6 hx (hb hby d16_24) rfl rfl ?_
  obtain ⟨cq7, kq7, q7a, q7b, q7c⟩ := isOf hZ e6 pr0
  obtain ⟨_, _, ⟨T7, L7, kc7, n7⟩, -, X7, ⟨Lc7, hQ7, l7, y7, z7⟩, st7⟩ := X6.virtualBack hx (y := yM8) (z := yM8) hown (mvT hZ w52) (mvT hZ w53) (notFace_of_selects (args := #[]) (mvT hZ w55)) (mvT hZ w55) (mvT hZ w54) (by decide) (backOf (W := 1) (rm_len_4 l Z a0 hw [] s_EID_CHARS cl_T z_CS v_FMT x_ ba_ kb_ [(.int c0_.toInt8.toInt32), (.int c1_.toInt8.toInt32), (.int c2_.toInt8.toInt32), (.int c3_.toInt8.toInt32)] h0 n0 SB O0 pr0 pr1 pr2 pr3) hZ w56 w10 (by decide) (by decide)) q7a q7c (g := (mkF m 25 #[.val (.ref x_), .val (.int (128 : Int32)), .val (.ref s_EID_CHARS), .val (.int (2 : Int32)), .val (.int c1_)] [(.ref x_), (.int (2 : Int32))])) rfl (by rw [hml]; rfl) (Steps.refl _) (argsL := []) (rest := [(.int (2 : Int32))]) (lenOf own_pd10 rfl) rfl (by show 2 * 0 + _ ≤ _; exact Nat.le_of_eq rfl) (hb hby d16_25) (fun _ _ => ⟨rfl, e6, (by decide : 0 + 0 ≤ _), (by decide : 0 + 0 ≤ _)⟩)
  dsimp only [Pt.U, Pt.locs, Pt.cells, Pt.slots] at X7 l7 y7 z7 st7 hQ7
  subst l7 y7 z7
  obtain ⟨rfl, Nq7, e7⟩ := hQ7
  have N7 := Fr.app N6 Nq7
  refine otr (S' := T7.setTop (mkF m 28 #[.val (.ref x_), .val (.int (128 : Int32)), .val (.ref s_EID_CHARS), .val (.int (2 : Int32)), .val (.int c1_)] [(.int (4 : Int32)), (.int (2 : Int32))])) st7 ?_
  refine o_icmpNo X7 hx (hb hby d16_28) (tlt (by decide : (2 : Int32) < (4 : Int32))).2.1 ?_
  refine o_aloadN X7 hx (hb hby d16_31) rfl rfl ?_
  refine o_iloadN X7 hx (hb hby d16_32) rfl ?_
  obtain ⟨cq8, kq8, q8a, q8b, q8c⟩ := isOf hZ e7 pr0
  obtain ⟨_, _, ⟨T8, L8, kc8, n8⟩, -, X8, ⟨Lc8, hQ8, l8, y8, z8⟩, st8⟩ := X7.virtualBack hx (y := yM14) (z := yM14) hown (mvT hZ w62) (mvT hZ w63) (notFace_of_selects (args := #[]) (mvT hZ w65)) (mvT hZ w65) (mvT hZ w64) (by decide) (backOf (W := 0) (rm_cat_4_2 l Z a0 hw [] s_EID_CHARS cl_T z_CS v_FMT x_ ba_ kb_ c0_ c1_ c2_ c3_ h0 n0 SB O0 pr0 pr1 pr2 pr3 pr10 pr14) hZ w66 w10 (by decide) (by decide)) q8a q8c (g := (mkF m 33 #[.val (.ref x_), .val (.int (128 : Int32)), .val (.ref s_EID_CHARS), .val (.int (2 : Int32)), .val (.int c1_)] [(.int (2 : Int32)), (.ref x_)])) rfl (by rw [hml]; rfl) (Steps.refl _) (argsL := [(.int (2 : Int32))]) (rest := []) (lenOf own_pd11 rfl) rfl (by show 2 * 0 + _ ≤ _; exact Nat.le_of_eq rfl) (hb hby d16_33) (fun _ _ => ⟨rfl, e7, (by decide : 0 + 0 ≤ _), (by decide : 0 + 0 ≤ _)⟩)
  dsimp only [Pt.U, Pt.locs, Pt.cells, Pt.slots] at X8 l8 y8 z8 st8 hQ8
  subst l8 y8 z8
  obtain ⟨rfl, Nq8, e8⟩ := hQ8
  have N8 := Fr.app N7 Nq8
  refine otr (S' := T8.setTop (mkF m 36 #[.val (.ref x_), .val (.int (128 : Int32)), .val (.ref s_EID_CHARS), .val (.int (2 : Int32)), .val (.int c1_)] [(.int c2_)])) st8 ?_
  refine o_istore X8 hx (l' := #[.val (.ref x_), .val (.int (128 : Int32)), .val (.ref s_EID_CHARS), .val (.int (2 : Int32)), .val (.int c2_)]) (hb hby d16_36) rfl ?_
  refine o_iload X8 hx (hb hby d16_38) rfl ?_
  refine o_aloadN X8 hx (hb hby d16_40) rfl rfl ?_
  refine ogo (S' := T8.setTop (mkF m 42 #[.val (.ref x_), .val (.int (128 : Int32)), .val (.ref s_EID_CHARS), .val (.int (2 : Int32)), .val (.int c2_)] [(.int (128 : Int32)), (.int c2_)])) (fun _ kt_ => X8.arraylength hx (by rw [e8]; exact (Arr.ext O0.2 A_T).1) (State.isArrayOf_alike hZ.alike A_T.2.1) (g := (mkF m 41 #[.val (.ref x_), .val (.int (128 : Int32)), .val (.ref s_EID_CHARS), .val (.int (2 : Int32)), .val (.int c2_)] [(.ref s_EID_CHARS), (.int c2_)])) rfl rfl (hb hby d16_41) _ (by rw [len_of L_T (by decide)]; exact kt_)) ?_
  refine o_icmpNo X8 hx (hb hby d16_42) (tlt (own_ok_128 pr6)).2.1 ?_
  refine o_aloadN X8 hx (hb hby d16_45) rfl rfl ?_
  refine o_iload X8 hx (hb hby d16_46) rfl ?_
  refine ogo (S' := T8.setTop (mkF m 49 #[.val (.ref x_), .val (.int (128 : Int32)), .val (.ref s_EID_CHARS), .val (.int (2 : Int32)), .val (.int c2_)] [(.int (1 : Int32))])) (X8.baloadBooleans hx (j := c2_) (v := (.int 1)) (by rw [e8]; exact (Arr.ext O0.2 A_T).1) (State.isArrayOf_alike hZ.alike A_T.2.1) A_T.2.2 (inb_of L_T ⟨own_ok_0 pr6, own_ok_128 pr6⟩) (T_T _ pr6) (g := (mkF m 48 #[.val (.ref x_), .val (.int (128 : Int32)), .val (.ref s_EID_CHARS), .val (.int (2 : Int32)), .val (.int c2_)] [(.int c2_), (.ref s_EID_CHARS)])) rfl rfl (hb hby d16_48)) ?_
  refine o_ifYes X8 hx 54 (hb hby d16_49) (feq (by decide : ¬ ((1 : Int32) = (0 : Int32)))).2 (by decide) (by decide) ?_
  refine o_iinc X8 hx (l' := #[.val (.ref x_), .val (.int (128 : Int32)), .val (.ref s_EID_CHARS), .val (.int (3 : Int32)), .val (.int c2_)]) (hb hby d16_54) rfl rfl ?_
  refine o_goto X8 hx 23 (hb hby d16_57) (by decide) (by decide) ?_
  refine o_iloadN X8 hx (hb hby d16_23) rfl ?_
  refine o_aloadN X8 hx (hb hby d16_24) rfl rfl ?_
  obtain ⟨cq9, kq9, q9a, q9b, q9c⟩ := isOf hZ e8 pr0
  obtain ⟨_, _, ⟨T9, L9, kc9, n9⟩, -, X9, ⟨Lc9, hQ9, l9, y9, z9⟩, st9⟩ := X8.virtualBack hx (y := yM8) (z := yM8) hown (mvT hZ w52) (mvT hZ w53) (notFace_of_selects (args := #[]) (mvT hZ w55)) (mvT hZ w55) (mvT hZ w54) (by decide) (backOf (W := 1) (rm_len_4 l Z a0 hw [] s_EID_CHARS cl_T z_CS v_FMT x_ ba_ kb_ [(.int c0_.toInt8.toInt32), (.int c1_.toInt8.toInt32), (.int c2_.toInt8.toInt32), (.int c3_.toInt8.toInt32)] h0 n0 SB O0 pr0 pr1 pr2 pr3) hZ w56 w10 (by decide) (by decide)) q9a q9c (g := (mkF m 25 #[.val (.ref x_), .val (.int (128 : Int32)), .val (.ref s_EID_CHARS), .val (.int (3 : Int32)), .val (.int c2_)] [(.ref x_), (.int (3 : Int32))])) rfl (by rw [hml]; rfl) (Steps.refl _) (argsL := []) (rest := [(.int (3 : Int32))]) (lenOf own_pd10 rfl) rfl (by show 2 * 0 + _ ≤ _; exact Nat.le_of_eq rfl) (hb hby d16_25) (fun _ _ => ⟨rfl, e8, (by decide : 0 + 0 ≤ _), (by decide : 0 + 0 ≤ _)⟩)
  dsimp only [Pt.U, Pt.locs, Pt.cells, Pt.slots] at X9 l9 y9 z9 st9 hQ9
  subst l9 y9 z9
  obtain ⟨rfl, Nq9, e9⟩ := hQ9
  have N9 := Fr.app N8 Nq9
  refine otr (S' := T9.setTop (mkF m 28 #[.val (.ref x_), .val (.int (128 : Int32)), .val (.ref s_EID_CHARS), .val (.int (3 : Int32)), .val (.int c2_)] [(.int (4 : Int32)), (.int (3 : Int32))])) st9 ?_
  refine o_icmpNo X9 hx (hb hby d16_28) (tlt (by decide : (3 : Int32) < (4 : Int32))).2.1 ?_
  refine o_aloadN X9 hx (hb hby d16_31) rfl rfl ?_
  refine o_iloadN X9 hx (hb hby d16_32) rfl ?_
  obtain ⟨cq10, kq10, q10a, q10b, q10c⟩ := isOf hZ e9 pr0
  obtain ⟨_, _, ⟨T10, L10, kc10, n10⟩, -, X10, ⟨Lc10, hQ10, l10, y10, z10⟩, st10⟩ := X9.virtualBack hx (y := yM14) (z := yM14) hown (mvT hZ w62) (mvT hZ w63) (notFace_of_selects (args := #[]) (mvT hZ w65)) (mvT hZ w65) (mvT hZ w64) (by decide) (backOf (W := 0) (rm_cat_4_3 l Z a0 hw [] s_EID_CHARS cl_T z_CS v_FMT x_ ba_ kb_ c0_ c1_ c2_ c3_ h0 n0 SB O0 pr0 pr1 pr2 pr3 pr11 pr15) hZ w66 w10 (by decide) (by decide)) q10a q10c (g := (mkF m 33 #[.val (.ref x_), .val (.int (128 : Int32)), .val (.ref s_EID_CHARS), .val (.int (3 : Int32)), .val (.int c2_)] [(.int (3 : Int32)), (.ref x_)])) rfl (by rw [hml]; rfl) (Steps.refl _) (argsL := [(.int (3 : Int32))]) (rest := []) (lenOf own_pd11 rfl) rfl (by show 2 * 0 + _ ≤ _; exact Nat.le_of_eq rfl) (hb hby d16_33) (fun _ _ => ⟨rfl, e9, (by decide : 0 + 0 ≤ _), (by decide : 0 + 0 ≤ _)⟩)
  dsimp only [Pt.U, Pt.locs, Pt.cells, Pt.slots] at X10 l10 y10 z10 st10 hQ10
  subst l10 y10 z10
  obtain ⟨rfl, Nq10, e10⟩ := hQ10
  have N10 := Fr.app N9 Nq10
  refine otr (S' := T10.setTop (mkF m 36 #[.val (.ref x_), .val (.int (128 : Int32)), .val (.ref s_EID_CHARS), .val (.int (3 : Int32)), .val (.int c2_)] [(.int c3_)])) st10 ?_
  refine o_istore X10 hx (l' := #[.val (.ref x_), .val (.int (128 : Int32)), .val (.ref s_EID_CHARS), .val (.int (3 : Int32)), .val (.int c3_)]) (hb hby d16_36) rfl ?_
  refine o_iload X10 hx (hb hby d16_38) rfl ?_
  refine o_aloadN X10 hx (hb hby d16_40) rfl rfl ?_
  refine ogo (S' := T10.setTop (mkF m 42 #[.val (.ref x_), .val (.int (128 : Int32)), .val (.ref s_EID_CHARS), .val (.int (3 : Int32)), .val (.int c3_)] [(.int (128 : Int32)), (.int c3_)])) (fun _ kt_ => X10.arraylength hx (by rw [e10]; exact (Arr.ext O0.2 A_T).1) (State.isArrayOf_alike hZ.alike A_T.2.1) (g := (mkF m 41 #[.val (.ref x_), .val (.int (128 : Int32)), .val (.ref s_EID_CHARS), .val (.int (3 : Int32)), .val (.int c3_)] [(.ref s_EID_CHARS), (.int c3_)])) rfl rfl (hb hby d16_41) _ (by rw [len_of L_T (by decide)]; exact kt_)) ?_
  refine o_icmpNo X10 hx (hb hby d16_42) (tlt (own_ok_128 pr7)).2.1 ?_
  refine o_aloadN X10 hx (hb hby d16_45) rfl rfl ?_
  refine o_iload X10 hx (hb hby d16_46) rfl ?_
  refine ogo (S' := T10.setTop (mkF m 49 #[.val (.ref x_), .val (.int (128 : Int32)), .val (.ref s_EID_CHARS), .val (.int (3 : Int32)), .val (.int c3_)] [(.int (1 : Int32))])) (X10.baloadBooleans hx (j := c3_) (v := (.int 1)) (by rw [e10]; exact (Arr.ext O0.2 A_T).1) (State.isArrayOf_alike hZ.alike A_T.2.1) A_T.2.2 (inb_of L_T ⟨own_ok_0 pr7, own_ok_128 pr7⟩) (T_T _ pr7) (g := (mkF m 48 #[.val (.ref x_), .val (.int (128 : Int32)), .val (.ref s_EID_CHARS), .val (.int (3 : Int32)), .val (.int c3_)] [(.int c3_), (.ref s_EID_CHARS)])) rfl rfl (hb hby d16_48)) ?_
  refine o_ifYes X10 hx 54 (hb hby d16_49) (feq (by decide : ¬ ((1 : Int32) = (0 : Int32)))).2 (by decide) (by decide) ?_
  refine o_iinc X10 hx (l' := #[.val (.ref x_), .val (.int (128 : Int32)), .val (.ref s_EID_CHARS), .val (.int (4 : Int32)), .val (.int c3_)]) (hb hby d16_54) rfl rfl ?_
  refine o_goto X10 hx 23 (hb hby d16_57) (by decide) (by decide) ?_
  refine o_iloadN X10 hx (hb hby d16_23) rfl ?_
  refine o_aloadN X10 hx (hb hby d16_24) rfl rfl ?_
  obtain ⟨cq11, kq11, q11a, q11b, q11c⟩ := isOf hZ e10 pr0
  obtain ⟨_, _, ⟨T11, L11, kc11, n11⟩, -, X11, ⟨Lc11, hQ11, l11, y11, z11⟩, st11⟩ := X10.virtualBack hx (y := yM8) (z := yM8) hown (mvT hZ w52) (mvT hZ w53) (notFace_of_selects (args := #[]) (mvT hZ w55)) (mvT hZ w55) (mvT hZ w54) (by decide) (backOf (W := 1) (rm_len_4 l Z a0 hw [] s_EID_CHARS cl_T z_CS v_FMT x_ ba_ kb_ [(.int c0_.toInt8.toInt32), (.int c1_.toInt8.toInt32), (.int c2_.toInt8.toInt32), (.int c3_.toInt8.toInt32)] h0 n0 SB O0 pr0 pr1 pr2 pr3) hZ w56 w10 (by decide) (by decide)) q11a q11c (g := (mkF m 25 #[.val (.ref x_), .val (.int (128 : Int32)), .val (.ref s_EID_CHARS), .val (.int (4 : Int32)), .val (.int c3_)] [(.ref x_), (.int (4 : Int32))])) rfl (by rw [hml]; rfl) (Steps.refl _) (argsL := []) (rest := [(.int (4 : Int32))]) (lenOf own_pd10 rfl) rfl (by show 2 * 0 + _ ≤ _; exact Nat.le_of_eq rfl) (hb hby d16_25) (fun _ _ => ⟨rfl, e10, (by decide : 0 + 0 ≤ _), (by decide : 0 + 0 ≤ _)⟩)
  dsimp only [Pt.U, Pt.locs, Pt.cells, Pt.slots] at X11 l11 y11 z11 st11 hQ11
  subst l11 y11 z11
  obtain ⟨rfl, Nq11, e11⟩ := hQ11
  have N11 := Fr.app N10 Nq11
  refine otr (S' := T11.setTop (mkF m 28 #[.val (.ref x_), .val (.int (128 : Int32)), .val (.ref s_EID_CHARS), .val (.int (4 : Int32)), .val (.int c3_)] [(.int (4 : Int32)), (.int (4 : Int32))])) st11 ?_
  refine o_icmpYes X11 hx 60 (hb hby d16_28) (flt (by decide : ¬ ((4 : Int32) < (4 : Int32)))).2.1 (by decide) (by decide) ?_
  refine o_iconst X11 hx (1 : Int32) (hb hby d16_60) rfl ?_
  refine oend X11 hlk (v := some (.int (1 : Int32))) (fun h => by rw [hret] at h; cases h) (fun fs hr => retN X11 hx (t := .boolean) hret (by simp) (hb hby d16_61) hr) (by decide) (by decide) ?_
  show own_Q_spelled_4 Z _ _ _ _ _ _ _ _ _ _ _ h0 n0 _ T11.heap _
  rw [e11]
  exact ⟨rfl, N11, rfl⟩
theorem own_pd12 : parseMethodDescriptor "(Ljava/lang/String;I[Z)Z" = some ⟨[(.object "java/lang/String"), .int, (.array .boolean)], some .boolean⟩ := by decide +kernel
theorem d17_0 : decode prog_7_method_3_code 0 = .ok (.aload_n 0, 1) := by decide +kernel
theorem d17_1 : decode prog_7_method_3_code 1 = .ok (.sipush 128, 3) := by decide +kernel
theorem d17_4 : decode prog_7_method_3_code 4 = .ok (.getstatic 24, 3) := by decide +kernel
theorem d17_7 : decode prog_7_method_3_code 7 = .ok (.invokestatic 13, 3) := by decide +kernel
theorem d17_10 : decode prog_7_method_3_code 10 = .ok (.ifCond .ne 13, 3) := by decide +kernel
theorem d17_23 : decode prog_7_method_3_code 23 = .ok (.aload_n 0, 1) := by decide +kernel
theorem d17_24 : decode prog_7_method_3_code 24 = .ok (.areturn, 1) := by decide +kernel
def own_Q_check_1 (Z : State) (s_EID_CHARS : Addr) (cl_T : Cell) (z_CS : Int32) (v_FMT : Value) (x_ : Addr) (ba_ : Addr) (kb_ : ClassId) (c0_ : Int32) (h0 : Heap) (n0 : Nat) (v : Option Value) (h : Heap) (L : List Loc) : Prop := (v = some (.ref x_)) ∧ (Fr n0 L) ∧ (h = h0)
abbrev yM16 : MethodName := ⟨"com/example/atomic_tally/atomictally/model/Names", "checkEid", "(Ljava/lang/String;)Ljava/lang/String;"⟩
set_option maxRecDepth 65536 in
set_option maxHeartbeats 40000000 in
theorem rm_check_1 (l : Launch) (Z : State) (a0 : Array Value) (hw : ∀ d ∈ tables_1, d.before a0 Z = true) (ws : List Jvm.Cond) (s_EID_CHARS : Addr) (cl_T : Cell) (z_CS : Int32) (v_FMT : Value) (x_ : Addr) (ba_ : Addr) (kb_ : ClassId) (c0_ : Int32) (h0 : Heap) (n0 : Nat) (SB : own_Start Z s_EID_CHARS cl_T z_CS v_FMT) (O0 : Old Z n0 h0) (pr0 : Exa Z h0 x_ "java/lang/String") (pr1 : Fld Z h0 x_ "java/lang/String" "coder" "B" (.int (0 : Int32))) (pr2 : Fld Z h0 x_ "java/lang/String" "value" "[B" (.ref ba_)) (pr3 : Arv Z h0 ba_ kb_ .byte (1 : Int32) [(.int c0_.toInt8.toInt32)] (.int 0)) (pr4 : own_ok c0_) (pr5 : ¬ (c0_ < (0 : Int32))) (pr6 : ¬ ((255 : Int32) < c0_)) :
    oMet l Z yM16 prog_7_method_3_code 1 (some (.object "java/lang/String")) ws ({ frames := 5, cells := 0, slots := 0, locals := 69 } : Room) 0 0 #[(.ref x_)] h0 (own_Q_check_1 Z s_EID_CHARS cl_T z_CS v_FMT x_ ba_ kb_ c0_ h0 n0) := by
  refine oenter own_pn5 #[.val (.ref x_)] (fun m => by first | (simp [entryFrame, mkF, argsToLocals, Value.category]; done) | rfl) ?_
  intro p e s m below meth c s₁ X0 hx hZ hby hml hret hown0 hnm hlk e0
  have hown : s.vm.findClass "com/example/atomic_tally/atomictally/model/Names" = some m.cls := hown0
  have N0 := Fr.nil n0
  obtain ⟨S_s_EID_CHARS, A_T, L_T, T_T, S_CS, H_CS, S_FMT, R_FMT⟩ := (id SB)
  have w40 := hw _ (List.mem_of_getElem? (i := 40) rfl)
  have w42 := hw _ (List.mem_of_getElem? (i := 42) rfl)
  have w44 := hw _ (List.mem_of_getElem? (i := 44) rfl)
  have w45 := hw _ (List.mem_of_getElem? (i := 45) rfl)
  have w46 := hw _ (List.mem_of_getElem? (i := 46) rfl)
  refine o_aloadN X0 hx (hb hby d17_0) rfl rfl ?_
  refine o_sipush X0 hx (128 : Int32) (hb hby d17_1) rfl ?_
  obtain ⟨T1, X1, e1, st1⟩ := getS2 X0 hx hZ hown (host := "") (Or.inl w42) Via.refl e0 (Sta.ext O0.2 S_s_EID_CHARS) (g := (mkF m 4 #[.val (.ref x_)] [(.int (128 : Int32)), (.ref x_)])) rfl (hb hby d17_4)
  refine ogo (S' := T1.setTop (mkF m 7 #[.val (.ref x_)] [(.ref s_EID_CHARS), (.int (128 : Int32)), (.ref x_)])) st1 ?_
  obtain ⟨_, _, ⟨T2, L2, kc2, n2⟩, -, X2, ⟨Lc2, hQ2, l2, y2, z2⟩, st2⟩ := Jvm.LawKit.callS X1 hx (y := yM15) hown (mvT hZ w44) (mvT hZ w45) (mvT hZ w40) (mvT hZ w46) (by decide) (backOf (W := 0) (rm_spelled_1 l Z a0 hw [] s_EID_CHARS cl_T z_CS v_FMT x_ ba_ kb_ c0_ h0 n0 SB O0 pr0 pr1 pr2 pr3 pr4 pr5 pr6) hZ w46 w40 (by decide) (by decide)) (g := (mkF m 7 #[.val (.ref x_)] [(.ref s_EID_CHARS), (.int (128 : Int32)), (.ref x_)])) rfl (by rw [hml]; rfl) (argsL := [(.ref x_), (.int (128 : Int32)), (.ref s_EID_CHARS)]) (rest := []) (lenOf own_pd12 rfl) rfl (by show 2 * 0 + _ ≤ _; exact Nat.le_of_eq rfl) (hb hby d17_7) (fun _ _ => ⟨rfl, e1, (by decide : 0 + 0 ≤ _), (by decide : 0 + 0 ≤ _)⟩)
  dsimp only [Pt.U, Pt.locs, Pt.cells, Pt.slots] at X2 l2 y2 z2 st2 hQ2
  subst l2 y2 z2
  obtain ⟨rfl, Nq2, e2⟩ := hQ2
  have N2 := Fr.app N0 Nq2
  refine ogo (S' := T2.setTop (mkF m 10 #[.val (.ref x_)] [(.int (1 : Int32))])) st2 ?_
  refine o_ifYes X2 hx 23 (hb hby d17_10) (feq (by decide : ¬ ((1 : Int32) = (0 : Int32)))).2 (by decide) (by decide) ?_
  refine o_aloadN X2 hx (hb hby d17_23) rfl rfl ?_
  refine oend X2 hlk (v := some (.ref x_)) (fun h => by rw [hret] at h; cases h) (fun fs hr => retOut X2 hx (t := (.object "java/lang/String")) (i := .areturn) hret rfl (Or.inr (Or.inr (Or.inr (Or.inr ⟨rfl, rfl, rfl⟩)))) (hb hby d17_24) hr) (by decide) (by decide) ?_
  show own_Q_check_1 Z _ _ _ _ _ _ _ _ h0 n0 _ T2.heap _
  rw [e2]
  exact ⟨rfl, N2, rfl⟩
def own_Q_check_2 (Z : State) (s_EID_CHARS : Addr) (cl_T : Cell) (z_CS : Int32) (v_FMT : Value) (x_ : Addr) (ba_ : Addr) (kb_ : ClassId) (c0_ : Int32) (c1_ : Int32) (h0 : Heap) (n0 : Nat) (v : Option Value) (h : Heap) (L : List Loc) : Prop := (v = some (.ref x_)) ∧ (Fr n0 L) ∧ (h = h0)
set_option maxRecDepth 65536 in
set_option maxHeartbeats 40000000 in
theorem rm_check_2 (l : Launch) (Z : State) (a0 : Array Value) (hw : ∀ d ∈ tables_1, d.before a0 Z = true) (ws : List Jvm.Cond) (s_EID_CHARS : Addr) (cl_T : Cell) (z_CS : Int32) (v_FMT : Value) (x_ : Addr) (ba_ : Addr) (kb_ : ClassId) (c0_ : Int32) (c1_ : Int32) (h0 : Heap) (n0 : Nat) (SB : own_Start Z s_EID_CHARS cl_T z_CS v_FMT) (O0 : Old Z n0 h0) (pr0 : Exa Z h0 x_ "java/lang/String") (pr1 : Fld Z h0 x_ "java/lang/String" "coder" "B" (.int (0 : Int32))) (pr2 : Fld Z h0 x_ "java/lang/String" "value" "[B" (.ref ba_)) (pr3 : Arv Z h0 ba_ kb_ .byte (2 : Int32) [(.int c0_.toInt8.toInt32), (.int c1_.toInt8.toInt32)] (.int 0)) (pr4 : own_ok c0_) (pr5 : own_ok c1_) (pr6 : ¬ (c0_ < (0 : Int32))) (pr7 : ¬ (c1_ < (0 : Int32))) (pr8 : ¬ ((255 : Int32) < c0_)) (pr9 : ¬ ((255 : Int32) < c1_)) :
    oMet l Z yM16 prog_7_method_3_code 1 (some (.object "java/lang/String")) ws ({ frames := 5, cells := 0, slots := 0, locals := 69 } : Room) 0 0 #[(.ref x_)] h0 (own_Q_check_2 Z s_EID_CHARS cl_T z_CS v_FMT x_ ba_ kb_ c0_ c1_ h0 n0) := by
  refine oenter own_pn5 #[.val (.ref x_)] (fun m => by first | (simp [entryFrame, mkF, argsToLocals, Value.category]; done) | rfl) ?_
  intro p e s m below meth c s₁ X0 hx hZ hby hml hret hown0 hnm hlk e0
  have hown : s.vm.findClass "com/example/atomic_tally/atomictally/model/Names" = some m.cls := hown0
  have N0 := Fr.nil n0
  obtain ⟨S_s_EID_CHARS, A_T, L_T, T_T, S_CS, H_CS, S_FMT, R_FMT⟩ := (id SB)
  have w40 := hw _ (List.mem_of_getElem? (i := 40) rfl)
  have w42 := hw _ (List.mem_of_getElem? (i := 42) rfl)
  have w44 := hw _ (List.mem_of_getElem? (i := 44) rfl)
  have w45 := hw _ (List.mem_of_getElem? (i := 45) rfl)
  have w46 := hw _ (List.mem_of_getElem? (i := 46) rfl)
  refine o_aloadN X0 hx (hb hby d17_0) rfl rfl ?_
  refine o_sipush X0 hx (128 : Int32) (hb hby d17_1) rfl ?_
  obtain ⟨T1, X1, e1, st1⟩ := getS2 X0 hx hZ hown (host := "") (Or.inl w42) Via.refl e0 (Sta.ext O0.2 S_s_EID_CHARS) (g := (mkF m 4 #[.val (.ref x_)] [(.int (128 : Int32)), (.ref x_)])) rfl (hb hby d17_4)
  refine ogo (S' := T1.setTop (mkF m 7 #[.val (.ref x_)] [(.ref s_EID_CHARS), (.int (128 : Int32)), (.ref x_)])) st1 ?_
  obtain ⟨_, _, ⟨T2, L2, kc2, n2⟩, -, X2, ⟨Lc2, hQ2, l2, y2, z2⟩, st2⟩ := Jvm.LawKit.callS X1 hx (y := yM15) hown (mvT hZ w44) (mvT hZ w45) (mvT hZ w40) (mvT hZ w46) (by decide) (backOf (W := 0) (rm_spelled_2 l Z a0 hw [] s_EID_CHARS cl_T z_CS v_FMT x_ ba_ kb_ c0_ c1_ h0 n0 SB O0 pr0 pr1 pr2 pr3 pr4 pr5 pr6 pr7 pr8 pr9) hZ w46 w40 (by decide) (by decide)) (g := (mkF m 7 #[.val (.ref x_)] [(.ref s_EID_CHARS), (.int (128 : Int32)), (.ref x_)])) rfl (by rw [hml]; rfl) (argsL := [(.ref x_), (.int (128 : Int32)), (.ref s_EID_CHARS)]) (rest := []) (lenOf own_pd12 rfl) rfl (by show 2 * 0 + _ ≤ _; exact Nat.le_of_eq rfl) (hb hby d17_7) (fun _ _ => ⟨rfl, e1, (by decide : 0 + 0 ≤ _), (by decide : 0 + 0 ≤ _)⟩)
  dsimp only [Pt.U, Pt.locs, Pt.cells, Pt.slots] at X2 l2 y2 z2 st2 hQ2
  subst l2 y2 z2
  obtain ⟨rfl, Nq2, e2⟩ := hQ2
  have N2 := Fr.app N0 Nq2
  refine ogo (S' := T2.setTop (mkF m 10 #[.val (.ref x_)] [(.int (1 : Int32))])) st2 ?_
  refine o_ifYes X2 hx 23 (hb hby d17_10) (feq (by decide : ¬ ((1 : Int32) = (0 : Int32)))).2 (by decide) (by decide) ?_
  refine o_aloadN X2 hx (hb hby d17_23) rfl rfl ?_
  refine oend X2 hlk (v := some (.ref x_)) (fun h => by rw [hret] at h; cases h) (fun fs hr => retOut X2 hx (t := (.object "java/lang/String")) (i := .areturn) hret rfl (Or.inr (Or.inr (Or.inr (Or.inr ⟨rfl, rfl, rfl⟩)))) (hb hby d17_24) hr) (by decide) (by decide) ?_
  show own_Q_check_2 Z _ _ _ _ _ _ _ _ _ h0 n0 _ T2.heap _
  rw [e2]
  exact ⟨rfl, N2, rfl⟩
def own_Q_check_3 (Z : State) (s_EID_CHARS : Addr) (cl_T : Cell) (z_CS : Int32) (v_FMT : Value) (x_ : Addr) (ba_ : Addr) (kb_ : ClassId) (c0_ : Int32) (c1_ : Int32) (c2_ : Int32) (h0 : Heap) (n0 : Nat) (v : Option Value) (h : Heap) (L : List Loc) : Prop := (v = some (.ref x_)) ∧ (Fr n0 L) ∧ (h = h0)
set_option maxRecDepth 65536 in
set_option maxHeartbeats 40000000 in
theorem rm_check_3 (l : Launch) (Z : State) (a0 : Array Value) (hw : ∀ d ∈ tables_1, d.before a0 Z = true) (ws : List Jvm.Cond) (s_EID_CHARS : Addr) (cl_T : Cell) (z_CS : Int32) (v_FMT : Value) (x_ : Addr) (ba_ : Addr) (kb_ : ClassId) (c0_ : Int32) (c1_ : Int32) (c2_ : Int32) (h0 : Heap) (n0 : Nat) (SB : own_Start Z s_EID_CHARS cl_T z_CS v_FMT) (O0 : Old Z n0 h0) (pr0 : Exa Z h0 x_ "java/lang/String") (pr1 : Fld Z h0 x_ "java/lang/String" "coder" "B" (.int (0 : Int32))) (pr2 : Fld Z h0 x_ "java/lang/String" "value" "[B" (.ref ba_)) (pr3 : Arv Z h0 ba_ kb_ .byte (3 : Int32) [(.int c0_.toInt8.toInt32), (.int c1_.toInt8.toInt32), (.int c2_.toInt8.toInt32)] (.int 0)) (pr4 : own_ok c0_) (pr5 : own_ok c1_) (pr6 : own_ok c2_) (pr7 : ¬ (c0_ < (0 : Int32))) (pr8 : ¬ (c1_ < (0 : Int32))) (pr9 : ¬ (c2_ < (0 : Int32))) (pr10 : ¬ ((255 : Int32) < c0_)) (pr11 : ¬ ((255 : Int32) < c1_)) (pr12 : ¬ ((255 : Int32) < c2_)) :
    oMet l Z yM16 prog_7_method_3_code 1 (some (.object "java/lang/String")) ws ({ frames := 5, cells := 0, slots := 0, locals := 69 } : Room) 0 0 #[(.ref x_)] h0 (own_Q_check_3 Z s_EID_CHARS cl_T z_CS v_FMT x_ ba_ kb_ c0_ c1_ c2_ h0 n0) := by
  refine oenter own_pn5 #[.val (.ref x_)] (fun m => by first | (simp [entryFrame, mkF, argsToLocals, Value.category]; done) | rfl) ?_
  intro p e s m below meth c s₁ X0 hx hZ hby hml hret hown0 hnm hlk e0
  have hown : s.vm.findClass "com/example/atomic_tally/atomictally/model/Names" = some m.cls := hown0
  have N0 := Fr.nil n0
  obtain ⟨S_s_EID_CHARS, A_T, L_T, T_T, S_CS, H_CS, S_FMT, R_FMT⟩ := (id SB)
  have w40 := hw _ (List.mem_of_getElem? (i := 40) rfl)
  have w42 := hw _ (List.mem_of_getElem? (i := 42) rfl)
  have w44 := hw _ (List.mem_of_getElem? (i := 44) rfl)
  have w45 := hw _ (List.mem_of_getElem? (i := 45) rfl)
  have w46 := hw _ (List.mem_of_getElem? (i := 46) rfl)
  refine o_aloadN X0 hx (hb hby d17_0) rfl rfl ?_
  refine o_sipush X0 hx (128 : Int32) (hb hby d17_1) rfl ?_
  obtain ⟨T1, X1, e1, st1⟩ := getS2 X0 hx hZ hown (host := "") (Or.inl w42) Via.refl e0 (Sta.ext O0.2 S_s_EID_CHARS) (g := (mkF m 4 #[.val (.ref x_)] [(.int (128 : Int32)), (.ref x_)])) rfl (hb hby d17_4)
  refine ogo (S' := T1.setTop (mkF m 7 #[.val (.ref x_)] [(.ref s_EID_CHARS), (.int (128 : Int32)), (.ref x_)])) st1 ?_
  obtain ⟨_, _, ⟨T2, L2, kc2, n2⟩, -, X2, ⟨Lc2, hQ2, l2, y2, z2⟩, st2⟩ := Jvm.LawKit.callS X1 hx (y := yM15) hown (mvT hZ w44) (mvT hZ w45) (mvT hZ w40) (mvT hZ w46) (by decide) (backOf (W := 0) (rm_spelled_3 l Z a0 hw [] s_EID_CHARS cl_T z_CS v_FMT x_ ba_ kb_ c0_ c1_ c2_ h0 n0 SB O0 pr0 pr1 pr2 pr3 pr4 pr5 pr6 pr7 pr8 pr9 pr10 pr11 pr12) hZ w46 w40 (by decide) (by decide)) (g := (mkF m 7 #[.val (.ref x_)] [(.ref s_EID_CHARS), (.int (128 : Int32)), (.ref x_)])) rfl (by rw [hml]; rfl) (argsL := [(.ref x_), (.int (128 : Int32)), (.ref s_EID_CHARS)]) (rest := []) (lenOf own_pd12 rfl) rfl (by show 2 * 0 + _ ≤ _; exact Nat.le_of_eq rfl) (hb hby d17_7) (fun _ _ => ⟨rfl, e1, (by decide : 0 + 0 ≤ _), (by decide : 0 + 0 ≤ _)⟩)
  dsimp only [Pt.U, Pt.locs, Pt.cells, Pt.slots] at X2 l2 y2 z2 st2 hQ2
  subst l2 y2 z2
  obtain ⟨rfl, Nq2, e2⟩ := hQ2
  have N2 := Fr.app N0 Nq2
  refine ogo (S' := T2.setTop (mkF m 10 #[.val (.ref x_)] [(.int (1 : Int32))])) st2 ?_
  refine o_ifYes X2 hx 23 (hb hby d17_10) (feq (by decide : ¬ ((1 : Int32) = (0 : Int32)))).2 (by decide) (by decide) ?_
  refine o_aloadN X2 hx (hb hby d17_23) rfl rfl ?_
  refine oend X2 hlk (v := some (.ref x_)) (fun h => by rw [hret] at h; cases h) (fun fs hr => retOut X2 hx (t := (.object "java/lang/String")) (i := .areturn) hret rfl (Or.inr (Or.inr (Or.inr (Or.inr ⟨rfl, rfl, rfl⟩)))) (hb hby d17_24) hr) (by decide) (by decide) ?_
  show own_Q_check_3 Z _ _ _ _ _ _ _ _ _ _ h0 n0 _ T2.heap _
  rw [e2]
  exact ⟨rfl, N2, rfl⟩
def own_Q_check_4 (Z : State) (s_EID_CHARS : Addr) (cl_T : Cell) (z_CS : Int32) (v_FMT : Value) (x_ : Addr) (ba_ : Addr) (kb_ : ClassId) (c0_ : Int32) (c1_ : Int32) (c2_ : Int32) (c3_ : Int32) (h0 : Heap) (n0 : Nat) (v : Option Value) (h : Heap) (L : List Loc) : Prop := (v = some (.ref x_)) ∧ (Fr n0 L) ∧ (h = h0)
set_option maxRecDepth 65536 in
set_option maxHeartbeats 40000000 in
theorem rm_check_4 (l : Launch) (Z : State) (a0 : Array Value) (hw : ∀ d ∈ tables_1, d.before a0 Z = true) (ws : List Jvm.Cond) (s_EID_CHARS : Addr) (cl_T : Cell) (z_CS : Int32) (v_FMT : Value) (x_ : Addr) (ba_ : Addr) (kb_ : ClassId) (c0_ : Int32) (c1_ : Int32) (c2_ : Int32) (c3_ : Int32) (h0 : Heap) (n0 : Nat) (SB : own_Start Z s_EID_CHARS cl_T z_CS v_FMT) (O0 : Old Z n0 h0) (pr0 : Exa Z h0 x_ "java/lang/String") (pr1 : Fld Z h0 x_ "java/lang/String" "coder" "B" (.int (0 : Int32))) (pr2 : Fld Z h0 x_ "java/lang/String" "value" "[B" (.ref ba_)) (pr3 : Arv Z h0 ba_ kb_ .byte (4 : Int32) [(.int c0_.toInt8.toInt32), (.int c1_.toInt8.toInt32), (.int c2_.toInt8.toInt32), (.int c3_.toInt8.toInt32)] (.int 0)) (pr4 : own_ok c0_) (pr5 : own_ok c1_) (pr6 : own_ok c2_) (pr7 : own_ok c3_) (pr8 : ¬ (c0_ < (0 : Int32))) (pr9 : ¬ (c1_ < (0 : Int32))) (pr10 : ¬ (c2_ < (0 : Int32))) (pr11 : ¬ (c3_ < (0 : Int32))) (pr12 : ¬ ((255 : Int32) < c0_)) (pr13 : ¬ ((255 : Int32) < c1_)) (pr14 : ¬ ((255 : Int32) < c2_)) (pr15 : ¬ ((255 : Int32) < c3_)) :
    oMet l Z yM16 prog_7_method_3_code 1 (some (.object "java/lang/String")) ws ({ frames := 5, cells := 0, slots := 0, locals := 69 } : Room) 0 0 #[(.ref x_)] h0 (own_Q_check_4 Z s_EID_CHARS cl_T z_CS v_FMT x_ ba_ kb_ c0_ c1_ c2_ c3_ h0 n0) := by
  refine oenter own_pn5 #[.val (.ref x_)] (fun m => by first | (simp [entryFrame, mkF, argsToLocals, Value.category]; done) | rfl) ?_
  intro p e s m below meth c s₁ X0 hx hZ hby hml hret hown0 hnm hlk e0
  have hown : s.vm.findClass "com/example/atomic_tally/atomictally/model/Names" = some m.cls := hown0
  have N0 := Fr.nil n0
  obtain ⟨S_s_EID_CHARS, A_T, L_T, T_T, S_CS, H_CS, S_FMT, R_FMT⟩ := (id SB)
  have w40 := hw _ (List.mem_of_getElem? (i := 40) rfl)
  have w42 := hw _ (List.mem_of_getElem? (i := 42) rfl)
  have w44 := hw _ (List.mem_of_getElem? (i := 44) rfl)
  have w45 := hw _ (List.mem_of_getElem? (i := 45) rfl)
  have w46 := hw _ (List.mem_of_getElem? (i := 46) rfl)
  refine o_aloadN X0 hx (hb hby d17_0) rfl rfl ?_
  refine o_sipush X0 hx (128 : Int32) (hb hby d17_1) rfl ?_
  obtain ⟨T1, X1, e1, st1⟩ := getS2 X0 hx hZ hown (host := "") (Or.inl w42) Via.refl e0 (Sta.ext O0.2 S_s_EID_CHARS) (g := (mkF m 4 #[.val (.ref x_)] [(.int (128 : Int32)), (.ref x_)])) rfl (hb hby d17_4)
  refine ogo (S' := T1.setTop (mkF m 7 #[.val (.ref x_)] [(.ref s_EID_CHARS), (.int (128 : Int32)), (.ref x_)])) st1 ?_
  obtain ⟨_, _, ⟨T2, L2, kc2, n2⟩, -, X2, ⟨Lc2, hQ2, l2, y2, z2⟩, st2⟩ := Jvm.LawKit.callS X1 hx (y := yM15) hown (mvT hZ w44) (mvT hZ w45) (mvT hZ w40) (mvT hZ w46) (by decide) (backOf (W := 0) (rm_spelled_4 l Z a0 hw [] s_EID_CHARS cl_T z_CS v_FMT x_ ba_ kb_ c0_ c1_ c2_ c3_ h0 n0 SB O0 pr0 pr1 pr2 pr3 pr4 pr5 pr6 pr7 pr8 pr9 pr10 pr11 pr12 pr13 pr14 pr15) hZ w46 w40 (by decide) (by decide)) (g := (mkF m 7 #[.val (.ref x_)] [(.ref s_EID_CHARS), (.int (128 : Int32)), (.ref x_)])) rfl (by rw [hml]; rfl) (argsL := [(.ref x_), (.int (128 : Int32)), (.ref s_EID_CHARS)]) (rest := []) (lenOf own_pd12 rfl) rfl (by show 2 * 0 + _ ≤ _; exact Nat.le_of_eq rfl) (hb hby d17_7) (fun _ _ => ⟨rfl, e1, (by decide : 0 + 0 ≤ _), (by decide : 0 + 0 ≤ _)⟩)
  dsimp only [Pt.U, Pt.locs, Pt.cells, Pt.slots] at X2 l2 y2 z2 st2 hQ2
  subst l2 y2 z2
  obtain ⟨rfl, Nq2, e2⟩ := hQ2
  have N2 := Fr.app N0 Nq2
  refine ogo (S' := T2.setTop (mkF m 10 #[.val (.ref x_)] [(.int (1 : Int32))])) st2 ?_
  refine o_ifYes X2 hx 23 (hb hby d17_10) (feq (by decide : ¬ ((1 : Int32) = (0 : Int32)))).2 (by decide) (by decide) ?_
  refine o_aloadN X2 hx (hb hby d17_23) rfl rfl ?_
  refine oend X2 hlk (v := some (.ref x_)) (fun h => by rw [hret] at h; cases h) (fun fs hr => retOut X2 hx (t := (.object "java/lang/String")) (i := .areturn) hret rfl (Or.inr (Or.inr (Or.inr (Or.inr ⟨rfl, rfl, rfl⟩)))) (hb hby d17_24) hr) (by decide) (by decide) ?_
  show own_Q_check_4 Z _ _ _ _ _ _ _ _ _ _ _ h0 n0 _ T2.heap _
  rw [e2]
  exact ⟨rfl, N2, rfl⟩
theorem d18_0 : decode jdk_42_method_66_code 0 = .ok (.aload_n 0, 1) := by decide +kernel
theorem d18_1 : decode jdk_42_method_66_code 1 = .ok (.aload_n 1, 1) := by decide +kernel
theorem d18_2 : decode jdk_42_method_66_code 2 = .ok (.if_acmp .ne 5, 3) := by decide +kernel
theorem d18_5 : decode jdk_42_method_66_code 5 = .ok (.iconst 1, 1) := by decide +kernel
theorem d18_6 : decode jdk_42_method_66_code 6 = .ok (.ireturn, 1) := by decide +kernel
def own_Q_eqself (Z : State)  (x_ : Addr) (h0 : Heap) (n0 : Nat) (v : Option Value) (h : Heap) (L : List Loc) : Prop := (v = some (.int (1 : Int32))) ∧ (Fr n0 L) ∧ (h = h0)
abbrev yM17 : MethodName := ⟨"java/lang/String", "equals", "(Ljava/lang/Object;)Z"⟩
set_option maxRecDepth 65536 in
set_option maxHeartbeats 40000000 in
theorem rm_eqself (l : Launch) (Z : State) (a0 : Array Value) (hw : ∀ d ∈ tables_1, d.before a0 Z = true) (ws : List Jvm.Cond)  (x_ : Addr) (h0 : Heap) (n0 : Nat) (O0 : Old Z n0 h0)  :
    oMet l Z yM17 jdk_42_method_66_code 3 (some .boolean) ws ({ frames := 0, cells := 0, slots := 0, locals := 0 } : Room) 0 0 #[(.ref x_), (.ref x_)] h0 (own_Q_eqself Z  x_ h0 n0) := by
  refine oenter own_pn2 #[.val (.ref x_), .val (.ref x_), .unset] (fun m => by first | (simp [entryFrame, mkF, argsToLocals, Value.category]; done) | rfl) ?_
  intro p e s m below meth c s₁ X0 hx hZ hby hml hret hown0 hnm hlk e0
  have hown : s.vm.findClass "java/lang/String" = some m.cls := hown0
  have N0 := Fr.nil n0
  refine o_aloadN X0 hx (hb hby d18_0) rfl rfl ?_
  refine o_aloadN X0 hx (hb hby d18_1) rfl rfl ?_
  refine o_acmp X0 hx 5 true rfl rfl (hb hby d18_2) (decide_eq_true rfl) (by decide) (by decide) ?_
  refine o_iconst X0 hx (1 : Int32) (hb hby d18_5) rfl ?_
  refine oend X0 hlk (v := some (.int (1 : Int32))) (fun h => by rw [hret] at h; cases h) (fun fs hr => retN X0 hx (t := .boolean) hret (by simp) (hb hby d18_6) hr) (by decide) (by decide) ?_
  show own_Q_eqself Z _ h0 n0 _ s₁.heap _
  rw [e0]
  exact ⟨rfl, N0, rfl⟩
theorem own_pd13 : parseMethodDescriptor "(ICCCC)Ljava/lang/String;" = some ⟨[.int, .char, .char, .char, .char], some (.object "java/lang/String")⟩ := by decide +kernel
theorem own_pd14 : parseMethodDescriptor "(Ljava/lang/String;)Ljava/lang/String;" = some ⟨[(.object "java/lang/String")], some (.object "java/lang/String")⟩ := by decide +kernel
theorem own_pd15 : parseMethodDescriptor "(Ljava/lang/Object;)Z" = some ⟨[(.object "java/lang/Object")], some .boolean⟩ := by decide +kernel
def own_Q_law (Z : State) (s_EID_CHARS : Addr) (cl_T : Cell) (z_CS : Int32) (v_FMT : Value) (n_ : Int32) (x0_ : Int32) (x1_ : Int32) (x2_ : Int32) (x3_ : Int32) (h0 : Heap) (n0 : Nat) (v : Option Value) (h : Heap) (L : List Loc) : Prop := (v = some (.int (1 : Int32))) ∧ (Fr n0 L) ∧ (Keep h0 h [])
set_option maxRecDepth 65536 in
set_option maxHeartbeats 40000000 in
theorem rm_law (l : Launch) (Z : State) (a0 : Array Value) (hw : ∀ d ∈ tables_1, d.before a0 Z = true) (ws : List Jvm.Cond) (s_EID_CHARS : Addr) (cl_T : Cell) (z_CS : Int32) (v_FMT : Value) (n_ : Int32) (x0_ : Int32) (x1_ : Int32) (x2_ : Int32) (x3_ : Int32) (h0 : Heap) (n0 : Nat) (SB : own_Start Z s_EID_CHARS cl_T z_CS v_FMT) (O0 : Old Z n0 h0)  :
    oMet l Z x code maxLocals ret ws room_1 16 128 #[(.int n_), (.int x0_), (.int x1_), (.int x2_), (.int x3_)] h0 (own_Q_law Z s_EID_CHARS cl_T z_CS v_FMT n_ x0_ x1_ x2_ x3_ h0 n0) := by
  refine oenter own_pn0 #[.val (.int n_), .val (.int x0_), .val (.int x1_), .val (.int x2_), .val (.int x3_), .unset, .unset, .unset, .unset, .unset, .unset, .unset] (fun m => by first | (simp [entryFrame, mkF, argsToLocals, Value.category, maxLocals]; done) | rfl) ?_
  intro p e s m below meth c s₁ X0 hx hZ hby hml hret hown0 hnm hlk e0
  have hown : s.vm.findClass "com/example/atomic_tally/atomictally/model/NamesCheckEidPinLaw" = some m.cls := hown0
  have N0 := Fr.nil n0
  obtain ⟨S_s_EID_CHARS, A_T, L_T, T_T, S_CS, H_CS, S_FMT, R_FMT⟩ := (id SB)
  have w0 := hw _ (List.mem_of_getElem? (i := 0) rfl)
  have w1 := hw _ (List.mem_of_getElem? (i := 1) rfl)
  have w2 := hw _ (List.mem_of_getElem? (i := 2) rfl)
  have w3 := hw _ (List.mem_of_getElem? (i := 3) rfl)
  have w5 := hw _ (List.mem_of_getElem? (i := 5) rfl)
  have w6 := hw _ (List.mem_of_getElem? (i := 6) rfl)
  have w7 := hw _ (List.mem_of_getElem? (i := 7) rfl)
  have w10 := hw _ (List.mem_of_getElem? (i := 10) rfl)
  have w38 := hw _ (List.mem_of_getElem? (i := 38) rfl)
  have w39 := hw _ (List.mem_of_getElem? (i := 39) rfl)
  have w40 := hw _ (List.mem_of_getElem? (i := 40) rfl)
  have w41 := hw _ (List.mem_of_getElem? (i := 41) rfl)
  have w53 := hw _ (List.mem_of_getElem? (i := 53) rfl)
  have w54 := hw _ (List.mem_of_getElem? (i := 54) rfl)
  have w55 := hw _ (List.mem_of_getElem? (i := 55) rfl)
  have w56 := hw _ (List.mem_of_getElem? (i := 56) rfl)
  have w63 := hw _ (List.mem_of_getElem? (i := 63) rfl)
  have w64 := hw _ (List.mem_of_getElem? (i := 64) rfl)
  have w65 := hw _ (List.mem_of_getElem? (i := 65) rfl)
  have w66 := hw _ (List.mem_of_getElem? (i := 66) rfl)
  have w84 := hw _ (List.mem_of_getElem? (i := 84) rfl)
  have w85 := hw _ (List.mem_of_getElem? (i := 85) rfl)
  have w86 := hw _ (List.mem_of_getElem? (i := 86) rfl)
  have w87 := hw _ (List.mem_of_getElem? (i := 87) rfl)
  have w88 := hw _ (List.mem_of_getElem? (i := 88) rfl)
  have w89 := hw _ (List.mem_of_getElem? (i := 89) rfl)
  have w90 := hw _ (List.mem_of_getElem? (i := 90) rfl)
  refine o_iconst X0 hx (1 : Int32) (hb hby at_0) rfl ?_
  refine o_iloadN X0 hx (hb hby at_1) rfl ?_
  refine o_iconst X0 hx (3 : Int32) (hb hby at_2) rfl ?_
  refine o_iand X0 hx (hb hby at_3) ?_
  refine o_iadd X0 hx (hb hby at_4) ?_
  refine o_istore X0 hx (l' := #[.val (.int n_), .val (.int x0_), .val (.int x1_), .val (.int x2_), .val (.int x3_), .val (.int ((1 : Int32) + (n_ &&& (3 : Int32)))), .unset, .unset, .unset, .unset, .unset, .unset]) (hb hby at_5) rfl ?_
  refine o_iloadN X0 hx (hb hby at_7) rfl ?_
  obtain ⟨_, _, ⟨T1, L1, kc1, n1⟩, -, X1, ⟨Lc1, hQ1, l1, y1, z1⟩, st1⟩ := Jvm.LawKit.callS X0 hx (y := yM0) hown (mvT hZ w0) (mvT hZ w1) (mvT hZ w2) (mvT hZ w3) (by decide) (backOf (W := 0) (rm_eidChar l Z a0 hw []  x0_ h0 n0 O0 ) hZ w3 w2 (by decide) (by decide)) (g := (mkF m 8 #[.val (.int n_), .val (.int x0_), .val (.int x1_), .val (.int x2_), .val (.int x3_), .val (.int ((1 : Int32) + (n_ &&& (3 : Int32)))), .unset, .unset, .unset, .unset, .unset, .unset] [(.int x0_)])) rfl (by rw [hml]; rfl) (argsL := [(.int x0_)]) (rest := []) (lenOf own_pd11 rfl) rfl (by show 2 * 0 + _ ≤ _; exact Nat.le_of_eq rfl) (hb hby at_8) (fun _ _ => ⟨rfl, e0, (by decide : 0 + 0 ≤ _), (by decide : 0 + 0 ≤ _)⟩)
  dsimp only [Pt.U, Pt.locs, Pt.cells, Pt.slots] at X1 l1 y1 z1 st1 hQ1
  subst l1 y1 z1
  obtain ⟨rfl, Nq1, e1⟩ := hQ1
  have N1 := Fr.app N0 Nq1
  refine ogo (S' := T1.setTop (mkF m 11 #[.val (.int n_), .val (.int x0_), .val (.int x1_), .val (.int x2_), .val (.int x3_), .val (.int ((1 : Int32) + (n_ &&& (3 : Int32)))), .unset, .unset, .unset, .unset, .unset, .unset] [(.int (own_eid x0_))])) st1 ?_
  refine o_istore X1 hx (l' := #[.val (.int n_), .val (.int x0_), .val (.int x1_), .val (.int x2_), .val (.int x3_), .val (.int ((1 : Int32) + (n_ &&& (3 : Int32)))), .val (.int (own_eid x0_)), .unset, .unset, .unset, .unset, .unset]) (hb hby at_11) rfl ?_
  refine o_iloadN X1 hx (hb hby at_13) rfl ?_
  obtain ⟨_, _, ⟨T2, L2, kc2, n2⟩, -, X2, ⟨Lc2, hQ2, l2, y2, z2⟩, st2⟩ := Jvm.LawKit.callS X1 hx (y := yM0) hown (mvT hZ w0) (mvT hZ w1) (mvT hZ w2) (mvT hZ w3) (by decide) (backOf (W := 0) (rm_eidChar l Z a0 hw []  x1_ h0 n0 O0 ) hZ w3 w2 (by decide) (by decide)) (g := (mkF m 14 #[.val (.int n_), .val (.int x0_), .val (.int x1_), .val (.int x2_), .val (.int x3_), .val (.int ((1 : Int32) + (n_ &&& (3 : Int32)))), .val (.int (own_eid x0_)), .unset, .unset, .unset, .unset, .unset] [(.int x1_)])) rfl (by rw [hml]; rfl) (argsL := [(.int x1_)]) (rest := []) (lenOf own_pd11 rfl) rfl (by show 2 * 0 + _ ≤ _; exact Nat.le_of_eq rfl) (hb hby at_14) (fun _ _ => ⟨rfl, e1, (by decide : 0 + 0 ≤ _), (by decide : 0 + 0 ≤ _)⟩)
  dsimp only [Pt.U, Pt.locs, Pt.cells, Pt.slots] at X2 l2 y2 z2 st2 hQ2
  subst l2 y2 z2
  obtain ⟨rfl, Nq2, e2⟩ := hQ2
  have N2 := Fr.app N1 Nq2
  refine ogo (S' := T2.setTop (mkF m 17 #[.val (.int n_), .val (.int x0_), .val (.int x1_), .val (.int x2_), .val (.int x3_), .val (.int ((1 : Int32) + (n_ &&& (3 : Int32)))), .val (.int (own_eid x0_)), .unset, .unset, .unset, .unset, .unset] [(.int (own_eid x1_))])) st2 ?_
  refine o_istore X2 hx (l' := #[.val (.int n_), .val (.int x0_), .val (.int x1_), .val (.int x2_), .val (.int x3_), .val (.int ((1 : Int32) + (n_ &&& (3 : Int32)))), .val (.int (own_eid x0_)), .val (.int (own_eid x1_)), .unset, .unset, .unset, .unset]) (hb hby at_17) rfl ?_
  refine o_iloadN X2 hx (hb hby at_19) rfl ?_
  obtain ⟨_, _, ⟨T3, L3, kc3, n3⟩, -, X3, ⟨Lc3, hQ3, l3, y3, z3⟩, st3⟩ := Jvm.LawKit.callS X2 hx (y := yM0) hown (mvT hZ w0) (mvT hZ w1) (mvT hZ w2) (mvT hZ w3) (by decide) (backOf (W := 0) (rm_eidChar l Z a0 hw []  x2_ h0 n0 O0 ) hZ w3 w2 (by decide) (by decide)) (g := (mkF m 20 #[.val (.int n_), .val (.int x0_), .val (.int x1_), .val (.int x2_), .val (.int x3_), .val (.int ((1 : Int32) + (n_ &&& (3 : Int32)))), .val (.int (own_eid x0_)), .val (.int (own_eid x1_)), .unset, .unset, .unset, .unset] [(.int x2_)])) rfl (by rw [hml]; rfl) (argsL := [(.int x2_)]) (rest := []) (lenOf own_pd11 rfl) rfl (by show 2 * 0 + _ ≤ _; exact Nat.le_of_eq rfl) (hb hby at_20) (fun _ _ => ⟨rfl, e2, (by decide : 0 + 0 ≤ _), (by decide : 0 + 0 ≤ _)⟩)
  dsimp only [Pt.U, Pt.locs, Pt.cells, Pt.slots] at X3 l3 y3 z3 st3 hQ3
  subst l3 y3 z3
  obtain ⟨rfl, Nq3, e3⟩ := hQ3
  have N3 := Fr.app N2 Nq3
  refine ogo (S' := T3.setTop (mkF m 23 #[.val (.int n_), .val (.int x0_), .val (.int x1_), .val (.int x2_), .val (.int x3_), .val (.int ((1 : Int32) + (n_ &&& (3 : Int32)))), .val (.int (own_eid x0_)), .val (.int (own_eid x1_)), .unset, .unset, .unset, .unset] [(.int (own_eid x2_))])) st3 ?_
  refine o_istore X3 hx (l' := #[.val (.int n_), .val (.int x0_), .val (.int x1_), .val (.int x2_), .val (.int x3_), .val (.int ((1 : Int32) + (n_ &&& (3 : Int32)))), .val (.int (own_eid x0_)), .val (.int (own_eid x1_)), .val (.int (own_eid x2_)), .unset, .unset, .unset]) (hb hby at_23) rfl ?_
  refine o_iload X3 hx (hb hby at_25) rfl ?_
  obtain ⟨_, _, ⟨T4, L4, kc4, n4⟩, -, X4, ⟨Lc4, hQ4, l4, y4, z4⟩, st4⟩ := Jvm.LawKit.callS X3 hx (y := yM0) hown (mvT hZ w0) (mvT hZ w1) (mvT hZ w2) (mvT hZ w3) (by decide) (backOf (W := 0) (rm_eidChar l Z a0 hw []  x3_ h0 n0 O0 ) hZ w3 w2 (by decide) (by decide)) (g := (mkF m 27 #[.val (.int n_), .val (.int x0_), .val (.int x1_), .val (.int x2_), .val (.int x3_), .val (.int ((1 : Int32) + (n_ &&& (3 : Int32)))), .val (.int (own_eid x0_)), .val (.int (own_eid x1_)), .val (.int (own_eid x2_)), .unset, .unset, .unset] [(.int x3_)])) rfl (by rw [hml]; rfl) (argsL := [(.int x3_)]) (rest := []) (lenOf own_pd11 rfl) rfl (by show 2 * 0 + _ ≤ _; exact Nat.le_of_eq rfl) (hb hby at_27) (fun _ _ => ⟨rfl, e3, (by decide : 0 + 0 ≤ _), (by decide : 0 + 0 ≤ _)⟩)
  dsimp only [Pt.U, Pt.locs, Pt.cells, Pt.slots] at X4 l4 y4 z4 st4 hQ4
  subst l4 y4 z4
  obtain ⟨rfl, Nq4, e4⟩ := hQ4
  have N4 := Fr.app N3 Nq4
  refine ogo (S' := T4.setTop (mkF m 30 #[.val (.int n_), .val (.int x0_), .val (.int x1_), .val (.int x2_), .val (.int x3_), .val (.int ((1 : Int32) + (n_ &&& (3 : Int32)))), .val (.int (own_eid x0_)), .val (.int (own_eid x1_)), .val (.int (own_eid x2_)), .unset, .unset, .unset] [(.int (own_eid x3_))])) st4 ?_
  refine o_istore X4 hx (l' := #[.val (.int n_), .val (.int x0_), .val (.int x1_), .val (.int x2_), .val (.int x3_), .val (.int ((1 : Int32) + (n_ &&& (3 : Int32)))), .val (.int (own_eid x0_)), .val (.int (own_eid x1_)), .val (.int (own_eid x2_)), .val (.int (own_eid x3_)), .unset, .unset]) (hb hby at_30) rfl ?_
  rcases own_len n_ with hs5 | hs5 | hs5 | hs5
  · rw [hs5]
    refine o_iload X4 hx (hb hby at_32) rfl ?_
    refine o_iload X4 hx (hb hby at_34) rfl ?_
    refine o_iload X4 hx (hb hby at_36) rfl ?_
    refine o_iload X4 hx (hb hby at_38) rfl ?_
    refine o_iload X4 hx (hb hby at_40) rfl ?_
    obtain ⟨_, _, ⟨T6, L6, kc6, n6⟩, -, X6, ⟨Lc6, hQ6, l6, y6, z6⟩, st6⟩ := Jvm.LawKit.callS X4 hx (y := yM6) hown (mvT hZ w5) (mvT hZ w6) (mvT hZ w2) (mvT hZ w7) (by decide) (backOf (W := 0) (rm_build_1 l Z a0 hw [] s_EID_CHARS cl_T z_CS v_FMT (own_eid x0_) (own_eid x1_) (own_eid x2_) (own_eid x3_) h0 n0 SB O0 (own_narsm (own_ok_0 (own_eid_ok x0_)) (own_ok_255 (own_eid_ok x0_))) (own_ok_255 (own_eid_ok x0_))) hZ w7 w2 (by decide) (by decide)) (g := (mkF m 42 #[.val (.int n_), .val (.int x0_), .val (.int x1_), .val (.int x2_), .val (.int x3_), .val (.int (1 : Int32)), .val (.int (own_eid x0_)), .val (.int (own_eid x1_)), .val (.int (own_eid x2_)), .val (.int (own_eid x3_)), .unset, .unset] [(.int (own_eid x3_)), (.int (own_eid x2_)), (.int (own_eid x1_)), (.int (own_eid x0_)), (.int (1 : Int32))])) rfl (by rw [hml]; rfl) (argsL := [(.int (1 : Int32)), (.int (own_eid x0_)), (.int (own_eid x1_)), (.int (own_eid x2_)), (.int (own_eid x3_))]) (rest := []) (lenOf own_pd13 rfl) rfl (by show 2 * 0 + _ ≤ _; exact Nat.le_of_eq rfl) (hb hby at_42) (fun _ _ => ⟨rfl, e4, (by decide : 0 + 3 ≤ _), (by decide : 0 + 6 ≤ _)⟩)
    dsimp only [Pt.U, Pt.locs, Pt.cells, Pt.slots] at X6 l6 y6 z6 st6 hQ6
    subst l6 y6 z6
    obtain ⟨x_6, ba_6, kb_6, rfl, Nq6, K6, p6_0, p6_1, p6_2, p6_3, p6_4, p6_5⟩ := hQ6
    have N6 := Fr.app N4 Nq6
    have n0_x_6 : n0 ≤ x_6 := Nat.le_trans (Nat.le_trans (Nat.le_of_eq O0.1.symm) O0.2.1) (Nat.le_trans (Nat.le_refl _) p6_0)
    have n0_ba_6 : n0 ≤ ba_6 := Nat.le_trans (Nat.le_trans (Nat.le_of_eq O0.1.symm) O0.2.1) (Nat.le_trans (Nat.le_refl _) p6_1)
    refine ogo (S' := T6.setTop (mkF m 45 #[.val (.int n_), .val (.int x0_), .val (.int x1_), .val (.int x2_), .val (.int x3_), .val (.int (1 : Int32)), .val (.int (own_eid x0_)), .val (.int (own_eid x1_)), .val (.int (own_eid x2_)), .val (.int (own_eid x3_)), .unset, .unset] [(.ref x_6)])) st6 ?_
    refine o_astore X6 hx (l' := #[.val (.int n_), .val (.int x0_), .val (.int x1_), .val (.int x2_), .val (.int x3_), .val (.int (1 : Int32)), .val (.int (own_eid x0_)), .val (.int (own_eid x1_)), .val (.int (own_eid x2_)), .val (.int (own_eid x3_)), .val (.ref x_6), .unset]) (hb hby at_45) rfl rfl ?_
    refine o_aload X6 hx (hb hby at_47) rfl rfl ?_
    obtain ⟨_, _, ⟨T7, L7, kc7, n7⟩, -, X7, ⟨Lc7, hQ7, l7, y7, z7⟩, st7⟩ := Jvm.LawKit.callS X6 hx (y := yM16) hown (mvT hZ w38) (mvT hZ w39) (mvT hZ w40) (mvT hZ w41) (by decide) (backOf (W := 0) (rm_check_1 l Z a0 hw [] s_EID_CHARS cl_T z_CS v_FMT x_6 ba_6 kb_6 (own_eid x0_) T6.heap n0 SB (O0.keep K6 all0) p6_2 p6_3 p6_4 p6_5 (own_eid_ok x0_) (own_ok_0 (own_eid_ok x0_)) (own_ok_255 (own_eid_ok x0_))) hZ w41 w40 (by decide) (by decide)) (g := (mkF m 49 #[.val (.int n_), .val (.int x0_), .val (.int x1_), .val (.int x2_), .val (.int x3_), .val (.int (1 : Int32)), .val (.int (own_eid x0_)), .val (.int (own_eid x1_)), .val (.int (own_eid x2_)), .val (.int (own_eid x3_)), .val (.ref x_6), .unset] [(.ref x_6)])) rfl (by rw [hml]; rfl) (argsL := [(.ref x_6)]) (rest := []) (lenOf own_pd14 rfl) rfl (by show 2 * 0 + _ ≤ _; exact Nat.le_of_eq rfl) (hb hby at_49) (fun _ _ => ⟨rfl, rfl, (by decide : 3 + 0 ≤ _), (by decide : 6 + 0 ≤ _)⟩)
    dsimp only [Pt.U, Pt.locs, Pt.cells, Pt.slots] at X7 l7 y7 z7 st7 hQ7
    subst l7 y7 z7
    obtain ⟨rfl, Nq7, e7⟩ := hQ7
    have N7 := Fr.app N6 Nq7
    refine ogo (S' := T7.setTop (mkF m 52 #[.val (.int n_), .val (.int x0_), .val (.int x1_), .val (.int x2_), .val (.int x3_), .val (.int (1 : Int32)), .val (.int (own_eid x0_)), .val (.int (own_eid x1_)), .val (.int (own_eid x2_)), .val (.int (own_eid x3_)), .val (.ref x_6), .unset] [(.ref x_6)])) st7 ?_
    refine o_astore X7 hx (l' := #[.val (.int n_), .val (.int x0_), .val (.int x1_), .val (.int x2_), .val (.int x3_), .val (.int (1 : Int32)), .val (.int (own_eid x0_)), .val (.int (own_eid x1_)), .val (.int (own_eid x2_)), .val (.int (own_eid x3_)), .val (.ref x_6), .val (.ref x_6)]) (hb hby at_52) rfl rfl ?_
    refine o_aload X7 hx (hb hby at_54) rfl rfl ?_
    refine o_ifnonnullYes X7 hx 61 (hb hby at_56) (by decide) (by decide) ?_
    refine o_aload X7 hx (hb hby at_61) rfl rfl ?_
    obtain ⟨cq8, kq8, q8a, q8b, q8c⟩ := isOf hZ e7 p6_2
    obtain ⟨_, _, ⟨T8, L8, kc8, n8⟩, -, X8, ⟨Lc8, hQ8, l8, y8, z8⟩, st8⟩ := X7.virtualBack hx (y := yM8) (z := yM8) hown (mvT hZ w84) (mvT hZ w53) (notFace_of_selects (args := #[]) (mvT hZ w55)) (mvT hZ w55) (mvT hZ w54) (by decide) (backOf (W := 0) (rm_len_1 l Z a0 hw [] s_EID_CHARS cl_T z_CS v_FMT x_6 ba_6 kb_6 [(.int (own_eid x0_).toInt8.toInt32)] T6.heap n0 SB (O0.keep K6 all0) p6_2 p6_3 p6_4 p6_5) hZ w56 w10 (by decide) (by decide)) q8a q8c (g := (mkF m 63 #[.val (.int n_), .val (.int x0_), .val (.int x1_), .val (.int x2_), .val (.int x3_), .val (.int (1 : Int32)), .val (.int (own_eid x0_)), .val (.int (own_eid x1_)), .val (.int (own_eid x2_)), .val (.int (own_eid x3_)), .val (.ref x_6), .val (.ref x_6)] [(.ref x_6)])) rfl (by rw [hml]; rfl) (Steps.refl _) (argsL := []) (rest := []) (lenOf own_pd10 rfl) rfl (by show 2 * 0 + _ ≤ _; exact Nat.le_of_eq rfl) (hb hby at_63) (fun _ _ => ⟨rfl, e7, (by decide : 3 + 0 ≤ _), (by decide : 6 + 0 ≤ _)⟩)
    dsimp only [Pt.U, Pt.locs, Pt.cells, Pt.slots] at X8 l8 y8 z8 st8 hQ8
    subst l8 y8 z8
    obtain ⟨rfl, Nq8, e8⟩ := hQ8
    have N8 := Fr.app N7 Nq8
    refine otr (S' := T8.setTop (mkF m 66 #[.val (.int n_), .val (.int x0_), .val (.int x1_), .val (.int x2_), .val (.int x3_), .val (.int (1 : Int32)), .val (.int (own_eid x0_)), .val (.int (own_eid x1_)), .val (.int (own_eid x2_)), .val (.int (own_eid x3_)), .val (.ref x_6), .val (.ref x_6)] [(.int (1 : Int32))])) st8 ?_
    refine o_iload X8 hx (hb hby at_66) rfl ?_
    refine o_icmpYes X8 hx 73 (hb hby at_68) (teq (by decide : (1 : Int32) = (1 : Int32))).1 (by decide) (by decide) ?_
    refine o_aload X8 hx (hb hby at_73) rfl rfl ?_
    refine o_iconst X8 hx (0 : Int32) (hb hby at_75) rfl ?_
    obtain ⟨cq9, kq9, q9a, q9b, q9c⟩ := isOf hZ e8 p6_2
    obtain ⟨_, _, ⟨T9, L9, kc9, n9⟩, -, X9, ⟨Lc9, hQ9, l9, y9, z9⟩, st9⟩ := X8.virtualBack hx (y := yM14) (z := yM14) hown (mvT hZ w85) (mvT hZ w63) (notFace_of_selects (args := #[]) (mvT hZ w65)) (mvT hZ w65) (mvT hZ w64) (by decide) (backOf (W := 0) (rm_cat_1_0 l Z a0 hw [] s_EID_CHARS cl_T z_CS v_FMT x_6 ba_6 kb_6 (own_eid x0_) T6.heap n0 SB (O0.keep K6 all0) p6_2 p6_3 p6_4 p6_5 (own_ok_0 (own_eid_ok x0_)) (own_ok_255 (own_eid_ok x0_))) hZ w66 w10 (by decide) (by decide)) q9a q9c (g := (mkF m 76 #[.val (.int n_), .val (.int x0_), .val (.int x1_), .val (.int x2_), .val (.int x3_), .val (.int (1 : Int32)), .val (.int (own_eid x0_)), .val (.int (own_eid x1_)), .val (.int (own_eid x2_)), .val (.int (own_eid x3_)), .val (.ref x_6), .val (.ref x_6)] [(.int (0 : Int32)), (.ref x_6)])) rfl (by rw [hml]; rfl) (Steps.refl _) (argsL := [(.int (0 : Int32))]) (rest := []) (lenOf own_pd11 rfl) rfl (by show 2 * 0 + _ ≤ _; exact Nat.le_of_eq rfl) (hb hby at_76) (fun _ _ => ⟨rfl, e8, (by decide : 3 + 0 ≤ _), (by decide : 6 + 0 ≤ _)⟩)
    dsimp only [Pt.U, Pt.locs, Pt.cells, Pt.slots] at X9 l9 y9 z9 st9 hQ9
    subst l9 y9 z9
    obtain ⟨rfl, Nq9, e9⟩ := hQ9
    have N9 := Fr.app N8 Nq9
    refine otr (S' := T9.setTop (mkF m 79 #[.val (.int n_), .val (.int x0_), .val (.int x1_), .val (.int x2_), .val (.int x3_), .val (.int (1 : Int32)), .val (.int (own_eid x0_)), .val (.int (own_eid x1_)), .val (.int (own_eid x2_)), .val (.int (own_eid x3_)), .val (.ref x_6), .val (.ref x_6)] [(.int (own_eid x0_))])) st9 ?_
    refine o_iload X9 hx (hb hby at_79) rfl ?_
    refine o_icmpYes X9 hx 86 (hb hby at_81) (teq (rfl : (own_eid x0_) = (own_eid x0_))).1 (by decide) (by decide) ?_
    refine o_iload X9 hx (hb hby at_86) rfl ?_
    refine o_iconst X9 hx (2 : Int32) (hb hby at_88) rfl ?_
    refine o_icmpYes X9 hx 105 (hb hby at_89) (tlt (by decide : (1 : Int32) < (2 : Int32))).1 (by decide) (by decide) ?_
    refine o_iload X9 hx (hb hby at_105) rfl ?_
    refine o_iconst X9 hx (3 : Int32) (hb hby at_107) rfl ?_
    refine o_icmpYes X9 hx 124 (hb hby at_108) (tlt (by decide : (1 : Int32) < (3 : Int32))).1 (by decide) (by decide) ?_
    refine o_iload X9 hx (hb hby at_124) rfl ?_
    refine o_iconst X9 hx (4 : Int32) (hb hby at_126) rfl ?_
    refine o_icmpYes X9 hx 143 (hb hby at_127) (tlt (by decide : (1 : Int32) < (4 : Int32))).1 (by decide) (by decide) ?_
    refine o_aload X9 hx (hb hby at_143) rfl rfl ?_
    refine o_aload X9 hx (hb hby at_145) rfl rfl ?_
    obtain ⟨cq10, kq10, q10a, q10b, q10c⟩ := isOf hZ e9 p6_2
    obtain ⟨_, _, ⟨T10, L10, kc10, n10⟩, -, X10, ⟨Lc10, hQ10, l10, y10, z10⟩, st10⟩ := X9.virtualBack hx (y := yM17) (z := yM17) hown (mvT hZ w86) (mvT hZ w87) (notFace_of_selects (args := #[]) (mvT hZ w89)) (mvT hZ w89) (mvT hZ w88) (by decide) (backOf (W := 0) (rm_eqself l Z a0 hw []  x_6 T6.heap n0 (O0.keep K6 all0) ) hZ w90 w10 (by decide) (by decide)) q10a q10c (g := (mkF m 147 #[.val (.int n_), .val (.int x0_), .val (.int x1_), .val (.int x2_), .val (.int x3_), .val (.int (1 : Int32)), .val (.int (own_eid x0_)), .val (.int (own_eid x1_)), .val (.int (own_eid x2_)), .val (.int (own_eid x3_)), .val (.ref x_6), .val (.ref x_6)] [(.ref x_6), (.ref x_6)])) rfl (by rw [hml]; rfl) (Steps.refl _) (argsL := [(.ref x_6)]) (rest := []) (lenOf own_pd15 rfl) rfl (by show 2 * 0 + _ ≤ _; exact Nat.le_of_eq rfl) (hb hby at_147) (fun _ _ => ⟨rfl, e9, (by decide : 3 + 0 ≤ _), (by decide : 6 + 0 ≤ _)⟩)
    dsimp only [Pt.U, Pt.locs, Pt.cells, Pt.slots] at X10 l10 y10 z10 st10 hQ10
    subst l10 y10 z10
    obtain ⟨rfl, Nq10, e10⟩ := hQ10
    have N10 := Fr.app N9 Nq10
    refine otr (S' := T10.setTop (mkF m 150 #[.val (.int n_), .val (.int x0_), .val (.int x1_), .val (.int x2_), .val (.int x3_), .val (.int (1 : Int32)), .val (.int (own_eid x0_)), .val (.int (own_eid x1_)), .val (.int (own_eid x2_)), .val (.int (own_eid x3_)), .val (.ref x_6), .val (.ref x_6)] [(.int (1 : Int32))])) st10 ?_
    refine oend X10 hlk (v := some (.int (1 : Int32))) (fun h => by rw [hret] at h; cases h) (fun fs hr => retN X10 hx (t := .boolean) hret (by simp) (hb hby at_150) hr) (by decide) (by decide) ?_
    show own_Q_law Z _ _ _ _ _ _ _ _ _ h0 n0 _ T10.heap _
    rw [e10]
    exact ⟨rfl, N10, ((Keep.refl h0 []).trans K6 all0)⟩
  · rw [hs5]
    refine o_iload X4 hx (hb hby at_32) rfl ?_
    refine o_iload X4 hx (hb hby at_34) rfl ?_
    refine o_iload X4 hx (hb hby at_36) rfl ?_
    refine o_iload X4 hx (hb hby at_38) rfl ?_
    refine o_iload X4 hx (hb hby at_40) rfl ?_
    obtain ⟨_, _, ⟨T11, L11, kc11, n11⟩, -, X11, ⟨Lc11, hQ11, l11, y11, z11⟩, st11⟩ := Jvm.LawKit.callS X4 hx (y := yM6) hown (mvT hZ w5) (mvT hZ w6) (mvT hZ w2) (mvT hZ w7) (by decide) (backOf (W := 0) (rm_build_2 l Z a0 hw [] s_EID_CHARS cl_T z_CS v_FMT (own_eid x0_) (own_eid x1_) (own_eid x2_) (own_eid x3_) h0 n0 SB O0 (own_narsm (own_ok_0 (own_eid_ok x0_)) (own_ok_255 (own_eid_ok x0_))) (own_narsm (own_ok_0 (own_eid_ok x1_)) (own_ok_255 (own_eid_ok x1_))) (own_ok_255 (own_eid_ok x0_)) (own_ok_255 (own_eid_ok x1_))) hZ w7 w2 (by decide) (by decide)) (g := (mkF m 42 #[.val (.int n_), .val (.int x0_), .val (.int x1_), .val (.int x2_), .val (.int x3_), .val (.int (2 : Int32)), .val (.int (own_eid x0_)), .val (.int (own_eid x1_)), .val (.int (own_eid x2_)), .val (.int (own_eid x3_)), .unset, .unset] [(.int (own_eid x3_)), (.int (own_eid x2_)), (.int (own_eid x1_)), (.int (own_eid x0_)), (.int (2 : Int32))])) rfl (by rw [hml]; rfl) (argsL := [(.int (2 : Int32)), (.int (own_eid x0_)), (.int (own_eid x1_)), (.int (own_eid x2_)), (.int (own_eid x3_))]) (rest := []) (lenOf own_pd13 rfl) rfl (by show 2 * 0 + _ ≤ _; exact Nat.le_of_eq rfl) (hb hby at_42) (fun _ _ => ⟨rfl, e4, (by decide : 0 + 3 ≤ _), (by decide : 0 + 8 ≤ _)⟩)
    dsimp only [Pt.U, Pt.locs, Pt.cells, Pt.slots] at X11 l11 y11 z11 st11 hQ11
    subst l11 y11 z11
    obtain ⟨x_11, ba_11, kb_11, rfl, Nq11, K11, p11_0, p11_1, p11_2, p11_3, p11_4, p11_5⟩ := hQ11
    have N11 := Fr.app N4 Nq11
    have n0_x_11 : n0 ≤ x_11 := Nat.le_trans (Nat.le_trans (Nat.le_of_eq O0.1.symm) O0.2.1) (Nat.le_trans (Nat.le_refl _) p11_0)
    have n0_ba_11 : n0 ≤ ba_11 := Nat.le_trans (Nat.le_trans (Nat.le_of_eq O0.1.symm) O0.2.1) (Nat.le_trans (Nat.le_refl _) p11_1)
    refine ogo (S' := T11.setTop (mkF m 45 #[.val (.int n_), .val (.int x0_), .val (.int x1_), .val (.int x2_), .val (.int x3_), .val (.int (2 : Int32)), .val (.int (own_eid x0_)), .val (.int (own_eid x1_)), .val (.int (own_eid x2_)), .val (.int (own_eid x3_)), .unset, .unset] [(.ref x_11)])) st11 ?_
    refine o_astore X11 hx (l' := #[.val (.int n_), .val (.int x0_), .val (.int x1_), .val (.int x2_), .val (.int x3_), .val (.int (2 : Int32)), .val (.int (own_eid x0_)), .val (.int (own_eid x1_)), .val (.int (own_eid x2_)), .val (.int (own_eid x3_)), .val (.ref x_11), .unset]) (hb hby at_45) rfl rfl ?_
    refine o_aload X11 hx (hb hby at_47) rfl rfl ?_
    obtain ⟨_, _, ⟨T12, L12, kc12, n12⟩, -, X12, ⟨Lc12, hQ12, l12, y12, z12⟩, st12⟩ := Jvm.LawKit.callS X11 hx (y := yM16) hown (mvT hZ w38) (mvT hZ w39) (mvT hZ w40) (mvT hZ w41) (by decide) (backOf (W := 0) (rm_check_2 l Z a0 hw [] s_EID_CHARS cl_T z_CS v_FMT x_11 ba_11 kb_11 (own_eid x0_) (own_eid x1_) T11.heap n0 SB (O0.keep K11 all0) p11_2 p11_3 p11_4 p11_5 (own_eid_ok x0_) (own_eid_ok x1_) (own_ok_0 (own_eid_ok x0_)) (own_ok_0 (own_eid_ok x1_)) (own_ok_255 (own_eid_ok x0_)) (own_ok_255 (own_eid_ok x1_))) hZ w41 w40 (by decide) (by decide)) (g := (mkF m 49 #[.val (.int n_), .val (.int x0_), .val (.int x1_), .val (.int x2_), .val (.int x3_), .val (.int (2 : Int32)), .val (.int (own_eid x0_)), .val (.int (own_eid x1_)), .val (.int (own_eid x2_)), .val (.int (own_eid x3_)), .val (.ref x_11), .unset] [(.ref x_11)])) rfl (by rw [hml]; rfl) (argsL := [(.ref x_11)]) (rest := []) (lenOf own_pd14 rfl) rfl (by show 2 * 0 + _ ≤ _; exact Nat.le_of_eq rfl) (hb hby at_49) (fun _ _ => ⟨rfl, rfl, (by decide : 3 + 0 ≤ _), (by decide : 8 + 0 ≤ _)⟩)
    dsimp only [Pt.U, Pt.locs, Pt.cells, Pt.slots] at X12 l12 y12 z12 st12 hQ12
    subst l12 y12 z12
    obtain ⟨rfl, Nq12, e12⟩ := hQ12
    have N12 := Fr.app N11 Nq12
    refine ogo (S' := T12.setTop (mkF m 52 #[.val (.int n_), .val (.int x0_), .val (.int x1_), .val (.int x2_), .val (.int x3_), .val (.int (2 : Int32)), .val (.int (own_eid x0_)), .val (.int (own_eid x1_)), .val (.int (own_eid x2_)), .val (.int (own_eid x3_)), .val (.ref x_11), .unset] [(.ref x_11)])) st12 ?_
    refine o_astore X12 hx (l' := #[.val (.int n_), .val (.int x0_), .val (.int x1_), .val (.int x2_), .val (.int x3_), .val (.int (2 : Int32)), .val (.int (own_eid x0_)), .val (.int (own_eid x1_)), .val (.int (own_eid x2_)), .val (.int (own_eid x3_)), .val (.ref x_11), .val (.ref x_11)]) (hb hby at_52) rfl rfl ?_
    refine o_aload X12 hx (hb hby at_54) rfl rfl ?_
    refine o_ifnonnullYes X12 hx 61 (hb hby at_56) (by decide) (by decide) ?_
    refine o_aload X12 hx (hb hby at_61) rfl rfl ?_
    obtain ⟨cq13, kq13, q13a, q13b, q13c⟩ := isOf hZ e12 p11_2
    obtain ⟨_, _, ⟨T13, L13, kc13, n13⟩, -, X13, ⟨Lc13, hQ13, l13, y13, z13⟩, st13⟩ := X12.virtualBack hx (y := yM8) (z := yM8) hown (mvT hZ w84) (mvT hZ w53) (notFace_of_selects (args := #[]) (mvT hZ w55)) (mvT hZ w55) (mvT hZ w54) (by decide) (backOf (W := 0) (rm_len_2 l Z a0 hw [] s_EID_CHARS cl_T z_CS v_FMT x_11 ba_11 kb_11 [(.int (own_eid x0_).toInt8.toInt32), (.int (own_eid x1_).toInt8.toInt32)] T11.heap n0 SB (O0.keep K11 all0) p11_2 p11_3 p11_4 p11_5) hZ w56 w10 (by decide) (by decide)) q13a q13c (g := (mkF m 63 #[.val (.int n_), .val (.int x0_), .val (.int x1_), .val (.int x2_), .val (.int x3_), .val (.int (2 : Int32)), .val (.int (own_eid x0_)), .val (.int (own_eid x1_)), .val (.int (own_eid x2_)), .val (.int (own_eid x3_)), .val (.ref x_11), .val (.ref x_11)] [(.ref x_11)])) rfl (by rw [hml]; rfl) (Steps.refl _) (argsL := []) (rest := []) (lenOf own_pd10 rfl) rfl (by show 2 * 0 + _ ≤ _; exact Nat.le_of_eq rfl) (hb hby at_63) (fun _ _ => ⟨rfl, e12, (by decide : 3 + 0 ≤ _), (by decide : 8 + 0 ≤ _)⟩)
    dsimp only [Pt.U, Pt.locs, Pt.cells, Pt.slots] at X13 l13 y13 z13 st13 hQ13
    subst l13 y13 z13
    obtain ⟨rfl, Nq13, e13⟩ := hQ13
    have N13 := Fr.app N12 Nq13
    refine otr (S' := T13.setTop (mkF m 66 #[.val (.int n_), .val (.int x0_), .val (.int x1_), .val (.int x2_), .val (.int x3_), .val (.int (2 : Int32)), .val (.int (own_eid x0_)), .val (.int (own_eid x1_)), .val (.int (own_eid x2_)), .val (.int (own_eid x3_)), .val (.ref x_11), .val (.ref x_11)] [(.int (2 : Int32))])) st13 ?_
    refine o_iload X13 hx (hb hby at_66) rfl ?_
    refine o_icmpYes X13 hx 73 (hb hby at_68) (teq (by decide : (2 : Int32) = (2 : Int32))).1 (by decide) (by decide) ?_
    refine o_aload X13 hx (hb hby at_73) rfl rfl ?_
    refine o_iconst X13 hx (0 : Int32) (hb hby at_75) rfl ?_
    obtain ⟨cq14, kq14, q14a, q14b, q14c⟩ := isOf hZ e13 p11_2
    obtain ⟨_, _, ⟨T14, L14, kc14, n14⟩, -, X14, ⟨Lc14, hQ14, l14, y14, z14⟩, st14⟩ := X13.virtualBack hx (y := yM14) (z := yM14) hown (mvT hZ w85) (mvT hZ w63) (notFace_of_selects (args := #[]) (mvT hZ w65)) (mvT hZ w65) (mvT hZ w64) (by decide) (backOf (W := 0) (rm_cat_2_0 l Z a0 hw [] s_EID_CHARS cl_T z_CS v_FMT x_11 ba_11 kb_11 (own_eid x0_) (own_eid x1_) T11.heap n0 SB (O0.keep K11 all0) p11_2 p11_3 p11_4 p11_5 (own_ok_0 (own_eid_ok x0_)) (own_ok_255 (own_eid_ok x0_))) hZ w66 w10 (by decide) (by decide)) q14a q14c (g := (mkF m 76 #[.val (.int n_), .val (.int x0_), .val (.int x1_), .val (.int x2_), .val (.int x3_), .val (.int (2 : Int32)), .val (.int (own_eid x0_)), .val (.int (own_eid x1_)), .val (.int (own_eid x2_)), .val (.int (own_eid x3_)), .val (.ref x_11), .val (.ref x_11)] [(.int (0 : Int32)), (.ref x_11)])) rfl (by rw [hml]; rfl) (Steps.refl _) (argsL := [(.int (0 : Int32))]) (rest := []) (lenOf own_pd11 rfl) rfl (by show 2 * 0 + _ ≤ _; exact Nat.le_of_eq rfl) (hb hby at_76) (fun _ _ => ⟨rfl, e13, (by decide : 3 + 0 ≤ _), (by decide : 8 + 0 ≤ _)⟩)
    dsimp only [Pt.U, Pt.locs, Pt.cells, Pt.slots] at X14 l14 y14 z14 st14 hQ14
    subst l14 y14 z14
    obtain ⟨rfl, Nq14, e14⟩ := hQ14
    have N14 := Fr.app N13 Nq14
    refine otr (S' := T14.setTop (mkF m 79 #[.val (.int n_), .val (.int x0_), .val (.int x1_), .val (.int x2_), .val (.int x3_), .val (.int (2 : Int32)), .val (.int (own_eid x0_)), .val (.int (own_eid x1_)), .val (.int (own_eid x2_)), .val (.int (own_eid x3_)), .val (.ref x_11), .val (.ref x_11)] [(.int (own_eid x0_))])) st14 ?_
    refine o_iload X14 hx (hb hby at_79) rfl ?_
    refine o_icmpYes X14 hx 86 (hb hby at_81) (teq (rfl : (own_eid x0_) = (own_eid x0_))).1 (by decide) (by decide) ?_
    refine o_iload X14 hx (hb hby at_86) rfl ?_
    refine o_iconst X14 hx (2 : Int32) (hb hby at_88) rfl ?_
    refine o_icmpNo X14 hx (hb hby at_89) (flt (by decide : ¬ ((2 : Int32) < (2 : Int32)))).1 ?_
    refine o_aload X14 hx (hb hby at_92) rfl rfl ?_
    refine o_iconst X14 hx (1 : Int32) (hb hby at_94) rfl ?_
    obtain ⟨cq15, kq15, q15a, q15b, q15c⟩ := isOf hZ e14 p11_2
    obtain ⟨_, _, ⟨T15, L15, kc15, n15⟩, -, X15, ⟨Lc15, hQ15, l15, y15, z15⟩, st15⟩ := X14.virtualBack hx (y := yM14) (z := yM14) hown (mvT hZ w85) (mvT hZ w63) (notFace_of_selects (args := #[]) (mvT hZ w65)) (mvT hZ w65) (mvT hZ w64) (by decide) (backOf (W := 0) (rm_cat_2_1 l Z a0 hw [] s_EID_CHARS cl_T z_CS v_FMT x_11 ba_11 kb_11 (own_eid x0_) (own_eid x1_) T11.heap n0 SB (O0.keep K11 all0) p11_2 p11_3 p11_4 p11_5 (own_ok_0 (own_eid_ok x1_)) (own_ok_255 (own_eid_ok x1_))) hZ w66 w10 (by decide) (by decide)) q15a q15c (g := (mkF m 95 #[.val (.int n_), .val (.int x0_), .val (.int x1_), .val (.int x2_), .val (.int x3_), .val (.int (2 : Int32)), .val (.int (own_eid x0_)), .val (.int (own_eid x1_)), .val (.int (own_eid x2_)), .val (.int (own_eid x3_)), .val (.ref x_11), .val (.ref x_11)] [(.int (1 : Int32)), (.ref x_11)])) rfl (by rw [hml]; rfl) (Steps.refl _) (argsL := [(.int (1 : Int32))]) (rest := []) (lenOf own_pd11 rfl) rfl (by show 2 * 0 + _ ≤ _; exact Nat.le_of_eq rfl) (hb hby at_95) (fun _ _ => ⟨rfl, e14, (by decide : 3 + 0 ≤ _), (by decide : 8 + 0 ≤ _)⟩)
    dsimp only [Pt.U, Pt.locs, Pt.cells, Pt.slots] at X15 l15 y15 z15 st15 hQ15
    subst l15 y15 z15
    obtain ⟨rfl, Nq15, e15⟩ := hQ15
    have N15 := Fr.app N14 Nq15
    refine otr (S' := T15.setTop (mkF m 98 #[.val (.int n_), .val (.int x0_), .val (.int x1_), .val (.int x2_), .val (.int x3_), .val (.int (2 : Int32)), .val (.int (own_eid x0_)), .val (.int (own_eid x1_)), .val (.int (own_eid x2_)), .val (.int (own_eid x3_)), .val (.ref x_11), .val (.ref x_11)] [(.int (own_eid x1_))])) st15 ?_
    refine o_iload X15 hx (hb hby at_98) rfl ?_
    refine o_icmpYes X15 hx 105 (hb hby at_100) (teq (rfl : (own_eid x1_) = (own_eid x1_))).1 (by decide) (by decide) ?_
    refine o_iload X15 hx (hb hby at_105) rfl ?_
    refine o_iconst X15 hx (3 : Int32) (hb hby at_107) rfl ?_
    refine o_icmpYes X15 hx 124 (hb hby at_108) (tlt (by decide : (2 : Int32) < (3 : Int32))).1 (by decide) (by decide) ?_
    refine o_iload X15 hx (hb hby at_124) rfl ?_
    refine o_iconst X15 hx (4 : Int32) (hb hby at_126) rfl ?_
    refine o_icmpYes X15 hx 143 (hb hby at_127) (tlt (by decide : (2 : Int32) < (4 : Int32))).1 (by decide) (by decide) ?_
    refine o_aload X15 hx (hb hby at_143) rfl rfl ?_
    refine o_aload X15 hx (hb hby at_145) rfl rfl ?_
    obtain ⟨cq16, kq16, q16a, q16b, q16c⟩ := isOf hZ e15 p11_2
    obtain ⟨_, _, ⟨T16, L16, kc16, n16⟩, -, X16, ⟨Lc16, hQ16, l16, y16, z16⟩, st16⟩ := X15.virtualBack hx (y := yM17) (z := yM17) hown (mvT hZ w86) (mvT hZ w87) (notFace_of_selects (args := #[]) (mvT hZ w89)) (mvT hZ w89) (mvT hZ w88) (by decide) (backOf (W := 0) (rm_eqself l Z a0 hw []  x_11 T11.heap n0 (O0.keep K11 all0) ) hZ w90 w10 (by decide) (by decide)) q16a q16c (g := (mkF m 147 #[.val (.int n_), .val (.int x0_), .val (.int x1_), .val (.int x2_), .val (.int x3_), .val (.int (2 : Int32)), .val (.int (own_eid x0_)), .val (.int (own_eid x1_)), .val (.int (own_eid x2_)), .val (.int (own_eid x3_)), .val (.ref x_11), .val (.ref x_11)] [(.ref x_11), (.ref x_11)])) rfl (by rw [hml]; rfl) (Steps.refl _) (argsL := [(.ref x_11)]) (rest := []) (lenOf own_pd15 rfl) rfl (by show 2 * 0 + _ ≤ _; exact Nat.le_of_eq rfl) (hb hby at_147) (fun _ _ => ⟨rfl, e15, (by decide : 3 + 0 ≤ _), (by decide : 8 + 0 ≤ _)⟩)
    dsimp only [Pt.U, Pt.locs, Pt.cells, Pt.slots] at X16 l16 y16 z16 st16 hQ16
    subst l16 y16 z16
    obtain ⟨rfl, Nq16, e16⟩ := hQ16
    have N16 := Fr.app N15 Nq16
    refine otr (S' := T16.setTop (mkF m 150 #[.val (.int n_), .val (.int x0_), .val (.int x1_), .val (.int x2_), .val (.int x3_), .val (.int (2 : Int32)), .val (.int (own_eid x0_)), .val (.int (own_eid x1_)), .val (.int (own_eid x2_)), .val (.int (own_eid x3_)), .val (.ref x_11), .val (.ref x_11)] [(.int (1 : Int32))])) st16 ?_
    refine oend X16 hlk (v := some (.int (1 : Int32))) (fun h => by rw [hret] at h; cases h) (fun fs hr => retN X16 hx (t := .boolean) hret (by simp) (hb hby at_150) hr) (by decide) (by decide) ?_
    show own_Q_law Z _ _ _ _ _ _ _ _ _ h0 n0 _ T16.heap _
    rw [e16]
    exact ⟨rfl, N16, ((Keep.refl h0 []).trans K11 all0)⟩
  · rw [hs5]
    refine o_iload X4 hx (hb hby at_32) rfl ?_
    refine o_iload X4 hx (hb hby at_34) rfl ?_
    refine o_iload X4 hx (hb hby at_36) rfl ?_
    refine o_iload X4 hx (hb hby at_38) rfl ?_
    refine o_iload X4 hx (hb hby at_40) rfl ?_
    obtain ⟨_, _, ⟨T17, L17, kc17, n17⟩, -, X17, ⟨Lc17, hQ17, l17, y17, z17⟩, st17⟩ := Jvm.LawKit.callS X4 hx (y := yM6) hown (mvT hZ w5) (mvT hZ w6) (mvT hZ w2) (mvT hZ w7) (by decide) (backOf (W := 0) (rm_build_3 l Z a0 hw [] s_EID_CHARS cl_T z_CS v_FMT (own_eid x0_) (own_eid x1_) (own_eid x2_) (own_eid x3_) h0 n0 SB O0 (own_narsm (own_ok_0 (own_eid_ok x0_)) (own_ok_255 (own_eid_ok x0_))) (own_narsm (own_ok_0 (own_eid_ok x1_)) (own_ok_255 (own_eid_ok x1_))) (own_narsm (own_ok_0 (own_eid_ok x2_)) (own_ok_255 (own_eid_ok x2_))) (own_ok_255 (own_eid_ok x0_)) (own_ok_255 (own_eid_ok x1_)) (own_ok_255 (own_eid_ok x2_))) hZ w7 w2 (by decide) (by decide)) (g := (mkF m 42 #[.val (.int n_), .val (.int x0_), .val (.int x1_), .val (.int x2_), .val (.int x3_), .val (.int (3 : Int32)), .val (.int (own_eid x0_)), .val (.int (own_eid x1_)), .val (.int (own_eid x2_)), .val (.int (own_eid x3_)), .unset, .unset] [(.int (own_eid x3_)), (.int (own_eid x2_)), (.int (own_eid x1_)), (.int (own_eid x0_)), (.int (3 : Int32))])) rfl (by rw [hml]; rfl) (argsL := [(.int (3 : Int32)), (.int (own_eid x0_)), (.int (own_eid x1_)), (.int (own_eid x2_)), (.int (own_eid x3_))]) (rest := []) (lenOf own_pd13 rfl) rfl (by show 2 * 0 + _ ≤ _; exact Nat.le_of_eq rfl) (hb hby at_42) (fun _ _ => ⟨rfl, e4, (by decide : 0 + 3 ≤ _), (by decide : 0 + 10 ≤ _)⟩)
    dsimp only [Pt.U, Pt.locs, Pt.cells, Pt.slots] at X17 l17 y17 z17 st17 hQ17
    subst l17 y17 z17
    obtain ⟨x_17, ba_17, kb_17, rfl, Nq17, K17, p17_0, p17_1, p17_2, p17_3, p17_4, p17_5⟩ := hQ17
    have N17 := Fr.app N4 Nq17
    have n0_x_17 : n0 ≤ x_17 := Nat.le_trans (Nat.le_trans (Nat.le_of_eq O0.1.symm) O0.2.1) (Nat.le_trans (Nat.le_refl _) p17_0)
    have n0_ba_17 : n0 ≤ ba_17 := Nat.le_trans (Nat.le_trans (Nat.le_of_eq O0.1.symm) O0.2.1) (Nat.le_trans (Nat.le_refl _) p17_1)
    refine ogo (S' := T17.setTop (mkF m 45 #[.val (.int n_), .val (.int x0_), .val (.int x1_), .val (.int x2_), .val (.int x3_), .val (.int (3 : Int32)), .val (.int (own_eid x0_)), .val (.int (own_eid x1_)), .val (.int (own_eid x2_)), .val (.int (own_eid x3_)), .unset, .unset] [(.ref x_17)])) st17 ?_
    refine o_astore X17 hx (l' := #[.val (.int n_), .val (.int x0_), .val (.int x1_), .val (.int x2_), .val (.int x3_), .val (.int (3 : Int32)), .val (.int (own_eid x0_)), .val (.int (own_eid x1_)), .val (.int (own_eid x2_)), .val (.int (own_eid x3_)), .val (.ref x_17), .unset]) (hb hby at_45) rfl rfl ?_
    refine o_aload X17 hx (hb hby at_47) rfl rfl ?_
    obtain ⟨_, _, ⟨T18, L18, kc18, n18⟩, -, X18, ⟨Lc18, hQ18, l18, y18, z18⟩, st18⟩ := Jvm.LawKit.callS X17 hx (y := yM16) hown (mvT hZ w38) (mvT hZ w39) (mvT hZ w40) (mvT hZ w41) (by decide) (backOf (W := 0) (rm_check_3 l Z a0 hw [] s_EID_CHARS cl_T z_CS v_FMT x_17 ba_17 kb_17 (own_eid x0_) (own_eid x1_) (own_eid x2_) T17.heap n0 SB (O0.keep K17 all0) p17_2 p17_3 p17_4 p17_5 (own_eid_ok x0_) (own_eid_ok x1_) (own_eid_ok x2_) (own_ok_0 (own_eid_ok x0_)) (own_ok_0 (own_eid_ok x1_)) (own_ok_0 (own_eid_ok x2_)) (own_ok_255 (own_eid_ok x0_)) (own_ok_255 (own_eid_ok x1_)) (own_ok_255 (own_eid_ok x2_))) hZ w41 w40 (by decide) (by decide)) (g := (mkF m 49 #[.val (.int n_), .val (.int x0_), .val (.int x1_), .val (.int x2_), .val (.int x3_), .val (.int (3 : Int32)), .val (.int (own_eid x0_)), .val (.int (own_eid x1_)), .val (.int (own_eid x2_)), .val (.int (own_eid x3_)), .val (.ref x_17), .unset] [(.ref x_17)])) rfl (by rw [hml]; rfl) (argsL := [(.ref x_17)]) (rest := []) (lenOf own_pd14 rfl) rfl (by show 2 * 0 + _ ≤ _; exact Nat.le_of_eq rfl) (hb hby at_49) (fun _ _ => ⟨rfl, rfl, (by decide : 3 + 0 ≤ _), (by decide : 10 + 0 ≤ _)⟩)
    dsimp only [Pt.U, Pt.locs, Pt.cells, Pt.slots] at X18 l18 y18 z18 st18 hQ18
    subst l18 y18 z18
    obtain ⟨rfl, Nq18, e18⟩ := hQ18
    have N18 := Fr.app N17 Nq18
    refine ogo (S' := T18.setTop (mkF m 52 #[.val (.int n_), .val (.int x0_), .val (.int x1_), .val (.int x2_), .val (.int x3_), .val (.int (3 : Int32)), .val (.int (own_eid x0_)), .val (.int (own_eid x1_)), .val (.int (own_eid x2_)), .val (.int (own_eid x3_)), .val (.ref x_17), .unset] [(.ref x_17)])) st18 ?_
    refine o_astore X18 hx (l' := #[.val (.int n_), .val (.int x0_), .val (.int x1_), .val (.int x2_), .val (.int x3_), .val (.int (3 : Int32)), .val (.int (own_eid x0_)), .val (.int (own_eid x1_)), .val (.int (own_eid x2_)), .val (.int (own_eid x3_)), .val (.ref x_17), .val (.ref x_17)]) (hb hby at_52) rfl rfl ?_
    refine o_aload X18 hx (hb hby at_54) rfl rfl ?_
    refine o_ifnonnullYes X18 hx 61 (hb hby at_56) (by decide) (by decide) ?_
    refine o_aload X18 hx (hb hby at_61) rfl rfl ?_
    obtain ⟨cq19, kq19, q19a, q19b, q19c⟩ := isOf hZ e18 p17_2
    obtain ⟨_, _, ⟨T19, L19, kc19, n19⟩, -, X19, ⟨Lc19, hQ19, l19, y19, z19⟩, st19⟩ := X18.virtualBack hx (y := yM8) (z := yM8) hown (mvT hZ w84) (mvT hZ w53) (notFace_of_selects (args := #[]) (mvT hZ w55)) (mvT hZ w55) (mvT hZ w54) (by decide) (backOf (W := 0) (rm_len_3 l Z a0 hw [] s_EID_CHARS cl_T z_CS v_FMT x_17 ba_17 kb_17 [(.int (own_eid x0_).toInt8.toInt32), (.int (own_eid x1_).toInt8.toInt32), (.int (own_eid x2_).toInt8.toInt32)] T17.heap n0 SB (O0.keep K17 all0) p17_2 p17_3 p17_4 p17_5) hZ w56 w10 (by decide) (by decide)) q19a q19c (g := (mkF m 63 #[.val (.int n_), .val (.int x0_), .val (.int x1_), .val (.int x2_), .val (.int x3_), .val (.int (3 : Int32)), .val (.int (own_eid x0_)), .val (.int (own_eid x1_)), .val (.int (own_eid x2_)), .val (.int (own_eid x3_)), .val (.ref x_17), .val (.ref x_17)] [(.ref x_17)])) rfl (by rw [hml]; rfl) (Steps.refl _) (argsL := []) (rest := []) (lenOf own_pd10 rfl) rfl (by show 2 * 0 + _ ≤ _; exact Nat.le_of_eq rfl) (hb hby at_63) (fun _ _ => ⟨rfl, e18, (by decide : 3 + 0 ≤ _), (by decide : 10 + 0 ≤ _)⟩)
    dsimp only [Pt.U, Pt.locs, Pt.cells, Pt.slots] at X19 l19 y19 z19 st19 hQ19
    subst l19 y19 z19
    obtain ⟨rfl, Nq19, e19⟩ := hQ19
    have N19 := Fr.app N18 Nq19
    refine otr (S' := T19.setTop (mkF m 66 #[.val (.int n_), .val (.int x0_), .val (.int x1_), .val (.int x2_), .val (.int x3_), .val (.int (3 : Int32)), .val (.int (own_eid x0_)), .val (.int (own_eid x1_)), .val (.int (own_eid x2_)), .val (.int (own_eid x3_)), .val (.ref x_17), .val (.ref x_17)] [(.int (3 : Int32))])) st19 ?_
    refine o_iload X19 hx (hb hby at_66) rfl ?_
    refine o_icmpYes X19 hx 73 (hb hby at_68) (teq (by decide : (3 : Int32) = (3 : Int32))).1 (by decide) (by decide) ?_
    refine o_aload X19 hx (hb hby at_73) rfl rfl ?_
    refine o_iconst X19 hx (0 : Int32) (hb hby at_75) rfl ?_
    obtain ⟨cq20, kq20, q20a, q20b, q20c⟩ := isOf hZ e19 p17_2
    obtain ⟨_, _, ⟨T20, L20, kc20, n20⟩, -, X20, ⟨Lc20, hQ20, l20, y20, z20⟩, st20⟩ := X19.virtualBack hx (y := yM14) (z := yM14) hown (mvT hZ w85) (mvT hZ w63) (notFace_of_selects (args := #[]) (mvT hZ w65)) (mvT hZ w65) (mvT hZ w64) (by decide) (backOf (W := 0) (rm_cat_3_0 l Z a0 hw [] s_EID_CHARS cl_T z_CS v_FMT x_17 ba_17 kb_17 (own_eid x0_) (own_eid x1_) (own_eid x2_) T17.heap n0 SB (O0.keep K17 all0) p17_2 p17_3 p17_4 p17_5 (own_ok_0 (own_eid_ok x0_)) (own_ok_255 (own_eid_ok x0_))) hZ w66 w10 (by decide) (by decide)) q20a q20c (g := (mkF m 76 #[.val (.int n_), .val (.int x0_), .val (.int x1_), .val (.int x2_), .val (.int x3_), .val (.int (3 : Int32)), .val (.int (own_eid x0_)), .val (.int (own_eid x1_)), .val (.int (own_eid x2_)), .val (.int (own_eid x3_)), .val (.ref x_17), .val (.ref x_17)] [(.int (0 : Int32)), (.ref x_17)])) rfl (by rw [hml]; rfl) (Steps.refl _) (argsL := [(.int (0 : Int32))]) (rest := []) (lenOf own_pd11 rfl) rfl (by show 2 * 0 + _ ≤ _; exact Nat.le_of_eq rfl) (hb hby at_76) (fun _ _ => ⟨rfl, e19, (by decide : 3 + 0 ≤ _), (by decide : 10 + 0 ≤ _)⟩)
    dsimp only [Pt.U, Pt.locs, Pt.cells, Pt.slots] at X20 l20 y20 z20 st20 hQ20
    subst l20 y20 z20
    obtain ⟨rfl, Nq20, e20⟩ := hQ20
    have N20 := Fr.app N19 Nq20
    refine otr (S' := T20.setTop (mkF m 79 #[.val (.int n_), .val (.int x0_), .val (.int x1_), .val (.int x2_), .val (.int x3_), .val (.int (3 : Int32)), .val (.int (own_eid x0_)), .val (.int (own_eid x1_)), .val (.int (own_eid x2_)), .val (.int (own_eid x3_)), .val (.ref x_17), .val (.ref x_17)] [(.int (own_eid x0_))])) st20 ?_
    refine o_iload X20 hx (hb hby at_79) rfl ?_
    refine o_icmpYes X20 hx 86 (hb hby at_81) (teq (rfl : (own_eid x0_) = (own_eid x0_))).1 (by decide) (by decide) ?_
    refine o_iload X20 hx (hb hby at_86) rfl ?_
    refine o_iconst X20 hx (2 : Int32) (hb hby at_88) rfl ?_
    refine o_icmpNo X20 hx (hb hby at_89) (flt (by decide : ¬ ((3 : Int32) < (2 : Int32)))).1 ?_
    refine o_aload X20 hx (hb hby at_92) rfl rfl ?_
    refine o_iconst X20 hx (1 : Int32) (hb hby at_94) rfl ?_
    obtain ⟨cq21, kq21, q21a, q21b, q21c⟩ := isOf hZ e20 p17_2
    obtain ⟨_, _, ⟨T21, L21, kc21, n21⟩, -, X21, ⟨Lc21, hQ21, l21, y21, z21⟩, st21⟩ := X20.virtualBack hx (y := yM14) (z := yM14) hown (mvT hZ w85) (mvT hZ w63) (notFace_of_selects (args := #[]) (mvT hZ w65)) (mvT hZ w65) (mvT hZ w64) (by decide) (backOf (W := 0) (rm_cat_3_1 l Z a0 hw [] s_EID_CHARS cl_T z_CS v_FMT x_17 ba_17 kb_17 (own_eid x0_) (own_eid x1_) (own_eid x2_) T17.heap n0 SB (O0.keep K17 all0) p17_2 p17_3 p17_4 p17_5 (own_ok_0 (own_eid_ok x1_)) (own_ok_255 (own_eid_ok x1_))) hZ w66 w10 (by decide) (by decide)) q21a q21c (g := (mkF m 95 #[.val (.int n_), .val (.int x0_), .val (.int x1_), .val (.int x2_), .val (.int x3_), .val (.int (3 : Int32)), .val (.int (own_eid x0_)), .val (.int (own_eid x1_)), .val (.int (own_eid x2_)), .val (.int (own_eid x3_)), .val (.ref x_17), .val (.ref x_17)] [(.int (1 : Int32)), (.ref x_17)])) rfl (by rw [hml]; rfl) (Steps.refl _) (argsL := [(.int (1 : Int32))]) (rest := []) (lenOf own_pd11 rfl) rfl (by show 2 * 0 + _ ≤ _; exact Nat.le_of_eq rfl) (hb hby at_95) (fun _ _ => ⟨rfl, e20, (by decide : 3 + 0 ≤ _), (by decide : 10 + 0 ≤ _)⟩)
    dsimp only [Pt.U, Pt.locs, Pt.cells, Pt.slots] at X21 l21 y21 z21 st21 hQ21
    subst l21 y21 z21
    obtain ⟨rfl, Nq21, e21⟩ := hQ21
    have N21 := Fr.app N20 Nq21
    refine otr (S' := T21.setTop (mkF m 98 #[.val (.int n_), .val (.int x0_), .val (.int x1_), .val (.int x2_), .val (.int x3_), .val (.int (3 : Int32)), .val (.int (own_eid x0_)), .val (.int (own_eid x1_)), .val (.int (own_eid x2_)), .val (.int (own_eid x3_)), .val (.ref x_17), .val (.ref x_17)] [(.int (own_eid x1_))])) st21 ?_
    refine o_iload X21 hx (hb hby at_98) rfl ?_
    refine o_icmpYes X21 hx 105 (hb hby at_100) (teq (rfl : (own_eid x1_) = (own_eid x1_))).1 (by decide) (by decide) ?_
    refine o_iload X21 hx (hb hby at_105) rfl ?_
    refine o_iconst X21 hx (3 : Int32) (hb hby at_107) rfl ?_
    refine o_icmpNo X21 hx (hb hby at_108) (flt (by decide : ¬ ((3 : Int32) < (3 : Int32)))).1 ?_
    refine o_aload X21 hx (hb hby at_111) rfl rfl ?_
    refine o_iconst X21 hx (2 : Int32) (hb hby at_113) rfl ?_
    obtain ⟨cq22, kq22, q22a, q22b, q22c⟩ := isOf hZ e21 p17_2
    obtain ⟨_, _, ⟨T22, L22, kc22, n22⟩, -, X22, ⟨Lc22, hQ22, l22, y22, z22⟩, st22⟩ := X21.virtualBack hx (y := yM14) (z := yM14) hown (mvT hZ w85) (mvT hZ w63) (notFace_of_selects (args := #[]) (mvT hZ w65)) (mvT hZ w65) (mvT hZ w64) (by decide) (backOf (W := 0) (rm_cat_3_2 l Z a0 hw [] s_EID_CHARS cl_T z_CS v_FMT x_17 ba_17 kb_17 (own_eid x0_) (own_eid x1_) (own_eid x2_) T17.heap n0 SB (O0.keep K17 all0) p17_2 p17_3 p17_4 p17_5 (own_ok_0 (own_eid_ok x2_)) (own_ok_255 (own_eid_ok x2_))) hZ w66 w10 (by decide) (by decide)) q22a q22c (g := (mkF m 114 #[.val (.int n_), .val (.int x0_), .val (.int x1_), .val (.int x2_), .val (.int x3_), .val (.int (3 : Int32)), .val (.int (own_eid x0_)), .val (.int (own_eid x1_)), .val (.int (own_eid x2_)), .val (.int (own_eid x3_)), .val (.ref x_17), .val (.ref x_17)] [(.int (2 : Int32)), (.ref x_17)])) rfl (by rw [hml]; rfl) (Steps.refl _) (argsL := [(.int (2 : Int32))]) (rest := []) (lenOf own_pd11 rfl) rfl (by show 2 * 0 + _ ≤ _; exact Nat.le_of_eq rfl) (hb hby at_114) (fun _ _ => ⟨rfl, e21, (by decide : 3 + 0 ≤ _), (by decide : 10 + 0 ≤ _)⟩)
    dsimp only [Pt.U, Pt.locs, Pt.cells, Pt.slots] at X22 l22 y22 z22 st22 hQ22
    subst l22 y22 z22
    obtain ⟨rfl, Nq22, e22⟩ := hQ22
    have N22 := Fr.app N21 Nq22
    refine otr (S' := T22.setTop (mkF m 117 #[.val (.int n_), .val (.int x0_), .val (.int x1_), .val (.int x2_), .val (.int x3_), .val (.int (3 : Int32)), .val (.int (own_eid x0_)), .val (.int (own_eid x1_)), .val (.int (own_eid x2_)), .val (.int (own_eid x3_)), .val (.ref x_17), .val (.ref x_17)] [(.int (own_eid x2_))])) st22 ?_
    refine o_iload X22 hx (hb hby at_117) rfl ?_
    refine o_icmpYes X22 hx 124 (hb hby at_119) (teq (rfl : (own_eid x2_) = (own_eid x2_))).1 (by decide) (by decide) ?_
    refine o_iload X22 hx (hb hby at_124) rfl ?_
    refine o_iconst X22 hx (4 : Int32) (hb hby at_126) rfl ?_
    refine o_icmpYes X22 hx 143 (hb hby at_127) (tlt (by decide : (3 : Int32) < (4 : Int32))).1 (by decide) (by decide) ?_
    refine o_aload X22 hx (hb hby at_143) rfl rfl ?_
    refine o_aload X22 hx (hb hby at_145) rfl rfl ?_
    obtain ⟨cq23, kq23, q23a, q23b, q23c⟩ := isOf hZ e22 p17_2
    obtain ⟨_, _, ⟨T23, L23, kc23, n23⟩, -, X23, ⟨Lc23, hQ23, l23, y23, z23⟩, st23⟩ := X22.virtualBack hx (y := yM17) (z := yM17) hown (mvT hZ w86) (mvT hZ w87) (notFace_of_selects (args := #[]) (mvT hZ w89)) (mvT hZ w89) (mvT hZ w88) (by decide) (backOf (W := 0) (rm_eqself l Z a0 hw []  x_17 T17.heap n0 (O0.keep K17 all0) ) hZ w90 w10 (by decide) (by decide)) q23a q23c (g := (mkF m 147 #[.val (.int n_), .val (.int x0_), .val (.int x1_), .val (.int x2_), .val (.int x3_), .val (.int (3 : Int32)), .val (.int (own_eid x0_)), .val (.int (own_eid x1_)), .val (.int (own_eid x2_)), .val (.int (own_eid x3_)), .val (.ref x_17), .val (.ref x_17)] [(.ref x_17), (.ref x_17)])) rfl (by rw [hml]; rfl) (Steps.refl _) (argsL := [(.ref x_17)]) (rest := []) (lenOf own_pd15 rfl) rfl (by show 2 * 0 + _ ≤ _; exact Nat.le_of_eq rfl) (hb hby at_147) (fun _ _ => ⟨rfl, e22, (by decide : 3 + 0 ≤ _), (by decide : 10 + 0 ≤ _)⟩)
    dsimp only [Pt.U, Pt.locs, Pt.cells, Pt.slots] at X23 l23 y23 z23 st23 hQ23
    subst l23 y23 z23
    obtain ⟨rfl, Nq23, e23⟩ := hQ23
    have N23 := Fr.app N22 Nq23
    refine otr (S' := T23.setTop (mkF m 150 #[.val (.int n_), .val (.int x0_), .val (.int x1_), .val (.int x2_), .val (.int x3_), .val (.int (3 : Int32)), .val (.int (own_eid x0_)), .val (.int (own_eid x1_)), .val (.int (own_eid x2_)), .val (.int (own_eid x3_)), .val (.ref x_17), .val (.ref x_17)] [(.int (1 : Int32))])) st23 ?_
    refine oend X23 hlk (v := some (.int (1 : Int32))) (fun h => by rw [hret] at h; cases h) (fun fs hr => retN X23 hx (t := .boolean) hret (by simp) (hb hby at_150) hr) (by decide) (by decide) ?_
    show own_Q_law Z _ _ _ _ _ _ _ _ _ h0 n0 _ T23.heap _
    rw [e23]
    exact ⟨rfl, N23, ((Keep.refl h0 []).trans K17 all0)⟩
  · rw [hs5]
    refine o_iload X4 hx (hb hby at_32) rfl ?_
    refine o_iload X4 hx (hb hby at_34) rfl ?_
    refine o_iload X4 hx (hb hby at_36) rfl ?_
    refine o_iload X4 hx (hb hby at_38) rfl ?_
    refine o_iload X4 hx (hb hby at_40) rfl ?_
    obtain ⟨_, _, ⟨T24, L24, kc24, n24⟩, -, X24, ⟨Lc24, hQ24, l24, y24, z24⟩, st24⟩ := Jvm.LawKit.callS X4 hx (y := yM6) hown (mvT hZ w5) (mvT hZ w6) (mvT hZ w2) (mvT hZ w7) (by decide) (backOf (W := 0) (rm_build_4 l Z a0 hw [] s_EID_CHARS cl_T z_CS v_FMT (own_eid x0_) (own_eid x1_) (own_eid x2_) (own_eid x3_) h0 n0 SB O0 (own_narsm (own_ok_0 (own_eid_ok x0_)) (own_ok_255 (own_eid_ok x0_))) (own_narsm (own_ok_0 (own_eid_ok x1_)) (own_ok_255 (own_eid_ok x1_))) (own_narsm (own_ok_0 (own_eid_ok x2_)) (own_ok_255 (own_eid_ok x2_))) (own_narsm (own_ok_0 (own_eid_ok x3_)) (own_ok_255 (own_eid_ok x3_))) (own_ok_255 (own_eid_ok x0_)) (own_ok_255 (own_eid_ok x1_)) (own_ok_255 (own_eid_ok x2_)) (own_ok_255 (own_eid_ok x3_))) hZ w7 w2 (by decide) (by decide)) (g := (mkF m 42 #[.val (.int n_), .val (.int x0_), .val (.int x1_), .val (.int x2_), .val (.int x3_), .val (.int (4 : Int32)), .val (.int (own_eid x0_)), .val (.int (own_eid x1_)), .val (.int (own_eid x2_)), .val (.int (own_eid x3_)), .unset, .unset] [(.int (own_eid x3_)), (.int (own_eid x2_)), (.int (own_eid x1_)), (.int (own_eid x0_)), (.int (4 : Int32))])) rfl (by rw [hml]; rfl) (argsL := [(.int (4 : Int32)), (.int (own_eid x0_)), (.int (own_eid x1_)), (.int (own_eid x2_)), (.int (own_eid x3_))]) (rest := []) (lenOf own_pd13 rfl) rfl (by show 2 * 0 + _ ≤ _; exact Nat.le_of_eq rfl) (hb hby at_42) (fun _ _ => ⟨rfl, e4, (by decide : 0 + 3 ≤ _), (by decide : 0 + 12 ≤ _)⟩)
    dsimp only [Pt.U, Pt.locs, Pt.cells, Pt.slots] at X24 l24 y24 z24 st24 hQ24
    subst l24 y24 z24
    obtain ⟨x_24, ba_24, kb_24, rfl, Nq24, K24, p24_0, p24_1, p24_2, p24_3, p24_4, p24_5⟩ := hQ24
    have N24 := Fr.app N4 Nq24
    have n0_x_24 : n0 ≤ x_24 := Nat.le_trans (Nat.le_trans (Nat.le_of_eq O0.1.symm) O0.2.1) (Nat.le_trans (Nat.le_refl _) p24_0)
    have n0_ba_24 : n0 ≤ ba_24 := Nat.le_trans (Nat.le_trans (Nat.le_of_eq O0.1.symm) O0.2.1) (Nat.le_trans (Nat.le_refl _) p24_1)
    refine ogo (S' := T24.setTop (mkF m 45 #[.val (.int n_), .val (.int x0_), .val (.int x1_), .val (.int x2_), .val (.int x3_), .val (.int (4 : Int32)), .val (.int (own_eid x0_)), .val (.int (own_eid x1_)), .val (.int (own_eid x2_)), .val (.int (own_eid x3_)), .unset, .unset] [(.ref x_24)])) st24 ?_
    refine o_astore X24 hx (l' := #[.val (.int n_), .val (.int x0_), .val (.int x1_), .val (.int x2_), .val (.int x3_), .val (.int (4 : Int32)), .val (.int (own_eid x0_)), .val (.int (own_eid x1_)), .val (.int (own_eid x2_)), .val (.int (own_eid x3_)), .val (.ref x_24), .unset]) (hb hby at_45) rfl rfl ?_
    refine o_aload X24 hx (hb hby at_47) rfl rfl ?_
    obtain ⟨_, _, ⟨T25, L25, kc25, n25⟩, -, X25, ⟨Lc25, hQ25, l25, y25, z25⟩, st25⟩ := Jvm.LawKit.callS X24 hx (y := yM16) hown (mvT hZ w38) (mvT hZ w39) (mvT hZ w40) (mvT hZ w41) (by decide) (backOf (W := 0) (rm_check_4 l Z a0 hw [] s_EID_CHARS cl_T z_CS v_FMT x_24 ba_24 kb_24 (own_eid x0_) (own_eid x1_) (own_eid x2_) (own_eid x3_) T24.heap n0 SB (O0.keep K24 all0) p24_2 p24_3 p24_4 p24_5 (own_eid_ok x0_) (own_eid_ok x1_) (own_eid_ok x2_) (own_eid_ok x3_) (own_ok_0 (own_eid_ok x0_)) (own_ok_0 (own_eid_ok x1_)) (own_ok_0 (own_eid_ok x2_)) (own_ok_0 (own_eid_ok x3_)) (own_ok_255 (own_eid_ok x0_)) (own_ok_255 (own_eid_ok x1_)) (own_ok_255 (own_eid_ok x2_)) (own_ok_255 (own_eid_ok x3_))) hZ w41 w40 (by decide) (by decide)) (g := (mkF m 49 #[.val (.int n_), .val (.int x0_), .val (.int x1_), .val (.int x2_), .val (.int x3_), .val (.int (4 : Int32)), .val (.int (own_eid x0_)), .val (.int (own_eid x1_)), .val (.int (own_eid x2_)), .val (.int (own_eid x3_)), .val (.ref x_24), .unset] [(.ref x_24)])) rfl (by rw [hml]; rfl) (argsL := [(.ref x_24)]) (rest := []) (lenOf own_pd14 rfl) rfl (by show 2 * 0 + _ ≤ _; exact Nat.le_of_eq rfl) (hb hby at_49) (fun _ _ => ⟨rfl, rfl, (by decide : 3 + 0 ≤ _), (by decide : 12 + 0 ≤ _)⟩)
    dsimp only [Pt.U, Pt.locs, Pt.cells, Pt.slots] at X25 l25 y25 z25 st25 hQ25
    subst l25 y25 z25
    obtain ⟨rfl, Nq25, e25⟩ := hQ25
    have N25 := Fr.app N24 Nq25
    refine ogo (S' := T25.setTop (mkF m 52 #[.val (.int n_), .val (.int x0_), .val (.int x1_), .val (.int x2_), .val (.int x3_), .val (.int (4 : Int32)), .val (.int (own_eid x0_)), .val (.int (own_eid x1_)), .val (.int (own_eid x2_)), .val (.int (own_eid x3_)), .val (.ref x_24), .unset] [(.ref x_24)])) st25 ?_
    refine o_astore X25 hx (l' := #[.val (.int n_), .val (.int x0_), .val (.int x1_), .val (.int x2_), .val (.int x3_), .val (.int (4 : Int32)), .val (.int (own_eid x0_)), .val (.int (own_eid x1_)), .val (.int (own_eid x2_)), .val (.int (own_eid x3_)), .val (.ref x_24), .val (.ref x_24)]) (hb hby at_52) rfl rfl ?_
    refine o_aload X25 hx (hb hby at_54) rfl rfl ?_
    refine o_ifnonnullYes X25 hx 61 (hb hby at_56) (by decide) (by decide) ?_
    refine o_aload X25 hx (hb hby at_61) rfl rfl ?_
    obtain ⟨cq26, kq26, q26a, q26b, q26c⟩ := isOf hZ e25 p24_2
    obtain ⟨_, _, ⟨T26, L26, kc26, n26⟩, -, X26, ⟨Lc26, hQ26, l26, y26, z26⟩, st26⟩ := X25.virtualBack hx (y := yM8) (z := yM8) hown (mvT hZ w84) (mvT hZ w53) (notFace_of_selects (args := #[]) (mvT hZ w55)) (mvT hZ w55) (mvT hZ w54) (by decide) (backOf (W := 0) (rm_len_4 l Z a0 hw [] s_EID_CHARS cl_T z_CS v_FMT x_24 ba_24 kb_24 [(.int (own_eid x0_).toInt8.toInt32), (.int (own_eid x1_).toInt8.toInt32), (.int (own_eid x2_).toInt8.toInt32), (.int (own_eid x3_).toInt8.toInt32)] T24.heap n0 SB (O0.keep K24 all0) p24_2 p24_3 p24_4 p24_5) hZ w56 w10 (by decide) (by decide)) q26a q26c (g := (mkF m 63 #[.val (.int n_), .val (.int x0_), .val (.int x1_), .val (.int x2_), .val (.int x3_), .val (.int (4 : Int32)), .val (.int (own_eid x0_)), .val (.int (own_eid x1_)), .val (.int (own_eid x2_)), .val (.int (own_eid x3_)), .val (.ref x_24), .val (.ref x_24)] [(.ref x_24)])) rfl (by rw [hml]; rfl) (Steps.refl _) (argsL := []) (rest := []) (lenOf own_pd10 rfl) rfl (by show 2 * 0 + _ ≤ _; exact Nat.le_of_eq rfl) (hb hby at_63) (fun _ _ => ⟨rfl, e25, (by decide : 3 + 0 ≤ _), (by decide : 12 + 0 ≤ _)⟩)
    dsimp only [Pt.U, Pt.locs, Pt.cells, Pt.slots] at X26 l26 y26 z26 st26 hQ26
    subst l26 y26 z26
    obtain ⟨rfl, Nq26, e26⟩ := hQ26
    have N26 := Fr.app N25 Nq26
    refine otr (S' := T26.setTop (mkF m 66 #[.val (.int n_), .val (.int x0_), .val (.int x1_), .val (.int x2_), .val (.int x3_), .val (.int (4 : Int32)), .val (.int (own_eid x0_)), .val (.int (own_eid x1_)), .val (.int (own_eid x2_)), .val (.int (own_eid x3_)), .val (.ref x_24), .val (.ref x_24)] [(.int (4 : Int32))])) st26 ?_
    refine o_iload X26 hx (hb hby at_66) rfl ?_
    refine o_icmpYes X26 hx 73 (hb hby at_68) (teq (by decide : (4 : Int32) = (4 : Int32))).1 (by decide) (by decide) ?_
    refine o_aload X26 hx (hb hby at_73) rfl rfl ?_
    refine o_iconst X26 hx (0 : Int32) (hb hby at_75) rfl ?_
    obtain ⟨cq27, kq27, q27a, q27b, q27c⟩ := isOf hZ e26 p24_2
    obtain ⟨_, _, ⟨T27, L27, kc27, n27⟩, -, X27, ⟨Lc27, hQ27, l27, y27, z27⟩, st27⟩ := X26.virtualBack hx (y := yM14) (z := yM14) hown (mvT hZ w85) (mvT hZ w63) (notFace_of_selects (args := #[]) (mvT hZ w65)) (mvT hZ w65) (mvT hZ w64) (by decide) (backOf (W := 0) (rm_cat_4_0 l Z a0 hw [] s_EID_CHARS cl_T z_CS v_FMT x_24 ba_24 kb_24 (own_eid x0_) (own_eid x1_) (own_eid x2_) (own_eid x3_) T24.heap n0 SB (O0.keep K24 all0) p24_2 p24_3 p24_4 p24_5 (own_ok_0 (own_eid_ok x0_)) (own_ok_255 (own_eid_ok x0_))) hZ w66 w10 (by decide) (by decide)) q27a q27c (g := (mkF m 76 #[.val (.int n_), .val (.int x0_), .val (.int x1_), .val (.int x2_), .val (.int x3_), .val (.int (4 : Int32)), .val (.int (own_eid x0_)), .val (.int (own_eid x1_)), .val (.int (own_eid x2_)), .val (.int (own_eid x3_)), .val (.ref x_24), .val (.ref x_24)] [(.int (0 : Int32)), (.ref x_24)])) rfl (by rw [hml]; rfl) (Steps.refl _) (argsL := [(.int (0 : Int32))]) (rest := []) (lenOf own_pd11 rfl) rfl (by show 2 * 0 + _ ≤ _; exact Nat.le_of_eq rfl) (hb hby at_76) (fun _ _ => ⟨rfl, e26, (by decide : 3 + 0 ≤ _), (by decide : 12 + 0 ≤ _)⟩)
    dsimp only [Pt.U, Pt.locs, Pt.cells, Pt.slots] at X27 l27 y27 z27 st27 hQ27
    subst l27 y27 z27
    obtain ⟨rfl, Nq27, e27⟩ := hQ27
    have N27 := Fr.app N26 Nq27
    refine otr (S' := T27.setTop (mkF m 79 #[.val (.int n_), .val (.int x0_), .val (.int x1_), .val (.int x2_), .val (.int x3_), .val (.int (4 : Int32)), .val (.int (own_eid x0_)), .val (.int (own_eid x1_)), .val (.int (own_eid x2_)), .val (.int (own_eid x3_)), .val (.ref x_24), .val (.ref x_24)] [(.int (own_eid x0_))])) st27 ?_
    refine o_iload X27 hx (hb hby at_79) rfl ?_
    refine o_icmpYes X27 hx 86 (hb hby at_81) (teq (rfl : (own_eid x0_) = (own_eid x0_))).1 (by decide) (by decide) ?_
    refine o_iload X27 hx (hb hby at_86) rfl ?_
    refine o_iconst X27 hx (2 : Int32) (hb hby at_88) rfl ?_
    refine o_icmpNo X27 hx (hb hby at_89) (flt (by decide : ¬ ((4 : Int32) < (2 : Int32)))).1 ?_
    refine o_aload X27 hx (hb hby at_92) rfl rfl ?_
    refine o_iconst X27 hx (1 : Int32) (hb hby at_94) rfl ?_
    obtain ⟨cq28, kq28, q28a, q28b, q28c⟩ := isOf hZ e27 p24_2
    obtain ⟨_, _, ⟨T28, L28, kc28, n28⟩, -, X28, ⟨Lc28, hQ28, l28, y28, z28⟩, st28⟩ := X27.virtualBack hx (y := yM14) (z := yM14) hown (mvT hZ w85) (mvT hZ w63) (notFace_of_selects (args := #[]) (mvT hZ w65)) (mvT hZ w65) (mvT hZ w64) (by decide) (backOf (W := 0) (rm_cat_4_1 l Z a0 hw [] s_EID_CHARS cl_T z_CS v_FMT x_24 ba_24 kb_24 (own_eid x0_) (own_eid x1_) (own_eid x2_) (own_eid x3_) T24.heap n0 SB (O0.keep K24 all0) p24_2 p24_3 p24_4 p24_5 (own_ok_0 (own_eid_ok x1_)) (own_ok_255 (own_eid_ok x1_))) hZ w66 w10 (by decide) (by decide)) q28a q28c (g := (mkF m 95 #[.val (.int n_), .val (.int x0_), .val (.int x1_), .val (.int x2_), .val (.int x3_), .val (.int (4 : Int32)), .val (.int (own_eid x0_)), .val (.int (own_eid x1_)), .val (.int (own_eid x2_)), .val (.int (own_eid x3_)), .val (.ref x_24), .val (.ref x_24)] [(.int (1 : Int32)), (.ref x_24)])) rfl (by rw [hml]; rfl) (Steps.refl _) (argsL := [(.int (1 : Int32))]) (rest := []) (lenOf own_pd11 rfl) rfl (by show 2 * 0 + _ ≤ _; exact Nat.le_of_eq rfl) (hb hby at_95) (fun _ _ => ⟨rfl, e27, (by decide : 3 + 0 ≤ _), (by decide : 12 + 0 ≤ _)⟩)
    dsimp only [Pt.U, Pt.locs, Pt.cells, Pt.slots] at X28 l28 y28 z28 st28 hQ28
    subst l28 y28 z28
    obtain ⟨rfl, Nq28, e28⟩ := hQ28
    have N28 := Fr.app N27 Nq28
    refine otr (S' := T28.setTop (mkF m 98 #[.val (.int n_), .val (.int x0_), .val (.int x1_), .val (.int x2_), .val (.int x3_), .val (.int (4 : Int32)), .val (.int (own_eid x0_)), .val (.int (own_eid x1_)), .val (.int (own_eid x2_)), .val (.int (own_eid x3_)), .val (.ref x_24), .val (.ref x_24)] [(.int (own_eid x1_))])) st28 ?_
    refine o_iload X28 hx (hb hby at_98) rfl ?_
    refine o_icmpYes X28 hx 105 (hb hby at_100) (teq (rfl : (own_eid x1_) = (own_eid x1_))).1 (by decide) (by decide) ?_
    refine o_iload X28 hx (hb hby at_105) rfl ?_
    refine o_iconst X28 hx (3 : Int32) (hb hby at_107) rfl ?_
    refine o_icmpNo X28 hx (hb hby at_108) (flt (by decide : ¬ ((4 : Int32) < (3 : Int32)))).1 ?_
    refine o_aload X28 hx (hb hby at_111) rfl rfl ?_
    refine o_iconst X28 hx (2 : Int32) (hb hby at_113) rfl ?_
    obtain ⟨cq29, kq29, q29a, q29b, q29c⟩ := isOf hZ e28 p24_2
    obtain ⟨_, _, ⟨T29, L29, kc29, n29⟩, -, X29, ⟨Lc29, hQ29, l29, y29, z29⟩, st29⟩ := X28.virtualBack hx (y := yM14) (z := yM14) hown (mvT hZ w85) (mvT hZ w63) (notFace_of_selects (args := #[]) (mvT hZ w65)) (mvT hZ w65) (mvT hZ w64) (by decide) (backOf (W := 0) (rm_cat_4_2 l Z a0 hw [] s_EID_CHARS cl_T z_CS v_FMT x_24 ba_24 kb_24 (own_eid x0_) (own_eid x1_) (own_eid x2_) (own_eid x3_) T24.heap n0 SB (O0.keep K24 all0) p24_2 p24_3 p24_4 p24_5 (own_ok_0 (own_eid_ok x2_)) (own_ok_255 (own_eid_ok x2_))) hZ w66 w10 (by decide) (by decide)) q29a q29c (g := (mkF m 114 #[.val (.int n_), .val (.int x0_), .val (.int x1_), .val (.int x2_), .val (.int x3_), .val (.int (4 : Int32)), .val (.int (own_eid x0_)), .val (.int (own_eid x1_)), .val (.int (own_eid x2_)), .val (.int (own_eid x3_)), .val (.ref x_24), .val (.ref x_24)] [(.int (2 : Int32)), (.ref x_24)])) rfl (by rw [hml]; rfl) (Steps.refl _) (argsL := [(.int (2 : Int32))]) (rest := []) (lenOf own_pd11 rfl) rfl (by show 2 * 0 + _ ≤ _; exact Nat.le_of_eq rfl) (hb hby at_114) (fun _ _ => ⟨rfl, e28, (by decide : 3 + 0 ≤ _), (by decide : 12 + 0 ≤ _)⟩)
    dsimp only [Pt.U, Pt.locs, Pt.cells, Pt.slots] at X29 l29 y29 z29 st29 hQ29
    subst l29 y29 z29
    obtain ⟨rfl, Nq29, e29⟩ := hQ29
    have N29 := Fr.app N28 Nq29
    refine otr (S' := T29.setTop (mkF m 117 #[.val (.int n_), .val (.int x0_), .val (.int x1_), .val (.int x2_), .val (.int x3_), .val (.int (4 : Int32)), .val (.int (own_eid x0_)), .val (.int (own_eid x1_)), .val (.int (own_eid x2_)), .val (.int (own_eid x3_)), .val (.ref x_24), .val (.ref x_24)] [(.int (own_eid x2_))])) st29 ?_
    refine o_iload X29 hx (hb hby at_117) rfl ?_
    refine o_icmpYes X29 hx 124 (hb hby at_119) (teq (rfl : (own_eid x2_) = (own_eid x2_))).1 (by decide) (by decide) ?_
    refine o_iload X29 hx (hb hby at_124) rfl ?_
    refine o_iconst X29 hx (4 : Int32) (hb hby at_126) rfl ?_
    refine o_icmpNo X29 hx (hb hby at_127) (flt (by decide : ¬ ((4 : Int32) < (4 : Int32)))).1 ?_
    refine o_aload X29 hx (hb hby at_130) rfl rfl ?_
    refine o_iconst X29 hx (3 : Int32) (hb hby at_132) rfl ?_
    obtain ⟨cq30, kq30, q30a, q30b, q30c⟩ := isOf hZ e29 p24_2
    obtain ⟨_, _, ⟨T30, L30, kc30, n30⟩, -, X30, ⟨Lc30, hQ30, l30, y30, z30⟩, st30⟩ := X29.virtualBack hx (y := yM14) (z := yM14) hown (mvT hZ w85) (mvT hZ w63) (notFace_of_selects (args := #[]) (mvT hZ w65)) (mvT hZ w65) (mvT hZ w64) (by decide) (backOf (W := 0) (rm_cat_4_3 l Z a0 hw [] s_EID_CHARS cl_T z_CS v_FMT x_24 ba_24 kb_24 (own_eid x0_) (own_eid x1_) (own_eid x2_) (own_eid x3_) T24.heap n0 SB (O0.keep K24 all0) p24_2 p24_3 p24_4 p24_5 (own_ok_0 (own_eid_ok x3_)) (own_ok_255 (own_eid_ok x3_))) hZ w66 w10 (by decide) (by decide)) q30a q30c (g := (mkF m 133 #[.val (.int n_), .val (.int x0_), .val (.int x1_), .val (.int x2_), .val (.int x3_), .val (.int (4 : Int32)), .val (.int (own_eid x0_)), .val (.int (own_eid x1_)), .val (.int (own_eid x2_)), .val (.int (own_eid x3_)), .val (.ref x_24), .val (.ref x_24)] [(.int (3 : Int32)), (.ref x_24)])) rfl (by rw [hml]; rfl) (Steps.refl _) (argsL := [(.int (3 : Int32))]) (rest := []) (lenOf own_pd11 rfl) rfl (by show 2 * 0 + _ ≤ _; exact Nat.le_of_eq rfl) (hb hby at_133) (fun _ _ => ⟨rfl, e29, (by decide : 3 + 0 ≤ _), (by decide : 12 + 0 ≤ _)⟩)
    dsimp only [Pt.U, Pt.locs, Pt.cells, Pt.slots] at X30 l30 y30 z30 st30 hQ30
    subst l30 y30 z30
    obtain ⟨rfl, Nq30, e30⟩ := hQ30
    have N30 := Fr.app N29 Nq30
    refine otr (S' := T30.setTop (mkF m 136 #[.val (.int n_), .val (.int x0_), .val (.int x1_), .val (.int x2_), .val (.int x3_), .val (.int (4 : Int32)), .val (.int (own_eid x0_)), .val (.int (own_eid x1_)), .val (.int (own_eid x2_)), .val (.int (own_eid x3_)), .val (.ref x_24), .val (.ref x_24)] [(.int (own_eid x3_))])) st30 ?_
    refine o_iload X30 hx (hb hby at_136) rfl ?_
    refine o_icmpYes X30 hx 143 (hb hby at_138) (teq (rfl : (own_eid x3_) = (own_eid x3_))).1 (by decide) (by decide) ?_
    refine o_aload X30 hx (hb hby at_143) rfl rfl ?_
    refine o_aload X30 hx (hb hby at_145) rfl rfl ?_
    obtain ⟨cq31, kq31, q31a, q31b, q31c⟩ := isOf hZ e30 p24_2
    obtain ⟨_, _, ⟨T31, L31, kc31, n31⟩, -, X31, ⟨Lc31, hQ31, l31, y31, z31⟩, st31⟩ := X30.virtualBack hx (y := yM17) (z := yM17) hown (mvT hZ w86) (mvT hZ w87) (notFace_of_selects (args := #[]) (mvT hZ w89)) (mvT hZ w89) (mvT hZ w88) (by decide) (backOf (W := 0) (rm_eqself l Z a0 hw []  x_24 T24.heap n0 (O0.keep K24 all0) ) hZ w90 w10 (by decide) (by decide)) q31a q31c (g := (mkF m 147 #[.val (.int n_), .val (.int x0_), .val (.int x1_), .val (.int x2_), .val (.int x3_), .val (.int (4 : Int32)), .val (.int (own_eid x0_)), .val (.int (own_eid x1_)), .val (.int (own_eid x2_)), .val (.int (own_eid x3_)), .val (.ref x_24), .val (.ref x_24)] [(.ref x_24), (.ref x_24)])) rfl (by rw [hml]; rfl) (Steps.refl _) (argsL := [(.ref x_24)]) (rest := []) (lenOf own_pd15 rfl) rfl (by show 2 * 0 + _ ≤ _; exact Nat.le_of_eq rfl) (hb hby at_147) (fun _ _ => ⟨rfl, e30, (by decide : 3 + 0 ≤ _), (by decide : 12 + 0 ≤ _)⟩)
    dsimp only [Pt.U, Pt.locs, Pt.cells, Pt.slots] at X31 l31 y31 z31 st31 hQ31
    subst l31 y31 z31
    obtain ⟨rfl, Nq31, e31⟩ := hQ31
    have N31 := Fr.app N30 Nq31
    refine otr (S' := T31.setTop (mkF m 150 #[.val (.int n_), .val (.int x0_), .val (.int x1_), .val (.int x2_), .val (.int x3_), .val (.int (4 : Int32)), .val (.int (own_eid x0_)), .val (.int (own_eid x1_)), .val (.int (own_eid x2_)), .val (.int (own_eid x3_)), .val (.ref x_24), .val (.ref x_24)] [(.int (1 : Int32))])) st31 ?_
    refine oend X31 hlk (v := some (.int (1 : Int32))) (fun h => by rw [hret] at h; cases h) (fun fs hr => retN X31 hx (t := .boolean) hret (by simp) (hb hby at_150) hr) (by decide) (by decide) ?_
    show own_Q_law Z _ _ _ _ _ _ _ _ _ h0 n0 _ T31.heap _
    rw [e31]
    exact ⟨rfl, N31, ((Keep.refl h0 []).trans K24 all0)⟩
set_option maxRecDepth 65536 in
set_option maxHeartbeats 40000000 in
theorem comes_1 {Post : Tables → Env → Array Value → State → Outcome → State → Prop} (hpost : ∀ tb e args s v u, (limb_1_1.after args s (.returned v) u = true ∧ limb_1_2.after args s (.returned v) u = true ∧ True) → FrameEnd s (.returned v) u (Jvm.fieldLocs frame_1_writes args s ++ Jvm.arrayLocs frame_1_arrays args s ++ Jvm.staticLocs frame_1_statics s) 16 128 → Post tb e args s (.returned v) u) :
    ArmFor flags0 classFile x code maxLocals ret World_1 tables_1 room_1 Calls_1 rest_1 Pre_1 Post := by
  intro l hfl _ _ p e ha hc hk s m args below hf hA hF happ hP
  obtain ⟨hcalls, hrest, hpre⟩ := hP
  obtain ⟨-, -, -, hnamed, -, -, -, hat⟩ := (Spec.applies_iff hf).mp happ
  obtain ⟨hg, hn⟩ := and_e (Cond.before_iff.mp (show (Jvm.Cond.and given_1 narrow_1).before args s = true from hpre))
  obtain ⟨g0, gr0⟩ := and_e hg
  obtain ⟨g1, gr1⟩ := and_e gr0
  obtain ⟨g2, gr2⟩ := and_e gr1
  obtain ⟨g3, gr3⟩ := and_e gr2
  obtain ⟨g4, gr4⟩ := and_e gr3
  obtain ⟨w0, w1, w2, w3, w4, rfl⟩ : ∃ w0 w1 w2 w3 w4 : Value, args = #[w0, w1, w2, w3, w4] := by
    have hs : args.size = 5 := by simpa [Cond.value, given_1] using g0
    obtain ⟨L⟩ := args
    match L, hs with
    | [w0, w1, w2, w3, w4], _ => exact ⟨w0, w1, w2, w3, w4, rfl⟩
  have hw := fun d (hd : d ∈ tables_1) => atoms_spec (ws := Jvm.Cond.code x code maxLocals ret :: tables_1) hat d (List.mem_cons_of_mem _ hd)
  obtain ⟨hsets, hown0⟩ := atoms_of _ (rest_1_c_eq ▸ (show rest_1_c.before _ s = true from hrest))
  have hfit : Fit s := fun {y c} hc i hi => by
    obtain ⟨ha, rfl⟩ := Array.getElem?_eq_some_iff.mp hc
    have q := List.all_eq_true.mp ((Array.all_eq_true_iff_forall_mem.mp hF) _ (Array.getElem_mem ha)) i (List.mem_range.mpr hi)
    simpa [Array.getElem?_eq_getElem hi] using q
  obtain ⟨i0, ei0⟩ := is_v g1
  obtain rfl : w0 = (.int i0) := Option.some.inj ei0
  obtain ⟨i1, ei1⟩ := is_v g2
  obtain rfl : w1 = (.int i1) := Option.some.inj ei1
  obtain ⟨i2, ei2⟩ := is_v g3
  obtain rfl : w2 = (.int i2) := Option.some.inj ei2
  obtain ⟨i3, ei3⟩ := is_v g4
  obtain rfl : w3 = (.int i3) := Option.some.inj ei3
  obtain ⟨i4, ei4⟩ := is_v gr4
  obtain rfl : w4 = (.int i4) := Option.some.inj ei4
  obtain ⟨nw0, hn0⟩ := and_e hn
  obtain ⟨nw1, hn1⟩ := and_e hn0
  obtain ⟨nw2, hn2⟩ := and_e hn1
  obtain ⟨nw3, hn3⟩ := and_e hn2
  obtain ⟨nw4, hn4⟩ := and_e hn3
  obtain ⟨nw5, hn5⟩ := and_e hn4
  obtain ⟨nw6, hn6⟩ := and_e hn5
  obtain ⟨nw7, hn7⟩ := and_e hn6
  obtain ⟨nw8, hn8⟩ := and_e hn7
  obtain ⟨nw9, hn9⟩ := and_e hn8
  obtain ⟨nw10, hn10⟩ := and_e hn9
  obtain ⟨nw11, hn11⟩ := and_e hn10
  obtain ⟨nw12, hn12⟩ := and_e hn11
  obtain ⟨s_EID_CHARS, ev_s_EID_CHARS⟩ := arr_v nw0
  obtain ⟨cl_T, A_T⟩ := Arr.start ev_s_EID_CHARS nw0
  have a_T := Arr.fin (Vm.Alike.refl _) A_T
  have l_T := SBG.length_lt ev_s_EID_CHARS a_T (Cond.eq_int (Cond.before_iff.mpr nw1) rfl)
  have L_T : cl_T.slots.size = (128 : Int32).toNatClampNeg := own_size ev_s_EID_CHARS a_T l_T (Cond.eq_int (Cond.before_iff.mpr nw1) rfl)
  have T_T : ∀ c, own_ok c → cl_T.slots[c.toNatClampNeg]? = some (.int 1) := own_tab ev_s_EID_CHARS A_T.1 a_T L_T (Cond.eq_int (Cond.before_iff.mpr nw3) rfl) (Cond.eq_int (Cond.before_iff.mpr nw4) rfl) (Cond.eq_int (Cond.before_iff.mpr nw10) rfl) nw6 nw8 nw12
  obtain ⟨z_CS, ev_CS⟩ := is_v (Cond.before_iff.mp (hsets _ (List.mem_of_getElem? (i := 1) rfl)))
  have n_CS := not_v (Cond.before_iff.mp (hsets _ (List.mem_of_getElem? (i := 2) rfl)))
  obtain ⟨v_FMT, ev_FMT, rf_FMT⟩ := isR_v (Cond.before_iff.mp (hsets _ (List.mem_of_getElem? (i := 8) rfl)))
  have SB : own_Start s s_EID_CHARS cl_T z_CS v_FMT := ⟨(Sta.start ev_s_EID_CHARS (Or.inr ⟨(hw _ (List.mem_of_getElem? (i := 40) rfl)), (hw _ (List.mem_of_getElem? (i := 43) rfl))⟩)), A_T, L_T, T_T, (Sta.start ev_CS (Or.inl (hsets _ (List.mem_of_getElem? (i := 0) rfl)))), (gotF (Cond.eq_ints ev_CS (Term.int_eval (0))) n_CS), (Sta.start ev_FMT (Or.inl (hsets _ (List.mem_of_getElem? (i := 7) rfl)))), rf_FMT⟩
  obtain ⟨n, o, h1, h2, h3, _, L, rfl, ⟨rfl, N, -⟩, hq⟩ := rm_law l s _ hw tables_1 s_EID_CHARS cl_T z_CS v_FMT i0 i1 i2 i3 i4 s.heap s.heap.size SB (Old.start s)  p e ha hc hk s m _ below hf ((Spec.applies_iff_loose hf).mp happ).1 ⟨rfl, State.Warmed39.refl s, rfl⟩ trivial
  refine ⟨n, _, h1, h2, h3, hpost _ _ _ _ _ _ ⟨Cond.after_iff.mpr rfl, Cond.after_iff.mpr (eq_i res_at (Term.int_eval (1)) rfl), trivial⟩ ⟨hq.1, hq.2.1, (hq.2.2.sift fun y hy => Or.inr (N y hy)).mono (by decide) (by decide)⟩⟩
theorem main_1_1 : Claimed_1_1 := comes_1 fun _ _ _ _ _ _ h hF => ⟨h.1, hF⟩
theorem main_1_2 : Claimed_1_2 := comes_1 fun _ _ _ _ _ _ h hF => ⟨h.2.1, hF⟩
end Jvm.Pilot.@@N@@
namespace Jvm.Pilot.@@N@@
open Jvm Jvm.ClassFile Sem Op Lib Jvm.Free Jvm.Stand Jvm.Pilot.@@N@@.Jvm.D
/-! MADE BY PROGRAM (witnessworld.py) out of the Statement's table words and the real class files: 22 classes; the members and pool entries that the words name. The judged class is class 1, her method 3. -/
namespace start1
open Jvm.ClassFile
def u (s : String) : CpInfo := .utf8 (stringToUtf16 s)
/-- a pool by its gaps: so many unusable entries, then the entry; so many at the end -/
def gap : Nat → List CpInfo → List CpInfo
  | 0, r => r
  | n + 1, r => .unusable :: gap n r
def poolList (es : List (Nat × CpInfo)) (last : Nat) : List CpInfo := es.foldr (fun e r => gap e.1 (e.2 :: r)) (gap last [])
def pool (es : List (Nat × CpInfo)) (last : Nat) : Array CpInfo := ⟨poolList es last⟩
def fileOf (pool : Array CpInfo) (this : Nat) (attrs : Array Attribute := #[]) (ms : Array MethodInfo := #[]) (fl : Nat := 33) (sup : Nat := 0) (ifs : Array Nat := #[]) (fds : Array FieldInfo := #[]) : ClassFile where
  minorVersion := 0
  majorVersion := 65
  constantPool := pool
  accessFlags := fl
  thisClass := this
  superClass := sup
  interfaces := ifs
  fields := fds
  methods := ms
  attributes := attrs
def plain (name : String) (sup : Option ClassId) : Class where
  name := name
  kind := .ordinary
  loader := none
  accessFlags := 33
  super := sup
  interfaces := #[]
  cf := none
  fields := #[]
  methods := #[]
  instanceTypes := #[]
  staticTypes := #[]
  resolved := #[]
  callSites := []
  init := .initialized
  statics := none
  mirror := none

def pool0 : Array CpInfo := pool [(5, u "<init>"), (0, u "()V"), (1, .class_ 10), (1, u "java/lang/Object")] 113

def k0c0 : Code := { maxStack := 0, maxLocals := 1, code := object_method_1_code, exceptionTable := #[], attributes := #[] }
def k0m0 : Method := { name := "<init>", desc := "()V", sig := { parameters := [], returnType := none }, accessFlags := 1, code := some k0c0 }
/-- java/lang/Object -/
def k0 : Class := { plain "java/lang/Object" none with
  accessFlags := 33
  interfaces := #[]
  cf := some (fileOf pool0 8 #[] #[{ accessFlags := 1, nameIndex := 5, descriptorIndex := 6, attributes := #[] }] 33 0 #[] #[])
  fields := #[]
  methods := #[k0m0]
  instanceTypes := #[]
  staticTypes := #[]
  resolved := Array.replicate 124 none
  statics := none }

def pool1 : Array CpInfo := pool [(2, .class_ 4), (1, u "java/lang/Object"), (0, u "<init>"), (0, u "()V"), (0, .integer 2147483647), (0, .class_ 9), (0, u "java/lang/String"), (0, .methodref 8 11), (0, .nameAndType 5 12), (0, u "([C)V"), (0, .methodref 14 15), (0, .class_ 16), (0, .nameAndType 17 18), (0, u "com/example/atomic_tally/atomictally/model/NamesCheckEidPinLaw"), (0, u "eidChar"), (0, u "(I)C"), (0, .methodref 14 20), (0, .nameAndType 21 22), (0, u "build"), (0, u "(ICCCC)Ljava/lang/String;"), (0, .methodref 24 25), (0, .class_ 26), (0, .nameAndType 27 28), (0, u "com/example/atomic_tally/atomictally/model/Names"), (0, u "checkEid"), (0, u "(Ljava/lang/String;)Ljava/lang/String;"), (0, .methodref 8 30), (0, .nameAndType 31 32), (0, u "length"), (0, u "()I"), (0, .methodref 8 34), (0, .nameAndType 35 18), (0, u "charAt"), (0, .methodref 8 37), (0, .nameAndType 38 39), (0, u "equals"), (0, u "(Ljava/lang/Object;)Z"), (3, u "law"), (0, u "(IIIII)Z")] 2

def k1m0 : Method := { name := "<init>", desc := "()V", sig := { parameters := [], returnType := none }, accessFlags := 2, code := none }
def k1c1 : Code := { maxStack := 3, maxLocals := 2, code := method_2_code, exceptionTable := #[], attributes := #[] }
def k1m1 : Method := { name := "eidChar", desc := "(I)C", sig := { parameters := [.int], returnType := some .char }, accessFlags := 10, code := some k1c1 }
def k1c2 : Code := { maxStack := 6, maxLocals := 5, code := method_3_code, exceptionTable := #[], attributes := #[] }
def k1m2 : Method := { name := "build", desc := "(ICCCC)Ljava/lang/String;", sig := { parameters := [.int, .char, .char, .char, .char], returnType := some (.object "java/lang/String") }, accessFlags := 10, code := some k1c2 }
def k1c3 : Code := { maxStack := 5, maxLocals := 12, code := code, exceptionTable := #[], attributes := #[] }
def k1m3 : Method := { name := "law", desc := "(IIIII)Z", sig := { parameters := [.int, .int, .int, .int, .int], returnType := some .boolean }, accessFlags := 9, code := some k1c3 }
/-- com/example/atomic_tally/atomictally/model/NamesCheckEidPinLaw -/
def k1 : Class := { plain "com/example/atomic_tally/atomictally/model/NamesCheckEidPinLaw" (some 0) with
  accessFlags := 49
  interfaces := #[]
  cf := some (fileOf pool1 14 #[] #[{ accessFlags := 2, nameIndex := 5, descriptorIndex := 6, attributes := #[] }, { accessFlags := 10, nameIndex := 17, descriptorIndex := 18, attributes := #[] }, { accessFlags := 10, nameIndex := 21, descriptorIndex := 22, attributes := #[] }, { accessFlags := 9, nameIndex := 43, descriptorIndex := 44, attributes := #[] }] 49 2 #[] #[])
  fields := #[]
  methods := #[k1m0, k1m1, k1m2, k1m3]
  instanceTypes := #[]
  staticTypes := #[]
  resolved := Array.replicate 47 none
  statics := none }

def pool2 : Array CpInfo := pool [(1, .class_ 2), (0, u "java/io/Serializable"), (0, .class_ 4), (0, u "java/lang/Object")] 2

/-- java/io/Serializable -/
def k2 : Class := { plain "java/io/Serializable" (some 0) with
  accessFlags := 1537
  interfaces := #[]
  cf := some (fileOf pool2 1 #[] #[] 1537 3 #[] #[])
  fields := #[]
  methods := #[]
  instanceTypes := #[]
  staticTypes := #[]
  resolved := Array.replicate 7 none
  statics := none }

def pool3 : Array CpInfo := pool [(1, .class_ 2), (0, u "java/lang/Comparable"), (0, .class_ 4), (0, u "java/lang/Object")] 7

/-- java/lang/Comparable -/
def k3 : Class := { plain "java/lang/Comparable" (some 0) with
  accessFlags := 1537
  interfaces := #[]
  cf := some (fileOf pool3 1 #[] #[] 1537 3 #[] #[])
  fields := #[]
  methods := #[]
  instanceTypes := #[]
  staticTypes := #[]
  resolved := Array.replicate 12 none
  statics := none }

def pool4 : Array CpInfo := pool [(2, .class_ 4), (1, u "java/lang/CharSequence"), (42, .class_ 48), (0, u "java/lang/CharSequence$1CodePointIterator"), (10, .class_ 60), (0, u "java/lang/CharSequence$1CharIterator"), (5, .class_ 67), (0, u "java/lang/Object")] 63

/-- java/lang/CharSequence -/
def k4 : Class := { plain "java/lang/CharSequence" (some 0) with
  accessFlags := 1537
  interfaces := #[]
  cf := some (fileOf pool4 2 #[.nestMembers #[47, 59]] #[] 1537 66 #[] #[])
  fields := #[]
  methods := #[]
  instanceTypes := #[]
  staticTypes := #[]
  resolved := Array.replicate 131 none
  statics := none }

def pool5 : Array CpInfo := pool [(1, .class_ 2), (0, u "java/lang/constant/Constable"), (0, .class_ 4), (0, u "java/lang/Object")] 6

/-- java/lang/constant/Constable -/
def k5 : Class := { plain "java/lang/constant/Constable" (some 0) with
  accessFlags := 1537
  interfaces := #[]
  cf := some (fileOf pool5 1 #[] #[] 1537 3 #[] #[])
  fields := #[]
  methods := #[]
  instanceTypes := #[]
  staticTypes := #[]
  resolved := Array.replicate 11 none
  statics := none }

def pool6 : Array CpInfo := pool [(1, .class_ 2), (0, u "java/lang/constant/ConstantDesc"), (0, .class_ 4), (0, u "java/lang/Object")] 32

/-- java/lang/constant/ConstantDesc -/
def k6 : Class := { plain "java/lang/constant/ConstantDesc" (some 0) with
  accessFlags := 1537
  interfaces := #[]
  cf := some (fileOf pool6 1 #[] #[] 1537 3 #[] #[])
  fields := #[]
  methods := #[]
  instanceTypes := #[]
  staticTypes := #[]
  resolved := Array.replicate 37 none
  statics := none }

def pool7 : Array CpInfo := pool [(1, .methodref 2 3), (0, .class_ 4), (0, .nameAndType 5 6), (0, u "java/lang/Object"), (0, u "<init>"), (0, u "()V"), (2, .fieldref 10 11), (0, .class_ 12), (0, .nameAndType 13 14), (0, u "java/lang/String"), (0, u "value"), (0, u "[B"), (0, .fieldref 10 16), (0, .nameAndType 17 18), (0, u "coder"), (0, u "B"), (2, u "hash"), (0, u "I"), (2, u "hashIsZero"), (0, u "Z"), (0, .methodref 10 28), (0, .nameAndType 5 29), (0, u "([CIILjava/lang/Void;)V"), (8, .fieldref 10 39), (0, .nameAndType 40 26), (0, u "COMPACT_STRINGS"), (1, .class_ 44), (1, u "java/lang/StringUTF16"), (0, u "compress"), (1, .methodref 42 48), (0, .nameAndType 49 50), (0, u "coderFromArrayLen"), (0, u "([BI)B"), (56, .class_ 109), (1, u "java/lang/StringLatin1"), (32, u "()Z"), (34, .methodref 42 178), (0, .nameAndType 45 179), (0, u "([CII)[B"), (154, u "()I"), (0, .methodref 10 336), (0, .nameAndType 17 337), (0, u "()B"), (25, u "([BI)C"), (27, u "(II)V"), (35, u "(I)C"), (64, .methodref 10 493), (0, .nameAndType 494 142), (0, u "isLatin1"), (0, .methodref 107 496), (0, .nameAndType 497 363), (0, u "charAt"), (3, u "checkIndex"), (5, u "length"), (35, u "equals"), (29, u "(Ljava/lang/Object;)Z"), (1, .class_ 576), (0, u "java/lang/CharSequence"), (22, u "CASE_INSENSITIVE_ORDER"), (0, u "Ljava/util/Comparator;"), (91, u "isEmpty"), (317, u "([C)V"), (42, .fieldref 1054 1055), (0, .class_ 1056), (0, .nameAndType 1057 1058), (0, u "jdk/internal/util/Preconditions"), (0, u "SIOOBE_FORMATTER"), (0, u "Ljava/util/function/BiFunction;"), (0, .methodref 1054 1060), (0, .nameAndType 501 1061), (0, u "(IILjava/util/function/BiFunction;)I"), (39, u "serialPersistentFields"), (0, u "[Ljava/io/ObjectStreamField;"), (0, .class_ 1104), (0, u "java/lang/String$CaseInsensitiveComparator"), (1, .class_ 1107), (0, u "java/io/Serializable"), (0, .class_ 1109), (0, u "java/lang/Comparable"), (0, .class_ 1111), (0, u "java/lang/constant/Constable"), (0, .class_ 1113), (0, u "java/lang/constant/ConstantDesc"), (2, u "serialVersionUID"), (0, u "J"), (3, u "REPL"), (0, u "C"), (2, u "LATIN1"), (1, u "UTF16")] 323

def k7m0 : Method := { name := "<init>", desc := "()V", sig := { parameters := [], returnType := none }, accessFlags := 1, code := none }
def k7c1 : Code := { maxStack := 5, maxLocals := 2, code := jdk_42_method_3_code, exceptionTable := #[], attributes := #[] }
def k7m1 : Method := { name := "<init>", desc := "([C)V", sig := { parameters := [(.array .char)], returnType := none }, accessFlags := 1, code := some k7c1 }
def k7c2 : Code := { maxStack := 2, maxLocals := 1, code := jdk_42_method_54_code, exceptionTable := #[], attributes := #[] }
def k7m2 : Method := { name := "length", desc := "()I", sig := { parameters := [], returnType := some .int }, accessFlags := 1, code := some k7c2 }
def k7c3 : Code := { maxStack := 1, maxLocals := 1, code := jdk_42_method_55_code, exceptionTable := #[], attributes := #[] }
def k7m3 : Method := { name := "isEmpty", desc := "()Z", sig := { parameters := [], returnType := some .boolean }, accessFlags := 1, code := some k7c3 }
def k7c4 : Code := { maxStack := 2, maxLocals := 2, code := jdk_42_method_56_code, exceptionTable := #[], attributes := #[] }
def k7m4 : Method := { name := "charAt", desc := "(I)C", sig := { parameters := [.int], returnType := some .char }, accessFlags := 1, code := some k7c4 }
def k7c5 : Code := { maxStack := 2, maxLocals := 3, code := jdk_42_method_66_code, exceptionTable := #[], attributes := #[] }
def k7m5 : Method := { name := "equals", desc := "(Ljava/lang/Object;)Z", sig := { parameters := [(.object "java/lang/Object")], returnType := some .boolean }, accessFlags := 1, code := some k7c5 }
def k7c6 : Code := { maxStack := 4, maxLocals := 6, code := jdk_42_method_149_code, exceptionTable := #[], attributes := #[] }
def k7m6 : Method := { name := "<init>", desc := "([CIILjava/lang/Void;)V", sig := { parameters := [(.array .char), .int, .int, (.object "java/lang/Void")], returnType := none }, accessFlags := 2, code := some k7c6 }
def k7c7 : Code := { maxStack := 1, maxLocals := 1, code := jdk_42_method_152_code, exceptionTable := #[], attributes := #[] }
def k7m7 : Method := { name := "coder", desc := "()B", sig := { parameters := [], returnType := some .byte }, accessFlags := 0, code := some k7c7 }
def k7c8 : Code := { maxStack := 1, maxLocals := 1, code := jdk_42_method_154_code, exceptionTable := #[], attributes := #[] }
def k7m8 : Method := { name := "isLatin1", desc := "()Z", sig := { parameters := [], returnType := some .boolean }, accessFlags := 0, code := some k7c8 }
def k7c9 : Code := { maxStack := 3, maxLocals := 2, code := jdk_42_method_155_code, exceptionTable := #[], attributes := #[] }
def k7m9 : Method := { name := "checkIndex", desc := "(II)V", sig := { parameters := [.int, .int], returnType := none }, accessFlags := 8, code := some k7c9 }
/-- java/lang/String -/
def k7 : Class := { plain "java/lang/String" (some 0) with
  accessFlags := 49
  interfaces := #[2, 3, 4, 5, 6]
  cf := some (fileOf pool7 10 #[.nestMembers #[1103]] #[{ accessFlags := 1, nameIndex := 5, descriptorIndex := 6, attributes := #[] }, { accessFlags := 1, nameIndex := 5, descriptorIndex := 1010, attributes := #[] }, { accessFlags := 1, nameIndex := 507, descriptorIndex := 334, attributes := #[] }, { accessFlags := 1, nameIndex := 692, descriptorIndex := 142, attributes := #[] }, { accessFlags := 1, nameIndex := 497, descriptorIndex := 427, attributes := #[] }, { accessFlags := 1, nameIndex := 543, descriptorIndex := 573, attributes := #[] }, { accessFlags := 2, nameIndex := 5, descriptorIndex := 29, attributes := #[] }, { accessFlags := 0, nameIndex := 17, descriptorIndex := 337, attributes := #[] }, { accessFlags := 0, nameIndex := 494, descriptorIndex := 142, attributes := #[] }, { accessFlags := 8, nameIndex := 501, descriptorIndex := 391, attributes := #[] }] 49 2 #[1106, 1108, 575, 1110, 1112] #[{ accessFlags := 18, nameIndex := 13, descriptorIndex := 14, attributes := #[] }, { accessFlags := 18, nameIndex := 17, descriptorIndex := 18, attributes := #[] }, { accessFlags := 2, nameIndex := 21, descriptorIndex := 22, attributes := #[] }, { accessFlags := 2, nameIndex := 25, descriptorIndex := 26, attributes := #[] }, { accessFlags := 26, nameIndex := 1116, descriptorIndex := 1117, attributes := #[] }, { accessFlags := 24, nameIndex := 40, descriptorIndex := 26, attributes := #[] }, { accessFlags := 26, nameIndex := 1101, descriptorIndex := 1102, attributes := #[] }, { accessFlags := 26, nameIndex := 1121, descriptorIndex := 1122, attributes := #[] }, { accessFlags := 25, nameIndex := 599, descriptorIndex := 600, attributes := #[] }, { accessFlags := 24, nameIndex := 1125, descriptorIndex := 18, attributes := #[] }, { accessFlags := 24, nameIndex := 1127, descriptorIndex := 18, attributes := #[] }])
  fields := #[{ name := "value", type := (.array .byte), accessFlags := 18, slot := 0, constantValue := 0 }, { name := "coder", type := .byte, accessFlags := 18, slot := 1, constantValue := 0 }, { name := "hash", type := .int, accessFlags := 2, slot := 2, constantValue := 0 }, { name := "hashIsZero", type := .boolean, accessFlags := 2, slot := 3, constantValue := 0 }, { name := "serialVersionUID", type := .long, accessFlags := 26, slot := 0, constantValue := 0 }, { name := "COMPACT_STRINGS", type := .boolean, accessFlags := 24, slot := 1, constantValue := 0 }, { name := "serialPersistentFields", type := (.array (.object "java/io/ObjectStreamField")), accessFlags := 26, slot := 2, constantValue := 0 }, { name := "REPL", type := .char, accessFlags := 26, slot := 3, constantValue := 0 }, { name := "CASE_INSENSITIVE_ORDER", type := (.object "java/util/Comparator"), accessFlags := 25, slot := 4, constantValue := 0 }, { name := "LATIN1", type := .byte, accessFlags := 24, slot := 5, constantValue := 0 }, { name := "UTF16", type := .byte, accessFlags := 24, slot := 6, constantValue := 0 }]
  methods := #[k7m0, k7m1, k7m2, k7m3, k7m4, k7m5, k7m6, k7m7, k7m8, k7m9]
  instanceTypes := #[(.array .byte), .byte, .int, .boolean]
  staticTypes := #[.long, .boolean, (.array (.object "java/io/ObjectStreamField")), .char, (.object "java/util/Comparator"), .byte, .byte]
  resolved := Array.replicate 1451 none
  statics := some 0 }

def pool8 : Array CpInfo := pool [(6, .class_ 8), (1, u "java/lang/Object"), (0, u "<init>"), (0, u "()V"), (1, .class_ 14), (1, u "java/lang/StringUTF16"), (31, u "$assertionsDisabled"), (0, u "Z"), (13, u "HI_BYTE_SHIFT"), (0, u "I"), (2, u "LO_BYTE_SHIFT"), (49, .methodref 12 116), (0, .nameAndType 117 118), (0, u "compress"), (0, u "([CI[BII)I"), (3, u "([CII)[B"), (138, u "coderFromArrayLen"), (0, u "([BI)B"), (106, .class_ 371), (1, u "java/lang/StringUTF16$LinesSpliterator"), (58, u "MAX_LENGTH"), (196, .class_ 628), (0, u "java/lang/StringUTF16$CodePointsSpliterator"), (0, .class_ 630), (0, u "java/lang/StringUTF16$CharsSpliterator")] 4

def k8m0 : Method := { name := "<init>", desc := "()V", sig := { parameters := [], returnType := none }, accessFlags := 0, code := none }
def k8c1 : Code := { maxStack := 2, maxLocals := 2, code := jdk_52_method_15_code, exceptionTable := #[], attributes := #[] }
def k8m1 : Method := { name := "coderFromArrayLen", desc := "([BI)B", sig := { parameters := [(.array .byte), .int], returnType := some .byte }, accessFlags := 8, code := some k8c1 }
def k8c2 : Code := { maxStack := 5, maxLocals := 6, code := jdk_52_method_16_code, exceptionTable := #[], attributes := #[] }
def k8m2 : Method := { name := "compress", desc := "([CII)[B", sig := { parameters := [(.array .char), .int, .int], returnType := some (.array .byte) }, accessFlags := 9, code := some k8c2 }
def k8c3 : Code := { maxStack := 3, maxLocals := 7, code := jdk_52_method_21_code, exceptionTable := #[], attributes := #[] }
def k8m3 : Method := { name := "compress", desc := "([CI[BII)I", sig := { parameters := [(.array .char), .int, (.array .byte), .int, .int], returnType := some .int }, accessFlags := 9, code := some k8c3 }
/-- java/lang/StringUTF16 -/
def k8 : Class := { plain "java/lang/StringUTF16" (some 0) with
  accessFlags := 48
  interfaces := #[]
  cf := some (fileOf pool8 12 #[.nestMembers #[627, 629, 369]] #[{ accessFlags := 0, nameIndex := 9, descriptorIndex := 10, attributes := #[] }, { accessFlags := 8, nameIndex := 261, descriptorIndex := 262, attributes := #[] }, { accessFlags := 9, nameIndex := 117, descriptorIndex := 122, attributes := #[] }, { accessFlags := 9, nameIndex := 117, descriptorIndex := 118, attributes := #[] }] 48 6 #[] #[{ accessFlags := 26, nameIndex := 61, descriptorIndex := 62, attributes := #[] }, { accessFlags := 26, nameIndex := 65, descriptorIndex := 62, attributes := #[] }, { accessFlags := 24, nameIndex := 430, descriptorIndex := 62, attributes := #[] }, { accessFlags := 4120, nameIndex := 46, descriptorIndex := 47, attributes := #[] }])
  fields := #[{ name := "HI_BYTE_SHIFT", type := .int, accessFlags := 26, slot := 0, constantValue := 0 }, { name := "LO_BYTE_SHIFT", type := .int, accessFlags := 26, slot := 1, constantValue := 0 }, { name := "MAX_LENGTH", type := .int, accessFlags := 24, slot := 2, constantValue := 0 }, { name := "$assertionsDisabled", type := .boolean, accessFlags := 4120, slot := 3, constantValue := 0 }]
  methods := #[k8m0, k8m1, k8m2, k8m3]
  instanceTypes := #[]
  staticTypes := #[.int, .int, .int, .boolean]
  resolved := Array.replicate 635 none
  statics := none }

def pool9 : Array CpInfo := pool [(2, .class_ 4), (1, u "java/lang/Object"), (0, u "<init>"), (0, u "()V"), (0, .class_ 8), (0, u "com/example/atomic_tally/atomictally/model/Names"), (2, u "ETYPE_CHARS"), (0, u "[Z"), (0, .methodref 7 14), (0, .nameAndType 15 16), (0, u "isSpelledFrom"), (0, u "(Ljava/lang/String;I[Z)Z"), (7, .fieldref 7 25), (0, .nameAndType 26 12), (0, u "EID_CHARS"), (8, u "UID_MAX"), (0, u "Ljava/lang/String;"), (3, u "(Ljava/lang/String;)Ljava/lang/String;"), (8, u "KEY_CHARS"), (2, .methodref 53 54), (0, .class_ 55), (0, .nameAndType 56 57), (0, u "java/lang/String"), (0, u "isEmpty"), (0, u "()Z"), (0, .methodref 53 59), (0, .nameAndType 60 61), (0, u "length"), (0, u "()I"), (0, .methodref 53 63), (0, .nameAndType 64 65), (0, u "charAt"), (0, u "(I)C"), (2, u "UID_CHARS"), (34, u "ETYPE_MAX_LENGTH"), (0, u "I"), (2, u "EID_MAX_LENGTH"), (1, u "KEY_MAX_LENGTH"), (4, u "checkEid")] 21

def k9m0 : Method := { name := "<init>", desc := "()V", sig := { parameters := [], returnType := none }, accessFlags := 2, code := none }
def k9c1 : Code := { maxStack := 3, maxLocals := 1, code := prog_7_method_3_code, exceptionTable := #[], attributes := #[] }
def k9m1 : Method := { name := "checkEid", desc := "(Ljava/lang/String;)Ljava/lang/String;", sig := { parameters := [(.object "java/lang/String")], returnType := some (.object "java/lang/String") }, accessFlags := 9, code := some k9c1 }
def k9c2 : Code := { maxStack := 2, maxLocals := 5, code := prog_7_method_6_code, exceptionTable := #[], attributes := #[] }
def k9m2 : Method := { name := "isSpelledFrom", desc := "(Ljava/lang/String;I[Z)Z", sig := { parameters := [(.object "java/lang/String"), .int, (.array .boolean)], returnType := some .boolean }, accessFlags := 10, code := some k9c2 }
/-- com/example/atomic_tally/atomictally/model/Names -/
def k9 : Class := { plain "com/example/atomic_tally/atomictally/model/Names" (some 0) with
  accessFlags := 49
  interfaces := #[]
  cf := some (fileOf pool9 7 #[] #[{ accessFlags := 2, nameIndex := 5, descriptorIndex := 6, attributes := #[] }, { accessFlags := 9, nameIndex := 114, descriptorIndex := 40, attributes := #[] }, { accessFlags := 10, nameIndex := 15, descriptorIndex := 16, attributes := #[] }] 49 2 #[] #[{ accessFlags := 26, nameIndex := 103, descriptorIndex := 104, attributes := #[] }, { accessFlags := 26, nameIndex := 107, descriptorIndex := 104, attributes := #[] }, { accessFlags := 26, nameIndex := 11, descriptorIndex := 12, attributes := #[] }, { accessFlags := 26, nameIndex := 26, descriptorIndex := 12, attributes := #[] }, { accessFlags := 26, nameIndex := 68, descriptorIndex := 12, attributes := #[] }, { accessFlags := 26, nameIndex := 35, descriptorIndex := 36, attributes := #[] }, { accessFlags := 26, nameIndex := 109, descriptorIndex := 104, attributes := #[] }, { accessFlags := 26, nameIndex := 49, descriptorIndex := 12, attributes := #[] }])
  fields := #[{ name := "ETYPE_MAX_LENGTH", type := .int, accessFlags := 26, slot := 0, constantValue := 0 }, { name := "EID_MAX_LENGTH", type := .int, accessFlags := 26, slot := 1, constantValue := 0 }, { name := "ETYPE_CHARS", type := (.array .boolean), accessFlags := 26, slot := 2, constantValue := 0 }, { name := "EID_CHARS", type := (.array .boolean), accessFlags := 26, slot := 3, constantValue := 0 }, { name := "UID_CHARS", type := (.array .boolean), accessFlags := 26, slot := 4, constantValue := 0 }, { name := "UID_MAX", type := (.object "java/lang/String"), accessFlags := 26, slot := 5, constantValue := 0 }, { name := "KEY_MAX_LENGTH", type := .int, accessFlags := 26, slot := 6, constantValue := 0 }, { name := "KEY_CHARS", type := (.array .boolean), accessFlags := 26, slot := 7, constantValue := 0 }]
  methods := #[k9m0, k9m1, k9m2]
  instanceTypes := #[]
  staticTypes := #[.int, .int, (.array .boolean), (.array .boolean), (.array .boolean), (.object "java/lang/String"), .int, (.array .boolean)]
  resolved := Array.replicate 136 none
  statics := some 1 }

def pool10 : Array CpInfo := pool [(1, .class_ 2), (0, u "java/lang/String"), (1, .class_ 6), (1, u "java/lang/Object"), (0, u "<init>"), (0, u "()V"), (0, .methodref 1 10), (0, .nameAndType 11 12), (0, u "checkIndex"), (0, u "(II)V"), (1, .class_ 16), (1, u "java/lang/StringLatin1"), (36, u "([BI)C"), (67, u "$assertionsDisabled"), (0, u "Z"), (98, .class_ 223), (1, u "java/lang/StringLatin1$LinesSpliterator"), (28, u "charAt"), (137, .class_ 391), (0, u "java/lang/StringLatin1$CharsSpliterator")] 3

def k10m0 : Method := { name := "<init>", desc := "()V", sig := { parameters := [], returnType := none }, accessFlags := 0, code := none }
def k10c1 : Code := { maxStack := 2, maxLocals := 2, code := jdk_43_method_2_code, exceptionTable := #[], attributes := #[] }
def k10m1 : Method := { name := "charAt", desc := "([BI)C", sig := { parameters := [(.array .byte), .int], returnType := some .char }, accessFlags := 9, code := some k10c1 }
/-- java/lang/StringLatin1 -/
def k10 : Class := { plain "java/lang/StringLatin1" (some 0) with
  accessFlags := 48
  interfaces := #[]
  cf := some (fileOf pool10 14 #[.nestMembers #[390, 221]] #[{ accessFlags := 0, nameIndex := 7, descriptorIndex := 8, attributes := #[] }, { accessFlags := 9, nameIndex := 252, descriptorIndex := 53, attributes := #[] }] 48 4 #[] #[{ accessFlags := 4120, nameIndex := 121, descriptorIndex := 122, attributes := #[] }])
  fields := #[{ name := "$assertionsDisabled", type := .boolean, accessFlags := 4120, slot := 0, constantValue := 0 }]
  methods := #[k10m0, k10m1]
  instanceTypes := #[]
  staticTypes := #[.boolean]
  resolved := Array.replicate 395 none
  statics := none }

def pool11 : Array CpInfo := pool [(2, .class_ 4), (1, u "java/lang/Object"), (0, u "<init>"), (0, u "()V"), (17, .class_ 26), (1, u "jdk/internal/util/Preconditions"), (6, u "checkIndex"), (21, .class_ 56), (0, u "jdk/internal/util/Preconditions$4"), (57, .class_ 115), (0, u "jdk/internal/util/Preconditions$1"), (7, u "SIOOBE_FORMATTER"), (0, u "Ljava/util/function/BiFunction;"), (0, .class_ 126), (0, u "jdk/internal/util/Preconditions$2"), (3, u "AIOOBE_FORMATTER"), (0, .class_ 132), (0, u "jdk/internal/util/Preconditions$3"), (3, u "IOOBE_FORMATTER"), (41, u "(IILjava/util/function/BiFunction;)I")] 15

def k11m0 : Method := { name := "<init>", desc := "()V", sig := { parameters := [], returnType := none }, accessFlags := 1, code := none }
def k11c1 : Code := { maxStack := 3, maxLocals := 3, code := jdk_41_method_11_code, exceptionTable := #[], attributes := #[] }
def k11m1 : Method := { name := "checkIndex", desc := "(IILjava/util/function/BiFunction;)I", sig := { parameters := [.int, .int, (.object "java/util/function/BiFunction")], returnType := some .int }, accessFlags := 9, code := some k11c1 }
/-- jdk/internal/util/Preconditions -/
def k11 : Class := { plain "jdk/internal/util/Preconditions" (some 0) with
  accessFlags := 33
  interfaces := #[]
  cf := some (fileOf pool11 24 #[.nestMembers #[55, 131, 125, 114]] #[{ accessFlags := 1, nameIndex := 5, descriptorIndex := 6, attributes := #[] }, { accessFlags := 9, nameIndex := 33, descriptorIndex := 178, attributes := #[] }] 33 2 #[] #[{ accessFlags := 25, nameIndex := 123, descriptorIndex := 124, attributes := #[] }, { accessFlags := 25, nameIndex := 130, descriptorIndex := 124, attributes := #[] }, { accessFlags := 25, nameIndex := 136, descriptorIndex := 124, attributes := #[] }])
  fields := #[{ name := "SIOOBE_FORMATTER", type := (.object "java/util/function/BiFunction"), accessFlags := 25, slot := 0, constantValue := 0 }, { name := "AIOOBE_FORMATTER", type := (.object "java/util/function/BiFunction"), accessFlags := 25, slot := 1, constantValue := 0 }, { name := "IOOBE_FORMATTER", type := (.object "java/util/function/BiFunction"), accessFlags := 25, slot := 2, constantValue := 0 }]
  methods := #[k11m0, k11m1]
  instanceTypes := #[]
  staticTypes := #[(.object "java/util/function/BiFunction"), (.object "java/util/function/BiFunction"), (.object "java/util/function/BiFunction")]
  resolved := Array.replicate 194 none
  statics := some 2 }

def pool12 : Array CpInfo := pool [(9, u "<init>"), (6, .class_ 18), (1, u "java/lang/Object"), (0, u "()V"), (1, .class_ 23), (1, u "jdk/internal/util/ArraysSupport"), (0, u "LOG2_ARRAY_LONG_INDEX_SCALE"), (0, u "I"), (2, u "U"), (0, u "Ljdk/internal/misc/Unsafe;"), (8, u "BIG_ENDIAN"), (0, u "Z"), (8, u "LOG2_BYTE_BIT_SIZE"), (4, u "LOG2_ARRAY_INT_INDEX_SCALE"), (54, u "JLA"), (0, u "Ljdk/internal/access/JavaLangAccess;"), (11, u "LOG2_ARRAY_BOOLEAN_INDEX_SCALE"), (9, u "LOG2_ARRAY_BYTE_INDEX_SCALE"), (5, u "LOG2_ARRAY_CHAR_INDEX_SCALE"), (5, u "LOG2_ARRAY_SHORT_INDEX_SCALE"), (18, u "LOG2_ARRAY_FLOAT_INDEX_SCALE"), (24, u "LOG2_ARRAY_DOUBLE_INDEX_SCALE"), (89, u "T_BOOLEAN"), (2, u "T_CHAR"), (1, u "T_FLOAT"), (1, u "T_DOUBLE"), (1, u "T_BYTE"), (1, u "T_SHORT"), (1, u "T_INT"), (1, u "T_LONG"), (1, u "SOFT_MAX_ARRAY_LENGTH")] 83

def k12m0 : Method := { name := "<init>", desc := "()V", sig := { parameters := [], returnType := none }, accessFlags := 2, code := none }
/-- jdk/internal/util/ArraysSupport -/
def k12 : Class := { plain "jdk/internal/util/ArraysSupport" (some 0) with
  accessFlags := 33
  interfaces := #[]
  cf := some (fileOf pool12 21 #[] #[{ accessFlags := 2, nameIndex := 9, descriptorIndex := 19, attributes := #[] }] 33 16 #[] #[{ accessFlags := 24, nameIndex := 28, descriptorIndex := 29, attributes := #[] }, { accessFlags := 26, nameIndex := 38, descriptorIndex := 39, attributes := #[] }, { accessFlags := 25, nameIndex := 121, descriptorIndex := 25, attributes := #[] }, { accessFlags := 25, nameIndex := 131, descriptorIndex := 25, attributes := #[] }, { accessFlags := 25, nameIndex := 137, descriptorIndex := 25, attributes := #[] }, { accessFlags := 25, nameIndex := 143, descriptorIndex := 25, attributes := #[] }, { accessFlags := 25, nameIndex := 53, descriptorIndex := 25, attributes := #[] }, { accessFlags := 25, nameIndex := 24, descriptorIndex := 25, attributes := #[] }, { accessFlags := 25, nameIndex := 162, descriptorIndex := 25, attributes := #[] }, { accessFlags := 25, nameIndex := 187, descriptorIndex := 25, attributes := #[] }, { accessFlags := 26, nameIndex := 48, descriptorIndex := 25, attributes := #[] }, { accessFlags := 25, nameIndex := 277, descriptorIndex := 25, attributes := #[] }, { accessFlags := 25, nameIndex := 280, descriptorIndex := 25, attributes := #[] }, { accessFlags := 25, nameIndex := 282, descriptorIndex := 25, attributes := #[] }, { accessFlags := 25, nameIndex := 284, descriptorIndex := 25, attributes := #[] }, { accessFlags := 25, nameIndex := 286, descriptorIndex := 25, attributes := #[] }, { accessFlags := 25, nameIndex := 288, descriptorIndex := 25, attributes := #[] }, { accessFlags := 25, nameIndex := 290, descriptorIndex := 25, attributes := #[] }, { accessFlags := 25, nameIndex := 292, descriptorIndex := 25, attributes := #[] }, { accessFlags := 26, nameIndex := 108, descriptorIndex := 109, attributes := #[] }, { accessFlags := 25, nameIndex := 294, descriptorIndex := 25, attributes := #[] }])
  fields := #[{ name := "U", type := (.object "jdk/internal/misc/Unsafe"), accessFlags := 24, slot := 0, constantValue := 0 }, { name := "BIG_ENDIAN", type := .boolean, accessFlags := 26, slot := 1, constantValue := 0 }, { name := "LOG2_ARRAY_BOOLEAN_INDEX_SCALE", type := .int, accessFlags := 25, slot := 2, constantValue := 0 }, { name := "LOG2_ARRAY_BYTE_INDEX_SCALE", type := .int, accessFlags := 25, slot := 3, constantValue := 0 }, { name := "LOG2_ARRAY_CHAR_INDEX_SCALE", type := .int, accessFlags := 25, slot := 4, constantValue := 0 }, { name := "LOG2_ARRAY_SHORT_INDEX_SCALE", type := .int, accessFlags := 25, slot := 5, constantValue := 0 }, { name := "LOG2_ARRAY_INT_INDEX_SCALE", type := .int, accessFlags := 25, slot := 6, constantValue := 0 }, { name := "LOG2_ARRAY_LONG_INDEX_SCALE", type := .int, accessFlags := 25, slot := 7, constantValue := 0 }, { name := "LOG2_ARRAY_FLOAT_INDEX_SCALE", type := .int, accessFlags := 25, slot := 8, constantValue := 0 }, { name := "LOG2_ARRAY_DOUBLE_INDEX_SCALE", type := .int, accessFlags := 25, slot := 9, constantValue := 0 }, { name := "LOG2_BYTE_BIT_SIZE", type := .int, accessFlags := 26, slot := 10, constantValue := 0 }, { name := "T_BOOLEAN", type := .int, accessFlags := 25, slot := 11, constantValue := 0 }, { name := "T_CHAR", type := .int, accessFlags := 25, slot := 12, constantValue := 0 }, { name := "T_FLOAT", type := .int, accessFlags := 25, slot := 13, constantValue := 0 }, { name := "T_DOUBLE", type := .int, accessFlags := 25, slot := 14, constantValue := 0 }, { name := "T_BYTE", type := .int, accessFlags := 25, slot := 15, constantValue := 0 }, { name := "T_SHORT", type := .int, accessFlags := 25, slot := 16, constantValue := 0 }, { name := "T_INT", type := .int, accessFlags := 25, slot := 17, constantValue := 0 }, { name := "T_LONG", type := .int, accessFlags := 25, slot := 18, constantValue := 0 }, { name := "JLA", type := (.object "jdk/internal/access/JavaLangAccess"), accessFlags := 26, slot := 19, constantValue := 0 }, { name := "SOFT_MAX_ARRAY_LENGTH", type := .int, accessFlags := 25, slot := 20, constantValue := 0 }]
  methods := #[k12m0]
  instanceTypes := #[]
  staticTypes := #[(.object "jdk/internal/misc/Unsafe"), .boolean, .int, .int, .int, .int, .int, .int, .int, .int, .int, .int, .int, .int, .int, .int, .int, .int, .int, (.object "jdk/internal/access/JavaLangAccess"), .int]
  resolved := Array.replicate 378 none
  statics := none }

def pool13 : Array CpInfo := pool [(1, u "java/lang/Cloneable"), (0, .class_ 1), (0, u "java/lang/Object"), (0, .class_ 3)] 3

/-- java/lang/Cloneable -/
def k13 : Class := { plain "java/lang/Cloneable" (some 0) with
  accessFlags := 1537
  interfaces := #[]
  cf := some (fileOf pool13 2 #[] #[] 1537 4 #[] #[])
  fields := #[]
  methods := #[]
  instanceTypes := #[]
  staticTypes := #[]
  resolved := Array.replicate 8 none
  statics := none }

/-- the primitive boolean -/
def k14 : Class := { plain "boolean" none with kind := .primitive 'Z', accessFlags := 0x411 }
/-- [Z -/
def k15 : Class := { plain "[Z" (some 0) with kind := .array 14 .boolean, interfaces := #[13, 2], accessFlags := 1041 }

/-- the primitive byte -/
def k16 : Class := { plain "byte" none with kind := .primitive 'B', accessFlags := 0x411 }
/-- [B -/
def k17 : Class := { plain "[B" (some 0) with kind := .array 16 .byte, interfaces := #[13, 2], accessFlags := 1041 }

/-- the primitive char -/
def k18 : Class := { plain "char" none with kind := .primitive 'C', accessFlags := 0x411 }
/-- [C -/
def k19 : Class := { plain "[C" (some 0) with kind := .array 18 .char, interfaces := #[13, 2], accessFlags := 1041 }

/-- the primitive int -/
def k20 : Class := { plain "int" none with kind := .primitive 'I', accessFlags := 0x411 }
/-- [I -/
def k21 : Class := { plain "[I" (some 0) with kind := .array 20 .int, interfaces := #[13, 2], accessFlags := 1041 }

def heap : Heap := #[{ cls := 7, slots := #[.long 0, .int 1, .null, .int 0, .null, .int 0, .int 0], vm := .statics 7 },
  { cls := 9, slots := #[.int 0, .int 0, .null, .ref 3, .null, .null, .int 0, .null], vm := .statics 9 },
  { cls := 11, slots := #[.null, .null, .null], vm := .statics 11 },
  { cls := 15, slots := #[.int 0, .int 0, .int 0, .int 0, .int 0, .int 0, .int 0, .int 0, .int 0, .int 0, .int 0, .int 0, .int 0, .int 0, .int 0, .int 0, .int 0, .int 0, .int 0, .int 0, .int 0, .int 0, .int 0, .int 0, .int 0, .int 0, .int 0, .int 0, .int 0, .int 0, .int 0, .int 0, .int 0, .int 0, .int 0, .int 0, .int 0, .int 0, .int 0, .int 0, .int 0, .int 0, .int 0, .int 0, .int 0, .int 1, .int 1, .int 0, .int 1, .int 1, .int 1, .int 1, .int 1, .int 1, .int 1, .int 1, .int 1, .int 1, .int 1, .int 0, .int 0, .int 0, .int 0, .int 0, .int 0, .int 1, .int 1, .int 1, .int 1, .int 1, .int 1, .int 1, .int 1, .int 1, .int 1, .int 1, .int 1, .int 1, .int 1, .int 1, .int 1, .int 1, .int 1, .int 1, .int 1, .int 1, .int 1, .int 1, .int 1, .int 1, .int 1, .int 0, .int 0, .int 0, .int 0, .int 1, .int 0, .int 1, .int 1, .int 1, .int 1, .int 1, .int 1, .int 1, .int 1, .int 1, .int 1, .int 1, .int 1, .int 1, .int 1, .int 1, .int 1, .int 1, .int 1, .int 1, .int 1, .int 1, .int 1, .int 1, .int 1, .int 1, .int 1, .int 0, .int 0, .int 0, .int 0, .int 0], vm := .none }]
def classes : Array Class := #[k0, k1, k2, k3, k4, k5, k6, k7, k8, k9, k10, k11, k12, k13, k14, k15, k16, k17, k18, k19, k20, k21]
def interned : List (Array UInt16 × Addr) := []
def slotsUsed : Nat := 146
def theMethod : MethodId := ⟨1, 3⟩
def args0 : Array Value := #[.int 3, .int 7, .int 5, .int 2, .int 9]
def aboutOver (below : List Frame) : State where
  vm := { classes := classes, interned := interned.toArray }
  heap := heap
  slotsUsed := slotsUsed
  threads := #[{ frames := .invoking theMethod args0 :: below }]
def below0 : List Frame := [.native { method := ⟨0, 0⟩, args := #[] }]
def about1 : State := aboutOver below0
def p0 : Program := .bare "" "" ""
def e0 : Env := launch0.env 0 0 0
theorem w_frames : about1.frames = Frame.invoking theMethod args0 :: below0 := rfl
set_option maxRecDepth 65536 in
theorem w_args : argsFit about1.vm theMethod args0 = true := by decide +kernel
set_option maxRecDepth 65536 in
theorem w_heap : heapFits about1 = true := by decide +kernel
set_option maxRecDepth 65536 in
theorem w_runnable : about1.curStatus? = some .runnable := by decide +kernel
set_option maxRecDepth 65536 in
theorem w_alone : about1.alone = true := by decide +kernel
set_option maxRecDepth 65536 in
theorem w_named : about1.methodNamed? x = some theMethod := by decide +kernel
set_option maxRecDepth 65536 in
theorem w_hears : about1.hears theMethod below0 = true := by decide +kernel
set_option maxRecDepth 65536 in
theorem w_ripe : about1.ripe theMethod args0 below0 = true := by decide +kernel
theorem w_running : about1.status = .running := rfl
set_option maxRecDepth 65536 in
theorem w_room : about1.hasRoom e0.platform room_1 = true :=
  launch0.hasRoom_least _ room_1 (by decide +kernel) (by decide +kernel) (by decide +kernel) (by decide +kernel) (by decide +kernel) (by decide +kernel)
theorem allAtoms_all (ts : List Jvm.Cond) (a : Array Jvm.Value) (st : Jvm.State) : (allAtoms ts).before a st = ts.all (fun c => c.before a st) := by
  induction ts with
  | nil => rfl
  | cons c t ih =>
    show (Jvm.Cond.and c (allAtoms t)).before a st = _
    rw [Jvm.Cond.before_and, ih, List.all_cons]
def words1 : List Jvm.Cond := Jvm.Cond.code x code maxLocals ret :: tables_1
/-- a 'code' word, met by the world's own term for the bytes: nothing is compared byte by byte -/
theorem code_word {y : MethodName} {bytes : ByteArray} {mx : Nat} {rt : Option FieldType} {a : Array Value} {s : State} {m : MethodId} {meth : Method} {c : Code} (h1 : s.methodNamed? y = some m) (h2 : s.vm.method? m = some meth) (h3 : meth.code = some c) (h4 : c.code = bytes)
    (h5 : (c.maxLocals == mx && c.exceptionTable.isEmpty && decide (c.maxStack ≤ mostOperands) && decide (meth.sig.returnType = rt) && !meth.locks && decide (parseMethodDescriptor y.desc = some meth.sig)) = true) : (Jvm.Cond.code y bytes mx rt).before a s = true := by
  simp only [Bool.and_eq_true, beq_iff_eq, Bool.not_eq_true', decide_eq_true_eq] at h5
  obtain ⟨⟨⟨⟨⟨g1, g2⟩, g3⟩, g4⟩, g5⟩, g6⟩ := h5
  simp [Cond.before, Cond.holds, Cond.value, h1, h2, h3, h4, g1, g2, g3, g4, g5, g6]
def isCode : Jvm.Cond → Bool
  | .code _ _ _ _ => true
  | _ => false
theorem all_split {L : List Jvm.Cond} {P : Jvm.Cond → Bool} (h1 : L.all (fun c => isCode c || P c) = true) (h2 : ∀ c ∈ L.filter isCode, P c = true) : L.all P = true := by
  refine List.all_eq_true.mpr fun c hc => ?_
  have h := List.all_eq_true.mp h1 c hc
  rcases Bool.eq_false_or_eq_true (isCode c) with hi | hi
  · exact h2 c (List.mem_filter.mpr ⟨hc, hi⟩)
  · simpa [hi] using h
set_option maxRecDepth 65536 in
theorem w_c0 : (Jvm.Cond.code x code maxLocals ret).before args0 about1 = true := code_word (m := ⟨1, 3⟩) (meth := k1m3) (c := k1c3) (by decide +kernel) rfl rfl rfl (by decide +kernel)
set_option maxRecDepth 65536 in
theorem w_c1 : (Jvm.Cond.code ({ cls := "com/example/atomic_tally/atomictally/model/NamesCheckEidPinLaw", name := "eidChar", desc := "(I)C" } : Jvm.MethodName) method_2_code (2 : Nat) (Option.some Jvm.ClassFile.FieldType.char)).before args0 about1 = true := code_word (m := ⟨1, 1⟩) (meth := k1m1) (c := k1c1) (by decide +kernel) rfl rfl rfl (by decide +kernel)
set_option maxRecDepth 65536 in
theorem w_c2 : (Jvm.Cond.code ({ cls := "com/example/atomic_tally/atomictally/model/NamesCheckEidPinLaw", name := "build", desc := "(ICCCC)Ljava/lang/String;" } : Jvm.MethodName) method_3_code (5 : Nat) (Option.some (Jvm.ClassFile.FieldType.object "java/lang/String"))).before args0 about1 = true := code_word (m := ⟨1, 2⟩) (meth := k1m2) (c := k1c2) (by decide +kernel) rfl rfl rfl (by decide +kernel)
set_option maxRecDepth 65536 in
theorem w_c3 : (Jvm.Cond.code ({ cls := "java/lang/String", name := "<init>", desc := "([C)V" } : Jvm.MethodName) jdk_42_method_3_code (2 : Nat) (Option.none : Option Jvm.ClassFile.FieldType)).before args0 about1 = true := code_word (m := ⟨7, 1⟩) (meth := k7m1) (c := k7c1) (by decide +kernel) rfl rfl rfl (by decide +kernel)
set_option maxRecDepth 65536 in
theorem w_c4 : (Jvm.Cond.code ({ cls := "java/lang/String", name := "<init>", desc := "([CIILjava/lang/Void;)V" } : Jvm.MethodName) jdk_42_method_149_code (6 : Nat) (Option.none : Option Jvm.ClassFile.FieldType)).before args0 about1 = true := code_word (m := ⟨7, 6⟩) (meth := k7m6) (c := k7c6) (by decide +kernel) rfl rfl rfl (by decide +kernel)
set_option maxRecDepth 65536 in
theorem w_c5 : (Jvm.Cond.code ({ cls := "java/lang/Object", name := "<init>", desc := "()V" } : Jvm.MethodName) object_method_1_code (1 : Nat) (Option.none : Option Jvm.ClassFile.FieldType)).before args0 about1 = true := code_word (m := ⟨0, 0⟩) (meth := k0m0) (c := k0c0) (by decide +kernel) rfl rfl rfl (by decide +kernel)
set_option maxRecDepth 65536 in
theorem w_c6 : (Jvm.Cond.code ({ cls := "java/lang/StringUTF16", name := "compress", desc := "([CII)[B" } : Jvm.MethodName) jdk_52_method_16_code (6 : Nat) (Option.some (Jvm.ClassFile.FieldType.array Jvm.ClassFile.FieldType.byte))).before args0 about1 = true := code_word (m := ⟨8, 2⟩) (meth := k8m2) (c := k8c2) (by decide +kernel) rfl rfl rfl (by decide +kernel)
set_option maxRecDepth 65536 in
theorem w_c7 : (Jvm.Cond.code ({ cls := "java/lang/StringUTF16", name := "compress", desc := "([CI[BII)I" } : Jvm.MethodName) jdk_52_method_21_code (7 : Nat) (Option.some Jvm.ClassFile.FieldType.int)).before args0 about1 = true := code_word (m := ⟨8, 3⟩) (meth := k8m3) (c := k8c3) (by decide +kernel) rfl rfl rfl (by decide +kernel)
set_option maxRecDepth 65536 in
theorem w_c8 : (Jvm.Cond.code ({ cls := "java/lang/StringUTF16", name := "coderFromArrayLen", desc := "([BI)B" } : Jvm.MethodName) jdk_52_method_15_code (2 : Nat) (Option.some Jvm.ClassFile.FieldType.byte)).before args0 about1 = true := code_word (m := ⟨8, 1⟩) (meth := k8m1) (c := k8c1) (by decide +kernel) rfl rfl rfl (by decide +kernel)
set_option maxRecDepth 65536 in
theorem w_c9 : (Jvm.Cond.code ({ cls := "com/example/atomic_tally/atomictally/model/Names", name := "checkEid", desc := "(Ljava/lang/String;)Ljava/lang/String;" } : Jvm.MethodName) prog_7_method_3_code (1 : Nat) (Option.some (Jvm.ClassFile.FieldType.object "java/lang/String"))).before args0 about1 = true := code_word (m := ⟨9, 1⟩) (meth := k9m1) (c := k9c1) (by decide +kernel) rfl rfl rfl (by decide +kernel)
set_option maxRecDepth 65536 in
theorem w_c10 : (Jvm.Cond.code ({ cls := "com/example/atomic_tally/atomictally/model/Names", name := "isSpelledFrom", desc := "(Ljava/lang/String;I[Z)Z" } : Jvm.MethodName) prog_7_method_6_code (5 : Nat) (Option.some Jvm.ClassFile.FieldType.boolean)).before args0 about1 = true := code_word (m := ⟨9, 2⟩) (meth := k9m2) (c := k9c2) (by decide +kernel) rfl rfl rfl (by decide +kernel)
set_option maxRecDepth 65536 in
theorem w_c11 : (Jvm.Cond.code ({ cls := "java/lang/String", name := "isEmpty", desc := "()Z" } : Jvm.MethodName) jdk_42_method_55_code (1 : Nat) (Option.some Jvm.ClassFile.FieldType.boolean)).before args0 about1 = true := code_word (m := ⟨7, 3⟩) (meth := k7m3) (c := k7c3) (by decide +kernel) rfl rfl rfl (by decide +kernel)
set_option maxRecDepth 65536 in
theorem w_c12 : (Jvm.Cond.code ({ cls := "java/lang/String", name := "length", desc := "()I" } : Jvm.MethodName) jdk_42_method_54_code (1 : Nat) (Option.some Jvm.ClassFile.FieldType.int)).before args0 about1 = true := code_word (m := ⟨7, 2⟩) (meth := k7m2) (c := k7c2) (by decide +kernel) rfl rfl rfl (by decide +kernel)
set_option maxRecDepth 65536 in
theorem w_c13 : (Jvm.Cond.code ({ cls := "java/lang/String", name := "coder", desc := "()B" } : Jvm.MethodName) jdk_42_method_152_code (1 : Nat) (Option.some Jvm.ClassFile.FieldType.byte)).before args0 about1 = true := code_word (m := ⟨7, 7⟩) (meth := k7m7) (c := k7c7) (by decide +kernel) rfl rfl rfl (by decide +kernel)
set_option maxRecDepth 65536 in
theorem w_c14 : (Jvm.Cond.code ({ cls := "java/lang/String", name := "charAt", desc := "(I)C" } : Jvm.MethodName) jdk_42_method_56_code (2 : Nat) (Option.some Jvm.ClassFile.FieldType.char)).before args0 about1 = true := code_word (m := ⟨7, 4⟩) (meth := k7m4) (c := k7c4) (by decide +kernel) rfl rfl rfl (by decide +kernel)
set_option maxRecDepth 65536 in
theorem w_c15 : (Jvm.Cond.code ({ cls := "java/lang/String", name := "isLatin1", desc := "()Z" } : Jvm.MethodName) jdk_42_method_154_code (1 : Nat) (Option.some Jvm.ClassFile.FieldType.boolean)).before args0 about1 = true := code_word (m := ⟨7, 8⟩) (meth := k7m8) (c := k7c8) (by decide +kernel) rfl rfl rfl (by decide +kernel)
set_option maxRecDepth 65536 in
theorem w_c16 : (Jvm.Cond.code ({ cls := "java/lang/StringLatin1", name := "charAt", desc := "([BI)C" } : Jvm.MethodName) jdk_43_method_2_code (2 : Nat) (Option.some Jvm.ClassFile.FieldType.char)).before args0 about1 = true := code_word (m := ⟨10, 1⟩) (meth := k10m1) (c := k10c1) (by decide +kernel) rfl rfl rfl (by decide +kernel)
set_option maxRecDepth 65536 in
theorem w_c17 : (Jvm.Cond.code ({ cls := "java/lang/String", name := "checkIndex", desc := "(II)V" } : Jvm.MethodName) jdk_42_method_155_code (2 : Nat) (Option.none : Option Jvm.ClassFile.FieldType)).before args0 about1 = true := code_word (m := ⟨7, 9⟩) (meth := k7m9) (c := k7c9) (by decide +kernel) rfl rfl rfl (by decide +kernel)
set_option maxRecDepth 65536 in
theorem w_c18 : (Jvm.Cond.code ({ cls := "jdk/internal/util/Preconditions", name := "checkIndex", desc := "(IILjava/util/function/BiFunction;)I" } : Jvm.MethodName) jdk_41_method_11_code (3 : Nat) (Option.some Jvm.ClassFile.FieldType.int)).before args0 about1 = true := code_word (m := ⟨11, 1⟩) (meth := k11m1) (c := k11c1) (by decide +kernel) rfl rfl rfl (by decide +kernel)
set_option maxRecDepth 65536 in
theorem w_c19 : (Jvm.Cond.code ({ cls := "java/lang/String", name := "equals", desc := "(Ljava/lang/Object;)Z" } : Jvm.MethodName) jdk_42_method_66_code (3 : Nat) (Option.some Jvm.ClassFile.FieldType.boolean)).before args0 about1 = true := code_word (m := ⟨7, 5⟩) (meth := k7m5) (c := k7c5) (by decide +kernel) rfl rfl rfl (by decide +kernel)
def codes1 : List Jvm.Cond := [Jvm.Cond.code x code maxLocals ret, Jvm.Cond.code ({ cls := "com/example/atomic_tally/atomictally/model/NamesCheckEidPinLaw", name := "eidChar", desc := "(I)C" } : Jvm.MethodName) method_2_code (2 : Nat) (Option.some Jvm.ClassFile.FieldType.char), Jvm.Cond.code ({ cls := "com/example/atomic_tally/atomictally/model/NamesCheckEidPinLaw", name := "build", desc := "(ICCCC)Ljava/lang/String;" } : Jvm.MethodName) method_3_code (5 : Nat) (Option.some (Jvm.ClassFile.FieldType.object "java/lang/String")), Jvm.Cond.code ({ cls := "java/lang/String", name := "<init>", desc := "([C)V" } : Jvm.MethodName) jdk_42_method_3_code (2 : Nat) (Option.none : Option Jvm.ClassFile.FieldType), Jvm.Cond.code ({ cls := "java/lang/String", name := "<init>", desc := "([CIILjava/lang/Void;)V" } : Jvm.MethodName) jdk_42_method_149_code (6 : Nat) (Option.none : Option Jvm.ClassFile.FieldType), Jvm.Cond.code ({ cls := "java/lang/Object", name := "<init>", desc := "()V" } : Jvm.MethodName) object_method_1_code (1 : Nat) (Option.none : Option Jvm.ClassFile.FieldType), Jvm.Cond.code ({ cls := "java/lang/StringUTF16", name := "compress", desc := "([CII)[B" } : Jvm.MethodName) jdk_52_method_16_code (6 : Nat) (Option.some (Jvm.ClassFile.FieldType.array Jvm.ClassFile.FieldType.byte)), Jvm.Cond.code ({ cls := "java/lang/StringUTF16", name := "compress", desc := "([CI[BII)I" } : Jvm.MethodName) jdk_52_method_21_code (7 : Nat) (Option.some Jvm.ClassFile.FieldType.int), Jvm.Cond.code ({ cls := "java/lang/StringUTF16", name := "coderFromArrayLen", desc := "([BI)B" } : Jvm.MethodName) jdk_52_method_15_code (2 : Nat) (Option.some Jvm.ClassFile.FieldType.byte), Jvm.Cond.code ({ cls := "com/example/atomic_tally/atomictally/model/Names", name := "checkEid", desc := "(Ljava/lang/String;)Ljava/lang/String;" } : Jvm.MethodName) prog_7_method_3_code (1 : Nat) (Option.some (Jvm.ClassFile.FieldType.object "java/lang/String")), Jvm.Cond.code ({ cls := "com/example/atomic_tally/atomictally/model/Names", name := "isSpelledFrom", desc := "(Ljava/lang/String;I[Z)Z" } : Jvm.MethodName) prog_7_method_6_code (5 : Nat) (Option.some Jvm.ClassFile.FieldType.boolean), Jvm.Cond.code ({ cls := "java/lang/String", name := "isEmpty", desc := "()Z" } : Jvm.MethodName) jdk_42_method_55_code (1 : Nat) (Option.some Jvm.ClassFile.FieldType.boolean), Jvm.Cond.code ({ cls := "java/lang/String", name := "length", desc := "()I" } : Jvm.MethodName) jdk_42_method_54_code (1 : Nat) (Option.some Jvm.ClassFile.FieldType.int), Jvm.Cond.code ({ cls := "java/lang/String", name := "coder", desc := "()B" } : Jvm.MethodName) jdk_42_method_152_code (1 : Nat) (Option.some Jvm.ClassFile.FieldType.byte), Jvm.Cond.code ({ cls := "java/lang/String", name := "charAt", desc := "(I)C" } : Jvm.MethodName) jdk_42_method_56_code (2 : Nat) (Option.some Jvm.ClassFile.FieldType.char), Jvm.Cond.code ({ cls := "java/lang/String", name := "isLatin1", desc := "()Z" } : Jvm.MethodName) jdk_42_method_154_code (1 : Nat) (Option.some Jvm.ClassFile.FieldType.boolean), Jvm.Cond.code ({ cls := "java/lang/StringLatin1", name := "charAt", desc := "([BI)C" } : Jvm.MethodName) jdk_43_method_2_code (2 : Nat) (Option.some Jvm.ClassFile.FieldType.char), Jvm.Cond.code ({ cls := "java/lang/String", name := "checkIndex", desc := "(II)V" } : Jvm.MethodName) jdk_42_method_155_code (2 : Nat) (Option.none : Option Jvm.ClassFile.FieldType), Jvm.Cond.code ({ cls := "jdk/internal/util/Preconditions", name := "checkIndex", desc := "(IILjava/util/function/BiFunction;)I" } : Jvm.MethodName) jdk_41_method_11_code (3 : Nat) (Option.some Jvm.ClassFile.FieldType.int), Jvm.Cond.code ({ cls := "java/lang/String", name := "equals", desc := "(Ljava/lang/Object;)Z" } : Jvm.MethodName) jdk_42_method_66_code (3 : Nat) (Option.some Jvm.ClassFile.FieldType.boolean)]
set_option maxRecDepth 65536 in
theorem codes_eq : words1.filter isCode = codes1 := rfl
theorem w_codes : ∀ c ∈ words1.filter isCode, c.before args0 about1 = true := by
  rw [codes_eq]
  intro c hc
  simp only [codes1, List.mem_cons, List.not_mem_nil, or_false] at hc
  rcases hc with rfl | rfl | rfl | rfl | rfl | rfl | rfl | rfl | rfl | rfl | rfl | rfl | rfl | rfl | rfl | rfl | rfl | rfl | rfl | rfl
  · exact w_c0
  · exact w_c1
  · exact w_c2
  · exact w_c3
  · exact w_c4
  · exact w_c5
  · exact w_c6
  · exact w_c7
  · exact w_c8
  · exact w_c9
  · exact w_c10
  · exact w_c11
  · exact w_c12
  · exact w_c13
  · exact w_c14
  · exact w_c15
  · exact w_c16
  · exact w_c17
  · exact w_c18
  · exact w_c19
set_option maxRecDepth 65536 in
theorem w_t1 : (words1.take 24).all (fun c => isCode c || c.before args0 about1) = true := by decide +kernel
set_option maxRecDepth 65536 in
theorem w_t2 : ((words1.drop 24).take 24).all (fun c => isCode c || c.before args0 about1) = true := by decide +kernel
set_option maxRecDepth 65536 in
theorem w_t3 : (((words1.drop 24).drop 24).take 24).all (fun c => isCode c || c.before args0 about1) = true := by decide +kernel
set_option maxRecDepth 65536 in
theorem w_t4 : (((words1.drop 24).drop 24).drop 24).all (fun c => isCode c || c.before args0 about1) = true := by decide +kernel
theorem w_tables : (allAtoms (Jvm.Cond.code x code maxLocals ret :: tables_1)).before args0 about1 = true := by
  rw [allAtoms_all]
  show words1.all (fun c => c.before args0 about1) = true
  refine all_split ?_ w_codes
  rw [← List.take_append_drop 24 words1, List.all_append, w_t1, ← List.take_append_drop 24 (words1.drop 24), List.all_append, w_t2, ← List.take_append_drop 24 ((words1.drop 24).drop 24), List.all_append, w_t3, w_t4]
  rfl
set_option maxRecDepth 65536 in
theorem w_rest : rest_1_c.before args0 about1 = true := by decide +kernel
set_option maxRecDepth 65536 in
theorem w_case : (Jvm.Cond.and given_1 narrow_1).before args0 about1 = true := by decide +kernel
theorem w_applies : (headSpec (Jvm.Cond.code x code maxLocals ret :: tables_1) room_1).applies x e0.platform about1 = true :=
  (Spec.applies_iff w_frames).mpr ⟨w_running, w_runnable, w_alone, w_named, w_hears, w_ripe, w_room, w_tables⟩
theorem atStart : AtStart classFile x code maxLocals ret World_1 tables_1 room_1 Calls_1 rest_1 Pre_1 launch0 p0 e0 about1 theMethod args0 below0 :=
  ⟨lists_1, trivial, launch0.admits_env _ _ _, launch0.least_env, fairChoices_fair.cas, fairChoices_fair.clock, w_frames, w_args, w_heap, w_applies, trivial, w_rest, w_case⟩
end start1
theorem witness_1 : WitnessClaimed_1 := ⟨start1.p0, start1.e0, start1.about1, start1.theMethod, start1.args0, start1.below0, start1.atStart⟩
end Jvm.Pilot.@@N@@
