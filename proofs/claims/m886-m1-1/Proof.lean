import JvmDerived
import JvmDerived.Pilot.@@N@@Statement
import JvmDerived.Pilot.@@N@@Code
set_option linter.unusedVariables false
set_option linter.unusedSimpArgs false
namespace Jvm.Pilot.@@N@@
open Jvm Jvm.ClassFile Sem Op Lib Jvm.Free Jvm.Stand Jvm.LawKit Jvm.RoadKit Bundle Jvm.Pilot.@@N@@.Jvm.D
/-- from the state S the run comes to an end of which Q holds -/
def Own (p : Program) (e : Env) (below : List Frame) (Q : State → Outcome → Prop) (S : State) : Prop := ∃ s₂ o, Steps p.tables e below S s₂ ∧ s₂.status = .running ∧ Ended s₂ below o ∧ Q s₂ o
theorem ogo {p : Program} {e : Env} {below : List Frame} {Q : State → Outcome → Prop} {S S' : State} (h : ∀ t, Steps p.tables e below S' t → Steps p.tables e below S t) (k : Own p e below Q S') : Own p e below Q S := by
  obtain ⟨t, o, k1, k2⟩ := k; exact ⟨t, o, h _ k1, k2⟩
theorem otr {p : Program} {e : Env} {below : List Frame} {Q : State → Outcome → Prop} {S S' : State} (h : Steps p.tables e below S S') (k : Own p e below Q S') : Own p e below Q S := by
  obtain ⟨t, o, k1, k2⟩ := k; exact ⟨t, o, h.trans k1, k2⟩
/-- what a contract says of the end: q of what is returned, of the heap and of the places written; the frame -/
abbrev oPost (q : Option Value → Heap → List Loc → Prop) (s : State) (cc ss : Nat) : State → Outcome → Prop := fun s₂ o => ∃ v L, o = .returned v ∧ q v s₂.heap L ∧ FrameEnd s o s₂ L cc ss
abbrev oMet (l : Launch) (Z : State) (y : MethodName) (code : ByteArray) (maxL : Nat) (ret : Option FieldType) (ws : List Jvm.Cond) (rm : Room) (cc ss : Nat) (as' : Array Value) (h0 : Heap) (q : Option Value → Heap → List Loc → Prop) : Prop :=
  MetFree l y (head1 (Jvm.Cond.code y code maxL ret :: ws) rm) (fun a U => a = as' ∧ Z.Warmed39 U.vm ∧ U.heap = h0) (fun _ _ _ _ _ => True) (fun _ U o U' => ∃ v L, o = .returned v ∧ q v U'.heap L ∧ FrameEnd U o U' L cc ss)
theorem oenter {l : Launch} {Z : State} {y : MethodName} {code : ByteArray} {maxL : Nat} {ret : Option FieldType} {ws : List Jvm.Cond} {rm : Room} {cc ss : Nat} {as' : Array Value} {h0 : Heap} {q : Option Value → Heap → List Loc → Prop} (pn : plainName y.cls = true) (Ls : Array Slot) (ef : ∀ m, entryFrame m as' maxL = mkF m 0 Ls [])
    (body : ∀ (p : Program) (e : Env) (s : State) (m : MethodId) (below : List Frame) (meth : Method) (c : Code) (s₁ : State), Stand p l e rm s m as' below meth c s₁ [] 0 0 → p.tables.exec = Jvm.exec → Z.Warmed39 s.vm → c.code = code → c.maxLocals = maxL → meth.sig.returnType = ret → s.vm.findClass y.cls = some m.cls → meth.name = y.name → meth.locks = false → s₁.heap = h0 → Own p e below (oPost q s cc ss) (s₁.setTop (mkF m 0 Ls []))) : oMet l Z y code maxL ret ws rm cc ss as' h0 q := by
  refine MetFree.of_bodySF (plainFor_of_name pn) hisR ?_
  intro p e s m args below meth c s₁ Bd hml0 hP hK
  obtain ⟨rfl, hZ, hh⟩ := hP
  have e0 : s₁.heap = h0 := by rw [← hh, Bd.state]; rfl
  obtain ⟨t, o, h1, h2⟩ := body p e s m below meth c s₁ (Stand.of_body Bd) Bd.exec hZ Bd.bytes hml0 Bd.returns (findClass_of_methodNamed Bd.named) (name_of_methodNamed Bd.named Bd.method).1 (BodyLoose.notSynchronized Bd) e0
  exact ⟨t, o, castTop (ef m) h1, h2⟩
def own_ushr (x y : Int32) : Int32 := (x.toUInt32 >>> (y &&& 31).toUInt32).toInt32
def own_ushrL (x : Int64) (y : Int32) : Int64 := (x.toUInt64 >>> (y &&& 0x3f).toInt64.toUInt64).toInt64
section Steps
variable {p : Program} {l : Launch} {e : Env} {R : Room} {s : State} {m : MethodId} {args : Array Value} {below : List Frame} {meth : Method} {c : Code} {T : State} {locs : List Loc} {cells slots : Nat} {Q : State → Outcome → Prop}
theorem oend {v : Option Value} {q : Option Value → Heap → List Loc → Prop} {cc ss : Nat} {S : State} (X : Stand p l e R s m args below meth c T locs cells slots) (hlk : meth.locks = false) (hv : meth.sig.returnType = none → v = none)
    (st : ∀ fs, (∀ (f : JFrame) (acts : List Action), f.method = m → f.locked = none → f.entered = [] → (doReturn e (T.setTop f) acts v).1 = T.setFrames fs) → Steps p.tables e below S (T.setFrames fs)) (hc : cells ≤ cc) (hs : slots ≤ ss) (hq : q v T.heap locs) : Own p e below (oPost q s cc ss) S := by
  obtain ⟨fs, hr, hrun, hended, hW, hsame⟩ := X.leave (v := v) hv hlk
  exact ⟨_, _, st fs hr, hrun, hended, _, _, rfl, hq, ⟨_, rfl⟩, hW, hsame.mono hc hs⟩
theorem o_aloadN (X : Stand p l e R s m args below meth c T locs cells slots) (hx : p.tables.exec = Jvm.exec) {pc : Nat} {L : Array Slot} {S : List Value} {i : Fin 4} {v : Value} (hd : decode c.code pc = .ok (.aload_n i, 1)) (hl : L[i.val]? = some (.val v)) (hv : v.isRef = true) (k : Own p e below Q (T.setTop (mkF m (pc + 1) L (v :: S)))) : Own p e below Q (T.setTop (mkF m pc L S)) :=
  ogo (fun _ k => XS.aloadN X.here hx rfl hd hl hv k) k
theorem o_aload (X : Stand p l e R s m args below meth c T locs cells slots) (hx : p.tables.exec = Jvm.exec) {pc : Nat} {L : Array Slot} {S : List Value} {i : Nat} {v : Value} (hd : decode c.code pc = .ok (.aload i, 2)) (hl : L[i]? = some (.val v)) (hv : v.isRef = true) (k : Own p e below Q (T.setTop (mkF m (pc + 2) L (v :: S)))) : Own p e below Q (T.setTop (mkF m pc L S)) :=
  ogo (fun _ k => XS.aload X.here hx rfl hd hl hv k) k
theorem o_iloadN (X : Stand p l e R s m args below meth c T locs cells slots) (hx : p.tables.exec = Jvm.exec) {pc : Nat} {L : Array Slot} {S : List Value} {i : Fin 4} {v : Int32} (hd : decode c.code pc = .ok (.iload_n i, 1)) (hl : L[i.val]? = some (.val (.int v))) (k : Own p e below Q (T.setTop (mkF m (pc + 1) L ((.int v) :: S)))) : Own p e below Q (T.setTop (mkF m pc L S)) :=
  ogo (fun _ k => XS.iloadN X.here hx rfl hd hl k) k
theorem o_iload (X : Stand p l e R s m args below meth c T locs cells slots) (hx : p.tables.exec = Jvm.exec) {pc : Nat} {L : Array Slot} {S : List Value} {i : Nat} {v : Int32} (hd : decode c.code pc = .ok (.iload i, 2)) (hl : L[i]? = some (.val (.int v))) (k : Own p e below Q (T.setTop (mkF m (pc + 2) L ((.int v) :: S)))) : Own p e below Q (T.setTop (mkF m pc L S)) :=
  ogo (fun _ k => XS.iload X.here hx rfl hd hl k) k
theorem o_lloadN (X : Stand p l e R s m args below meth c T locs cells slots) (hx : p.tables.exec = Jvm.exec) {pc : Nat} {L : Array Slot} {S : List Value} {i : Fin 4} {v : Int64} (hd : decode c.code pc = .ok (.lload_n i, 1)) (hl : L[i.val]? = some (.val (.long v))) (k : Own p e below Q (T.setTop (mkF m (pc + 1) L ((.long v) :: S)))) : Own p e below Q (T.setTop (mkF m pc L S)) :=
  ogo (fun _ k => XS.lloadN X.here hx rfl hd hl k) k
theorem o_lload (X : Stand p l e R s m args below meth c T locs cells slots) (hx : p.tables.exec = Jvm.exec) {pc : Nat} {L : Array Slot} {S : List Value} {i : Nat} {v : Int64} (hd : decode c.code pc = .ok (.lload i, 2)) (hl : L[i]? = some (.val (.long v))) (k : Own p e below Q (T.setTop (mkF m (pc + 2) L ((.long v) :: S)))) : Own p e below Q (T.setTop (mkF m pc L S)) :=
  ogo (fun _ k => XS.lload X.here hx rfl hd hl k) k
theorem o_astoreN (X : Stand p l e R s m args below meth c T locs cells slots) (hx : p.tables.exec = Jvm.exec) {pc : Nat} {L : Array Slot} {S : List Value} {i : Fin 4} {v : Value} {l' : Array Slot} (hd : decode c.code pc = .ok (.astore_n i, 1)) (hv : v.isRef = true) (hl : storeLocals L i.val v = some l') (k : Own p e below Q (T.setTop (mkF m (pc + 1) l' S))) : Own p e below Q (T.setTop (mkF m pc L (v :: S))) :=
  ogo (fun _ k => XS.astoreN X.here hx rfl hd rfl hv hl k) k
theorem o_astore (X : Stand p l e R s m args below meth c T locs cells slots) (hx : p.tables.exec = Jvm.exec) {pc : Nat} {L : Array Slot} {S : List Value} {i : Nat} {v : Value} {l' : Array Slot} (hd : decode c.code pc = .ok (.astore i, 2)) (hv : v.isRef = true) (hl : storeLocals L i v = some l') (k : Own p e below Q (T.setTop (mkF m (pc + 2) l' S))) : Own p e below Q (T.setTop (mkF m pc L (v :: S))) :=
  ogo (fun _ k => XS.astore X.here hx rfl hd rfl hv hl k) k
theorem o_istoreN (X : Stand p l e R s m args below meth c T locs cells slots) (hx : p.tables.exec = Jvm.exec) {pc : Nat} {L : Array Slot} {S : List Value} {i : Fin 4} {v : Int32} {l' : Array Slot} (hd : decode c.code pc = .ok (.istore_n i, 1)) (hl : storeLocals L i.val (.int v) = some l') (k : Own p e below Q (T.setTop (mkF m (pc + 1) l' S))) : Own p e below Q (T.setTop (mkF m pc L ((.int v) :: S))) :=
  ogo (fun _ k => XS.istoreN X.here hx rfl hd rfl hl k) k
theorem o_istore (X : Stand p l e R s m args below meth c T locs cells slots) (hx : p.tables.exec = Jvm.exec) {pc : Nat} {L : Array Slot} {S : List Value} {i : Nat} {v : Int32} {l' : Array Slot} (hd : decode c.code pc = .ok (.istore i, 2)) (hl : storeLocals L i (.int v) = some l') (k : Own p e below Q (T.setTop (mkF m (pc + 2) l' S))) : Own p e below Q (T.setTop (mkF m pc L ((.int v) :: S))) :=
  ogo (fun _ k => XS.istore X.here hx rfl hd rfl hl k) k
theorem o_lstoreN (X : Stand p l e R s m args below meth c T locs cells slots) (hx : p.tables.exec = Jvm.exec) {pc : Nat} {L : Array Slot} {S : List Value} {i : Fin 4} {v : Int64} {l' : Array Slot} (hd : decode c.code pc = .ok (.lstore_n i, 1)) (hl : storeLocals L i.val (.long v) = some l') (k : Own p e below Q (T.setTop (mkF m (pc + 1) l' S))) : Own p e below Q (T.setTop (mkF m pc L ((.long v) :: S))) :=
  ogo (fun _ k => XS.lstoreN X.here hx rfl hd rfl hl k) k
theorem o_lstore (X : Stand p l e R s m args below meth c T locs cells slots) (hx : p.tables.exec = Jvm.exec) {pc : Nat} {L : Array Slot} {S : List Value} {i : Nat} {v : Int64} {l' : Array Slot} (hd : decode c.code pc = .ok (.lstore i, 2)) (hl : storeLocals L i (.long v) = some l') (k : Own p e below Q (T.setTop (mkF m (pc + 2) l' S))) : Own p e below Q (T.setTop (mkF m pc L ((.long v) :: S))) :=
  ogo (fun _ k => XS.lstore X.here hx rfl hd rfl hl k) k
theorem o_iconst (X : Stand p l e R s m args below meth c T locs cells slots) (hx : p.tables.exec = Jvm.exec) {pc : Nat} {L : Array Slot} {S : List Value} {i : Int} (v : Int32) (hd : decode c.code pc = .ok (.iconst i, 1)) (hv : Int32.ofInt i = v) (k : Own p e below Q (T.setTop (mkF m (pc + 1) L (.int v :: S)))) : Own p e below Q (T.setTop (mkF m pc L S)) := by
  subst hv; exact ogo (fun _ k => XS.iconst X.here hx rfl hd k) k
theorem o_bipush (X : Stand p l e R s m args below meth c T locs cells slots) (hx : p.tables.exec = Jvm.exec) {pc : Nat} {L : Array Slot} {S : List Value} {i : Int} (v : Int32) (hd : decode c.code pc = .ok (.bipush i, 2)) (hv : (Int8.ofInt i).toInt32 = v) (k : Own p e below Q (T.setTop (mkF m (pc + 2) L (.int v :: S)))) : Own p e below Q (T.setTop (mkF m pc L S)) := by
  subst hv; exact ogo (fun _ k => XS.bipush X.here hx rfl hd k) k
theorem o_sipush (X : Stand p l e R s m args below meth c T locs cells slots) (hx : p.tables.exec = Jvm.exec) {pc : Nat} {L : Array Slot} {S : List Value} {i : Int} (v : Int32) (hd : decode c.code pc = .ok (.sipush i, 3)) (hv : (Int16.ofInt i).toInt32 = v) (k : Own p e below Q (T.setTop (mkF m (pc + 3) L (.int v :: S)))) : Own p e below Q (T.setTop (mkF m pc L S)) := by
  subst hv; exact ogo (fun _ k => XS.sipush X.here hx rfl hd k) k
theorem o_lconst (X : Stand p l e R s m args below meth c T locs cells slots) (hx : p.tables.exec = Jvm.exec) {pc : Nat} {L : Array Slot} {S : List Value} {i : Fin 2} (v : Int64) (hd : decode c.code pc = .ok (.lconst i, 1)) (hv : Int64.ofNat i = v) (k : Own p e below Q (T.setTop (mkF m (pc + 1) L (.long v :: S)))) : Own p e below Q (T.setTop (mkF m pc L S)) := by
  subst hv; exact ogo (fun _ k => XS.lconst X.here hx rfl hd k) k
theorem o_aconst_null (X : Stand p l e R s m args below meth c T locs cells slots) (hx : p.tables.exec = Jvm.exec) {pc : Nat} {L : Array Slot} {S : List Value} (hd : decode c.code pc = .ok (.aconst_null, 1)) (k : Own p e below Q (T.setTop (mkF m (pc + 1) L (.null :: S)))) : Own p e below Q (T.setTop (mkF m pc L S)) :=
  ogo (fun _ k => XS.aconstNull X.here hx rfl hd k) k
theorem o_iadd (X : Stand p l e R s m args below meth c T locs cells slots) (hx : p.tables.exec = Jvm.exec) {pc : Nat} {L : Array Slot} {S : List Value} {x y : Int32} (hd : decode c.code pc = .ok (.iadd, 1)) (k : Own p e below Q (T.setTop (mkF m (pc + 1) L (.int (x + y) :: S)))) : Own p e below Q (T.setTop (mkF m pc L (.int y :: .int x :: S))) :=
  ogo (fun _ k => XS.iadd X.here hx rfl hd rfl k) k
theorem o_isub (X : Stand p l e R s m args below meth c T locs cells slots) (hx : p.tables.exec = Jvm.exec) {pc : Nat} {L : Array Slot} {S : List Value} {x y : Int32} (hd : decode c.code pc = .ok (.isub, 1)) (k : Own p e below Q (T.setTop (mkF m (pc + 1) L (.int (x - y) :: S)))) : Own p e below Q (T.setTop (mkF m pc L (.int y :: .int x :: S))) :=
  ogo (fun _ k => XS.isub X.here hx rfl hd rfl k) k
theorem o_imul (X : Stand p l e R s m args below meth c T locs cells slots) (hx : p.tables.exec = Jvm.exec) {pc : Nat} {L : Array Slot} {S : List Value} {x y : Int32} (hd : decode c.code pc = .ok (.imul, 1)) (k : Own p e below Q (T.setTop (mkF m (pc + 1) L (.int (x * y) :: S)))) : Own p e below Q (T.setTop (mkF m pc L (.int y :: .int x :: S))) :=
  ogo (fun _ k => XS.imul X.here hx rfl hd rfl k) k
theorem o_iand (X : Stand p l e R s m args below meth c T locs cells slots) (hx : p.tables.exec = Jvm.exec) {pc : Nat} {L : Array Slot} {S : List Value} {x y : Int32} (hd : decode c.code pc = .ok (.iand, 1)) (k : Own p e below Q (T.setTop (mkF m (pc + 1) L (.int (x &&& y) :: S)))) : Own p e below Q (T.setTop (mkF m pc L (.int y :: .int x :: S))) :=
  ogo (fun _ k => XS.iand X.here hx rfl hd rfl k) k
theorem o_ior (X : Stand p l e R s m args below meth c T locs cells slots) (hx : p.tables.exec = Jvm.exec) {pc : Nat} {L : Array Slot} {S : List Value} {x y : Int32} (hd : decode c.code pc = .ok (.ior, 1)) (k : Own p e below Q (T.setTop (mkF m (pc + 1) L (.int (x ||| y) :: S)))) : Own p e below Q (T.setTop (mkF m pc L (.int y :: .int x :: S))) :=
  ogo (fun _ k => XS.ior X.here hx rfl hd rfl k) k
theorem o_ixor (X : Stand p l e R s m args below meth c T locs cells slots) (hx : p.tables.exec = Jvm.exec) {pc : Nat} {L : Array Slot} {S : List Value} {x y : Int32} (hd : decode c.code pc = .ok (.ixor, 1)) (k : Own p e below Q (T.setTop (mkF m (pc + 1) L (.int (x ^^^ y) :: S)))) : Own p e below Q (T.setTop (mkF m pc L (.int y :: .int x :: S))) :=
  ogo (fun _ k => XS.ixor X.here hx rfl hd rfl k) k
theorem o_ladd (X : Stand p l e R s m args below meth c T locs cells slots) (hx : p.tables.exec = Jvm.exec) {pc : Nat} {L : Array Slot} {S : List Value} {x y : Int64} (hd : decode c.code pc = .ok (.ladd, 1)) (k : Own p e below Q (T.setTop (mkF m (pc + 1) L (.long (x + y) :: S)))) : Own p e below Q (T.setTop (mkF m pc L (.long y :: .long x :: S))) :=
  ogo (fun _ k => XS.ladd X.here hx rfl hd rfl k) k
theorem o_lsub (X : Stand p l e R s m args below meth c T locs cells slots) (hx : p.tables.exec = Jvm.exec) {pc : Nat} {L : Array Slot} {S : List Value} {x y : Int64} (hd : decode c.code pc = .ok (.lsub, 1)) (k : Own p e below Q (T.setTop (mkF m (pc + 1) L (.long (x - y) :: S)))) : Own p e below Q (T.setTop (mkF m pc L (.long y :: .long x :: S))) :=
  ogo (fun _ k => XS.lsub X.here hx rfl hd rfl k) k
theorem o_lmul (X : Stand p l e R s m args below meth c T locs cells slots) (hx : p.tables.exec = Jvm.exec) {pc : Nat} {L : Array Slot} {S : List Value} {x y : Int64} (hd : decode c.code pc = .ok (.lmul, 1)) (k : Own p e below Q (T.setTop (mkF m (pc + 1) L (.long (x * y) :: S)))) : Own p e below Q (T.setTop (mkF m pc L (.long y :: .long x :: S))) :=
  ogo (fun _ k => XS.lmul X.here hx rfl hd rfl k) k
theorem o_land (X : Stand p l e R s m args below meth c T locs cells slots) (hx : p.tables.exec = Jvm.exec) {pc : Nat} {L : Array Slot} {S : List Value} {x y : Int64} (hd : decode c.code pc = .ok (.land, 1)) (k : Own p e below Q (T.setTop (mkF m (pc + 1) L (.long (x &&& y) :: S)))) : Own p e below Q (T.setTop (mkF m pc L (.long y :: .long x :: S))) :=
  ogo (fun _ k => XS.land X.here hx rfl hd rfl k) k
theorem o_lor (X : Stand p l e R s m args below meth c T locs cells slots) (hx : p.tables.exec = Jvm.exec) {pc : Nat} {L : Array Slot} {S : List Value} {x y : Int64} (hd : decode c.code pc = .ok (.lor, 1)) (k : Own p e below Q (T.setTop (mkF m (pc + 1) L (.long (x ||| y) :: S)))) : Own p e below Q (T.setTop (mkF m pc L (.long y :: .long x :: S))) :=
  ogo (fun _ k => XS.lor X.here hx rfl hd rfl k) k
theorem o_lxor (X : Stand p l e R s m args below meth c T locs cells slots) (hx : p.tables.exec = Jvm.exec) {pc : Nat} {L : Array Slot} {S : List Value} {x y : Int64} (hd : decode c.code pc = .ok (.lxor, 1)) (k : Own p e below Q (T.setTop (mkF m (pc + 1) L (.long (x ^^^ y) :: S)))) : Own p e below Q (T.setTop (mkF m pc L (.long y :: .long x :: S))) :=
  ogo (fun _ k => XS.lxor X.here hx rfl hd rfl k) k
theorem o_ishl (X : Stand p l e R s m args below meth c T locs cells slots) (hx : p.tables.exec = Jvm.exec) {pc : Nat} {L : Array Slot} {S : List Value} {x : Int32} {y : Int32} (hd : decode c.code pc = .ok (.ishl, 1)) (k : Own p e below Q (T.setTop (mkF m (pc + 1) L (.int (x <<< (y &&& 31)) :: S)))) : Own p e below Q (T.setTop (mkF m pc L (.int y :: .int x :: S))) :=
  ogo (fun _ k => XS.ishl X.here hx rfl hd rfl k) k
theorem o_ishr (X : Stand p l e R s m args below meth c T locs cells slots) (hx : p.tables.exec = Jvm.exec) {pc : Nat} {L : Array Slot} {S : List Value} {x : Int32} {y : Int32} (hd : decode c.code pc = .ok (.ishr, 1)) (k : Own p e below Q (T.setTop (mkF m (pc + 1) L (.int (x >>> (y &&& 31)) :: S)))) : Own p e below Q (T.setTop (mkF m pc L (.int y :: .int x :: S))) :=
  ogo (fun _ k => XS.ishr X.here hx rfl hd rfl k) k
theorem o_iushr (X : Stand p l e R s m args below meth c T locs cells slots) (hx : p.tables.exec = Jvm.exec) {pc : Nat} {L : Array Slot} {S : List Value} {x : Int32} {y : Int32} (hd : decode c.code pc = .ok (.iushr, 1)) (k : Own p e below Q (T.setTop (mkF m (pc + 1) L (.int (own_ushr x y) :: S)))) : Own p e below Q (T.setTop (mkF m pc L (.int y :: .int x :: S))) :=
  ogo (fun _ k => XS.iushr X.here hx rfl hd rfl k) k
theorem o_lshl (X : Stand p l e R s m args below meth c T locs cells slots) (hx : p.tables.exec = Jvm.exec) {pc : Nat} {L : Array Slot} {S : List Value} {x : Int64} {y : Int32} (hd : decode c.code pc = .ok (.lshl, 1)) (k : Own p e below Q (T.setTop (mkF m (pc + 1) L (.long (x <<< (y &&& 0x3f).toInt64) :: S)))) : Own p e below Q (T.setTop (mkF m pc L (.int y :: .long x :: S))) :=
  ogo (fun _ k => XS.lshl X.here hx rfl hd rfl k) k
theorem o_lshr (X : Stand p l e R s m args below meth c T locs cells slots) (hx : p.tables.exec = Jvm.exec) {pc : Nat} {L : Array Slot} {S : List Value} {x : Int64} {y : Int32} (hd : decode c.code pc = .ok (.lshr, 1)) (k : Own p e below Q (T.setTop (mkF m (pc + 1) L (.long (x >>> (y &&& 0x3f).toInt64) :: S)))) : Own p e below Q (T.setTop (mkF m pc L (.int y :: .long x :: S))) :=
  ogo (fun _ k => XS.lshr X.here hx rfl hd rfl k) k
theorem o_lushr (X : Stand p l e R s m args below meth c T locs cells slots) (hx : p.tables.exec = Jvm.exec) {pc : Nat} {L : Array Slot} {S : List Value} {x : Int64} {y : Int32} (hd : decode c.code pc = .ok (.lushr, 1)) (k : Own p e below Q (T.setTop (mkF m (pc + 1) L (.long (own_ushrL x y) :: S)))) : Own p e below Q (T.setTop (mkF m pc L (.int y :: .long x :: S))) :=
  ogo (fun _ k => XS.lushr X.here hx rfl hd rfl k) k
theorem o_ineg (X : Stand p l e R s m args below meth c T locs cells slots) (hx : p.tables.exec = Jvm.exec) {pc : Nat} {L : Array Slot} {S : List Value} {x : Int32} (hd : decode c.code pc = .ok (.ineg, 1)) (k : Own p e below Q (T.setTop (mkF m (pc + 1) L (.int (-x) :: S)))) : Own p e below Q (T.setTop (mkF m pc L (.int x :: S))) :=
  ogo (fun _ k => XS.ineg X.here hx rfl hd rfl k) k
theorem o_lneg (X : Stand p l e R s m args below meth c T locs cells slots) (hx : p.tables.exec = Jvm.exec) {pc : Nat} {L : Array Slot} {S : List Value} {x : Int64} (hd : decode c.code pc = .ok (.lneg, 1)) (k : Own p e below Q (T.setTop (mkF m (pc + 1) L (.long (-x) :: S)))) : Own p e below Q (T.setTop (mkF m pc L (.long x :: S))) :=
  ogo (fun _ k => XS.lneg X.here hx rfl hd rfl k) k
theorem o_i2l (X : Stand p l e R s m args below meth c T locs cells slots) (hx : p.tables.exec = Jvm.exec) {pc : Nat} {L : Array Slot} {S : List Value} {x : Int32} (hd : decode c.code pc = .ok (.i2l, 1)) (k : Own p e below Q (T.setTop (mkF m (pc + 1) L (.long (x.toInt64) :: S)))) : Own p e below Q (T.setTop (mkF m pc L (.int x :: S))) :=
  ogo (fun _ k => XS.i2l X.here hx rfl hd rfl k) k
theorem o_l2i (X : Stand p l e R s m args below meth c T locs cells slots) (hx : p.tables.exec = Jvm.exec) {pc : Nat} {L : Array Slot} {S : List Value} {x : Int64} (hd : decode c.code pc = .ok (.l2i, 1)) (k : Own p e below Q (T.setTop (mkF m (pc + 1) L (.int (x.toInt32) :: S)))) : Own p e below Q (T.setTop (mkF m pc L (.long x :: S))) :=
  ogo (fun _ k => XS.l2i X.here hx rfl hd rfl k) k
theorem o_i2b (X : Stand p l e R s m args below meth c T locs cells slots) (hx : p.tables.exec = Jvm.exec) {pc : Nat} {L : Array Slot} {S : List Value} {x : Int32} (hd : decode c.code pc = .ok (.i2b, 1)) (k : Own p e below Q (T.setTop (mkF m (pc + 1) L (.int (x.toInt8.toInt32) :: S)))) : Own p e below Q (T.setTop (mkF m pc L (.int x :: S))) :=
  ogo (fun _ k => XS.i2b X.here hx rfl hd rfl k) k
theorem o_i2s (X : Stand p l e R s m args below meth c T locs cells slots) (hx : p.tables.exec = Jvm.exec) {pc : Nat} {L : Array Slot} {S : List Value} {x : Int32} (hd : decode c.code pc = .ok (.i2s, 1)) (k : Own p e below Q (T.setTop (mkF m (pc + 1) L (.int (x.toInt16.toInt32) :: S)))) : Own p e below Q (T.setTop (mkF m pc L (.int x :: S))) :=
  ogo (fun _ k => XS.i2s X.here hx rfl hd rfl k) k
theorem o_i2c (X : Stand p l e R s m args below meth c T locs cells slots) (hx : p.tables.exec = Jvm.exec) {pc : Nat} {L : Array Slot} {S : List Value} {x : Int32} (hd : decode c.code pc = .ok (.i2c, 1)) (k : Own p e below Q (T.setTop (mkF m (pc + 1) L (.int (nar .char x) :: S)))) : Own p e below Q (T.setTop (mkF m pc L (.int x :: S))) :=
  ogo (fun _ k => XS.i2c X.here hx rfl hd rfl k) k
theorem o_lcmp (X : Stand p l e R s m args below meth c T locs cells slots) (hx : p.tables.exec = Jvm.exec) {pc : Nat} {L : Array Slot} {S : List Value} {x y : Int64} (hd : decode c.code pc = .ok (.lcmp, 1)) (k : Own p e below Q (T.setTop (mkF m (pc + 1) L (.int (lcmpW x y) :: S)))) : Own p e below Q (T.setTop (mkF m pc L (.long y :: .long x :: S))) :=
  ogo (fun _ k => XS.lcmp X.here hx rfl hd rfl k) k
theorem o_idiv (X : Stand p l e R s m args below meth c T locs cells slots) (hx : p.tables.exec = Jvm.exec) {pc : Nat} {L : Array Slot} {S : List Value} {x y : Int32} (hd : decode c.code pc = .ok (.idiv, 1)) (hy : y ≠ 0) (k : Own p e below Q (T.setTop (mkF m (pc + 1) L (.int (x / y) :: S)))) : Own p e below Q (T.setTop (mkF m pc L (.int y :: .int x :: S))) :=
  ogo (fun _ k => XS.idiv X.here hx rfl hd rfl hy k) k
theorem o_ldiv (X : Stand p l e R s m args below meth c T locs cells slots) (hx : p.tables.exec = Jvm.exec) {pc : Nat} {L : Array Slot} {S : List Value} {x y : Int64} (hd : decode c.code pc = .ok (.ldiv, 1)) (hy : y ≠ 0) (k : Own p e below Q (T.setTop (mkF m (pc + 1) L (.long (x / y) :: S)))) : Own p e below Q (T.setTop (mkF m pc L (.long y :: .long x :: S))) :=
  ogo (fun _ k => XS.ldiv X.here hx rfl hd rfl hy k) k
theorem o_lrem (X : Stand p l e R s m args below meth c T locs cells slots) (hx : p.tables.exec = Jvm.exec) {pc : Nat} {L : Array Slot} {S : List Value} {x y : Int64} (hd : decode c.code pc = .ok (.lrem, 1)) (hy : y ≠ 0) (k : Own p e below Q (T.setTop (mkF m (pc + 1) L (.long (x - (x / y) * y) :: S)))) : Own p e below Q (T.setTop (mkF m pc L (.long y :: .long x :: S))) :=
  ogo (fun _ k => XS.lrem X.here hx rfl hd rfl hy k) k
theorem o_irem (X : Stand p l e R s m args below meth c T locs cells slots) (hx : p.tables.exec = Jvm.exec) {pc : Nat} {L : Array Slot} {S : List Value} {x y : Int32} (hd : decode c.code pc = .ok (.irem, 1)) (hy : y ≠ 0) (k : Own p e below Q (T.setTop (mkF m (pc + 1) L (.int (x % y) :: S)))) : Own p e below Q (T.setTop (mkF m pc L (.int y :: .int x :: S))) :=
  ogo (fun _ k => iremM X hx rfl hd rfl hy k) k
theorem o_iinc (X : Stand p l e R s m args below meth c T locs cells slots) (hx : p.tables.exec = Jvm.exec) {pc : Nat} {L : Array Slot} {S : List Value} {i : Nat} {n : Int} {x : Int32} {l' : Array Slot} (hd : decode c.code pc = .ok (.iinc i n, 3)) (hl : L[i]? = some (.val (.int x))) (hl' : storeLocals L i (.int (x + Int32.ofInt n)) = some l') (k : Own p e below Q (T.setTop (mkF m (pc + 3) l' S))) : Own p e below Q (T.setTop (mkF m pc L S)) :=
  ogo (fun _ k => XS.iinc X.here hx rfl hd hl hl' k) k
theorem o_dup (X : Stand p l e R s m args below meth c T locs cells slots) (hx : p.tables.exec = Jvm.exec) {pc : Nat} {L : Array Slot} {S : List Value} {v : Value} (hd : decode c.code pc = .ok (.dup, 1)) (hc : v.category = 1) (k : Own p e below Q (T.setTop (mkF m (pc + 1) L (v :: v :: S)))) : Own p e below Q (T.setTop (mkF m pc L (v :: S))) :=
  ogo (fun _ k => XS.dup X.here hx rfl hd rfl hc k) k
theorem o_dup_x1 (X : Stand p l e R s m args below meth c T locs cells slots) (hx : p.tables.exec = Jvm.exec) {pc : Nat} {L : Array Slot} {S : List Value} {v w : Value} (hd : decode c.code pc = .ok (.dup_x1, 1)) (hc : v.category = 1) (hc' : w.category = 1) (k : Own p e below Q (T.setTop (mkF m (pc + 1) L (v :: w :: v :: S)))) : Own p e below Q (T.setTop (mkF m pc L (v :: w :: S))) :=
  ogo (fun _ k => XS.dupX1 X.here hx rfl hd rfl hc hc' k) k
theorem o_pop (X : Stand p l e R s m args below meth c T locs cells slots) (hx : p.tables.exec = Jvm.exec) {pc : Nat} {L : Array Slot} {S : List Value} {v : Value} (hd : decode c.code pc = .ok (.pop, 1)) (hc : v.category = 1) (k : Own p e below Q (T.setTop (mkF m (pc + 1) L S))) : Own p e below Q (T.setTop (mkF m pc L (v :: S))) :=
  ogo (fun _ k => XS.pop X.here hx rfl hd rfl hc k) k
theorem o_goto (X : Stand p l e R s m args below meth c T locs cells slots) (hx : p.tables.exec = Jvm.exec) {pc : Nat} {L : Array Slot} {S : List Value} {o : Int} (pc' : Nat) (hd : decode c.code pc = .ok (.goto o, 3)) (ho : 0 ≤ (pc : Int) + o) (hp : ((pc : Int) + o).toNat = pc') (k : Own p e below Q (T.setTop (mkF m (pc') L S))) : Own p e below Q (T.setTop (mkF m pc L S)) :=
  ogo (fun _ k => XS.goto X.here hx rfl rfl hd ho hp k) k
theorem o_ifYes (X : Stand p l e R s m args below meth c T locs cells slots) (hx : p.tables.exec = Jvm.exec) {pc : Nat} {L : Array Slot} {S : List Value} {cd : ClassFile.Cond} {x : Int32} {o : Int} (pc' : Nat) (hd : decode c.code pc = .ok (.ifCond cd o, 3)) (hc : if_icmp.holds cd x 0 = true) (ho : 0 ≤ (pc : Int) + o) (hp : ((pc : Int) + o).toNat = pc') (k : Own p e below Q (T.setTop (mkF m (pc') L S))) : Own p e below Q (T.setTop (mkF m pc L (.int x :: S))) :=
  ogo (fun _ k => XS.ifYes X.here hx rfl rfl hd rfl ((if0 _ _).trans hc) ho hp k) k
theorem o_ifNo (X : Stand p l e R s m args below meth c T locs cells slots) (hx : p.tables.exec = Jvm.exec) {pc : Nat} {L : Array Slot} {S : List Value} {cd : ClassFile.Cond} {x : Int32} {o : Int} (hd : decode c.code pc = .ok (.ifCond cd o, 3)) (hc : if_icmp.holds cd x 0 = false) (k : Own p e below Q (T.setTop (mkF m (pc + 3) L S))) : Own p e below Q (T.setTop (mkF m pc L (.int x :: S))) :=
  ogo (fun _ k => XS.ifNo X.here hx rfl hd rfl ((if0 _ _).trans hc) k) k
theorem o_icmpYes (X : Stand p l e R s m args below meth c T locs cells slots) (hx : p.tables.exec = Jvm.exec) {pc : Nat} {L : Array Slot} {S : List Value} {cd : ClassFile.Cond} {x y : Int32} {o : Int} (pc' : Nat) (hd : decode c.code pc = .ok (.if_icmp cd o, 3)) (hc : if_icmp.holds cd x y = true) (ho : 0 ≤ (pc : Int) + o) (hp : ((pc : Int) + o).toNat = pc') (k : Own p e below Q (T.setTop (mkF m (pc') L S))) : Own p e below Q (T.setTop (mkF m pc L (.int y :: .int x :: S))) :=
  ogo (fun _ k => XS.icmpYes X.here hx rfl rfl hd rfl hc ho hp k) k
theorem o_icmpNo (X : Stand p l e R s m args below meth c T locs cells slots) (hx : p.tables.exec = Jvm.exec) {pc : Nat} {L : Array Slot} {S : List Value} {cd : ClassFile.Cond} {x y : Int32} {o : Int} (hd : decode c.code pc = .ok (.if_icmp cd o, 3)) (hc : if_icmp.holds cd x y = false) (k : Own p e below Q (T.setTop (mkF m (pc + 3) L S))) : Own p e below Q (T.setTop (mkF m pc L (.int y :: .int x :: S))) :=
  ogo (fun _ k => XS.icmpNo X.here hx rfl hd rfl hc k) k
theorem o_ifnullYes (X : Stand p l e R s m args below meth c T locs cells slots) (hx : p.tables.exec = Jvm.exec) {pc : Nat} {L : Array Slot} {S : List Value} {o : Int} (pc' : Nat) (hd : decode c.code pc = .ok (.ifnull o, 3)) (ho : 0 ≤ (pc : Int) + o) (hp : ((pc : Int) + o).toNat = pc') (k : Own p e below Q (T.setTop (mkF m (pc') L S))) : Own p e below Q (T.setTop (mkF m pc L (.null :: S))) :=
  ogo (fun _ k => XS.ifnullYes X.here hx rfl rfl hd rfl ho hp k) k
theorem o_ifnullNo (X : Stand p l e R s m args below meth c T locs cells slots) (hx : p.tables.exec = Jvm.exec) {pc : Nat} {L : Array Slot} {S : List Value} {o : Int} {b : Addr} (hd : decode c.code pc = .ok (.ifnull o, 3)) (k : Own p e below Q (T.setTop (mkF m (pc + 3) L S))) : Own p e below Q (T.setTop (mkF m pc L (.ref b :: S))) :=
  ogo (fun _ k => XS.ifnullNo X.here hx rfl hd rfl k) k
theorem o_ifnonnullYes (X : Stand p l e R s m args below meth c T locs cells slots) (hx : p.tables.exec = Jvm.exec) {pc : Nat} {L : Array Slot} {S : List Value} {o : Int} {b : Addr} (pc' : Nat) (hd : decode c.code pc = .ok (.ifnonnull o, 3)) (ho : 0 ≤ (pc : Int) + o) (hp : ((pc : Int) + o).toNat = pc') (k : Own p e below Q (T.setTop (mkF m (pc') L S))) : Own p e below Q (T.setTop (mkF m pc L (.ref b :: S))) :=
  ogo (fun _ k => XS.ifnonnullYes X.here hx rfl rfl hd rfl ho hp k) k
theorem o_ifnonnullNo (X : Stand p l e R s m args below meth c T locs cells slots) (hx : p.tables.exec = Jvm.exec) {pc : Nat} {L : Array Slot} {S : List Value} {o : Int} (hd : decode c.code pc = .ok (.ifnonnull o, 3)) (k : Own p e below Q (T.setTop (mkF m (pc + 3) L S))) : Own p e below Q (T.setTop (mkF m pc L (.null :: S))) :=
  ogo (fun _ k => XS.ifnonnullNo X.here hx rfl hd rfl k) k
theorem o_acmp (X : Stand p l e R s m args below meth c T locs cells slots) (hx : p.tables.exec = Jvm.exec) {pc : Nat} {L : Array Slot} {S : List Value} {cd : ClassFile.ACond} {x y : Value} {o : Int} (pc' : Nat) (same : Bool) (h1 : x.isRef = true) (h2 : y.isRef = true) (hd : decode c.code pc = .ok (.if_acmp cd o, 3)) (hq : decide (x = y) = same) (ho : 0 ≤ (pc : Int) + o) (hp : pc' = if acV cd same = true then ((pc : Int) + o).toNat else pc + 3) (k : Own p e below Q (T.setTop (mkF m (pc') L S))) : Own p e below Q (T.setTop (mkF m pc L (y :: x :: S))) :=
  ogo (fun _ k => Jvm.RoadKit.acmp X hx rfl h1 h2 rfl hd rfl hq ho hp k) k
theorem o_tswIn (X : Stand p l e R s m args below meth c T locs cells slots) (hx : p.tables.exec = Jvm.exec) {pc : Nat} {L : Array Slot} {S : List Value} {d lo hi : Int} {offs : Array Int} {len : Nat} {o : Int} {i : Int32} (pc' : Nat) (hd : decode c.code pc = .ok (.tableswitch d lo hi offs, len)) (hin : ¬ (i.toInt < lo ∨ i.toInt > hi)) (hoff : offs[(i.toInt - lo).toNat]? = some o) (ho : 0 ≤ (pc : Int) + o) (hp : ((pc : Int) + o).toNat = pc') (k : Own p e below Q (T.setTop (mkF m (pc') L S))) : Own p e below Q (T.setTop (mkF m pc L (.int i :: S))) :=
  ogo (fun _ k => XS.tswIn X.here hx rfl rfl hd rfl hin hoff ho hp k) k
theorem o_tswOut (X : Stand p l e R s m args below meth c T locs cells slots) (hx : p.tables.exec = Jvm.exec) {pc : Nat} {L : Array Slot} {S : List Value} {d lo hi : Int} {offs : Array Int} {len : Nat} {i : Int32} (pc' : Nat) (hd : decode c.code pc = .ok (.tableswitch d lo hi offs, len)) (hout : i.toInt < lo ∨ i.toInt > hi) (ho : 0 ≤ (pc : Int) + d) (hp : ((pc : Int) + d).toNat = pc') (k : Own p e below Q (T.setTop (mkF m (pc') L S))) : Own p e below Q (T.setTop (mkF m pc L (.int i :: S))) :=
  ogo (fun _ k => XS.tswOut X.here hx rfl rfl hd rfl hout ho hp k) k
end Steps

theorem own_cat {v : Value} (h : v.isRef = true) : v.category = 1 := by cases v <;> simp_all [Value.isRef, Value.category]
theorem own_narc (x : Int32) : nar .char (nar .char x) = nar .char x := by
  have h := c_i2c x
  have h' := c_i2c (nar .char x)
  refine Int32.toInt_inj.mp ?_
  show (nar .char x).toUInt32.toUInt16.toUInt32.toInt32.toInt = (nar .char x).toInt
  have e : (nar .char x).toInt = x.toUInt32.toUInt16.toUInt32.toInt32.toInt := rfl
  omega
theorem own_narb (x : Int32) : nar .byte x.toInt8.toInt32 = x.toInt8.toInt32 := by
  have h := c_i2b x
  have h' := c_i2b x.toInt8.toInt32
  refine Int32.toInt_inj.mp ?_
  show x.toInt8.toInt32.toInt8.toInt32.toInt = x.toInt8.toInt32.toInt
  omega
theorem own_eqref {args : Array Value} {s : State} {a b : Term} {z : Addr} (h : (Jvm.Cond.eq a b).value args s none s [] = some true) (hb : b.eval args s none [] s = some (.ref z)) : a.eval args s none [] s = some (.ref z) := by
  obtain ⟨x, y, h1, h2, k1, k2⟩ := cmp_v (Or.inl h)
  cases hb.symm.trans h2
  have q := gotT (eq_R h1 h2 k2.2 rfl) h
  rw [← q]; exact h1
def own_cls (M L H : Addr) (sv : Int64) (rv : Int32) : Addr := if rv = (0 : Int32) then L else if sv < rv.toInt64 * (1048576 : Int64) then L else if rv.toInt64 * (104857600 : Int64) < sv then H else M
def own_exp (M L H : Addr) (sv : Int64) (rv : Int32) : Addr := if rv = (0 : Int32) then L else if sv / rv.toInt64 < (1048576 : Int64) then L else if sv / rv.toInt64 < (104857600 : Int64) then M else if sv / rv.toInt64 = (104857600 : Int64) then (if sv - sv / rv.toInt64 * rv.toInt64 = (0 : Int64) then M else H) else H
theorem own_i2l0 {r : Int32} (h : r.toInt64 = (0 : Int64)) : r = 0 := by
  have q : r.toInt64.toInt = (0 : Int64).toInt := by rw [h]
  rw [Int32.toInt_toInt64] at q
  exact Int32.toInt_inj.mp q
theorem own_m31 (k : Int32) : 0 ≤ (k &&& (2147483647 : Int32)).toInt := (c_and k (2147483647 : Int32) (by decide)).1
theorem own_m8 (k : Int32) : 0 ≤ (k &&& (255 : Int32)).toInt := (c_and k (255 : Int32) (by decide)).1
theorem own_nneg {x : Int64} (h : ¬ x < (0 : Int64)) : 0 ≤ x.toInt := by
  rw [Int64.lt_iff_toInt_lt] at h
  have e : (0 : Int64).toInt = 0 := rfl
  omega
theorem own_same (M L H : Addr) {sv : Int64} {rv : Int32} (hs : 0 ≤ sv.toInt) (hr : 0 ≤ rv.toInt) : own_cls M L H sv rv = own_exp M L H sv rv := by
  unfold own_cls own_exp
  by_cases h0 : rv = (0 : Int32)
  · rw [if_pos h0, if_pos h0]
  rw [if_neg h0, if_neg h0]
  have hr0 : 0 < rv.toInt := by
    rcases Int.lt_or_eq_of_le hr with q | q
    · exact q
    · exact absurd (Int32.toInt_inj.mp (show rv.toInt = (0 : Int32).toInt from q.symm)) h0
  have hrl : rv.toInt < 2147483648 := (rng32 rv).2
  have eR : rv.toInt64.toInt = rv.toInt := Int32.toInt_toInt64 rv
  have e1 : (1048576 : Int64).toInt = 1048576 := rfl
  have e2 : (104857600 : Int64).toInt = 104857600 := rfl
  have e3 : (0 : Int64).toInt = 0 := rfl
  have eM : (rv.toInt64 * (1048576 : Int64)).toInt = rv.toInt * 1048576 := by
    have q := c_lmul rv.toInt64 (1048576 : Int64); have b := rng64 (rv.toInt64 * (1048576 : Int64)); rw [eR, e1] at q; omega
  have eH : (rv.toInt64 * (104857600 : Int64)).toInt = rv.toInt * 104857600 := by
    have q := c_lmul rv.toInt64 (104857600 : Int64); have b := rng64 (rv.toInt64 * (104857600 : Int64)); rw [eR, e2] at q; omega
  have n1 : rv.toInt64 ≠ -1 := fun q => by
    have : rv.toInt64.toInt = (-1 : Int64).toInt := by rw [q]
    rw [eR] at this
    have e : (-1 : Int64).toInt = -1 := rfl
    omega
  have eD := (c_ldiv sv rv.toInt64 rv.toInt eR n1).1 hs
  have eQ := (c_lrem sv rv.toInt64 rv.toInt eR).1 hs
  simp only [Int64.lt_iff_toInt_lt, ← Int64.toInt_inj, eM, eH, eD, eQ, e1, e2, e3]
  have d1 := Int.ediv_lt_iff_lt_mul (a := sv.toInt) (b := 1048576) hr0
  have d2 := Int.ediv_lt_iff_lt_mul (a := sv.toInt) (b := 104857600) hr0
  have d3 := Int.ediv_lt_iff_lt_mul (a := sv.toInt) (b := 104857601) hr0
  have d4 := Int.emod_def sv.toInt rv.toInt
  have d5 := Int.emod_nonneg sv.toInt (Int.ne_of_gt hr0)
  generalize sv.toInt / rv.toInt = q at *
  generalize sv.toInt % rv.toInt = w at *
  by_cases c1 : sv.toInt < rv.toInt * 1048576
  · have b1 : q < 1048576 := by omega
    rw [if_pos c1, if_pos b1]
  have b1 : ¬ q < 1048576 := by omega
  rw [if_neg c1, if_neg b1]
  by_cases c2 : rv.toInt * 104857600 < sv.toInt
  · have b2 : ¬ q < 104857600 := by omega
    rw [if_pos c2, if_neg b2]
    by_cases c3 : q = 104857600
    · have b3 : ¬ w = 0 := by subst c3; omega
      rw [if_pos c3, if_neg b3]
    · rw [if_neg c3]
  · rw [if_neg c2]
    by_cases c4 : q < 104857600
    · rw [if_pos c4]
    · have c5 : q = 104857600 := by omega
      have b5 : w = 0 := by
        subst c5
        omega
      rw [if_neg c4, if_pos c5, if_pos b5]
def own_Start (Z : State) (s_MEDIUM : Addr) (s_LIGHT : Addr) (s_HEAVY : Addr) : Prop := (Sta Z Z.heap "com/example/shufflewise/shufflewise/sched/ShuffleClass" "MEDIUM" "Lcom/example/shufflewise/shufflewise/sched/ShuffleClass;" (.ref s_MEDIUM)) ∧ (Exa Z Z.heap s_MEDIUM "com/example/shufflewise/shufflewise/sched/ShuffleClass") ∧ (Sta Z Z.heap "com/example/shufflewise/shufflewise/sched/ShuffleClass" "LIGHT" "Lcom/example/shufflewise/shufflewise/sched/ShuffleClass;" (.ref s_LIGHT)) ∧ (Exa Z Z.heap s_LIGHT "com/example/shufflewise/shufflewise/sched/ShuffleClass") ∧ (Sta Z Z.heap "com/example/shufflewise/shufflewise/sched/ShuffleClass" "HEAVY" "Lcom/example/shufflewise/shufflewise/sched/ShuffleClass;" (.ref s_HEAVY)) ∧ (Exa Z Z.heap s_HEAVY "com/example/shufflewise/shufflewise/sched/ShuffleClass")
theorem d1_0 : decode prog_88_method_6_code 0 = .ok (.iload_n 2, 1) := by decide +kernel
theorem d1_1 : decode prog_88_method_6_code 1 = .ok (.ifCond .eq 14, 3) := by decide +kernel
theorem d1_15 : decode prog_88_method_6_code 15 = .ok (.getstatic 3, 3) := by decide +kernel
theorem d1_18 : decode prog_88_method_6_code 18 = .ok (.areturn, 1) := by decide +kernel
theorem d1_4 : decode prog_88_method_6_code 4 = .ok (.lload_n 0, 1) := by decide +kernel
theorem d1_5 : decode prog_88_method_6_code 5 = .ok (.iload_n 2, 1) := by decide +kernel
theorem d1_6 : decode prog_88_method_6_code 6 = .ok (.i2l, 1) := by decide +kernel
theorem d1_7 : decode prog_88_method_6_code 7 = .ok (.ldc2_w 52, 3) := by decide +kernel
theorem d1_10 : decode prog_88_method_6_code 10 = .ok (.lmul, 1) := by decide +kernel
theorem d1_11 : decode prog_88_method_6_code 11 = .ok (.lcmp, 1) := by decide +kernel
theorem d1_12 : decode prog_88_method_6_code 12 = .ok (.ifCond .ge 7, 3) := by decide +kernel
theorem d1_19 : decode prog_88_method_6_code 19 = .ok (.lload_n 0, 1) := by decide +kernel
theorem d1_20 : decode prog_88_method_6_code 20 = .ok (.iload_n 2, 1) := by decide +kernel
theorem d1_21 : decode prog_88_method_6_code 21 = .ok (.i2l, 1) := by decide +kernel
theorem d1_22 : decode prog_88_method_6_code 22 = .ok (.ldc2_w 54, 3) := by decide +kernel
theorem d1_25 : decode prog_88_method_6_code 25 = .ok (.lmul, 1) := by decide +kernel
theorem d1_26 : decode prog_88_method_6_code 26 = .ok (.lcmp, 1) := by decide +kernel
theorem d1_27 : decode prog_88_method_6_code 27 = .ok (.ifCond .gt 9, 3) := by decide +kernel
theorem d1_36 : decode prog_88_method_6_code 36 = .ok (.getstatic 10, 3) := by decide +kernel
theorem d1_39 : decode prog_88_method_6_code 39 = .ok (.areturn, 1) := by decide +kernel
theorem d1_30 : decode prog_88_method_6_code 30 = .ok (.getstatic 7, 3) := by decide +kernel
theorem d1_33 : decode prog_88_method_6_code 33 = .ok (.goto 6, 3) := by decide +kernel
theorem own_pn0 : plainName "com/example/shufflewise/shufflewise/sched/ShuffleClass" = true := by first | (simp [plainName, overriddenIn]; done) | decide +kernel
def own_Q_ofEach (Z : State) (s_MEDIUM : Addr) (s_LIGHT : Addr) (s_HEAVY : Addr) (sv : Int64) (rv : Int32) (h0 : Heap) (n0 : Nat) (v : Option Value) (h : Heap) (L : List Loc) : Prop := (v = some (.ref (own_cls s_MEDIUM s_LIGHT s_HEAVY sv rv))) ∧ (Fr n0 L) ∧ (h = h0)
abbrev yM0 : MethodName := ⟨"com/example/shufflewise/shufflewise/sched/ShuffleClass", "ofEach", "(JI)Lcom/example/shufflewise/shufflewise/sched/ShuffleClass;"⟩
set_option maxRecDepth 65536 in
set_option maxHeartbeats 40000000 in
theorem rm_ofEach (l : Launch) (Z : State) (a0 : Array Value) (hw : ∀ d ∈ tables_1, d.before a0 Z = true) (ws : List Jvm.Cond) (s_MEDIUM : Addr) (s_LIGHT : Addr) (s_HEAVY : Addr) (sv : Int64) (rv : Int32) (h0 : Heap) (n0 : Nat) (SB : own_Start Z s_MEDIUM s_LIGHT s_HEAVY) (O0 : Old Z n0 h0)  :
    oMet l Z yM0 prog_88_method_6_code 3 (some (.object "com/example/shufflewise/shufflewise/sched/ShuffleClass")) ws ({ frames := 0, cells := 0, slots := 0, locals := 0 } : Room) 0 0 #[(.long sv), (.int rv)] h0 (own_Q_ofEach Z s_MEDIUM s_LIGHT s_HEAVY sv rv h0 n0) := by
  refine oenter own_pn0 #[.val (.long sv), .second, .val (.int rv)] (fun m => by first | (simp [entryFrame, mkF, argsToLocals, Value.category]; done) | rfl) ?_
  intro p e s m below meth c s₁ X0 hx hZ hby hml hret hown0 hnm hlk e0
  have hown : s.vm.findClass "com/example/shufflewise/shufflewise/sched/ShuffleClass" = some m.cls := hown0
  have N0 := Fr.nil n0
  obtain ⟨S_s_MEDIUM, E_s_MEDIUM, S_s_LIGHT, E_s_LIGHT, S_s_HEAVY, E_s_HEAVY⟩ := (id SB)
  have w6 := hw _ (List.mem_of_getElem? (i := 6) rfl)
  have w7 := hw _ (List.mem_of_getElem? (i := 7) rfl)
  have w8 := hw _ (List.mem_of_getElem? (i := 8) rfl)
  have w17 := hw _ (List.mem_of_getElem? (i := 17) rfl)
  have w20 := hw _ (List.mem_of_getElem? (i := 20) rfl)
  refine o_iloadN X0 hx (hb hby d1_0) rfl ?_
  by_cases hc1 : rv = (0 : Int32)
  · refine o_ifYes X0 hx 15 (hb hby d1_1) (teq hc1).1 (by decide) (by decide) ?_
    obtain ⟨T2, X2, e2, st2⟩ := getS2 X0 hx hZ hown (host := "") (Or.inl w17) Via.refl e0 (Sta.ext O0.2 S_s_LIGHT) (g := (mkF m 15 #[.val (.long sv), .second, .val (.int rv)] [])) rfl (hb hby d1_15)
    refine ogo (S' := T2.setTop (mkF m 18 #[.val (.long sv), .second, .val (.int rv)] [(.ref s_LIGHT)])) st2 ?_
    refine oend X2 hlk (v := some (.ref s_LIGHT)) (fun h => by rw [hret] at h; cases h) (fun fs hr => retOut X2 hx (t := (.object "com/example/shufflewise/shufflewise/sched/ShuffleClass")) (i := .areturn) hret rfl (Or.inr (Or.inr (Or.inr (Or.inr ⟨rfl, rfl, rfl⟩)))) (hb hby d1_18) hr) (by decide) (by decide) ?_
    show own_Q_ofEach Z _ _ _ _ _ h0 n0 _ T2.heap _
    rw [e2]
    refine ⟨?_, N0, rfl⟩
    unfold own_cls; rw [if_pos hc1]
  · refine o_ifNo X0 hx (hb hby d1_1) (feq hc1).1 ?_
    refine o_lloadN X0 hx (hb hby d1_4) rfl ?_
    refine o_iloadN X0 hx (hb hby d1_5) rfl ?_
    refine o_i2l X0 hx (hb hby d1_6) ?_
    refine ogo (S' := s₁.setTop (mkF m 10 #[.val (.long sv), .second, .val (.int rv)] [(.long (1048576 : Int64)), (.long rv.toInt64), (.long sv)])) (X0.ldc2Long hx hown (mvT hZ w6) (g := (mkF m 7 #[.val (.long sv), .second, .val (.int rv)] [(.long rv.toInt64), (.long sv)])) rfl (hb hby d1_7)) ?_
    refine o_lmul X0 hx (hb hby d1_10) ?_
    refine o_lcmp X0 hx (hb hby d1_11) ?_
    by_cases hc3 : sv < (rv.toInt64 * (1048576 : Int64))
    · refine o_ifNo X0 hx (hb hby d1_12) (tlt ((lw_lt _ _).mpr hc3)).2.1 ?_
      obtain ⟨T4, X4, e4, st4⟩ := getS2 X0 hx hZ hown (host := "") (Or.inl w17) Via.refl e0 (Sta.ext O0.2 S_s_LIGHT) (g := (mkF m 15 #[.val (.long sv), .second, .val (.int rv)] [])) rfl (hb hby d1_15)
      refine ogo (S' := T4.setTop (mkF m 18 #[.val (.long sv), .second, .val (.int rv)] [(.ref s_LIGHT)])) st4 ?_
      refine oend X4 hlk (v := some (.ref s_LIGHT)) (fun h => by rw [hret] at h; cases h) (fun fs hr => retOut X4 hx (t := (.object "com/example/shufflewise/shufflewise/sched/ShuffleClass")) (i := .areturn) hret rfl (Or.inr (Or.inr (Or.inr (Or.inr ⟨rfl, rfl, rfl⟩)))) (hb hby d1_18) hr) (by decide) (by decide) ?_
      show own_Q_ofEach Z _ _ _ _ _ h0 n0 _ T4.heap _
      rw [e4]
      refine ⟨?_, N0, rfl⟩
      unfold own_cls; rw [if_neg hc1, if_pos hc3]
    · refine o_ifYes X0 hx 19 (hb hby d1_12) (flt (fun q => hc3 ((lw_lt _ _).mp q))).2.1 (by decide) (by decide) ?_
      refine o_lloadN X0 hx (hb hby d1_19) rfl ?_
      refine o_iloadN X0 hx (hb hby d1_20) rfl ?_
      refine o_i2l X0 hx (hb hby d1_21) ?_
      refine ogo (S' := s₁.setTop (mkF m 25 #[.val (.long sv), .second, .val (.int rv)] [(.long (104857600 : Int64)), (.long rv.toInt64), (.long sv)])) (X0.ldc2Long hx hown (mvT hZ w7) (g := (mkF m 22 #[.val (.long sv), .second, .val (.int rv)] [(.long rv.toInt64), (.long sv)])) rfl (hb hby d1_22)) ?_
      refine o_lmul X0 hx (hb hby d1_25) ?_
      refine o_lcmp X0 hx (hb hby d1_26) ?_
      by_cases hc5 : (rv.toInt64 * (104857600 : Int64)) < sv
      · refine o_ifYes X0 hx 36 (hb hby d1_27) (tlt ((lw_gt _ _).mpr hc5)).2.2.1 (by decide) (by decide) ?_
        obtain ⟨T6, X6, e6, st6⟩ := getS2 X0 hx hZ hown (host := "") (Or.inl w20) Via.refl e0 (Sta.ext O0.2 S_s_HEAVY) (g := (mkF m 36 #[.val (.long sv), .second, .val (.int rv)] [])) rfl (hb hby d1_36)
        refine ogo (S' := T6.setTop (mkF m 39 #[.val (.long sv), .second, .val (.int rv)] [(.ref s_HEAVY)])) st6 ?_
        refine oend X6 hlk (v := some (.ref s_HEAVY)) (fun h => by rw [hret] at h; cases h) (fun fs hr => retOut X6 hx (t := (.object "com/example/shufflewise/shufflewise/sched/ShuffleClass")) (i := .areturn) hret rfl (Or.inr (Or.inr (Or.inr (Or.inr ⟨rfl, rfl, rfl⟩)))) (hb hby d1_39) hr) (by decide) (by decide) ?_
        show own_Q_ofEach Z _ _ _ _ _ h0 n0 _ T6.heap _
        rw [e6]
        refine ⟨?_, N0, rfl⟩
        unfold own_cls; rw [if_neg hc1, if_neg hc3, if_pos hc5]
      · refine o_ifNo X0 hx (hb hby d1_27) (flt (fun q => hc5 ((lw_gt _ _).mp q))).2.2.1 ?_
        obtain ⟨T7, X7, e7, st7⟩ := getS2 X0 hx hZ hown (host := "") (Or.inl w8) Via.refl e0 (Sta.ext O0.2 S_s_MEDIUM) (g := (mkF m 30 #[.val (.long sv), .second, .val (.int rv)] [])) rfl (hb hby d1_30)
        refine ogo (S' := T7.setTop (mkF m 33 #[.val (.long sv), .second, .val (.int rv)] [(.ref s_MEDIUM)])) st7 ?_
        refine o_goto X7 hx 39 (hb hby d1_33) (by decide) (by decide) ?_
        refine oend X7 hlk (v := some (.ref s_MEDIUM)) (fun h => by rw [hret] at h; cases h) (fun fs hr => retOut X7 hx (t := (.object "com/example/shufflewise/shufflewise/sched/ShuffleClass")) (i := .areturn) hret rfl (Or.inr (Or.inr (Or.inr (Or.inr ⟨rfl, rfl, rfl⟩)))) (hb hby d1_39) hr) (by decide) (by decide) ?_
        show own_Q_ofEach Z _ _ _ _ _ h0 n0 _ T7.heap _
        rw [e7]
        refine ⟨?_, N0, rfl⟩
        unfold own_cls; rw [if_neg hc1, if_neg hc3, if_neg hc5]
theorem d2_0 : decode method_2_code 0 = .ok (.iload_n 2, 1) := by decide +kernel
theorem d2_1 : decode method_2_code 1 = .ok (.ifCond .ne 7, 3) := by decide +kernel
theorem d2_4 : decode method_2_code 4 = .ok (.getstatic 7, 3) := by decide +kernel
theorem d2_7 : decode method_2_code 7 = .ok (.areturn, 1) := by decide +kernel
theorem d2_8 : decode method_2_code 8 = .ok (.lload_n 0, 1) := by decide +kernel
theorem d2_9 : decode method_2_code 9 = .ok (.iload_n 2, 1) := by decide +kernel
theorem d2_10 : decode method_2_code 10 = .ok (.i2l, 1) := by decide +kernel
theorem d2_11 : decode method_2_code 11 = .ok (.ldiv, 1) := by decide +kernel
theorem d2_12 : decode method_2_code 12 = .ok (.lstore_n 3, 1) := by decide +kernel
theorem d2_13 : decode method_2_code 13 = .ok (.lload_n 0, 1) := by decide +kernel
theorem d2_14 : decode method_2_code 14 = .ok (.iload_n 2, 1) := by decide +kernel
theorem d2_15 : decode method_2_code 15 = .ok (.i2l, 1) := by decide +kernel
theorem d2_16 : decode method_2_code 16 = .ok (.lrem, 1) := by decide +kernel
theorem d2_17 : decode method_2_code 17 = .ok (.lstore 5, 2) := by decide +kernel
theorem d2_19 : decode method_2_code 19 = .ok (.lload_n 3, 1) := by decide +kernel
theorem d2_20 : decode method_2_code 20 = .ok (.ldc2_w 15, 3) := by decide +kernel
theorem d2_23 : decode method_2_code 23 = .ok (.lcmp, 1) := by decide +kernel
theorem d2_24 : decode method_2_code 24 = .ok (.ifCond .ge 7, 3) := by decide +kernel
theorem d2_27 : decode method_2_code 27 = .ok (.getstatic 7, 3) := by decide +kernel
theorem d2_30 : decode method_2_code 30 = .ok (.areturn, 1) := by decide +kernel
theorem d2_31 : decode method_2_code 31 = .ok (.lload_n 3, 1) := by decide +kernel
theorem d2_32 : decode method_2_code 32 = .ok (.ldc2_w 17, 3) := by decide +kernel
theorem d2_35 : decode method_2_code 35 = .ok (.lcmp, 1) := by decide +kernel
theorem d2_36 : decode method_2_code 36 = .ok (.ifCond .ge 7, 3) := by decide +kernel
theorem d2_39 : decode method_2_code 39 = .ok (.getstatic 19, 3) := by decide +kernel
theorem d2_42 : decode method_2_code 42 = .ok (.areturn, 1) := by decide +kernel
theorem d2_43 : decode method_2_code 43 = .ok (.lload_n 3, 1) := by decide +kernel
theorem d2_44 : decode method_2_code 44 = .ok (.ldc2_w 17, 3) := by decide +kernel
theorem d2_47 : decode method_2_code 47 = .ok (.lcmp, 1) := by decide +kernel
theorem d2_48 : decode method_2_code 48 = .ok (.ifCond .ne 14, 3) := by decide +kernel
theorem d2_51 : decode method_2_code 51 = .ok (.lload 5, 2) := by decide +kernel
theorem d2_53 : decode method_2_code 53 = .ok (.lconst 0, 1) := by decide +kernel
theorem d2_54 : decode method_2_code 54 = .ok (.lcmp, 1) := by decide +kernel
theorem d2_55 : decode method_2_code 55 = .ok (.ifCond .ne 7, 3) := by decide +kernel
theorem d2_58 : decode method_2_code 58 = .ok (.getstatic 19, 3) := by decide +kernel
theorem d2_61 : decode method_2_code 61 = .ok (.areturn, 1) := by decide +kernel
theorem d2_62 : decode method_2_code 62 = .ok (.getstatic 22, 3) := by decide +kernel
theorem d2_65 : decode method_2_code 65 = .ok (.areturn, 1) := by decide +kernel
theorem own_pn1 : plainName "com/example/shufflewise/shufflewise/sched/ShuffleClassOfEachPinLaw" = true := by first | (simp [plainName, overriddenIn]; done) | decide +kernel
def own_Q_expected (Z : State) (s_MEDIUM : Addr) (s_LIGHT : Addr) (s_HEAVY : Addr) (sv : Int64) (rv : Int32) (h0 : Heap) (n0 : Nat) (v : Option Value) (h : Heap) (L : List Loc) : Prop := (v = some (.ref (own_exp s_MEDIUM s_LIGHT s_HEAVY sv rv))) ∧ (Fr n0 L) ∧ (h = h0)
abbrev yM1 : MethodName := ⟨"com/example/shufflewise/shufflewise/sched/ShuffleClassOfEachPinLaw", "expected", "(JI)Lcom/example/shufflewise/shufflewise/sched/ShuffleClass;"⟩
set_option maxRecDepth 65536 in
set_option maxHeartbeats 40000000 in
theorem rm_expected (l : Launch) (Z : State) (a0 : Array Value) (hw : ∀ d ∈ tables_1, d.before a0 Z = true) (ws : List Jvm.Cond) (s_MEDIUM : Addr) (s_LIGHT : Addr) (s_HEAVY : Addr) (sv : Int64) (rv : Int32) (h0 : Heap) (n0 : Nat) (SB : own_Start Z s_MEDIUM s_LIGHT s_HEAVY) (O0 : Old Z n0 h0)  :
    oMet l Z yM1 method_2_code 7 (some (.object "com/example/shufflewise/shufflewise/sched/ShuffleClass")) ws ({ frames := 0, cells := 0, slots := 0, locals := 0 } : Room) 0 0 #[(.long sv), (.int rv)] h0 (own_Q_expected Z s_MEDIUM s_LIGHT s_HEAVY sv rv h0 n0) := by
  refine oenter own_pn1 #[.val (.long sv), .second, .val (.int rv), .unset, .unset, .unset, .unset] (fun m => by first | (simp [entryFrame, mkF, argsToLocals, Value.category]; done) | rfl) ?_
  intro p e s m below meth c s₁ X0 hx hZ hby hml hret hown0 hnm hlk e0
  have hown : s.vm.findClass "com/example/shufflewise/shufflewise/sched/ShuffleClassOfEachPinLaw" = some m.cls := hown0
  have N0 := Fr.nil n0
  obtain ⟨S_s_MEDIUM, E_s_MEDIUM, S_s_LIGHT, E_s_LIGHT, S_s_HEAVY, E_s_HEAVY⟩ := (id SB)
  have w1 := hw _ (List.mem_of_getElem? (i := 1) rfl)
  have w14 := hw _ (List.mem_of_getElem? (i := 14) rfl)
  have w15 := hw _ (List.mem_of_getElem? (i := 15) rfl)
  have w19 := hw _ (List.mem_of_getElem? (i := 19) rfl)
  have w22 := hw _ (List.mem_of_getElem? (i := 22) rfl)
  refine o_iloadN X0 hx (hb hby d2_0) rfl ?_
  by_cases hc1 : rv = (0 : Int32)
  · refine o_ifNo X0 hx (hb hby d2_1) (teq hc1).2 ?_
    obtain ⟨T2, X2, e2, st2⟩ := getS2 X0 hx hZ hown (host := "") (Or.inl w19) Via.refl e0 (Sta.ext O0.2 S_s_LIGHT) (g := (mkF m 4 #[.val (.long sv), .second, .val (.int rv), .unset, .unset, .unset, .unset] [])) rfl (hb hby d2_4)
    refine ogo (S' := T2.setTop (mkF m 7 #[.val (.long sv), .second, .val (.int rv), .unset, .unset, .unset, .unset] [(.ref s_LIGHT)])) st2 ?_
    refine oend X2 hlk (v := some (.ref s_LIGHT)) (fun h => by rw [hret] at h; cases h) (fun fs hr => retOut X2 hx (t := (.object "com/example/shufflewise/shufflewise/sched/ShuffleClass")) (i := .areturn) hret rfl (Or.inr (Or.inr (Or.inr (Or.inr ⟨rfl, rfl, rfl⟩)))) (hb hby d2_7) hr) (by decide) (by decide) ?_
    show own_Q_expected Z _ _ _ _ _ h0 n0 _ T2.heap _
    rw [e2]
    refine ⟨?_, N0, rfl⟩
    unfold own_exp; rw [if_pos hc1]
  · refine o_ifYes X0 hx 8 (hb hby d2_1) (feq hc1).2 (by decide) (by decide) ?_
    refine o_lloadN X0 hx (hb hby d2_8) rfl ?_
    refine o_iloadN X0 hx (hb hby d2_9) rfl ?_
    refine o_i2l X0 hx (hb hby d2_10) ?_
    refine o_ldiv X0 hx (hb hby d2_11) (fun q => hc1 (own_i2l0 q)) ?_
    refine o_lstoreN X0 hx (l' := #[.val (.long sv), .second, .val (.int rv), .val (.long (sv / rv.toInt64)), .second, .unset, .unset]) (hb hby d2_12) rfl ?_
    refine o_lloadN X0 hx (hb hby d2_13) rfl ?_
    refine o_iloadN X0 hx (hb hby d2_14) rfl ?_
    refine o_i2l X0 hx (hb hby d2_15) ?_
    refine o_lrem X0 hx (hb hby d2_16) (fun q => hc1 (own_i2l0 q)) ?_
    refine o_lstore X0 hx (l' := #[.val (.long sv), .second, .val (.int rv), .val (.long (sv / rv.toInt64)), .second, .val (.long (sv - (sv / rv.toInt64) * rv.toInt64)), .second]) (hb hby d2_17) rfl ?_
    refine o_lloadN X0 hx (hb hby d2_19) rfl ?_
    refine ogo (S' := s₁.setTop (mkF m 23 #[.val (.long sv), .second, .val (.int rv), .val (.long (sv / rv.toInt64)), .second, .val (.long (sv - (sv / rv.toInt64) * rv.toInt64)), .second] [(.long (1048576 : Int64)), (.long (sv / rv.toInt64))])) (X0.ldc2Long hx hown (mvT hZ w1) (g := (mkF m 20 #[.val (.long sv), .second, .val (.int rv), .val (.long (sv / rv.toInt64)), .second, .val (.long (sv - (sv / rv.toInt64) * rv.toInt64)), .second] [(.long (sv / rv.toInt64))])) rfl (hb hby d2_20)) ?_
    refine o_lcmp X0 hx (hb hby d2_23) ?_
    by_cases hc3 : (sv / rv.toInt64) < (1048576 : Int64)
    · refine o_ifNo X0 hx (hb hby d2_24) (tlt ((lw_lt _ _).mpr hc3)).2.1 ?_
      obtain ⟨T4, X4, e4, st4⟩ := getS2 X0 hx hZ hown (host := "") (Or.inl w19) Via.refl e0 (Sta.ext O0.2 S_s_LIGHT) (g := (mkF m 27 #[.val (.long sv), .second, .val (.int rv), .val (.long (sv / rv.toInt64)), .second, .val (.long (sv - (sv / rv.toInt64) * rv.toInt64)), .second] [])) rfl (hb hby d2_27)
      refine ogo (S' := T4.setTop (mkF m 30 #[.val (.long sv), .second, .val (.int rv), .val (.long (sv / rv.toInt64)), .second, .val (.long (sv - (sv / rv.toInt64) * rv.toInt64)), .second] [(.ref s_LIGHT)])) st4 ?_
      refine oend X4 hlk (v := some (.ref s_LIGHT)) (fun h => by rw [hret] at h; cases h) (fun fs hr => retOut X4 hx (t := (.object "com/example/shufflewise/shufflewise/sched/ShuffleClass")) (i := .areturn) hret rfl (Or.inr (Or.inr (Or.inr (Or.inr ⟨rfl, rfl, rfl⟩)))) (hb hby d2_30) hr) (by decide) (by decide) ?_
      show own_Q_expected Z _ _ _ _ _ h0 n0 _ T4.heap _
      rw [e4]
      refine ⟨?_, N0, rfl⟩
      unfold own_exp; rw [if_neg hc1, if_pos hc3]
    · refine o_ifYes X0 hx 31 (hb hby d2_24) (flt (fun q => hc3 ((lw_lt _ _).mp q))).2.1 (by decide) (by decide) ?_
      refine o_lloadN X0 hx (hb hby d2_31) rfl ?_
      refine ogo (S' := s₁.setTop (mkF m 35 #[.val (.long sv), .second, .val (.int rv), .val (.long (sv / rv.toInt64)), .second, .val (.long (sv - (sv / rv.toInt64) * rv.toInt64)), .second] [(.long (104857600 : Int64)), (.long (sv / rv.toInt64))])) (X0.ldc2Long hx hown (mvT hZ w14) (g := (mkF m 32 #[.val (.long sv), .second, .val (.int rv), .val (.long (sv / rv.toInt64)), .second, .val (.long (sv - (sv / rv.toInt64) * rv.toInt64)), .second] [(.long (sv / rv.toInt64))])) rfl (hb hby d2_32)) ?_
      refine o_lcmp X0 hx (hb hby d2_35) ?_
      by_cases hc5 : (sv / rv.toInt64) < (104857600 : Int64)
      · refine o_ifNo X0 hx (hb hby d2_36) (tlt ((lw_lt _ _).mpr hc5)).2.1 ?_
        obtain ⟨T6, X6, e6, st6⟩ := getS2 X0 hx hZ hown (host := "") (Or.inl w15) Via.refl e0 (Sta.ext O0.2 S_s_MEDIUM) (g := (mkF m 39 #[.val (.long sv), .second, .val (.int rv), .val (.long (sv / rv.toInt64)), .second, .val (.long (sv - (sv / rv.toInt64) * rv.toInt64)), .second] [])) rfl (hb hby d2_39)
        refine ogo (S' := T6.setTop (mkF m 42 #[.val (.long sv), .second, .val (.int rv), .val (.long (sv / rv.toInt64)), .second, .val (.long (sv - (sv / rv.toInt64) * rv.toInt64)), .second] [(.ref s_MEDIUM)])) st6 ?_
        refine oend X6 hlk (v := some (.ref s_MEDIUM)) (fun h => by rw [hret] at h; cases h) (fun fs hr => retOut X6 hx (t := (.object "com/example/shufflewise/shufflewise/sched/ShuffleClass")) (i := .areturn) hret rfl (Or.inr (Or.inr (Or.inr (Or.inr ⟨rfl, rfl, rfl⟩)))) (hb hby d2_42) hr) (by decide) (by decide) ?_
        show own_Q_expected Z _ _ _ _ _ h0 n0 _ T6.heap _
        rw [e6]
        refine ⟨?_, N0, rfl⟩
        unfold own_exp; rw [if_neg hc1, if_neg hc3, if_pos hc5]
      · refine o_ifYes X0 hx 43 (hb hby d2_36) (flt (fun q => hc5 ((lw_lt _ _).mp q))).2.1 (by decide) (by decide) ?_
        refine o_lloadN X0 hx (hb hby d2_43) rfl ?_
        refine ogo (S' := s₁.setTop (mkF m 47 #[.val (.long sv), .second, .val (.int rv), .val (.long (sv / rv.toInt64)), .second, .val (.long (sv - (sv / rv.toInt64) * rv.toInt64)), .second] [(.long (104857600 : Int64)), (.long (sv / rv.toInt64))])) (X0.ldc2Long hx hown (mvT hZ w14) (g := (mkF m 44 #[.val (.long sv), .second, .val (.int rv), .val (.long (sv / rv.toInt64)), .second, .val (.long (sv - (sv / rv.toInt64) * rv.toInt64)), .second] [(.long (sv / rv.toInt64))])) rfl (hb hby d2_44)) ?_
        refine o_lcmp X0 hx (hb hby d2_47) ?_
        by_cases hc7 : (sv / rv.toInt64) = (104857600 : Int64)
        · refine o_ifNo X0 hx (hb hby d2_48) (teq ((lw_eq _ _).mpr hc7)).2 ?_
          refine o_lload X0 hx (hb hby d2_51) rfl ?_
          refine o_lconst X0 hx (0 : Int64) (hb hby d2_53) rfl ?_
          refine o_lcmp X0 hx (hb hby d2_54) ?_
          by_cases hc8 : (sv - (sv / rv.toInt64) * rv.toInt64) = (0 : Int64)
          · refine o_ifNo X0 hx (hb hby d2_55) (teq ((lw_eq _ _).mpr hc8)).2 ?_
            obtain ⟨T9, X9, e9, st9⟩ := getS2 X0 hx hZ hown (host := "") (Or.inl w15) Via.refl e0 (Sta.ext O0.2 S_s_MEDIUM) (g := (mkF m 58 #[.val (.long sv), .second, .val (.int rv), .val (.long (sv / rv.toInt64)), .second, .val (.long (sv - (sv / rv.toInt64) * rv.toInt64)), .second] [])) rfl (hb hby d2_58)
            refine ogo (S' := T9.setTop (mkF m 61 #[.val (.long sv), .second, .val (.int rv), .val (.long (sv / rv.toInt64)), .second, .val (.long (sv - (sv / rv.toInt64) * rv.toInt64)), .second] [(.ref s_MEDIUM)])) st9 ?_
            refine oend X9 hlk (v := some (.ref s_MEDIUM)) (fun h => by rw [hret] at h; cases h) (fun fs hr => retOut X9 hx (t := (.object "com/example/shufflewise/shufflewise/sched/ShuffleClass")) (i := .areturn) hret rfl (Or.inr (Or.inr (Or.inr (Or.inr ⟨rfl, rfl, rfl⟩)))) (hb hby d2_61) hr) (by decide) (by decide) ?_
            show own_Q_expected Z _ _ _ _ _ h0 n0 _ T9.heap _
            rw [e9]
            refine ⟨?_, N0, rfl⟩
            unfold own_exp; rw [if_neg hc1, if_neg hc3, if_neg hc5, if_pos hc7, if_pos hc8]
          · refine o_ifYes X0 hx 62 (hb hby d2_55) (feq (fun q => hc8 ((lw_eq _ _).mp q))).2 (by decide) (by decide) ?_
            obtain ⟨T10, X10, e10, st10⟩ := getS2 X0 hx hZ hown (host := "") (Or.inl w22) Via.refl e0 (Sta.ext O0.2 S_s_HEAVY) (g := (mkF m 62 #[.val (.long sv), .second, .val (.int rv), .val (.long (sv / rv.toInt64)), .second, .val (.long (sv - (sv / rv.toInt64) * rv.toInt64)), .second] [])) rfl (hb hby d2_62)
            refine ogo (S' := T10.setTop (mkF m 65 #[.val (.long sv), .second, .val (.int rv), .val (.long (sv / rv.toInt64)), .second, .val (.long (sv - (sv / rv.toInt64) * rv.toInt64)), .second] [(.ref s_HEAVY)])) st10 ?_
            refine oend X10 hlk (v := some (.ref s_HEAVY)) (fun h => by rw [hret] at h; cases h) (fun fs hr => retOut X10 hx (t := (.object "com/example/shufflewise/shufflewise/sched/ShuffleClass")) (i := .areturn) hret rfl (Or.inr (Or.inr (Or.inr (Or.inr ⟨rfl, rfl, rfl⟩)))) (hb hby d2_65) hr) (by decide) (by decide) ?_
            show own_Q_expected Z _ _ _ _ _ h0 n0 _ T10.heap _
            rw [e10]
            refine ⟨?_, N0, rfl⟩
            unfold own_exp; rw [if_neg hc1, if_neg hc3, if_neg hc5, if_pos hc7, if_neg hc8]
        · refine o_ifYes X0 hx 62 (hb hby d2_48) (feq (fun q => hc7 ((lw_eq _ _).mp q))).2 (by decide) (by decide) ?_
          obtain ⟨T11, X11, e11, st11⟩ := getS2 X0 hx hZ hown (host := "") (Or.inl w22) Via.refl e0 (Sta.ext O0.2 S_s_HEAVY) (g := (mkF m 62 #[.val (.long sv), .second, .val (.int rv), .val (.long (sv / rv.toInt64)), .second, .val (.long (sv - (sv / rv.toInt64) * rv.toInt64)), .second] [])) rfl (hb hby d2_62)
          refine ogo (S' := T11.setTop (mkF m 65 #[.val (.long sv), .second, .val (.int rv), .val (.long (sv / rv.toInt64)), .second, .val (.long (sv - (sv / rv.toInt64) * rv.toInt64)), .second] [(.ref s_HEAVY)])) st11 ?_
          refine oend X11 hlk (v := some (.ref s_HEAVY)) (fun h => by rw [hret] at h; cases h) (fun fs hr => retOut X11 hx (t := (.object "com/example/shufflewise/shufflewise/sched/ShuffleClass")) (i := .areturn) hret rfl (Or.inr (Or.inr (Or.inr (Or.inr ⟨rfl, rfl, rfl⟩)))) (hb hby d2_65) hr) (by decide) (by decide) ?_
          show own_Q_expected Z _ _ _ _ _ h0 n0 _ T11.heap _
          rw [e11]
          refine ⟨?_, N0, rfl⟩
          unfold own_exp; rw [if_neg hc1, if_neg hc3, if_neg hc5, if_neg hc7]
theorem own_pd0 : parseMethodDescriptor "(JI)Lcom/example/shufflewise/shufflewise/sched/ShuffleClass;" = some ⟨[.long, .int], some (.object "com/example/shufflewise/shufflewise/sched/ShuffleClass")⟩ := by decide +kernel
def own_Q_law (Z : State) (s_MEDIUM : Addr) (s_LIGHT : Addr) (s_HEAVY : Addr) (by_ : Int64) (re_ : Int32) (mo_ : Int32) (de_ : Int32) (h0 : Heap) (n0 : Nat) (v : Option Value) (h : Heap) (L : List Loc) : Prop := (v = some (.int (1 : Int32))) ∧ (Fr n0 L) ∧ (h = h0)
set_option maxRecDepth 65536 in
set_option maxHeartbeats 40000000 in
theorem rm_law (l : Launch) (Z : State) (a0 : Array Value) (hw : ∀ d ∈ tables_1, d.before a0 Z = true) (ws : List Jvm.Cond) (s_MEDIUM : Addr) (s_LIGHT : Addr) (s_HEAVY : Addr) (by_ : Int64) (re_ : Int32) (mo_ : Int32) (de_ : Int32) (h0 : Heap) (n0 : Nat) (SB : own_Start Z s_MEDIUM s_LIGHT s_HEAVY) (O0 : Old Z n0 h0)  :
    oMet l Z x code maxLocals ret ws room_1 0 0 #[(.long by_), (.int re_), (.int mo_), (.int de_)] h0 (own_Q_law Z s_MEDIUM s_LIGHT s_HEAVY by_ re_ mo_ de_ h0 n0) := by
  refine oenter own_pn1 #[.val (.long by_), .second, .val (.int re_), .val (.int mo_), .val (.int de_), .unset, .unset, .unset, .unset, .unset, .unset, .unset] (fun m => by first | (simp [entryFrame, mkF, argsToLocals, Value.category, maxLocals]; done) | rfl) ?_
  intro p e s m below meth c s₁ X0 hx hZ hby hml hret hown0 hnm hlk e0
  have hown : s.vm.findClass "com/example/shufflewise/shufflewise/sched/ShuffleClassOfEachPinLaw" = some m.cls := hown0
  have N0 := Fr.nil n0
  obtain ⟨S_s_MEDIUM, E_s_MEDIUM, S_s_LIGHT, E_s_LIGHT, S_s_HEAVY, E_s_HEAVY⟩ := (id SB)
  have w0 := hw _ (List.mem_of_getElem? (i := 0) rfl)
  have w1 := hw _ (List.mem_of_getElem? (i := 1) rfl)
  have w2 := hw _ (List.mem_of_getElem? (i := 2) rfl)
  have w3 := hw _ (List.mem_of_getElem? (i := 3) rfl)
  have w4 := hw _ (List.mem_of_getElem? (i := 4) rfl)
  have w5 := hw _ (List.mem_of_getElem? (i := 5) rfl)
  have w10 := hw _ (List.mem_of_getElem? (i := 10) rfl)
  have w11 := hw _ (List.mem_of_getElem? (i := 11) rfl)
  have w12 := hw _ (List.mem_of_getElem? (i := 12) rfl)
  have w13 := hw _ (List.mem_of_getElem? (i := 13) rfl)
  have w14 := hw _ (List.mem_of_getElem? (i := 14) rfl)
  have w16 := hw _ (List.mem_of_getElem? (i := 16) rfl)
  have w23 := hw _ (List.mem_of_getElem? (i := 23) rfl)
  refine o_iloadN X0 hx (hb hby at_0) rfl ?_
  refine o_iconst X0 hx (3 : Int32) (hb hby at_1) rfl ?_
  refine o_iand X0 hx (hb hby at_2) ?_
  refine o_istore X0 hx (l' := #[.val (.long by_), .second, .val (.int re_), .val (.int mo_), .val (.int de_), .val (.int (mo_ &&& (3 : Int32))), .unset, .unset, .unset, .unset, .unset, .unset]) (hb hby at_3) rfl ?_
  refine o_iloadN X0 hx (hb hby at_5) rfl ?_
  refine ogo (S' := s₁.setTop (mkF m 8 #[.val (.long by_), .second, .val (.int re_), .val (.int mo_), .val (.int de_), .val (.int (mo_ &&& (3 : Int32))), .unset, .unset, .unset, .unset, .unset, .unset] [(.int (2147483647 : Int32)), (.int re_)])) (X0.ldcInt hx hown (mvT hZ w0) (g := (mkF m 6 #[.val (.long by_), .second, .val (.int re_), .val (.int mo_), .val (.int de_), .val (.int (mo_ &&& (3 : Int32))), .unset, .unset, .unset, .unset, .unset, .unset] [(.int re_)])) rfl (hb hby at_6)) ?_
  refine o_iand X0 hx (hb hby at_8) ?_
  refine o_istore X0 hx (l' := #[.val (.long by_), .second, .val (.int re_), .val (.int mo_), .val (.int de_), .val (.int (mo_ &&& (3 : Int32))), .val (.int (re_ &&& (2147483647 : Int32))), .unset, .unset, .unset, .unset, .unset]) (hb hby at_9) rfl ?_
  refine o_iload X0 hx (hb hby at_11) rfl ?_
  refine o_iconst X0 hx (3 : Int32) (hb hby at_13) rfl ?_
  refine o_irem X0 hx (hb hby at_14) (by decide) ?_
  refine o_i2l X0 hx (hb hby at_15) ?_
  refine o_lstore X0 hx (l' := #[.val (.long by_), .second, .val (.int re_), .val (.int mo_), .val (.int de_), .val (.int (mo_ &&& (3 : Int32))), .val (.int (re_ &&& (2147483647 : Int32))), .val (.long (de_ % (3 : Int32)).toInt64), .second, .unset, .unset, .unset]) (hb hby at_16) rfl ?_
  have tl : ∀ (sv : Int64) (rv : Int32), (0 ≤ rv.toInt) → Own p e below (oPost (own_Q_law Z s_MEDIUM s_LIGHT s_HEAVY by_ re_ mo_ de_ h0 n0) s 0 0) (s₁.setTop (mkF m 89 #[.val (.long by_), .second, .val (.int re_), .val (.int mo_), .val (.int de_), .val (.int (mo_ &&& (3 : Int32))), .val (.int rv), .val (.long (de_ % (3 : Int32)).toInt64), .second, .val (.long sv), .second, .unset] [])) := by
    intro sv rv hrv
    refine o_lload X0 hx (hb hby at_89) rfl ?_
    refine o_lconst X0 hx (0 : Int64) (hb hby at_91) rfl ?_
    refine o_lcmp X0 hx (hb hby at_92) ?_
    by_cases hc1 : sv < (0 : Int64)
    · refine o_ifNo X0 hx (hb hby at_93) (tlt ((lw_lt _ _).mpr hc1)).2.1 ?_
      refine o_lconst X0 hx (0 : Int64) (hb hby at_96) rfl ?_
      refine o_lstore X0 hx (l' := #[.val (.long by_), .second, .val (.int re_), .val (.int mo_), .val (.int de_), .val (.int (mo_ &&& (3 : Int32))), .val (.int rv), .val (.long (de_ % (3 : Int32)).toInt64), .second, .val (.long (0 : Int64)), .second, .unset]) (hb hby at_97) rfl ?_
      refine o_lload X0 hx (hb hby at_99) rfl ?_
      refine o_iload X0 hx (hb hby at_101) rfl ?_
      obtain ⟨_, _, ⟨T2, L2, kc2, n2⟩, -, X2, ⟨Lc2, hQ2, l2, y2, z2⟩, st2⟩ := Jvm.LawKit.callS X0 hx (y := yM0) hown (mvT hZ w2) (mvT hZ w3) (mvT hZ w4) (mvT hZ w5) (by decide) (backOf (W := 0) (rm_ofEach l Z a0 hw [] s_MEDIUM s_LIGHT s_HEAVY (0 : Int64) rv h0 n0 SB O0 ) hZ w5 w4 (by decide) (by decide)) (g := (mkF m 103 #[.val (.long by_), .second, .val (.int re_), .val (.int mo_), .val (.int de_), .val (.int (mo_ &&& (3 : Int32))), .val (.int rv), .val (.long (de_ % (3 : Int32)).toInt64), .second, .val (.long (0 : Int64)), .second, .unset] [(.int rv), (.long (0 : Int64))])) rfl (by rw [hml]; rfl) (argsL := [(.long (0 : Int64)), (.int rv)]) (rest := []) (lenOf own_pd0 rfl) rfl (by show 2 * 0 + _ ≤ _; exact Nat.le_of_eq rfl) (hb hby at_103) (fun _ _ => ⟨rfl, e0, (by decide : 0 + 0 ≤ _), (by decide : 0 + 0 ≤ _)⟩)
      dsimp only [Pt.U, Pt.locs, Pt.cells, Pt.slots] at X2 l2 y2 z2 st2 hQ2
      subst l2 y2 z2
      obtain ⟨rfl, Nq2, e2⟩ := hQ2
      have N2 := Fr.app N0 Nq2
      refine ogo (S' := T2.setTop (mkF m 106 #[.val (.long by_), .second, .val (.int re_), .val (.int mo_), .val (.int de_), .val (.int (mo_ &&& (3 : Int32))), .val (.int rv), .val (.long (de_ % (3 : Int32)).toInt64), .second, .val (.long (0 : Int64)), .second, .unset] [(.ref (own_cls s_MEDIUM s_LIGHT s_HEAVY (0 : Int64) rv))])) st2 ?_
      refine o_astore X2 hx (l' := #[.val (.long by_), .second, .val (.int re_), .val (.int mo_), .val (.int de_), .val (.int (mo_ &&& (3 : Int32))), .val (.int rv), .val (.long (de_ % (3 : Int32)).toInt64), .second, .val (.long (0 : Int64)), .second, .val (.ref (own_cls s_MEDIUM s_LIGHT s_HEAVY (0 : Int64) rv))]) (hb hby at_106) rfl rfl ?_
      refine o_aload X2 hx (hb hby at_108) rfl rfl ?_
      refine o_lload X2 hx (hb hby at_110) rfl ?_
      refine o_iload X2 hx (hb hby at_112) rfl ?_
      obtain ⟨_, _, ⟨T3, L3, kc3, n3⟩, -, X3, ⟨Lc3, hQ3, l3, y3, z3⟩, st3⟩ := Jvm.LawKit.callS X2 hx (y := yM1) hown (mvT hZ w10) (mvT hZ w11) (mvT hZ w12) (mvT hZ w13) (by decide) (backOf (W := 1) (rm_expected l Z a0 hw [] s_MEDIUM s_LIGHT s_HEAVY (0 : Int64) rv h0 n0 SB O0 ) hZ w13 w12 (by decide) (by decide)) (g := (mkF m 114 #[.val (.long by_), .second, .val (.int re_), .val (.int mo_), .val (.int de_), .val (.int (mo_ &&& (3 : Int32))), .val (.int rv), .val (.long (de_ % (3 : Int32)).toInt64), .second, .val (.long (0 : Int64)), .second, .val (.ref (own_cls s_MEDIUM s_LIGHT s_HEAVY (0 : Int64) rv))] [(.int rv), (.long (0 : Int64)), (.ref (own_cls s_MEDIUM s_LIGHT s_HEAVY (0 : Int64) rv))])) rfl (by rw [hml]; rfl) (argsL := [(.long (0 : Int64)), (.int rv)]) (rest := [(.ref (own_cls s_MEDIUM s_LIGHT s_HEAVY (0 : Int64) rv))]) (lenOf own_pd0 rfl) rfl (by show 2 * 0 + _ ≤ _; exact Nat.le_of_eq rfl) (hb hby at_114) (fun _ _ => ⟨rfl, e2, (by decide : 0 + 0 ≤ _), (by decide : 0 + 0 ≤ _)⟩)
      dsimp only [Pt.U, Pt.locs, Pt.cells, Pt.slots] at X3 l3 y3 z3 st3 hQ3
      subst l3 y3 z3
      obtain ⟨rfl, Nq3, e3⟩ := hQ3
      have N3 := Fr.app N2 Nq3
      refine ogo (S' := T3.setTop (mkF m 117 #[.val (.long by_), .second, .val (.int re_), .val (.int mo_), .val (.int de_), .val (.int (mo_ &&& (3 : Int32))), .val (.int rv), .val (.long (de_ % (3 : Int32)).toInt64), .second, .val (.long (0 : Int64)), .second, .val (.ref (own_cls s_MEDIUM s_LIGHT s_HEAVY (0 : Int64) rv))] [(.ref (own_exp s_MEDIUM s_LIGHT s_HEAVY (0 : Int64) rv)), (.ref (own_cls s_MEDIUM s_LIGHT s_HEAVY (0 : Int64) rv))])) st3 ?_
      refine o_acmp X3 hx 120 true rfl rfl (hb hby at_117) (decide_eq_true (congrArg Value.ref (own_same s_MEDIUM s_LIGHT s_HEAVY (by decide) hrv))) (by decide) (by decide) ?_
      refine o_iconst X3 hx (1 : Int32) (hb hby at_120) rfl ?_
      refine o_goto X3 hx 125 (hb hby at_121) (by decide) (by decide) ?_
      refine oend X3 hlk (v := some (.int (1 : Int32))) (fun h => by rw [hret] at h; cases h) (fun fs hr => retN X3 hx (t := .boolean) hret (by simp) (hb hby at_125) hr) (by decide) (by decide) ?_
      show own_Q_law Z _ _ _ _ _ _ _ h0 n0 _ T3.heap _
      rw [e3]
      exact ⟨rfl, N3, rfl⟩
    · refine o_ifYes X0 hx 99 (hb hby at_93) (flt (fun q => hc1 ((lw_lt _ _).mp q))).2.1 (by decide) (by decide) ?_
      refine o_lload X0 hx (hb hby at_99) rfl ?_
      refine o_iload X0 hx (hb hby at_101) rfl ?_
      obtain ⟨_, _, ⟨T4, L4, kc4, n4⟩, -, X4, ⟨Lc4, hQ4, l4, y4, z4⟩, st4⟩ := Jvm.LawKit.callS X0 hx (y := yM0) hown (mvT hZ w2) (mvT hZ w3) (mvT hZ w4) (mvT hZ w5) (by decide) (backOf (W := 0) (rm_ofEach l Z a0 hw [] s_MEDIUM s_LIGHT s_HEAVY sv rv h0 n0 SB O0 ) hZ w5 w4 (by decide) (by decide)) (g := (mkF m 103 #[.val (.long by_), .second, .val (.int re_), .val (.int mo_), .val (.int de_), .val (.int (mo_ &&& (3 : Int32))), .val (.int rv), .val (.long (de_ % (3 : Int32)).toInt64), .second, .val (.long sv), .second, .unset] [(.int rv), (.long sv)])) rfl (by rw [hml]; rfl) (argsL := [(.long sv), (.int rv)]) (rest := []) (lenOf own_pd0 rfl) rfl (by show 2 * 0 + _ ≤ _; exact Nat.le_of_eq rfl) (hb hby at_103) (fun _ _ => ⟨rfl, e0, (by decide : 0 + 0 ≤ _), (by decide : 0 + 0 ≤ _)⟩)
      dsimp only [Pt.U, Pt.locs, Pt.cells, Pt.slots] at X4 l4 y4 z4 st4 hQ4
      subst l4 y4 z4
      obtain ⟨rfl, Nq4, e4⟩ := hQ4
      have N4 := Fr.app N0 Nq4
      refine ogo (S' := T4.setTop (mkF m 106 #[.val (.long by_), .second, .val (.int re_), .val (.int mo_), .val (.int de_), .val (.int (mo_ &&& (3 : Int32))), .val (.int rv), .val (.long (de_ % (3 : Int32)).toInt64), .second, .val (.long sv), .second, .unset] [(.ref (own_cls s_MEDIUM s_LIGHT s_HEAVY sv rv))])) st4 ?_
      refine o_astore X4 hx (l' := #[.val (.long by_), .second, .val (.int re_), .val (.int mo_), .val (.int de_), .val (.int (mo_ &&& (3 : Int32))), .val (.int rv), .val (.long (de_ % (3 : Int32)).toInt64), .second, .val (.long sv), .second, .val (.ref (own_cls s_MEDIUM s_LIGHT s_HEAVY sv rv))]) (hb hby at_106) rfl rfl ?_
      refine o_aload X4 hx (hb hby at_108) rfl rfl ?_
      refine o_lload X4 hx (hb hby at_110) rfl ?_
      refine o_iload X4 hx (hb hby at_112) rfl ?_
      obtain ⟨_, _, ⟨T5, L5, kc5, n5⟩, -, X5, ⟨Lc5, hQ5, l5, y5, z5⟩, st5⟩ := Jvm.LawKit.callS X4 hx (y := yM1) hown (mvT hZ w10) (mvT hZ w11) (mvT hZ w12) (mvT hZ w13) (by decide) (backOf (W := 1) (rm_expected l Z a0 hw [] s_MEDIUM s_LIGHT s_HEAVY sv rv h0 n0 SB O0 ) hZ w13 w12 (by decide) (by decide)) (g := (mkF m 114 #[.val (.long by_), .second, .val (.int re_), .val (.int mo_), .val (.int de_), .val (.int (mo_ &&& (3 : Int32))), .val (.int rv), .val (.long (de_ % (3 : Int32)).toInt64), .second, .val (.long sv), .second, .val (.ref (own_cls s_MEDIUM s_LIGHT s_HEAVY sv rv))] [(.int rv), (.long sv), (.ref (own_cls s_MEDIUM s_LIGHT s_HEAVY sv rv))])) rfl (by rw [hml]; rfl) (argsL := [(.long sv), (.int rv)]) (rest := [(.ref (own_cls s_MEDIUM s_LIGHT s_HEAVY sv rv))]) (lenOf own_pd0 rfl) rfl (by show 2 * 0 + _ ≤ _; exact Nat.le_of_eq rfl) (hb hby at_114) (fun _ _ => ⟨rfl, e4, (by decide : 0 + 0 ≤ _), (by decide : 0 + 0 ≤ _)⟩)
      dsimp only [Pt.U, Pt.locs, Pt.cells, Pt.slots] at X5 l5 y5 z5 st5 hQ5
      subst l5 y5 z5
      obtain ⟨rfl, Nq5, e5⟩ := hQ5
      have N5 := Fr.app N4 Nq5
      refine ogo (S' := T5.setTop (mkF m 117 #[.val (.long by_), .second, .val (.int re_), .val (.int mo_), .val (.int de_), .val (.int (mo_ &&& (3 : Int32))), .val (.int rv), .val (.long (de_ % (3 : Int32)).toInt64), .second, .val (.long sv), .second, .val (.ref (own_cls s_MEDIUM s_LIGHT s_HEAVY sv rv))] [(.ref (own_exp s_MEDIUM s_LIGHT s_HEAVY sv rv)), (.ref (own_cls s_MEDIUM s_LIGHT s_HEAVY sv rv))])) st5 ?_
      refine o_acmp X5 hx 120 true rfl rfl (hb hby at_117) (decide_eq_true (congrArg Value.ref (own_same s_MEDIUM s_LIGHT s_HEAVY (by exact own_nneg hc1) hrv))) (by decide) (by decide) ?_
      refine o_iconst X5 hx (1 : Int32) (hb hby at_120) rfl ?_
      refine o_goto X5 hx 125 (hb hby at_121) (by decide) (by decide) ?_
      refine oend X5 hlk (v := some (.int (1 : Int32))) (fun h => by rw [hret] at h; cases h) (fun fs hr => retN X5 hx (t := .boolean) hret (by simp) (hb hby at_125) hr) (by decide) (by decide) ?_
      show own_Q_law Z _ _ _ _ _ _ _ h0 n0 _ T5.heap _
      rw [e5]
      exact ⟨rfl, N5, rfl⟩
  refine o_iload X0 hx (hb hby at_18) rfl ?_
  by_cases hc6 : (mo_ &&& (3 : Int32)) = (0 : Int32)
  · refine o_ifNo X0 hx (hb hby at_20) (teq hc6).2 ?_
    refine o_lloadN X0 hx (hb hby at_23) rfl ?_
    refine ogo (S' := s₁.setTop (mkF m 27 #[.val (.long by_), .second, .val (.int re_), .val (.int mo_), .val (.int de_), .val (.int (mo_ &&& (3 : Int32))), .val (.int (re_ &&& (2147483647 : Int32))), .val (.long (de_ % (3 : Int32)).toInt64), .second, .unset, .unset, .unset] [(.long (9223372036854775807 : Int64)), (.long by_)])) (X0.ldc2Long hx hown (mvT hZ w23) (g := (mkF m 24 #[.val (.long by_), .second, .val (.int re_), .val (.int mo_), .val (.int de_), .val (.int (mo_ &&& (3 : Int32))), .val (.int (re_ &&& (2147483647 : Int32))), .val (.long (de_ % (3 : Int32)).toInt64), .second, .unset, .unset, .unset] [(.long by_)])) rfl (hb hby at_24)) ?_
    refine o_land X0 hx (hb hby at_27) ?_
    refine o_lstore X0 hx (l' := #[.val (.long by_), .second, .val (.int re_), .val (.int mo_), .val (.int de_), .val (.int (mo_ &&& (3 : Int32))), .val (.int (re_ &&& (2147483647 : Int32))), .val (.long (de_ % (3 : Int32)).toInt64), .second, .val (.long (by_ &&& (9223372036854775807 : Int64))), .second, .unset]) (hb hby at_28) rfl ?_
    refine o_goto X0 hx 89 (hb hby at_30) (by decide) (by decide) ?_
    exact tl (by_ &&& (9223372036854775807 : Int64)) (re_ &&& (2147483647 : Int32)) (own_m31 _)
  · refine o_ifYes X0 hx 33 (hb hby at_20) (feq hc6).2 (by decide) (by decide) ?_
    refine o_iload X0 hx (hb hby at_33) rfl ?_
    refine o_iconst X0 hx (1 : Int32) (hb hby at_35) rfl ?_
    by_cases hc7 : (mo_ &&& (3 : Int32)) = (1 : Int32)
    · refine o_icmpNo X0 hx (hb hby at_36) (teq hc7).2 ?_
      refine o_iload X0 hx (hb hby at_39) rfl ?_
      refine o_i2l X0 hx (hb hby at_41) ?_
      refine ogo (S' := s₁.setTop (mkF m 45 #[.val (.long by_), .second, .val (.int re_), .val (.int mo_), .val (.int de_), .val (.int (mo_ &&& (3 : Int32))), .val (.int (re_ &&& (2147483647 : Int32))), .val (.long (de_ % (3 : Int32)).toInt64), .second, .unset, .unset, .unset] [(.long (1048576 : Int64)), (.long (re_ &&& (2147483647 : Int32)).toInt64)])) (X0.ldc2Long hx hown (mvT hZ w1) (g := (mkF m 42 #[.val (.long by_), .second, .val (.int re_), .val (.int mo_), .val (.int de_), .val (.int (mo_ &&& (3 : Int32))), .val (.int (re_ &&& (2147483647 : Int32))), .val (.long (de_ % (3 : Int32)).toInt64), .second, .unset, .unset, .unset] [(.long (re_ &&& (2147483647 : Int32)).toInt64)])) rfl (hb hby at_42)) ?_
      refine o_lmul X0 hx (hb hby at_45) ?_
      refine o_lload X0 hx (hb hby at_46) rfl ?_
      refine o_ladd X0 hx (hb hby at_48) ?_
      refine o_lstore X0 hx (l' := #[.val (.long by_), .second, .val (.int re_), .val (.int mo_), .val (.int de_), .val (.int (mo_ &&& (3 : Int32))), .val (.int (re_ &&& (2147483647 : Int32))), .val (.long (de_ % (3 : Int32)).toInt64), .second, .val (.long (((re_ &&& (2147483647 : Int32)).toInt64 * (1048576 : Int64)) + (de_ % (3 : Int32)).toInt64)), .second, .unset]) (hb hby at_49) rfl ?_
      refine o_goto X0 hx 89 (hb hby at_51) (by decide) (by decide) ?_
      exact tl (((re_ &&& (2147483647 : Int32)).toInt64 * (1048576 : Int64)) + (de_ % (3 : Int32)).toInt64) (re_ &&& (2147483647 : Int32)) (own_m31 _)
    · refine o_icmpYes X0 hx 54 (hb hby at_36) (feq hc7).2 (by decide) (by decide) ?_
      refine o_iload X0 hx (hb hby at_54) rfl ?_
      refine o_iconst X0 hx (2 : Int32) (hb hby at_56) rfl ?_
      by_cases hc8 : (mo_ &&& (3 : Int32)) = (2 : Int32)
      · refine o_icmpNo X0 hx (hb hby at_57) (teq hc8).2 ?_
        refine o_iload X0 hx (hb hby at_60) rfl ?_
        refine o_i2l X0 hx (hb hby at_62) ?_
        refine ogo (S' := s₁.setTop (mkF m 66 #[.val (.long by_), .second, .val (.int re_), .val (.int mo_), .val (.int de_), .val (.int (mo_ &&& (3 : Int32))), .val (.int (re_ &&& (2147483647 : Int32))), .val (.long (de_ % (3 : Int32)).toInt64), .second, .unset, .unset, .unset] [(.long (104857600 : Int64)), (.long (re_ &&& (2147483647 : Int32)).toInt64)])) (X0.ldc2Long hx hown (mvT hZ w14) (g := (mkF m 63 #[.val (.long by_), .second, .val (.int re_), .val (.int mo_), .val (.int de_), .val (.int (mo_ &&& (3 : Int32))), .val (.int (re_ &&& (2147483647 : Int32))), .val (.long (de_ % (3 : Int32)).toInt64), .second, .unset, .unset, .unset] [(.long (re_ &&& (2147483647 : Int32)).toInt64)])) rfl (hb hby at_63)) ?_
        refine o_lmul X0 hx (hb hby at_66) ?_
        refine o_lload X0 hx (hb hby at_67) rfl ?_
        refine o_ladd X0 hx (hb hby at_69) ?_
        refine o_lstore X0 hx (l' := #[.val (.long by_), .second, .val (.int re_), .val (.int mo_), .val (.int de_), .val (.int (mo_ &&& (3 : Int32))), .val (.int (re_ &&& (2147483647 : Int32))), .val (.long (de_ % (3 : Int32)).toInt64), .second, .val (.long (((re_ &&& (2147483647 : Int32)).toInt64 * (104857600 : Int64)) + (de_ % (3 : Int32)).toInt64)), .second, .unset]) (hb hby at_70) rfl ?_
        refine o_goto X0 hx 89 (hb hby at_72) (by decide) (by decide) ?_
        exact tl (((re_ &&& (2147483647 : Int32)).toInt64 * (104857600 : Int64)) + (de_ % (3 : Int32)).toInt64) (re_ &&& (2147483647 : Int32)) (own_m31 _)
      · refine o_icmpYes X0 hx 75 (hb hby at_57) (feq hc8).2 (by decide) (by decide) ?_
        refine o_iloadN X0 hx (hb hby at_75) rfl ?_
        refine o_sipush X0 hx (255 : Int32) (hb hby at_76) rfl ?_
        refine o_iand X0 hx (hb hby at_79) ?_
        refine o_istore X0 hx (l' := #[.val (.long by_), .second, .val (.int re_), .val (.int mo_), .val (.int de_), .val (.int (mo_ &&& (3 : Int32))), .val (.int (re_ &&& (255 : Int32))), .val (.long (de_ % (3 : Int32)).toInt64), .second, .unset, .unset, .unset]) (hb hby at_80) rfl ?_
        refine o_lloadN X0 hx (hb hby at_82) rfl ?_
        refine ogo (S' := s₁.setTop (mkF m 86 #[.val (.long by_), .second, .val (.int re_), .val (.int mo_), .val (.int de_), .val (.int (mo_ &&& (3 : Int32))), .val (.int (re_ &&& (255 : Int32))), .val (.long (de_ % (3 : Int32)).toInt64), .second, .unset, .unset, .unset] [(.long (1099511627775 : Int64)), (.long by_)])) (X0.ldc2Long hx hown (mvT hZ w16) (g := (mkF m 83 #[.val (.long by_), .second, .val (.int re_), .val (.int mo_), .val (.int de_), .val (.int (mo_ &&& (3 : Int32))), .val (.int (re_ &&& (255 : Int32))), .val (.long (de_ % (3 : Int32)).toInt64), .second, .unset, .unset, .unset] [(.long by_)])) rfl (hb hby at_83)) ?_
        refine o_land X0 hx (hb hby at_86) ?_
        refine o_lstore X0 hx (l' := #[.val (.long by_), .second, .val (.int re_), .val (.int mo_), .val (.int de_), .val (.int (mo_ &&& (3 : Int32))), .val (.int (re_ &&& (255 : Int32))), .val (.long (de_ % (3 : Int32)).toInt64), .second, .val (.long (by_ &&& (1099511627775 : Int64))), .second, .unset]) (hb hby at_87) rfl ?_
        exact tl (by_ &&& (1099511627775 : Int64)) (re_ &&& (255 : Int32)) (own_m8 _)
set_option maxRecDepth 65536 in
set_option maxHeartbeats 40000000 in
theorem comes_1 {Post : Tables → Env → Array Value → State → Outcome → State → Prop} (hpost : ∀ tb e args s v u, (limb_1_1.after args s (.returned v) u = true ∧ limb_1_2.after args s (.returned v) u = true ∧ True) → FrameEnd s (.returned v) u (Jvm.fieldLocs frame_1_writes args s ++ Jvm.arrayLocs frame_1_arrays args s ++ Jvm.staticLocs frame_1_statics s) 0 0 → Post tb e args s (.returned v) u) :
    ArmFor flags0 classFile x code maxLocals ret World_1 tables_1 room_1 Calls_1 rest_1 Pre_1 Post := by
  intro l hfl _ _ p e ha hc hk s m args below hf hA hF happ hP
  obtain ⟨hcalls, hrest, hpre⟩ := hP
  obtain ⟨-, -, -, hnamed, -, -, -, hat⟩ := (Spec.applies_iff hf).mp happ
  obtain ⟨hg, hn⟩ := and_e (Cond.before_iff.mp (show (Jvm.Cond.and given_1 narrow_1).before args s = true from hpre))
  obtain ⟨g0, gr0⟩ := and_e hg
  obtain ⟨g1, gr1⟩ := and_e gr0
  obtain ⟨g2, gr2⟩ := and_e gr1
  obtain ⟨g3, gr3⟩ := and_e gr2
  obtain ⟨w0, w1, w2, w3, rfl⟩ : ∃ w0 w1 w2 w3 : Value, args = #[w0, w1, w2, w3] := by
    have hs : args.size = 4 := by simpa [Cond.value, given_1] using g0
    obtain ⟨L⟩ := args
    match L, hs with
    | [w0, w1, w2, w3], _ => exact ⟨w0, w1, w2, w3, rfl⟩
  have hw := fun d (hd : d ∈ tables_1) => atoms_spec (ws := Jvm.Cond.code x code maxLocals ret :: tables_1) hat d (List.mem_cons_of_mem _ hd)
  have hfit : Fit s := fun {y c} hc i hi => by
    obtain ⟨ha, rfl⟩ := Array.getElem?_eq_some_iff.mp hc
    have q := List.all_eq_true.mp ((Array.all_eq_true_iff_forall_mem.mp hF) _ (Array.getElem_mem ha)) i (List.mem_range.mpr hi)
    simpa [Array.getElem?_eq_getElem hi] using q
  obtain ⟨i0, ei0⟩ := isL_v g1
  obtain rfl : w0 = (.long i0) := Option.some.inj ei0
  obtain ⟨i1, ei1⟩ := is_v g2
  obtain rfl : w1 = (.int i1) := Option.some.inj ei1
  obtain ⟨i2, ei2⟩ := is_v g3
  obtain rfl : w2 = (.int i2) := Option.some.inj ei2
  obtain ⟨i3, ei3⟩ := is_v gr3
  obtain rfl : w3 = (.int i3) := Option.some.inj ei3
  obtain ⟨nw0, hn0⟩ := and_e hn
  obtain ⟨nw1, hn1⟩ := and_e hn0
  obtain ⟨s_MEDIUM, ev_s_MEDIUM⟩ := exa_v nw0
  obtain ⟨s_LIGHT, ev_s_LIGHT⟩ := exa_v nw1
  obtain ⟨s_HEAVY, ev_s_HEAVY⟩ := exa_v hn1
  have SB : own_Start s s_MEDIUM s_LIGHT s_HEAVY := ⟨(Sta.start ev_s_MEDIUM (Or.inr ⟨(hw _ (List.mem_of_getElem? (i := 4) rfl)), (hw _ (List.mem_of_getElem? (i := 9) rfl))⟩)), (Exa.start ev_s_MEDIUM nw0), (Sta.start ev_s_LIGHT (Or.inr ⟨(hw _ (List.mem_of_getElem? (i := 4) rfl)), (hw _ (List.mem_of_getElem? (i := 18) rfl))⟩)), (Exa.start ev_s_LIGHT nw1), (Sta.start ev_s_HEAVY (Or.inr ⟨(hw _ (List.mem_of_getElem? (i := 4) rfl)), (hw _ (List.mem_of_getElem? (i := 21) rfl))⟩)), (Exa.start ev_s_HEAVY hn1)⟩
  obtain ⟨n, o, h1, h2, h3, _, L, rfl, ⟨rfl, N, -⟩, hq⟩ := rm_law l s _ hw tables_1 s_MEDIUM s_LIGHT s_HEAVY i0 i1 i2 i3 s.heap s.heap.size SB (Old.start s)  p e ha hc hk s m _ below hf ((Spec.applies_iff_loose hf).mp happ).1 ⟨rfl, State.Warmed39.refl s, rfl⟩ trivial
  refine ⟨n, _, h1, h2, h3, hpost _ _ _ _ _ _ ⟨Cond.after_iff.mpr rfl, Cond.after_iff.mpr (eq_i res_at (Term.int_eval (1)) rfl), trivial⟩ ⟨hq.1, hq.2.1, (hq.2.2.sift fun y hy => Or.inr (N y hy)).mono (by decide) (by decide)⟩⟩
theorem main_1_1 : Claimed_1_1 := comes_1 fun _ _ _ _ _ _ h hF => ⟨h.1, hF⟩
theorem main_1_2 : Claimed_1_2 := comes_1 fun _ _ _ _ _ _ h hF => ⟨h.2.1, hF⟩
end Jvm.Pilot.@@N@@
namespace Jvm.Pilot.@@N@@
open Jvm Jvm.ClassFile Sem Op Lib Jvm.Free Jvm.Stand Jvm.Pilot.@@N@@.Jvm.D
/-! MADE BY PROGRAM (witnessworld.py) out of the Statement's table words and the real class files: 12 classes; the members and pool entries that the words name. The judged class is class 1, her method 2. -/
namespace start1
open Jvm.ClassFile
def u (s : String) : CpInfo := .utf8 (stringToUtf16 s)
/-- a pool by its gaps: so many unusable entries, then the entry; so many at the end -/
def gap : Nat → List CpInfo → List CpInfo
  | 0, r => r
  | n + 1, r => .unusable :: gap n r
def poolList (es : List (Nat × CpInfo)) (last : Nat) : List CpInfo := es.foldr (fun e r => gap e.1 (e.2 :: r)) (gap last [])
def pool (es : List (Nat × CpInfo)) (last : Nat) : Array CpInfo := ⟨poolList es last⟩
def fileOf (pool : Array CpInfo) (this : Nat) (attrs : Array Attribute := #[]) (ms : Array MethodInfo := #[]) (fl : Nat := 33) (sup : Nat := 0) (ifs : Array Nat := #[]) (fds : Array FieldInfo := #[]) : ClassFile where
  minorVersion := 0
  majorVersion := 65
  constantPool := pool
  accessFlags := fl
  thisClass := this
  superClass := sup
  interfaces := ifs
  fields := fds
  methods := ms
  attributes := attrs
def plain (name : String) (sup : Option ClassId) : Class where
  name := name
  kind := .ordinary
  loader := none
  accessFlags := 33
  super := sup
  interfaces := #[]
  cf := none
  fields := #[]
  methods := #[]
  instanceTypes := #[]
  staticTypes := #[]
  resolved := #[]
  callSites := []
  init := .initialized
  statics := none
  mirror := none

def pool0 : Array CpInfo := pool [(5, u "<init>"), (0, u "()V"), (1, .class_ 10), (1, u "java/lang/Object")] 113

def k0m0 : Method := { name := "<init>", desc := "()V", sig := { parameters := [], returnType := none }, accessFlags := 1, code := none }
/-- java/lang/Object -/
def k0 : Class := { plain "java/lang/Object" none with
  accessFlags := 33
  interfaces := #[]
  cf := some (fileOf pool0 8 #[] #[{ accessFlags := 1, nameIndex := 5, descriptorIndex := 6, attributes := #[] }] 33 0 #[] #[])
  fields := #[]
  methods := #[k0m0]
  instanceTypes := #[]
  staticTypes := #[]
  resolved := Array.replicate 124 none
  statics := none }

def pool1 : Array CpInfo := pool [(2, .class_ 4), (1, u "java/lang/Object"), (0, u "<init>"), (0, u "()V"), (0, .fieldref 8 9), (0, .class_ 10), (0, .nameAndType 11 12), (0, u "com/example/shufflewise/shufflewise/sched/ShuffleClass"), (0, u "LIGHT"), (0, u "Lcom/example/shufflewise/shufflewise/sched/ShuffleClass;"), (0, .class_ 14), (0, u "com/example/shufflewise/shufflewise/sched/ShuffleClassOfEachPinLaw"), (0, .long 1048576), (1, .long 104857600), (1, .fieldref 8 20), (0, .nameAndType 21 12), (0, u "MEDIUM"), (0, .fieldref 8 23), (0, .nameAndType 24 12), (0, u "HEAVY"), (0, .integer 2147483647), (2, .long 9223372036854775807), (1, .long 1099511627775), (1, .methodref 8 33), (0, .nameAndType 34 35), (0, u "ofEach"), (0, u "(JI)Lcom/example/shufflewise/shufflewise/sched/ShuffleClass;"), (0, .methodref 13 37), (0, .nameAndType 38 35), (0, u "expected"), (0, u "MIB"), (0, u "J"), (1, u "HUNDRED_MIB"), (3, u "law"), (0, u "(JIII)Z")] 2

def k1m0 : Method := { name := "<init>", desc := "()V", sig := { parameters := [], returnType := none }, accessFlags := 1, code := none }
def k1c1 : Code := { maxStack := 4, maxLocals := 7, code := method_2_code, exceptionTable := #[], attributes := #[] }
def k1m1 : Method := { name := "expected", desc := "(JI)Lcom/example/shufflewise/shufflewise/sched/ShuffleClass;", sig := { parameters := [.long, .int], returnType := some (.object "com/example/shufflewise/shufflewise/sched/ShuffleClass") }, accessFlags := 10, code := some k1c1 }
def k1c2 : Code := { maxStack := 4, maxLocals := 12, code := code, exceptionTable := #[], attributes := #[] }
def k1m2 : Method := { name := "law", desc := "(JIII)Z", sig := { parameters := [.long, .int, .int, .int], returnType := some .boolean }, accessFlags := 9, code := some k1c2 }
/-- com/example/shufflewise/shufflewise/sched/ShuffleClassOfEachPinLaw -/
def k1 : Class := { plain "com/example/shufflewise/shufflewise/sched/ShuffleClassOfEachPinLaw" (some 0) with
  accessFlags := 49
  interfaces := #[]
  cf := some (fileOf pool1 13 #[] #[{ accessFlags := 1, nameIndex := 5, descriptorIndex := 6, attributes := #[] }, { accessFlags := 10, nameIndex := 38, descriptorIndex := 35, attributes := #[] }, { accessFlags := 9, nameIndex := 46, descriptorIndex := 47, attributes := #[] }] 49 2 #[] #[{ accessFlags := 26, nameIndex := 39, descriptorIndex := 40, attributes := #[] }, { accessFlags := 26, nameIndex := 42, descriptorIndex := 40, attributes := #[] }])
  fields := #[{ name := "MIB", type := .long, accessFlags := 26, slot := 0, constantValue := 0 }, { name := "HUNDRED_MIB", type := .long, accessFlags := 26, slot := 1, constantValue := 0 }]
  methods := #[k1m0, k1m1, k1m2]
  instanceTypes := #[]
  staticTypes := #[.long, .long]
  resolved := Array.replicate 50 none
  statics := none }

def pool2 : Array CpInfo := pool [(1, .class_ 2), (0, u "java/lang/constant/Constable"), (0, .class_ 4), (0, u "java/lang/Object")] 6

/-- java/lang/constant/Constable -/
def k2 : Class := { plain "java/lang/constant/Constable" (some 0) with
  accessFlags := 1537
  interfaces := #[]
  cf := some (fileOf pool2 1 #[] #[] 1537 3 #[] #[])
  fields := #[]
  methods := #[]
  instanceTypes := #[]
  staticTypes := #[]
  resolved := Array.replicate 11 none
  statics := none }

def pool3 : Array CpInfo := pool [(1, .class_ 2), (0, u "java/lang/Comparable"), (0, .class_ 4), (0, u "java/lang/Object")] 7

/-- java/lang/Comparable -/
def k3 : Class := { plain "java/lang/Comparable" (some 0) with
  accessFlags := 1537
  interfaces := #[]
  cf := some (fileOf pool3 1 #[] #[] 1537 3 #[] #[])
  fields := #[]
  methods := #[]
  instanceTypes := #[]
  staticTypes := #[]
  resolved := Array.replicate 12 none
  statics := none }

def pool4 : Array CpInfo := pool [(1, .class_ 2), (0, u "java/io/Serializable"), (0, .class_ 4), (0, u "java/lang/Object")] 2

/-- java/io/Serializable -/
def k4 : Class := { plain "java/io/Serializable" (some 0) with
  accessFlags := 1537
  interfaces := #[]
  cf := some (fileOf pool4 1 #[] #[] 1537 3 #[] #[])
  fields := #[]
  methods := #[]
  instanceTypes := #[]
  staticTypes := #[]
  resolved := Array.replicate 7 none
  statics := none }

def pool5 : Array CpInfo := pool [(2, .class_ 4), (1, u "java/lang/Enum"), (0, u "name"), (0, u "Ljava/lang/String;"), (2, u "ordinal"), (0, u "I"), (1, .class_ 14), (1, u "java/lang/Object"), (4, u "hash"), (86, .class_ 108), (1, u "java/lang/Enum$EnumDesc"), (2, .class_ 112), (0, u "java/lang/constant/Constable"), (0, .class_ 114), (0, u "java/lang/Comparable"), (0, .class_ 116), (0, u "java/io/Serializable")] 87

/-- java/lang/Enum -/
def k5 : Class := { plain "java/lang/Enum" (some 0) with
  accessFlags := 1057
  interfaces := #[2, 3, 4]
  cf := some (fileOf pool5 2 #[.nestMembers #[106]] #[] 1057 12 #[111, 113, 115] #[{ accessFlags := 18, nameIndex := 5, descriptorIndex := 6, attributes := #[] }, { accessFlags := 18, nameIndex := 9, descriptorIndex := 10, attributes := #[] }, { accessFlags := 2, nameIndex := 19, descriptorIndex := 10, attributes := #[] }])
  fields := #[{ name := "name", type := (.object "java/lang/String"), accessFlags := 18, slot := 0, constantValue := 0 }, { name := "ordinal", type := .int, accessFlags := 18, slot := 1, constantValue := 0 }, { name := "hash", type := .int, accessFlags := 2, slot := 2, constantValue := 0 }]
  methods := #[]
  instanceTypes := #[(.object "java/lang/String"), .int, .int]
  staticTypes := #[]
  resolved := Array.replicate 204 none
  statics := none }

def pool6 : Array CpInfo := pool [(1, .class_ 2), (0, u "com/example/shufflewise/shufflewise/sched/ShuffleClass"), (0, .fieldref 1 4), (0, .nameAndType 5 6), (0, u "LIGHT"), (0, u "Lcom/example/shufflewise/shufflewise/sched/ShuffleClass;"), (0, .fieldref 1 8), (0, .nameAndType 9 6), (0, u "MEDIUM"), (0, .fieldref 1 11), (0, .nameAndType 12 6), (0, u "HEAVY"), (2, u "$VALUES"), (0, u "[Lcom/example/shufflewise/shufflewise/sched/ShuffleClass;"), (6, .class_ 25), (1, u "java/lang/Enum"), (24, u "ofEach"), (0, u "(JI)Lcom/example/shufflewise/shufflewise/sched/ShuffleClass;"), (0, .long 1048576), (1, .long 104857600), (11, u "MIB"), (0, u "J"), (1, u "MEDIUM_FROM"), (0, u "MEDIUM_TO"), (0, u "LONG_ABOVE")] 17

def k6c0 : Code := { maxStack := 6, maxLocals := 3, code := prog_88_method_6_code, exceptionTable := #[], attributes := #[] }
def k6m0 : Method := { name := "ofEach", desc := "(JI)Lcom/example/shufflewise/shufflewise/sched/ShuffleClass;", sig := { parameters := [.long, .int], returnType := some (.object "com/example/shufflewise/shufflewise/sched/ShuffleClass") }, accessFlags := 9, code := some k6c0 }
/-- com/example/shufflewise/shufflewise/sched/ShuffleClass -/
def k6 : Class := { plain "com/example/shufflewise/shufflewise/sched/ShuffleClass" (some 5) with
  accessFlags := 16433
  interfaces := #[]
  cf := some (fileOf pool6 1 #[] #[{ accessFlags := 9, nameIndex := 50, descriptorIndex := 51, attributes := #[] }] 16433 23 #[] #[{ accessFlags := 16409, nameIndex := 5, descriptorIndex := 6, attributes := #[] }, { accessFlags := 16409, nameIndex := 9, descriptorIndex := 6, attributes := #[] }, { accessFlags := 16409, nameIndex := 12, descriptorIndex := 6, attributes := #[] }, { accessFlags := 26, nameIndex := 66, descriptorIndex := 67, attributes := #[] }, { accessFlags := 26, nameIndex := 69, descriptorIndex := 67, attributes := #[] }, { accessFlags := 26, nameIndex := 70, descriptorIndex := 67, attributes := #[] }, { accessFlags := 26, nameIndex := 71, descriptorIndex := 67, attributes := #[] }, { accessFlags := 4122, nameIndex := 15, descriptorIndex := 16, attributes := #[] }])
  fields := #[{ name := "LIGHT", type := (.object "com/example/shufflewise/shufflewise/sched/ShuffleClass"), accessFlags := 16409, slot := 0, constantValue := 0 }, { name := "MEDIUM", type := (.object "com/example/shufflewise/shufflewise/sched/ShuffleClass"), accessFlags := 16409, slot := 1, constantValue := 0 }, { name := "HEAVY", type := (.object "com/example/shufflewise/shufflewise/sched/ShuffleClass"), accessFlags := 16409, slot := 2, constantValue := 0 }, { name := "MIB", type := .long, accessFlags := 26, slot := 3, constantValue := 0 }, { name := "MEDIUM_FROM", type := .long, accessFlags := 26, slot := 4, constantValue := 0 }, { name := "MEDIUM_TO", type := .long, accessFlags := 26, slot := 5, constantValue := 0 }, { name := "LONG_ABOVE", type := .long, accessFlags := 26, slot := 6, constantValue := 0 }, { name := "$VALUES", type := (.array (.object "com/example/shufflewise/shufflewise/sched/ShuffleClass")), accessFlags := 4122, slot := 7, constantValue := 0 }]
  methods := #[k6m0]
  instanceTypes := #[(.object "java/lang/String"), .int, .int]
  staticTypes := #[(.object "com/example/shufflewise/shufflewise/sched/ShuffleClass"), (.object "com/example/shufflewise/shufflewise/sched/ShuffleClass"), (.object "com/example/shufflewise/shufflewise/sched/ShuffleClass"), .long, .long, .long, .long, (.array (.object "com/example/shufflewise/shufflewise/sched/ShuffleClass"))]
  resolved := Array.replicate 89 none
  statics := some 0 }

def pool7 : Array CpInfo := pool [(1, u "java/lang/Cloneable"), (0, .class_ 1), (0, u "java/lang/Object"), (0, .class_ 3)] 3

/-- java/lang/Cloneable -/
def k7 : Class := { plain "java/lang/Cloneable" (some 0) with
  accessFlags := 1537
  interfaces := #[]
  cf := some (fileOf pool7 2 #[] #[] 1537 4 #[] #[])
  fields := #[]
  methods := #[]
  instanceTypes := #[]
  staticTypes := #[]
  resolved := Array.replicate 8 none
  statics := none }

/-- the primitive byte -/
def k8 : Class := { plain "byte" none with kind := .primitive 'B', accessFlags := 0x411 }
/-- [B -/
def k9 : Class := { plain "[B" (some 0) with kind := .array 8 .byte, interfaces := #[7, 4], accessFlags := 1041 }

/-- the primitive int -/
def k10 : Class := { plain "int" none with kind := .primitive 'I', accessFlags := 0x411 }
/-- [I -/
def k11 : Class := { plain "[I" (some 0) with kind := .array 10 .int, interfaces := #[7, 4], accessFlags := 1041 }

def heap : Heap := #[{ cls := 6, slots := #[.ref 1, .ref 2, .ref 3, .long 0, .long 0, .long 0, .long 0, .null], vm := .statics 6 },
  { cls := 6, slots := #[.null, .int 0, .int 0], vm := .none },
  { cls := 6, slots := #[.null, .int 1, .int 0], vm := .none },
  { cls := 6, slots := #[.null, .int 2, .int 0], vm := .none }]
def classes : Array Class := #[k0, k1, k2, k3, k4, k5, k6, k7, k8, k9, k10, k11]
def interned : List (Array UInt16 × Addr) := []
def slotsUsed : Nat := 17
def theMethod : MethodId := ⟨1, 2⟩
def args0 : Array Value := #[.long 5, .int 3, .int 0, .int 1]
def aboutOver (below : List Frame) : State where
  vm := { classes := classes, interned := interned.toArray }
  heap := heap
  slotsUsed := slotsUsed
  threads := #[{ frames := .invoking theMethod args0 :: below }]
def below0 : List Frame := [.native { method := ⟨0, 0⟩, args := #[] }]
def about1 : State := aboutOver below0
def p0 : Program := .bare "" "" ""
def e0 : Env := launch0.env 0 0 0
theorem w_frames : about1.frames = Frame.invoking theMethod args0 :: below0 := rfl
set_option maxRecDepth 65536 in
theorem w_args : argsFit about1.vm theMethod args0 = true := by decide +kernel
set_option maxRecDepth 65536 in
theorem w_heap : heapFits about1 = true := by decide +kernel
set_option maxRecDepth 65536 in
theorem w_runnable : about1.curStatus? = some .runnable := by decide +kernel
set_option maxRecDepth 65536 in
theorem w_alone : about1.alone = true := by decide +kernel
set_option maxRecDepth 65536 in
theorem w_named : about1.methodNamed? x = some theMethod := by decide +kernel
set_option maxRecDepth 65536 in
theorem w_hears : about1.hears theMethod below0 = true := by decide +kernel
set_option maxRecDepth 65536 in
theorem w_ripe : about1.ripe theMethod args0 below0 = true := by decide +kernel
theorem w_running : about1.status = .running := rfl
set_option maxRecDepth 65536 in
theorem w_room : about1.hasRoom e0.platform room_1 = true :=
  launch0.hasRoom_least _ room_1 (by decide +kernel) (by decide +kernel) (by decide +kernel) (by decide +kernel) (by decide +kernel) (by decide +kernel)
theorem allAtoms_all (ts : List Jvm.Cond) (a : Array Jvm.Value) (st : Jvm.State) : (allAtoms ts).before a st = ts.all (fun c => c.before a st) := by
  induction ts with
  | nil => rfl
  | cons c t ih =>
    show (Jvm.Cond.and c (allAtoms t)).before a st = _
    rw [Jvm.Cond.before_and, ih, List.all_cons]
def words1 : List Jvm.Cond := Jvm.Cond.code x code maxLocals ret :: tables_1
/-- a 'code' word, met by the world's own term for the bytes: nothing is compared byte by byte -/
theorem code_word {y : MethodName} {bytes : ByteArray} {mx : Nat} {rt : Option FieldType} {a : Array Value} {s : State} {m : MethodId} {meth : Method} {c : Code} (h1 : s.methodNamed? y = some m) (h2 : s.vm.method? m = some meth) (h3 : meth.code = some c) (h4 : c.code = bytes)
    (h5 : (c.maxLocals == mx && c.exceptionTable.isEmpty && decide (c.maxStack ≤ mostOperands) && decide (meth.sig.returnType = rt) && !meth.locks && decide (parseMethodDescriptor y.desc = some meth.sig)) = true) : (Jvm.Cond.code y bytes mx rt).before a s = true := by
  simp only [Bool.and_eq_true, beq_iff_eq, Bool.not_eq_true', decide_eq_true_eq] at h5
  obtain ⟨⟨⟨⟨⟨g1, g2⟩, g3⟩, g4⟩, g5⟩, g6⟩ := h5
  simp [Cond.before, Cond.holds, Cond.value, h1, h2, h3, h4, g1, g2, g3, g4, g5, g6]
def isCode : Jvm.Cond → Bool
  | .code _ _ _ _ => true
  | _ => false
theorem all_split {L : List Jvm.Cond} {P : Jvm.Cond → Bool} (h1 : L.all (fun c => isCode c || P c) = true) (h2 : ∀ c ∈ L.filter isCode, P c = true) : L.all P = true := by
  refine List.all_eq_true.mpr fun c hc => ?_
  have h := List.all_eq_true.mp h1 c hc
  rcases Bool.eq_false_or_eq_true (isCode c) with hi | hi
  · exact h2 c (List.mem_filter.mpr ⟨hc, hi⟩)
  · simpa [hi] using h
set_option maxRecDepth 65536 in
theorem w_c0 : (Jvm.Cond.code x code maxLocals ret).before args0 about1 = true := code_word (m := ⟨1, 2⟩) (meth := k1m2) (c := k1c2) (by decide +kernel) rfl rfl rfl (by decide +kernel)
set_option maxRecDepth 65536 in
theorem w_c1 : (Jvm.Cond.code ({ cls := "com/example/shufflewise/shufflewise/sched/ShuffleClass", name := "ofEach", desc := "(JI)Lcom/example/shufflewise/shufflewise/sched/ShuffleClass;" } : Jvm.MethodName) prog_88_method_6_code (3 : Nat) (Option.some (Jvm.ClassFile.FieldType.object "com/example/shufflewise/shufflewise/sched/ShuffleClass"))).before args0 about1 = true := code_word (m := ⟨6, 0⟩) (meth := k6m0) (c := k6c0) (by decide +kernel) rfl rfl rfl (by decide +kernel)
set_option maxRecDepth 65536 in
theorem w_c2 : (Jvm.Cond.code ({ cls := "com/example/shufflewise/shufflewise/sched/ShuffleClassOfEachPinLaw", name := "expected", desc := "(JI)Lcom/example/shufflewise/shufflewise/sched/ShuffleClass;" } : Jvm.MethodName) method_2_code (7 : Nat) (Option.some (Jvm.ClassFile.FieldType.object "com/example/shufflewise/shufflewise/sched/ShuffleClass"))).before args0 about1 = true := code_word (m := ⟨1, 1⟩) (meth := k1m1) (c := k1c1) (by decide +kernel) rfl rfl rfl (by decide +kernel)
def codes1 : List Jvm.Cond := [Jvm.Cond.code x code maxLocals ret, Jvm.Cond.code ({ cls := "com/example/shufflewise/shufflewise/sched/ShuffleClass", name := "ofEach", desc := "(JI)Lcom/example/shufflewise/shufflewise/sched/ShuffleClass;" } : Jvm.MethodName) prog_88_method_6_code (3 : Nat) (Option.some (Jvm.ClassFile.FieldType.object "com/example/shufflewise/shufflewise/sched/ShuffleClass")), Jvm.Cond.code ({ cls := "com/example/shufflewise/shufflewise/sched/ShuffleClassOfEachPinLaw", name := "expected", desc := "(JI)Lcom/example/shufflewise/shufflewise/sched/ShuffleClass;" } : Jvm.MethodName) method_2_code (7 : Nat) (Option.some (Jvm.ClassFile.FieldType.object "com/example/shufflewise/shufflewise/sched/ShuffleClass"))]
set_option maxRecDepth 65536 in
theorem codes_eq : words1.filter isCode = codes1 := rfl
theorem w_codes : ∀ c ∈ words1.filter isCode, c.before args0 about1 = true := by
  rw [codes_eq]
  intro c hc
  simp only [codes1, List.mem_cons, List.not_mem_nil, or_false] at hc
  rcases hc with rfl | rfl | rfl
  · exact w_c0
  · exact w_c1
  · exact w_c2
set_option maxRecDepth 65536 in
theorem w_t1 : (words1.take 24).all (fun c => isCode c || c.before args0 about1) = true := by decide +kernel
set_option maxRecDepth 65536 in
theorem w_t2 : (words1.drop 24).all (fun c => isCode c || c.before args0 about1) = true := by decide +kernel
theorem w_tables : (allAtoms (Jvm.Cond.code x code maxLocals ret :: tables_1)).before args0 about1 = true := by
  rw [allAtoms_all]
  show words1.all (fun c => c.before args0 about1) = true
  refine all_split ?_ w_codes
  rw [← List.take_append_drop 24 words1, List.all_append, w_t1, w_t2]
  rfl
set_option maxRecDepth 65536 in
theorem w_case : (Jvm.Cond.and given_1 narrow_1).before args0 about1 = true := by decide +kernel
theorem w_applies : (headSpec (Jvm.Cond.code x code maxLocals ret :: tables_1) room_1).applies x e0.platform about1 = true :=
  (Spec.applies_iff w_frames).mpr ⟨w_running, w_runnable, w_alone, w_named, w_hears, w_ripe, w_room, w_tables⟩
theorem atStart : AtStart classFile x code maxLocals ret World_1 tables_1 room_1 Calls_1 rest_1 Pre_1 launch0 p0 e0 about1 theMethod args0 below0 :=
  ⟨lists_1, trivial, launch0.admits_env _ _ _, launch0.least_env, fairChoices_fair.cas, fairChoices_fair.clock, w_frames, w_args, w_heap, w_applies, trivial, trivial, w_case⟩
end start1
theorem witness_1 : WitnessClaimed_1 := ⟨start1.p0, start1.e0, start1.about1, start1.theMethod, start1.args0, start1.below0, start1.atStart⟩
end Jvm.Pilot.@@N@@
