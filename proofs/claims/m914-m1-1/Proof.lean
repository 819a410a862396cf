import JvmDerived
import JvmDerived.Pilot.@@N@@Statement
import JvmDerived.Pilot.@@N@@Code
set_option linter.unusedVariables false
set_option linter.unusedSimpArgs false
namespace Jvm.Pilot.@@N@@
open Jvm Jvm.ClassFile Sem Op Lib Jvm.Free Jvm.Stand Jvm.LawKit Jvm.RoadKit Bundle Jvm.Pilot.@@N@@.Jvm.D
/-- from the state S the run comes to an end of which Q holds -/
def Own (p : Program) (e : Env) (below : List Frame) (Q : State → Outcome → Prop) (S : State) : Prop := ∃ s₂ o, Steps p.tables e below S s₂ ∧ s₂.status = .running ∧ Ended s₂ below o ∧ Q s₂ o
theorem ogo {p : Program} {e : Env} {below : List Frame} {Q : State → Outcome → Prop} {S S' : State} (h : ∀ t, Steps p.tables e below S' t → Steps p.tables e below S t) (k : Own p e below Q S') : Own p e below Q S := by
  obtain ⟨t, o, k1, k2⟩ := k; exact ⟨t, o, h _ k1, k2⟩
theorem otr {p : Program} {e : Env} {below : List Frame} {Q : State → Outcome → Prop} {S S' : State} (h : Steps p.tables e below S S') (k : Own p e below Q S') : Own p e below Q S := by
  obtain ⟨t, o, k1, k2⟩ := k; exact ⟨t, o, h.trans k1, k2⟩
/-- what a contract says of the end: q of what is returned, of the heap and of the places written; the frame -/
abbrev oPost (q : Option Value → Heap → List Loc → Prop) (s : State) (cc ss : Nat) : State → Outcome → Prop := fun s₂ o => ∃ v L, o = .returned v ∧ q v s₂.heap L ∧ FrameEnd s o s₂ L cc ss
abbrev oMet (l : Launch) (Z : State) (y : MethodName) (code : ByteArray) (maxL : Nat) (ret : Option FieldType) (ws : List Jvm.Cond) (rm : Room) (cc ss : Nat) (as' : Array Value) (h0 : Heap) (q : Option Value → Heap → List Loc → Prop) : Prop :=
  MetFree l y (head1 (Jvm.Cond.code y code maxL ret :: ws) rm) (fun a U => a = as' ∧ Z.Warmed39 U.vm ∧ U.heap = h0) (fun _ _ _ _ _ => True) (fun _ U o U' => ∃ v L, o = .returned v ∧ q v U'.heap L ∧ FrameEnd U o U' L cc ss)
theorem oenter {l : Launch} {Z : State} {y : MethodName} {code : ByteArray} {maxL : Nat} {ret : Option FieldType} {ws : List Jvm.Cond} {rm : Room} {cc ss : Nat} {as' : Array Value} {h0 : Heap} {q : Option Value → Heap → List Loc → Prop} (pn : plainName y.cls = true) (Ls : Array Slot) (ef : ∀ m, entryFrame m as' maxL = mkF m 0 Ls [])
    (body : ∀ (p : Program) (e : Env) (s : State) (m : MethodId) (below : List Frame) (meth : Method) (c : Code) (s₁ : State), Stand p l e rm s m as' below meth c s₁ [] 0 0 → p.tables.exec = Jvm.exec → Z.Warmed39 s.vm → c.code = code → c.maxLocals = maxL → meth.sig.returnType = ret → s.vm.findClass y.cls = some m.cls → meth.name = y.name → meth.locks = false → s₁.heap = h0 → Own p e below (oPost q s cc ss) (s₁.setTop (mkF m 0 Ls []))) : oMet l Z y code maxL ret ws rm cc ss as' h0 q := by
  refine MetFree.of_bodySF (plainFor_of_name pn) hisR ?_
  intro p e s m args below meth c s₁ Bd hml0 hP hK
  obtain ⟨rfl, hZ, hh⟩ := hP
  have e0 : s₁.heap = h0 := by rw [← hh, Bd.state]; rfl
  obtain ⟨t, o, h1, h2⟩ := body p e s m below meth c s₁ (Stand.of_body Bd) Bd.exec hZ Bd.bytes hml0 Bd.returns (findClass_of_methodNamed Bd.named) (name_of_methodNamed Bd.named Bd.method).1 (BodyLoose.notSynchronized Bd) e0
  exact ⟨t, o, castTop (ef m) h1, h2⟩
def own_ushr (x y : Int32) : Int32 := (x.toUInt32 >>> (y &&& 31).toUInt32).toInt32
def own_ushrL (x : Int64) (y : Int32) : Int64 := (x.toUInt64 >>> (y &&& 0x3f).toInt64.toUInt64).toInt64
section Steps
variable {p : Program} {l : Launch} {e : Env} {R : Room} {s : State} {m : MethodId} {args : Array Value} {below : List Frame} {meth : Method} {c : Code} {T : State} {locs : List Loc} {cells slots : Nat} {Q : State → Outcome → Prop}
theorem oend {v : Option Value} {q : Option Value → Heap → List Loc → Prop} {cc ss : Nat} {S : State} (X : Stand p l e R s m args below meth c T locs cells slots) (hlk : meth.locks = false) (hv : meth.sig.returnType = none → v = none)
    (st : ∀ fs, (∀ (f : JFrame) (acts : List Action), f.method = m → f.locked = none → f.entered = [] → (doReturn e (T.setTop f) acts v).1 = T.setFrames fs) → Steps p.tables e below S (T.setFrames fs)) (hc : cells ≤ cc) (hs : slots ≤ ss) (hq : q v T.heap locs) : Own p e below (oPost q s cc ss) S := by
  obtain ⟨fs, hr, hrun, hended, hW, hsame⟩ := X.leave (v := v) hv hlk
  exact ⟨_, _, st fs hr, hrun, hended, _, _, rfl, hq, ⟨_, rfl⟩, hW, hsame.mono hc hs⟩
theorem o_aloadN (X : Stand p l e R s m args below meth c T locs cells slots) (hx : p.tables.exec = Jvm.exec) {pc : Nat} {L : Array Slot} {S : List Value} {i : Fin 4} {v : Value} (hd : decode c.code pc = .ok (.aload_n i, 1)) (hl : L[i.val]? = some (.val v)) (hv : v.isRef = true) (k : Own p e below Q (T.setTop (mkF m (pc + 1) L (v :: S)))) : Own p e below Q (T.setTop (mkF m pc L S)) :=
  ogo (fun _ k => XS.aloadN X.here hx rfl hd hl hv k) k
theorem o_aload (X : Stand p l e R s m args below meth c T locs cells slots) (hx : p.tables.exec = Jvm.exec) {pc : Nat} {L : Array Slot} {S : List Value} {i : Nat} {v : Value} (hd : decode c.code pc = .ok (.aload i, 2)) (hl : L[i]? = some (.val v)) (hv : v.isRef = true) (k : Own p e below Q (T.setTop (mkF m (pc + 2) L (v :: S)))) : Own p e below Q (T.setTop (mkF m pc L S)) :=
  ogo (fun _ k => XS.aload X.here hx rfl hd hl hv k) k
theorem o_iloadN (X : Stand p l e R s m args below meth c T locs cells slots) (hx : p.tables.exec = Jvm.exec) {pc : Nat} {L : Array Slot} {S : List Value} {i : Fin 4} {v : Int32} (hd : decode c.code pc = .ok (.iload_n i, 1)) (hl : L[i.val]? = some (.val (.int v))) (k : Own p e below Q (T.setTop (mkF m (pc + 1) L ((.int v) :: S)))) : Own p e below Q (T.setTop (mkF m pc L S)) :=
  ogo (fun _ k => XS.iloadN X.here hx rfl hd hl k) k
theorem o_iload (X : Stand p l e R s m args below meth c T locs cells slots) (hx : p.tables.exec = Jvm.exec) {pc : Nat} {L : Array Slot} {S : List Value} {i : Nat} {v : Int32} (hd : decode c.code pc = .ok (.iload i, 2)) (hl : L[i]? = some (.val (.int v))) (k : Own p e below Q (T.setTop (mkF m (pc + 2) L ((.int v) :: S)))) : Own p e below Q (T.setTop (mkF m pc L S)) :=
  ogo (fun _ k => XS.iload X.here hx rfl hd hl k) k
theorem o_lloadN (X : Stand p l e R s m args below meth c T locs cells slots) (hx : p.tables.exec = Jvm.exec) {pc : Nat} {L : Array Slot} {S : List Value} {i : Fin 4} {v : Int64} (hd : decode c.code pc = .ok (.lload_n i, 1)) (hl : L[i.val]? = some (.val (.long v))) (k : Own p e below Q (T.setTop (mkF m (pc + 1) L ((.long v) :: S)))) : Own p e below Q (T.setTop (mkF m pc L S)) :=
  ogo (fun _ k => XS.lloadN X.here hx rfl hd hl k) k
theorem o_lload (X : Stand p l e R s m args below meth c T locs cells slots) (hx : p.tables.exec = Jvm.exec) {pc : Nat} {L : Array Slot} {S : List Value} {i : Nat} {v : Int64} (hd : decode c.code pc = .ok (.lload i, 2)) (hl : L[i]? = some (.val (.long v))) (k : Own p e below Q (T.setTop (mkF m (pc + 2) L ((.long v) :: S)))) : Own p e below Q (T.setTop (mkF m pc L S)) :=
  ogo (fun _ k => XS.lload X.here hx rfl hd hl k) k
theorem o_astoreN (X : Stand p l e R s m args below meth c T locs cells slots) (hx : p.tables.exec = Jvm.exec) {pc : Nat} {L : Array Slot} {S : List Value} {i : Fin 4} {v : Value} {l' : Array Slot} (hd : decode c.code pc = .ok (.astore_n i, 1)) (hv : v.isRef = true) (hl : storeLocals L i.val v = some l') (k : Own p e below Q (T.setTop (mkF m (pc + 1) l' S))) : Own p e below Q (T.setTop (mkF m pc L (v :: S))) :=
  ogo (fun _ k => XS.astoreN X.here hx rfl hd rfl hv hl k) k
theorem o_astore (X : Stand p l e R s m args below meth c T locs cells slots) (hx : p.tables.exec = Jvm.exec) {pc : Nat} {L : Array Slot} {S : List Value} {i : Nat} {v : Value} {l' : Array Slot} (hd : decode c.code pc = .ok (.astore i, 2)) (hv : v.isRef = true) (hl : storeLocals L i v = some l') (k : Own p e below Q (T.setTop (mkF m (pc + 2) l' S))) : Own p e below Q (T.setTop (mkF m pc L (v :: S))) :=
  ogo (fun _ k => XS.astore X.here hx rfl hd rfl hv hl k) k
theorem o_istoreN (X : Stand p l e R s m args below meth c T locs cells slots) (hx : p.tables.exec = Jvm.exec) {pc : Nat} {L : Array Slot} {S : List Value} {i : Fin 4} {v : Int32} {l' : Array Slot} (hd : decode c.code pc = .ok (.istore_n i, 1)) (hl : storeLocals L i.val (.int v) = some l') (k : Own p e below Q (T.setTop (mkF m (pc + 1) l' S))) : Own p e below Q (T.setTop (mkF m pc L ((.int v) :: S))) :=
  ogo (fun _ k => XS.istoreN X.here hx rfl hd rfl hl k) k
theorem o_istore (X : Stand p l e R s m args below meth c T locs cells slots) (hx : p.tables.exec = Jvm.exec) {pc : Nat} {L : Array Slot} {S : List Value} {i : Nat} {v : Int32} {l' : Array Slot} (hd : decode c.code pc = .ok (.istore i, 2)) (hl : storeLocals L i (.int v) = some l') (k : Own p e below Q (T.setTop (mkF m (pc + 2) l' S))) : Own p e below Q (T.setTop (mkF m pc L ((.int v) :: S))) :=
  ogo (fun _ k => XS.istore X.here hx rfl hd rfl hl k) k
theorem o_lstoreN (X : Stand p l e R s m args below meth c T locs cells slots) (hx : p.tables.exec = Jvm.exec) {pc : Nat} {L : Array Slot} {S : List Value} {i : Fin 4} {v : Int64} {l' : Array Slot} (hd : decode c.code pc = .ok (.lstore_n i, 1)) (hl : storeLocals L i.val (.long v) = some l') (k : Own p e below Q (T.setTop (mkF m (pc + 1) l' S))) : Own p e below Q (T.setTop (mkF m pc L ((.long v) :: S))) :=
  ogo (fun _ k => XS.lstoreN X.here hx rfl hd rfl hl k) k
theorem o_lstore (X : Stand p l e R s m args below meth c T locs cells slots) (hx : p.tables.exec = Jvm.exec) {pc : Nat} {L : Array Slot} {S : List Value} {i : Nat} {v : Int64} {l' : Array Slot} (hd : decode c.code pc = .ok (.lstore i, 2)) (hl : storeLocals L i (.long v) = some l') (k : Own p e below Q (T.setTop (mkF m (pc + 2) l' S))) : Own p e below Q (T.setTop (mkF m pc L ((.long v) :: S))) :=
  ogo (fun _ k => XS.lstore X.here hx rfl hd rfl hl k) k
theorem o_iconst (X : Stand p l e R s m args below meth c T locs cells slots) (hx : p.tables.exec = Jvm.exec) {pc : Nat} {L : Array Slot} {S : List Value} {i : Int} (v : Int32) (hd : decode c.code pc = .ok (.iconst i, 1)) (hv : Int32.ofInt i = v) (k : Own p e below Q (T.setTop (mkF m (pc + 1) L (.int v :: S)))) : Own p e below Q (T.setTop (mkF m pc L S)) := by
  subst hv; exact ogo (fun _ k => XS.iconst X.here hx rfl hd k) k
theorem o_bipush (X : Stand p l e R s m args below meth c T locs cells slots) (hx : p.tables.exec = Jvm.exec) {pc : Nat} {L : Array Slot} {S : List Value} {i : Int} (v : Int32) (hd : decode c.code pc = .ok (.bipush i, 2)) (hv : (Int8.ofInt i).toInt32 = v) (k : Own p e below Q (T.setTop (mkF m (pc + 2) L (.int v :: S)))) : Own p e below Q (T.setTop (mkF m pc L S)) := by
  subst hv; exact ogo (fun _ k => XS.bipush X.here hx rfl hd k) k
theorem o_sipush (X : Stand p l e R s m args below meth c T locs cells slots) (hx : p.tables.exec = Jvm.exec) {pc : Nat} {L : Array Slot} {S : List Value} {i : Int} (v : Int32) (hd : decode c.code pc = .ok (.sipush i, 3)) (hv : (Int16.ofInt i).toInt32 = v) (k : Own p e below Q (T.setTop (mkF m (pc + 3) L (.int v :: S)))) : Own p e below Q (T.setTop (mkF m pc L S)) := by
  subst hv; exact ogo (fun _ k => XS.sipush X.here hx rfl hd k) k
theorem o_lconst (X : Stand p l e R s m args below meth c T locs cells slots) (hx : p.tables.exec = Jvm.exec) {pc : Nat} {L : Array Slot} {S : List Value} {i : Fin 2} (v : Int64) (hd : decode c.code pc = .ok (.lconst i, 1)) (hv : Int64.ofNat i = v) (k : Own p e below Q (T.setTop (mkF m (pc + 1) L (.long v :: S)))) : Own p e below Q (T.setTop (mkF m pc L S)) := by
  subst hv; exact ogo (fun _ k => XS.lconst X.here hx rfl hd k) k
theorem o_aconst_null (X : Stand p l e R s m args below meth c T locs cells slots) (hx : p.tables.exec = Jvm.exec) {pc : Nat} {L : Array Slot} {S : List Value} (hd : decode c.code pc = .ok (.aconst_null, 1)) (k : Own p e below Q (T.setTop (mkF m (pc + 1) L (.null :: S)))) : Own p e below Q (T.setTop (mkF m pc L S)) :=
  ogo (fun _ k => XS.aconstNull X.here hx rfl hd k) k
theorem o_iadd (X : Stand p l e R s m args below meth c T locs cells slots) (hx : p.tables.exec = Jvm.exec) {pc : Nat} {L : Array Slot} {S : List Value} {x y : Int32} (hd : decode c.code pc = .ok (.iadd, 1)) (k : Own p e below Q (T.setTop (mkF m (pc + 1) L (.int (x + y) :: S)))) : Own p e below Q (T.setTop (mkF m pc L (.int y :: .int x :: S))) :=
  ogo (fun _ k => XS.iadd X.here hx rfl hd rfl k) k
theorem o_isub (X : Stand p l e R s m args below meth c T locs cells slots) (hx : p.tables.exec = Jvm.exec) {pc : Nat} {L : Array Slot} {S : List Value} {x y : Int32} (hd : decode c.code pc = .ok (.isub, 1)) (k : Own p e below Q (T.setTop (mkF m (pc + 1) L (.int (x - y) :: S)))) : Own p e below Q (T.setTop (mkF m pc L (.int y :: .int x :: S))) :=
  ogo (fun _ k => XS.isub X.here hx rfl hd rfl k) k
theorem o_imul (X : Stand p l e R s m args below meth c T locs cells slots) (hx : p.tables.exec = Jvm.exec) {pc : Nat} {L : Array Slot} {S : List Value} {x y : Int32} (hd : decode c.code pc = .ok (.imul, 1)) (k : Own p e below Q (T.setTop (mkF m (pc + 1) L (.int (x * y) :: S)))) : Own p e below Q (T.setTop (mkF m pc L (.int y :: .int x :: S))) :=
  ogo (fun _ k => XS.imul X.here hx rfl hd rfl k) k
theorem o_iand (X : Stand p l e R s m args below meth c T locs cells slots) (hx : p.tables.exec = Jvm.exec) {pc : Nat} {L : Array Slot} {S : List Value} {x y : Int32} (hd : decode c.code pc = .ok (.iand, 1)) (k : Own p e below Q (T.setTop (mkF m (pc + 1) L (.int (x &&& y) :: S)))) : Own p e below Q (T.setTop (mkF m pc L (.int y :: .int x :: S))) :=
  ogo (fun _ k => XS.iand X.here hx rfl hd rfl k) k
theorem o_ior (X : Stand p l e R s m args below meth c T locs cells slots) (hx : p.tables.exec = Jvm.exec) {pc : Nat} {L : Array Slot} {S : List Value} {x y : Int32} (hd : decode c.code pc = .ok (.ior, 1)) (k : Own p e below Q (T.setTop (mkF m (pc + 1) L (.int (x ||| y) :: S)))) : Own p e below Q (T.setTop (mkF m pc L (.int y :: .int x :: S))) :=
  ogo (fun _ k => XS.ior X.here hx rfl hd rfl k) k
theorem o_ixor (X : Stand p l e R s m args below meth c T locs cells slots) (hx : p.tables.exec = Jvm.exec) {pc : Nat} {L : Array Slot} {S : List Value} {x y : Int32} (hd : decode c.code pc = .ok (.ixor, 1)) (k : Own p e below Q (T.setTop (mkF m (pc + 1) L (.int (x ^^^ y) :: S)))) : Own p e below Q (T.setTop (mkF m pc L (.int y :: .int x :: S))) :=
  ogo (fun _ k => XS.ixor X.here hx rfl hd rfl k) k
theorem o_ladd (X : Stand p l e R s m args below meth c T locs cells slots) (hx : p.tables.exec = Jvm.exec) {pc : Nat} {L : Array Slot} {S : List Value} {x y : Int64} (hd : decode c.code pc = .ok (.ladd, 1)) (k : Own p e below Q (T.setTop (mkF m (pc + 1) L (.long (x + y) :: S)))) : Own p e below Q (T.setTop (mkF m pc L (.long y :: .long x :: S))) :=
  ogo (fun _ k => XS.ladd X.here hx rfl hd rfl k) k
theorem o_lsub (X : Stand p l e R s m args below meth c T locs cells slots) (hx : p.tables.exec = Jvm.exec) {pc : Nat} {L : Array Slot} {S : List Value} {x y : Int64} (hd : decode c.code pc = .ok (.lsub, 1)) (k : Own p e below Q (T.setTop (mkF m (pc + 1) L (.long (x - y) :: S)))) : Own p e below Q (T.setTop (mkF m pc L (.long y :: .long x :: S))) :=
  ogo (fun _ k => XS.lsub X.here hx rfl hd rfl k) k
theorem o_lmul (X : Stand p l e R s m args below meth c T locs cells slots) (hx : p.tables.exec = Jvm.exec) {pc : Nat} {L : Array Slot} {S : List Value} {x y : Int64} (hd : decode c.code pc = .ok (.lmul, 1)) (k : Own p e below Q (T.setTop (mkF m (pc + 1) L (.long (x * y) :: S)))) : Own p e below Q (T.setTop (mkF m pc L (.long y :: .long x :: S))) :=
  ogo (fun _ k => XS.lmul X.here hx rfl hd rfl k) k
theorem o_land (X : Stand p l e R s m args below meth c T locs cells slots) (hx : p.tables.exec = Jvm.exec) {pc : Nat} {L : Array Slot} {S : List Value} {x y : Int64} (hd : decode c.code pc = .ok (.land, 1)) (k : Own p e below Q (T.setTop (mkF m (pc + 1) L (.long (x &&& y) :: S)))) : Own p e below Q (T.setTop (mkF m pc L (.long y :: .long x :: S))) :=
  ogo (fun _ k => XS.land X.here hx rfl hd rfl k) k
theorem o_lor (X : Stand p l e R s m args below meth c T locs cells slots) (hx : p.tables.exec = Jvm.exec) {pc : Nat} {L : Array Slot} {S : List Value} {x y : Int64} (hd : decode c.code pc = .ok (.lor, 1)) (k : Own p e below Q (T.setTop (mkF m (pc + 1) L (.long (x ||| y) :: S)))) : Own p e below Q (T.setTop (mkF m pc L (.long y :: .long x :: S))) :=
  ogo (fun _ k => XS.lor X.here hx rfl hd rfl k) k
theorem o_lxor (X : Stand p l e R s m args below meth c T locs cells slots) (hx : p.tables.exec = Jvm.exec) {pc : Nat} {L : Array Slot} {S : List Value} {x y : Int64} (hd : decode c.code pc = .ok (.lxor, 1)) (k : Own p e below Q (T.setTop (mkF m (pc + 1) L (.long (x ^^^ y) :: S)))) : Own p e below Q (T.setTop (mkF m pc L (.long y :: .long x :: S))) :=
  ogo (fun _ k => XS.lxor X.here hx rfl hd rfl k) k
theorem o_ishl (X : Stand p l e R s m args below meth c T locs cells slots) (hx : p.tables.exec = Jvm.exec) {pc : Nat} {L : Array Slot} {S : List Value} {x : Int32} {y : Int32} (hd : decode c.code pc = .ok (.ishl, 1)) (k : Own p e below Q (T.setTop (mkF m (pc + 1) L (.int (x <<< (y &&& 31)) :: S)))) : Own p e below Q (T.setTop (mkF m pc L (.int y :: .int x :: S))) :=
  ogo (fun _ k => XS.ishl X.here hx rfl hd rfl k) k
theorem o_ishr (X : Stand p l e R s m args below meth c T locs cells slots) (hx : p.tables.exec = Jvm.exec) {pc : Nat} {L : Array Slot} {S : List Value} {x : Int32} {y : Int32} (hd : decode c.code pc = .ok (.ishr, 1)) (k : Own p e below Q (T.setTop (mkF m (pc + 1) L (.int (x >>> (y &&& 31)) :: S)))) : Own p e below Q (T.setTop (mkF m pc L (.int y :: .int x :: S))) :=
  ogo (fun _ k => XS.ishr X.here hx rfl hd rfl k) k
theorem o_iushr (X : Stand p l e R s m args below meth c T locs cells slots) (hx : p.tables.exec = Jvm.exec) {pc : Nat} {L : Array Slot} {S : List Value} {x : Int32} {y : Int32} (hd : decode c.code pc = .ok (.iushr, 1)) (k : Own p e below Q (T.setTop (mkF m (pc + 1) L (.int (own_ushr x y) :: S)))) : Own p e below Q (T.setTop (mkF m pc L (.int y :: .int x :: S))) :=
  ogo (fun _ k => XS.iushr X.here hx rfl hd rfl k) k
theorem o_lshl (X : Stand p l e R s m args below meth c T locs cells slots) (hx : p.tables.exec = Jvm.exec) {pc : Nat} {L : Array Slot} {S : List Value} {x : Int64} {y : Int32} (hd : decode c.code pc = .ok (.lshl, 1)) (k : Own p e below Q (T.setTop (mkF m (pc + 1) L (.long (x <<< (y &&& 0x3f).toInt64) :: S)))) : Own p e below Q (T.setTop (mkF m pc L (.int y :: .long x :: S))) :=
  ogo (fun _ k => XS.lshl X.here hx rfl hd rfl k) k
theorem o_lshr (X : Stand p l e R s m args below meth c T locs cells slots) (hx : p.tables.exec = Jvm.exec) {pc : Nat} {L : Array Slot} {S : List Value} {x : Int64} {y : Int32} (hd : decode c.code pc = .ok (.lshr, 1)) (k : Own p e below Q (T.setTop (mkF m (pc + 1) L (.long (x >>> (y &&& 0x3f).toInt64) :: S)))) : Own p e below Q (T.setTop (mkF m pc L (.int y :: .long x :: S))) :=
  ogo (fun _ k => XS.lshr X.here hx rfl hd rfl k) k
theorem o_lushr (X : Stand p l e R s m args below meth c T locs cells slots) (hx : p.tables.exec = Jvm.exec) {pc : Nat} {L : Array Slot} {S : List Value} {x : Int64} {y : Int32} (hd : decode c.code pc = .ok (.lushr, 1)) (k : Own p e below Q (T.setTop (mkF m (pc + 1) L (.long (own_ushrL x y) :: S)))) : Own p e below Q (T.setTop (mkF m pc L (.int y :: .long x :: S))) :=
  ogo (fun _ k => XS.lushr X.here hx rfl hd rfl k) k
theorem o_ineg (X : Stand p l e R s m args below meth c T locs cells slots) (hx : p.tables.exec = Jvm.exec) {pc : Nat} {L : Array Slot} {S : List Value} {x : Int32} (hd : decode c.code pc = .ok (.ineg, 1)) (k : Own p e below Q (T.setTop (mkF m (pc + 1) L (.int (-x) :: S)))) : Own p e below Q (T.setTop (mkF m pc L (.int x :: S))) :=
  ogo (fun _ k => XS.ineg X.here hx rfl hd rfl k) k
theorem o_lneg (X : Stand p l e R s m args below meth c T locs cells slots) (hx : p.tables.exec = Jvm.exec) {pc : Nat} {L : Array Slot} {S : List Value} {x : Int64} (hd : decode c.code pc = .ok (.lneg, 1)) (k : Own p e below Q (T.setTop (mkF m (pc + 1) L (.long (-x) :: S)))) : Own p e below Q (T.setTop (mkF m pc L (.long x :: S))) :=
  ogo (fun _ k => XS.lneg X.here hx rfl hd rfl k) k
theorem o_i2l (X : Stand p l e R s m args below meth c T locs cells slots) (hx : p.tables.exec = Jvm.exec) {pc : Nat} {L : Array Slot} {S : List Value} {x : Int32} (hd : decode c.code pc = .ok (.i2l, 1)) (k : Own p e below Q (T.setTop (mkF m (pc + 1) L (.long (x.toInt64) :: S)))) : Own p e below Q (T.setTop (mkF m pc L (.int x :: S))) :=
  ogo (fun _ k => XS.i2l X.here hx rfl hd rfl k) k
theorem o_l2i (X : Stand p l e R s m args below meth c T locs cells slots) (hx : p.tables.exec = Jvm.exec) {pc : Nat} {L : Array Slot} {S : List Value} {x : Int64} (hd : decode c.code pc = .ok (.l2i, 1)) (k : Own p e below Q (T.setTop (mkF m (pc + 1) L (.int (x.toInt32) :: S)))) : Own p e below Q (T.setTop (mkF m pc L (.long x :: S))) :=
  ogo (fun _ k => XS.l2i X.here hx rfl hd rfl k) k
theorem o_i2b (X : Stand p l e R s m args below meth c T locs cells slots) (hx : p.tables.exec = Jvm.exec) {pc : Nat} {L : Array Slot} {S : List Value} {x : Int32} (hd : decode c.code pc = .ok (.i2b, 1)) (k : Own p e below Q (T.setTop (mkF m (pc + 1) L (.int (x.toInt8.toInt32) :: S)))) : Own p e below Q (T.setTop (mkF m pc L (.int x :: S))) :=
  ogo (fun _ k => XS.i2b X.here hx rfl hd rfl k) k
theorem o_i2s (X : Stand p l e R s m args below meth c T locs cells slots) (hx : p.tables.exec = Jvm.exec) {pc : Nat} {L : Array Slot} {S : List Value} {x : Int32} (hd : decode c.code pc = .ok (.i2s, 1)) (k : Own p e below Q (T.setTop (mkF m (pc + 1) L (.int (x.toInt16.toInt32) :: S)))) : Own p e below Q (T.setTop (mkF m pc L (.int x :: S))) :=
  ogo (fun _ k => XS.i2s X.here hx rfl hd rfl k) k
theorem o_i2c (X : Stand p l e R s m args below meth c T locs cells slots) (hx : p.tables.exec = Jvm.exec) {pc : Nat} {L : Array Slot} {S : List Value} {x : Int32} (hd : decode c.code pc = .ok (.i2c, 1)) (k : Own p e below Q (T.setTop (mkF m (pc + 1) L (.int (nar .char x) :: S)))) : Own p e below Q (T.setTop (mkF m pc L (.int x :: S))) :=
  ogo (fun _ k => XS.i2c X.here hx rfl hd rfl k) k
theorem o_lcmp (X : Stand p l e R s m args below meth c T locs cells slots) (hx : p.tables.exec = Jvm.exec) {pc : Nat} {L : Array Slot} {S : List Value} {x y : Int64} (hd : decode c.code pc = .ok (.lcmp, 1)) (k : Own p e below Q (T.setTop (mkF m (pc + 1) L (.int (lcmpW x y) :: S)))) : Own p e below Q (T.setTop (mkF m pc L (.long y :: .long x :: S))) :=
  ogo (fun _ k => XS.lcmp X.here hx rfl hd rfl k) k
theorem o_idiv (X : Stand p l e R s m args below meth c T locs cells slots) (hx : p.tables.exec = Jvm.exec) {pc : Nat} {L : Array Slot} {S : List Value} {x y : Int32} (hd : decode c.code pc = .ok (.idiv, 1)) (hy : y ≠ 0) (k : Own p e below Q (T.setTop (mkF m (pc + 1) L (.int (x / y) :: S)))) : Own p e below Q (T.setTop (mkF m pc L (.int y :: .int x :: S))) :=
  ogo (fun _ k => XS.idiv X.here hx rfl hd rfl hy k) k
theorem o_ldiv (X : Stand p l e R s m args below meth c T locs cells slots) (hx : p.tables.exec = Jvm.exec) {pc : Nat} {L : Array Slot} {S : List Value} {x y : Int64} (hd : decode c.code pc = .ok (.ldiv, 1)) (hy : y ≠ 0) (k : Own p e below Q (T.setTop (mkF m (pc + 1) L (.long (x / y) :: S)))) : Own p e below Q (T.setTop (mkF m pc L (.long y :: .long x :: S))) :=
  ogo (fun _ k => XS.ldiv X.here hx rfl hd rfl hy k) k
theorem o_lrem (X : Stand p l e R s m args below meth c T locs cells slots) (hx : p.tables.exec = Jvm.exec) {pc : Nat} {L : Array Slot} {S : List Value} {x y : Int64} (hd : decode c.code pc = .ok (.lrem, 1)) (hy : y ≠ 0) (k : Own p e below Q (T.setTop (mkF m (pc + 1) L (.long (x - (x / y) * y) :: S)))) : Own p e below Q (T.setTop (mkF m pc L (.long y :: .long x :: S))) :=
  ogo (fun _ k => XS.lrem X.here hx rfl hd rfl hy k) k
theorem o_irem (X : Stand p l e R s m args below meth c T locs cells slots) (hx : p.tables.exec = Jvm.exec) {pc : Nat} {L : Array Slot} {S : List Value} {x y : Int32} (hd : decode c.code pc = .ok (.irem, 1)) (hy : y ≠ 0) (k : Own p e below Q (T.setTop (mkF m (pc + 1) L (.int (x % y) :: S)))) : Own p e below Q (T.setTop (mkF m pc L (.int y :: .int x :: S))) :=
  ogo (fun _ k => iremM X hx rfl hd rfl hy k) k
theorem o_iinc (X : Stand p l e R s m args below meth c T locs cells slots) (hx : p.tables.exec = Jvm.exec) {pc : Nat} {L : Array Slot} {S : List Value} {i : Nat} {n : Int} {x : Int32} {l' : Array Slot} (hd : decode c.code pc = .ok (.iinc i n, 3)) (hl : L[i]? = some (.val (.int x))) (hl' : storeLocals L i (.int (x + Int32.ofInt n)) = some l') (k : Own p e below Q (T.setTop (mkF m (pc + 3) l' S))) : Own p e below Q (T.setTop (mkF m pc L S)) :=
  ogo (fun _ k => XS.iinc X.here hx rfl hd hl hl' k) k
theorem o_dup (X : Stand p l e R s m args below meth c T locs cells slots) (hx : p.tables.exec = Jvm.exec) {pc : Nat} {L : Array Slot} {S : List Value} {v : Value} (hd : decode c.code pc = .ok (.dup, 1)) (hc : v.category = 1) (k : Own p e below Q (T.setTop (mkF m (pc + 1) L (v :: v :: S)))) : Own p e below Q (T.setTop (mkF m pc L (v :: S))) :=
  ogo (fun _ k => XS.dup X.here hx rfl hd rfl hc k) k
theorem o_dup_x1 (X : Stand p l e R s m args below meth c T locs cells slots) (hx : p.tables.exec = Jvm.exec) {pc : Nat} {L : Array Slot} {S : List Value} {v w : Value} (hd : decode c.code pc = .ok (.dup_x1, 1)) (hc : v.category = 1) (hc' : w.category = 1) (k : Own p e below Q (T.setTop (mkF m (pc + 1) L (v :: w :: v :: S)))) : Own p e below Q (T.setTop (mkF m pc L (v :: w :: S))) :=
  ogo (fun _ k => XS.dupX1 X.here hx rfl hd rfl hc hc' k) k
theorem o_pop (X : Stand p l e R s m args below meth c T locs cells slots) (hx : p.tables.exec = Jvm.exec) {pc : Nat} {L : Array Slot} {S : List Value} {v : Value} (hd : decode c.code pc = .ok (.pop, 1)) (hc : v.category = 1) (k : Own p e below Q (T.setTop (mkF m (pc + 1) L S))) : Own p e below Q (T.setTop (mkF m pc L (v :: S))) :=
  ogo (fun _ k => XS.pop X.here hx rfl hd rfl hc k) k
theorem o_goto (X : Stand p l e R s m args below meth c T locs cells slots) (hx : p.tables.exec = Jvm.exec) {pc : Nat} {L : Array Slot} {S : List Value} {o : Int} (pc' : Nat) (hd : decode c.code pc = .ok (.goto o, 3)) (ho : 0 ≤ (pc : Int) + o) (hp : ((pc : Int) + o).toNat = pc') (k : Own p e below Q (T.setTop (mkF m (pc') L S))) : Own p e below Q (T.setTop (mkF m pc L S)) :=
  ogo (fun _ k => XS.goto X.here hx rfl rfl hd ho hp k) k
theorem o_ifYes (X : Stand p l e R s m args below meth c T locs cells slots) (hx : p.tables.exec = Jvm.exec) {pc : Nat} {L : Array Slot} {S : List Value} {cd : ClassFile.Cond} {x : Int32} {o : Int} (pc' : Nat) (hd : decode c.code pc = .ok (.ifCond cd o, 3)) (hc : if_icmp.holds cd x 0 = true) (ho : 0 ≤ (pc : Int) + o) (hp : ((pc : Int) + o).toNat = pc') (k : Own p e below Q (T.setTop (mkF m (pc') L S))) : Own p e below Q (T.setTop (mkF m pc L (.int x :: S))) :=
  ogo (fun _ k => XS.ifYes X.here hx rfl rfl hd rfl ((if0 _ _).trans hc) ho hp k) k
theorem o_ifNo (X : Stand p l e R s m args below meth c T locs cells slots) (hx : p.tables.exec = Jvm.exec) {pc : Nat} {L : Array Slot} {S : List Value} {cd : ClassFile.Cond} {x : Int32} {o : Int} (hd : decode c.code pc = .ok (.ifCond cd o, 3)) (hc : if_icmp.holds cd x 0 = false) (k : Own p e below Q (T.setTop (mkF m (pc + 3) L S))) : Own p e below Q (T.setTop (mkF m pc L (.int x :: S))) :=
  ogo (fun _ k => XS.ifNo X.here hx rfl hd rfl ((if0 _ _).trans hc) k) k
theorem o_icmpYes (X : Stand p l e R s m args below meth c T locs cells slots) (hx : p.tables.exec = Jvm.exec) {pc : Nat} {L : Array Slot} {S : List Value} {cd : ClassFile.Cond} {x y : Int32} {o : Int} (pc' : Nat) (hd : decode c.code pc = .ok (.if_icmp cd o, 3)) (hc : if_icmp.holds cd x y = true) (ho : 0 ≤ (pc : Int) + o) (hp : ((pc : Int) + o).toNat = pc') (k : Own p e below Q (T.setTop (mkF m (pc') L S))) : Own p e below Q (T.setTop (mkF m pc L (.int y :: .int x :: S))) :=
  ogo (fun _ k => XS.icmpYes X.here hx rfl rfl hd rfl hc ho hp k) k
theorem o_icmpNo (X : Stand p l e R s m args below meth c T locs cells slots) (hx : p.tables.exec = Jvm.exec) {pc : Nat} {L : Array Slot} {S : List Value} {cd : ClassFile.Cond} {x y : Int32} {o : Int} (hd : decode c.code pc = .ok (.if_icmp cd o, 3)) (hc : if_icmp.holds cd x y = false) (k : Own p e below Q (T.setTop (mkF m (pc + 3) L S))) : Own p e below Q (T.setTop (mkF m pc L (.int y :: .int x :: S))) :=
  ogo (fun _ k => XS.icmpNo X.here hx rfl hd rfl hc k) k
theorem o_ifnullYes (X : Stand p l e R s m args below meth c T locs cells slots) (hx : p.tables.exec = Jvm.exec) {pc : Nat} {L : Array Slot} {S : List Value} {o : Int} (pc' : Nat) (hd : decode c.code pc = .ok (.ifnull o, 3)) (ho : 0 ≤ (pc : Int) + o) (hp : ((pc : Int) + o).toNat = pc') (k : Own p e below Q (T.setTop (mkF m (pc') L S))) : Own p e below Q (T.setTop (mkF m pc L (.null :: S))) :=
  ogo (fun _ k => XS.ifnullYes X.here hx rfl rfl hd rfl ho hp k) k
theorem o_ifnullNo (X : Stand p l e R s m args below meth c T locs cells slots) (hx : p.tables.exec = Jvm.exec) {pc : Nat} {L : Array Slot} {S : List Value} {o : Int} {b : Addr} (hd : decode c.code pc = .ok (.ifnull o, 3)) (k : Own p e below Q (T.setTop (mkF m (pc + 3) L S))) : Own p e below Q (T.setTop (mkF m pc L (.ref b :: S))) :=
  ogo (fun _ k => XS.ifnullNo X.here hx rfl hd rfl k) k
theorem o_ifnonnullYes (X : Stand p l e R s m args below meth c T locs cells slots) (hx : p.tables.exec = Jvm.exec) {pc : Nat} {L : Array Slot} {S : List Value} {o : Int} {b : Addr} (pc' : Nat) (hd : decode c.code pc = .ok (.ifnonnull o, 3)) (ho : 0 ≤ (pc : Int) + o) (hp : ((pc : Int) + o).toNat = pc') (k : Own p e below Q (T.setTop (mkF m (pc') L S))) : Own p e below Q (T.setTop (mkF m pc L (.ref b :: S))) :=
  ogo (fun _ k => XS.ifnonnullYes X.here hx rfl rfl hd rfl ho hp k) k
theorem o_ifnonnullNo (X : Stand p l e R s m args below meth c T locs cells slots) (hx : p.tables.exec = Jvm.exec) {pc : Nat} {L : Array Slot} {S : List Value} {o : Int} (hd : decode c.code pc = .ok (.ifnonnull o, 3)) (k : Own p e below Q (T.setTop (mkF m (pc + 3) L S))) : Own p e below Q (T.setTop (mkF m pc L (.null :: S))) :=
  ogo (fun _ k => XS.ifnonnullNo X.here hx rfl hd rfl k) k
theorem o_acmp (X : Stand p l e R s m args below meth c T locs cells slots) (hx : p.tables.exec = Jvm.exec) {pc : Nat} {L : Array Slot} {S : List Value} {cd : ClassFile.ACond} {x y : Value} {o : Int} (pc' : Nat) (same : Bool) (h1 : x.isRef = true) (h2 : y.isRef = true) (hd : decode c.code pc = .ok (.if_acmp cd o, 3)) (hq : decide (x = y) = same) (ho : 0 ≤ (pc : Int) + o) (hp : pc' = if acV cd same = true then ((pc : Int) + o).toNat else pc + 3) (k : Own p e below Q (T.setTop (mkF m (pc') L S))) : Own p e below Q (T.setTop (mkF m pc L (y :: x :: S))) :=
  ogo (fun _ k => Jvm.RoadKit.acmp X hx rfl h1 h2 rfl hd rfl hq ho hp k) k
theorem o_tswIn (X : Stand p l e R s m args below meth c T locs cells slots) (hx : p.tables.exec = Jvm.exec) {pc : Nat} {L : Array Slot} {S : List Value} {d lo hi : Int} {offs : Array Int} {len : Nat} {o : Int} {i : Int32} (pc' : Nat) (hd : decode c.code pc = .ok (.tableswitch d lo hi offs, len)) (hin : ¬ (i.toInt < lo ∨ i.toInt > hi)) (hoff : offs[(i.toInt - lo).toNat]? = some o) (ho : 0 ≤ (pc : Int) + o) (hp : ((pc : Int) + o).toNat = pc') (k : Own p e below Q (T.setTop (mkF m (pc') L S))) : Own p e below Q (T.setTop (mkF m pc L (.int i :: S))) :=
  ogo (fun _ k => XS.tswIn X.here hx rfl rfl hd rfl hin hoff ho hp k) k
theorem o_tswOut (X : Stand p l e R s m args below meth c T locs cells slots) (hx : p.tables.exec = Jvm.exec) {pc : Nat} {L : Array Slot} {S : List Value} {d lo hi : Int} {offs : Array Int} {len : Nat} {i : Int32} (pc' : Nat) (hd : decode c.code pc = .ok (.tableswitch d lo hi offs, len)) (hout : i.toInt < lo ∨ i.toInt > hi) (ho : 0 ≤ (pc : Int) + d) (hp : ((pc : Int) + d).toNat = pc') (k : Own p e below Q (T.setTop (mkF m (pc') L S))) : Own p e below Q (T.setTop (mkF m pc L (.int i :: S))) :=
  ogo (fun _ k => XS.tswOut X.here hx rfl rfl hd rfl hout ho hp k) k
end Steps

theorem own_cat {v : Value} (h : v.isRef = true) : v.category = 1 := by cases v <;> simp_all [Value.isRef, Value.category]
theorem own_narc (x : Int32) : nar .char (nar .char x) = nar .char x := by
  have h := c_i2c x
  have h' := c_i2c (nar .char x)
  refine Int32.toInt_inj.mp ?_
  show (nar .char x).toUInt32.toUInt16.toUInt32.toInt32.toInt = (nar .char x).toInt
  have e : (nar .char x).toInt = x.toUInt32.toUInt16.toUInt32.toInt32.toInt := rfl
  omega
theorem own_narb (x : Int32) : nar .byte x.toInt8.toInt32 = x.toInt8.toInt32 := by
  have h := c_i2b x
  have h' := c_i2b x.toInt8.toInt32
  refine Int32.toInt_inj.mp ?_
  show x.toInt8.toInt32.toInt8.toInt32.toInt = x.toInt8.toInt32.toInt
  omega
theorem own_eqref {args : Array Value} {s : State} {a b : Term} {z : Addr} (h : (Jvm.Cond.eq a b).value args s none s [] = some true) (hb : b.eval args s none [] s = some (.ref z)) : a.eval args s none [] s = some (.ref z) := by
  obtain ⟨x, y, h1, h2, k1, k2⟩ := cmp_v (Or.inl h)
  cases hb.symm.trans h2
  have q := gotT (eq_R h1 h2 k2.2 rfl) h
  rw [← q]; exact h1
theorem own_rem6 (k : Int32) : ((k &&& (2147483647 : Int32)) % (6 : Int32)) = (0 : Int32) ∨ ((k &&& (2147483647 : Int32)) % (6 : Int32)) = (1 : Int32) ∨ ((k &&& (2147483647 : Int32)) % (6 : Int32)) = (2 : Int32) ∨ ((k &&& (2147483647 : Int32)) % (6 : Int32)) = (3 : Int32) ∨ ((k &&& (2147483647 : Int32)) % (6 : Int32)) = (4 : Int32) ∨ ((k &&& (2147483647 : Int32)) % (6 : Int32)) = (5 : Int32) := by
  have h0 := (c_and k (2147483647 : Int32) (by decide)).1
  have h1 := (c_irem (k &&& (2147483647 : Int32)) (6 : Int32) 6 rfl).1 h0
  simp only [← Int32.toInt_inj, h1, show (0 : Int32).toInt = 0 from rfl, show (1 : Int32).toInt = 1 from rfl, show (2 : Int32).toInt = 2 from rfl, show (3 : Int32).toInt = 3 from rfl, show (4 : Int32).toInt = 4 from rfl, show (5 : Int32).toInt = 5 from rfl]
  omega
def own_flat (o : Int32) : Int32 := if o = 0 ∨ o = 1 ∨ o = 4 then 1 else 0
def own_Start (Z : State) (s_EVERY_CONTRACT : Addr) (s_ONE_CONTRACT : Addr) (s_PER_10A : Addr) (s_PER_KVA : Addr) (s_UNDER_6KVA : Addr) (s_PER_KW : Addr) : Prop := (Sta Z Z.heap "com/example/leigong/leigong/catalogue/BasicPrice$Basis" "EVERY_CONTRACT" "Lcom/example/leigong/leigong/catalogue/BasicPrice$Basis;" (.ref s_EVERY_CONTRACT)) ∧ (Exa Z Z.heap s_EVERY_CONTRACT "com/example/leigong/leigong/catalogue/BasicPrice$Basis") ∧ (Sta Z Z.heap "com/example/leigong/leigong/catalogue/BasicPrice$Basis" "ONE_CONTRACT" "Lcom/example/leigong/leigong/catalogue/BasicPrice$Basis;" (.ref s_ONE_CONTRACT)) ∧ (Exa Z Z.heap s_ONE_CONTRACT "com/example/leigong/leigong/catalogue/BasicPrice$Basis") ∧ (Sta Z Z.heap "com/example/leigong/leigong/catalogue/BasicPrice$Basis" "PER_10A" "Lcom/example/leigong/leigong/catalogue/BasicPrice$Basis;" (.ref s_PER_10A)) ∧ (Exa Z Z.heap s_PER_10A "com/example/leigong/leigong/catalogue/BasicPrice$Basis") ∧ (Sta Z Z.heap "com/example/leigong/leigong/catalogue/BasicPrice$Basis" "PER_KVA" "Lcom/example/leigong/leigong/catalogue/BasicPrice$Basis;" (.ref s_PER_KVA)) ∧ (Exa Z Z.heap s_PER_KVA "com/example/leigong/leigong/catalogue/BasicPrice$Basis") ∧ (Sta Z Z.heap "com/example/leigong/leigong/catalogue/BasicPrice$Basis" "UNDER_6KVA" "Lcom/example/leigong/leigong/catalogue/BasicPrice$Basis;" (.ref s_UNDER_6KVA)) ∧ (Exa Z Z.heap s_UNDER_6KVA "com/example/leigong/leigong/catalogue/BasicPrice$Basis") ∧ (Sta Z Z.heap "com/example/leigong/leigong/catalogue/BasicPrice$Basis" "PER_KW" "Lcom/example/leigong/leigong/catalogue/BasicPrice$Basis;" (.ref s_PER_KW)) ∧ (Exa Z Z.heap s_PER_KW "com/example/leigong/leigong/catalogue/BasicPrice$Basis") ∧ (Fld Z Z.heap s_EVERY_CONTRACT "java/lang/Enum" "ordinal" "I" (.int (0 : Int32))) ∧ (Fld Z Z.heap s_PER_KVA "java/lang/Enum" "ordinal" "I" (.int (3 : Int32))) ∧ (Fld Z Z.heap s_PER_10A "java/lang/Enum" "ordinal" "I" (.int (2 : Int32))) ∧ (Fld Z Z.heap s_ONE_CONTRACT "java/lang/Enum" "ordinal" "I" (.int (1 : Int32))) ∧ (Fld Z Z.heap s_PER_KW "java/lang/Enum" "ordinal" "I" (.int (5 : Int32))) ∧ (Fld Z Z.heap s_UNDER_6KVA "java/lang/Enum" "ordinal" "I" (.int (4 : Int32)))
theorem d1_0 : decode jdk_37_method_2_code 0 = .ok (.aload_n 0, 1) := by decide +kernel
theorem d1_1 : decode jdk_37_method_2_code 1 = .ok (.getfield 7, 3) := by decide +kernel
theorem d1_4 : decode jdk_37_method_2_code 4 = .ok (.ireturn, 1) := by decide +kernel
theorem own_pn0 : plainName "java/lang/Enum" = true := by first | (simp [plainName, overriddenIn]; done) | decide +kernel
def own_Q_ordinal (Z : State)  (a : Addr) (o : Int32) (h0 : Heap) (n0 : Nat) (v : Option Value) (h : Heap) (L : List Loc) : Prop := (v = some (.int o)) ∧ (Fr n0 L) ∧ (h = h0)
abbrev yM0 : MethodName := ⟨"java/lang/Enum", "ordinal", "()I"⟩
set_option maxRecDepth 65536 in
set_option maxHeartbeats 40000000 in
theorem rm_ordinal (l : Launch) (Z : State) (a0 : Array Value) (hw : ∀ d ∈ tables_1, d.before a0 Z = true) (ws : List Jvm.Cond)  (a : Addr) (o : Int32) (h0 : Heap) (n0 : Nat) (O0 : Old Z n0 h0) (pr0 : Fld Z h0 a "java/lang/Enum" "ordinal" "I" (.int o)) :
    oMet l Z yM0 jdk_37_method_2_code 1 (some .int) ws ({ frames := 0, cells := 0, slots := 0, locals := 0 } : Room) 0 0 #[(.ref a)] h0 (own_Q_ordinal Z  a o h0 n0) := by
  refine oenter own_pn0 #[.val (.ref a)] (fun m => by first | (simp [entryFrame, mkF, argsToLocals, Value.category]; done) | rfl) ?_
  intro p e s m below meth c s₁ X0 hx hZ hby hml hret hown0 hnm hlk e0
  have hown : s.vm.findClass "java/lang/Enum" = some m.cls := hown0
  have N0 := Fr.nil n0
  have w30 := hw _ (List.mem_of_getElem? (i := 30) rfl)
  refine o_aloadN X0 hx (hb hby d1_0) rfl rfl ?_
  obtain ⟨T1, X1, e1, st1⟩ := getF X0 hx hZ hown (host := "") (Or.inl w30) Via.refl e0 pr0 (g := (mkF m 1 #[.val (.ref a)] [(.ref a)])) rfl rfl (hb hby d1_1)
  refine ogo (S' := T1.setTop (mkF m 4 #[.val (.ref a)] [(.int o)])) st1 ?_
  refine oend X1 hlk (v := some (.int o)) (fun h => by rw [hret] at h; cases h) (fun fs hr => retOut X1 hx (t := .int) (i := .ireturn) hret rfl (Or.inl ⟨rfl, Or.inl rfl, _, rfl⟩) (hb hby d1_4) hr) (by decide) (by decide) ?_
  show own_Q_ordinal Z _ _ h0 n0 _ T1.heap _
  rw [e1]
  exact ⟨rfl, N0, rfl⟩
theorem own_pd0 : parseMethodDescriptor "()I" = some ⟨[], some .int⟩ := by decide +kernel
abbrev yM1 : MethodName := ⟨"com/example/leigong/leigong/catalogue/BasicPrice$Basis", "ordinal", "()I"⟩
theorem d2_0 : decode prog_22_method_4_code 0 = .ok (.aload_n 0, 1) := by decide +kernel
theorem d2_1 : decode prog_22_method_4_code 1 = .ok (.invokevirtual 52, 3) := by decide +kernel
theorem d2_4 : decode prog_22_method_4_code 4 = .ok (.tableswitch 40 0 5 #[50, 50, 54, 54, 50, 54], 40) := by decide +kernel
theorem d2_54 : decode prog_22_method_4_code 54 = .ok (.iconst 1, 1) := by decide +kernel
theorem d2_55 : decode prog_22_method_4_code 55 = .ok (.goto 4, 3) := by decide +kernel
theorem d2_59 : decode prog_22_method_4_code 59 = .ok (.ireturn, 1) := by decide +kernel
theorem d2_58 : decode prog_22_method_4_code 58 = .ok (.iconst 0, 1) := by decide +kernel
theorem own_pn1 : plainName "com/example/leigong/leigong/catalogue/BasicPrice$Basis" = true := by first | (simp [plainName, overriddenIn]; done) | decide +kernel
def own_Q_isFlat (Z : State)  (a : Addr) (o : Int32) (h0 : Heap) (n0 : Nat) (v : Option Value) (h : Heap) (L : List Loc) : Prop := (v = some (.int (own_flat o))) ∧ (Fr n0 L) ∧ (h = h0)
abbrev yM2 : MethodName := ⟨"com/example/leigong/leigong/catalogue/BasicPrice$Basis", "isFlat", "()Z"⟩
set_option maxRecDepth 65536 in
set_option maxHeartbeats 40000000 in
theorem rm_isFlat (l : Launch) (Z : State) (a0 : Array Value) (hw : ∀ d ∈ tables_1, d.before a0 Z = true) (ws : List Jvm.Cond)  (a : Addr) (o : Int32) (h0 : Heap) (n0 : Nat) (O0 : Old Z n0 h0) (pr0 : Exa Z h0 a "com/example/leigong/leigong/catalogue/BasicPrice$Basis") (pr1 : Fld Z h0 a "java/lang/Enum" "ordinal" "I" (.int o)) (pr2 : o = 0 ∨ o = 1 ∨ o = 2 ∨ o = 3 ∨ o = 4 ∨ o = 5) :
    oMet l Z yM2 prog_22_method_4_code 1 (some .boolean) ws ({ frames := 1, cells := 0, slots := 0, locals := 12 } : Room) 0 0 #[(.ref a)] h0 (own_Q_isFlat Z  a o h0 n0) := by
  refine oenter own_pn1 #[.val (.ref a)] (fun m => by first | (simp [entryFrame, mkF, argsToLocals, Value.category]; done) | rfl) ?_
  intro p e s m below meth c s₁ X0 hx hZ hby hml hret hown0 hnm hlk e0
  have hown : s.vm.findClass "com/example/leigong/leigong/catalogue/BasicPrice$Basis" = some m.cls := hown0
  have N0 := Fr.nil n0
  have w23 := hw _ (List.mem_of_getElem? (i := 23) rfl)
  have w24 := hw _ (List.mem_of_getElem? (i := 24) rfl)
  have w25 := hw _ (List.mem_of_getElem? (i := 25) rfl)
  have w26 := hw _ (List.mem_of_getElem? (i := 26) rfl)
  have w27 := hw _ (List.mem_of_getElem? (i := 27) rfl)
  have w28 := hw _ (List.mem_of_getElem? (i := 28) rfl)
  have w29 := hw _ (List.mem_of_getElem? (i := 29) rfl)
  refine o_aloadN X0 hx (hb hby d2_0) rfl rfl ?_
  obtain ⟨cq1, kq1, q1a, q1b, q1c⟩ := isOf hZ e0 pr0
  obtain ⟨_, _, ⟨T1, L1, kc1, n1⟩, -, X1, ⟨Lc1, hQ1, l1, y1, z1⟩, st1⟩ := X0.virtualBackUp hx (x := yM1) (y := yM0) (owner := "java/lang/Enum") hown (mvT hZ w23) (mvT hZ w24) (mvT hZ w25) (by decide) (mvT hZ w27) (mvT hZ w26) (backOf (W := 0) (rm_ordinal l Z a0 hw []  a o h0 n0 O0 pr1) hZ w29 w28 (by decide) (by decide)) q1a q1c (g := (mkF m 1 #[.val (.ref a)] [(.ref a)])) rfl (by rw [hml]; rfl) (Steps.refl _) (argsL := []) (rest := []) (lenOf own_pd0 rfl) rfl (by show 2 * 0 + _ ≤ _; exact Nat.le_of_eq rfl) (hb hby d2_1) (fun _ _ => ⟨rfl, e0, (by decide : 0 + 0 ≤ _), (by decide : 0 + 0 ≤ _)⟩)
  dsimp only [Pt.U, Pt.locs, Pt.cells, Pt.slots] at X1 l1 y1 z1 st1 hQ1
  subst l1 y1 z1
  obtain ⟨rfl, Nq1, e1⟩ := hQ1
  have N1 := Fr.app N0 Nq1
  refine otr (S' := T1.setTop (mkF m 4 #[.val (.ref a)] [(.int o)])) st1 ?_
  rcases pr2 with rfl | rfl | rfl | rfl | rfl | rfl
  · refine o_tswIn X1 hx 54 (hb hby d2_4) (by decide) rfl (by decide) (by decide) ?_
    refine o_iconst X1 hx (1 : Int32) (hb hby d2_54) rfl ?_
    refine o_goto X1 hx 59 (hb hby d2_55) (by decide) (by decide) ?_
    refine oend X1 hlk (v := some (.int (1 : Int32))) (fun h => by rw [hret] at h; cases h) (fun fs hr => retN X1 hx (t := .boolean) hret (by simp) (hb hby d2_59) hr) (by decide) (by decide) ?_
    show own_Q_isFlat Z _ _ h0 n0 _ T1.heap _
    rw [e1]
    exact ⟨rfl, N1, rfl⟩
  · refine o_tswIn X1 hx 54 (hb hby d2_4) (by decide) rfl (by decide) (by decide) ?_
    refine o_iconst X1 hx (1 : Int32) (hb hby d2_54) rfl ?_
    refine o_goto X1 hx 59 (hb hby d2_55) (by decide) (by decide) ?_
    refine oend X1 hlk (v := some (.int (1 : Int32))) (fun h => by rw [hret] at h; cases h) (fun fs hr => retN X1 hx (t := .boolean) hret (by simp) (hb hby d2_59) hr) (by decide) (by decide) ?_
    show own_Q_isFlat Z _ _ h0 n0 _ T1.heap _
    rw [e1]
    exact ⟨rfl, N1, rfl⟩
  · refine o_tswIn X1 hx 58 (hb hby d2_4) (by decide) rfl (by decide) (by decide) ?_
    refine o_iconst X1 hx (0 : Int32) (hb hby d2_58) rfl ?_
    refine oend X1 hlk (v := some (.int (0 : Int32))) (fun h => by rw [hret] at h; cases h) (fun fs hr => retN X1 hx (t := .boolean) hret (by simp) (hb hby d2_59) hr) (by decide) (by decide) ?_
    show own_Q_isFlat Z _ _ h0 n0 _ T1.heap _
    rw [e1]
    exact ⟨rfl, N1, rfl⟩
  · refine o_tswIn X1 hx 58 (hb hby d2_4) (by decide) rfl (by decide) (by decide) ?_
    refine o_iconst X1 hx (0 : Int32) (hb hby d2_58) rfl ?_
    refine oend X1 hlk (v := some (.int (0 : Int32))) (fun h => by rw [hret] at h; cases h) (fun fs hr => retN X1 hx (t := .boolean) hret (by simp) (hb hby d2_59) hr) (by decide) (by decide) ?_
    show own_Q_isFlat Z _ _ h0 n0 _ T1.heap _
    rw [e1]
    exact ⟨rfl, N1, rfl⟩
  · refine o_tswIn X1 hx 54 (hb hby d2_4) (by decide) rfl (by decide) (by decide) ?_
    refine o_iconst X1 hx (1 : Int32) (hb hby d2_54) rfl ?_
    refine o_goto X1 hx 59 (hb hby d2_55) (by decide) (by decide) ?_
    refine oend X1 hlk (v := some (.int (1 : Int32))) (fun h => by rw [hret] at h; cases h) (fun fs hr => retN X1 hx (t := .boolean) hret (by simp) (hb hby d2_59) hr) (by decide) (by decide) ?_
    show own_Q_isFlat Z _ _ h0 n0 _ T1.heap _
    rw [e1]
    exact ⟨rfl, N1, rfl⟩
  · refine o_tswIn X1 hx 58 (hb hby d2_4) (by decide) rfl (by decide) (by decide) ?_
    refine o_iconst X1 hx (0 : Int32) (hb hby d2_58) rfl ?_
    refine oend X1 hlk (v := some (.int (0 : Int32))) (fun h => by rw [hret] at h; cases h) (fun fs hr => retN X1 hx (t := .boolean) hret (by simp) (hb hby d2_59) hr) (by decide) (by decide) ?_
    show own_Q_isFlat Z _ _ h0 n0 _ T1.heap _
    rw [e1]
    exact ⟨rfl, N1, rfl⟩
theorem own_pd1 : parseMethodDescriptor "()Z" = some ⟨[], some .boolean⟩ := by decide +kernel
theorem own_pn2 : plainName "com/example/leigong/leigong/catalogue/BasicPriceIsFlatPinLaw" = true := by first | (simp [plainName, overriddenIn]; done) | decide +kernel
def own_Q_law (Z : State) (s_EVERY_CONTRACT : Addr) (s_ONE_CONTRACT : Addr) (s_PER_10A : Addr) (s_PER_KVA : Addr) (s_UNDER_6KVA : Addr) (s_PER_KW : Addr) (k : Int32) (h0 : Heap) (n0 : Nat) (v : Option Value) (h : Heap) (L : List Loc) : Prop := (v = some (.int (1 : Int32))) ∧ (Fr n0 L) ∧ (Keep h0 h [])
set_option maxRecDepth 65536 in
set_option maxHeartbeats 40000000 in
theorem rm_law (l : Launch) (Z : State) (a0 : Array Value) (hw : ∀ d ∈ tables_1, d.before a0 Z = true) (ws : List Jvm.Cond) (s_EVERY_CONTRACT : Addr) (s_ONE_CONTRACT : Addr) (s_PER_10A : Addr) (s_PER_KVA : Addr) (s_UNDER_6KVA : Addr) (s_PER_KW : Addr) (k : Int32) (h0 : Heap) (n0 : Nat) (SB : own_Start Z s_EVERY_CONTRACT s_ONE_CONTRACT s_PER_10A s_PER_KVA s_UNDER_6KVA s_PER_KW) (O0 : Old Z n0 h0)  :
    oMet l Z x code maxLocals ret ws room_1 16 128 #[(.int k)] h0 (own_Q_law Z s_EVERY_CONTRACT s_ONE_CONTRACT s_PER_10A s_PER_KVA s_UNDER_6KVA s_PER_KW k h0 n0) := by
  refine oenter own_pn2 #[.val (.int k), .unset, .unset, .unset] (fun m => by first | (simp [entryFrame, mkF, argsToLocals, Value.category, maxLocals]; done) | rfl) ?_
  intro p e s m below meth c s₁ X0 hx hZ hby hml hret hown0 hnm hlk e0
  have hown : s.vm.findClass "com/example/leigong/leigong/catalogue/BasicPriceIsFlatPinLaw" = some m.cls := hown0
  have N0 := Fr.nil n0
  obtain ⟨S_s_EVERY_CONTRACT, E_s_EVERY_CONTRACT, S_s_ONE_CONTRACT, E_s_ONE_CONTRACT, S_s_PER_10A, E_s_PER_10A, S_s_PER_KVA, E_s_PER_KVA, S_s_UNDER_6KVA, E_s_UNDER_6KVA, S_s_PER_KW, E_s_PER_KW, F_s_EVERY_CONTRACT_ordinal, F_s_PER_KVA_ordinal, F_s_PER_10A_ordinal, F_s_ONE_CONTRACT_ordinal, F_s_PER_KW_ordinal, F_s_UNDER_6KVA_ordinal⟩ := (id SB)
  have w0 := hw _ (List.mem_of_getElem? (i := 0) rfl)
  have w1 := hw _ (List.mem_of_getElem? (i := 1) rfl)
  have w2 := hw _ (List.mem_of_getElem? (i := 2) rfl)
  have w3 := hw _ (List.mem_of_getElem? (i := 3) rfl)
  have w6 := hw _ (List.mem_of_getElem? (i := 6) rfl)
  have w8 := hw _ (List.mem_of_getElem? (i := 8) rfl)
  have w10 := hw _ (List.mem_of_getElem? (i := 10) rfl)
  have w12 := hw _ (List.mem_of_getElem? (i := 12) rfl)
  have w14 := hw _ (List.mem_of_getElem? (i := 14) rfl)
  have w16 := hw _ (List.mem_of_getElem? (i := 16) rfl)
  have w17 := hw _ (List.mem_of_getElem? (i := 17) rfl)
  have w18 := hw _ (List.mem_of_getElem? (i := 18) rfl)
  have w19 := hw _ (List.mem_of_getElem? (i := 19) rfl)
  have w20 := hw _ (List.mem_of_getElem? (i := 20) rfl)
  have w21 := hw _ (List.mem_of_getElem? (i := 21) rfl)
  have w22 := hw _ (List.mem_of_getElem? (i := 22) rfl)
  refine o_bipush X0 hx (6 : Int32) (hb hby at_0) rfl ?_
  obtain ⟨T1, _, k1, X1, rfl, E1, A1, Ex1, Ov1, st1⟩ := newRE X0 hx hZ hown w0 w1 e0 (g := (mkF m 2 #[.val (.int k), .unset, .unset, .unset] [(.int (6 : Int32))])) rfl (hb hby at_2) rfl (by decide) (cap := 6) (by decide) (by decide) (by decide) (by decide) (ad := "[Lcom/example/leigong/leigong/catalogue/BasicPrice$Basis;") (by decide)
  obtain ⟨b1, g1⟩ : ∃ z, z = h0.size := ⟨_, rfl⟩
  rw [← g1] at A1 Ex1 st1
  have n0_b1 : n0 ≤ b1 := Nat.le_trans (Nat.le_trans (Nat.le_of_eq O0.1.symm) O0.2.1) (Nat.le_trans (Nat.le_refl _) (Nat.le_of_eq g1.symm))
  have V1 : Arv Z T1.heap b1 k1 (.object "com/example/leigong/leigong/catalogue/BasicPrice$Basis") (6 : Int32) [.null, .null, .null, .null, .null, .null] .null := (Arv.new A1 (by decide)).pad (pad_rep [] .null 6)
  refine ogo (S' := T1.setTop (mkF m 5 #[.val (.int k), .unset, .unset, .unset] [(.ref b1)])) st1 ?_
  refine o_dup X1 hx (hb hby at_5) rfl ?_
  refine o_iconst X1 hx (0 : Int32) (hb hby at_6) rfl ?_
  obtain ⟨T2, X2, e2, st2⟩ := getS2 X1 hx hZ hown (host := "") (Or.inl w2) Via.refl rfl (Sta.ext (O0.ext E1).2 S_s_EVERY_CONTRACT) (g := (mkF m 7 #[.val (.int k), .unset, .unset, .unset] [(.int (0 : Int32)), (.ref b1), (.ref b1)])) rfl (hb hby at_7)
  refine ogo (S' := T2.setTop (mkF m 10 #[.val (.int k), .unset, .unset, .unset] [(.ref s_EVERY_CONTRACT), (.int (0 : Int32)), (.ref b1), (.ref b1)])) st2 ?_
  obtain ⟨cl3, Ar3, q3, S3, N3z, H3, G3⟩ := (id V1)
  obtain ⟨T3, _, X3, rfl, W3, st3⟩ := stR X2 hx hZ e2 Ar3 (j := (0 : Int32)) (inb_of S3 ⟨by decide, by decide⟩) rfl (Sto.ofV Ar3 q3 Ov1 (Ins.self (Exa.ext (O0.ext E1).2 E_s_EVERY_CONTRACT))) (g := (mkF m 10 #[.val (.int k), .unset, .unset, .unset] [(.ref s_EVERY_CONTRACT), (.int (0 : Int32)), (.ref b1), (.ref b1)])) rfl rfl (hb hby at_10)
  have V3 : Arv Z T3.heap b1 k1 (.object "com/example/leigong/leigong/catalogue/BasicPrice$Basis") (6 : Int32) [(.ref s_EVERY_CONTRACT), .null, .null, .null, .null, .null] .null := Arv.set Ar3 q3 S3 N3z H3 G3 rfl W3 0 rfl (Nat.le_of_ble_eq_true rfl)
  have N3 := Fr.snoc X3 N0 n0_b1
  refine ogo (S' := T3.setTop (mkF m 11 #[.val (.int k), .unset, .unset, .unset] [(.ref b1)])) st3 ?_
  refine o_dup X3 hx (hb hby at_11) rfl ?_
  refine o_iconst X3 hx (1 : Int32) (hb hby at_12) rfl ?_
  obtain ⟨T4, X4, e4, st4⟩ := getS2 X3 hx hZ hown (host := "") (Or.inl w6) Via.refl rfl (Sta.ext ((O0.ext E1).wr W3 n0_b1).2 S_s_ONE_CONTRACT) (g := (mkF m 13 #[.val (.int k), .unset, .unset, .unset] [(.int (1 : Int32)), (.ref b1), (.ref b1)])) rfl (hb hby at_13)
  refine ogo (S' := T4.setTop (mkF m 16 #[.val (.int k), .unset, .unset, .unset] [(.ref s_ONE_CONTRACT), (.int (1 : Int32)), (.ref b1), (.ref b1)])) st4 ?_
  obtain ⟨cl5, Ar5, q5, S5, N5z, H5, G5⟩ := (id V3)
  obtain ⟨T5, _, X5, rfl, W5, st5⟩ := stR X4 hx hZ e4 Ar5 (j := (1 : Int32)) (inb_of S5 ⟨by decide, by decide⟩) rfl (Sto.ofV Ar5 q5 Ov1 (Ins.self (Exa.ext ((O0.ext E1).wr W3 n0_b1).2 E_s_ONE_CONTRACT))) (g := (mkF m 16 #[.val (.int k), .unset, .unset, .unset] [(.ref s_ONE_CONTRACT), (.int (1 : Int32)), (.ref b1), (.ref b1)])) rfl rfl (hb hby at_16)
  have V5 : Arv Z T5.heap b1 k1 (.object "com/example/leigong/leigong/catalogue/BasicPrice$Basis") (6 : Int32) [(.ref s_EVERY_CONTRACT), (.ref s_ONE_CONTRACT), .null, .null, .null, .null] .null := Arv.set Ar5 q5 S5 N5z H5 G5 rfl W5 1 rfl (Nat.le_of_ble_eq_true rfl)
  have N5 := Fr.snoc X5 N3 n0_b1
  refine ogo (S' := T5.setTop (mkF m 17 #[.val (.int k), .unset, .unset, .unset] [(.ref b1)])) st5 ?_
  refine o_dup X5 hx (hb hby at_17) rfl ?_
  refine o_iconst X5 hx (2 : Int32) (hb hby at_18) rfl ?_
  obtain ⟨T6, X6, e6, st6⟩ := getS2 X5 hx hZ hown (host := "") (Or.inl w8) Via.refl rfl (Sta.ext (((O0.ext E1).wr W3 n0_b1).wr W5 n0_b1).2 S_s_PER_10A) (g := (mkF m 19 #[.val (.int k), .unset, .unset, .unset] [(.int (2 : Int32)), (.ref b1), (.ref b1)])) rfl (hb hby at_19)
  refine ogo (S' := T6.setTop (mkF m 22 #[.val (.int k), .unset, .unset, .unset] [(.ref s_PER_10A), (.int (2 : Int32)), (.ref b1), (.ref b1)])) st6 ?_
  obtain ⟨cl7, Ar7, q7, S7, N7z, H7, G7⟩ := (id V5)
  obtain ⟨T7, _, X7, rfl, W7, st7⟩ := stR X6 hx hZ e6 Ar7 (j := (2 : Int32)) (inb_of S7 ⟨by decide, by decide⟩) rfl (Sto.ofV Ar7 q7 Ov1 (Ins.self (Exa.ext (((O0.ext E1).wr W3 n0_b1).wr W5 n0_b1).2 E_s_PER_10A))) (g := (mkF m 22 #[.val (.int k), .unset, .unset, .unset] [(.ref s_PER_10A), (.int (2 : Int32)), (.ref b1), (.ref b1)])) rfl rfl (hb hby at_22)
  have V7 : Arv Z T7.heap b1 k1 (.object "com/example/leigong/leigong/catalogue/BasicPrice$Basis") (6 : Int32) [(.ref s_EVERY_CONTRACT), (.ref s_ONE_CONTRACT), (.ref s_PER_10A), .null, .null, .null] .null := Arv.set Ar7 q7 S7 N7z H7 G7 rfl W7 2 rfl (Nat.le_of_ble_eq_true rfl)
  have N7 := Fr.snoc X7 N5 n0_b1
  refine ogo (S' := T7.setTop (mkF m 23 #[.val (.int k), .unset, .unset, .unset] [(.ref b1)])) st7 ?_
  refine o_dup X7 hx (hb hby at_23) rfl ?_
  refine o_iconst X7 hx (3 : Int32) (hb hby at_24) rfl ?_
  obtain ⟨T8, X8, e8, st8⟩ := getS2 X7 hx hZ hown (host := "") (Or.inl w10) Via.refl rfl (Sta.ext ((((O0.ext E1).wr W3 n0_b1).wr W5 n0_b1).wr W7 n0_b1).2 S_s_PER_KVA) (g := (mkF m 25 #[.val (.int k), .unset, .unset, .unset] [(.int (3 : Int32)), (.ref b1), (.ref b1)])) rfl (hb hby at_25)
  refine ogo (S' := T8.setTop (mkF m 28 #[.val (.int k), .unset, .unset, .unset] [(.ref s_PER_KVA), (.int (3 : Int32)), (.ref b1), (.ref b1)])) st8 ?_
  obtain ⟨cl9, Ar9, q9, S9, N9z, H9, G9⟩ := (id V7)
  obtain ⟨T9, _, X9, rfl, W9, st9⟩ := stR X8 hx hZ e8 Ar9 (j := (3 : Int32)) (inb_of S9 ⟨by decide, by decide⟩) rfl (Sto.ofV Ar9 q9 Ov1 (Ins.self (Exa.ext ((((O0.ext E1).wr W3 n0_b1).wr W5 n0_b1).wr W7 n0_b1).2 E_s_PER_KVA))) (g := (mkF m 28 #[.val (.int k), .unset, .unset, .unset] [(.ref s_PER_KVA), (.int (3 : Int32)), (.ref b1), (.ref b1)])) rfl rfl (hb hby at_28)
  have V9 : Arv Z T9.heap b1 k1 (.object "com/example/leigong/leigong/catalogue/BasicPrice$Basis") (6 : Int32) [(.ref s_EVERY_CONTRACT), (.ref s_ONE_CONTRACT), (.ref s_PER_10A), (.ref s_PER_KVA), .null, .null] .null := Arv.set Ar9 q9 S9 N9z H9 G9 rfl W9 3 rfl (Nat.le_of_ble_eq_true rfl)
  have N9 := Fr.snoc X9 N7 n0_b1
  refine ogo (S' := T9.setTop (mkF m 29 #[.val (.int k), .unset, .unset, .unset] [(.ref b1)])) st9 ?_
  refine o_dup X9 hx (hb hby at_29) rfl ?_
  refine o_iconst X9 hx (4 : Int32) (hb hby at_30) rfl ?_
  have c11 := (((((O0.ext E1).wr W3 n0_b1).wr W5 n0_b1).wr W7 n0_b1).wr W9 n0_b1)
  obtain ⟨T10, X10, e10, st10⟩ := getS2 X9 hx hZ hown (host := "") (Or.inl w12) Via.refl rfl (Sta.ext c11.2 S_s_UNDER_6KVA) (g := (mkF m 31 #[.val (.int k), .unset, .unset, .unset] [(.int (4 : Int32)), (.ref b1), (.ref b1)])) rfl (hb hby at_31)
  refine ogo (S' := T10.setTop (mkF m 34 #[.val (.int k), .unset, .unset, .unset] [(.ref s_UNDER_6KVA), (.int (4 : Int32)), (.ref b1), (.ref b1)])) st10 ?_
  obtain ⟨cl12, Ar12, q12, S12, N12z, H12, G12⟩ := (id V9)
  obtain ⟨T12, _, X12, rfl, W12, st12⟩ := stR X10 hx hZ e10 Ar12 (j := (4 : Int32)) (inb_of S12 ⟨by decide, by decide⟩) rfl (Sto.ofV Ar12 q12 Ov1 (Ins.self (Exa.ext c11.2 E_s_UNDER_6KVA))) (g := (mkF m 34 #[.val (.int k), .unset, .unset, .unset] [(.ref s_UNDER_6KVA), (.int (4 : Int32)), (.ref b1), (.ref b1)])) rfl rfl (hb hby at_34)
  have V12 : Arv Z T12.heap b1 k1 (.object "com/example/leigong/leigong/catalogue/BasicPrice$Basis") (6 : Int32) [(.ref s_EVERY_CONTRACT), (.ref s_ONE_CONTRACT), (.ref s_PER_10A), (.ref s_PER_KVA), (.ref s_UNDER_6KVA), .null] .null := Arv.set Ar12 q12 S12 N12z H12 G12 rfl W12 4 rfl (Nat.le_of_ble_eq_true rfl)
  have N12 := Fr.snoc X12 N9 n0_b1
  refine ogo (S' := T12.setTop (mkF m 35 #[.val (.int k), .unset, .unset, .unset] [(.ref b1)])) st12 ?_
  refine o_dup X12 hx (hb hby at_35) rfl ?_
  refine o_iconst X12 hx (5 : Int32) (hb hby at_36) rfl ?_
  obtain ⟨T13, X13, e13, st13⟩ := getS2 X12 hx hZ hown (host := "") (Or.inl w14) Via.refl rfl (Sta.ext (c11.wr W12 n0_b1).2 S_s_PER_KW) (g := (mkF m 37 #[.val (.int k), .unset, .unset, .unset] [(.int (5 : Int32)), (.ref b1), (.ref b1)])) rfl (hb hby at_37)
  refine ogo (S' := T13.setTop (mkF m 40 #[.val (.int k), .unset, .unset, .unset] [(.ref s_PER_KW), (.int (5 : Int32)), (.ref b1), (.ref b1)])) st13 ?_
  obtain ⟨cl14, Ar14, q14, S14, N14z, H14, G14⟩ := (id V12)
  obtain ⟨T14, _, X14, rfl, W14, st14⟩ := stR X13 hx hZ e13 Ar14 (j := (5 : Int32)) (inb_of S14 ⟨by decide, by decide⟩) rfl (Sto.ofV Ar14 q14 Ov1 (Ins.self (Exa.ext (c11.wr W12 n0_b1).2 E_s_PER_KW))) (g := (mkF m 40 #[.val (.int k), .unset, .unset, .unset] [(.ref s_PER_KW), (.int (5 : Int32)), (.ref b1), (.ref b1)])) rfl rfl (hb hby at_40)
  have V14 : Arv Z T14.heap b1 k1 (.object "com/example/leigong/leigong/catalogue/BasicPrice$Basis") (6 : Int32) [(.ref s_EVERY_CONTRACT), (.ref s_ONE_CONTRACT), (.ref s_PER_10A), (.ref s_PER_KVA), (.ref s_UNDER_6KVA), (.ref s_PER_KW)] .null := Arv.set Ar14 q14 S14 N14z H14 G14 rfl W14 5 rfl (Nat.le_of_ble_eq_true rfl)
  have N14 := Fr.snoc X14 N12 n0_b1
  refine ogo (S' := T14.setTop (mkF m 41 #[.val (.int k), .unset, .unset, .unset] [(.ref b1)])) st14 ?_
  refine o_astoreN X14 hx (l' := #[.val (.int k), .val (.ref b1), .unset, .unset]) (hb hby at_41) rfl rfl ?_
  refine o_bipush X14 hx (6 : Int32) (hb hby at_42) rfl ?_
  obtain ⟨T15, _, k15, X15, rfl, E15, A15, Ex15, st15⟩ := newPE (aty := .boolean) X14 hx hZ w16 rfl (g := (mkF m 44 #[.val (.int k), .val (.ref b1), .unset, .unset] [(.int (6 : Int32))])) rfl (hb hby at_44) rfl (by decide) (cap := 6) (by decide) (by decide) (by decide) (by decide) (ad := "[Z") rfl
  obtain ⟨b15, g15⟩ : ∃ z, z = T14.heap.size := ⟨_, rfl⟩
  rw [← g15] at A15 Ex15 st15
  have n0_b15 : n0 ≤ b15 := Nat.le_trans (Nat.le_trans (Nat.le_of_eq O0.1.symm) O0.2.1) (Nat.le_trans (Nat.le_trans (Nat.le_trans (Nat.le_trans (Nat.le_trans (Nat.le_trans (Nat.le_trans E1.1 (Keep.of_wr W3).1) (Keep.of_wr W5).1) (Keep.of_wr W7).1) (Keep.of_wr W9).1) (Keep.of_wr W12).1) (Keep.of_wr W14).1) (Nat.le_of_eq g15.symm))
  have V15 : Arv Z T15.heap b15 k15 .boolean (6 : Int32) [(.int 0), (.int 0), (.int 0), (.int 0), (.int 0), (.int 0)] (.int 0) := (Arv.new A15 (by decide)).pad (pad_rep [] (.int 0) 6)
  refine ogo (S' := T15.setTop (mkF m 46 #[.val (.int k), .val (.ref b1), .unset, .unset] [(.ref b15)])) st15 ?_
  refine o_dup X15 hx (hb hby at_46) rfl ?_
  refine o_iconst X15 hx (0 : Int32) (hb hby at_47) rfl ?_
  refine o_iconst X15 hx (1 : Int32) (hb hby at_48) rfl ?_
  obtain ⟨cl16, Ar16, q16, S16, N16z, H16, G16⟩ := (id V15)
  obtain ⟨T16, _, X16, rfl, W16, st16⟩ := stZ X15 hx hZ rfl Ar16 (j := (0 : Int32)) (inb_of S16 ⟨by decide, by decide⟩) (g := (mkF m 49 #[.val (.int k), .val (.ref b1), .unset, .unset] [(.int (1 : Int32)), (.int (0 : Int32)), (.ref b15), (.ref b15)])) rfl rfl (hb hby at_49)
  have V16 : Arv Z T16.heap b15 k15 .boolean (6 : Int32) [(.int (1 : Int32)), (.int 0), (.int 0), (.int 0), (.int 0), (.int 0)] (.int 0) := Arv.set Ar16 q16 S16 N16z H16 G16 (fits_nar_bool _) W16 0 rfl (Nat.le_of_ble_eq_true rfl)
  have N16 := Fr.snoc X16 N14 n0_b15
  refine ogo (S' := T16.setTop (mkF m 50 #[.val (.int k), .val (.ref b1), .unset, .unset] [(.ref b15)])) st16 ?_
  refine o_dup X16 hx (hb hby at_50) rfl ?_
  refine o_iconst X16 hx (1 : Int32) (hb hby at_51) rfl ?_
  refine o_iconst X16 hx (1 : Int32) (hb hby at_52) rfl ?_
  obtain ⟨cl17, Ar17, q17, S17, N17z, H17, G17⟩ := (id V16)
  obtain ⟨T17, _, X17, rfl, W17, st17⟩ := stZ X16 hx hZ rfl Ar17 (j := (1 : Int32)) (inb_of S17 ⟨by decide, by decide⟩) (g := (mkF m 53 #[.val (.int k), .val (.ref b1), .unset, .unset] [(.int (1 : Int32)), (.int (1 : Int32)), (.ref b15), (.ref b15)])) rfl rfl (hb hby at_53)
  have V17 : Arv Z T17.heap b15 k15 .boolean (6 : Int32) [(.int (1 : Int32)), (.int (1 : Int32)), (.int 0), (.int 0), (.int 0), (.int 0)] (.int 0) := Arv.set Ar17 q17 S17 N17z H17 G17 (fits_nar_bool _) W17 1 rfl (Nat.le_of_ble_eq_true rfl)
  have N17 := Fr.snoc X17 N16 n0_b15
  refine ogo (S' := T17.setTop (mkF m 54 #[.val (.int k), .val (.ref b1), .unset, .unset] [(.ref b15)])) st17 ?_
  refine o_dup X17 hx (hb hby at_54) rfl ?_
  refine o_iconst X17 hx (2 : Int32) (hb hby at_55) rfl ?_
  refine o_iconst X17 hx (0 : Int32) (hb hby at_56) rfl ?_
  obtain ⟨cl18, Ar18, q18, S18, N18z, H18, G18⟩ := (id V17)
  obtain ⟨T18, _, X18, rfl, W18, st18⟩ := stZ X17 hx hZ rfl Ar18 (j := (2 : Int32)) (inb_of S18 ⟨by decide, by decide⟩) (g := (mkF m 57 #[.val (.int k), .val (.ref b1), .unset, .unset] [(.int (0 : Int32)), (.int (2 : Int32)), (.ref b15), (.ref b15)])) rfl rfl (hb hby at_57)
  have V18 : Arv Z T18.heap b15 k15 .boolean (6 : Int32) [(.int (1 : Int32)), (.int (1 : Int32)), (.int (0 : Int32)), (.int 0), (.int 0), (.int 0)] (.int 0) := Arv.set Ar18 q18 S18 N18z H18 G18 (fits_nar_bool _) W18 2 rfl (Nat.le_of_ble_eq_true rfl)
  have N18 := Fr.snoc X18 N17 n0_b15
  refine ogo (S' := T18.setTop (mkF m 58 #[.val (.int k), .val (.ref b1), .unset, .unset] [(.ref b15)])) st18 ?_
  refine o_dup X18 hx (hb hby at_58) rfl ?_
  refine o_iconst X18 hx (3 : Int32) (hb hby at_59) rfl ?_
  refine o_iconst X18 hx (0 : Int32) (hb hby at_60) rfl ?_
  obtain ⟨cl19, Ar19, q19, S19, N19z, H19, G19⟩ := (id V18)
  obtain ⟨T19, _, X19, rfl, W19, st19⟩ := stZ X18 hx hZ rfl Ar19 (j := (3 : Int32)) (inb_of S19 ⟨by decide, by decide⟩) (g := (mkF m 61 #[.val (.int k), .val (.ref b1), .unset, .unset] [(.int (0 : Int32)), (.int (3 : Int32)), (.ref b15), (.ref b15)])) rfl rfl (hb hby at_61)
  have V19 : Arv Z T19.heap b15 k15 .boolean (6 : Int32) [(.int (1 : Int32)), (.int (1 : Int32)), (.int (0 : Int32)), (.int (0 : Int32)), (.int 0), (.int 0)] (.int 0) := Arv.set Ar19 q19 S19 N19z H19 G19 (fits_nar_bool _) W19 3 rfl (Nat.le_of_ble_eq_true rfl)
  have N19 := Fr.snoc X19 N18 n0_b15
  refine ogo (S' := T19.setTop (mkF m 62 #[.val (.int k), .val (.ref b1), .unset, .unset] [(.ref b15)])) st19 ?_
  refine o_dup X19 hx (hb hby at_62) rfl ?_
  refine o_iconst X19 hx (4 : Int32) (hb hby at_63) rfl ?_
  refine o_iconst X19 hx (1 : Int32) (hb hby at_64) rfl ?_
  obtain ⟨cl20, Ar20, q20, S20, N20z, H20, G20⟩ := (id V19)
  obtain ⟨T20, _, X20, rfl, W20, st20⟩ := stZ X19 hx hZ rfl Ar20 (j := (4 : Int32)) (inb_of S20 ⟨by decide, by decide⟩) (g := (mkF m 65 #[.val (.int k), .val (.ref b1), .unset, .unset] [(.int (1 : Int32)), (.int (4 : Int32)), (.ref b15), (.ref b15)])) rfl rfl (hb hby at_65)
  have V20 : Arv Z T20.heap b15 k15 .boolean (6 : Int32) [(.int (1 : Int32)), (.int (1 : Int32)), (.int (0 : Int32)), (.int (0 : Int32)), (.int (1 : Int32)), (.int 0)] (.int 0) := Arv.set Ar20 q20 S20 N20z H20 G20 (fits_nar_bool _) W20 4 rfl (Nat.le_of_ble_eq_true rfl)
  have N20 := Fr.snoc X20 N19 n0_b15
  refine ogo (S' := T20.setTop (mkF m 66 #[.val (.int k), .val (.ref b1), .unset, .unset] [(.ref b15)])) st20 ?_
  refine o_dup X20 hx (hb hby at_66) rfl ?_
  refine o_iconst X20 hx (5 : Int32) (hb hby at_67) rfl ?_
  refine o_iconst X20 hx (0 : Int32) (hb hby at_68) rfl ?_
  obtain ⟨cl21, Ar21, q21, S21, N21z, H21, G21⟩ := (id V20)
  obtain ⟨T21, _, X21, rfl, W21, st21⟩ := stZ X20 hx hZ rfl Ar21 (j := (5 : Int32)) (inb_of S21 ⟨by decide, by decide⟩) (g := (mkF m 69 #[.val (.int k), .val (.ref b1), .unset, .unset] [(.int (0 : Int32)), (.int (5 : Int32)), (.ref b15), (.ref b15)])) rfl rfl (hb hby at_69)
  have V21 : Arv Z T21.heap b15 k15 .boolean (6 : Int32) [(.int (1 : Int32)), (.int (1 : Int32)), (.int (0 : Int32)), (.int (0 : Int32)), (.int (1 : Int32)), (.int (0 : Int32))] (.int 0) := Arv.set Ar21 q21 S21 N21z H21 G21 (fits_nar_bool _) W21 5 rfl (Nat.le_of_ble_eq_true rfl)
  have N21 := Fr.snoc X21 N20 n0_b15
  refine ogo (S' := T21.setTop (mkF m 70 #[.val (.int k), .val (.ref b1), .unset, .unset] [(.ref b15)])) st21 ?_
  refine o_astoreN X21 hx (l' := #[.val (.int k), .val (.ref b1), .val (.ref b15), .unset]) (hb hby at_70) rfl rfl ?_
  refine o_iloadN X21 hx (hb hby at_71) rfl ?_
  refine ogo (S' := T21.setTop (mkF m 74 #[.val (.int k), .val (.ref b1), .val (.ref b15), .unset] [(.int (2147483647 : Int32)), (.int k)])) (X21.ldcInt hx hown (mvT hZ w17) (g := (mkF m 72 #[.val (.int k), .val (.ref b1), .val (.ref b15), .unset] [(.int k)])) rfl (hb hby at_72)) ?_
  refine o_iand X21 hx (hb hby at_74) ?_
  refine o_bipush X21 hx (6 : Int32) (hb hby at_75) rfl ?_
  refine o_irem X21 hx (hb hby at_77) (by decide) ?_
  refine o_istoreN X21 hx (l' := #[.val (.int k), .val (.ref b1), .val (.ref b15), .val (.int ((k &&& (2147483647 : Int32)) % (6 : Int32)))]) (hb hby at_78) rfl ?_
  rcases own_rem6 k with hs22 | hs22 | hs22 | hs22 | hs22 | hs22
  · rw [hs22]
    refine o_aloadN X21 hx (hb hby at_79) rfl rfl ?_
    refine o_iloadN X21 hx (hb hby at_80) rfl ?_
    have c23 := (((((((V14.ext E15).other W16 (Nat.ne_of_lt (Nat.lt_of_lt_of_le (Nat.lt_of_lt_of_le V1.lt (Nat.le_trans (Nat.le_trans (Nat.le_trans (Nat.le_trans (Nat.le_trans (Keep.of_wr W3).1 (Keep.of_wr W5).1) (Keep.of_wr W7).1) (Keep.of_wr W9).1) (Keep.of_wr W12).1) (Keep.of_wr W14).1)) (Nat.le_of_eq g15.symm)))).other W17 (Nat.ne_of_lt (Nat.lt_of_lt_of_le (Nat.lt_of_lt_of_le V1.lt (Nat.le_trans (Nat.le_trans (Nat.le_trans (Nat.le_trans (Nat.le_trans (Keep.of_wr W3).1 (Keep.of_wr W5).1) (Keep.of_wr W7).1) (Keep.of_wr W9).1) (Keep.of_wr W12).1) (Keep.of_wr W14).1)) (Nat.le_of_eq g15.symm)))).other W18 (Nat.ne_of_lt (Nat.lt_of_lt_of_le (Nat.lt_of_lt_of_le V1.lt (Nat.le_trans (Nat.le_trans (Nat.le_trans (Nat.le_trans (Nat.le_trans (Keep.of_wr W3).1 (Keep.of_wr W5).1) (Keep.of_wr W7).1) (Keep.of_wr W9).1) (Keep.of_wr W12).1) (Keep.of_wr W14).1)) (Nat.le_of_eq g15.symm)))).other W19 (Nat.ne_of_lt (Nat.lt_of_lt_of_le (Nat.lt_of_lt_of_le V1.lt (Nat.le_trans (Nat.le_trans (Nat.le_trans (Nat.le_trans (Nat.le_trans (Keep.of_wr W3).1 (Keep.of_wr W5).1) (Keep.of_wr W7).1) (Keep.of_wr W9).1) (Keep.of_wr W12).1) (Keep.of_wr W14).1)) (Nat.le_of_eq g15.symm)))).other W20 (Nat.ne_of_lt (Nat.lt_of_lt_of_le (Nat.lt_of_lt_of_le V1.lt (Nat.le_trans (Nat.le_trans (Nat.le_trans (Nat.le_trans (Nat.le_trans (Keep.of_wr W3).1 (Keep.of_wr W5).1) (Keep.of_wr W7).1) (Keep.of_wr W9).1) (Keep.of_wr W12).1) (Keep.of_wr W14).1)) (Nat.le_of_eq g15.symm)))).other W21 (Nat.ne_of_lt (Nat.lt_of_lt_of_le (Nat.lt_of_lt_of_le V1.lt (Nat.le_trans (Nat.le_trans (Nat.le_trans (Nat.le_trans (Nat.le_trans (Keep.of_wr W3).1 (Keep.of_wr W5).1) (Keep.of_wr W7).1) (Keep.of_wr W9).1) (Keep.of_wr W12).1) (Keep.of_wr W14).1)) (Nat.le_of_eq g15.symm))))
    obtain ⟨cl24, Ar24, q24, S24, N24z, H24, G24⟩ := (id c23)
    have hi24 := inb_of (j := (0 : Int32)) S24 ⟨by decide, by decide⟩
    have ha24 := Has.at (v := (.ref s_EVERY_CONTRACT)) H24 hi24 rfl
    refine ogo (S' := T21.setTop (mkF m 82 #[.val (.int k), .val (.ref b1), .val (.ref b15), .val (.int (0 : Int32))] [(.ref s_EVERY_CONTRACT)])) (X21.aaload hx (j := (0 : Int32)) (v := (.ref s_EVERY_CONTRACT)) Ar24.1 (State.isArrayOf_alike hZ.alike Ar24.2.1) rfl Ar24.2.2 hi24 ha24 (g := (mkF m 81 #[.val (.int k), .val (.ref b1), .val (.ref b15), .val (.int (0 : Int32))] [(.int (0 : Int32)), (.ref b1)])) rfl rfl (hb hby at_81)) ?_
    have c26 := (((((((((c11.wr W12 n0_b1).wr W14 n0_b1).ext E15).wr W16 n0_b15).wr W17 n0_b15).wr W18 n0_b15).wr W19 n0_b15).wr W20 n0_b15).wr W21 n0_b15)
    obtain ⟨cq25, kq25, q25a, q25b, q25c⟩ := isOf hZ rfl (Exa.ext c26.2 E_s_EVERY_CONTRACT)
    obtain ⟨_, _, ⟨T25, L25, kc25, n25⟩, -, X25, ⟨Lc25, hQ25, l25, y25, z25⟩, st25⟩ := X21.virtualBack hx (y := yM2) (z := yM2) hown (mvT hZ w18) (mvT hZ w19) (notFace_of_selects (args := #[]) (mvT hZ w21)) (mvT hZ w21) (mvT hZ w20) (by decide) (backOf (W := 0) (rm_isFlat l Z a0 hw []  s_EVERY_CONTRACT (0 : Int32) T21.heap n0 c26 (Exa.ext c26.2 E_s_EVERY_CONTRACT) (Fld.ext c26.2 F_s_EVERY_CONTRACT_ordinal) (by first | assumption | decide | omega)) hZ w22 w3 (by decide) (by decide)) q25a q25c (g := (mkF m 82 #[.val (.int k), .val (.ref b1), .val (.ref b15), .val (.int (0 : Int32))] [(.ref s_EVERY_CONTRACT)])) rfl (by rw [hml]; rfl) (Steps.refl _) (argsL := []) (rest := []) (lenOf own_pd1 rfl) rfl (by show 2 * 0 + _ ≤ _; exact Nat.le_of_eq rfl) (hb hby at_82) (fun _ _ => ⟨rfl, rfl, (by decide : 2 + 0 ≤ _), (by decide : 12 + 0 ≤ _)⟩)
    dsimp only [Pt.U, Pt.locs, Pt.cells, Pt.slots] at X25 l25 y25 z25 st25 hQ25
    subst l25 y25 z25
    obtain ⟨rfl, Nq25, e25⟩ := hQ25
    have N25 := Fr.app N21 Nq25
    refine otr (S' := T25.setTop (mkF m 85 #[.val (.int k), .val (.ref b1), .val (.ref b15), .val (.int (0 : Int32))] [(.int (own_flat (0 : Int32)))])) st25 ?_
    rw [show (own_flat (0 : Int32)) = (1 : Int32) from by decide]
    refine o_aloadN X25 hx (hb hby at_85) rfl rfl ?_
    refine o_iloadN X25 hx (hb hby at_86) rfl ?_
    obtain ⟨cl27, Ar27, q27, S27, N27z, H27, G27⟩ := (id V21)
    have hi27 := inb_of (j := (0 : Int32)) S27 ⟨by decide, by decide⟩
    have ha27 := Has.at (v := (.int (1 : Int32))) H27 hi27 rfl
    refine ogo (S' := T25.setTop (mkF m 88 #[.val (.int k), .val (.ref b1), .val (.ref b15), .val (.int (0 : Int32))] [(.int (1 : Int32)), (.int (1 : Int32))])) (X25.baloadBooleans hx (j := (0 : Int32)) (v := (.int (1 : Int32))) (by rw [e25]; exact Ar27.1) (State.isArrayOf_alike hZ.alike Ar27.2.1) Ar27.2.2 hi27 ha27 (g := (mkF m 87 #[.val (.int k), .val (.ref b1), .val (.ref b15), .val (.int (0 : Int32))] [(.int (0 : Int32)), (.ref b15), (.int (1 : Int32))])) rfl rfl (hb hby at_87)) ?_
    refine o_icmpNo X25 hx (hb hby at_88) (teq (by decide : (1 : Int32) = (1 : Int32))).2 ?_
    refine o_iconst X25 hx (1 : Int32) (hb hby at_91) rfl ?_
    refine o_goto X25 hx 96 (hb hby at_92) (by decide) (by decide) ?_
    refine oend X25 hlk (v := some (.int (1 : Int32))) (fun h => by rw [hret] at h; cases h) (fun fs hr => retN X25 hx (t := .boolean) hret (by simp) (hb hby at_96) hr) (by decide) (by decide) ?_
    show own_Q_law Z _ _ _ _ _ _ _ h0 n0 _ T25.heap _
    rw [e25]
    exact ⟨rfl, N25, (((((((((((((((Keep.refl h0 []).ext E1).wr W3 (Or.inr (Nat.le_trans (Nat.le_refl _) (Nat.le_of_eq g1.symm)))).wr W5 (Or.inr (Nat.le_trans (Nat.le_refl _) (Nat.le_of_eq g1.symm)))).wr W7 (Or.inr (Nat.le_trans (Nat.le_refl _) (Nat.le_of_eq g1.symm)))).wr W9 (Or.inr (Nat.le_trans (Nat.le_refl _) (Nat.le_of_eq g1.symm)))).wr W12 (Or.inr (Nat.le_trans (Nat.le_refl _) (Nat.le_of_eq g1.symm)))).wr W14 (Or.inr (Nat.le_trans (Nat.le_refl _) (Nat.le_of_eq g1.symm)))).ext E15).wr W16 (Or.inr (Nat.le_trans (Nat.le_trans (Nat.le_trans (Nat.le_trans (Nat.le_trans (Nat.le_trans (Nat.le_trans E1.1 (Keep.of_wr W3).1) (Keep.of_wr W5).1) (Keep.of_wr W7).1) (Keep.of_wr W9).1) (Keep.of_wr W12).1) (Keep.of_wr W14).1) (Nat.le_of_eq g15.symm)))).wr W17 (Or.inr (Nat.le_trans (Nat.le_trans (Nat.le_trans (Nat.le_trans (Nat.le_trans (Nat.le_trans (Nat.le_trans E1.1 (Keep.of_wr W3).1) (Keep.of_wr W5).1) (Keep.of_wr W7).1) (Keep.of_wr W9).1) (Keep.of_wr W12).1) (Keep.of_wr W14).1) (Nat.le_of_eq g15.symm)))).wr W18 (Or.inr (Nat.le_trans (Nat.le_trans (Nat.le_trans (Nat.le_trans (Nat.le_trans (Nat.le_trans (Nat.le_trans E1.1 (Keep.of_wr W3).1) (Keep.of_wr W5).1) (Keep.of_wr W7).1) (Keep.of_wr W9).1) (Keep.of_wr W12).1) (Keep.of_wr W14).1) (Nat.le_of_eq g15.symm)))).wr W19 (Or.inr (Nat.le_trans (Nat.le_trans (Nat.le_trans (Nat.le_trans (Nat.le_trans (Nat.le_trans (Nat.le_trans E1.1 (Keep.of_wr W3).1) (Keep.of_wr W5).1) (Keep.of_wr W7).1) (Keep.of_wr W9).1) (Keep.of_wr W12).1) (Keep.of_wr W14).1) (Nat.le_of_eq g15.symm)))).wr W20 (Or.inr (Nat.le_trans (Nat.le_trans (Nat.le_trans (Nat.le_trans (Nat.le_trans (Nat.le_trans (Nat.le_trans E1.1 (Keep.of_wr W3).1) (Keep.of_wr W5).1) (Keep.of_wr W7).1) (Keep.of_wr W9).1) (Keep.of_wr W12).1) (Keep.of_wr W14).1) (Nat.le_of_eq g15.symm)))).wr W21 (Or.inr (Nat.le_trans (Nat.le_trans (Nat.le_trans (Nat.le_trans (Nat.le_trans (Nat.le_trans (Nat.le_trans E1.1 (Keep.of_wr W3).1) (Keep.of_wr W5).1) (Keep.of_wr W7).1) (Keep.of_wr W9).1) (Keep.of_wr W12).1) (Keep.of_wr W14).1) (Nat.le_of_eq g15.symm))))⟩
  · rw [hs22]
    refine o_aloadN X21 hx (hb hby at_79) rfl rfl ?_
    refine o_iloadN X21 hx (hb hby at_80) rfl ?_
    have c28 := (((((((V14.ext E15).other W16 (Nat.ne_of_lt (Nat.lt_of_lt_of_le (Nat.lt_of_lt_of_le V1.lt (Nat.le_trans (Nat.le_trans (Nat.le_trans (Nat.le_trans (Nat.le_trans (Keep.of_wr W3).1 (Keep.of_wr W5).1) (Keep.of_wr W7).1) (Keep.of_wr W9).1) (Keep.of_wr W12).1) (Keep.of_wr W14).1)) (Nat.le_of_eq g15.symm)))).other W17 (Nat.ne_of_lt (Nat.lt_of_lt_of_le (Nat.lt_of_lt_of_le V1.lt (Nat.le_trans (Nat.le_trans (Nat.le_trans (Nat.le_trans (Nat.le_trans (Keep.of_wr W3).1 (Keep.of_wr W5).1) (Keep.of_wr W7).1) (Keep.of_wr W9).1) (Keep.of_wr W12).1) (Keep.of_wr W14).1)) (Nat.le_of_eq g15.symm)))).other W18 (Nat.ne_of_lt (Nat.lt_of_lt_of_le (Nat.lt_of_lt_of_le V1.lt (Nat.le_trans (Nat.le_trans (Nat.le_trans (Nat.le_trans (Nat.le_trans (Keep.of_wr W3).1 (Keep.of_wr W5).1) (Keep.of_wr W7).1) (Keep.of_wr W9).1) (Keep.of_wr W12).1) (Keep.of_wr W14).1)) (Nat.le_of_eq g15.symm)))).other W19 (Nat.ne_of_lt (Nat.lt_of_lt_of_le (Nat.lt_of_lt_of_le V1.lt (Nat.le_trans (Nat.le_trans (Nat.le_trans (Nat.le_trans (Nat.le_trans (Keep.of_wr W3).1 (Keep.of_wr W5).1) (Keep.of_wr W7).1) (Keep.of_wr W9).1) (Keep.of_wr W12).1) (Keep.of_wr W14).1)) (Nat.le_of_eq g15.symm)))).other W20 (Nat.ne_of_lt (Nat.lt_of_lt_of_le (Nat.lt_of_lt_of_le V1.lt (Nat.le_trans (Nat.le_trans (Nat.le_trans (Nat.le_trans (Nat.le_trans (Keep.of_wr W3).1 (Keep.of_wr W5).1) (Keep.of_wr W7).1) (Keep.of_wr W9).1) (Keep.of_wr W12).1) (Keep.of_wr W14).1)) (Nat.le_of_eq g15.symm)))).other W21 (Nat.ne_of_lt (Nat.lt_of_lt_of_le (Nat.lt_of_lt_of_le V1.lt (Nat.le_trans (Nat.le_trans (Nat.le_trans (Nat.le_trans (Nat.le_trans (Keep.of_wr W3).1 (Keep.of_wr W5).1) (Keep.of_wr W7).1) (Keep.of_wr W9).1) (Keep.of_wr W12).1) (Keep.of_wr W14).1)) (Nat.le_of_eq g15.symm))))
    obtain ⟨cl29, Ar29, q29, S29, N29z, H29, G29⟩ := (id c28)
    have hi29 := inb_of (j := (1 : Int32)) S29 ⟨by decide, by decide⟩
    have ha29 := Has.at (v := (.ref s_ONE_CONTRACT)) H29 hi29 rfl
    refine ogo (S' := T21.setTop (mkF m 82 #[.val (.int k), .val (.ref b1), .val (.ref b15), .val (.int (1 : Int32))] [(.ref s_ONE_CONTRACT)])) (X21.aaload hx (j := (1 : Int32)) (v := (.ref s_ONE_CONTRACT)) Ar29.1 (State.isArrayOf_alike hZ.alike Ar29.2.1) rfl Ar29.2.2 hi29 ha29 (g := (mkF m 81 #[.val (.int k), .val (.ref b1), .val (.ref b15), .val (.int (1 : Int32))] [(.int (1 : Int32)), (.ref b1)])) rfl rfl (hb hby at_81)) ?_
    have c31 := (((((((((c11.wr W12 n0_b1).wr W14 n0_b1).ext E15).wr W16 n0_b15).wr W17 n0_b15).wr W18 n0_b15).wr W19 n0_b15).wr W20 n0_b15).wr W21 n0_b15)
    obtain ⟨cq30, kq30, q30a, q30b, q30c⟩ := isOf hZ rfl (Exa.ext c31.2 E_s_ONE_CONTRACT)
    obtain ⟨_, _, ⟨T30, L30, kc30, n30⟩, -, X30, ⟨Lc30, hQ30, l30, y30, z30⟩, st30⟩ := X21.virtualBack hx (y := yM2) (z := yM2) hown (mvT hZ w18) (mvT hZ w19) (notFace_of_selects (args := #[]) (mvT hZ w21)) (mvT hZ w21) (mvT hZ w20) (by decide) (backOf (W := 0) (rm_isFlat l Z a0 hw []  s_ONE_CONTRACT (1 : Int32) T21.heap n0 c31 (Exa.ext c31.2 E_s_ONE_CONTRACT) (Fld.ext c31.2 F_s_ONE_CONTRACT_ordinal) (by first | assumption | decide | omega)) hZ w22 w3 (by decide) (by decide)) q30a q30c (g := (mkF m 82 #[.val (.int k), .val (.ref b1), .val (.ref b15), .val (.int (1 : Int32))] [(.ref s_ONE_CONTRACT)])) rfl (by rw [hml]; rfl) (Steps.refl _) (argsL := []) (rest := []) (lenOf own_pd1 rfl) rfl (by show 2 * 0 + _ ≤ _; exact Nat.le_of_eq rfl) (hb hby at_82) (fun _ _ => ⟨rfl, rfl, (by decide : 2 + 0 ≤ _), (by decide : 12 + 0 ≤ _)⟩)
    dsimp only [Pt.U, Pt.locs, Pt.cells, Pt.slots] at X30 l30 y30 z30 st30 hQ30
    subst l30 y30 z30
    obtain ⟨rfl, Nq30, e30⟩ := hQ30
    have N30 := Fr.app N21 Nq30
    refine otr (S' := T30.setTop (mkF m 85 #[.val (.int k), .val (.ref b1), .val (.ref b15), .val (.int (1 : Int32))] [(.int (own_flat (1 : Int32)))])) st30 ?_
    rw [show (own_flat (1 : Int32)) = (1 : Int32) from by decide]
    refine o_aloadN X30 hx (hb hby at_85) rfl rfl ?_
    refine o_iloadN X30 hx (hb hby at_86) rfl ?_
    obtain ⟨cl32, Ar32, q32, S32, N32z, H32, G32⟩ := (id V21)
    have hi32 := inb_of (j := (1 : Int32)) S32 ⟨by decide, by decide⟩
    have ha32 := Has.at (v := (.int (1 : Int32))) H32 hi32 rfl
    refine ogo (S' := T30.setTop (mkF m 88 #[.val (.int k), .val (.ref b1), .val (.ref b15), .val (.int (1 : Int32))] [(.int (1 : Int32)), (.int (1 : Int32))])) (X30.baloadBooleans hx (j := (1 : Int32)) (v := (.int (1 : Int32))) (by rw [e30]; exact Ar32.1) (State.isArrayOf_alike hZ.alike Ar32.2.1) Ar32.2.2 hi32 ha32 (g := (mkF m 87 #[.val (.int k), .val (.ref b1), .val (.ref b15), .val (.int (1 : Int32))] [(.int (1 : Int32)), (.ref b15), (.int (1 : Int32))])) rfl rfl (hb hby at_87)) ?_
    refine o_icmpNo X30 hx (hb hby at_88) (teq (by decide : (1 : Int32) = (1 : Int32))).2 ?_
    refine o_iconst X30 hx (1 : Int32) (hb hby at_91) rfl ?_
    refine o_goto X30 hx 96 (hb hby at_92) (by decide) (by decide) ?_
    refine oend X30 hlk (v := some (.int (1 : Int32))) (fun h => by rw [hret] at h; cases h) (fun fs hr => retN X30 hx (t := .boolean) hret (by simp) (hb hby at_96) hr) (by decide) (by decide) ?_
    show own_Q_law Z _ _ _ _ _ _ _ h0 n0 _ T30.heap _
    rw [e30]
    exact ⟨rfl, N30, (((((((((((((((Keep.refl h0 []).ext E1).wr W3 (Or.inr (Nat.le_trans (Nat.le_refl _) (Nat.le_of_eq g1.symm)))).wr W5 (Or.inr (Nat.le_trans (Nat.le_refl _) (Nat.le_of_eq g1.symm)))).wr W7 (Or.inr (Nat.le_trans (Nat.le_refl _) (Nat.le_of_eq g1.symm)))).wr W9 (Or.inr (Nat.le_trans (Nat.le_refl _) (Nat.le_of_eq g1.symm)))).wr W12 (Or.inr (Nat.le_trans (Nat.le_refl _) (Nat.le_of_eq g1.symm)))).wr W14 (Or.inr (Nat.le_trans (Nat.le_refl _) (Nat.le_of_eq g1.symm)))).ext E15).wr W16 (Or.inr (Nat.le_trans (Nat.le_trans (Nat.le_trans (Nat.le_trans (Nat.le_trans (Nat.le_trans (Nat.le_trans E1.1 (Keep.of_wr W3).1) (Keep.of_wr W5).1) (Keep.of_wr W7).1) (Keep.of_wr W9).1) (Keep.of_wr W12).1) (Keep.of_wr W14).1) (Nat.le_of_eq g15.symm)))).wr W17 (Or.inr (Nat.le_trans (Nat.le_trans (Nat.le_trans (Nat.le_trans (Nat.le_trans (Nat.le_trans (Nat.le_trans E1.1 (Keep.of_wr W3).1) (Keep.of_wr W5).1) (Keep.of_wr W7).1) (Keep.of_wr W9).1) (Keep.of_wr W12).1) (Keep.of_wr W14).1) (Nat.le_of_eq g15.symm)))).wr W18 (Or.inr (Nat.le_trans (Nat.le_trans (Nat.le_trans (Nat.le_trans (Nat.le_trans (Nat.le_trans (Nat.le_trans E1.1 (Keep.of_wr W3).1) (Keep.of_wr W5).1) (Keep.of_wr W7).1) (Keep.of_wr W9).1) (Keep.of_wr W12).1) (Keep.of_wr W14).1) (Nat.le_of_eq g15.symm)))).wr W19 (Or.inr (Nat.le_trans (Nat.le_trans (Nat.le_trans (Nat.le_trans (Nat.le_trans (Nat.le_trans (Nat.le_trans E1.1 (Keep.of_wr W3).1) (Keep.of_wr W5).1) (Keep.of_wr W7).1) (Keep.of_wr W9).1) (Keep.of_wr W12).1) (Keep.of_wr W14).1) (Nat.le_of_eq g15.symm)))).wr W20 (Or.inr (Nat.le_trans (Nat.le_trans (Nat.le_trans (Nat.le_trans (Nat.le_trans (Nat.le_trans (Nat.le_trans E1.1 (Keep.of_wr W3).1) (Keep.of_wr W5).1) (Keep.of_wr W7).1) (Keep.of_wr W9).1) (Keep.of_wr W12).1) (Keep.of_wr W14).1) (Nat.le_of_eq g15.symm)))).wr W21 (Or.inr (Nat.le_trans (Nat.le_trans (Nat.le_trans (Nat.le_trans (Nat.le_trans (Nat.le_trans (Nat.le_trans E1.1 (Keep.of_wr W3).1) (Keep.of_wr W5).1) (Keep.of_wr W7).1) (Keep.of_wr W9).1) (Keep.of_wr W12).1) (Keep.of_wr W14).1) (Nat.le_of_eq g15.symm))))⟩
  · rw [hs22]
    refine o_aloadN X21 hx (hb hby at_79) rfl rfl ?_
    refine o_iloadN X21 hx (hb hby at_80) rfl ?_
    have c33 := (((((((V14.ext E15).other W16 (Nat.ne_of_lt (Nat.lt_of_lt_of_le (Nat.lt_of_lt_of_le V1.lt (Nat.le_trans (Nat.le_trans (Nat.le_trans (Nat.le_trans (Nat.le_trans (Keep.of_wr W3).1 (Keep.of_wr W5).1) (Keep.of_wr W7).1) (Keep.of_wr W9).1) (Keep.of_wr W12).1) (Keep.of_wr W14).1)) (Nat.le_of_eq g15.symm)))).other W17 (Nat.ne_of_lt (Nat.lt_of_lt_of_le (Nat.lt_of_lt_of_le V1.lt (Nat.le_trans (Nat.le_trans (Nat.le_trans (Nat.le_trans (Nat.le_trans (Keep.of_wr W3).1 (Keep.of_wr W5).1) (Keep.of_wr W7).1) (Keep.of_wr W9).1) (Keep.of_wr W12).1) (Keep.of_wr W14).1)) (Nat.le_of_eq g15.symm)))).other W18 (Nat.ne_of_lt (Nat.lt_of_lt_of_le (Nat.lt_of_lt_of_le V1.lt (Nat.le_trans (Nat.le_trans (Nat.le_trans (Nat.le_trans (Nat.le_trans (Keep.of_wr W3).1 (Keep.of_wr W5).1) (Keep.of_wr W7).1) (Keep.of_wr W9).1) (Keep.of_wr W12).1) (Keep.of_wr W14).1)) (Nat.le_of_eq g15.symm)))).other W19 (Nat.ne_of_lt (Nat.lt_of_lt_of_le (Nat.lt_of_lt_of_le V1.lt (Nat.le_trans (Nat.le_trans (Nat.le_trans (Nat.le_trans (Nat.le_trans (Keep.of_wr W3).1 (Keep.of_wr W5).1) (Keep.of_wr W7).1) (Keep.of_wr W9).1) (Keep.of_wr W12).1) (Keep.of_wr W14).1)) (Nat.le_of_eq g15.symm)))).other W20 (Nat.ne_of_lt (Nat.lt_of_lt_of_le (Nat.lt_of_lt_of_le V1.lt (Nat.le_trans (Nat.le_trans (Nat.le_trans (Nat.le_trans (Nat.le_trans (Keep.of_wr W3).1 (Keep.of_wr W5).1) (Keep.of_wr W7).1) (Keep.of_wr W9).1) (Keep.of_wr W12).1) (Keep.of_wr W14).1)) (Nat.le_of_eq g15.symm)))).other W21 (Nat.ne_of_lt (Nat.lt_of_lt_of_le (Nat.lt_of_lt_of_le V1.lt (Nat.le_trans (Nat.le_trans (Nat.le_trans (Nat.le_trans (Nat.le_trans (Keep.of_wr W3).1 (Keep.of_wr W5).1) (Keep.of_wr W7).1) (Keep.of_wr W9).1) (Keep.of_wr W12).1) (Keep.of_wr W14).1)) (Nat.le_of_eq g15.symm))))
    obtain ⟨cl34, Ar34, q34, S34, N34z, H34, G34⟩ := (id c33)
    have hi34 := inb_of (j := (2 : Int32)) S34 ⟨by decide, by decide⟩
    have ha34 := Has.at (v := (.ref s_PER_10A)) H34 hi34 rfl
    refine ogo (S' := T21.setTop (mkF m 82 #[.val (.int k), .val (.ref b1), .val (.ref b15), .val (.int (2 : Int32))] [(.ref s_PER_10A)])) (X21.aaload hx (j := (2 : Int32)) (v := (.ref s_PER_10A)) Ar34.1 (State.isArrayOf_alike hZ.alike Ar34.2.1) rfl Ar34.2.2 hi34 ha34 (g := (mkF m 81 #[.val (.int k), .val (.ref b1), .val (.ref b15), .val (.int (2 : Int32))] [(.int (2 : Int32)), (.ref b1)])) rfl rfl (hb hby at_81)) ?_
    have c36 := (((((((((c11.wr W12 n0_b1).wr W14 n0_b1).ext E15).wr W16 n0_b15).wr W17 n0_b15).wr W18 n0_b15).wr W19 n0_b15).wr W20 n0_b15).wr W21 n0_b15)
    obtain ⟨cq35, kq35, q35a, q35b, q35c⟩ := isOf hZ rfl (Exa.ext c36.2 E_s_PER_10A)
    obtain ⟨_, _, ⟨T35, L35, kc35, n35⟩, -, X35, ⟨Lc35, hQ35, l35, y35, z35⟩, st35⟩ := X21.virtualBack hx (y := yM2) (z := yM2) hown (mvT hZ w18) (mvT hZ w19) (notFace_of_selects (args := #[]) (mvT hZ w21)) (mvT hZ w21) (mvT hZ w20) (by decide) (backOf (W := 0) (rm_isFlat l Z a0 hw []  s_PER_10A (2 : Int32) T21.heap n0 c36 (Exa.ext c36.2 E_s_PER_10A) (Fld.ext c36.2 F_s_PER_10A_ordinal) (by first | assumption | decide | omega)) hZ w22 w3 (by decide) (by decide)) q35a q35c (g := (mkF m 82 #[.val (.int k), .val (.ref b1), .val (.ref b15), .val (.int (2 : Int32))] [(.ref s_PER_10A)])) rfl (by rw [hml]; rfl) (Steps.refl _) (argsL := []) (rest := []) (lenOf own_pd1 rfl) rfl (by show 2 * 0 + _ ≤ _; exact Nat.le_of_eq rfl) (hb hby at_82) (fun _ _ => ⟨rfl, rfl, (by decide : 2 + 0 ≤ _), (by decide : 12 + 0 ≤ _)⟩)
    dsimp only [Pt.U, Pt.locs, Pt.cells, Pt.slots] at X35 l35 y35 z35 st35 hQ35
    subst l35 y35 z35
    obtain ⟨rfl, Nq35, e35⟩ := hQ35
    have N35 := Fr.app N21 Nq35
    refine otr (S' := T35.setTop (mkF m 85 #[.val (.int k), .val (.ref b1), .val (.ref b15), .val (.int (2 : Int32))] [(.int (own_flat (2 : Int32)))])) st35 ?_
    rw [show (own_flat (2 : Int32)) = (0 : Int32) from by decide]
    refine o_aloadN X35 hx (hb hby at_85) rfl rfl ?_
    refine o_iloadN X35 hx (hb hby at_86) rfl ?_
    obtain ⟨cl37, Ar37, q37, S37, N37z, H37, G37⟩ := (id V21)
    have hi37 := inb_of (j := (2 : Int32)) S37 ⟨by decide, by decide⟩
    have ha37 := Has.at (v := (.int (0 : Int32))) H37 hi37 rfl
    refine ogo (S' := T35.setTop (mkF m 88 #[.val (.int k), .val (.ref b1), .val (.ref b15), .val (.int (2 : Int32))] [(.int (0 : Int32)), (.int (0 : Int32))])) (X35.baloadBooleans hx (j := (2 : Int32)) (v := (.int (0 : Int32))) (by rw [e35]; exact Ar37.1) (State.isArrayOf_alike hZ.alike Ar37.2.1) Ar37.2.2 hi37 ha37 (g := (mkF m 87 #[.val (.int k), .val (.ref b1), .val (.ref b15), .val (.int (2 : Int32))] [(.int (2 : Int32)), (.ref b15), (.int (0 : Int32))])) rfl rfl (hb hby at_87)) ?_
    refine o_icmpNo X35 hx (hb hby at_88) (teq (by decide : (0 : Int32) = (0 : Int32))).2 ?_
    refine o_iconst X35 hx (1 : Int32) (hb hby at_91) rfl ?_
    refine o_goto X35 hx 96 (hb hby at_92) (by decide) (by decide) ?_
    refine oend X35 hlk (v := some (.int (1 : Int32))) (fun h => by rw [hret] at h; cases h) (fun fs hr => retN X35 hx (t := .boolean) hret (by simp) (hb hby at_96) hr) (by decide) (by decide) ?_
    show own_Q_law Z _ _ _ _ _ _ _ h0 n0 _ T35.heap _
    rw [e35]
    exact ⟨rfl, N35, (((((((((((((((Keep.refl h0 []).ext E1).wr W3 (Or.inr (Nat.le_trans (Nat.le_refl _) (Nat.le_of_eq g1.symm)))).wr W5 (Or.inr (Nat.le_trans (Nat.le_refl _) (Nat.le_of_eq g1.symm)))).wr W7 (Or.inr (Nat.le_trans (Nat.le_refl _) (Nat.le_of_eq g1.symm)))).wr W9 (Or.inr (Nat.le_trans (Nat.le_refl _) (Nat.le_of_eq g1.symm)))).wr W12 (Or.inr (Nat.le_trans (Nat.le_refl _) (Nat.le_of_eq g1.symm)))).wr W14 (Or.inr (Nat.le_trans (Nat.le_refl _) (Nat.le_of_eq g1.symm)))).ext E15).wr W16 (Or.inr (Nat.le_trans (Nat.le_trans (Nat.le_trans (Nat.le_trans (Nat.le_trans (Nat.le_trans (Nat.le_trans E1.1 (Keep.of_wr W3).1) (Keep.of_wr W5).1) (Keep.of_wr W7).1) (Keep.of_wr W9).1) (Keep.of_wr W12).1) (Keep.of_wr W14).1) (Nat.le_of_eq g15.symm)))).wr W17 (Or.inr (Nat.le_trans (Nat.le_trans (Nat.le_trans (Nat.le_trans (Nat.le_trans (Nat.le_trans (Nat.le_trans E1.1 (Keep.of_wr W3).1) (Keep.of_wr W5).1) (Keep.of_wr W7).1) (Keep.of_wr W9).1) (Keep.of_wr W12).1) (Keep.of_wr W14).1) (Nat.le_of_eq g15.symm)))).wr W18 (Or.inr (Nat.le_trans (Nat.le_trans (Nat.le_trans (Nat.le_trans (Nat.le_trans (Nat.le_trans (Nat.le_trans E1.1 (Keep.of_wr W3).1) (Keep.of_wr W5).1) (Keep.of_wr W7).1) (Keep.of_wr W9).1) (Keep.of_wr W12).1) (Keep.of_wr W14).1) (Nat.le_of_eq g15.symm)))).wr W19 (Or.inr (Nat.le_trans (Nat.le_trans (Nat.le_trans (Nat.le_trans (Nat.le_trans (Nat.le_trans (Nat.le_trans E1.1 (Keep.of_wr W3).1) (Keep.of_wr W5).1) (Keep.of_wr W7).1) (Keep.of_wr W9).1) (Keep.of_wr W12).1) (Keep.of_wr W14).1) (Nat.le_of_eq g15.symm)))).wr W20 (Or.inr (Nat.le_trans (Nat.le_trans (Nat.le_trans (Nat.le_trans (Nat.le_trans (Nat.le_trans (Nat.le_trans E1.1 (Keep.of_wr W3).1) (Keep.of_wr W5).1) (Keep.of_wr W7).1) (Keep.of_wr W9).1) (Keep.of_wr W12).1) (Keep.of_wr W14).1) (Nat.le_of_eq g15.symm)))).wr W21 (Or.inr (Nat.le_trans (Nat.le_trans (Nat.le_trans (Nat.le_trans (Nat.le_trans (Nat.le_trans (Nat.le_trans E1.1 (Keep.of_wr W3).1) (Keep.of_wr W5).1) (Keep.of_wr W7).1) (Keep.of_wr W9).1) (Keep.of_wr W12).1) (Keep.of_wr W14).1) (Nat.le_of_eq g15.symm))))⟩
  · rw [hs22]
    refine o_aloadN X21 hx (hb hby at_79) rfl rfl ?_
    refine o_iloadN X21 hx (hb hby at_80) rfl ?_
    have c38 := (((((((V14.ext E15).other W16 (Nat.ne_of_lt (Nat.lt_of_lt_of_le (Nat.lt_of_lt_of_le V1.lt (Nat.le_trans (Nat.le_trans (Nat.le_trans (Nat.le_trans (Nat.le_trans (Keep.of_wr W3).1 (Keep.of_wr W5).1) (Keep.of_wr W7).1) (Keep.of_wr W9).1) (Keep.of_wr W12).1) (Keep.of_wr W14).1)) (Nat.le_of_eq g15.symm)))).other W17 (Nat.ne_of_lt (Nat.lt_of_lt_of_le (Nat.lt_of_lt_of_le V1.lt (Nat.le_trans (Nat.le_trans (Nat.le_trans (Nat.le_trans (Nat.le_trans (Keep.of_wr W3).1 (Keep.of_wr W5).1) (Keep.of_wr W7).1) (Keep.of_wr W9).1) (Keep.of_wr W12).1) (Keep.of_wr W14).1)) (Nat.le_of_eq g15.symm)))).other W18 (Nat.ne_of_lt (Nat.lt_of_lt_of_le (Nat.lt_of_lt_of_le V1.lt (Nat.le_trans (Nat.le_trans (Nat.le_trans (Nat.le_trans (Nat.le_trans (Keep.of_wr W3).1 (Keep.of_wr W5).1) (Keep.of_wr W7).1) (Keep.of_wr W9).1) (Keep.of_wr W12).1) (Keep.of_wr W14).1)) (Nat.le_of_eq g15.symm)))).other W19 (Nat.ne_of_lt (Nat.lt_of_lt_of_le (Nat.lt_of_lt_of_le V1.lt (Nat.le_trans (Nat.le_trans (Nat.le_trans (Nat.le_trans (Nat.le_trans (Keep.of_wr W3).1 (Keep.of_wr W5).1) (Keep.of_wr W7).1) (Keep.of_wr W9).1) (Keep.of_wr W12).1) (Keep.of_wr W14).1)) (Nat.le_of_eq g15.symm)))).other W20 (Nat.ne_of_lt (Nat.lt_of_lt_of_le (Nat.lt_of_lt_of_le V1.lt (Nat.le_trans (Nat.le_trans (Nat.le_trans (Nat.le_trans (Nat.le_trans (Keep.of_wr W3).1 (Keep.of_wr W5).1) (Keep.of_wr W7).1) (Keep.of_wr W9).1) (Keep.of_wr W12).1) (Keep.of_wr W14).1)) (Nat.le_of_eq g15.symm)))).other W21 (Nat.ne_of_lt (Nat.lt_of_lt_of_le (Nat.lt_of_lt_of_le V1.lt (Nat.le_trans (Nat.le_trans (Nat.le_trans (Nat.le_trans (Nat.le_trans (Keep.of_wr W3).1 (Keep.of_wr W5).1) (Keep.of_wr W7).1) (Keep.of_wr W9).1) (Keep.of_wr W12).1) (Keep.of_wr W14).1)) (Nat.le_of_eq g15.symm))))
    obtain ⟨cl39, Ar39, q39, S39, N39z, H39, G39⟩ := (id c38)
    have hi39 := inb_of (j := (3 : Int32)) S39 ⟨by decide, by decide⟩
    have ha39 := Has.at (v := (.ref s_PER_KVA)) H39 hi39 rfl
    refine ogo (S' := T21.setTop (mkF m 82 #[.val (.int k), .val (.ref b1), .val (.ref b15), .val (.int (3 : Int32))] [(.ref s_PER_KVA)])) (X21.aaload hx (j := (3 : Int32)) (v := (.ref s_PER_KVA)) Ar39.1 (State.isArrayOf_alike hZ.alike Ar39.2.1) rfl Ar39.2.2 hi39 ha39 (g := (mkF m 81 #[.val (.int k), .val (.ref b1), .val (.ref b15), .val (.int (3 : Int32))] [(.int (3 : Int32)), (.ref b1)])) rfl rfl (hb hby at_81)) ?_
    have c41 := (((((((((c11.wr W12 n0_b1).wr W14 n0_b1).ext E15).wr W16 n0_b15).wr W17 n0_b15).wr W18 n0_b15).wr W19 n0_b15).wr W20 n0_b15).wr W21 n0_b15)
    obtain ⟨cq40, kq40, q40a, q40b, q40c⟩ := isOf hZ rfl (Exa.ext c41.2 E_s_PER_KVA)
    obtain ⟨_, _, ⟨T40, L40, kc40, n40⟩, -, X40, ⟨Lc40, hQ40, l40, y40, z40⟩, st40⟩ := X21.virtualBack hx (y := yM2) (z := yM2) hown (mvT hZ w18) (mvT hZ w19) (notFace_of_selects (args := #[]) (mvT hZ w21)) (mvT hZ w21) (mvT hZ w20) (by decide) (backOf (W := 0) (rm_isFlat l Z a0 hw []  s_PER_KVA (3 : Int32) T21.heap n0 c41 (Exa.ext c41.2 E_s_PER_KVA) (Fld.ext c41.2 F_s_PER_KVA_ordinal) (by first | assumption | decide | omega)) hZ w22 w3 (by decide) (by decide)) q40a q40c (g := (mkF m 82 #[.val (.int k), .val (.ref b1), .val (.ref b15), .val (.int (3 : Int32))] [(.ref s_PER_KVA)])) rfl (by rw [hml]; rfl) (Steps.refl _) (argsL := []) (rest := []) (lenOf own_pd1 rfl) rfl (by show 2 * 0 + _ ≤ _; exact Nat.le_of_eq rfl) (hb hby at_82) (fun _ _ => ⟨rfl, rfl, (by decide : 2 + 0 ≤ _), (by decide : 12 + 0 ≤ _)⟩)
    dsimp only [Pt.U, Pt.locs, Pt.cells, Pt.slots] at X40 l40 y40 z40 st40 hQ40
    subst l40 y40 z40
    obtain ⟨rfl, Nq40, e40⟩ := hQ40
    have N40 := Fr.app N21 Nq40
    refine otr (S' := T40.setTop (mkF m 85 #[.val (.int k), .val (.ref b1), .val (.ref b15), .val (.int (3 : Int32))] [(.int (own_flat (3 : Int32)))])) st40 ?_
    rw [show (own_flat (3 : Int32)) = (0 : Int32) from by decide]
    refine o_aloadN X40 hx (hb hby at_85) rfl rfl ?_
    refine o_iloadN X40 hx (hb hby at_86) rfl ?_
    obtain ⟨cl42, Ar42, q42, S42, N42z, H42, G42⟩ := (id V21)
    have hi42 := inb_of (j := (3 : Int32)) S42 ⟨by decide, by decide⟩
    have ha42 := Has.at (v := (.int (0 : Int32))) H42 hi42 rfl
    refine ogo (S' := T40.setTop (mkF m 88 #[.val (.int k), .val (.ref b1), .val (.ref b15), .val (.int (3 : Int32))] [(.int (0 : Int32)), (.int (0 : Int32))])) (X40.baloadBooleans hx (j := (3 : Int32)) (v := (.int (0 : Int32))) (by rw [e40]; exact Ar42.1) (State.isArrayOf_alike hZ.alike Ar42.2.1) Ar42.2.2 hi42 ha42 (g := (mkF m 87 #[.val (.int k), .val (.ref b1), .val (.ref b15), .val (.int (3 : Int32))] [(.int (3 : Int32)), (.ref b15), (.int (0 : Int32))])) rfl rfl (hb hby at_87)) ?_
    refine o_icmpNo X40 hx (hb hby at_88) (teq (by decide : (0 : Int32) = (0 : Int32))).2 ?_
    refine o_iconst X40 hx (1 : Int32) (hb hby at_91) rfl ?_
    refine o_goto X40 hx 96 (hb hby at_92) (by decide) (by decide) ?_
    refine oend X40 hlk (v := some (.int (1 : Int32))) (fun h => by rw [hret] at h; cases h) (fun fs hr => retN X40 hx (t := .boolean) hret (by simp) (hb hby at_96) hr) (by decide) (by decide) ?_
    show own_Q_law Z _ _ _ _ _ _ _ h0 n0 _ T40.heap _
    rw [e40]
    exact ⟨rfl, N40, (((((((((((((((Keep.refl h0 []).ext E1).wr W3 (Or.inr (Nat.le_trans (Nat.le_refl _) (Nat.le_of_eq g1.symm)))).wr W5 (Or.inr (Nat.le_trans (Nat.le_refl _) (Nat.le_of_eq g1.symm)))).wr W7 (Or.inr (Nat.le_trans (Nat.le_refl _) (Nat.le_of_eq g1.symm)))).wr W9 (Or.inr (Nat.le_trans (Nat.le_refl _) (Nat.le_of_eq g1.symm)))).wr W12 (Or.inr (Nat.le_trans (Nat.le_refl _) (Nat.le_of_eq g1.symm)))).wr W14 (Or.inr (Nat.le_trans (Nat.le_refl _) (Nat.le_of_eq g1.symm)))).ext E15).wr W16 (Or.inr (Nat.le_trans (Nat.le_trans (Nat.le_trans (Nat.le_trans (Nat.le_trans (Nat.le_trans (Nat.le_trans E1.1 (Keep.of_wr W3).1) (Keep.of_wr W5).1) (Keep.of_wr W7).1) (Keep.of_wr W9).1) (Keep.of_wr W12).1) (Keep.of_wr W14).1) (Nat.le_of_eq g15.symm)))).wr W17 (Or.inr (Nat.le_trans (Nat.le_trans (Nat.le_trans (Nat.le_trans (Nat.le_trans (Nat.le_trans (Nat.le_trans E1.1 (Keep.of_wr W3).1) (Keep.of_wr W5).1) (Keep.of_wr W7).1) (Keep.of_wr W9).1) (Keep.of_wr W12).1) (Keep.of_wr W14).1) (Nat.le_of_eq g15.symm)))).wr W18 (Or.inr (Nat.le_trans (Nat.le_trans (Nat.le_trans (Nat.le_trans (Nat.le_trans (Nat.le_trans (Nat.le_trans E1.1 (Keep.of_wr W3).1) (Keep.of_wr W5).1) (Keep.of_wr W7).1) (Keep.of_wr W9).1) (Keep.of_wr W12).1) (Keep.of_wr W14).1) (Nat.le_of_eq g15.symm)))).wr W19 (Or.inr (Nat.le_trans (Nat.le_trans (Nat.le_trans (Nat.le_trans (Nat.le_trans (Nat.le_trans (Nat.le_trans E1.1 (Keep.of_wr W3).1) (Keep.of_wr W5).1) (Keep.of_wr W7).1) (Keep.of_wr W9).1) (Keep.of_wr W12).1) (Keep.of_wr W14).1) (Nat.le_of_eq g15.symm)))).wr W20 (Or.inr (Nat.le_trans (Nat.le_trans (Nat.le_trans (Nat.le_trans (Nat.le_trans (Nat.le_trans (Nat.le_trans E1.1 (Keep.of_wr W3).1) (Keep.of_wr W5).1) (Keep.of_wr W7).1) (Keep.of_wr W9).1) (Keep.of_wr W12).1) (Keep.of_wr W14).1) (Nat.le_of_eq g15.symm)))).wr W21 (Or.inr (Nat.le_trans (Nat.le_trans (Nat.le_trans (Nat.le_trans (Nat.le_trans (Nat.le_trans (Nat.le_trans E1.1 (Keep.of_wr W3).1) (Keep.of_wr W5).1) (Keep.of_wr W7).1) (Keep.of_wr W9).1) (Keep.of_wr W12).1) (Keep.of_wr W14).1) (Nat.le_of_eq g15.symm))))⟩
  · rw [hs22]
    refine o_aloadN X21 hx (hb hby at_79) rfl rfl ?_
    refine o_iloadN X21 hx (hb hby at_80) rfl ?_
    have c43 := (((((((V14.ext E15).other W16 (Nat.ne_of_lt (Nat.lt_of_lt_of_le (Nat.lt_of_lt_of_le V1.lt (Nat.le_trans (Nat.le_trans (Nat.le_trans (Nat.le_trans (Nat.le_trans (Keep.of_wr W3).1 (Keep.of_wr W5).1) (Keep.of_wr W7).1) (Keep.of_wr W9).1) (Keep.of_wr W12).1) (Keep.of_wr W14).1)) (Nat.le_of_eq g15.symm)))).other W17 (Nat.ne_of_lt (Nat.lt_of_lt_of_le (Nat.lt_of_lt_of_le V1.lt (Nat.le_trans (Nat.le_trans (Nat.le_trans (Nat.le_trans (Nat.le_trans (Keep.of_wr W3).1 (Keep.of_wr W5).1) (Keep.of_wr W7).1) (Keep.of_wr W9).1) (Keep.of_wr W12).1) (Keep.of_wr W14).1)) (Nat.le_of_eq g15.symm)))).other W18 (Nat.ne_of_lt (Nat.lt_of_lt_of_le (Nat.lt_of_lt_of_le V1.lt (Nat.le_trans (Nat.le_trans (Nat.le_trans (Nat.le_trans (Nat.le_trans (Keep.of_wr W3).1 (Keep.of_wr W5).1) (Keep.of_wr W7).1) (Keep.of_wr W9).1) (Keep.of_wr W12).1) (Keep.of_wr W14).1)) (Nat.le_of_eq g15.symm)))).other W19 (Nat.ne_of_lt (Nat.lt_of_lt_of_le (Nat.lt_of_lt_of_le V1.lt (Nat.le_trans (Nat.le_trans (Nat.le_trans (Nat.le_trans (Nat.le_trans (Keep.of_wr W3).1 (Keep.of_wr W5).1) (Keep.of_wr W7).1) (Keep.of_wr W9).1) (Keep.of_wr W12).1) (Keep.of_wr W14).1)) (Nat.le_of_eq g15.symm)))).other W20 (Nat.ne_of_lt (Nat.lt_of_lt_of_le (Nat.lt_of_lt_of_le V1.lt (Nat.le_trans (Nat.le_trans (Nat.le_trans (Nat.le_trans (Nat.le_trans (Keep.of_wr W3).1 (Keep.of_wr W5).1) (Keep.of_wr W7).1) (Keep.of_wr W9).1) (Keep.of_wr W12).1) (Keep.of_wr W14).1)) (Nat.le_of_eq g15.symm)))).other W21 (Nat.ne_of_lt (Nat.lt_of_lt_of_le (Nat.lt_of_lt_of_le V1.lt (Nat.le_trans (Nat.le_trans (Nat.le_trans (Nat.le_trans (Nat.le_trans (Keep.of_wr W3).1 (Keep.of_wr W5).1) (Keep.of_wr W7).1) (Keep.of_wr W9).1) (Keep.of_wr W12).1) (Keep.of_wr W14).1)) (Nat.le_of_eq g15.symm))))
    obtain ⟨cl44, Ar44, q44, S44, N44z, H44, G44⟩ := (id c43)
    have hi44 := inb_of (j := (4 : Int32)) S44 ⟨by decide, by decide⟩
    have ha44 := Has.at (v := (.ref s_UNDER_6KVA)) H44 hi44 rfl
    refine ogo (S' := T21.setTop (mkF m 82 #[.val (.int k), .val (.ref b1), .val (.ref b15), .val (.int (4 : Int32))] [(.ref s_UNDER_6KVA)])) (X21.aaload hx (j := (4 : Int32)) (v := (.ref s_UNDER_6KVA)) Ar44.1 (State.isArrayOf_alike hZ.alike Ar44.2.1) rfl Ar44.2.2 hi44 ha44 (g := (mkF m 81 #[.val (.int k), .val (.ref b1), .val (.ref b15), .val (.int (4 : Int32))] [(.int (4 : Int32)), (.ref b1)])) rfl rfl (hb hby at_81)) ?_
    have c46 := (((((((((c11.wr W12 n0_b1).wr W14 n0_b1).ext E15).wr W16 n0_b15).wr W17 n0_b15).wr W18 n0_b15).wr W19 n0_b15).wr W20 n0_b15).wr W21 n0_b15)
    obtain ⟨cq45, kq45, q45a, q45b, q45c⟩ := isOf hZ rfl (Exa.ext c46.2 E_s_UNDER_6KVA)
    obtain ⟨_, _, ⟨T45, L45, kc45, n45⟩, -, X45, ⟨Lc45, hQ45, l45, y45, z45⟩, st45⟩ := X21.virtualBack hx (y := yM2) (z := yM2) hown (mvT hZ w18) (mvT hZ w19) (notFace_of_selects (args := #[]) (mvT hZ w21)) (mvT hZ w21) (mvT hZ w20) (by decide) (backOf (W := 0) (rm_isFlat l Z a0 hw []  s_UNDER_6KVA (4 : Int32) T21.heap n0 c46 (Exa.ext c46.2 E_s_UNDER_6KVA) (Fld.ext c46.2 F_s_UNDER_6KVA_ordinal) (by first | assumption | decide | omega)) hZ w22 w3 (by decide) (by decide)) q45a q45c (g := (mkF m 82 #[.val (.int k), .val (.ref b1), .val (.ref b15), .val (.int (4 : Int32))] [(.ref s_UNDER_6KVA)])) rfl (by rw [hml]; rfl) (Steps.refl _) (argsL := []) (rest := []) (lenOf own_pd1 rfl) rfl (by show 2 * 0 + _ ≤ _; exact Nat.le_of_eq rfl) (hb hby at_82) (fun _ _ => ⟨rfl, rfl, (by decide : 2 + 0 ≤ _), (by decide : 12 + 0 ≤ _)⟩)
    dsimp only [Pt.U, Pt.locs, Pt.cells, Pt.slots] at X45 l45 y45 z45 st45 hQ45
    subst l45 y45 z45
    obtain ⟨rfl, Nq45, e45⟩ := hQ45
    have N45 := Fr.app N21 Nq45
    refine otr (S' := T45.setTop (mkF m 85 #[.val (.int k), .val (.ref b1), .val (.ref b15), .val (.int (4 : Int32))] [(.int (own_flat (4 : Int32)))])) st45 ?_
    rw [show (own_flat (4 : Int32)) = (1 : Int32) from by decide]
    refine o_aloadN X45 hx (hb hby at_85) rfl rfl ?_
    refine o_iloadN X45 hx (hb hby at_86) rfl ?_
    obtain ⟨cl47, Ar47, q47, S47, N47z, H47, G47⟩ := (id V21)
    have hi47 := inb_of (j := (4 : Int32)) S47 ⟨by decide, by decide⟩
    have ha47 := Has.at (v := (.int (1 : Int32))) H47 hi47 rfl
    refine ogo (S' := T45.setTop (mkF m 88 #[.val (.int k), .val (.ref b1), .val (.ref b15), .val (.int (4 : Int32))] [(.int (1 : Int32)), (.int (1 : Int32))])) (X45.baloadBooleans hx (j := (4 : Int32)) (v := (.int (1 : Int32))) (by rw [e45]; exact Ar47.1) (State.isArrayOf_alike hZ.alike Ar47.2.1) Ar47.2.2 hi47 ha47 (g := (mkF m 87 #[.val (.int k), .val (.ref b1), .val (.ref b15), .val (.int (4 : Int32))] [(.int (4 : Int32)), (.ref b15), (.int (1 : Int32))])) rfl rfl (hb hby at_87)) ?_
    refine o_icmpNo X45 hx (hb hby at_88) (teq (by decide : (1 : Int32) = (1 : Int32))).2 ?_
    refine o_iconst X45 hx (1 : Int32) (hb hby at_91) rfl ?_
    refine o_goto X45 hx 96 (hb hby at_92) (by decide) (by decide) ?_
    refine oend X45 hlk (v := some (.int (1 : Int32))) (fun h => by rw [hret] at h; cases h) (fun fs hr => retN X45 hx (t := .boolean) hret (by simp) (hb hby at_96) hr) (by decide) (by decide) ?_
    show own_Q_law Z _ _ _ _ _ _ _ h0 n0 _ T45.heap _
    rw [e45]
    exact ⟨rfl, N45, (((((((((((((((Keep.refl h0 []).ext E1).wr W3 (Or.inr (Nat.le_trans (Nat.le_refl _) (Nat.le_of_eq g1.symm)))).wr W5 (Or.inr (Nat.le_trans (Nat.le_refl _) (Nat.le_of_eq g1.symm)))).wr W7 (Or.inr (Nat.le_trans (Nat.le_refl _) (Nat.le_of_eq g1.symm)))).wr W9 (Or.inr (Nat.le_trans (Nat.le_refl _) (Nat.le_of_eq g1.symm)))).wr W12 (Or.inr (Nat.le_trans (Nat.le_refl _) (Nat.le_of_eq g1.symm)))).wr W14 (Or.inr (Nat.le_trans (Nat.le_refl _) (Nat.le_of_eq g1.symm)))).ext E15).wr W16 (Or.inr (Nat.le_trans (Nat.le_trans (Nat.le_trans (Nat.le_trans (Nat.le_trans (Nat.le_trans (Nat.le_trans E1.1 (Keep.of_wr W3).1) (Keep.of_wr W5).1) (Keep.of_wr W7).1) (Keep.of_wr W9).1) (Keep.of_wr W12).1) (Keep.of_wr W14).1) (Nat.le_of_eq g15.symm)))).wr W17 (Or.inr (Nat.le_trans (Nat.le_trans (Nat.le_trans (Nat.le_trans (Nat.le_trans (Nat.le_trans (Nat.le_trans E1.1 (Keep.of_wr W3).1) (Keep.of_wr W5).1) (Keep.of_wr W7).1) (Keep.of_wr W9).1) (Keep.of_wr W12).1) (Keep.of_wr W14).1) (Nat.le_of_eq g15.symm)))).wr W18 (Or.inr (Nat.le_trans (Nat.le_trans (Nat.le_trans (Nat.le_trans (Nat.le_trans (Nat.le_trans (Nat.le_trans E1.1 (Keep.of_wr W3).1) (Keep.of_wr W5).1) (Keep.of_wr W7).1) (Keep.of_wr W9).1) (Keep.of_wr W12).1) (Keep.of_wr W14).1) (Nat.le_of_eq g15.symm)))).wr W19 (Or.inr (Nat.le_trans (Nat.le_trans (Nat.le_trans (Nat.le_trans (Nat.le_trans (Nat.le_trans (Nat.le_trans E1.1 (Keep.of_wr W3).1) (Keep.of_wr W5).1) (Keep.of_wr W7).1) (Keep.of_wr W9).1) (Keep.of_wr W12).1) (Keep.of_wr W14).1) (Nat.le_of_eq g15.symm)))).wr W20 (Or.inr (Nat.le_trans (Nat.le_trans (Nat.le_trans (Nat.le_trans (Nat.le_trans (Nat.le_trans (Nat.le_trans E1.1 (Keep.of_wr W3).1) (Keep.of_wr W5).1) (Keep.of_wr W7).1) (Keep.of_wr W9).1) (Keep.of_wr W12).1) (Keep.of_wr W14).1) (Nat.le_of_eq g15.symm)))).wr W21 (Or.inr (Nat.le_trans (Nat.le_trans (Nat.le_trans (Nat.le_trans (Nat.le_trans (Nat.le_trans (Nat.le_trans E1.1 (Keep.of_wr W3).1) (Keep.of_wr W5).1) (Keep.of_wr W7).1) (Keep.of_wr W9).1) (Keep.of_wr W12).1) (Keep.of_wr W14).1) (Nat.le_of_eq g15.symm))))⟩
  · rw [hs22]
    refine o_aloadN X21 hx (hb hby at_79) rfl rfl ?_
    refine o_iloadN X21 hx (hb hby at_80) rfl ?_
    have c48 := (((((((V14.ext E15).other W16 (Nat.ne_of_lt (Nat.lt_of_lt_of_le (Nat.lt_of_lt_of_le V1.lt (Nat.le_trans (Nat.le_trans (Nat.le_trans (Nat.le_trans (Nat.le_trans (Keep.of_wr W3).1 (Keep.of_wr W5).1) (Keep.of_wr W7).1) (Keep.of_wr W9).1) (Keep.of_wr W12).1) (Keep.of_wr W14).1)) (Nat.le_of_eq g15.symm)))).other W17 (Nat.ne_of_lt (Nat.lt_of_lt_of_le (Nat.lt_of_lt_of_le V1.lt (Nat.le_trans (Nat.le_trans (Nat.le_trans (Nat.le_trans (Nat.le_trans (Keep.of_wr W3).1 (Keep.of_wr W5).1) (Keep.of_wr W7).1) (Keep.of_wr W9).1) (Keep.of_wr W12).1) (Keep.of_wr W14).1)) (Nat.le_of_eq g15.symm)))).other W18 (Nat.ne_of_lt (Nat.lt_of_lt_of_le (Nat.lt_of_lt_of_le V1.lt (Nat.le_trans (Nat.le_trans (Nat.le_trans (Nat.le_trans (Nat.le_trans (Keep.of_wr W3).1 (Keep.of_wr W5).1) (Keep.of_wr W7).1) (Keep.of_wr W9).1) (Keep.of_wr W12).1) (Keep.of_wr W14).1)) (Nat.le_of_eq g15.symm)))).other W19 (Nat.ne_of_lt (Nat.lt_of_lt_of_le (Nat.lt_of_lt_of_le V1.lt (Nat.le_trans (Nat.le_trans (Nat.le_trans (Nat.le_trans (Nat.le_trans (Keep.of_wr W3).1 (Keep.of_wr W5).1) (Keep.of_wr W7).1) (Keep.of_wr W9).1) (Keep.of_wr W12).1) (Keep.of_wr W14).1)) (Nat.le_of_eq g15.symm)))).other W20 (Nat.ne_of_lt (Nat.lt_of_lt_of_le (Nat.lt_of_lt_of_le V1.lt (Nat.le_trans (Nat.le_trans (Nat.le_trans (Nat.le_trans (Nat.le_trans (Keep.of_wr W3).1 (Keep.of_wr W5).1) (Keep.of_wr W7).1) (Keep.of_wr W9).1) (Keep.of_wr W12).1) (Keep.of_wr W14).1)) (Nat.le_of_eq g15.symm)))).other W21 (Nat.ne_of_lt (Nat.lt_of_lt_of_le (Nat.lt_of_lt_of_le V1.lt (Nat.le_trans (Nat.le_trans (Nat.le_trans (Nat.le_trans (Nat.le_trans (Keep.of_wr W3).1 (Keep.of_wr W5).1) (Keep.of_wr W7).1) (Keep.of_wr W9).1) (Keep.of_wr W12).1) (Keep.of_wr W14).1)) (Nat.le_of_eq g15.symm))))
    obtain ⟨cl49, Ar49, q49, S49, N49z, H49, G49⟩ := (id c48)
    have hi49 := inb_of (j := (5 : Int32)) S49 ⟨by decide, by decide⟩
    have ha49 := Has.at (v := (.ref s_PER_KW)) H49 hi49 rfl
    refine ogo (S' := T21.setTop (mkF m 82 #[.val (.int k), .val (.ref b1), .val (.ref b15), .val (.int (5 : Int32))] [(.ref s_PER_KW)])) (X21.aaload hx (j := (5 : Int32)) (v := (.ref s_PER_KW)) Ar49.1 (State.isArrayOf_alike hZ.alike Ar49.2.1) rfl Ar49.2.2 hi49 ha49 (g := (mkF m 81 #[.val (.int k), .val (.ref b1), .val (.ref b15), .val (.int (5 : Int32))] [(.int (5 : Int32)), (.ref b1)])) rfl rfl (hb hby at_81)) ?_
    have c51 := (((((((((c11.wr W12 n0_b1).wr W14 n0_b1).ext E15).wr W16 n0_b15).wr W17 n0_b15).wr W18 n0_b15).wr W19 n0_b15).wr W20 n0_b15).wr W21 n0_b15)
    obtain ⟨cq50, kq50, q50a, q50b, q50c⟩ := isOf hZ rfl (Exa.ext c51.2 E_s_PER_KW)
    obtain ⟨_, _, ⟨T50, L50, kc50, n50⟩, -, X50, ⟨Lc50, hQ50, l50, y50, z50⟩, st50⟩ := X21.virtualBack hx (y := yM2) (z := yM2) hown (mvT hZ w18) (mvT hZ w19) (notFace_of_selects (args := #[]) (mvT hZ w21)) (mvT hZ w21) (mvT hZ w20) (by decide) (backOf (W := 0) (rm_isFlat l Z a0 hw []  s_PER_KW (5 : Int32) T21.heap n0 c51 (Exa.ext c51.2 E_s_PER_KW) (Fld.ext c51.2 F_s_PER_KW_ordinal) (by first | assumption | decide | omega)) hZ w22 w3 (by decide) (by decide)) q50a q50c (g := (mkF m 82 #[.val (.int k), .val (.ref b1), .val (.ref b15), .val (.int (5 : Int32))] [(.ref s_PER_KW)])) rfl (by rw [hml]; rfl) (Steps.refl _) (argsL := []) (rest := []) (lenOf own_pd1 rfl) rfl (by show 2 * 0 + _ ≤ _; exact Nat.le_of_eq rfl) (hb hby at_82) (fun _ _ => ⟨rfl, rfl, (by decide : 2 + 0 ≤ _), (by decide : 12 + 0 ≤ _)⟩)
    dsimp only [Pt.U, Pt.locs, Pt.cells, Pt.slots] at X50 l50 y50 z50 st50 hQ50
    subst l50 y50 z50
    obtain ⟨rfl, Nq50, e50⟩ := hQ50
    have N50 := Fr.app N21 Nq50
    refine otr (S' := T50.setTop (mkF m 85 #[.val (.int k), .val (.ref b1), .val (.ref b15), .val (.int (5 : Int32))] [(.int (own_flat (5 : Int32)))])) st50 ?_
    rw [show (own_flat (5 : Int32)) = (0 : Int32) from by decide]
    refine o_aloadN X50 hx (hb hby at_85) rfl rfl ?_
    refine o_iloadN X50 hx (hb hby at_86) rfl ?_
    obtain ⟨cl52, Ar52, q52, S52, N52z, H52, G52⟩ := (id V21)
    have hi52 := inb_of (j := (5 : Int32)) S52 ⟨by decide, by decide⟩
    have ha52 := Has.at (v := (.int (0 : Int32))) H52 hi52 rfl
    refine ogo (S' := T50.setTop (mkF m 88 #[.val (.int k), .val (.ref b1), .val (.ref b15), .val (.int (5 : Int32))] [(.int (0 : Int32)), (.int (0 : Int32))])) (X50.baloadBooleans hx (j := (5 : Int32)) (v := (.int (0 : Int32))) (by rw [e50]; exact Ar52.1) (State.isArrayOf_alike hZ.alike Ar52.2.1) Ar52.2.2 hi52 ha52 (g := (mkF m 87 #[.val (.int k), .val (.ref b1), .val (.ref b15), .val (.int (5 : Int32))] [(.int (5 : Int32)), (.ref b15), (.int (0 : Int32))])) rfl rfl (hb hby at_87)) ?_
    refine o_icmpNo X50 hx (hb hby at_88) (teq (by decide : (0 : Int32) = (0 : Int32))).2 ?_
    refine o_iconst X50 hx (1 : Int32) (hb hby at_91) rfl ?_
    refine o_goto X50 hx 96 (hb hby at_92) (by decide) (by decide) ?_
    refine oend X50 hlk (v := some (.int (1 : Int32))) (fun h => by rw [hret] at h; cases h) (fun fs hr => retN X50 hx (t := .boolean) hret (by simp) (hb hby at_96) hr) (by decide) (by decide) ?_
    show own_Q_law Z _ _ _ _ _ _ _ h0 n0 _ T50.heap _
    rw [e50]
    exact ⟨rfl, N50, (((((((((((((((Keep.refl h0 []).ext E1).wr W3 (Or.inr (Nat.le_trans (Nat.le_refl _) (Nat.le_of_eq g1.symm)))).wr W5 (Or.inr (Nat.le_trans (Nat.le_refl _) (Nat.le_of_eq g1.symm)))).wr W7 (Or.inr (Nat.le_trans (Nat.le_refl _) (Nat.le_of_eq g1.symm)))).wr W9 (Or.inr (Nat.le_trans (Nat.le_refl _) (Nat.le_of_eq g1.symm)))).wr W12 (Or.inr (Nat.le_trans (Nat.le_refl _) (Nat.le_of_eq g1.symm)))).wr W14 (Or.inr (Nat.le_trans (Nat.le_refl _) (Nat.le_of_eq g1.symm)))).ext E15).wr W16 (Or.inr (Nat.le_trans (Nat.le_trans (Nat.le_trans (Nat.le_trans (Nat.le_trans (Nat.le_trans (Nat.le_trans E1.1 (Keep.of_wr W3).1) (Keep.of_wr W5).1) (Keep.of_wr W7).1) (Keep.of_wr W9).1) (Keep.of_wr W12).1) (Keep.of_wr W14).1) (Nat.le_of_eq g15.symm)))).wr W17 (Or.inr (Nat.le_trans (Nat.le_trans (Nat.le_trans (Nat.le_trans (Nat.le_trans (Nat.le_trans (Nat.le_trans E1.1 (Keep.of_wr W3).1) (Keep.of_wr W5).1) (Keep.of_wr W7).1) (Keep.of_wr W9).1) (Keep.of_wr W12).1) (Keep.of_wr W14).1) (Nat.le_of_eq g15.symm)))).wr W18 (Or.inr (Nat.le_trans (Nat.le_trans (Nat.le_trans (Nat.le_trans (Nat.le_trans (Nat.le_trans (Nat.le_trans E1.1 (Keep.of_wr W3).1) (Keep.of_wr W5).1) (Keep.of_wr W7).1) (Keep.of_wr W9).1) (Keep.of_wr W12).1) (Keep.of_wr W14).1) (Nat.le_of_eq g15.symm)))).wr W19 (Or.inr (Nat.le_trans (Nat.le_trans (Nat.le_trans (Nat.le_trans (Nat.le_trans (Nat.le_trans (Nat.le_trans E1.1 (Keep.of_wr W3).1) (Keep.of_wr W5).1) (Keep.of_wr W7).1) (Keep.of_wr W9).1) (Keep.of_wr W12).1) (Keep.of_wr W14).1) (Nat.le_of_eq g15.symm)))).wr W20 (Or.inr (Nat.le_trans (Nat.le_trans (Nat.le_trans (Nat.le_trans (Nat.le_trans (Nat.le_trans (Nat.le_trans E1.1 (Keep.of_wr W3).1) (Keep.of_wr W5).1) (Keep.of_wr W7).1) (Keep.of_wr W9).1) (Keep.of_wr W12).1) (Keep.of_wr W14).1) (Nat.le_of_eq g15.symm)))).wr W21 (Or.inr (Nat.le_trans (Nat.le_trans (Nat.le_trans (Nat.le_trans (Nat.le_trans (Nat.le_trans (Nat.le_trans E1.1 (Keep.of_wr W3).1) (Keep.of_wr W5).1) (Keep.of_wr W7).1) (Keep.of_wr W9).1) (Keep.of_wr W12).1) (Keep.of_wr W14).1) (Nat.le_of_eq g15.symm))))⟩
set_option maxRecDepth 65536 in
set_option maxHeartbeats 40000000 in
theorem comes_1 {Post : Tables → Env → Array Value → State → Outcome → State → Prop} (hpost : ∀ tb e args s v u, (limb_1_1.after args s (.returned v) u = true ∧ limb_1_2.after args s (.returned v) u = true ∧ True) → FrameEnd s (.returned v) u (Jvm.fieldLocs frame_1_writes args s ++ Jvm.arrayLocs frame_1_arrays args s ++ Jvm.staticLocs frame_1_statics s) 16 128 → Post tb e args s (.returned v) u) :
    ArmFor flags0 classFile x code maxLocals ret World_1 tables_1 room_1 Calls_1 rest_1 Pre_1 Post := by
  intro l hfl _ _ p e ha hc hk s m args below hf hA hF happ hP
  obtain ⟨hcalls, hrest, hpre⟩ := hP
  obtain ⟨-, -, -, hnamed, -, -, -, hat⟩ := (Spec.applies_iff hf).mp happ
  obtain ⟨hg, hn⟩ := and_e (Cond.before_iff.mp (show (Jvm.Cond.and given_1 narrow_1).before args s = true from hpre))
  obtain ⟨g0, gr0⟩ := and_e hg
  obtain ⟨w0, rfl⟩ : ∃ w0 : Value, args = #[w0] := by
    have hs : args.size = 1 := by simpa [Cond.value, given_1] using g0
    obtain ⟨L⟩ := args
    match L, hs with
    | [w0], _ => exact ⟨w0, rfl⟩
  have hw := fun d (hd : d ∈ tables_1) => atoms_spec (ws := Jvm.Cond.code x code maxLocals ret :: tables_1) hat d (List.mem_cons_of_mem _ hd)
  have hfit : Fit s := fun {y c} hc i hi => by
    obtain ⟨ha, rfl⟩ := Array.getElem?_eq_some_iff.mp hc
    have q := List.all_eq_true.mp ((Array.all_eq_true_iff_forall_mem.mp hF) _ (Array.getElem_mem ha)) i (List.mem_range.mpr hi)
    simpa [Array.getElem?_eq_getElem hi] using q
  obtain ⟨i0, ei0⟩ := is_v gr0
  obtain rfl : w0 = (.int i0) := Option.some.inj ei0
  obtain ⟨nw0, hn0⟩ := and_e hn
  obtain ⟨nw1, hn1⟩ := and_e hn0
  obtain ⟨nw2, hn2⟩ := and_e hn1
  obtain ⟨nw3, hn3⟩ := and_e hn2
  obtain ⟨nw4, hn4⟩ := and_e hn3
  obtain ⟨nw5, hn5⟩ := and_e hn4
  obtain ⟨nw6, hn6⟩ := and_e hn5
  obtain ⟨nw7, hn7⟩ := and_e hn6
  obtain ⟨nw8, hn8⟩ := and_e hn7
  obtain ⟨nw9, hn9⟩ := and_e hn8
  obtain ⟨nw10, hn10⟩ := and_e hn9
  obtain ⟨s_EVERY_CONTRACT, ev_s_EVERY_CONTRACT⟩ := exa_v nw0
  obtain ⟨s_ONE_CONTRACT, ev_s_ONE_CONTRACT⟩ := exa_v nw1
  obtain ⟨s_PER_10A, ev_s_PER_10A⟩ := exa_v nw2
  obtain ⟨s_PER_KVA, ev_s_PER_KVA⟩ := exa_v nw3
  obtain ⟨s_UNDER_6KVA, ev_s_UNDER_6KVA⟩ := exa_v nw4
  obtain ⟨s_PER_KW, ev_s_PER_KW⟩ := exa_v nw5
  have SB : own_Start s s_EVERY_CONTRACT s_ONE_CONTRACT s_PER_10A s_PER_KVA s_UNDER_6KVA s_PER_KW := ⟨(Sta.start ev_s_EVERY_CONTRACT (Or.inr ⟨(hw _ (List.mem_of_getElem? (i := 3) rfl)), (hw _ (List.mem_of_getElem? (i := 4) rfl))⟩)), (Exa.start ev_s_EVERY_CONTRACT nw0), (Sta.start ev_s_ONE_CONTRACT (Or.inr ⟨(hw _ (List.mem_of_getElem? (i := 3) rfl)), (hw _ (List.mem_of_getElem? (i := 7) rfl))⟩)), (Exa.start ev_s_ONE_CONTRACT nw1), (Sta.start ev_s_PER_10A (Or.inr ⟨(hw _ (List.mem_of_getElem? (i := 3) rfl)), (hw _ (List.mem_of_getElem? (i := 9) rfl))⟩)), (Exa.start ev_s_PER_10A nw2), (Sta.start ev_s_PER_KVA (Or.inr ⟨(hw _ (List.mem_of_getElem? (i := 3) rfl)), (hw _ (List.mem_of_getElem? (i := 11) rfl))⟩)), (Exa.start ev_s_PER_KVA nw3), (Sta.start ev_s_UNDER_6KVA (Or.inr ⟨(hw _ (List.mem_of_getElem? (i := 3) rfl)), (hw _ (List.mem_of_getElem? (i := 13) rfl))⟩)), (Exa.start ev_s_UNDER_6KVA nw4), (Sta.start ev_s_PER_KW (Or.inr ⟨(hw _ (List.mem_of_getElem? (i := 3) rfl)), (hw _ (List.mem_of_getElem? (i := 15) rfl))⟩)), (Exa.start ev_s_PER_KW nw5), (Fld.start ((fld_at ev_s_EVERY_CONTRACT).symm.trans (Cond.eq_int (Cond.before_iff.mpr nw6) rfl))), (Fld.start ((fld_at ev_s_PER_KVA).symm.trans (Cond.eq_int (Cond.before_iff.mpr nw7) rfl))), (Fld.start ((fld_at ev_s_PER_10A).symm.trans (Cond.eq_int (Cond.before_iff.mpr nw8) rfl))), (Fld.start ((fld_at ev_s_ONE_CONTRACT).symm.trans (Cond.eq_int (Cond.before_iff.mpr nw9) rfl))), (Fld.start ((fld_at ev_s_PER_KW).symm.trans (Cond.eq_int (Cond.before_iff.mpr nw10) rfl))), (Fld.start ((fld_at ev_s_UNDER_6KVA).symm.trans (Cond.eq_int (Cond.before_iff.mpr hn10) rfl)))⟩
  obtain ⟨n, o, h1, h2, h3, _, L, rfl, ⟨rfl, N, -⟩, hq⟩ := rm_law l s _ hw tables_1 s_EVERY_CONTRACT s_ONE_CONTRACT s_PER_10A s_PER_KVA s_UNDER_6KVA s_PER_KW i0 s.heap s.heap.size SB (Old.start s)  p e ha hc hk s m _ below hf ((Spec.applies_iff_loose hf).mp happ).1 ⟨rfl, State.Warmed39.refl s, rfl⟩ trivial
  refine ⟨n, _, h1, h2, h3, hpost _ _ _ _ _ _ ⟨Cond.after_iff.mpr rfl, Cond.after_iff.mpr (eq_i res_at (Term.int_eval (1)) rfl), trivial⟩ ⟨hq.1, hq.2.1, (hq.2.2.sift fun y hy => Or.inr (N y hy)).mono (by decide) (by decide)⟩⟩
theorem main_1_1 : Claimed_1_1 := comes_1 fun _ _ _ _ _ _ h hF => ⟨h.1, hF⟩
theorem main_1_2 : Claimed_1_2 := comes_1 fun _ _ _ _ _ _ h hF => ⟨h.2.1, hF⟩
end Jvm.Pilot.@@N@@
namespace Jvm.Pilot.@@N@@
open Jvm Jvm.ClassFile Sem Op Lib Jvm.Free Jvm.Stand Jvm.Pilot.@@N@@.Jvm.D
/-! MADE BY PROGRAM (witnessworld.py) out of the Statement's table words and the real class files: 15 classes; the members and pool entries that the words name. The judged class is class 1, her method 1. -/
namespace start1
open Jvm.ClassFile
def u (s : String) : CpInfo := .utf8 (stringToUtf16 s)
/-- a pool by its gaps: so many unusable entries, then the entry; so many at the end -/
def gap : Nat → List CpInfo → List CpInfo
  | 0, r => r
  | n + 1, r => .unusable :: gap n r
def poolList (es : List (Nat × CpInfo)) (last : Nat) : List CpInfo := es.foldr (fun e r => gap e.1 (e.2 :: r)) (gap last [])
def pool (es : List (Nat × CpInfo)) (last : Nat) : Array CpInfo := ⟨poolList es last⟩
def fileOf (pool : Array CpInfo) (this : Nat) (attrs : Array Attribute := #[]) (ms : Array MethodInfo := #[]) (fl : Nat := 33) (sup : Nat := 0) (ifs : Array Nat := #[]) (fds : Array FieldInfo := #[]) : ClassFile where
  minorVersion := 0
  majorVersion := 65
  constantPool := pool
  accessFlags := fl
  thisClass := this
  superClass := sup
  interfaces := ifs
  fields := fds
  methods := ms
  attributes := attrs
def plain (name : String) (sup : Option ClassId) : Class where
  name := name
  kind := .ordinary
  loader := none
  accessFlags := 33
  super := sup
  interfaces := #[]
  cf := none
  fields := #[]
  methods := #[]
  instanceTypes := #[]
  staticTypes := #[]
  resolved := #[]
  callSites := []
  init := .initialized
  statics := none
  mirror := none

def pool0 : Array CpInfo := pool [(5, u "<init>"), (0, u "()V"), (1, .class_ 10), (1, u "java/lang/Object")] 113

def k0m0 : Method := { name := "<init>", desc := "()V", sig := { parameters := [], returnType := none }, accessFlags := 1, code := none }
/-- java/lang/Object -/
def k0 : Class := { plain "java/lang/Object" none with
  accessFlags := 33
  interfaces := #[]
  cf := some (fileOf pool0 8 #[] #[{ accessFlags := 1, nameIndex := 5, descriptorIndex := 6, attributes := #[] }] 33 0 #[] #[])
  fields := #[]
  methods := #[k0m0]
  instanceTypes := #[]
  staticTypes := #[]
  resolved := Array.replicate 124 none
  statics := none }

def pool1 : Array CpInfo := pool [(2, .class_ 4), (1, u "java/lang/Object"), (0, u "<init>"), (0, u "()V"), (0, .class_ 8), (0, u "com/example/leigong/leigong/catalogue/BasicPrice$Basis"), (0, .fieldref 7 10), (0, .nameAndType 11 12), (0, u "EVERY_CONTRACT"), (0, u "Lcom/example/leigong/leigong/catalogue/BasicPrice$Basis;"), (0, .fieldref 7 14), (0, .nameAndType 15 12), (0, u "ONE_CONTRACT"), (0, .fieldref 7 17), (0, .nameAndType 18 12), (0, u "PER_10A"), (0, .fieldref 7 20), (0, .nameAndType 21 12), (0, u "PER_KVA"), (0, .fieldref 7 23), (0, .nameAndType 24 12), (0, u "UNDER_6KVA"), (0, .fieldref 7 26), (0, .nameAndType 27 12), (0, u "PER_KW"), (0, .integer 2147483647), (0, .methodref 7 30), (0, .nameAndType 31 32), (0, u "isFlat"), (0, u "()Z"), (0, .class_ 34), (0, u "com/example/leigong/leigong/catalogue/BasicPriceIsFlatPinLaw"), (2, u "law"), (0, u "(I)Z")] 11

def k1m0 : Method := { name := "<init>", desc := "()V", sig := { parameters := [], returnType := none }, accessFlags := 1, code := none }
def k1c1 : Code := { maxStack := 4, maxLocals := 4, code := code, exceptionTable := #[], attributes := #[] }
def k1m1 : Method := { name := "law", desc := "(I)Z", sig := { parameters := [.int], returnType := some .boolean }, accessFlags := 9, code := some k1c1 }
/-- com/example/leigong/leigong/catalogue/BasicPriceIsFlatPinLaw -/
def k1 : Class := { plain "com/example/leigong/leigong/catalogue/BasicPriceIsFlatPinLaw" (some 0) with
  accessFlags := 49
  interfaces := #[]
  cf := some (fileOf pool1 33 #[] #[{ accessFlags := 1, nameIndex := 5, descriptorIndex := 6, attributes := #[] }, { accessFlags := 9, nameIndex := 37, descriptorIndex := 38, attributes := #[] }] 49 2 #[] #[])
  fields := #[]
  methods := #[k1m0, k1m1]
  instanceTypes := #[]
  staticTypes := #[]
  resolved := Array.replicate 50 none
  statics := none }

def pool2 : Array CpInfo := pool [(1, .class_ 2), (0, u "java/lang/constant/Constable"), (0, .class_ 4), (0, u "java/lang/Object")] 6

/-- java/lang/constant/Constable -/
def k2 : Class := { plain "java/lang/constant/Constable" (some 0) with
  accessFlags := 1537
  interfaces := #[]
  cf := some (fileOf pool2 1 #[] #[] 1537 3 #[] #[])
  fields := #[]
  methods := #[]
  instanceTypes := #[]
  staticTypes := #[]
  resolved := Array.replicate 11 none
  statics := none }

def pool3 : Array CpInfo := pool [(1, .class_ 2), (0, u "java/lang/Comparable"), (0, .class_ 4), (0, u "java/lang/Object")] 7

/-- java/lang/Comparable -/
def k3 : Class := { plain "java/lang/Comparable" (some 0) with
  accessFlags := 1537
  interfaces := #[]
  cf := some (fileOf pool3 1 #[] #[] 1537 3 #[] #[])
  fields := #[]
  methods := #[]
  instanceTypes := #[]
  staticTypes := #[]
  resolved := Array.replicate 12 none
  statics := none }

def pool4 : Array CpInfo := pool [(1, .class_ 2), (0, u "java/io/Serializable"), (0, .class_ 4), (0, u "java/lang/Object")] 2

/-- java/io/Serializable -/
def k4 : Class := { plain "java/io/Serializable" (some 0) with
  accessFlags := 1537
  interfaces := #[]
  cf := some (fileOf pool4 1 #[] #[] 1537 3 #[] #[])
  fields := #[]
  methods := #[]
  instanceTypes := #[]
  staticTypes := #[]
  resolved := Array.replicate 7 none
  statics := none }

def pool5 : Array CpInfo := pool [(2, .class_ 4), (1, u "java/lang/Enum"), (0, u "name"), (0, u "Ljava/lang/String;"), (0, .fieldref 2 8), (0, .nameAndType 9 10), (0, u "ordinal"), (0, u "I"), (1, .class_ 14), (1, u "java/lang/Object"), (4, u "hash"), (86, .class_ 108), (1, u "java/lang/Enum$EnumDesc"), (2, .class_ 112), (0, u "java/lang/constant/Constable"), (0, .class_ 114), (0, u "java/lang/Comparable"), (0, .class_ 116), (0, u "java/io/Serializable"), (9, u "()I")] 77

def k5c0 : Code := { maxStack := 1, maxLocals := 1, code := jdk_37_method_2_code, exceptionTable := #[], attributes := #[] }
def k5m0 : Method := { name := "ordinal", desc := "()I", sig := { parameters := [], returnType := some .int }, accessFlags := 17, code := some k5c0 }
/-- java/lang/Enum -/
def k5 : Class := { plain "java/lang/Enum" (some 0) with
  accessFlags := 1057
  interfaces := #[2, 3, 4]
  cf := some (fileOf pool5 2 #[.nestMembers #[106]] #[{ accessFlags := 17, nameIndex := 9, descriptorIndex := 126, attributes := #[] }] 1057 12 #[111, 113, 115] #[{ accessFlags := 18, nameIndex := 5, descriptorIndex := 6, attributes := #[] }, { accessFlags := 18, nameIndex := 9, descriptorIndex := 10, attributes := #[] }, { accessFlags := 2, nameIndex := 19, descriptorIndex := 10, attributes := #[] }])
  fields := #[{ name := "name", type := (.object "java/lang/String"), accessFlags := 18, slot := 0, constantValue := 0 }, { name := "ordinal", type := .int, accessFlags := 18, slot := 1, constantValue := 0 }, { name := "hash", type := .int, accessFlags := 2, slot := 2, constantValue := 0 }]
  methods := #[k5m0]
  instanceTypes := #[(.object "java/lang/String"), .int, .int]
  staticTypes := #[]
  resolved := Array.replicate 204 none
  statics := none }

def pool6 : Array CpInfo := pool [(1, .class_ 2), (0, u "com/example/leigong/leigong/catalogue/BasicPrice$Basis"), (2, u "EVERY_CONTRACT"), (0, u "Lcom/example/leigong/leigong/catalogue/BasicPrice$Basis;"), (2, u "ONE_CONTRACT"), (2, u "PER_10A"), (2, u "PER_KVA"), (2, u "UNDER_6KVA"), (2, u "PER_KW"), (2, u "$VALUES"), (0, u "[Lcom/example/leigong/leigong/catalogue/BasicPrice$Basis;"), (6, .class_ 34), (1, u "java/lang/Enum"), (8, u "contracts"), (0, u "Ljava/lang/String;"), (2, u "unit"), (2, u "rangeUnit"), (0, u "Lcom/example/leigong/leigong/catalogue/Contract$Unit;"), (0, .methodref 1 53), (0, .nameAndType 54 55), (0, u "ordinal"), (0, u "()I"), (54, u "isFlat"), (0, u "()Z"), (7, .class_ 120), (0, u "com/example/leigong/leigong/catalogue/BasicPrice")] 5

def k6c0 : Code := { maxStack := 4, maxLocals := 1, code := prog_22_method_4_code, exceptionTable := #[], attributes := #[] }
def k6m0 : Method := { name := "isFlat", desc := "()Z", sig := { parameters := [], returnType := some .boolean }, accessFlags := 0, code := some k6c0 }
/-- com/example/leigong/leigong/catalogue/BasicPrice$Basis -/
def k6 : Class := { plain "com/example/leigong/leigong/catalogue/BasicPrice$Basis" (some 5) with
  accessFlags := 16433
  interfaces := #[]
  cf := some (fileOf pool6 1 #[.nestHost 119] #[{ accessFlags := 0, nameIndex := 110, descriptorIndex := 111, attributes := #[] }] 16433 32 #[] #[{ accessFlags := 16409, nameIndex := 5, descriptorIndex := 6, attributes := #[] }, { accessFlags := 16409, nameIndex := 9, descriptorIndex := 6, attributes := #[] }, { accessFlags := 16409, nameIndex := 12, descriptorIndex := 6, attributes := #[] }, { accessFlags := 16409, nameIndex := 15, descriptorIndex := 6, attributes := #[] }, { accessFlags := 16409, nameIndex := 18, descriptorIndex := 6, attributes := #[] }, { accessFlags := 16409, nameIndex := 21, descriptorIndex := 6, attributes := #[] }, { accessFlags := 18, nameIndex := 43, descriptorIndex := 44, attributes := #[] }, { accessFlags := 18, nameIndex := 47, descriptorIndex := 44, attributes := #[] }, { accessFlags := 18, nameIndex := 50, descriptorIndex := 51, attributes := #[] }, { accessFlags := 4122, nameIndex := 24, descriptorIndex := 25, attributes := #[] }])
  fields := #[{ name := "EVERY_CONTRACT", type := (.object "com/example/leigong/leigong/catalogue/BasicPrice$Basis"), accessFlags := 16409, slot := 0, constantValue := 0 }, { name := "ONE_CONTRACT", type := (.object "com/example/leigong/leigong/catalogue/BasicPrice$Basis"), accessFlags := 16409, slot := 1, constantValue := 0 }, { name := "PER_10A", type := (.object "com/example/leigong/leigong/catalogue/BasicPrice$Basis"), accessFlags := 16409, slot := 2, constantValue := 0 }, { name := "PER_KVA", type := (.object "com/example/leigong/leigong/catalogue/BasicPrice$Basis"), accessFlags := 16409, slot := 3, constantValue := 0 }, { name := "UNDER_6KVA", type := (.object "com/example/leigong/leigong/catalogue/BasicPrice$Basis"), accessFlags := 16409, slot := 4, constantValue := 0 }, { name := "PER_KW", type := (.object "com/example/leigong/leigong/catalogue/BasicPrice$Basis"), accessFlags := 16409, slot := 5, constantValue := 0 }, { name := "contracts", type := (.object "java/lang/String"), accessFlags := 18, slot := 3, constantValue := 0 }, { name := "unit", type := (.object "java/lang/String"), accessFlags := 18, slot := 4, constantValue := 0 }, { name := "rangeUnit", type := (.object "com/example/leigong/leigong/catalogue/Contract$Unit"), accessFlags := 18, slot := 5, constantValue := 0 }, { name := "$VALUES", type := (.array (.object "com/example/leigong/leigong/catalogue/BasicPrice$Basis")), accessFlags := 4122, slot := 6, constantValue := 0 }]
  methods := #[k6m0]
  instanceTypes := #[(.object "java/lang/String"), .int, .int, (.object "java/lang/String"), (.object "java/lang/String"), (.object "com/example/leigong/leigong/catalogue/Contract$Unit")]
  staticTypes := #[(.object "com/example/leigong/leigong/catalogue/BasicPrice$Basis"), (.object "com/example/leigong/leigong/catalogue/BasicPrice$Basis"), (.object "com/example/leigong/leigong/catalogue/BasicPrice$Basis"), (.object "com/example/leigong/leigong/catalogue/BasicPrice$Basis"), (.object "com/example/leigong/leigong/catalogue/BasicPrice$Basis"), (.object "com/example/leigong/leigong/catalogue/BasicPrice$Basis"), (.array (.object "com/example/leigong/leigong/catalogue/BasicPrice$Basis"))]
  resolved := Array.replicate 126 none
  statics := some 0 }

def pool7 : Array CpInfo := pool [(1, u "java/lang/Cloneable"), (0, .class_ 1), (0, u "java/lang/Object"), (0, .class_ 3)] 3

/-- java/lang/Cloneable -/
def k7 : Class := { plain "java/lang/Cloneable" (some 0) with
  accessFlags := 1537
  interfaces := #[]
  cf := some (fileOf pool7 2 #[] #[] 1537 4 #[] #[])
  fields := #[]
  methods := #[]
  instanceTypes := #[]
  staticTypes := #[]
  resolved := Array.replicate 8 none
  statics := none }

/-- the primitive boolean -/
def k8 : Class := { plain "boolean" none with kind := .primitive 'Z', accessFlags := 0x411 }
/-- [Z -/
def k9 : Class := { plain "[Z" (some 0) with kind := .array 8 .boolean, interfaces := #[7, 4], accessFlags := 1041 }

/-- the primitive byte -/
def k10 : Class := { plain "byte" none with kind := .primitive 'B', accessFlags := 0x411 }
/-- [B -/
def k11 : Class := { plain "[B" (some 0) with kind := .array 10 .byte, interfaces := #[7, 4], accessFlags := 1041 }

/-- the primitive int -/
def k12 : Class := { plain "int" none with kind := .primitive 'I', accessFlags := 0x411 }
/-- [I -/
def k13 : Class := { plain "[I" (some 0) with kind := .array 12 .int, interfaces := #[7, 4], accessFlags := 1041 }

/-- [Lcom/example/leigong/leigong/catalogue/BasicPrice$Basis; -/
def k14 : Class := { plain "[Lcom/example/leigong/leigong/catalogue/BasicPrice$Basis;" (some 0) with kind := .array 6 (.object "com/example/leigong/leigong/catalogue/BasicPrice$Basis"), interfaces := #[7, 4], accessFlags := 1041 }

def heap : Heap := #[{ cls := 6, slots := #[.ref 1, .ref 2, .ref 3, .ref 4, .ref 5, .ref 6, .null], vm := .statics 6 },
  { cls := 6, slots := #[.null, .int 0, .int 0, .null, .null, .null], vm := .none },
  { cls := 6, slots := #[.null, .int 1, .int 0, .null, .null, .null], vm := .none },
  { cls := 6, slots := #[.null, .int 2, .int 0, .null, .null, .null], vm := .none },
  { cls := 6, slots := #[.null, .int 3, .int 0, .null, .null, .null], vm := .none },
  { cls := 6, slots := #[.null, .int 4, .int 0, .null, .null, .null], vm := .none },
  { cls := 6, slots := #[.null, .int 5, .int 0, .null, .null, .null], vm := .none }]
def classes : Array Class := #[k0, k1, k2, k3, k4, k5, k6, k7, k8, k9, k10, k11, k12, k13, k14]
def interned : List (Array UInt16 × Addr) := []
def slotsUsed : Nat := 43
def theMethod : MethodId := ⟨1, 1⟩
def args0 : Array Value := #[.int 5]
def aboutOver (below : List Frame) : State where
  vm := { classes := classes, interned := interned.toArray }
  heap := heap
  slotsUsed := slotsUsed
  threads := #[{ frames := .invoking theMethod args0 :: below }]
def below0 : List Frame := [.native { method := ⟨0, 0⟩, args := #[] }]
def about1 : State := aboutOver below0
def p0 : Program := .bare "" "" ""
def e0 : Env := launch0.env 0 0 0
theorem w_frames : about1.frames = Frame.invoking theMethod args0 :: below0 := rfl
set_option maxRecDepth 65536 in
theorem w_args : argsFit about1.vm theMethod args0 = true := by decide +kernel
set_option maxRecDepth 65536 in
theorem w_heap : heapFits about1 = true := by decide +kernel
set_option maxRecDepth 65536 in
theorem w_runnable : about1.curStatus? = some .runnable := by decide +kernel
set_option maxRecDepth 65536 in
theorem w_alone : about1.alone = true := by decide +kernel
set_option maxRecDepth 65536 in
theorem w_named : about1.methodNamed? x = some theMethod := by decide +kernel
set_option maxRecDepth 65536 in
theorem w_hears : about1.hears theMethod below0 = true := by decide +kernel
set_option maxRecDepth 65536 in
theorem w_ripe : about1.ripe theMethod args0 below0 = true := by decide +kernel
theorem w_running : about1.status = .running := rfl
set_option maxRecDepth 65536 in
theorem w_room : about1.hasRoom e0.platform room_1 = true :=
  launch0.hasRoom_least _ room_1 (by decide +kernel) (by decide +kernel) (by decide +kernel) (by decide +kernel) (by decide +kernel) (by decide +kernel)
theorem allAtoms_all (ts : List Jvm.Cond) (a : Array Jvm.Value) (st : Jvm.State) : (allAtoms ts).before a st = ts.all (fun c => c.before a st) := by
  induction ts with
  | nil => rfl
  | cons c t ih =>
    show (Jvm.Cond.and c (allAtoms t)).before a st = _
    rw [Jvm.Cond.before_and, ih, List.all_cons]
def words1 : List Jvm.Cond := Jvm.Cond.code x code maxLocals ret :: tables_1
/-- a 'code' word, met by the world's own term for the bytes: nothing is compared byte by byte -/
theorem code_word {y : MethodName} {bytes : ByteArray} {mx : Nat} {rt : Option FieldType} {a : Array Value} {s : State} {m : MethodId} {meth : Method} {c : Code} (h1 : s.methodNamed? y = some m) (h2 : s.vm.method? m = some meth) (h3 : meth.code = some c) (h4 : c.code = bytes)
    (h5 : (c.maxLocals == mx && c.exceptionTable.isEmpty && decide (c.maxStack ≤ mostOperands) && decide (meth.sig.returnType = rt) && !meth.locks && decide (parseMethodDescriptor y.desc = some meth.sig)) = true) : (Jvm.Cond.code y bytes mx rt).before a s = true := by
  simp only [Bool.and_eq_true, beq_iff_eq, Bool.not_eq_true', decide_eq_true_eq] at h5
  obtain ⟨⟨⟨⟨⟨g1, g2⟩, g3⟩, g4⟩, g5⟩, g6⟩ := h5
  simp [Cond.before, Cond.holds, Cond.value, h1, h2, h3, h4, g1, g2, g3, g4, g5, g6]
def isCode : Jvm.Cond → Bool
  | .code _ _ _ _ => true
  | _ => false
theorem all_split {L : List Jvm.Cond} {P : Jvm.Cond → Bool} (h1 : L.all (fun c => isCode c || P c) = true) (h2 : ∀ c ∈ L.filter isCode, P c = true) : L.all P = true := by
  refine List.all_eq_true.mpr fun c hc => ?_
  have h := List.all_eq_true.mp h1 c hc
  rcases Bool.eq_false_or_eq_true (isCode c) with hi | hi
  · exact h2 c (List.mem_filter.mpr ⟨hc, hi⟩)
  · simpa [hi] using h
set_option maxRecDepth 65536 in
theorem w_c0 : (Jvm.Cond.code x code maxLocals ret).before args0 about1 = true := code_word (m := ⟨1, 1⟩) (meth := k1m1) (c := k1c1) (by decide +kernel) rfl rfl rfl (by decide +kernel)
set_option maxRecDepth 65536 in
theorem w_c1 : (Jvm.Cond.code ({ cls := "com/example/leigong/leigong/catalogue/BasicPrice$Basis", name := "isFlat", desc := "()Z" } : Jvm.MethodName) prog_22_method_4_code (1 : Nat) (Option.some Jvm.ClassFile.FieldType.boolean)).before args0 about1 = true := code_word (m := ⟨6, 0⟩) (meth := k6m0) (c := k6c0) (by decide +kernel) rfl rfl rfl (by decide +kernel)
set_option maxRecDepth 65536 in
theorem w_c2 : (Jvm.Cond.code ({ cls := "java/lang/Enum", name := "ordinal", desc := "()I" } : Jvm.MethodName) jdk_37_method_2_code (1 : Nat) (Option.some Jvm.ClassFile.FieldType.int)).before args0 about1 = true := code_word (m := ⟨5, 0⟩) (meth := k5m0) (c := k5c0) (by decide +kernel) rfl rfl rfl (by decide +kernel)
def codes1 : List Jvm.Cond := [Jvm.Cond.code x code maxLocals ret, Jvm.Cond.code ({ cls := "com/example/leigong/leigong/catalogue/BasicPrice$Basis", name := "isFlat", desc := "()Z" } : Jvm.MethodName) prog_22_method_4_code (1 : Nat) (Option.some Jvm.ClassFile.FieldType.boolean), Jvm.Cond.code ({ cls := "java/lang/Enum", name := "ordinal", desc := "()I" } : Jvm.MethodName) jdk_37_method_2_code (1 : Nat) (Option.some Jvm.ClassFile.FieldType.int)]
set_option maxRecDepth 65536 in
theorem codes_eq : words1.filter isCode = codes1 := rfl
theorem w_codes : ∀ c ∈ words1.filter isCode, c.before args0 about1 = true := by
  rw [codes_eq]
  intro c hc
  simp only [codes1, List.mem_cons, List.not_mem_nil, or_false] at hc
  rcases hc with rfl | rfl | rfl
  · exact w_c0
  · exact w_c1
  · exact w_c2
set_option maxRecDepth 65536 in
theorem w_t1 : (words1.take 24).all (fun c => isCode c || c.before args0 about1) = true := by decide +kernel
set_option maxRecDepth 65536 in
theorem w_t2 : (words1.drop 24).all (fun c => isCode c || c.before args0 about1) = true := by decide +kernel
theorem w_tables : (allAtoms (Jvm.Cond.code x code maxLocals ret :: tables_1)).before args0 about1 = true := by
  rw [allAtoms_all]
  show words1.all (fun c => c.before args0 about1) = true
  refine all_split ?_ w_codes
  rw [← List.take_append_drop 24 words1, List.all_append, w_t1, w_t2]
  rfl
set_option maxRecDepth 65536 in
theorem w_case : (Jvm.Cond.and given_1 narrow_1).before args0 about1 = true := by decide +kernel
theorem w_applies : (headSpec (Jvm.Cond.code x code maxLocals ret :: tables_1) room_1).applies x e0.platform about1 = true :=
  (Spec.applies_iff w_frames).mpr ⟨w_running, w_runnable, w_alone, w_named, w_hears, w_ripe, w_room, w_tables⟩
theorem atStart : AtStart classFile x code maxLocals ret World_1 tables_1 room_1 Calls_1 rest_1 Pre_1 launch0 p0 e0 about1 theMethod args0 below0 :=
  ⟨lists_1, trivial, launch0.admits_env _ _ _, launch0.least_env, fairChoices_fair.cas, fairChoices_fair.clock, w_frames, w_args, w_heap, w_applies, trivial, trivial, w_case⟩
end start1
theorem witness_1 : WitnessClaimed_1 := ⟨start1.p0, start1.e0, start1.about1, start1.theMethod, start1.args0, start1.below0, start1.atStart⟩
end Jvm.Pilot.@@N@@
