import JvmDerived
import JvmDerived.Pilot.@@N@@Statement
import JvmDerived.Pilot.@@N@@Code
set_option linter.unusedVariables false
set_option linter.unusedSimpArgs false
namespace Jvm.Pilot.@@N@@
open Jvm Jvm.ClassFile Sem Op Lib Jvm.Free Jvm.Stand Jvm.LawKit Jvm.RoadKit Bundle Jvm.Pilot.@@N@@.Jvm.D
/-- from the state S the run comes to an end of which Q holds -/
def Own (p : Program) (e : Env) (below : List Frame) (Q : State → Outcome → Prop) (S : State) : Prop := ∃ s₂ o, Steps p.tables e below S s₂ ∧ s₂.status = .running ∧ Ended s₂ below o ∧ Q s₂ o
theorem ogo {p : Program} {e : Env} {below : List Frame} {Q : State → Outcome → Prop} {S S' : State} (h : ∀ t, Steps p.tables e below S' t → Steps p.tables e below S t) (k : Own p e below Q S') : Own p e below Q S := by
  obtain ⟨t, o, k1, k2⟩ := k; exact ⟨t, o, h _ k1, k2⟩
theorem otr {p : Program} {e : Env} {below : List Frame} {Q : State → Outcome → Prop} {S S' : State} (h : Steps p.tables e below S S') (k : Own p e below Q S') : Own p e below Q S := by
  obtain ⟨t, o, k1, k2⟩ := k; exact ⟨t, o, h.trans k1, k2⟩
/-- what a contract says of the end: q of what is returned, of the heap and of the places written; the frame -/
abbrev oPost (q : Option Value → Heap → List Loc → Prop) (s : State) (cc ss : Nat) : State → Outcome → Prop := fun s₂ o => ∃ v L, o = .returned v ∧ q v s₂.heap L ∧ FrameEnd s o s₂ L cc ss
abbrev oMet (l : Launch) (Z : State) (y : MethodName) (code : ByteArray) (maxL : Nat) (ret : Option FieldType) (ws : List Jvm.Cond) (rm : Room) (cc ss : Nat) (as' : Array Value) (h0 : Heap) (q : Option Value → Heap → List Loc → Prop) : Prop :=
  MetFree l y (head1 (Jvm.Cond.code y code maxL ret :: ws) rm) (fun a U => a = as' ∧ Z.Warmed39 U.vm ∧ U.heap = h0) (fun _ _ _ _ _ => True) (fun _ U o U' => ∃ v L, o = .returned v ∧ q v U'.heap L ∧ FrameEnd U o U' L cc ss)
theorem oenter {l : Launch} {Z : State} {y : MethodName} {code : ByteArray} {maxL : Nat} {ret : Option FieldType} {ws : List Jvm.Cond} {rm : Room} {cc ss : Nat} {as' : Array Value} {h0 : Heap} {q : Option Value → Heap → List Loc → Prop} (pn : plainName y.cls = true) (Ls : Array Slot) (ef : ∀ m, entryFrame m as' maxL = mkF m 0 Ls [])
    (body : ∀ (p : Program) (e : Env) (s : State) (m : MethodId) (below : List Frame) (meth : Method) (c : Code) (s₁ : State), Stand p l e rm s m as' below meth c s₁ [] 0 0 → p.tables.exec = Jvm.exec → Z.Warmed39 s.vm → c.code = code → c.maxLocals = maxL → meth.sig.returnType = ret → s.vm.findClass y.cls = some m.cls → meth.name = y.name → meth.locks = false → s₁.heap = h0 → Own p e below (oPost q s cc ss) (s₁.setTop (mkF m 0 Ls []))) : oMet l Z y code maxL ret ws rm cc ss as' h0 q := by
  refine MetFree.of_bodySF (plainFor_of_name pn) hisR ?_
  intro p e s m args below meth c s₁ Bd hml0 hP hK
  obtain ⟨rfl, hZ, hh⟩ := hP
  have e0 : s₁.heap = h0 := by rw [← hh, Bd.state]; rfl
  obtain ⟨t, o, h1, h2⟩ := body p e s m below meth c s₁ (Stand.of_body Bd) Bd.exec hZ Bd.bytes hml0 Bd.returns (findClass_of_methodNamed Bd.named) (name_of_methodNamed Bd.named Bd.method).1 (BodyLoose.notSynchronized Bd) e0
  exact ⟨t, o, castTop (ef m) h1, h2⟩
def own_ushr (x y : Int32) : Int32 := (x.toUInt32 >>> (y &&& 31).toUInt32).toInt32
def own_ushrL (x : Int64) (y : Int32) : Int64 := (x.toUInt64 >>> (y &&& 0x3f).toInt64.toUInt64).toInt64
section Steps
variable {p : Program} {l : Launch} {e : Env} {R : Room} {s : State} {m : MethodId} {args : Array Value} {below : List Frame} {meth : Method} {c : Code} {T : State} {locs : List Loc} {cells slots : Nat} {Q : State → Outcome → Prop}
theorem oend {v : Option Value} {q : Option Value → Heap → List Loc → Prop} {cc ss : Nat} {S : State} (X : Stand p l e R s m args below meth c T locs cells slots) (hlk : meth.locks = false) (hv : meth.sig.returnType = none → v = none)
    (st : ∀ fs, (∀ (f : JFrame) (acts : List Action), f.method = m → f.locked = none → f.entered = [] → (doReturn e (T.setTop f) acts v).1 = T.setFrames fs) → Steps p.tables e below S (T.setFrames fs)) (hc : cells ≤ cc) (hs : slots ≤ ss) (hq : q v T.heap locs) : Own p e below (oPost q s cc ss) S := by
  obtain ⟨fs, hr, hrun, hended, hW, hsame⟩ := X.leave (v := v) hv hlk
  exact ⟨_, _, st fs hr, hrun, hended, _, _, rfl, hq, ⟨_, rfl⟩, hW, hsame.mono hc hs⟩
theorem o_aloadN (X : Stand p l e R s m args below meth c T locs cells slots) (hx : p.tables.exec = Jvm.exec) {pc : Nat} {L : Array Slot} {S : List Value} {i : Fin 4} {v : Value} (hd : decode c.code pc = .ok (.aload_n i, 1)) (hl : L[i.val]? = some (.val v)) (hv : v.isRef = true) (k : Own p e below Q (T.setTop (mkF m (pc + 1) L (v :: S)))) : Own p e below Q (T.setTop (mkF m pc L S)) :=
  ogo (fun _ k => XS.aloadN X.here hx rfl hd hl hv k) k
theorem o_aload (X : Stand p l e R s m args below meth c T locs cells slots) (hx : p.tables.exec = Jvm.exec) {pc : Nat} {L : Array Slot} {S : List Value} {i : Nat} {v : Value} (hd : decode c.code pc = .ok (.aload i, 2)) (hl : L[i]? = some (.val v)) (hv : v.isRef = true) (k : Own p e below Q (T.setTop (mkF m (pc + 2) L (v :: S)))) : Own p e below Q (T.setTop (mkF m pc L S)) :=
  ogo (fun _ k => XS.aload X.here hx rfl hd hl hv k) k
theorem o_iloadN (X : Stand p l e R s m args below meth c T locs cells slots) (hx : p.tables.exec = Jvm.exec) {pc : Nat} {L : Array Slot} {S : List Value} {i : Fin 4} {v : Int32} (hd : decode c.code pc = .ok (.iload_n i, 1)) (hl : L[i.val]? = some (.val (.int v))) (k : Own p e below Q (T.setTop (mkF m (pc + 1) L ((.int v) :: S)))) : Own p e below Q (T.setTop (mkF m pc L S)) :=
  ogo (fun _ k => XS.iloadN X.here hx rfl hd hl k) k
theorem o_iload (X : Stand p l e R s m args below meth c T locs cells slots) (hx : p.tables.exec = Jvm.exec) {pc : Nat} {L : Array Slot} {S : List Value} {i : Nat} {v : Int32} (hd : decode c.code pc = .ok (.iload i, 2)) (hl : L[i]? = some (.val (.int v))) (k : Own p e below Q (T.setTop (mkF m (pc + 2) L ((.int v) :: S)))) : Own p e below Q (T.setTop (mkF m pc L S)) :=
  ogo (fun _ k => XS.iload X.here hx rfl hd hl k) k
theorem o_lloadN (X : Stand p l e R s m args below meth c T locs cells slots) (hx : p.tables.exec = Jvm.exec) {pc : Nat} {L : Array Slot} {S : List Value} {i : Fin 4} {v : Int64} (hd : decode c.code pc = .ok (.lload_n i, 1)) (hl : L[i.val]? = some (.val (.long v))) (k : Own p e below Q (T.setTop (mkF m (pc + 1) L ((.long v) :: S)))) : Own p e below Q (T.setTop (mkF m pc L S)) :=
  ogo (fun _ k => XS.lloadN X.here hx rfl hd hl k) k
theorem o_lload (X : Stand p l e R s m args below meth c T locs cells slots) (hx : p.tables.exec = Jvm.exec) {pc : Nat} {L : Array Slot} {S : List Value} {i : Nat} {v : Int64} (hd : decode c.code pc = .ok (.lload i, 2)) (hl : L[i]? = some (.val (.long v))) (k : Own p e below Q (T.setTop (mkF m (pc + 2) L ((.long v) :: S)))) : Own p e below Q (T.setTop (mkF m pc L S)) :=
  ogo (fun _ k => XS.lload X.here hx rfl hd hl k) k
theorem o_astoreN (X : Stand p l e R s m args below meth c T locs cells slots) (hx : p.tables.exec = Jvm.exec) {pc : Nat} {L : Array Slot} {S : List Value} {i : Fin 4} {v : Value} {l' : Array Slot} (hd : decode c.code pc = .ok (.astore_n i, 1)) (hv : v.isRef = true) (hl : storeLocals L i.val v = some l') (k : Own p e below Q (T.setTop (mkF m (pc + 1) l' S))) : Own p e below Q (T.setTop (mkF m pc L (v :: S))) :=
  ogo (fun _ k => XS.astoreN X.here hx rfl hd rfl hv hl k) k
theorem o_astore (X : Stand p l e R s m args below meth c T locs cells slots) (hx : p.tables.exec = Jvm.exec) {pc : Nat} {L : Array Slot} {S : List Value} {i : Nat} {v : Value} {l' : Array Slot} (hd : decode c.code pc = .ok (.astore i, 2)) (hv : v.isRef = true) (hl : storeLocals L i v = some l') (k : Own p e below Q (T.setTop (mkF m (pc + 2) l' S))) : Own p e below Q (T.setTop (mkF m pc L (v :: S))) :=
  ogo (fun _ k => XS.astore X.here hx rfl hd rfl hv hl k) k
theorem o_istoreN (X : Stand p l e R s m args below meth c T locs cells slots) (hx : p.tables.exec = Jvm.exec) {pc : Nat} {L : Array Slot} {S : List Value} {i : Fin 4} {v : Int32} {l' : Array Slot} (hd : decode c.code pc = .ok (.istore_n i, 1)) (hl : storeLocals L i.val (.int v) = some l') (k : Own p e below Q (T.setTop (mkF m (pc + 1) l' S))) : Own p e below Q (T.setTop (mkF m pc L ((.int v) :: S))) :=
  ogo (fun _ k => XS.istoreN X.here hx rfl hd rfl hl k) k
theorem o_istore (X : Stand p l e R s m args below meth c T locs cells slots) (hx : p.tables.exec = Jvm.exec) {pc : Nat} {L : Array Slot} {S : List Value} {i : Nat} {v : Int32} {l' : Array Slot} (hd : decode c.code pc = .ok (.istore i, 2)) (hl : storeLocals L i (.int v) = some l') (k : Own p e below Q (T.setTop (mkF m (pc + 2) l' S))) : Own p e below Q (T.setTop (mkF m pc L ((.int v) :: S))) :=
  ogo (fun _ k => XS.istore X.here hx rfl hd rfl hl k) k
theorem o_lstoreN (X : Stand p l e R s m args below meth c T locs cells slots) (hx : p.tables.exec = Jvm.exec) {pc : Nat} {L : Array Slot} {S : List Value} {i : Fin 4} {v : Int64} {l' : Array Slot} (hd : decode c.code pc = .ok (.lstore_n i, 1)) (hl : storeLocals L i.val (.long v) = some l') (k : Own p e below Q (T.setTop (mkF m (pc + 1) l' S))) : Own p e below Q (T.setTop (mkF m pc L ((.long v) :: S))) :=
  ogo (fun _ k => XS.lstoreN X.here hx rfl hd rfl hl k) k
theorem o_lstore (X : Stand p l e R s m args below meth c T locs cells slots) (hx : p.tables.exec = Jvm.exec) {pc : Nat} {L : Array Slot} {S : List Value} {i : Nat} {v : Int64} {l' : Array Slot} (hd : decode c.code pc = .ok (.lstore i, 2)) (hl : storeLocals L i (.long v) = some l') (k : Own p e below Q (T.setTop (mkF m (pc + 2) l' S))) : Own p e below Q (T.setTop (mkF m pc L ((.long v) :: S))) :=
  ogo (fun _ k => XS.lstore X.here hx rfl hd rfl hl k) k
theorem o_iconst (X : Stand p l e R s m args below meth c T locs cells slots) (hx : p.tables.exec = Jvm.exec) {pc : Nat} {L : Array Slot} {S : List Value} {i : Int} (v : Int32) (hd : decode c.code pc = .ok (.iconst i, 1)) (hv : Int32.ofInt i = v) (k : Own p e below Q (T.setTop (mkF m (pc + 1) L (.int v :: S)))) : Own p e below Q (T.setTop (mkF m pc L S)) := by
  subst hv; exact ogo (fun _ k => XS.iconst X.here hx rfl hd k) k
theorem o_bipush (X : Stand p l e R s m args below meth c T locs cells slots) (hx : p.tables.exec = Jvm.exec) {pc : Nat} {L : Array Slot} {S : List Value} {i : Int} (v : Int32) (hd : decode c.code pc = .ok (.bipush i, 2)) (hv : (Int8.ofInt i).toInt32 = v) (k : Own p e below Q (T.setTop (mkF m (pc + 2) L (.int v :: S)))) : Own p e below Q (T.setTop (mkF m pc L S)) := by
  subst hv; exact ogo (fun _ k => XS.bipush X.here hx rfl hd k) k
theorem o_sipush (X : Stand p l e R s m args below meth c T locs cells slots) (hx : p.tables.exec = Jvm.exec) {pc : Nat} {L : Array Slot} {S : List Value} {i : Int} (v : Int32) (hd : decode c.code pc = .ok (.sipush i, 3)) (hv : (Int16.ofInt i).toInt32 = v) (k : Own p e below Q (T.setTop (mkF m (pc + 3) L (.int v :: S)))) : Own p e below Q (T.setTop (mkF m pc L S)) := by
  subst hv; exact ogo (fun _ k => XS.sipush X.here hx rfl hd k) k
theorem o_lconst (X : Stand p l e R s m args below meth c T locs cells slots) (hx : p.tables.exec = Jvm.exec) {pc : Nat} {L : Array Slot} {S : List Value} {i : Fin 2} (v : Int64) (hd : decode c.code pc = .ok (.lconst i, 1)) (hv : Int64.ofNat i = v) (k : Own p e below Q (T.setTop (mkF m (pc + 1) L (.long v :: S)))) : Own p e below Q (T.setTop (mkF m pc L S)) := by
  subst hv; exact ogo (fun _ k => XS.lconst X.here hx rfl hd k) k
theorem o_aconst_null (X : Stand p l e R s m args below meth c T locs cells slots) (hx : p.tables.exec = Jvm.exec) {pc : Nat} {L : Array Slot} {S : List Value} (hd : decode c.code pc = .ok (.aconst_null, 1)) (k : Own p e below Q (T.setTop (mkF m (pc + 1) L (.null :: S)))) : Own p e below Q (T.setTop (mkF m pc L S)) :=
  ogo (fun _ k => XS.aconstNull X.here hx rfl hd k) k
theorem o_iadd (X : Stand p l e R s m args below meth c T locs cells slots) (hx : p.tables.exec = Jvm.exec) {pc : Nat} {L : Array Slot} {S : List Value} {x y : Int32} (hd : decode c.code pc = .ok (.iadd, 1)) (k : Own p e below Q (T.setTop (mkF m (pc + 1) L (.int (x + y) :: S)))) : Own p e below Q (T.setTop (mkF m pc L (.int y :: .int x :: S))) :=
  ogo (fun _ k => XS.iadd X.here hx rfl hd rfl k) k
theorem o_isub (X : Stand p l e R s m args below meth c T locs cells slots) (hx : p.tables.exec = Jvm.exec) {pc : Nat} {L : Array Slot} {S : List Value} {x y : Int32} (hd : decode c.code pc = .ok (.isub, 1)) (k : Own p e below Q (T.setTop (mkF m (pc + 1) L (.int (x - y) :: S)))) : Own p e below Q (T.setTop (mkF m pc L (.int y :: .int x :: S))) :=
  ogo (fun _ k => XS.isub X.here hx rfl hd rfl k) k
theorem o_imul (X : Stand p l e R s m args below meth c T locs cells slots) (hx : p.tables.exec = Jvm.exec) {pc : Nat} {L : Array Slot} {S : List Value} {x y : Int32} (hd : decode c.code pc = .ok (.imul, 1)) (k : Own p e below Q (T.setTop (mkF m (pc + 1) L (.int (x * y) :: S)))) : Own p e below Q (T.setTop (mkF m pc L (.int y :: .int x :: S))) :=
  ogo (fun _ k => XS.imul X.here hx rfl hd rfl k) k
theorem o_iand (X : Stand p l e R s m args below meth c T locs cells slots) (hx : p.tables.exec = Jvm.exec) {pc : Nat} {L : Array Slot} {S : List Value} {x y : Int32} (hd : decode c.code pc = .ok (.iand, 1)) (k : Own p e below Q (T.setTop (mkF m (pc + 1) L (.int (x &&& y) :: S)))) : Own p e below Q (T.setTop (mkF m pc L (.int y :: .int x :: S))) :=
  ogo (fun _ k => XS.iand X.here hx rfl hd rfl k) k
theorem o_ior (X : Stand p l e R s m args below meth c T locs cells slots) (hx : p.tables.exec = Jvm.exec) {pc : Nat} {L : Array Slot} {S : List Value} {x y : Int32} (hd : decode c.code pc = .ok (.ior, 1)) (k : Own p e below Q (T.setTop (mkF m (pc + 1) L (.int (x ||| y) :: S)))) : Own p e below Q (T.setTop (mkF m pc L (.int y :: .int x :: S))) :=
  ogo (fun _ k => XS.ior X.here hx rfl hd rfl k) k
theorem o_ixor (X : Stand p l e R s m args below meth c T locs cells slots) (hx : p.tables.exec = Jvm.exec) {pc : Nat} {L : Array Slot} {S : List Value} {x y : Int32} (hd : decode c.code pc = .ok (.ixor, 1)) (k : Own p e below Q (T.setTop (mkF m (pc + 1) L (.int (x ^^^ y) :: S)))) : Own p e below Q (T.setTop (mkF m pc L (.int y :: .int x :: S))) :=
  ogo (fun _ k => XS.ixor X.here hx rfl hd rfl k) k
theorem o_ladd (X : Stand p l e R s m args below meth c T locs cells slots) (hx : p.tables.exec = Jvm.exec) {pc : Nat} {L : Array Slot} {S : List Value} {x y : Int64} (hd : decode c.code pc = .ok (.ladd, 1)) (k : Own p e below Q (T.setTop (mkF m (pc + 1) L (.long (x + y) :: S)))) : Own p e below Q (T.setTop (mkF m pc L (.long y :: .long x :: S))) :=
  ogo (fun _ k => XS.ladd X.here hx rfl hd rfl k) k
theorem o_lsub (X : Stand p l e R s m args below meth c T locs cells slots) (hx : p.tables.exec = Jvm.exec) {pc : Nat} {L : Array Slot} {S : List Value} {x y : Int64} (hd : decode c.code pc = .ok (.lsub, 1)) (k : Own p e below Q (T.setTop (mkF m (pc + 1) L (.long (x - y) :: S)))) : Own p e below Q (T.setTop (mkF m pc L (.long y :: .long x :: S))) :=
  ogo (fun _ k => XS.lsub X.here hx rfl hd rfl k) k
theorem o_lmul (X : Stand p l e R s m args below meth c T locs cells slots) (hx : p.tables.exec = Jvm.exec) {pc : Nat} {L : Array Slot} {S : List Value} {x y : Int64} (hd : decode c.code pc = .ok (.lmul, 1)) (k : Own p e below Q (T.setTop (mkF m (pc + 1) L (.long (x * y) :: S)))) : Own p e below Q (T.setTop (mkF m pc L (.long y :: .long x :: S))) :=
  ogo (fun _ k => XS.lmul X.here hx rfl hd rfl k) k
theorem o_land (X : Stand p l e R s m args below meth c T locs cells slots) (hx : p.tables.exec = Jvm.exec) {pc : Nat} {L : Array Slot} {S : List Value} {x y : Int64} (hd : decode c.code pc = .ok (.land, 1)) (k : Own p e below Q (T.setTop (mkF m (pc + 1) L (.long (x &&& y) :: S)))) : Own p e below Q (T.setTop (mkF m pc L (.long y :: .long x :: S))) :=
  ogo (fun _ k => XS.land X.here hx rfl hd rfl k) k
theorem o_lor (X : Stand p l e R s m args below meth c T locs cells slots) (hx : p.tables.exec = Jvm.exec) {pc : Nat} {L : Array Slot} {S : List Value} {x y : Int64} (hd : decode c.code pc = .ok (.lor, 1)) (k : Own p e below Q (T.setTop (mkF m (pc + 1) L (.long (x ||| y) :: S)))) : Own p e below Q (T.setTop (mkF m pc L (.long y :: .long x :: S))) :=
  ogo (fun _ k => XS.lor X.here hx rfl hd rfl k) k
theorem o_lxor (X : Stand p l e R s m args below meth c T locs cells slots) (hx : p.tables.exec = Jvm.exec) {pc : Nat} {L : Array Slot} {S : List Value} {x y : Int64} (hd : decode c.code pc = .ok (.lxor, 1)) (k : Own p e below Q (T.setTop (mkF m (pc + 1) L (.long (x ^^^ y) :: S)))) : Own p e below Q (T.setTop (mkF m pc L (.long y :: .long x :: S))) :=
  ogo (fun _ k => XS.lxor X.here hx rfl hd rfl k) k
theorem o_ishl (X : Stand p l e R s m args below meth c T locs cells slots) (hx : p.tables.exec = Jvm.exec) {pc : Nat} {L : Array Slot} {S : List Value} {x : Int32} {y : Int32} (hd : decode c.code pc = .ok (.ishl, 1)) (k : Own p e below Q (T.setTop (mkF m (pc + 1) L (.int (x <<< (y &&& 31)) :: S)))) : Own p e below Q (T.setTop (mkF m pc L (.int y :: .int x :: S))) :=
  ogo (fun _ k => XS.ishl X.here hx rfl hd rfl k) k
theorem o_ishr (X : Stand p l e R s m args below meth c T locs cells slots) (hx : p.tables.exec = Jvm.exec) {pc : Nat} {L : Array Slot} {S : List Value} {x : Int32} {y : Int32} (hd : decode c.code pc = .ok (.ishr, 1)) (k : Own p e below Q (T.setTop (mkF m (pc + 1) L (.int (x >>> (y &&& 31)) :: S)))) : Own p e below Q (T.setTop (mkF m pc L (.int y :: .int x :: S))) :=
  ogo (fun _ k => XS.ishr X.here hx rfl hd rfl k) k
theorem o_iushr (X : Stand p l e R s m args below meth c T locs cells slots) (hx : p.tables.exec = Jvm.exec) {pc : Nat} {L : Array Slot} {S : List Value} {x : Int32} {y : Int32} (hd : decode c.code pc = .ok (.iushr, 1)) (k : Own p e below Q (T.setTop (mkF m (pc + 1) L (.int (own_ushr x y) :: S)))) : Own p e below Q (T.setTop (mkF m pc L (.int y :: .int x :: S))) :=
  ogo (fun _ k => XS.iushr X.here hx rfl hd rfl k) k
theorem o_lshl (X : Stand p l e R s m args below meth c T locs cells slots) (hx : p.tables.exec = Jvm.exec) {pc : Nat} {L : Array Slot} {S : List Value} {x : Int64} {y : Int32} (hd : decode c.code pc = .ok (.lshl, 1)) (k : Own p e below Q (T.setTop (mkF m (pc + 1) L (.long (x <<< (y &&& 0x3f).toInt64) :: S)))) : Own p e below Q (T.setTop (mkF m pc L (.int y :: .long x :: S))) :=
  ogo (fun _ k => XS.lshl X.here hx rfl hd rfl k) k
theorem o_lshr (X : Stand p l e R s m args below meth c T locs cells slots) (hx : p.tables.exec = Jvm.exec) {pc : Nat} {L : Array Slot} {S : List Value} {x : Int64} {y : Int32} (hd : decode c.code pc = .ok (.lshr, 1)) (k : Own p e below Q (T.setTop (mkF m (pc + 1) L (.long (x >>> (y &&& 0x3f).toInt64) :: S)))) : Own p e below Q (T.setTop (mkF m pc L (.int y :: .long x :: S))) :=
  ogo (fun _ k => XS.lshr X.here hx rfl hd rfl k) k
theorem o_lushr (X : Stand p l e R s m args below meth c T locs cells slots) (hx : p.tables.exec = Jvm.exec) {pc : Nat} {L : Array Slot} {S : List Value} {x : Int64} {y : Int32} (hd : decode c.code pc = .ok (.lushr, 1)) (k : Own p e below Q (T.setTop (mkF m (pc + 1) L (.long (own_ushrL x y) :: S)))) : Own p e below Q (T.setTop (mkF m pc L (.int y :: .long x :: S))) :=
  ogo (fun _ k => XS.lushr X.here hx rfl hd rfl k) k
theorem o_ineg (X : Stand p l e R s m args below meth c T locs cells slots) (hx : p.tables.exec = Jvm.exec) {pc : Nat} {L : Array Slot} {S : List Value} {x : Int32} (hd : decode c.code pc = .ok (.ineg, 1)) (k : Own p e below Q (T.setTop (mkF m (pc + 1) L (.int (-x) :: S)))) : Own p e below Q (T.setTop (mkF m pc L (.int x :: S))) :=
  ogo (fun _ k => XS.ineg X.here hx rfl hd rfl k) k
theorem o_lneg (X : Stand p l e R s m args below meth c T locs cells slots) (hx : p.tables.exec = Jvm.exec) {pc : Nat} {L : Array Slot} {S : List Value} {x : Int64} (hd : decode c.code pc = .ok (.lneg, 1)) (k : Own p e below Q (T.setTop (mkF m (pc + 1) L (.long (-x) :: S)))) : Own p e below Q (T.setTop (mkF m pc L (.long x :: S))) :=
  ogo (fun _ k => XS.lneg X.here hx rfl hd rfl k) k
theorem o_i2l (X : Stand p l e R s m args below meth c T locs cells slots) (hx : p.tables.exec = Jvm.exec) {pc : Nat} {L : Array Slot} {S : List Value} {x : Int32} (hd : decode c.code pc = .ok (.i2l, 1)) (k : Own p e below Q (T.setTop (mkF m (pc + 1) L (.long (x.toInt64) :: S)))) : Own p e below Q (T.setTop (mkF m pc L (.int x :: S))) :=
  ogo (fun _ k => XS.i2l X.here hx rfl hd rfl k) k
theorem o_l2i (X : Stand p l e R s m args below meth c T locs cells slots) (hx : p.tables.exec = Jvm.exec) {pc : Nat} {L : Array Slot} {S : List Value} {x : Int64} (hd : decode c.code pc = .ok (.l2i, 1)) (k : Own p e below Q (T.setTop (mkF m (pc + 1) L (.int (x.toInt32) :: S)))) : Own p e below Q (T.setTop (mkF m pc L (.long x :: S))) :=
  ogo (fun _ k => XS.l2i X.here hx rfl hd rfl k) k
theorem o_i2b (X : Stand p l e R s m args below meth c T locs cells slots) (hx : p.tables.exec = Jvm.exec) {pc : Nat} {L : Array Slot} {S : List Value} {x : Int32} (hd : decode c.code pc = .ok (.i2b, 1)) (k : Own p e below Q (T.setTop (mkF m (pc + 1) L (.int (x.toInt8.toInt32) :: S)))) : Own p e below Q (T.setTop (mkF m pc L (.int x :: S))) :=
  ogo (fun _ k => XS.i2b X.here hx rfl hd rfl k) k
theorem o_i2s (X : Stand p l e R s m args below meth c T locs cells slots) (hx : p.tables.exec = Jvm.exec) {pc : Nat} {L : Array Slot} {S : List Value} {x : Int32} (hd : decode c.code pc = .ok (.i2s, 1)) (k : Own p e below Q (T.setTop (mkF m (pc + 1) L (.int (x.toInt16.toInt32) :: S)))) : Own p e below Q (T.setTop (mkF m pc L (.int x :: S))) :=
  ogo (fun _ k => XS.i2s X.here hx rfl hd rfl k) k
theorem o_i2c (X : Stand p l e R s m args below meth c T locs cells slots) (hx : p.tables.exec = Jvm.exec) {pc : Nat} {L : Array Slot} {S : List Value} {x : Int32} (hd : decode c.code pc = .ok (.i2c, 1)) (k : Own p e below Q (T.setTop (mkF m (pc + 1) L (.int (nar .char x) :: S)))) : Own p e below Q (T.setTop (mkF m pc L (.int x :: S))) :=
  ogo (fun _ k => XS.i2c X.here hx rfl hd rfl k) k
theorem o_lcmp (X : Stand p l e R s m args below meth c T locs cells slots) (hx : p.tables.exec = Jvm.exec) {pc : Nat} {L : Array Slot} {S : List Value} {x y : Int64} (hd : decode c.code pc = .ok (.lcmp, 1)) (k : Own p e below Q (T.setTop (mkF m (pc + 1) L (.int (lcmpW x y) :: S)))) : Own p e below Q (T.setTop (mkF m pc L (.long y :: .long x :: S))) :=
  ogo (fun _ k => XS.lcmp X.here hx rfl hd rfl k) k
theorem o_idiv (X : Stand p l e R s m args below meth c T locs cells slots) (hx : p.tables.exec = Jvm.exec) {pc : Nat} {L : Array Slot} {S : List Value} {x y : Int32} (hd : decode c.code pc = .ok (.idiv, 1)) (hy : y ≠ 0) (k : Own p e below Q (T.setTop (mkF m (pc + 1) L (.int (x / y) :: S)))) : Own p e below Q (T.setTop (mkF m pc L (.int y :: .int x :: S))) :=
  ogo (fun _ k => XS.idiv X.here hx rfl hd rfl hy k) k
theorem o_ldiv (X : Stand p l e R s m args below meth c T locs cells slots) (hx : p.tables.exec = Jvm.exec) {pc : Nat} {L : Array Slot} {S : List Value} {x y : Int64} (hd : decode c.code pc = .ok (.ldiv, 1)) (hy : y ≠ 0) (k : Own p e below Q (T.setTop (mkF m (pc + 1) L (.long (x / y) :: S)))) : Own p e below Q (T.setTop (mkF m pc L (.long y :: .long x :: S))) :=
  ogo (fun _ k => XS.ldiv X.here hx rfl hd rfl hy k) k
theorem o_lrem (X : Stand p l e R s m args below meth c T locs cells slots) (hx : p.tables.exec = Jvm.exec) {pc : Nat} {L : Array Slot} {S : List Value} {x y : Int64} (hd : decode c.code pc = .ok (.lrem, 1)) (hy : y ≠ 0) (k : Own p e below Q (T.setTop (mkF m (pc + 1) L (.long (x - (x / y) * y) :: S)))) : Own p e below Q (T.setTop (mkF m pc L (.long y :: .long x :: S))) :=
  ogo (fun _ k => XS.lrem X.here hx rfl hd rfl hy k) k
theorem o_irem (X : Stand p l e R s m args below meth c T locs cells slots) (hx : p.tables.exec = Jvm.exec) {pc : Nat} {L : Array Slot} {S : List Value} {x y : Int32} (hd : decode c.code pc = .ok (.irem, 1)) (hy : y ≠ 0) (k : Own p e below Q (T.setTop (mkF m (pc + 1) L (.int (x % y) :: S)))) : Own p e below Q (T.setTop (mkF m pc L (.int y :: .int x :: S))) :=
  ogo (fun _ k => iremM X hx rfl hd rfl hy k) k
theorem o_iinc (X : Stand p l e R s m args below meth c T locs cells slots) (hx : p.tables.exec = Jvm.exec) {pc : Nat} {L : Array Slot} {S : List Value} {i : Nat} {n : Int} {x : Int32} {l' : Array Slot} (hd : decode c.code pc = .ok (.iinc i n, 3)) (hl : L[i]? = some (.val (.int x))) (hl' : storeLocals L i (.int (x + Int32.ofInt n)) = some l') (k : Own p e below Q (T.setTop (mkF m (pc + 3) l' S))) : Own p e below Q (T.setTop (mkF m pc L S)) :=
  ogo (fun _ k => XS.iinc X.here hx rfl hd hl hl' k) k
theorem o_dup (X : Stand p l e R s m args below meth c T locs cells slots) (hx : p.tables.exec = Jvm.exec) {pc : Nat} {L : Array Slot} {S : List Value} {v : Value} (hd : decode c.code pc = .ok (.dup, 1)) (hc : v.category = 1) (k : Own p e below Q (T.setTop (mkF m (pc + 1) L (v :: v :: S)))) : Own p e below Q (T.setTop (mkF m pc L (v :: S))) :=
  ogo (fun _ k => XS.dup X.here hx rfl hd rfl hc k) k
theorem o_dup_x1 (X : Stand p l e R s m args below meth c T locs cells slots) (hx : p.tables.exec = Jvm.exec) {pc : Nat} {L : Array Slot} {S : List Value} {v w : Value} (hd : decode c.code pc = .ok (.dup_x1, 1)) (hc : v.category = 1) (hc' : w.category = 1) (k : Own p e below Q (T.setTop (mkF m (pc + 1) L (v :: w :: v :: S)))) : Own p e below Q (T.setTop (mkF m pc L (v :: w :: S))) :=
  ogo (fun _ k => XS.dupX1 X.here hx rfl hd rfl hc hc' k) k
theorem o_pop (X : Stand p l e R s m args below meth c T locs cells slots) (hx : p.tables.exec = Jvm.exec) {pc : Nat} {L : Array Slot} {S : List Value} {v : Value} (hd : decode c.code pc = .ok (.pop, 1)) (hc : v.category = 1) (k : Own p e below Q (T.setTop (mkF m (pc + 1) L S))) : Own p e below Q (T.setTop (mkF m pc L (v :: S))) :=
  ogo (fun _ k => XS.pop X.here hx rfl hd rfl hc k) k
theorem o_goto (X : Stand p l e R s m args below meth c T locs cells slots) (hx : p.tables.exec = Jvm.exec) {pc : Nat} {L : Array Slot} {S : List Value} {o : Int} (pc' : Nat) (hd : decode c.code pc = .ok (.goto o, 3)) (ho : 0 ≤ (pc : Int) + o) (hp : ((pc : Int) + o).toNat = pc') (k : Own p e below Q (T.setTop (mkF m (pc') L S))) : Own p e below Q (T.setTop (mkF m pc L S)) :=
  ogo (fun _ k => XS.goto X.here hx rfl rfl hd ho hp k) k
theorem o_ifYes (X : Stand p l e R s m args below meth c T locs cells slots) (hx : p.tables.exec = Jvm.exec) {pc : Nat} {L : Array Slot} {S : List Value} {cd : ClassFile.Cond} {x : Int32} {o : Int} (pc' : Nat) (hd : decode c.code pc = .ok (.ifCond cd o, 3)) (hc : if_icmp.holds cd x 0 = true) (ho : 0 ≤ (pc : Int) + o) (hp : ((pc : Int) + o).toNat = pc') (k : Own p e below Q (T.setTop (mkF m (pc') L S))) : Own p e below Q (T.setTop (mkF m pc L (.int x :: S))) :=
  ogo (fun _ k => XS.ifYes X.here hx rfl rfl hd rfl ((if0 _ _).trans hc) ho hp k) k
theorem o_ifNo (X : Stand p l e R s m args below meth c T locs cells slots) (hx : p.tables.exec = Jvm.exec) {pc : Nat} {L : Array Slot} {S : List Value} {cd : ClassFile.Cond} {x : Int32} {o : Int} (hd : decode c.code pc = .ok (.ifCond cd o, 3)) (hc : if_icmp.holds cd x 0 = false) (k : Own p e below Q (T.setTop (mkF m (pc + 3) L S))) : Own p e below Q (T.setTop (mkF m pc L (.int x :: S))) :=
  ogo (fun _ k => XS.ifNo X.here hx rfl hd rfl ((if0 _ _).trans hc) k) k
theorem o_icmpYes (X : Stand p l e R s m args below meth c T locs cells slots) (hx : p.tables.exec = Jvm.exec) {pc : Nat} {L : Array Slot} {S : List Value} {cd : ClassFile.Cond} {x y : Int32} {o : Int} (pc' : Nat) (hd : decode c.code pc = .ok (.if_icmp cd o, 3)) (hc : if_icmp.holds cd x y = true) (ho : 0 ≤ (pc : Int) + o) (hp : ((pc : Int) + o).toNat = pc') (k : Own p e below Q (T.setTop (mkF m (pc') L S))) : Own p e below Q (T.setTop (mkF m pc L (.int y :: .int x :: S))) :=
  ogo (fun _ k => XS.icmpYes X.here hx rfl rfl hd rfl hc ho hp k) k
theorem o_icmpNo (X : Stand p l e R s m args below meth c T locs cells slots) (hx : p.tables.exec = Jvm.exec) {pc : Nat} {L : Array Slot} {S : List Value} {cd : ClassFile.Cond} {x y : Int32} {o : Int} (hd : decode c.code pc = .ok (.if_icmp cd o, 3)) (hc : if_icmp.holds cd x y = false) (k : Own p e below Q (T.setTop (mkF m (pc + 3) L S))) : Own p e below Q (T.setTop (mkF m pc L (.int y :: .int x :: S))) :=
  ogo (fun _ k => XS.icmpNo X.here hx rfl hd rfl hc k) k
theorem o_ifnullYes (X : Stand p l e R s m args below meth c T locs cells slots) (hx : p.tables.exec = Jvm.exec) {pc : Nat} {L : Array Slot} {S : List Value} {o : Int} (pc' : Nat) (hd : decode c.code pc = .ok (.ifnull o, 3)) (ho : 0 ≤ (pc : Int) + o) (hp : ((pc : Int) + o).toNat = pc') (k : Own p e below Q (T.setTop (mkF m (pc') L S))) : Own p e below Q (T.setTop (mkF m pc L (.null :: S))) :=
  ogo (fun _ k => XS.ifnullYes X.here hx rfl rfl hd rfl ho hp k) k
theorem o_ifnullNo (X : Stand p l e R s m args below meth c T locs cells slots) (hx : p.tables.exec = Jvm.exec) {pc : Nat} {L : Array Slot} {S : List Value} {o : Int} {b : Addr} (hd : decode c.code pc = .ok (.ifnull o, 3)) (k : Own p e below Q (T.setTop (mkF m (pc + 3) L S))) : Own p e below Q (T.setTop (mkF m pc L (.ref b :: S))) :=
  ogo (fun _ k => XS.ifnullNo X.here hx rfl hd rfl k) k
theorem o_ifnonnullYes (X : Stand p l e R s m args below meth c T locs cells slots) (hx : p.tables.exec = Jvm.exec) {pc : Nat} {L : Array Slot} {S : List Value} {o : Int} {b : Addr} (pc' : Nat) (hd : decode c.code pc = .ok (.ifnonnull o, 3)) (ho : 0 ≤ (pc : Int) + o) (hp : ((pc : Int) + o).toNat = pc') (k : Own p e below Q (T.setTop (mkF m (pc') L S))) : Own p e below Q (T.setTop (mkF m pc L (.ref b :: S))) :=
  ogo (fun _ k => XS.ifnonnullYes X.here hx rfl rfl hd rfl ho hp k) k
theorem o_ifnonnullNo (X : Stand p l e R s m args below meth c T locs cells slots) (hx : p.tables.exec = Jvm.exec) {pc : Nat} {L : Array Slot} {S : List Value} {o : Int} (hd : decode c.code pc = .ok (.ifnonnull o, 3)) (k : Own p e below Q (T.setTop (mkF m (pc + 3) L S))) : Own p e below Q (T.setTop (mkF m pc L (.null :: S))) :=
  ogo (fun _ k => XS.ifnonnullNo X.here hx rfl hd rfl k) k
theorem o_acmp (X : Stand p l e R s m args below meth c T locs cells slots) (hx : p.tables.exec = Jvm.exec) {pc : Nat} {L : Array Slot} {S : List Value} {cd : ClassFile.ACond} {x y : Value} {o : Int} (pc' : Nat) (same : Bool) (h1 : x.isRef = true) (h2 : y.isRef = true) (hd : decode c.code pc = .ok (.if_acmp cd o, 3)) (hq : decide (x = y) = same) (ho : 0 ≤ (pc : Int) + o) (hp : pc' = if acV cd same = true then ((pc : Int) + o).toNat else pc + 3) (k : Own p e below Q (T.setTop (mkF m (pc') L S))) : Own p e below Q (T.setTop (mkF m pc L (y :: x :: S))) :=
  ogo (fun _ k => Jvm.RoadKit.acmp X hx rfl h1 h2 rfl hd rfl hq ho hp k) k
theorem o_tswIn (X : Stand p l e R s m args below meth c T locs cells slots) (hx : p.tables.exec = Jvm.exec) {pc : Nat} {L : Array Slot} {S : List Value} {d lo hi : Int} {offs : Array Int} {len : Nat} {o : Int} {i : Int32} (pc' : Nat) (hd : decode c.code pc = .ok (.tableswitch d lo hi offs, len)) (hin : ¬ (i.toInt < lo ∨ i.toInt > hi)) (hoff : offs[(i.toInt - lo).toNat]? = some o) (ho : 0 ≤ (pc : Int) + o) (hp : ((pc : Int) + o).toNat = pc') (k : Own p e below Q (T.setTop (mkF m (pc') L S))) : Own p e below Q (T.setTop (mkF m pc L (.int i :: S))) :=
  ogo (fun _ k => XS.tswIn X.here hx rfl rfl hd rfl hin hoff ho hp k) k
theorem o_tswOut (X : Stand p l e R s m args below meth c T locs cells slots) (hx : p.tables.exec = Jvm.exec) {pc : Nat} {L : Array Slot} {S : List Value} {d lo hi : Int} {offs : Array Int} {len : Nat} {i : Int32} (pc' : Nat) (hd : decode c.code pc = .ok (.tableswitch d lo hi offs, len)) (hout : i.toInt < lo ∨ i.toInt > hi) (ho : 0 ≤ (pc : Int) + d) (hp : ((pc : Int) + d).toNat = pc') (k : Own p e below Q (T.setTop (mkF m (pc') L S))) : Own p e below Q (T.setTop (mkF m pc L (.int i :: S))) :=
  ogo (fun _ k => XS.tswOut X.here hx rfl rfl hd rfl hout ho hp k) k
end Steps

theorem own_cat {v : Value} (h : v.isRef = true) : v.category = 1 := by cases v <;> simp_all [Value.isRef, Value.category]
theorem own_narc (x : Int32) : nar .char (nar .char x) = nar .char x := by
  have h := c_i2c x
  have h' := c_i2c (nar .char x)
  refine Int32.toInt_inj.mp ?_
  show (nar .char x).toUInt32.toUInt16.toUInt32.toInt32.toInt = (nar .char x).toInt
  have e : (nar .char x).toInt = x.toUInt32.toUInt16.toUInt32.toInt32.toInt := rfl
  omega
theorem own_narb (x : Int32) : nar .byte x.toInt8.toInt32 = x.toInt8.toInt32 := by
  have h := c_i2b x
  have h' := c_i2b x.toInt8.toInt32
  refine Int32.toInt_inj.mp ?_
  show x.toInt8.toInt32.toInt8.toInt32.toInt = x.toInt8.toInt32.toInt
  omega
theorem own_eqref {args : Array Value} {s : State} {a b : Term} {z : Addr} (h : (Jvm.Cond.eq a b).value args s none s [] = some true) (hb : b.eval args s none [] s = some (.ref z)) : a.eval args s none [] s = some (.ref z) := by
  obtain ⟨x, y, h1, h2, k1, k2⟩ := cmp_v (Or.inl h)
  cases hb.symm.trans h2
  have q := gotT (eq_R h1 h2 k2.2 rfl) h
  rw [← q]; exact h1
def own_exm (x0 x1 x2 x3 x4 x5 : Addr) (i : Int32) : Addr := if i = (0 : Int32) then x0 else if i = (1 : Int32) then x1 else if i = (2 : Int32) then x2 else if i = (3 : Int32) then x3 else if i = (4 : Int32) then x4 else x5
def own_evt (x0 x1 x2 x3 x4 x5 x6 : Addr) (i : Int32) : Addr := if i = (0 : Int32) then x0 else if i = (1 : Int32) then x1 else if i = (2 : Int32) then x2 else if i = (3 : Int32) then x3 else if i = (4 : Int32) then x4 else if i = (5 : Int32) then x5 else x6
def own_cov (i : Int32) : Int32 := if i = (0 : Int32) then 2 else if i = (1 : Int32) then 0 else i + 1
def own_cvs (ex ev : Addr) (bu bi : Int32) : Int32 := if ex = ev then (if bu = (0 : Int32) then (if bi = (0 : Int32) then 1 else 0) else 1) else 0
theorem own_rem6 (k : Int32) : ((k &&& (2147483647 : Int32)) % (6 : Int32)) = (0 : Int32) ∨ ((k &&& (2147483647 : Int32)) % (6 : Int32)) = (1 : Int32) ∨ ((k &&& (2147483647 : Int32)) % (6 : Int32)) = (2 : Int32) ∨ ((k &&& (2147483647 : Int32)) % (6 : Int32)) = (3 : Int32) ∨ ((k &&& (2147483647 : Int32)) % (6 : Int32)) = (4 : Int32) ∨ ((k &&& (2147483647 : Int32)) % (6 : Int32)) = (5 : Int32) := by
  have h0 := (c_and k (2147483647 : Int32) (by decide)).1
  have h1 := (c_irem (k &&& (2147483647 : Int32)) (6 : Int32) 6 rfl).1 h0
  simp only [← Int32.toInt_inj, h1, show (0 : Int32).toInt = 0 from rfl, show (1 : Int32).toInt = 1 from rfl, show (2 : Int32).toInt = 2 from rfl, show (3 : Int32).toInt = 3 from rfl, show (4 : Int32).toInt = 4 from rfl, show (5 : Int32).toInt = 5 from rfl]
  omega
theorem own_rem7 (k : Int32) : ((k &&& (2147483647 : Int32)) % (7 : Int32)) = (0 : Int32) ∨ ((k &&& (2147483647 : Int32)) % (7 : Int32)) = (1 : Int32) ∨ ((k &&& (2147483647 : Int32)) % (7 : Int32)) = (2 : Int32) ∨ ((k &&& (2147483647 : Int32)) % (7 : Int32)) = (3 : Int32) ∨ ((k &&& (2147483647 : Int32)) % (7 : Int32)) = (4 : Int32) ∨ ((k &&& (2147483647 : Int32)) % (7 : Int32)) = (5 : Int32) ∨ ((k &&& (2147483647 : Int32)) % (7 : Int32)) = (6 : Int32) := by
  have h0 := (c_and k (2147483647 : Int32) (by decide)).1
  have h1 := (c_irem (k &&& (2147483647 : Int32)) (7 : Int32) 7 rfl).1 h0
  simp only [← Int32.toInt_inj, h1, show (0 : Int32).toInt = 0 from rfl, show (1 : Int32).toInt = 1 from rfl, show (2 : Int32).toInt = 2 from rfl, show (3 : Int32).toInt = 3 from rfl, show (4 : Int32).toInt = 4 from rfl, show (5 : Int32).toInt = 5 from rfl, show (6 : Int32).toInt = 6 from rfl]
  omega
def own_Start (Z : State) (s_REFINANCE_SUBORDINATED : Addr) (s_FORECLOSURE : Addr) (s_REFINANCE_SUBORDINATED1 : Addr) (s_BUYER_LOW_MODERATE_INCOME : Addr) (s_FHA_ASSIGNMENT : Addr) (s_SALE : Addr) (s_FORECLOSURE1 : Addr) (s_DEED_IN_LIEU : Addr) (s_DEATH : Addr) (s_DEATH1 : Addr) (s_REFINANCE : Addr) (s_DEED_IN_LIEU1 : Addr) (s_FHA_ASSIGNMENT1 : Addr) : Prop := (Sta Z Z.heap "com/example/lintel/lintel/RepaymentExemption" "REFINANCE_SUBORDINATED" "Lcom/example/lintel/lintel/RepaymentExemption;" (.ref s_REFINANCE_SUBORDINATED)) ∧ (Exa Z Z.heap s_REFINANCE_SUBORDINATED "com/example/lintel/lintel/RepaymentExemption") ∧ (Sta Z Z.heap "com/example/lintel/lintel/RepaymentEvent" "FORECLOSURE" "Lcom/example/lintel/lintel/RepaymentEvent;" (.ref s_FORECLOSURE)) ∧ (Exa Z Z.heap s_FORECLOSURE "com/example/lintel/lintel/RepaymentEvent") ∧ (Sta Z Z.heap "com/example/lintel/lintel/RepaymentEvent" "REFINANCE_SUBORDINATED" "Lcom/example/lintel/lintel/RepaymentEvent;" (.ref s_REFINANCE_SUBORDINATED1)) ∧ (Exa Z Z.heap s_REFINANCE_SUBORDINATED1 "com/example/lintel/lintel/RepaymentEvent") ∧ (Sta Z Z.heap "com/example/lintel/lintel/RepaymentExemption" "BUYER_LOW_MODERATE_INCOME" "Lcom/example/lintel/lintel/RepaymentExemption;" (.ref s_BUYER_LOW_MODERATE_INCOME)) ∧ (Exa Z Z.heap s_BUYER_LOW_MODERATE_INCOME "com/example/lintel/lintel/RepaymentExemption") ∧ (Sta Z Z.heap "com/example/lintel/lintel/RepaymentEvent" "FHA_ASSIGNMENT" "Lcom/example/lintel/lintel/RepaymentEvent;" (.ref s_FHA_ASSIGNMENT)) ∧ (Exa Z Z.heap s_FHA_ASSIGNMENT "com/example/lintel/lintel/RepaymentEvent") ∧ (Sta Z Z.heap "com/example/lintel/lintel/RepaymentEvent" "SALE" "Lcom/example/lintel/lintel/RepaymentEvent;" (.ref s_SALE)) ∧ (Exa Z Z.heap s_SALE "com/example/lintel/lintel/RepaymentEvent") ∧ (Sta Z Z.heap "com/example/lintel/lintel/RepaymentExemption" "FORECLOSURE" "Lcom/example/lintel/lintel/RepaymentExemption;" (.ref s_FORECLOSURE1)) ∧ (Exa Z Z.heap s_FORECLOSURE1 "com/example/lintel/lintel/RepaymentExemption") ∧ (Sta Z Z.heap "com/example/lintel/lintel/RepaymentEvent" "DEED_IN_LIEU" "Lcom/example/lintel/lintel/RepaymentEvent;" (.ref s_DEED_IN_LIEU)) ∧ (Exa Z Z.heap s_DEED_IN_LIEU "com/example/lintel/lintel/RepaymentEvent") ∧ (Sta Z Z.heap "com/example/lintel/lintel/RepaymentExemption" "DEATH" "Lcom/example/lintel/lintel/RepaymentExemption;" (.ref s_DEATH)) ∧ (Exa Z Z.heap s_DEATH "com/example/lintel/lintel/RepaymentExemption") ∧ (Sta Z Z.heap "com/example/lintel/lintel/RepaymentEvent" "DEATH" "Lcom/example/lintel/lintel/RepaymentEvent;" (.ref s_DEATH1)) ∧ (Exa Z Z.heap s_DEATH1 "com/example/lintel/lintel/RepaymentEvent") ∧ (Sta Z Z.heap "com/example/lintel/lintel/RepaymentEvent" "REFINANCE" "Lcom/example/lintel/lintel/RepaymentEvent;" (.ref s_REFINANCE)) ∧ (Exa Z Z.heap s_REFINANCE "com/example/lintel/lintel/RepaymentEvent") ∧ (Sta Z Z.heap "com/example/lintel/lintel/RepaymentExemption" "DEED_IN_LIEU" "Lcom/example/lintel/lintel/RepaymentExemption;" (.ref s_DEED_IN_LIEU1)) ∧ (Exa Z Z.heap s_DEED_IN_LIEU1 "com/example/lintel/lintel/RepaymentExemption") ∧ (Sta Z Z.heap "com/example/lintel/lintel/RepaymentExemption" "FHA_ASSIGNMENT" "Lcom/example/lintel/lintel/RepaymentExemption;" (.ref s_FHA_ASSIGNMENT1)) ∧ (Exa Z Z.heap s_FHA_ASSIGNMENT1 "com/example/lintel/lintel/RepaymentExemption") ∧ (Fld Z Z.heap s_REFINANCE_SUBORDINATED "com/example/lintel/lintel/RepaymentExemption" "event" "Lcom/example/lintel/lintel/RepaymentEvent;" (.ref s_REFINANCE_SUBORDINATED1)) ∧ (Fld Z Z.heap s_REFINANCE_SUBORDINATED1 "java/lang/Enum" "ordinal" "I" (.int (2 : Int32))) ∧ (Fld Z Z.heap s_FORECLOSURE "java/lang/Enum" "ordinal" "I" (.int (3 : Int32))) ∧ (Fld Z Z.heap s_BUYER_LOW_MODERATE_INCOME "com/example/lintel/lintel/RepaymentExemption" "event" "Lcom/example/lintel/lintel/RepaymentEvent;" (.ref s_SALE)) ∧ (Fld Z Z.heap s_SALE "java/lang/Enum" "ordinal" "I" (.int (0 : Int32))) ∧ (Fld Z Z.heap s_FHA_ASSIGNMENT "java/lang/Enum" "ordinal" "I" (.int (5 : Int32))) ∧ (Fld Z Z.heap s_FORECLOSURE1 "com/example/lintel/lintel/RepaymentExemption" "event" "Lcom/example/lintel/lintel/RepaymentEvent;" (.ref s_FORECLOSURE)) ∧ (Fld Z Z.heap s_DEED_IN_LIEU "java/lang/Enum" "ordinal" "I" (.int (4 : Int32))) ∧ (Fld Z Z.heap s_DEATH "com/example/lintel/lintel/RepaymentExemption" "event" "Lcom/example/lintel/lintel/RepaymentEvent;" (.ref s_DEATH1)) ∧ (Fld Z Z.heap s_DEATH1 "java/lang/Enum" "ordinal" "I" (.int (6 : Int32))) ∧ (Fld Z Z.heap s_REFINANCE "java/lang/Enum" "ordinal" "I" (.int (1 : Int32))) ∧ (Fld Z Z.heap s_DEED_IN_LIEU1 "com/example/lintel/lintel/RepaymentExemption" "event" "Lcom/example/lintel/lintel/RepaymentEvent;" (.ref s_DEED_IN_LIEU)) ∧ (Fld Z Z.heap s_FHA_ASSIGNMENT1 "com/example/lintel/lintel/RepaymentExemption" "event" "Lcom/example/lintel/lintel/RepaymentEvent;" (.ref s_FHA_ASSIGNMENT)) ∧ (Fld Z Z.heap s_REFINANCE_SUBORDINATED "com/example/lintel/lintel/RepaymentExemption" "byBuyersIncome" "Z" (.int (0 : Int32))) ∧ (Fld Z Z.heap s_FHA_ASSIGNMENT1 "com/example/lintel/lintel/RepaymentExemption" "byBuyersIncome" "Z" (.int (0 : Int32))) ∧ (Fld Z Z.heap s_FORECLOSURE1 "com/example/lintel/lintel/RepaymentExemption" "byBuyersIncome" "Z" (.int (0 : Int32))) ∧ (Fld Z Z.heap s_BUYER_LOW_MODERATE_INCOME "com/example/lintel/lintel/RepaymentExemption" "byBuyersIncome" "Z" (.int (1 : Int32))) ∧ (Fld Z Z.heap s_DEED_IN_LIEU1 "com/example/lintel/lintel/RepaymentExemption" "byBuyersIncome" "Z" (.int (0 : Int32))) ∧ (Fld Z Z.heap s_DEATH "com/example/lintel/lintel/RepaymentExemption" "byBuyersIncome" "Z" (.int (0 : Int32)))
theorem own_ord {Z : State} {s_REFINANCE_SUBORDINATED s_FORECLOSURE s_REFINANCE_SUBORDINATED1 s_BUYER_LOW_MODERATE_INCOME s_FHA_ASSIGNMENT s_SALE s_FORECLOSURE1 s_DEED_IN_LIEU s_DEATH s_DEATH1 s_REFINANCE s_DEED_IN_LIEU1 s_FHA_ASSIGNMENT1 : Addr} (SB : own_Start Z s_REFINANCE_SUBORDINATED s_FORECLOSURE s_REFINANCE_SUBORDINATED1 s_BUYER_LOW_MODERATE_INCOME s_FHA_ASSIGNMENT s_SALE s_FORECLOSURE1 s_DEED_IN_LIEU s_DEATH s_DEATH1 s_REFINANCE s_DEED_IN_LIEU1 s_FHA_ASSIGNMENT1) {v : Int32} (hv : v = (0 : Int32) ∨ v = (1 : Int32) ∨ v = (2 : Int32) ∨ v = (3 : Int32) ∨ v = (4 : Int32) ∨ v = (5 : Int32) ∨ v = (6 : Int32)) : Fld Z Z.heap (own_evt s_SALE s_REFINANCE s_REFINANCE_SUBORDINATED1 s_FORECLOSURE s_DEED_IN_LIEU s_FHA_ASSIGNMENT s_DEATH1 v) "java/lang/Enum" "ordinal" "I" (.int v) := by
  obtain ⟨S_s_REFINANCE_SUBORDINATED, E_s_REFINANCE_SUBORDINATED, S_s_FORECLOSURE, E_s_FORECLOSURE, S_s_REFINANCE_SUBORDINATED1, E_s_REFINANCE_SUBORDINATED1, S_s_BUYER_LOW_MODERATE_INCOME, E_s_BUYER_LOW_MODERATE_INCOME, S_s_FHA_ASSIGNMENT, E_s_FHA_ASSIGNMENT, S_s_SALE, E_s_SALE, S_s_FORECLOSURE1, E_s_FORECLOSURE1, S_s_DEED_IN_LIEU, E_s_DEED_IN_LIEU, S_s_DEATH, E_s_DEATH, S_s_DEATH1, E_s_DEATH1, S_s_REFINANCE, E_s_REFINANCE, S_s_DEED_IN_LIEU1, E_s_DEED_IN_LIEU1, S_s_FHA_ASSIGNMENT1, E_s_FHA_ASSIGNMENT1, F_s_REFINANCE_SUBORDINATED_event, F_s_REFINANCE_SUBORDINATED1_ordinal, F_s_FORECLOSURE_ordinal, F_s_BUYER_LOW_MODERATE_INCOME_event, F_s_SALE_ordinal, F_s_FHA_ASSIGNMENT_ordinal, F_s_FORECLOSURE1_event, F_s_DEED_IN_LIEU_ordinal, F_s_DEATH_event, F_s_DEATH1_ordinal, F_s_REFINANCE_ordinal, F_s_DEED_IN_LIEU1_event, F_s_FHA_ASSIGNMENT1_event, F_s_REFINANCE_SUBORDINATED_byBuyersIncome, F_s_FHA_ASSIGNMENT1_byBuyersIncome, F_s_FORECLOSURE1_byBuyersIncome, F_s_BUYER_LOW_MODERATE_INCOME_byBuyersIncome, F_s_DEED_IN_LIEU1_byBuyersIncome, F_s_DEATH_byBuyersIncome⟩ := SB
  rcases hv with rfl | rfl | rfl | rfl | rfl | rfl | rfl
  · have e : own_evt s_SALE s_REFINANCE s_REFINANCE_SUBORDINATED1 s_FORECLOSURE s_DEED_IN_LIEU s_FHA_ASSIGNMENT s_DEATH1 (0 : Int32) = s_SALE := by simp [own_evt]
    rw [e]; exact F_s_SALE_ordinal
  · have e : own_evt s_SALE s_REFINANCE s_REFINANCE_SUBORDINATED1 s_FORECLOSURE s_DEED_IN_LIEU s_FHA_ASSIGNMENT s_DEATH1 (1 : Int32) = s_REFINANCE := by simp [own_evt]
    rw [e]; exact F_s_REFINANCE_ordinal
  · have e : own_evt s_SALE s_REFINANCE s_REFINANCE_SUBORDINATED1 s_FORECLOSURE s_DEED_IN_LIEU s_FHA_ASSIGNMENT s_DEATH1 (2 : Int32) = s_REFINANCE_SUBORDINATED1 := by simp [own_evt]
    rw [e]; exact F_s_REFINANCE_SUBORDINATED1_ordinal
  · have e : own_evt s_SALE s_REFINANCE s_REFINANCE_SUBORDINATED1 s_FORECLOSURE s_DEED_IN_LIEU s_FHA_ASSIGNMENT s_DEATH1 (3 : Int32) = s_FORECLOSURE := by simp [own_evt]
    rw [e]; exact F_s_FORECLOSURE_ordinal
  · have e : own_evt s_SALE s_REFINANCE s_REFINANCE_SUBORDINATED1 s_FORECLOSURE s_DEED_IN_LIEU s_FHA_ASSIGNMENT s_DEATH1 (4 : Int32) = s_DEED_IN_LIEU := by simp [own_evt]
    rw [e]; exact F_s_DEED_IN_LIEU_ordinal
  · have e : own_evt s_SALE s_REFINANCE s_REFINANCE_SUBORDINATED1 s_FORECLOSURE s_DEED_IN_LIEU s_FHA_ASSIGNMENT s_DEATH1 (5 : Int32) = s_FHA_ASSIGNMENT := by simp [own_evt]
    rw [e]; exact F_s_FHA_ASSIGNMENT_ordinal
  · have e : own_evt s_SALE s_REFINANCE s_REFINANCE_SUBORDINATED1 s_FORECLOSURE s_DEED_IN_LIEU s_FHA_ASSIGNMENT s_DEATH1 (6 : Int32) = s_DEATH1 := by simp [own_evt]
    rw [e]; exact F_s_DEATH1_ordinal
theorem own_evne {Z : State} {s_REFINANCE_SUBORDINATED s_FORECLOSURE s_REFINANCE_SUBORDINATED1 s_BUYER_LOW_MODERATE_INCOME s_FHA_ASSIGNMENT s_SALE s_FORECLOSURE1 s_DEED_IN_LIEU s_DEATH s_DEATH1 s_REFINANCE s_DEED_IN_LIEU1 s_FHA_ASSIGNMENT1 : Addr} (SB : own_Start Z s_REFINANCE_SUBORDINATED s_FORECLOSURE s_REFINANCE_SUBORDINATED1 s_BUYER_LOW_MODERATE_INCOME s_FHA_ASSIGNMENT s_SALE s_FORECLOSURE1 s_DEED_IN_LIEU s_DEATH s_DEATH1 s_REFINANCE s_DEED_IN_LIEU1 s_FHA_ASSIGNMENT1) {v c : Int32} (hv : v = (0 : Int32) ∨ v = (1 : Int32) ∨ v = (2 : Int32) ∨ v = (3 : Int32) ∨ v = (4 : Int32) ∨ v = (5 : Int32) ∨ v = (6 : Int32)) (hc : c = (0 : Int32) ∨ c = (1 : Int32) ∨ c = (2 : Int32) ∨ c = (3 : Int32) ∨ c = (4 : Int32) ∨ c = (5 : Int32) ∨ c = (6 : Int32)) (hn : ¬ v = c) : ¬ own_evt s_SALE s_REFINANCE s_REFINANCE_SUBORDINATED1 s_FORECLOSURE s_DEED_IN_LIEU s_FHA_ASSIGNMENT s_DEATH1 c = own_evt s_SALE s_REFINANCE s_REFINANCE_SUBORDINATED1 s_FORECLOSURE s_DEED_IN_LIEU s_FHA_ASSIGNMENT s_DEATH1 v := fun q => by
  have f1 := own_ord SB hv
  have f2 := own_ord SB hc
  exact Fld.ne f1 f2 (fun z => hn (by injection z)) q.symm
theorem d1_0 : decode method_3_code 0 = .ok (.iload_n 0, 1) := by decide +kernel
theorem d1_1 : decode method_3_code 1 = .ok (.ifCond .ne 7, 3) := by decide +kernel
theorem d1_4 : decode method_3_code 4 = .ok (.getstatic 28, 3) := by decide +kernel
theorem d1_7 : decode method_3_code 7 = .ok (.areturn, 1) := by decide +kernel
theorem d1_8 : decode method_3_code 8 = .ok (.iload_n 0, 1) := by decide +kernel
theorem d1_9 : decode method_3_code 9 = .ok (.iconst 1, 1) := by decide +kernel
theorem d1_10 : decode method_3_code 10 = .ok (.if_icmp .ne 7, 3) := by decide +kernel
theorem d1_13 : decode method_3_code 13 = .ok (.getstatic 32, 3) := by decide +kernel
theorem d1_16 : decode method_3_code 16 = .ok (.areturn, 1) := by decide +kernel
theorem d1_17 : decode method_3_code 17 = .ok (.iload_n 0, 1) := by decide +kernel
theorem d1_18 : decode method_3_code 18 = .ok (.iconst 2, 1) := by decide +kernel
theorem d1_19 : decode method_3_code 19 = .ok (.if_icmp .ne 7, 3) := by decide +kernel
theorem d1_22 : decode method_3_code 22 = .ok (.getstatic 35, 3) := by decide +kernel
theorem d1_25 : decode method_3_code 25 = .ok (.areturn, 1) := by decide +kernel
theorem d1_26 : decode method_3_code 26 = .ok (.iload_n 0, 1) := by decide +kernel
theorem d1_27 : decode method_3_code 27 = .ok (.iconst 3, 1) := by decide +kernel
theorem d1_28 : decode method_3_code 28 = .ok (.if_icmp .ne 7, 3) := by decide +kernel
theorem d1_31 : decode method_3_code 31 = .ok (.getstatic 38, 3) := by decide +kernel
theorem d1_34 : decode method_3_code 34 = .ok (.areturn, 1) := by decide +kernel
theorem d1_35 : decode method_3_code 35 = .ok (.iload_n 0, 1) := by decide +kernel
theorem d1_36 : decode method_3_code 36 = .ok (.iconst 4, 1) := by decide +kernel
theorem d1_37 : decode method_3_code 37 = .ok (.if_icmp .ne 7, 3) := by decide +kernel
theorem d1_40 : decode method_3_code 40 = .ok (.getstatic 41, 3) := by decide +kernel
theorem d1_43 : decode method_3_code 43 = .ok (.areturn, 1) := by decide +kernel
theorem d1_44 : decode method_3_code 44 = .ok (.getstatic 44, 3) := by decide +kernel
theorem d1_47 : decode method_3_code 47 = .ok (.areturn, 1) := by decide +kernel
theorem own_pn0 : plainName "com/example/lintel/lintel/RepaymentExemptionCoversPinLaw" = true := by first | (simp [plainName, overriddenIn]; done) | decide +kernel
def own_Q_exemption (Z : State) (s_REFINANCE_SUBORDINATED : Addr) (s_FORECLOSURE : Addr) (s_REFINANCE_SUBORDINATED1 : Addr) (s_BUYER_LOW_MODERATE_INCOME : Addr) (s_FHA_ASSIGNMENT : Addr) (s_SALE : Addr) (s_FORECLOSURE1 : Addr) (s_DEED_IN_LIEU : Addr) (s_DEATH : Addr) (s_DEATH1 : Addr) (s_REFINANCE : Addr) (s_DEED_IN_LIEU1 : Addr) (s_FHA_ASSIGNMENT1 : Addr) (i_ : Int32) (h0 : Heap) (n0 : Nat) (v : Option Value) (h : Heap) (L : List Loc) : Prop := (v = some (.ref (own_exm s_REFINANCE_SUBORDINATED s_BUYER_LOW_MODERATE_INCOME s_FORECLOSURE1 s_DEED_IN_LIEU1 s_FHA_ASSIGNMENT1 s_DEATH i_))) ∧ (Fr n0 L) ∧ (h = h0)
abbrev yM0 : MethodName := ⟨"com/example/lintel/lintel/RepaymentExemptionCoversPinLaw", "exemption", "(I)Lcom/example/lintel/lintel/RepaymentExemption;"⟩
set_option maxRecDepth 65536 in
set_option maxHeartbeats 40000000 in
theorem rm_exemption (l : Launch) (Z : State) (a0 : Array Value) (hw : ∀ d ∈ tables_1, d.before a0 Z = true) (ws : List Jvm.Cond) (s_REFINANCE_SUBORDINATED : Addr) (s_FORECLOSURE : Addr) (s_REFINANCE_SUBORDINATED1 : Addr) (s_BUYER_LOW_MODERATE_INCOME : Addr) (s_FHA_ASSIGNMENT : Addr) (s_SALE : Addr) (s_FORECLOSURE1 : Addr) (s_DEED_IN_LIEU : Addr) (s_DEATH : Addr) (s_DEATH1 : Addr) (s_REFINANCE : Addr) (s_DEED_IN_LIEU1 : Addr) (s_FHA_ASSIGNMENT1 : Addr) (i_ : Int32) (h0 : Heap) (n0 : Nat) (SB : own_Start Z s_REFINANCE_SUBORDINATED s_FORECLOSURE s_REFINANCE_SUBORDINATED1 s_BUYER_LOW_MODERATE_INCOME s_FHA_ASSIGNMENT s_SALE s_FORECLOSURE1 s_DEED_IN_LIEU s_DEATH s_DEATH1 s_REFINANCE s_DEED_IN_LIEU1 s_FHA_ASSIGNMENT1) (O0 : Old Z n0 h0)  :
    oMet l Z yM0 method_3_code 1 (some (.object "com/example/lintel/lintel/RepaymentExemption")) ws ({ frames := 0, cells := 0, slots := 0, locals := 0 } : Room) 0 0 #[(.int i_)] h0 (own_Q_exemption Z s_REFINANCE_SUBORDINATED s_FORECLOSURE s_REFINANCE_SUBORDINATED1 s_BUYER_LOW_MODERATE_INCOME s_FHA_ASSIGNMENT s_SALE s_FORECLOSURE1 s_DEED_IN_LIEU s_DEATH s_DEATH1 s_REFINANCE s_DEED_IN_LIEU1 s_FHA_ASSIGNMENT1 i_ h0 n0) := by
  refine oenter own_pn0 #[.val (.int i_)] (fun m => by first | (simp [entryFrame, mkF, argsToLocals, Value.category]; done) | rfl) ?_
  intro p e s m below meth c s₁ X0 hx hZ hby hml hret hown0 hnm hlk e0
  have hown : s.vm.findClass "com/example/lintel/lintel/RepaymentExemptionCoversPinLaw" = some m.cls := hown0
  have N0 := Fr.nil n0
  obtain ⟨S_s_REFINANCE_SUBORDINATED, E_s_REFINANCE_SUBORDINATED, S_s_FORECLOSURE, E_s_FORECLOSURE, S_s_REFINANCE_SUBORDINATED1, E_s_REFINANCE_SUBORDINATED1, S_s_BUYER_LOW_MODERATE_INCOME, E_s_BUYER_LOW_MODERATE_INCOME, S_s_FHA_ASSIGNMENT, E_s_FHA_ASSIGNMENT, S_s_SALE, E_s_SALE, S_s_FORECLOSURE1, E_s_FORECLOSURE1, S_s_DEED_IN_LIEU, E_s_DEED_IN_LIEU, S_s_DEATH, E_s_DEATH, S_s_DEATH1, E_s_DEATH1, S_s_REFINANCE, E_s_REFINANCE, S_s_DEED_IN_LIEU1, E_s_DEED_IN_LIEU1, S_s_FHA_ASSIGNMENT1, E_s_FHA_ASSIGNMENT1, F_s_REFINANCE_SUBORDINATED_event, F_s_REFINANCE_SUBORDINATED1_ordinal, F_s_FORECLOSURE_ordinal, F_s_BUYER_LOW_MODERATE_INCOME_event, F_s_SALE_ordinal, F_s_FHA_ASSIGNMENT_ordinal, F_s_FORECLOSURE1_event, F_s_DEED_IN_LIEU_ordinal, F_s_DEATH_event, F_s_DEATH1_ordinal, F_s_REFINANCE_ordinal, F_s_DEED_IN_LIEU1_event, F_s_FHA_ASSIGNMENT1_event, F_s_REFINANCE_SUBORDINATED_byBuyersIncome, F_s_FHA_ASSIGNMENT1_byBuyersIncome, F_s_FORECLOSURE1_byBuyersIncome, F_s_BUYER_LOW_MODERATE_INCOME_byBuyersIncome, F_s_DEED_IN_LIEU1_byBuyersIncome, F_s_DEATH_byBuyersIncome⟩ := (id SB)
  have w5 := hw _ (List.mem_of_getElem? (i := 5) rfl)
  have w25 := hw _ (List.mem_of_getElem? (i := 25) rfl)
  have w30 := hw _ (List.mem_of_getElem? (i := 30) rfl)
  have w34 := hw _ (List.mem_of_getElem? (i := 34) rfl)
  have w41 := hw _ (List.mem_of_getElem? (i := 41) rfl)
  have w43 := hw _ (List.mem_of_getElem? (i := 43) rfl)
  refine o_iloadN X0 hx (hb hby d1_0) rfl ?_
  by_cases hc1 : i_ = (0 : Int32)
  · refine o_ifNo X0 hx (hb hby d1_1) (teq hc1).2 ?_
    obtain ⟨T2, X2, e2, st2⟩ := getS2 X0 hx hZ hown (host := "") (Or.inl w5) Via.refl e0 (Sta.ext O0.2 S_s_REFINANCE_SUBORDINATED) (g := (mkF m 4 #[.val (.int i_)] [])) rfl (hb hby d1_4)
    refine ogo (S' := T2.setTop (mkF m 7 #[.val (.int i_)] [(.ref s_REFINANCE_SUBORDINATED)])) st2 ?_
    refine oend X2 hlk (v := some (.ref s_REFINANCE_SUBORDINATED)) (fun h => by rw [hret] at h; cases h) (fun fs hr => retOut X2 hx (t := (.object "com/example/lintel/lintel/RepaymentExemption")) (i := .areturn) hret rfl (Or.inr (Or.inr (Or.inr (Or.inr ⟨rfl, rfl, rfl⟩)))) (hb hby d1_7) hr) (by decide) (by decide) ?_
    show own_Q_exemption Z _ _ _ _ _ _ _ _ _ _ _ _ _ _ h0 n0 _ T2.heap _
    rw [e2]
    refine ⟨?_, N0, rfl⟩
    simp [own_exm, hc1]
  · refine o_ifYes X0 hx 8 (hb hby d1_1) (feq hc1).2 (by decide) (by decide) ?_
    refine o_iloadN X0 hx (hb hby d1_8) rfl ?_
    refine o_iconst X0 hx (1 : Int32) (hb hby d1_9) rfl ?_
    by_cases hc3 : i_ = (1 : Int32)
    · refine o_icmpNo X0 hx (hb hby d1_10) (teq hc3).2 ?_
      obtain ⟨T4, X4, e4, st4⟩ := getS2 X0 hx hZ hown (host := "") (Or.inl w25) Via.refl e0 (Sta.ext O0.2 S_s_BUYER_LOW_MODERATE_INCOME) (g := (mkF m 13 #[.val (.int i_)] [])) rfl (hb hby d1_13)
      refine ogo (S' := T4.setTop (mkF m 16 #[.val (.int i_)] [(.ref s_BUYER_LOW_MODERATE_INCOME)])) st4 ?_
      refine oend X4 hlk (v := some (.ref s_BUYER_LOW_MODERATE_INCOME)) (fun h => by rw [hret] at h; cases h) (fun fs hr => retOut X4 hx (t := (.object "com/example/lintel/lintel/RepaymentExemption")) (i := .areturn) hret rfl (Or.inr (Or.inr (Or.inr (Or.inr ⟨rfl, rfl, rfl⟩)))) (hb hby d1_16) hr) (by decide) (by decide) ?_
      show own_Q_exemption Z _ _ _ _ _ _ _ _ _ _ _ _ _ _ h0 n0 _ T4.heap _
      rw [e4]
      refine ⟨?_, N0, rfl⟩
      simp [own_exm, hc1, hc3]
    · refine o_icmpYes X0 hx 17 (hb hby d1_10) (feq hc3).2 (by decide) (by decide) ?_
      refine o_iloadN X0 hx (hb hby d1_17) rfl ?_
      refine o_iconst X0 hx (2 : Int32) (hb hby d1_18) rfl ?_
      by_cases hc5 : i_ = (2 : Int32)
      · refine o_icmpNo X0 hx (hb hby d1_19) (teq hc5).2 ?_
        obtain ⟨T6, X6, e6, st6⟩ := getS2 X0 hx hZ hown (host := "") (Or.inl w30) Via.refl e0 (Sta.ext O0.2 S_s_FORECLOSURE1) (g := (mkF m 22 #[.val (.int i_)] [])) rfl (hb hby d1_22)
        refine ogo (S' := T6.setTop (mkF m 25 #[.val (.int i_)] [(.ref s_FORECLOSURE1)])) st6 ?_
        refine oend X6 hlk (v := some (.ref s_FORECLOSURE1)) (fun h => by rw [hret] at h; cases h) (fun fs hr => retOut X6 hx (t := (.object "com/example/lintel/lintel/RepaymentExemption")) (i := .areturn) hret rfl (Or.inr (Or.inr (Or.inr (Or.inr ⟨rfl, rfl, rfl⟩)))) (hb hby d1_25) hr) (by decide) (by decide) ?_
        show own_Q_exemption Z _ _ _ _ _ _ _ _ _ _ _ _ _ _ h0 n0 _ T6.heap _
        rw [e6]
        refine ⟨?_, N0, rfl⟩
        simp [own_exm, hc1, hc3, hc5]
      · refine o_icmpYes X0 hx 26 (hb hby d1_19) (feq hc5).2 (by decide) (by decide) ?_
        refine o_iloadN X0 hx (hb hby d1_26) rfl ?_
        refine o_iconst X0 hx (3 : Int32) (hb hby d1_27) rfl ?_
        by_cases hc7 : i_ = (3 : Int32)
        · refine o_icmpNo X0 hx (hb hby d1_28) (teq hc7).2 ?_
          obtain ⟨T8, X8, e8, st8⟩ := getS2 X0 hx hZ hown (host := "") (Or.inl w41) Via.refl e0 (Sta.ext O0.2 S_s_DEED_IN_LIEU1) (g := (mkF m 31 #[.val (.int i_)] [])) rfl (hb hby d1_31)
          refine ogo (S' := T8.setTop (mkF m 34 #[.val (.int i_)] [(.ref s_DEED_IN_LIEU1)])) st8 ?_
          refine oend X8 hlk (v := some (.ref s_DEED_IN_LIEU1)) (fun h => by rw [hret] at h; cases h) (fun fs hr => retOut X8 hx (t := (.object "com/example/lintel/lintel/RepaymentExemption")) (i := .areturn) hret rfl (Or.inr (Or.inr (Or.inr (Or.inr ⟨rfl, rfl, rfl⟩)))) (hb hby d1_34) hr) (by decide) (by decide) ?_
          show own_Q_exemption Z _ _ _ _ _ _ _ _ _ _ _ _ _ _ h0 n0 _ T8.heap _
          rw [e8]
          refine ⟨?_, N0, rfl⟩
          simp [own_exm, hc1, hc3, hc5, hc7]
        · refine o_icmpYes X0 hx 35 (hb hby d1_28) (feq hc7).2 (by decide) (by decide) ?_
          refine o_iloadN X0 hx (hb hby d1_35) rfl ?_
          refine o_iconst X0 hx (4 : Int32) (hb hby d1_36) rfl ?_
          by_cases hc9 : i_ = (4 : Int32)
          · refine o_icmpNo X0 hx (hb hby d1_37) (teq hc9).2 ?_
            obtain ⟨T10, X10, e10, st10⟩ := getS2 X0 hx hZ hown (host := "") (Or.inl w43) Via.refl e0 (Sta.ext O0.2 S_s_FHA_ASSIGNMENT1) (g := (mkF m 40 #[.val (.int i_)] [])) rfl (hb hby d1_40)
            refine ogo (S' := T10.setTop (mkF m 43 #[.val (.int i_)] [(.ref s_FHA_ASSIGNMENT1)])) st10 ?_
            refine oend X10 hlk (v := some (.ref s_FHA_ASSIGNMENT1)) (fun h => by rw [hret] at h; cases h) (fun fs hr => retOut X10 hx (t := (.object "com/example/lintel/lintel/RepaymentExemption")) (i := .areturn) hret rfl (Or.inr (Or.inr (Or.inr (Or.inr ⟨rfl, rfl, rfl⟩)))) (hb hby d1_43) hr) (by decide) (by decide) ?_
            show own_Q_exemption Z _ _ _ _ _ _ _ _ _ _ _ _ _ _ h0 n0 _ T10.heap _
            rw [e10]
            refine ⟨?_, N0, rfl⟩
            simp [own_exm, hc1, hc3, hc5, hc7, hc9]
          · refine o_icmpYes X0 hx 44 (hb hby d1_37) (feq hc9).2 (by decide) (by decide) ?_
            obtain ⟨T11, X11, e11, st11⟩ := getS2 X0 hx hZ hown (host := "") (Or.inl w34) Via.refl e0 (Sta.ext O0.2 S_s_DEATH) (g := (mkF m 44 #[.val (.int i_)] [])) rfl (hb hby d1_44)
            refine ogo (S' := T11.setTop (mkF m 47 #[.val (.int i_)] [(.ref s_DEATH)])) st11 ?_
            refine oend X11 hlk (v := some (.ref s_DEATH)) (fun h => by rw [hret] at h; cases h) (fun fs hr => retOut X11 hx (t := (.object "com/example/lintel/lintel/RepaymentExemption")) (i := .areturn) hret rfl (Or.inr (Or.inr (Or.inr (Or.inr ⟨rfl, rfl, rfl⟩)))) (hb hby d1_47) hr) (by decide) (by decide) ?_
            show own_Q_exemption Z _ _ _ _ _ _ _ _ _ _ _ _ _ _ h0 n0 _ T11.heap _
            rw [e11]
            refine ⟨?_, N0, rfl⟩
            simp [own_exm, hc1, hc3, hc5, hc7, hc9]
theorem d2_0 : decode method_4_code 0 = .ok (.iload_n 0, 1) := by decide +kernel
theorem d2_1 : decode method_4_code 1 = .ok (.ifCond .ne 7, 3) := by decide +kernel
theorem d2_4 : decode method_4_code 4 = .ok (.getstatic 47, 3) := by decide +kernel
theorem d2_7 : decode method_4_code 7 = .ok (.areturn, 1) := by decide +kernel
theorem d2_8 : decode method_4_code 8 = .ok (.iload_n 0, 1) := by decide +kernel
theorem d2_9 : decode method_4_code 9 = .ok (.iconst 1, 1) := by decide +kernel
theorem d2_10 : decode method_4_code 10 = .ok (.if_icmp .ne 7, 3) := by decide +kernel
theorem d2_13 : decode method_4_code 13 = .ok (.getstatic 53, 3) := by decide +kernel
theorem d2_16 : decode method_4_code 16 = .ok (.areturn, 1) := by decide +kernel
theorem d2_17 : decode method_4_code 17 = .ok (.iload_n 0, 1) := by decide +kernel
theorem d2_18 : decode method_4_code 18 = .ok (.iconst 2, 1) := by decide +kernel
theorem d2_19 : decode method_4_code 19 = .ok (.if_icmp .ne 7, 3) := by decide +kernel
theorem d2_22 : decode method_4_code 22 = .ok (.getstatic 56, 3) := by decide +kernel
theorem d2_25 : decode method_4_code 25 = .ok (.areturn, 1) := by decide +kernel
theorem d2_26 : decode method_4_code 26 = .ok (.iload_n 0, 1) := by decide +kernel
theorem d2_27 : decode method_4_code 27 = .ok (.iconst 3, 1) := by decide +kernel
theorem d2_28 : decode method_4_code 28 = .ok (.if_icmp .ne 7, 3) := by decide +kernel
theorem d2_31 : decode method_4_code 31 = .ok (.getstatic 58, 3) := by decide +kernel
theorem d2_34 : decode method_4_code 34 = .ok (.areturn, 1) := by decide +kernel
theorem d2_35 : decode method_4_code 35 = .ok (.iload_n 0, 1) := by decide +kernel
theorem d2_36 : decode method_4_code 36 = .ok (.iconst 4, 1) := by decide +kernel
theorem d2_37 : decode method_4_code 37 = .ok (.if_icmp .ne 7, 3) := by decide +kernel
theorem d2_40 : decode method_4_code 40 = .ok (.getstatic 60, 3) := by decide +kernel
theorem d2_43 : decode method_4_code 43 = .ok (.areturn, 1) := by decide +kernel
theorem d2_44 : decode method_4_code 44 = .ok (.iload_n 0, 1) := by decide +kernel
theorem d2_45 : decode method_4_code 45 = .ok (.iconst 5, 1) := by decide +kernel
theorem d2_46 : decode method_4_code 46 = .ok (.if_icmp .ne 7, 3) := by decide +kernel
theorem d2_49 : decode method_4_code 49 = .ok (.getstatic 62, 3) := by decide +kernel
theorem d2_52 : decode method_4_code 52 = .ok (.areturn, 1) := by decide +kernel
theorem d2_53 : decode method_4_code 53 = .ok (.getstatic 64, 3) := by decide +kernel
theorem d2_56 : decode method_4_code 56 = .ok (.areturn, 1) := by decide +kernel
def own_Q_event (Z : State) (s_REFINANCE_SUBORDINATED : Addr) (s_FORECLOSURE : Addr) (s_REFINANCE_SUBORDINATED1 : Addr) (s_BUYER_LOW_MODERATE_INCOME : Addr) (s_FHA_ASSIGNMENT : Addr) (s_SALE : Addr) (s_FORECLOSURE1 : Addr) (s_DEED_IN_LIEU : Addr) (s_DEATH : Addr) (s_DEATH1 : Addr) (s_REFINANCE : Addr) (s_DEED_IN_LIEU1 : Addr) (s_FHA_ASSIGNMENT1 : Addr) (i_ : Int32) (h0 : Heap) (n0 : Nat) (v : Option Value) (h : Heap) (L : List Loc) : Prop := (v = some (.ref (own_evt s_SALE s_REFINANCE s_REFINANCE_SUBORDINATED1 s_FORECLOSURE s_DEED_IN_LIEU s_FHA_ASSIGNMENT s_DEATH1 i_))) ∧ (Fr n0 L) ∧ (h = h0)
abbrev yM1 : MethodName := ⟨"com/example/lintel/lintel/RepaymentExemptionCoversPinLaw", "event", "(I)Lcom/example/lintel/lintel/RepaymentEvent;"⟩
set_option maxRecDepth 65536 in
set_option maxHeartbeats 40000000 in
theorem rm_event (l : Launch) (Z : State) (a0 : Array Value) (hw : ∀ d ∈ tables_1, d.before a0 Z = true) (ws : List Jvm.Cond) (s_REFINANCE_SUBORDINATED : Addr) (s_FORECLOSURE : Addr) (s_REFINANCE_SUBORDINATED1 : Addr) (s_BUYER_LOW_MODERATE_INCOME : Addr) (s_FHA_ASSIGNMENT : Addr) (s_SALE : Addr) (s_FORECLOSURE1 : Addr) (s_DEED_IN_LIEU : Addr) (s_DEATH : Addr) (s_DEATH1 : Addr) (s_REFINANCE : Addr) (s_DEED_IN_LIEU1 : Addr) (s_FHA_ASSIGNMENT1 : Addr) (i_ : Int32) (h0 : Heap) (n0 : Nat) (SB : own_Start Z s_REFINANCE_SUBORDINATED s_FORECLOSURE s_REFINANCE_SUBORDINATED1 s_BUYER_LOW_MODERATE_INCOME s_FHA_ASSIGNMENT s_SALE s_FORECLOSURE1 s_DEED_IN_LIEU s_DEATH s_DEATH1 s_REFINANCE s_DEED_IN_LIEU1 s_FHA_ASSIGNMENT1) (O0 : Old Z n0 h0)  :
    oMet l Z yM1 method_4_code 1 (some (.object "com/example/lintel/lintel/RepaymentEvent")) ws ({ frames := 0, cells := 0, slots := 0, locals := 0 } : Room) 0 0 #[(.int i_)] h0 (own_Q_event Z s_REFINANCE_SUBORDINATED s_FORECLOSURE s_REFINANCE_SUBORDINATED1 s_BUYER_LOW_MODERATE_INCOME s_FHA_ASSIGNMENT s_SALE s_FORECLOSURE1 s_DEED_IN_LIEU s_DEATH s_DEATH1 s_REFINANCE s_DEED_IN_LIEU1 s_FHA_ASSIGNMENT1 i_ h0 n0) := by
  refine oenter own_pn0 #[.val (.int i_)] (fun m => by first | (simp [entryFrame, mkF, argsToLocals, Value.category]; done) | rfl) ?_
  intro p e s m below meth c s₁ X0 hx hZ hby hml hret hown0 hnm hlk e0
  have hown : s.vm.findClass "com/example/lintel/lintel/RepaymentExemptionCoversPinLaw" = some m.cls := hown0
  have N0 := Fr.nil n0
  obtain ⟨S_s_REFINANCE_SUBORDINATED, E_s_REFINANCE_SUBORDINATED, S_s_FORECLOSURE, E_s_FORECLOSURE, S_s_REFINANCE_SUBORDINATED1, E_s_REFINANCE_SUBORDINATED1, S_s_BUYER_LOW_MODERATE_INCOME, E_s_BUYER_LOW_MODERATE_INCOME, S_s_FHA_ASSIGNMENT, E_s_FHA_ASSIGNMENT, S_s_SALE, E_s_SALE, S_s_FORECLOSURE1, E_s_FORECLOSURE1, S_s_DEED_IN_LIEU, E_s_DEED_IN_LIEU, S_s_DEATH, E_s_DEATH, S_s_DEATH1, E_s_DEATH1, S_s_REFINANCE, E_s_REFINANCE, S_s_DEED_IN_LIEU1, E_s_DEED_IN_LIEU1, S_s_FHA_ASSIGNMENT1, E_s_FHA_ASSIGNMENT1, F_s_REFINANCE_SUBORDINATED_event, F_s_REFINANCE_SUBORDINATED1_ordinal, F_s_FORECLOSURE_ordinal, F_s_BUYER_LOW_MODERATE_INCOME_event, F_s_SALE_ordinal, F_s_FHA_ASSIGNMENT_ordinal, F_s_FORECLOSURE1_event, F_s_DEED_IN_LIEU_ordinal, F_s_DEATH_event, F_s_DEATH1_ordinal, F_s_REFINANCE_ordinal, F_s_DEED_IN_LIEU1_event, F_s_FHA_ASSIGNMENT1_event, F_s_REFINANCE_SUBORDINATED_byBuyersIncome, F_s_FHA_ASSIGNMENT1_byBuyersIncome, F_s_FORECLOSURE1_byBuyersIncome, F_s_BUYER_LOW_MODERATE_INCOME_byBuyersIncome, F_s_DEED_IN_LIEU1_byBuyersIncome, F_s_DEATH_byBuyersIncome⟩ := (id SB)
  have w11 := hw _ (List.mem_of_getElem? (i := 11) rfl)
  have w27 := hw _ (List.mem_of_getElem? (i := 27) rfl)
  have w32 := hw _ (List.mem_of_getElem? (i := 32) rfl)
  have w37 := hw _ (List.mem_of_getElem? (i := 37) rfl)
  have w38 := hw _ (List.mem_of_getElem? (i := 38) rfl)
  have w39 := hw _ (List.mem_of_getElem? (i := 39) rfl)
  have w45 := hw _ (List.mem_of_getElem? (i := 45) rfl)
  refine o_iloadN X0 hx (hb hby d2_0) rfl ?_
  by_cases hc1 : i_ = (0 : Int32)
  · refine o_ifNo X0 hx (hb hby d2_1) (teq hc1).2 ?_
    obtain ⟨T2, X2, e2, st2⟩ := getS2 X0 hx hZ hown (host := "") (Or.inl w37) Via.refl e0 (Sta.ext O0.2 S_s_SALE) (g := (mkF m 4 #[.val (.int i_)] [])) rfl (hb hby d2_4)
    refine ogo (S' := T2.setTop (mkF m 7 #[.val (.int i_)] [(.ref s_SALE)])) st2 ?_
    refine oend X2 hlk (v := some (.ref s_SALE)) (fun h => by rw [hret] at h; cases h) (fun fs hr => retOut X2 hx (t := (.object "com/example/lintel/lintel/RepaymentEvent")) (i := .areturn) hret rfl (Or.inr (Or.inr (Or.inr (Or.inr ⟨rfl, rfl, rfl⟩)))) (hb hby d2_7) hr) (by decide) (by decide) ?_
    show own_Q_event Z _ _ _ _ _ _ _ _ _ _ _ _ _ _ h0 n0 _ T2.heap _
    rw [e2]
    refine ⟨?_, N0, rfl⟩
    simp [own_evt, hc1]
  · refine o_ifYes X0 hx 8 (hb hby d2_1) (feq hc1).2 (by decide) (by decide) ?_
    refine o_iloadN X0 hx (hb hby d2_8) rfl ?_
    refine o_iconst X0 hx (1 : Int32) (hb hby d2_9) rfl ?_
    by_cases hc3 : i_ = (1 : Int32)
    · refine o_icmpNo X0 hx (hb hby d2_10) (teq hc3).2 ?_
      obtain ⟨T4, X4, e4, st4⟩ := getS2 X0 hx hZ hown (host := "") (Or.inl w39) Via.refl e0 (Sta.ext O0.2 S_s_REFINANCE) (g := (mkF m 13 #[.val (.int i_)] [])) rfl (hb hby d2_13)
      refine ogo (S' := T4.setTop (mkF m 16 #[.val (.int i_)] [(.ref s_REFINANCE)])) st4 ?_
      refine oend X4 hlk (v := some (.ref s_REFINANCE)) (fun h => by rw [hret] at h; cases h) (fun fs hr => retOut X4 hx (t := (.object "com/example/lintel/lintel/RepaymentEvent")) (i := .areturn) hret rfl (Or.inr (Or.inr (Or.inr (Or.inr ⟨rfl, rfl, rfl⟩)))) (hb hby d2_16) hr) (by decide) (by decide) ?_
      show own_Q_event Z _ _ _ _ _ _ _ _ _ _ _ _ _ _ h0 n0 _ T4.heap _
      rw [e4]
      refine ⟨?_, N0, rfl⟩
      simp [own_evt, hc1, hc3]
    · refine o_icmpYes X0 hx 17 (hb hby d2_10) (feq hc3).2 (by decide) (by decide) ?_
      refine o_iloadN X0 hx (hb hby d2_17) rfl ?_
      refine o_iconst X0 hx (2 : Int32) (hb hby d2_18) rfl ?_
      by_cases hc5 : i_ = (2 : Int32)
      · refine o_icmpNo X0 hx (hb hby d2_19) (teq hc5).2 ?_
        obtain ⟨T6, X6, e6, st6⟩ := getS2 X0 hx hZ hown (host := "") (Or.inl w45) Via.refl e0 (Sta.ext O0.2 S_s_REFINANCE_SUBORDINATED1) (g := (mkF m 22 #[.val (.int i_)] [])) rfl (hb hby d2_22)
        refine ogo (S' := T6.setTop (mkF m 25 #[.val (.int i_)] [(.ref s_REFINANCE_SUBORDINATED1)])) st6 ?_
        refine oend X6 hlk (v := some (.ref s_REFINANCE_SUBORDINATED1)) (fun h => by rw [hret] at h; cases h) (fun fs hr => retOut X6 hx (t := (.object "com/example/lintel/lintel/RepaymentEvent")) (i := .areturn) hret rfl (Or.inr (Or.inr (Or.inr (Or.inr ⟨rfl, rfl, rfl⟩)))) (hb hby d2_25) hr) (by decide) (by decide) ?_
        show own_Q_event Z _ _ _ _ _ _ _ _ _ _ _ _ _ _ h0 n0 _ T6.heap _
        rw [e6]
        refine ⟨?_, N0, rfl⟩
        simp [own_evt, hc1, hc3, hc5]
      · refine o_icmpYes X0 hx 26 (hb hby d2_19) (feq hc5).2 (by decide) (by decide) ?_
        refine o_iloadN X0 hx (hb hby d2_26) rfl ?_
        refine o_iconst X0 hx (3 : Int32) (hb hby d2_27) rfl ?_
        by_cases hc7 : i_ = (3 : Int32)
        · refine o_icmpNo X0 hx (hb hby d2_28) (teq hc7).2 ?_
          obtain ⟨T8, X8, e8, st8⟩ := getS2 X0 hx hZ hown (host := "") (Or.inl w11) Via.refl e0 (Sta.ext O0.2 S_s_FORECLOSURE) (g := (mkF m 31 #[.val (.int i_)] [])) rfl (hb hby d2_31)
          refine ogo (S' := T8.setTop (mkF m 34 #[.val (.int i_)] [(.ref s_FORECLOSURE)])) st8 ?_
          refine oend X8 hlk (v := some (.ref s_FORECLOSURE)) (fun h => by rw [hret] at h; cases h) (fun fs hr => retOut X8 hx (t := (.object "com/example/lintel/lintel/RepaymentEvent")) (i := .areturn) hret rfl (Or.inr (Or.inr (Or.inr (Or.inr ⟨rfl, rfl, rfl⟩)))) (hb hby d2_34) hr) (by decide) (by decide) ?_
          show own_Q_event Z _ _ _ _ _ _ _ _ _ _ _ _ _ _ h0 n0 _ T8.heap _
          rw [e8]
          refine ⟨?_, N0, rfl⟩
          simp [own_evt, hc1, hc3, hc5, hc7]
        · refine o_icmpYes X0 hx 35 (hb hby d2_28) (feq hc7).2 (by decide) (by decide) ?_
          refine o_iloadN X0 hx (hb hby d2_35) rfl ?_
          refine o_iconst X0 hx (4 : Int32) (hb hby d2_36) rfl ?_
          by_cases hc9 : i_ = (4 : Int32)
          · refine o_icmpNo X0 hx (hb hby d2_37) (teq hc9).2 ?_
            obtain ⟨T10, X10, e10, st10⟩ := getS2 X0 hx hZ hown (host := "") (Or.inl w32) Via.refl e0 (Sta.ext O0.2 S_s_DEED_IN_LIEU) (g := (mkF m 40 #[.val (.int i_)] [])) rfl (hb hby d2_40)
            refine ogo (S' := T10.setTop (mkF m 43 #[.val (.int i_)] [(.ref s_DEED_IN_LIEU)])) st10 ?_
            refine oend X10 hlk (v := some (.ref s_DEED_IN_LIEU)) (fun h => by rw [hret] at h; cases h) (fun fs hr => retOut X10 hx (t := (.object "com/example/lintel/lintel/RepaymentEvent")) (i := .areturn) hret rfl (Or.inr (Or.inr (Or.inr (Or.inr ⟨rfl, rfl, rfl⟩)))) (hb hby d2_43) hr) (by decide) (by decide) ?_
            show own_Q_event Z _ _ _ _ _ _ _ _ _ _ _ _ _ _ h0 n0 _ T10.heap _
            rw [e10]
            refine ⟨?_, N0, rfl⟩
            simp [own_evt, hc1, hc3, hc5, hc7, hc9]
          · refine o_icmpYes X0 hx 44 (hb hby d2_37) (feq hc9).2 (by decide) (by decide) ?_
            refine o_iloadN X0 hx (hb hby d2_44) rfl ?_
            refine o_iconst X0 hx (5 : Int32) (hb hby d2_45) rfl ?_
            by_cases hc11 : i_ = (5 : Int32)
            · refine o_icmpNo X0 hx (hb hby d2_46) (teq hc11).2 ?_
              obtain ⟨T12, X12, e12, st12⟩ := getS2 X0 hx hZ hown (host := "") (Or.inl w27) Via.refl e0 (Sta.ext O0.2 S_s_FHA_ASSIGNMENT) (g := (mkF m 49 #[.val (.int i_)] [])) rfl (hb hby d2_49)
              refine ogo (S' := T12.setTop (mkF m 52 #[.val (.int i_)] [(.ref s_FHA_ASSIGNMENT)])) st12 ?_
              refine oend X12 hlk (v := some (.ref s_FHA_ASSIGNMENT)) (fun h => by rw [hret] at h; cases h) (fun fs hr => retOut X12 hx (t := (.object "com/example/lintel/lintel/RepaymentEvent")) (i := .areturn) hret rfl (Or.inr (Or.inr (Or.inr (Or.inr ⟨rfl, rfl, rfl⟩)))) (hb hby d2_52) hr) (by decide) (by decide) ?_
              show own_Q_event Z _ _ _ _ _ _ _ _ _ _ _ _ _ _ h0 n0 _ T12.heap _
              rw [e12]
              refine ⟨?_, N0, rfl⟩
              simp [own_evt, hc1, hc3, hc5, hc7, hc9, hc11]
            · refine o_icmpYes X0 hx 53 (hb hby d2_46) (feq hc11).2 (by decide) (by decide) ?_
              obtain ⟨T13, X13, e13, st13⟩ := getS2 X0 hx hZ hown (host := "") (Or.inl w38) Via.refl e0 (Sta.ext O0.2 S_s_DEATH1) (g := (mkF m 53 #[.val (.int i_)] [])) rfl (hb hby d2_53)
              refine ogo (S' := T13.setTop (mkF m 56 #[.val (.int i_)] [(.ref s_DEATH1)])) st13 ?_
              refine oend X13 hlk (v := some (.ref s_DEATH1)) (fun h => by rw [hret] at h; cases h) (fun fs hr => retOut X13 hx (t := (.object "com/example/lintel/lintel/RepaymentEvent")) (i := .areturn) hret rfl (Or.inr (Or.inr (Or.inr (Or.inr ⟨rfl, rfl, rfl⟩)))) (hb hby d2_56) hr) (by decide) (by decide) ?_
              show own_Q_event Z _ _ _ _ _ _ _ _ _ _ _ _ _ _ h0 n0 _ T13.heap _
              rw [e13]
              refine ⟨?_, N0, rfl⟩
              simp [own_evt, hc1, hc3, hc5, hc7, hc9, hc11]
theorem d3_0 : decode method_5_code 0 = .ok (.iload_n 0, 1) := by decide +kernel
theorem d3_1 : decode method_5_code 1 = .ok (.ifCond .ne 5, 3) := by decide +kernel
theorem d3_4 : decode method_5_code 4 = .ok (.iconst 2, 1) := by decide +kernel
theorem d3_5 : decode method_5_code 5 = .ok (.ireturn, 1) := by decide +kernel
theorem d3_6 : decode method_5_code 6 = .ok (.iload_n 0, 1) := by decide +kernel
theorem d3_7 : decode method_5_code 7 = .ok (.iconst 1, 1) := by decide +kernel
theorem d3_8 : decode method_5_code 8 = .ok (.if_icmp .ne 5, 3) := by decide +kernel
theorem d3_11 : decode method_5_code 11 = .ok (.iconst 0, 1) := by decide +kernel
theorem d3_12 : decode method_5_code 12 = .ok (.ireturn, 1) := by decide +kernel
theorem d3_13 : decode method_5_code 13 = .ok (.iload_n 0, 1) := by decide +kernel
theorem d3_14 : decode method_5_code 14 = .ok (.iconst 1, 1) := by decide +kernel
theorem d3_15 : decode method_5_code 15 = .ok (.iadd, 1) := by decide +kernel
theorem d3_16 : decode method_5_code 16 = .ok (.ireturn, 1) := by decide +kernel
def own_Q_coveredEvent (Z : State)  (i_ : Int32) (h0 : Heap) (n0 : Nat) (v : Option Value) (h : Heap) (L : List Loc) : Prop := (v = some (.int (own_cov i_))) ∧ (Fr n0 L) ∧ (h = h0)
abbrev yM2 : MethodName := ⟨"com/example/lintel/lintel/RepaymentExemptionCoversPinLaw", "coveredEvent", "(I)I"⟩
set_option maxRecDepth 65536 in
set_option maxHeartbeats 40000000 in
theorem rm_coveredEvent (l : Launch) (Z : State) (a0 : Array Value) (hw : ∀ d ∈ tables_1, d.before a0 Z = true) (ws : List Jvm.Cond)  (i_ : Int32) (h0 : Heap) (n0 : Nat) (O0 : Old Z n0 h0)  :
    oMet l Z yM2 method_5_code 1 (some .int) ws ({ frames := 0, cells := 0, slots := 0, locals := 0 } : Room) 0 0 #[(.int i_)] h0 (own_Q_coveredEvent Z  i_ h0 n0) := by
  refine oenter own_pn0 #[.val (.int i_)] (fun m => by first | (simp [entryFrame, mkF, argsToLocals, Value.category]; done) | rfl) ?_
  intro p e s m below meth c s₁ X0 hx hZ hby hml hret hown0 hnm hlk e0
  have hown : s.vm.findClass "com/example/lintel/lintel/RepaymentExemptionCoversPinLaw" = some m.cls := hown0
  have N0 := Fr.nil n0
  refine o_iloadN X0 hx (hb hby d3_0) rfl ?_
  by_cases hc1 : i_ = (0 : Int32)
  · refine o_ifNo X0 hx (hb hby d3_1) (teq hc1).2 ?_
    refine o_iconst X0 hx (2 : Int32) (hb hby d3_4) rfl ?_
    refine oend X0 hlk (v := some (.int (2 : Int32))) (fun h => by rw [hret] at h; cases h) (fun fs hr => retOut X0 hx (t := .int) (i := .ireturn) hret rfl (Or.inl ⟨rfl, Or.inl rfl, _, rfl⟩) (hb hby d3_5) hr) (by decide) (by decide) ?_
    show own_Q_coveredEvent Z _ h0 n0 _ s₁.heap _
    rw [e0]
    refine ⟨?_, N0, rfl⟩
    simp [own_cov, hc1]
  · refine o_ifYes X0 hx 6 (hb hby d3_1) (feq hc1).2 (by decide) (by decide) ?_
    refine o_iloadN X0 hx (hb hby d3_6) rfl ?_
    refine o_iconst X0 hx (1 : Int32) (hb hby d3_7) rfl ?_
    by_cases hc2 : i_ = (1 : Int32)
    · refine o_icmpNo X0 hx (hb hby d3_8) (teq hc2).2 ?_
      refine o_iconst X0 hx (0 : Int32) (hb hby d3_11) rfl ?_
      refine oend X0 hlk (v := some (.int (0 : Int32))) (fun h => by rw [hret] at h; cases h) (fun fs hr => retOut X0 hx (t := .int) (i := .ireturn) hret rfl (Or.inl ⟨rfl, Or.inl rfl, _, rfl⟩) (hb hby d3_12) hr) (by decide) (by decide) ?_
      show own_Q_coveredEvent Z _ h0 n0 _ s₁.heap _
      rw [e0]
      refine ⟨?_, N0, rfl⟩
      simp [own_cov, hc1, hc2]
    · refine o_icmpYes X0 hx 13 (hb hby d3_8) (feq hc2).2 (by decide) (by decide) ?_
      refine o_iloadN X0 hx (hb hby d3_13) rfl ?_
      refine o_iconst X0 hx (1 : Int32) (hb hby d3_14) rfl ?_
      refine o_iadd X0 hx (hb hby d3_15) ?_
      refine oend X0 hlk (v := some (.int (i_ + (1 : Int32)))) (fun h => by rw [hret] at h; cases h) (fun fs hr => retOut X0 hx (t := .int) (i := .ireturn) hret rfl (Or.inl ⟨rfl, Or.inl rfl, _, rfl⟩) (hb hby d3_16) hr) (by decide) (by decide) ?_
      show own_Q_coveredEvent Z _ h0 n0 _ s₁.heap _
      rw [e0]
      refine ⟨?_, N0, rfl⟩
      simp [own_cov, hc1, hc2]
theorem d4_0 : decode prog_28_method_5_code 0 = .ok (.aload_n 0, 1) := by decide +kernel
theorem d4_1 : decode prog_28_method_5_code 1 = .ok (.getfield 57, 3) := by decide +kernel
theorem d4_4 : decode prog_28_method_5_code 4 = .ok (.aload_n 1, 1) := by decide +kernel
theorem d4_5 : decode prog_28_method_5_code 5 = .ok (.if_acmp .ne 18, 3) := by decide +kernel
theorem d4_8 : decode prog_28_method_5_code 8 = .ok (.iload_n 2, 1) := by decide +kernel
theorem d4_9 : decode prog_28_method_5_code 9 = .ok (.ifCond .ne 10, 3) := by decide +kernel
theorem d4_12 : decode prog_28_method_5_code 12 = .ok (.aload_n 0, 1) := by decide +kernel
theorem d4_13 : decode prog_28_method_5_code 13 = .ok (.getfield 61, 3) := by decide +kernel
theorem d4_16 : decode prog_28_method_5_code 16 = .ok (.ifCond .ne 7, 3) := by decide +kernel
theorem d4_19 : decode prog_28_method_5_code 19 = .ok (.iconst 1, 1) := by decide +kernel
theorem d4_20 : decode prog_28_method_5_code 20 = .ok (.goto 4, 3) := by decide +kernel
theorem d4_24 : decode prog_28_method_5_code 24 = .ok (.ireturn, 1) := by decide +kernel
theorem d4_23 : decode prog_28_method_5_code 23 = .ok (.iconst 0, 1) := by decide +kernel
theorem own_pn1 : plainName "com/example/lintel/lintel/RepaymentExemption" = true := by first | (simp [plainName, overriddenIn]; done) | decide +kernel
def own_Q_covers (Z : State)  (x_ : Addr) (ev_ : Addr) (bu_ : Int32) (ex_ : Addr) (bi_ : Int32) (h0 : Heap) (n0 : Nat) (v : Option Value) (h : Heap) (L : List Loc) : Prop := (v = some (.int (own_cvs ex_ ev_ bu_ bi_))) ∧ (Fr n0 L) ∧ (h = h0)
abbrev yM3 : MethodName := ⟨"com/example/lintel/lintel/RepaymentExemption", "covers", "(Lcom/example/lintel/lintel/RepaymentEvent;Z)Z"⟩
set_option maxRecDepth 65536 in
set_option maxHeartbeats 40000000 in
theorem rm_covers (l : Launch) (Z : State) (a0 : Array Value) (hw : ∀ d ∈ tables_1, d.before a0 Z = true) (ws : List Jvm.Cond)  (x_ : Addr) (ev_ : Addr) (bu_ : Int32) (ex_ : Addr) (bi_ : Int32) (h0 : Heap) (n0 : Nat) (O0 : Old Z n0 h0) (pr0 : Fld Z h0 x_ "com/example/lintel/lintel/RepaymentExemption" "event" "Lcom/example/lintel/lintel/RepaymentEvent;" (.ref ex_)) (pr1 : Fld Z h0 x_ "com/example/lintel/lintel/RepaymentExemption" "byBuyersIncome" "Z" (.int bi_)) :
    oMet l Z yM3 prog_28_method_5_code 3 (some .boolean) ws ({ frames := 0, cells := 0, slots := 0, locals := 0 } : Room) 0 0 #[(.ref x_), (.ref ev_), (.int bu_)] h0 (own_Q_covers Z  x_ ev_ bu_ ex_ bi_ h0 n0) := by
  refine oenter own_pn1 #[.val (.ref x_), .val (.ref ev_), .val (.int bu_)] (fun m => by first | (simp [entryFrame, mkF, argsToLocals, Value.category]; done) | rfl) ?_
  intro p e s m below meth c s₁ X0 hx hZ hby hml hret hown0 hnm hlk e0
  have hown : s.vm.findClass "com/example/lintel/lintel/RepaymentExemption" = some m.cls := hown0
  have N0 := Fr.nil n0
  have w22 := hw _ (List.mem_of_getElem? (i := 22) rfl)
  have w46 := hw _ (List.mem_of_getElem? (i := 46) rfl)
  refine o_aloadN X0 hx (hb hby d4_0) rfl rfl ?_
  obtain ⟨T1, X1, e1, st1⟩ := getF X0 hx hZ hown (host := "") (Or.inl w22) Via.refl e0 pr0 (g := (mkF m 1 #[.val (.ref x_), .val (.ref ev_), .val (.int bu_)] [(.ref x_)])) rfl rfl (hb hby d4_1)
  refine ogo (S' := T1.setTop (mkF m 4 #[.val (.ref x_), .val (.ref ev_), .val (.int bu_)] [(.ref ex_)])) st1 ?_
  refine o_aloadN X1 hx (hb hby d4_4) rfl rfl ?_
  by_cases hc2 : ex_ = ev_
  · refine o_acmp X1 hx 8 true rfl rfl (hb hby d4_5) (decide_eq_true (congrArg Value.ref hc2)) (by decide) (by decide) ?_
    refine o_iloadN X1 hx (hb hby d4_8) rfl ?_
    by_cases hc3 : bu_ = (0 : Int32)
    · refine o_ifNo X1 hx (hb hby d4_9) (teq hc3).2 ?_
      refine o_aloadN X1 hx (hb hby d4_12) rfl rfl ?_
      obtain ⟨T4, X4, e4, st4⟩ := getF X1 hx hZ hown (host := "") (Or.inl w46) Via.refl e1 pr1 (g := (mkF m 13 #[.val (.ref x_), .val (.ref ev_), .val (.int bu_)] [(.ref x_)])) rfl rfl (hb hby d4_13)
      refine ogo (S' := T4.setTop (mkF m 16 #[.val (.ref x_), .val (.ref ev_), .val (.int bu_)] [(.int bi_)])) st4 ?_
      by_cases hc5 : bi_ = (0 : Int32)
      · refine o_ifNo X4 hx (hb hby d4_16) (teq hc5).2 ?_
        refine o_iconst X4 hx (1 : Int32) (hb hby d4_19) rfl ?_
        refine o_goto X4 hx 24 (hb hby d4_20) (by decide) (by decide) ?_
        refine oend X4 hlk (v := some (.int (1 : Int32))) (fun h => by rw [hret] at h; cases h) (fun fs hr => retN X4 hx (t := .boolean) hret (by simp) (hb hby d4_24) hr) (by decide) (by decide) ?_
        show own_Q_covers Z _ _ _ _ _ h0 n0 _ T4.heap _
        rw [e4]
        refine ⟨?_, N0, rfl⟩
        simp [own_cvs, hc2, hc3, hc5]
      · refine o_ifYes X4 hx 23 (hb hby d4_16) (feq hc5).2 (by decide) (by decide) ?_
        refine o_iconst X4 hx (0 : Int32) (hb hby d4_23) rfl ?_
        refine oend X4 hlk (v := some (.int (0 : Int32))) (fun h => by rw [hret] at h; cases h) (fun fs hr => retN X4 hx (t := .boolean) hret (by simp) (hb hby d4_24) hr) (by decide) (by decide) ?_
        show own_Q_covers Z _ _ _ _ _ h0 n0 _ T4.heap _
        rw [e4]
        refine ⟨?_, N0, rfl⟩
        simp [own_cvs, hc2, hc3, hc5]
    · refine o_ifYes X1 hx 19 (hb hby d4_9) (feq hc3).2 (by decide) (by decide) ?_
      refine o_iconst X1 hx (1 : Int32) (hb hby d4_19) rfl ?_
      refine o_goto X1 hx 24 (hb hby d4_20) (by decide) (by decide) ?_
      refine oend X1 hlk (v := some (.int (1 : Int32))) (fun h => by rw [hret] at h; cases h) (fun fs hr => retN X1 hx (t := .boolean) hret (by simp) (hb hby d4_24) hr) (by decide) (by decide) ?_
      show own_Q_covers Z _ _ _ _ _ h0 n0 _ T1.heap _
      rw [e1]
      refine ⟨?_, N0, rfl⟩
      simp [own_cvs, hc2, hc3]
  · refine o_acmp X1 hx 23 false rfl rfl (hb hby d4_5) (decide_eq_false fun q => hc2 (Value.ref.inj q)) (by decide) (by decide) ?_
    refine o_iconst X1 hx (0 : Int32) (hb hby d4_23) rfl ?_
    refine oend X1 hlk (v := some (.int (0 : Int32))) (fun h => by rw [hret] at h; cases h) (fun fs hr => retN X1 hx (t := .boolean) hret (by simp) (hb hby d4_24) hr) (by decide) (by decide) ?_
    show own_Q_covers Z _ _ _ _ _ h0 n0 _ T1.heap _
    rw [e1]
    refine ⟨?_, N0, rfl⟩
    simp [own_cvs, hc2]
theorem own_pd0 : parseMethodDescriptor "(I)Lcom/example/lintel/lintel/RepaymentExemption;" = some ⟨[.int], some (.object "com/example/lintel/lintel/RepaymentExemption")⟩ := by decide +kernel
theorem own_pd1 : parseMethodDescriptor "(I)Lcom/example/lintel/lintel/RepaymentEvent;" = some ⟨[.int], some (.object "com/example/lintel/lintel/RepaymentEvent")⟩ := by decide +kernel
theorem own_pd2 : parseMethodDescriptor "(I)I" = some ⟨[.int], some .int⟩ := by decide +kernel
theorem own_pd3 : parseMethodDescriptor "(Lcom/example/lintel/lintel/RepaymentEvent;Z)Z" = some ⟨[(.object "com/example/lintel/lintel/RepaymentEvent"), .boolean], some .boolean⟩ := by decide +kernel
def own_Q_law (Z : State) (s_REFINANCE_SUBORDINATED : Addr) (s_FORECLOSURE : Addr) (s_REFINANCE_SUBORDINATED1 : Addr) (s_BUYER_LOW_MODERATE_INCOME : Addr) (s_FHA_ASSIGNMENT : Addr) (s_SALE : Addr) (s_FORECLOSURE1 : Addr) (s_DEED_IN_LIEU : Addr) (s_DEATH : Addr) (s_DEATH1 : Addr) (s_REFINANCE : Addr) (s_DEED_IN_LIEU1 : Addr) (s_FHA_ASSIGNMENT1 : Addr) (a_ : Int32) (b_ : Int32) (c_ : Int32) (h0 : Heap) (n0 : Nat) (v : Option Value) (h : Heap) (L : List Loc) : Prop := (v = some (.int (1 : Int32))) ∧ (Fr n0 L) ∧ (h = h0)
set_option maxRecDepth 65536 in
set_option maxHeartbeats 40000000 in
theorem rm_law (l : Launch) (Z : State) (a0 : Array Value) (hw : ∀ d ∈ tables_1, d.before a0 Z = true) (ws : List Jvm.Cond) (s_REFINANCE_SUBORDINATED : Addr) (s_FORECLOSURE : Addr) (s_REFINANCE_SUBORDINATED1 : Addr) (s_BUYER_LOW_MODERATE_INCOME : Addr) (s_FHA_ASSIGNMENT : Addr) (s_SALE : Addr) (s_FORECLOSURE1 : Addr) (s_DEED_IN_LIEU : Addr) (s_DEATH : Addr) (s_DEATH1 : Addr) (s_REFINANCE : Addr) (s_DEED_IN_LIEU1 : Addr) (s_FHA_ASSIGNMENT1 : Addr) (a_ : Int32) (b_ : Int32) (c_ : Int32) (h0 : Heap) (n0 : Nat) (SB : own_Start Z s_REFINANCE_SUBORDINATED s_FORECLOSURE s_REFINANCE_SUBORDINATED1 s_BUYER_LOW_MODERATE_INCOME s_FHA_ASSIGNMENT s_SALE s_FORECLOSURE1 s_DEED_IN_LIEU s_DEATH s_DEATH1 s_REFINANCE s_DEED_IN_LIEU1 s_FHA_ASSIGNMENT1) (O0 : Old Z n0 h0)  :
    oMet l Z x code maxLocals ret ws room_1 0 0 #[(.int a_), (.int b_), (.int c_)] h0 (own_Q_law Z s_REFINANCE_SUBORDINATED s_FORECLOSURE s_REFINANCE_SUBORDINATED1 s_BUYER_LOW_MODERATE_INCOME s_FHA_ASSIGNMENT s_SALE s_FORECLOSURE1 s_DEED_IN_LIEU s_DEATH s_DEATH1 s_REFINANCE s_DEED_IN_LIEU1 s_FHA_ASSIGNMENT1 a_ b_ c_ h0 n0) := by
  refine oenter own_pn0 #[.val (.int a_), .val (.int b_), .val (.int c_), .unset, .unset, .unset, .unset, .unset, .unset] (fun m => by first | (simp [entryFrame, mkF, argsToLocals, Value.category, maxLocals]; done) | rfl) ?_
  intro p e s m below meth c s₁ X0 hx hZ hby hml hret hown0 hnm hlk e0
  have hown : s.vm.findClass "com/example/lintel/lintel/RepaymentExemptionCoversPinLaw" = some m.cls := hown0
  have N0 := Fr.nil n0
  obtain ⟨S_s_REFINANCE_SUBORDINATED, E_s_REFINANCE_SUBORDINATED, S_s_FORECLOSURE, E_s_FORECLOSURE, S_s_REFINANCE_SUBORDINATED1, E_s_REFINANCE_SUBORDINATED1, S_s_BUYER_LOW_MODERATE_INCOME, E_s_BUYER_LOW_MODERATE_INCOME, S_s_FHA_ASSIGNMENT, E_s_FHA_ASSIGNMENT, S_s_SALE, E_s_SALE, S_s_FORECLOSURE1, E_s_FORECLOSURE1, S_s_DEED_IN_LIEU, E_s_DEED_IN_LIEU, S_s_DEATH, E_s_DEATH, S_s_DEATH1, E_s_DEATH1, S_s_REFINANCE, E_s_REFINANCE, S_s_DEED_IN_LIEU1, E_s_DEED_IN_LIEU1, S_s_FHA_ASSIGNMENT1, E_s_FHA_ASSIGNMENT1, F_s_REFINANCE_SUBORDINATED_event, F_s_REFINANCE_SUBORDINATED1_ordinal, F_s_FORECLOSURE_ordinal, F_s_BUYER_LOW_MODERATE_INCOME_event, F_s_SALE_ordinal, F_s_FHA_ASSIGNMENT_ordinal, F_s_FORECLOSURE1_event, F_s_DEED_IN_LIEU_ordinal, F_s_DEATH_event, F_s_DEATH1_ordinal, F_s_REFINANCE_ordinal, F_s_DEED_IN_LIEU1_event, F_s_FHA_ASSIGNMENT1_event, F_s_REFINANCE_SUBORDINATED_byBuyersIncome, F_s_FHA_ASSIGNMENT1_byBuyersIncome, F_s_FORECLOSURE1_byBuyersIncome, F_s_BUYER_LOW_MODERATE_INCOME_byBuyersIncome, F_s_DEED_IN_LIEU1_byBuyersIncome, F_s_DEATH_byBuyersIncome⟩ := (id SB)
  have w0 := hw _ (List.mem_of_getElem? (i := 0) rfl)
  have w1 := hw _ (List.mem_of_getElem? (i := 1) rfl)
  have w2 := hw _ (List.mem_of_getElem? (i := 2) rfl)
  have w3 := hw _ (List.mem_of_getElem? (i := 3) rfl)
  have w4 := hw _ (List.mem_of_getElem? (i := 4) rfl)
  have w6 := hw _ (List.mem_of_getElem? (i := 6) rfl)
  have w8 := hw _ (List.mem_of_getElem? (i := 8) rfl)
  have w9 := hw _ (List.mem_of_getElem? (i := 9) rfl)
  have w10 := hw _ (List.mem_of_getElem? (i := 10) rfl)
  have w14 := hw _ (List.mem_of_getElem? (i := 14) rfl)
  have w15 := hw _ (List.mem_of_getElem? (i := 15) rfl)
  have w16 := hw _ (List.mem_of_getElem? (i := 16) rfl)
  have w17 := hw _ (List.mem_of_getElem? (i := 17) rfl)
  have w18 := hw _ (List.mem_of_getElem? (i := 18) rfl)
  have w19 := hw _ (List.mem_of_getElem? (i := 19) rfl)
  have w20 := hw _ (List.mem_of_getElem? (i := 20) rfl)
  have w21 := hw _ (List.mem_of_getElem? (i := 21) rfl)
  refine o_iloadN X0 hx (hb hby at_0) rfl ?_
  refine ogo (S' := s₁.setTop (mkF m 3 #[.val (.int a_), .val (.int b_), .val (.int c_), .unset, .unset, .unset, .unset, .unset, .unset] [(.int (2147483647 : Int32)), (.int a_)])) (X0.ldcInt hx hown (mvT hZ w0) (g := (mkF m 1 #[.val (.int a_), .val (.int b_), .val (.int c_), .unset, .unset, .unset, .unset, .unset, .unset] [(.int a_)])) rfl (hb hby at_1)) ?_
  refine o_iand X0 hx (hb hby at_3) ?_
  refine o_bipush X0 hx (6 : Int32) (hb hby at_4) rfl ?_
  refine o_irem X0 hx (hb hby at_6) (by decide) ?_
  refine o_istoreN X0 hx (l' := #[.val (.int a_), .val (.int b_), .val (.int c_), .val (.int ((a_ &&& (2147483647 : Int32)) % (6 : Int32))), .unset, .unset, .unset, .unset, .unset]) (hb hby at_7) rfl ?_
  rcases own_rem6 a_ with hs1 | hs1 | hs1 | hs1 | hs1 | hs1
  · rw [hs1]
    refine o_iloadN X0 hx (hb hby at_8) rfl ?_
    refine ogo (S' := s₁.setTop (mkF m 11 #[.val (.int a_), .val (.int b_), .val (.int c_), .val (.int (0 : Int32)), .unset, .unset, .unset, .unset, .unset] [(.int (2147483647 : Int32)), (.int b_)])) (X0.ldcInt hx hown (mvT hZ w0) (g := (mkF m 9 #[.val (.int a_), .val (.int b_), .val (.int c_), .val (.int (0 : Int32)), .unset, .unset, .unset, .unset, .unset] [(.int b_)])) rfl (hb hby at_9)) ?_
    refine o_iand X0 hx (hb hby at_11) ?_
    refine o_bipush X0 hx (7 : Int32) (hb hby at_12) rfl ?_
    refine o_irem X0 hx (hb hby at_14) (by decide) ?_
    refine o_istore X0 hx (l' := #[.val (.int a_), .val (.int b_), .val (.int c_), .val (.int (0 : Int32)), .val (.int ((b_ &&& (2147483647 : Int32)) % (7 : Int32))), .unset, .unset, .unset, .unset]) (hb hby at_15) rfl ?_
    refine o_iloadN X0 hx (hb hby at_17) rfl ?_
    refine o_iconst X0 hx (1 : Int32) (hb hby at_18) rfl ?_
    refine o_iand X0 hx (hb hby at_19) ?_
    by_cases hc2 : (c_ &&& (1 : Int32)) = (0 : Int32)
    · refine o_ifYes X0 hx 27 (hb hby at_20) (teq hc2).1 (by decide) (by decide) ?_
      refine o_iconst X0 hx (0 : Int32) (hb hby at_27) rfl ?_
      refine o_istore X0 hx (l' := #[.val (.int a_), .val (.int b_), .val (.int c_), .val (.int (0 : Int32)), .val (.int ((b_ &&& (2147483647 : Int32)) % (7 : Int32))), .val (.int (0 : Int32)), .unset, .unset, .unset]) (hb hby at_28) rfl ?_
      refine o_iloadN X0 hx (hb hby at_30) rfl ?_
      obtain ⟨_, _, ⟨T3, L3, kc3, n3⟩, -, X3, ⟨Lc3, hQ3, l3, y3, z3⟩, st3⟩ := Jvm.LawKit.callS X0 hx (y := yM0) hown (mvT hZ w1) (mvT hZ w2) (mvT hZ w3) (mvT hZ w4) (by decide) (backOf (W := 0) (rm_exemption l Z a0 hw [] s_REFINANCE_SUBORDINATED s_FORECLOSURE s_REFINANCE_SUBORDINATED1 s_BUYER_LOW_MODERATE_INCOME s_FHA_ASSIGNMENT s_SALE s_FORECLOSURE1 s_DEED_IN_LIEU s_DEATH s_DEATH1 s_REFINANCE s_DEED_IN_LIEU1 s_FHA_ASSIGNMENT1 (0 : Int32) h0 n0 SB O0 ) hZ w4 w3 (by decide) (by decide)) (g := (mkF m 31 #[.val (.int a_), .val (.int b_), .val (.int c_), .val (.int (0 : Int32)), .val (.int ((b_ &&& (2147483647 : Int32)) % (7 : Int32))), .val (.int (0 : Int32)), .unset, .unset, .unset] [(.int (0 : Int32))])) rfl (by rw [hml]; rfl) (argsL := [(.int (0 : Int32))]) (rest := []) (lenOf own_pd0 rfl) rfl (by show 2 * 0 + _ ≤ _; exact Nat.le_of_eq rfl) (hb hby at_31) (fun _ _ => ⟨rfl, e0, (by decide : 0 + 0 ≤ _), (by decide : 0 + 0 ≤ _)⟩)
      dsimp only [Pt.U, Pt.locs, Pt.cells, Pt.slots] at X3 l3 y3 z3 st3 hQ3
      subst l3 y3 z3
      obtain ⟨rfl, Nq3, e3⟩ := hQ3
      have N3 := Fr.app N0 Nq3
      refine ogo (S' := T3.setTop (mkF m 34 #[.val (.int a_), .val (.int b_), .val (.int c_), .val (.int (0 : Int32)), .val (.int ((b_ &&& (2147483647 : Int32)) % (7 : Int32))), .val (.int (0 : Int32)), .unset, .unset, .unset] [(.ref (own_exm s_REFINANCE_SUBORDINATED s_BUYER_LOW_MODERATE_INCOME s_FORECLOSURE1 s_DEED_IN_LIEU1 s_FHA_ASSIGNMENT1 s_DEATH (0 : Int32)))])) st3 ?_
      rw [show (own_exm s_REFINANCE_SUBORDINATED s_BUYER_LOW_MODERATE_INCOME s_FORECLOSURE1 s_DEED_IN_LIEU1 s_FHA_ASSIGNMENT1 s_DEATH (0 : Int32)) = s_REFINANCE_SUBORDINATED from by simp [own_exm]]
      refine o_astore X3 hx (l' := #[.val (.int a_), .val (.int b_), .val (.int c_), .val (.int (0 : Int32)), .val (.int ((b_ &&& (2147483647 : Int32)) % (7 : Int32))), .val (.int (0 : Int32)), .val (.ref s_REFINANCE_SUBORDINATED), .unset, .unset]) (hb hby at_34) rfl rfl ?_
      refine o_iload X3 hx (hb hby at_36) rfl ?_
      obtain ⟨_, _, ⟨T4, L4, kc4, n4⟩, -, X4, ⟨Lc4, hQ4, l4, y4, z4⟩, st4⟩ := Jvm.LawKit.callS X3 hx (y := yM1) hown (mvT hZ w8) (mvT hZ w9) (mvT hZ w3) (mvT hZ w10) (by decide) (backOf (W := 0) (rm_event l Z a0 hw [] s_REFINANCE_SUBORDINATED s_FORECLOSURE s_REFINANCE_SUBORDINATED1 s_BUYER_LOW_MODERATE_INCOME s_FHA_ASSIGNMENT s_SALE s_FORECLOSURE1 s_DEED_IN_LIEU s_DEATH s_DEATH1 s_REFINANCE s_DEED_IN_LIEU1 s_FHA_ASSIGNMENT1 ((b_ &&& (2147483647 : Int32)) % (7 : Int32)) h0 n0 SB O0 ) hZ w10 w3 (by decide) (by decide)) (g := (mkF m 38 #[.val (.int a_), .val (.int b_), .val (.int c_), .val (.int (0 : Int32)), .val (.int ((b_ &&& (2147483647 : Int32)) % (7 : Int32))), .val (.int (0 : Int32)), .val (.ref s_REFINANCE_SUBORDINATED), .unset, .unset] [(.int ((b_ &&& (2147483647 : Int32)) % (7 : Int32)))])) rfl (by rw [hml]; rfl) (argsL := [(.int ((b_ &&& (2147483647 : Int32)) % (7 : Int32)))]) (rest := []) (lenOf own_pd1 rfl) rfl (by show 2 * 0 + _ ≤ _; exact Nat.le_of_eq rfl) (hb hby at_38) (fun _ _ => ⟨rfl, e3, (by decide : 0 + 0 ≤ _), (by decide : 0 + 0 ≤ _)⟩)
      dsimp only [Pt.U, Pt.locs, Pt.cells, Pt.slots] at X4 l4 y4 z4 st4 hQ4
      subst l4 y4 z4
      obtain ⟨rfl, Nq4, e4⟩ := hQ4
      have N4 := Fr.app N3 Nq4
      refine ogo (S' := T4.setTop (mkF m 41 #[.val (.int a_), .val (.int b_), .val (.int c_), .val (.int (0 : Int32)), .val (.int ((b_ &&& (2147483647 : Int32)) % (7 : Int32))), .val (.int (0 : Int32)), .val (.ref s_REFINANCE_SUBORDINATED), .unset, .unset] [(.ref (own_evt s_SALE s_REFINANCE s_REFINANCE_SUBORDINATED1 s_FORECLOSURE s_DEED_IN_LIEU s_FHA_ASSIGNMENT s_DEATH1 ((b_ &&& (2147483647 : Int32)) % (7 : Int32))))])) st4 ?_
      refine o_astore X4 hx (l' := #[.val (.int a_), .val (.int b_), .val (.int c_), .val (.int (0 : Int32)), .val (.int ((b_ &&& (2147483647 : Int32)) % (7 : Int32))), .val (.int (0 : Int32)), .val (.ref s_REFINANCE_SUBORDINATED), .val (.ref (own_evt s_SALE s_REFINANCE s_REFINANCE_SUBORDINATED1 s_FORECLOSURE s_DEED_IN_LIEU s_FHA_ASSIGNMENT s_DEATH1 ((b_ &&& (2147483647 : Int32)) % (7 : Int32)))), .unset]) (hb hby at_41) rfl rfl ?_
      refine o_iload X4 hx (hb hby at_43) rfl ?_
      refine o_iloadN X4 hx (hb hby at_45) rfl ?_
      obtain ⟨_, _, ⟨T5, L5, kc5, n5⟩, -, X5, ⟨Lc5, hQ5, l5, y5, z5⟩, st5⟩ := Jvm.LawKit.callS X4 hx (y := yM2) hown (mvT hZ w14) (mvT hZ w15) (mvT hZ w3) (mvT hZ w16) (by decide) (backOf (W := 1) (rm_coveredEvent l Z a0 hw []  (0 : Int32) h0 n0 O0 ) hZ w16 w3 (by decide) (by decide)) (g := (mkF m 46 #[.val (.int a_), .val (.int b_), .val (.int c_), .val (.int (0 : Int32)), .val (.int ((b_ &&& (2147483647 : Int32)) % (7 : Int32))), .val (.int (0 : Int32)), .val (.ref s_REFINANCE_SUBORDINATED), .val (.ref (own_evt s_SALE s_REFINANCE s_REFINANCE_SUBORDINATED1 s_FORECLOSURE s_DEED_IN_LIEU s_FHA_ASSIGNMENT s_DEATH1 ((b_ &&& (2147483647 : Int32)) % (7 : Int32)))), .unset] [(.int (0 : Int32)), (.int ((b_ &&& (2147483647 : Int32)) % (7 : Int32)))])) rfl (by rw [hml]; rfl) (argsL := [(.int (0 : Int32))]) (rest := [(.int ((b_ &&& (2147483647 : Int32)) % (7 : Int32)))]) (lenOf own_pd2 rfl) rfl (by show 2 * 0 + _ ≤ _; exact Nat.le_of_eq rfl) (hb hby at_46) (fun _ _ => ⟨rfl, e4, (by decide : 0 + 0 ≤ _), (by decide : 0 + 0 ≤ _)⟩)
      dsimp only [Pt.U, Pt.locs, Pt.cells, Pt.slots] at X5 l5 y5 z5 st5 hQ5
      subst l5 y5 z5
      obtain ⟨rfl, Nq5, e5⟩ := hQ5
      have N5 := Fr.app N4 Nq5
      refine ogo (S' := T5.setTop (mkF m 49 #[.val (.int a_), .val (.int b_), .val (.int c_), .val (.int (0 : Int32)), .val (.int ((b_ &&& (2147483647 : Int32)) % (7 : Int32))), .val (.int (0 : Int32)), .val (.ref s_REFINANCE_SUBORDINATED), .val (.ref (own_evt s_SALE s_REFINANCE s_REFINANCE_SUBORDINATED1 s_FORECLOSURE s_DEED_IN_LIEU s_FHA_ASSIGNMENT s_DEATH1 ((b_ &&& (2147483647 : Int32)) % (7 : Int32)))), .unset] [(.int (own_cov (0 : Int32))), (.int ((b_ &&& (2147483647 : Int32)) % (7 : Int32)))])) st5 ?_
      rw [show (own_cov (0 : Int32)) = (2 : Int32) from by decide]
      by_cases hc6 : ((b_ &&& (2147483647 : Int32)) % (7 : Int32)) = (2 : Int32)
      · refine o_icmpNo X5 hx (hb hby at_49) (teq hc6).2 ?_
        refine o_iload X5 hx (hb hby at_52) rfl ?_
        refine o_ifNo X5 hx (hb hby at_54) (teq (by decide : (0 : Int32) = (0 : Int32))).2 ?_
        refine o_iloadN X5 hx (hb hby at_57) rfl ?_
        refine o_iconst X5 hx (1 : Int32) (hb hby at_58) rfl ?_
        refine o_icmpNo X5 hx (hb hby at_59) (feq (by decide : ¬ ((0 : Int32) = (1 : Int32)))).1 ?_
        refine o_iconst X5 hx (1 : Int32) (hb hby at_62) rfl ?_
        refine o_goto X5 hx 67 (hb hby at_63) (by decide) (by decide) ?_
        refine o_istore X5 hx (l' := #[.val (.int a_), .val (.int b_), .val (.int c_), .val (.int (0 : Int32)), .val (.int ((b_ &&& (2147483647 : Int32)) % (7 : Int32))), .val (.int (0 : Int32)), .val (.ref s_REFINANCE_SUBORDINATED), .val (.ref (own_evt s_SALE s_REFINANCE s_REFINANCE_SUBORDINATED1 s_FORECLOSURE s_DEED_IN_LIEU s_FHA_ASSIGNMENT s_DEATH1 ((b_ &&& (2147483647 : Int32)) % (7 : Int32)))), .val (.int (1 : Int32))]) (hb hby at_67) rfl ?_
        refine o_aload X5 hx (hb hby at_69) rfl rfl ?_
        refine o_aload X5 hx (hb hby at_71) rfl rfl ?_
        refine o_iload X5 hx (hb hby at_73) rfl ?_
        obtain ⟨cq7, kq7, q7a, q7b, q7c⟩ := isOf hZ e5 (Exa.ext O0.2 E_s_REFINANCE_SUBORDINATED)
        obtain ⟨_, _, ⟨T7, L7, kc7, n7⟩, -, X7, ⟨Lc7, hQ7, l7, y7, z7⟩, st7⟩ := X5.virtualBack hx (y := yM3) (z := yM3) hown (mvT hZ w17) (mvT hZ w18) (notFace_of_selects (args := #[]) (mvT hZ w20)) (mvT hZ w20) (mvT hZ w19) (by decide) (backOf (W := 0) (rm_covers l Z a0 hw []  s_REFINANCE_SUBORDINATED (own_evt s_SALE s_REFINANCE s_REFINANCE_SUBORDINATED1 s_FORECLOSURE s_DEED_IN_LIEU s_FHA_ASSIGNMENT s_DEATH1 ((b_ &&& (2147483647 : Int32)) % (7 : Int32))) (0 : Int32) s_REFINANCE_SUBORDINATED1 (0 : Int32) h0 n0 O0 (Fld.ext O0.2 F_s_REFINANCE_SUBORDINATED_event) (Fld.ext O0.2 F_s_REFINANCE_SUBORDINATED_byBuyersIncome)) hZ w21 w6 (by decide) (by decide)) q7a q7c (g := (mkF m 75 #[.val (.int a_), .val (.int b_), .val (.int c_), .val (.int (0 : Int32)), .val (.int ((b_ &&& (2147483647 : Int32)) % (7 : Int32))), .val (.int (0 : Int32)), .val (.ref s_REFINANCE_SUBORDINATED), .val (.ref (own_evt s_SALE s_REFINANCE s_REFINANCE_SUBORDINATED1 s_FORECLOSURE s_DEED_IN_LIEU s_FHA_ASSIGNMENT s_DEATH1 ((b_ &&& (2147483647 : Int32)) % (7 : Int32)))), .val (.int (1 : Int32))] [(.int (0 : Int32)), (.ref (own_evt s_SALE s_REFINANCE s_REFINANCE_SUBORDINATED1 s_FORECLOSURE s_DEED_IN_LIEU s_FHA_ASSIGNMENT s_DEATH1 ((b_ &&& (2147483647 : Int32)) % (7 : Int32)))), (.ref s_REFINANCE_SUBORDINATED)])) rfl (by rw [hml]; rfl) (Steps.refl _) (argsL := [(.ref (own_evt s_SALE s_REFINANCE s_REFINANCE_SUBORDINATED1 s_FORECLOSURE s_DEED_IN_LIEU s_FHA_ASSIGNMENT s_DEATH1 ((b_ &&& (2147483647 : Int32)) % (7 : Int32)))), (.int (0 : Int32))]) (rest := []) (lenOf own_pd3 rfl) rfl (by show 2 * 0 + _ ≤ _; exact Nat.le_of_eq rfl) (hb hby at_75) (fun _ _ => ⟨rfl, e5, (by decide : 0 + 0 ≤ _), (by decide : 0 + 0 ≤ _)⟩)
        dsimp only [Pt.U, Pt.locs, Pt.cells, Pt.slots] at X7 l7 y7 z7 st7 hQ7
        subst l7 y7 z7
        obtain ⟨rfl, Nq7, e7⟩ := hQ7
        have N7 := Fr.app N5 Nq7
        refine otr (S' := T7.setTop (mkF m 78 #[.val (.int a_), .val (.int b_), .val (.int c_), .val (.int (0 : Int32)), .val (.int ((b_ &&& (2147483647 : Int32)) % (7 : Int32))), .val (.int (0 : Int32)), .val (.ref s_REFINANCE_SUBORDINATED), .val (.ref (own_evt s_SALE s_REFINANCE s_REFINANCE_SUBORDINATED1 s_FORECLOSURE s_DEED_IN_LIEU s_FHA_ASSIGNMENT s_DEATH1 ((b_ &&& (2147483647 : Int32)) % (7 : Int32)))), .val (.int (1 : Int32))] [(.int (own_cvs s_REFINANCE_SUBORDINATED1 (own_evt s_SALE s_REFINANCE s_REFINANCE_SUBORDINATED1 s_FORECLOSURE s_DEED_IN_LIEU s_FHA_ASSIGNMENT s_DEATH1 ((b_ &&& (2147483647 : Int32)) % (7 : Int32))) (0 : Int32) (0 : Int32)))])) st7 ?_
        rw [show (own_cvs s_REFINANCE_SUBORDINATED1 (own_evt s_SALE s_REFINANCE s_REFINANCE_SUBORDINATED1 s_FORECLOSURE s_DEED_IN_LIEU s_FHA_ASSIGNMENT s_DEATH1 ((b_ &&& (2147483647 : Int32)) % (7 : Int32))) (0 : Int32) (0 : Int32)) = (1 : Int32) from by rw [hc6]; simp [own_cvs, own_evt]]
        refine o_iload X7 hx (hb hby at_78) rfl ?_
        refine o_icmpNo X7 hx (hb hby at_80) (teq (by decide : (1 : Int32) = (1 : Int32))).2 ?_
        refine o_iconst X7 hx (1 : Int32) (hb hby at_83) rfl ?_
        refine o_goto X7 hx 88 (hb hby at_84) (by decide) (by decide) ?_
        refine oend X7 hlk (v := some (.int (1 : Int32))) (fun h => by rw [hret] at h; cases h) (fun fs hr => retN X7 hx (t := .boolean) hret (by simp) (hb hby at_88) hr) (by decide) (by decide) ?_
        show own_Q_law Z _ _ _ _ _ _ _ _ _ _ _ _ _ _ _ _ h0 n0 _ T7.heap _
        rw [e7]
        exact ⟨rfl, N7, rfl⟩
      · refine o_icmpYes X5 hx 66 (hb hby at_49) (feq hc6).2 (by decide) (by decide) ?_
        refine o_iconst X5 hx (0 : Int32) (hb hby at_66) rfl ?_
        refine o_istore X5 hx (l' := #[.val (.int a_), .val (.int b_), .val (.int c_), .val (.int (0 : Int32)), .val (.int ((b_ &&& (2147483647 : Int32)) % (7 : Int32))), .val (.int (0 : Int32)), .val (.ref s_REFINANCE_SUBORDINATED), .val (.ref (own_evt s_SALE s_REFINANCE s_REFINANCE_SUBORDINATED1 s_FORECLOSURE s_DEED_IN_LIEU s_FHA_ASSIGNMENT s_DEATH1 ((b_ &&& (2147483647 : Int32)) % (7 : Int32)))), .val (.int (0 : Int32))]) (hb hby at_67) rfl ?_
        refine o_aload X5 hx (hb hby at_69) rfl rfl ?_
        refine o_aload X5 hx (hb hby at_71) rfl rfl ?_
        refine o_iload X5 hx (hb hby at_73) rfl ?_
        obtain ⟨cq8, kq8, q8a, q8b, q8c⟩ := isOf hZ e5 (Exa.ext O0.2 E_s_REFINANCE_SUBORDINATED)
        obtain ⟨_, _, ⟨T8, L8, kc8, n8⟩, -, X8, ⟨Lc8, hQ8, l8, y8, z8⟩, st8⟩ := X5.virtualBack hx (y := yM3) (z := yM3) hown (mvT hZ w17) (mvT hZ w18) (notFace_of_selects (args := #[]) (mvT hZ w20)) (mvT hZ w20) (mvT hZ w19) (by decide) (backOf (W := 0) (rm_covers l Z a0 hw []  s_REFINANCE_SUBORDINATED (own_evt s_SALE s_REFINANCE s_REFINANCE_SUBORDINATED1 s_FORECLOSURE s_DEED_IN_LIEU s_FHA_ASSIGNMENT s_DEATH1 ((b_ &&& (2147483647 : Int32)) % (7 : Int32))) (0 : Int32) s_REFINANCE_SUBORDINATED1 (0 : Int32) h0 n0 O0 (Fld.ext O0.2 F_s_REFINANCE_SUBORDINATED_event) (Fld.ext O0.2 F_s_REFINANCE_SUBORDINATED_byBuyersIncome)) hZ w21 w6 (by decide) (by decide)) q8a q8c (g := (mkF m 75 #[.val (.int a_), .val (.int b_), .val (.int c_), .val (.int (0 : Int32)), .val (.int ((b_ &&& (2147483647 : Int32)) % (7 : Int32))), .val (.int (0 : Int32)), .val (.ref s_REFINANCE_SUBORDINATED), .val (.ref (own_evt s_SALE s_REFINANCE s_REFINANCE_SUBORDINATED1 s_FORECLOSURE s_DEED_IN_LIEU s_FHA_ASSIGNMENT s_DEATH1 ((b_ &&& (2147483647 : Int32)) % (7 : Int32)))), .val (.int (0 : Int32))] [(.int (0 : Int32)), (.ref (own_evt s_SALE s_REFINANCE s_REFINANCE_SUBORDINATED1 s_FORECLOSURE s_DEED_IN_LIEU s_FHA_ASSIGNMENT s_DEATH1 ((b_ &&& (2147483647 : Int32)) % (7 : Int32)))), (.ref s_REFINANCE_SUBORDINATED)])) rfl (by rw [hml]; rfl) (Steps.refl _) (argsL := [(.ref (own_evt s_SALE s_REFINANCE s_REFINANCE_SUBORDINATED1 s_FORECLOSURE s_DEED_IN_LIEU s_FHA_ASSIGNMENT s_DEATH1 ((b_ &&& (2147483647 : Int32)) % (7 : Int32)))), (.int (0 : Int32))]) (rest := []) (lenOf own_pd3 rfl) rfl (by show 2 * 0 + _ ≤ _; exact Nat.le_of_eq rfl) (hb hby at_75) (fun _ _ => ⟨rfl, e5, (by decide : 0 + 0 ≤ _), (by decide : 0 + 0 ≤ _)⟩)
        dsimp only [Pt.U, Pt.locs, Pt.cells, Pt.slots] at X8 l8 y8 z8 st8 hQ8
        subst l8 y8 z8
        obtain ⟨rfl, Nq8, e8⟩ := hQ8
        have N8 := Fr.app N5 Nq8
        refine otr (S' := T8.setTop (mkF m 78 #[.val (.int a_), .val (.int b_), .val (.int c_), .val (.int (0 : Int32)), .val (.int ((b_ &&& (2147483647 : Int32)) % (7 : Int32))), .val (.int (0 : Int32)), .val (.ref s_REFINANCE_SUBORDINATED), .val (.ref (own_evt s_SALE s_REFINANCE s_REFINANCE_SUBORDINATED1 s_FORECLOSURE s_DEED_IN_LIEU s_FHA_ASSIGNMENT s_DEATH1 ((b_ &&& (2147483647 : Int32)) % (7 : Int32)))), .val (.int (0 : Int32))] [(.int (own_cvs s_REFINANCE_SUBORDINATED1 (own_evt s_SALE s_REFINANCE s_REFINANCE_SUBORDINATED1 s_FORECLOSURE s_DEED_IN_LIEU s_FHA_ASSIGNMENT s_DEATH1 ((b_ &&& (2147483647 : Int32)) % (7 : Int32))) (0 : Int32) (0 : Int32)))])) st8 ?_
        have ne78 := own_evne SB (own_rem7 b_) (c := (2 : Int32)) (by decide) hc6
        rw [show own_evt s_SALE s_REFINANCE s_REFINANCE_SUBORDINATED1 s_FORECLOSURE s_DEED_IN_LIEU s_FHA_ASSIGNMENT s_DEATH1 (2 : Int32) = s_REFINANCE_SUBORDINATED1 from by simp [own_evt]] at ne78
        rw [show (own_cvs s_REFINANCE_SUBORDINATED1 (own_evt s_SALE s_REFINANCE s_REFINANCE_SUBORDINATED1 s_FORECLOSURE s_DEED_IN_LIEU s_FHA_ASSIGNMENT s_DEATH1 ((b_ &&& (2147483647 : Int32)) % (7 : Int32))) (0 : Int32) (0 : Int32)) = (0 : Int32) from if_neg ne78]
        refine o_iload X8 hx (hb hby at_78) rfl ?_
        refine o_icmpNo X8 hx (hb hby at_80) (teq (by decide : (0 : Int32) = (0 : Int32))).2 ?_
        refine o_iconst X8 hx (1 : Int32) (hb hby at_83) rfl ?_
        refine o_goto X8 hx 88 (hb hby at_84) (by decide) (by decide) ?_
        refine oend X8 hlk (v := some (.int (1 : Int32))) (fun h => by rw [hret] at h; cases h) (fun fs hr => retN X8 hx (t := .boolean) hret (by simp) (hb hby at_88) hr) (by decide) (by decide) ?_
        show own_Q_law Z _ _ _ _ _ _ _ _ _ _ _ _ _ _ _ _ h0 n0 _ T8.heap _
        rw [e8]
        exact ⟨rfl, N8, rfl⟩
    · refine o_ifNo X0 hx (hb hby at_20) (feq hc2).1 ?_
      refine o_iconst X0 hx (1 : Int32) (hb hby at_23) rfl ?_
      refine o_goto X0 hx 28 (hb hby at_24) (by decide) (by decide) ?_
      refine o_istore X0 hx (l' := #[.val (.int a_), .val (.int b_), .val (.int c_), .val (.int (0 : Int32)), .val (.int ((b_ &&& (2147483647 : Int32)) % (7 : Int32))), .val (.int (1 : Int32)), .unset, .unset, .unset]) (hb hby at_28) rfl ?_
      refine o_iloadN X0 hx (hb hby at_30) rfl ?_
      obtain ⟨_, _, ⟨T9, L9, kc9, n9⟩, -, X9, ⟨Lc9, hQ9, l9, y9, z9⟩, st9⟩ := Jvm.LawKit.callS X0 hx (y := yM0) hown (mvT hZ w1) (mvT hZ w2) (mvT hZ w3) (mvT hZ w4) (by decide) (backOf (W := 0) (rm_exemption l Z a0 hw [] s_REFINANCE_SUBORDINATED s_FORECLOSURE s_REFINANCE_SUBORDINATED1 s_BUYER_LOW_MODERATE_INCOME s_FHA_ASSIGNMENT s_SALE s_FORECLOSURE1 s_DEED_IN_LIEU s_DEATH s_DEATH1 s_REFINANCE s_DEED_IN_LIEU1 s_FHA_ASSIGNMENT1 (0 : Int32) h0 n0 SB O0 ) hZ w4 w3 (by decide) (by decide)) (g := (mkF m 31 #[.val (.int a_), .val (.int b_), .val (.int c_), .val (.int (0 : Int32)), .val (.int ((b_ &&& (2147483647 : Int32)) % (7 : Int32))), .val (.int (1 : Int32)), .unset, .unset, .unset] [(.int (0 : Int32))])) rfl (by rw [hml]; rfl) (argsL := [(.int (0 : Int32))]) (rest := []) (lenOf own_pd0 rfl) rfl (by show 2 * 0 + _ ≤ _; exact Nat.le_of_eq rfl) (hb hby at_31) (fun _ _ => ⟨rfl, e0, (by decide : 0 + 0 ≤ _), (by decide : 0 + 0 ≤ _)⟩)
      dsimp only [Pt.U, Pt.locs, Pt.cells, Pt.slots] at X9 l9 y9 z9 st9 hQ9
      subst l9 y9 z9
      obtain ⟨rfl, Nq9, e9⟩ := hQ9
      have N9 := Fr.app N0 Nq9
      refine ogo (S' := T9.setTop (mkF m 34 #[.val (.int a_), .val (.int b_), .val (.int c_), .val (.int (0 : Int32)), .val (.int ((b_ &&& (2147483647 : Int32)) % (7 : Int32))), .val (.int (1 : Int32)), .unset, .unset, .unset] [(.ref (own_exm s_REFINANCE_SUBORDINATED s_BUYER_LOW_MODERATE_INCOME s_FORECLOSURE1 s_DEED_IN_LIEU1 s_FHA_ASSIGNMENT1 s_DEATH (0 : Int32)))])) st9 ?_
      rw [show (own_exm s_REFINANCE_SUBORDINATED s_BUYER_LOW_MODERATE_INCOME s_FORECLOSURE1 s_DEED_IN_LIEU1 s_FHA_ASSIGNMENT1 s_DEATH (0 : Int32)) = s_REFINANCE_SUBORDINATED from by simp [own_exm]]
      refine o_astore X9 hx (l' := #[.val (.int a_), .val (.int b_), .val (.int c_), .val (.int (0 : Int32)), .val (.int ((b_ &&& (2147483647 : Int32)) % (7 : Int32))), .val (.int (1 : Int32)), .val (.ref s_REFINANCE_SUBORDINATED), .unset, .unset]) (hb hby at_34) rfl rfl ?_
      refine o_iload X9 hx (hb hby at_36) rfl ?_
      obtain ⟨_, _, ⟨T10, L10, kc10, n10⟩, -, X10, ⟨Lc10, hQ10, l10, y10, z10⟩, st10⟩ := Jvm.LawKit.callS X9 hx (y := yM1) hown (mvT hZ w8) (mvT hZ w9) (mvT hZ w3) (mvT hZ w10) (by decide) (backOf (W := 0) (rm_event l Z a0 hw [] s_REFINANCE_SUBORDINATED s_FORECLOSURE s_REFINANCE_SUBORDINATED1 s_BUYER_LOW_MODERATE_INCOME s_FHA_ASSIGNMENT s_SALE s_FORECLOSURE1 s_DEED_IN_LIEU s_DEATH s_DEATH1 s_REFINANCE s_DEED_IN_LIEU1 s_FHA_ASSIGNMENT1 ((b_ &&& (2147483647 : Int32)) % (7 : Int32)) h0 n0 SB O0 ) hZ w10 w3 (by decide) (by decide)) (g := (mkF m 38 #[.val (.int a_), .val (.int b_), .val (.int c_), .val (.int (0 : Int32)), .val (.int ((b_ &&& (2147483647 : Int32)) % (7 : Int32))), .val (.int (1 : Int32)), .val (.ref s_REFINANCE_SUBORDINATED), .unset, .unset] [(.int ((b_ &&& (2147483647 : Int32)) % (7 : Int32)))])) rfl (by rw [hml]; rfl) (argsL := [(.int ((b_ &&& (2147483647 : Int32)) % (7 : Int32)))]) (rest := []) (lenOf own_pd1 rfl) rfl (by show 2 * 0 + _ ≤ _; exact Nat.le_of_eq rfl) (hb hby at_38) (fun _ _ => ⟨rfl, e9, (by decide : 0 + 0 ≤ _), (by decide : 0 + 0 ≤ _)⟩)
      dsimp only [Pt.U, Pt.locs, Pt.cells, Pt.slots] at X10 l10 y10 z10 st10 hQ10
      subst l10 y10 z10
      obtain ⟨rfl, Nq10, e10⟩ := hQ10
      have N10 := Fr.app N9 Nq10
      refine ogo (S' := T10.setTop (mkF m 41 #[.val (.int a_), .val (.int b_), .val (.int c_), .val (.int (0 : Int32)), .val (.int ((b_ &&& (2147483647 : Int32)) % (7 : Int32))), .val (.int (1 : Int32)), .val (.ref s_REFINANCE_SUBORDINATED), .unset, .unset] [(.ref (own_evt s_SALE s_REFINANCE s_REFINANCE_SUBORDINATED1 s_FORECLOSURE s_DEED_IN_LIEU s_FHA_ASSIGNMENT s_DEATH1 ((b_ &&& (2147483647 : Int32)) % (7 : Int32))))])) st10 ?_
      refine o_astore X10 hx (l' := #[.val (.int a_), .val (.int b_), .val (.int c_), .val (.int (0 : Int32)), .val (.int ((b_ &&& (2147483647 : Int32)) % (7 : Int32))), .val (.int (1 : Int32)), .val (.ref s_REFINANCE_SUBORDINATED), .val (.ref (own_evt s_SALE s_REFINANCE s_REFINANCE_SUBORDINATED1 s_FORECLOSURE s_DEED_IN_LIEU s_FHA_ASSIGNMENT s_DEATH1 ((b_ &&& (2147483647 : Int32)) % (7 : Int32)))), .unset]) (hb hby at_41) rfl rfl ?_
      refine o_iload X10 hx (hb hby at_43) rfl ?_
      refine o_iloadN X10 hx (hb hby at_45) rfl ?_
      obtain ⟨_, _, ⟨T11, L11, kc11, n11⟩, -, X11, ⟨Lc11, hQ11, l11, y11, z11⟩, st11⟩ := Jvm.LawKit.callS X10 hx (y := yM2) hown (mvT hZ w14) (mvT hZ w15) (mvT hZ w3) (mvT hZ w16) (by decide) (backOf (W := 1) (rm_coveredEvent l Z a0 hw []  (0 : Int32) h0 n0 O0 ) hZ w16 w3 (by decide) (by decide)) (g := (mkF m 46 #[.val (.int a_), .val (.int b_), .val (.int c_), .val (.int (0 : Int32)), .val (.int ((b_ &&& (2147483647 : Int32)) % (7 : Int32))), .val (.int (1 : Int32)), .val (.ref s_REFINANCE_SUBORDINATED), .val (.ref (own_evt s_SALE s_REFINANCE s_REFINANCE_SUBORDINATED1 s_FORECLOSURE s_DEED_IN_LIEU s_FHA_ASSIGNMENT s_DEATH1 ((b_ &&& (2147483647 : Int32)) % (7 : Int32)))), .unset] [(.int (0 : Int32)), (.int ((b_ &&& (2147483647 : Int32)) % (7 : Int32)))])) rfl (by rw [hml]; rfl) (argsL := [(.int (0 : Int32))]) (rest := [(.int ((b_ &&& (2147483647 : Int32)) % (7 : Int32)))]) (lenOf own_pd2 rfl) rfl (by show 2 * 0 + _ ≤ _; exact Nat.le_of_eq rfl) (hb hby at_46) (fun _ _ => ⟨rfl, e10, (by decide : 0 + 0 ≤ _), (by decide : 0 + 0 ≤ _)⟩)
      dsimp only [Pt.U, Pt.locs, Pt.cells, Pt.slots] at X11 l11 y11 z11 st11 hQ11
      subst l11 y11 z11
      obtain ⟨rfl, Nq11, e11⟩ := hQ11
      have N11 := Fr.app N10 Nq11
      refine ogo (S' := T11.setTop (mkF m 49 #[.val (.int a_), .val (.int b_), .val (.int c_), .val (.int (0 : Int32)), .val (.int ((b_ &&& (2147483647 : Int32)) % (7 : Int32))), .val (.int (1 : Int32)), .val (.ref s_REFINANCE_SUBORDINATED), .val (.ref (own_evt s_SALE s_REFINANCE s_REFINANCE_SUBORDINATED1 s_FORECLOSURE s_DEED_IN_LIEU s_FHA_ASSIGNMENT s_DEATH1 ((b_ &&& (2147483647 : Int32)) % (7 : Int32)))), .unset] [(.int (own_cov (0 : Int32))), (.int ((b_ &&& (2147483647 : Int32)) % (7 : Int32)))])) st11 ?_
      rw [show (own_cov (0 : Int32)) = (2 : Int32) from by decide]
      by_cases hc12 : ((b_ &&& (2147483647 : Int32)) % (7 : Int32)) = (2 : Int32)
      · refine o_icmpNo X11 hx (hb hby at_49) (teq hc12).2 ?_
        refine o_iload X11 hx (hb hby at_52) rfl ?_
        refine o_ifYes X11 hx 62 (hb hby at_54) (feq (by decide : ¬ ((1 : Int32) = (0 : Int32)))).2 (by decide) (by decide) ?_
        refine o_iconst X11 hx (1 : Int32) (hb hby at_62) rfl ?_
        refine o_goto X11 hx 67 (hb hby at_63) (by decide) (by decide) ?_
        refine o_istore X11 hx (l' := #[.val (.int a_), .val (.int b_), .val (.int c_), .val (.int (0 : Int32)), .val (.int ((b_ &&& (2147483647 : Int32)) % (7 : Int32))), .val (.int (1 : Int32)), .val (.ref s_REFINANCE_SUBORDINATED), .val (.ref (own_evt s_SALE s_REFINANCE s_REFINANCE_SUBORDINATED1 s_FORECLOSURE s_DEED_IN_LIEU s_FHA_ASSIGNMENT s_DEATH1 ((b_ &&& (2147483647 : Int32)) % (7 : Int32)))), .val (.int (1 : Int32))]) (hb hby at_67) rfl ?_
        refine o_aload X11 hx (hb hby at_69) rfl rfl ?_
        refine o_aload X11 hx (hb hby at_71) rfl rfl ?_
        refine o_iload X11 hx (hb hby at_73) rfl ?_
        obtain ⟨cq13, kq13, q13a, q13b, q13c⟩ := isOf hZ e11 (Exa.ext O0.2 E_s_REFINANCE_SUBORDINATED)
        obtain ⟨_, _, ⟨T13, L13, kc13, n13⟩, -, X13, ⟨Lc13, hQ13, l13, y13, z13⟩, st13⟩ := X11.virtualBack hx (y := yM3) (z := yM3) hown (mvT hZ w17) (mvT hZ w18) (notFace_of_selects (args := #[]) (mvT hZ w20)) (mvT hZ w20) (mvT hZ w19) (by decide) (backOf (W := 0) (rm_covers l Z a0 hw []  s_REFINANCE_SUBORDINATED (own_evt s_SALE s_REFINANCE s_REFINANCE_SUBORDINATED1 s_FORECLOSURE s_DEED_IN_LIEU s_FHA_ASSIGNMENT s_DEATH1 ((b_ &&& (2147483647 : Int32)) % (7 : Int32))) (1 : Int32) s_REFINANCE_SUBORDINATED1 (0 : Int32) h0 n0 O0 (Fld.ext O0.2 F_s_REFINANCE_SUBORDINATED_event) (Fld.ext O0.2 F_s_REFINANCE_SUBORDINATED_byBuyersIncome)) hZ w21 w6 (by decide) (by decide)) q13a q13c (g := (mkF m 75 #[.val (.int a_), .val (.int b_), .val (.int c_), .val (.int (0 : Int32)), .val (.int ((b_ &&& (2147483647 : Int32)) % (7 : Int32))), .val (.int (1 : Int32)), .val (.ref s_REFINANCE_SUBORDINATED), .val (.ref (own_evt s_SALE s_REFINANCE s_REFINANCE_SUBORDINATED1 s_FORECLOSURE s_DEED_IN_LIEU s_FHA_ASSIGNMENT s_DEATH1 ((b_ &&& (2147483647 : Int32)) % (7 : Int32)))), .val (.int (1 : Int32))] [(.int (1 : Int32)), (.ref (own_evt s_SALE s_REFINANCE s_REFINANCE_SUBORDINATED1 s_FORECLOSURE s_DEED_IN_LIEU s_FHA_ASSIGNMENT s_DEATH1 ((b_ &&& (2147483647 : Int32)) % (7 : Int32)))), (.ref s_REFINANCE_SUBORDINATED)])) rfl (by rw [hml]; rfl) (Steps.refl _) (argsL := [(.ref (own_evt s_SALE s_REFINANCE s_REFINANCE_SUBORDINATED1 s_FORECLOSURE s_DEED_IN_LIEU s_FHA_ASSIGNMENT s_DEATH1 ((b_ &&& (2147483647 : Int32)) % (7 : Int32)))), (.int (1 : Int32))]) (rest := []) (lenOf own_pd3 rfl) rfl (by show 2 * 0 + _ ≤ _; exact Nat.le_of_eq rfl) (hb hby at_75) (fun _ _ => ⟨rfl, e11, (by decide : 0 + 0 ≤ _), (by decide : 0 + 0 ≤ _)⟩)
        dsimp only [Pt.U, Pt.locs, Pt.cells, Pt.slots] at X13 l13 y13 z13 st13 hQ13
        subst l13 y13 z13
        obtain ⟨rfl, Nq13, e13⟩ := hQ13
        have N13 := Fr.app N11 Nq13
        refine otr (S' := T13.setTop (mkF m 78 #[.val (.int a_), .val (.int b_), .val (.int c_), .val (.int (0 : Int32)), .val (.int ((b_ &&& (2147483647 : Int32)) % (7 : Int32))), .val (.int (1 : Int32)), .val (.ref s_REFINANCE_SUBORDINATED), .val (.ref (own_evt s_SALE s_REFINANCE s_REFINANCE_SUBORDINATED1 s_FORECLOSURE s_DEED_IN_LIEU s_FHA_ASSIGNMENT s_DEATH1 ((b_ &&& (2147483647 : Int32)) % (7 : Int32)))), .val (.int (1 : Int32))] [(.int (own_cvs s_REFINANCE_SUBORDINATED1 (own_evt s_SALE s_REFINANCE s_REFINANCE_SUBORDINATED1 s_FORECLOSURE s_DEED_IN_LIEU s_FHA_ASSIGNMENT s_DEATH1 ((b_ &&& (2147483647 : Int32)) % (7 : Int32))) (1 : Int32) (0 : Int32)))])) st13 ?_
        rw [show (own_cvs s_REFINANCE_SUBORDINATED1 (own_evt s_SALE s_REFINANCE s_REFINANCE_SUBORDINATED1 s_FORECLOSURE s_DEED_IN_LIEU s_FHA_ASSIGNMENT s_DEATH1 ((b_ &&& (2147483647 : Int32)) % (7 : Int32))) (1 : Int32) (0 : Int32)) = (1 : Int32) from by rw [hc12]; simp [own_cvs, own_evt]]
        refine o_iload X13 hx (hb hby at_78) rfl ?_
        refine o_icmpNo X13 hx (hb hby at_80) (teq (by decide : (1 : Int32) = (1 : Int32))).2 ?_
        refine o_iconst X13 hx (1 : Int32) (hb hby at_83) rfl ?_
        refine o_goto X13 hx 88 (hb hby at_84) (by decide) (by decide) ?_
        refine oend X13 hlk (v := some (.int (1 : Int32))) (fun h => by rw [hret] at h; cases h) (fun fs hr => retN X13 hx (t := .boolean) hret (by simp) (hb hby at_88) hr) (by decide) (by decide) ?_
        show own_Q_law Z _ _ _ _ _ _ _ _ _ _ _ _ _ _ _ _ h0 n0 _ T13.heap _
        rw [e13]
        exact ⟨rfl, N13, rfl⟩
      · refine o_icmpYes X11 hx 66 (hb hby at_49) (feq hc12).2 (by decide) (by decide) ?_
        refine o_iconst X11 hx (0 : Int32) (hb hby at_66) rfl ?_
        refine o_istore X11 hx (l' := #[.val (.int a_), .val (.int b_), .val (.int c_), .val (.int (0 : Int32)), .val (.int ((b_ &&& (2147483647 : Int32)) % (7 : Int32))), .val (.int (1 : Int32)), .val (.ref s_REFINANCE_SUBORDINATED), .val (.ref (own_evt s_SALE s_REFINANCE s_REFINANCE_SUBORDINATED1 s_FORECLOSURE s_DEED_IN_LIEU s_FHA_ASSIGNMENT s_DEATH1 ((b_ &&& (2147483647 : Int32)) % (7 : Int32)))), .val (.int (0 : Int32))]) (hb hby at_67) rfl ?_
        refine o_aload X11 hx (hb hby at_69) rfl rfl ?_
        refine o_aload X11 hx (hb hby at_71) rfl rfl ?_
        refine o_iload X11 hx (hb hby at_73) rfl ?_
        obtain ⟨cq14, kq14, q14a, q14b, q14c⟩ := isOf hZ e11 (Exa.ext O0.2 E_s_REFINANCE_SUBORDINATED)
        obtain ⟨_, _, ⟨T14, L14, kc14, n14⟩, -, X14, ⟨Lc14, hQ14, l14, y14, z14⟩, st14⟩ := X11.virtualBack hx (y := yM3) (z := yM3) hown (mvT hZ w17) (mvT hZ w18) (notFace_of_selects (args := #[]) (mvT hZ w20)) (mvT hZ w20) (mvT hZ w19) (by decide) (backOf (W := 0) (rm_covers l Z a0 hw []  s_REFINANCE_SUBORDINATED (own_evt s_SALE s_REFINANCE s_REFINANCE_SUBORDINATED1 s_FORECLOSURE s_DEED_IN_LIEU s_FHA_ASSIGNMENT s_DEATH1 ((b_ &&& (2147483647 : Int32)) % (7 : Int32))) (1 : Int32) s_REFINANCE_SUBORDINATED1 (0 : Int32) h0 n0 O0 (Fld.ext O0.2 F_s_REFINANCE_SUBORDINATED_event) (Fld.ext O0.2 F_s_REFINANCE_SUBORDINATED_byBuyersIncome)) hZ w21 w6 (by decide) (by decide)) q14a q14c (g := (mkF m 75 #[.val (.int a_), .val (.int b_), .val (.int c_), .val (.int (0 : Int32)), .val (.int ((b_ &&& (2147483647 : Int32)) % (7 : Int32))), .val (.int (1 : Int32)), .val (.ref s_REFINANCE_SUBORDINATED), .val (.ref (own_evt s_SALE s_REFINANCE s_REFINANCE_SUBORDINATED1 s_FORECLOSURE s_DEED_IN_LIEU s_FHA_ASSIGNMENT s_DEATH1 ((b_ &&& (2147483647 : Int32)) % (7 : Int32)))), .val (.int (0 : Int32))] [(.int (1 : Int32)), (.ref (own_evt s_SALE s_REFINANCE s_REFINANCE_SUBORDINATED1 s_FORECLOSURE s_DEED_IN_LIEU s_FHA_ASSIGNMENT s_DEATH1 ((b_ &&& (2147483647 : Int32)) % (7 : Int32)))), (.ref s_REFINANCE_SUBORDINATED)])) rfl (by rw [hml]; rfl) (Steps.refl _) (argsL := [(.ref (own_evt s_SALE s_REFINANCE s_REFINANCE_SUBORDINATED1 s_FORECLOSURE s_DEED_IN_LIEU s_FHA_ASSIGNMENT s_DEATH1 ((b_ &&& (2147483647 : Int32)) % (7 : Int32)))), (.int (1 : Int32))]) (rest := []) (lenOf own_pd3 rfl) rfl (by show 2 * 0 + _ ≤ _; exact Nat.le_of_eq rfl) (hb hby at_75) (fun _ _ => ⟨rfl, e11, (by decide : 0 + 0 ≤ _), (by decide : 0 + 0 ≤ _)⟩)
        dsimp only [Pt.U, Pt.locs, Pt.cells, Pt.slots] at X14 l14 y14 z14 st14 hQ14
        subst l14 y14 z14
        obtain ⟨rfl, Nq14, e14⟩ := hQ14
        have N14 := Fr.app N11 Nq14
        refine otr (S' := T14.setTop (mkF m 78 #[.val (.int a_), .val (.int b_), .val (.int c_), .val (.int (0 : Int32)), .val (.int ((b_ &&& (2147483647 : Int32)) % (7 : Int32))), .val (.int (1 : Int32)), .val (.ref s_REFINANCE_SUBORDINATED), .val (.ref (own_evt s_SALE s_REFINANCE s_REFINANCE_SUBORDINATED1 s_FORECLOSURE s_DEED_IN_LIEU s_FHA_ASSIGNMENT s_DEATH1 ((b_ &&& (2147483647 : Int32)) % (7 : Int32)))), .val (.int (0 : Int32))] [(.int (own_cvs s_REFINANCE_SUBORDINATED1 (own_evt s_SALE s_REFINANCE s_REFINANCE_SUBORDINATED1 s_FORECLOSURE s_DEED_IN_LIEU s_FHA_ASSIGNMENT s_DEATH1 ((b_ &&& (2147483647 : Int32)) % (7 : Int32))) (1 : Int32) (0 : Int32)))])) st14 ?_
        have ne78 := own_evne SB (own_rem7 b_) (c := (2 : Int32)) (by decide) hc12
        rw [show own_evt s_SALE s_REFINANCE s_REFINANCE_SUBORDINATED1 s_FORECLOSURE s_DEED_IN_LIEU s_FHA_ASSIGNMENT s_DEATH1 (2 : Int32) = s_REFINANCE_SUBORDINATED1 from by simp [own_evt]] at ne78
        rw [show (own_cvs s_REFINANCE_SUBORDINATED1 (own_evt s_SALE s_REFINANCE s_REFINANCE_SUBORDINATED1 s_FORECLOSURE s_DEED_IN_LIEU s_FHA_ASSIGNMENT s_DEATH1 ((b_ &&& (2147483647 : Int32)) % (7 : Int32))) (1 : Int32) (0 : Int32)) = (0 : Int32) from if_neg ne78]
        refine o_iload X14 hx (hb hby at_78) rfl ?_
        refine o_icmpNo X14 hx (hb hby at_80) (teq (by decide : (0 : Int32) = (0 : Int32))).2 ?_
        refine o_iconst X14 hx (1 : Int32) (hb hby at_83) rfl ?_
        refine o_goto X14 hx 88 (hb hby at_84) (by decide) (by decide) ?_
        refine oend X14 hlk (v := some (.int (1 : Int32))) (fun h => by rw [hret] at h; cases h) (fun fs hr => retN X14 hx (t := .boolean) hret (by simp) (hb hby at_88) hr) (by decide) (by decide) ?_
        show own_Q_law Z _ _ _ _ _ _ _ _ _ _ _ _ _ _ _ _ h0 n0 _ T14.heap _
        rw [e14]
        exact ⟨rfl, N14, rfl⟩
  · rw [hs1]
    refine o_iloadN X0 hx (hb hby at_8) rfl ?_
    refine ogo (S' := s₁.setTop (mkF m 11 #[.val (.int a_), .val (.int b_), .val (.int c_), .val (.int (1 : Int32)), .unset, .unset, .unset, .unset, .unset] [(.int (2147483647 : Int32)), (.int b_)])) (X0.ldcInt hx hown (mvT hZ w0) (g := (mkF m 9 #[.val (.int a_), .val (.int b_), .val (.int c_), .val (.int (1 : Int32)), .unset, .unset, .unset, .unset, .unset] [(.int b_)])) rfl (hb hby at_9)) ?_
    refine o_iand X0 hx (hb hby at_11) ?_
    refine o_bipush X0 hx (7 : Int32) (hb hby at_12) rfl ?_
    refine o_irem X0 hx (hb hby at_14) (by decide) ?_
    refine o_istore X0 hx (l' := #[.val (.int a_), .val (.int b_), .val (.int c_), .val (.int (1 : Int32)), .val (.int ((b_ &&& (2147483647 : Int32)) % (7 : Int32))), .unset, .unset, .unset, .unset]) (hb hby at_15) rfl ?_
    refine o_iloadN X0 hx (hb hby at_17) rfl ?_
    refine o_iconst X0 hx (1 : Int32) (hb hby at_18) rfl ?_
    refine o_iand X0 hx (hb hby at_19) ?_
    by_cases hc15 : (c_ &&& (1 : Int32)) = (0 : Int32)
    · refine o_ifYes X0 hx 27 (hb hby at_20) (teq hc15).1 (by decide) (by decide) ?_
      refine o_iconst X0 hx (0 : Int32) (hb hby at_27) rfl ?_
      refine o_istore X0 hx (l' := #[.val (.int a_), .val (.int b_), .val (.int c_), .val (.int (1 : Int32)), .val (.int ((b_ &&& (2147483647 : Int32)) % (7 : Int32))), .val (.int (0 : Int32)), .unset, .unset, .unset]) (hb hby at_28) rfl ?_
      refine o_iloadN X0 hx (hb hby at_30) rfl ?_
      obtain ⟨_, _, ⟨T16, L16, kc16, n16⟩, -, X16, ⟨Lc16, hQ16, l16, y16, z16⟩, st16⟩ := Jvm.LawKit.callS X0 hx (y := yM0) hown (mvT hZ w1) (mvT hZ w2) (mvT hZ w3) (mvT hZ w4) (by decide) (backOf (W := 0) (rm_exemption l Z a0 hw [] s_REFINANCE_SUBORDINATED s_FORECLOSURE s_REFINANCE_SUBORDINATED1 s_BUYER_LOW_MODERATE_INCOME s_FHA_ASSIGNMENT s_SALE s_FORECLOSURE1 s_DEED_IN_LIEU s_DEATH s_DEATH1 s_REFINANCE s_DEED_IN_LIEU1 s_FHA_ASSIGNMENT1 (1 : Int32) h0 n0 SB O0 ) hZ w4 w3 (by decide) (by decide)) (g := (mkF m 31 #[.val (.int a_), .val (.int b_), .val (.int c_), .val (.int (1 : Int32)), .val (.int ((b_ &&& (2147483647 : Int32)) % (7 : Int32))), .val (.int (0 : Int32)), .unset, .unset, .unset] [(.int (1 : Int32))])) rfl (by rw [hml]; rfl) (argsL := [(.int (1 : Int32))]) (rest := []) (lenOf own_pd0 rfl) rfl (by show 2 * 0 + _ ≤ _; exact Nat.le_of_eq rfl) (hb hby at_31) (fun _ _ => ⟨rfl, e0, (by decide : 0 + 0 ≤ _), (by decide : 0 + 0 ≤ _)⟩)
      dsimp only [Pt.U, Pt.locs, Pt.cells, Pt.slots] at X16 l16 y16 z16 st16 hQ16
      subst l16 y16 z16
      obtain ⟨rfl, Nq16, e16⟩ := hQ16
      have N16 := Fr.app N0 Nq16
      refine ogo (S' := T16.setTop (mkF m 34 #[.val (.int a_), .val (.int b_), .val (.int c_), .val (.int (1 : Int32)), .val (.int ((b_ &&& (2147483647 : Int32)) % (7 : Int32))), .val (.int (0 : Int32)), .unset, .unset, .unset] [(.ref (own_exm s_REFINANCE_SUBORDINATED s_BUYER_LOW_MODERATE_INCOME s_FORECLOSURE1 s_DEED_IN_LIEU1 s_FHA_ASSIGNMENT1 s_DEATH (1 : Int32)))])) st16 ?_
      rw [show (own_exm s_REFINANCE_SUBORDINATED s_BUYER_LOW_MODERATE_INCOME s_FORECLOSURE1 s_DEED_IN_LIEU1 s_FHA_ASSIGNMENT1 s_DEATH (1 : Int32)) = s_BUYER_LOW_MODERATE_INCOME from by simp [own_exm]]
      refine o_astore X16 hx (l' := #[.val (.int a_), .val (.int b_), .val (.int c_), .val (.int (1 : Int32)), .val (.int ((b_ &&& (2147483647 : Int32)) % (7 : Int32))), .val (.int (0 : Int32)), .val (.ref s_BUYER_LOW_MODERATE_INCOME), .unset, .unset]) (hb hby at_34) rfl rfl ?_
      refine o_iload X16 hx (hb hby at_36) rfl ?_
      obtain ⟨_, _, ⟨T17, L17, kc17, n17⟩, -, X17, ⟨Lc17, hQ17, l17, y17, z17⟩, st17⟩ := Jvm.LawKit.callS X16 hx (y := yM1) hown (mvT hZ w8) (mvT hZ w9) (mvT hZ w3) (mvT hZ w10) (by decide) (backOf (W := 0) (rm_event l Z a0 hw [] s_REFINANCE_SUBORDINATED s_FORECLOSURE s_REFINANCE_SUBORDINATED1 s_BUYER_LOW_MODERATE_INCOME s_FHA_ASSIGNMENT s_SALE s_FORECLOSURE1 s_DEED_IN_LIEU s_DEATH s_DEATH1 s_REFINANCE s_DEED_IN_LIEU1 s_FHA_ASSIGNMENT1 ((b_ &&& (2147483647 : Int32)) % (7 : Int32)) h0 n0 SB O0 ) hZ w10 w3 (by decide) (by decide)) (g := (mkF m 38 #[.val (.int a_), .val (.int b_), .val (.int c_), .val (.int (1 : Int32)), .val (.int ((b_ &&& (2147483647 : Int32)) % (7 : Int32))), .val (.int (0 : Int32)), .val (.ref s_BUYER_LOW_MODERATE_INCOME), .unset, .unset] [(.int ((b_ &&& (2147483647 : Int32)) % (7 : Int32)))])) rfl (by rw [hml]; rfl) (argsL := [(.int ((b_ &&& (2147483647 : Int32)) % (7 : Int32)))]) (rest := []) (lenOf own_pd1 rfl) rfl (by show 2 * 0 + _ ≤ _; exact Nat.le_of_eq rfl) (hb hby at_38) (fun _ _ => ⟨rfl, e16, (by decide : 0 + 0 ≤ _), (by decide : 0 + 0 ≤ _)⟩)
      dsimp only [Pt.U, Pt.locs, Pt.cells, Pt.slots] at X17 l17 y17 z17 st17 hQ17
      subst l17 y17 z17
      obtain ⟨rfl, Nq17, e17⟩ := hQ17
      have N17 := Fr.app N16 Nq17
      refine ogo (S' := T17.setTop (mkF m 41 #[.val (.int a_), .val (.int b_), .val (.int c_), .val (.int (1 : Int32)), .val (.int ((b_ &&& (2147483647 : Int32)) % (7 : Int32))), .val (.int (0 : Int32)), .val (.ref s_BUYER_LOW_MODERATE_INCOME), .unset, .unset] [(.ref (own_evt s_SALE s_REFINANCE s_REFINANCE_SUBORDINATED1 s_FORECLOSURE s_DEED_IN_LIEU s_FHA_ASSIGNMENT s_DEATH1 ((b_ &&& (2147483647 : Int32)) % (7 : Int32))))])) st17 ?_
      refine o_astore X17 hx (l' := #[.val (.int a_), .val (.int b_), .val (.int c_), .val (.int (1 : Int32)), .val (.int ((b_ &&& (2147483647 : Int32)) % (7 : Int32))), .val (.int (0 : Int32)), .val (.ref s_BUYER_LOW_MODERATE_INCOME), .val (.ref (own_evt s_SALE s_REFINANCE s_REFINANCE_SUBORDINATED1 s_FORECLOSURE s_DEED_IN_LIEU s_FHA_ASSIGNMENT s_DEATH1 ((b_ &&& (2147483647 : Int32)) % (7 : Int32)))), .unset]) (hb hby at_41) rfl rfl ?_
      refine o_iload X17 hx (hb hby at_43) rfl ?_
      refine o_iloadN X17 hx (hb hby at_45) rfl ?_
      obtain ⟨_, _, ⟨T18, L18, kc18, n18⟩, -, X18, ⟨Lc18, hQ18, l18, y18, z18⟩, st18⟩ := Jvm.LawKit.callS X17 hx (y := yM2) hown (mvT hZ w14) (mvT hZ w15) (mvT hZ w3) (mvT hZ w16) (by decide) (backOf (W := 1) (rm_coveredEvent l Z a0 hw []  (1 : Int32) h0 n0 O0 ) hZ w16 w3 (by decide) (by decide)) (g := (mkF m 46 #[.val (.int a_), .val (.int b_), .val (.int c_), .val (.int (1 : Int32)), .val (.int ((b_ &&& (2147483647 : Int32)) % (7 : Int32))), .val (.int (0 : Int32)), .val (.ref s_BUYER_LOW_MODERATE_INCOME), .val (.ref (own_evt s_SALE s_REFINANCE s_REFINANCE_SUBORDINATED1 s_FORECLOSURE s_DEED_IN_LIEU s_FHA_ASSIGNMENT s_DEATH1 ((b_ &&& (2147483647 : Int32)) % (7 : Int32)))), .unset] [(.int (1 : Int32)), (.int ((b_ &&& (2147483647 : Int32)) % (7 : Int32)))])) rfl (by rw [hml]; rfl) (argsL := [(.int (1 : Int32))]) (rest := [(.int ((b_ &&& (2147483647 : Int32)) % (7 : Int32)))]) (lenOf own_pd2 rfl) rfl (by show 2 * 0 + _ ≤ _; exact Nat.le_of_eq rfl) (hb hby at_46) (fun _ _ => ⟨rfl, e17, (by decide : 0 + 0 ≤ _), (by decide : 0 + 0 ≤ _)⟩)
      dsimp only [Pt.U, Pt.locs, Pt.cells, Pt.slots] at X18 l18 y18 z18 st18 hQ18
      subst l18 y18 z18
      obtain ⟨rfl, Nq18, e18⟩ := hQ18
      have N18 := Fr.app N17 Nq18
      refine ogo (S' := T18.setTop (mkF m 49 #[.val (.int a_), .val (.int b_), .val (.int c_), .val (.int (1 : Int32)), .val (.int ((b_ &&& (2147483647 : Int32)) % (7 : Int32))), .val (.int (0 : Int32)), .val (.ref s_BUYER_LOW_MODERATE_INCOME), .val (.ref (own_evt s_SALE s_REFINANCE s_REFINANCE_SUBORDINATED1 s_FORECLOSURE s_DEED_IN_LIEU s_FHA_ASSIGNMENT s_DEATH1 ((b_ &&& (2147483647 : Int32)) % (7 : Int32)))), .unset] [(.int (own_cov (1 : Int32))), (.int ((b_ &&& (2147483647 : Int32)) % (7 : Int32)))])) st18 ?_
      rw [show (own_cov (1 : Int32)) = (0 : Int32) from by decide]
      by_cases hc19 : ((b_ &&& (2147483647 : Int32)) % (7 : Int32)) = (0 : Int32)
      · refine o_icmpNo X18 hx (hb hby at_49) (teq hc19).2 ?_
        refine o_iload X18 hx (hb hby at_52) rfl ?_
        refine o_ifNo X18 hx (hb hby at_54) (teq (by decide : (0 : Int32) = (0 : Int32))).2 ?_
        refine o_iloadN X18 hx (hb hby at_57) rfl ?_
        refine o_iconst X18 hx (1 : Int32) (hb hby at_58) rfl ?_
        refine o_icmpYes X18 hx 66 (hb hby at_59) (teq (by decide : (1 : Int32) = (1 : Int32))).1 (by decide) (by decide) ?_
        refine o_iconst X18 hx (0 : Int32) (hb hby at_66) rfl ?_
        refine o_istore X18 hx (l' := #[.val (.int a_), .val (.int b_), .val (.int c_), .val (.int (1 : Int32)), .val (.int ((b_ &&& (2147483647 : Int32)) % (7 : Int32))), .val (.int (0 : Int32)), .val (.ref s_BUYER_LOW_MODERATE_INCOME), .val (.ref (own_evt s_SALE s_REFINANCE s_REFINANCE_SUBORDINATED1 s_FORECLOSURE s_DEED_IN_LIEU s_FHA_ASSIGNMENT s_DEATH1 ((b_ &&& (2147483647 : Int32)) % (7 : Int32)))), .val (.int (0 : Int32))]) (hb hby at_67) rfl ?_
        refine o_aload X18 hx (hb hby at_69) rfl rfl ?_
        refine o_aload X18 hx (hb hby at_71) rfl rfl ?_
        refine o_iload X18 hx (hb hby at_73) rfl ?_
        obtain ⟨cq20, kq20, q20a, q20b, q20c⟩ := isOf hZ e18 (Exa.ext O0.2 E_s_BUYER_LOW_MODERATE_INCOME)
        obtain ⟨_, _, ⟨T20, L20, kc20, n20⟩, -, X20, ⟨Lc20, hQ20, l20, y20, z20⟩, st20⟩ := X18.virtualBack hx (y := yM3) (z := yM3) hown (mvT hZ w17) (mvT hZ w18) (notFace_of_selects (args := #[]) (mvT hZ w20)) (mvT hZ w20) (mvT hZ w19) (by decide) (backOf (W := 0) (rm_covers l Z a0 hw []  s_BUYER_LOW_MODERATE_INCOME (own_evt s_SALE s_REFINANCE s_REFINANCE_SUBORDINATED1 s_FORECLOSURE s_DEED_IN_LIEU s_FHA_ASSIGNMENT s_DEATH1 ((b_ &&& (2147483647 : Int32)) % (7 : Int32))) (0 : Int32) s_SALE (1 : Int32) h0 n0 O0 (Fld.ext O0.2 F_s_BUYER_LOW_MODERATE_INCOME_event) (Fld.ext O0.2 F_s_BUYER_LOW_MODERATE_INCOME_byBuyersIncome)) hZ w21 w6 (by decide) (by decide)) q20a q20c (g := (mkF m 75 #[.val (.int a_), .val (.int b_), .val (.int c_), .val (.int (1 : Int32)), .val (.int ((b_ &&& (2147483647 : Int32)) % (7 : Int32))), .val (.int (0 : Int32)), .val (.ref s_BUYER_LOW_MODERATE_INCOME), .val (.ref (own_evt s_SALE s_REFINANCE s_REFINANCE_SUBORDINATED1 s_FORECLOSURE s_DEED_IN_LIEU s_FHA_ASSIGNMENT s_DEATH1 ((b_ &&& (2147483647 : Int32)) % (7 : Int32)))), .val (.int (0 : Int32))] [(.int (0 : Int32)), (.ref (own_evt s_SALE s_REFINANCE s_REFINANCE_SUBORDINATED1 s_FORECLOSURE s_DEED_IN_LIEU s_FHA_ASSIGNMENT s_DEATH1 ((b_ &&& (2147483647 : Int32)) % (7 : Int32)))), (.ref s_BUYER_LOW_MODERATE_INCOME)])) rfl (by rw [hml]; rfl) (Steps.refl _) (argsL := [(.ref (own_evt s_SALE s_REFINANCE s_REFINANCE_SUBORDINATED1 s_FORECLOSURE s_DEED_IN_LIEU s_FHA_ASSIGNMENT s_DEATH1 ((b_ &&& (2147483647 : Int32)) % (7 : Int32)))), (.int (0 : Int32))]) (rest := []) (lenOf own_pd3 rfl) rfl (by show 2 * 0 + _ ≤ _; exact Nat.le_of_eq rfl) (hb hby at_75) (fun _ _ => ⟨rfl, e18, (by decide : 0 + 0 ≤ _), (by decide : 0 + 0 ≤ _)⟩)
        dsimp only [Pt.U, Pt.locs, Pt.cells, Pt.slots] at X20 l20 y20 z20 st20 hQ20
        subst l20 y20 z20
        obtain ⟨rfl, Nq20, e20⟩ := hQ20
        have N20 := Fr.app N18 Nq20
        refine otr (S' := T20.setTop (mkF m 78 #[.val (.int a_), .val (.int b_), .val (.int c_), .val (.int (1 : Int32)), .val (.int ((b_ &&& (2147483647 : Int32)) % (7 : Int32))), .val (.int (0 : Int32)), .val (.ref s_BUYER_LOW_MODERATE_INCOME), .val (.ref (own_evt s_SALE s_REFINANCE s_REFINANCE_SUBORDINATED1 s_FORECLOSURE s_DEED_IN_LIEU s_FHA_ASSIGNMENT s_DEATH1 ((b_ &&& (2147483647 : Int32)) % (7 : Int32)))), .val (.int (0 : Int32))] [(.int (own_cvs s_SALE (own_evt s_SALE s_REFINANCE s_REFINANCE_SUBORDINATED1 s_FORECLOSURE s_DEED_IN_LIEU s_FHA_ASSIGNMENT s_DEATH1 ((b_ &&& (2147483647 : Int32)) % (7 : Int32))) (0 : Int32) (1 : Int32)))])) st20 ?_
        rw [show (own_cvs s_SALE (own_evt s_SALE s_REFINANCE s_REFINANCE_SUBORDINATED1 s_FORECLOSURE s_DEED_IN_LIEU s_FHA_ASSIGNMENT s_DEATH1 ((b_ &&& (2147483647 : Int32)) % (7 : Int32))) (0 : Int32) (1 : Int32)) = (0 : Int32) from by rw [hc19]; simp [own_cvs, own_evt]]
        refine o_iload X20 hx (hb hby at_78) rfl ?_
        refine o_icmpNo X20 hx (hb hby at_80) (teq (by decide : (0 : Int32) = (0 : Int32))).2 ?_
        refine o_iconst X20 hx (1 : Int32) (hb hby at_83) rfl ?_
        refine o_goto X20 hx 88 (hb hby at_84) (by decide) (by decide) ?_
        refine oend X20 hlk (v := some (.int (1 : Int32))) (fun h => by rw [hret] at h; cases h) (fun fs hr => retN X20 hx (t := .boolean) hret (by simp) (hb hby at_88) hr) (by decide) (by decide) ?_
        show own_Q_law Z _ _ _ _ _ _ _ _ _ _ _ _ _ _ _ _ h0 n0 _ T20.heap _
        rw [e20]
        exact ⟨rfl, N20, rfl⟩
      · refine o_icmpYes X18 hx 66 (hb hby at_49) (feq hc19).2 (by decide) (by decide) ?_
        refine o_iconst X18 hx (0 : Int32) (hb hby at_66) rfl ?_
        refine o_istore X18 hx (l' := #[.val (.int a_), .val (.int b_), .val (.int c_), .val (.int (1 : Int32)), .val (.int ((b_ &&& (2147483647 : Int32)) % (7 : Int32))), .val (.int (0 : Int32)), .val (.ref s_BUYER_LOW_MODERATE_INCOME), .val (.ref (own_evt s_SALE s_REFINANCE s_REFINANCE_SUBORDINATED1 s_FORECLOSURE s_DEED_IN_LIEU s_FHA_ASSIGNMENT s_DEATH1 ((b_ &&& (2147483647 : Int32)) % (7 : Int32)))), .val (.int (0 : Int32))]) (hb hby at_67) rfl ?_
        refine o_aload X18 hx (hb hby at_69) rfl rfl ?_
        refine o_aload X18 hx (hb hby at_71) rfl rfl ?_
        refine o_iload X18 hx (hb hby at_73) rfl ?_
        obtain ⟨cq21, kq21, q21a, q21b, q21c⟩ := isOf hZ e18 (Exa.ext O0.2 E_s_BUYER_LOW_MODERATE_INCOME)
        obtain ⟨_, _, ⟨T21, L21, kc21, n21⟩, -, X21, ⟨Lc21, hQ21, l21, y21, z21⟩, st21⟩ := X18.virtualBack hx (y := yM3) (z := yM3) hown (mvT hZ w17) (mvT hZ w18) (notFace_of_selects (args := #[]) (mvT hZ w20)) (mvT hZ w20) (mvT hZ w19) (by decide) (backOf (W := 0) (rm_covers l Z a0 hw []  s_BUYER_LOW_MODERATE_INCOME (own_evt s_SALE s_REFINANCE s_REFINANCE_SUBORDINATED1 s_FORECLOSURE s_DEED_IN_LIEU s_FHA_ASSIGNMENT s_DEATH1 ((b_ &&& (2147483647 : Int32)) % (7 : Int32))) (0 : Int32) s_SALE (1 : Int32) h0 n0 O0 (Fld.ext O0.2 F_s_BUYER_LOW_MODERATE_INCOME_event) (Fld.ext O0.2 F_s_BUYER_LOW_MODERATE_INCOME_byBuyersIncome)) hZ w21 w6 (by decide) (by decide)) q21a q21c (g := (mkF m 75 #[.val (.int a_), .val (.int b_), .val (.int c_), .val (.int (1 : Int32)), .val (.int ((b_ &&& (2147483647 : Int32)) % (7 : Int32))), .val (.int (0 : Int32)), .val (.ref s_BUYER_LOW_MODERATE_INCOME), .val (.ref (own_evt s_SALE s_REFINANCE s_REFINANCE_SUBORDINATED1 s_FORECLOSURE s_DEED_IN_LIEU s_FHA_ASSIGNMENT s_DEATH1 ((b_ &&& (2147483647 : Int32)) % (7 : Int32)))), .val (.int (0 : Int32))] [(.int (0 : Int32)), (.ref (own_evt s_SALE s_REFINANCE s_REFINANCE_SUBORDINATED1 s_FORECLOSURE s_DEED_IN_LIEU s_FHA_ASSIGNMENT s_DEATH1 ((b_ &&& (2147483647 : Int32)) % (7 : Int32)))), (.ref s_BUYER_LOW_MODERATE_INCOME)])) rfl (by rw [hml]; rfl) (Steps.refl _) (argsL := [(.ref (own_evt s_SALE s_REFINANCE s_REFINANCE_SUBORDINATED1 s_FORECLOSURE s_DEED_IN_LIEU s_FHA_ASSIGNMENT s_DEATH1 ((b_ &&& (2147483647 : Int32)) % (7 : Int32)))), (.int (0 : Int32))]) (rest := []) (lenOf own_pd3 rfl) rfl (by show 2 * 0 + _ ≤ _; exact Nat.le_of_eq rfl) (hb hby at_75) (fun _ _ => ⟨rfl, e18, (by decide : 0 + 0 ≤ _), (by decide : 0 + 0 ≤ _)⟩)
        dsimp only [Pt.U, Pt.locs, Pt.cells, Pt.slots] at X21 l21 y21 z21 st21 hQ21
        subst l21 y21 z21
        obtain ⟨rfl, Nq21, e21⟩ := hQ21
        have N21 := Fr.app N18 Nq21
        refine otr (S' := T21.setTop (mkF m 78 #[.val (.int a_), .val (.int b_), .val (.int c_), .val (.int (1 : Int32)), .val (.int ((b_ &&& (2147483647 : Int32)) % (7 : Int32))), .val (.int (0 : Int32)), .val (.ref s_BUYER_LOW_MODERATE_INCOME), .val (.ref (own_evt s_SALE s_REFINANCE s_REFINANCE_SUBORDINATED1 s_FORECLOSURE s_DEED_IN_LIEU s_FHA_ASSIGNMENT s_DEATH1 ((b_ &&& (2147483647 : Int32)) % (7 : Int32)))), .val (.int (0 : Int32))] [(.int (own_cvs s_SALE (own_evt s_SALE s_REFINANCE s_REFINANCE_SUBORDINATED1 s_FORECLOSURE s_DEED_IN_LIEU s_FHA_ASSIGNMENT s_DEATH1 ((b_ &&& (2147483647 : Int32)) % (7 : Int32))) (0 : Int32) (1 : Int32)))])) st21 ?_
        have ne78 := own_evne SB (own_rem7 b_) (c := (0 : Int32)) (by decide) hc19
        rw [show own_evt s_SALE s_REFINANCE s_REFINANCE_SUBORDINATED1 s_FORECLOSURE s_DEED_IN_LIEU s_FHA_ASSIGNMENT s_DEATH1 (0 : Int32) = s_SALE from by simp [own_evt]] at ne78
        rw [show (own_cvs s_SALE (own_evt s_SALE s_REFINANCE s_REFINANCE_SUBORDINATED1 s_FORECLOSURE s_DEED_IN_LIEU s_FHA_ASSIGNMENT s_DEATH1 ((b_ &&& (2147483647 : Int32)) % (7 : Int32))) (0 : Int32) (1 : Int32)) = (0 : Int32) from if_neg ne78]
        refine o_iload X21 hx (hb hby at_78) rfl ?_
        refine o_icmpNo X21 hx (hb hby at_80) (teq (by decide : (0 : Int32) = (0 : Int32))).2 ?_
        refine o_iconst X21 hx (1 : Int32) (hb hby at_83) rfl ?_
        refine o_goto X21 hx 88 (hb hby at_84) (by decide) (by decide) ?_
        refine oend X21 hlk (v := some (.int (1 : Int32))) (fun h => by rw [hret] at h; cases h) (fun fs hr => retN X21 hx (t := .boolean) hret (by simp) (hb hby at_88) hr) (by decide) (by decide) ?_
        show own_Q_law Z _ _ _ _ _ _ _ _ _ _ _ _ _ _ _ _ h0 n0 _ T21.heap _
        rw [e21]
        exact ⟨rfl, N21, rfl⟩
    · refine o_ifNo X0 hx (hb hby at_20) (feq hc15).1 ?_
      refine o_iconst X0 hx (1 : Int32) (hb hby at_23) rfl ?_
      refine o_goto X0 hx 28 (hb hby at_24) (by decide) (by decide) ?_
      refine o_istore X0 hx (l' := #[.val (.int a_), .val (.int b_), .val (.int c_), .val (.int (1 : Int32)), .val (.int ((b_ &&& (2147483647 : Int32)) % (7 : Int32))), .val (.int (1 : Int32)), .unset, .unset, .unset]) (hb hby at_28) rfl ?_
      refine o_iloadN X0 hx (hb hby at_30) rfl ?_
      obtain ⟨_, _, ⟨T22, L22, kc22, n22⟩, -, X22, ⟨Lc22, hQ22, l22, y22, z22⟩, st22⟩ := Jvm.LawKit.callS X0 hx (y := yM0) hown (mvT hZ w1) (mvT hZ w2) (mvT hZ w3) (mvT hZ w4) (by decide) (backOf (W := 0) (rm_exemption l Z a0 hw [] s_REFINANCE_SUBORDINATED s_FORECLOSURE s_REFINANCE_SUBORDINATED1 s_BUYER_LOW_MODERATE_INCOME s_FHA_ASSIGNMENT s_SALE s_FORECLOSURE1 s_DEED_IN_LIEU s_DEATH s_DEATH1 s_REFINANCE s_DEED_IN_LIEU1 s_FHA_ASSIGNMENT1 (1 : Int32) h0 n0 SB O0 ) hZ w4 w3 (by decide) (by decide)) (g := (mkF m 31 #[.val (.int a_), .val (.int b_), .val (.int c_), .val (.int (1 : Int32)), .val (.int ((b_ &&& (2147483647 : Int32)) % (7 : Int32))), .val (.int (1 : Int32)), .unset, .unset, .unset] [(.int (1 : Int32))])) rfl (by rw [hml]; rfl) (argsL := [(.int (1 : Int32))]) (rest := []) (lenOf own_pd0 rfl) rfl (by show 2 * 0 + _ ≤ _; exact Nat.le_of_eq rfl) (hb hby at_31) (fun _ _ => ⟨rfl, e0, (by decide : 0 + 0 ≤ _), (by decide : 0 + 0 ≤ _)⟩)
      dsimp only [Pt.U, Pt.locs, Pt.cells, Pt.slots] at X22 l22 y22 z22 st22 hQ22
      subst l22 y22 z22
      obtain ⟨rfl, Nq22, e22⟩ := hQ22
      have N22 := Fr.app N0 Nq22
      refine ogo (S' := T22.setTop (mkF m 34 #[.val (.int a_), .val (.int b_), .val (.int c_), .val (.int (1 : Int32)), .val (.int ((b_ &&& (2147483647 : Int32)) % (7 : Int32))), .val (.int (1 : Int32)), .unset, .unset, .unset] [(.ref (own_exm s_REFINANCE_SUBORDINATED s_BUYER_LOW_MODERATE_INCOME s_FORECLOSURE1 s_DEED_IN_LIEU1 s_FHA_ASSIGNMENT1 s_DEATH (1 : Int32)))])) st22 ?_
      rw [show (own_exm s_REFINANCE_SUBORDINATED s_BUYER_LOW_MODERATE_INCOME s_FORECLOSURE1 s_DEED_IN_LIEU1 s_FHA_ASSIGNMENT1 s_DEATH (1 : Int32)) = s_BUYER_LOW_MODERATE_INCOME from by simp [own_exm]]
      refine o_astore X22 hx (l' := #[.val (.int a_), .val (.int b_), .val (.int c_), .val (.int (1 : Int32)), .val (.int ((b_ &&& (2147483647 : Int32)) % (7 : Int32))), .val (.int (1 : Int32)), .val (.ref s_BUYER_LOW_MODERATE_INCOME), .unset, .unset]) (hb hby at_34) rfl rfl ?_
      refine o_iload X22 hx (hb hby at_36) rfl ?_
      obtain ⟨_, _, ⟨T23, L23, kc23, n23⟩, -, X23, ⟨Lc23, hQ23, l23, y23, z23⟩, st23⟩ := Jvm.LawKit.callS X22 hx (y := yM1) hown (mvT hZ w8) (mvT hZ w9) (mvT hZ w3) (mvT hZ w10) (by decide) (backOf (W := 0) (rm_event l Z a0 hw [] s_REFINANCE_SUBORDINATED s_FORECLOSURE s_REFINANCE_SUBORDINATED1 s_BUYER_LOW_MODERATE_INCOME s_FHA_ASSIGNMENT s_SALE s_FORECLOSURE1 s_DEED_IN_LIEU s_DEATH s_DEATH1 s_REFINANCE s_DEED_IN_LIEU1 s_FHA_ASSIGNMENT1 ((b_ &&& (2147483647 : Int32)) % (7 : Int32)) h0 n0 SB O0 ) hZ w10 w3 (by decide) (by decide)) (g := (mkF m 38 #[.val (.int a_), .val (.int b_), .val (.int c_), .val (.int (1 : Int32)), .val (.int ((b_ &&& (2147483647 : Int32)) % (7 : Int32))), .val (.int (1 : Int32)), .val (.ref s_BUYER_LOW_MODERATE_INCOME), .unset, .unset] [(.int ((b_ &&& (2147483647 : Int32)) % (7 : Int32)))])) rfl (by rw [hml]; rfl) (argsL := [(.int ((b_ &&& (2147483647 : Int32)) % (7 : Int32)))]) (rest := []) (lenOf own_pd1 rfl) rfl (by show 2 * 0 + _ ≤ _; exact Nat.le_of_eq rfl) (hb hby at_38) (fun _ _ => ⟨rfl, e22, (by decide : 0 + 0 ≤ _), (by decide : 0 + 0 ≤ _)⟩)
      dsimp only [Pt.U, Pt.locs, Pt.cells, Pt.slots] at X23 l23 y23 z23 st23 hQ23
      subst l23 y23 z23
      obtain ⟨rfl, Nq23, e23⟩ := hQ23
      have N23 := Fr.app N22 Nq23
      refine ogo (S' := T23.setTop (mkF m 41 #[.val (.int a_), .val (.int b_), .val (.int c_), .val (.int (1 : Int32)), .val (.int ((b_ &&& (2147483647 : Int32)) % (7 : Int32))), .val (.int (1 : Int32)), .val (.ref s_BUYER_LOW_MODERATE_INCOME), .unset, .unset] [(.ref (own_evt s_SALE s_REFINANCE s_REFINANCE_SUBORDINATED1 s_FORECLOSURE s_DEED_IN_LIEU s_FHA_ASSIGNMENT s_DEATH1 ((b_ &&& (2147483647 : Int32)) % (7 : Int32))))])) st23 ?_
      refine o_astore X23 hx (l' := #[.val (.int a_), .val (.int b_), .val (.int c_), .val (.int (1 : Int32)), .val (.int ((b_ &&& (2147483647 : Int32)) % (7 : Int32))), .val (.int (1 : Int32)), .val (.ref s_BUYER_LOW_MODERATE_INCOME), .val (.ref (own_evt s_SALE s_REFINANCE s_REFINANCE_SUBORDINATED1 s_FORECLOSURE s_DEED_IN_LIEU s_FHA_ASSIGNMENT s_DEATH1 ((b_ &&& (2147483647 : Int32)) % (7 : Int32)))), .unset]) (hb hby at_41) rfl rfl ?_
      refine o_iload X23 hx (hb hby at_43) rfl ?_
      refine o_iloadN X23 hx (hb hby at_45) rfl ?_
      obtain ⟨_, _, ⟨T24, L24, kc24, n24⟩, -, X24, ⟨Lc24, hQ24, l24, y24, z24⟩, st24⟩ := Jvm.LawKit.callS X23 hx (y := yM2) hown (mvT hZ w14) (mvT hZ w15) (mvT hZ w3) (mvT hZ w16) (by decide) (backOf (W := 1) (rm_coveredEvent l Z a0 hw []  (1 : Int32) h0 n0 O0 ) hZ w16 w3 (by decide) (by decide)) (g := (mkF m 46 #[.val (.int a_), .val (.int b_), .val (.int c_), .val (.int (1 : Int32)), .val (.int ((b_ &&& (2147483647 : Int32)) % (7 : Int32))), .val (.int (1 : Int32)), .val (.ref s_BUYER_LOW_MODERATE_INCOME), .val (.ref (own_evt s_SALE s_REFINANCE s_REFINANCE_SUBORDINATED1 s_FORECLOSURE s_DEED_IN_LIEU s_FHA_ASSIGNMENT s_DEATH1 ((b_ &&& (2147483647 : Int32)) % (7 : Int32)))), .unset] [(.int (1 : Int32)), (.int ((b_ &&& (2147483647 : Int32)) % (7 : Int32)))])) rfl (by rw [hml]; rfl) (argsL := [(.int (1 : Int32))]) (rest := [(.int ((b_ &&& (2147483647 : Int32)) % (7 : Int32)))]) (lenOf own_pd2 rfl) rfl (by show 2 * 0 + _ ≤ _; exact Nat.le_of_eq rfl) (hb hby at_46) (fun _ _ => ⟨rfl, e23, (by decide : 0 + 0 ≤ _), (by decide : 0 + 0 ≤ _)⟩)
      dsimp only [Pt.U, Pt.locs, Pt.cells, Pt.slots] at X24 l24 y24 z24 st24 hQ24
      subst l24 y24 z24
      obtain ⟨rfl, Nq24, e24⟩ := hQ24
      have N24 := Fr.app N23 Nq24
      refine ogo (S' := T24.setTop (mkF m 49 #[.val (.int a_), .val (.int b_), .val (.int c_), .val (.int (1 : Int32)), .val (.int ((b_ &&& (2147483647 : Int32)) % (7 : Int32))), .val (.int (1 : Int32)), .val (.ref s_BUYER_LOW_MODERATE_INCOME), .val (.ref (own_evt s_SALE s_REFINANCE s_REFINANCE_SUBORDINATED1 s_FORECLOSURE s_DEED_IN_LIEU s_FHA_ASSIGNMENT s_DEATH1 ((b_ &&& (2147483647 : Int32)) % (7 : Int32)))), .unset] [(.int (own_cov (1 : Int32))), (.int ((b_ &&& (2147483647 : Int32)) % (7 : Int32)))])) st24 ?_
      rw [show (own_cov (1 : Int32)) = (0 : Int32) from by decide]
      by_cases hc25 : ((b_ &&& (2147483647 : Int32)) % (7 : Int32)) = (0 : Int32)
      · refine o_icmpNo X24 hx (hb hby at_49) (teq hc25).2 ?_
        refine o_iload X24 hx (hb hby at_52) rfl ?_
        refine o_ifYes X24 hx 62 (hb hby at_54) (feq (by decide : ¬ ((1 : Int32) = (0 : Int32)))).2 (by decide) (by decide) ?_
        refine o_iconst X24 hx (1 : Int32) (hb hby at_62) rfl ?_
        refine o_goto X24 hx 67 (hb hby at_63) (by decide) (by decide) ?_
        refine o_istore X24 hx (l' := #[.val (.int a_), .val (.int b_), .val (.int c_), .val (.int (1 : Int32)), .val (.int ((b_ &&& (2147483647 : Int32)) % (7 : Int32))), .val (.int (1 : Int32)), .val (.ref s_BUYER_LOW_MODERATE_INCOME), .val (.ref (own_evt s_SALE s_REFINANCE s_REFINANCE_SUBORDINATED1 s_FORECLOSURE s_DEED_IN_LIEU s_FHA_ASSIGNMENT s_DEATH1 ((b_ &&& (2147483647 : Int32)) % (7 : Int32)))), .val (.int (1 : Int32))]) (hb hby at_67) rfl ?_
        refine o_aload X24 hx (hb hby at_69) rfl rfl ?_
        refine o_aload X24 hx (hb hby at_71) rfl rfl ?_
        refine o_iload X24 hx (hb hby at_73) rfl ?_
        obtain ⟨cq26, kq26, q26a, q26b, q26c⟩ := isOf hZ e24 (Exa.ext O0.2 E_s_BUYER_LOW_MODERATE_INCOME)
        obtain ⟨_, _, ⟨T26, L26, kc26, n26⟩, -, X26, ⟨Lc26, hQ26, l26, y26, z26⟩, st26⟩ := X24.virtualBack hx (y := yM3) (z := yM3) hown (mvT hZ w17) (mvT hZ w18) (notFace_of_selects (args := #[]) (mvT hZ w20)) (mvT hZ w20) (mvT hZ w19) (by decide) (backOf (W := 0) (rm_covers l Z a0 hw []  s_BUYER_LOW_MODERATE_INCOME (own_evt s_SALE s_REFINANCE s_REFINANCE_SUBORDINATED1 s_FORECLOSURE s_DEED_IN_LIEU s_FHA_ASSIGNMENT s_DEATH1 ((b_ &&& (2147483647 : Int32)) % (7 : Int32))) (1 : Int32) s_SALE (1 : Int32) h0 n0 O0 (Fld.ext O0.2 F_s_BUYER_LOW_MODERATE_INCOME_event) (Fld.ext O0.2 F_s_BUYER_LOW_MODERATE_INCOME_byBuyersIncome)) hZ w21 w6 (by decide) (by decide)) q26a q26c (g := (mkF m 75 #[.val (.int a_), .val (.int b_), .val (.int c_), .val (.int (1 : Int32)), .val (.int ((b_ &&& (2147483647 : Int32)) % (7 : Int32))), .val (.int (1 : Int32)), .val (.ref s_BUYER_LOW_MODERATE_INCOME), .val (.ref (own_evt s_SALE s_REFINANCE s_REFINANCE_SUBORDINATED1 s_FORECLOSURE s_DEED_IN_LIEU s_FHA_ASSIGNMENT s_DEATH1 ((b_ &&& (2147483647 : Int32)) % (7 : Int32)))), .val (.int (1 : Int32))] [(.int (1 : Int32)), (.ref (own_evt s_SALE s_REFINANCE s_REFINANCE_SUBORDINATED1 s_FORECLOSURE s_DEED_IN_LIEU s_FHA_ASSIGNMENT s_DEATH1 ((b_ &&& (2147483647 : Int32)) % (7 : Int32)))), (.ref s_BUYER_LOW_MODERATE_INCOME)])) rfl (by rw [hml]; rfl) (Steps.refl _) (argsL := [(.ref (own_evt s_SALE s_REFINANCE s_REFINANCE_SUBORDINATED1 s_FORECLOSURE s_DEED_IN_LIEU s_FHA_ASSIGNMENT s_DEATH1 ((b_ &&& (2147483647 : Int32)) % (7 : Int32)))), (.int (1 : Int32))]) (rest := []) (lenOf own_pd3 rfl) rfl (by show 2 * 0 + _ ≤ _; exact Nat.le_of_eq rfl) (hb hby at_75) (fun _ _ => ⟨rfl, e24, (by decide : 0 + 0 ≤ _), (by decide : 0 + 0 ≤ _)⟩)
        dsimp only [Pt.U, Pt.locs, Pt.cells, Pt.slots] at X26 l26 y26 z26 st26 hQ26
        subst l26 y26 z26
        obtain ⟨rfl, Nq26, e26⟩ := hQ26
        have N26 := Fr.app N24 Nq26
        refine otr (S' := T26.setTop (mkF m 78 #[.val (.int a_), .val (.int b_), .val (.int c_), .val (.int (1 : Int32)), .val (.int ((b_ &&& (2147483647 : Int32)) % (7 : Int32))), .val (.int (1 : Int32)), .val (.ref s_BUYER_LOW_MODERATE_INCOME), .val (.ref (own_evt s_SALE s_REFINANCE s_REFINANCE_SUBORDINATED1 s_FORECLOSURE s_DEED_IN_LIEU s_FHA_ASSIGNMENT s_DEATH1 ((b_ &&& (2147483647 : Int32)) % (7 : Int32)))), .val (.int (1 : Int32))] [(.int (own_cvs s_SALE (own_evt s_SALE s_REFINANCE s_REFINANCE_SUBORDINATED1 s_FORECLOSURE s_DEED_IN_LIEU s_FHA_ASSIGNMENT s_DEATH1 ((b_ &&& (2147483647 : Int32)) % (7 : Int32))) (1 : Int32) (1 : Int32)))])) st26 ?_
        rw [show (own_cvs s_SALE (own_evt s_SALE s_REFINANCE s_REFINANCE_SUBORDINATED1 s_FORECLOSURE s_DEED_IN_LIEU s_FHA_ASSIGNMENT s_DEATH1 ((b_ &&& (2147483647 : Int32)) % (7 : Int32))) (1 : Int32) (1 : Int32)) = (1 : Int32) from by rw [hc25]; simp [own_cvs, own_evt]]
        refine o_iload X26 hx (hb hby at_78) rfl ?_
        refine o_icmpNo X26 hx (hb hby at_80) (teq (by decide : (1 : Int32) = (1 : Int32))).2 ?_
        refine o_iconst X26 hx (1 : Int32) (hb hby at_83) rfl ?_
        refine o_goto X26 hx 88 (hb hby at_84) (by decide) (by decide) ?_
        refine oend X26 hlk (v := some (.int (1 : Int32))) (fun h => by rw [hret] at h; cases h) (fun fs hr => retN X26 hx (t := .boolean) hret (by simp) (hb hby at_88) hr) (by decide) (by decide) ?_
        show own_Q_law Z _ _ _ _ _ _ _ _ _ _ _ _ _ _ _ _ h0 n0 _ T26.heap _
        rw [e26]
        exact ⟨rfl, N26, rfl⟩
      · refine o_icmpYes X24 hx 66 (hb hby at_49) (feq hc25).2 (by decide) (by decide) ?_
        refine o_iconst X24 hx (0 : Int32) (hb hby at_66) rfl ?_
        refine o_istore X24 hx (l' := #[.val (.int a_), .val (.int b_), .val (.int c_), .val (.int (1 : Int32)), .val (.int ((b_ &&& (2147483647 : Int32)) % (7 : Int32))), .val (.int (1 : Int32)), .val (.ref s_BUYER_LOW_MODERATE_INCOME), .val (.ref (own_evt s_SALE s_REFINANCE s_REFINANCE_SUBORDINATED1 s_FORECLOSURE s_DEED_IN_LIEU s_FHA_ASSIGNMENT s_DEATH1 ((b_ &&& (2147483647 : Int32)) % (7 : Int32)))), .val (.int (0 : Int32))]) (hb hby at_67) rfl ?_
        refine o_aload X24 hx (hb hby at_69) rfl rfl ?_
        refine o_aload X24 hx (hb hby at_71) rfl rfl ?_
        refine o_iload X24 hx (hb hby at_73) rfl ?_
        obtain ⟨cq27, kq27, q27a, q27b, q27c⟩ := isOf hZ e24 (Exa.ext O0.2 E_s_BUYER_LOW_MODERATE_INCOME)
        obtain ⟨_, _, ⟨T27, L27, kc27, n27⟩, -, X27, ⟨Lc27, hQ27, l27, y27, z27⟩, st27⟩ := X24.virtualBack hx (y := yM3) (z := yM3) hown (mvT hZ w17) (mvT hZ w18) (notFace_of_selects (args := #[]) (mvT hZ w20)) (mvT hZ w20) (mvT hZ w19) (by decide) (backOf (W := 0) (rm_covers l Z a0 hw []  s_BUYER_LOW_MODERATE_INCOME (own_evt s_SALE s_REFINANCE s_REFINANCE_SUBORDINATED1 s_FORECLOSURE s_DEED_IN_LIEU s_FHA_ASSIGNMENT s_DEATH1 ((b_ &&& (2147483647 : Int32)) % (7 : Int32))) (1 : Int32) s_SALE (1 : Int32) h0 n0 O0 (Fld.ext O0.2 F_s_BUYER_LOW_MODERATE_INCOME_event) (Fld.ext O0.2 F_s_BUYER_LOW_MODERATE_INCOME_byBuyersIncome)) hZ w21 w6 (by decide) (by decide)) q27a q27c (g := (mkF m 75 #[.val (.int a_), .val (.int b_), .val (.int c_), .val (.int (1 : Int32)), .val (.int ((b_ &&& (2147483647 : Int32)) % (7 : Int32))), .val (.int (1 : Int32)), .val (.ref s_BUYER_LOW_MODERATE_INCOME), .val (.ref (own_evt s_SALE s_REFINANCE s_REFINANCE_SUBORDINATED1 s_FORECLOSURE s_DEED_IN_LIEU s_FHA_ASSIGNMENT s_DEATH1 ((b_ &&& (2147483647 : Int32)) % (7 : Int32)))), .val (.int (0 : Int32))] [(.int (1 : Int32)), (.ref (own_evt s_SALE s_REFINANCE s_REFINANCE_SUBORDINATED1 s_FORECLOSURE s_DEED_IN_LIEU s_FHA_ASSIGNMENT s_DEATH1 ((b_ &&& (2147483647 : Int32)) % (7 : Int32)))), (.ref s_BUYER_LOW_MODERATE_INCOME)])) rfl (by rw [hml]; rfl) (Steps.refl _) (argsL := [(.ref (own_evt s_SALE s_REFINANCE s_REFINANCE_SUBORDINATED1 s_FORECLOSURE s_DEED_IN_LIEU s_FHA_ASSIGNMENT s_DEATH1 ((b_ &&& (2147483647 : Int32)) % (7 : Int32)))), (.int (1 : Int32))]) (rest := []) (lenOf own_pd3 rfl) rfl (by show 2 * 0 + _ ≤ _; exact Nat.le_of_eq rfl) (hb hby at_75) (fun _ _ => ⟨rfl, e24, (by decide : 0 + 0 ≤ _), (by decide : 0 + 0 ≤ _)⟩)
        dsimp only [Pt.U, Pt.locs, Pt.cells, Pt.slots] at X27 l27 y27 z27 st27 hQ27
        subst l27 y27 z27
        obtain ⟨rfl, Nq27, e27⟩ := hQ27
        have N27 := Fr.app N24 Nq27
        refine otr (S' := T27.setTop (mkF m 78 #[.val (.int a_), .val (.int b_), .val (.int c_), .val (.int (1 : Int32)), .val (.int ((b_ &&& (2147483647 : Int32)) % (7 : Int32))), .val (.int (1 : Int32)), .val (.ref s_BUYER_LOW_MODERATE_INCOME), .val (.ref (own_evt s_SALE s_REFINANCE s_REFINANCE_SUBORDINATED1 s_FORECLOSURE s_DEED_IN_LIEU s_FHA_ASSIGNMENT s_DEATH1 ((b_ &&& (2147483647 : Int32)) % (7 : Int32)))), .val (.int (0 : Int32))] [(.int (own_cvs s_SALE (own_evt s_SALE s_REFINANCE s_REFINANCE_SUBORDINATED1 s_FORECLOSURE s_DEED_IN_LIEU s_FHA_ASSIGNMENT s_DEATH1 ((b_ &&& (2147483647 : Int32)) % (7 : Int32))) (1 : Int32) (1 : Int32)))])) st27 ?_
        have ne78 := own_evne SB (own_rem7 b_) (c := (0 : Int32)) (by decide) hc25
        rw [show own_evt s_SALE s_REFINANCE s_REFINANCE_SUBORDINATED1 s_FORECLOSURE s_DEED_IN_LIEU s_FHA_ASSIGNMENT s_DEATH1 (0 : Int32) = s_SALE from by simp [own_evt]] at ne78
        rw [show (own_cvs s_SALE (own_evt s_SALE s_REFINANCE s_REFINANCE_SUBORDINATED1 s_FORECLOSURE s_DEED_IN_LIEU s_FHA_ASSIGNMENT s_DEATH1 ((b_ &&& (2147483647 : Int32)) % (7 : Int32))) (1 : Int32) (1 : Int32)) = (0 : Int32) from if_neg ne78]
        refine o_iload X27 hx (hb hby at_78) rfl ?_
        refine o_icmpNo X27 hx (hb hby at_80) (teq (by decide : (0 : Int32) = (0 : Int32))).2 ?_
        refine o_iconst X27 hx (1 : Int32) (hb hby at_83) rfl ?_
        refine o_goto X27 hx 88 (hb hby at_84) (by decide) (by decide) ?_
        refine oend X27 hlk (v := some (.int (1 : Int32))) (fun h => by rw [hret] at h; cases h) (fun fs hr => retN X27 hx (t := .boolean) hret (by simp) (hb hby at_88) hr) (by decide) (by decide) ?_
        show own_Q_law Z _ _ _ _ _ _ _ _ _ _ _ _ _ _ _ _ h0 n0 _ T27.heap _
        rw [e27]
        exact ⟨rfl, N27, rfl⟩
  · rw [hs1]
    refine o_iloadN X0 hx (hb hby at_8) rfl ?_
    refine ogo (S' := s₁.setTop (mkF m 11 #[.val (.int a_), .val (.int b_), .val (.int c_), .val (.int (2 : Int32)), .unset, .unset, .unset, .unset, .unset] [(.int (2147483647 : Int32)), (.int b_)])) (X0.ldcInt hx hown (mvT hZ w0) (g := (mkF m 9 #[.val (.int a_), .val (.int b_), .val (.int c_), .val (.int (2 : Int32)), .unset, .unset, .unset, .unset, .unset] [(.int b_)])) rfl (hb hby at_9)) ?_
    refine o_iand X0 hx (hb hby at_11) ?_
    refine o_bipush X0 hx (7 : Int32) (hb hby at_12) rfl ?_
    refine o_irem X0 hx (hb hby at_14) (by decide) ?_
    refine o_istore X0 hx (l' := #[.val (.int a_), .val (.int b_), .val (.int c_), .val (.int (2 : Int32)), .val (.int ((b_ &&& (2147483647 : Int32)) % (7 : Int32))), .unset, .unset, .unset, .unset]) (hb hby at_15) rfl ?_
    refine o_iloadN X0 hx (hb hby at_17) rfl ?_
    refine o_iconst X0 hx (1 : Int32) (hb hby at_18) rfl ?_
    refine o_iand X0 hx (hb hby at_19) ?_
    by_cases hc28 : (c_ &&& (1 : Int32)) = (0 : Int32)
    · refine o_ifYes X0 hx 27 (hb hby at_20) (teq hc28).1 (by decide) (by decide) ?_
      refine o_iconst X0 hx (0 : Int32) (hb hby at_27) rfl ?_
      refine o_istore X0 hx (l' := #[.val (.int a_), .val (.int b_), .val (.int c_), .val (.int (2 : Int32)), .val (.int ((b_ &&& (2147483647 : Int32)) % (7 : Int32))), .val (.int (0 : Int32)), .unset, .unset, .unset]) (hb hby at_28) rfl ?_
      refine o_iloadN X0 hx (hb hby at_30) rfl ?_
      obtain ⟨_, _, ⟨T29, L29, kc29, n29⟩, -, X29, ⟨Lc29, hQ29, l29, y29, z29⟩, st29⟩ := Jvm.LawKit.callS X0 hx (y := yM0) hown (mvT hZ w1) (mvT hZ w2) (mvT hZ w3) (mvT hZ w4) (by decide) (backOf (W := 0) (rm_exemption l Z a0 hw [] s_REFINANCE_SUBORDINATED s_FORECLOSURE s_REFINANCE_SUBORDINATED1 s_BUYER_LOW_MODERATE_INCOME s_FHA_ASSIGNMENT s_SALE s_FORECLOSURE1 s_DEED_IN_LIEU s_DEATH s_DEATH1 s_REFINANCE s_DEED_IN_LIEU1 s_FHA_ASSIGNMENT1 (2 : Int32) h0 n0 SB O0 ) hZ w4 w3 (by decide) (by decide)) (g := (mkF m 31 #[.val (.int a_), .val (.int b_), .val (.int c_), .val (.int (2 : Int32)), .val (.int ((b_ &&& (2147483647 : Int32)) % (7 : Int32))), .val (.int (0 : Int32)), .unset, .unset, .unset] [(.int (2 : Int32))])) rfl (by rw [hml]; rfl) (argsL := [(.int (2 : Int32))]) (rest := []) (lenOf own_pd0 rfl) rfl (by show 2 * 0 + _ ≤ _; exact Nat.le_of_eq rfl) (hb hby at_31) (fun _ _ => ⟨rfl, e0, (by decide : 0 + 0 ≤ _), (by decide : 0 + 0 ≤ _)⟩)
      dsimp only [Pt.U, Pt.locs, Pt.cells, Pt.slots] at X29 l29 y29 z29 st29 hQ29
      subst l29 y29 z29
      obtain ⟨rfl, Nq29, e29⟩ := hQ29
      have N29 := Fr.app N0 Nq29
      refine ogo (S' := T29.setTop (mkF m 34 #[.val (.int a_), .val (.int b_), .val (.int c_), .val (.int (2 : Int32)), .val (.int ((b_ &&& (2147483647 : Int32)) % (7 : Int32))), .val (.int (0 : Int32)), .unset, .unset, .unset] [(.ref (own_exm s_REFINANCE_SUBORDINATED s_BUYER_LOW_MODERATE_INCOME s_FORECLOSURE1 s_DEED_IN_LIEU1 s_FHA_ASSIGNMENT1 s_DEATH (2 : Int32)))])) st29 ?_
      rw [show (own_exm s_REFINANCE_SUBORDINATED s_BUYER_LOW_MODERATE_INCOME s_FORECLOSURE1 s_DEED_IN_LIEU1 s_FHA_ASSIGNMENT1 s_DEATH (2 : Int32)) = s_FORECLOSURE1 from by simp [own_exm]]
      refine o_astore X29 hx (l' := #[.val (.int a_), .val (.int b_), .val (.int c_), .val (.int (2 : Int32)), .val (.int ((b_ &&& (2147483647 : Int32)) % (7 : Int32))), .val (.int (0 : Int32)), .val (.ref s_FORECLOSURE1), .unset, .unset]) (hb hby at_34) rfl rfl ?_
      refine o_iload X29 hx (hb hby at_36) rfl ?_
      obtain ⟨_, _, ⟨T30, L30, kc30, n30⟩, -, X30, ⟨Lc30, hQ30, l30, y30, z30⟩, st30⟩ := Jvm.LawKit.callS X29 hx (y := yM1) hown (mvT hZ w8) (mvT hZ w9) (mvT hZ w3) (mvT hZ w10) (by decide) (backOf (W := 0) (rm_event l Z a0 hw [] s_REFINANCE_SUBORDINATED s_FORECLOSURE s_REFINANCE_SUBORDINATED1 s_BUYER_LOW_MODERATE_INCOME s_FHA_ASSIGNMENT s_SALE s_FORECLOSURE1 s_DEED_IN_LIEU s_DEATH s_DEATH1 s_REFINANCE s_DEED_IN_LIEU1 s_FHA_ASSIGNMENT1 ((b_ &&& (2147483647 : Int32)) % (7 : Int32)) h0 n0 SB O0 ) hZ w10 w3 (by decide) (by decide)) (g := (mkF m 38 #[.val (.int a_), .val (.int b_), .val (.int c_), .val (.int (2 : Int32)), .val (.int ((b_ &&& (2147483647 : Int32)) % (7 : Int32))), .val (.int (0 : Int32)), .val (.ref s_FORECLOSURE1), .unset, .unset] [(.int ((b_ &&& (2147483647 : Int32)) % (7 : Int32)))])) rfl (by rw [hml]; rfl) (argsL := [(.int ((b_ &&& (2147483647 : Int32)) % (7 : Int32)))]) (rest := []) (lenOf own_pd1 rfl) rfl (by show 2 * 0 + _ ≤ _; exact Nat.le_of_eq rfl) (hb hby at_38) (fun _ _ => ⟨rfl, e29, (by decide : 0 + 0 ≤ _), (by decide : 0 + 0 ≤ _)⟩)
      dsimp only [Pt.U, Pt.locs, Pt.cells, Pt.slots] at X30 l30 y30 z30 st30 hQ30
      subst l30 y30 z30
      obtain ⟨rfl, Nq30, e30⟩ := hQ30
      have N30 := Fr.app N29 Nq30
      refine ogo (S' := T30.setTop (mkF m 41 #[.val (.int a_), .val (.int b_), .val (.int c_), .val (.int (2 : Int32)), .val (.int ((b_ &&& (2147483647 : Int32)) % (7 : Int32))), .val (.int (0 : Int32)), .val (.ref s_FORECLOSURE1), .unset, .unset] [(.ref (own_evt s_SALE s_REFINANCE s_REFINANCE_SUBORDINATED1 s_FORECLOSURE s_DEED_IN_LIEU s_FHA_ASSIGNMENT s_DEATH1 ((b_ &&& (2147483647 : Int32)) % (7 : Int32))))])) st30 ?_
      refine o_astore X30 hx (l' := #[.val (.int a_), .val (.int b_), .val (.int c_), .val (.int (2 : Int32)), .val (.int ((b_ &&& (2147483647 : Int32)) % (7 : Int32))), .val (.int (0 : Int32)), .val (.ref s_FORECLOSURE1), .val (.ref (own_evt s_SALE s_REFINANCE s_REFINANCE_SUBORDINATED1 s_FORECLOSURE s_DEED_IN_LIEU s_FHA_ASSIGNMENT s_DEATH1 ((b_ &&& (2147483647 : Int32)) % (7 : Int32)))), .unset]) (hb hby at_41) rfl rfl ?_
      refine o_iload X30 hx (hb hby at_43) rfl ?_
      refine o_iloadN X30 hx (hb hby at_45) rfl ?_
      obtain ⟨_, _, ⟨T31, L31, kc31, n31⟩, -, X31, ⟨Lc31, hQ31, l31, y31, z31⟩, st31⟩ := Jvm.LawKit.callS X30 hx (y := yM2) hown (mvT hZ w14) (mvT hZ w15) (mvT hZ w3) (mvT hZ w16) (by decide) (backOf (W := 1) (rm_coveredEvent l Z a0 hw []  (2 : Int32) h0 n0 O0 ) hZ w16 w3 (by decide) (by decide)) (g := (mkF m 46 #[.val (.int a_), .val (.int b_), .val (.int c_), .val (.int (2 : Int32)), .val (.int ((b_ &&& (2147483647 : Int32)) % (7 : Int32))), .val (.int (0 : Int32)), .val (.ref s_FORECLOSURE1), .val (.ref (own_evt s_SALE s_REFINANCE s_REFINANCE_SUBORDINATED1 s_FORECLOSURE s_DEED_IN_LIEU s_FHA_ASSIGNMENT s_DEATH1 ((b_ &&& (2147483647 : Int32)) % (7 : Int32)))), .unset] [(.int (2 : Int32)), (.int ((b_ &&& (2147483647 : Int32)) % (7 : Int32)))])) rfl (by rw [hml]; rfl) (argsL := [(.int (2 : Int32))]) (rest := [(.int ((b_ &&& (2147483647 : Int32)) % (7 : Int32)))]) (lenOf own_pd2 rfl) rfl (by show 2 * 0 + _ ≤ _; exact Nat.le_of_eq rfl) (hb hby at_46) (fun _ _ => ⟨rfl, e30, (by decide : 0 + 0 ≤ _), (by decide : 0 + 0 ≤ _)⟩)
      dsimp only [Pt.U, Pt.locs, Pt.cells, Pt.slots] at X31 l31 y31 z31 st31 hQ31
      subst l31 y31 z31
      obtain ⟨rfl, Nq31, e31⟩ := hQ31
      have N31 := Fr.app N30 Nq31
      refine ogo (S' := T31.setTop (mkF m 49 #[.val (.int a_), .val (.int b_), .val (.int c_), .val (.int (2 : Int32)), .val (.int ((b_ &&& (2147483647 : Int32)) % (7 : Int32))), .val (.int (0 : Int32)), .val (.ref s_FORECLOSURE1), .val (.ref (own_evt s_SALE s_REFINANCE s_REFINANCE_SUBORDINATED1 s_FORECLOSURE s_DEED_IN_LIEU s_FHA_ASSIGNMENT s_DEATH1 ((b_ &&& (2147483647 : Int32)) % (7 : Int32)))), .unset] [(.int (own_cov (2 : Int32))), (.int ((b_ &&& (2147483647 : Int32)) % (7 : Int32)))])) st31 ?_
      rw [show (own_cov (2 : Int32)) = (3 : Int32) from by decide]
      by_cases hc32 : ((b_ &&& (2147483647 : Int32)) % (7 : Int32)) = (3 : Int32)
      · refine o_icmpNo X31 hx (hb hby at_49) (teq hc32).2 ?_
        refine o_iload X31 hx (hb hby at_52) rfl ?_
        refine o_ifNo X31 hx (hb hby at_54) (teq (by decide : (0 : Int32) = (0 : Int32))).2 ?_
        refine o_iloadN X31 hx (hb hby at_57) rfl ?_
        refine o_iconst X31 hx (1 : Int32) (hb hby at_58) rfl ?_
        refine o_icmpNo X31 hx (hb hby at_59) (feq (by decide : ¬ ((2 : Int32) = (1 : Int32)))).1 ?_
        refine o_iconst X31 hx (1 : Int32) (hb hby at_62) rfl ?_
        refine o_goto X31 hx 67 (hb hby at_63) (by decide) (by decide) ?_
        refine o_istore X31 hx (l' := #[.val (.int a_), .val (.int b_), .val (.int c_), .val (.int (2 : Int32)), .val (.int ((b_ &&& (2147483647 : Int32)) % (7 : Int32))), .val (.int (0 : Int32)), .val (.ref s_FORECLOSURE1), .val (.ref (own_evt s_SALE s_REFINANCE s_REFINANCE_SUBORDINATED1 s_FORECLOSURE s_DEED_IN_LIEU s_FHA_ASSIGNMENT s_DEATH1 ((b_ &&& (2147483647 : Int32)) % (7 : Int32)))), .val (.int (1 : Int32))]) (hb hby at_67) rfl ?_
        refine o_aload X31 hx (hb hby at_69) rfl rfl ?_
        refine o_aload X31 hx (hb hby at_71) rfl rfl ?_
        refine o_iload X31 hx (hb hby at_73) rfl ?_
        obtain ⟨cq33, kq33, q33a, q33b, q33c⟩ := isOf hZ e31 (Exa.ext O0.2 E_s_FORECLOSURE1)
        obtain ⟨_, _, ⟨T33, L33, kc33, n33⟩, -, X33, ⟨Lc33, hQ33, l33, y33, z33⟩, st33⟩ := X31.virtualBack hx (y := yM3) (z := yM3) hown (mvT hZ w17) (mvT hZ w18) (notFace_of_selects (args := #[]) (mvT hZ w20)) (mvT hZ w20) (mvT hZ w19) (by decide) (backOf (W := 0) (rm_covers l Z a0 hw []  s_FORECLOSURE1 (own_evt s_SALE s_REFINANCE s_REFINANCE_SUBORDINATED1 s_FORECLOSURE s_DEED_IN_LIEU s_FHA_ASSIGNMENT s_DEATH1 ((b_ &&& (2147483647 : Int32)) % (7 : Int32))) (0 : Int32) s_FORECLOSURE (0 : Int32) h0 n0 O0 (Fld.ext O0.2 F_s_FORECLOSURE1_event) (Fld.ext O0.2 F_s_FORECLOSURE1_byBuyersIncome)) hZ w21 w6 (by decide) (by decide)) q33a q33c (g := (mkF m 75 #[.val (.int a_), .val (.int b_), .val (.int c_), .val (.int (2 : Int32)), .val (.int ((b_ &&& (2147483647 : Int32)) % (7 : Int32))), .val (.int (0 : Int32)), .val (.ref s_FORECLOSURE1), .val (.ref (own_evt s_SALE s_REFINANCE s_REFINANCE_SUBORDINATED1 s_FORECLOSURE s_DEED_IN_LIEU s_FHA_ASSIGNMENT s_DEATH1 ((b_ &&& (2147483647 : Int32)) % (7 : Int32)))), .val (.int (1 : Int32))] [(.int (0 : Int32)), (.ref (own_evt s_SALE s_REFINANCE s_REFINANCE_SUBORDINATED1 s_FORECLOSURE s_DEED_IN_LIEU s_FHA_ASSIGNMENT s_DEATH1 ((b_ &&& (2147483647 : Int32)) % (7 : Int32)))), (.ref s_FORECLOSURE1)])) rfl (by rw [hml]; rfl) (Steps.refl _) (argsL := [(.ref (own_evt s_SALE s_REFINANCE s_REFINANCE_SUBORDINATED1 s_FORECLOSURE s_DEED_IN_LIEU s_FHA_ASSIGNMENT s_DEATH1 ((b_ &&& (2147483647 : Int32)) % (7 : Int32)))), (.int (0 : Int32))]) (rest := []) (lenOf own_pd3 rfl) rfl (by show 2 * 0 + _ ≤ _; exact Nat.le_of_eq rfl) (hb hby at_75) (fun _ _ => ⟨rfl, e31, (by decide : 0 + 0 ≤ _), (by decide : 0 + 0 ≤ _)⟩)
        dsimp only [Pt.U, Pt.locs, Pt.cells, Pt.slots] at X33 l33 y33 z33 st33 hQ33
        subst l33 y33 z33
        obtain ⟨rfl, Nq33, e33⟩ := hQ33
        have N33 := Fr.app N31 Nq33
        refine otr (S' := T33.setTop (mkF m 78 #[.val (.int a_), .val (.int b_), .val (.int c_), .val (.int (2 : Int32)), .val (.int ((b_ &&& (2147483647 : Int32)) % (7 : Int32))), .val (.int (0 : Int32)), .val (.ref s_FORECLOSURE1), .val (.ref (own_evt s_SALE s_REFINANCE s_REFINANCE_SUBORDINATED1 s_FORECLOSURE s_DEED_IN_LIEU s_FHA_ASSIGNMENT s_DEATH1 ((b_ &&& (2147483647 : Int32)) % (7 : Int32)))), .val (.int (1 : Int32))] [(.int (own_cvs s_FORECLOSURE (own_evt s_SALE s_REFINANCE s_REFINANCE_SUBORDINATED1 s_FORECLOSURE s_DEED_IN_LIEU s_FHA_ASSIGNMENT s_DEATH1 ((b_ &&& (2147483647 : Int32)) % (7 : Int32))) (0 : Int32) (0 : Int32)))])) st33 ?_
        rw [show (own_cvs s_FORECLOSURE (own_evt s_SALE s_REFINANCE s_REFINANCE_SUBORDINATED1 s_FORECLOSURE s_DEED_IN_LIEU s_FHA_ASSIGNMENT s_DEATH1 ((b_ &&& (2147483647 : Int32)) % (7 : Int32))) (0 : Int32) (0 : Int32)) = (1 : Int32) from by rw [hc32]; simp [own_cvs, own_evt]]
        refine o_iload X33 hx (hb hby at_78) rfl ?_
        refine o_icmpNo X33 hx (hb hby at_80) (teq (by decide : (1 : Int32) = (1 : Int32))).2 ?_
        refine o_iconst X33 hx (1 : Int32) (hb hby at_83) rfl ?_
        refine o_goto X33 hx 88 (hb hby at_84) (by decide) (by decide) ?_
        refine oend X33 hlk (v := some (.int (1 : Int32))) (fun h => by rw [hret] at h; cases h) (fun fs hr => retN X33 hx (t := .boolean) hret (by simp) (hb hby at_88) hr) (by decide) (by decide) ?_
        show own_Q_law Z _ _ _ _ _ _ _ _ _ _ _ _ _ _ _ _ h0 n0 _ T33.heap _
        rw [e33]
        exact ⟨rfl, N33, rfl⟩
      · refine o_icmpYes X31 hx 66 (hb hby at_49) (feq hc32).2 (by decide) (by decide) ?_
        refine o_iconst X31 hx (0 : Int32) (hb hby at_66) rfl ?_
        refine o_istore X31 hx (l' := #[.val (.int a_), .val (.int b_), .val (.int c_), .val (.int (2 : Int32)), .val (.int ((b_ &&& (2147483647 : Int32)) % (7 : Int32))), .val (.int (0 : Int32)), .val (.ref s_FORECLOSURE1), .val (.ref (own_evt s_SALE s_REFINANCE s_REFINANCE_SUBORDINATED1 s_FORECLOSURE s_DEED_IN_LIEU s_FHA_ASSIGNMENT s_DEATH1 ((b_ &&& (2147483647 : Int32)) % (7 : Int32)))), .val (.int (0 : Int32))]) (hb hby at_67) rfl ?_
        refine o_aload X31 hx (hb hby at_69) rfl rfl ?_
        refine o_aload X31 hx (hb hby at_71) rfl rfl ?_
        refine o_iload X31 hx (hb hby at_73) rfl ?_
        obtain ⟨cq34, kq34, q34a, q34b, q34c⟩ := isOf hZ e31 (Exa.ext O0.2 E_s_FORECLOSURE1)
        obtain ⟨_, _, ⟨T34, L34, kc34, n34⟩, -, X34, ⟨Lc34, hQ34, l34, y34, z34⟩, st34⟩ := X31.virtualBack hx (y := yM3) (z := yM3) hown (mvT hZ w17) (mvT hZ w18) (notFace_of_selects (args := #[]) (mvT hZ w20)) (mvT hZ w20) (mvT hZ w19) (by decide) (backOf (W := 0) (rm_covers l Z a0 hw []  s_FORECLOSURE1 (own_evt s_SALE s_REFINANCE s_REFINANCE_SUBORDINATED1 s_FORECLOSURE s_DEED_IN_LIEU s_FHA_ASSIGNMENT s_DEATH1 ((b_ &&& (2147483647 : Int32)) % (7 : Int32))) (0 : Int32) s_FORECLOSURE (0 : Int32) h0 n0 O0 (Fld.ext O0.2 F_s_FORECLOSURE1_event) (Fld.ext O0.2 F_s_FORECLOSURE1_byBuyersIncome)) hZ w21 w6 (by decide) (by decide)) q34a q34c (g := (mkF m 75 #[.val (.int a_), .val (.int b_), .val (.int c_), .val (.int (2 : Int32)), .val (.int ((b_ &&& (2147483647 : Int32)) % (7 : Int32))), .val (.int (0 : Int32)), .val (.ref s_FORECLOSURE1), .val (.ref (own_evt s_SALE s_REFINANCE s_REFINANCE_SUBORDINATED1 s_FORECLOSURE s_DEED_IN_LIEU s_FHA_ASSIGNMENT s_DEATH1 ((b_ &&& (2147483647 : Int32)) % (7 : Int32)))), .val (.int (0 : Int32))] [(.int (0 : Int32)), (.ref (own_evt s_SALE s_REFINANCE s_REFINANCE_SUBORDINATED1 s_FORECLOSURE s_DEED_IN_LIEU s_FHA_ASSIGNMENT s_DEATH1 ((b_ &&& (2147483647 : Int32)) % (7 : Int32)))), (.ref s_FORECLOSURE1)])) rfl (by rw [hml]; rfl) (Steps.refl _) (argsL := [(.ref (own_evt s_SALE s_REFINANCE s_REFINANCE_SUBORDINATED1 s_FORECLOSURE s_DEED_IN_LIEU s_FHA_ASSIGNMENT s_DEATH1 ((b_ &&& (2147483647 : Int32)) % (7 : Int32)))), (.int (0 : Int32))]) (rest := []) (lenOf own_pd3 rfl) rfl (by show 2 * 0 + _ ≤ _; exact Nat.le_of_eq rfl) (hb hby at_75) (fun _ _ => ⟨rfl, e31, (by decide : 0 + 0 ≤ _), (by decide : 0 + 0 ≤ _)⟩)
        dsimp only [Pt.U, Pt.locs, Pt.cells, Pt.slots] at X34 l34 y34 z34 st34 hQ34
        subst l34 y34 z34
        obtain ⟨rfl, Nq34, e34⟩ := hQ34
        have N34 := Fr.app N31 Nq34
        refine otr (S' := T34.setTop (mkF m 78 #[.val (.int a_), .val (.int b_), .val (.int c_), .val (.int (2 : Int32)), .val (.int ((b_ &&& (2147483647 : Int32)) % (7 : Int32))), .val (.int (0 : Int32)), .val (.ref s_FORECLOSURE1), .val (.ref (own_evt s_SALE s_REFINANCE s_REFINANCE_SUBORDINATED1 s_FORECLOSURE s_DEED_IN_LIEU s_FHA_ASSIGNMENT s_DEATH1 ((b_ &&& (2147483647 : Int32)) % (7 : Int32)))), .val (.int (0 : Int32))] [(.int (own_cvs s_FORECLOSURE (own_evt s_SALE s_REFINANCE s_REFINANCE_SUBORDINATED1 s_FORECLOSURE s_DEED_IN_LIEU s_FHA_ASSIGNMENT s_DEATH1 ((b_ &&& (2147483647 : Int32)) % (7 : Int32))) (0 : Int32) (0 : Int32)))])) st34 ?_
        have ne78 := own_evne SB (own_rem7 b_) (c := (3 : Int32)) (by decide) hc32
        rw [show own_evt s_SALE s_REFINANCE s_REFINANCE_SUBORDINATED1 s_FORECLOSURE s_DEED_IN_LIEU s_FHA_ASSIGNMENT s_DEATH1 (3 : Int32) = s_FORECLOSURE from by simp [own_evt]] at ne78
        rw [show (own_cvs s_FORECLOSURE (own_evt s_SALE s_REFINANCE s_REFINANCE_SUBORDINATED1 s_FORECLOSURE s_DEED_IN_LIEU s_FHA_ASSIGNMENT s_DEATH1 ((b_ &&& (2147483647 : Int32)) % (7 : Int32))) (0 : Int32) (0 : Int32)) = (0 : Int32) from if_neg ne78]
        refine o_iload X34 hx (hb hby at_78) rfl ?_
        refine o_icmpNo X34 hx (hb hby at_80) (teq (by decide : (0 : Int32) = (0 : Int32))).2 ?_
        refine o_iconst X34 hx (1 : Int32) (hb hby at_83) rfl ?_
        refine o_goto X34 hx 88 (hb hby at_84) (by decide) (by decide) ?_
        refine oend X34 hlk (v := some (.int (1 : Int32))) (fun h => by rw [hret] at h; cases h) (fun fs hr => retN X34 hx (t := .boolean) hret (by simp) (hb hby at_88) hr) (by decide) (by decide) ?_
        show own_Q_law Z _ _ _ _ _ _ _ _ _ _ _ _ _ _ _ _ h0 n0 _ T34.heap _
        rw [e34]
        exact ⟨rfl, N34, rfl⟩
    · refine o_ifNo X0 hx (hb hby at_20) (feq hc28).1 ?_
      refine o_iconst X0 hx (1 : Int32) (hb hby at_23) rfl ?_
      refine o_goto X0 hx 28 (hb hby at_24) (by decide) (by decide) ?_
      refine o_istore X0 hx (l' := #[.val (.int a_), .val (.int b_), .val (.int c_), .val (.int (2 : Int32)), .val (.int ((b_ &&& (2147483647 : Int32)) % (7 : Int32))), .val (.int (1 : Int32)), .unset, .unset, .unset]) (hb hby at_28) rfl ?_
      refine o_iloadN X0 hx (hb hby at_30) rfl ?_
      obtain ⟨_, _, ⟨T35, L35, kc35, n35⟩, -, X35, ⟨Lc35, hQ35, l35, y35, z35⟩, st35⟩ := Jvm.LawKit.callS X0 hx (y := yM0) hown (mvT hZ w1) (mvT hZ w2) (mvT hZ w3) (mvT hZ w4) (by decide) (backOf (W := 0) (rm_exemption l Z a0 hw [] s_REFINANCE_SUBORDINATED s_FORECLOSURE s_REFINANCE_SUBORDINATED1 s_BUYER_LOW_MODERATE_INCOME s_FHA_ASSIGNMENT s_SALE s_FORECLOSURE1 s_DEED_IN_LIEU s_DEATH s_DEATH1 s_REFINANCE s_DEED_IN_LIEU1 s_FHA_ASSIGNMENT1 (2 : Int32) h0 n0 SB O0 ) hZ w4 w3 (by decide) (by decide)) (g := (mkF m 31 #[.val (.int a_), .val (.int b_), .val (.int c_), .val (.int (2 : Int32)), .val (.int ((b_ &&& (2147483647 : Int32)) % (7 : Int32))), .val (.int (1 : Int32)), .unset, .unset, .unset] [(.int (2 : Int32))])) rfl (by rw [hml]; rfl) (argsL := [(.int (2 : Int32))]) (rest := []) (lenOf own_pd0 rfl) rfl (by show 2 * 0 + _ ≤ _; exact Nat.le_of_eq rfl) (hb hby at_31) (fun _ _ => ⟨rfl, e0, (by decide : 0 + 0 ≤ _), (by decide : 0 + 0 ≤ _)⟩)
      dsimp only [Pt.U, Pt.locs, Pt.cells, Pt.slots] at X35 l35 y35 z35 st35 hQ35
      subst l35 y35 z35
      obtain ⟨rfl, Nq35, e35⟩ := hQ35
      have N35 := Fr.app N0 Nq35
      refine ogo (S' := T35.setTop (mkF m 34 #[.val (.int a_), .val (.int b_), .val (.int c_), .val (.int (2 : Int32)), .val (.int ((b_ &&& (2147483647 : Int32)) % (7 : Int32))), .val (.int (1 : Int32)), .unset, .unset, .unset] [(.ref (own_exm s_REFINANCE_SUBORDINATED s_BUYER_LOW_MODERATE_INCOME s_FORECLOSURE1 s_DEED_IN_LIEU1 s_FHA_ASSIGNMENT1 s_DEATH (2 : Int32)))])) st35 ?_
      rw [show (own_exm s_REFINANCE_SUBORDINATED s_BUYER_LOW_MODERATE_INCOME s_FORECLOSURE1 s_DEED_IN_LIEU1 s_FHA_ASSIGNMENT1 s_DEATH (2 : Int32)) = s_FORECLOSURE1 from by simp [own_exm]]
      refine o_astore X35 hx (l' := #[.val (.int a_), .val (.int b_), .val (.int c_), .val (.int (2 : Int32)), .val (.int ((b_ &&& (2147483647 : Int32)) % (7 : Int32))), .val (.int (1 : Int32)), .val (.ref s_FORECLOSURE1), .unset, .unset]) (hb hby at_34) rfl rfl ?_
      refine o_iload X35 hx (hb hby at_36) rfl ?_
      obtain ⟨_, _, ⟨T36, L36, kc36, n36⟩, -, X36, ⟨Lc36, hQ36, l36, y36, z36⟩, st36⟩ := Jvm.LawKit.callS X35 hx (y := yM1) hown (mvT hZ w8) (mvT hZ w9) (mvT hZ w3) (mvT hZ w10) (by decide) (backOf (W := 0) (rm_event l Z a0 hw [] s_REFINANCE_SUBORDINATED s_FORECLOSURE s_REFINANCE_SUBORDINATED1 s_BUYER_LOW_MODERATE_INCOME s_FHA_ASSIGNMENT s_SALE s_FORECLOSURE1 s_DEED_IN_LIEU s_DEATH s_DEATH1 s_REFINANCE s_DEED_IN_LIEU1 s_FHA_ASSIGNMENT1 ((b_ &&& (2147483647 : Int32)) % (7 : Int32)) h0 n0 SB O0 ) hZ w10 w3 (by decide) (by decide)) (g := (mkF m 38 #[.val (.int a_), .val (.int b_), .val (.int c_), .val (.int (2 : Int32)), .val (.int ((b_ &&& (2147483647 : Int32)) % (7 : Int32))), .val (.int (1 : Int32)), .val (.ref s_FORECLOSURE1), .unset, .unset] [(.int ((b_ &&& (2147483647 : Int32)) % (7 : Int32)))])) rfl (by rw [hml]; rfl) (argsL := [(.int ((b_ &&& (2147483647 : Int32)) % (7 : Int32)))]) (rest := []) (lenOf own_pd1 rfl) rfl (by show 2 * 0 + _ ≤ _; exact Nat.le_of_eq rfl) (hb hby at_38) (fun _ _ => ⟨rfl, e35, (by decide : 0 + 0 ≤ _), (by decide : 0 + 0 ≤ _)⟩)
      dsimp only [Pt.U, Pt.locs, Pt.cells, Pt.slots] at X36 l36 y36 z36 st36 hQ36
      subst l36 y36 z36
      obtain ⟨rfl, Nq36, e36⟩ := hQ36
      have N36 := Fr.app N35 Nq36
      refine ogo (S' := T36.setTop (mkF m 41 #[.val (.int a_), .val (.int b_), .val (.int c_), .val (.int (2 : Int32)), .val (.int ((b_ &&& (2147483647 : Int32)) % (7 : Int32))), .val (.int (1 : Int32)), .val (.ref s_FORECLOSURE1), .unset, .unset] [(.ref (own_evt s_SALE s_REFINANCE s_REFINANCE_SUBORDINATED1 s_FORECLOSURE s_DEED_IN_LIEU s_FHA_ASSIGNMENT s_DEATH1 ((b_ &&& (2147483647 : Int32)) % (7 : Int32))))])) st36 ?_
      refine o_astore X36 hx (l' := #[.val (.int a_), .val (.int b_), .val (.int c_), .val (.int (2 : Int32)), .val (.int ((b_ &&& (2147483647 : Int32)) % (7 : Int32))), .val (.int (1 : Int32)), .val (.ref s_FORECLOSURE1), .val (.ref (own_evt s_SALE s_REFINANCE s_REFINANCE_SUBORDINATED1 s_FORECLOSURE s_DEED_IN_LIEU s_FHA_ASSIGNMENT s_DEATH1 ((b_ &&& (2147483647 : Int32)) % (7 : Int32)))), .unset]) (hb hby at_41) rfl rfl ?_
      refine o_iload X36 hx (hb hby at_43) rfl ?_
      refine o_iloadN X36 hx (hb hby at_45) rfl ?_
      obtain ⟨_, _, ⟨T37, L37, kc37, n37⟩, -, X37, ⟨Lc37, hQ37, l37, y37, z37⟩, st37⟩ := Jvm.LawKit.callS X36 hx (y := yM2) hown (mvT hZ w14) (mvT hZ w15) (mvT hZ w3) (mvT hZ w16) (by decide) (backOf (W := 1) (rm_coveredEvent l Z a0 hw []  (2 : Int32) h0 n0 O0 ) hZ w16 w3 (by decide) (by decide)) (g := (mkF m 46 #[.val (.int a_), .val (.int b_), .val (.int c_), .val (.int (2 : Int32)), .val (.int ((b_ &&& (2147483647 : Int32)) % (7 : Int32))), .val (.int (1 : Int32)), .val (.ref s_FORECLOSURE1), .val (.ref (own_evt s_SALE s_REFINANCE s_REFINANCE_SUBORDINATED1 s_FORECLOSURE s_DEED_IN_LIEU s_FHA_ASSIGNMENT s_DEATH1 ((b_ &&& (2147483647 : Int32)) % (7 : Int32)))), .unset] [(.int (2 : Int32)), (.int ((b_ &&& (2147483647 : Int32)) % (7 : Int32)))])) rfl (by rw [hml]; rfl) (argsL := [(.int (2 : Int32))]) (rest := [(.int ((b_ &&& (2147483647 : Int32)) % (7 : Int32)))]) (lenOf own_pd2 rfl) rfl (by show 2 * 0 + _ ≤ _; exact Nat.le_of_eq rfl) (hb hby at_46) (fun _ _ => ⟨rfl, e36, (by decide : 0 + 0 ≤ _), (by decide : 0 + 0 ≤ _)⟩)
      dsimp only [Pt.U, Pt.locs, Pt.cells, Pt.slots] at X37 l37 y37 z37 st37 hQ37
      subst l37 y37 z37
      obtain ⟨rfl, Nq37, e37⟩ := hQ37
      have N37 := Fr.app N36 Nq37
      refine ogo (S' := T37.setTop (mkF m 49 #[.val (.int a_), .val (.int b_), .val (.int c_), .val (.int (2 : Int32)), .val (.int ((b_ &&& (2147483647 : Int32)) % (7 : Int32))), .val (.int (1 : Int32)), .val (.ref s_FORECLOSURE1), .val (.ref (own_evt s_SALE s_REFINANCE s_REFINANCE_SUBORDINATED1 s_FORECLOSURE s_DEED_IN_LIEU s_FHA_ASSIGNMENT s_DEATH1 ((b_ &&& (2147483647 : Int32)) % (7 : Int32)))), .unset] [(.int (own_cov (2 : Int32))), (.int ((b_ &&& (2147483647 : Int32)) % (7 : Int32)))])) st37 ?_
      rw [show (own_cov (2 : Int32)) = (3 : Int32) from by decide]
      by_cases hc38 : ((b_ &&& (2147483647 : Int32)) % (7 : Int32)) = (3 : Int32)
      · refine o_icmpNo X37 hx (hb hby at_49) (teq hc38).2 ?_
        refine o_iload X37 hx (hb hby at_52) rfl ?_
        refine o_ifYes X37 hx 62 (hb hby at_54) (feq (by decide : ¬ ((1 : Int32) = (0 : Int32)))).2 (by decide) (by decide) ?_
        refine o_iconst X37 hx (1 : Int32) (hb hby at_62) rfl ?_
        refine o_goto X37 hx 67 (hb hby at_63) (by decide) (by decide) ?_
        refine o_istore X37 hx (l' := #[.val (.int a_), .val (.int b_), .val (.int c_), .val (.int (2 : Int32)), .val (.int ((b_ &&& (2147483647 : Int32)) % (7 : Int32))), .val (.int (1 : Int32)), .val (.ref s_FORECLOSURE1), .val (.ref (own_evt s_SALE s_REFINANCE s_REFINANCE_SUBORDINATED1 s_FORECLOSURE s_DEED_IN_LIEU s_FHA_ASSIGNMENT s_DEATH1 ((b_ &&& (2147483647 : Int32)) % (7 : Int32)))), .val (.int (1 : Int32))]) (hb hby at_67) rfl ?_
        refine o_aload X37 hx (hb hby at_69) rfl rfl ?_
        refine o_aload X37 hx (hb hby at_71) rfl rfl ?_
        refine o_iload X37 hx (hb hby at_73) rfl ?_
        obtain ⟨cq39, kq39, q39a, q39b, q39c⟩ := isOf hZ e37 (Exa.ext O0.2 E_s_FORECLOSURE1)
        obtain ⟨_, _, ⟨T39, L39, kc39, n39⟩, -, X39, ⟨Lc39, hQ39, l39, y39, z39⟩, st39⟩ := X37.virtualBack hx (y := yM3) (z := yM3) hown (mvT hZ w17) (mvT hZ w18) (notFace_of_selects (args := #[]) (mvT hZ w20)) (mvT hZ w20) (mvT hZ w19) (by decide) (backOf (W := 0) (rm_covers l Z a0 hw []  s_FORECLOSURE1 (own_evt s_SALE s_REFINANCE s_REFINANCE_SUBORDINATED1 s_FORECLOSURE s_DEED_IN_LIEU s_FHA_ASSIGNMENT s_DEATH1 ((b_ &&& (2147483647 : Int32)) % (7 : Int32))) (1 : Int32) s_FORECLOSURE (0 : Int32) h0 n0 O0 (Fld.ext O0.2 F_s_FORECLOSURE1_event) (Fld.ext O0.2 F_s_FORECLOSURE1_byBuyersIncome)) hZ w21 w6 (by decide) (by decide)) q39a q39c (g := (mkF m 75 #[.val (.int a_), .val (.int b_), .val (.int c_), .val (.int (2 : Int32)), .val (.int ((b_ &&& (2147483647 : Int32)) % (7 : Int32))), .val (.int (1 : Int32)), .val (.ref s_FORECLOSURE1), .val (.ref (own_evt s_SALE s_REFINANCE s_REFINANCE_SUBORDINATED1 s_FORECLOSURE s_DEED_IN_LIEU s_FHA_ASSIGNMENT s_DEATH1 ((b_ &&& (2147483647 : Int32)) % (7 : Int32)))), .val (.int (1 : Int32))] [(.int (1 : Int32)), (.ref (own_evt s_SALE s_REFINANCE s_REFINANCE_SUBORDINATED1 s_FORECLOSURE s_DEED_IN_LIEU s_FHA_ASSIGNMENT s_DEATH1 ((b_ &&& (2147483647 : Int32)) % (7 : Int32)))), (.ref s_FORECLOSURE1)])) rfl (by rw [hml]; rfl) (Steps.refl _) (argsL := [(.ref (own_evt s_SALE s_REFINANCE s_REFINANCE_SUBORDINATED1 s_FORECLOSURE s_DEED_IN_LIEU s_FHA_ASSIGNMENT s_DEATH1 ((b_ &&& (2147483647 : Int32)) % (7 : Int32)))), (.int (1 : Int32))]) (rest := []) (lenOf own_pd3 rfl) rfl (by show 2 * 0 + _ ≤ _; exact Nat.le_of_eq rfl) (hb hby at_75) (fun _ _ => ⟨rfl, e37, (by decide : 0 + 0 ≤ _), (by decide : 0 + 0 ≤ _)⟩)
        dsimp only [Pt.U, Pt.locs, Pt.cells, Pt.slots] at X39 l39 y39 z39 st39 hQ39
        subst l39 y39 z39
        obtain ⟨rfl, Nq39, e39⟩ := hQ39
        have N39 := Fr.app N37 Nq39
        refine otr (S' := T39.setTop (mkF m 78 #[.val (.int a_), .val (.int b_), .val (.int c_), .val (.int (2 : Int32)), .val (.int ((b_ &&& (2147483647 : Int32)) % (7 : Int32))), .val (.int (1 : Int32)), .val (.ref s_FORECLOSURE1), .val (.ref (own_evt s_SALE s_REFINANCE s_REFINANCE_SUBORDINATED1 s_FORECLOSURE s_DEED_IN_LIEU s_FHA_ASSIGNMENT s_DEATH1 ((b_ &&& (2147483647 : Int32)) % (7 : Int32)))), .val (.int (1 : Int32))] [(.int (own_cvs s_FORECLOSURE (own_evt s_SALE s_REFINANCE s_REFINANCE_SUBORDINATED1 s_FORECLOSURE s_DEED_IN_LIEU s_FHA_ASSIGNMENT s_DEATH1 ((b_ &&& (2147483647 : Int32)) % (7 : Int32))) (1 : Int32) (0 : Int32)))])) st39 ?_
        rw [show (own_cvs s_FORECLOSURE (own_evt s_SALE s_REFINANCE s_REFINANCE_SUBORDINATED1 s_FORECLOSURE s_DEED_IN_LIEU s_FHA_ASSIGNMENT s_DEATH1 ((b_ &&& (2147483647 : Int32)) % (7 : Int32))) (1 : Int32) (0 : Int32)) = (1 : Int32) from by rw [hc38]; simp [own_cvs, own_evt]]
        refine o_iload X39 hx (hb hby at_78) rfl ?_
        refine o_icmpNo X39 hx (hb hby at_80) (teq (by decide : (1 : Int32) = (1 : Int32))).2 ?_
        refine o_iconst X39 hx (1 : Int32) (hb hby at_83) rfl ?_
        refine o_goto X39 hx 88 (hb hby at_84) (by decide) (by decide) ?_
        refine oend X39 hlk (v := some (.int (1 : Int32))) (fun h => by rw [hret] at h; cases h) (fun fs hr => retN X39 hx (t := .boolean) hret (by simp) (hb hby at_88) hr) (by decide) (by decide) ?_
        show own_Q_law Z _ _ _ _ _ _ _ _ _ _ _ _ _ _ _ _ h0 n0 _ T39.heap _
        rw [e39]
        exact ⟨rfl, N39, rfl⟩
      · refine o_icmpYes X37 hx 66 (hb hby at_49) (feq hc38).2 (by decide) (by decide) ?_
        refine o_iconst X37 hx (0 : Int32) (hb hby at_66) rfl ?_
        refine o_istore X37 hx (l' := #[.val (.int a_), .val (.int b_), .val (.int c_), .val (.int (2 : Int32)), .val (.int ((b_ &&& (2147483647 : Int32)) % (7 : Int32))), .val (.int (1 : Int32)), .val (.ref s_FORECLOSURE1), .val (.ref (own_evt s_SALE s_REFINANCE s_REFINANCE_SUBORDINATED1 s_FORECLOSURE s_DEED_IN_LIEU s_FHA_ASSIGNMENT s_DEATH1 ((b_ &&& (2147483647 : Int32)) % (7 : Int32)))), .val (.int (0 : Int32))]) (hb hby at_67) rfl ?_
        refine o_aload X37 hx (hb hby at_69) rfl rfl ?_
        refine o_aload X37 hx (hb hby at_71) rfl rfl ?_
        refine o_iload X37 hx (hb hby at_73) rfl ?_
        obtain ⟨cq40, kq40, q40a, q40b, q40c⟩ := isOf hZ e37 (Exa.ext O0.2 E_s_FORECLOSURE1)
        obtain ⟨_, _, ⟨T40, L40, kc40, n40⟩, -, X40, ⟨Lc40, hQ40, l40, y40, z40⟩, st40⟩ := X37.virtualBack hx (y := yM3) (z := yM3) hown (mvT hZ w17) (mvT hZ w18) (notFace_of_selects (args := #[]) (mvT hZ w20)) (mvT hZ w20) (mvT hZ w19) (by decide) (backOf (W := 0) (rm_covers l Z a0 hw []  s_FORECLOSURE1 (own_evt s_SALE s_REFINANCE s_REFINANCE_SUBORDINATED1 s_FORECLOSURE s_DEED_IN_LIEU s_FHA_ASSIGNMENT s_DEATH1 ((b_ &&& (2147483647 : Int32)) % (7 : Int32))) (1 : Int32) s_FORECLOSURE (0 : Int32) h0 n0 O0 (Fld.ext O0.2 F_s_FORECLOSURE1_event) (Fld.ext O0.2 F_s_FORECLOSURE1_byBuyersIncome)) hZ w21 w6 (by decide) (by decide)) q40a q40c (g := (mkF m 75 #[.val (.int a_), .val (.int b_), .val (.int c_), .val (.int (2 : Int32)), .val (.int ((b_ &&& (2147483647 : Int32)) % (7 : Int32))), .val (.int (1 : Int32)), .val (.ref s_FORECLOSURE1), .val (.ref (own_evt s_SALE s_REFINANCE s_REFINANCE_SUBORDINATED1 s_FORECLOSURE s_DEED_IN_LIEU s_FHA_ASSIGNMENT s_DEATH1 ((b_ &&& (2147483647 : Int32)) % (7 : Int32)))), .val (.int (0 : Int32))] [(.int (1 : Int32)), (.ref (own_evt s_SALE s_REFINANCE s_REFINANCE_SUBORDINATED1 s_FORECLOSURE s_DEED_IN_LIEU s_FHA_ASSIGNMENT s_DEATH1 ((b_ &&& (2147483647 : Int32)) % (7 : Int32)))), (.ref s_FORECLOSURE1)])) rfl (by rw [hml]; rfl) (Steps.refl _) (argsL := [(.ref (own_evt s_SALE s_REFINANCE s_REFINANCE_SUBORDINATED1 s_FORECLOSURE s_DEED_IN_LIEU s_FHA_ASSIGNMENT s_DEATH1 ((b_ &&& (2147483647 : Int32)) % (7 : Int32)))), (.int (1 : Int32))]) (rest := []) (lenOf own_pd3 rfl) rfl (by show 2 * 0 + _ ≤ _; exact Nat.le_of_eq rfl) (hb hby at_75) (fun _ _ => ⟨rfl, e37, (by decide : 0 + 0 ≤ _), (by decide : 0 + 0 ≤ _)⟩)
        dsimp only [Pt.U, Pt.locs, Pt.cells, Pt.slots] at X40 l40 y40 z40 st40 hQ40
        subst l40 y40 z40
        obtain ⟨rfl, Nq40, e40⟩ := hQ40
        have N40 := Fr.app N37 Nq40
        refine otr (S' := T40.setTop (mkF m 78 #[.val (.int a_), .val (.int b_), .val (.int c_), .val (.int (2 : Int32)), .val (.int ((b_ &&& (2147483647 : Int32)) % (7 : Int32))), .val (.int (1 : Int32)), .val (.ref s_FORECLOSURE1), .val (.ref (own_evt s_SALE s_REFINANCE s_REFINANCE_SUBORDINATED1 s_FORECLOSURE s_DEED_IN_LIEU s_FHA_ASSIGNMENT s_DEATH1 ((b_ &&& (2147483647 : Int32)) % (7 : Int32)))), .val (.int (0 : Int32))] [(.int (own_cvs s_FORECLOSURE (own_evt s_SALE s_REFINANCE s_REFINANCE_SUBORDINATED1 s_FORECLOSURE s_DEED_IN_LIEU s_FHA_ASSIGNMENT s_DEATH1 ((b_ &&& (2147483647 : Int32)) % (7 : Int32))) (1 : Int32) (0 : Int32)))])) st40 ?_
        have ne78 := own_evne SB (own_rem7 b_) (c := (3 : Int32)) (by decide) hc38
        rw [show own_evt s_SALE s_REFINANCE s_REFINANCE_SUBORDINATED1 s_FORECLOSURE s_DEED_IN_LIEU s_FHA_ASSIGNMENT s_DEATH1 (3 : Int32) = s_FORECLOSURE from by simp [own_evt]] at ne78
        rw [show (own_cvs s_FORECLOSURE (own_evt s_SALE s_REFINANCE s_REFINANCE_SUBORDINATED1 s_FORECLOSURE s_DEED_IN_LIEU s_FHA_ASSIGNMENT s_DEATH1 ((b_ &&& (2147483647 : Int32)) % (7 : Int32))) (1 : Int32) (0 : Int32)) = (0 : Int32) from if_neg ne78]
        refine o_iload X40 hx (hb hby at_78) rfl ?_
        refine o_icmpNo X40 hx (hb hby at_80) (teq (by decide : (0 : Int32) = (0 : Int32))).2 ?_
        refine o_iconst X40 hx (1 : Int32) (hb hby at_83) rfl ?_
        refine o_goto X40 hx 88 (hb hby at_84) (by decide) (by decide) ?_
        refine oend X40 hlk (v := some (.int (1 : Int32))) (fun h => by rw [hret] at h; cases h) (fun fs hr => retN X40 hx (t := .boolean) hret (by simp) (hb hby at_88) hr) (by decide) (by decide) ?_
        show own_Q_law Z _ _ _ _ _ _ _ _ _ _ _ _ _ _ _ _ h0 n0 _ T40.heap _
        rw [e40]
        exact ⟨rfl, N40, rfl⟩
  · rw [hs1]
    refine o_iloadN X0 hx (hb hby at_8) rfl ?_
    refine ogo (S' := s₁.setTop (mkF m 11 #[.val (.int a_), .val (.int b_), .val (.int c_), .val (.int (3 : Int32)), .unset, .unset, .unset, .unset, .unset] [(.int (2147483647 : Int32)), (.int b_)])) (X0.ldcInt hx hown (mvT hZ w0) (g := (mkF m 9 #[.val (.int a_), .val (.int b_), .val (.int c_), .val (.int (3 : Int32)), .unset, .unset, .unset, .unset, .unset] [(.int b_)])) rfl (hb hby at_9)) ?_
    refine o_iand X0 hx (hb hby at_11) ?_
    refine o_bipush X0 hx (7 : Int32) (hb hby at_12) rfl ?_
    refine o_irem X0 hx (hb hby at_14) (by decide) ?_
    refine o_istore X0 hx (l' := #[.val (.int a_), .val (.int b_), .val (.int c_), .val (.int (3 : Int32)), .val (.int ((b_ &&& (2147483647 : Int32)) % (7 : Int32))), .unset, .unset, .unset, .unset]) (hb hby at_15) rfl ?_
    refine o_iloadN X0 hx (hb hby at_17) rfl ?_
    refine o_iconst X0 hx (1 : Int32) (hb hby at_18) rfl ?_
    refine o_iand X0 hx (hb hby at_19) ?_
    by_cases hc41 : (c_ &&& (1 : Int32)) = (0 : Int32)
    · refine o_ifYes X0 hx 27 (hb hby at_20) (teq hc41).1 (by decide) (by decide) ?_
      refine o_iconst X0 hx (0 : Int32) (hb hby at_27) rfl ?_
      refine o_istore X0 hx (l' := #[.val (.int a_), .val (.int b_), .val (.int c_), .val (.int (3 : Int32)), .val (.int ((b_ &&& (2147483647 : Int32)) % (7 : Int32))), .val (.int (0 : Int32)), .unset, .unset, .unset]) (hb hby at_28) rfl ?_
      refine o_iloadN X0 hx (hb hby at_30) rfl ?_
      obtain ⟨_, _, ⟨T42, L42, kc42, n42⟩, -, X42, ⟨Lc42, hQ42, l42, y42, z42⟩, st42⟩ := Jvm.LawKit.callS X0 hx (y := yM0) hown (mvT hZ w1) (mvT hZ w2) (mvT hZ w3) (mvT hZ w4) (by decide) (backOf (W := 0) (rm_exemption l Z a0 hw [] s_REFINANCE_SUBORDINATED s_FORECLOSURE s_REFINANCE_SUBORDINATED1 s_BUYER_LOW_MODERATE_INCOME s_FHA_ASSIGNMENT s_SALE s_FORECLOSURE1 s_DEED_IN_LIEU s_DEATH s_DEATH1 s_REFINANCE s_DEED_IN_LIEU1 s_FHA_ASSIGNMENT1 (3 : Int32) h0 n0 SB O0 ) hZ w4 w3 (by decide) (by decide)) (g := (mkF m 31 #[.val (.int a_), .val (.int b_), .val (.int c_), .val (.int (3 : Int32)), .val (.int ((b_ &&& (2147483647 : Int32)) % (7 : Int32))), .val (.int (0 : Int32)), .unset, .unset, .unset] [(.int (3 : Int32))])) rfl (by rw [hml]; rfl) (argsL := [(.int (3 : Int32))]) (rest := []) (lenOf own_pd0 rfl) rfl (by show 2 * 0 + _ ≤ _; exact Nat.le_of_eq rfl) (hb hby at_31) (fun _ _ => ⟨rfl, e0, (by decide : 0 + 0 ≤ _), (by decide : 0 + 0 ≤ _)⟩)
      dsimp only [Pt.U, Pt.locs, Pt.cells, Pt.slots] at X42 l42 y42 z42 st42 hQ42
      subst l42 y42 z42
      obtain ⟨rfl, Nq42, e42⟩ := hQ42
      have N42 := Fr.app N0 Nq42
      refine ogo (S' := T42.setTop (mkF m 34 #[.val (.int a_), .val (.int b_), .val (.int c_), .val (.int (3 : Int32)), .val (.int ((b_ &&& (2147483647 : Int32)) % (7 : Int32))), .val (.int (0 : Int32)), .unset, .unset, .unset] [(.ref (own_exm s_REFINANCE_SUBORDINATED s_BUYER_LOW_MODERATE_INCOME s_FORECLOSURE1 s_DEED_IN_LIEU1 s_FHA_ASSIGNMENT1 s_DEATH (3 : Int32)))])) st42 ?_
      rw [show (own_exm s_REFINANCE_SUBORDINATED s_BUYER_LOW_MODERATE_INCOME s_FORECLOSURE1 s_DEED_IN_LIEU1 s_FHA_ASSIGNMENT1 s_DEATH (3 : Int32)) = s_DEED_IN_LIEU1 from by simp [own_exm]]
      refine o_astore X42 hx (l' := #[.val (.int a_), .val (.int b_), .val (.int c_), .val (.int (3 : Int32)), .val (.int ((b_ &&& (2147483647 : Int32)) % (7 : Int32))), .val (.int (0 : Int32)), .val (.ref s_DEED_IN_LIEU1), .unset, .unset]) (hb hby at_34) rfl rfl ?_
      refine o_iload X42 hx (hb hby at_36) rfl ?_
      obtain ⟨_, _, ⟨T43, L43, kc43, n43⟩, -, X43, ⟨Lc43, hQ43, l43, y43, z43⟩, st43⟩ := Jvm.LawKit.callS X42 hx (y := yM1) hown (mvT hZ w8) (mvT hZ w9) (mvT hZ w3) (mvT hZ w10) (by decide) (backOf (W := 0) (rm_event l Z a0 hw [] s_REFINANCE_SUBORDINATED s_FORECLOSURE s_REFINANCE_SUBORDINATED1 s_BUYER_LOW_MODERATE_INCOME s_FHA_ASSIGNMENT s_SALE s_FORECLOSURE1 s_DEED_IN_LIEU s_DEATH s_DEATH1 s_REFINANCE s_DEED_IN_LIEU1 s_FHA_ASSIGNMENT1 ((b_ &&& (2147483647 : Int32)) % (7 : Int32)) h0 n0 SB O0 ) hZ w10 w3 (by decide) (by decide)) (g := (mkF m 38 #[.val (.int a_), .val (.int b_), .val (.int c_), .val (.int (3 : Int32)), .val (.int ((b_ &&& (2147483647 : Int32)) % (7 : Int32))), .val (.int (0 : Int32)), .val (.ref s_DEED_IN_LIEU1), .unset, .unset] [(.int ((b_ &&& (2147483647 : Int32)) % (7 : Int32)))])) rfl (by rw [hml]; rfl) (argsL := [(.int ((b_ &&& (2147483647 : Int32)) % (7 : Int32)))]) (rest := []) (lenOf own_pd1 rfl) rfl (by show 2 * 0 + _ ≤ _; exact Nat.le_of_eq rfl) (hb hby at_38) (fun _ _ => ⟨rfl, e42, (by decide : 0 + 0 ≤ _), (by decide : 0 + 0 ≤ _)⟩)
      dsimp only [Pt.U, Pt.locs, Pt.cells, Pt.slots] at X43 l43 y43 z43 st43 hQ43
      subst l43 y43 z43
      obtain ⟨rfl, Nq43, e43⟩ := hQ43
      have N43 := Fr.app N42 Nq43
      refine ogo (S' := T43.setTop (mkF m 41 #[.val (.int a_), .val (.int b_), .val (.int c_), .val (.int (3 : Int32)), .val (.int ((b_ &&& (2147483647 : Int32)) % (7 : Int32))), .val (.int (0 : Int32)), .val (.ref s_DEED_IN_LIEU1), .unset, .unset] [(.ref (own_evt s_SALE s_REFINANCE s_REFINANCE_SUBORDINATED1 s_FORECLOSURE s_DEED_IN_LIEU s_FHA_ASSIGNMENT s_DEATH1 ((b_ &&& (2147483647 : Int32)) % (7 : Int32))))])) st43 ?_
      refine o_astore X43 hx (l' := #[.val (.int a_), .val (.int b_), .val (.int c_), .val (.int (3 : Int32)), .val (.int ((b_ &&& (2147483647 : Int32)) % (7 : Int32))), .val (.int (0 : Int32)), .val (.ref s_DEED_IN_LIEU1), .val (.ref (own_evt s_SALE s_REFINANCE s_REFINANCE_SUBORDINATED1 s_FORECLOSURE s_DEED_IN_LIEU s_FHA_ASSIGNMENT s_DEATH1 ((b_ &&& (2147483647 : Int32)) % (7 : Int32)))), .unset]) (hb hby at_41) rfl rfl ?_
      refine o_iload X43 hx (hb hby at_43) rfl ?_
      refine o_iloadN X43 hx (hb hby at_45) rfl ?_
      obtain ⟨_, _, ⟨T44, L44, kc44, n44⟩, -, X44, ⟨Lc44, hQ44, l44, y44, z44⟩, st44⟩ := Jvm.LawKit.callS X43 hx (y := yM2) hown (mvT hZ w14) (mvT hZ w15) (mvT hZ w3) (mvT hZ w16) (by decide) (backOf (W := 1) (rm_coveredEvent l Z a0 hw []  (3 : Int32) h0 n0 O0 ) hZ w16 w3 (by decide) (by decide)) (g := (mkF m 46 #[.val (.int a_), .val (.int b_), .val (.int c_), .val (.int (3 : Int32)), .val (.int ((b_ &&& (2147483647 : Int32)) % (7 : Int32))), .val (.int (0 : Int32)), .val (.ref s_DEED_IN_LIEU1), .val (.ref (own_evt s_SALE s_REFINANCE s_REFINANCE_SUBORDINATED1 s_FORECLOSURE s_DEED_IN_LIEU s_FHA_ASSIGNMENT s_DEATH1 ((b_ &&& (2147483647 : Int32)) % (7 : Int32)))), .unset] [(.int (3 : Int32)), (.int ((b_ &&& (2147483647 : Int32)) % (7 : Int32)))])) rfl (by rw [hml]; rfl) (argsL := [(.int (3 : Int32))]) (rest := [(.int ((b_ &&& (2147483647 : Int32)) % (7 : Int32)))]) (lenOf own_pd2 rfl) rfl (by show 2 * 0 + _ ≤ _; exact Nat.le_of_eq rfl) (hb hby at_46) (fun _ _ => ⟨rfl, e43, (by decide : 0 + 0 ≤ _), (by decide : 0 + 0 ≤ _)⟩)
      dsimp only [Pt.U, Pt.locs, Pt.cells, Pt.slots] at X44 l44 y44 z44 st44 hQ44
      subst l44 y44 z44
      obtain ⟨rfl, Nq44, e44⟩ := hQ44
      have N44 := Fr.app N43 Nq44
      refine ogo (S' := T44.setTop (mkF m 49 #[.val (.int a_), .val (.int b_), .val (.int c_), .val (.int (3 : Int32)), .val (.int ((b_ &&& (2147483647 : Int32)) % (7 : Int32))), .val (.int (0 : Int32)), .val (.ref s_DEED_IN_LIEU1), .val (.ref (own_evt s_SALE s_REFINANCE s_REFINANCE_SUBORDINATED1 s_FORECLOSURE s_DEED_IN_LIEU s_FHA_ASSIGNMENT s_DEATH1 ((b_ &&& (2147483647 : Int32)) % (7 : Int32)))), .unset] [(.int (own_cov (3 : Int32))), (.int ((b_ &&& (2147483647 : Int32)) % (7 : Int32)))])) st44 ?_
      rw [show (own_cov (3 : Int32)) = (4 : Int32) from by decide]
      by_cases hc45 : ((b_ &&& (2147483647 : Int32)) % (7 : Int32)) = (4 : Int32)
      · refine o_icmpNo X44 hx (hb hby at_49) (teq hc45).2 ?_
        refine o_iload X44 hx (hb hby at_52) rfl ?_
        refine o_ifNo X44 hx (hb hby at_54) (teq (by decide : (0 : Int32) = (0 : Int32))).2 ?_
        refine o_iloadN X44 hx (hb hby at_57) rfl ?_
        refine o_iconst X44 hx (1 : Int32) (hb hby at_58) rfl ?_
        refine o_icmpNo X44 hx (hb hby at_59) (feq (by decide : ¬ ((3 : Int32) = (1 : Int32)))).1 ?_
        refine o_iconst X44 hx (1 : Int32) (hb hby at_62) rfl ?_
        refine o_goto X44 hx 67 (hb hby at_63) (by decide) (by decide) ?_
        refine o_istore X44 hx (l' := #[.val (.int a_), .val (.int b_), .val (.int c_), .val (.int (3 : Int32)), .val (.int ((b_ &&& (2147483647 : Int32)) % (7 : Int32))), .val (.int (0 : Int32)), .val (.ref s_DEED_IN_LIEU1), .val (.ref (own_evt s_SALE s_REFINANCE s_REFINANCE_SUBORDINATED1 s_FORECLOSURE s_DEED_IN_LIEU s_FHA_ASSIGNMENT s_DEATH1 ((b_ &&& (2147483647 : Int32)) % (7 : Int32)))), .val (.int (1 : Int32))]) (hb hby at_67) rfl ?_
        refine o_aload X44 hx (hb hby at_69) rfl rfl ?_
        refine o_aload X44 hx (hb hby at_71) rfl rfl ?_
        refine o_iload X44 hx (hb hby at_73) rfl ?_
        obtain ⟨cq46, kq46, q46a, q46b, q46c⟩ := isOf hZ e44 (Exa.ext O0.2 E_s_DEED_IN_LIEU1)
        obtain ⟨_, _, ⟨T46, L46, kc46, n46⟩, -, X46, ⟨Lc46, hQ46, l46, y46, z46⟩, st46⟩ := X44.virtualBack hx (y := yM3) (z := yM3) hown (mvT hZ w17) (mvT hZ w18) (notFace_of_selects (args := #[]) (mvT hZ w20)) (mvT hZ w20) (mvT hZ w19) (by decide) (backOf (W := 0) (rm_covers l Z a0 hw []  s_DEED_IN_LIEU1 (own_evt s_SALE s_REFINANCE s_REFINANCE_SUBORDINATED1 s_FORECLOSURE s_DEED_IN_LIEU s_FHA_ASSIGNMENT s_DEATH1 ((b_ &&& (2147483647 : Int32)) % (7 : Int32))) (0 : Int32) s_DEED_IN_LIEU (0 : Int32) h0 n0 O0 (Fld.ext O0.2 F_s_DEED_IN_LIEU1_event) (Fld.ext O0.2 F_s_DEED_IN_LIEU1_byBuyersIncome)) hZ w21 w6 (by decide) (by decide)) q46a q46c (g := (mkF m 75 #[.val (.int a_), .val (.int b_), .val (.int c_), .val (.int (3 : Int32)), .val (.int ((b_ &&& (2147483647 : Int32)) % (7 : Int32))), .val (.int (0 : Int32)), .val (.ref s_DEED_IN_LIEU1), .val (.ref (own_evt s_SALE s_REFINANCE s_REFINANCE_SUBORDINATED1 s_FORECLOSURE s_DEED_IN_LIEU s_FHA_ASSIGNMENT s_DEATH1 ((b_ &&& (2147483647 : Int32)) % (7 : Int32)))), .val (.int (1 : Int32))] [(.int (0 : Int32)), (.ref (own_evt s_SALE s_REFINANCE s_REFINANCE_SUBORDINATED1 s_FORECLOSURE s_DEED_IN_LIEU s_FHA_ASSIGNMENT s_DEATH1 ((b_ &&& (2147483647 : Int32)) % (7 : Int32)))), (.ref s_DEED_IN_LIEU1)])) rfl (by rw [hml]; rfl) (Steps.refl _) (argsL := [(.ref (own_evt s_SALE s_REFINANCE s_REFINANCE_SUBORDINATED1 s_FORECLOSURE s_DEED_IN_LIEU s_FHA_ASSIGNMENT s_DEATH1 ((b_ &&& (2147483647 : Int32)) % (7 : Int32)))), (.int (0 : Int32))]) (rest := []) (lenOf own_pd3 rfl) rfl (by show 2 * 0 + _ ≤ _; exact Nat.le_of_eq rfl) (hb hby at_75) (fun _ _ => ⟨rfl, e44, (by decide : 0 + 0 ≤ _), (by decide : 0 + 0 ≤ _)⟩)
        dsimp only [Pt.U, Pt.locs, Pt.cells, Pt.slots] at X46 l46 y46 z46 st46 hQ46
        subst l46 y46 z46
        obtain ⟨rfl, Nq46, e46⟩ := hQ46
        have N46 := Fr.app N44 Nq46
        refine otr (S' := T46.setTop (mkF m 78 #[.val (.int a_), .val (.int b_), .val (.int c_), .val (.int (3 : Int32)), .val (.int ((b_ &&& (2147483647 : Int32)) % (7 : Int32))), .val (.int (0 : Int32)), .val (.ref s_DEED_IN_LIEU1), .val (.ref (own_evt s_SALE s_REFINANCE s_REFINANCE_SUBORDINATED1 s_FORECLOSURE s_DEED_IN_LIEU s_FHA_ASSIGNMENT s_DEATH1 ((b_ &&& (2147483647 : Int32)) % (7 : Int32)))), .val (.int (1 : Int32))] [(.int (own_cvs s_DEED_IN_LIEU (own_evt s_SALE s_REFINANCE s_REFINANCE_SUBORDINATED1 s_FORECLOSURE s_DEED_IN_LIEU s_FHA_ASSIGNMENT s_DEATH1 ((b_ &&& (2147483647 : Int32)) % (7 : Int32))) (0 : Int32) (0 : Int32)))])) st46 ?_
        rw [show (own_cvs s_DEED_IN_LIEU (own_evt s_SALE s_REFINANCE s_REFINANCE_SUBORDINATED1 s_FORECLOSURE s_DEED_IN_LIEU s_FHA_ASSIGNMENT s_DEATH1 ((b_ &&& (2147483647 : Int32)) % (7 : Int32))) (0 : Int32) (0 : Int32)) = (1 : Int32) from by rw [hc45]; simp [own_cvs, own_evt]]
        refine o_iload X46 hx (hb hby at_78) rfl ?_
        refine o_icmpNo X46 hx (hb hby at_80) (teq (by decide : (1 : Int32) = (1 : Int32))).2 ?_
        refine o_iconst X46 hx (1 : Int32) (hb hby at_83) rfl ?_
        refine o_goto X46 hx 88 (hb hby at_84) (by decide) (by decide) ?_
        refine oend X46 hlk (v := some (.int (1 : Int32))) (fun h => by rw [hret] at h; cases h) (fun fs hr => retN X46 hx (t := .boolean) hret (by simp) (hb hby at_88) hr) (by decide) (by decide) ?_
        show own_Q_law Z _ _ _ _ _ _ _ _ _ _ _ _ _ _ _ _ h0 n0 _ T46.heap _
        rw [e46]
        exact ⟨rfl, N46, rfl⟩
      · refine o_icmpYes X44 hx 66 (hb hby at_49) (feq hc45).2 (by decide) (by decide) ?_
        refine o_iconst X44 hx (0 : Int32) (hb hby at_66) rfl ?_
        refine o_istore X44 hx (l' := #[.val (.int a_), .val (.int b_), .val (.int c_), .val (.int (3 : Int32)), .val (.int ((b_ &&& (2147483647 : Int32)) % (7 : Int32))), .val (.int (0 : Int32)), .val (.ref s_DEED_IN_LIEU1), .val (.ref (own_evt s_SALE s_REFINANCE s_REFINANCE_SUBORDINATED1 s_FORECLOSURE s_DEED_IN_LIEU s_FHA_ASSIGNMENT s_DEATH1 ((b_ &&& (2147483647 : Int32)) % (7 : Int32)))), .val (.int (0 : Int32))]) (hb hby at_67) rfl ?_
        refine o_aload X44 hx (hb hby at_69) rfl rfl ?_
        refine o_aload X44 hx (hb hby at_71) rfl rfl ?_
        refine o_iload X44 hx (hb hby at_73) rfl ?_
        obtain ⟨cq47, kq47, q47a, q47b, q47c⟩ := isOf hZ e44 (Exa.ext O0.2 E_s_DEED_IN_LIEU1)
        obtain ⟨_, _, ⟨T47, L47, kc47, n47⟩, -, X47, ⟨Lc47, hQ47, l47, y47, z47⟩, st47⟩ := X44.virtualBack hx (y := yM3) (z := yM3) hown (mvT hZ w17) (mvT hZ w18) (notFace_of_selects (args := #[]) (mvT hZ w20)) (mvT hZ w20) (mvT hZ w19) (by decide) (backOf (W := 0) (rm_covers l Z a0 hw []  s_DEED_IN_LIEU1 (own_evt s_SALE s_REFINANCE s_REFINANCE_SUBORDINATED1 s_FORECLOSURE s_DEED_IN_LIEU s_FHA_ASSIGNMENT s_DEATH1 ((b_ &&& (2147483647 : Int32)) % (7 : Int32))) (0 : Int32) s_DEED_IN_LIEU (0 : Int32) h0 n0 O0 (Fld.ext O0.2 F_s_DEED_IN_LIEU1_event) (Fld.ext O0.2 F_s_DEED_IN_LIEU1_byBuyersIncome)) hZ w21 w6 (by decide) (by decide)) q47a q47c (g := (mkF m 75 #[.val (.int a_), .val (.int b_), .val (.int c_), .val (.int (3 : Int32)), .val (.int ((b_ &&& (2147483647 : Int32)) % (7 : Int32))), .val (.int (0 : Int32)), .val (.ref s_DEED_IN_LIEU1), .val (.ref (own_evt s_SALE s_REFINANCE s_REFINANCE_SUBORDINATED1 s_FORECLOSURE s_DEED_IN_LIEU s_FHA_ASSIGNMENT s_DEATH1 ((b_ &&& (2147483647 : Int32)) % (7 : Int32)))), .val (.int (0 : Int32))] [(.int (0 : Int32)), (.ref (own_evt s_SALE s_REFINANCE s_REFINANCE_SUBORDINATED1 s_FORECLOSURE s_DEED_IN_LIEU s_FHA_ASSIGNMENT s_DEATH1 ((b_ &&& (2147483647 : Int32)) % (7 : Int32)))), (.ref s_DEED_IN_LIEU1)])) rfl (by rw [hml]; rfl) (Steps.refl _) (argsL := [(.ref (own_evt s_SALE s_REFINANCE s_REFINANCE_SUBORDINATED1 s_FORECLOSURE s_DEED_IN_LIEU s_FHA_ASSIGNMENT s_DEATH1 ((b_ &&& (2147483647 : Int32)) % (7 : Int32)))), (.int (0 : Int32))]) (rest := []) (lenOf own_pd3 rfl) rfl (by show 2 * 0 + _ ≤ _; exact Nat.le_of_eq rfl) (hb hby at_75) (fun _ _ => ⟨rfl, e44, (by decide : 0 + 0 ≤ _), (by decide : 0 + 0 ≤ _)⟩)
        dsimp only [Pt.U, Pt.locs, Pt.cells, Pt.slots] at X47 l47 y47 z47 st47 hQ47
        subst l47 y47 z47
        obtain ⟨rfl, Nq47, e47⟩ := hQ47
        have N47 := Fr.app N44 Nq47
        refine otr (S' := T47.setTop (mkF m 78 #[.val (.int a_), .val (.int b_), .val (.int c_), .val (.int (3 : Int32)), .val (.int ((b_ &&& (2147483647 : Int32)) % (7 : Int32))), .val (.int (0 : Int32)), .val (.ref s_DEED_IN_LIEU1), .val (.ref (own_evt s_SALE s_REFINANCE s_REFINANCE_SUBORDINATED1 s_FORECLOSURE s_DEED_IN_LIEU s_FHA_ASSIGNMENT s_DEATH1 ((b_ &&& (2147483647 : Int32)) % (7 : Int32)))), .val (.int (0 : Int32))] [(.int (own_cvs s_DEED_IN_LIEU (own_evt s_SALE s_REFINANCE s_REFINANCE_SUBORDINATED1 s_FORECLOSURE s_DEED_IN_LIEU s_FHA_ASSIGNMENT s_DEATH1 ((b_ &&& (2147483647 : Int32)) % (7 : Int32))) (0 : Int32) (0 : Int32)))])) st47 ?_
        have ne78 := own_evne SB (own_rem7 b_) (c := (4 : Int32)) (by decide) hc45
        rw [show own_evt s_SALE s_REFINANCE s_REFINANCE_SUBORDINATED1 s_FORECLOSURE s_DEED_IN_LIEU s_FHA_ASSIGNMENT s_DEATH1 (4 : Int32) = s_DEED_IN_LIEU from by simp [own_evt]] at ne78
        rw [show (own_cvs s_DEED_IN_LIEU (own_evt s_SALE s_REFINANCE s_REFINANCE_SUBORDINATED1 s_FORECLOSURE s_DEED_IN_LIEU s_FHA_ASSIGNMENT s_DEATH1 ((b_ &&& (2147483647 : Int32)) % (7 : Int32))) (0 : Int32) (0 : Int32)) = (0 : Int32) from if_neg ne78]
        refine o_iload X47 hx (hb hby at_78) rfl ?_
        refine o_icmpNo X47 hx (hb hby at_80) (teq (by decide : (0 : Int32) = (0 : Int32))).2 ?_
        refine o_iconst X47 hx (1 : Int32) (hb hby at_83) rfl ?_
        refine o_goto X47 hx 88 (hb hby at_84) (by decide) (by decide) ?_
        refine oend X47 hlk (v := some (.int (1 : Int32))) (fun h => by rw [hret] at h; cases h) (fun fs hr => retN X47 hx (t := .boolean) hret (by simp) (hb hby at_88) hr) (by decide) (by decide) ?_
        show own_Q_law Z _ _ _ _ _ _ _ _ _ _ _ _ _ _ _ _ h0 n0 _ T47.heap _
        rw [e47]
        exact ⟨rfl, N47, rfl⟩
    · refine o_ifNo X0 hx (hb hby at_20) (feq hc41).1 ?_
      refine o_iconst X0 hx (1 : Int32) (hb hby at_23) rfl ?_
      refine o_goto X0 hx 28 (hb hby at_24) (by decide) (by decide) ?_
      refine o_istore X0 hx (l' := #[.val (.int a_), .val (.int b_), .val (.int c_), .val (.int (3 : Int32)), .val (.int ((b_ &&& (2147483647 : Int32)) % (7 : Int32))), .val (.int (1 : Int32)), .unset, .unset, .unset]) (hb hby at_28) rfl ?_
      refine o_iloadN X0 hx (hb hby at_30) rfl ?_
      obtain ⟨_, _, ⟨T48, L48, kc48, n48⟩, -, X48, ⟨Lc48, hQ48, l48, y48, z48⟩, st48⟩ := Jvm.LawKit.callS X0 hx (y := yM0) hown (mvT hZ w1) (mvT hZ w2) (mvT hZ w3) (mvT hZ w4) (by decide) (backOf (W := 0) (rm_exemption l Z a0 hw [] s_REFINANCE_SUBORDINATED s_FORECLOSURE s_REFINANCE_SUBORDINATED1 s_BUYER_LOW_MODERATE_INCOME s_FHA_ASSIGNMENT s_SALE s_FORECLOSURE1 s_DEED_IN_LIEU s_DEATH s_DEATH1 s_REFINANCE s_DEED_IN_LIEU1 s_FHA_ASSIGNMENT1 (3 : Int32) h0 n0 SB O0 ) hZ w4 w3 (by decide) (by decide)) (g := (mkF m 31 #[.val (.int a_), .val (.int b_), .val (.int c_), .val (.int (3 : Int32)), .val (.int ((b_ &&& (2147483647 : Int32)) % (7 : Int32))), .val (.int (1 : Int32)), .unset, .unset, .unset] [(.int (3 : Int32))])) rfl (by rw [hml]; rfl) (argsL := [(.int (3 : Int32))]) (rest := []) (lenOf own_pd0 rfl) rfl (by show 2 * 0 + _ ≤ _; exact Nat.le_of_eq rfl) (hb hby at_31) (fun _ _ => ⟨rfl, e0, (by decide : 0 + 0 ≤ _), (by decide : 0 + 0 ≤ _)⟩)
      dsimp only [Pt.U, Pt.locs, Pt.cells, Pt.slots] at X48 l48 y48 z48 st48 hQ48
      subst l48 y48 z48
      obtain ⟨rfl, Nq48, e48⟩ := hQ48
      have N48 := Fr.app N0 Nq48
      refine ogo (S' := T48.setTop (mkF m 34 #[.val (.int a_), .val (.int b_), .val (.int c_), .val (.int (3 : Int32)), .val (.int ((b_ &&& (2147483647 : Int32)) % (7 : Int32))), .val (.int (1 : Int32)), .unset, .unset, .unset] [(.ref (own_exm s_REFINANCE_SUBORDINATED s_BUYER_LOW_MODERATE_INCOME s_FORECLOSURE1 s_DEED_IN_LIEU1 s_FHA_ASSIGNMENT1 s_DEATH (3 : Int32)))])) st48 ?_
      rw [show (own_exm s_REFINANCE_SUBORDINATED s_BUYER_LOW_MODERATE_INCOME s_FORECLOSURE1 s_DEED_IN_LIEU1 s_FHA_ASSIGNMENT1 s_DEATH (3 : Int32)) = s_DEED_IN_LIEU1 from by simp [own_exm]]
      refine o_astore X48 hx (l' := #[.val (.int a_), .val (.int b_), .val (.int c_), .val (.int (3 : Int32)), .val (.int ((b_ &&& (2147483647 : Int32)) % (7 : Int32))), .val (.int (1 : Int32)), .val (.ref s_DEED_IN_LIEU1), .unset, .unset]) (hb hby at_34) rfl rfl ?_
      refine o_iload X48 hx (hb hby at_36) rfl ?_
      obtain ⟨_, _, ⟨T49, L49, kc49, n49⟩, -, X49, ⟨Lc49, hQ49, l49, y49, z49⟩, st49⟩ := Jvm.LawKit.callS X48 hx (y := yM1) hown (mvT hZ w8) (mvT hZ w9) (mvT hZ w3) (mvT hZ w10) (by decide) (backOf (W := 0) (rm_event l Z a0 hw [] s_REFINANCE_SUBORDINATED s_FORECLOSURE s_REFINANCE_SUBORDINATED1 s_BUYER_LOW_MODERATE_INCOME s_FHA_ASSIGNMENT s_SALE s_FORECLOSURE1 s_DEED_IN_LIEU s_DEATH s_DEATH1 s_REFINANCE s_DEED_IN_LIEU1 s_FHA_ASSIGNMENT1 ((b_ &&& (2147483647 : Int32)) % (7 : Int32)) h0 n0 SB O0 ) hZ w10 w3 (by decide) (by decide)) (g := (mkF m 38 #[.val (.int a_), .val (.int b_), .val (.int c_), .val (.int (3 : Int32)), .val (.int ((b_ &&& (2147483647 : Int32)) % (7 : Int32))), .val (.int (1 : Int32)), .val (.ref s_DEED_IN_LIEU1), .unset, .unset] [(.int ((b_ &&& (2147483647 : Int32)) % (7 : Int32)))])) rfl (by rw [hml]; rfl) (argsL := [(.int ((b_ &&& (2147483647 : Int32)) % (7 : Int32)))]) (rest := []) (lenOf own_pd1 rfl) rfl (by show 2 * 0 + _ ≤ _; exact Nat.le_of_eq rfl) (hb hby at_38) (fun _ _ => ⟨rfl, e48, (by decide : 0 + 0 ≤ _), (by decide : 0 + 0 ≤ _)⟩)
      dsimp only [Pt.U, Pt.locs, Pt.cells, Pt.slots] at X49 l49 y49 z49 st49 hQ49
      subst l49 y49 z49
      obtain ⟨rfl, Nq49, e49⟩ := hQ49
      have N49 := Fr.app N48 Nq49
      refine ogo (S' := T49.setTop (mkF m 41 #[.val (.int a_), .val (.int b_), .val (.int c_), .val (.int (3 : Int32)), .val (.int ((b_ &&& (2147483647 : Int32)) % (7 : Int32))), .val (.int (1 : Int32)), .val (.ref s_DEED_IN_LIEU1), .unset, .unset] [(.ref (own_evt s_SALE s_REFINANCE s_REFINANCE_SUBORDINATED1 s_FORECLOSURE s_DEED_IN_LIEU s_FHA_ASSIGNMENT s_DEATH1 ((b_ &&& (2147483647 : Int32)) % (7 : Int32))))])) st49 ?_
      refine o_astore X49 hx (l' := #[.val (.int a_), .val (.int b_), .val (.int c_), .val (.int (3 : Int32)), .val (.int ((b_ &&& (2147483647 : Int32)) % (7 : Int32))), .val (.int (1 : Int32)), .val (.ref s_DEED_IN_LIEU1), .val (.ref (own_evt s_SALE s_REFINANCE s_REFINANCE_SUBORDINATED1 s_FORECLOSURE s_DEED_IN_LIEU s_FHA_ASSIGNMENT s_DEATH1 ((b_ &&& (2147483647 : Int32)) % (7 : Int32)))), .unset]) (hb hby at_41) rfl rfl ?_
      refine o_iload X49 hx (hb hby at_43) rfl ?_
      refine o_iloadN X49 hx (hb hby at_45) rfl ?_
      obtain ⟨_, _, ⟨T50, L50, kc50, n50⟩, -, X50, ⟨Lc50, hQ50, l50, y50, z50⟩, st50⟩ := Jvm.LawKit.callS X49 hx (y := yM2) hown (mvT hZ w14) (mvT hZ w15) (mvT hZ w3) (mvT hZ w16) (by decide) (backOf (W := 1) (rm_coveredEvent l Z a0 hw []  (3 : Int32) h0 n0 O0 ) hZ w16 w3 (by decide) (by decide)) (g := (mkF m 46 #[.val (.int a_), .val (.int b_), .val (.int c_), .val (.int (3 : Int32)), .val (.int ((b_ &&& (2147483647 : Int32)) % (7 : Int32))), .val (.int (1 : Int32)), .val (.ref s_DEED_IN_LIEU1), .val (.ref (own_evt s_SALE s_REFINANCE s_REFINANCE_SUBORDINATED1 s_FORECLOSURE s_DEED_IN_LIEU s_FHA_ASSIGNMENT s_DEATH1 ((b_ &&& (2147483647 : Int32)) % (7 : Int32)))), .unset] [(.int (3 : Int32)), (.int ((b_ &&& (2147483647 : Int32)) % (7 : Int32)))])) rfl (by rw [hml]; rfl) (argsL := [(.int (3 : Int32))]) (rest := [(.int ((b_ &&& (2147483647 : Int32)) % (7 : Int32)))]) (lenOf own_pd2 rfl) rfl (by show 2 * 0 + _ ≤ _; exact Nat.le_of_eq rfl) (hb hby at_46) (fun _ _ => ⟨rfl, e49, (by decide : 0 + 0 ≤ _), (by decide : 0 + 0 ≤ _)⟩)
      dsimp only [Pt.U, Pt.locs, Pt.cells, Pt.slots] at X50 l50 y50 z50 st50 hQ50
      subst l50 y50 z50
      obtain ⟨rfl, Nq50, e50⟩ := hQ50
      have N50 := Fr.app N49 Nq50
      refine ogo (S' := T50.setTop (mkF m 49 #[.val (.int a_), .val (.int b_), .val (.int c_), .val (.int (3 : Int32)), .val (.int ((b_ &&& (2147483647 : Int32)) % (7 : Int32))), .val (.int (1 : Int32)), .val (.ref s_DEED_IN_LIEU1), .val (.ref (own_evt s_SALE s_REFINANCE s_REFINANCE_SUBORDINATED1 s_FORECLOSURE s_DEED_IN_LIEU s_FHA_ASSIGNMENT s_DEATH1 ((b_ &&& (2147483647 : Int32)) % (7 : Int32)))), .unset] [(.int (own_cov (3 : Int32))), (.int ((b_ &&& (2147483647 : Int32)) % (7 : Int32)))])) st50 ?_
      rw [show (own_cov (3 : Int32)) = (4 : Int32) from by decide]
      by_cases hc51 : ((b_ &&& (2147483647 : Int32)) % (7 : Int32)) = (4 : Int32)
      · refine o_icmpNo X50 hx (hb hby at_49) (teq hc51).2 ?_
        refine o_iload X50 hx (hb hby at_52) rfl ?_
        refine o_ifYes X50 hx 62 (hb hby at_54) (feq (by decide : ¬ ((1 : Int32) = (0 : Int32)))).2 (by decide) (by decide) ?_
        refine o_iconst X50 hx (1 : Int32) (hb hby at_62) rfl ?_
        refine o_goto X50 hx 67 (hb hby at_63) (by decide) (by decide) ?_
        refine o_istore X50 hx (l' := #[.val (.int a_), .val (.int b_), .val (.int c_), .val (.int (3 : Int32)), .val (.int ((b_ &&& (2147483647 : Int32)) % (7 : Int32))), .val (.int (1 : Int32)), .val (.ref s_DEED_IN_LIEU1), .val (.ref (own_evt s_SALE s_REFINANCE s_REFINANCE_SUBORDINATED1 s_FORECLOSURE s_DEED_IN_LIEU s_FHA_ASSIGNMENT s_DEATH1 ((b_ &&& (2147483647 : Int32)) % (7 : Int32)))), .val (.int (1 : Int32))]) (hb hby at_67) rfl ?_
        refine o_aload X50 hx (hb hby at_69) rfl rfl ?_
        refine o_aload X50 hx (hb hby at_71) rfl rfl ?_
        refine o_iload X50 hx (hb hby at_73) rfl ?_
        obtain ⟨cq52, kq52, q52a, q52b, q52c⟩ := isOf hZ e50 (Exa.ext O0.2 E_s_DEED_IN_LIEU1)
        obtain ⟨_, _, ⟨T52, L52, kc52, n52⟩, -, X52, ⟨Lc52, hQ52, l52, y52, z52⟩, st52⟩ := X50.virtualBack hx (y := yM3) (z := yM3) hown (mvT hZ w17) (mvT hZ w18) (notFace_of_selects (args := #[]) (mvT hZ w20)) (mvT hZ w20) (mvT hZ w19) (by decide) (backOf (W := 0) (rm_covers l Z a0 hw []  s_DEED_IN_LIEU1 (own_evt s_SALE s_REFINANCE s_REFINANCE_SUBORDINATED1 s_FORECLOSURE s_DEED_IN_LIEU s_FHA_ASSIGNMENT s_DEATH1 ((b_ &&& (2147483647 : Int32)) % (7 : Int32))) (1 : Int32) s_DEED_IN_LIEU (0 : Int32) h0 n0 O0 (Fld.ext O0.2 F_s_DEED_IN_LIEU1_event) (Fld.ext O0.2 F_s_DEED_IN_LIEU1_byBuyersIncome)) hZ w21 w6 (by decide) (by decide)) q52a q52c (g := (mkF m 75 #[.val (.int a_), .val (.int b_), .val (.int c_), .val (.int (3 : Int32)), .val (.int ((b_ &&& (2147483647 : Int32)) % (7 : Int32))), .val (.int (1 : Int32)), .val (.ref s_DEED_IN_LIEU1), .val (.ref (own_evt s_SALE s_REFINANCE s_REFINANCE_SUBORDINATED1 s_FORECLOSURE s_DEED_IN_LIEU s_FHA_ASSIGNMENT s_DEATH1 ((b_ &&& (2147483647 : Int32)) % (7 : Int32)))), .val (.int (1 : Int32))] [(.int (1 : Int32)), (.ref (own_evt s_SALE s_REFINANCE s_REFINANCE_SUBORDINATED1 s_FORECLOSURE s_DEED_IN_LIEU s_FHA_ASSIGNMENT s_DEATH1 ((b_ &&& (2147483647 : Int32)) % (7 : Int32)))), (.ref s_DEED_IN_LIEU1)])) rfl (by rw [hml]; rfl) (Steps.refl _) (argsL := [(.ref (own_evt s_SALE s_REFINANCE s_REFINANCE_SUBORDINATED1 s_FORECLOSURE s_DEED_IN_LIEU s_FHA_ASSIGNMENT s_DEATH1 ((b_ &&& (2147483647 : Int32)) % (7 : Int32)))), (.int (1 : Int32))]) (rest := []) (lenOf own_pd3 rfl) rfl (by show 2 * 0 + _ ≤ _; exact Nat.le_of_eq rfl) (hb hby at_75) (fun _ _ => ⟨rfl, e50, (by decide : 0 + 0 ≤ _), (by decide : 0 + 0 ≤ _)⟩)
        dsimp only [Pt.U, Pt.locs, Pt.cells, Pt.slots] at X52 l52 y52 z52 st52 hQ52
        subst l52 y52 z52
        obtain ⟨rfl, Nq52, e52⟩ := hQ52
        have N52 := Fr.app N50 Nq52
        refine otr (S' := T52.setTop (mkF m 78 #[.val (.int a_), .val (.int b_), .val (.int c_), .val (.int (3 : Int32)), .val (.int ((b_ &&& (2147483647 : Int32)) % (7 : Int32))), .val (.int (1 : Int32)), .val (.ref s_DEED_IN_LIEU1), .val (.ref (own_evt s_SALE s_REFINANCE s_REFINANCE_SUBORDINATED1 s_FORECLOSURE s_DEED_IN_LIEU s_FHA_ASSIGNMENT s_DEATH1 ((b_ &&& (2147483647 : Int32)) % (7 : Int32)))), .val (.int (1 : Int32))] [(.int (own_cvs s_DEED_IN_LIEU (own_evt s_SALE s_REFINANCE s_REFINANCE_SUBORDINATED1 s_FORECLOSURE s_DEED_IN_LIEU s_FHA_ASSIGNMENT s_DEATH1 ((b_ &&& (2147483647 : Int32)) % (7 : Int32))) (1 : Int32) (0 : Int32)))])) st52 ?_
        rw [show (own_cvs s_DEED_IN_LIEU (own_evt s_SALE s_REFINANCE s_REFINANCE_SUBORDINATED1 s_FORECLOSURE s_DEED_IN_LIEU s_FHA_ASSIGNMENT s_DEATH1 ((b_ &&& (2147483647 : Int32)) % (7 : Int32))) (1 : Int32) (0 : Int32)) = (1 : Int32) from by rw [hc51]; simp [own_cvs, own_evt]]
        refine o_iload X52 hx (hb hby at_78) rfl ?_
        refine o_icmpNo X52 hx (hb hby at_80) (teq (by decide : (1 : Int32) = (1 : Int32))).2 ?_
        refine o_iconst X52 hx (1 : Int32) (hb hby at_83) rfl ?_
        refine o_goto X52 hx 88 (hb hby at_84) (by decide) (by decide) ?_
        refine oend X52 hlk (v := some (.int (1 : Int32))) (fun h => by rw [hret] at h; cases h) (fun fs hr => retN X52 hx (t := .boolean) hret (by simp) (hb hby at_88) hr) (by decide) (by decide) ?_
        show own_Q_law Z _ _ _ _ _ _ _ _ _ _ _ _ _ _ _ _ h0 n0 _ T52.heap _
        rw [e52]
        exact ⟨rfl, N52, rfl⟩
      · refine o_icmpYes X50 hx 66 (hb hby at_49) (feq hc51).2 (by decide) (by decide) ?_
        refine o_iconst X50 hx (0 : Int32) (hb hby at_66) rfl ?_
        refine o_istore X50 hx (l' := #[.val (.int a_), .val (.int b_), .val (.int c_), .val (.int (3 : Int32)), .val (.int ((b_ &&& (2147483647 : Int32)) % (7 : Int32))), .val (.int (1 : Int32)), .val (.ref s_DEED_IN_LIEU1), .val (.ref (own_evt s_SALE s_REFINANCE s_REFINANCE_SUBORDINATED1 s_FORECLOSURE s_DEED_IN_LIEU s_FHA_ASSIGNMENT s_DEATH1 ((b_ &&& (2147483647 : Int32)) % (7 : Int32)))), .val (.int (0 : Int32))]) (hb hby at_67) rfl ?_
        refine o_aload X50 hx (hb hby at_69) rfl rfl ?_
        refine o_aload X50 hx (hb hby at_71) rfl rfl ?_
        refine o_iload X50 hx (hb hby at_73) rfl ?_
        obtain ⟨cq53, kq53, q53a, q53b, q53c⟩ := isOf hZ e50 (Exa.ext O0.2 E_s_DEED_IN_LIEU1)
        obtain ⟨_, _, ⟨T53, L53, kc53, n53⟩, -, X53, ⟨Lc53, hQ53, l53, y53, z53⟩, st53⟩ := X50.virtualBack hx (y := yM3) (z := yM3) hown (mvT hZ w17) (mvT hZ w18) (notFace_of_selects (args := #[]) (mvT hZ w20)) (mvT hZ w20) (mvT hZ w19) (by decide) (backOf (W := 0) (rm_covers l Z a0 hw []  s_DEED_IN_LIEU1 (own_evt s_SALE s_REFINANCE s_REFINANCE_SUBORDINATED1 s_FORECLOSURE s_DEED_IN_LIEU s_FHA_ASSIGNMENT s_DEATH1 ((b_ &&& (2147483647 : Int32)) % (7 : Int32))) (1 : Int32) s_DEED_IN_LIEU (0 : Int32) h0 n0 O0 (Fld.ext O0.2 F_s_DEED_IN_LIEU1_event) (Fld.ext O0.2 F_s_DEED_IN_LIEU1_byBuyersIncome)) hZ w21 w6 (by decide) (by decide)) q53a q53c (g := (mkF m 75 #[.val (.int a_), .val (.int b_), .val (.int c_), .val (.int (3 : Int32)), .val (.int ((b_ &&& (2147483647 : Int32)) % (7 : Int32))), .val (.int (1 : Int32)), .val (.ref s_DEED_IN_LIEU1), .val (.ref (own_evt s_SALE s_REFINANCE s_REFINANCE_SUBORDINATED1 s_FORECLOSURE s_DEED_IN_LIEU s_FHA_ASSIGNMENT s_DEATH1 ((b_ &&& (2147483647 : Int32)) % (7 : Int32)))), .val (.int (0 : Int32))] [(.int (1 : Int32)), (.ref (own_evt s_SALE s_REFINANCE s_REFINANCE_SUBORDINATED1 s_FORECLOSURE s_DEED_IN_LIEU s_FHA_ASSIGNMENT s_DEATH1 ((b_ &&& (2147483647 : Int32)) % (7 : Int32)))), (.ref s_DEED_IN_LIEU1)])) rfl (by rw [hml]; rfl) (Steps.refl _) (argsL := [(.ref (own_evt s_SALE s_REFINANCE s_REFINANCE_SUBORDINATED1 s_FORECLOSURE s_DEED_IN_LIEU s_FHA_ASSIGNMENT s_DEATH1 ((b_ &&& (2147483647 : Int32)) % (7 : Int32)))), (.int (1 : Int32))]) (rest := []) (lenOf own_pd3 rfl) rfl (by show 2 * 0 + _ ≤ _; exact Nat.le_of_eq rfl) (hb hby at_75) (fun _ _ => ⟨rfl, e50, (by decide : 0 + 0 ≤ _), (by decide : 0 + 0 ≤ _)⟩)
        dsimp only [Pt.U, Pt.locs, Pt.cells, Pt.slots] at X53 l53 y53 z53 st53 hQ53
        subst l53 y53 z53
        obtain ⟨rfl, Nq53, e53⟩ := hQ53
        have N53 := Fr.app N50 Nq53
        refine otr (S' := T53.setTop (mkF m 78 #[.val (.int a_), .val (.int b_), .val (.int c_), .val (.int (3 : Int32)), .val (.int ((b_ &&& (2147483647 : Int32)) % (7 : Int32))), .val (.int (1 : Int32)), .val (.ref s_DEED_IN_LIEU1), .val (.ref (own_evt s_SALE s_REFINANCE s_REFINANCE_SUBORDINATED1 s_FORECLOSURE s_DEED_IN_LIEU s_FHA_ASSIGNMENT s_DEATH1 ((b_ &&& (2147483647 : Int32)) % (7 : Int32)))), .val (.int (0 : Int32))] [(.int (own_cvs s_DEED_IN_LIEU (own_evt s_SALE s_REFINANCE s_REFINANCE_SUBORDINATED1 s_FORECLOSURE s_DEED_IN_LIEU s_FHA_ASSIGNMENT s_DEATH1 ((b_ &&& (2147483647 : Int32)) % (7 : Int32))) (1 : Int32) (0 : Int32)))])) st53 ?_
        have ne78 := own_evne SB (own_rem7 b_) (c := (4 : Int32)) (by decide) hc51
        rw [show own_evt s_SALE s_REFINANCE s_REFINANCE_SUBORDINATED1 s_FORECLOSURE s_DEED_IN_LIEU s_FHA_ASSIGNMENT s_DEATH1 (4 : Int32) = s_DEED_IN_LIEU from by simp [own_evt]] at ne78
        rw [show (own_cvs s_DEED_IN_LIEU (own_evt s_SALE s_REFINANCE s_REFINANCE_SUBORDINATED1 s_FORECLOSURE s_DEED_IN_LIEU s_FHA_ASSIGNMENT s_DEATH1 ((b_ &&& (2147483647 : Int32)) % (7 : Int32))) (1 : Int32) (0 : Int32)) = (0 : Int32) from if_neg ne78]
        refine o_iload X53 hx (hb hby at_78) rfl ?_
        refine o_icmpNo X53 hx (hb hby at_80) (teq (by decide : (0 : Int32) = (0 : Int32))).2 ?_
        refine o_iconst X53 hx (1 : Int32) (hb hby at_83) rfl ?_
        refine o_goto X53 hx 88 (hb hby at_84) (by decide) (by decide) ?_
        refine oend X53 hlk (v := some (.int (1 : Int32))) (fun h => by rw [hret] at h; cases h) (fun fs hr => retN X53 hx (t := .boolean) hret (by simp) (hb hby at_88) hr) (by decide) (by decide) ?_
        show own_Q_law Z _ _ _ _ _ _ _ _ _ _ _ _ _ _ _ _ h0 n0 _ T53.heap _
        rw [e53]
        exact ⟨rfl, N53, rfl⟩
  · rw [hs1]
    refine o_iloadN X0 hx (hb hby at_8) rfl ?_
    refine ogo (S' := s₁.setTop (mkF m 11 #[.val (.int a_), .val (.int b_), .val (.int c_), .val (.int (4 : Int32)), .unset, .unset, .unset, .unset, .unset] [(.int (2147483647 : Int32)), (.int b_)])) (X0.ldcInt hx hown (mvT hZ w0) (g := (mkF m 9 #[.val (.int a_), .val (.int b_), .val (.int c_), .val (.int (4 : Int32)), .unset, .unset, .unset, .unset, .unset] [(.int b_)])) rfl (hb hby at_9)) ?_
    refine o_iand X0 hx (hb hby at_11) ?_
    refine o_bipush X0 hx (7 : Int32) (hb hby at_12) rfl ?_
    refine o_irem X0 hx (hb hby at_14) (by decide) ?_
    refine o_istore X0 hx (l' := #[.val (.int a_), .val (.int b_), .val (.int c_), .val (.int (4 : Int32)), .val (.int ((b_ &&& (2147483647 : Int32)) % (7 : Int32))), .unset, .unset, .unset, .unset]) (hb hby at_15) rfl ?_
    refine o_iloadN X0 hx (hb hby at_17) rfl ?_
    refine o_iconst X0 hx (1 : Int32) (hb hby at_18) rfl ?_
    refine o_iand X0 hx (hb hby at_19) ?_
    by_cases hc54 : (c_ &&& (1 : Int32)) = (0 : Int32)
    · refine o_ifYes X0 hx 27 (hb hby at_20) (teq hc54).1 (by decide) (by decide) ?_
      refine o_iconst X0 hx (0 : Int32) (hb hby at_27) rfl ?_
      refine o_istore X0 hx (l' := #[.val (.int a_), .val (.int b_), .val (.int c_), .val (.int (4 : Int32)), .val (.int ((b_ &&& (2147483647 : Int32)) % (7 : Int32))), .val (.int (0 : Int32)), .unset, .unset, .unset]) (hb hby at_28) rfl ?_
      refine o_iloadN X0 hx (hb hby at_30) rfl ?_
      obtain ⟨_, _, ⟨T55, L55, kc55, n55⟩, -, X55, ⟨Lc55, hQ55, l55, y55, z55⟩, st55⟩ := Jvm.LawKit.callS X0 hx (y := yM0) hown (mvT hZ w1) (mvT hZ w2) (mvT hZ w3) (mvT hZ w4) (by decide) (backOf (W := 0) (rm_exemption l Z a0 hw [] s_REFINANCE_SUBORDINATED s_FORECLOSURE s_REFINANCE_SUBORDINATED1 s_BUYER_LOW_MODERATE_INCOME s_FHA_ASSIGNMENT s_SALE s_FORECLOSURE1 s_DEED_IN_LIEU s_DEATH s_DEATH1 s_REFINANCE s_DEED_IN_LIEU1 s_FHA_ASSIGNMENT1 (4 : Int32) h0 n0 SB O0 ) hZ w4 w3 (by decide) (by decide)) (g := (mkF m 31 #[.val (.int a_), .val (.int b_), .val (.int c_), .val (.int (4 : Int32)), .val (.int ((b_ &&& (2147483647 : Int32)) % (7 : Int32))), .val (.int (0 : Int32)), .unset, .unset, .unset] [(.int (4 : Int32))])) rfl (by rw [hml]; rfl) (argsL := [(.int (4 : Int32))]) (rest := []) (lenOf own_pd0 rfl) rfl (by show 2 * 0 + _ ≤ _; exact Nat.le_of_eq rfl) (hb hby at_31) (fun _ _ => ⟨rfl, e0, (by decide : 0 + 0 ≤ _), (by decide : 0 + 0 ≤ _)⟩)
      dsimp only [Pt.U, Pt.locs, Pt.cells, Pt.slots] at X55 l55 y55 z55 st55 hQ55
      subst l55 y55 z55
      obtain ⟨rfl, Nq55, e55⟩ := hQ55
      have N55 := Fr.app N0 Nq55
      refine ogo (S' := T55.setTop (mkF m 34 #[.val (.int a_), .val (.int b_), .val (.int c_), .val (.int (4 : Int32)), .val (.int ((b_ &&& (2147483647 : Int32)) % (7 : Int32))), .val (.int (0 : Int32)), .unset, .unset, .unset] [(.ref (own_exm s_REFINANCE_SUBORDINATED s_BUYER_LOW_MODERATE_INCOME s_FORECLOSURE1 s_DEED_IN_LIEU1 s_FHA_ASSIGNMENT1 s_DEATH (4 : Int32)))])) st55 ?_
      rw [show (own_exm s_REFINANCE_SUBORDINATED s_BUYER_LOW_MODERATE_INCOME s_FORECLOSURE1 s_DEED_IN_LIEU1 s_FHA_ASSIGNMENT1 s_DEATH (4 : Int32)) = s_FHA_ASSIGNMENT1 from by simp [own_exm]]
      refine o_astore X55 hx (l' := #[.val (.int a_), .val (.int b_), .val (.int c_), .val (.int (4 : Int32)), .val (.int ((b_ &&& (2147483647 : Int32)) % (7 : Int32))), .val (.int (0 : Int32)), .val (.ref s_FHA_ASSIGNMENT1), .unset, .unset]) (hb hby at_34) rfl rfl ?_
      refine o_iload X55 hx (hb hby at_36) rfl ?_
      obtain ⟨_, _, ⟨T56, L56, kc56, n56⟩, -, X56, ⟨Lc56, hQ56, l56, y56, z56⟩, st56⟩ := Jvm.LawKit.callS X55 hx (y := yM1) hown (mvT hZ w8) (mvT hZ w9) (mvT hZ w3) (mvT hZ w10) (by decide) (backOf (W := 0) (rm_event l Z a0 hw [] s_REFINANCE_SUBORDINATED s_FORECLOSURE s_REFINANCE_SUBORDINATED1 s_BUYER_LOW_MODERATE_INCOME s_FHA_ASSIGNMENT s_SALE s_FORECLOSURE1 s_DEED_IN_LIEU s_DEATH s_DEATH1 s_REFINANCE s_DEED_IN_LIEU1 s_FHA_ASSIGNMENT1 ((b_ &&& (2147483647 : Int32)) % (7 : Int32)) h0 n0 SB O0 ) hZ w10 w3 (by decide) (by decide)) (g := (mkF m 38 #[.val (.int a_), .val (.int b_), .val (.int c_), .val (.int (4 : Int32)), .val (.int ((b_ &&& (2147483647 : Int32)) % (7 : Int32))), .val (.int (0 : Int32)), .val (.ref s_FHA_ASSIGNMENT1), .unset, .unset] [(.int ((b_ &&& (2147483647 : Int32)) % (7 : Int32)))])) rfl (by rw [hml]; rfl) (argsL := [(.int ((b_ &&& (2147483647 : Int32)) % (7 : Int32)))]) (rest := []) (lenOf own_pd1 rfl) rfl (by show 2 * 0 + _ ≤ _; exact Nat.le_of_eq rfl) (hb hby at_38) (fun _ _ => ⟨rfl, e55, (by decide : 0 + 0 ≤ _), (by decide : 0 + 0 ≤ _)⟩)
      dsimp only [Pt.U, Pt.locs, Pt.cells, Pt.slots] at X56 l56 y56 z56 st56 hQ56
      subst l56 y56 z56
      obtain ⟨rfl, Nq56, e56⟩ := hQ56
      have N56 := Fr.app N55 Nq56
      refine ogo (S' := T56.setTop (mkF m 41 #[.val (.int a_), .val (.int b_), .val (.int c_), .val (.int (4 : Int32)), .val (.int ((b_ &&& (2147483647 : Int32)) % (7 : Int32))), .val (.int (0 : Int32)), .val (.ref s_FHA_ASSIGNMENT1), .unset, .unset] [(.ref (own_evt s_SALE s_REFINANCE s_REFINANCE_SUBORDINATED1 s_FORECLOSURE s_DEED_IN_LIEU s_FHA_ASSIGNMENT s_DEATH1 ((b_ &&& (2147483647 : Int32)) % (7 : Int32))))])) st56 ?_
      refine o_astore X56 hx (l' := #[.val (.int a_), .val (.int b_), .val (.int c_), .val (.int (4 : Int32)), .val (.int ((b_ &&& (2147483647 : Int32)) % (7 : Int32))), .val (.int (0 : Int32)), .val (.ref s_FHA_ASSIGNMENT1), .val (.ref (own_evt s_SALE s_REFINANCE s_REFINANCE_SUBORDINATED1 s_FORECLOSURE s_DEED_IN_LIEU s_FHA_ASSIGNMENT s_DEATH1 ((b_ &&& (2147483647 : Int32)) % (7 : Int32)))), .unset]) (hb hby at_41) rfl rfl ?_
      refine o_iload X56 hx (hb hby at_43) rfl ?_
      refine o_iloadN X56 hx (hb hby at_45) rfl ?_
      obtain ⟨_, _, ⟨T57, L57, kc57, n57⟩, -, X57, ⟨Lc57, hQ57, l57, y57, z57⟩, st57⟩ := Jvm.LawKit.callS X56 hx (y := yM2) hown (mvT hZ w14) (mvT hZ w15) (mvT hZ w3) (mvT hZ w16) (by decide) (backOf (W := 1) (rm_coveredEvent l Z a0 hw []  (4 : Int32) h0 n0 O0 ) hZ w16 w3 (by decide) (by decide)) (g := (mkF m 46 #[.val (.int a_), .val (.int b_), .val (.int c_), .val (.int (4 : Int32)), .val (.int ((b_ &&& (2147483647 : Int32)) % (7 : Int32))), .val (.int (0 : Int32)), .val (.ref s_FHA_ASSIGNMENT1), .val (.ref (own_evt s_SALE s_REFINANCE s_REFINANCE_SUBORDINATED1 s_FORECLOSURE s_DEED_IN_LIEU s_FHA_ASSIGNMENT s_DEATH1 ((b_ &&& (2147483647 : Int32)) % (7 : Int32)))), .unset] [(.int (4 : Int32)), (.int ((b_ &&& (2147483647 : Int32)) % (7 : Int32)))])) rfl (by rw [hml]; rfl) (argsL := [(.int (4 : Int32))]) (rest := [(.int ((b_ &&& (2147483647 : Int32)) % (7 : Int32)))]) (lenOf own_pd2 rfl) rfl (by show 2 * 0 + _ ≤ _; exact Nat.le_of_eq rfl) (hb hby at_46) (fun _ _ => ⟨rfl, e56, (by decide : 0 + 0 ≤ _), (by decide : 0 + 0 ≤ _)⟩)
      dsimp only [Pt.U, Pt.locs, Pt.cells, Pt.slots] at X57 l57 y57 z57 st57 hQ57
      subst l57 y57 z57
      obtain ⟨rfl, Nq57, e57⟩ := hQ57
      have N57 := Fr.app N56 Nq57
      refine ogo (S' := T57.setTop (mkF m 49 #[.val (.int a_), .val (.int b_), .val (.int c_), .val (.int (4 : Int32)), .val (.int ((b_ &&& (2147483647 : Int32)) % (7 : Int32))), .val (.int (0 : Int32)), .val (.ref s_FHA_ASSIGNMENT1), .val (.ref (own_evt s_SALE s_REFINANCE s_REFINANCE_SUBORDINATED1 s_FORECLOSURE s_DEED_IN_LIEU s_FHA_ASSIGNMENT s_DEATH1 ((b_ &&& (2147483647 : Int32)) % (7 : Int32)))), .unset] [(.int (own_cov (4 : Int32))), (.int ((b_ &&& (2147483647 : Int32)) % (7 : Int32)))])) st57 ?_
      rw [show (own_cov (4 : Int32)) = (5 : Int32) from by decide]
      by_cases hc58 : ((b_ &&& (2147483647 : Int32)) % (7 : Int32)) = (5 : Int32)
      · refine o_icmpNo X57 hx (hb hby at_49) (teq hc58).2 ?_
        refine o_iload X57 hx (hb hby at_52) rfl ?_
        refine o_ifNo X57 hx (hb hby at_54) (teq (by decide : (0 : Int32) = (0 : Int32))).2 ?_
        refine o_iloadN X57 hx (hb hby at_57) rfl ?_
        refine o_iconst X57 hx (1 : Int32) (hb hby at_58) rfl ?_
        refine o_icmpNo X57 hx (hb hby at_59) (feq (by decide : ¬ ((4 : Int32) = (1 : Int32)))).1 ?_
        refine o_iconst X57 hx (1 : Int32) (hb hby at_62) rfl ?_
        refine o_goto X57 hx 67 (hb hby at_63) (by decide) (by decide) ?_
        refine o_istore X57 hx (l' := #[.val (.int a_), .val (.int b_), .val (.int c_), .val (.int (4 : Int32)), .val (.int ((b_ &&& (2147483647 : Int32)) % (7 : Int32))), .val (.int (0 : Int32)), .val (.ref s_FHA_ASSIGNMENT1), .val (.ref (own_evt s_SALE s_REFINANCE s_REFINANCE_SUBORDINATED1 s_FORECLOSURE s_DEED_IN_LIEU s_FHA_ASSIGNMENT s_DEATH1 ((b_ &&& (2147483647 : Int32)) % (7 : Int32)))), .val (.int (1 : Int32))]) (hb hby at_67) rfl ?_
        refine o_aload X57 hx (hb hby at_69) rfl rfl ?_
        refine o_aload X57 hx (hb hby at_71) rfl rfl ?_
        refine o_iload X57 hx (hb hby at_73) rfl ?_
        obtain ⟨cq59, kq59, q59a, q59b, q59c⟩ := isOf hZ e57 (Exa.ext O0.2 E_s_FHA_ASSIGNMENT1)
        obtain ⟨_, _, ⟨T59, L59, kc59, n59⟩, -, X59, ⟨Lc59, hQ59, l59, y59, z59⟩, st59⟩ := X57.virtualBack hx (y := yM3) (z := yM3) hown (mvT hZ w17) (mvT hZ w18) (notFace_of_selects (args := #[]) (mvT hZ w20)) (mvT hZ w20) (mvT hZ w19) (by decide) (backOf (W := 0) (rm_covers l Z a0 hw []  s_FHA_ASSIGNMENT1 (own_evt s_SALE s_REFINANCE s_REFINANCE_SUBORDINATED1 s_FORECLOSURE s_DEED_IN_LIEU s_FHA_ASSIGNMENT s_DEATH1 ((b_ &&& (2147483647 : Int32)) % (7 : Int32))) (0 : Int32) s_FHA_ASSIGNMENT (0 : Int32) h0 n0 O0 (Fld.ext O0.2 F_s_FHA_ASSIGNMENT1_event) (Fld.ext O0.2 F_s_FHA_ASSIGNMENT1_byBuyersIncome)) hZ w21 w6 (by decide) (by decide)) q59a q59c (g := (mkF m 75 #[.val (.int a_), .val (.int b_), .val (.int c_), .val (.int (4 : Int32)), .val (.int ((b_ &&& (2147483647 : Int32)) % (7 : Int32))), .val (.int (0 : Int32)), .val (.ref s_FHA_ASSIGNMENT1), .val (.ref (own_evt s_SALE s_REFINANCE s_REFINANCE_SUBORDINATED1 s_FORECLOSURE s_DEED_IN_LIEU s_FHA_ASSIGNMENT s_DEATH1 ((b_ &&& (2147483647 : Int32)) % (7 : Int32)))), .val (.int (1 : Int32))] [(.int (0 : Int32)), (.ref (own_evt s_SALE s_REFINANCE s_REFINANCE_SUBORDINATED1 s_FORECLOSURE s_DEED_IN_LIEU s_FHA_ASSIGNMENT s_DEATH1 ((b_ &&& (2147483647 : Int32)) % (7 : Int32)))), (.ref s_FHA_ASSIGNMENT1)])) rfl (by rw [hml]; rfl) (Steps.refl _) (argsL := [(.ref (own_evt s_SALE s_REFINANCE s_REFINANCE_SUBORDINATED1 s_FORECLOSURE s_DEED_IN_LIEU s_FHA_ASSIGNMENT s_DEATH1 ((b_ &&& (2147483647 : Int32)) % (7 : Int32)))), (.int (0 : Int32))]) (rest := []) (lenOf own_pd3 rfl) rfl (by show 2 * 0 + _ ≤ _; exact Nat.le_of_eq rfl) (hb hby at_75) (fun _ _ => ⟨rfl, e57, (by decide : 0 + 0 ≤ _), (by decide : 0 + 0 ≤ _)⟩)
        dsimp only [Pt.U, Pt.locs, Pt.cells, Pt.slots] at X59 l59 y59 z59 st59 hQ59
        subst l59 y59 z59
        obtain ⟨rfl, Nq59, e59⟩ := hQ59
        have N59 := Fr.app N57 Nq59
        refine otr (S' := T59.setTop (mkF m 78 #[.val (.int a_), .val (.int b_), .val (.int c_), .val (.int (4 : Int32)), .val (.int ((b_ &&& (2147483647 : Int32)) % (7 : Int32))), .val (.int (0 : Int32)), .val (.ref s_FHA_ASSIGNMENT1), .val (.ref (own_evt s_SALE s_REFINANCE s_REFINANCE_SUBORDINATED1 s_FORECLOSURE s_DEED_IN_LIEU s_FHA_ASSIGNMENT s_DEATH1 ((b_ &&& (2147483647 : Int32)) % (7 : Int32)))), .val (.int (1 : Int32))] [(.int (own_cvs s_FHA_ASSIGNMENT (own_evt s_SALE s_REFINANCE s_REFINANCE_SUBORDINATED1 s_FORECLOSURE s_DEED_IN_LIEU s_FHA_ASSIGNMENT s_DEATH1 ((b_ &&& (2147483647 : Int32)) % (7 : Int32))) (0 : Int32) (0 : Int32)))])) st59 ?_
        rw [show (own_cvs s_FHA_ASSIGNMENT (own_evt s_SALE s_REFINANCE s_REFINANCE_SUBORDINATED1 s_FORECLOSURE s_DEED_IN_LIEU s_FHA_ASSIGNMENT s_DEATH1 ((b_ &&& (2147483647 : Int32)) % (7 : Int32))) (0 : Int32) (0 : Int32)) = (1 : Int32) from by rw [hc58]; simp [own_cvs, own_evt]]
        refine o_iload X59 hx (hb hby at_78) rfl ?_
        refine o_icmpNo X59 hx (hb hby at_80) (teq (by decide : (1 : Int32) = (1 : Int32))).2 ?_
        refine o_iconst X59 hx (1 : Int32) (hb hby at_83) rfl ?_
        refine o_goto X59 hx 88 (hb hby at_84) (by decide) (by decide) ?_
        refine oend X59 hlk (v := some (.int (1 : Int32))) (fun h => by rw [hret] at h; cases h) (fun fs hr => retN X59 hx (t := .boolean) hret (by simp) (hb hby at_88) hr) (by decide) (by decide) ?_
        show own_Q_law Z _ _ _ _ _ _ _ _ _ _ _ _ _ _ _ _ h0 n0 _ T59.heap _
        rw [e59]
        exact ⟨rfl, N59, rfl⟩
      · refine o_icmpYes X57 hx 66 (hb hby at_49) (feq hc58).2 (by decide) (by decide) ?_
        refine o_iconst X57 hx (0 : Int32) (hb hby at_66) rfl ?_
        refine o_istore X57 hx (l' := #[.val (.int a_), .val (.int b_), .val (.int c_), .val (.int (4 : Int32)), .val (.int ((b_ &&& (2147483647 : Int32)) % (7 : Int32))), .val (.int (0 : Int32)), .val (.ref s_FHA_ASSIGNMENT1), .val (.ref (own_evt s_SALE s_REFINANCE s_REFINANCE_SUBORDINATED1 s_FORECLOSURE s_DEED_IN_LIEU s_FHA_ASSIGNMENT s_DEATH1 ((b_ &&& (2147483647 : Int32)) % (7 : Int32)))), .val (.int (0 : Int32))]) (hb hby at_67) rfl ?_
        refine o_aload X57 hx (hb hby at_69) rfl rfl ?_
        refine o_aload X57 hx (hb hby at_71) rfl rfl ?_
        refine o_iload X57 hx (hb hby at_73) rfl ?_
        obtain ⟨cq60, kq60, q60a, q60b, q60c⟩ := isOf hZ e57 (Exa.ext O0.2 E_s_FHA_ASSIGNMENT1)
        obtain ⟨_, _, ⟨T60, L60, kc60, n60⟩, -, X60, ⟨Lc60, hQ60, l60, y60, z60⟩, st60⟩ := X57.virtualBack hx (y := yM3) (z := yM3) hown (mvT hZ w17) (mvT hZ w18) (notFace_of_selects (args := #[]) (mvT hZ w20)) (mvT hZ w20) (mvT hZ w19) (by decide) (backOf (W := 0) (rm_covers l Z a0 hw []  s_FHA_ASSIGNMENT1 (own_evt s_SALE s_REFINANCE s_REFINANCE_SUBORDINATED1 s_FORECLOSURE s_DEED_IN_LIEU s_FHA_ASSIGNMENT s_DEATH1 ((b_ &&& (2147483647 : Int32)) % (7 : Int32))) (0 : Int32) s_FHA_ASSIGNMENT (0 : Int32) h0 n0 O0 (Fld.ext O0.2 F_s_FHA_ASSIGNMENT1_event) (Fld.ext O0.2 F_s_FHA_ASSIGNMENT1_byBuyersIncome)) hZ w21 w6 (by decide) (by decide)) q60a q60c (g := (mkF m 75 #[.val (.int a_), .val (.int b_), .val (.int c_), .val (.int (4 : Int32)), .val (.int ((b_ &&& (2147483647 : Int32)) % (7 : Int32))), .val (.int (0 : Int32)), .val (.ref s_FHA_ASSIGNMENT1), .val (.ref (own_evt s_SALE s_REFINANCE s_REFINANCE_SUBORDINATED1 s_FORECLOSURE s_DEED_IN_LIEU s_FHA_ASSIGNMENT s_DEATH1 ((b_ &&& (2147483647 : Int32)) % (7 : Int32)))), .val (.int (0 : Int32))] [(.int (0 : Int32)), (.ref (own_evt s_SALE s_REFINANCE s_REFINANCE_SUBORDINATED1 s_FORECLOSURE s_DEED_IN_LIEU s_FHA_ASSIGNMENT s_DEATH1 ((b_ &&& (2147483647 : Int32)) % (7 : Int32)))), (.ref s_FHA_ASSIGNMENT1)])) rfl (by rw [hml]; rfl) (Steps.refl _) (argsL := [(.ref (own_evt s_SALE s_REFINANCE s_REFINANCE_SUBORDINATED1 s_FORECLOSURE s_DEED_IN_LIEU s_FHA_ASSIGNMENT s_DEATH1 ((b_ &&& (2147483647 : Int32)) % (7 : Int32)))), (.int (0 : Int32))]) (rest := []) (lenOf own_pd3 rfl) rfl (by show 2 * 0 + _ ≤ _; exact Nat.le_of_eq rfl) (hb hby at_75) (fun _ _ => ⟨rfl, e57, (by decide : 0 + 0 ≤ _), (by decide : 0 + 0 ≤ _)⟩)
        dsimp only [Pt.U, Pt.locs, Pt.cells, Pt.slots] at X60 l60 y60 z60 st60 hQ60
        subst l60 y60 z60
        obtain ⟨rfl, Nq60, e60⟩ := hQ60
        have N60 := Fr.app N57 Nq60
        refine otr (S' := T60.setTop (mkF m 78 #[.val (.int a_), .val (.int b_), .val (.int c_), .val (.int (4 : Int32)), .val (.int ((b_ &&& (2147483647 : Int32)) % (7 : Int32))), .val (.int (0 : Int32)), .val (.ref s_FHA_ASSIGNMENT1), .val (.ref (own_evt s_SALE s_REFINANCE s_REFINANCE_SUBORDINATED1 s_FORECLOSURE s_DEED_IN_LIEU s_FHA_ASSIGNMENT s_DEATH1 ((b_ &&& (2147483647 : Int32)) % (7 : Int32)))), .val (.int (0 : Int32))] [(.int (own_cvs s_FHA_ASSIGNMENT (own_evt s_SALE s_REFINANCE s_REFINANCE_SUBORDINATED1 s_FORECLOSURE s_DEED_IN_LIEU s_FHA_ASSIGNMENT s_DEATH1 ((b_ &&& (2147483647 : Int32)) % (7 : Int32))) (0 : Int32) (0 : Int32)))])) st60 ?_
        have ne78 := own_evne SB (own_rem7 b_) (c := (5 : Int32)) (by decide) hc58
        rw [show own_evt s_SALE s_REFINANCE s_REFINANCE_SUBORDINATED1 s_FORECLOSURE s_DEED_IN_LIEU s_FHA_ASSIGNMENT s_DEATH1 (5 : Int32) = s_FHA_ASSIGNMENT from by simp [own_evt]] at ne78
        rw [show (own_cvs s_FHA_ASSIGNMENT (own_evt s_SALE s_REFINANCE s_REFINANCE_SUBORDINATED1 s_FORECLOSURE s_DEED_IN_LIEU s_FHA_ASSIGNMENT s_DEATH1 ((b_ &&& (2147483647 : Int32)) % (7 : Int32))) (0 : Int32) (0 : Int32)) = (0 : Int32) from if_neg ne78]
        refine o_iload X60 hx (hb hby at_78) rfl ?_
        refine o_icmpNo X60 hx (hb hby at_80) (teq (by decide : (0 : Int32) = (0 : Int32))).2 ?_
        refine o_iconst X60 hx (1 : Int32) (hb hby at_83) rfl ?_
        refine o_goto X60 hx 88 (hb hby at_84) (by decide) (by decide) ?_
        refine oend X60 hlk (v := some (.int (1 : Int32))) (fun h => by rw [hret] at h; cases h) (fun fs hr => retN X60 hx (t := .boolean) hret (by simp) (hb hby at_88) hr) (by decide) (by decide) ?_
        show own_Q_law Z _ _ _ _ _ _ _ _ _ _ _ _ _ _ _ _ h0 n0 _ T60.heap _
        rw [e60]
        exact ⟨rfl, N60, rfl⟩
    · refine o_ifNo X0 hx (hb hby at_20) (feq hc54).1 ?_
      refine o_iconst X0 hx (1 : Int32) (hb hby at_23) rfl ?_
      refine o_goto X0 hx 28 (hb hby at_24) (by decide) (by decide) ?_
      refine o_istore X0 hx (l' := #[.val (.int a_), .val (.int b_), .val (.int c_), .val (.int (4 : Int32)), .val (.int ((b_ &&& (2147483647 : Int32)) % (7 : Int32))), .val (.int (1 : Int32)), .unset, .unset, .unset]) (hb hby at_28) rfl ?_
      refine o_iloadN X0 hx (hb hby at_30) rfl ?_
      obtain ⟨_, _, ⟨T61, L61, kc61, n61⟩, -, X61, ⟨Lc61, hQ61, l61, y61, z61⟩, st61⟩ := Jvm.LawKit.callS X0 hx (y := yM0) hown (mvT hZ w1) (mvT hZ w2) (mvT hZ w3) (mvT hZ w4) (by decide) (backOf (W := 0) (rm_exemption l Z a0 hw [] s_REFINANCE_SUBORDINATED s_FORECLOSURE s_REFINANCE_SUBORDINATED1 s_BUYER_LOW_MODERATE_INCOME s_FHA_ASSIGNMENT s_SALE s_FORECLOSURE1 s_DEED_IN_LIEU s_DEATH s_DEATH1 s_REFINANCE s_DEED_IN_LIEU1 s_FHA_ASSIGNMENT1 (4 : Int32) h0 n0 SB O0 ) hZ w4 w3 (by decide) (by decide)) (g := (mkF m 31 #[.val (.int a_), .val (.int b_), .val (.int c_), .val (.int (4 : Int32)), .val (.int ((b_ &&& (2147483647 : Int32)) % (7 : Int32))), .val (.int (1 : Int32)), .unset, .unset, .unset] [(.int (4 : Int32))])) rfl (by rw [hml]; rfl) (argsL := [(.int (4 : Int32))]) (rest := []) (lenOf own_pd0 rfl) rfl (by show 2 * 0 + _ ≤ _; exact Nat.le_of_eq rfl) (hb hby at_31) (fun _ _ => ⟨rfl, e0, (by decide : 0 + 0 ≤ _), (by decide : 0 + 0 ≤ _)⟩)
      dsimp only [Pt.U, Pt.locs, Pt.cells, Pt.slots] at X61 l61 y61 z61 st61 hQ61
      subst l61 y61 z61
      obtain ⟨rfl, Nq61, e61⟩ := hQ61
      have N61 := Fr.app N0 Nq61
      refine ogo (S' := T61.setTop (mkF m 34 #[.val (.int a_), .val (.int b_), .val (.int c_), .val (.int (4 : Int32)), .val (.int ((b_ &&& (2147483647 : Int32)) % (7 : Int32))), .val (.int (1 : Int32)), .unset, .unset, .unset] [(.ref (own_exm s_REFINANCE_SUBORDINATED s_BUYER_LOW_MODERATE_INCOME s_FORECLOSURE1 s_DEED_IN_LIEU1 s_FHA_ASSIGNMENT1 s_DEATH (4 : Int32)))])) st61 ?_
      rw [show (own_exm s_REFINANCE_SUBORDINATED s_BUYER_LOW_MODERATE_INCOME s_FORECLOSURE1 s_DEED_IN_LIEU1 s_FHA_ASSIGNMENT1 s_DEATH (4 : Int32)) = s_FHA_ASSIGNMENT1 from by simp [own_exm]]
      refine o_astore X61 hx (l' := #[.val (.int a_), .val (.int b_), .val (.int c_), .val (.int (4 : Int32)), .val (.int ((b_ &&& (2147483647 : Int32)) % (7 : Int32))), .val (.int (1 : Int32)), .val (.ref s_FHA_ASSIGNMENT1), .unset, .unset]) (hb hby at_34) rfl rfl ?_
      refine o_iload X61 hx (hb hby at_36) rfl ?_
      obtain ⟨_, _, ⟨T62, L62, kc62, n62⟩, -, X62, ⟨Lc62, hQ62, l62, y62, z62⟩, st62⟩ := Jvm.LawKit.callS X61 hx (y := yM1) hown (mvT hZ w8) (mvT hZ w9) (mvT hZ w3) (mvT hZ w10) (by decide) (backOf (W := 0) (rm_event l Z a0 hw [] s_REFINANCE_SUBORDINATED s_FORECLOSURE s_REFINANCE_SUBORDINATED1 s_BUYER_LOW_MODERATE_INCOME s_FHA_ASSIGNMENT s_SALE s_FORECLOSURE1 s_DEED_IN_LIEU s_DEATH s_DEATH1 s_REFINANCE s_DEED_IN_LIEU1 s_FHA_ASSIGNMENT1 ((b_ &&& (2147483647 : Int32)) % (7 : Int32)) h0 n0 SB O0 ) hZ w10 w3 (by decide) (by decide)) (g := (mkF m 38 #[.val (.int a_), .val (.int b_), .val (.int c_), .val (.int (4 : Int32)), .val (.int ((b_ &&& (2147483647 : Int32)) % (7 : Int32))), .val (.int (1 : Int32)), .val (.ref s_FHA_ASSIGNMENT1), .unset, .unset] [(.int ((b_ &&& (2147483647 : Int32)) % (7 : Int32)))])) rfl (by rw [hml]; rfl) (argsL := [(.int ((b_ &&& (2147483647 : Int32)) % (7 : Int32)))]) (rest := []) (lenOf own_pd1 rfl) rfl (by show 2 * 0 + _ ≤ _; exact Nat.le_of_eq rfl) (hb hby at_38) (fun _ _ => ⟨rfl, e61, (by decide : 0 + 0 ≤ _), (by decide : 0 + 0 ≤ _)⟩)
      dsimp only [Pt.U, Pt.locs, Pt.cells, Pt.slots] at X62 l62 y62 z62 st62 hQ62
      subst l62 y62 z62
      obtain ⟨rfl, Nq62, e62⟩ := hQ62
      have N62 := Fr.app N61 Nq62
      refine ogo (S' := T62.setTop (mkF m 41 #[.val (.int a_), .val (.int b_), .val (.int c_), .val (.int (4 : Int32)), .val (.int ((b_ &&& (2147483647 : Int32)) % (7 : Int32))), .val (.int (1 : Int32)), .val (.ref s_FHA_ASSIGNMENT1), .unset, .unset] [(.ref (own_evt s_SALE s_REFINANCE s_REFINANCE_SUBORDINATED1 s_FORECLOSURE s_DEED_IN_LIEU s_FHA_ASSIGNMENT s_DEATH1 ((b_ &&& (2147483647 : Int32)) % (7 : Int32))))])) st62 ?_
      refine o_astore X62 hx (l' := #[.val (.int a_), .val (.int b_), .val (.int c_), .val (.int (4 : Int32)), .val (.int ((b_ &&& (2147483647 : Int32)) % (7 : Int32))), .val (.int (1 : Int32)), .val (.ref s_FHA_ASSIGNMENT1), .val (.ref (own_evt s_SALE s_REFINANCE s_REFINANCE_SUBORDINATED1 s_FORECLOSURE s_DEED_IN_LIEU s_FHA_ASSIGNMENT s_DEATH1 ((b_ &&& (2147483647 : Int32)) % (7 : Int32)))), .unset]) (hb hby at_41) rfl rfl ?_
      refine o_iload X62 hx (hb hby at_43) rfl ?_
      refine o_iloadN X62 hx (hb hby at_45) rfl ?_
      obtain ⟨_, _, ⟨T63, L63, kc63, n63⟩, -, X63, ⟨Lc63, hQ63, l63, y63, z63⟩, st63⟩ := Jvm.LawKit.callS X62 hx (y := yM2) hown (mvT hZ w14) (mvT hZ w15) (mvT hZ w3) (mvT hZ w16) (by decide) (backOf (W := 1) (rm_coveredEvent l Z a0 hw []  (4 : Int32) h0 n0 O0 ) hZ w16 w3 (by decide) (by decide)) (g := (mkF m 46 #[.val (.int a_), .val (.int b_), .val (.int c_), .val (.int (4 : Int32)), .val (.int ((b_ &&& (2147483647 : Int32)) % (7 : Int32))), .val (.int (1 : Int32)), .val (.ref s_FHA_ASSIGNMENT1), .val (.ref (own_evt s_SALE s_REFINANCE s_REFINANCE_SUBORDINATED1 s_FORECLOSURE s_DEED_IN_LIEU s_FHA_ASSIGNMENT s_DEATH1 ((b_ &&& (2147483647 : Int32)) % (7 : Int32)))), .unset] [(.int (4 : Int32)), (.int ((b_ &&& (2147483647 : Int32)) % (7 : Int32)))])) rfl (by rw [hml]; rfl) (argsL := [(.int (4 : Int32))]) (rest := [(.int ((b_ &&& (2147483647 : Int32)) % (7 : Int32)))]) (lenOf own_pd2 rfl) rfl (by show 2 * 0 + _ ≤ _; exact Nat.le_of_eq rfl) (hb hby at_46) (fun _ _ => ⟨rfl, e62, (by decide : 0 + 0 ≤ _), (by decide : 0 + 0 ≤ _)⟩)
      dsimp only [Pt.U, Pt.locs, Pt.cells, Pt.slots] at X63 l63 y63 z63 st63 hQ63
      subst l63 y63 z63
      obtain ⟨rfl, Nq63, e63⟩ := hQ63
      have N63 := Fr.app N62 Nq63
      refine ogo (S' := T63.setTop (mkF m 49 #[.val (.int a_), .val (.int b_), .val (.int c_), .val (.int (4 : Int32)), .val (.int ((b_ &&& (2147483647 : Int32)) % (7 : Int32))), .val (.int (1 : Int32)), .val (.ref s_FHA_ASSIGNMENT1), .val (.ref (own_evt s_SALE s_REFINANCE s_REFINANCE_SUBORDINATED1 s_FORECLOSURE s_DEED_IN_LIEU s_FHA_ASSIGNMENT s_DEATH1 ((b_ &&& (2147483647 : Int32)) % (7 : Int32)))), .unset] [(.int (own_cov (4 : Int32))), (.int ((b_ &&& (2147483647 : Int32)) % (7 : Int32)))])) st63 ?_
      rw [show (own_cov (4 : Int32)) = (5 : Int32) from by decide]
      by_cases hc64 : ((b_ &&& (2147483647 : Int32)) % (7 : Int32)) = (5 : Int32)
      · refine o_icmpNo X63 hx (hb hby at_49) (teq hc64).2 ?_
        refine o_iload X63 hx (hb hby at_52) rfl ?_
        refine o_ifYes X63 hx 62 (hb hby at_54) (feq (by decide : ¬ ((1 : Int32) = (0 : Int32)))).2 (by decide) (by decide) ?_
        refine o_iconst X63 hx (1 : Int32) (hb hby at_62) rfl ?_
        refine o_goto X63 hx 67 (hb hby at_63) (by decide) (by decide) ?_
        refine o_istore X63 hx (l' := #[.val (.int a_), .val (.int b_), .val (.int c_), .val (.int (4 : Int32)), .val (.int ((b_ &&& (2147483647 : Int32)) % (7 : Int32))), .val (.int (1 : Int32)), .val (.ref s_FHA_ASSIGNMENT1), .val (.ref (own_evt s_SALE s_REFINANCE s_REFINANCE_SUBORDINATED1 s_FORECLOSURE s_DEED_IN_LIEU s_FHA_ASSIGNMENT s_DEATH1 ((b_ &&& (2147483647 : Int32)) % (7 : Int32)))), .val (.int (1 : Int32))]) (hb hby at_67) rfl ?_
        refine o_aload X63 hx (hb hby at_69) rfl rfl ?_
        refine o_aload X63 hx (hb hby at_71) rfl rfl ?_
        refine o_iload X63 hx (hb hby at_73) rfl ?_
        obtain ⟨cq65, kq65, q65a, q65b, q65c⟩ := isOf hZ e63 (Exa.ext O0.2 E_s_FHA_ASSIGNMENT1)
        obtain ⟨_, _, ⟨T65, L65, kc65, n65⟩, -, X65, ⟨Lc65, hQ65, l65, y65, z65⟩, st65⟩ := X63.virtualBack hx (y := yM3) (z := yM3) hown (mvT hZ w17) (mvT hZ w18) (notFace_of_selects (args := #[]) (mvT hZ w20)) (mvT hZ w20) (mvT hZ w19) (by decide) (backOf (W := 0) (rm_covers l Z a0 hw []  s_FHA_ASSIGNMENT1 (own_evt s_SALE s_REFINANCE s_REFINANCE_SUBORDINATED1 s_FORECLOSURE s_DEED_IN_LIEU s_FHA_ASSIGNMENT s_DEATH1 ((b_ &&& (2147483647 : Int32)) % (7 : Int32))) (1 : Int32) s_FHA_ASSIGNMENT (0 : Int32) h0 n0 O0 (Fld.ext O0.2 F_s_FHA_ASSIGNMENT1_event) (Fld.ext O0.2 F_s_FHA_ASSIGNMENT1_byBuyersIncome)) hZ w21 w6 (by decide) (by decide)) q65a q65c (g := (mkF m 75 #[.val (.int a_), .val (.int b_), .val (.int c_), .val (.int (4 : Int32)), .val (.int ((b_ &&& (2147483647 : Int32)) % (7 : Int32))), .val (.int (1 : Int32)), .val (.ref s_FHA_ASSIGNMENT1), .val (.ref (own_evt s_SALE s_REFINANCE s_REFINANCE_SUBORDINATED1 s_FORECLOSURE s_DEED_IN_LIEU s_FHA_ASSIGNMENT s_DEATH1 ((b_ &&& (2147483647 : Int32)) % (7 : Int32)))), .val (.int (1 : Int32))] [(.int (1 : Int32)), (.ref (own_evt s_SALE s_REFINANCE s_REFINANCE_SUBORDINATED1 s_FORECLOSURE s_DEED_IN_LIEU s_FHA_ASSIGNMENT s_DEATH1 ((b_ &&& (2147483647 : Int32)) % (7 : Int32)))), (.ref s_FHA_ASSIGNMENT1)])) rfl (by rw [hml]; rfl) (Steps.refl _) (argsL := [(.ref (own_evt s_SALE s_REFINANCE s_REFINANCE_SUBORDINATED1 s_FORECLOSURE s_DEED_IN_LIEU s_FHA_ASSIGNMENT s_DEATH1 ((b_ &&& (2147483647 : Int32)) % (7 : Int32)))), (.int (1 : Int32))]) (rest := []) (lenOf own_pd3 rfl) rfl (by show 2 * 0 + _ ≤ _; exact Nat.le_of_eq rfl) (hb hby at_75) (fun _ _ => ⟨rfl, e63, (by decide : 0 + 0 ≤ _), (by decide : 0 + 0 ≤ _)⟩)
        dsimp only [Pt.U, Pt.locs, Pt.cells, Pt.slots] at X65 l65 y65 z65 st65 hQ65
        subst l65 y65 z65
        obtain ⟨rfl, Nq65, e65⟩ := hQ65
        have N65 := Fr.app N63 Nq65
        refine otr (S' := T65.setTop (mkF m 78 #[.val (.int a_), .val (.int b_), .val (.int c_), .val (.int (4 : Int32)), .val (.int ((b_ &&& (2147483647 : Int32)) % (7 : Int32))), .val (.int (1 : Int32)), .val (.ref s_FHA_ASSIGNMENT1), .val (.ref (own_evt s_SALE s_REFINANCE s_REFINANCE_SUBORDINATED1 s_FORECLOSURE s_DEED_IN_LIEU s_FHA_ASSIGNMENT s_DEATH1 ((b_ &&& (2147483647 : Int32)) % (7 : Int32)))), .val (.int (1 : Int32))] [(.int (own_cvs s_FHA_ASSIGNMENT (own_evt s_SALE s_REFINANCE s_REFINANCE_SUBORDINATED1 s_FORECLOSURE s_DEED_IN_LIEU s_FHA_ASSIGNMENT s_DEATH1 ((b_ &&& (2147483647 : Int32)) % (7 : Int32))) (1 : Int32) (0 : Int32)))])) st65 ?_
        rw [show (own_cvs s_FHA_ASSIGNMENT (own_evt s_SALE s_REFINANCE s_REFINANCE_SUBORDINATED1 s_FORECLOSURE s_DEED_IN_LIEU s_FHA_ASSIGNMENT s_DEATH1 ((b_ &&& (2147483647 : Int32)) % (7 : Int32))) (1 : Int32) (0 : Int32)) = (1 : Int32) from by rw [hc64]; simp [own_cvs, own_evt]]
        refine o_iload X65 hx (hb hby at_78) rfl ?_
        refine o_icmpNo X65 hx (hb hby at_80) (teq (by decide : (1 : Int32) = (1 : Int32))).2 ?_
        refine o_iconst X65 hx (1 : Int32) (hb hby at_83) rfl ?_
        refine o_goto X65 hx 88 (hb hby at_84) (by decide) (by decide) ?_
        refine oend X65 hlk (v := some (.int (1 : Int32))) (fun h => by rw [hret] at h; cases h) (fun fs hr => retN X65 hx (t := .boolean) hret (by simp) (hb hby at_88) hr) (by decide) (by decide) ?_
        show own_Q_law Z _ _ _ _ _ _ _ _ _ _ _ _ _ _ _ _ h0 n0 _ T65.heap _
        rw [e65]
        exact ⟨rfl, N65, rfl⟩
      · refine o_icmpYes X63 hx 66 (hb hby at_49) (feq hc64).2 (by decide) (by decide) ?_
        refine o_iconst X63 hx (0 : Int32) (hb hby at_66) rfl ?_
        refine o_istore X63 hx (l' := #[.val (.int a_), .val (.int b_), .val (.int c_), .val (.int (4 : Int32)), .val (.int ((b_ &&& (2147483647 : Int32)) % (7 : Int32))), .val (.int (1 : Int32)), .val (.ref s_FHA_ASSIGNMENT1), .val (.ref (own_evt s_SALE s_REFINANCE s_REFINANCE_SUBORDINATED1 s_FORECLOSURE s_DEED_IN_LIEU s_FHA_ASSIGNMENT s_DEATH1 ((b_ &&& (2147483647 : Int32)) % (7 : Int32)))), .val (.int (0 : Int32))]) (hb hby at_67) rfl ?_
        refine o_aload X63 hx (hb hby at_69) rfl rfl ?_
        refine o_aload X63 hx (hb hby at_71) rfl rfl ?_
        refine o_iload X63 hx (hb hby at_73) rfl ?_
        obtain ⟨cq66, kq66, q66a, q66b, q66c⟩ := isOf hZ e63 (Exa.ext O0.2 E_s_FHA_ASSIGNMENT1)
        obtain ⟨_, _, ⟨T66, L66, kc66, n66⟩, -, X66, ⟨Lc66, hQ66, l66, y66, z66⟩, st66⟩ := X63.virtualBack hx (y := yM3) (z := yM3) hown (mvT hZ w17) (mvT hZ w18) (notFace_of_selects (args := #[]) (mvT hZ w20)) (mvT hZ w20) (mvT hZ w19) (by decide) (backOf (W := 0) (rm_covers l Z a0 hw []  s_FHA_ASSIGNMENT1 (own_evt s_SALE s_REFINANCE s_REFINANCE_SUBORDINATED1 s_FORECLOSURE s_DEED_IN_LIEU s_FHA_ASSIGNMENT s_DEATH1 ((b_ &&& (2147483647 : Int32)) % (7 : Int32))) (1 : Int32) s_FHA_ASSIGNMENT (0 : Int32) h0 n0 O0 (Fld.ext O0.2 F_s_FHA_ASSIGNMENT1_event) (Fld.ext O0.2 F_s_FHA_ASSIGNMENT1_byBuyersIncome)) hZ w21 w6 (by decide) (by decide)) q66a q66c (g := (mkF m 75 #[.val (.int a_), .val (.int b_), .val (.int c_), .val (.int (4 : Int32)), .val (.int ((b_ &&& (2147483647 : Int32)) % (7 : Int32))), .val (.int (1 : Int32)), .val (.ref s_FHA_ASSIGNMENT1), .val (.ref (own_evt s_SALE s_REFINANCE s_REFINANCE_SUBORDINATED1 s_FORECLOSURE s_DEED_IN_LIEU s_FHA_ASSIGNMENT s_DEATH1 ((b_ &&& (2147483647 : Int32)) % (7 : Int32)))), .val (.int (0 : Int32))] [(.int (1 : Int32)), (.ref (own_evt s_SALE s_REFINANCE s_REFINANCE_SUBORDINATED1 s_FORECLOSURE s_DEED_IN_LIEU s_FHA_ASSIGNMENT s_DEATH1 ((b_ &&& (2147483647 : Int32)) % (7 : Int32)))), (.ref s_FHA_ASSIGNMENT1)])) rfl (by rw [hml]; rfl) (Steps.refl _) (argsL := [(.ref (own_evt s_SALE s_REFINANCE s_REFINANCE_SUBORDINATED1 s_FORECLOSURE s_DEED_IN_LIEU s_FHA_ASSIGNMENT s_DEATH1 ((b_ &&& (2147483647 : Int32)) % (7 : Int32)))), (.int (1 : Int32))]) (rest := []) (lenOf own_pd3 rfl) rfl (by show 2 * 0 + _ ≤ _; exact Nat.le_of_eq rfl) (hb hby at_75) (fun _ _ => ⟨rfl, e63, (by decide : 0 + 0 ≤ _), (by decide : 0 + 0 ≤ _)⟩)
        dsimp only [Pt.U, Pt.locs, Pt.cells, Pt.slots] at X66 l66 y66 z66 st66 hQ66
        subst l66 y66 z66
        obtain ⟨rfl, Nq66, e66⟩ := hQ66
        have N66 := Fr.app N63 Nq66
        refine otr (S' := T66.setTop (mkF m 78 #[.val (.int a_), .val (.int b_), .val (.int c_), .val (.int (4 : Int32)), .val (.int ((b_ &&& (2147483647 : Int32)) % (7 : Int32))), .val (.int (1 : Int32)), .val (.ref s_FHA_ASSIGNMENT1), .val (.ref (own_evt s_SALE s_REFINANCE s_REFINANCE_SUBORDINATED1 s_FORECLOSURE s_DEED_IN_LIEU s_FHA_ASSIGNMENT s_DEATH1 ((b_ &&& (2147483647 : Int32)) % (7 : Int32)))), .val (.int (0 : Int32))] [(.int (own_cvs s_FHA_ASSIGNMENT (own_evt s_SALE s_REFINANCE s_REFINANCE_SUBORDINATED1 s_FORECLOSURE s_DEED_IN_LIEU s_FHA_ASSIGNMENT s_DEATH1 ((b_ &&& (2147483647 : Int32)) % (7 : Int32))) (1 : Int32) (0 : Int32)))])) st66 ?_
        have ne78 := own_evne SB (own_rem7 b_) (c := (5 : Int32)) (by decide) hc64
        rw [show own_evt s_SALE s_REFINANCE s_REFINANCE_SUBORDINATED1 s_FORECLOSURE s_DEED_IN_LIEU s_FHA_ASSIGNMENT s_DEATH1 (5 : Int32) = s_FHA_ASSIGNMENT from by simp [own_evt]] at ne78
        rw [show (own_cvs s_FHA_ASSIGNMENT (own_evt s_SALE s_REFINANCE s_REFINANCE_SUBORDINATED1 s_FORECLOSURE s_DEED_IN_LIEU s_FHA_ASSIGNMENT s_DEATH1 ((b_ &&& (2147483647 : Int32)) % (7 : Int32))) (1 : Int32) (0 : Int32)) = (0 : Int32) from if_neg ne78]
        refine o_iload X66 hx (hb hby at_78) rfl ?_
        refine o_icmpNo X66 hx (hb hby at_80) (teq (by decide : (0 : Int32) = (0 : Int32))).2 ?_
        refine o_iconst X66 hx (1 : Int32) (hb hby at_83) rfl ?_
        refine o_goto X66 hx 88 (hb hby at_84) (by decide) (by decide) ?_
        refine oend X66 hlk (v := some (.int (1 : Int32))) (fun h => by rw [hret] at h; cases h) (fun fs hr => retN X66 hx (t := .boolean) hret (by simp) (hb hby at_88) hr) (by decide) (by decide) ?_
        show own_Q_law Z _ _ _ _ _ _ _ _ _ _ _ _ _ _ _ _ h0 n0 _ T66.heap _
        rw [e66]
        exact ⟨rfl, N66, rfl⟩
  · rw [hs1]
    refine o_iloadN X0 hx (hb hby at_8) rfl ?_
    refine ogo (S' := s₁.setTop (mkF m 11 #[.val (.int a_), .val (.int b_), .val (.int c_), .val (.int (5 : Int32)), .unset, .unset, .unset, .unset, .unset] [(.int (2147483647 : Int32)), (.int b_)])) (X0.ldcInt hx hown (mvT hZ w0) (g := (mkF m 9 #[.val (.int a_), .val (.int b_), .val (.int c_), .val (.int (5 : Int32)), .unset, .unset, .unset, .unset, .unset] [(.int b_)])) rfl (hb hby at_9)) ?_
    refine o_iand X0 hx (hb hby at_11) ?_
    refine o_bipush X0 hx (7 : Int32) (hb hby at_12) rfl ?_
    refine o_irem X0 hx (hb hby at_14) (by decide) ?_
    refine o_istore X0 hx (l' := #[.val (.int a_), .val (.int b_), .val (.int c_), .val (.int (5 : Int32)), .val (.int ((b_ &&& (2147483647 : Int32)) % (7 : Int32))), .unset, .unset, .unset, .unset]) (hb hby at_15) rfl ?_
    refine o_iloadN X0 hx (hb hby at_17) rfl ?_
    refine o_iconst X0 hx (1 : Int32) (hb hby at_18) rfl ?_
    refine o_iand X0 hx (hb hby at_19) ?_
    by_cases hc67 : (c_ &&& (1 : Int32)) = (0 : Int32)
    · refine o_ifYes X0 hx 27 (hb hby at_20) (teq hc67).1 (by decide) (by decide) ?_
      refine o_iconst X0 hx (0 : Int32) (hb hby at_27) rfl ?_
      refine o_istore X0 hx (l' := #[.val (.int a_), .val (.int b_), .val (.int c_), .val (.int (5 : Int32)), .val (.int ((b_ &&& (2147483647 : Int32)) % (7 : Int32))), .val (.int (0 : Int32)), .unset, .unset, .unset]) (hb hby at_28) rfl ?_
      refine o_iloadN X0 hx (hb hby at_30) rfl ?_
      obtain ⟨_, _, ⟨T68, L68, kc68, n68⟩, -, X68, ⟨Lc68, hQ68, l68, y68, z68⟩, st68⟩ := Jvm.LawKit.callS X0 hx (y := yM0) hown (mvT hZ w1) (mvT hZ w2) (mvT hZ w3) (mvT hZ w4) (by decide) (backOf (W := 0) (rm_exemption l Z a0 hw [] s_REFINANCE_SUBORDINATED s_FORECLOSURE s_REFINANCE_SUBORDINATED1 s_BUYER_LOW_MODERATE_INCOME s_FHA_ASSIGNMENT s_SALE s_FORECLOSURE1 s_DEED_IN_LIEU s_DEATH s_DEATH1 s_REFINANCE s_DEED_IN_LIEU1 s_FHA_ASSIGNMENT1 (5 : Int32) h0 n0 SB O0 ) hZ w4 w3 (by decide) (by decide)) (g := (mkF m 31 #[.val (.int a_), .val (.int b_), .val (.int c_), .val (.int (5 : Int32)), .val (.int ((b_ &&& (2147483647 : Int32)) % (7 : Int32))), .val (.int (0 : Int32)), .unset, .unset, .unset] [(.int (5 : Int32))])) rfl (by rw [hml]; rfl) (argsL := [(.int (5 : Int32))]) (rest := []) (lenOf own_pd0 rfl) rfl (by show 2 * 0 + _ ≤ _; exact Nat.le_of_eq rfl) (hb hby at_31) (fun _ _ => ⟨rfl, e0, (by decide : 0 + 0 ≤ _), (by decide : 0 + 0 ≤ _)⟩)
      dsimp only [Pt.U, Pt.locs, Pt.cells, Pt.slots] at X68 l68 y68 z68 st68 hQ68
      subst l68 y68 z68
      obtain ⟨rfl, Nq68, e68⟩ := hQ68
      have N68 := Fr.app N0 Nq68
      refine ogo (S' := T68.setTop (mkF m 34 #[.val (.int a_), .val (.int b_), .val (.int c_), .val (.int (5 : Int32)), .val (.int ((b_ &&& (2147483647 : Int32)) % (7 : Int32))), .val (.int (0 : Int32)), .unset, .unset, .unset] [(.ref (own_exm s_REFINANCE_SUBORDINATED s_BUYER_LOW_MODERATE_INCOME s_FORECLOSURE1 s_DEED_IN_LIEU1 s_FHA_ASSIGNMENT1 s_DEATH (5 : Int32)))])) st68 ?_
      rw [show (own_exm s_REFINANCE_SUBORDINATED s_BUYER_LOW_MODERATE_INCOME s_FORECLOSURE1 s_DEED_IN_LIEU1 s_FHA_ASSIGNMENT1 s_DEATH (5 : Int32)) = s_DEATH from by simp [own_exm]]
      refine o_astore X68 hx (l' := #[.val (.int a_), .val (.int b_), .val (.int c_), .val (.int (5 : Int32)), .val (.int ((b_ &&& (2147483647 : Int32)) % (7 : Int32))), .val (.int (0 : Int32)), .val (.ref s_DEATH), .unset, .unset]) (hb hby at_34) rfl rfl ?_
      refine o_iload X68 hx (hb hby at_36) rfl ?_
      obtain ⟨_, _, ⟨T69, L69, kc69, n69⟩, -, X69, ⟨Lc69, hQ69, l69, y69, z69⟩, st69⟩ := Jvm.LawKit.callS X68 hx (y := yM1) hown (mvT hZ w8) (mvT hZ w9) (mvT hZ w3) (mvT hZ w10) (by decide) (backOf (W := 0) (rm_event l Z a0 hw [] s_REFINANCE_SUBORDINATED s_FORECLOSURE s_REFINANCE_SUBORDINATED1 s_BUYER_LOW_MODERATE_INCOME s_FHA_ASSIGNMENT s_SALE s_FORECLOSURE1 s_DEED_IN_LIEU s_DEATH s_DEATH1 s_REFINANCE s_DEED_IN_LIEU1 s_FHA_ASSIGNMENT1 ((b_ &&& (2147483647 : Int32)) % (7 : Int32)) h0 n0 SB O0 ) hZ w10 w3 (by decide) (by decide)) (g := (mkF m 38 #[.val (.int a_), .val (.int b_), .val (.int c_), .val (.int (5 : Int32)), .val (.int ((b_ &&& (2147483647 : Int32)) % (7 : Int32))), .val (.int (0 : Int32)), .val (.ref s_DEATH), .unset, .unset] [(.int ((b_ &&& (2147483647 : Int32)) % (7 : Int32)))])) rfl (by rw [hml]; rfl) (argsL := [(.int ((b_ &&& (2147483647 : Int32)) % (7 : Int32)))]) (rest := []) (lenOf own_pd1 rfl) rfl (by show 2 * 0 + _ ≤ _; exact Nat.le_of_eq rfl) (hb hby at_38) (fun _ _ => ⟨rfl, e68, (by decide : 0 + 0 ≤ _), (by decide : 0 + 0 ≤ _)⟩)
      dsimp only [Pt.U, Pt.locs, Pt.cells, Pt.slots] at X69 l69 y69 z69 st69 hQ69
      subst l69 y69 z69
      obtain ⟨rfl, Nq69, e69⟩ := hQ69
      have N69 := Fr.app N68 Nq69
      refine ogo (S' := T69.setTop (mkF m 41 #[.val (.int a_), .val (.int b_), .val (.int c_), .val (.int (5 : Int32)), .val (.int ((b_ &&& (2147483647 : Int32)) % (7 : Int32))), .val (.int (0 : Int32)), .val (.ref s_DEATH), .unset, .unset] [(.ref (own_evt s_SALE s_REFINANCE s_REFINANCE_SUBORDINATED1 s_FORECLOSURE s_DEED_IN_LIEU s_FHA_ASSIGNMENT s_DEATH1 ((b_ &&& (2147483647 : Int32)) % (7 : Int32))))])) st69 ?_
      refine o_astore X69 hx (l' := #[.val (.int a_), .val (.int b_), .val (.int c_), .val (.int (5 : Int32)), .val (.int ((b_ &&& (2147483647 : Int32)) % (7 : Int32))), .val (.int (0 : Int32)), .val (.ref s_DEATH), .val (.ref (own_evt s_SALE s_REFINANCE s_REFINANCE_SUBORDINATED1 s_FORECLOSURE s_DEED_IN_LIEU s_FHA_ASSIGNMENT s_DEATH1 ((b_ &&& (2147483647 : Int32)) % (7 : Int32)))), .unset]) (hb hby at_41) rfl rfl ?_
      refine o_iload X69 hx (hb hby at_43) rfl ?_
      refine o_iloadN X69 hx (hb hby at_45) rfl ?_
      obtain ⟨_, _, ⟨T70, L70, kc70, n70⟩, -, X70, ⟨Lc70, hQ70, l70, y70, z70⟩, st70⟩ := Jvm.LawKit.callS X69 hx (y := yM2) hown (mvT hZ w14) (mvT hZ w15) (mvT hZ w3) (mvT hZ w16) (by decide) (backOf (W := 1) (rm_coveredEvent l Z a0 hw []  (5 : Int32) h0 n0 O0 ) hZ w16 w3 (by decide) (by decide)) (g := (mkF m 46 #[.val (.int a_), .val (.int b_), .val (.int c_), .val (.int (5 : Int32)), .val (.int ((b_ &&& (2147483647 : Int32)) % (7 : Int32))), .val (.int (0 : Int32)), .val (.ref s_DEATH), .val (.ref (own_evt s_SALE s_REFINANCE s_REFINANCE_SUBORDINATED1 s_FORECLOSURE s_DEED_IN_LIEU s_FHA_ASSIGNMENT s_DEATH1 ((b_ &&& (2147483647 : Int32)) % (7 : Int32)))), .unset] [(.int (5 : Int32)), (.int ((b_ &&& (2147483647 : Int32)) % (7 : Int32)))])) rfl (by rw [hml]; rfl) (argsL := [(.int (5 : Int32))]) (rest := [(.int ((b_ &&& (2147483647 : Int32)) % (7 : Int32)))]) (lenOf own_pd2 rfl) rfl (by show 2 * 0 + _ ≤ _; exact Nat.le_of_eq rfl) (hb hby at_46) (fun _ _ => ⟨rfl, e69, (by decide : 0 + 0 ≤ _), (by decide : 0 + 0 ≤ _)⟩)
      dsimp only [Pt.U, Pt.locs, Pt.cells, Pt.slots] at X70 l70 y70 z70 st70 hQ70
      subst l70 y70 z70
      obtain ⟨rfl, Nq70, e70⟩ := hQ70
      have N70 := Fr.app N69 Nq70
      refine ogo (S' := T70.setTop (mkF m 49 #[.val (.int a_), .val (.int b_), .val (.int c_), .val (.int (5 : Int32)), .val (.int ((b_ &&& (2147483647 : Int32)) % (7 : Int32))), .val (.int (0 : Int32)), .val (.ref s_DEATH), .val (.ref (own_evt s_SALE s_REFINANCE s_REFINANCE_SUBORDINATED1 s_FORECLOSURE s_DEED_IN_LIEU s_FHA_ASSIGNMENT s_DEATH1 ((b_ &&& (2147483647 : Int32)) % (7 : Int32)))), .unset] [(.int (own_cov (5 : Int32))), (.int ((b_ &&& (2147483647 : Int32)) % (7 : Int32)))])) st70 ?_
      rw [show (own_cov (5 : Int32)) = (6 : Int32) from by decide]
      by_cases hc71 : ((b_ &&& (2147483647 : Int32)) % (7 : Int32)) = (6 : Int32)
      · refine o_icmpNo X70 hx (hb hby at_49) (teq hc71).2 ?_
        refine o_iload X70 hx (hb hby at_52) rfl ?_
        refine o_ifNo X70 hx (hb hby at_54) (teq (by decide : (0 : Int32) = (0 : Int32))).2 ?_
        refine o_iloadN X70 hx (hb hby at_57) rfl ?_
        refine o_iconst X70 hx (1 : Int32) (hb hby at_58) rfl ?_
        refine o_icmpNo X70 hx (hb hby at_59) (feq (by decide : ¬ ((5 : Int32) = (1 : Int32)))).1 ?_
        refine o_iconst X70 hx (1 : Int32) (hb hby at_62) rfl ?_
        refine o_goto X70 hx 67 (hb hby at_63) (by decide) (by decide) ?_
        refine o_istore X70 hx (l' := #[.val (.int a_), .val (.int b_), .val (.int c_), .val (.int (5 : Int32)), .val (.int ((b_ &&& (2147483647 : Int32)) % (7 : Int32))), .val (.int (0 : Int32)), .val (.ref s_DEATH), .val (.ref (own_evt s_SALE s_REFINANCE s_REFINANCE_SUBORDINATED1 s_FORECLOSURE s_DEED_IN_LIEU s_FHA_ASSIGNMENT s_DEATH1 ((b_ &&& (2147483647 : Int32)) % (7 : Int32)))), .val (.int (1 : Int32))]) (hb hby at_67) rfl ?_
        refine o_aload X70 hx (hb hby at_69) rfl rfl ?_
        refine o_aload X70 hx (hb hby at_71) rfl rfl ?_
        refine o_iload X70 hx (hb hby at_73) rfl ?_
        obtain ⟨cq72, kq72, q72a, q72b, q72c⟩ := isOf hZ e70 (Exa.ext O0.2 E_s_DEATH)
        obtain ⟨_, _, ⟨T72, L72, kc72, n72⟩, -, X72, ⟨Lc72, hQ72, l72, y72, z72⟩, st72⟩ := X70.virtualBack hx (y := yM3) (z := yM3) hown (mvT hZ w17) (mvT hZ w18) (notFace_of_selects (args := #[]) (mvT hZ w20)) (mvT hZ w20) (mvT hZ w19) (by decide) (backOf (W := 0) (rm_covers l Z a0 hw []  s_DEATH (own_evt s_SALE s_REFINANCE s_REFINANCE_SUBORDINATED1 s_FORECLOSURE s_DEED_IN_LIEU s_FHA_ASSIGNMENT s_DEATH1 ((b_ &&& (2147483647 : Int32)) % (7 : Int32))) (0 : Int32) s_DEATH1 (0 : Int32) h0 n0 O0 (Fld.ext O0.2 F_s_DEATH_event) (Fld.ext O0.2 F_s_DEATH_byBuyersIncome)) hZ w21 w6 (by decide) (by decide)) q72a q72c (g := (mkF m 75 #[.val (.int a_), .val (.int b_), .val (.int c_), .val (.int (5 : Int32)), .val (.int ((b_ &&& (2147483647 : Int32)) % (7 : Int32))), .val (.int (0 : Int32)), .val (.ref s_DEATH), .val (.ref (own_evt s_SALE s_REFINANCE s_REFINANCE_SUBORDINATED1 s_FORECLOSURE s_DEED_IN_LIEU s_FHA_ASSIGNMENT s_DEATH1 ((b_ &&& (2147483647 : Int32)) % (7 : Int32)))), .val (.int (1 : Int32))] [(.int (0 : Int32)), (.ref (own_evt s_SALE s_REFINANCE s_REFINANCE_SUBORDINATED1 s_FORECLOSURE s_DEED_IN_LIEU s_FHA_ASSIGNMENT s_DEATH1 ((b_ &&& (2147483647 : Int32)) % (7 : Int32)))), (.ref s_DEATH)])) rfl (by rw [hml]; rfl) (Steps.refl _) (argsL := [(.ref (own_evt s_SALE s_REFINANCE s_REFINANCE_SUBORDINATED1 s_FORECLOSURE s_DEED_IN_LIEU s_FHA_ASSIGNMENT s_DEATH1 ((b_ &&& (2147483647 : Int32)) % (7 : Int32)))), (.int (0 : Int32))]) (rest := []) (lenOf own_pd3 rfl) rfl (by show 2 * 0 + _ ≤ _; exact Nat.le_of_eq rfl) (hb hby at_75) (fun _ _ => ⟨rfl, e70, (by decide : 0 + 0 ≤ _), (by decide : 0 + 0 ≤ _)⟩)
        dsimp only [Pt.U, Pt.locs, Pt.cells, Pt.slots] at X72 l72 y72 z72 st72 hQ72
        subst l72 y72 z72
        obtain ⟨rfl, Nq72, e72⟩ := hQ72
        have N72 := Fr.app N70 Nq72
        refine otr (S' := T72.setTop (mkF m 78 #[.val (.int a_), .val (.int b_), .val (.int c_), .val (.int (5 : Int32)), .val (.int ((b_ &&& (2147483647 : Int32)) % (7 : Int32))), .val (.int (0 : Int32)), .val (.ref s_DEATH), .val (.ref (own_evt s_SALE s_REFINANCE s_REFINANCE_SUBORDINATED1 s_FORECLOSURE s_DEED_IN_LIEU s_FHA_ASSIGNMENT s_DEATH1 ((b_ &&& (2147483647 : Int32)) % (7 : Int32)))), .val (.int (1 : Int32))] [(.int (own_cvs s_DEATH1 (own_evt s_SALE s_REFINANCE s_REFINANCE_SUBORDINATED1 s_FORECLOSURE s_DEED_IN_LIEU s_FHA_ASSIGNMENT s_DEATH1 ((b_ &&& (2147483647 : Int32)) % (7 : Int32))) (0 : Int32) (0 : Int32)))])) st72 ?_
        rw [show (own_cvs s_DEATH1 (own_evt s_SALE s_REFINANCE s_REFINANCE_SUBORDINATED1 s_FORECLOSURE s_DEED_IN_LIEU s_FHA_ASSIGNMENT s_DEATH1 ((b_ &&& (2147483647 : Int32)) % (7 : Int32))) (0 : Int32) (0 : Int32)) = (1 : Int32) from by rw [hc71]; simp [own_cvs, own_evt]]
        refine o_iload X72 hx (hb hby at_78) rfl ?_
        refine o_icmpNo X72 hx (hb hby at_80) (teq (by decide : (1 : Int32) = (1 : Int32))).2 ?_
        refine o_iconst X72 hx (1 : Int32) (hb hby at_83) rfl ?_
        refine o_goto X72 hx 88 (hb hby at_84) (by decide) (by decide) ?_
        refine oend X72 hlk (v := some (.int (1 : Int32))) (fun h => by rw [hret] at h; cases h) (fun fs hr => retN X72 hx (t := .boolean) hret (by simp) (hb hby at_88) hr) (by decide) (by decide) ?_
        show own_Q_law Z _ _ _ _ _ _ _ _ _ _ _ _ _ _ _ _ h0 n0 _ T72.heap _
        rw [e72]
        exact ⟨rfl, N72, rfl⟩
      · refine o_icmpYes X70 hx 66 (hb hby at_49) (feq hc71).2 (by decide) (by decide) ?_
        refine o_iconst X70 hx (0 : Int32) (hb hby at_66) rfl ?_
        refine o_istore X70 hx (l' := #[.val (.int a_), .val (.int b_), .val (.int c_), .val (.int (5 : Int32)), .val (.int ((b_ &&& (2147483647 : Int32)) % (7 : Int32))), .val (.int (0 : Int32)), .val (.ref s_DEATH), .val (.ref (own_evt s_SALE s_REFINANCE s_REFINANCE_SUBORDINATED1 s_FORECLOSURE s_DEED_IN_LIEU s_FHA_ASSIGNMENT s_DEATH1 ((b_ &&& (2147483647 : Int32)) % (7 : Int32)))), .val (.int (0 : Int32))]) (hb hby at_67) rfl ?_
        refine o_aload X70 hx (hb hby at_69) rfl rfl ?_
        refine o_aload X70 hx (hb hby at_71) rfl rfl ?_
        refine o_iload X70 hx (hb hby at_73) rfl ?_
        obtain ⟨cq73, kq73, q73a, q73b, q73c⟩ := isOf hZ e70 (Exa.ext O0.2 E_s_DEATH)
        obtain ⟨_, _, ⟨T73, L73, kc73, n73⟩, -, X73, ⟨Lc73, hQ73, l73, y73, z73⟩, st73⟩ := X70.virtualBack hx (y := yM3) (z := yM3) hown (mvT hZ w17) (mvT hZ w18) (notFace_of_selects (args := #[]) (mvT hZ w20)) (mvT hZ w20) (mvT hZ w19) (by decide) (backOf (W := 0) (rm_covers l Z a0 hw []  s_DEATH (own_evt s_SALE s_REFINANCE s_REFINANCE_SUBORDINATED1 s_FORECLOSURE s_DEED_IN_LIEU s_FHA_ASSIGNMENT s_DEATH1 ((b_ &&& (2147483647 : Int32)) % (7 : Int32))) (0 : Int32) s_DEATH1 (0 : Int32) h0 n0 O0 (Fld.ext O0.2 F_s_DEATH_event) (Fld.ext O0.2 F_s_DEATH_byBuyersIncome)) hZ w21 w6 (by decide) (by decide)) q73a q73c (g := (mkF m 75 #[.val (.int a_), .val (.int b_), .val (.int c_), .val (.int (5 : Int32)), .val (.int ((b_ &&& (2147483647 : Int32)) % (7 : Int32))), .val (.int (0 : Int32)), .val (.ref s_DEATH), .val (.ref (own_evt s_SALE s_REFINANCE s_REFINANCE_SUBORDINATED1 s_FORECLOSURE s_DEED_IN_LIEU s_FHA_ASSIGNMENT s_DEATH1 ((b_ &&& (2147483647 : Int32)) % (7 : Int32)))), .val (.int (0 : Int32))] [(.int (0 : Int32)), (.ref (own_evt s_SALE s_REFINANCE s_REFINANCE_SUBORDINATED1 s_FORECLOSURE s_DEED_IN_LIEU s_FHA_ASSIGNMENT s_DEATH1 ((b_ &&& (2147483647 : Int32)) % (7 : Int32)))), (.ref s_DEATH)])) rfl (by rw [hml]; rfl) (Steps.refl _) (argsL := [(.ref (own_evt s_SALE s_REFINANCE s_REFINANCE_SUBORDINATED1 s_FORECLOSURE s_DEED_IN_LIEU s_FHA_ASSIGNMENT s_DEATH1 ((b_ &&& (2147483647 : Int32)) % (7 : Int32)))), (.int (0 : Int32))]) (rest := []) (lenOf own_pd3 rfl) rfl (by show 2 * 0 + _ ≤ _; exact Nat.le_of_eq rfl) (hb hby at_75) (fun _ _ => ⟨rfl, e70, (by decide : 0 + 0 ≤ _), (by decide : 0 + 0 ≤ _)⟩)
        dsimp only [Pt.U, Pt.locs, Pt.cells, Pt.slots] at X73 l73 y73 z73 st73 hQ73
        subst l73 y73 z73
        obtain ⟨rfl, Nq73, e73⟩ := hQ73
        have N73 := Fr.app N70 Nq73
        refine otr (S' := T73.setTop (mkF m 78 #[.val (.int a_), .val (.int b_), .val (.int c_), .val (.int (5 : Int32)), .val (.int ((b_ &&& (2147483647 : Int32)) % (7 : Int32))), .val (.int (0 : Int32)), .val (.ref s_DEATH), .val (.ref (own_evt s_SALE s_REFINANCE s_REFINANCE_SUBORDINATED1 s_FORECLOSURE s_DEED_IN_LIEU s_FHA_ASSIGNMENT s_DEATH1 ((b_ &&& (2147483647 : Int32)) % (7 : Int32)))), .val (.int (0 : Int32))] [(.int (own_cvs s_DEATH1 (own_evt s_SALE s_REFINANCE s_REFINANCE_SUBORDINATED1 s_FORECLOSURE s_DEED_IN_LIEU s_FHA_ASSIGNMENT s_DEATH1 ((b_ &&& (2147483647 : Int32)) % (7 : Int32))) (0 : Int32) (0 : Int32)))])) st73 ?_
        have ne78 := own_evne SB (own_rem7 b_) (c := (6 : Int32)) (by decide) hc71
        rw [show own_evt s_SALE s_REFINANCE s_REFINANCE_SUBORDINATED1 s_FORECLOSURE s_DEED_IN_LIEU s_FHA_ASSIGNMENT s_DEATH1 (6 : Int32) = s_DEATH1 from by simp [own_evt]] at ne78
        rw [show (own_cvs s_DEATH1 (own_evt s_SALE s_REFINANCE s_REFINANCE_SUBORDINATED1 s_FORECLOSURE s_DEED_IN_LIEU s_FHA_ASSIGNMENT s_DEATH1 ((b_ &&& (2147483647 : Int32)) % (7 : Int32))) (0 : Int32) (0 : Int32)) = (0 : Int32) from if_neg ne78]
        refine o_iload X73 hx (hb hby at_78) rfl ?_
        refine o_icmpNo X73 hx (hb hby at_80) (teq (by decide : (0 : Int32) = (0 : Int32))).2 ?_
        refine o_iconst X73 hx (1 : Int32) (hb hby at_83) rfl ?_
        refine o_goto X73 hx 88 (hb hby at_84) (by decide) (by decide) ?_
        refine oend X73 hlk (v := some (.int (1 : Int32))) (fun h => by rw [hret] at h; cases h) (fun fs hr => retN X73 hx (t := .boolean) hret (by simp) (hb hby at_88) hr) (by decide) (by decide) ?_
        show own_Q_law Z _ _ _ _ _ _ _ _ _ _ _ _ _ _ _ _ h0 n0 _ T73.heap _
        rw [e73]
        exact ⟨rfl, N73, rfl⟩
    · refine o_ifNo X0 hx (hb hby at_20) (feq hc67).1 ?_
      refine o_iconst X0 hx (1 : Int32) (hb hby at_23) rfl ?_
      refine o_goto X0 hx 28 (hb hby at_24) (by decide) (by decide) ?_
      refine o_istore X0 hx (l' := #[.val (.int a_), .val (.int b_), .val (.int c_), .val (.int (5 : Int32)), .val (.int ((b_ &&& (2147483647 : Int32)) % (7 : Int32))), .val (.int (1 : Int32)), .unset, .unset, .unset]) (hb hby at_28) rfl ?_
      refine o_iloadN X0 hx (hb hby at_30) rfl ?_
      obtain ⟨_, _, ⟨T74, L74, kc74, n74⟩, -, X74, ⟨Lc74, hQ74, l74, y74, z74⟩, st74⟩ := Jvm.LawKit.callS X0 hx (y := yM0) hown (mvT hZ w1) (mvT hZ w2) (mvT hZ w3) (mvT hZ w4) (by decide) (backOf (W := 0) (rm_exemption l Z a0 hw [] s_REFINANCE_SUBORDINATED s_FORECLOSURE s_REFINANCE_SUBORDINATED1 s_BUYER_LOW_MODERATE_INCOME s_FHA_ASSIGNMENT s_SALE s_FORECLOSURE1 s_DEED_IN_LIEU s_DEATH s_DEATH1 s_REFINANCE s_DEED_IN_LIEU1 s_FHA_ASSIGNMENT1 (5 : Int32) h0 n0 SB O0 ) hZ w4 w3 (by decide) (by decide)) (g := (mkF m 31 #[.val (.int a_), .val (.int b_), .val (.int c_), .val (.int (5 : Int32)), .val (.int ((b_ &&& (2147483647 : Int32)) % (7 : Int32))), .val (.int (1 : Int32)), .unset, .unset, .unset] [(.int (5 : Int32))])) rfl (by rw [hml]; rfl) (argsL := [(.int (5 : Int32))]) (rest := []) (lenOf own_pd0 rfl) rfl (by show 2 * 0 + _ ≤ _; exact Nat.le_of_eq rfl) (hb hby at_31) (fun _ _ => ⟨rfl, e0, (by decide : 0 + 0 ≤ _), (by decide : 0 + 0 ≤ _)⟩)
      dsimp only [Pt.U, Pt.locs, Pt.cells, Pt.slots] at X74 l74 y74 z74 st74 hQ74
      subst l74 y74 z74
      obtain ⟨rfl, Nq74, e74⟩ := hQ74
      have N74 := Fr.app N0 Nq74
      refine ogo (S' := T74.setTop (mkF m 34 #[.val (.int a_), .val (.int b_), .val (.int c_), .val (.int (5 : Int32)), .val (.int ((b_ &&& (2147483647 : Int32)) % (7 : Int32))), .val (.int (1 : Int32)), .unset, .unset, .unset] [(.ref (own_exm s_REFINANCE_SUBORDINATED s_BUYER_LOW_MODERATE_INCOME s_FORECLOSURE1 s_DEED_IN_LIEU1 s_FHA_ASSIGNMENT1 s_DEATH (5 : Int32)))])) st74 ?_
      rw [show (own_exm s_REFINANCE_SUBORDINATED s_BUYER_LOW_MODERATE_INCOME s_FORECLOSURE1 s_DEED_IN_LIEU1 s_FHA_ASSIGNMENT1 s_DEATH (5 : Int32)) = s_DEATH from by simp [own_exm]]
      refine o_astore X74 hx (l' := #[.val (.int a_), .val (.int b_), .val (.int c_), .val (.int (5 : Int32)), .val (.int ((b_ &&& (2147483647 : Int32)) % (7 : Int32))), .val (.int (1 : Int32)), .val (.ref s_DEATH), .unset, .unset]) (hb hby at_34) rfl rfl ?_
      refine o_iload X74 hx (hb hby at_36) rfl ?_
      obtain ⟨_, _, ⟨T75, L75, kc75, n75⟩, -, X75, ⟨Lc75, hQ75, l75, y75, z75⟩, st75⟩ := Jvm.LawKit.callS X74 hx (y := yM1) hown (mvT hZ w8) (mvT hZ w9) (mvT hZ w3) (mvT hZ w10) (by decide) (backOf (W := 0) (rm_event l Z a0 hw [] s_REFINANCE_SUBORDINATED s_FORECLOSURE s_REFINANCE_SUBORDINATED1 s_BUYER_LOW_MODERATE_INCOME s_FHA_ASSIGNMENT s_SALE s_FORECLOSURE1 s_DEED_IN_LIEU s_DEATH s_DEATH1 s_REFINANCE s_DEED_IN_LIEU1 s_FHA_ASSIGNMENT1 ((b_ &&& (2147483647 : Int32)) % (7 : Int32)) h0 n0 SB O0 ) hZ w10 w3 (by decide) (by decide)) (g := (mkF m 38 #[.val (.int a_), .val (.int b_), .val (.int c_), .val (.int (5 : Int32)), .val (.int ((b_ &&& (2147483647 : Int32)) % (7 : Int32))), .val (.int (1 : Int32)), .val (.ref s_DEATH), .unset, .unset] [(.int ((b_ &&& (2147483647 : Int32)) % (7 : Int32)))])) rfl (by rw [hml]; rfl) (argsL := [(.int ((b_ &&& (2147483647 : Int32)) % (7 : Int32)))]) (rest := []) (lenOf own_pd1 rfl) rfl (by show 2 * 0 + _ ≤ _; exact Nat.le_of_eq rfl) (hb hby at_38) (fun _ _ => ⟨rfl, e74, (by decide : 0 + 0 ≤ _), (by decide : 0 + 0 ≤ _)⟩)
      dsimp only [Pt.U, Pt.locs, Pt.cells, Pt.slots] at X75 l75 y75 z75 st75 hQ75
      subst l75 y75 z75
      obtain ⟨rfl, Nq75, e75⟩ := hQ75
      have N75 := Fr.app N74 Nq75
      refine ogo (S' := T75.setTop (mkF m 41 #[.val (.int a_), .val (.int b_), .val (.int c_), .val (.int (5 : Int32)), .val (.int ((b_ &&& (2147483647 : Int32)) % (7 : Int32))), .val (.int (1 : Int32)), .val (.ref s_DEATH), .unset, .unset] [(.ref (own_evt s_SALE s_REFINANCE s_REFINANCE_SUBORDINATED1 s_FORECLOSURE s_DEED_IN_LIEU s_FHA_ASSIGNMENT s_DEATH1 ((b_ &&& (2147483647 : Int32)) % (7 : Int32))))])) st75 ?_
      refine o_astore X75 hx (l' := #[.val (.int a_), .val (.int b_), .val (.int c_), .val (.int (5 : Int32)), .val (.int ((b_ &&& (2147483647 : Int32)) % (7 : Int32))), .val (.int (1 : Int32)), .val (.ref s_DEATH), .val (.ref (own_evt s_SALE s_REFINANCE s_REFINANCE_SUBORDINATED1 s_FORECLOSURE s_DEED_IN_LIEU s_FHA_ASSIGNMENT s_DEATH1 ((b_ &&& (2147483647 : Int32)) % (7 : Int32)))), .unset]) (hb hby at_41) rfl rfl ?_
      refine o_iload X75 hx (hb hby at_43) rfl ?_
      refine o_iloadN X75 hx (hb hby at_45) rfl ?_
      obtain ⟨_, _, ⟨T76, L76, kc76, n76⟩, -, X76, ⟨Lc76, hQ76, l76, y76, z76⟩, st76⟩ := Jvm.LawKit.callS X75 hx (y := yM2) hown (mvT hZ w14) (mvT hZ w15) (mvT hZ w3) (mvT hZ w16) (by decide) (backOf (W := 1) (rm_coveredEvent l Z a0 hw []  (5 : Int32) h0 n0 O0 ) hZ w16 w3 (by decide) (by decide)) (g := (mkF m 46 #[.val (.int a_), .val (.int b_), .val (.int c_), .val (.int (5 : Int32)), .val (.int ((b_ &&& (2147483647 : Int32)) % (7 : Int32))), .val (.int (1 : Int32)), .val (.ref s_DEATH), .val (.ref (own_evt s_SALE s_REFINANCE s_REFINANCE_SUBORDINATED1 s_FORECLOSURE s_DEED_IN_LIEU s_FHA_ASSIGNMENT s_DEATH1 ((b_ &&& (2147483647 : Int32)) % (7 : Int32)))), .unset] [(.int (5 : Int32)), (.int ((b_ &&& (2147483647 : Int32)) % (7 : Int32)))])) rfl (by rw [hml]; rfl) (argsL := [(.int (5 : Int32))]) (rest := [(.int ((b_ &&& (2147483647 : Int32)) % (7 : Int32)))]) (lenOf own_pd2 rfl) rfl (by show 2 * 0 + _ ≤ _; exact Nat.le_of_eq rfl) (hb hby at_46) (fun _ _ => ⟨rfl, e75, (by decide : 0 + 0 ≤ _), (by decide : 0 + 0 ≤ _)⟩)
      dsimp only [Pt.U, Pt.locs, Pt.cells, Pt.slots] at X76 l76 y76 z76 st76 hQ76
      subst l76 y76 z76
      obtain ⟨rfl, Nq76, e76⟩ := hQ76
      have N76 := Fr.app N75 Nq76
      refine ogo (S' := T76.setTop (mkF m 49 #[.val (.int a_), .val (.int b_), .val (.int c_), .val (.int (5 : Int32)), .val (.int ((b_ &&& (2147483647 : Int32)) % (7 : Int32))), .val (.int (1 : Int32)), .val (.ref s_DEATH), .val (.ref (own_evt s_SALE s_REFINANCE s_REFINANCE_SUBORDINATED1 s_FORECLOSURE s_DEED_IN_LIEU s_FHA_ASSIGNMENT s_DEATH1 ((b_ &&& (2147483647 : Int32)) % (7 : Int32)))), .unset] [(.int (own_cov (5 : Int32))), (.int ((b_ &&& (2147483647 : Int32)) % (7 : Int32)))])) st76 ?_
      rw [show (own_cov (5 : Int32)) = (6 : Int32) from by decide]
      by_cases hc77 : ((b_ &&& (2147483647 : Int32)) % (7 : Int32)) = (6 : Int32)
      · refine o_icmpNo X76 hx (hb hby at_49) (teq hc77).2 ?_
        refine o_iload X76 hx (hb hby at_52) rfl ?_
        refine o_ifYes X76 hx 62 (hb hby at_54) (feq (by decide : ¬ ((1 : Int32) = (0 : Int32)))).2 (by decide) (by decide) ?_
        refine o_iconst X76 hx (1 : Int32) (hb hby at_62) rfl ?_
        refine o_goto X76 hx 67 (hb hby at_63) (by decide) (by decide) ?_
        refine o_istore X76 hx (l' := #[.val (.int a_), .val (.int b_), .val (.int c_), .val (.int (5 : Int32)), .val (.int ((b_ &&& (2147483647 : Int32)) % (7 : Int32))), .val (.int (1 : Int32)), .val (.ref s_DEATH), .val (.ref (own_evt s_SALE s_REFINANCE s_REFINANCE_SUBORDINATED1 s_FORECLOSURE s_DEED_IN_LIEU s_FHA_ASSIGNMENT s_DEATH1 ((b_ &&& (2147483647 : Int32)) % (7 : Int32)))), .val (.int (1 : Int32))]) (hb hby at_67) rfl ?_
        refine o_aload X76 hx (hb hby at_69) rfl rfl ?_
        refine o_aload X76 hx (hb hby at_71) rfl rfl ?_
        refine o_iload X76 hx (hb hby at_73) rfl ?_
        obtain ⟨cq78, kq78, q78a, q78b, q78c⟩ := isOf hZ e76 (Exa.ext O0.2 E_s_DEATH)
        obtain ⟨_, _, ⟨T78, L78, kc78, n78⟩, -, X78, ⟨Lc78, hQ78, l78, y78, z78⟩, st78⟩ := X76.virtualBack hx (y := yM3) (z := yM3) hown (mvT hZ w17) (mvT hZ w18) (notFace_of_selects (args := #[]) (mvT hZ w20)) (mvT hZ w20) (mvT hZ w19) (by decide) (backOf (W := 0) (rm_covers l Z a0 hw []  s_DEATH (own_evt s_SALE s_REFINANCE s_REFINANCE_SUBORDINATED1 s_FORECLOSURE s_DEED_IN_LIEU s_FHA_ASSIGNMENT s_DEATH1 ((b_ &&& (2147483647 : Int32)) % (7 : Int32))) (1 : Int32) s_DEATH1 (0 : Int32) h0 n0 O0 (Fld.ext O0.2 F_s_DEATH_event) (Fld.ext O0.2 F_s_DEATH_byBuyersIncome)) hZ w21 w6 (by decide) (by decide)) q78a q78c (g := (mkF m 75 #[.val (.int a_), .val (.int b_), .val (.int c_), .val (.int (5 : Int32)), .val (.int ((b_ &&& (2147483647 : Int32)) % (7 : Int32))), .val (.int (1 : Int32)), .val (.ref s_DEATH), .val (.ref (own_evt s_SALE s_REFINANCE s_REFINANCE_SUBORDINATED1 s_FORECLOSURE s_DEED_IN_LIEU s_FHA_ASSIGNMENT s_DEATH1 ((b_ &&& (2147483647 : Int32)) % (7 : Int32)))), .val (.int (1 : Int32))] [(.int (1 : Int32)), (.ref (own_evt s_SALE s_REFINANCE s_REFINANCE_SUBORDINATED1 s_FORECLOSURE s_DEED_IN_LIEU s_FHA_ASSIGNMENT s_DEATH1 ((b_ &&& (2147483647 : Int32)) % (7 : Int32)))), (.ref s_DEATH)])) rfl (by rw [hml]; rfl) (Steps.refl _) (argsL := [(.ref (own_evt s_SALE s_REFINANCE s_REFINANCE_SUBORDINATED1 s_FORECLOSURE s_DEED_IN_LIEU s_FHA_ASSIGNMENT s_DEATH1 ((b_ &&& (2147483647 : Int32)) % (7 : Int32)))), (.int (1 : Int32))]) (rest := []) (lenOf own_pd3 rfl) rfl (by show 2 * 0 + _ ≤ _; exact Nat.le_of_eq rfl) (hb hby at_75) (fun _ _ => ⟨rfl, e76, (by decide : 0 + 0 ≤ _), (by decide : 0 + 0 ≤ _)⟩)
        dsimp only [Pt.U, Pt.locs, Pt.cells, Pt.slots] at X78 l78 y78 z78 st78 hQ78
        subst l78 y78 z78
        obtain ⟨rfl, Nq78, e78⟩ := hQ78
        have N78 := Fr.app N76 Nq78
        refine otr (S' := T78.setTop (mkF m 78 #[.val (.int a_), .val (.int b_), .val (.int c_), .val (.int (5 : Int32)), .val (.int ((b_ &&& (2147483647 : Int32)) % (7 : Int32))), .val (.int (1 : Int32)), .val (.ref s_DEATH), .val (.ref (own_evt s_SALE s_REFINANCE s_REFINANCE_SUBORDINATED1 s_FORECLOSURE s_DEED_IN_LIEU s_FHA_ASSIGNMENT s_DEATH1 ((b_ &&& (2147483647 : Int32)) % (7 : Int32)))), .val (.int (1 : Int32))] [(.int (own_cvs s_DEATH1 (own_evt s_SALE s_REFINANCE s_REFINANCE_SUBORDINATED1 s_FORECLOSURE s_DEED_IN_LIEU s_FHA_ASSIGNMENT s_DEATH1 ((b_ &&& (2147483647 : Int32)) % (7 : Int32))) (1 : Int32) (0 : Int32)))])) st78 ?_
        rw [show (own_cvs s_DEATH1 (own_evt s_SALE s_REFINANCE s_REFINANCE_SUBORDINATED1 s_FORECLOSURE s_DEED_IN_LIEU s_FHA_ASSIGNMENT s_DEATH1 ((b_ &&& (2147483647 : Int32)) % (7 : Int32))) (1 : Int32) (0 : Int32)) = (1 : Int32) from by rw [hc77]; simp [own_cvs, own_evt]]
        refine o_iload X78 hx (hb hby at_78) rfl ?_
        refine o_icmpNo X78 hx (hb hby at_80) (teq (by decide : (1 : Int32) = (1 : Int32))).2 ?_
        refine o_iconst X78 hx (1 : Int32) (hb hby at_83) rfl ?_
        refine o_goto X78 hx 88 (hb hby at_84) (by decide) (by decide) ?_
        refine oend X78 hlk (v := some (.int (1 : Int32))) (fun h => by rw [hret] at h; cases h) (fun fs hr => retN X78 hx (t := .boolean) hret (by simp) (hb hby at_88) hr) (by decide) (by decide) ?_
        show own_Q_law Z _ _ _ _ _ _ _ _ _ _ _ _ _ _ _ _ h0 n0 _ T78.heap _
        rw [e78]
        exact ⟨rfl, N78, rfl⟩
      · refine o_icmpYes X76 hx 66 (hb hby at_49) (feq hc77).2 (by decide) (by decide) ?_
        refine o_iconst X76 hx (0 : Int32) (hb hby at_66) rfl ?_
        refine o_istore X76 hx (l' := #[.val (.int a_), .val (.int b_), .val (.int c_), .val (.int (5 : Int32)), .val (.int ((b_ &&& (2147483647 : Int32)) % (7 : Int32))), .val (.int (1 : Int32)), .val (.ref s_DEATH), .val (.ref (own_evt s_SALE s_REFINANCE s_REFINANCE_SUBORDINATED1 s_FORECLOSURE s_DEED_IN_LIEU s_FHA_ASSIGNMENT s_DEATH1 ((b_ &&& (2147483647 : Int32)) % (7 : Int32)))), .val (.int (0 : Int32))]) (hb hby at_67) rfl ?_
        refine o_aload X76 hx (hb hby at_69) rfl rfl ?_
        refine o_aload X76 hx (hb hby at_71) rfl rfl ?_
        refine o_iload X76 hx (hb hby at_73) rfl ?_
        obtain ⟨cq79, kq79, q79a, q79b, q79c⟩ := isOf hZ e76 (Exa.ext O0.2 E_s_DEATH)
        obtain ⟨_, _, ⟨T79, L79, kc79, n79⟩, -, X79, ⟨Lc79, hQ79, l79, y79, z79⟩, st79⟩ := X76.virtualBack hx (y := yM3) (z := yM3) hown (mvT hZ w17) (mvT hZ w18) (notFace_of_selects (args := #[]) (mvT hZ w20)) (mvT hZ w20) (mvT hZ w19) (by decide) (backOf (W := 0) (rm_covers l Z a0 hw []  s_DEATH (own_evt s_SALE s_REFINANCE s_REFINANCE_SUBORDINATED1 s_FORECLOSURE s_DEED_IN_LIEU s_FHA_ASSIGNMENT s_DEATH1 ((b_ &&& (2147483647 : Int32)) % (7 : Int32))) (1 : Int32) s_DEATH1 (0 : Int32) h0 n0 O0 (Fld.ext O0.2 F_s_DEATH_event) (Fld.ext O0.2 F_s_DEATH_byBuyersIncome)) hZ w21 w6 (by decide) (by decide)) q79a q79c (g := (mkF m 75 #[.val (.int a_), .val (.int b_), .val (.int c_), .val (.int (5 : Int32)), .val (.int ((b_ &&& (2147483647 : Int32)) % (7 : Int32))), .val (.int (1 : Int32)), .val (.ref s_DEATH), .val (.ref (own_evt s_SALE s_REFINANCE s_REFINANCE_SUBORDINATED1 s_FORECLOSURE s_DEED_IN_LIEU s_FHA_ASSIGNMENT s_DEATH1 ((b_ &&& (2147483647 : Int32)) % (7 : Int32)))), .val (.int (0 : Int32))] [(.int (1 : Int32)), (.ref (own_evt s_SALE s_REFINANCE s_REFINANCE_SUBORDINATED1 s_FORECLOSURE s_DEED_IN_LIEU s_FHA_ASSIGNMENT s_DEATH1 ((b_ &&& (2147483647 : Int32)) % (7 : Int32)))), (.ref s_DEATH)])) rfl (by rw [hml]; rfl) (Steps.refl _) (argsL := [(.ref (own_evt s_SALE s_REFINANCE s_REFINANCE_SUBORDINATED1 s_FORECLOSURE s_DEED_IN_LIEU s_FHA_ASSIGNMENT s_DEATH1 ((b_ &&& (2147483647 : Int32)) % (7 : Int32)))), (.int (1 : Int32))]) (rest := []) (lenOf own_pd3 rfl) rfl (by show 2 * 0 + _ ≤ _; exact Nat.le_of_eq rfl) (hb hby at_75) (fun _ _ => ⟨rfl, e76, (by decide : 0 + 0 ≤ _), (by decide : 0 + 0 ≤ _)⟩)
        dsimp only [Pt.U, Pt.locs, Pt.cells, Pt.slots] at X79 l79 y79 z79 st79 hQ79
        subst l79 y79 z79
        obtain ⟨rfl, Nq79, e79⟩ := hQ79
        have N79 := Fr.app N76 Nq79
        refine otr (S' := T79.setTop (mkF m 78 #[.val (.int a_), .val (.int b_), .val (.int c_), .val (.int (5 : Int32)), .val (.int ((b_ &&& (2147483647 : Int32)) % (7 : Int32))), .val (.int (1 : Int32)), .val (.ref s_DEATH), .val (.ref (own_evt s_SALE s_REFINANCE s_REFINANCE_SUBORDINATED1 s_FORECLOSURE s_DEED_IN_LIEU s_FHA_ASSIGNMENT s_DEATH1 ((b_ &&& (2147483647 : Int32)) % (7 : Int32)))), .val (.int (0 : Int32))] [(.int (own_cvs s_DEATH1 (own_evt s_SALE s_REFINANCE s_REFINANCE_SUBORDINATED1 s_FORECLOSURE s_DEED_IN_LIEU s_FHA_ASSIGNMENT s_DEATH1 ((b_ &&& (2147483647 : Int32)) % (7 : Int32))) (1 : Int32) (0 : Int32)))])) st79 ?_
        have ne78 := own_evne SB (own_rem7 b_) (c := (6 : Int32)) (by decide) hc77
        rw [show own_evt s_SALE s_REFINANCE s_REFINANCE_SUBORDINATED1 s_FORECLOSURE s_DEED_IN_LIEU s_FHA_ASSIGNMENT s_DEATH1 (6 : Int32) = s_DEATH1 from by simp [own_evt]] at ne78
        rw [show (own_cvs s_DEATH1 (own_evt s_SALE s_REFINANCE s_REFINANCE_SUBORDINATED1 s_FORECLOSURE s_DEED_IN_LIEU s_FHA_ASSIGNMENT s_DEATH1 ((b_ &&& (2147483647 : Int32)) % (7 : Int32))) (1 : Int32) (0 : Int32)) = (0 : Int32) from if_neg ne78]
        refine o_iload X79 hx (hb hby at_78) rfl ?_
        refine o_icmpNo X79 hx (hb hby at_80) (teq (by decide : (0 : Int32) = (0 : Int32))).2 ?_
        refine o_iconst X79 hx (1 : Int32) (hb hby at_83) rfl ?_
        refine o_goto X79 hx 88 (hb hby at_84) (by decide) (by decide) ?_
        refine oend X79 hlk (v := some (.int (1 : Int32))) (fun h => by rw [hret] at h; cases h) (fun fs hr => retN X79 hx (t := .boolean) hret (by simp) (hb hby at_88) hr) (by decide) (by decide) ?_
        show own_Q_law Z _ _ _ _ _ _ _ _ _ _ _ _ _ _ _ _ h0 n0 _ T79.heap _
        rw [e79]
        exact ⟨rfl, N79, rfl⟩
set_option maxRecDepth 65536 in
set_option maxHeartbeats 40000000 in
theorem comes_1 {Post : Tables → Env → Array Value → State → Outcome → State → Prop} (hpost : ∀ tb e args s v u, (limb_1_1.after args s (.returned v) u = true ∧ limb_1_2.after args s (.returned v) u = true ∧ True) → FrameEnd s (.returned v) u (Jvm.fieldLocs frame_1_writes args s ++ Jvm.arrayLocs frame_1_arrays args s ++ Jvm.staticLocs frame_1_statics s) 0 0 → Post tb e args s (.returned v) u) :
    ArmFor flags0 classFile x code maxLocals ret World_1 tables_1 room_1 Calls_1 rest_1 Pre_1 Post := by
  intro l hfl _ _ p e ha hc hk s m args below hf hA hF happ hP
  obtain ⟨hcalls, hrest, hpre⟩ := hP
  obtain ⟨-, -, -, hnamed, -, -, -, hat⟩ := (Spec.applies_iff hf).mp happ
  obtain ⟨hg, hn⟩ := and_e (Cond.before_iff.mp (show (Jvm.Cond.and given_1 narrow_1).before args s = true from hpre))
  obtain ⟨g0, gr0⟩ := and_e hg
  obtain ⟨g1, gr1⟩ := and_e gr0
  obtain ⟨g2, gr2⟩ := and_e gr1
  obtain ⟨w0, w1, w2, rfl⟩ : ∃ w0 w1 w2 : Value, args = #[w0, w1, w2] := by
    have hs : args.size = 3 := by simpa [Cond.value, given_1] using g0
    obtain ⟨L⟩ := args
    match L, hs with
    | [w0, w1, w2], _ => exact ⟨w0, w1, w2, rfl⟩
  have hw := fun d (hd : d ∈ tables_1) => atoms_spec (ws := Jvm.Cond.code x code maxLocals ret :: tables_1) hat d (List.mem_cons_of_mem _ hd)
  have hfit : Fit s := fun {y c} hc i hi => by
    obtain ⟨ha, rfl⟩ := Array.getElem?_eq_some_iff.mp hc
    have q := List.all_eq_true.mp ((Array.all_eq_true_iff_forall_mem.mp hF) _ (Array.getElem_mem ha)) i (List.mem_range.mpr hi)
    simpa [Array.getElem?_eq_getElem hi] using q
  obtain ⟨i0, ei0⟩ := is_v g1
  obtain rfl : w0 = (.int i0) := Option.some.inj ei0
  obtain ⟨i1, ei1⟩ := is_v g2
  obtain rfl : w1 = (.int i1) := Option.some.inj ei1
  obtain ⟨i2, ei2⟩ := is_v gr2
  obtain rfl : w2 = (.int i2) := Option.some.inj ei2
  obtain ⟨nw0, hn0⟩ := and_e hn
  obtain ⟨nw1, hn1⟩ := and_e hn0
  obtain ⟨nw2, hn2⟩ := and_e hn1
  obtain ⟨nw3, hn3⟩ := and_e hn2
  obtain ⟨nw4, hn4⟩ := and_e hn3
  obtain ⟨nw5, hn5⟩ := and_e hn4
  obtain ⟨nw6, hn6⟩ := and_e hn5
  obtain ⟨nw7, hn7⟩ := and_e hn6
  obtain ⟨nw8, hn8⟩ := and_e hn7
  obtain ⟨nw9, hn9⟩ := and_e hn8
  obtain ⟨nw10, hn10⟩ := and_e hn9
  obtain ⟨nw11, hn11⟩ := and_e hn10
  obtain ⟨nw12, hn12⟩ := and_e hn11
  obtain ⟨nw13, hn13⟩ := and_e hn12
  obtain ⟨nw14, hn14⟩ := and_e hn13
  obtain ⟨nw15, hn15⟩ := and_e hn14
  obtain ⟨nw16, hn16⟩ := and_e hn15
  obtain ⟨nw17, hn17⟩ := and_e hn16
  obtain ⟨nw18, hn18⟩ := and_e hn17
  obtain ⟨nw19, hn19⟩ := and_e hn18
  obtain ⟨nw20, hn20⟩ := and_e hn19
  obtain ⟨nw21, hn21⟩ := and_e hn20
  obtain ⟨nw22, hn22⟩ := and_e hn21
  obtain ⟨nw23, hn23⟩ := and_e hn22
  obtain ⟨nw24, hn24⟩ := and_e hn23
  obtain ⟨nw25, hn25⟩ := and_e hn24
  obtain ⟨nw26, hn26⟩ := and_e hn25
  obtain ⟨nw27, hn27⟩ := and_e hn26
  obtain ⟨nw28, hn28⟩ := and_e hn27
  obtain ⟨nw29, hn29⟩ := and_e hn28
  obtain ⟨nw30, hn30⟩ := and_e hn29
  obtain ⟨s_REFINANCE_SUBORDINATED, ev_s_REFINANCE_SUBORDINATED⟩ := exa_v nw0
  obtain ⟨s_FORECLOSURE, ev_s_FORECLOSURE⟩ := exa_v nw1
  obtain ⟨s_REFINANCE_SUBORDINATED1, ev_s_REFINANCE_SUBORDINATED1⟩ := exa_v nw2
  obtain ⟨s_BUYER_LOW_MODERATE_INCOME, ev_s_BUYER_LOW_MODERATE_INCOME⟩ := exa_v nw6
  obtain ⟨s_FHA_ASSIGNMENT, ev_s_FHA_ASSIGNMENT⟩ := exa_v nw7
  obtain ⟨s_SALE, ev_s_SALE⟩ := exa_v nw8
  obtain ⟨s_FORECLOSURE1, ev_s_FORECLOSURE1⟩ := exa_v nw12
  obtain ⟨s_DEED_IN_LIEU, ev_s_DEED_IN_LIEU⟩ := exa_v nw13
  obtain ⟨s_DEATH, ev_s_DEATH⟩ := exa_v nw16
  obtain ⟨s_DEATH1, ev_s_DEATH1⟩ := exa_v nw17
  obtain ⟨s_REFINANCE, ev_s_REFINANCE⟩ := exa_v nw20
  obtain ⟨s_DEED_IN_LIEU1, ev_s_DEED_IN_LIEU1⟩ := exa_v nw22
  obtain ⟨s_FHA_ASSIGNMENT1, ev_s_FHA_ASSIGNMENT1⟩ := exa_v nw24
  have SB : own_Start s s_REFINANCE_SUBORDINATED s_FORECLOSURE s_REFINANCE_SUBORDINATED1 s_BUYER_LOW_MODERATE_INCOME s_FHA_ASSIGNMENT s_SALE s_FORECLOSURE1 s_DEED_IN_LIEU s_DEATH s_DEATH1 s_REFINANCE s_DEED_IN_LIEU1 s_FHA_ASSIGNMENT1 := ⟨(Sta.start ev_s_REFINANCE_SUBORDINATED (Or.inr ⟨(hw _ (List.mem_of_getElem? (i := 6) rfl)), (hw _ (List.mem_of_getElem? (i := 7) rfl))⟩)), (Exa.start ev_s_REFINANCE_SUBORDINATED nw0), (Sta.start ev_s_FORECLOSURE (Or.inr ⟨(hw _ (List.mem_of_getElem? (i := 12) rfl)), (hw _ (List.mem_of_getElem? (i := 13) rfl))⟩)), (Exa.start ev_s_FORECLOSURE nw1), (Sta.start ev_s_REFINANCE_SUBORDINATED1 (Or.inr ⟨(hw _ (List.mem_of_getElem? (i := 12) rfl)), (hw _ (List.mem_of_getElem? (i := 24) rfl))⟩)), (Exa.start ev_s_REFINANCE_SUBORDINATED1 nw2), (Sta.start ev_s_BUYER_LOW_MODERATE_INCOME (Or.inr ⟨(hw _ (List.mem_of_getElem? (i := 6) rfl)), (hw _ (List.mem_of_getElem? (i := 26) rfl))⟩)), (Exa.start ev_s_BUYER_LOW_MODERATE_INCOME nw6), (Sta.start ev_s_FHA_ASSIGNMENT (Or.inr ⟨(hw _ (List.mem_of_getElem? (i := 12) rfl)), (hw _ (List.mem_of_getElem? (i := 28) rfl))⟩)), (Exa.start ev_s_FHA_ASSIGNMENT nw7), (Sta.start ev_s_SALE (Or.inr ⟨(hw _ (List.mem_of_getElem? (i := 12) rfl)), (hw _ (List.mem_of_getElem? (i := 29) rfl))⟩)), (Exa.start ev_s_SALE nw8), (Sta.start ev_s_FORECLOSURE1 (Or.inr ⟨(hw _ (List.mem_of_getElem? (i := 6) rfl)), (hw _ (List.mem_of_getElem? (i := 31) rfl))⟩)), (Exa.start ev_s_FORECLOSURE1 nw12), (Sta.start ev_s_DEED_IN_LIEU (Or.inr ⟨(hw _ (List.mem_of_getElem? (i := 12) rfl)), (hw _ (List.mem_of_getElem? (i := 33) rfl))⟩)), (Exa.start ev_s_DEED_IN_LIEU nw13), (Sta.start ev_s_DEATH (Or.inr ⟨(hw _ (List.mem_of_getElem? (i := 6) rfl)), (hw _ (List.mem_of_getElem? (i := 35) rfl))⟩)), (Exa.start ev_s_DEATH nw16), (Sta.start ev_s_DEATH1 (Or.inr ⟨(hw _ (List.mem_of_getElem? (i := 12) rfl)), (hw _ (List.mem_of_getElem? (i := 36) rfl))⟩)), (Exa.start ev_s_DEATH1 nw17), (Sta.start ev_s_REFINANCE (Or.inr ⟨(hw _ (List.mem_of_getElem? (i := 12) rfl)), (hw _ (List.mem_of_getElem? (i := 40) rfl))⟩)), (Exa.start ev_s_REFINANCE nw20), (Sta.start ev_s_DEED_IN_LIEU1 (Or.inr ⟨(hw _ (List.mem_of_getElem? (i := 6) rfl)), (hw _ (List.mem_of_getElem? (i := 42) rfl))⟩)), (Exa.start ev_s_DEED_IN_LIEU1 nw22), (Sta.start ev_s_FHA_ASSIGNMENT1 (Or.inr ⟨(hw _ (List.mem_of_getElem? (i := 6) rfl)), (hw _ (List.mem_of_getElem? (i := 44) rfl))⟩)), (Exa.start ev_s_FHA_ASSIGNMENT1 nw24), (Fld.start ((fld_at ev_s_REFINANCE_SUBORDINATED).symm.trans (own_eqref nw3 ev_s_REFINANCE_SUBORDINATED1))), (Fld.start ((fld_at ev_s_REFINANCE_SUBORDINATED1).symm.trans (Cond.eq_int (Cond.before_iff.mpr nw4) rfl))), (Fld.start ((fld_at ev_s_FORECLOSURE).symm.trans (Cond.eq_int (Cond.before_iff.mpr nw5) rfl))), (Fld.start ((fld_at ev_s_BUYER_LOW_MODERATE_INCOME).symm.trans (own_eqref nw9 ev_s_SALE))), (Fld.start ((fld_at ev_s_SALE).symm.trans (Cond.eq_int (Cond.before_iff.mpr nw10) rfl))), (Fld.start ((fld_at ev_s_FHA_ASSIGNMENT).symm.trans (Cond.eq_int (Cond.before_iff.mpr nw11) rfl))), (Fld.start ((fld_at ev_s_FORECLOSURE1).symm.trans (own_eqref nw14 ev_s_FORECLOSURE))), (Fld.start ((fld_at ev_s_DEED_IN_LIEU).symm.trans (Cond.eq_int (Cond.before_iff.mpr nw15) rfl))), (Fld.start ((fld_at ev_s_DEATH).symm.trans (own_eqref nw18 ev_s_DEATH1))), (Fld.start ((fld_at ev_s_DEATH1).symm.trans (Cond.eq_int (Cond.before_iff.mpr nw19) rfl))), (Fld.start ((fld_at ev_s_REFINANCE).symm.trans (Cond.eq_int (Cond.before_iff.mpr nw21) rfl))), (Fld.start ((fld_at ev_s_DEED_IN_LIEU1).symm.trans (own_eqref nw23 ev_s_DEED_IN_LIEU))), (Fld.start ((fld_at ev_s_FHA_ASSIGNMENT1).symm.trans (own_eqref nw25 ev_s_FHA_ASSIGNMENT))), (Fld.start ((fld_at ev_s_REFINANCE_SUBORDINATED).symm.trans (Cond.eq_int (Cond.before_iff.mpr nw26) rfl))), (Fld.start ((fld_at ev_s_FHA_ASSIGNMENT1).symm.trans (Cond.eq_int (Cond.before_iff.mpr nw27) rfl))), (Fld.start ((fld_at ev_s_FORECLOSURE1).symm.trans (Cond.eq_int (Cond.before_iff.mpr nw28) rfl))), (Fld.start ((fld_at ev_s_BUYER_LOW_MODERATE_INCOME).symm.trans (Cond.eq_int (Cond.before_iff.mpr nw29) rfl))), (Fld.start ((fld_at ev_s_DEED_IN_LIEU1).symm.trans (Cond.eq_int (Cond.before_iff.mpr nw30) rfl))), (Fld.start ((fld_at ev_s_DEATH).symm.trans (Cond.eq_int (Cond.before_iff.mpr hn30) rfl)))⟩
  obtain ⟨n, o, h1, h2, h3, _, L, rfl, ⟨rfl, N, -⟩, hq⟩ := rm_law l s _ hw tables_1 s_REFINANCE_SUBORDINATED s_FORECLOSURE s_REFINANCE_SUBORDINATED1 s_BUYER_LOW_MODERATE_INCOME s_FHA_ASSIGNMENT s_SALE s_FORECLOSURE1 s_DEED_IN_LIEU s_DEATH s_DEATH1 s_REFINANCE s_DEED_IN_LIEU1 s_FHA_ASSIGNMENT1 i0 i1 i2 s.heap s.heap.size SB (Old.start s)  p e ha hc hk s m _ below hf ((Spec.applies_iff_loose hf).mp happ).1 ⟨rfl, State.Warmed39.refl s, rfl⟩ trivial
  refine ⟨n, _, h1, h2, h3, hpost _ _ _ _ _ _ ⟨Cond.after_iff.mpr rfl, Cond.after_iff.mpr (eq_i res_at (Term.int_eval (1)) rfl), trivial⟩ ⟨hq.1, hq.2.1, (hq.2.2.sift fun y hy => Or.inr (N y hy)).mono (by decide) (by decide)⟩⟩
theorem main_1_1 : Claimed_1_1 := comes_1 fun _ _ _ _ _ _ h hF => ⟨h.1, hF⟩
theorem main_1_2 : Claimed_1_2 := comes_1 fun _ _ _ _ _ _ h hF => ⟨h.2.1, hF⟩
end Jvm.Pilot.@@N@@
namespace Jvm.Pilot.@@N@@
open Jvm Jvm.ClassFile Sem Op Lib Jvm.Free Jvm.Stand Jvm.Pilot.@@N@@.Jvm.D
/-! MADE BY PROGRAM (witnessworld.py) out of the Statement's table words and the real class files: 13 classes; the members and pool entries that the words name. The judged class is class 1, her method 1. -/
namespace start1
open Jvm.ClassFile
def u (s : String) : CpInfo := .utf8 (stringToUtf16 s)
/-- a pool by its gaps: so many unusable entries, then the entry; so many at the end -/
def gap : Nat → List CpInfo → List CpInfo
  | 0, r => r
  | n + 1, r => .unusable :: gap n r
def poolList (es : List (Nat × CpInfo)) (last : Nat) : List CpInfo := es.foldr (fun e r => gap e.1 (e.2 :: r)) (gap last [])
def pool (es : List (Nat × CpInfo)) (last : Nat) : Array CpInfo := ⟨poolList es last⟩
def fileOf (pool : Array CpInfo) (this : Nat) (attrs : Array Attribute := #[]) (ms : Array MethodInfo := #[]) (fl : Nat := 33) (sup : Nat := 0) (ifs : Array Nat := #[]) (fds : Array FieldInfo := #[]) : ClassFile where
  minorVersion := 0
  majorVersion := 65
  constantPool := pool
  accessFlags := fl
  thisClass := this
  superClass := sup
  interfaces := ifs
  fields := fds
  methods := ms
  attributes := attrs
def plain (name : String) (sup : Option ClassId) : Class where
  name := name
  kind := .ordinary
  loader := none
  accessFlags := 33
  super := sup
  interfaces := #[]
  cf := none
  fields := #[]
  methods := #[]
  instanceTypes := #[]
  staticTypes := #[]
  resolved := #[]
  callSites := []
  init := .initialized
  statics := none
  mirror := none

def pool0 : Array CpInfo := pool [(5, u "<init>"), (0, u "()V"), (1, .class_ 10), (1, u "java/lang/Object")] 113

def k0m0 : Method := { name := "<init>", desc := "()V", sig := { parameters := [], returnType := none }, accessFlags := 1, code := none }
/-- java/lang/Object -/
def k0 : Class := { plain "java/lang/Object" none with
  accessFlags := 33
  interfaces := #[]
  cf := some (fileOf pool0 8 #[] #[{ accessFlags := 1, nameIndex := 5, descriptorIndex := 6, attributes := #[] }] 33 0 #[] #[])
  fields := #[]
  methods := #[k0m0]
  instanceTypes := #[]
  staticTypes := #[]
  resolved := Array.replicate 124 none
  statics := none }

def pool1 : Array CpInfo := pool [(2, .class_ 4), (1, u "java/lang/Object"), (0, u "<init>"), (0, u "()V"), (0, .integer 2147483647), (0, .methodref 9 10), (0, .class_ 11), (0, .nameAndType 12 13), (0, u "com/example/lintel/lintel/RepaymentExemptionCoversPinLaw"), (0, u "exemption"), (0, u "(I)Lcom/example/lintel/lintel/RepaymentExemption;"), (0, .methodref 9 15), (0, .nameAndType 16 17), (0, u "event"), (0, u "(I)Lcom/example/lintel/lintel/RepaymentEvent;"), (0, .methodref 9 19), (0, .nameAndType 20 21), (0, u "coveredEvent"), (0, u "(I)I"), (0, .methodref 23 24), (0, .class_ 25), (0, .nameAndType 26 27), (0, u "com/example/lintel/lintel/RepaymentExemption"), (0, u "covers"), (0, u "(Lcom/example/lintel/lintel/RepaymentEvent;Z)Z"), (0, .fieldref 23 29), (0, .nameAndType 30 31), (0, u "REFINANCE_SUBORDINATED"), (0, u "Lcom/example/lintel/lintel/RepaymentExemption;"), (0, .fieldref 23 33), (0, .nameAndType 34 31), (0, u "BUYER_LOW_MODERATE_INCOME"), (0, .fieldref 23 36), (0, .nameAndType 37 31), (0, u "FORECLOSURE"), (0, .fieldref 23 39), (0, .nameAndType 40 31), (0, u "DEED_IN_LIEU"), (0, .fieldref 23 42), (0, .nameAndType 43 31), (0, u "FHA_ASSIGNMENT"), (0, .fieldref 23 45), (0, .nameAndType 46 31), (0, u "DEATH"), (0, .fieldref 48 49), (0, .class_ 50), (0, .nameAndType 51 52), (0, u "com/example/lintel/lintel/RepaymentEvent"), (0, u "SALE"), (0, u "Lcom/example/lintel/lintel/RepaymentEvent;"), (0, .fieldref 48 54), (0, .nameAndType 55 52), (0, u "REFINANCE"), (0, .fieldref 48 57), (0, .nameAndType 30 52), (0, .fieldref 48 59), (0, .nameAndType 37 52), (0, .fieldref 48 61), (0, .nameAndType 40 52), (0, .fieldref 48 63), (0, .nameAndType 43 52), (0, .fieldref 48 65), (0, .nameAndType 46 52), (2, u "law"), (0, u "(III)Z")] 3

def k1m0 : Method := { name := "<init>", desc := "()V", sig := { parameters := [], returnType := none }, accessFlags := 1, code := none }
def k1c1 : Code := { maxStack := 3, maxLocals := 9, code := code, exceptionTable := #[], attributes := #[] }
def k1m1 : Method := { name := "law", desc := "(III)Z", sig := { parameters := [.int, .int, .int], returnType := some .boolean }, accessFlags := 9, code := some k1c1 }
def k1c2 : Code := { maxStack := 2, maxLocals := 1, code := method_3_code, exceptionTable := #[], attributes := #[] }
def k1m2 : Method := { name := "exemption", desc := "(I)Lcom/example/lintel/lintel/RepaymentExemption;", sig := { parameters := [.int], returnType := some (.object "com/example/lintel/lintel/RepaymentExemption") }, accessFlags := 10, code := some k1c2 }
def k1c3 : Code := { maxStack := 2, maxLocals := 1, code := method_4_code, exceptionTable := #[], attributes := #[] }
def k1m3 : Method := { name := "event", desc := "(I)Lcom/example/lintel/lintel/RepaymentEvent;", sig := { parameters := [.int], returnType := some (.object "com/example/lintel/lintel/RepaymentEvent") }, accessFlags := 10, code := some k1c3 }
def k1c4 : Code := { maxStack := 2, maxLocals := 1, code := method_5_code, exceptionTable := #[], attributes := #[] }
def k1m4 : Method := { name := "coveredEvent", desc := "(I)I", sig := { parameters := [.int], returnType := some .int }, accessFlags := 10, code := some k1c4 }
/-- com/example/lintel/lintel/RepaymentExemptionCoversPinLaw -/
def k1 : Class := { plain "com/example/lintel/lintel/RepaymentExemptionCoversPinLaw" (some 0) with
  accessFlags := 49
  interfaces := #[]
  cf := some (fileOf pool1 9 #[] #[{ accessFlags := 1, nameIndex := 5, descriptorIndex := 6, attributes := #[] }, { accessFlags := 9, nameIndex := 68, descriptorIndex := 69, attributes := #[] }, { accessFlags := 10, nameIndex := 12, descriptorIndex := 13, attributes := #[] }, { accessFlags := 10, nameIndex := 16, descriptorIndex := 17, attributes := #[] }, { accessFlags := 10, nameIndex := 20, descriptorIndex := 21, attributes := #[] }] 49 2 #[] #[])
  fields := #[]
  methods := #[k1m0, k1m1, k1m2, k1m3, k1m4]
  instanceTypes := #[]
  staticTypes := #[]
  resolved := Array.replicate 73 none
  statics := none }

def pool2 : Array CpInfo := pool [(1, .class_ 2), (0, u "java/lang/constant/Constable"), (0, .class_ 4), (0, u "java/lang/Object")] 6

/-- java/lang/constant/Constable -/
def k2 : Class := { plain "java/lang/constant/Constable" (some 0) with
  accessFlags := 1537
  interfaces := #[]
  cf := some (fileOf pool2 1 #[] #[] 1537 3 #[] #[])
  fields := #[]
  methods := #[]
  instanceTypes := #[]
  staticTypes := #[]
  resolved := Array.replicate 11 none
  statics := none }

def pool3 : Array CpInfo := pool [(1, .class_ 2), (0, u "java/lang/Comparable"), (0, .class_ 4), (0, u "java/lang/Object")] 7

/-- java/lang/Comparable -/
def k3 : Class := { plain "java/lang/Comparable" (some 0) with
  accessFlags := 1537
  interfaces := #[]
  cf := some (fileOf pool3 1 #[] #[] 1537 3 #[] #[])
  fields := #[]
  methods := #[]
  instanceTypes := #[]
  staticTypes := #[]
  resolved := Array.replicate 12 none
  statics := none }

def pool4 : Array CpInfo := pool [(1, .class_ 2), (0, u "java/io/Serializable"), (0, .class_ 4), (0, u "java/lang/Object")] 2

/-- java/io/Serializable -/
def k4 : Class := { plain "java/io/Serializable" (some 0) with
  accessFlags := 1537
  interfaces := #[]
  cf := some (fileOf pool4 1 #[] #[] 1537 3 #[] #[])
  fields := #[]
  methods := #[]
  instanceTypes := #[]
  staticTypes := #[]
  resolved := Array.replicate 7 none
  statics := none }

def pool5 : Array CpInfo := pool [(2, .class_ 4), (1, u "java/lang/Enum"), (0, u "name"), (0, u "Ljava/lang/String;"), (2, u "ordinal"), (0, u "I"), (1, .class_ 14), (1, u "java/lang/Object"), (4, u "hash"), (86, .class_ 108), (1, u "java/lang/Enum$EnumDesc"), (2, .class_ 112), (0, u "java/lang/constant/Constable"), (0, .class_ 114), (0, u "java/lang/Comparable"), (0, .class_ 116), (0, u "java/io/Serializable")] 87

/-- java/lang/Enum -/
def k5 : Class := { plain "java/lang/Enum" (some 0) with
  accessFlags := 1057
  interfaces := #[2, 3, 4]
  cf := some (fileOf pool5 2 #[.nestMembers #[106]] #[] 1057 12 #[111, 113, 115] #[{ accessFlags := 18, nameIndex := 5, descriptorIndex := 6, attributes := #[] }, { accessFlags := 18, nameIndex := 9, descriptorIndex := 10, attributes := #[] }, { accessFlags := 2, nameIndex := 19, descriptorIndex := 10, attributes := #[] }])
  fields := #[{ name := "name", type := (.object "java/lang/String"), accessFlags := 18, slot := 0, constantValue := 0 }, { name := "ordinal", type := .int, accessFlags := 18, slot := 1, constantValue := 0 }, { name := "hash", type := .int, accessFlags := 2, slot := 2, constantValue := 0 }]
  methods := #[]
  instanceTypes := #[(.object "java/lang/String"), .int, .int]
  staticTypes := #[]
  resolved := Array.replicate 204 none
  statics := none }

def pool6 : Array CpInfo := pool [(1, .class_ 2), (0, u "com/example/lintel/lintel/RepaymentExemption"), (2, u "REFINANCE_SUBORDINATED"), (0, u "Lcom/example/lintel/lintel/RepaymentExemption;"), (2, u "BUYER_LOW_MODERATE_INCOME"), (2, u "FORECLOSURE"), (2, u "DEED_IN_LIEU"), (2, u "FHA_ASSIGNMENT"), (2, u "DEATH"), (2, u "$VALUES"), (0, u "[Lcom/example/lintel/lintel/RepaymentExemption;"), (6, .class_ 34), (1, u "java/lang/Enum"), (10, u "words"), (9, u "written"), (0, u "Ljava/lang/String;"), (0, .fieldref 1 58), (0, .nameAndType 59 60), (0, u "event"), (0, u "Lcom/example/lintel/lintel/RepaymentEvent;"), (0, .fieldref 1 62), (0, .nameAndType 63 64), (0, u "byBuyersIncome"), (0, u "Z"), (40, u "covers"), (0, u "(Lcom/example/lintel/lintel/RepaymentEvent;Z)Z")] 6

def k6c0 : Code := { maxStack := 2, maxLocals := 3, code := prog_28_method_5_code, exceptionTable := #[], attributes := #[] }
def k6m0 : Method := { name := "covers", desc := "(Lcom/example/lintel/lintel/RepaymentEvent;Z)Z", sig := { parameters := [(.object "com/example/lintel/lintel/RepaymentEvent"), .boolean], returnType := some .boolean }, accessFlags := 0, code := some k6c0 }
/-- com/example/lintel/lintel/RepaymentExemption -/
def k6 : Class := { plain "com/example/lintel/lintel/RepaymentExemption" (some 5) with
  accessFlags := 16432
  interfaces := #[]
  cf := some (fileOf pool6 1 #[] #[{ accessFlags := 0, nameIndex := 105, descriptorIndex := 106, attributes := #[] }] 16432 32 #[] #[{ accessFlags := 16409, nameIndex := 5, descriptorIndex := 6, attributes := #[] }, { accessFlags := 16409, nameIndex := 9, descriptorIndex := 6, attributes := #[] }, { accessFlags := 16409, nameIndex := 12, descriptorIndex := 6, attributes := #[] }, { accessFlags := 16409, nameIndex := 15, descriptorIndex := 6, attributes := #[] }, { accessFlags := 16409, nameIndex := 18, descriptorIndex := 6, attributes := #[] }, { accessFlags := 16409, nameIndex := 21, descriptorIndex := 6, attributes := #[] }, { accessFlags := 18, nameIndex := 55, descriptorIndex := 56, attributes := #[] }, { accessFlags := 18, nameIndex := 59, descriptorIndex := 60, attributes := #[] }, { accessFlags := 18, nameIndex := 63, descriptorIndex := 64, attributes := #[] }, { accessFlags := 18, nameIndex := 45, descriptorIndex := 56, attributes := #[] }, { accessFlags := 4122, nameIndex := 24, descriptorIndex := 25, attributes := #[] }])
  fields := #[{ name := "REFINANCE_SUBORDINATED", type := (.object "com/example/lintel/lintel/RepaymentExemption"), accessFlags := 16409, slot := 0, constantValue := 0 }, { name := "BUYER_LOW_MODERATE_INCOME", type := (.object "com/example/lintel/lintel/RepaymentExemption"), accessFlags := 16409, slot := 1, constantValue := 0 }, { name := "FORECLOSURE", type := (.object "com/example/lintel/lintel/RepaymentExemption"), accessFlags := 16409, slot := 2, constantValue := 0 }, { name := "DEED_IN_LIEU", type := (.object "com/example/lintel/lintel/RepaymentExemption"), accessFlags := 16409, slot := 3, constantValue := 0 }, { name := "FHA_ASSIGNMENT", type := (.object "com/example/lintel/lintel/RepaymentExemption"), accessFlags := 16409, slot := 4, constantValue := 0 }, { name := "DEATH", type := (.object "com/example/lintel/lintel/RepaymentExemption"), accessFlags := 16409, slot := 5, constantValue := 0 }, { name := "written", type := (.object "java/lang/String"), accessFlags := 18, slot := 3, constantValue := 0 }, { name := "event", type := (.object "com/example/lintel/lintel/RepaymentEvent"), accessFlags := 18, slot := 4, constantValue := 0 }, { name := "byBuyersIncome", type := .boolean, accessFlags := 18, slot := 5, constantValue := 0 }, { name := "words", type := (.object "java/lang/String"), accessFlags := 18, slot := 6, constantValue := 0 }, { name := "$VALUES", type := (.array (.object "com/example/lintel/lintel/RepaymentExemption")), accessFlags := 4122, slot := 6, constantValue := 0 }]
  methods := #[k6m0]
  instanceTypes := #[(.object "java/lang/String"), .int, .int, (.object "java/lang/String"), (.object "com/example/lintel/lintel/RepaymentEvent"), .boolean, (.object "java/lang/String")]
  staticTypes := #[(.object "com/example/lintel/lintel/RepaymentExemption"), (.object "com/example/lintel/lintel/RepaymentExemption"), (.object "com/example/lintel/lintel/RepaymentExemption"), (.object "com/example/lintel/lintel/RepaymentExemption"), (.object "com/example/lintel/lintel/RepaymentExemption"), (.object "com/example/lintel/lintel/RepaymentExemption"), (.array (.object "com/example/lintel/lintel/RepaymentExemption"))]
  resolved := Array.replicate 113 none
  statics := some 0 }

def pool7 : Array CpInfo := pool [(1, .class_ 2), (0, u "com/example/lintel/lintel/RepaymentEvent"), (2, u "SALE"), (0, u "Lcom/example/lintel/lintel/RepaymentEvent;"), (2, u "REFINANCE"), (2, u "REFINANCE_SUBORDINATED"), (2, u "FORECLOSURE"), (2, u "DEED_IN_LIEU"), (2, u "FHA_ASSIGNMENT"), (2, u "DEATH"), (2, u "$VALUES"), (0, u "[Lcom/example/lintel/lintel/RepaymentEvent;"), (6, .class_ 37), (1, u "java/lang/Enum"), (8, u "written"), (0, u "Ljava/lang/String;"), (2, u "words")] 59

/-- com/example/lintel/lintel/RepaymentEvent -/
def k7 : Class := { plain "com/example/lintel/lintel/RepaymentEvent" (some 5) with
  accessFlags := 16432
  interfaces := #[]
  cf := some (fileOf pool7 1 #[] #[] 16432 35 #[] #[{ accessFlags := 16409, nameIndex := 5, descriptorIndex := 6, attributes := #[] }, { accessFlags := 16409, nameIndex := 9, descriptorIndex := 6, attributes := #[] }, { accessFlags := 16409, nameIndex := 12, descriptorIndex := 6, attributes := #[] }, { accessFlags := 16409, nameIndex := 15, descriptorIndex := 6, attributes := #[] }, { accessFlags := 16409, nameIndex := 18, descriptorIndex := 6, attributes := #[] }, { accessFlags := 16409, nameIndex := 21, descriptorIndex := 6, attributes := #[] }, { accessFlags := 16409, nameIndex := 24, descriptorIndex := 6, attributes := #[] }, { accessFlags := 18, nameIndex := 46, descriptorIndex := 47, attributes := #[] }, { accessFlags := 18, nameIndex := 50, descriptorIndex := 47, attributes := #[] }, { accessFlags := 4122, nameIndex := 27, descriptorIndex := 28, attributes := #[] }])
  fields := #[{ name := "SALE", type := (.object "com/example/lintel/lintel/RepaymentEvent"), accessFlags := 16409, slot := 0, constantValue := 0 }, { name := "REFINANCE", type := (.object "com/example/lintel/lintel/RepaymentEvent"), accessFlags := 16409, slot := 1, constantValue := 0 }, { name := "REFINANCE_SUBORDINATED", type := (.object "com/example/lintel/lintel/RepaymentEvent"), accessFlags := 16409, slot := 2, constantValue := 0 }, { name := "FORECLOSURE", type := (.object "com/example/lintel/lintel/RepaymentEvent"), accessFlags := 16409, slot := 3, constantValue := 0 }, { name := "DEED_IN_LIEU", type := (.object "com/example/lintel/lintel/RepaymentEvent"), accessFlags := 16409, slot := 4, constantValue := 0 }, { name := "FHA_ASSIGNMENT", type := (.object "com/example/lintel/lintel/RepaymentEvent"), accessFlags := 16409, slot := 5, constantValue := 0 }, { name := "DEATH", type := (.object "com/example/lintel/lintel/RepaymentEvent"), accessFlags := 16409, slot := 6, constantValue := 0 }, { name := "written", type := (.object "java/lang/String"), accessFlags := 18, slot := 3, constantValue := 0 }, { name := "words", type := (.object "java/lang/String"), accessFlags := 18, slot := 4, constantValue := 0 }, { name := "$VALUES", type := (.array (.object "com/example/lintel/lintel/RepaymentEvent")), accessFlags := 4122, slot := 7, constantValue := 0 }]
  methods := #[]
  instanceTypes := #[(.object "java/lang/String"), .int, .int, (.object "java/lang/String"), (.object "java/lang/String")]
  staticTypes := #[(.object "com/example/lintel/lintel/RepaymentEvent"), (.object "com/example/lintel/lintel/RepaymentEvent"), (.object "com/example/lintel/lintel/RepaymentEvent"), (.object "com/example/lintel/lintel/RepaymentEvent"), (.object "com/example/lintel/lintel/RepaymentEvent"), (.object "com/example/lintel/lintel/RepaymentEvent"), (.object "com/example/lintel/lintel/RepaymentEvent"), (.array (.object "com/example/lintel/lintel/RepaymentEvent"))]
  resolved := Array.replicate 110 none
  statics := some 1 }

def pool8 : Array CpInfo := pool [(1, u "java/lang/Cloneable"), (0, .class_ 1), (0, u "java/lang/Object"), (0, .class_ 3)] 3

/-- java/lang/Cloneable -/
def k8 : Class := { plain "java/lang/Cloneable" (some 0) with
  accessFlags := 1537
  interfaces := #[]
  cf := some (fileOf pool8 2 #[] #[] 1537 4 #[] #[])
  fields := #[]
  methods := #[]
  instanceTypes := #[]
  staticTypes := #[]
  resolved := Array.replicate 8 none
  statics := none }

/-- the primitive byte -/
def k9 : Class := { plain "byte" none with kind := .primitive 'B', accessFlags := 0x411 }
/-- [B -/
def k10 : Class := { plain "[B" (some 0) with kind := .array 9 .byte, interfaces := #[8, 4], accessFlags := 1041 }

/-- the primitive int -/
def k11 : Class := { plain "int" none with kind := .primitive 'I', accessFlags := 0x411 }
/-- [I -/
def k12 : Class := { plain "[I" (some 0) with kind := .array 11 .int, interfaces := #[8, 4], accessFlags := 1041 }

def heap : Heap := #[{ cls := 6, slots := #[.ref 9, .ref 10, .ref 11, .ref 12, .ref 13, .ref 14, .null], vm := .statics 6 },
  { cls := 7, slots := #[.ref 2, .ref 3, .ref 4, .ref 5, .ref 6, .ref 7, .ref 8, .null], vm := .statics 7 },
  { cls := 7, slots := #[.null, .int 0, .int 0, .null, .null], vm := .none },
  { cls := 7, slots := #[.null, .int 1, .int 0, .null, .null], vm := .none },
  { cls := 7, slots := #[.null, .int 2, .int 0, .null, .null], vm := .none },
  { cls := 7, slots := #[.null, .int 3, .int 0, .null, .null], vm := .none },
  { cls := 7, slots := #[.null, .int 4, .int 0, .null, .null], vm := .none },
  { cls := 7, slots := #[.null, .int 5, .int 0, .null, .null], vm := .none },
  { cls := 7, slots := #[.null, .int 6, .int 0, .null, .null], vm := .none },
  { cls := 6, slots := #[.null, .int 0, .int 0, .null, .ref 4, .int 0, .null], vm := .none },
  { cls := 6, slots := #[.null, .int 1, .int 0, .null, .ref 2, .int 1, .null], vm := .none },
  { cls := 6, slots := #[.null, .int 2, .int 0, .null, .ref 5, .int 0, .null], vm := .none },
  { cls := 6, slots := #[.null, .int 3, .int 0, .null, .ref 6, .int 0, .null], vm := .none },
  { cls := 6, slots := #[.null, .int 4, .int 0, .null, .ref 7, .int 0, .null], vm := .none },
  { cls := 6, slots := #[.null, .int 5, .int 0, .null, .ref 8, .int 0, .null], vm := .none }]
def classes : Array Class := #[k0, k1, k2, k3, k4, k5, k6, k7, k8, k9, k10, k11, k12]
def interned : List (Array UInt16 × Addr) := []
def slotsUsed : Nat := 92
def theMethod : MethodId := ⟨1, 1⟩
def args0 : Array Value := #[.int 5, .int 3, .int 1]
def aboutOver (below : List Frame) : State where
  vm := { classes := classes, interned := interned.toArray }
  heap := heap
  slotsUsed := slotsUsed
  threads := #[{ frames := .invoking theMethod args0 :: below }]
def below0 : List Frame := [.native { method := ⟨0, 0⟩, args := #[] }]
def about1 : State := aboutOver below0
def p0 : Program := .bare "" "" ""
def e0 : Env := launch0.env 0 0 0
theorem w_frames : about1.frames = Frame.invoking theMethod args0 :: below0 := rfl
set_option maxRecDepth 65536 in
theorem w_args : argsFit about1.vm theMethod args0 = true := by decide +kernel
set_option maxRecDepth 65536 in
theorem w_heap : heapFits about1 = true := by decide +kernel
set_option maxRecDepth 65536 in
theorem w_runnable : about1.curStatus? = some .runnable := by decide +kernel
set_option maxRecDepth 65536 in
theorem w_alone : about1.alone = true := by decide +kernel
set_option maxRecDepth 65536 in
theorem w_named : about1.methodNamed? x = some theMethod := by decide +kernel
set_option maxRecDepth 65536 in
theorem w_hears : about1.hears theMethod below0 = true := by decide +kernel
set_option maxRecDepth 65536 in
theorem w_ripe : about1.ripe theMethod args0 below0 = true := by decide +kernel
theorem w_running : about1.status = .running := rfl
set_option maxRecDepth 65536 in
theorem w_room : about1.hasRoom e0.platform room_1 = true :=
  launch0.hasRoom_least _ room_1 (by decide +kernel) (by decide +kernel) (by decide +kernel) (by decide +kernel) (by decide +kernel) (by decide +kernel)
theorem allAtoms_all (ts : List Jvm.Cond) (a : Array Jvm.Value) (st : Jvm.State) : (allAtoms ts).before a st = ts.all (fun c => c.before a st) := by
  induction ts with
  | nil => rfl
  | cons c t ih =>
    show (Jvm.Cond.and c (allAtoms t)).before a st = _
    rw [Jvm.Cond.before_and, ih, List.all_cons]
def words1 : List Jvm.Cond := Jvm.Cond.code x code maxLocals ret :: tables_1
/-- a 'code' word, met by the world's own term for the bytes: nothing is compared byte by byte -/
theorem code_word {y : MethodName} {bytes : ByteArray} {mx : Nat} {rt : Option FieldType} {a : Array Value} {s : State} {m : MethodId} {meth : Method} {c : Code} (h1 : s.methodNamed? y = some m) (h2 : s.vm.method? m = some meth) (h3 : meth.code = some c) (h4 : c.code = bytes)
    (h5 : (c.maxLocals == mx && c.exceptionTable.isEmpty && decide (c.maxStack ≤ mostOperands) && decide (meth.sig.returnType = rt) && !meth.locks && decide (parseMethodDescriptor y.desc = some meth.sig)) = true) : (Jvm.Cond.code y bytes mx rt).before a s = true := by
  simp only [Bool.and_eq_true, beq_iff_eq, Bool.not_eq_true', decide_eq_true_eq] at h5
  obtain ⟨⟨⟨⟨⟨g1, g2⟩, g3⟩, g4⟩, g5⟩, g6⟩ := h5
  simp [Cond.before, Cond.holds, Cond.value, h1, h2, h3, h4, g1, g2, g3, g4, g5, g6]
def isCode : Jvm.Cond → Bool
  | .code _ _ _ _ => true
  | _ => false
theorem all_split {L : List Jvm.Cond} {P : Jvm.Cond → Bool} (h1 : L.all (fun c => isCode c || P c) = true) (h2 : ∀ c ∈ L.filter isCode, P c = true) : L.all P = true := by
  refine List.all_eq_true.mpr fun c hc => ?_
  have h := List.all_eq_true.mp h1 c hc
  rcases Bool.eq_false_or_eq_true (isCode c) with hi | hi
  · exact h2 c (List.mem_filter.mpr ⟨hc, hi⟩)
  · simpa [hi] using h
set_option maxRecDepth 65536 in
theorem w_c0 : (Jvm.Cond.code x code maxLocals ret).before args0 about1 = true := code_word (m := ⟨1, 1⟩) (meth := k1m1) (c := k1c1) (by decide +kernel) rfl rfl rfl (by decide +kernel)
set_option maxRecDepth 65536 in
theorem w_c1 : (Jvm.Cond.code ({ cls := "com/example/lintel/lintel/RepaymentExemptionCoversPinLaw", name := "exemption", desc := "(I)Lcom/example/lintel/lintel/RepaymentExemption;" } : Jvm.MethodName) method_3_code (1 : Nat) (Option.some (Jvm.ClassFile.FieldType.object "com/example/lintel/lintel/RepaymentExemption"))).before args0 about1 = true := code_word (m := ⟨1, 2⟩) (meth := k1m2) (c := k1c2) (by decide +kernel) rfl rfl rfl (by decide +kernel)
set_option maxRecDepth 65536 in
theorem w_c2 : (Jvm.Cond.code ({ cls := "com/example/lintel/lintel/RepaymentExemptionCoversPinLaw", name := "event", desc := "(I)Lcom/example/lintel/lintel/RepaymentEvent;" } : Jvm.MethodName) method_4_code (1 : Nat) (Option.some (Jvm.ClassFile.FieldType.object "com/example/lintel/lintel/RepaymentEvent"))).before args0 about1 = true := code_word (m := ⟨1, 3⟩) (meth := k1m3) (c := k1c3) (by decide +kernel) rfl rfl rfl (by decide +kernel)
set_option maxRecDepth 65536 in
theorem w_c3 : (Jvm.Cond.code ({ cls := "com/example/lintel/lintel/RepaymentExemptionCoversPinLaw", name := "coveredEvent", desc := "(I)I" } : Jvm.MethodName) method_5_code (1 : Nat) (Option.some Jvm.ClassFile.FieldType.int)).before args0 about1 = true := code_word (m := ⟨1, 4⟩) (meth := k1m4) (c := k1c4) (by decide +kernel) rfl rfl rfl (by decide +kernel)
set_option maxRecDepth 65536 in
theorem w_c4 : (Jvm.Cond.code ({ cls := "com/example/lintel/lintel/RepaymentExemption", name := "covers", desc := "(Lcom/example/lintel/lintel/RepaymentEvent;Z)Z" } : Jvm.MethodName) prog_28_method_5_code (3 : Nat) (Option.some Jvm.ClassFile.FieldType.boolean)).before args0 about1 = true := code_word (m := ⟨6, 0⟩) (meth := k6m0) (c := k6c0) (by decide +kernel) rfl rfl rfl (by decide +kernel)
def codes1 : List Jvm.Cond := [Jvm.Cond.code x code maxLocals ret, Jvm.Cond.code ({ cls := "com/example/lintel/lintel/RepaymentExemptionCoversPinLaw", name := "exemption", desc := "(I)Lcom/example/lintel/lintel/RepaymentExemption;" } : Jvm.MethodName) method_3_code (1 : Nat) (Option.some (Jvm.ClassFile.FieldType.object "com/example/lintel/lintel/RepaymentExemption")), Jvm.Cond.code ({ cls := "com/example/lintel/lintel/RepaymentExemptionCoversPinLaw", name := "event", desc := "(I)Lcom/example/lintel/lintel/RepaymentEvent;" } : Jvm.MethodName) method_4_code (1 : Nat) (Option.some (Jvm.ClassFile.FieldType.object "com/example/lintel/lintel/RepaymentEvent")), Jvm.Cond.code ({ cls := "com/example/lintel/lintel/RepaymentExemptionCoversPinLaw", name := "coveredEvent", desc := "(I)I" } : Jvm.MethodName) method_5_code (1 : Nat) (Option.some Jvm.ClassFile.FieldType.int), Jvm.Cond.code ({ cls := "com/example/lintel/lintel/RepaymentExemption", name := "covers", desc := "(Lcom/example/lintel/lintel/RepaymentEvent;Z)Z" } : Jvm.MethodName) prog_28_method_5_code (3 : Nat) (Option.some Jvm.ClassFile.FieldType.boolean)]
set_option maxRecDepth 65536 in
theorem codes_eq : words1.filter isCode = codes1 := rfl
theorem w_codes : ∀ c ∈ words1.filter isCode, c.before args0 about1 = true := by
  rw [codes_eq]
  intro c hc
  simp only [codes1, List.mem_cons, List.not_mem_nil, or_false] at hc
  rcases hc with rfl | rfl | rfl | rfl | rfl
  · exact w_c0
  · exact w_c1
  · exact w_c2
  · exact w_c3
  · exact w_c4
set_option maxRecDepth 65536 in
theorem w_t1 : (words1.take 24).all (fun c => isCode c || c.before args0 about1) = true := by decide +kernel
set_option maxRecDepth 65536 in
theorem w_t2 : ((words1.drop 24).take 24).all (fun c => isCode c || c.before args0 about1) = true := by decide +kernel
set_option maxRecDepth 65536 in
theorem w_t3 : ((words1.drop 24).drop 24).all (fun c => isCode c || c.before args0 about1) = true := by decide +kernel
theorem w_tables : (allAtoms (Jvm.Cond.code x code maxLocals ret :: tables_1)).before args0 about1 = true := by
  rw [allAtoms_all]
  show words1.all (fun c => c.before args0 about1) = true
  refine all_split ?_ w_codes
  rw [← List.take_append_drop 24 words1, List.all_append, w_t1, ← List.take_append_drop 24 (words1.drop 24), List.all_append, w_t2, w_t3]
  rfl
set_option maxRecDepth 65536 in
theorem w_case : (Jvm.Cond.and given_1 narrow_1).before args0 about1 = true := by decide +kernel
theorem w_applies : (headSpec (Jvm.Cond.code x code maxLocals ret :: tables_1) room_1).applies x e0.platform about1 = true :=
  (Spec.applies_iff w_frames).mpr ⟨w_running, w_runnable, w_alone, w_named, w_hears, w_ripe, w_room, w_tables⟩
theorem atStart : AtStart classFile x code maxLocals ret World_1 tables_1 room_1 Calls_1 rest_1 Pre_1 launch0 p0 e0 about1 theMethod args0 below0 :=
  ⟨lists_1, trivial, launch0.admits_env _ _ _, launch0.least_env, fairChoices_fair.cas, fairChoices_fair.clock, w_frames, w_args, w_heap, w_applies, trivial, trivial, w_case⟩
end start1
theorem witness_1 : WitnessClaimed_1 := ⟨start1.p0, start1.e0, start1.about1, start1.theMethod, start1.args0, start1.below0, start1.atStart⟩
end Jvm.Pilot.@@N@@
