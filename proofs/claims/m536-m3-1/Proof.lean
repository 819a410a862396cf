import JvmDerived
import JvmDerived.Pilot.@@N@@Statement
import JvmDerived.Pilot.@@N@@Code
set_option linter.unusedVariables false
set_option linter.unusedSimpArgs false
set_option maxRecDepth 65536
set_option maxHeartbeats 40000000
namespace Jvm.Pilot.@@N@@
open Jvm Jvm.ClassFile Sem Op Lib Jvm.Free Jvm.Stand Jvm.LawKit Jvm.RoadKit Bundle Jvm.Pilot.@@N@@.Jvm.D
/-- from the state S the run comes to an end of which Q holds -/
def Own (p : Program) (e : Env) (below : List Frame) (Q : State → Outcome → Prop) (S : State) : Prop := ∃ s₂ o, Steps p.tables e below S s₂ ∧ s₂.status = .running ∧ Ended s₂ below o ∧ Q s₂ o
theorem ogo {p : Program} {e : Env} {below : List Frame} {Q : State → Outcome → Prop} {S S' : State} (h : ∀ t, Steps p.tables e below S' t → Steps p.tables e below S t) (k : Own p e below Q S') : Own p e below Q S := by
  obtain ⟨t, o, k1, k2⟩ := k; exact ⟨t, o, h _ k1, k2⟩
theorem otr {p : Program} {e : Env} {below : List Frame} {Q : State → Outcome → Prop} {S S' : State} (h : Steps p.tables e below S S') (k : Own p e below Q S') : Own p e below Q S := by
  obtain ⟨t, o, k1, k2⟩ := k; exact ⟨t, o, h.trans k1, k2⟩
/-- what a contract says of the end: q of what is returned, of the heap and of the places written; the frame -/
abbrev oPost (q : Option Value → Heap → List Loc → Prop) (s : State) (cc ss : Nat) : State → Outcome → Prop := fun s₂ o => ∃ v L, o = .returned v ∧ q v s₂.heap L ∧ FrameEnd s o s₂ L cc ss
abbrev oMet (l : Launch) (Z : State) (y : MethodName) (code : ByteArray) (maxL : Nat) (ret : Option FieldType) (ws : List Jvm.Cond) (rm : Room) (cc ss : Nat) (as' : Array Value) (h0 : Heap) (q : Option Value → Heap → List Loc → Prop) : Prop :=
  MetFree l y (head1 (Jvm.Cond.code y code maxL ret :: ws) rm) (fun a U => a = as' ∧ Z.Warmed39 U.vm ∧ U.heap = h0) (fun _ _ _ _ _ => True) (fun _ U o U' => ∃ v L, o = .returned v ∧ q v U'.heap L ∧ FrameEnd U o U' L cc ss)
theorem oenter {l : Launch} {Z : State} {y : MethodName} {code : ByteArray} {maxL : Nat} {ret : Option FieldType} {ws : List Jvm.Cond} {rm : Room} {cc ss : Nat} {as' : Array Value} {h0 : Heap} {q : Option Value → Heap → List Loc → Prop} (pn : plainFor y = true) (Ls : Array Slot) (ef : ∀ m, entryFrame m as' maxL = mkF m 0 Ls [])
    (body : ∀ (p : Program) (e : Env) (s : State) (m : MethodId) (below : List Frame) (meth : Method) (c : Code) (s₁ : State), Stand p l e rm s m as' below meth c s₁ [] 0 0 → p.tables.exec = Jvm.exec → Z.Warmed39 s.vm → c.code = code → c.maxLocals = maxL → meth.sig.returnType = ret → s.vm.findClass y.cls = some m.cls → meth.name = y.name → meth.locks = false → s₁.heap = h0 → Own p e below (oPost q s cc ss) (s₁.setTop (mkF m 0 Ls []))) : oMet l Z y code maxL ret ws rm cc ss as' h0 q := by
  refine MetFree.of_bodySF pn hisR ?_
  intro p e s m args below meth c s₁ Bd hml0 hP hK
  obtain ⟨rfl, hZ, hh⟩ := hP
  have e0 : s₁.heap = h0 := by rw [← hh, Bd.state]; rfl
  obtain ⟨t, o, h1, h2⟩ := body p e s m below meth c s₁ (Stand.of_body Bd) Bd.exec hZ Bd.bytes hml0 Bd.returns (findClass_of_methodNamed Bd.named) (name_of_methodNamed Bd.named Bd.method).1 (BodyLoose.notSynchronized Bd) e0
  exact ⟨t, o, castTop (ef m) h1, h2⟩
abbrev rmo (a b c d : Nat) : Room := { frames := a, cells := b, slots := c, locals := d }
abbrev vi (x : Int32) : Slot := .val (.int x)
abbrev vl (x : Int64) : Slot := .val (.long x)
abbrev vr (x : Addr) : Slot := .val (.ref x)
def own_ushr (x y : Int32) : Int32 := (x.toUInt32 >>> (y &&& 31).toUInt32).toInt32
def own_ushrL (x : Int64) (y : Int32) : Int64 := (x.toUInt64 >>> (y &&& 0x3f).toInt64.toUInt64).toInt64
section Steps
variable {p : Program} {l : Launch} {e : Env} {R : Room} {s : State} {m : MethodId} {args : Array Value} {below : List Frame} {meth : Method} {c : Code} {T : State} {locs : List Loc} {cells slots : Nat} {Q : State → Outcome → Prop}
theorem oend {v : Option Value} {q : Option Value → Heap → List Loc → Prop} {cc ss : Nat} {S : State} (X : Stand p l e R s m args below meth c T locs cells slots) (hlk : meth.locks = false) (hv : meth.sig.returnType = none → v = none)
    (st : ∀ fs, (∀ (f : JFrame) (acts : List Action), f.method = m → f.locked = none → f.entered = [] → (doReturn e (T.setTop f) acts v).1 = T.setFrames fs) → Steps p.tables e below S (T.setFrames fs)) (hc : cells ≤ cc) (hs : slots ≤ ss) (hq : q v T.heap locs) : Own p e below (oPost q s cc ss) S := by
  obtain ⟨fs, hr, hrun, hended, hW, hsame⟩ := X.leave (v := v) hv hlk
  exact ⟨_, _, st fs hr, hrun, hended, _, _, rfl, hq, ⟨_, rfl⟩, hW, hsame.mono hc hs⟩
theorem o_aloadN (X : Stand p l e R s m args below meth c T locs cells slots) (hx : p.tables.exec = Jvm.exec) {pc : Nat} {L : Array Slot} {S : List Value} {i : Fin 4} {v : Value} (hd : decode c.code pc = .ok (.aload_n i, 1)) (hl : L[i.val]? = some (.val v)) (hv : v.isRef = true) (k : Own p e below Q (T.setTop (mkF m (pc + 1) L (v :: S)))) : Own p e below Q (T.setTop (mkF m pc L S)) :=
  ogo (fun _ k => XS.aloadN X.here hx rfl hd hl hv k) k
theorem o_aload (X : Stand p l e R s m args below meth c T locs cells slots) (hx : p.tables.exec = Jvm.exec) {pc : Nat} {L : Array Slot} {S : List Value} {i : Nat} {v : Value} (hd : decode c.code pc = .ok (.aload i, 2)) (hl : L[i]? = some (.val v)) (hv : v.isRef = true) (k : Own p e below Q (T.setTop (mkF m (pc + 2) L (v :: S)))) : Own p e below Q (T.setTop (mkF m pc L S)) :=
  ogo (fun _ k => XS.aload X.here hx rfl hd hl hv k) k
theorem o_iloadN (X : Stand p l e R s m args below meth c T locs cells slots) (hx : p.tables.exec = Jvm.exec) {pc : Nat} {L : Array Slot} {S : List Value} {i : Fin 4} {v : Int32} (hd : decode c.code pc = .ok (.iload_n i, 1)) (hl : L[i.val]? = some (.val (.int v))) (k : Own p e below Q (T.setTop (mkF m (pc + 1) L ((.int v) :: S)))) : Own p e below Q (T.setTop (mkF m pc L S)) :=
  ogo (fun _ k => XS.iloadN X.here hx rfl hd hl k) k
theorem o_iload (X : Stand p l e R s m args below meth c T locs cells slots) (hx : p.tables.exec = Jvm.exec) {pc : Nat} {L : Array Slot} {S : List Value} {i : Nat} {v : Int32} (hd : decode c.code pc = .ok (.iload i, 2)) (hl : L[i]? = some (.val (.int v))) (k : Own p e below Q (T.setTop (mkF m (pc + 2) L ((.int v) :: S)))) : Own p e below Q (T.setTop (mkF m pc L S)) :=
  ogo (fun _ k => XS.iload X.here hx rfl hd hl k) k
theorem o_lloadN (X : Stand p l e R s m args below meth c T locs cells slots) (hx : p.tables.exec = Jvm.exec) {pc : Nat} {L : Array Slot} {S : List Value} {i : Fin 4} {v : Int64} (hd : decode c.code pc = .ok (.lload_n i, 1)) (hl : L[i.val]? = some (.val (.long v))) (k : Own p e below Q (T.setTop (mkF m (pc + 1) L ((.long v) :: S)))) : Own p e below Q (T.setTop (mkF m pc L S)) :=
  ogo (fun _ k => XS.lloadN X.here hx rfl hd hl k) k
theorem o_lload (X : Stand p l e R s m args below meth c T locs cells slots) (hx : p.tables.exec = Jvm.exec) {pc : Nat} {L : Array Slot} {S : List Value} {i : Nat} {v : Int64} (hd : decode c.code pc = .ok (.lload i, 2)) (hl : L[i]? = some (.val (.long v))) (k : Own p e below Q (T.setTop (mkF m (pc + 2) L ((.long v) :: S)))) : Own p e below Q (T.setTop (mkF m pc L S)) :=
  ogo (fun _ k => XS.lload X.here hx rfl hd hl k) k
theorem o_astoreN (X : Stand p l e R s m args below meth c T locs cells slots) (hx : p.tables.exec = Jvm.exec) {pc : Nat} {L : Array Slot} {S : List Value} {i : Fin 4} {v : Value} {l' : Array Slot} (hd : decode c.code pc = .ok (.astore_n i, 1)) (hv : v.isRef = true) (hl : storeLocals L i.val v = some l') (k : Own p e below Q (T.setTop (mkF m (pc + 1) l' S))) : Own p e below Q (T.setTop (mkF m pc L (v :: S))) :=
  ogo (fun _ k => XS.astoreN X.here hx rfl hd rfl hv hl k) k
theorem o_astore (X : Stand p l e R s m args below meth c T locs cells slots) (hx : p.tables.exec = Jvm.exec) {pc : Nat} {L : Array Slot} {S : List Value} {i : Nat} {v : Value} {l' : Array Slot} (hd : decode c.code pc = .ok (.astore i, 2)) (hv : v.isRef = true) (hl : storeLocals L i v = some l') (k : Own p e below Q (T.setTop (mkF m (pc + 2) l' S))) : Own p e below Q (T.setTop (mkF m pc L (v :: S))) :=
  ogo (fun _ k => XS.astore X.here hx rfl hd rfl hv hl k) k
theorem o_istoreN (X : Stand p l e R s m args below meth c T locs cells slots) (hx : p.tables.exec = Jvm.exec) {pc : Nat} {L : Array Slot} {S : List Value} {i : Fin 4} {v : Int32} {l' : Array Slot} (hd : decode c.code pc = .ok (.istore_n i, 1)) (hl : storeLocals L i.val (.int v) = some l') (k : Own p e below Q (T.setTop (mkF m (pc + 1) l' S))) : Own p e below Q (T.setTop (mkF m pc L ((.int v) :: S))) :=
  ogo (fun _ k => XS.istoreN X.here hx rfl hd rfl hl k) k
theorem o_istore (X : Stand p l e R s m args below meth c T locs cells slots) (hx : p.tables.exec = Jvm.exec) {pc : Nat} {L : Array Slot} {S : List Value} {i : Nat} {v : Int32} {l' : Array Slot} (hd : decode c.code pc = .ok (.istore i, 2)) (hl : storeLocals L i (.int v) = some l') (k : Own p e below Q (T.setTop (mkF m (pc + 2) l' S))) : Own p e below Q (T.setTop (mkF m pc L ((.int v) :: S))) :=
  ogo (fun _ k => XS.istore X.here hx rfl hd rfl hl k) k
theorem o_lstoreN (X : Stand p l e R s m args below meth c T locs cells slots) (hx : p.tables.exec = Jvm.exec) {pc : Nat} {L : Array Slot} {S : List Value} {i : Fin 4} {v : Int64} {l' : Array Slot} (hd : decode c.code pc = .ok (.lstore_n i, 1)) (hl : storeLocals L i.val (.long v) = some l') (k : Own p e below Q (T.setTop (mkF m (pc + 1) l' S))) : Own p e below Q (T.setTop (mkF m pc L ((.long v) :: S))) :=
  ogo (fun _ k => XS.lstoreN X.here hx rfl hd rfl hl k) k
theorem o_lstore (X : Stand p l e R s m args below meth c T locs cells slots) (hx : p.tables.exec = Jvm.exec) {pc : Nat} {L : Array Slot} {S : List Value} {i : Nat} {v : Int64} {l' : Array Slot} (hd : decode c.code pc = .ok (.lstore i, 2)) (hl : storeLocals L i (.long v) = some l') (k : Own p e below Q (T.setTop (mkF m (pc + 2) l' S))) : Own p e below Q (T.setTop (mkF m pc L ((.long v) :: S))) :=
  ogo (fun _ k => XS.lstore X.here hx rfl hd rfl hl k) k
theorem o_iconst (X : Stand p l e R s m args below meth c T locs cells slots) (hx : p.tables.exec = Jvm.exec) {pc : Nat} {L : Array Slot} {S : List Value} {i : Int} (v : Int32) (hd : decode c.code pc = .ok (.iconst i, 1)) (hv : Int32.ofInt i = v) (k : Own p e below Q (T.setTop (mkF m (pc + 1) L (.int v :: S)))) : Own p e below Q (T.setTop (mkF m pc L S)) := by
  subst hv; exact ogo (fun _ k => XS.iconst X.here hx rfl hd k) k
theorem o_bipush (X : Stand p l e R s m args below meth c T locs cells slots) (hx : p.tables.exec = Jvm.exec) {pc : Nat} {L : Array Slot} {S : List Value} {i : Int} (v : Int32) (hd : decode c.code pc = .ok (.bipush i, 2)) (hv : (Int8.ofInt i).toInt32 = v) (k : Own p e below Q (T.setTop (mkF m (pc + 2) L (.int v :: S)))) : Own p e below Q (T.setTop (mkF m pc L S)) := by
  subst hv; exact ogo (fun _ k => XS.bipush X.here hx rfl hd k) k
theorem o_sipush (X : Stand p l e R s m args below meth c T locs cells slots) (hx : p.tables.exec = Jvm.exec) {pc : Nat} {L : Array Slot} {S : List Value} {i : Int} (v : Int32) (hd : decode c.code pc = .ok (.sipush i, 3)) (hv : (Int16.ofInt i).toInt32 = v) (k : Own p e below Q (T.setTop (mkF m (pc + 3) L (.int v :: S)))) : Own p e below Q (T.setTop (mkF m pc L S)) := by
  subst hv; exact ogo (fun _ k => XS.sipush X.here hx rfl hd k) k
theorem o_lconst (X : Stand p l e R s m args below meth c T locs cells slots) (hx : p.tables.exec = Jvm.exec) {pc : Nat} {L : Array Slot} {S : List Value} {i : Fin 2} (v : Int64) (hd : decode c.code pc = .ok (.lconst i, 1)) (hv : Int64.ofNat i = v) (k : Own p e below Q (T.setTop (mkF m (pc + 1) L (.long v :: S)))) : Own p e below Q (T.setTop (mkF m pc L S)) := by
  subst hv; exact ogo (fun _ k => XS.lconst X.here hx rfl hd k) k
theorem o_aconst_null (X : Stand p l e R s m args below meth c T locs cells slots) (hx : p.tables.exec = Jvm.exec) {pc : Nat} {L : Array Slot} {S : List Value} (hd : decode c.code pc = .ok (.aconst_null, 1)) (k : Own p e below Q (T.setTop (mkF m (pc + 1) L (.null :: S)))) : Own p e below Q (T.setTop (mkF m pc L S)) :=
  ogo (fun _ k => XS.aconstNull X.here hx rfl hd k) k
theorem o_iadd (X : Stand p l e R s m args below meth c T locs cells slots) (hx : p.tables.exec = Jvm.exec) {pc : Nat} {L : Array Slot} {S : List Value} {x y : Int32} (hd : decode c.code pc = .ok (.iadd, 1)) (k : Own p e below Q (T.setTop (mkF m (pc + 1) L (.int (x + y) :: S)))) : Own p e below Q (T.setTop (mkF m pc L (.int y :: .int x :: S))) :=
  ogo (fun _ k => XS.iadd X.here hx rfl hd rfl k) k
theorem o_isub (X : Stand p l e R s m args below meth c T locs cells slots) (hx : p.tables.exec = Jvm.exec) {pc : Nat} {L : Array Slot} {S : List Value} {x y : Int32} (hd : decode c.code pc = .ok (.isub, 1)) (k : Own p e below Q (T.setTop (mkF m (pc + 1) L (.int (x - y) :: S)))) : Own p e below Q (T.setTop (mkF m pc L (.int y :: .int x :: S))) :=
  ogo (fun _ k => XS.isub X.here hx rfl hd rfl k) k
theorem o_imul (X : Stand p l e R s m args below meth c T locs cells slots) (hx : p.tables.exec = Jvm.exec) {pc : Nat} {L : Array Slot} {S : List Value} {x y : Int32} (hd : decode c.code pc = .ok (.imul, 1)) (k : Own p e below Q (T.setTop (mkF m (pc + 1) L (.int (x * y) :: S)))) : Own p e below Q (T.setTop (mkF m pc L (.int y :: .int x :: S))) :=
  ogo (fun _ k => XS.imul X.here hx rfl hd rfl k) k
theorem o_iand (X : Stand p l e R s m args below meth c T locs cells slots) (hx : p.tables.exec = Jvm.exec) {pc : Nat} {L : Array Slot} {S : List Value} {x y : Int32} (hd : decode c.code pc = .ok (.iand, 1)) (k : Own p e below Q (T.setTop (mkF m (pc + 1) L (.int (x &&& y) :: S)))) : Own p e below Q (T.setTop (mkF m pc L (.int y :: .int x :: S))) :=
  ogo (fun _ k => XS.iand X.here hx rfl hd rfl k) k
theorem o_ior (X : Stand p l e R s m args below meth c T locs cells slots) (hx : p.tables.exec = Jvm.exec) {pc : Nat} {L : Array Slot} {S : List Value} {x y : Int32} (hd : decode c.code pc = .ok (.ior, 1)) (k : Own p e below Q (T.setTop (mkF m (pc + 1) L (.int (x ||| y) :: S)))) : Own p e below Q (T.setTop (mkF m pc L (.int y :: .int x :: S))) :=
  ogo (fun _ k => XS.ior X.here hx rfl hd rfl k) k
theorem o_ixor (X : Stand p l e R s m args below meth c T locs cells slots) (hx : p.tables.exec = Jvm.exec) {pc : Nat} {L : Array Slot} {S : List Value} {x y : Int32} (hd : decode c.code pc = .ok (.ixor, 1)) (k : Own p e below Q (T.setTop (mkF m (pc + 1) L (.int (x ^^^ y) :: S)))) : Own p e below Q (T.setTop (mkF m pc L (.int y :: .int x :: S))) :=
  ogo (fun _ k => XS.ixor X.here hx rfl hd rfl k) k
theorem o_ladd (X : Stand p l e R s m args below meth c T locs cells slots) (hx : p.tables.exec = Jvm.exec) {pc : Nat} {L : Array Slot} {S : List Value} {x y : Int64} (hd : decode c.code pc = .ok (.ladd, 1)) (k : Own p e below Q (T.setTop (mkF m (pc + 1) L (.long (x + y) :: S)))) : Own p e below Q (T.setTop (mkF m pc L (.long y :: .long x :: S))) :=
  ogo (fun _ k => XS.ladd X.here hx rfl hd rfl k) k
theorem o_lsub (X : Stand p l e R s m args below meth c T locs cells slots) (hx : p.tables.exec = Jvm.exec) {pc : Nat} {L : Array Slot} {S : List Value} {x y : Int64} (hd : decode c.code pc = .ok (.lsub, 1)) (k : Own p e below Q (T.setTop (mkF m (pc + 1) L (.long (x - y) :: S)))) : Own p e below Q (T.setTop (mkF m pc L (.long y :: .long x :: S))) :=
  ogo (fun _ k => XS.lsub X.here hx rfl hd rfl k) k
theorem o_lmul (X : Stand p l e R s m args below meth c T locs cells slots) (hx : p.tables.exec = Jvm.exec) {pc : Nat} {L : Array Slot} {S : List Value} {x y : Int64} (hd : decode c.code pc = .ok (.lmul, 1)) (k : Own p e below Q (T.setTop (mkF m (pc + 1) L (.long (x * y) :: S)))) : Own p e below Q (T.setTop (mkF m pc L (.long y :: .long x :: S))) :=
  ogo (fun _ k => XS.lmul X.here hx rfl hd rfl k) k
theorem o_land (X : Stand p l e R s m args below meth c T locs cells slots) (hx : p.tables.exec = Jvm.exec) {pc : Nat} {L : Array Slot} {S : List Value} {x y : Int64} (hd : decode c.code pc = .ok (.land, 1)) (k : Own p e below Q (T.setTop (mkF m (pc + 1) L (.long (x &&& y) :: S)))) : Own p e below Q (T.setTop (mkF m pc L (.long y :: .long x :: S))) :=
  ogo (fun _ k => XS.land X.here hx rfl hd rfl k) k
theorem o_lor (X : Stand p l e R s m args below meth c T locs cells slots) (hx : p.tables.exec = Jvm.exec) {pc : Nat} {L : Array Slot} {S : List Value} {x y : Int64} (hd : decode c.code pc = .ok (.lor, 1)) (k : Own p e below Q (T.setTop (mkF m (pc + 1) L (.long (x ||| y) :: S)))) : Own p e below Q (T.setTop (mkF m pc L (.long y :: .long x :: S))) :=
  ogo (fun _ k => XS.lor X.here hx rfl hd rfl k) k
theorem o_lxor (X : Stand p l e R s m args below meth c T locs cells slots) (hx : p.tables.exec = Jvm.exec) {pc : Nat} {L : Array Slot} {S : List Value} {x y : Int64} (hd : decode c.code pc = .ok (.lxor, 1)) (k : Own p e below Q (T.setTop (mkF m (pc + 1) L (.long (x ^^^ y) :: S)))) : Own p e below Q (T.setTop (mkF m pc L (.long y :: .long x :: S))) :=
  ogo (fun _ k => XS.lxor X.here hx rfl hd rfl k) k
theorem o_ishl (X : Stand p l e R s m args below meth c T locs cells slots) (hx : p.tables.exec = Jvm.exec) {pc : Nat} {L : Array Slot} {S : List Value} {x : Int32} {y : Int32} (hd : decode c.code pc = .ok (.ishl, 1)) (k : Own p e below Q (T.setTop (mkF m (pc + 1) L (.int (x <<< (y &&& 31)) :: S)))) : Own p e below Q (T.setTop (mkF m pc L (.int y :: .int x :: S))) :=
  ogo (fun _ k => XS.ishl X.here hx rfl hd rfl k) k
theorem o_ishr (X : Stand p l e R s m args below meth c T locs cells slots) (hx : p.tables.exec = Jvm.exec) {pc : Nat} {L : Array Slot} {S : List Value} {x : Int32} {y : Int32} (hd : decode c.code pc = .ok (.ishr, 1)) (k : Own p e below Q (T.setTop (mkF m (pc + 1) L (.int (x >>> (y &&& 31)) :: S)))) : Own p e below Q (T.setTop (mkF m pc L (.int y :: .int x :: S))) :=
  ogo (fun _ k => XS.ishr X.here hx rfl hd rfl k) k
theorem o_iushr (X : Stand p l e R s m args below meth c T locs cells slots) (hx : p.tables.exec = Jvm.exec) {pc : Nat} {L : Array Slot} {S : List Value} {x : Int32} {y : Int32} (hd : decode c.code pc = .ok (.iushr, 1)) (k : Own p e below Q (T.setTop (mkF m (pc + 1) L (.int (own_ushr x y) :: S)))) : Own p e below Q (T.setTop (mkF m pc L (.int y :: .int x :: S))) :=
  ogo (fun _ k => XS.iushr X.here hx rfl hd rfl k) k
theorem o_lshl (X : Stand p l e R s m args below meth c T locs cells slots) (hx : p.tables.exec = Jvm.exec) {pc : Nat} {L : Array Slot} {S : List Value} {x : Int64} {y : Int32} (hd : decode c.code pc = .ok (.lshl, 1)) (k : Own p e below Q (T.setTop (mkF m (pc + 1) L (.long (x <<< (y &&& 0x3f).toInt64) :: S)))) : Own p e below Q (T.setTop (mkF m pc L (.int y :: .long x :: S))) :=
  ogo (fun _ k => XS.lshl X.here hx rfl hd rfl k) k
theorem o_lshr (X : Stand p l e R s m args below meth c T locs cells slots) (hx : p.tables.exec = Jvm.exec) {pc : Nat} {L : Array Slot} {S : List Value} {x : Int64} {y : Int32} (hd : decode c.code pc = .ok (.lshr, 1)) (k : Own p e below Q (T.setTop (mkF m (pc + 1) L (.long (x >>> (y &&& 0x3f).toInt64) :: S)))) : Own p e below Q (T.setTop (mkF m pc L (.int y :: .long x :: S))) :=
  ogo (fun _ k => XS.lshr X.here hx rfl hd rfl k) k
theorem o_lushr (X : Stand p l e R s m args below meth c T locs cells slots) (hx : p.tables.exec = Jvm.exec) {pc : Nat} {L : Array Slot} {S : List Value} {x : Int64} {y : Int32} (hd : decode c.code pc = .ok (.lushr, 1)) (k : Own p e below Q (T.setTop (mkF m (pc + 1) L (.long (own_ushrL x y) :: S)))) : Own p e below Q (T.setTop (mkF m pc L (.int y :: .long x :: S))) :=
  ogo (fun _ k => XS.lushr X.here hx rfl hd rfl k) k
theorem o_ineg (X : Stand p l e R s m args below meth c T locs cells slots) (hx : p.tables.exec = Jvm.exec) {pc : Nat} {L : Array Slot} {S : List Value} {x : Int32} (hd : decode c.code pc = .ok (.ineg, 1)) (k : Own p e below Q (T.setTop (mkF m (pc + 1) L (.int (-x) :: S)))) : Own p e below Q (T.setTop (mkF m pc L (.int x :: S))) :=
  ogo (fun _ k => XS.ineg X.here hx rfl hd rfl k) k
theorem o_lneg (X : Stand p l e R s m args below meth c T locs cells slots) (hx : p.tables.exec = Jvm.exec) {pc : Nat} {L : Array Slot} {S : List Value} {x : Int64} (hd : decode c.code pc = .ok (.lneg, 1)) (k : Own p e below Q (T.setTop (mkF m (pc + 1) L (.long (-x) :: S)))) : Own p e below Q (T.setTop (mkF m pc L (.long x :: S))) :=
  ogo (fun _ k => XS.lneg X.here hx rfl hd rfl k) k
theorem o_i2l (X : Stand p l e R s m args below meth c T locs cells slots) (hx : p.tables.exec = Jvm.exec) {pc : Nat} {L : Array Slot} {S : List Value} {x : Int32} (hd : decode c.code pc = .ok (.i2l, 1)) (k : Own p e below Q (T.setTop (mkF m (pc + 1) L (.long (x.toInt64) :: S)))) : Own p e below Q (T.setTop (mkF m pc L (.int x :: S))) :=
  ogo (fun _ k => XS.i2l X.here hx rfl hd rfl k) k
theorem o_l2i (X : Stand p l e R s m args below meth c T locs cells slots) (hx : p.tables.exec = Jvm.exec) {pc : Nat} {L : Array Slot} {S : List Value} {x : Int64} (hd : decode c.code pc = .ok (.l2i, 1)) (k : Own p e below Q (T.setTop (mkF m (pc + 1) L (.int (x.toInt32) :: S)))) : Own p e below Q (T.setTop (mkF m pc L (.long x :: S))) :=
  ogo (fun _ k => XS.l2i X.here hx rfl hd rfl k) k
theorem o_i2b (X : Stand p l e R s m args below meth c T locs cells slots) (hx : p.tables.exec = Jvm.exec) {pc : Nat} {L : Array Slot} {S : List Value} {x : Int32} (hd : decode c.code pc = .ok (.i2b, 1)) (k : Own p e below Q (T.setTop (mkF m (pc + 1) L (.int (x.toInt8.toInt32) :: S)))) : Own p e below Q (T.setTop (mkF m pc L (.int x :: S))) :=
  ogo (fun _ k => XS.i2b X.here hx rfl hd rfl k) k
theorem o_i2s (X : Stand p l e R s m args below meth c T locs cells slots) (hx : p.tables.exec = Jvm.exec) {pc : Nat} {L : Array Slot} {S : List Value} {x : Int32} (hd : decode c.code pc = .ok (.i2s, 1)) (k : Own p e below Q (T.setTop (mkF m (pc + 1) L (.int (x.toInt16.toInt32) :: S)))) : Own p e below Q (T.setTop (mkF m pc L (.int x :: S))) :=
  ogo (fun _ k => XS.i2s X.here hx rfl hd rfl k) k
theorem o_i2c (X : Stand p l e R s m args below meth c T locs cells slots) (hx : p.tables.exec = Jvm.exec) {pc : Nat} {L : Array Slot} {S : List Value} {x : Int32} (hd : decode c.code pc = .ok (.i2c, 1)) (k : Own p e below Q (T.setTop (mkF m (pc + 1) L (.int (nar .char x) :: S)))) : Own p e below Q (T.setTop (mkF m pc L (.int x :: S))) :=
  ogo (fun _ k => XS.i2c X.here hx rfl hd rfl k) k
theorem o_lcmp (X : Stand p l e R s m args below meth c T locs cells slots) (hx : p.tables.exec = Jvm.exec) {pc : Nat} {L : Array Slot} {S : List Value} {x y : Int64} (hd : decode c.code pc = .ok (.lcmp, 1)) (k : Own p e below Q (T.setTop (mkF m (pc + 1) L (.int (lcmpW x y) :: S)))) : Own p e below Q (T.setTop (mkF m pc L (.long y :: .long x :: S))) :=
  ogo (fun _ k => XS.lcmp X.here hx rfl hd rfl k) k
theorem o_idiv (X : Stand p l e R s m args below meth c T locs cells slots) (hx : p.tables.exec = Jvm.exec) {pc : Nat} {L : Array Slot} {S : List Value} {x y : Int32} (hd : decode c.code pc = .ok (.idiv, 1)) (hy : y ≠ 0) (k : Own p e below Q (T.setTop (mkF m (pc + 1) L (.int (x / y) :: S)))) : Own p e below Q (T.setTop (mkF m pc L (.int y :: .int x :: S))) :=
  ogo (fun _ k => XS.idiv X.here hx rfl hd rfl hy k) k
theorem o_ldiv (X : Stand p l e R s m args below meth c T locs cells slots) (hx : p.tables.exec = Jvm.exec) {pc : Nat} {L : Array Slot} {S : List Value} {x y : Int64} (hd : decode c.code pc = .ok (.ldiv, 1)) (hy : y ≠ 0) (k : Own p e below Q (T.setTop (mkF m (pc + 1) L (.long (x / y) :: S)))) : Own p e below Q (T.setTop (mkF m pc L (.long y :: .long x :: S))) :=
  ogo (fun _ k => XS.ldiv X.here hx rfl hd rfl hy k) k
theorem o_lrem (X : Stand p l e R s m args below meth c T locs cells slots) (hx : p.tables.exec = Jvm.exec) {pc : Nat} {L : Array Slot} {S : List Value} {x y : Int64} (hd : decode c.code pc = .ok (.lrem, 1)) (hy : y ≠ 0) (k : Own p e below Q (T.setTop (mkF m (pc + 1) L (.long (x - (x / y) * y) :: S)))) : Own p e below Q (T.setTop (mkF m pc L (.long y :: .long x :: S))) :=
  ogo (fun _ k => XS.lrem X.here hx rfl hd rfl hy k) k
theorem o_irem (X : Stand p l e R s m args below meth c T locs cells slots) (hx : p.tables.exec = Jvm.exec) {pc : Nat} {L : Array Slot} {S : List Value} {x y : Int32} (hd : decode c.code pc = .ok (.irem, 1)) (hy : y ≠ 0) (k : Own p e below Q (T.setTop (mkF m (pc + 1) L (.int (x % y) :: S)))) : Own p e below Q (T.setTop (mkF m pc L (.int y :: .int x :: S))) :=
  ogo (fun _ k => iremM X hx rfl hd rfl hy k) k
theorem o_iinc (X : Stand p l e R s m args below meth c T locs cells slots) (hx : p.tables.exec = Jvm.exec) {pc : Nat} {L : Array Slot} {S : List Value} {i : Nat} {n : Int} {x : Int32} {l' : Array Slot} (hd : decode c.code pc = .ok (.iinc i n, 3)) (hl : L[i]? = some (.val (.int x))) (hl' : storeLocals L i (.int (x + Int32.ofInt n)) = some l') (k : Own p e below Q (T.setTop (mkF m (pc + 3) l' S))) : Own p e below Q (T.setTop (mkF m pc L S)) :=
  ogo (fun _ k => XS.iinc X.here hx rfl hd hl hl' k) k
theorem o_dup (X : Stand p l e R s m args below meth c T locs cells slots) (hx : p.tables.exec = Jvm.exec) {pc : Nat} {L : Array Slot} {S : List Value} {v : Value} (hd : decode c.code pc = .ok (.dup, 1)) (hc : v.category = 1) (k : Own p e below Q (T.setTop (mkF m (pc + 1) L (v :: v :: S)))) : Own p e below Q (T.setTop (mkF m pc L (v :: S))) :=
  ogo (fun _ k => XS.dup X.here hx rfl hd rfl hc k) k
theorem o_dup_x1 (X : Stand p l e R s m args below meth c T locs cells slots) (hx : p.tables.exec = Jvm.exec) {pc : Nat} {L : Array Slot} {S : List Value} {v w : Value} (hd : decode c.code pc = .ok (.dup_x1, 1)) (hc : v.category = 1) (hc' : w.category = 1) (k : Own p e below Q (T.setTop (mkF m (pc + 1) L (v :: w :: v :: S)))) : Own p e below Q (T.setTop (mkF m pc L (v :: w :: S))) :=
  ogo (fun _ k => XS.dupX1 X.here hx rfl hd rfl hc hc' k) k
theorem o_dup2 (X : Stand p l e R s m args below meth c T locs cells slots) (hx : p.tables.exec = Jvm.exec) {pc : Nat} {L : Array Slot} {S : List Value} {v w : Value} (hd : decode c.code pc = .ok (.dup2, 1)) (hc : v.category = 1) (hc' : w.category = 1) (k : Own p e below Q (T.setTop (mkF m (pc + 1) L (v :: w :: v :: w :: S)))) : Own p e below Q (T.setTop (mkF m pc L (v :: w :: S))) :=
  ogo (fun _ k => XT.dup2 X.here hx rfl hd rfl hc hc' k) k
theorem o_pop (X : Stand p l e R s m args below meth c T locs cells slots) (hx : p.tables.exec = Jvm.exec) {pc : Nat} {L : Array Slot} {S : List Value} {v : Value} (hd : decode c.code pc = .ok (.pop, 1)) (hc : v.category = 1) (k : Own p e below Q (T.setTop (mkF m (pc + 1) L S))) : Own p e below Q (T.setTop (mkF m pc L (v :: S))) :=
  ogo (fun _ k => XS.pop X.here hx rfl hd rfl hc k) k
theorem o_goto (X : Stand p l e R s m args below meth c T locs cells slots) (hx : p.tables.exec = Jvm.exec) {pc : Nat} {L : Array Slot} {S : List Value} {o : Int} (pc' : Nat) (hd : decode c.code pc = .ok (.goto o, 3)) (hp : (pc : Int) + o = (pc' : Nat)) (k : Own p e below Q (T.setTop (mkF m (pc') L S))) : Own p e below Q (T.setTop (mkF m pc L S)) :=
  ogo (fun _ k => XS.goto X.here hx rfl rfl hd (by rw [hp]; exact Int.natCast_nonneg _) (by rw [hp]; rfl) k) k
theorem o_ifYes (X : Stand p l e R s m args below meth c T locs cells slots) (hx : p.tables.exec = Jvm.exec) {pc : Nat} {L : Array Slot} {S : List Value} {cd : ClassFile.Cond} {x : Int32} {o : Int} (pc' : Nat) (hd : decode c.code pc = .ok (.ifCond cd o, 3)) (hc : if_icmp.holds cd x 0 = true) (hp : (pc : Int) + o = (pc' : Nat)) (k : Own p e below Q (T.setTop (mkF m (pc') L S))) : Own p e below Q (T.setTop (mkF m pc L (.int x :: S))) :=
  ogo (fun _ k => XS.ifYes X.here hx rfl rfl hd rfl ((if0 _ _).trans hc) (by rw [hp]; exact Int.natCast_nonneg _) (by rw [hp]; rfl) k) k
theorem o_ifNo (X : Stand p l e R s m args below meth c T locs cells slots) (hx : p.tables.exec = Jvm.exec) {pc : Nat} {L : Array Slot} {S : List Value} {cd : ClassFile.Cond} {x : Int32} {o : Int} (hd : decode c.code pc = .ok (.ifCond cd o, 3)) (hc : if_icmp.holds cd x 0 = false) (k : Own p e below Q (T.setTop (mkF m (pc + 3) L S))) : Own p e below Q (T.setTop (mkF m pc L (.int x :: S))) :=
  ogo (fun _ k => XS.ifNo X.here hx rfl hd rfl ((if0 _ _).trans hc) k) k
theorem o_icmpYes (X : Stand p l e R s m args below meth c T locs cells slots) (hx : p.tables.exec = Jvm.exec) {pc : Nat} {L : Array Slot} {S : List Value} {cd : ClassFile.Cond} {x y : Int32} {o : Int} (pc' : Nat) (hd : decode c.code pc = .ok (.if_icmp cd o, 3)) (hc : if_icmp.holds cd x y = true) (hp : (pc : Int) + o = (pc' : Nat)) (k : Own p e below Q (T.setTop (mkF m (pc') L S))) : Own p e below Q (T.setTop (mkF m pc L (.int y :: .int x :: S))) :=
  ogo (fun _ k => XS.icmpYes X.here hx rfl rfl hd rfl hc (by rw [hp]; exact Int.natCast_nonneg _) (by rw [hp]; rfl) k) k
theorem o_icmpNo (X : Stand p l e R s m args below meth c T locs cells slots) (hx : p.tables.exec = Jvm.exec) {pc : Nat} {L : Array Slot} {S : List Value} {cd : ClassFile.Cond} {x y : Int32} {o : Int} (hd : decode c.code pc = .ok (.if_icmp cd o, 3)) (hc : if_icmp.holds cd x y = false) (k : Own p e below Q (T.setTop (mkF m (pc + 3) L S))) : Own p e below Q (T.setTop (mkF m pc L (.int y :: .int x :: S))) :=
  ogo (fun _ k => XS.icmpNo X.here hx rfl hd rfl hc k) k
theorem o_ifnullYes (X : Stand p l e R s m args below meth c T locs cells slots) (hx : p.tables.exec = Jvm.exec) {pc : Nat} {L : Array Slot} {S : List Value} {o : Int} (pc' : Nat) (hd : decode c.code pc = .ok (.ifnull o, 3)) (hp : (pc : Int) + o = (pc' : Nat)) (k : Own p e below Q (T.setTop (mkF m (pc') L S))) : Own p e below Q (T.setTop (mkF m pc L (.null :: S))) :=
  ogo (fun _ k => XS.ifnullYes X.here hx rfl rfl hd rfl (by rw [hp]; exact Int.natCast_nonneg _) (by rw [hp]; rfl) k) k
theorem o_ifnullNo (X : Stand p l e R s m args below meth c T locs cells slots) (hx : p.tables.exec = Jvm.exec) {pc : Nat} {L : Array Slot} {S : List Value} {o : Int} {b : Addr} (hd : decode c.code pc = .ok (.ifnull o, 3)) (k : Own p e below Q (T.setTop (mkF m (pc + 3) L S))) : Own p e below Q (T.setTop (mkF m pc L (.ref b :: S))) :=
  ogo (fun _ k => XS.ifnullNo X.here hx rfl hd rfl k) k
theorem o_ifnonnullYes (X : Stand p l e R s m args below meth c T locs cells slots) (hx : p.tables.exec = Jvm.exec) {pc : Nat} {L : Array Slot} {S : List Value} {o : Int} {b : Addr} (pc' : Nat) (hd : decode c.code pc = .ok (.ifnonnull o, 3)) (hp : (pc : Int) + o = (pc' : Nat)) (k : Own p e below Q (T.setTop (mkF m (pc') L S))) : Own p e below Q (T.setTop (mkF m pc L (.ref b :: S))) :=
  ogo (fun _ k => XS.ifnonnullYes X.here hx rfl rfl hd rfl (by rw [hp]; exact Int.natCast_nonneg _) (by rw [hp]; rfl) k) k
theorem o_ifnonnullNo (X : Stand p l e R s m args below meth c T locs cells slots) (hx : p.tables.exec = Jvm.exec) {pc : Nat} {L : Array Slot} {S : List Value} {o : Int} (hd : decode c.code pc = .ok (.ifnonnull o, 3)) (k : Own p e below Q (T.setTop (mkF m (pc + 3) L S))) : Own p e below Q (T.setTop (mkF m pc L (.null :: S))) :=
  ogo (fun _ k => XS.ifnonnullNo X.here hx rfl hd rfl k) k
theorem o_acmp (X : Stand p l e R s m args below meth c T locs cells slots) (hx : p.tables.exec = Jvm.exec) {pc : Nat} {L : Array Slot} {S : List Value} {cd : ClassFile.ACond} {x y : Value} {o : Int} (pc' : Nat) (same : Bool) (h1 : x.isRef = true) (h2 : y.isRef = true) (hd : decode c.code pc = .ok (.if_acmp cd o, 3)) (hq : decide (x = y) = same) (ho : 0 ≤ (pc : Int) + o) (hp : pc' = if acV cd same = true then ((pc : Int) + o).toNat else pc + 3) (k : Own p e below Q (T.setTop (mkF m (pc') L S))) : Own p e below Q (T.setTop (mkF m pc L (y :: x :: S))) :=
  ogo (fun _ k => Jvm.RoadKit.acmp X hx rfl h1 h2 rfl hd rfl hq ho hp k) k
theorem o_tswIn (X : Stand p l e R s m args below meth c T locs cells slots) (hx : p.tables.exec = Jvm.exec) {pc : Nat} {L : Array Slot} {S : List Value} {d lo hi : Int} {offs : Array Int} {len : Nat} {o : Int} {i : Int32} (pc' : Nat) (hd : decode c.code pc = .ok (.tableswitch d lo hi offs, len)) (hin : ¬ (i.toInt < lo ∨ i.toInt > hi)) (hoff : offs[(i.toInt - lo).toNat]? = some o) (ho : 0 ≤ (pc : Int) + o) (hp : ((pc : Int) + o).toNat = pc') (k : Own p e below Q (T.setTop (mkF m (pc') L S))) : Own p e below Q (T.setTop (mkF m pc L (.int i :: S))) :=
  ogo (fun _ k => XS.tswIn X.here hx rfl rfl hd rfl hin hoff ho hp k) k
theorem o_tswOut (X : Stand p l e R s m args below meth c T locs cells slots) (hx : p.tables.exec = Jvm.exec) {pc : Nat} {L : Array Slot} {S : List Value} {d lo hi : Int} {offs : Array Int} {len : Nat} {i : Int32} (pc' : Nat) (hd : decode c.code pc = .ok (.tableswitch d lo hi offs, len)) (hout : i.toInt < lo ∨ i.toInt > hi) (ho : 0 ≤ (pc : Int) + d) (hp : ((pc : Int) + d).toNat = pc') (k : Own p e below Q (T.setTop (mkF m (pc') L S))) : Own p e below Q (T.setTop (mkF m pc L (.int i :: S))) :=
  ogo (fun _ k => XS.tswOut X.here hx rfl rfl hd rfl hout ho hp k) k
end Steps

theorem own_cat {v : Value} (h : v.isRef = true) : v.category = 1 := by cases v <;> simp_all [Value.isRef, Value.category]
theorem own_nar {C : String} {v : Value} (h : v.isRef = true) : narrow (.object C) v = v := by cases v <;> first | rfl | cases h
theorem own_fits {C : String} {v : Value} (h : v.isRef = true) : fits (.object C) v = true := by cases v <;> first | rfl | cases h
theorem own_narc (x : Int32) : nar .char (nar .char x) = nar .char x := by
  have h := c_i2c x
  have h' := c_i2c (nar .char x)
  refine Int32.toInt_inj.mp ?_
  show (nar .char x).toUInt32.toUInt16.toUInt32.toInt32.toInt = (nar .char x).toInt
  have e : (nar .char x).toInt = x.toUInt32.toUInt16.toUInt32.toInt32.toInt := rfl
  omega
theorem own_narb (x : Int32) : nar .byte x.toInt8.toInt32 = x.toInt8.toInt32 := by
  have h := c_i2b x
  have h' := c_i2b x.toInt8.toInt32
  refine Int32.toInt_inj.mp ?_
  show x.toInt8.toInt32.toInt8.toInt32.toInt = x.toInt8.toInt32.toInt
  omega
theorem own_eqref {args : Array Value} {s : State} {a b : Term} {z : Addr} (h : (Jvm.Cond.eq a b).value args s none s [] = some true) (hb : b.eval args s none [] s = some (.ref z)) : a.eval args s none [] s = some (.ref z) := by
  obtain ⟨x, y, h1, h2, k1, k2⟩ := cmp_v (Or.inl h)
  cases hb.symm.trans h2
  have q := gotT (eq_R h1 h2 k2.2 rfl) h
  rw [← q]; exact h1
theorem own_char {c : Int32} (h0 : ¬ (c < (0 : Int32))) (h1 : ¬ ((255 : Int32) < c)) : nar .char (c.toInt8.toInt32 &&& (255 : Int32)) = c := by
  rw [Int32.lt_iff_toInt_lt] at h0 h1
  have e0 : (0 : Int32).toInt = 0 := rfl
  have e1 : (255 : Int32).toInt = 255 := rfl
  have a := c_i2b c
  have b := c_mask c.toInt8.toInt32 (255 : Int32) 8 (by decide) (by decide)
  have d := c_i2c (c.toInt8.toInt32 &&& (255 : Int32))
  refine Int32.toInt_inj.mp ?_
  show (c.toInt8.toInt32 &&& (255 : Int32)).toUInt32.toUInt16.toUInt32.toInt32.toInt = c.toInt
  simp only [Nat.reducePow] at b
  omega
theorem own_narsm {c : Int32} (h0 : ¬ (c < (0 : Int32))) (h1 : ¬ ((255 : Int32) < c)) : nar .char c = c := by
  rw [Int32.lt_iff_toInt_lt] at h0 h1
  have e0 : (0 : Int32).toInt = 0 := rfl
  have e1 : (255 : Int32).toInt = 255 := rfl
  have d := c_i2c c
  refine Int32.toInt_inj.mp ?_
  show c.toUInt32.toUInt16.toUInt32.toInt32.toInt = c.toInt
  omega
theorem own_on {Z : State} {n0 b : Nat} {h : Heap} (O : Old Z n0 h) (g : b = h.size) : n0 ≤ b := by rw [g, ← O.1]; exact O.2.1
theorem own_og {Z : State} {n0 b : Nat} {h : Heap} (O : Old Z n0 h) (g : h.size ≤ b) : n0 ≤ b := Nat.le_trans (by rw [← O.1]; exact O.2.1) g
theorem ogoF {p : Program} {e : Env} {below : List Frame} {Q : State → Outcome → Prop} {T T' : State} {m : MethodId} {pc n : Nat} {L : Array Slot} {S0 S1 : List Value} (h : ∀ t, Steps p.tables e below (T'.setTop { (mkF m pc L S0) with pc := (mkF m pc L S0).pc + n, stack := S1 }) t → Steps p.tables e below (T.setTop (mkF m pc L S0)) t) (k : Own p e below Q (T'.setTop (mkF m (pc + n) L S1))) : Own p e below Q (T.setTop (mkF m pc L S0)) := ogo h k
def own_vs (xs : List Int32) : List Value := xs.map Value.int
theorem own_vs_getD (xs : List Int32) (i : Nat) : (own_vs xs).getD i (.int 0) = .int (xs.getD i 0) := by
  unfold own_vs; simp only [List.getD_eq_getElem?_getD, List.getElem?_map]; cases xs[i]? <;> rfl
theorem own_vsat {xs : List Int32} {i : Nat} (h : i < 2 ^ 31) : (own_vs xs).getD (Int32.ofNat i).toNatClampNeg (.int 0) = .int (xs.getD i 0) := by rw [XT.n32 h]; exact own_vs_getD _ _
theorem own_inb {i n : Nat} (h : i < n) (hn : n < 2 ^ 31) : ¬ Int32.ofNat i < 0 ∧ Int32.ofNat i < Int32.ofNat n := ⟨XT.nlt32 (b := 0) (by omega) (Nat.zero_le _), XT.lt32 hn h⟩
theorem own_shr0 (x : Int32) : (x >>> ((0 : Int32) &&& 31)) = x := by
  refine Int32.toInt_inj.mp ?_
  rw [c_ishr x 0 0 rfl]; simp
theorem own_shl0 (x : Int32) : (x <<< ((0 : Int32) &&& 31)) = x := by
  refine Int32.toInt_inj.mp ?_
  have h := c_ishl x 0 0 rfl
  have a := rng32 x
  have b := rng32 (x <<< ((0 : Int32) &&& 31))
  simp only [Nat.pow_zero, Int.cast_ofNat_Int, Int.mul_one] at h
  omega
theorem own_same {Z : State} {a0 : Array Value} {C : String} {y u : MethodName} (hi : (Jvm.Cond.instanceMethod y).before a0 Z = true) (hs : (Jvm.Cond.selects C u u).before a0 Z = true) (hu : u.cls = y.cls) (hy : y.cls ≠ "java/lang/invoke/MethodHandle" ∧ y.cls ≠ "java/lang/invoke/VarHandle") : (Jvm.Cond.sameMethod y.cls y.cls y.name y.desc).before a0 Z = true := by
  obtain ⟨m, meth, hn, -, -, -⟩ := Cond.instanceMethod_spec hi
  have hf := State.methodFound?_of_named hn hy
  obtain ⟨c, r, m2, -, -, q3, -, mk, hk, hni⟩ := Cond.selects_spec hs
  have h1 := findClass_of_methodNamed hn
  have h2 := findClass_of_methodNamed q3
  rw [hu] at h2
  have ec : m.cls = m2.cls := Option.some.inj (h1.symm.trans h2)
  rw [← ec] at hk
  have hn' : Z.methodNamed? ⟨y.cls, y.name, y.desc⟩ = some m := hn
  have e : (Jvm.Cond.sameMethod y.cls y.cls y.name y.desc).value a0 Z none Z [] = some (decide (m = m) && (Z.vm.classes[m.cls]?).any (!·.isInterface)) := by
    simp only [Cond.value, h1, hf, hn']
  simp [Cond.before, Cond.holds, e, hk, hni]
theorem own_decl {args : Array Value} {s : State} {y : MethodName} {bytes : ByteArray} {maxL : Nat} {ret : Option FieldType} (hi : (Jvm.Cond.instanceMethod y).before args s = true) (hc : (Jvm.Cond.code y bytes maxL ret).before args s = true) : (Jvm.Cond.declares y).before args s = true := by
  obtain ⟨mk, methM, hnamed, hmethM, hstM, habM⟩ := Cond.instanceMethod_spec hi
  obtain ⟨m2, cM, q1, -, -, -, -, -, -, hsig⟩ := Cond.code_spec hnamed hc
  cases hmethM.symm.trans q1
  simp [Cond.before, Cond.holds, Cond.value, hnamed, hmethM, hstM, hsig]
theorem own_nf {args : Array Value} {s : State} {C : String} {y u : MethodName} (hs : (Jvm.Cond.selects C u u).before args s = true) (hu : u.cls = y.cls) : NotFace s y := fun r0 h0 => by
  obtain ⟨c, r, m2, -, -, q3, -, mk, hk, hni⟩ := Cond.selects_spec hs
  have h1 := findClass_of_methodNamed h0
  have h2 := findClass_of_methodNamed q3
  rw [hu] at h2
  have ec : r0.cls = m2.cls := Option.some.inj (h1.symm.trans h2)
  exact ⟨mk, by rw [ec]; exact hk, hni⟩
section Copy
variable {p : Program} {l : Launch} {e : Env} {R : Room} {s : State} {m : MethodId} {args : Array Value} {below : List Frame} {meth : Method} {c : Code} {T : State} {locs : List Loc} {cells slots : Nat} {Z : State} {a0 : Array Value} {h : Heap}
theorem own_app {xs vs : List Int32} {o n j : Nat} (h : o + n ≤ xs.length) : (vs ++ (xs.drop o).take n).getD j 0 = if j < vs.length then vs.getD j 0 else if j < vs.length + n then xs.getD (o + (j - vs.length)) 0 else 0 := by
  simp only [List.getD_eq_getElem?_getD, List.getElem?_append]
  by_cases h1 : j < vs.length
  · simp only [if_pos h1]
  · simp only [if_neg h1, List.getElem?_take, List.getElem?_drop]
    by_cases h2 : j < vs.length + n
    · rw [if_pos h2, if_pos (by omega)]
    · rw [if_neg h2, if_neg (by omega)]; rfl
theorem own_copy (X : Stand p l e R s m args below meth c T locs cells slots) (hx : p.tables.exec = Jvm.exec) (hZ : Z.Warmed39 s.vm) {own : String} {index : Nat} (hown : s.vm.findClass own = some m.cls) (w1 : (Jvm.Cond.methodLink own index acN).before a0 Z = true) (w2 : (Jvm.Cond.native acN).before a0 Z = true) (w3 : (Jvm.Cond.static acN).before a0 Z = true) (w4 : (Jvm.Cond.initialized "java/lang/System").before a0 Z = true) (eT : T.heap = h)
    {a b : Addr} {ka kb : ClassId} {za zb : Int32} {xs vs : List Int32} (A : Arv Z h a ka .byte za (own_vs xs) (.int 0)) (B : Arv Z h b kb .byte zb (own_vs vs) (.int 0)) {o q n na nb : Nat} {jo jq jn : Int32} (ho : jo = Int32.ofNat o) (hq : jq = Int32.ofNat q) (hn : jn = Int32.ofNat n) (hza : za = Int32.ofNat na) (hzb : zb = Int32.ofNat nb)
    (hv : vs.length = q) (h4 : o + n ≤ xs.length) (h4' : o + n ≤ na) (h5 : q + n ≤ nb) (hna : na < 2 ^ 31) (hnb : nb < 2 ^ 31)
    {g : JFrame} (hg : g.method = m) (hsize : g.locals.size = c.maxLocals) {rest : List Value} (hstack : g.stack = .int jn :: .int jq :: .ref b :: .int jo :: .ref a :: rest) (hdg : decode c.code g.pc = .ok (.invokestatic index, 3))
    {W : Nat} (hW : 2 * g.monitorRoom + (rest.map fun v => v.category).sum ≤ W) (hfr : 1 ≤ R.frames) (hlo : W + 40 ≤ R.locals) :
    ∃ (T' : State) (h' : Heap), Stand p l e R s m args below meth c T' (locs ++ copyLocs b q n) cells slots ∧ T'.heap = h' ∧ Keep h h' [b] ∧ Arv Z h' b kb .byte zb (own_vs (vs ++ (xs.drop o).take n)) (.int 0) ∧ (∀ k, Fr k locs → k ≤ b → Fr k (locs ++ copyLocs b q n)) ∧ ∀ target, Steps p.tables e below (T'.setTop { g with pc := g.pc + 3, stack := rest }) target → Steps p.tables e below (T.setTop g) target := by
  subst hza hzb eT
  obtain ⟨ca, A1, A2, A3, A4, A5, A6⟩ := A
  obtain ⟨cb, B1, B2, B3, B4, B5, B6⟩ := B
  rw [XT.n32 hna] at A3
  rw [XT.n32 hnb] at B3
  have al := hZ.alike.trans X.warmed.alike
  have atA : ∀ i, i < n → ca.slots.getD (o + i) .null = .int (xs.getD (o + i) 0) := fun i hi => by
    have q := A5 (o + i) (by omega)
    rw [own_vs_getD] at q
    simp [Array.getD_eq_getD_getElem?, q]
  have fA : ∀ i, i < n → fits .byte (.int (xs.getD (o + i) 0)) = true := fun i hi => by
    have q := A6 (o + i) (by omega)
    rwa [own_vs_getD] at q
  obtain ⟨T', B', X', P, b1, b2, b3, b4, st⟩ := X.acopy hx hown (ts := .byte) (t := .byte) (fun w hw => by
      simp only [XT.acW, List.mem_cons, List.not_mem_nil, or_false] at hw
      rcases hw with rfl | rfl | rfl | rfl
      · exact mvT hZ w1
      · exact mvT hZ w2
      · exact mvT hZ w3
      · exact mvT hZ w4) (A := ca) (B := cb) ⟨A1.1, State.isArrayOf_alike al A1.2.1, A1.2.2, by omega⟩ ⟨B1.1, State.isArrayOf_alike al B1.2.1, B1.2.2, by omega⟩ (by decide) ho hq hn (by omega) (by omega) (fun i hi => ⟨by rw [atA i hi]; exact fA i hi, fun r => by cases r⟩) (g := g) hg hsize hstack hdg hW hfr hlo
  have new : ∀ j, j < B'.slots.size → B'.slots[j]? = some ((own_vs (vs ++ (xs.drop o).take n)).getD j (.int 0)) ∧ fits .byte ((own_vs (vs ++ (xs.drop o).take n)).getD j (.int 0)) = true := fun j hj => by
    rw [b4 j, own_vs_getD, own_app h4]
    have r := B5 j (by omega)
    have r' := B6 j (by omega)
    rw [own_vs_getD] at r r'
    by_cases h1 : j < vs.length
    · rw [if_neg (by omega), if_pos h1]; exact ⟨r, r'⟩
    · rw [if_neg h1]
      by_cases h2 : j < vs.length + n
      · rw [if_pos (by omega), if_pos h2, atA _ (by omega)]
        have e : j - q = j - vs.length := by omega
        exact ⟨by rw [e], fA _ (by omega)⟩
      · rw [if_neg (by omega), if_neg h2]
        have e0 : vs.getD j 0 = 0 := by simp [List.getD_eq_getElem?_getD, List.getElem?_eq_none (Nat.le_of_not_lt h1)]
        rw [e0] at r r'; exact ⟨r, r'⟩
  have kinds : ∀ (x : Addr) (cx : Cell), T.heap[x]? = some cx → x ≠ b → T'.heap[x]? = some cx := fun x cx hx' ne => (P.2.1 x ne).trans hx'
  refine ⟨T', T'.heap, X', rfl, ⟨Nat.le_of_eq P.2.2.symm, fun x cx hx' ne => kinds x cx hx' (by simpa using ne), fun x cx hx' => ?_⟩, ⟨B', ⟨P.1, ?_, by rw [b2]; exact B1.2.2⟩, b1.trans B2, by rw [b3, B3, XT.n32 hnb], B4, fun j hj => (new j hj).1, fun j hj => (new j hj).2⟩, fun k N hk => N.app fun y hy => ?_, st⟩
  · by_cases z : x = b
    · subst z; cases B1.1.symm.trans hx'; exact ⟨B', P.1, b1, b2, b3⟩
    · exact ⟨cx, kinds x cx hx' z, rfl, rfl, rfl⟩
  · obtain ⟨z1, kz, z2, z3⟩ := B1.2.1
    exact ⟨by rw [b2]; exact z1, kz, by rw [b1]; exact z2, z3⟩
  · simp only [copyLocs, List.mem_map] at hy
    obtain ⟨i, -, rfl⟩ := hy; exact hk
end Copy
theorem own_arv {Z : State} {args : Array Value} (hfit : Fit Z) {t : Term} {a : Addr} {ty : FieldType} {z : Int32} {vs : List Value} {dv : Value} (ev : t.eval args Z none [] Z = some (.ref a)) (ha : (Jvm.Cond.arrayOf t ty).value args Z none Z [] = some true) (hl : (Term.length t).eval args Z none [] Z = some (.int z)) (hz : ¬ z < 0) (hl2 : z.toNatClampNeg = vs.length) (H : ∀ cl, Z.heap[a]? = some cl → HasL cl 0 vs) : ∃ k, Arv Z Z.heap a k ty z vs dv := by
  obtain ⟨c, A⟩ := Arr.start ev ha
  have hc := Arr.fin (Vm.Alike.refl _) A
  have h31 := SBG.length_lt ev hc hl
  have e := len_f ev hc h31
  have ez : c.slots.size.toInt32 = z := by
    have q := e.symm.trans hl
    simpa using q
  exact ⟨_, Arv.start hfit A h31 ez hz hl2 (H c A.1)⟩
def own_EL : List (String × Nat) := [("com/example/reliquary/reliquary/Secrets", 75), ("com/example/reliquary/reliquary/SecretsHidePinLaw", 62), ("java/lang/String", 7)]
def own_hw (a0 : Array Value) (Z : State) : Prop := ∀ d ∈ tables_1, d.before a0 Z = true
theorem own_w {Z : State} {a0 : Array Value} (hw : own_hw a0 Z) (i : Nat) {d : Jvm.Cond} (h : tables_1[i]? = some d) : d.before a0 Z = true := hw d (List.mem_of_getElem? h)
theorem own_EW {Z : State} {a0 : Array Value} (hw : ∀ d ∈ tables_1, d.before a0 Z = true) : EW Z a0 own_EL := (EW.cons (hw _ (List.mem_of_getElem? (i := 432) rfl)) (by decide) (EW.cons (hw _ (List.mem_of_getElem? (i := 487) rfl)) (by decide) (EW.cons (hw _ (List.mem_of_getElem? (i := 23) rfl)) (by decide) EW.nil)))
theorem own_wS {Z : State} {a0 : Array Value} (hw : ∀ d ∈ tables_1, d.before a0 Z = true) : ∀ a ∈ Bundle.stringAtoms, a.before a0 Z = true := fun a ha => by
  simp only [Bundle.stringAtoms, List.mem_cons, List.not_mem_nil, or_false] at ha
  rcases ha with rfl | rfl | rfl | rfl | rfl | rfl | rfl
  · exact hw _ (List.mem_of_getElem? (i := 12) rfl)
  · exact hw _ (List.mem_of_getElem? (i := 11) rfl)
  · exact hw _ (List.mem_of_getElem? (i := 24) rfl)
  · exact hw _ (List.mem_of_getElem? (i := 25) rfl)
  · exact hw _ (List.mem_of_getElem? (i := 26) rfl)
  · exact hw _ (List.mem_of_getElem? (i := 27) rfl)
  · exact hw _ (List.mem_of_getElem? (i := 28) rfl)
theorem own_safe {Z : State} {EL : List (String × Nat)} {vm : Vm} {h : Heap} {x : Addr} (hal : Z.vm.Alike vm) (E : Exa Z h x "java/lang/String") (V : Fld Z h x "java/lang/String" "value" "[B" .null) : Safe Z EL vm h x := fun B => by
  obtain ⟨p, hp, u, a, hb, q, rfl, F, hy⟩ := B
  obtain ⟨cS, ⟨⟨s1, s2, s3, ⟨cv, kv, iv, s4, s4'⟩, -, s6, s7, s8, s9, s10, r⟩, hfS, hcS⟩, -, hB, -⟩ := F
  rcases hy with rfl | rfl
  · obtain ⟨cell, cf, k, i, f, h1, h2, -, -, -, -, h7⟩ := V
    obtain ⟨kv', z4⟩ := ff_back (U := Wst Z vm h) hal s4
    cases h2.symm.trans z4
    have e1 : some cell = some q.sC := h1.symm.trans s1
    cases e1
    rw [s8] at h7; cases h7
  · obtain ⟨cell, k, h1, h2, h3, -⟩ := E
    have e1 : some cell = some q.SA := h1.symm.trans s10
    cases e1
    have hB' : vm.findClass "[B" = some q.SA.cls := hB
    rw [hal.findClass] at hB'
    obtain ⟨k1, a1, a2⟩ := Vm.findClass_spec h2
    obtain ⟨k2, b1, b2⟩ := Vm.findClass_spec hB'
    cases a1.symm.trans b1
    exact absurd (a2.symm.trans b2) (by decide)
abbrev oPostS (Z : State) (q : Option Value → Heap → List Loc → Prop) (s : State) (cc ss : Nat) : State → Outcome → Prop := fun s₂ o => ∃ v L, o = .returned v ∧ q v s₂.heap L ∧ CHr Z own_EL s.vm s.heap s₂.vm s₂.heap ∧ ReturnedEndW s o s₂ L cc ss
abbrev oMetS (l : Launch) (Z : State) (y : MethodName) (code : ByteArray) (maxL : Nat) (ret : Option FieldType) (ws : List Jvm.Cond) (rm : Room) (cc ss : Nat) (as' : Array Value) (h0 : Heap) (q : Option Value → Heap → List Loc → Prop) : Prop :=
  MetFree l y (head1 (Jvm.Cond.code y code maxL ret :: ws) rm) (fun a U => a = as' ∧ Z.Warmed39 U.vm ∧ U.heap = h0 ∧ CHv Z own_EL U.vm h0) (fun _ _ _ _ _ => True) (fun _ U o U' => ∃ v L, o = .returned v ∧ q v U'.heap L ∧ CHr Z own_EL U.vm U.heap U'.vm U'.heap ∧ ReturnedEndW U o U' L cc ss)
theorem oenterS {l : Launch} {Z : State} {y : MethodName} {code : ByteArray} {maxL : Nat} {ret : Option FieldType} {ws : List Jvm.Cond} {rm : Room} {cc ss : Nat} {as' : Array Value} {h0 : Heap} {q : Option Value → Heap → List Loc → Prop} (pn : plainFor y = true) (Ls : Array Slot) (ef : ∀ m, entryFrame m as' maxL = mkF m 0 Ls [])
    (body : ∀ (p : Program) (e : Env) (s : State) (m : MethodId) (below : List Frame) (meth : Method) (c : Code) (s₁ : State), Stand p l e rm (s.setVm s.vm) m as' below meth c s₁ [] 0 0 → p.tables.exec = Jvm.exec → Z.Warmed39 s.vm → c.code = code → c.maxLocals = maxL → meth.sig.returnType = ret → s.vm.findClass y.cls = some m.cls → meth.name = y.name → meth.locks = false → s₁.heap = h0 → s.heap = h0 → CHv Z own_EL s.vm h0 → s.Since s.vm 0 → Own p e below (oPostS Z q s cc ss) (s₁.setTop (mkF m 0 Ls []))) : oMetS l Z y code maxL ret ws rm cc ss as' h0 q := by
  refine MetFree.of_bodySF pn hisR ?_
  intro p e s m args below meth c s₁ Bd hml0 hP hK
  obtain ⟨rfl, hZ, hh, H⟩ := hP
  have e0 : s₁.heap = h0 := by rw [← hh, Bd.state]; rfl
  obtain ⟨t, o, h1, h2⟩ := body p e s m below meth c s₁ (Stand.of_body Bd) Bd.exec hZ Bd.bytes hml0 Bd.returns (findClass_of_methodNamed Bd.named) (name_of_methodNamed Bd.named Bd.method).1 (BodyLoose.notSynchronized Bd) e0 hh H ((State.WarmedH.refl s).since 0)
  exact ⟨t, o, castTop (ef m) h1, h2⟩
theorem oendS {p : Program} {l : Launch} {e : Env} {R : Room} {s : State} {m : MethodId} {args : Array Value} {below : List Frame} {meth : Method} {c : Code} {T : State} {locs : List Loc} {cells slots : Nat} {Z : State} {a0 : Array Value} {vm0 : Vm} {k0 : Nat} {h h0 : Heap} {v : Option Value} {q : Option Value → Heap → List Loc → Prop} {cc ss : Nat} {S : State}
    (X : Stand p l e R (s.setVm vm0) m args below meth c T locs cells slots) (hlk : meth.locks = false) (hS : s.Since vm0 k0) (hk : k0 ≤ h.size) (eT : T.heap = h) (hZ : Z.Warmed39 vm0) (hEL : EW Z a0 own_EL) (hs0 : s.heap = h0) (C : CHr Z own_EL s.vm h0 vm0 h) (hv : meth.sig.returnType = none → v = none)
    (st : ∀ fs, (∀ (f : JFrame) (acts : List Action), f.method = m → f.locked = none → f.entered = [] → (doReturn e (T.setTop f) acts v).1 = T.setFrames fs) → Steps p.tables e below S (T.setFrames fs)) (hc : cells ≤ cc) (hs : slots ≤ ss) (hq : q v T.heap locs) : Own p e below (oPostS Z q s cc ss) S := by
  subst eT hs0
  obtain ⟨fs, hr, hrun, hended, hR⟩ := X.leaveW hS hk hv hlk
  have C2 : CHr Z own_EL s.vm s.heap T.vm T.heap := C.trans (CHv.at X hZ hEL C.1)
  exact ⟨_, _, st fs hr, hrun, hended, _, _, rfl, hq, C2, hR.1, hR.2.1, hR.2.2.1, hR.2.2.2.mono hc hs⟩
def own_DD (code : ByteArray) (L : List (Nat × Instr × Nat)) : Prop := ∀ (i : Nat) {pc : Nat} {o : Instr} {n : Nat}, L[i]? = some (pc, o, n) → decode code pc = .ok (o, n)
theorem own_dk {code : ByteArray} {L : List (Nat × Instr × Nat)} (hL : (L.all fun q => decide (decode code q.1 = .ok q.2)) = true) : own_DD code L := fun i pc o n h => by
  have q := List.all_eq_true.mp hL (pc, o, n) (List.mem_of_getElem? h)
  exact of_decide_eq_true q
theorem own_hb {c : Code} {code : ByteArray} {L : List (Nat × Instr × Nat)} (h : c.code = code) (D : own_DD code L) : own_DD c.code L := fun i pc o n q => by rw [h]; exact D i q
section Short
variable {p : Program} {l : Launch} {e : Env} {R : Room} {s : State} {m : MethodId} {args : Array Value} {below : List Frame} {meth : Method} {c : Code} {T : State} {locs : List Loc} {cells slots : Nat} {Q : State → Outcome → Prop} {Z : State} {a0 : Array Value} {h : Heap} {vm0 : Vm}
theorem o_getF (X : Stand p l e R s m args below meth c T locs cells slots) (hx : p.tables.exec = Jvm.exec) (hZ : Z.Warmed39 s.vm) {own R0 O n d host : String} {index : Nat} (hown : s.vm.findClass own = some m.cls) (w : (Jvm.Cond.fieldLink own index R0 n d).before a0 Z = true ∨ (Jvm.Cond.fieldLinkNest own index R0 n d host).before a0 Z = true) (via : Via Z R0 O n d) (eT : T.heap = h) {a : Addr} {v : Value} (F : Fld Z h a O n d v) {pc : Nat} {L : Array Slot} {S : List Value} (hd : decode c.code pc = .ok (.getfield index, 3)) (k : ∀ T', Stand p l e R s m args below meth c T' locs cells slots → T'.heap = h → Own p e below Q (T'.setTop (mkF m (pc + 3) L (v :: S)))) : Own p e below Q (T.setTop (mkF m pc L (.ref a :: S))) := by
  obtain ⟨T', X', e', st⟩ := getF X hx hZ hown w via eT F (g := mkF m pc L (.ref a :: S)) rfl rfl hd
  exact ogo st (k T' X' e')
theorem o_getS (X : Stand p l e R s m args below meth c T locs cells slots) (hx : p.tables.exec = Jvm.exec) (hZ : Z.Warmed39 s.vm) {own R0 O n d host : String} {index : Nat} (hown : s.vm.findClass own = some m.cls) (w : (Jvm.Cond.fieldLink own index R0 n d).before a0 Z = true ∨ (Jvm.Cond.fieldLinkNest own index R0 n d host).before a0 Z = true) (via : Via Z R0 O n d) (eT : T.heap = h) {v : Value} (F : Sta Z h O n d v) {pc : Nat} {L : Array Slot} {S : List Value} (hd : decode c.code pc = .ok (.getstatic index, 3)) (k : ∀ T', Stand p l e R s m args below meth c T' locs cells slots → T'.heap = h → Own p e below Q (T'.setTop (mkF m (pc + 3) L (v :: S)))) : Own p e below Q (T.setTop (mkF m pc L S)) := by
  obtain ⟨T', X', e', st⟩ := getS2 X hx hZ hown w via eT F (g := mkF m pc L S) rfl hd
  exact ogo st (k T' X' e')
theorem o_alen (X : Stand p l e R s m args below meth c T locs cells slots) (hx : p.tables.exec = Jvm.exec) (hZ : Z.Warmed39 s.vm) (eT : T.heap = h) {a : Addr} {kk : ClassId} {ty : FieldType} {z : Int32} {vs : List Value} {dv : Value} (A : Arv Z h a kk ty z vs dv) {pc : Nat} {L : Array Slot} {S : List Value} (hd : decode c.code pc = .ok (.arraylength, 1)) (k : Own p e below Q (T.setTop (mkF m (pc + 1) L (.int z :: S)))) : Own p e below Q (T.setTop (mkF m pc L (.ref a :: S))) := by
  subst eT
  obtain ⟨cl, Ar, -, Sz, Nz, -, -⟩ := A
  exact ogo (fun _ kt => X.arraylength hx Ar.1 (State.isArrayOf_alike hZ.alike Ar.2.1) (g := mkF m pc L (.ref a :: S)) rfl rfl hd _ (by rw [len_of Sz Nz]; exact kt)) k
theorem o_bal (X : Stand p l e R s m args below meth c T locs cells slots) (hx : p.tables.exec = Jvm.exec) (hZ : Z.Warmed39 s.vm) (eT : T.heap = h) {a : Addr} {kk : ClassId} {z : Int32} {vs : List Value} {dv : Value} (A : Arv Z h a kk .byte z vs dv) {j : Int32} (hj : ¬ j < 0 ∧ j < z) {v : Value} (hv : vs.getD j.toNatClampNeg dv = v) {pc : Nat} {L : Array Slot} {S : List Value} (hd : decode c.code pc = .ok (.baload, 1)) (k : Own p e below Q (T.setTop (mkF m (pc + 1) L (v :: S)))) : Own p e below Q (T.setTop (mkF m pc L (.int j :: .ref a :: S))) := by
  subst eT
  obtain ⟨cl, Ar, q, Sz, Nz, H, G⟩ := A
  have hi := inb_of (j := j) Sz hj
  exact ogo (fun _ kt => X.baloadBytes hx (j := j) (v := v) Ar.1 (State.isArrayOf_alike hZ.alike Ar.2.1) Ar.2.2 hi (Has.at H hi hv) (g := mkF m pc L (.int j :: .ref a :: S)) rfl rfl hd _ kt) k
theorem o_cal (X : Stand p l e R s m args below meth c T locs cells slots) (hx : p.tables.exec = Jvm.exec) (hZ : Z.Warmed39 s.vm) (eT : T.heap = h) {a : Addr} {kk : ClassId} {z : Int32} {vs : List Value} {dv : Value} (A : Arv Z h a kk .char z vs dv) {j : Int32} (hj : ¬ j < 0 ∧ j < z) {v : Value} (hv : vs.getD j.toNatClampNeg dv = v) {pc : Nat} {L : Array Slot} {S : List Value} (hd : decode c.code pc = .ok (.caload, 1)) (k : Own p e below Q (T.setTop (mkF m (pc + 1) L (v :: S)))) : Own p e below Q (T.setTop (mkF m pc L (.int j :: .ref a :: S))) := by
  subst eT
  obtain ⟨cl, Ar, q, Sz, Nz, H, G⟩ := A
  have hi := inb_of (j := j) Sz hj
  exact ogo (fun _ kt => X.caload hx (j := j) (v := v) Ar.1 (State.isArrayOf_alike hZ.alike Ar.2.1) Ar.2.2 hi (Has.at H hi hv) (g := mkF m pc L (.int j :: .ref a :: S)) rfl rfl hd _ kt) k
theorem o_lal (X : Stand p l e R s m args below meth c T locs cells slots) (hx : p.tables.exec = Jvm.exec) (hZ : Z.Warmed39 s.vm) (eT : T.heap = h) {a : Addr} {kk : ClassId} {z : Int32} {vs : List Value} {dv : Value} (A : Arv Z h a kk .long z vs dv) {j : Int32} (hj : ¬ j < 0 ∧ j < z) {v : Value} (hv : vs.getD j.toNatClampNeg dv = v) {pc : Nat} {L : Array Slot} {S : List Value} (hd : decode c.code pc = .ok (.laload, 1)) (k : Own p e below Q (T.setTop (mkF m (pc + 1) L (v :: S)))) : Own p e below Q (T.setTop (mkF m pc L (.int j :: .ref a :: S))) := by
  subst eT
  obtain ⟨cl, Ar, q, Sz, Nz, H, G⟩ := A
  have hi := inb_of (j := j) Sz hj
  exact ogo (fun _ kt => X.laload hx (j := j) (v := v) Ar.1 (State.isArrayOf_alike hZ.alike Ar.2.1) Ar.2.2 hi (Has.at H hi hv) (g := mkF m pc L (.int j :: .ref a :: S)) rfl rfl hd _ kt) k
theorem o_aal (X : Stand p l e R s m args below meth c T locs cells slots) (hx : p.tables.exec = Jvm.exec) (hZ : Z.Warmed39 s.vm) (eT : T.heap = h) {a : Addr} {kk : ClassId} {z : Int32} {vs : List Value} {dv : Value} (A : Arv Z h a kk (.object "java/lang/Object") z vs dv) {j : Int32} (hj : ¬ j < 0 ∧ j < z) {v : Value} (hv : vs.getD j.toNatClampNeg dv = v) {pc : Nat} {L : Array Slot} {S : List Value} (hd : decode c.code pc = .ok (.aaload, 1)) (k : Own p e below Q (T.setTop (mkF m (pc + 1) L (v :: S)))) : Own p e below Q (T.setTop (mkF m pc L (.int j :: .ref a :: S))) := by
  subst eT
  obtain ⟨cl, Ar, q, Sz, Nz, H, G⟩ := A
  have hi := inb_of (j := j) Sz hj
  exact ogo (fun _ kt => X.aaload hx (j := j) (v := v) Ar.1 (State.isArrayOf_alike hZ.alike Ar.2.1) rfl Ar.2.2 hi (Has.at H hi hv) (g := mkF m pc L (.int j :: .ref a :: S)) rfl rfl hd _ kt) k
theorem o_cS (X : Stand p l e R s m args below meth c T locs cells slots) (hx : p.tables.exec = Jvm.exec) (hZ : Z.Warmed39 s.vm) {own : String} {index : Nat} (hown : s.vm.findClass own = some m.cls) {y : MethodName} {bytes : ByteArray} {maxL : Nat} {ret : Option FieldType} {rm : Room} {as' : Array Value} {q : Option Value → Heap → List Loc → Prop} (M : oMet l Z y bytes maxL ret [] rm rm.cells rm.slots as' h q) (wl : (Jvm.Cond.methodLink own index y).before a0 Z = true) (ws : (Jvm.Cond.static y).before a0 Z = true) (wi : (Jvm.Cond.initialized y.cls).before a0 Z = true) (wc : (Jvm.Cond.code y bytes maxL ret).before a0 Z = true) (hy : y.cls ≠ "java/lang/invoke/MethodHandle" ∧ y.cls ≠ "java/lang/invoke/VarHandle") (eT : T.heap = h) {pc kk : Nat} {L : Array Slot} (hml : c.maxLocals = kk) (hL0 : L.size = kk) (argsL S : List Value) {sig : MethodDescriptor} (pd : parseMethodDescriptor y.desc = some sig) (hn : argsL.length = sig.parameters.length) (ha : argsL.toArray = as') (W : Nat) (hW : (S.map fun v => v.category).sum = W) (hN : rm.frames + 1 ≤ R.frames ∧ W + (maxL + 11) + rm.locals ≤ R.locals ∧ cells + rm.cells ≤ R.cells ∧ slots + rm.slots ≤ R.slots) (hd : decode c.code pc = .ok (.invokestatic index, 3)) (k : ∀ T' Lc v, Stand p l e R s m args below meth c T' (locs ++ Lc) (cells + rm.cells) (slots + rm.slots) → q v T'.heap Lc → Own p e below Q (T'.setTop (mkF m (pc + 3) L (v.toList ++ S)))) : Own p e below Q (T.setTop (mkF m pc L (argsL.reverse ++ S))) := by
  obtain ⟨v, vm₁, ⟨T', L', k', n'⟩, -, X', ⟨Lc, hQ, l1, l2, l3⟩, st⟩ := Jvm.LawKit.callS X hx hown (mvT hZ wl) (mvT hZ ws) (mvT hZ wi) (mvT hZ wc) hy (backOf (W := W) M hZ wc wi hN.1 hN.2.1) (g := mkF m pc L (argsL.reverse ++ S)) rfl (hL0.trans hml.symm) (argsL := argsL) (rest := S) (fun sg hsg => by cases pd.symm.trans hsg; exact hn) rfl (by show 2 * 0 + _ ≤ _; rw [Nat.mul_zero, Nat.zero_add]; exact Nat.le_of_eq hW) hd (fun _ _ => ⟨ha, eT, hN.2.2.1, hN.2.2.2⟩)
  dsimp only [Pt.U, Pt.locs, Pt.cells, Pt.slots] at X' l1 l2 l3 st hQ
  subst l1 l2 l3
  exact ogo st (k T' Lc v X' hQ)
theorem o_cI (X : Stand p l e R s m args below meth c T locs cells slots) (hx : p.tables.exec = Jvm.exec) (hZ : Z.Warmed39 s.vm) {own : String} {index : Nat} (hown : s.vm.findClass own = some m.cls) {y : MethodName} {bytes : ByteArray} {maxL : Nat} {rm : Room} {as' : Array Value} {q : Option Value → Heap → List Loc → Prop} (M : oMet l Z y bytes maxL none [] rm rm.cells rm.slots as' h q) (hi : y.name = "<init>") (wl : (Jvm.Cond.methodLink own index y).before a0 Z = true) (wn : (Jvm.Cond.instanceMethod y).before a0 Z = true) (wi : (Jvm.Cond.initialized y.cls).before a0 Z = true) (wc : (Jvm.Cond.code y bytes maxL none).before a0 Z = true) (hy : y.cls ≠ "java/lang/invoke/MethodHandle" ∧ y.cls ≠ "java/lang/invoke/VarHandle") (eT : T.heap = h) {a : Addr} {pc kk : Nat} {L : Array Slot} (hml : c.maxLocals = kk) (hL0 : L.size = kk) (argsL S : List Value) {sig : MethodDescriptor} (pd : parseMethodDescriptor y.desc = some sig) (hn : argsL.length = sig.parameters.length) (ha : (.ref a :: argsL).toArray = as') (W : Nat) (hW : (S.map fun v => v.category).sum = W) (hN : rm.frames + 1 ≤ R.frames ∧ W + (maxL + 11) + rm.locals ≤ R.locals ∧ cells + rm.cells ≤ R.cells ∧ slots + rm.slots ≤ R.slots) (hd : decode c.code pc = .ok (.invokespecial index, 3)) (k : ∀ T' Lc v, Stand p l e R s m args below meth c T' (locs ++ Lc) (cells + rm.cells) (slots + rm.slots) → q v T'.heap Lc → Own p e below Q (T'.setTop (mkF m (pc + 3) L (v.toList ++ S)))) : Own p e below Q (T.setTop (mkF m pc L (argsL.reverse ++ .ref a :: S))) := by
  obtain ⟨v, vm₁, ⟨T', L', k', n'⟩, -, X', ⟨Lc, hQ, l1, l2, l3⟩, st⟩ := X.specialBack hx hi hown (mvT hZ wl) (mvT hZ wn) (mvT hZ wc) hy (backOf (W := W) M hZ wc wi hN.1 hN.2.1) (g := mkF m pc L (argsL.reverse ++ .ref a :: S)) rfl (hL0.trans hml.symm) (Steps.refl _) (argsL := argsL) (rest := S) (fun sg hsg => by cases pd.symm.trans hsg; exact hn) rfl (by show 2 * 0 + _ ≤ _; rw [Nat.mul_zero, Nat.zero_add]; exact Nat.le_of_eq hW) hd (fun _ _ => ⟨ha, eT, hN.2.2.1, hN.2.2.2⟩)
  dsimp only [Pt.U, Pt.locs, Pt.cells, Pt.slots] at X' l1 l2 l3 st hQ
  subst l1 l2 l3
  exact otr st (k T' Lc v X' hQ)
theorem o_cV (X : Stand p l e R s m args below meth c T locs cells slots) (hx : p.tables.exec = Jvm.exec) (hZ : Z.Warmed39 s.vm) {own C : String} {index : Nat} {x : MethodName} (hown : s.vm.findClass own = some m.cls) {y : MethodName} {bytes : ByteArray} {maxL : Nat} {ret : Option FieldType} {rm : Room} {as' : Array Value} {q : Option Value → Heap → List Loc → Prop} (M : oMet l Z y bytes maxL ret [] rm rm.cells rm.slots as' h q) (wl : (Jvm.Cond.methodLink own index x).before a0 Z = true) (wd : (Jvm.Cond.declares x).before args s = true) (nf : NotFace s x) (wsel : (Jvm.Cond.selects C x y).before a0 Z = true) (wn : (Jvm.Cond.instanceMethod y).before a0 Z = true) (wi : (Jvm.Cond.initialized y.cls).before a0 Z = true) (wc : (Jvm.Cond.code y bytes maxL ret).before a0 Z = true) (hy : x.cls ≠ "java/lang/invoke/MethodHandle" ∧ x.cls ≠ "java/lang/invoke/VarHandle") (eT : T.heap = h) {a : Addr} (E : Exa Z h a C) {pc kk : Nat} {L : Array Slot} (hml : c.maxLocals = kk) (hL0 : L.size = kk) (argsL S : List Value) {sig : MethodDescriptor} (pd : parseMethodDescriptor x.desc = some sig) (hn : argsL.length = sig.parameters.length) (ha : (.ref a :: argsL).toArray = as') (W : Nat) (hW : (S.map fun v => v.category).sum = W) (hN : rm.frames + 1 ≤ R.frames ∧ W + (maxL + 11) + rm.locals ≤ R.locals ∧ cells + rm.cells ≤ R.cells ∧ slots + rm.slots ≤ R.slots) (hd : decode c.code pc = .ok (.invokevirtual index, 3)) (k : ∀ T' Lc v, Stand p l e R s m args below meth c T' (locs ++ Lc) (cells + rm.cells) (slots + rm.slots) → q v T'.heap Lc → Own p e below Q (T'.setTop (mkF m (pc + 3) L (v.toList ++ S)))) : Own p e below Q (T.setTop (mkF m pc L (argsL.reverse ++ .ref a :: S))) := by
  obtain ⟨cq, kq, qa, qb, qc⟩ := isOf hZ eT E
  obtain ⟨v, vm₁, ⟨T', L', k', n'⟩, -, X', ⟨Lc, hQ, l1, l2, l3⟩, st⟩ := X.virtualBack hx (y := x) (z := y) hown (mvT hZ wl) wd nf (mvT hZ wsel) (mvT hZ wn) hy (backOf (W := W) M hZ wc wi hN.1 hN.2.1) qa qc (g := mkF m pc L (argsL.reverse ++ .ref a :: S)) rfl (hL0.trans hml.symm) (Steps.refl _) (argsL := argsL) (rest := S) (fun sg hsg => by cases pd.symm.trans hsg; exact hn) rfl (by show 2 * 0 + _ ≤ _; rw [Nat.mul_zero, Nat.zero_add]; exact Nat.le_of_eq hW) hd (fun _ _ => ⟨ha, eT, hN.2.2.1, hN.2.2.2⟩)
  dsimp only [Pt.U, Pt.locs, Pt.cells, Pt.slots] at X' l1 l2 l3 st hQ
  subst l1 l2 l3
  exact otr st (k T' Lc v X' hQ)
theorem o_cv (X : Stand p l e R s m args below meth c T locs cells slots) (hx : p.tables.exec = Jvm.exec) (hZ : Z.Warmed39 s.vm) {own C : String} {index : Nat} (hown : s.vm.findClass own = some m.cls) {y : MethodName} {bytes : ByteArray} {maxL : Nat} {ret : Option FieldType} {rm : Room} {as' : Array Value} {q : Option Value → Heap → List Loc → Prop} (M : oMet l Z y bytes maxL ret [] rm rm.cells rm.slots as' h q) (wl : (Jvm.Cond.methodLink own index y).before a0 Z = true) (wd : (Jvm.Cond.declares y).before a0 Z = true) (wsel : (Jvm.Cond.selects C y y).before a0 Z = true) (wn : (Jvm.Cond.instanceMethod y).before a0 Z = true) (wi : (Jvm.Cond.initialized y.cls).before a0 Z = true) (wc : (Jvm.Cond.code y bytes maxL ret).before a0 Z = true) (hy : y.cls ≠ "java/lang/invoke/MethodHandle" ∧ y.cls ≠ "java/lang/invoke/VarHandle") (eT : T.heap = h) {a : Addr} (E : Exa Z h a C) {pc kk : Nat} {L : Array Slot} (hml : c.maxLocals = kk) (hL0 : L.size = kk) (argsL S : List Value) {sig : MethodDescriptor} (pd : parseMethodDescriptor y.desc = some sig) (hn : argsL.length = sig.parameters.length) (ha : (.ref a :: argsL).toArray = as') (W : Nat) (hW : (S.map fun v => v.category).sum = W) (hN : rm.frames + 1 ≤ R.frames ∧ W + (maxL + 11) + rm.locals ≤ R.locals ∧ cells + rm.cells ≤ R.cells ∧ slots + rm.slots ≤ R.slots) (hd : decode c.code pc = .ok (.invokevirtual index, 3)) (k : ∀ T' Lc v, Stand p l e R s m args below meth c T' (locs ++ Lc) (cells + rm.cells) (slots + rm.slots) → q v T'.heap Lc → Own p e below Q (T'.setTop (mkF m (pc + 3) L (v.toList ++ S)))) : Own p e below Q (T.setTop (mkF m pc L (argsL.reverse ++ .ref a :: S))) := by
  obtain ⟨cq, kq, qa, qb, qc⟩ := isOf hZ eT E
  obtain ⟨v, vm₁, ⟨T', L', k', n'⟩, -, X', ⟨Lc, hQ, l1, l2, l3⟩, st⟩ := X.virtualBack hx (y := y) (z := y) hown (mvT hZ wl) (mvT hZ wd) (notFace_of_selects (args := #[]) (mvT hZ wsel)) (mvT hZ wsel) (mvT hZ wn) hy (backOf (W := W) M hZ wc wi hN.1 hN.2.1) qa qc (g := mkF m pc L (argsL.reverse ++ .ref a :: S)) rfl (hL0.trans hml.symm) (Steps.refl _) (argsL := argsL) (rest := S) (fun sg hsg => by cases pd.symm.trans hsg; exact hn) rfl (by show 2 * 0 + _ ≤ _; rw [Nat.mul_zero, Nat.zero_add]; exact Nat.le_of_eq hW) hd (fun _ _ => ⟨ha, eT, hN.2.2.1, hN.2.2.2⟩)
  dsimp only [Pt.U, Pt.locs, Pt.cells, Pt.slots] at X' l1 l2 l3 st hQ
  subst l1 l2 l3
  exact otr st (k T' Lc v X' hQ)
theorem o_cP (X : Stand p l e R s m args below meth c T locs cells slots) (hx : p.tables.exec = Jvm.exec) (hZ : Z.Warmed39 s.vm) {own C : String} {index : Nat} (hown : s.vm.findClass own = some m.cls) {y : MethodName} {bytes : ByteArray} {maxL : Nat} {ret : Option FieldType} {rm : Room} {as' : Array Value} {q : Option Value → Heap → List Loc → Prop} (M : oMet l Z y bytes maxL ret [] rm rm.cells rm.slots as' h q) (wl : (Jvm.Cond.methodLink own index y).before a0 Z = true) (wn : (Jvm.Cond.instanceMethod y).before a0 Z = true) (wsel : (Jvm.Cond.selects y.cls y y).before a0 Z = true) (wp : (Jvm.Cond.privateMethod y).before a0 Z = true) (wi : (Jvm.Cond.initialized y.cls).before a0 Z = true) (wc : (Jvm.Cond.code y bytes maxL ret).before a0 Z = true) (hy : y.cls ≠ "java/lang/invoke/MethodHandle" ∧ y.cls ≠ "java/lang/invoke/VarHandle") (eT : T.heap = h) {a : Addr} (E : Exa Z h a C) {pc kk : Nat} {L : Array Slot} (hml : c.maxLocals = kk) (hL0 : L.size = kk) (argsL S : List Value) {sig : MethodDescriptor} (pd : parseMethodDescriptor y.desc = some sig) (hn : argsL.length = sig.parameters.length) (ha : (.ref a :: argsL).toArray = as') (W : Nat) (hW : (S.map fun v => v.category).sum = W) (hN : rm.frames + 1 ≤ R.frames ∧ W + (maxL + 11) + rm.locals ≤ R.locals ∧ cells + rm.cells ≤ R.cells ∧ slots + rm.slots ≤ R.slots) (hd : decode c.code pc = .ok (.invokevirtual index, 3)) (k : ∀ T' Lc v, Stand p l e R s m args below meth c T' (locs ++ Lc) (cells + rm.cells) (slots + rm.slots) → q v T'.heap Lc → Own p e below Q (T'.setTop (mkF m (pc + 3) L (v.toList ++ S)))) : Own p e below Q (T.setTop (mkF m pc L (argsL.reverse ++ .ref a :: S))) := by
  obtain ⟨cq, q1, q2⟩ := E.cell
  obtain ⟨v, vm₁, ⟨T', L', k', n'⟩, -, X', ⟨Lc, hQ, l1, l2, l3⟩, st⟩ := X.privateBack hx (y := y) hown (mvT hZ wl) (mvT hZ wn) (mvT hZ wsel) (Cond.privateMethod_at (mvP hZ wp (args := #[]))) (mvT hZ wc) hy (backOf (W := W) M hZ wc wi hN.1 hN.2.1) (g := mkF m pc L (argsL.reverse ++ .ref a :: S)) rfl (hL0.trans hml.symm) (Steps.refl _) (a := a) (by rw [eT]; exact q1) q2 (argsL := argsL) (rest := S) (fun sg hsg => by cases pd.symm.trans hsg; exact hn) rfl (by show 2 * 0 + _ ≤ _; rw [Nat.mul_zero, Nat.zero_add]; exact Nat.le_of_eq hW) hd (fun _ _ => ⟨ha, eT, hN.2.2.1, hN.2.2.2⟩)
  dsimp only [Pt.U, Pt.locs, Pt.cells, Pt.slots] at X' l1 l2 l3 st hQ
  subst l1 l2 l3
  exact otr st (k T' Lc v X' hQ)
theorem o_cF (X : Stand p l e R s m args below meth c T locs cells slots) (hx : p.tables.exec = Jvm.exec) (hZ : Z.Warmed39 s.vm) {own C : String} {index count : Nat} {x : MethodName} (hown : s.vm.findClass own = some m.cls) {y : MethodName} {bytes : ByteArray} {maxL : Nat} {ret : Option FieldType} {rm : Room} {as' : Array Value} {q : Option Value → Heap → List Loc → Prop} (M : oMet l Z y bytes maxL ret [] rm rm.cells rm.slots as' h q) (wl : (Jvm.Cond.methodLink own index x).before a0 Z = true) (wd : (Jvm.Cond.declares x).before a0 Z = true) (wf : (Jvm.Cond.interfaceMethod x.cls x.cls x.name x.desc).before args s = true) (wsel : (Jvm.Cond.selects C x y).before a0 Z = true) (wn : (Jvm.Cond.instanceMethod y).before a0 Z = true) (wp : (Jvm.Cond.publicMethod y).before a0 Z = true) (wu : (Jvm.Cond.unhidden C x.name x.desc).before a0 Z = true) (wk : (Jvm.Cond.castable C x.cls).before a0 Z = true) (wi : (Jvm.Cond.initialized y.cls).before a0 Z = true) (wc : (Jvm.Cond.code y bytes maxL ret).before a0 Z = true) (hy : x.cls ≠ "java/lang/invoke/MethodHandle" ∧ x.cls ≠ "java/lang/invoke/VarHandle") (eT : T.heap = h) {a : Addr} (E : Exa Z h a C) {pc kk : Nat} {L : Array Slot} (hml : c.maxLocals = kk) (hL0 : L.size = kk) (argsL S : List Value) {sig : MethodDescriptor} (pd : parseMethodDescriptor x.desc = some sig) (hn : argsL.length = sig.parameters.length) (ha : (.ref a :: argsL).toArray = as') (W : Nat) (hW : (S.map fun v => v.category).sum = W) (hN : rm.frames + 1 ≤ R.frames ∧ W + (maxL + 11) + rm.locals ≤ R.locals ∧ cells + rm.cells ≤ R.cells ∧ slots + rm.slots ≤ R.slots) (hd : decode c.code pc = .ok (.invokeinterface index count, 5)) (k : ∀ T' Lc v, Stand p l e R s m args below meth c T' (locs ++ Lc) (cells + rm.cells) (slots + rm.slots) → q v T'.heap Lc → Own p e below Q (T'.setTop (mkF m (pc + 5) L (v.toList ++ S)))) : Own p e below Q (T.setTop (mkF m pc L (argsL.reverse ++ .ref a :: S))) := by
  obtain ⟨cq, kq, qa, qb, qc⟩ := isOf hZ eT E
  obtain ⟨v, vm₁, ⟨T', L', k', n'⟩, -, X', ⟨Lc, hQ, l1, l2, l3⟩, st⟩ := X.interfaceBack hx (xi := x) (y := y) hown (mvT hZ wl) (mvT hZ wd) wf (mvT hZ wsel) (mvT hZ wn) (mvT hZ wp) (mvT hZ wu) (mvT hZ wk) hy (backOf (W := W) M hZ wc wi hN.1 hN.2.1) qa qb qc (g := mkF m pc L (argsL.reverse ++ .ref a :: S)) rfl (hL0.trans hml.symm) (Steps.refl _) (argsL := argsL) (rest := S) (fun sg hsg => by cases pd.symm.trans hsg; exact hn) rfl (by show 2 * 0 + _ ≤ _; rw [Nat.mul_zero, Nat.zero_add]; exact Nat.le_of_eq hW) hd (fun _ _ => ⟨ha, eT, hN.2.2.1, hN.2.2.2⟩)
  dsimp only [Pt.U, Pt.locs, Pt.cells, Pt.slots] at X' l1 l2 l3 st hQ
  subst l1 l2 l3
  exact otr st (k T' Lc v X' hQ)
theorem o_cU (X : Stand p l e R s m args below meth c T locs cells slots) (hx : p.tables.exec = Jvm.exec) (hZ : Z.Warmed39 s.vm) {own C : String} {index : Nat} (hown : s.vm.findClass own = some m.cls) {y : MethodName} {bytes : ByteArray} {maxL : Nat} {ret : Option FieldType} {rm : Room} {as' : Array Value} {q : Option Value → Heap → List Loc → Prop} (M : oMet l Z y bytes maxL ret [] rm rm.cells rm.slots as' h q) (wl : (Jvm.Cond.methodLink own index y).before a0 Z = true) (wm : (Jvm.Cond.sameMethod y.cls y.cls y.name y.desc).before a0 Z = true) (wn : (Jvm.Cond.instanceMethod y).before a0 Z = true) (wu : (Jvm.Cond.superclass own y.cls).before a0 Z = true) (wi : (Jvm.Cond.initialized y.cls).before a0 Z = true) (wc : (Jvm.Cond.code y bytes maxL ret).before a0 Z = true) (hy : y.name ≠ "<init>") (eT : T.heap = h) {a : Addr} (E : Exa Z h a C) {pc kk : Nat} {L : Array Slot} (hml : c.maxLocals = kk) (hL0 : L.size = kk) (argsL S : List Value) {sig : MethodDescriptor} (pd : parseMethodDescriptor y.desc = some sig) (hn : argsL.length = sig.parameters.length) (ha : (.ref a :: argsL).toArray = as') (W : Nat) (hW : (S.map fun v => v.category).sum = W) (hN : rm.frames + 1 ≤ R.frames ∧ W + (maxL + 11) + rm.locals ≤ R.locals ∧ cells + rm.cells ≤ R.cells ∧ slots + rm.slots ≤ R.slots) (hd : decode c.code pc = .ok (.invokespecial index, 3)) (k : ∀ T' Lc v, Stand p l e R s m args below meth c T' (locs ++ Lc) (cells + rm.cells) (slots + rm.slots) → q v T'.heap Lc → Own p e below Q (T'.setTop (mkF m (pc + 3) L (v.toList ++ S)))) : Own p e below Q (T.setTop (mkF m pc L (argsL.reverse ++ .ref a :: S))) := by
  obtain ⟨v, vm₁, ⟨T', L', k', n'⟩, -, X', ⟨Lc, hQ, l1, l2, l3⟩, st⟩ := superBack X hx hZ (y := y) hown wl wm wn wu hy (backOf (W := W) M hZ wc wi hN.1 hN.2.1) eT (Ins.self E) (g := mkF m pc L (argsL.reverse ++ .ref a :: S)) rfl (hL0.trans hml.symm) wc (argsL := argsL) (rest := S) (fun sg hsg => by cases pd.symm.trans hsg; exact hn) rfl (by show 2 * 0 + _ ≤ _; rw [Nat.mul_zero, Nat.zero_add]; exact Nat.le_of_eq hW) hd (fun _ _ => ⟨ha, eT, hN.2.2.1, hN.2.2.2⟩)
  dsimp only [Pt.U, Pt.locs, Pt.cells, Pt.slots] at X' l1 l2 l3 st hQ
  subst l1 l2 l3
  exact otr st (k T' Lc v X' hQ)
theorem o_cSS (X : Stand p l e R (s.setVm vm0) m args below meth c T locs cells slots) (hx : p.tables.exec = Jvm.exec) (hZ : Z.Warmed39 vm0) {own : String} {index : Nat} (hown : vm0.findClass own = some m.cls) {y : MethodName} {bytes : ByteArray} {maxL : Nat} {ret : Option FieldType} {rm : Room} {as' : Array Value} {q : Option Value → Heap → List Loc → Prop} (M : oMetS l Z y bytes maxL ret [] rm rm.cells rm.slots as' h q) (wl : (Jvm.Cond.methodLink own index y).before a0 Z = true) (ws : (Jvm.Cond.static y).before a0 Z = true) (wi : (Jvm.Cond.initialized y.cls).before a0 Z = true) (wc : (Jvm.Cond.code y bytes maxL ret).before a0 Z = true) (hy : y.cls ≠ "java/lang/invoke/MethodHandle" ∧ y.cls ≠ "java/lang/invoke/VarHandle") (eT : T.heap = h) {k0 : Nat} (hS : s.Since vm0 k0) (hk : k0 ≤ h.size) (hEL : EW Z a0 own_EL) (H : CHv Z own_EL vm0 h) {pc kk : Nat} {L : Array Slot} (hml : c.maxLocals = kk) (hL0 : L.size = kk) (argsL S : List Value) {sig : MethodDescriptor} (pd : parseMethodDescriptor y.desc = some sig) (hn : argsL.length = sig.parameters.length) (ha : argsL.toArray = as') (W : Nat) (hW : (S.map fun v => v.category).sum = W) (hN : rm.frames + 1 ≤ R.frames ∧ W + (maxL + 11) + rm.locals ≤ R.locals ∧ cells + rm.cells ≤ R.cells ∧ slots + rm.slots ≤ R.slots) (hd : decode c.code pc = .ok (.invokestatic index, 3)) (k : ∀ T' Lc v, Stand p l e R (s.setVm T'.vm) m args below meth c T' (locs ++ Lc) (cells + rm.cells) (slots + rm.slots) → s.Since T'.vm T'.heap.size → Z.Warmed39 T'.vm → T'.vm.findClass own = some m.cls → CHr Z own_EL vm0 h T'.vm T'.heap → q v T'.heap Lc → Own p e below Q (T'.setTop (mkF m (pc + 3) L (v.toList ++ S)))) : Own p e below Q (T.setTop (mkF m pc L (argsL.reverse ++ S))) := by
  have hZs : Z.Warmed39 (s.setVm vm0).vm := hZ
  obtain ⟨v, vm₁, ⟨T', L', k', n'⟩, -, X', hSi, hgr, ⟨Lc, hQ, l1, l2, l3, C⟩, st⟩ := callSS X hx hown (mvT hZs wl) (mvT hZs ws) (mvT hZs wi) (mvT hZs wc) hy (backOfSH (W := W) M hZ wc wi hN.1 hN.2.1 hEL H) (g := mkF m pc L (argsL.reverse ++ S)) rfl (hL0.trans hml.symm) (argsL := argsL) (rest := S) (fun sg hsg => by cases pd.symm.trans hsg; exact hn) rfl (by show 2 * 0 + _ ≤ _; rw [Nat.mul_zero, Nat.zero_add]; exact Nat.le_of_eq hW) hd (fun _ _ => ⟨ha, eT, hN.2.2.1, hN.2.2.2⟩)
  dsimp only [Pt.U, Pt.locs, Pt.cells, Pt.slots] at X' l1 l2 l3 st hQ hSi hgr C
  subst l1 l2 l3
  subst eT
  have hS' := foldS hS hk hSi hgr
  have hZ' : Z.Warmed39 T'.vm := State.Warmed39.trans (t := s.setVm vm0) hZ hSi.1
  have hown' : T'.vm.findClass own = some m.cls := by rw [hSi.1.alike.findClass]; exact hown
  exact otr st (k T' Lc v X' hS' hZ' hown' C hQ)
theorem o_cIS (X : Stand p l e R (s.setVm vm0) m args below meth c T locs cells slots) (hx : p.tables.exec = Jvm.exec) (hZ : Z.Warmed39 vm0) {own : String} {index : Nat} (hown : vm0.findClass own = some m.cls) {y : MethodName} {bytes : ByteArray} {maxL : Nat} {rm : Room} {as' : Array Value} {q : Option Value → Heap → List Loc → Prop} (M : oMetS l Z y bytes maxL none [] rm rm.cells rm.slots as' h q) (hi : y.name = "<init>") (wl : (Jvm.Cond.methodLink own index y).before a0 Z = true) (wn : (Jvm.Cond.instanceMethod y).before a0 Z = true) (wi : (Jvm.Cond.initialized y.cls).before a0 Z = true) (wc : (Jvm.Cond.code y bytes maxL none).before a0 Z = true) (hy : y.cls ≠ "java/lang/invoke/MethodHandle" ∧ y.cls ≠ "java/lang/invoke/VarHandle") (eT : T.heap = h) {a : Addr} {k0 : Nat} (hS : s.Since vm0 k0) (hk : k0 ≤ h.size) (hEL : EW Z a0 own_EL) (H : CHv Z own_EL vm0 h) {pc kk : Nat} {L : Array Slot} (hml : c.maxLocals = kk) (hL0 : L.size = kk) (argsL S : List Value) {sig : MethodDescriptor} (pd : parseMethodDescriptor y.desc = some sig) (hn : argsL.length = sig.parameters.length) (ha : (.ref a :: argsL).toArray = as') (W : Nat) (hW : (S.map fun v => v.category).sum = W) (hN : rm.frames + 1 ≤ R.frames ∧ W + (maxL + 11) + rm.locals ≤ R.locals ∧ cells + rm.cells ≤ R.cells ∧ slots + rm.slots ≤ R.slots) (hd : decode c.code pc = .ok (.invokespecial index, 3)) (k : ∀ T' Lc v, Stand p l e R (s.setVm T'.vm) m args below meth c T' (locs ++ Lc) (cells + rm.cells) (slots + rm.slots) → s.Since T'.vm T'.heap.size → Z.Warmed39 T'.vm → T'.vm.findClass own = some m.cls → CHr Z own_EL vm0 h T'.vm T'.heap → q v T'.heap Lc → Own p e below Q (T'.setTop (mkF m (pc + 3) L (v.toList ++ S)))) : Own p e below Q (T.setTop (mkF m pc L (argsL.reverse ++ .ref a :: S))) := by
  have hZs : Z.Warmed39 (s.setVm vm0).vm := hZ
  obtain ⟨v, vm₁, ⟨T', L', k', n'⟩, -, X', hSi, hgr, ⟨Lc, hQ, l1, l2, l3, C⟩, st⟩ := X.specialBackS hx hi hown (mvT hZs wl) (mvT hZs wn) (mvT hZs wc) hy (backOfSH (W := W) M hZ wc wi hN.1 hN.2.1 hEL H) (g := mkF m pc L (argsL.reverse ++ .ref a :: S)) rfl (hL0.trans hml.symm) (Steps.refl _) (argsL := argsL) (rest := S) (fun sg hsg => by cases pd.symm.trans hsg; exact hn) rfl (by show 2 * 0 + _ ≤ _; rw [Nat.mul_zero, Nat.zero_add]; exact Nat.le_of_eq hW) hd (fun _ _ => ⟨ha, eT, hN.2.2.1, hN.2.2.2⟩)
  dsimp only [Pt.U, Pt.locs, Pt.cells, Pt.slots] at X' l1 l2 l3 st hQ hSi hgr C
  subst l1 l2 l3
  subst eT
  have hS' := foldS hS hk hSi hgr
  have hZ' : Z.Warmed39 T'.vm := State.Warmed39.trans (t := s.setVm vm0) hZ hSi.1
  have hown' : T'.vm.findClass own = some m.cls := by rw [hSi.1.alike.findClass]; exact hown
  exact otr st (k T' Lc v X' hS' hZ' hown' C hQ)
theorem o_cVS (X : Stand p l e R (s.setVm vm0) m args below meth c T locs cells slots) (hx : p.tables.exec = Jvm.exec) (hZ : Z.Warmed39 vm0) {own C : String} {index : Nat} {x : MethodName} (hown : vm0.findClass own = some m.cls) {y : MethodName} {bytes : ByteArray} {maxL : Nat} {ret : Option FieldType} {rm : Room} {as' : Array Value} {q : Option Value → Heap → List Loc → Prop} (M : oMetS l Z y bytes maxL ret [] rm rm.cells rm.slots as' h q) (wl : (Jvm.Cond.methodLink own index x).before a0 Z = true) (wd : (Jvm.Cond.declares x).before args (s.setVm vm0) = true) (nf : NotFace (s.setVm vm0) x) (wsel : (Jvm.Cond.selects C x y).before a0 Z = true) (wn : (Jvm.Cond.instanceMethod y).before a0 Z = true) (wi : (Jvm.Cond.initialized y.cls).before a0 Z = true) (wc : (Jvm.Cond.code y bytes maxL ret).before a0 Z = true) (hy : x.cls ≠ "java/lang/invoke/MethodHandle" ∧ x.cls ≠ "java/lang/invoke/VarHandle") (eT : T.heap = h) {a : Addr} (E : Exa Z h a C) {k0 : Nat} (hS : s.Since vm0 k0) (hk : k0 ≤ h.size) (hEL : EW Z a0 own_EL) (H : CHv Z own_EL vm0 h) {pc kk : Nat} {L : Array Slot} (hml : c.maxLocals = kk) (hL0 : L.size = kk) (argsL S : List Value) {sig : MethodDescriptor} (pd : parseMethodDescriptor x.desc = some sig) (hn : argsL.length = sig.parameters.length) (ha : (.ref a :: argsL).toArray = as') (W : Nat) (hW : (S.map fun v => v.category).sum = W) (hN : rm.frames + 1 ≤ R.frames ∧ W + (maxL + 11) + rm.locals ≤ R.locals ∧ cells + rm.cells ≤ R.cells ∧ slots + rm.slots ≤ R.slots) (hd : decode c.code pc = .ok (.invokevirtual index, 3)) (k : ∀ T' Lc v, Stand p l e R (s.setVm T'.vm) m args below meth c T' (locs ++ Lc) (cells + rm.cells) (slots + rm.slots) → s.Since T'.vm T'.heap.size → Z.Warmed39 T'.vm → T'.vm.findClass own = some m.cls → CHr Z own_EL vm0 h T'.vm T'.heap → q v T'.heap Lc → Own p e below Q (T'.setTop (mkF m (pc + 3) L (v.toList ++ S)))) : Own p e below Q (T.setTop (mkF m pc L (argsL.reverse ++ .ref a :: S))) := by
  have hZs : Z.Warmed39 (s.setVm vm0).vm := hZ
  obtain ⟨cq, kq, qa, qb, qc⟩ := isOf hZs eT E
  obtain ⟨v, vm₁, ⟨T', L', k', n'⟩, -, X', hSi, hgr, ⟨Lc, hQ, l1, l2, l3, C⟩, st⟩ := X.virtualBackS hx (y := x) (z := y) hown (mvT hZs wl) wd nf (mvT hZs wsel) (mvT hZs wn) hy (backOfSH (W := W) M hZ wc wi hN.1 hN.2.1 hEL H) qa qc (g := mkF m pc L (argsL.reverse ++ .ref a :: S)) rfl (hL0.trans hml.symm) (Steps.refl _) (argsL := argsL) (rest := S) (fun sg hsg => by cases pd.symm.trans hsg; exact hn) rfl (by show 2 * 0 + _ ≤ _; rw [Nat.mul_zero, Nat.zero_add]; exact Nat.le_of_eq hW) hd (fun _ _ => ⟨ha, eT, hN.2.2.1, hN.2.2.2⟩)
  dsimp only [Pt.U, Pt.locs, Pt.cells, Pt.slots] at X' l1 l2 l3 st hQ hSi hgr C
  subst l1 l2 l3
  subst eT
  have hS' := foldS hS hk hSi hgr
  have hZ' : Z.Warmed39 T'.vm := State.Warmed39.trans (t := s.setVm vm0) hZ hSi.1
  have hown' : T'.vm.findClass own = some m.cls := by rw [hSi.1.alike.findClass]; exact hown
  exact otr st (k T' Lc v X' hS' hZ' hown' C hQ)
theorem oendV (X : Stand p l e R s m args below meth c T locs cells slots) (hx : p.tables.exec = Jvm.exec) (hlk : meth.locks = false) (hret : meth.sig.returnType = none) {pc : Nat} {L : Array Slot} (hd : decode c.code pc = .ok (.return_, 1)) {q : Option Value → Heap → List Loc → Prop} {cc ss : Nat} (hn : cells ≤ cc ∧ slots ≤ ss) (eT : T.heap = h) (hq : q none h locs) : Own p e below (oPost q s cc ss) (T.setTop (mkF m pc L [])) := by
  subst eT
  exact oend X hlk (v := none) (fun _ => rfl) (fun fs hr => X.returnOut hx hret hd hr) hn.1 hn.2 hq
theorem oendSV {k0 : Nat} {h0 : Heap} (X : Stand p l e R (s.setVm vm0) m args below meth c T locs cells slots) (hx : p.tables.exec = Jvm.exec) (hlk : meth.locks = false) (hret : meth.sig.returnType = none) {pc : Nat} {L : Array Slot} (hd : decode c.code pc = .ok (.return_, 1)) {q : Option Value → Heap → List Loc → Prop} {cc ss : Nat} (hn : cells ≤ cc ∧ slots ≤ ss) (eT : T.heap = h) (hS : s.Since vm0 k0) (hk : k0 ≤ h.size) (hZ : Z.Warmed39 vm0) (hEL : EW Z a0 own_EL) (hs0 : s.heap = h0) (C : CHr Z own_EL s.vm h0 vm0 h) (hq : q none h locs) : Own p e below (oPostS Z q s cc ss) (T.setTop (mkF m pc L [])) := by
  subst eT
  exact oendS X hlk hS hk rfl hZ hEL hs0 C (v := none) (fun _ => rfl) (fun fs hr => X.returnOut hx hret hd hr) hn.1 hn.2 hq
theorem oendI (X : Stand p l e R s m args below meth c T locs cells slots) (hx : p.tables.exec = Jvm.exec) (hlk : meth.locks = false) {x : Int32} (hret : meth.sig.returnType = some .int) {pc : Nat} {L : Array Slot} {S : List Value} (hd : decode c.code pc = .ok (.ireturn, 1)) {q : Option Value → Heap → List Loc → Prop} {cc ss : Nat} (hn : cells ≤ cc ∧ slots ≤ ss) (eT : T.heap = h) (hq : q (some (.int x)) h locs) : Own p e below (oPost q s cc ss) (T.setTop (mkF m pc L (.int x :: S))) := by
  subst eT
  exact oend X hlk (v := (some (.int x))) (fun h => by rw [hret] at h; cases h) (fun fs hr => retOut X hx (t := .int) (i := .ireturn) hret rfl (Or.inl ⟨rfl, Or.inl rfl, _, rfl⟩) hd hr) hn.1 hn.2 hq
theorem oendSI {k0 : Nat} {h0 : Heap} (X : Stand p l e R (s.setVm vm0) m args below meth c T locs cells slots) (hx : p.tables.exec = Jvm.exec) (hlk : meth.locks = false) {x : Int32} (hret : meth.sig.returnType = some .int) {pc : Nat} {L : Array Slot} {S : List Value} (hd : decode c.code pc = .ok (.ireturn, 1)) {q : Option Value → Heap → List Loc → Prop} {cc ss : Nat} (hn : cells ≤ cc ∧ slots ≤ ss) (eT : T.heap = h) (hS : s.Since vm0 k0) (hk : k0 ≤ h.size) (hZ : Z.Warmed39 vm0) (hEL : EW Z a0 own_EL) (hs0 : s.heap = h0) (C : CHr Z own_EL s.vm h0 vm0 h) (hq : q (some (.int x)) h locs) : Own p e below (oPostS Z q s cc ss) (T.setTop (mkF m pc L (.int x :: S))) := by
  subst eT
  exact oendS X hlk hS hk rfl hZ hEL hs0 C (v := (some (.int x))) (fun h => by rw [hret] at h; cases h) (fun fs hr => retOut X hx (t := .int) (i := .ireturn) hret rfl (Or.inl ⟨rfl, Or.inl rfl, _, rfl⟩) hd hr) hn.1 hn.2 hq
theorem oendJ (X : Stand p l e R s m args below meth c T locs cells slots) (hx : p.tables.exec = Jvm.exec) (hlk : meth.locks = false) {x : Int64} (hret : meth.sig.returnType = some .long) {pc : Nat} {L : Array Slot} {S : List Value} (hd : decode c.code pc = .ok (.lreturn, 1)) {q : Option Value → Heap → List Loc → Prop} {cc ss : Nat} (hn : cells ≤ cc ∧ slots ≤ ss) (eT : T.heap = h) (hq : q (some (.long x)) h locs) : Own p e below (oPost q s cc ss) (T.setTop (mkF m pc L (.long x :: S))) := by
  subst eT
  exact oend X hlk (v := (some (.long x))) (fun h => by rw [hret] at h; cases h) (fun fs hr => retOut X hx (t := .long) (i := .lreturn) hret rfl (Or.inr (Or.inl ⟨rfl, rfl, _, rfl⟩)) hd hr) hn.1 hn.2 hq
theorem oendSJ {k0 : Nat} {h0 : Heap} (X : Stand p l e R (s.setVm vm0) m args below meth c T locs cells slots) (hx : p.tables.exec = Jvm.exec) (hlk : meth.locks = false) {x : Int64} (hret : meth.sig.returnType = some .long) {pc : Nat} {L : Array Slot} {S : List Value} (hd : decode c.code pc = .ok (.lreturn, 1)) {q : Option Value → Heap → List Loc → Prop} {cc ss : Nat} (hn : cells ≤ cc ∧ slots ≤ ss) (eT : T.heap = h) (hS : s.Since vm0 k0) (hk : k0 ≤ h.size) (hZ : Z.Warmed39 vm0) (hEL : EW Z a0 own_EL) (hs0 : s.heap = h0) (C : CHr Z own_EL s.vm h0 vm0 h) (hq : q (some (.long x)) h locs) : Own p e below (oPostS Z q s cc ss) (T.setTop (mkF m pc L (.long x :: S))) := by
  subst eT
  exact oendS X hlk hS hk rfl hZ hEL hs0 C (v := (some (.long x))) (fun h => by rw [hret] at h; cases h) (fun fs hr => retOut X hx (t := .long) (i := .lreturn) hret rfl (Or.inr (Or.inl ⟨rfl, rfl, _, rfl⟩)) hd hr) hn.1 hn.2 hq
theorem oendR (X : Stand p l e R s m args below meth c T locs cells slots) (hx : p.tables.exec = Jvm.exec) (hlk : meth.locks = false) {x : Value} {t : FieldType} (hret : meth.sig.returnType = some t) (ht : t.isReference = true) (hr0 : x.isRef = true) (hnr : narrow t x = x) {pc : Nat} {L : Array Slot} {S : List Value} (hd : decode c.code pc = .ok (.areturn, 1)) {q : Option Value → Heap → List Loc → Prop} {cc ss : Nat} (hn : cells ≤ cc ∧ slots ≤ ss) (eT : T.heap = h) (hq : q (some x) h locs) : Own p e below (oPost q s cc ss) (T.setTop (mkF m pc L (x :: S))) := by
  subst eT
  exact oend X hlk (v := (some x)) (fun h => by rw [hret] at h; cases h) (fun fs hr => retOut X hx (t := t) (i := .areturn) hret hnr (Or.inr (Or.inr (Or.inr (Or.inr ⟨rfl, ht, hr0⟩)))) hd hr) hn.1 hn.2 hq
theorem oendSR {k0 : Nat} {h0 : Heap} (X : Stand p l e R (s.setVm vm0) m args below meth c T locs cells slots) (hx : p.tables.exec = Jvm.exec) (hlk : meth.locks = false) {x : Value} {t : FieldType} (hret : meth.sig.returnType = some t) (ht : t.isReference = true) (hr0 : x.isRef = true) (hnr : narrow t x = x) {pc : Nat} {L : Array Slot} {S : List Value} (hd : decode c.code pc = .ok (.areturn, 1)) {q : Option Value → Heap → List Loc → Prop} {cc ss : Nat} (hn : cells ≤ cc ∧ slots ≤ ss) (eT : T.heap = h) (hS : s.Since vm0 k0) (hk : k0 ≤ h.size) (hZ : Z.Warmed39 vm0) (hEL : EW Z a0 own_EL) (hs0 : s.heap = h0) (C : CHr Z own_EL s.vm h0 vm0 h) (hq : q (some x) h locs) : Own p e below (oPostS Z q s cc ss) (T.setTop (mkF m pc L (x :: S))) := by
  subst eT
  exact oendS X hlk hS hk rfl hZ hEL hs0 C (v := (some x)) (fun h => by rw [hret] at h; cases h) (fun fs hr => retOut X hx (t := t) (i := .areturn) hret hnr (Or.inr (Or.inr (Or.inr (Or.inr ⟨rfl, ht, hr0⟩)))) hd hr) hn.1 hn.2 hq
theorem oendN (X : Stand p l e R s m args below meth c T locs cells slots) (hx : p.tables.exec = Jvm.exec) (hlk : meth.locks = false) {x y : Int32} {t : FieldType} (hret : meth.sig.returnType = some t) (ht : t = .boolean ∨ t = .byte ∨ t = .char ∨ t = .short) (hxy : nar t x = y) {pc : Nat} {L : Array Slot} {S : List Value} (hd : decode c.code pc = .ok (.ireturn, 1)) {q : Option Value → Heap → List Loc → Prop} {cc ss : Nat} (hn : cells ≤ cc ∧ slots ≤ ss) (eT : T.heap = h) (hq : q (some (.int y)) h locs) : Own p e below (oPost q s cc ss) (T.setTop (mkF m pc L (.int x :: S))) := by
  subst eT
  exact oend X hlk (v := (some (.int y))) (fun h => by rw [hret] at h; cases h) (fun fs hr => retN X hx (t := t) hret ht hd (by rw [hxy]; exact hr)) hn.1 hn.2 hq
theorem oendSN {k0 : Nat} {h0 : Heap} (X : Stand p l e R (s.setVm vm0) m args below meth c T locs cells slots) (hx : p.tables.exec = Jvm.exec) (hlk : meth.locks = false) {x y : Int32} {t : FieldType} (hret : meth.sig.returnType = some t) (ht : t = .boolean ∨ t = .byte ∨ t = .char ∨ t = .short) (hxy : nar t x = y) {pc : Nat} {L : Array Slot} {S : List Value} (hd : decode c.code pc = .ok (.ireturn, 1)) {q : Option Value → Heap → List Loc → Prop} {cc ss : Nat} (hn : cells ≤ cc ∧ slots ≤ ss) (eT : T.heap = h) (hS : s.Since vm0 k0) (hk : k0 ≤ h.size) (hZ : Z.Warmed39 vm0) (hEL : EW Z a0 own_EL) (hs0 : s.heap = h0) (C : CHr Z own_EL s.vm h0 vm0 h) (hq : q (some (.int y)) h locs) : Own p e below (oPostS Z q s cc ss) (T.setTop (mkF m pc L (.int x :: S))) := by
  subst eT
  exact oendS X hlk hS hk rfl hZ hEL hs0 C (v := (some (.int y))) (fun h => by rw [hret] at h; cases h) (fun fs hr => retN X hx (t := t) hret ht hd (by rw [hxy]; exact hr)) hn.1 hn.2 hq
end Short
def own_ch (bs : List Int32) (i : Nat) : Int32 := nar .char ((bs.getD i 0) &&& (255 : Int32))
theorem own_chn (bs : List Int32) (i : Nat) : nar .char (own_ch bs i) = own_ch bs i := own_narc _
def own_HID : List Int32 := [40, 110, 111, 116, 32, 115, 104, 111, 119, 110, 41]
theorem own_HIDln : own_HID.length = 11 ∧ 11 ≤ 99 := ⟨rfl, by decide⟩
def own_hid (bs : List Int32) (n k : Nat) : Int32 := if n < k + 11 then (0 : Int32) else if own_ch bs k = own_ch own_HID 0 then (if own_ch bs (k + 1) = own_ch own_HID 1 then (if own_ch bs (k + 2) = own_ch own_HID 2 then (if own_ch bs (k + 3) = own_ch own_HID 3 then (if own_ch bs (k + 4) = own_ch own_HID 4 then (if own_ch bs (k + 5) = own_ch own_HID 5 then (if own_ch bs (k + 6) = own_ch own_HID 6 then (if own_ch bs (k + 7) = own_ch own_HID 7 then (if own_ch bs (k + 8) = own_ch own_HID 8 then (if own_ch bs (k + 9) = own_ch own_HID 9 then (if own_ch bs (k + 10) = own_ch own_HID 10 then (1 : Int32) else (0 : Int32)) else (0 : Int32)) else (0 : Int32)) else (0 : Int32)) else (0 : Int32)) else (0 : Int32)) else (0 : Int32)) else (0 : Int32)) else (0 : Int32)) else (0 : Int32)) else (0 : Int32)
def own_step (bs : List Int32) (n k : Nat) (c cov prev : Int32) : Int32 := if cov = (0 : Int32) then (if k < n then (if own_ch bs k = c then Int32.ofNat (k + 1) else (-1 : Int32)) else (-1 : Int32)) else if prev = (0 : Int32) then (if own_hid bs n k = (0 : Int32) then (-1 : Int32) else Int32.ofNat (k + 11)) else Int32.ofNat k
def own_cov (tm t tp i i1 n a b m : Int32) : Int32 := if i < n then (if m = (0 : Int32) then (0 : Int32) else if m = (1 : Int32) then (if t = a then (1 : Int32) else (0 : Int32)) else if i1 < n ∧ t = a ∧ tp = b then (1 : Int32) else if ¬ i < (1 : Int32) ∧ tm = a ∧ t = b then (1 : Int32) else (0 : Int32)) else (0 : Int32)
def own_ok (c : Int32) : Prop := ¬ (c < (0 : Int32)) ∧ ¬ ((255 : Int32) < c)
theorem own_ok_mk (y : Int32) : own_ok (nar .char (y &&& (255 : Int32))) := by
  have a := c_and y (255 : Int32) (by decide)
  have d := c_i2c (y &&& (255 : Int32))
  have e : (255 : Int32).toInt = 255 := rfl
  have e0 : (0 : Int32).toInt = 0 := rfl
  have q : (nar .char (y &&& (255 : Int32))).toInt = (y &&& (255 : Int32)).toUInt32.toUInt16.toUInt32.toInt32.toInt := rfl
  refine ⟨?_, ?_⟩ <;> rw [Int32.lt_iff_toInt_lt] <;> omega
theorem own_okn {c : Int32} (h : own_ok c) : nar .char c = c := own_narsm h.1 h.2
theorem own_and3 (x : Int32) : (x &&& (3 : Int32)) = (0 : Int32) ∨ (x &&& (3 : Int32)) = (1 : Int32) ∨ (x &&& (3 : Int32)) = (2 : Int32) ∨ (x &&& (3 : Int32)) = (3 : Int32) := by
  have a := c_and x (3 : Int32) (by decide)
  have e : (3 : Int32).toInt = 3 := rfl
  have b : (x &&& (3 : Int32)).toInt = 0 ∨ (x &&& (3 : Int32)).toInt = 1 ∨ (x &&& (3 : Int32)).toInt = 2 ∨ (x &&& (3 : Int32)).toInt = 3 := by omega
  rcases b with h | h | h | h
  · exact Or.inl (Int32.toInt_inj.mp h)
  · exact Or.inr (Or.inl (Int32.toInt_inj.mp h))
  · exact Or.inr (Or.inr (Or.inl (Int32.toInt_inj.mp h)))
  · exact Or.inr (Or.inr (Or.inr (Int32.toInt_inj.mp h)))
def own_pc (x t0 t1 t2 t3 : Int32) : Int32 := if (x &&& (256 : Int32)) = (0 : Int32) then nar .char (x &&& (255 : Int32)) else if (x &&& (3 : Int32)) = (0 : Int32) then t0 else if (x &&& (3 : Int32)) = (1 : Int32) then t1 else if (x &&& (3 : Int32)) = (2 : Int32) then t2 else t3
theorem own_pc_ok (x : Int32) {t0 t1 t2 t3 : Int32} (h0 : own_ok t0) (h1 : own_ok t1) (h2 : own_ok t2) (h3 : own_ok t3) : own_ok (own_pc x t0 t1 t2 t3) := by
  unfold own_pc; split
  · exact own_ok_mk _
  · split
    · exact h0
    · split
      · exact h1
      · split
        · exact h2
        · exact h3
def own_by (c : Int32) : Int32 := c.toInt8.toInt32
def own_tn (n : Int32) : Nat := if n = (0 : Int32) then 0 else if n = (1 : Int32) then 1 else if n = (2 : Int32) then 2 else if n = (3 : Int32) then 3 else 4
def own_txt (t0 t1 t2 t3 n : Int32) : List Int32 := if n = (0 : Int32) then [] else if n = (1 : Int32) then [own_by t0] else if n = (2 : Int32) then [own_by t0, own_by t1] else if n = (3 : Int32) then [own_by t0, own_by t1, own_by t2] else [own_by t0, own_by t1, own_by t2, own_by t3]
theorem own_txl (t0 t1 t2 t3 n : Int32) : (own_txt t0 t1 t2 t3 n).length = own_tn n ∧ own_tn n ≤ 4 := by
  unfold own_txt own_tn
  by_cases h0 : n = (0 : Int32)
  · rw [if_pos h0, if_pos h0]; exact ⟨rfl, by decide⟩
  rw [if_neg h0, if_neg h0]
  by_cases h1 : n = (1 : Int32)
  · rw [if_pos h1, if_pos h1]; exact ⟨rfl, by decide⟩
  rw [if_neg h1, if_neg h1]
  by_cases h2 : n = (2 : Int32)
  · rw [if_pos h2, if_pos h2]; exact ⟨rfl, by decide⟩
  rw [if_neg h2, if_neg h2]
  by_cases h3 : n = (3 : Int32)
  · rw [if_pos h3, if_pos h3]; exact ⟨rfl, by decide⟩
  rw [if_neg h3, if_neg h3]
  exact ⟨rfl, by decide⟩
def own_pn (m : Int32) : Nat := if m = (0 : Int32) then 0 else if m = (1 : Int32) then 1 else 2
def own_prt (a b m : Int32) : List Int32 := if m = (0 : Int32) then [] else if m = (1 : Int32) then [own_by a] else [own_by a, own_by b]
theorem own_prl (a b m : Int32) : (own_prt a b m).length = own_pn m ∧ own_pn m ≤ 2 := by
  unfold own_prt own_pn
  by_cases h0 : m = (0 : Int32)
  · rw [if_pos h0, if_pos h0]; exact ⟨rfl, by decide⟩
  rw [if_neg h0, if_neg h0]
  by_cases h1 : m = (1 : Int32)
  · rw [if_pos h1, if_pos h1]; exact ⟨rfl, by decide⟩
  rw [if_neg h1, if_neg h1]
  exact ⟨rfl, by decide⟩
def own_Start (Z : State) (z_CS : Int32) (v_FMT : Value) (s_DC : Addr) (k_DC : ClassId) (v_IO : Value) : Prop := (Sta Z Z.heap "java/lang/String" "COMPACT_STRINGS" "Z" (.int z_CS)) ∧ (¬ (z_CS = (0 : Int32))) ∧ (Sta Z Z.heap "java/util/BitSet" "$assertionsDisabled" "Z" (.int (1 : Int32))) ∧ (Sta Z Z.heap "jdk/internal/util/Preconditions" "SIOOBE_FORMATTER" "Ljava/util/function/BiFunction;" v_FMT) ∧ (v_FMT.isRef = true) ∧ (Sta Z Z.heap "java/util/ArrayList" "DEFAULTCAPACITY_EMPTY_ELEMENTDATA" "[Ljava/lang/Object;" (.ref s_DC)) ∧ (Exa Z Z.heap s_DC "[Ljava/lang/Object;") ∧ (Arv Z Z.heap s_DC k_DC (.object "java/lang/Object") (0 : Int32) [] .null) ∧ (Sta Z Z.heap "jdk/internal/util/Preconditions" "IOOBE_FORMATTER" "Ljava/util/function/BiFunction;" v_IO) ∧ (v_IO.isRef = true)
abbrev cd1 : ByteArray := jdk_42_method_152_code
theorem D1 : own_DD cd1 [(0, .getstatic 38, 3), (3, .ifCond .eq 10, 3), (6, .aload_n 0, 1), (7, .getfield 15, 3), (10, .goto 4, 3), (14, .ireturn, 1)] := own_dk (by decide +kernel)
theorem own_pn0 : plainName "java/lang/String" = true := by first | (simp [plainName, overriddenIn]; done) | decide +kernel
def own_Q_coder (Z : State) (z_CS : Int32) (v_FMT : Value) (s_DC : Addr) (k_DC : ClassId) (v_IO : Value) (x_ : Addr) (h0 : Heap) (n0 : Nat) (v : Option Value) (h : Heap) (L : List Loc) : Prop := (v = some (.int (0 : Int32))) ∧ (Fr n0 L) ∧ (h = h0)
abbrev yM0 : MethodName := ⟨"java/lang/String", "coder", "()B"⟩
theorem rm_coder {l : Launch} {Z : State} {a0 : Array Value} (hw : own_hw a0 Z) {z_CS : Int32} {v_FMT : Value} {s_DC : Addr} {k_DC : ClassId} {v_IO : Value} {x_ : Addr}  {h0 : Heap} {n0 : Nat} (SB : own_Start Z z_CS v_FMT s_DC k_DC v_IO) (O0 : Old Z n0 h0) (pr0 : Fld Z h0 x_ "java/lang/String" "coder" "B" (.int (0 : Int32))) :
    oMet l Z yM0 jdk_42_method_152_code 1 (some .byte) [] (rmo 0 0 0 0) 0 0 #[(.ref x_)] h0 (own_Q_coder Z z_CS v_FMT s_DC k_DC v_IO x_ h0 n0) := by
  refine oenter (plainFor_of_name own_pn0) #[vr x_] (fun _ => rfl) ?_
  intro p e s m below meth c s₁ X0 hx hZ hby hml hret hown hnm hlk e0
  have N0 := Fr.nil n0
  have D := own_hb hby D1
  obtain ⟨S_CS, H_CS, -⟩ := (id SB)
  have W := own_w hw
  refine o_getS X0 hx hZ hown (host := "") (Or.inl (W 174 rfl)) Via.refl e0 (Sta.ext O0.2 S_CS) (D 0 rfl) fun T1 X1 e1 => o_ifNo X1 hx (D 1 rfl) (feq H_CS).1 <| o_aloadN X1 hx (D 2 rfl) rfl rfl <| o_getF X1 hx hZ hown (host := "") (Or.inl (W 30 rfl)) Via.refl e1 pr0 (D 3 rfl) fun T2 X2 e2 => o_goto X2 hx 14 (D 4 rfl) rfl ?_
  exact oendN X2 hx hlk hret (by simp) (y := (0 : Int32)) rfl (D 5 rfl) (by decide) e2 ⟨rfl, N0, rfl⟩
theorem own_pd0 : parseMethodDescriptor "()B" = some ⟨[], some .byte⟩ := by decide +kernel
abbrev cd2 : ByteArray := jdk_42_method_54_code
theorem D2 : own_DD cd2 [(0, .aload_n 0, 1), (1, .getfield 9, 3), (4, .arraylength, 1), (5, .aload_n 0, 1), (6, .invokevirtual 335, 3), (9, .ishr, 1), (10, .ireturn, 1)] := own_dk (by decide +kernel)
def own_Q_slen (Z : State) (z_CS : Int32) (v_FMT : Value) (s_DC : Addr) (k_DC : ClassId) (v_IO : Value) (x_ ba_ : Addr) (kb_ : ClassId) (bs_ : List Int32) (n_ : Nat) (h0 : Heap) (n0 : Nat) (v : Option Value) (h : Heap) (L : List Loc) : Prop := (v = some (.int (Int32.ofNat n_))) ∧ (Fr n0 L) ∧ (h = h0)
abbrev yM1 : MethodName := ⟨"java/lang/String", "length", "()I"⟩
theorem rm_slen {l : Launch} {Z : State} {a0 : Array Value} (hw : own_hw a0 Z) {z_CS : Int32} {v_FMT : Value} {s_DC : Addr} {k_DC : ClassId} {v_IO : Value} {x_ ba_ : Addr} {kb_ : ClassId} {bs_ : List Int32} (n_ : Nat) {h0 : Heap} {n0 : Nat} (SB : own_Start Z z_CS v_FMT s_DC k_DC v_IO) (O0 : Old Z n0 h0) (pr0 : Exa Z h0 x_ "java/lang/String") (pr1 : Fld Z h0 x_ "java/lang/String" "coder" "B" (.int (0 : Int32))) (pr2 : Fld Z h0 x_ "java/lang/String" "value" "[B" (.ref ba_)) (pr3 : Arv Z h0 ba_ kb_ .byte (Int32.ofNat n_) (own_vs bs_) (.int 0)) :
    oMet l Z yM1 jdk_42_method_54_code 1 (some .int) [] (rmo 1 0 0 13) 0 0 #[(.ref x_)] h0 (own_Q_slen Z z_CS v_FMT s_DC k_DC v_IO x_ ba_ kb_ bs_ n_ h0 n0) := by
  refine oenter (plainFor_of_name own_pn0) #[vr x_] (fun _ => rfl) ?_
  intro p e s m below meth c s₁ X0 hx hZ hby hml hret hown hnm hlk e0
  have N0 := Fr.nil n0
  have D := own_hb hby D2
  have W := own_w hw
  refine o_aloadN X0 hx (D 0 rfl) rfl rfl <| o_getF X0 hx hZ hown (host := "") (Or.inl (W 29 rfl)) Via.refl e0 pr2 (D 1 rfl) fun T1 X1 e1 => o_alen X1 hx hZ e1 pr3 (D 2 rfl) <| o_aloadN X1 hx (D 3 rfl) rfl rfl <| o_cv X1 hx hZ hown (rm_coder hw  SB O0 pr1) (W 169 rfl) (W 170 rfl) (W 172 rfl) (W 171 rfl) (W 12 rfl) (W 173 rfl) (by decide) e1 pr0 hml rfl [] [(.int (Int32.ofNat n_))] own_pd0 rfl rfl 1 rfl (by decide) (D 4 rfl) fun T2 L2 v2 X2 hQ2 => ?_
  obtain ⟨rfl, Nq2, q2⟩ := hQ2
  have N2 := Fr.app N0 Nq2
  refine o_ishr X2 hx (D 5 rfl) ?_
  rw [show ((Int32.ofNat n_) >>> ((0 : Int32) &&& 31)) = (Int32.ofNat n_) from own_shr0 _]
  exact oendI X2 hx hlk hret (D 6 rfl) (by decide) q2 ⟨rfl, N2, rfl⟩
abbrev cd3 : ByteArray := jdk_41_method_11_code
theorem D3 : own_DD cd3 [(0, .iload_n 0, 1), (1, .ifCond .lt 8, 3), (4, .iload_n 0, 1), (5, .iload_n 1, 1), (6, .if_icmp .lt 10, 3), (16, .iload_n 0, 1), (17, .ireturn, 1)] := own_dk (by decide +kernel)
theorem own_pn1 : plainName "jdk/internal/util/Preconditions" = true := by first | (simp [plainName, overriddenIn]; done) | decide +kernel
def own_Q_pci (Z : State)  (i_ n_ : Int32) (f_ : Value) (h0 : Heap) (n0 : Nat) (v : Option Value) (h : Heap) (L : List Loc) : Prop := (v = some (.int i_)) ∧ (Fr n0 L) ∧ (h = h0)
abbrev yM2 : MethodName := ⟨"jdk/internal/util/Preconditions", "checkIndex", "(IILjava/util/function/BiFunction;)I"⟩
theorem rm_pci {l : Launch} {Z : State} {a0 : Array Value} (hw : own_hw a0 Z)   (i_ n_ : Int32) (f_ : Value) {h0 : Heap} {n0 : Nat} (O0 : Old Z n0 h0) (pr0 : ¬ (i_ < (0 : Int32))) (pr1 : i_ < n_) (pr2 : f_.isRef = true) (pr3 : f_.category = 1) :
    oMet l Z yM2 jdk_41_method_11_code 3 (some .int) [] (rmo 0 0 0 0) 0 0 #[(.int i_), (.int n_), f_] h0 (own_Q_pci Z  i_ n_ f_ h0 n0) := by
  refine oenter (plainFor_of_name own_pn1) #[vi i_, vi n_, .val f_] (fun m => by first | (simp [entryFrame, mkF, argsToLocals, Value.category, pr3]; done) | rfl | (cases f_ <;> first | (cases pr2; done) | rfl)) ?_
  intro p e s m below meth c s₁ X0 hx hZ hby hml hret hown hnm hlk e0
  have N0 := Fr.nil n0
  have D := own_hb hby D3
  have W := own_w hw
  refine o_iloadN X0 hx (D 0 rfl) rfl <| o_ifNo X0 hx (D 1 rfl) (flt pr0).1 <| o_iloadN X0 hx (D 2 rfl) rfl <| o_iloadN X0 hx (D 3 rfl) rfl <| o_icmpYes X0 hx 16 (D 4 rfl) (tlt pr1).1 rfl <| o_iloadN X0 hx (D 5 rfl) rfl ?_
  exact oendI X0 hx hlk hret (D 6 rfl) (by decide) e0 ⟨rfl, N0, rfl⟩
theorem own_pd1 : parseMethodDescriptor "(IILjava/util/function/BiFunction;)I" = some ⟨[.int, .int, (.object "java/util/function/BiFunction")], some .int⟩ := by decide +kernel
abbrev cd4 : ByteArray := jdk_42_method_155_code
theorem D4 : own_DD cd4 [(0, .iload_n 0, 1), (1, .iload_n 1, 1), (2, .getstatic 1053, 3), (5, .invokestatic 1059, 3), (8, .pop, 1), (9, .return_, 1)] := own_dk (by decide +kernel)
def own_Q_sci (Z : State) (z_CS : Int32) (v_FMT : Value) (s_DC : Addr) (k_DC : ClassId) (v_IO : Value) (i_ n_ : Int32) (h0 : Heap) (n0 : Nat) (v : Option Value) (h : Heap) (L : List Loc) : Prop := (v = none) ∧ (Fr n0 L) ∧ (h = h0)
abbrev yM3 : MethodName := ⟨"java/lang/String", "checkIndex", "(II)V"⟩
theorem rm_sci {l : Launch} {Z : State} {a0 : Array Value} (hw : own_hw a0 Z) {z_CS : Int32} {v_FMT : Value} {s_DC : Addr} {k_DC : ClassId} {v_IO : Value}  (i_ n_ : Int32) {h0 : Heap} {n0 : Nat} (SB : own_Start Z z_CS v_FMT s_DC k_DC v_IO) (O0 : Old Z n0 h0) (pr0 : ¬ (i_ < (0 : Int32))) (pr1 : i_ < n_) :
    oMet l Z yM3 jdk_42_method_155_code 2 none [] (rmo 1 0 0 14) 0 0 #[(.int i_), (.int n_)] h0 (own_Q_sci Z z_CS v_FMT s_DC k_DC v_IO i_ n_ h0 n0) := by
  refine oenter (plainFor_of_name own_pn0) #[vi i_, vi n_] (fun _ => rfl) ?_
  intro p e s m below meth c s₁ X0 hx hZ hby hml hret hown hnm hlk e0
  have N0 := Fr.nil n0
  have D := own_hb hby D4
  obtain ⟨-, -, -, S_FMT, R_FMT, -⟩ := (id SB)
  have W := own_w hw
  refine o_iloadN X0 hx (D 0 rfl) rfl <| o_iloadN X0 hx (D 1 rfl) rfl <| o_getS X0 hx hZ hown (host := "") (Or.inl (W 352 rfl)) Via.refl e0 (Sta.ext O0.2 S_FMT) (D 2 rfl) fun T1 X1 e1 => o_cS X1 hx hZ hown (rm_pci hw i_ n_ v_FMT O0 pr0 pr1 R_FMT (own_cat R_FMT)) (W 353 rfl) (W 354 rfl) (W 246 rfl) (W 355 rfl) (by decide) e1 hml rfl [(.int i_), (.int n_), v_FMT] [] own_pd1 rfl rfl 0 rfl (by decide) (D 3 rfl) fun T2 L2 v2 X2 hQ2 => ?_
  obtain ⟨rfl, Nq2, q2⟩ := hQ2
  have N2 := Fr.app N0 Nq2
  refine o_pop X2 hx (D 4 rfl) rfl ?_
  exact oendV X2 hx hlk hret (D 5 rfl) (by decide) q2 ⟨rfl, N2, rfl⟩
theorem own_pd2 : parseMethodDescriptor "(II)V" = some ⟨[.int, .int], none⟩ := by decide +kernel
abbrev cd5 : ByteArray := jdk_43_method_2_code
theorem D5 : own_DD cd5 [(0, .iload_n 1, 1), (1, .aload_n 0, 1), (2, .arraylength, 1), (3, .invokestatic 9, 3), (6, .aload_n 0, 1), (7, .iload_n 1, 1), (8, .baload, 1), (9, .sipush 255, 3), (12, .iand, 1), (13, .i2c, 1), (14, .ireturn, 1)] := own_dk (by decide +kernel)
theorem own_pn2 : plainName "java/lang/StringLatin1" = true := by first | (simp [plainName, overriddenIn]; done) | decide +kernel
def own_Q_l1c (Z : State) (z_CS : Int32) (v_FMT : Value) (s_DC : Addr) (k_DC : ClassId) (v_IO : Value) (ba_ : Addr) (kb_ : ClassId) (bs_ : List Int32) (n_ i_ : Nat) (h0 : Heap) (n0 : Nat) (v : Option Value) (h : Heap) (L : List Loc) : Prop := (v = some (.int (own_ch bs_ i_))) ∧ (Fr n0 L) ∧ (h = h0)
abbrev yM4 : MethodName := ⟨"java/lang/StringLatin1", "charAt", "([BI)C"⟩
theorem rm_l1c {l : Launch} {Z : State} {a0 : Array Value} (hw : own_hw a0 Z) {z_CS : Int32} {v_FMT : Value} {s_DC : Addr} {k_DC : ClassId} {v_IO : Value} {ba_ : Addr} {kb_ : ClassId} {bs_ : List Int32} (n_ i_ : Nat) {h0 : Heap} {n0 : Nat} (SB : own_Start Z z_CS v_FMT s_DC k_DC v_IO) (O0 : Old Z n0 h0) (pr0 : Arv Z h0 ba_ kb_ .byte (Int32.ofNat n_) (own_vs bs_) (.int 0)) (pr1 : bs_.length = n_ ∧ n_ ≤ 99) (pr2 : i_ < n_) :
    oMet l Z yM4 jdk_43_method_2_code 2 (some .char) [] (rmo 2 0 0 27) 0 0 #[(.ref ba_), (.int (Int32.ofNat i_))] h0 (own_Q_l1c Z z_CS v_FMT s_DC k_DC v_IO ba_ kb_ bs_ n_ i_ h0 n0) := by
  refine oenter (plainFor_of_name own_pn2) #[vr ba_, vi (Int32.ofNat i_)] (fun _ => rfl) ?_
  intro p e s m below meth c s₁ X0 hx hZ hby hml hret hown hnm hlk e0
  have N0 := Fr.nil n0
  have D := own_hb hby D5
  have W := own_w hw
  refine o_iloadN X0 hx (D 0 rfl) rfl <| o_aloadN X0 hx (D 1 rfl) rfl rfl <| o_alen X0 hx hZ e0 pr0 (D 2 rfl) <| o_cS X0 hx hZ hown (rm_sci hw (Int32.ofNat i_) (Int32.ofNat n_) SB O0 (show ¬ ((Int32.ofNat i_) < (0 : Int32)) from XT.nlt32 (a := i_) (b := 0) (by omega) (by omega)) (show (Int32.ofNat i_) < (Int32.ofNat n_) from XT.lt32 (a := i_) (b := n_) (by omega) (by omega))) (W 349 rfl) (W 350 rfl) (W 12 rfl) (W 351 rfl) (by decide) e0 hml rfl [(.int (Int32.ofNat i_)), (.int (Int32.ofNat n_))] [] own_pd2 rfl rfl 0 rfl (by decide) (D 3 rfl) fun T1 L1 v1 X1 hQ1 => ?_
  obtain ⟨rfl, Nq1, q1⟩ := hQ1
  have N1 := Fr.app N0 Nq1
  refine o_aloadN X1 hx (D 4 rfl) rfl rfl <| o_iloadN X1 hx (D 5 rfl) rfl <| o_bal X1 hx hZ q1 pr0 (own_inb (i := i_) (n := n_) (by omega) (by omega)) (v := (.int (bs_.getD i_ 0))) (own_vsat (i := i_) (by omega)) (D 6 rfl) <| o_sipush X1 hx 255 (D 7 rfl) rfl <| o_iand X1 hx (D 8 rfl) <| o_i2c X1 hx (D 9 rfl) ?_
  exact oendN X1 hx hlk hret (by simp) (y := (nar .char ((bs_.getD i_ 0) &&& (255 : Int32)))) (own_narc _) (D 10 rfl) (by decide) q1 ⟨rfl, N1, rfl⟩
abbrev cd6 : ByteArray := jdk_42_method_154_code
theorem D6 : own_DD cd6 [(0, .getstatic 38, 3), (3, .ifCond .eq 14, 3), (6, .aload_n 0, 1), (7, .getfield 15, 3), (10, .ifCond .ne 7, 3), (13, .iconst 1, 1), (14, .goto 4, 3), (18, .ireturn, 1)] := own_dk (by decide +kernel)
def own_Q_isl1 (Z : State) (z_CS : Int32) (v_FMT : Value) (s_DC : Addr) (k_DC : ClassId) (v_IO : Value) (x_ : Addr) (h0 : Heap) (n0 : Nat) (v : Option Value) (h : Heap) (L : List Loc) : Prop := (v = some (.int (1 : Int32))) ∧ (Fr n0 L) ∧ (h = h0)
abbrev yM5 : MethodName := ⟨"java/lang/String", "isLatin1", "()Z"⟩
theorem rm_isl1 {l : Launch} {Z : State} {a0 : Array Value} (hw : own_hw a0 Z) {z_CS : Int32} {v_FMT : Value} {s_DC : Addr} {k_DC : ClassId} {v_IO : Value} {x_ : Addr}  {h0 : Heap} {n0 : Nat} (SB : own_Start Z z_CS v_FMT s_DC k_DC v_IO) (O0 : Old Z n0 h0) (pr0 : Fld Z h0 x_ "java/lang/String" "coder" "B" (.int (0 : Int32))) :
    oMet l Z yM5 jdk_42_method_154_code 1 (some .boolean) [] (rmo 0 0 0 0) 0 0 #[(.ref x_)] h0 (own_Q_isl1 Z z_CS v_FMT s_DC k_DC v_IO x_ h0 n0) := by
  refine oenter (plainFor_of_name own_pn0) #[vr x_] (fun _ => rfl) ?_
  intro p e s m below meth c s₁ X0 hx hZ hby hml hret hown hnm hlk e0
  have N0 := Fr.nil n0
  have D := own_hb hby D6
  obtain ⟨S_CS, H_CS, -⟩ := (id SB)
  have W := own_w hw
  refine o_getS X0 hx hZ hown (host := "") (Or.inl (W 174 rfl)) Via.refl e0 (Sta.ext O0.2 S_CS) (D 0 rfl) fun T1 X1 e1 => o_ifNo X1 hx (D 1 rfl) (feq H_CS).1 <| o_aloadN X1 hx (D 2 rfl) rfl rfl <| o_getF X1 hx hZ hown (host := "") (Or.inl (W 30 rfl)) Via.refl e1 pr0 (D 3 rfl) fun T2 X2 e2 => o_ifNo X2 hx (D 4 rfl) (teq (by decide : (0 : Int32) = (0 : Int32))).2 <| o_iconst X2 hx 1 (D 5 rfl) rfl <| o_goto X2 hx 18 (D 6 rfl) rfl ?_
  exact oendN X2 hx hlk hret (by simp) (y := (1 : Int32)) rfl (D 7 rfl) (by decide) e2 ⟨rfl, N0, rfl⟩
theorem own_pd3 : parseMethodDescriptor "()Z" = some ⟨[], some .boolean⟩ := by decide +kernel
theorem own_pd4 : parseMethodDescriptor "([BI)C" = some ⟨[(.array .byte), .int], some .char⟩ := by decide +kernel
abbrev cd7 : ByteArray := jdk_42_method_56_code
theorem D7 : own_DD cd7 [(0, .aload_n 0, 1), (1, .invokevirtual 492, 3), (4, .ifCond .eq 12, 3), (7, .aload_n 0, 1), (8, .getfield 9, 3), (11, .iload_n 1, 1), (12, .invokestatic 495, 3), (15, .ireturn, 1)] := own_dk (by decide +kernel)
def own_Q_cat (Z : State) (z_CS : Int32) (v_FMT : Value) (s_DC : Addr) (k_DC : ClassId) (v_IO : Value) (x_ ba_ : Addr) (kb_ : ClassId) (bs_ : List Int32) (n_ i_ : Nat) (h0 : Heap) (n0 : Nat) (v : Option Value) (h : Heap) (L : List Loc) : Prop := (v = some (.int (own_ch bs_ i_))) ∧ (Fr n0 L) ∧ (h = h0)
abbrev yM6 : MethodName := ⟨"java/lang/String", "charAt", "(I)C"⟩
theorem rm_cat {l : Launch} {Z : State} {a0 : Array Value} (hw : own_hw a0 Z) {z_CS : Int32} {v_FMT : Value} {s_DC : Addr} {k_DC : ClassId} {v_IO : Value} {x_ ba_ : Addr} {kb_ : ClassId} {bs_ : List Int32} (n_ i_ : Nat) {h0 : Heap} {n0 : Nat} (SB : own_Start Z z_CS v_FMT s_DC k_DC v_IO) (O0 : Old Z n0 h0) (pr0 : Exa Z h0 x_ "java/lang/String") (pr1 : Fld Z h0 x_ "java/lang/String" "coder" "B" (.int (0 : Int32))) (pr2 : Fld Z h0 x_ "java/lang/String" "value" "[B" (.ref ba_)) (pr3 : Arv Z h0 ba_ kb_ .byte (Int32.ofNat n_) (own_vs bs_) (.int 0)) (pr4 : bs_.length = n_ ∧ n_ ≤ 99) (pr5 : i_ < n_) :
    oMet l Z yM6 jdk_42_method_56_code 2 (some .char) [] (rmo 3 0 0 40) 0 0 #[(.ref x_), (.int (Int32.ofNat i_))] h0 (own_Q_cat Z z_CS v_FMT s_DC k_DC v_IO x_ ba_ kb_ bs_ n_ i_ h0 n0) := by
  refine oenter (plainFor_of_name own_pn0) #[vr x_, vi (Int32.ofNat i_)] (fun _ => rfl) ?_
  intro p e s m below meth c s₁ X0 hx hZ hby hml hret hown hnm hlk e0
  have N0 := Fr.nil n0
  have D := own_hb hby D7
  have W := own_w hw
  refine o_aloadN X0 hx (D 0 rfl) rfl rfl <| o_cv X0 hx hZ hown (rm_isl1 hw  SB O0 pr1) (W 344 rfl) (W 270 rfl) (W 272 rfl) (W 271 rfl) (W 12 rfl) (W 273 rfl) (by decide) e0 pr0 hml rfl [] [] own_pd3 rfl rfl 0 rfl (by decide) (D 1 rfl) fun T1 L1 v1 X1 hQ1 => ?_
  obtain ⟨rfl, Nq1, q1⟩ := hQ1
  have N1 := Fr.app N0 Nq1
  refine o_ifNo X1 hx (D 2 rfl) (feq (by decide : ¬ ((1 : Int32) = (0 : Int32)))).1 <| o_aloadN X1 hx (D 3 rfl) rfl rfl <| o_getF X1 hx hZ hown (host := "") (Or.inl (W 29 rfl)) Via.refl q1 pr2 (D 4 rfl) fun T2 X2 e2 => o_iloadN X2 hx (D 5 rfl) rfl <| o_cS X2 hx hZ hown (rm_l1c hw n_ i_ SB O0 pr3 pr4 pr5) (W 345 rfl) (W 346 rfl) (W 347 rfl) (W 348 rfl) (by decide) e2 hml rfl [(.ref ba_), (.int (Int32.ofNat i_))] [] own_pd4 rfl rfl 0 rfl (by decide) (D 6 rfl) fun T3 L3 v3 X3 hQ3 => ?_
  obtain ⟨rfl, Nq3, q3⟩ := hQ3
  have N3 := Fr.app N1 Nq3
  exact oendN X3 hx hlk hret (by simp) (y := (own_ch bs_ i_)) (own_chn _ _) (D 7 rfl) (by decide) q3 ⟨rfl, N3, rfl⟩
theorem own_pd5 : parseMethodDescriptor "()I" = some ⟨[], some .int⟩ := by decide +kernel
theorem own_pd6 : parseMethodDescriptor "(I)C" = some ⟨[.int], some .char⟩ := by decide +kernel
abbrev cd8 : ByteArray := method_7_code
theorem D8 : own_DD cd8 [(0, .ldc 62, 2), (2, .astore_n 2, 1), (3, .iload_n 1, 1), (4, .bipush 11, 2), (6, .iadd, 1), (7, .aload_n 0, 1), (8, .invokevirtual 51, 3), (11, .if_icmp .le 5, 3), (14, .iconst 0, 1), (15, .ireturn, 1), (16, .aload_n 0, 1), (17, .iload_n 1, 1), (18, .invokevirtual 64, 3), (21, .aload_n 2, 1), (22, .iconst 0, 1), (23, .invokevirtual 64, 3), (26, .if_icmp .ne 167, 3), (29, .aload_n 0, 1), (30, .iload_n 1, 1), (31, .iconst 1, 1), (32, .iadd, 1), (33, .invokevirtual 64, 3), (36, .aload_n 2, 1), (37, .iconst 1, 1), (38, .invokevirtual 64, 3), (41, .if_icmp .ne 152, 3), (44, .aload_n 0, 1), (45, .iload_n 1, 1), (46, .iconst 2, 1), (47, .iadd, 1), (48, .invokevirtual 64, 3), (51, .aload_n 2, 1), (52, .iconst 2, 1), (53, .invokevirtual 64, 3), (56, .if_icmp .ne 137, 3), (59, .aload_n 0, 1), (60, .iload_n 1, 1), (61, .iconst 3, 1), (62, .iadd, 1), (63, .invokevirtual 64, 3), (66, .aload_n 2, 1), (67, .iconst 3, 1), (68, .invokevirtual 64, 3), (71, .if_icmp .ne 122, 3), (74, .aload_n 0, 1), (75, .iload_n 1, 1), (76, .iconst 4, 1), (77, .iadd, 1), (78, .invokevirtual 64, 3), (81, .aload_n 2, 1), (82, .iconst 4, 1), (83, .invokevirtual 64, 3), (86, .if_icmp .ne 107, 3), (89, .aload_n 0, 1), (90, .iload_n 1, 1), (91, .iconst 5, 1), (92, .iadd, 1), (93, .invokevirtual 64, 3), (96, .aload_n 2, 1), (97, .iconst 5, 1), (98, .invokevirtual 64, 3), (101, .if_icmp .ne 92, 3), (104, .aload_n 0, 1), (105, .iload_n 1, 1), (106, .bipush 6, 2), (108, .iadd, 1), (109, .invokevirtual 64, 3), (112, .aload_n 2, 1), (113, .bipush 6, 2), (115, .invokevirtual 64, 3), (118, .if_icmp .ne 75, 3), (121, .aload_n 0, 1), (122, .iload_n 1, 1), (123, .bipush 7, 2), (125, .iadd, 1), (126, .invokevirtual 64, 3), (129, .aload_n 2, 1), (130, .bipush 7, 2), (132, .invokevirtual 64, 3), (135, .if_icmp .ne 58, 3), (138, .aload_n 0, 1), (139, .iload_n 1, 1), (140, .bipush 8, 2), (142, .iadd, 1), (143, .invokevirtual 64, 3), (146, .aload_n 2, 1), (147, .bipush 8, 2), (149, .invokevirtual 64, 3), (152, .if_icmp .ne 41, 3), (155, .aload_n 0, 1), (156, .iload_n 1, 1), (157, .bipush 9, 2), (159, .iadd, 1), (160, .invokevirtual 64, 3), (163, .aload_n 2, 1), (164, .bipush 9, 2), (166, .invokevirtual 64, 3), (169, .if_icmp .ne 24, 3), (172, .aload_n 0, 1), (173, .iload_n 1, 1), (174, .bipush 10, 2), (176, .iadd, 1), (177, .invokevirtual 64, 3), (180, .aload_n 2, 1), (181, .bipush 10, 2), (183, .invokevirtual 64, 3), (186, .if_icmp .ne 7, 3), (189, .iconst 1, 1), (190, .goto 4, 3), (194, .ireturn, 1), (193, .iconst 0, 1)] := own_dk (by decide +kernel)
theorem own_pn3 : plainName "com/example/reliquary/reliquary/SecretsHidePinLaw" = true := by first | (simp [plainName, overriddenIn]; done) | decide +kernel
def own_Q_hida (Z : State) (z_CS : Int32) (v_FMT : Value) (s_DC : Addr) (k_DC : ClassId) (v_IO : Value) (x_ ba_ : Addr) (kb_ : ClassId) (bs_ : List Int32) (n_ k_ : Nat) (h0 : Heap) (n0 : Nat) (v : Option Value) (h : Heap) (L : List Loc) : Prop := (v = some (.int (own_hid bs_ n_ k_))) ∧ (Fr n0 L) ∧ (Keep h0 h [])
abbrev yM7 : MethodName := ⟨"com/example/reliquary/reliquary/SecretsHidePinLaw", "hiddenAt", "(Ljava/lang/String;I)Z"⟩
theorem rm_hida {l : Launch} {Z : State} {a0 : Array Value} (hw : own_hw a0 Z) {z_CS : Int32} {v_FMT : Value} {s_DC : Addr} {k_DC : ClassId} {v_IO : Value} {x_ ba_ : Addr} {kb_ : ClassId} {bs_ : List Int32} (n_ k_ : Nat) {h0 : Heap} {n0 : Nat} (SB : own_Start Z z_CS v_FMT s_DC k_DC v_IO) (O0 : Old Z n0 h0) (pr0 : Exa Z h0 x_ "java/lang/String") (pr1 : Fld Z h0 x_ "java/lang/String" "coder" "B" (.int (0 : Int32))) (pr2 : Fld Z h0 x_ "java/lang/String" "value" "[B" (.ref ba_)) (pr3 : Arv Z h0 ba_ kb_ .byte (Int32.ofNat n_) (own_vs bs_) (.int 0)) (pr4 : bs_.length = n_ ∧ n_ ≤ 99) (pr5 : k_ ≤ 99) :
    oMetS l Z yM7 method_7_code 3 (some .boolean) [] (rmo 4 2 48 54) 2 48 #[(.ref x_), (.int (Int32.ofNat k_))] h0 (own_Q_hida Z z_CS v_FMT s_DC k_DC v_IO x_ ba_ kb_ bs_ n_ k_ h0 n0) := by
  refine oenterS (plainFor_of_name own_pn3) #[vr x_, vi (Int32.ofNat k_), .unset] (fun _ => rfl) ?_
  intro p e s m below meth c s₁ X0 hx hZ hby hml hret hown hnm hlk e0 hs0 H0 hS0
  have hEL := own_EW hw
  have wS := own_wS hw
  have N0 := Fr.nil n0
  have D := own_hb hby D8
  have W := own_w hw
  have w12 := W 12 rfl
  have w339 := W 339 rfl
  have w340 := W 340 rfl
  have w341 := W 341 rfl
  have w342 := W 342 rfl
  have w343 := W 343 rfl
  obtain ⟨a1, T1, _, ks1, b1, kk1, X1, rfl, E1, hS1, hk1, hZ1, hown1, Ex1, Fc1, Fv1, Va1, la1, lb1, C1, -, Nx1, st1⟩ := ldcCH X0 hx hZ hown (W 487 rfl) wS e0 hS0 (Nat.zero_le _) hEL (List.mem_of_getElem? (i := 1) rfl) H0 (vs := [(.int (40 : Int32)), (.int (110 : Int32)), (.int (111 : Int32)), (.int (116 : Int32)), (.int (32 : Int32)), (.int (115 : Int32)), (.int (104 : Int32)), (.int (111 : Int32)), (.int (119 : Int32)), (.int (110 : Int32)), (.int (41 : Int32))]) (z := (11 : Int32)) ⟨by decide, by decide⟩ (by decide) rfl (g := (mkF m 0 #[vr x_, vi (Int32.ofNat k_), .unset] [])) rfl (D 0 rfl) (n := 44) (by decide) (by decide) (by decide) (by decide)
  have H2 := C1.1
  refine ogoF st1 ?_
  have VH3 : Arv Z T1.heap b1 kk1 .byte (Int32.ofNat 11) (own_vs own_HID) (.int 0) := Va1
  refine o_astoreN X1 hx (l' := #[vr x_, vi (Int32.ofNat k_), vr a1]) (D 1 rfl) rfl rfl <| o_iloadN X1 hx (D 2 rfl) rfl <| o_bipush X1 hx 11 (D 3 rfl) rfl <| o_iadd X1 hx (D 4 rfl) ?_
  rw [show ((Int32.ofNat k_) + (11 : Int32)) = (Int32.ofNat (k_ + 11)) from XT.add32n k_ 11]
  refine o_aloadN X1 hx (D 5 rfl) rfl rfl <| o_cv X1 hx hZ1 hown1 (rm_slen hw n_ SB (O0.ext E1) (Exa.ext E1 pr0) (Fld.ext E1 pr1) (Fld.ext E1 pr2) (pr3.ext E1)) (W 328 rfl) (W 165 rfl) (W 167 rfl) (W 166 rfl) w12 (W 168 rfl) (by decide) rfl (Exa.ext E1 pr0) hml rfl [] [(.int (Int32.ofNat (k_ + 11)))] own_pd5 rfl rfl 1 rfl (by decide) (D 6 rfl) fun T4 L4 v4 X4 hQ4 => ?_
  obtain ⟨rfl, Nq4, q4⟩ := hQ4
  have N4 := Fr.app N0 Nq4
  by_cases hc6 : n_ < (k_ + 11)
  · refine o_icmpNo X4 hx (D 7 rfl) (tlt (show (Int32.ofNat n_) < (Int32.ofNat (k_ + 11)) from XT.lt32 (a := n_) (b := (k_ + 11)) (by omega) (by omega))).2.2.2 <| o_iconst X4 hx 0 (D 8 rfl) rfl ?_
    exact oendSN X4 hx hlk hret (by simp) (y := (0 : Int32)) rfl (D 9 rfl) (by decide) q4 hS1 hk1 hZ1 hEL hs0 C1 ⟨congrArg (fun z_ => some (Value.int z_)) (by unfold own_hid; rw [if_pos hc6]), N4, ((Keep.refl h0 []).ext E1)⟩
  · refine o_icmpYes X4 hx 16 (D 7 rfl) (flt (show ¬ ((Int32.ofNat n_) < (Int32.ofNat (k_ + 11))) from XT.nlt32 (a := n_) (b := (k_ + 11)) (by omega) (by omega))).2.2.2 rfl <| o_aloadN X4 hx (D 10 rfl) rfl rfl <| o_iloadN X4 hx (D 11 rfl) rfl <| o_cv X4 hx hZ1 hown1 (rm_cat hw n_ k_ SB (O0.ext E1) (Exa.ext E1 pr0) (Fld.ext E1 pr1) (Fld.ext E1 pr2) (pr3.ext E1) pr4 (by first | rfl | assumption | decide | omega)) w339 w340 w342 w341 w12 w343 (by decide) q4 (Exa.ext E1 pr0) hml rfl [(.int (Int32.ofNat k_))] [] own_pd6 rfl rfl 0 rfl (by decide) (D 12 rfl) fun T7 L7 v7 X7 hQ7 => ?_
    obtain ⟨rfl, Nq7, q7⟩ := hQ7
    have N7 := Fr.app N4 Nq7
    refine o_aloadN X7 hx (D 13 rfl) rfl rfl <| o_iconst X7 hx 0 (D 14 rfl) rfl <| o_cv X7 hx hZ1 hown1 (rm_cat hw 11 0 SB (O0.ext E1) Ex1 Fc1 Fv1 VH3 own_HIDln (by first | rfl | assumption | decide | omega)) w339 w340 w342 w341 w12 w343 (by decide) q7 Ex1 hml rfl [(.int (0 : Int32))] [(.int (own_ch bs_ k_))] own_pd6 rfl rfl 1 rfl (by decide) (D 15 rfl) fun T8 L8 v8 X8 hQ8 => ?_
    obtain ⟨rfl, Nq8, q8⟩ := hQ8
    have N8 := Fr.app N7 Nq8
    by_cases hc10 : (own_ch bs_ k_) = (own_ch own_HID 0)
    · refine o_icmpNo X8 hx (D 16 rfl) (teq hc10).2 <| o_aloadN X8 hx (D 17 rfl) rfl rfl <| o_iloadN X8 hx (D 18 rfl) rfl <| o_iconst X8 hx 1 (D 19 rfl) rfl <| o_iadd X8 hx (D 20 rfl) ?_
      rw [show ((Int32.ofNat k_) + (1 : Int32)) = (Int32.ofNat (k_ + 1)) from XT.add32n k_ 1]
      refine o_cv X8 hx hZ1 hown1 (rm_cat hw n_ (k_ + 1) SB (O0.ext E1) (Exa.ext E1 pr0) (Fld.ext E1 pr1) (Fld.ext E1 pr2) (pr3.ext E1) pr4 (by first | rfl | assumption | decide | omega)) w339 w340 w342 w341 w12 w343 (by decide) q8 (Exa.ext E1 pr0) hml rfl [(.int (Int32.ofNat (k_ + 1)))] [] own_pd6 rfl rfl 0 rfl (by decide) (D 21 rfl) fun T11 L11 v11 X11 hQ11 => ?_
      obtain ⟨rfl, Nq11, q11⟩ := hQ11
      have N11 := Fr.app N8 Nq11
      refine o_aloadN X11 hx (D 22 rfl) rfl rfl <| o_iconst X11 hx 1 (D 23 rfl) rfl <| o_cv X11 hx hZ1 hown1 (rm_cat hw 11 1 SB (O0.ext E1) Ex1 Fc1 Fv1 VH3 own_HIDln (by first | rfl | assumption | decide | omega)) w339 w340 w342 w341 w12 w343 (by decide) q11 Ex1 hml rfl [(.int (1 : Int32))] [(.int (own_ch bs_ (k_ + 1)))] own_pd6 rfl rfl 1 rfl (by decide) (D 24 rfl) fun T12 L12 v12 X12 hQ12 => ?_
      obtain ⟨rfl, Nq12, q12⟩ := hQ12
      have N12 := Fr.app N11 Nq12
      by_cases hc14 : (own_ch bs_ (k_ + 1)) = (own_ch own_HID 1)
      · refine o_icmpNo X12 hx (D 25 rfl) (teq hc14).2 <| o_aloadN X12 hx (D 26 rfl) rfl rfl <| o_iloadN X12 hx (D 27 rfl) rfl <| o_iconst X12 hx 2 (D 28 rfl) rfl <| o_iadd X12 hx (D 29 rfl) ?_
        rw [show ((Int32.ofNat k_) + (2 : Int32)) = (Int32.ofNat (k_ + 2)) from XT.add32n k_ 2]
        refine o_cv X12 hx hZ1 hown1 (rm_cat hw n_ (k_ + 2) SB (O0.ext E1) (Exa.ext E1 pr0) (Fld.ext E1 pr1) (Fld.ext E1 pr2) (pr3.ext E1) pr4 (by first | rfl | assumption | decide | omega)) w339 w340 w342 w341 w12 w343 (by decide) q12 (Exa.ext E1 pr0) hml rfl [(.int (Int32.ofNat (k_ + 2)))] [] own_pd6 rfl rfl 0 rfl (by decide) (D 30 rfl) fun T15 L15 v15 X15 hQ15 => ?_
        obtain ⟨rfl, Nq15, q15⟩ := hQ15
        have N15 := Fr.app N12 Nq15
        refine o_aloadN X15 hx (D 31 rfl) rfl rfl <| o_iconst X15 hx 2 (D 32 rfl) rfl <| o_cv X15 hx hZ1 hown1 (rm_cat hw 11 2 SB (O0.ext E1) Ex1 Fc1 Fv1 VH3 own_HIDln (by first | rfl | assumption | decide | omega)) w339 w340 w342 w341 w12 w343 (by decide) q15 Ex1 hml rfl [(.int (2 : Int32))] [(.int (own_ch bs_ (k_ + 2)))] own_pd6 rfl rfl 1 rfl (by decide) (D 33 rfl) fun T16 L16 v16 X16 hQ16 => ?_
        obtain ⟨rfl, Nq16, q16⟩ := hQ16
        have N16 := Fr.app N15 Nq16
        by_cases hc18 : (own_ch bs_ (k_ + 2)) = (own_ch own_HID 2)
        · refine o_icmpNo X16 hx (D 34 rfl) (teq hc18).2 <| o_aloadN X16 hx (D 35 rfl) rfl rfl <| o_iloadN X16 hx (D 36 rfl) rfl <| o_iconst X16 hx 3 (D 37 rfl) rfl <| o_iadd X16 hx (D 38 rfl) ?_
          rw [show ((Int32.ofNat k_) + (3 : Int32)) = (Int32.ofNat (k_ + 3)) from XT.add32n k_ 3]
          refine o_cv X16 hx hZ1 hown1 (rm_cat hw n_ (k_ + 3) SB (O0.ext E1) (Exa.ext E1 pr0) (Fld.ext E1 pr1) (Fld.ext E1 pr2) (pr3.ext E1) pr4 (by first | rfl | assumption | decide | omega)) w339 w340 w342 w341 w12 w343 (by decide) q16 (Exa.ext E1 pr0) hml rfl [(.int (Int32.ofNat (k_ + 3)))] [] own_pd6 rfl rfl 0 rfl (by decide) (D 39 rfl) fun T19 L19 v19 X19 hQ19 => ?_
          obtain ⟨rfl, Nq19, q19⟩ := hQ19
          have N19 := Fr.app N16 Nq19
          refine o_aloadN X19 hx (D 40 rfl) rfl rfl <| o_iconst X19 hx 3 (D 41 rfl) rfl <| o_cv X19 hx hZ1 hown1 (rm_cat hw 11 3 SB (O0.ext E1) Ex1 Fc1 Fv1 VH3 own_HIDln (by first | rfl | assumption | decide | omega)) w339 w340 w342 w341 w12 w343 (by decide) q19 Ex1 hml rfl [(.int (3 : Int32))] [(.int (own_ch bs_ (k_ + 3)))] own_pd6 rfl rfl 1 rfl (by decide) (D 42 rfl) fun T20 L20 v20 X20 hQ20 => ?_
          obtain ⟨rfl, Nq20, q20⟩ := hQ20
          have N20 := Fr.app N19 Nq20
          by_cases hc22 : (own_ch bs_ (k_ + 3)) = (own_ch own_HID 3)
          · refine o_icmpNo X20 hx (D 43 rfl) (teq hc22).2 <| o_aloadN X20 hx (D 44 rfl) rfl rfl <| o_iloadN X20 hx (D 45 rfl) rfl <| o_iconst X20 hx 4 (D 46 rfl) rfl <| o_iadd X20 hx (D 47 rfl) ?_
            rw [show ((Int32.ofNat k_) + (4 : Int32)) = (Int32.ofNat (k_ + 4)) from XT.add32n k_ 4]
            refine o_cv X20 hx hZ1 hown1 (rm_cat hw n_ (k_ + 4) SB (O0.ext E1) (Exa.ext E1 pr0) (Fld.ext E1 pr1) (Fld.ext E1 pr2) (pr3.ext E1) pr4 (by first | rfl | assumption | decide | omega)) w339 w340 w342 w341 w12 w343 (by decide) q20 (Exa.ext E1 pr0) hml rfl [(.int (Int32.ofNat (k_ + 4)))] [] own_pd6 rfl rfl 0 rfl (by decide) (D 48 rfl) fun T23 L23 v23 X23 hQ23 => ?_
            obtain ⟨rfl, Nq23, q23⟩ := hQ23
            have N23 := Fr.app N20 Nq23
            refine o_aloadN X23 hx (D 49 rfl) rfl rfl <| o_iconst X23 hx 4 (D 50 rfl) rfl <| o_cv X23 hx hZ1 hown1 (rm_cat hw 11 4 SB (O0.ext E1) Ex1 Fc1 Fv1 VH3 own_HIDln (by first | rfl | assumption | decide | omega)) w339 w340 w342 w341 w12 w343 (by decide) q23 Ex1 hml rfl [(.int (4 : Int32))] [(.int (own_ch bs_ (k_ + 4)))] own_pd6 rfl rfl 1 rfl (by decide) (D 51 rfl) fun T24 L24 v24 X24 hQ24 => ?_
            obtain ⟨rfl, Nq24, q24⟩ := hQ24
            have N24 := Fr.app N23 Nq24
            by_cases hc26 : (own_ch bs_ (k_ + 4)) = (own_ch own_HID 4)
            · refine o_icmpNo X24 hx (D 52 rfl) (teq hc26).2 <| o_aloadN X24 hx (D 53 rfl) rfl rfl <| o_iloadN X24 hx (D 54 rfl) rfl <| o_iconst X24 hx 5 (D 55 rfl) rfl <| o_iadd X24 hx (D 56 rfl) ?_
              rw [show ((Int32.ofNat k_) + (5 : Int32)) = (Int32.ofNat (k_ + 5)) from XT.add32n k_ 5]
              refine o_cv X24 hx hZ1 hown1 (rm_cat hw n_ (k_ + 5) SB (O0.ext E1) (Exa.ext E1 pr0) (Fld.ext E1 pr1) (Fld.ext E1 pr2) (pr3.ext E1) pr4 (by first | rfl | assumption | decide | omega)) w339 w340 w342 w341 w12 w343 (by decide) q24 (Exa.ext E1 pr0) hml rfl [(.int (Int32.ofNat (k_ + 5)))] [] own_pd6 rfl rfl 0 rfl (by decide) (D 57 rfl) fun T27 L27 v27 X27 hQ27 => ?_
              obtain ⟨rfl, Nq27, q27⟩ := hQ27
              have N27 := Fr.app N24 Nq27
              refine o_aloadN X27 hx (D 58 rfl) rfl rfl <| o_iconst X27 hx 5 (D 59 rfl) rfl <| o_cv X27 hx hZ1 hown1 (rm_cat hw 11 5 SB (O0.ext E1) Ex1 Fc1 Fv1 VH3 own_HIDln (by first | rfl | assumption | decide | omega)) w339 w340 w342 w341 w12 w343 (by decide) q27 Ex1 hml rfl [(.int (5 : Int32))] [(.int (own_ch bs_ (k_ + 5)))] own_pd6 rfl rfl 1 rfl (by decide) (D 60 rfl) fun T28 L28 v28 X28 hQ28 => ?_
              obtain ⟨rfl, Nq28, q28⟩ := hQ28
              have N28 := Fr.app N27 Nq28
              by_cases hc30 : (own_ch bs_ (k_ + 5)) = (own_ch own_HID 5)
              · refine o_icmpNo X28 hx (D 61 rfl) (teq hc30).2 <| o_aloadN X28 hx (D 62 rfl) rfl rfl <| o_iloadN X28 hx (D 63 rfl) rfl <| o_bipush X28 hx 6 (D 64 rfl) rfl <| o_iadd X28 hx (D 65 rfl) ?_
                rw [show ((Int32.ofNat k_) + (6 : Int32)) = (Int32.ofNat (k_ + 6)) from XT.add32n k_ 6]
                refine o_cv X28 hx hZ1 hown1 (rm_cat hw n_ (k_ + 6) SB (O0.ext E1) (Exa.ext E1 pr0) (Fld.ext E1 pr1) (Fld.ext E1 pr2) (pr3.ext E1) pr4 (by first | rfl | assumption | decide | omega)) w339 w340 w342 w341 w12 w343 (by decide) q28 (Exa.ext E1 pr0) hml rfl [(.int (Int32.ofNat (k_ + 6)))] [] own_pd6 rfl rfl 0 rfl (by decide) (D 66 rfl) fun T31 L31 v31 X31 hQ31 => ?_
                obtain ⟨rfl, Nq31, q31⟩ := hQ31
                have N31 := Fr.app N28 Nq31
                refine o_aloadN X31 hx (D 67 rfl) rfl rfl <| o_bipush X31 hx 6 (D 68 rfl) rfl <| o_cv X31 hx hZ1 hown1 (rm_cat hw 11 6 SB (O0.ext E1) Ex1 Fc1 Fv1 VH3 own_HIDln (by first | rfl | assumption | decide | omega)) w339 w340 w342 w341 w12 w343 (by decide) q31 Ex1 hml rfl [(.int (6 : Int32))] [(.int (own_ch bs_ (k_ + 6)))] own_pd6 rfl rfl 1 rfl (by decide) (D 69 rfl) fun T32 L32 v32 X32 hQ32 => ?_
                obtain ⟨rfl, Nq32, q32⟩ := hQ32
                have N32 := Fr.app N31 Nq32
                by_cases hc34 : (own_ch bs_ (k_ + 6)) = (own_ch own_HID 6)
                · refine o_icmpNo X32 hx (D 70 rfl) (teq hc34).2 <| o_aloadN X32 hx (D 71 rfl) rfl rfl <| o_iloadN X32 hx (D 72 rfl) rfl <| o_bipush X32 hx 7 (D 73 rfl) rfl <| o_iadd X32 hx (D 74 rfl) ?_
                  rw [show ((Int32.ofNat k_) + (7 : Int32)) = (Int32.ofNat (k_ + 7)) from XT.add32n k_ 7]
                  refine o_cv X32 hx hZ1 hown1 (rm_cat hw n_ (k_ + 7) SB (O0.ext E1) (Exa.ext E1 pr0) (Fld.ext E1 pr1) (Fld.ext E1 pr2) (pr3.ext E1) pr4 (by first | rfl | assumption | decide | omega)) w339 w340 w342 w341 w12 w343 (by decide) q32 (Exa.ext E1 pr0) hml rfl [(.int (Int32.ofNat (k_ + 7)))] [] own_pd6 rfl rfl 0 rfl (by decide) (D 75 rfl) fun T35 L35 v35 X35 hQ35 => ?_
                  obtain ⟨rfl, Nq35, q35⟩ := hQ35
                  have N35 := Fr.app N32 Nq35
                  refine o_aloadN X35 hx (D 76 rfl) rfl rfl <| o_bipush X35 hx 7 (D 77 rfl) rfl <| o_cv X35 hx hZ1 hown1 (rm_cat hw 11 7 SB (O0.ext E1) Ex1 Fc1 Fv1 VH3 own_HIDln (by first | rfl | assumption | decide | omega)) w339 w340 w342 w341 w12 w343 (by decide) q35 Ex1 hml rfl [(.int (7 : Int32))] [(.int (own_ch bs_ (k_ + 7)))] own_pd6 rfl rfl 1 rfl (by decide) (D 78 rfl) fun T36 L36 v36 X36 hQ36 => ?_
                  obtain ⟨rfl, Nq36, q36⟩ := hQ36
                  have N36 := Fr.app N35 Nq36
                  by_cases hc38 : (own_ch bs_ (k_ + 7)) = (own_ch own_HID 7)
                  · refine o_icmpNo X36 hx (D 79 rfl) (teq hc38).2 <| o_aloadN X36 hx (D 80 rfl) rfl rfl <| o_iloadN X36 hx (D 81 rfl) rfl <| o_bipush X36 hx 8 (D 82 rfl) rfl <| o_iadd X36 hx (D 83 rfl) ?_
                    rw [show ((Int32.ofNat k_) + (8 : Int32)) = (Int32.ofNat (k_ + 8)) from XT.add32n k_ 8]
                    refine o_cv X36 hx hZ1 hown1 (rm_cat hw n_ (k_ + 8) SB (O0.ext E1) (Exa.ext E1 pr0) (Fld.ext E1 pr1) (Fld.ext E1 pr2) (pr3.ext E1) pr4 (by first | rfl | assumption | decide | omega)) w339 w340 w342 w341 w12 w343 (by decide) q36 (Exa.ext E1 pr0) hml rfl [(.int (Int32.ofNat (k_ + 8)))] [] own_pd6 rfl rfl 0 rfl (by decide) (D 84 rfl) fun T39 L39 v39 X39 hQ39 => ?_
                    obtain ⟨rfl, Nq39, q39⟩ := hQ39
                    have N39 := Fr.app N36 Nq39
                    refine o_aloadN X39 hx (D 85 rfl) rfl rfl <| o_bipush X39 hx 8 (D 86 rfl) rfl <| o_cv X39 hx hZ1 hown1 (rm_cat hw 11 8 SB (O0.ext E1) Ex1 Fc1 Fv1 VH3 own_HIDln (by first | rfl | assumption | decide | omega)) w339 w340 w342 w341 w12 w343 (by decide) q39 Ex1 hml rfl [(.int (8 : Int32))] [(.int (own_ch bs_ (k_ + 8)))] own_pd6 rfl rfl 1 rfl (by decide) (D 87 rfl) fun T40 L40 v40 X40 hQ40 => ?_
                    obtain ⟨rfl, Nq40, q40⟩ := hQ40
                    have N40 := Fr.app N39 Nq40
                    by_cases hc42 : (own_ch bs_ (k_ + 8)) = (own_ch own_HID 8)
                    · refine o_icmpNo X40 hx (D 88 rfl) (teq hc42).2 <| o_aloadN X40 hx (D 89 rfl) rfl rfl <| o_iloadN X40 hx (D 90 rfl) rfl <| o_bipush X40 hx 9 (D 91 rfl) rfl <| o_iadd X40 hx (D 92 rfl) ?_
                      rw [show ((Int32.ofNat k_) + (9 : Int32)) = (Int32.ofNat (k_ + 9)) from XT.add32n k_ 9]
                      refine o_cv X40 hx hZ1 hown1 (rm_cat hw n_ (k_ + 9) SB (O0.ext E1) (Exa.ext E1 pr0) (Fld.ext E1 pr1) (Fld.ext E1 pr2) (pr3.ext E1) pr4 (by first | rfl | assumption | decide | omega)) w339 w340 w342 w341 w12 w343 (by decide) q40 (Exa.ext E1 pr0) hml rfl [(.int (Int32.ofNat (k_ + 9)))] [] own_pd6 rfl rfl 0 rfl (by decide) (D 93 rfl) fun T43 L43 v43 X43 hQ43 => ?_
                      obtain ⟨rfl, Nq43, q43⟩ := hQ43
                      have N43 := Fr.app N40 Nq43
                      refine o_aloadN X43 hx (D 94 rfl) rfl rfl <| o_bipush X43 hx 9 (D 95 rfl) rfl <| o_cv X43 hx hZ1 hown1 (rm_cat hw 11 9 SB (O0.ext E1) Ex1 Fc1 Fv1 VH3 own_HIDln (by first | rfl | assumption | decide | omega)) w339 w340 w342 w341 w12 w343 (by decide) q43 Ex1 hml rfl [(.int (9 : Int32))] [(.int (own_ch bs_ (k_ + 9)))] own_pd6 rfl rfl 1 rfl (by decide) (D 96 rfl) fun T44 L44 v44 X44 hQ44 => ?_
                      obtain ⟨rfl, Nq44, q44⟩ := hQ44
                      have N44 := Fr.app N43 Nq44
                      by_cases hc46 : (own_ch bs_ (k_ + 9)) = (own_ch own_HID 9)
                      · refine o_icmpNo X44 hx (D 97 rfl) (teq hc46).2 <| o_aloadN X44 hx (D 98 rfl) rfl rfl <| o_iloadN X44 hx (D 99 rfl) rfl <| o_bipush X44 hx 10 (D 100 rfl) rfl <| o_iadd X44 hx (D 101 rfl) ?_
                        rw [show ((Int32.ofNat k_) + (10 : Int32)) = (Int32.ofNat (k_ + 10)) from XT.add32n k_ 10]
                        refine o_cv X44 hx hZ1 hown1 (rm_cat hw n_ (k_ + 10) SB (O0.ext E1) (Exa.ext E1 pr0) (Fld.ext E1 pr1) (Fld.ext E1 pr2) (pr3.ext E1) pr4 (by first | rfl | assumption | decide | omega)) w339 w340 w342 w341 w12 w343 (by decide) q44 (Exa.ext E1 pr0) hml rfl [(.int (Int32.ofNat (k_ + 10)))] [] own_pd6 rfl rfl 0 rfl (by decide) (D 102 rfl) fun T47 L47 v47 X47 hQ47 => ?_
                        obtain ⟨rfl, Nq47, q47⟩ := hQ47
                        have N47 := Fr.app N44 Nq47
                        refine o_aloadN X47 hx (D 103 rfl) rfl rfl <| o_bipush X47 hx 10 (D 104 rfl) rfl <| o_cv X47 hx hZ1 hown1 (rm_cat hw 11 10 SB (O0.ext E1) Ex1 Fc1 Fv1 VH3 own_HIDln (by first | rfl | assumption | decide | omega)) w339 w340 w342 w341 w12 w343 (by decide) q47 Ex1 hml rfl [(.int (10 : Int32))] [(.int (own_ch bs_ (k_ + 10)))] own_pd6 rfl rfl 1 rfl (by decide) (D 105 rfl) fun T48 L48 v48 X48 hQ48 => ?_
                        obtain ⟨rfl, Nq48, q48⟩ := hQ48
                        have N48 := Fr.app N47 Nq48
                        by_cases hc50 : (own_ch bs_ (k_ + 10)) = (own_ch own_HID 10)
                        · refine o_icmpNo X48 hx (D 106 rfl) (teq hc50).2 <| o_iconst X48 hx 1 (D 107 rfl) rfl <| o_goto X48 hx 194 (D 108 rfl) rfl ?_
                          exact oendSN X48 hx hlk hret (by simp) (y := (1 : Int32)) rfl (D 109 rfl) (by decide) q48 hS1 hk1 hZ1 hEL hs0 C1 ⟨congrArg (fun z_ => some (Value.int z_)) (by unfold own_hid; rw [if_neg hc6, if_pos hc10, if_pos hc14, if_pos hc18, if_pos hc22, if_pos hc26, if_pos hc30, if_pos hc34, if_pos hc38, if_pos hc42, if_pos hc46, if_pos hc50]), N48, ((Keep.refl h0 []).ext E1)⟩
                        · refine o_icmpYes X48 hx 193 (D 106 rfl) (feq hc50).2 rfl <| o_iconst X48 hx 0 (D 110 rfl) rfl ?_
                          exact oendSN X48 hx hlk hret (by simp) (y := (0 : Int32)) rfl (D 109 rfl) (by decide) q48 hS1 hk1 hZ1 hEL hs0 C1 ⟨congrArg (fun z_ => some (Value.int z_)) (by unfold own_hid; rw [if_neg hc6, if_pos hc10, if_pos hc14, if_pos hc18, if_pos hc22, if_pos hc26, if_pos hc30, if_pos hc34, if_pos hc38, if_pos hc42, if_pos hc46, if_neg hc50]), N48, ((Keep.refl h0 []).ext E1)⟩
                      · refine o_icmpYes X44 hx 193 (D 97 rfl) (feq hc46).2 rfl <| o_iconst X44 hx 0 (D 110 rfl) rfl ?_
                        exact oendSN X44 hx hlk hret (by simp) (y := (0 : Int32)) rfl (D 109 rfl) (by decide) q44 hS1 hk1 hZ1 hEL hs0 C1 ⟨congrArg (fun z_ => some (Value.int z_)) (by unfold own_hid; rw [if_neg hc6, if_pos hc10, if_pos hc14, if_pos hc18, if_pos hc22, if_pos hc26, if_pos hc30, if_pos hc34, if_pos hc38, if_pos hc42, if_neg hc46]), N44, ((Keep.refl h0 []).ext E1)⟩
                    · refine o_icmpYes X40 hx 193 (D 88 rfl) (feq hc42).2 rfl <| o_iconst X40 hx 0 (D 110 rfl) rfl ?_
                      exact oendSN X40 hx hlk hret (by simp) (y := (0 : Int32)) rfl (D 109 rfl) (by decide) q40 hS1 hk1 hZ1 hEL hs0 C1 ⟨congrArg (fun z_ => some (Value.int z_)) (by unfold own_hid; rw [if_neg hc6, if_pos hc10, if_pos hc14, if_pos hc18, if_pos hc22, if_pos hc26, if_pos hc30, if_pos hc34, if_pos hc38, if_neg hc42]), N40, ((Keep.refl h0 []).ext E1)⟩
                  · refine o_icmpYes X36 hx 193 (D 79 rfl) (feq hc38).2 rfl <| o_iconst X36 hx 0 (D 110 rfl) rfl ?_
                    exact oendSN X36 hx hlk hret (by simp) (y := (0 : Int32)) rfl (D 109 rfl) (by decide) q36 hS1 hk1 hZ1 hEL hs0 C1 ⟨congrArg (fun z_ => some (Value.int z_)) (by unfold own_hid; rw [if_neg hc6, if_pos hc10, if_pos hc14, if_pos hc18, if_pos hc22, if_pos hc26, if_pos hc30, if_pos hc34, if_neg hc38]), N36, ((Keep.refl h0 []).ext E1)⟩
                · refine o_icmpYes X32 hx 193 (D 70 rfl) (feq hc34).2 rfl <| o_iconst X32 hx 0 (D 110 rfl) rfl ?_
                  exact oendSN X32 hx hlk hret (by simp) (y := (0 : Int32)) rfl (D 109 rfl) (by decide) q32 hS1 hk1 hZ1 hEL hs0 C1 ⟨congrArg (fun z_ => some (Value.int z_)) (by unfold own_hid; rw [if_neg hc6, if_pos hc10, if_pos hc14, if_pos hc18, if_pos hc22, if_pos hc26, if_pos hc30, if_neg hc34]), N32, ((Keep.refl h0 []).ext E1)⟩
              · refine o_icmpYes X28 hx 193 (D 61 rfl) (feq hc30).2 rfl <| o_iconst X28 hx 0 (D 110 rfl) rfl ?_
                exact oendSN X28 hx hlk hret (by simp) (y := (0 : Int32)) rfl (D 109 rfl) (by decide) q28 hS1 hk1 hZ1 hEL hs0 C1 ⟨congrArg (fun z_ => some (Value.int z_)) (by unfold own_hid; rw [if_neg hc6, if_pos hc10, if_pos hc14, if_pos hc18, if_pos hc22, if_pos hc26, if_neg hc30]), N28, ((Keep.refl h0 []).ext E1)⟩
            · refine o_icmpYes X24 hx 193 (D 52 rfl) (feq hc26).2 rfl <| o_iconst X24 hx 0 (D 110 rfl) rfl ?_
              exact oendSN X24 hx hlk hret (by simp) (y := (0 : Int32)) rfl (D 109 rfl) (by decide) q24 hS1 hk1 hZ1 hEL hs0 C1 ⟨congrArg (fun z_ => some (Value.int z_)) (by unfold own_hid; rw [if_neg hc6, if_pos hc10, if_pos hc14, if_pos hc18, if_pos hc22, if_neg hc26]), N24, ((Keep.refl h0 []).ext E1)⟩
          · refine o_icmpYes X20 hx 193 (D 43 rfl) (feq hc22).2 rfl <| o_iconst X20 hx 0 (D 110 rfl) rfl ?_
            exact oendSN X20 hx hlk hret (by simp) (y := (0 : Int32)) rfl (D 109 rfl) (by decide) q20 hS1 hk1 hZ1 hEL hs0 C1 ⟨congrArg (fun z_ => some (Value.int z_)) (by unfold own_hid; rw [if_neg hc6, if_pos hc10, if_pos hc14, if_pos hc18, if_neg hc22]), N20, ((Keep.refl h0 []).ext E1)⟩
        · refine o_icmpYes X16 hx 193 (D 34 rfl) (feq hc18).2 rfl <| o_iconst X16 hx 0 (D 110 rfl) rfl ?_
          exact oendSN X16 hx hlk hret (by simp) (y := (0 : Int32)) rfl (D 109 rfl) (by decide) q16 hS1 hk1 hZ1 hEL hs0 C1 ⟨congrArg (fun z_ => some (Value.int z_)) (by unfold own_hid; rw [if_neg hc6, if_pos hc10, if_pos hc14, if_neg hc18]), N16, ((Keep.refl h0 []).ext E1)⟩
      · refine o_icmpYes X12 hx 193 (D 25 rfl) (feq hc14).2 rfl <| o_iconst X12 hx 0 (D 110 rfl) rfl ?_
        exact oendSN X12 hx hlk hret (by simp) (y := (0 : Int32)) rfl (D 109 rfl) (by decide) q12 hS1 hk1 hZ1 hEL hs0 C1 ⟨congrArg (fun z_ => some (Value.int z_)) (by unfold own_hid; rw [if_neg hc6, if_pos hc10, if_neg hc14]), N12, ((Keep.refl h0 []).ext E1)⟩
    · refine o_icmpYes X8 hx 193 (D 16 rfl) (feq hc10).2 rfl <| o_iconst X8 hx 0 (D 110 rfl) rfl ?_
      exact oendSN X8 hx hlk hret (by simp) (y := (0 : Int32)) rfl (D 109 rfl) (by decide) q8 hS1 hk1 hZ1 hEL hs0 C1 ⟨congrArg (fun z_ => some (Value.int z_)) (by unfold own_hid; rw [if_neg hc6, if_neg hc10]), N8, ((Keep.refl h0 []).ext E1)⟩
abbrev cd9 : ByteArray := method_8_code
theorem D9 : own_DD cd9 [(0, .iload_n 1, 1), (1, .ifCond .ge 5, 3), (6, .iload_n 2, 1), (7, .ifCond .ne 5, 3), (10, .iload_n 1, 1), (11, .ireturn, 1), (12, .iload 4, 2), (14, .ifCond .eq 27, 3), (41, .iload_n 1, 1), (42, .aload_n 0, 1), (43, .invokevirtual 51, 3), (46, .if_icmp .ge 12, 3), (49, .aload_n 0, 1), (50, .iload_n 1, 1), (51, .invokevirtual 64, 3), (54, .iload_n 3, 1), (55, .if_icmp .eq 5, 3), (60, .iload_n 1, 1), (61, .iconst 1, 1), (62, .iadd, 1), (63, .ireturn, 1), (58, .iconst (-1), 1), (59, .ireturn, 1), (17, .iload 5, 2), (19, .ifCond .eq 5, 3), (24, .aload_n 0, 1), (25, .iload_n 1, 1), (26, .invokestatic 68, 3), (29, .ifCond .eq 10, 3), (39, .iconst (-1), 1), (40, .ireturn, 1), (32, .iload_n 1, 1), (33, .bipush 11, 2), (35, .iadd, 1), (36, .goto 4, 3), (22, .iload_n 1, 1), (23, .ireturn, 1)] := own_dk (by decide +kernel)
def own_Q_stp0 (Z : State)  (x_ : Addr) (k_ : Nat) (c_ v_ w_ : Int32) (h0 : Heap) (n0 : Nat) (v : Option Value) (h : Heap) (L : List Loc) : Prop := (v = some (.int (Int32.ofNat k_))) ∧ (Fr n0 L) ∧ (h = h0)
abbrev yM8 : MethodName := ⟨"com/example/reliquary/reliquary/SecretsHidePinLaw", "step", "(Ljava/lang/String;IZCZZ)I"⟩
theorem rm_stp0 {l : Launch} {Z : State} {a0 : Array Value} (hw : own_hw a0 Z)   (x_ : Addr) (k_ : Nat) (c_ v_ w_ : Int32) {h0 : Heap} {n0 : Nat} (O0 : Old Z n0 h0) (pr0 : k_ ≤ 99) :
    oMet l Z yM8 method_8_code 6 (some .int) [] (rmo 0 0 0 0) 0 0 #[(.ref x_), (.int (Int32.ofNat k_)), (.int (0 : Int32)), (.int c_), (.int v_), (.int w_)] h0 (own_Q_stp0 Z  x_ k_ c_ v_ w_ h0 n0) := by
  refine oenter (plainFor_of_name own_pn3) #[vr x_, vi (Int32.ofNat k_), vi (0 : Int32), vi c_, vi v_, vi w_] (fun _ => rfl) ?_
  intro p e s m below meth c s₁ X0 hx hZ hby hml hret hown hnm hlk e0
  have N0 := Fr.nil n0
  have D := own_hb hby D9
  have W := own_w hw
  refine o_iloadN X0 hx (D 0 rfl) rfl <| o_ifYes X0 hx 6 (D 1 rfl) (flt (show ¬ ((Int32.ofNat k_) < (0 : Int32)) from XT.nlt32 (a := k_) (b := 0) (by omega) (by omega))).2.1 rfl <| o_iloadN X0 hx (D 2 rfl) rfl <| o_ifNo X0 hx (D 3 rfl) (teq (by decide : (0 : Int32) = (0 : Int32))).2 <| o_iloadN X0 hx (D 4 rfl) rfl ?_
  exact oendI X0 hx hlk hret (D 5 rfl) (by decide) e0 ⟨rfl, N0, rfl⟩
theorem own_pd7 : parseMethodDescriptor "(Ljava/lang/String;I)Z" = some ⟨[(.object "java/lang/String"), .int], some .boolean⟩ := by decide +kernel
def own_Q_stp1 (Z : State) (z_CS : Int32) (v_FMT : Value) (s_DC : Addr) (k_DC : ClassId) (v_IO : Value) (x_ ba_ : Addr) (kb_ : ClassId) (bs_ : List Int32) (n_ k_ : Nat) (c_ v_ w_ : Int32) (h0 : Heap) (n0 : Nat) (v : Option Value) (h : Heap) (L : List Loc) : Prop := (v = some (.int (own_step bs_ n_ k_ c_ v_ w_))) ∧ (Fr n0 L) ∧ (Keep h0 h [])
theorem rm_stp1 {l : Launch} {Z : State} {a0 : Array Value} (hw : own_hw a0 Z) {z_CS : Int32} {v_FMT : Value} {s_DC : Addr} {k_DC : ClassId} {v_IO : Value} {x_ ba_ : Addr} {kb_ : ClassId} {bs_ : List Int32} (n_ k_ : Nat) (c_ v_ w_ : Int32) {h0 : Heap} {n0 : Nat} (SB : own_Start Z z_CS v_FMT s_DC k_DC v_IO) (O0 : Old Z n0 h0) (pr0 : Exa Z h0 x_ "java/lang/String") (pr1 : Fld Z h0 x_ "java/lang/String" "coder" "B" (.int (0 : Int32))) (pr2 : Fld Z h0 x_ "java/lang/String" "value" "[B" (.ref ba_)) (pr3 : Arv Z h0 ba_ kb_ .byte (Int32.ofNat n_) (own_vs bs_) (.int 0)) (pr4 : bs_.length = n_ ∧ n_ ≤ 99) (pr5 : k_ ≤ 99) :
    oMetS l Z yM8 method_8_code 6 (some .int) [] (rmo 5 2 48 68) 2 48 #[(.ref x_), (.int (Int32.ofNat k_)), (.int (1 : Int32)), (.int c_), (.int v_), (.int w_)] h0 (own_Q_stp1 Z z_CS v_FMT s_DC k_DC v_IO x_ ba_ kb_ bs_ n_ k_ c_ v_ w_ h0 n0) := by
  refine oenterS (plainFor_of_name own_pn3) #[vr x_, vi (Int32.ofNat k_), vi (1 : Int32), vi c_, vi v_, vi w_] (fun _ => rfl) ?_
  intro p e s m below meth c s₁ X0 hx hZ hby hml hret hown hnm hlk e0 hs0 H0 hS0
  have hEL := own_EW hw
  have wS := own_wS hw
  have N0 := Fr.nil n0
  have D := own_hb hby D9
  have W := own_w hw
  refine o_iloadN X0 hx (D 0 rfl) rfl <| o_ifYes X0 hx 6 (D 1 rfl) (flt (show ¬ ((Int32.ofNat k_) < (0 : Int32)) from XT.nlt32 (a := k_) (b := 0) (by omega) (by omega))).2.1 rfl <| o_iloadN X0 hx (D 2 rfl) rfl <| o_ifYes X0 hx 12 (D 3 rfl) (feq (by decide : ¬ ((1 : Int32) = (0 : Int32)))).2 rfl <| o_iload X0 hx (D 6 rfl) rfl ?_
  by_cases hc2 : v_ = (0 : Int32)
  · refine o_ifYes X0 hx 41 (D 7 rfl) (teq hc2).1 rfl <| o_iloadN X0 hx (D 8 rfl) rfl <| o_aloadN X0 hx (D 9 rfl) rfl rfl <| o_cv X0 hx hZ hown (rm_slen hw n_ SB O0 pr0 pr1 pr2 pr3) (W 328 rfl) (W 165 rfl) (W 167 rfl) (W 166 rfl) (W 12 rfl) (W 168 rfl) (by decide) e0 pr0 hml rfl [] [(.int (Int32.ofNat k_))] own_pd5 rfl rfl 1 rfl (by decide) (D 10 rfl) fun T3 L3 v3 X3 hQ3 => ?_
    obtain ⟨rfl, Nq3, q3⟩ := hQ3
    have N3 := Fr.app N0 Nq3
    by_cases hc5 : k_ < n_
    · refine o_icmpNo X3 hx (D 11 rfl) (tlt (show (Int32.ofNat k_) < (Int32.ofNat n_) from XT.lt32 (a := k_) (b := n_) (by omega) (by omega))).2.1 <| o_aloadN X3 hx (D 12 rfl) rfl rfl <| o_iloadN X3 hx (D 13 rfl) rfl <| o_cv X3 hx hZ hown (rm_cat hw n_ k_ SB O0 pr0 pr1 pr2 pr3 pr4 (by first | rfl | assumption | decide | omega)) (W 339 rfl) (W 340 rfl) (W 342 rfl) (W 341 rfl) (W 12 rfl) (W 343 rfl) (by decide) q3 pr0 hml rfl [(.int (Int32.ofNat k_))] [] own_pd6 rfl rfl 0 rfl (by decide) (D 14 rfl) fun T6 L6 v6 X6 hQ6 => ?_
      obtain ⟨rfl, Nq6, q6⟩ := hQ6
      have N6 := Fr.app N3 Nq6
      refine o_iloadN X6 hx (D 15 rfl) rfl ?_
      by_cases hc8 : (own_ch bs_ k_) = c_
      · refine o_icmpYes X6 hx 60 (D 16 rfl) (teq hc8).1 rfl <| o_iloadN X6 hx (D 17 rfl) rfl <| o_iconst X6 hx 1 (D 18 rfl) rfl <| o_iadd X6 hx (D 19 rfl) ?_
        rw [show ((Int32.ofNat k_) + (1 : Int32)) = (Int32.ofNat (k_ + 1)) from XT.add32n k_ 1]
        exact oendSI X6 hx hlk hret (D 20 rfl) (by decide) q6 hS0 (Nat.zero_le _) hZ hEL hs0 (CHr.refl H0) ⟨congrArg (fun z_ => some (Value.int z_)) (by unfold own_step; rw [if_pos hc2, if_pos hc5, if_pos hc8]), N6, (Keep.refl h0 [])⟩
      · refine o_icmpNo X6 hx (D 16 rfl) (feq hc8).1 <| o_iconst X6 hx (-1) (D 21 rfl) rfl ?_
        exact oendSI X6 hx hlk hret (D 22 rfl) (by decide) q6 hS0 (Nat.zero_le _) hZ hEL hs0 (CHr.refl H0) ⟨congrArg (fun z_ => some (Value.int z_)) (by unfold own_step; rw [if_pos hc2, if_pos hc5, if_neg hc8]), N6, (Keep.refl h0 [])⟩
    · refine o_icmpYes X3 hx 58 (D 11 rfl) (flt (show ¬ ((Int32.ofNat k_) < (Int32.ofNat n_)) from XT.nlt32 (a := k_) (b := n_) (by omega) (by omega))).2.1 rfl <| o_iconst X3 hx (-1) (D 21 rfl) rfl ?_
      exact oendSI X3 hx hlk hret (D 22 rfl) (by decide) q3 hS0 (Nat.zero_le _) hZ hEL hs0 (CHr.refl H0) ⟨congrArg (fun z_ => some (Value.int z_)) (by unfold own_step; rw [if_pos hc2, if_neg hc5]), N3, (Keep.refl h0 [])⟩
  · refine o_ifNo X0 hx (D 7 rfl) (feq hc2).1 <| o_iload X0 hx (D 23 rfl) rfl ?_
    by_cases hc10 : w_ = (0 : Int32)
    · refine o_ifYes X0 hx 24 (D 24 rfl) (teq hc10).1 rfl <| o_aloadN X0 hx (D 25 rfl) rfl rfl <| o_iloadN X0 hx (D 26 rfl) rfl <| o_cSS X0 hx hZ hown (rm_hida hw n_ k_ SB O0 pr0 pr1 pr2 pr3 pr4 pr5) (W 484 rfl) (W 485 rfl) (W 5 rfl) (W 486 rfl) (by decide) e0 hS0 (Nat.zero_le _) hEL H0 hml rfl [(.ref x_), (.int (Int32.ofNat k_))] [] own_pd7 rfl rfl 0 rfl (by decide) (D 27 rfl) fun T11 L11 v11 X11 hS11 hZ11 hown11 C11 hQ11 => ?_
      obtain ⟨rfl, Nq11, K11⟩ := hQ11
      have N11 := Fr.app N0 Nq11
      have H12 := C11.1
      by_cases hc14 : (own_hid bs_ n_ k_) = (0 : Int32)
      · refine o_ifYes X11 hx 39 (D 28 rfl) (teq hc14).1 rfl <| o_iconst X11 hx (-1) (D 29 rfl) rfl ?_
        exact oendSI X11 hx hlk hret (D 30 rfl) (by decide) rfl hS11 (Nat.le_refl _) hZ11 hEL hs0 C11 ⟨congrArg (fun z_ => some (Value.int z_)) (by unfold own_step; rw [if_neg hc2, if_pos hc10, if_pos hc14]), N11, ((Keep.refl h0 []).trans K11 all0)⟩
      · refine o_ifNo X11 hx (D 28 rfl) (feq hc14).1 <| o_iloadN X11 hx (D 31 rfl) rfl <| o_bipush X11 hx 11 (D 32 rfl) rfl <| o_iadd X11 hx (D 33 rfl) ?_
        rw [show ((Int32.ofNat k_) + (11 : Int32)) = (Int32.ofNat (k_ + 11)) from XT.add32n k_ 11]
        refine o_goto X11 hx 40 (D 34 rfl) rfl ?_
        exact oendSI X11 hx hlk hret (D 30 rfl) (by decide) rfl hS11 (Nat.le_refl _) hZ11 hEL hs0 C11 ⟨congrArg (fun z_ => some (Value.int z_)) (by unfold own_step; rw [if_neg hc2, if_pos hc10, if_neg hc14]), N11, ((Keep.refl h0 []).trans K11 all0)⟩
    · refine o_ifNo X0 hx (D 24 rfl) (feq hc10).1 <| o_iloadN X0 hx (D 35 rfl) rfl ?_
      exact oendSI X0 hx hlk hret (D 36 rfl) (by decide) e0 hS0 (Nat.zero_le _) hZ hEL hs0 (CHr.refl H0) ⟨congrArg (fun z_ => some (Value.int z_)) (by unfold own_step; rw [if_neg hc2, if_neg hc10]), N0, (Keep.refl h0 [])⟩
theorem own_i4 {i : Nat} {n : Int32} (h : i ≤ 3) (h4 : ¬ (4 : Int32) < n) (q : Int32.ofNat (i + 1) < n) : i + 1 < 4 := by
  by_cases e : i = 3
  · subst e; exact absurd q h4
  · omega
abbrev cd10 : ByteArray := method_6_code
theorem D10 : own_DD cd10 [(0, .iload_n 2, 1), (1, .iload_n 1, 1), (2, .if_icmp .ge 8, 3), (5, .iload 5, 2), (7, .ifCond .ne 5, 3), (10, .iconst 0, 1), (11, .ireturn, 1), (12, .iload 5, 2), (14, .iconst 1, 1), (15, .if_icmp .ne 16, 3), (18, .aload_n 0, 1), (19, .iload_n 2, 1), (20, .caload, 1), (21, .iload_n 3, 1), (22, .if_icmp .ne 7, 3), (25, .iconst 1, 1), (26, .goto 4, 3), (30, .ireturn, 1), (29, .iconst 0, 1), (62, .iload_n 2, 1), (63, .iconst 1, 1), (64, .if_icmp .lt 24, 3), (88, .iconst 0, 1), (89, .istore 7, 2), (91, .iload 6, 2), (93, .ifCond .ne 8, 3), (96, .iload 7, 2), (98, .ifCond .eq 7, 3), (105, .iconst 0, 1), (106, .ireturn, 1), (101, .iconst 1, 1), (102, .goto 4, 3), (67, .aload_n 0, 1), (68, .iload_n 2, 1), (69, .iconst 1, 1), (70, .isub, 1), (71, .caload, 1), (72, .iload_n 3, 1), (73, .if_icmp .ne 15, 3), (76, .aload_n 0, 1), (77, .iload_n 2, 1), (78, .caload, 1), (79, .iload 4, 2), (81, .if_icmp .ne 7, 3), (84, .iconst 1, 1), (85, .goto 4, 3), (31, .iload_n 2, 1), (32, .iconst 1, 1), (33, .iadd, 1), (34, .iload_n 1, 1), (35, .if_icmp .ge 24, 3), (38, .aload_n 0, 1), (39, .iload_n 2, 1), (40, .caload, 1), (41, .iload_n 3, 1), (42, .if_icmp .ne 17, 3), (45, .aload_n 0, 1), (46, .iload_n 2, 1), (47, .iconst 1, 1), (48, .iadd, 1), (49, .caload, 1), (50, .iload 4, 2), (52, .if_icmp .ne 7, 3), (55, .iconst 1, 1), (56, .goto 4, 3), (60, .istore 6, 2), (59, .iconst 0, 1)] := own_dk (by decide +kernel)
def own_Q_cvx (Z : State)  (ca_ : Addr) (kc_ : ClassId) (ts_ : List Int32) (i_ : Nat) (n_ a_ b_ m_ : Int32) (h0 : Heap) (n0 : Nat) (v : Option Value) (h : Heap) (L : List Loc) : Prop := (v = some (.int (own_cov (ts_.getD (i_ - 1) 0) (ts_.getD i_ 0) (ts_.getD (i_ + 1) 0) (Int32.ofNat i_) (Int32.ofNat (i_ + 1)) n_ a_ b_ m_))) ∧ (Fr n0 L) ∧ (h = h0)
abbrev yM9 : MethodName := ⟨"com/example/reliquary/reliquary/SecretsHidePinLaw", "cov", "([CIICCI)Z"⟩
theorem rm_cvx {l : Launch} {Z : State} {a0 : Array Value} (hw : own_hw a0 Z)  {ca_ : Addr} {kc_ : ClassId} {ts_ : List Int32} (i_ : Nat) (n_ a_ b_ m_ : Int32) {h0 : Heap} {n0 : Nat} (O0 : Old Z n0 h0) (pr0 : Arv Z h0 ca_ kc_ .char (Int32.ofNat 4) (own_vs ts_) (.int 0)) (pr1 : ts_.length = 4) (pr2 : i_ ≤ 3) (pr3 : ¬ ((4 : Int32) < n_)) :
    oMet l Z yM9 method_6_code 8 (some .boolean) [] (rmo 0 0 0 0) 0 0 #[(.ref ca_), (.int n_), (.int (Int32.ofNat i_)), (.int a_), (.int b_), (.int m_)] h0 (own_Q_cvx Z  ca_ kc_ ts_ i_ n_ a_ b_ m_ h0 n0) := by
  refine oenter (plainFor_of_name own_pn3) #[vr ca_, vi n_, vi (Int32.ofNat i_), vi a_, vi b_, vi m_, .unset, .unset] (fun _ => rfl) ?_
  intro p e s m below meth c s₁ X0 hx hZ hby hml hret hown hnm hlk e0
  have N0 := Fr.nil n0
  have D := own_hb hby D10
  have W := own_w hw
  refine o_iloadN X0 hx (D 0 rfl) rfl <| o_iloadN X0 hx (D 1 rfl) rfl ?_
  by_cases hc2 : (Int32.ofNat i_) < n_
  · refine o_icmpNo X0 hx (D 2 rfl) (tlt hc2).2.1 <| o_iload X0 hx (D 3 rfl) rfl ?_
    by_cases hc4 : m_ = (0 : Int32)
    · refine o_ifNo X0 hx (D 4 rfl) (teq hc4).2 <| o_iconst X0 hx 0 (D 5 rfl) rfl ?_
      exact oendN X0 hx hlk hret (by simp) (y := (0 : Int32)) rfl (D 6 rfl) (by decide) e0 ⟨congrArg (fun z_ => some (Value.int z_)) (by unfold own_cov; rw [if_pos hc2, if_pos hc4]), N0, rfl⟩
    · refine o_ifYes X0 hx 12 (D 4 rfl) (feq hc4).2 rfl <| o_iload X0 hx (D 7 rfl) rfl <| o_iconst X0 hx 1 (D 8 rfl) rfl ?_
      by_cases hc6 : m_ = (1 : Int32)
      · refine o_icmpNo X0 hx (D 9 rfl) (teq hc6).2 <| o_aloadN X0 hx (D 10 rfl) rfl rfl <| o_iloadN X0 hx (D 11 rfl) rfl <| o_cal X0 hx hZ e0 pr0 (own_inb (i := i_) (n := 4) (by omega) (by omega)) (v := (.int (ts_.getD i_ 0))) (own_vsat (i := i_) (by omega)) (D 12 rfl) <| o_iloadN X0 hx (D 13 rfl) rfl ?_
        by_cases hc8 : (ts_.getD i_ 0) = a_
        · refine o_icmpNo X0 hx (D 14 rfl) (teq hc8).2 <| o_iconst X0 hx 1 (D 15 rfl) rfl <| o_goto X0 hx 30 (D 16 rfl) rfl ?_
          exact oendN X0 hx hlk hret (by simp) (y := (1 : Int32)) rfl (D 17 rfl) (by decide) e0 ⟨congrArg (fun z_ => some (Value.int z_)) (by unfold own_cov; rw [if_pos hc2, if_neg hc4, if_pos hc6, if_pos hc8]), N0, rfl⟩
        · refine o_icmpYes X0 hx 29 (D 14 rfl) (feq hc8).2 rfl <| o_iconst X0 hx 0 (D 18 rfl) rfl ?_
          exact oendN X0 hx hlk hret (by simp) (y := (0 : Int32)) rfl (D 17 rfl) (by decide) e0 ⟨congrArg (fun z_ => some (Value.int z_)) (by unfold own_cov; rw [if_pos hc2, if_neg hc4, if_pos hc6, if_neg hc8]), N0, rfl⟩
      · refine o_icmpYes X0 hx 31 (D 9 rfl) (feq hc6).2 rfl ?_
        have tl_ : ∀ (y6_ : Int32), (y6_ = if (Int32.ofNat (i_ + 1)) < n_ ∧ (ts_.getD i_ 0) = a_ ∧ (ts_.getD (i_ + 1) 0) = b_ then (1 : Int32) else (0 : Int32)) → Own p e below (oPost (own_Q_cvx Z  ca_ kc_ ts_ i_ n_ a_ b_ m_ h0 n0) s 0 0) (s₁.setTop (mkF m 62 #[vr ca_, vi n_, vi (Int32.ofNat i_), vi a_, vi b_, vi m_, vi y6_, .unset] [])) := by
          intro y6_ hy6
          refine o_iloadN X0 hx (D 19 rfl) rfl <| o_iconst X0 hx 1 (D 20 rfl) rfl ?_
          by_cases hc10 : i_ < 1
          · refine o_icmpYes X0 hx 88 (D 21 rfl) (tlt (show (Int32.ofNat i_) < (1 : Int32) from XT.lt32 (a := i_) (b := 1) (by omega) (by omega))).1 rfl ?_
            have h1i : (Int32.ofNat i_) < (1 : Int32) := (show (Int32.ofNat i_) < (1 : Int32) from XT.lt32 (a := i_) (b := 1) (by omega) (by omega))
            refine o_iconst X0 hx 0 (D 22 rfl) rfl <| o_istore X0 hx (l' := #[vr ca_, vi n_, vi (Int32.ofNat i_), vi a_, vi b_, vi m_, vi y6_, vi (0 : Int32)]) (D 23 rfl) rfl <| o_iload X0 hx (D 24 rfl) rfl ?_
            by_cases hc12 : y6_ = (0 : Int32)
            · refine o_ifNo X0 hx (D 25 rfl) (teq hc12).2 <| o_iload X0 hx (D 26 rfl) rfl <| o_ifYes X0 hx 105 (D 27 rfl) (teq (by decide : (0 : Int32) = (0 : Int32))).1 rfl <| o_iconst X0 hx 0 (D 28 rfl) rfl ?_
              have hP : ¬ ((Int32.ofNat (i_ + 1)) < n_ ∧ (ts_.getD i_ 0) = a_ ∧ (ts_.getD (i_ + 1) 0) = b_) := fun q => absurd (hc12.symm.trans (hy6.trans (if_pos q))) (by decide)
              exact oendN X0 hx hlk hret (by simp) (y := (0 : Int32)) rfl (D 29 rfl) (by decide) e0 ⟨congrArg (fun z_ => some (Value.int z_)) (by unfold own_cov; rw [if_pos hc2, if_neg hc4, if_neg hc6, if_neg hP, if_neg (fun q => q.1 h1i)]), N0, rfl⟩
            · refine o_ifYes X0 hx 101 (D 25 rfl) (feq hc12).2 rfl <| o_iconst X0 hx 1 (D 30 rfl) rfl <| o_goto X0 hx 106 (D 31 rfl) rfl ?_
              have hP : (Int32.ofNat (i_ + 1)) < n_ ∧ (ts_.getD i_ 0) = a_ ∧ (ts_.getD (i_ + 1) 0) = b_ := by by_cases q : (Int32.ofNat (i_ + 1)) < n_ ∧ (ts_.getD i_ 0) = a_ ∧ (ts_.getD (i_ + 1) 0) = b_; exact q; exact absurd (hy6.trans (if_neg q)) hc12
              exact oendN X0 hx hlk hret (by simp) (y := (1 : Int32)) rfl (D 29 rfl) (by decide) e0 ⟨congrArg (fun z_ => some (Value.int z_)) (by unfold own_cov; rw [if_pos hc2, if_neg hc4, if_neg hc6, if_pos hP]), N0, rfl⟩
          · refine o_icmpNo X0 hx (D 21 rfl) (flt (show ¬ ((Int32.ofNat i_) < (1 : Int32)) from XT.nlt32 (a := i_) (b := 1) (by omega) (by omega))).1 ?_
            have h1i : ¬ (Int32.ofNat i_) < (1 : Int32) := (show ¬ ((Int32.ofNat i_) < (1 : Int32)) from XT.nlt32 (a := i_) (b := 1) (by omega) (by omega))
            refine o_aloadN X0 hx (D 32 rfl) rfl rfl <| o_iloadN X0 hx (D 33 rfl) rfl <| o_iconst X0 hx 1 (D 34 rfl) rfl <| o_isub X0 hx (D 35 rfl) ?_
            rw [show ((Int32.ofNat i_) - (1 : Int32)) = (Int32.ofNat (i_ - 1)) from XT.sub32n (a := i_) (b := 1) (by omega)]
            refine o_cal X0 hx hZ e0 pr0 (own_inb (i := (i_ - 1)) (n := 4) (by omega) (by omega)) (v := (.int (ts_.getD (i_ - 1) 0))) (own_vsat (i := (i_ - 1)) (by omega)) (D 36 rfl) <| o_iloadN X0 hx (D 37 rfl) rfl ?_
            by_cases hc14 : (ts_.getD (i_ - 1) 0) = a_
            · refine o_icmpNo X0 hx (D 38 rfl) (teq hc14).2 <| o_aloadN X0 hx (D 39 rfl) rfl rfl <| o_iloadN X0 hx (D 40 rfl) rfl <| o_cal X0 hx hZ e0 pr0 (own_inb (i := i_) (n := 4) (by omega) (by omega)) (v := (.int (ts_.getD i_ 0))) (own_vsat (i := i_) (by omega)) (D 41 rfl) <| o_iload X0 hx (D 42 rfl) rfl ?_
              by_cases hc16 : (ts_.getD i_ 0) = b_
              · refine o_icmpNo X0 hx (D 43 rfl) (teq hc16).2 <| o_iconst X0 hx 1 (D 44 rfl) rfl <| o_goto X0 hx 89 (D 45 rfl) rfl <| o_istore X0 hx (l' := #[vr ca_, vi n_, vi (Int32.ofNat i_), vi a_, vi b_, vi m_, vi y6_, vi (1 : Int32)]) (D 23 rfl) rfl <| o_iload X0 hx (D 24 rfl) rfl ?_
                by_cases hc18 : y6_ = (0 : Int32)
                · refine o_ifNo X0 hx (D 25 rfl) (teq hc18).2 <| o_iload X0 hx (D 26 rfl) rfl <| o_ifNo X0 hx (D 27 rfl) (feq (by decide : ¬ ((1 : Int32) = (0 : Int32)))).1 <| o_iconst X0 hx 1 (D 30 rfl) rfl <| o_goto X0 hx 106 (D 31 rfl) rfl ?_
                  have hP : ¬ ((Int32.ofNat (i_ + 1)) < n_ ∧ (ts_.getD i_ 0) = a_ ∧ (ts_.getD (i_ + 1) 0) = b_) := fun q => absurd (hc18.symm.trans (hy6.trans (if_pos q))) (by decide)
                  exact oendN X0 hx hlk hret (by simp) (y := (1 : Int32)) rfl (D 29 rfl) (by decide) e0 ⟨congrArg (fun z_ => some (Value.int z_)) (by unfold own_cov; rw [if_pos hc2, if_neg hc4, if_neg hc6, if_neg hP, if_pos ⟨h1i, hc14, hc16⟩]), N0, rfl⟩
                · refine o_ifYes X0 hx 101 (D 25 rfl) (feq hc18).2 rfl <| o_iconst X0 hx 1 (D 30 rfl) rfl <| o_goto X0 hx 106 (D 31 rfl) rfl ?_
                  have hP : (Int32.ofNat (i_ + 1)) < n_ ∧ (ts_.getD i_ 0) = a_ ∧ (ts_.getD (i_ + 1) 0) = b_ := by by_cases q : (Int32.ofNat (i_ + 1)) < n_ ∧ (ts_.getD i_ 0) = a_ ∧ (ts_.getD (i_ + 1) 0) = b_; exact q; exact absurd (hy6.trans (if_neg q)) hc18
                  exact oendN X0 hx hlk hret (by simp) (y := (1 : Int32)) rfl (D 29 rfl) (by decide) e0 ⟨congrArg (fun z_ => some (Value.int z_)) (by unfold own_cov; rw [if_pos hc2, if_neg hc4, if_neg hc6, if_pos hP]), N0, rfl⟩
              · refine o_icmpYes X0 hx 88 (D 43 rfl) (feq hc16).2 rfl <| o_iconst X0 hx 0 (D 22 rfl) rfl <| o_istore X0 hx (l' := #[vr ca_, vi n_, vi (Int32.ofNat i_), vi a_, vi b_, vi m_, vi y6_, vi (0 : Int32)]) (D 23 rfl) rfl <| o_iload X0 hx (D 24 rfl) rfl ?_
                by_cases hc20 : y6_ = (0 : Int32)
                · refine o_ifNo X0 hx (D 25 rfl) (teq hc20).2 <| o_iload X0 hx (D 26 rfl) rfl <| o_ifYes X0 hx 105 (D 27 rfl) (teq (by decide : (0 : Int32) = (0 : Int32))).1 rfl <| o_iconst X0 hx 0 (D 28 rfl) rfl ?_
                  have hP : ¬ ((Int32.ofNat (i_ + 1)) < n_ ∧ (ts_.getD i_ 0) = a_ ∧ (ts_.getD (i_ + 1) 0) = b_) := fun q => absurd (hc20.symm.trans (hy6.trans (if_pos q))) (by decide)
                  exact oendN X0 hx hlk hret (by simp) (y := (0 : Int32)) rfl (D 29 rfl) (by decide) e0 ⟨congrArg (fun z_ => some (Value.int z_)) (by unfold own_cov; rw [if_pos hc2, if_neg hc4, if_neg hc6, if_neg hP, if_neg (fun q => hc16 q.2.2)]), N0, rfl⟩
                · refine o_ifYes X0 hx 101 (D 25 rfl) (feq hc20).2 rfl <| o_iconst X0 hx 1 (D 30 rfl) rfl <| o_goto X0 hx 106 (D 31 rfl) rfl ?_
                  have hP : (Int32.ofNat (i_ + 1)) < n_ ∧ (ts_.getD i_ 0) = a_ ∧ (ts_.getD (i_ + 1) 0) = b_ := by by_cases q : (Int32.ofNat (i_ + 1)) < n_ ∧ (ts_.getD i_ 0) = a_ ∧ (ts_.getD (i_ + 1) 0) = b_; exact q; exact absurd (hy6.trans (if_neg q)) hc20
                  exact oendN X0 hx hlk hret (by simp) (y := (1 : Int32)) rfl (D 29 rfl) (by decide) e0 ⟨congrArg (fun z_ => some (Value.int z_)) (by unfold own_cov; rw [if_pos hc2, if_neg hc4, if_neg hc6, if_pos hP]), N0, rfl⟩
            · refine o_icmpYes X0 hx 88 (D 38 rfl) (feq hc14).2 rfl <| o_iconst X0 hx 0 (D 22 rfl) rfl <| o_istore X0 hx (l' := #[vr ca_, vi n_, vi (Int32.ofNat i_), vi a_, vi b_, vi m_, vi y6_, vi (0 : Int32)]) (D 23 rfl) rfl <| o_iload X0 hx (D 24 rfl) rfl ?_
              by_cases hc22 : y6_ = (0 : Int32)
              · refine o_ifNo X0 hx (D 25 rfl) (teq hc22).2 <| o_iload X0 hx (D 26 rfl) rfl <| o_ifYes X0 hx 105 (D 27 rfl) (teq (by decide : (0 : Int32) = (0 : Int32))).1 rfl <| o_iconst X0 hx 0 (D 28 rfl) rfl ?_
                have hP : ¬ ((Int32.ofNat (i_ + 1)) < n_ ∧ (ts_.getD i_ 0) = a_ ∧ (ts_.getD (i_ + 1) 0) = b_) := fun q => absurd (hc22.symm.trans (hy6.trans (if_pos q))) (by decide)
                exact oendN X0 hx hlk hret (by simp) (y := (0 : Int32)) rfl (D 29 rfl) (by decide) e0 ⟨congrArg (fun z_ => some (Value.int z_)) (by unfold own_cov; rw [if_pos hc2, if_neg hc4, if_neg hc6, if_neg hP, if_neg (fun q => hc14 q.2.1)]), N0, rfl⟩
              · refine o_ifYes X0 hx 101 (D 25 rfl) (feq hc22).2 rfl <| o_iconst X0 hx 1 (D 30 rfl) rfl <| o_goto X0 hx 106 (D 31 rfl) rfl ?_
                have hP : (Int32.ofNat (i_ + 1)) < n_ ∧ (ts_.getD i_ 0) = a_ ∧ (ts_.getD (i_ + 1) 0) = b_ := by by_cases q : (Int32.ofNat (i_ + 1)) < n_ ∧ (ts_.getD i_ 0) = a_ ∧ (ts_.getD (i_ + 1) 0) = b_; exact q; exact absurd (hy6.trans (if_neg q)) hc22
                exact oendN X0 hx hlk hret (by simp) (y := (1 : Int32)) rfl (D 29 rfl) (by decide) e0 ⟨congrArg (fun z_ => some (Value.int z_)) (by unfold own_cov; rw [if_pos hc2, if_neg hc4, if_neg hc6, if_pos hP]), N0, rfl⟩
        refine o_iloadN X0 hx (D 46 rfl) rfl <| o_iconst X0 hx 1 (D 47 rfl) rfl <| o_iadd X0 hx (D 48 rfl) ?_
        rw [show ((Int32.ofNat i_) + (1 : Int32)) = (Int32.ofNat (i_ + 1)) from XT.add32n i_ 1]
        refine o_iloadN X0 hx (D 49 rfl) rfl ?_
        by_cases hc24 : (Int32.ofNat (i_ + 1)) < n_
        · refine o_icmpNo X0 hx (D 50 rfl) (tlt hc24).2.1 <| o_aloadN X0 hx (D 51 rfl) rfl rfl <| o_iloadN X0 hx (D 52 rfl) rfl <| o_cal X0 hx hZ e0 pr0 (own_inb (i := i_) (n := 4) (by omega) (by omega)) (v := (.int (ts_.getD i_ 0))) (own_vsat (i := i_) (by omega)) (D 53 rfl) <| o_iloadN X0 hx (D 54 rfl) rfl ?_
          by_cases hc26 : (ts_.getD i_ 0) = a_
          · refine o_icmpNo X0 hx (D 55 rfl) (teq hc26).2 <| o_aloadN X0 hx (D 56 rfl) rfl rfl <| o_iloadN X0 hx (D 57 rfl) rfl <| o_iconst X0 hx 1 (D 58 rfl) rfl <| o_iadd X0 hx (D 59 rfl) ?_
            rw [show ((Int32.ofNat i_) + (1 : Int32)) = (Int32.ofNat (i_ + 1)) from XT.add32n i_ 1]
            have hi1 := own_i4 pr2 pr3 hc24
            refine o_cal X0 hx hZ e0 pr0 (own_inb (i := (i_ + 1)) (n := 4) (by omega) (by omega)) (v := (.int (ts_.getD (i_ + 1) 0))) (own_vsat (i := (i_ + 1)) (by omega)) (D 60 rfl) <| o_iload X0 hx (D 61 rfl) rfl ?_
            by_cases hc28 : (ts_.getD (i_ + 1) 0) = b_
            · refine o_icmpNo X0 hx (D 62 rfl) (teq hc28).2 <| o_iconst X0 hx 1 (D 63 rfl) rfl <| o_goto X0 hx 60 (D 64 rfl) rfl <| o_istore X0 hx (l' := #[vr ca_, vi n_, vi (Int32.ofNat i_), vi a_, vi b_, vi m_, vi (1 : Int32), .unset]) (D 65 rfl) rfl ?_
              exact tl_ _ (if_pos ⟨hc24, hc26, hc28⟩).symm
            · refine o_icmpYes X0 hx 59 (D 62 rfl) (feq hc28).2 rfl <| o_iconst X0 hx 0 (D 66 rfl) rfl <| o_istore X0 hx (l' := #[vr ca_, vi n_, vi (Int32.ofNat i_), vi a_, vi b_, vi m_, vi (0 : Int32), .unset]) (D 65 rfl) rfl ?_
              exact tl_ _ (if_neg (fun q => hc28 q.2.2)).symm
          · refine o_icmpYes X0 hx 59 (D 55 rfl) (feq hc26).2 rfl <| o_iconst X0 hx 0 (D 66 rfl) rfl <| o_istore X0 hx (l' := #[vr ca_, vi n_, vi (Int32.ofNat i_), vi a_, vi b_, vi m_, vi (0 : Int32), .unset]) (D 65 rfl) rfl ?_
            exact tl_ _ (if_neg (fun q => hc26 q.2.1)).symm
        · refine o_icmpYes X0 hx 59 (D 50 rfl) (flt hc24).2.1 rfl <| o_iconst X0 hx 0 (D 66 rfl) rfl <| o_istore X0 hx (l' := #[vr ca_, vi n_, vi (Int32.ofNat i_), vi a_, vi b_, vi m_, vi (0 : Int32), .unset]) (D 65 rfl) rfl ?_
          exact tl_ _ (if_neg (fun q => hc24 q.1)).symm
  · refine o_icmpYes X0 hx 10 (D 2 rfl) (flt hc2).2.1 rfl <| o_iconst X0 hx 0 (D 5 rfl) rfl ?_
    exact oendN X0 hx hlk hret (by simp) (y := (0 : Int32)) rfl (D 6 rfl) (by decide) e0 ⟨congrArg (fun z_ => some (Value.int z_)) (by unfold own_cov; rw [if_neg hc2]), N0, rfl⟩
abbrev cd11 : ByteArray := method_3_code
theorem D11 : own_DD cd11 [(0, .iload_n 0, 1), (1, .sipush 256, 3), (4, .iand, 1), (5, .ifCond .eq 9, 3), (14, .iload_n 0, 1), (15, .sipush 255, 3), (18, .iand, 1), (19, .i2c, 1), (20, .ireturn, 1), (8, .aload_n 1, 1), (9, .iload_n 0, 1), (10, .iconst 3, 1), (11, .iand, 1), (12, .caload, 1), (13, .ireturn, 1)] := own_dk (by decide +kernel)
def own_Q_pcb (Z : State)  (x_ : Int32) (ca_ : Addr) (kc_ : ClassId) (t0_ t1_ t2_ t3_ : Int32) (h0 : Heap) (n0 : Nat) (v : Option Value) (h : Heap) (L : List Loc) : Prop := (v = some (.int (own_pc x_ t0_ t1_ t2_ t3_))) ∧ (Fr n0 L) ∧ (h = h0)
abbrev yM10 : MethodName := ⟨"com/example/reliquary/reliquary/SecretsHidePinLaw", "pc", "(I[C)C"⟩
theorem rm_pcb {l : Launch} {Z : State} {a0 : Array Value} (hw : own_hw a0 Z)  {ca_ : Addr} {kc_ : ClassId} {t0_ t1_ t2_ t3_ : Int32} (x_ : Int32) {h0 : Heap} {n0 : Nat} (O0 : Old Z n0 h0) (pr0 : Arv Z h0 ca_ kc_ .char (4 : Int32) [(.int t0_), (.int t1_), (.int t2_), (.int t3_)] (.int 0)) (pr1 : nar .char t0_ = t0_) (pr2 : nar .char t1_ = t1_) (pr3 : nar .char t2_ = t2_) (pr4 : nar .char t3_ = t3_) :
    oMet l Z yM10 method_3_code 2 (some .char) [] (rmo 0 0 0 0) 0 0 #[(.int x_), (.ref ca_)] h0 (own_Q_pcb Z  x_ ca_ kc_ t0_ t1_ t2_ t3_ h0 n0) := by
  refine oenter (plainFor_of_name own_pn3) #[vi x_, vr ca_] (fun _ => rfl) ?_
  intro p e s m below meth c s₁ X0 hx hZ hby hml hret hown hnm hlk e0
  have N0 := Fr.nil n0
  have D := own_hb hby D11
  have W := own_w hw
  refine o_iloadN X0 hx (D 0 rfl) rfl <| o_sipush X0 hx 256 (D 1 rfl) rfl <| o_iand X0 hx (D 2 rfl) ?_
  by_cases hc2 : (x_ &&& (256 : Int32)) = (0 : Int32)
  · refine o_ifYes X0 hx 14 (D 3 rfl) (teq hc2).1 rfl <| o_iloadN X0 hx (D 4 rfl) rfl <| o_sipush X0 hx 255 (D 5 rfl) rfl <| o_iand X0 hx (D 6 rfl) <| o_i2c X0 hx (D 7 rfl) ?_
    exact oendN X0 hx hlk hret (by simp) (y := (nar .char (x_ &&& (255 : Int32)))) (own_narc _) (D 8 rfl) (by decide) e0 ⟨congrArg (fun z_ => some (Value.int z_)) (by simp [own_pc, hc2]), N0, rfl⟩
  · refine o_ifNo X0 hx (D 3 rfl) (feq hc2).1 <| o_aloadN X0 hx (D 9 rfl) rfl rfl <| o_iloadN X0 hx (D 10 rfl) rfl <| o_iconst X0 hx 3 (D 11 rfl) rfl <| o_iand X0 hx (D 12 rfl) ?_
    rcases own_and3 x_ with hs0 | hs1 | hs2 | hs3
    · rw [hs0]
      refine o_cal X0 hx hZ e0 pr0 ⟨by decide, by decide⟩ (v := (.int t0_)) rfl (D 13 rfl) ?_
      exact oendN X0 hx hlk hret (by simp) (y := t0_) pr1 (D 14 rfl) (by decide) e0 ⟨congrArg (fun z_ => some (Value.int z_)) (by simp [own_pc, hc2, hs0]), N0, rfl⟩
    · rw [hs1]
      refine o_cal X0 hx hZ e0 pr0 ⟨by decide, by decide⟩ (v := (.int t1_)) rfl (D 13 rfl) ?_
      exact oendN X0 hx hlk hret (by simp) (y := t1_) pr2 (D 14 rfl) (by decide) e0 ⟨congrArg (fun z_ => some (Value.int z_)) (by simp [own_pc, hc2, hs1]), N0, rfl⟩
    · rw [hs2]
      refine o_cal X0 hx hZ e0 pr0 ⟨by decide, by decide⟩ (v := (.int t2_)) rfl (D 13 rfl) ?_
      exact oendN X0 hx hlk hret (by simp) (y := t2_) pr3 (D 14 rfl) (by decide) e0 ⟨congrArg (fun z_ => some (Value.int z_)) (by simp [own_pc, hc2, hs2]), N0, rfl⟩
    · rw [hs3]
      refine o_cal X0 hx hZ e0 pr0 ⟨by decide, by decide⟩ (v := (.int t3_)) rfl (D 13 rfl) ?_
      exact oendN X0 hx hlk hret (by simp) (y := t3_) pr4 (D 14 rfl) (by decide) e0 ⟨congrArg (fun z_ => some (Value.int z_)) (by simp [own_pc, hc2, hs3]), N0, rfl⟩
abbrev cd12 : ByteArray := jdk_52_method_21_code
theorem D12 : own_DD cd12 [(0, .iconst 0, 1), (1, .istore 5, 2), (3, .iload 5, 2), (5, .iload 4, 2), (7, .if_icmp .ge 37, 3), (10, .aload_n 0, 1), (11, .iload_n 1, 1), (12, .caload, 1), (13, .istore 6, 2), (15, .iload 6, 2), (17, .sipush 255, 3), (20, .if_icmp .le 6, 3), (26, .aload_n 2, 1), (27, .iload_n 3, 1), (28, .iload 6, 2), (30, .i2b, 1), (31, .bastore, 1), (32, .iinc 1 1, 3), (35, .iinc 3 1, 3), (38, .iinc 5 1, 3), (41, .goto (-38), 3), (44, .iload 4, 2), (46, .ireturn, 1)] := own_dk (by decide +kernel)
theorem own_pn4 : plainName "java/lang/StringUTF16" = true := by first | (simp [plainName, overriddenIn]; done) | decide +kernel
def own_Q_cmp5_1 (Z : State)  (ca_ : Addr) (kc_ : ClassId) (ba_ : Addr) (kb_ : ClassId) (c0_ : Int32) (h0 : Heap) (n0 : Nat) (v : Option Value) (h : Heap) (L : List Loc) : Prop := (v = some (.int (1 : Int32))) ∧ (Fr n0 L) ∧ (Keep h0 h [ba_]) ∧ (Arv Z h ba_ kb_ .byte (1 : Int32) [(.int c0_.toInt8.toInt32)] (.int 0))
abbrev yM11 : MethodName := ⟨"java/lang/StringUTF16", "compress", "([CI[BII)I"⟩
theorem rm_cmp5_1 {l : Launch} {Z : State} {a0 : Array Value} (hw : own_hw a0 Z)  {ca_ : Addr} {kc_ : ClassId} {ba_ : Addr} {kb_ : ClassId} {c0_ : Int32}  {h0 : Heap} {n0 : Nat} (O0 : Old Z n0 h0) (pr0 : Arv Z h0 ca_ kc_ .char (1 : Int32) [(.int c0_)] (.int 0)) (pr1 : Arv Z h0 ba_ kb_ .byte (1 : Int32) [(.int 0)] (.int 0)) (pr2 : ca_ ≠ ba_) (pr3 : n0 ≤ ba_) (pr4 : ¬ ((255 : Int32) < c0_)) :
    oMet l Z yM11 jdk_52_method_21_code 7 (some .int) [] (rmo 0 0 0 0) 0 0 #[(.ref ca_), (.int (0 : Int32)), (.ref ba_), (.int (0 : Int32)), (.int (1 : Int32))] h0 (own_Q_cmp5_1 Z  ca_ kc_ ba_ kb_ c0_ h0 n0) := by
  refine oenter (plainFor_of_name own_pn4) #[vr ca_, vi (0 : Int32), vr ba_, vi (0 : Int32), vi (1 : Int32), .unset, .unset] (fun _ => rfl) ?_
  intro p e s m below meth c s₁ X0 hx hZ hby hml hret hown hnm hlk e0
  have N0 := Fr.nil n0
  have D := own_hb hby D12
  have W := own_w hw
  refine o_iconst X0 hx 0 (D 0 rfl) rfl <| o_istore X0 hx (l' := #[vr ca_, vi (0 : Int32), vr ba_, vi (0 : Int32), vi (1 : Int32), vi (0 : Int32), .unset]) (D 1 rfl) rfl <| o_iload X0 hx (D 2 rfl) rfl <| o_iload X0 hx (D 3 rfl) rfl <| o_icmpNo X0 hx (D 4 rfl) (tlt (by decide : (0 : Int32) < (1 : Int32))).2.1 <| o_aloadN X0 hx (D 5 rfl) rfl rfl <| o_iloadN X0 hx (D 6 rfl) rfl <| o_cal X0 hx hZ e0 pr0 ⟨by decide, by decide⟩ (v := (.int c0_)) rfl (D 7 rfl) <| o_istore X0 hx (l' := #[vr ca_, vi (0 : Int32), vr ba_, vi (0 : Int32), vi (1 : Int32), vi (0 : Int32), vi c0_]) (D 8 rfl) rfl <| o_iload X0 hx (D 9 rfl) rfl <| o_sipush X0 hx 255 (D 10 rfl) rfl <| o_icmpYes X0 hx 26 (D 11 rfl) (flt pr4).2.2.2 rfl <| o_aloadN X0 hx (D 12 rfl) rfl rfl <| o_iloadN X0 hx (D 13 rfl) rfl <| o_iload X0 hx (D 14 rfl) rfl <| o_i2b X0 hx (D 15 rfl) ?_
  obtain ⟨cl1, Ar1, q1, S1, N1z, H1, G1⟩ := (id pr1)
  obtain ⟨T1, _, X1, rfl, W1, st1⟩ := stB X0 hx hZ e0 Ar1 (j := (0 : Int32)) (inb_of S1 ⟨by decide, by decide⟩) (g := (mkF m 31 #[vr ca_, vi (0 : Int32), vr ba_, vi (0 : Int32), vi (1 : Int32), vi (0 : Int32), vi c0_] [(.int c0_.toInt8.toInt32), (.int (0 : Int32)), (.ref ba_)])) rfl rfl (D 16 rfl)
  rw [own_narb] at W1
  have V1 : Arv Z T1.heap ba_ kb_ .byte (1 : Int32) [(.int c0_.toInt8.toInt32)] (.int 0) := Arv.set Ar1 q1 S1 N1z H1 G1 (fits_nar_byte _) W1 0 rfl (Nat.le_of_ble_eq_true rfl)
  have N1 := Fr.snoc X1 N0 pr3
  refine ogoF st1 <| o_iinc X1 hx (l' := #[vr ca_, vi (1 : Int32), vr ba_, vi (0 : Int32), vi (1 : Int32), vi (0 : Int32), vi c0_]) (D 17 rfl) rfl rfl <| o_iinc X1 hx (l' := #[vr ca_, vi (1 : Int32), vr ba_, vi (1 : Int32), vi (1 : Int32), vi (0 : Int32), vi c0_]) (D 18 rfl) rfl rfl <| o_iinc X1 hx (l' := #[vr ca_, vi (1 : Int32), vr ba_, vi (1 : Int32), vi (1 : Int32), vi (1 : Int32), vi c0_]) (D 19 rfl) rfl rfl <| o_goto X1 hx 3 (D 20 rfl) rfl <| o_iload X1 hx (D 2 rfl) rfl <| o_iload X1 hx (D 3 rfl) rfl <| o_icmpYes X1 hx 44 (D 4 rfl) (flt (by decide : ¬ ((1 : Int32) < (1 : Int32)))).2.1 rfl <| o_iload X1 hx (D 21 rfl) rfl ?_
  exact oendI X1 hx hlk hret (D 22 rfl) (by decide) rfl ⟨rfl, N1, ((Keep.refl h0 [ba_]).wr W1 (Or.inl (List.mem_of_getElem? (i := 0) rfl))), V1⟩
theorem own_pd8 : parseMethodDescriptor "([CI[BII)I" = some ⟨[(.array .char), .int, (.array .byte), .int, .int], some .int⟩ := by decide +kernel
abbrev cd13 : ByteArray := jdk_52_method_16_code
theorem D13 : own_DD cd13 [(0, .iload_n 2, 1), (1, .newarray .byte, 2), (3, .astore_n 3, 1), (4, .aload_n 0, 1), (5, .iload_n 1, 1), (6, .aload_n 3, 1), (7, .iconst 0, 1), (8, .iload_n 2, 1), (9, .invokestatic 115, 3), (12, .istore 4, 2), (14, .iload 4, 2), (16, .iload_n 2, 1), (17, .if_icmp .eq 40, 3), (57, .aload_n 3, 1), (58, .areturn, 1)] := own_dk (by decide +kernel)
def own_Q_cmp3_1 (Z : State)  (ca_ : Addr) (kc_ : ClassId) (c0_ : Int32) (h0 : Heap) (n0 : Nat) (v : Option Value) (h : Heap) (L : List Loc) : Prop := ∃ ba_ : Addr, ∃ kb_ : ClassId, (v = some (.ref ba_)) ∧ (Fr n0 L) ∧ (Keep h0 h []) ∧ (h0.size ≤ ba_) ∧ (Arv Z h ba_ kb_ .byte (1 : Int32) [(.int c0_.toInt8.toInt32)] (.int 0))
abbrev yM12 : MethodName := ⟨"java/lang/StringUTF16", "compress", "([CII)[B"⟩
theorem rm_cmp3_1 {l : Launch} {Z : State} {a0 : Array Value} (hw : own_hw a0 Z)  {ca_ : Addr} {kc_ : ClassId} {c0_ : Int32}  {h0 : Heap} {n0 : Nat} (O0 : Old Z n0 h0) (pr0 : Arv Z h0 ca_ kc_ .char (1 : Int32) [(.int c0_)] (.int 0)) (pr1 : ¬ ((255 : Int32) < c0_)) :
    oMet l Z yM12 jdk_52_method_16_code 6 (some (.array .byte)) [] (rmo 1 1 1 18) 1 1 #[(.ref ca_), (.int (0 : Int32)), (.int (1 : Int32))] h0 (own_Q_cmp3_1 Z  ca_ kc_ c0_ h0 n0) := by
  refine oenter (plainFor_of_name own_pn4) #[vr ca_, vi (0 : Int32), vi (1 : Int32), .unset, .unset, .unset] (fun _ => rfl) ?_
  intro p e s m below meth c s₁ X0 hx hZ hby hml hret hown hnm hlk e0
  have N0 := Fr.nil n0
  have D := own_hb hby D13
  have W := own_w hw
  refine o_iloadN X0 hx (D 0 rfl) rfl ?_
  obtain ⟨T1, _, k1, X1, rfl, E1, A1, Ex1, st1⟩ := newPE (aty := .byte) X0 hx hZ (W 24 rfl) e0 (g := (mkF m 1 #[vr ca_, vi (0 : Int32), vi (1 : Int32), .unset, .unset, .unset] [(.int (1 : Int32))])) rfl (D 1 rfl) rfl (by decide) (cap := 1) (by decide) (by decide) (by decide) (by decide) (ad := "[B") rfl
  obtain ⟨b1, g1⟩ : ∃ z, z = h0.size := ⟨_, rfl⟩
  rw [← g1] at A1 Ex1 st1
  have n0_b1 := own_on O0 g1
  have V1 : Arv Z T1.heap b1 k1 .byte (1 : Int32) [(.int 0)] (.int 0) := (Arv.new A1 (by decide)).pad (pad_rep [] (.int 0) 1)
  refine ogoF st1 <| o_astoreN X1 hx (l' := #[vr ca_, vi (0 : Int32), vi (1 : Int32), vr b1, .unset, .unset]) (D 2 rfl) rfl rfl <| o_aloadN X1 hx (D 3 rfl) rfl rfl <| o_iloadN X1 hx (D 4 rfl) rfl <| o_aloadN X1 hx (D 5 rfl) rfl rfl <| o_iconst X1 hx 0 (D 6 rfl) rfl <| o_iloadN X1 hx (D 7 rfl) rfl ?_
  have y3 : ca_ ≠ b1 := (Nat.ne_of_lt (Nat.lt_of_lt_of_le (Nat.lt_of_lt_of_le pr0.lt (Nat.le_refl _)) (Nat.le_of_eq g1.symm)))
  refine o_cS X1 hx hZ hown (rm_cmp5_1 hw  (O0.ext E1) (pr0.ext E1) V1 y3 n0_b1 pr1) (W 333 rfl) (W 334 rfl) (W 331 rfl) (W 335 rfl) (by decide) rfl hml rfl [(.ref ca_), (.int (0 : Int32)), (.ref b1), (.int (0 : Int32)), (.int (1 : Int32))] [] own_pd8 rfl rfl 0 rfl (by decide) (D 8 rfl) fun T2 L2 v2 X2 hQ2 => ?_
  obtain ⟨rfl, Nq2, K2, p2_0⟩ := hQ2
  have N2 := Fr.app N0 Nq2
  refine o_istore X2 hx (l' := #[vr ca_, vi (0 : Int32), vi (1 : Int32), vr b1, vi (1 : Int32), .unset]) (D 9 rfl) rfl <| o_iload X2 hx (D 10 rfl) rfl <| o_iloadN X2 hx (D 11 rfl) rfl <| o_icmpYes X2 hx 57 (D 12 rfl) (teq (by decide : (1 : Int32) = (1 : Int32))).1 rfl <| o_aloadN X2 hx (D 13 rfl) rfl rfl ?_
  exact oendR X2 hx hlk hret rfl rfl rfl (D 14 rfl) (by decide) rfl ⟨b1, k1, rfl, N2, (((Keep.refl h0 []).ext E1).trans K2 (allS (Or.inr (Nat.le_trans (Nat.le_refl _) (Nat.le_of_eq g1.symm))) all0)), (Nat.le_trans (Nat.le_refl _) (Nat.le_of_eq g1.symm)), p2_0⟩
abbrev cd14 : ByteArray := jdk_52_method_15_code
theorem D14 : own_DD cd14 [(0, .iload_n 1, 1), (1, .aload_n 0, 1), (2, .arraylength, 1), (3, .isub, 1), (4, .bipush 31, 2), (6, .iushr, 1), (7, .i2b, 1), (8, .ireturn, 1)] := own_dk (by decide +kernel)
def own_Q_codl_1 (Z : State)  (ba_ : Addr) (kb_ : ClassId) (vs_ : List Value) (h0 : Heap) (n0 : Nat) (v : Option Value) (h : Heap) (L : List Loc) : Prop := (v = some (.int (0 : Int32))) ∧ (Fr n0 L) ∧ (h = h0)
abbrev yM13 : MethodName := ⟨"java/lang/StringUTF16", "coderFromArrayLen", "([BI)B"⟩
theorem rm_codl_1 {l : Launch} {Z : State} {a0 : Array Value} (hw : own_hw a0 Z)  {ba_ : Addr} {kb_ : ClassId} {vs_ : List Value}  {h0 : Heap} {n0 : Nat} (O0 : Old Z n0 h0) (pr0 : Arv Z h0 ba_ kb_ .byte (1 : Int32) vs_ (.int 0)) :
    oMet l Z yM13 jdk_52_method_15_code 2 (some .byte) [] (rmo 0 0 0 0) 0 0 #[(.ref ba_), (.int (1 : Int32))] h0 (own_Q_codl_1 Z  ba_ kb_ vs_ h0 n0) := by
  refine oenter (plainFor_of_name own_pn4) #[vr ba_, vi (1 : Int32)] (fun _ => rfl) ?_
  intro p e s m below meth c s₁ X0 hx hZ hby hml hret hown hnm hlk e0
  have N0 := Fr.nil n0
  have D := own_hb hby D14
  have W := own_w hw
  refine o_iloadN X0 hx (D 0 rfl) rfl <| o_aloadN X0 hx (D 1 rfl) rfl rfl <| o_alen X0 hx hZ e0 pr0 (D 2 rfl) <| o_isub X0 hx (D 3 rfl) <| o_bipush X0 hx 31 (D 4 rfl) rfl <| o_iushr X0 hx (D 5 rfl) <| o_i2b X0 hx (D 6 rfl) ?_
  exact oendN X0 hx hlk hret (by simp) (y := (0 : Int32)) rfl (D 7 rfl) (by decide) e0 ⟨rfl, N0, rfl⟩
theorem own_pd9 : parseMethodDescriptor "([CII)[B" = some ⟨[(.array .char), .int, .int], some (.array .byte)⟩ := by decide +kernel
theorem own_pd10 : parseMethodDescriptor "([BI)B" = some ⟨[(.array .byte), .int], some .byte⟩ := by decide +kernel
abbrev cd15 : ByteArray := jdk_42_method_149_code
theorem D15 : own_DD cd15 [(0, .aload_n 0, 1), (1, .invokespecial 1, 3), (4, .iload_n 3, 1), (5, .ifCond .ne 22, 3), (27, .getstatic 38, 3), (30, .ifCond .eq 28, 3), (33, .aload_n 1, 1), (34, .iload_n 2, 1), (35, .iload_n 3, 1), (36, .invokestatic 177, 3), (39, .astore 5, 2), (41, .aload_n 0, 1), (42, .aload 5, 2), (44, .iload_n 3, 1), (45, .invokestatic 47, 3), (48, .putfield 15, 3), (51, .aload_n 0, 1), (52, .aload 5, 2), (54, .putfield 9, 3), (57, .return_, 1), (8, .aload_n 0, 1), (9, .ldc 7, 2), (11, .getfield 9, 3), (14, .putfield 9, 3), (17, .aload_n 0, 1), (18, .ldc 7, 2), (20, .getfield 15, 3), (23, .putfield 15, 3), (26, .return_, 1)] := own_dk (by decide +kernel)
def own_Q_new4_1 (Z : State) (z_CS : Int32) (v_FMT : Value) (s_DC : Addr) (k_DC : ClassId) (v_IO : Value) (x_ ca_ : Addr) (kc_ : ClassId) (c0_ : Int32) (h0 : Heap) (n0 : Nat) (v : Option Value) (h : Heap) (L : List Loc) : Prop := ∃ ba_ : Addr, ∃ kb_ : ClassId, (v = none) ∧ (Fr n0 L) ∧ (Keep h0 h [x_]) ∧ (h0.size ≤ ba_) ∧ (Arv Z h ba_ kb_ .byte (1 : Int32) [(.int c0_.toInt8.toInt32)] (.int 0)) ∧ (Exa Z h x_ "java/lang/String") ∧ (Fld Z h x_ "java/lang/String" "value" "[B" (.ref ba_)) ∧ (Fld Z h x_ "java/lang/String" "coder" "B" (.int (0 : Int32)))
abbrev yM14 : MethodName := ⟨"java/lang/String", "<init>", "([CIILjava/lang/Void;)V"⟩
theorem rm_new4_1 {l : Launch} {Z : State} {a0 : Array Value} (hw : own_hw a0 Z) {z_CS : Int32} {v_FMT : Value} {s_DC : Addr} {k_DC : ClassId} {v_IO : Value} {x_ ca_ : Addr} {kc_ : ClassId} {c0_ : Int32}  {h0 : Heap} {n0 : Nat} (SB : own_Start Z z_CS v_FMT s_DC k_DC v_IO) (O0 : Old Z n0 h0) (pr0 : Exa Z h0 x_ "java/lang/String") (pr1 : Fld Z h0 x_ "java/lang/String" "value" "[B" .null) (pr2 : Fld Z h0 x_ "java/lang/String" "coder" "B" (.int (0 : Int32))) (pr3 : Arv Z h0 ca_ kc_ .char (1 : Int32) [(.int c0_)] (.int 0)) (pr4 : n0 ≤ x_) (pr5 : ¬ ((255 : Int32) < c0_)) :
    oMet l Z yM14 jdk_42_method_149_code 6 none [] (rmo 2 1 1 35) 1 1 #[(.ref x_), (.ref ca_), (.int (0 : Int32)), (.int (1 : Int32)), .null] h0 (own_Q_new4_1 Z z_CS v_FMT s_DC k_DC v_IO x_ ca_ kc_ c0_ h0 n0) := by
  refine oenter (plainFor_of_name own_pn0) #[vr x_, vr ca_, vi (0 : Int32), vi (1 : Int32), .val .null, .unset] (fun _ => rfl) ?_
  intro p e s m below meth c s₁ X0 hx hZ hby hml hret hown hnm hlk e0
  have N0 := Fr.nil n0
  have D := own_hb hby D15
  obtain ⟨S_CS, H_CS, -⟩ := (id SB)
  have W := own_w hw
  refine o_aloadN X0 hx (D 0 rfl) rfl rfl ?_
  obtain ⟨T1, X1, e1, st1⟩ := initO X0 hx hZ hown (W 20 rfl) (W 21 rfl) (W 22 rfl) e0 (g := (mkF m 1 #[vr x_, vr ca_, vi (0 : Int32), vi (1 : Int32), .val .null, .unset] [(.ref x_)])) rfl (by rw [hml]; rfl) rfl (D 1 rfl) (by decide) (W := 0) (by show 2 * 0 + _ ≤ _; exact Nat.le_of_eq rfl) (by decide)
  refine ogoF st1 <| o_iloadN X1 hx (D 2 rfl) rfl <| o_ifYes X1 hx 27 (D 3 rfl) (feq (by decide : ¬ ((1 : Int32) = (0 : Int32)))).2 rfl <| o_getS X1 hx hZ hown (host := "") (Or.inl (W 174 rfl)) Via.refl e1 (Sta.ext O0.2 S_CS) (D 4 rfl) fun T2 X2 e2 => o_ifNo X2 hx (D 5 rfl) (feq H_CS).1 <| o_aloadN X2 hx (D 6 rfl) rfl rfl <| o_iloadN X2 hx (D 7 rfl) rfl <| o_iloadN X2 hx (D 8 rfl) rfl <| o_cS X2 hx hZ hown (rm_cmp3_1 hw  O0 pr3 pr5) (W 329 rfl) (W 330 rfl) (W 331 rfl) (W 332 rfl) (by decide) e2 hml rfl [(.ref ca_), (.int (0 : Int32)), (.int (1 : Int32))] [] own_pd9 rfl rfl 0 rfl (by decide) (D 9 rfl) fun T3 L3 v3 X3 hQ3 => ?_
  obtain ⟨ba_3, kb_3, rfl, Nq3, K3, p3_0, p3_1⟩ := hQ3
  have N3 := Fr.app N0 Nq3
  have n0_ba_3 := own_og O0 (Nat.le_trans (Nat.le_refl _) p3_0)
  refine o_astore X3 hx (l' := #[vr x_, vr ca_, vi (0 : Int32), vi (1 : Int32), .val .null, vr ba_3]) (D 10 rfl) rfl rfl <| o_aloadN X3 hx (D 11 rfl) rfl rfl <| o_aload X3 hx (D 12 rfl) rfl rfl <| o_iloadN X3 hx (D 13 rfl) rfl <| o_cS X3 hx hZ hown (rm_codl_1 hw  (O0.keep K3 all0) p3_1) (W 336 rfl) (W 337 rfl) (W 331 rfl) (W 338 rfl) (by decide) rfl hml rfl [(.ref ba_3), (.int (1 : Int32))] [(.ref x_)] own_pd10 rfl rfl 1 rfl (by decide) (D 14 rfl) fun T4 L4 v4 X4 hQ4 => ?_
  obtain ⟨rfl, Nq4, q4⟩ := hQ4
  have N4 := Fr.app N3 Nq4
  obtain ⟨T5, _, X5, rfl, W5, st5⟩ := putFN X4 hx hZ hown (W 30 rfl) Via.refl q4 (pr2.keep K3 nin0) (pr0.keep K3) (Or.inr ⟨(W 26 rfl), rfl, hnm⟩) (W 11 rfl) (ty := .byte) (v' := (.int (0 : Int32))) (by decide) rfl (by decide) (g := (mkF m 48 #[vr x_, vr ca_, vi (0 : Int32), vi (1 : Int32), .val .null, vr ba_3] [(.int (0 : Int32)), (.ref x_)])) rfl rfl (D 15 rfl)
  have N5 := Fr.snoc X5 N4 pr4
  have F5 := Fld.same W5 (pr2.keep K3 nin0)
  refine ogoF st5 <| o_aloadN X5 hx (D 16 rfl) rfl rfl <| o_aload X5 hx (D 17 rfl) rfl rfl ?_
  have c7 := (Fld.other W5 (pr1.keep K3 nin0) (Or.inr (slot_ne (Or.inr (W 25 rfl)) (Or.inr (W 26 rfl)) (by decide) (t := (.array .byte)) (t' := .byte) (by decide) (by decide))))
  obtain ⟨T6, _, X6, rfl, W6, st6⟩ := putF X5 hx hZ hown (host := "") (Or.inl (W 29 rfl)) Via.refl rfl c7 (Exa.wr W5 (pr0.keep K3)) (Or.inr ⟨(W 25 rfl), rfl, hnm⟩) (W 11 rfl) (ty := (.array .byte)) (by decide) rfl rfl (g := (mkF m 54 #[vr x_, vr ca_, vi (0 : Int32), vi (1 : Int32), .val .null, vr ba_3] [(.ref ba_3), (.ref x_)])) rfl rfl (D 18 rfl)
  have N6 := Fr.snoc X6 N5 pr4
  have F6 := Fld.same W6 c7
  refine ogoF st6 ?_
  have y8 : ba_3 ≠ x_ := (Nat.ne_of_gt (Nat.lt_of_lt_of_le (Nat.lt_of_lt_of_le pr0.lt (Nat.le_refl _)) p3_0))
  have c9 := (Fld.other W6 F5 (Or.inr (slot_ne (Or.inr (W 26 rfl)) (Or.inr (W 25 rfl)) (by decide) (t := .byte) (t' := (.array .byte)) (by decide) (by decide))))
  exact oendV X6 hx hlk hret (D 19 rfl) (by decide) rfl ⟨ba_3, kb_3, rfl, N6, ((((Keep.refl h0 [x_]).trans K3 all0).wr W5 (Or.inl (List.mem_of_getElem? (i := 0) rfl))).wr W6 (Or.inl (List.mem_of_getElem? (i := 0) rfl))), (Nat.le_trans (Nat.le_refl _) p3_0), ((p3_1.other W5 y8).other W6 y8), (Exa.wr W6 (Exa.wr W5 (pr0.keep K3))), F6, c9⟩
theorem own_pd11 : parseMethodDescriptor "([CIILjava/lang/Void;)V" = some ⟨[(.array .char), .int, .int, (.object "java/lang/Void")], none⟩ := by decide +kernel
abbrev cd16 : ByteArray := jdk_42_method_3_code
theorem D16 : own_DD cd16 [(0, .aload_n 0, 1), (1, .aload_n 1, 1), (2, .iconst 0, 1), (3, .aload_n 1, 1), (4, .arraylength, 1), (5, .aconst_null, 1), (6, .invokespecial 27, 3), (9, .return_, 1)] := own_dk (by decide +kernel)
def own_Q_new1_1 (Z : State) (z_CS : Int32) (v_FMT : Value) (s_DC : Addr) (k_DC : ClassId) (v_IO : Value) (x_ ca_ : Addr) (kc_ : ClassId) (c0_ : Int32) (h0 : Heap) (n0 : Nat) (v : Option Value) (h : Heap) (L : List Loc) : Prop := ∃ ba_ : Addr, ∃ kb_ : ClassId, (v = none) ∧ (Fr n0 L) ∧ (Keep h0 h [x_]) ∧ (h0.size ≤ ba_) ∧ (Arv Z h ba_ kb_ .byte (1 : Int32) [(.int c0_.toInt8.toInt32)] (.int 0)) ∧ (Exa Z h x_ "java/lang/String") ∧ (Fld Z h x_ "java/lang/String" "value" "[B" (.ref ba_)) ∧ (Fld Z h x_ "java/lang/String" "coder" "B" (.int (0 : Int32)))
abbrev yM15 : MethodName := ⟨"java/lang/String", "<init>", "([C)V"⟩
theorem rm_new1_1 {l : Launch} {Z : State} {a0 : Array Value} (hw : own_hw a0 Z) {z_CS : Int32} {v_FMT : Value} {s_DC : Addr} {k_DC : ClassId} {v_IO : Value} {x_ ca_ : Addr} {kc_ : ClassId} {c0_ : Int32}  {h0 : Heap} {n0 : Nat} (SB : own_Start Z z_CS v_FMT s_DC k_DC v_IO) (O0 : Old Z n0 h0) (pr0 : Exa Z h0 x_ "java/lang/String") (pr1 : Fld Z h0 x_ "java/lang/String" "value" "[B" .null) (pr2 : Fld Z h0 x_ "java/lang/String" "coder" "B" (.int (0 : Int32))) (pr3 : Arv Z h0 ca_ kc_ .char (1 : Int32) [(.int c0_)] (.int 0)) (pr4 : n0 ≤ x_) (pr5 : ¬ ((255 : Int32) < c0_)) :
    oMet l Z yM15 jdk_42_method_3_code 2 none [] (rmo 3 1 1 52) 1 1 #[(.ref x_), (.ref ca_)] h0 (own_Q_new1_1 Z z_CS v_FMT s_DC k_DC v_IO x_ ca_ kc_ c0_ h0 n0) := by
  refine oenter (plainFor_of_name own_pn0) #[vr x_, vr ca_] (fun _ => rfl) ?_
  intro p e s m below meth c s₁ X0 hx hZ hby hml hret hown hnm hlk e0
  have N0 := Fr.nil n0
  have D := own_hb hby D16
  have W := own_w hw
  refine o_aloadN X0 hx (D 0 rfl) rfl rfl <| o_aloadN X0 hx (D 1 rfl) rfl rfl <| o_iconst X0 hx 0 (D 2 rfl) rfl <| o_aloadN X0 hx (D 3 rfl) rfl rfl <| o_alen X0 hx hZ e0 pr3 (D 4 rfl) <| o_aconst_null X0 hx (D 5 rfl) <| o_cI X0 hx hZ hown (rm_new4_1 hw  SB O0 pr0 pr1 pr2 pr3 pr4 pr5) rfl (W 16 rfl) (W 17 rfl) (W 12 rfl) (W 19 rfl) (by decide) e0 hml rfl [(.ref ca_), (.int (0 : Int32)), (.int (1 : Int32)), .null] [] own_pd11 rfl rfl 0 rfl (by decide) (D 6 rfl) fun T1 L1 v1 X1 hQ1 => ?_
  obtain ⟨ba_1, kb_1, rfl, Nq1, K1, p1_0, p1_1, p1_2, p1_3, p1_4⟩ := hQ1
  have N1 := Fr.app N0 Nq1
  have n0_ba_1 := own_og O0 (Nat.le_trans (Nat.le_refl _) p1_0)
  exact oendV X1 hx hlk hret (D 7 rfl) (by decide) rfl ⟨ba_1, kb_1, rfl, N1, ((Keep.refl h0 [x_]).trans K1 (allS (Or.inl (List.mem_of_getElem? (i := 0) rfl)) all0)), (Nat.le_trans (Nat.le_refl _) p1_0), p1_1, p1_2, p1_3, p1_4⟩
def own_Q_cmp5_2 (Z : State)  (ca_ : Addr) (kc_ : ClassId) (ba_ : Addr) (kb_ : ClassId) (c0_ c1_ : Int32) (h0 : Heap) (n0 : Nat) (v : Option Value) (h : Heap) (L : List Loc) : Prop := (v = some (.int (2 : Int32))) ∧ (Fr n0 L) ∧ (Keep h0 h [ba_]) ∧ (Arv Z h ba_ kb_ .byte (2 : Int32) [(.int c0_.toInt8.toInt32), (.int c1_.toInt8.toInt32)] (.int 0))
theorem rm_cmp5_2 {l : Launch} {Z : State} {a0 : Array Value} (hw : own_hw a0 Z)  {ca_ : Addr} {kc_ : ClassId} {ba_ : Addr} {kb_ : ClassId} {c0_ c1_ : Int32}  {h0 : Heap} {n0 : Nat} (O0 : Old Z n0 h0) (pr0 : Arv Z h0 ca_ kc_ .char (2 : Int32) [(.int c0_), (.int c1_)] (.int 0)) (pr1 : Arv Z h0 ba_ kb_ .byte (2 : Int32) [(.int 0), (.int 0)] (.int 0)) (pr2 : ca_ ≠ ba_) (pr3 : n0 ≤ ba_) (pr4 : ¬ ((255 : Int32) < c0_)) (pr5 : ¬ ((255 : Int32) < c1_)) :
    oMet l Z yM11 jdk_52_method_21_code 7 (some .int) [] (rmo 0 0 0 0) 0 0 #[(.ref ca_), (.int (0 : Int32)), (.ref ba_), (.int (0 : Int32)), (.int (2 : Int32))] h0 (own_Q_cmp5_2 Z  ca_ kc_ ba_ kb_ c0_ c1_ h0 n0) := by
  refine oenter (plainFor_of_name own_pn4) #[vr ca_, vi (0 : Int32), vr ba_, vi (0 : Int32), vi (2 : Int32), .unset, .unset] (fun _ => rfl) ?_
  intro p e s m below meth c s₁ X0 hx hZ hby hml hret hown hnm hlk e0
  have N0 := Fr.nil n0
  have D := own_hb hby D12
  have W := own_w hw
  refine o_iconst X0 hx 0 (D 0 rfl) rfl <| o_istore X0 hx (l' := #[vr ca_, vi (0 : Int32), vr ba_, vi (0 : Int32), vi (2 : Int32), vi (0 : Int32), .unset]) (D 1 rfl) rfl <| o_iload X0 hx (D 2 rfl) rfl <| o_iload X0 hx (D 3 rfl) rfl <| o_icmpNo X0 hx (D 4 rfl) (tlt (by decide : (0 : Int32) < (2 : Int32))).2.1 <| o_aloadN X0 hx (D 5 rfl) rfl rfl <| o_iloadN X0 hx (D 6 rfl) rfl <| o_cal X0 hx hZ e0 pr0 ⟨by decide, by decide⟩ (v := (.int c0_)) rfl (D 7 rfl) <| o_istore X0 hx (l' := #[vr ca_, vi (0 : Int32), vr ba_, vi (0 : Int32), vi (2 : Int32), vi (0 : Int32), vi c0_]) (D 8 rfl) rfl <| o_iload X0 hx (D 9 rfl) rfl <| o_sipush X0 hx 255 (D 10 rfl) rfl <| o_icmpYes X0 hx 26 (D 11 rfl) (flt pr4).2.2.2 rfl <| o_aloadN X0 hx (D 12 rfl) rfl rfl <| o_iloadN X0 hx (D 13 rfl) rfl <| o_iload X0 hx (D 14 rfl) rfl <| o_i2b X0 hx (D 15 rfl) ?_
  obtain ⟨cl1, Ar1, q1, S1, N1z, H1, G1⟩ := (id pr1)
  obtain ⟨T1, _, X1, rfl, W1, st1⟩ := stB X0 hx hZ e0 Ar1 (j := (0 : Int32)) (inb_of S1 ⟨by decide, by decide⟩) (g := (mkF m 31 #[vr ca_, vi (0 : Int32), vr ba_, vi (0 : Int32), vi (2 : Int32), vi (0 : Int32), vi c0_] [(.int c0_.toInt8.toInt32), (.int (0 : Int32)), (.ref ba_)])) rfl rfl (D 16 rfl)
  rw [own_narb] at W1
  have V1 : Arv Z T1.heap ba_ kb_ .byte (2 : Int32) [(.int c0_.toInt8.toInt32), (.int 0)] (.int 0) := Arv.set Ar1 q1 S1 N1z H1 G1 (fits_nar_byte _) W1 0 rfl (Nat.le_of_ble_eq_true rfl)
  have N1 := Fr.snoc X1 N0 pr3
  refine ogoF st1 <| o_iinc X1 hx (l' := #[vr ca_, vi (1 : Int32), vr ba_, vi (0 : Int32), vi (2 : Int32), vi (0 : Int32), vi c0_]) (D 17 rfl) rfl rfl <| o_iinc X1 hx (l' := #[vr ca_, vi (1 : Int32), vr ba_, vi (1 : Int32), vi (2 : Int32), vi (0 : Int32), vi c0_]) (D 18 rfl) rfl rfl <| o_iinc X1 hx (l' := #[vr ca_, vi (1 : Int32), vr ba_, vi (1 : Int32), vi (2 : Int32), vi (1 : Int32), vi c0_]) (D 19 rfl) rfl rfl <| o_goto X1 hx 3 (D 20 rfl) rfl <| o_iload X1 hx (D 2 rfl) rfl <| o_iload X1 hx (D 3 rfl) rfl <| o_icmpNo X1 hx (D 4 rfl) (tlt (by decide : (1 : Int32) < (2 : Int32))).2.1 <| o_aloadN X1 hx (D 5 rfl) rfl rfl <| o_iloadN X1 hx (D 6 rfl) rfl <| o_cal X1 hx hZ rfl (pr0.other W1 pr2) ⟨by decide, by decide⟩ (v := (.int c1_)) rfl (D 7 rfl) <| o_istore X1 hx (l' := #[vr ca_, vi (1 : Int32), vr ba_, vi (1 : Int32), vi (2 : Int32), vi (1 : Int32), vi c1_]) (D 8 rfl) rfl <| o_iload X1 hx (D 9 rfl) rfl <| o_sipush X1 hx 255 (D 10 rfl) rfl <| o_icmpYes X1 hx 26 (D 11 rfl) (flt pr5).2.2.2 rfl <| o_aloadN X1 hx (D 12 rfl) rfl rfl <| o_iloadN X1 hx (D 13 rfl) rfl <| o_iload X1 hx (D 14 rfl) rfl <| o_i2b X1 hx (D 15 rfl) ?_
  obtain ⟨cl2, Ar2, q2, S2, N2z, H2, G2⟩ := (id V1)
  obtain ⟨T2, _, X2, rfl, W2, st2⟩ := stB X1 hx hZ rfl Ar2 (j := (1 : Int32)) (inb_of S2 ⟨by decide, by decide⟩) (g := (mkF m 31 #[vr ca_, vi (1 : Int32), vr ba_, vi (1 : Int32), vi (2 : Int32), vi (1 : Int32), vi c1_] [(.int c1_.toInt8.toInt32), (.int (1 : Int32)), (.ref ba_)])) rfl rfl (D 16 rfl)
  rw [own_narb] at W2
  have V2 : Arv Z T2.heap ba_ kb_ .byte (2 : Int32) [(.int c0_.toInt8.toInt32), (.int c1_.toInt8.toInt32)] (.int 0) := Arv.set Ar2 q2 S2 N2z H2 G2 (fits_nar_byte _) W2 1 rfl (Nat.le_of_ble_eq_true rfl)
  have N2 := Fr.snoc X2 N1 pr3
  refine ogoF st2 <| o_iinc X2 hx (l' := #[vr ca_, vi (2 : Int32), vr ba_, vi (1 : Int32), vi (2 : Int32), vi (1 : Int32), vi c1_]) (D 17 rfl) rfl rfl <| o_iinc X2 hx (l' := #[vr ca_, vi (2 : Int32), vr ba_, vi (2 : Int32), vi (2 : Int32), vi (1 : Int32), vi c1_]) (D 18 rfl) rfl rfl <| o_iinc X2 hx (l' := #[vr ca_, vi (2 : Int32), vr ba_, vi (2 : Int32), vi (2 : Int32), vi (2 : Int32), vi c1_]) (D 19 rfl) rfl rfl <| o_goto X2 hx 3 (D 20 rfl) rfl <| o_iload X2 hx (D 2 rfl) rfl <| o_iload X2 hx (D 3 rfl) rfl <| o_icmpYes X2 hx 44 (D 4 rfl) (flt (by decide : ¬ ((2 : Int32) < (2 : Int32)))).2.1 rfl <| o_iload X2 hx (D 21 rfl) rfl ?_
  exact oendI X2 hx hlk hret (D 22 rfl) (by decide) rfl ⟨rfl, N2, (((Keep.refl h0 [ba_]).wr W1 (Or.inl (List.mem_of_getElem? (i := 0) rfl))).wr W2 (Or.inl (List.mem_of_getElem? (i := 0) rfl))), V2⟩
def own_Q_cmp3_2 (Z : State)  (ca_ : Addr) (kc_ : ClassId) (c0_ c1_ : Int32) (h0 : Heap) (n0 : Nat) (v : Option Value) (h : Heap) (L : List Loc) : Prop := ∃ ba_ : Addr, ∃ kb_ : ClassId, (v = some (.ref ba_)) ∧ (Fr n0 L) ∧ (Keep h0 h []) ∧ (h0.size ≤ ba_) ∧ (Arv Z h ba_ kb_ .byte (2 : Int32) [(.int c0_.toInt8.toInt32), (.int c1_.toInt8.toInt32)] (.int 0))
theorem rm_cmp3_2 {l : Launch} {Z : State} {a0 : Array Value} (hw : own_hw a0 Z)  {ca_ : Addr} {kc_ : ClassId} {c0_ c1_ : Int32}  {h0 : Heap} {n0 : Nat} (O0 : Old Z n0 h0) (pr0 : Arv Z h0 ca_ kc_ .char (2 : Int32) [(.int c0_), (.int c1_)] (.int 0)) (pr1 : ¬ ((255 : Int32) < c0_)) (pr2 : ¬ ((255 : Int32) < c1_)) :
    oMet l Z yM12 jdk_52_method_16_code 6 (some (.array .byte)) [] (rmo 1 1 2 18) 1 2 #[(.ref ca_), (.int (0 : Int32)), (.int (2 : Int32))] h0 (own_Q_cmp3_2 Z  ca_ kc_ c0_ c1_ h0 n0) := by
  refine oenter (plainFor_of_name own_pn4) #[vr ca_, vi (0 : Int32), vi (2 : Int32), .unset, .unset, .unset] (fun _ => rfl) ?_
  intro p e s m below meth c s₁ X0 hx hZ hby hml hret hown hnm hlk e0
  have N0 := Fr.nil n0
  have D := own_hb hby D13
  have W := own_w hw
  refine o_iloadN X0 hx (D 0 rfl) rfl ?_
  obtain ⟨T1, _, k1, X1, rfl, E1, A1, Ex1, st1⟩ := newPE (aty := .byte) X0 hx hZ (W 24 rfl) e0 (g := (mkF m 1 #[vr ca_, vi (0 : Int32), vi (2 : Int32), .unset, .unset, .unset] [(.int (2 : Int32))])) rfl (D 1 rfl) rfl (by decide) (cap := 2) (by decide) (by decide) (by decide) (by decide) (ad := "[B") rfl
  obtain ⟨b1, g1⟩ : ∃ z, z = h0.size := ⟨_, rfl⟩
  rw [← g1] at A1 Ex1 st1
  have n0_b1 := own_on O0 g1
  have V1 : Arv Z T1.heap b1 k1 .byte (2 : Int32) [(.int 0), (.int 0)] (.int 0) := (Arv.new A1 (by decide)).pad (pad_rep [] (.int 0) 2)
  refine ogoF st1 <| o_astoreN X1 hx (l' := #[vr ca_, vi (0 : Int32), vi (2 : Int32), vr b1, .unset, .unset]) (D 2 rfl) rfl rfl <| o_aloadN X1 hx (D 3 rfl) rfl rfl <| o_iloadN X1 hx (D 4 rfl) rfl <| o_aloadN X1 hx (D 5 rfl) rfl rfl <| o_iconst X1 hx 0 (D 6 rfl) rfl <| o_iloadN X1 hx (D 7 rfl) rfl ?_
  have y3 : ca_ ≠ b1 := (Nat.ne_of_lt (Nat.lt_of_lt_of_le (Nat.lt_of_lt_of_le pr0.lt (Nat.le_refl _)) (Nat.le_of_eq g1.symm)))
  refine o_cS X1 hx hZ hown (rm_cmp5_2 hw  (O0.ext E1) (pr0.ext E1) V1 y3 n0_b1 pr1 pr2) (W 333 rfl) (W 334 rfl) (W 331 rfl) (W 335 rfl) (by decide) rfl hml rfl [(.ref ca_), (.int (0 : Int32)), (.ref b1), (.int (0 : Int32)), (.int (2 : Int32))] [] own_pd8 rfl rfl 0 rfl (by decide) (D 8 rfl) fun T2 L2 v2 X2 hQ2 => ?_
  obtain ⟨rfl, Nq2, K2, p2_0⟩ := hQ2
  have N2 := Fr.app N0 Nq2
  refine o_istore X2 hx (l' := #[vr ca_, vi (0 : Int32), vi (2 : Int32), vr b1, vi (2 : Int32), .unset]) (D 9 rfl) rfl <| o_iload X2 hx (D 10 rfl) rfl <| o_iloadN X2 hx (D 11 rfl) rfl <| o_icmpYes X2 hx 57 (D 12 rfl) (teq (by decide : (2 : Int32) = (2 : Int32))).1 rfl <| o_aloadN X2 hx (D 13 rfl) rfl rfl ?_
  exact oendR X2 hx hlk hret rfl rfl rfl (D 14 rfl) (by decide) rfl ⟨b1, k1, rfl, N2, (((Keep.refl h0 []).ext E1).trans K2 (allS (Or.inr (Nat.le_trans (Nat.le_refl _) (Nat.le_of_eq g1.symm))) all0)), (Nat.le_trans (Nat.le_refl _) (Nat.le_of_eq g1.symm)), p2_0⟩
def own_Q_codl_2 (Z : State)  (ba_ : Addr) (kb_ : ClassId) (vs_ : List Value) (h0 : Heap) (n0 : Nat) (v : Option Value) (h : Heap) (L : List Loc) : Prop := (v = some (.int (0 : Int32))) ∧ (Fr n0 L) ∧ (h = h0)
theorem rm_codl_2 {l : Launch} {Z : State} {a0 : Array Value} (hw : own_hw a0 Z)  {ba_ : Addr} {kb_ : ClassId} {vs_ : List Value}  {h0 : Heap} {n0 : Nat} (O0 : Old Z n0 h0) (pr0 : Arv Z h0 ba_ kb_ .byte (2 : Int32) vs_ (.int 0)) :
    oMet l Z yM13 jdk_52_method_15_code 2 (some .byte) [] (rmo 0 0 0 0) 0 0 #[(.ref ba_), (.int (2 : Int32))] h0 (own_Q_codl_2 Z  ba_ kb_ vs_ h0 n0) := by
  refine oenter (plainFor_of_name own_pn4) #[vr ba_, vi (2 : Int32)] (fun _ => rfl) ?_
  intro p e s m below meth c s₁ X0 hx hZ hby hml hret hown hnm hlk e0
  have N0 := Fr.nil n0
  have D := own_hb hby D14
  have W := own_w hw
  refine o_iloadN X0 hx (D 0 rfl) rfl <| o_aloadN X0 hx (D 1 rfl) rfl rfl <| o_alen X0 hx hZ e0 pr0 (D 2 rfl) <| o_isub X0 hx (D 3 rfl) <| o_bipush X0 hx 31 (D 4 rfl) rfl <| o_iushr X0 hx (D 5 rfl) <| o_i2b X0 hx (D 6 rfl) ?_
  exact oendN X0 hx hlk hret (by simp) (y := (0 : Int32)) rfl (D 7 rfl) (by decide) e0 ⟨rfl, N0, rfl⟩
def own_Q_new4_2 (Z : State) (z_CS : Int32) (v_FMT : Value) (s_DC : Addr) (k_DC : ClassId) (v_IO : Value) (x_ ca_ : Addr) (kc_ : ClassId) (c0_ c1_ : Int32) (h0 : Heap) (n0 : Nat) (v : Option Value) (h : Heap) (L : List Loc) : Prop := ∃ ba_ : Addr, ∃ kb_ : ClassId, (v = none) ∧ (Fr n0 L) ∧ (Keep h0 h [x_]) ∧ (h0.size ≤ ba_) ∧ (Arv Z h ba_ kb_ .byte (2 : Int32) [(.int c0_.toInt8.toInt32), (.int c1_.toInt8.toInt32)] (.int 0)) ∧ (Exa Z h x_ "java/lang/String") ∧ (Fld Z h x_ "java/lang/String" "value" "[B" (.ref ba_)) ∧ (Fld Z h x_ "java/lang/String" "coder" "B" (.int (0 : Int32)))
theorem rm_new4_2 {l : Launch} {Z : State} {a0 : Array Value} (hw : own_hw a0 Z) {z_CS : Int32} {v_FMT : Value} {s_DC : Addr} {k_DC : ClassId} {v_IO : Value} {x_ ca_ : Addr} {kc_ : ClassId} {c0_ c1_ : Int32}  {h0 : Heap} {n0 : Nat} (SB : own_Start Z z_CS v_FMT s_DC k_DC v_IO) (O0 : Old Z n0 h0) (pr0 : Exa Z h0 x_ "java/lang/String") (pr1 : Fld Z h0 x_ "java/lang/String" "value" "[B" .null) (pr2 : Fld Z h0 x_ "java/lang/String" "coder" "B" (.int (0 : Int32))) (pr3 : Arv Z h0 ca_ kc_ .char (2 : Int32) [(.int c0_), (.int c1_)] (.int 0)) (pr4 : n0 ≤ x_) (pr5 : ¬ ((255 : Int32) < c0_)) (pr6 : ¬ ((255 : Int32) < c1_)) :
    oMet l Z yM14 jdk_42_method_149_code 6 none [] (rmo 2 1 2 35) 1 2 #[(.ref x_), (.ref ca_), (.int (0 : Int32)), (.int (2 : Int32)), .null] h0 (own_Q_new4_2 Z z_CS v_FMT s_DC k_DC v_IO x_ ca_ kc_ c0_ c1_ h0 n0) := by
  refine oenter (plainFor_of_name own_pn0) #[vr x_, vr ca_, vi (0 : Int32), vi (2 : Int32), .val .null, .unset] (fun _ => rfl) ?_
  intro p e s m below meth c s₁ X0 hx hZ hby hml hret hown hnm hlk e0
  have N0 := Fr.nil n0
  have D := own_hb hby D15
  obtain ⟨S_CS, H_CS, -⟩ := (id SB)
  have W := own_w hw
  refine o_aloadN X0 hx (D 0 rfl) rfl rfl ?_
  obtain ⟨T1, X1, e1, st1⟩ := initO X0 hx hZ hown (W 20 rfl) (W 21 rfl) (W 22 rfl) e0 (g := (mkF m 1 #[vr x_, vr ca_, vi (0 : Int32), vi (2 : Int32), .val .null, .unset] [(.ref x_)])) rfl (by rw [hml]; rfl) rfl (D 1 rfl) (by decide) (W := 0) (by show 2 * 0 + _ ≤ _; exact Nat.le_of_eq rfl) (by decide)
  refine ogoF st1 <| o_iloadN X1 hx (D 2 rfl) rfl <| o_ifYes X1 hx 27 (D 3 rfl) (feq (by decide : ¬ ((2 : Int32) = (0 : Int32)))).2 rfl <| o_getS X1 hx hZ hown (host := "") (Or.inl (W 174 rfl)) Via.refl e1 (Sta.ext O0.2 S_CS) (D 4 rfl) fun T2 X2 e2 => o_ifNo X2 hx (D 5 rfl) (feq H_CS).1 <| o_aloadN X2 hx (D 6 rfl) rfl rfl <| o_iloadN X2 hx (D 7 rfl) rfl <| o_iloadN X2 hx (D 8 rfl) rfl <| o_cS X2 hx hZ hown (rm_cmp3_2 hw  O0 pr3 pr5 pr6) (W 329 rfl) (W 330 rfl) (W 331 rfl) (W 332 rfl) (by decide) e2 hml rfl [(.ref ca_), (.int (0 : Int32)), (.int (2 : Int32))] [] own_pd9 rfl rfl 0 rfl (by decide) (D 9 rfl) fun T3 L3 v3 X3 hQ3 => ?_
  obtain ⟨ba_3, kb_3, rfl, Nq3, K3, p3_0, p3_1⟩ := hQ3
  have N3 := Fr.app N0 Nq3
  have n0_ba_3 := own_og O0 (Nat.le_trans (Nat.le_refl _) p3_0)
  refine o_astore X3 hx (l' := #[vr x_, vr ca_, vi (0 : Int32), vi (2 : Int32), .val .null, vr ba_3]) (D 10 rfl) rfl rfl <| o_aloadN X3 hx (D 11 rfl) rfl rfl <| o_aload X3 hx (D 12 rfl) rfl rfl <| o_iloadN X3 hx (D 13 rfl) rfl <| o_cS X3 hx hZ hown (rm_codl_2 hw  (O0.keep K3 all0) p3_1) (W 336 rfl) (W 337 rfl) (W 331 rfl) (W 338 rfl) (by decide) rfl hml rfl [(.ref ba_3), (.int (2 : Int32))] [(.ref x_)] own_pd10 rfl rfl 1 rfl (by decide) (D 14 rfl) fun T4 L4 v4 X4 hQ4 => ?_
  obtain ⟨rfl, Nq4, q4⟩ := hQ4
  have N4 := Fr.app N3 Nq4
  obtain ⟨T5, _, X5, rfl, W5, st5⟩ := putFN X4 hx hZ hown (W 30 rfl) Via.refl q4 (pr2.keep K3 nin0) (pr0.keep K3) (Or.inr ⟨(W 26 rfl), rfl, hnm⟩) (W 11 rfl) (ty := .byte) (v' := (.int (0 : Int32))) (by decide) rfl (by decide) (g := (mkF m 48 #[vr x_, vr ca_, vi (0 : Int32), vi (2 : Int32), .val .null, vr ba_3] [(.int (0 : Int32)), (.ref x_)])) rfl rfl (D 15 rfl)
  have N5 := Fr.snoc X5 N4 pr4
  have F5 := Fld.same W5 (pr2.keep K3 nin0)
  refine ogoF st5 <| o_aloadN X5 hx (D 16 rfl) rfl rfl <| o_aload X5 hx (D 17 rfl) rfl rfl ?_
  have c7 := (Fld.other W5 (pr1.keep K3 nin0) (Or.inr (slot_ne (Or.inr (W 25 rfl)) (Or.inr (W 26 rfl)) (by decide) (t := (.array .byte)) (t' := .byte) (by decide) (by decide))))
  obtain ⟨T6, _, X6, rfl, W6, st6⟩ := putF X5 hx hZ hown (host := "") (Or.inl (W 29 rfl)) Via.refl rfl c7 (Exa.wr W5 (pr0.keep K3)) (Or.inr ⟨(W 25 rfl), rfl, hnm⟩) (W 11 rfl) (ty := (.array .byte)) (by decide) rfl rfl (g := (mkF m 54 #[vr x_, vr ca_, vi (0 : Int32), vi (2 : Int32), .val .null, vr ba_3] [(.ref ba_3), (.ref x_)])) rfl rfl (D 18 rfl)
  have N6 := Fr.snoc X6 N5 pr4
  have F6 := Fld.same W6 c7
  refine ogoF st6 ?_
  have y8 : ba_3 ≠ x_ := (Nat.ne_of_gt (Nat.lt_of_lt_of_le (Nat.lt_of_lt_of_le pr0.lt (Nat.le_refl _)) p3_0))
  have c9 := (Fld.other W6 F5 (Or.inr (slot_ne (Or.inr (W 26 rfl)) (Or.inr (W 25 rfl)) (by decide) (t := .byte) (t' := (.array .byte)) (by decide) (by decide))))
  exact oendV X6 hx hlk hret (D 19 rfl) (by decide) rfl ⟨ba_3, kb_3, rfl, N6, ((((Keep.refl h0 [x_]).trans K3 all0).wr W5 (Or.inl (List.mem_of_getElem? (i := 0) rfl))).wr W6 (Or.inl (List.mem_of_getElem? (i := 0) rfl))), (Nat.le_trans (Nat.le_refl _) p3_0), ((p3_1.other W5 y8).other W6 y8), (Exa.wr W6 (Exa.wr W5 (pr0.keep K3))), F6, c9⟩
def own_Q_new1_2 (Z : State) (z_CS : Int32) (v_FMT : Value) (s_DC : Addr) (k_DC : ClassId) (v_IO : Value) (x_ ca_ : Addr) (kc_ : ClassId) (c0_ c1_ : Int32) (h0 : Heap) (n0 : Nat) (v : Option Value) (h : Heap) (L : List Loc) : Prop := ∃ ba_ : Addr, ∃ kb_ : ClassId, (v = none) ∧ (Fr n0 L) ∧ (Keep h0 h [x_]) ∧ (h0.size ≤ ba_) ∧ (Arv Z h ba_ kb_ .byte (2 : Int32) [(.int c0_.toInt8.toInt32), (.int c1_.toInt8.toInt32)] (.int 0)) ∧ (Exa Z h x_ "java/lang/String") ∧ (Fld Z h x_ "java/lang/String" "value" "[B" (.ref ba_)) ∧ (Fld Z h x_ "java/lang/String" "coder" "B" (.int (0 : Int32)))
theorem rm_new1_2 {l : Launch} {Z : State} {a0 : Array Value} (hw : own_hw a0 Z) {z_CS : Int32} {v_FMT : Value} {s_DC : Addr} {k_DC : ClassId} {v_IO : Value} {x_ ca_ : Addr} {kc_ : ClassId} {c0_ c1_ : Int32}  {h0 : Heap} {n0 : Nat} (SB : own_Start Z z_CS v_FMT s_DC k_DC v_IO) (O0 : Old Z n0 h0) (pr0 : Exa Z h0 x_ "java/lang/String") (pr1 : Fld Z h0 x_ "java/lang/String" "value" "[B" .null) (pr2 : Fld Z h0 x_ "java/lang/String" "coder" "B" (.int (0 : Int32))) (pr3 : Arv Z h0 ca_ kc_ .char (2 : Int32) [(.int c0_), (.int c1_)] (.int 0)) (pr4 : n0 ≤ x_) (pr5 : ¬ ((255 : Int32) < c0_)) (pr6 : ¬ ((255 : Int32) < c1_)) :
    oMet l Z yM15 jdk_42_method_3_code 2 none [] (rmo 3 1 2 52) 1 2 #[(.ref x_), (.ref ca_)] h0 (own_Q_new1_2 Z z_CS v_FMT s_DC k_DC v_IO x_ ca_ kc_ c0_ c1_ h0 n0) := by
  refine oenter (plainFor_of_name own_pn0) #[vr x_, vr ca_] (fun _ => rfl) ?_
  intro p e s m below meth c s₁ X0 hx hZ hby hml hret hown hnm hlk e0
  have N0 := Fr.nil n0
  have D := own_hb hby D16
  have W := own_w hw
  refine o_aloadN X0 hx (D 0 rfl) rfl rfl <| o_aloadN X0 hx (D 1 rfl) rfl rfl <| o_iconst X0 hx 0 (D 2 rfl) rfl <| o_aloadN X0 hx (D 3 rfl) rfl rfl <| o_alen X0 hx hZ e0 pr3 (D 4 rfl) <| o_aconst_null X0 hx (D 5 rfl) <| o_cI X0 hx hZ hown (rm_new4_2 hw  SB O0 pr0 pr1 pr2 pr3 pr4 pr5 pr6) rfl (W 16 rfl) (W 17 rfl) (W 12 rfl) (W 19 rfl) (by decide) e0 hml rfl [(.ref ca_), (.int (0 : Int32)), (.int (2 : Int32)), .null] [] own_pd11 rfl rfl 0 rfl (by decide) (D 6 rfl) fun T1 L1 v1 X1 hQ1 => ?_
  obtain ⟨ba_1, kb_1, rfl, Nq1, K1, p1_0, p1_1, p1_2, p1_3, p1_4⟩ := hQ1
  have N1 := Fr.app N0 Nq1
  have n0_ba_1 := own_og O0 (Nat.le_trans (Nat.le_refl _) p1_0)
  exact oendV X1 hx hlk hret (D 7 rfl) (by decide) rfl ⟨ba_1, kb_1, rfl, N1, ((Keep.refl h0 [x_]).trans K1 (allS (Or.inl (List.mem_of_getElem? (i := 0) rfl)) all0)), (Nat.le_trans (Nat.le_refl _) p1_0), p1_1, p1_2, p1_3, p1_4⟩
def own_Q_cmp5_3 (Z : State)  (ca_ : Addr) (kc_ : ClassId) (ba_ : Addr) (kb_ : ClassId) (c0_ c1_ c2_ : Int32) (h0 : Heap) (n0 : Nat) (v : Option Value) (h : Heap) (L : List Loc) : Prop := (v = some (.int (3 : Int32))) ∧ (Fr n0 L) ∧ (Keep h0 h [ba_]) ∧ (Arv Z h ba_ kb_ .byte (3 : Int32) [(.int c0_.toInt8.toInt32), (.int c1_.toInt8.toInt32), (.int c2_.toInt8.toInt32)] (.int 0))
theorem rm_cmp5_3 {l : Launch} {Z : State} {a0 : Array Value} (hw : own_hw a0 Z)  {ca_ : Addr} {kc_ : ClassId} {ba_ : Addr} {kb_ : ClassId} {c0_ c1_ c2_ : Int32}  {h0 : Heap} {n0 : Nat} (O0 : Old Z n0 h0) (pr0 : Arv Z h0 ca_ kc_ .char (3 : Int32) [(.int c0_), (.int c1_), (.int c2_)] (.int 0)) (pr1 : Arv Z h0 ba_ kb_ .byte (3 : Int32) [(.int 0), (.int 0), (.int 0)] (.int 0)) (pr2 : ca_ ≠ ba_) (pr3 : n0 ≤ ba_) (pr4 : ¬ ((255 : Int32) < c0_)) (pr5 : ¬ ((255 : Int32) < c1_)) (pr6 : ¬ ((255 : Int32) < c2_)) :
    oMet l Z yM11 jdk_52_method_21_code 7 (some .int) [] (rmo 0 0 0 0) 0 0 #[(.ref ca_), (.int (0 : Int32)), (.ref ba_), (.int (0 : Int32)), (.int (3 : Int32))] h0 (own_Q_cmp5_3 Z  ca_ kc_ ba_ kb_ c0_ c1_ c2_ h0 n0) := by
  refine oenter (plainFor_of_name own_pn4) #[vr ca_, vi (0 : Int32), vr ba_, vi (0 : Int32), vi (3 : Int32), .unset, .unset] (fun _ => rfl) ?_
  intro p e s m below meth c s₁ X0 hx hZ hby hml hret hown hnm hlk e0
  have N0 := Fr.nil n0
  have D := own_hb hby D12
  have W := own_w hw
  refine o_iconst X0 hx 0 (D 0 rfl) rfl <| o_istore X0 hx (l' := #[vr ca_, vi (0 : Int32), vr ba_, vi (0 : Int32), vi (3 : Int32), vi (0 : Int32), .unset]) (D 1 rfl) rfl <| o_iload X0 hx (D 2 rfl) rfl <| o_iload X0 hx (D 3 rfl) rfl <| o_icmpNo X0 hx (D 4 rfl) (tlt (by decide : (0 : Int32) < (3 : Int32))).2.1 <| o_aloadN X0 hx (D 5 rfl) rfl rfl <| o_iloadN X0 hx (D 6 rfl) rfl <| o_cal X0 hx hZ e0 pr0 ⟨by decide, by decide⟩ (v := (.int c0_)) rfl (D 7 rfl) <| o_istore X0 hx (l' := #[vr ca_, vi (0 : Int32), vr ba_, vi (0 : Int32), vi (3 : Int32), vi (0 : Int32), vi c0_]) (D 8 rfl) rfl <| o_iload X0 hx (D 9 rfl) rfl <| o_sipush X0 hx 255 (D 10 rfl) rfl <| o_icmpYes X0 hx 26 (D 11 rfl) (flt pr4).2.2.2 rfl <| o_aloadN X0 hx (D 12 rfl) rfl rfl <| o_iloadN X0 hx (D 13 rfl) rfl <| o_iload X0 hx (D 14 rfl) rfl <| o_i2b X0 hx (D 15 rfl) ?_
  obtain ⟨cl1, Ar1, q1, S1, N1z, H1, G1⟩ := (id pr1)
  obtain ⟨T1, _, X1, rfl, W1, st1⟩ := stB X0 hx hZ e0 Ar1 (j := (0 : Int32)) (inb_of S1 ⟨by decide, by decide⟩) (g := (mkF m 31 #[vr ca_, vi (0 : Int32), vr ba_, vi (0 : Int32), vi (3 : Int32), vi (0 : Int32), vi c0_] [(.int c0_.toInt8.toInt32), (.int (0 : Int32)), (.ref ba_)])) rfl rfl (D 16 rfl)
  rw [own_narb] at W1
  have V1 : Arv Z T1.heap ba_ kb_ .byte (3 : Int32) [(.int c0_.toInt8.toInt32), (.int 0), (.int 0)] (.int 0) := Arv.set Ar1 q1 S1 N1z H1 G1 (fits_nar_byte _) W1 0 rfl (Nat.le_of_ble_eq_true rfl)
  have N1 := Fr.snoc X1 N0 pr3
  refine ogoF st1 <| o_iinc X1 hx (l' := #[vr ca_, vi (1 : Int32), vr ba_, vi (0 : Int32), vi (3 : Int32), vi (0 : Int32), vi c0_]) (D 17 rfl) rfl rfl <| o_iinc X1 hx (l' := #[vr ca_, vi (1 : Int32), vr ba_, vi (1 : Int32), vi (3 : Int32), vi (0 : Int32), vi c0_]) (D 18 rfl) rfl rfl <| o_iinc X1 hx (l' := #[vr ca_, vi (1 : Int32), vr ba_, vi (1 : Int32), vi (3 : Int32), vi (1 : Int32), vi c0_]) (D 19 rfl) rfl rfl <| o_goto X1 hx 3 (D 20 rfl) rfl <| o_iload X1 hx (D 2 rfl) rfl <| o_iload X1 hx (D 3 rfl) rfl <| o_icmpNo X1 hx (D 4 rfl) (tlt (by decide : (1 : Int32) < (3 : Int32))).2.1 <| o_aloadN X1 hx (D 5 rfl) rfl rfl <| o_iloadN X1 hx (D 6 rfl) rfl <| o_cal X1 hx hZ rfl (pr0.other W1 pr2) ⟨by decide, by decide⟩ (v := (.int c1_)) rfl (D 7 rfl) <| o_istore X1 hx (l' := #[vr ca_, vi (1 : Int32), vr ba_, vi (1 : Int32), vi (3 : Int32), vi (1 : Int32), vi c1_]) (D 8 rfl) rfl <| o_iload X1 hx (D 9 rfl) rfl <| o_sipush X1 hx 255 (D 10 rfl) rfl <| o_icmpYes X1 hx 26 (D 11 rfl) (flt pr5).2.2.2 rfl <| o_aloadN X1 hx (D 12 rfl) rfl rfl <| o_iloadN X1 hx (D 13 rfl) rfl <| o_iload X1 hx (D 14 rfl) rfl <| o_i2b X1 hx (D 15 rfl) ?_
  obtain ⟨cl2, Ar2, q2, S2, N2z, H2, G2⟩ := (id V1)
  obtain ⟨T2, _, X2, rfl, W2, st2⟩ := stB X1 hx hZ rfl Ar2 (j := (1 : Int32)) (inb_of S2 ⟨by decide, by decide⟩) (g := (mkF m 31 #[vr ca_, vi (1 : Int32), vr ba_, vi (1 : Int32), vi (3 : Int32), vi (1 : Int32), vi c1_] [(.int c1_.toInt8.toInt32), (.int (1 : Int32)), (.ref ba_)])) rfl rfl (D 16 rfl)
  rw [own_narb] at W2
  have V2 : Arv Z T2.heap ba_ kb_ .byte (3 : Int32) [(.int c0_.toInt8.toInt32), (.int c1_.toInt8.toInt32), (.int 0)] (.int 0) := Arv.set Ar2 q2 S2 N2z H2 G2 (fits_nar_byte _) W2 1 rfl (Nat.le_of_ble_eq_true rfl)
  have N2 := Fr.snoc X2 N1 pr3
  refine ogoF st2 <| o_iinc X2 hx (l' := #[vr ca_, vi (2 : Int32), vr ba_, vi (1 : Int32), vi (3 : Int32), vi (1 : Int32), vi c1_]) (D 17 rfl) rfl rfl <| o_iinc X2 hx (l' := #[vr ca_, vi (2 : Int32), vr ba_, vi (2 : Int32), vi (3 : Int32), vi (1 : Int32), vi c1_]) (D 18 rfl) rfl rfl <| o_iinc X2 hx (l' := #[vr ca_, vi (2 : Int32), vr ba_, vi (2 : Int32), vi (3 : Int32), vi (2 : Int32), vi c1_]) (D 19 rfl) rfl rfl <| o_goto X2 hx 3 (D 20 rfl) rfl <| o_iload X2 hx (D 2 rfl) rfl <| o_iload X2 hx (D 3 rfl) rfl <| o_icmpNo X2 hx (D 4 rfl) (tlt (by decide : (2 : Int32) < (3 : Int32))).2.1 <| o_aloadN X2 hx (D 5 rfl) rfl rfl <| o_iloadN X2 hx (D 6 rfl) rfl <| o_cal X2 hx hZ rfl ((pr0.other W1 pr2).other W2 pr2) ⟨by decide, by decide⟩ (v := (.int c2_)) rfl (D 7 rfl) <| o_istore X2 hx (l' := #[vr ca_, vi (2 : Int32), vr ba_, vi (2 : Int32), vi (3 : Int32), vi (2 : Int32), vi c2_]) (D 8 rfl) rfl <| o_iload X2 hx (D 9 rfl) rfl <| o_sipush X2 hx 255 (D 10 rfl) rfl <| o_icmpYes X2 hx 26 (D 11 rfl) (flt pr6).2.2.2 rfl <| o_aloadN X2 hx (D 12 rfl) rfl rfl <| o_iloadN X2 hx (D 13 rfl) rfl <| o_iload X2 hx (D 14 rfl) rfl <| o_i2b X2 hx (D 15 rfl) ?_
  obtain ⟨cl3, Ar3, q3, S3, N3z, H3, G3⟩ := (id V2)
  obtain ⟨T3, _, X3, rfl, W3, st3⟩ := stB X2 hx hZ rfl Ar3 (j := (2 : Int32)) (inb_of S3 ⟨by decide, by decide⟩) (g := (mkF m 31 #[vr ca_, vi (2 : Int32), vr ba_, vi (2 : Int32), vi (3 : Int32), vi (2 : Int32), vi c2_] [(.int c2_.toInt8.toInt32), (.int (2 : Int32)), (.ref ba_)])) rfl rfl (D 16 rfl)
  rw [own_narb] at W3
  have V3 : Arv Z T3.heap ba_ kb_ .byte (3 : Int32) [(.int c0_.toInt8.toInt32), (.int c1_.toInt8.toInt32), (.int c2_.toInt8.toInt32)] (.int 0) := Arv.set Ar3 q3 S3 N3z H3 G3 (fits_nar_byte _) W3 2 rfl (Nat.le_of_ble_eq_true rfl)
  have N3 := Fr.snoc X3 N2 pr3
  refine ogoF st3 <| o_iinc X3 hx (l' := #[vr ca_, vi (3 : Int32), vr ba_, vi (2 : Int32), vi (3 : Int32), vi (2 : Int32), vi c2_]) (D 17 rfl) rfl rfl <| o_iinc X3 hx (l' := #[vr ca_, vi (3 : Int32), vr ba_, vi (3 : Int32), vi (3 : Int32), vi (2 : Int32), vi c2_]) (D 18 rfl) rfl rfl <| o_iinc X3 hx (l' := #[vr ca_, vi (3 : Int32), vr ba_, vi (3 : Int32), vi (3 : Int32), vi (3 : Int32), vi c2_]) (D 19 rfl) rfl rfl <| o_goto X3 hx 3 (D 20 rfl) rfl <| o_iload X3 hx (D 2 rfl) rfl <| o_iload X3 hx (D 3 rfl) rfl <| o_icmpYes X3 hx 44 (D 4 rfl) (flt (by decide : ¬ ((3 : Int32) < (3 : Int32)))).2.1 rfl <| o_iload X3 hx (D 21 rfl) rfl ?_
  exact oendI X3 hx hlk hret (D 22 rfl) (by decide) rfl ⟨rfl, N3, ((((Keep.refl h0 [ba_]).wr W1 (Or.inl (List.mem_of_getElem? (i := 0) rfl))).wr W2 (Or.inl (List.mem_of_getElem? (i := 0) rfl))).wr W3 (Or.inl (List.mem_of_getElem? (i := 0) rfl))), V3⟩
def own_Q_cmp3_3 (Z : State)  (ca_ : Addr) (kc_ : ClassId) (c0_ c1_ c2_ : Int32) (h0 : Heap) (n0 : Nat) (v : Option Value) (h : Heap) (L : List Loc) : Prop := ∃ ba_ : Addr, ∃ kb_ : ClassId, (v = some (.ref ba_)) ∧ (Fr n0 L) ∧ (Keep h0 h []) ∧ (h0.size ≤ ba_) ∧ (Arv Z h ba_ kb_ .byte (3 : Int32) [(.int c0_.toInt8.toInt32), (.int c1_.toInt8.toInt32), (.int c2_.toInt8.toInt32)] (.int 0))
theorem rm_cmp3_3 {l : Launch} {Z : State} {a0 : Array Value} (hw : own_hw a0 Z)  {ca_ : Addr} {kc_ : ClassId} {c0_ c1_ c2_ : Int32}  {h0 : Heap} {n0 : Nat} (O0 : Old Z n0 h0) (pr0 : Arv Z h0 ca_ kc_ .char (3 : Int32) [(.int c0_), (.int c1_), (.int c2_)] (.int 0)) (pr1 : ¬ ((255 : Int32) < c0_)) (pr2 : ¬ ((255 : Int32) < c1_)) (pr3 : ¬ ((255 : Int32) < c2_)) :
    oMet l Z yM12 jdk_52_method_16_code 6 (some (.array .byte)) [] (rmo 1 1 3 18) 1 3 #[(.ref ca_), (.int (0 : Int32)), (.int (3 : Int32))] h0 (own_Q_cmp3_3 Z  ca_ kc_ c0_ c1_ c2_ h0 n0) := by
  refine oenter (plainFor_of_name own_pn4) #[vr ca_, vi (0 : Int32), vi (3 : Int32), .unset, .unset, .unset] (fun _ => rfl) ?_
  intro p e s m below meth c s₁ X0 hx hZ hby hml hret hown hnm hlk e0
  have N0 := Fr.nil n0
  have D := own_hb hby D13
  have W := own_w hw
  refine o_iloadN X0 hx (D 0 rfl) rfl ?_
  obtain ⟨T1, _, k1, X1, rfl, E1, A1, Ex1, st1⟩ := newPE (aty := .byte) X0 hx hZ (W 24 rfl) e0 (g := (mkF m 1 #[vr ca_, vi (0 : Int32), vi (3 : Int32), .unset, .unset, .unset] [(.int (3 : Int32))])) rfl (D 1 rfl) rfl (by decide) (cap := 3) (by decide) (by decide) (by decide) (by decide) (ad := "[B") rfl
  obtain ⟨b1, g1⟩ : ∃ z, z = h0.size := ⟨_, rfl⟩
  rw [← g1] at A1 Ex1 st1
  have n0_b1 := own_on O0 g1
  have V1 : Arv Z T1.heap b1 k1 .byte (3 : Int32) [(.int 0), (.int 0), (.int 0)] (.int 0) := (Arv.new A1 (by decide)).pad (pad_rep [] (.int 0) 3)
  refine ogoF st1 <| o_astoreN X1 hx (l' := #[vr ca_, vi (0 : Int32), vi (3 : Int32), vr b1, .unset, .unset]) (D 2 rfl) rfl rfl <| o_aloadN X1 hx (D 3 rfl) rfl rfl <| o_iloadN X1 hx (D 4 rfl) rfl <| o_aloadN X1 hx (D 5 rfl) rfl rfl <| o_iconst X1 hx 0 (D 6 rfl) rfl <| o_iloadN X1 hx (D 7 rfl) rfl ?_
  have y3 : ca_ ≠ b1 := (Nat.ne_of_lt (Nat.lt_of_lt_of_le (Nat.lt_of_lt_of_le pr0.lt (Nat.le_refl _)) (Nat.le_of_eq g1.symm)))
  refine o_cS X1 hx hZ hown (rm_cmp5_3 hw  (O0.ext E1) (pr0.ext E1) V1 y3 n0_b1 pr1 pr2 pr3) (W 333 rfl) (W 334 rfl) (W 331 rfl) (W 335 rfl) (by decide) rfl hml rfl [(.ref ca_), (.int (0 : Int32)), (.ref b1), (.int (0 : Int32)), (.int (3 : Int32))] [] own_pd8 rfl rfl 0 rfl (by decide) (D 8 rfl) fun T2 L2 v2 X2 hQ2 => ?_
  obtain ⟨rfl, Nq2, K2, p2_0⟩ := hQ2
  have N2 := Fr.app N0 Nq2
  refine o_istore X2 hx (l' := #[vr ca_, vi (0 : Int32), vi (3 : Int32), vr b1, vi (3 : Int32), .unset]) (D 9 rfl) rfl <| o_iload X2 hx (D 10 rfl) rfl <| o_iloadN X2 hx (D 11 rfl) rfl <| o_icmpYes X2 hx 57 (D 12 rfl) (teq (by decide : (3 : Int32) = (3 : Int32))).1 rfl <| o_aloadN X2 hx (D 13 rfl) rfl rfl ?_
  exact oendR X2 hx hlk hret rfl rfl rfl (D 14 rfl) (by decide) rfl ⟨b1, k1, rfl, N2, (((Keep.refl h0 []).ext E1).trans K2 (allS (Or.inr (Nat.le_trans (Nat.le_refl _) (Nat.le_of_eq g1.symm))) all0)), (Nat.le_trans (Nat.le_refl _) (Nat.le_of_eq g1.symm)), p2_0⟩
def own_Q_codl_3 (Z : State)  (ba_ : Addr) (kb_ : ClassId) (vs_ : List Value) (h0 : Heap) (n0 : Nat) (v : Option Value) (h : Heap) (L : List Loc) : Prop := (v = some (.int (0 : Int32))) ∧ (Fr n0 L) ∧ (h = h0)
theorem rm_codl_3 {l : Launch} {Z : State} {a0 : Array Value} (hw : own_hw a0 Z)  {ba_ : Addr} {kb_ : ClassId} {vs_ : List Value}  {h0 : Heap} {n0 : Nat} (O0 : Old Z n0 h0) (pr0 : Arv Z h0 ba_ kb_ .byte (3 : Int32) vs_ (.int 0)) :
    oMet l Z yM13 jdk_52_method_15_code 2 (some .byte) [] (rmo 0 0 0 0) 0 0 #[(.ref ba_), (.int (3 : Int32))] h0 (own_Q_codl_3 Z  ba_ kb_ vs_ h0 n0) := by
  refine oenter (plainFor_of_name own_pn4) #[vr ba_, vi (3 : Int32)] (fun _ => rfl) ?_
  intro p e s m below meth c s₁ X0 hx hZ hby hml hret hown hnm hlk e0
  have N0 := Fr.nil n0
  have D := own_hb hby D14
  have W := own_w hw
  refine o_iloadN X0 hx (D 0 rfl) rfl <| o_aloadN X0 hx (D 1 rfl) rfl rfl <| o_alen X0 hx hZ e0 pr0 (D 2 rfl) <| o_isub X0 hx (D 3 rfl) <| o_bipush X0 hx 31 (D 4 rfl) rfl <| o_iushr X0 hx (D 5 rfl) <| o_i2b X0 hx (D 6 rfl) ?_
  exact oendN X0 hx hlk hret (by simp) (y := (0 : Int32)) rfl (D 7 rfl) (by decide) e0 ⟨rfl, N0, rfl⟩
def own_Q_new4_3 (Z : State) (z_CS : Int32) (v_FMT : Value) (s_DC : Addr) (k_DC : ClassId) (v_IO : Value) (x_ ca_ : Addr) (kc_ : ClassId) (c0_ c1_ c2_ : Int32) (h0 : Heap) (n0 : Nat) (v : Option Value) (h : Heap) (L : List Loc) : Prop := ∃ ba_ : Addr, ∃ kb_ : ClassId, (v = none) ∧ (Fr n0 L) ∧ (Keep h0 h [x_]) ∧ (h0.size ≤ ba_) ∧ (Arv Z h ba_ kb_ .byte (3 : Int32) [(.int c0_.toInt8.toInt32), (.int c1_.toInt8.toInt32), (.int c2_.toInt8.toInt32)] (.int 0)) ∧ (Exa Z h x_ "java/lang/String") ∧ (Fld Z h x_ "java/lang/String" "value" "[B" (.ref ba_)) ∧ (Fld Z h x_ "java/lang/String" "coder" "B" (.int (0 : Int32)))
theorem rm_new4_3 {l : Launch} {Z : State} {a0 : Array Value} (hw : own_hw a0 Z) {z_CS : Int32} {v_FMT : Value} {s_DC : Addr} {k_DC : ClassId} {v_IO : Value} {x_ ca_ : Addr} {kc_ : ClassId} {c0_ c1_ c2_ : Int32}  {h0 : Heap} {n0 : Nat} (SB : own_Start Z z_CS v_FMT s_DC k_DC v_IO) (O0 : Old Z n0 h0) (pr0 : Exa Z h0 x_ "java/lang/String") (pr1 : Fld Z h0 x_ "java/lang/String" "value" "[B" .null) (pr2 : Fld Z h0 x_ "java/lang/String" "coder" "B" (.int (0 : Int32))) (pr3 : Arv Z h0 ca_ kc_ .char (3 : Int32) [(.int c0_), (.int c1_), (.int c2_)] (.int 0)) (pr4 : n0 ≤ x_) (pr5 : ¬ ((255 : Int32) < c0_)) (pr6 : ¬ ((255 : Int32) < c1_)) (pr7 : ¬ ((255 : Int32) < c2_)) :
    oMet l Z yM14 jdk_42_method_149_code 6 none [] (rmo 2 1 3 35) 1 3 #[(.ref x_), (.ref ca_), (.int (0 : Int32)), (.int (3 : Int32)), .null] h0 (own_Q_new4_3 Z z_CS v_FMT s_DC k_DC v_IO x_ ca_ kc_ c0_ c1_ c2_ h0 n0) := by
  refine oenter (plainFor_of_name own_pn0) #[vr x_, vr ca_, vi (0 : Int32), vi (3 : Int32), .val .null, .unset] (fun _ => rfl) ?_
  intro p e s m below meth c s₁ X0 hx hZ hby hml hret hown hnm hlk e0
  have N0 := Fr.nil n0
  have D := own_hb hby D15
  obtain ⟨S_CS, H_CS, -⟩ := (id SB)
  have W := own_w hw
  refine o_aloadN X0 hx (D 0 rfl) rfl rfl ?_
  obtain ⟨T1, X1, e1, st1⟩ := initO X0 hx hZ hown (W 20 rfl) (W 21 rfl) (W 22 rfl) e0 (g := (mkF m 1 #[vr x_, vr ca_, vi (0 : Int32), vi (3 : Int32), .val .null, .unset] [(.ref x_)])) rfl (by rw [hml]; rfl) rfl (D 1 rfl) (by decide) (W := 0) (by show 2 * 0 + _ ≤ _; exact Nat.le_of_eq rfl) (by decide)
  refine ogoF st1 <| o_iloadN X1 hx (D 2 rfl) rfl <| o_ifYes X1 hx 27 (D 3 rfl) (feq (by decide : ¬ ((3 : Int32) = (0 : Int32)))).2 rfl <| o_getS X1 hx hZ hown (host := "") (Or.inl (W 174 rfl)) Via.refl e1 (Sta.ext O0.2 S_CS) (D 4 rfl) fun T2 X2 e2 => o_ifNo X2 hx (D 5 rfl) (feq H_CS).1 <| o_aloadN X2 hx (D 6 rfl) rfl rfl <| o_iloadN X2 hx (D 7 rfl) rfl <| o_iloadN X2 hx (D 8 rfl) rfl <| o_cS X2 hx hZ hown (rm_cmp3_3 hw  O0 pr3 pr5 pr6 pr7) (W 329 rfl) (W 330 rfl) (W 331 rfl) (W 332 rfl) (by decide) e2 hml rfl [(.ref ca_), (.int (0 : Int32)), (.int (3 : Int32))] [] own_pd9 rfl rfl 0 rfl (by decide) (D 9 rfl) fun T3 L3 v3 X3 hQ3 => ?_
  obtain ⟨ba_3, kb_3, rfl, Nq3, K3, p3_0, p3_1⟩ := hQ3
  have N3 := Fr.app N0 Nq3
  have n0_ba_3 := own_og O0 (Nat.le_trans (Nat.le_refl _) p3_0)
  refine o_astore X3 hx (l' := #[vr x_, vr ca_, vi (0 : Int32), vi (3 : Int32), .val .null, vr ba_3]) (D 10 rfl) rfl rfl <| o_aloadN X3 hx (D 11 rfl) rfl rfl <| o_aload X3 hx (D 12 rfl) rfl rfl <| o_iloadN X3 hx (D 13 rfl) rfl <| o_cS X3 hx hZ hown (rm_codl_3 hw  (O0.keep K3 all0) p3_1) (W 336 rfl) (W 337 rfl) (W 331 rfl) (W 338 rfl) (by decide) rfl hml rfl [(.ref ba_3), (.int (3 : Int32))] [(.ref x_)] own_pd10 rfl rfl 1 rfl (by decide) (D 14 rfl) fun T4 L4 v4 X4 hQ4 => ?_
  obtain ⟨rfl, Nq4, q4⟩ := hQ4
  have N4 := Fr.app N3 Nq4
  obtain ⟨T5, _, X5, rfl, W5, st5⟩ := putFN X4 hx hZ hown (W 30 rfl) Via.refl q4 (pr2.keep K3 nin0) (pr0.keep K3) (Or.inr ⟨(W 26 rfl), rfl, hnm⟩) (W 11 rfl) (ty := .byte) (v' := (.int (0 : Int32))) (by decide) rfl (by decide) (g := (mkF m 48 #[vr x_, vr ca_, vi (0 : Int32), vi (3 : Int32), .val .null, vr ba_3] [(.int (0 : Int32)), (.ref x_)])) rfl rfl (D 15 rfl)
  have N5 := Fr.snoc X5 N4 pr4
  have F5 := Fld.same W5 (pr2.keep K3 nin0)
  refine ogoF st5 <| o_aloadN X5 hx (D 16 rfl) rfl rfl <| o_aload X5 hx (D 17 rfl) rfl rfl ?_
  have c7 := (Fld.other W5 (pr1.keep K3 nin0) (Or.inr (slot_ne (Or.inr (W 25 rfl)) (Or.inr (W 26 rfl)) (by decide) (t := (.array .byte)) (t' := .byte) (by decide) (by decide))))
  obtain ⟨T6, _, X6, rfl, W6, st6⟩ := putF X5 hx hZ hown (host := "") (Or.inl (W 29 rfl)) Via.refl rfl c7 (Exa.wr W5 (pr0.keep K3)) (Or.inr ⟨(W 25 rfl), rfl, hnm⟩) (W 11 rfl) (ty := (.array .byte)) (by decide) rfl rfl (g := (mkF m 54 #[vr x_, vr ca_, vi (0 : Int32), vi (3 : Int32), .val .null, vr ba_3] [(.ref ba_3), (.ref x_)])) rfl rfl (D 18 rfl)
  have N6 := Fr.snoc X6 N5 pr4
  have F6 := Fld.same W6 c7
  refine ogoF st6 ?_
  have y8 : ba_3 ≠ x_ := (Nat.ne_of_gt (Nat.lt_of_lt_of_le (Nat.lt_of_lt_of_le pr0.lt (Nat.le_refl _)) p3_0))
  have c9 := (Fld.other W6 F5 (Or.inr (slot_ne (Or.inr (W 26 rfl)) (Or.inr (W 25 rfl)) (by decide) (t := .byte) (t' := (.array .byte)) (by decide) (by decide))))
  exact oendV X6 hx hlk hret (D 19 rfl) (by decide) rfl ⟨ba_3, kb_3, rfl, N6, ((((Keep.refl h0 [x_]).trans K3 all0).wr W5 (Or.inl (List.mem_of_getElem? (i := 0) rfl))).wr W6 (Or.inl (List.mem_of_getElem? (i := 0) rfl))), (Nat.le_trans (Nat.le_refl _) p3_0), ((p3_1.other W5 y8).other W6 y8), (Exa.wr W6 (Exa.wr W5 (pr0.keep K3))), F6, c9⟩
def own_Q_new1_3 (Z : State) (z_CS : Int32) (v_FMT : Value) (s_DC : Addr) (k_DC : ClassId) (v_IO : Value) (x_ ca_ : Addr) (kc_ : ClassId) (c0_ c1_ c2_ : Int32) (h0 : Heap) (n0 : Nat) (v : Option Value) (h : Heap) (L : List Loc) : Prop := ∃ ba_ : Addr, ∃ kb_ : ClassId, (v = none) ∧ (Fr n0 L) ∧ (Keep h0 h [x_]) ∧ (h0.size ≤ ba_) ∧ (Arv Z h ba_ kb_ .byte (3 : Int32) [(.int c0_.toInt8.toInt32), (.int c1_.toInt8.toInt32), (.int c2_.toInt8.toInt32)] (.int 0)) ∧ (Exa Z h x_ "java/lang/String") ∧ (Fld Z h x_ "java/lang/String" "value" "[B" (.ref ba_)) ∧ (Fld Z h x_ "java/lang/String" "coder" "B" (.int (0 : Int32)))
theorem rm_new1_3 {l : Launch} {Z : State} {a0 : Array Value} (hw : own_hw a0 Z) {z_CS : Int32} {v_FMT : Value} {s_DC : Addr} {k_DC : ClassId} {v_IO : Value} {x_ ca_ : Addr} {kc_ : ClassId} {c0_ c1_ c2_ : Int32}  {h0 : Heap} {n0 : Nat} (SB : own_Start Z z_CS v_FMT s_DC k_DC v_IO) (O0 : Old Z n0 h0) (pr0 : Exa Z h0 x_ "java/lang/String") (pr1 : Fld Z h0 x_ "java/lang/String" "value" "[B" .null) (pr2 : Fld Z h0 x_ "java/lang/String" "coder" "B" (.int (0 : Int32))) (pr3 : Arv Z h0 ca_ kc_ .char (3 : Int32) [(.int c0_), (.int c1_), (.int c2_)] (.int 0)) (pr4 : n0 ≤ x_) (pr5 : ¬ ((255 : Int32) < c0_)) (pr6 : ¬ ((255 : Int32) < c1_)) (pr7 : ¬ ((255 : Int32) < c2_)) :
    oMet l Z yM15 jdk_42_method_3_code 2 none [] (rmo 3 1 3 52) 1 3 #[(.ref x_), (.ref ca_)] h0 (own_Q_new1_3 Z z_CS v_FMT s_DC k_DC v_IO x_ ca_ kc_ c0_ c1_ c2_ h0 n0) := by
  refine oenter (plainFor_of_name own_pn0) #[vr x_, vr ca_] (fun _ => rfl) ?_
  intro p e s m below meth c s₁ X0 hx hZ hby hml hret hown hnm hlk e0
  have N0 := Fr.nil n0
  have D := own_hb hby D16
  have W := own_w hw
  refine o_aloadN X0 hx (D 0 rfl) rfl rfl <| o_aloadN X0 hx (D 1 rfl) rfl rfl <| o_iconst X0 hx 0 (D 2 rfl) rfl <| o_aloadN X0 hx (D 3 rfl) rfl rfl <| o_alen X0 hx hZ e0 pr3 (D 4 rfl) <| o_aconst_null X0 hx (D 5 rfl) <| o_cI X0 hx hZ hown (rm_new4_3 hw  SB O0 pr0 pr1 pr2 pr3 pr4 pr5 pr6 pr7) rfl (W 16 rfl) (W 17 rfl) (W 12 rfl) (W 19 rfl) (by decide) e0 hml rfl [(.ref ca_), (.int (0 : Int32)), (.int (3 : Int32)), .null] [] own_pd11 rfl rfl 0 rfl (by decide) (D 6 rfl) fun T1 L1 v1 X1 hQ1 => ?_
  obtain ⟨ba_1, kb_1, rfl, Nq1, K1, p1_0, p1_1, p1_2, p1_3, p1_4⟩ := hQ1
  have N1 := Fr.app N0 Nq1
  have n0_ba_1 := own_og O0 (Nat.le_trans (Nat.le_refl _) p1_0)
  exact oendV X1 hx hlk hret (D 7 rfl) (by decide) rfl ⟨ba_1, kb_1, rfl, N1, ((Keep.refl h0 [x_]).trans K1 (allS (Or.inl (List.mem_of_getElem? (i := 0) rfl)) all0)), (Nat.le_trans (Nat.le_refl _) p1_0), p1_1, p1_2, p1_3, p1_4⟩
def own_Q_cmp5_4 (Z : State)  (ca_ : Addr) (kc_ : ClassId) (ba_ : Addr) (kb_ : ClassId) (c0_ c1_ c2_ c3_ : Int32) (h0 : Heap) (n0 : Nat) (v : Option Value) (h : Heap) (L : List Loc) : Prop := (v = some (.int (4 : Int32))) ∧ (Fr n0 L) ∧ (Keep h0 h [ba_]) ∧ (Arv Z h ba_ kb_ .byte (4 : Int32) [(.int c0_.toInt8.toInt32), (.int c1_.toInt8.toInt32), (.int c2_.toInt8.toInt32), (.int c3_.toInt8.toInt32)] (.int 0))
theorem rm_cmp5_4 {l : Launch} {Z : State} {a0 : Array Value} (hw : own_hw a0 Z)  {ca_ : Addr} {kc_ : ClassId} {ba_ : Addr} {kb_ : ClassId} {c0_ c1_ c2_ c3_ : Int32}  {h0 : Heap} {n0 : Nat} (O0 : Old Z n0 h0) (pr0 : Arv Z h0 ca_ kc_ .char (4 : Int32) [(.int c0_), (.int c1_), (.int c2_), (.int c3_)] (.int 0)) (pr1 : Arv Z h0 ba_ kb_ .byte (4 : Int32) [(.int 0), (.int 0), (.int 0), (.int 0)] (.int 0)) (pr2 : ca_ ≠ ba_) (pr3 : n0 ≤ ba_) (pr4 : ¬ ((255 : Int32) < c0_)) (pr5 : ¬ ((255 : Int32) < c1_)) (pr6 : ¬ ((255 : Int32) < c2_)) (pr7 : ¬ ((255 : Int32) < c3_)) :
    oMet l Z yM11 jdk_52_method_21_code 7 (some .int) [] (rmo 0 0 0 0) 0 0 #[(.ref ca_), (.int (0 : Int32)), (.ref ba_), (.int (0 : Int32)), (.int (4 : Int32))] h0 (own_Q_cmp5_4 Z  ca_ kc_ ba_ kb_ c0_ c1_ c2_ c3_ h0 n0) := by
  refine oenter (plainFor_of_name own_pn4) #[vr ca_, vi (0 : Int32), vr ba_, vi (0 : Int32), vi (4 : Int32), .unset, .unset] (fun _ => rfl) ?_
  intro p e s m below meth c s₁ X0 hx hZ hby hml hret hown hnm hlk e0
  have N0 := Fr.nil n0
  have D := own_hb hby D12
  have W := own_w hw
  refine o_iconst X0 hx 0 (D 0 rfl) rfl <| o_istore X0 hx (l' := #[vr ca_, vi (0 : Int32), vr ba_, vi (0 : Int32), vi (4 : Int32), vi (0 : Int32), .unset]) (D 1 rfl) rfl <| o_iload X0 hx (D 2 rfl) rfl <| o_iload X0 hx (D 3 rfl) rfl <| o_icmpNo X0 hx (D 4 rfl) (tlt (by decide : (0 : Int32) < (4 : Int32))).2.1 <| o_aloadN X0 hx (D 5 rfl) rfl rfl <| o_iloadN X0 hx (D 6 rfl) rfl <| o_cal X0 hx hZ e0 pr0 ⟨by decide, by decide⟩ (v := (.int c0_)) rfl (D 7 rfl) <| o_istore X0 hx (l' := #[vr ca_, vi (0 : Int32), vr ba_, vi (0 : Int32), vi (4 : Int32), vi (0 : Int32), vi c0_]) (D 8 rfl) rfl <| o_iload X0 hx (D 9 rfl) rfl <| o_sipush X0 hx 255 (D 10 rfl) rfl <| o_icmpYes X0 hx 26 (D 11 rfl) (flt pr4).2.2.2 rfl <| o_aloadN X0 hx (D 12 rfl) rfl rfl <| o_iloadN X0 hx (D 13 rfl) rfl <| o_iload X0 hx (D 14 rfl) rfl <| o_i2b X0 hx (D 15 rfl) ?_
  obtain ⟨cl1, Ar1, q1, S1, N1z, H1, G1⟩ := (id pr1)
  obtain ⟨T1, _, X1, rfl, W1, st1⟩ := stB X0 hx hZ e0 Ar1 (j := (0 : Int32)) (inb_of S1 ⟨by decide, by decide⟩) (g := (mkF m 31 #[vr ca_, vi (0 : Int32), vr ba_, vi (0 : Int32), vi (4 : Int32), vi (0 : Int32), vi c0_] [(.int c0_.toInt8.toInt32), (.int (0 : Int32)), (.ref ba_)])) rfl rfl (D 16 rfl)
  rw [own_narb] at W1
  have V1 : Arv Z T1.heap ba_ kb_ .byte (4 : Int32) [(.int c0_.toInt8.toInt32), (.int 0), (.int 0), (.int 0)] (.int 0) := Arv.set Ar1 q1 S1 N1z H1 G1 (fits_nar_byte _) W1 0 rfl (Nat.le_of_ble_eq_true rfl)
  have N1 := Fr.snoc X1 N0 pr3
  refine ogoF st1 <| o_iinc X1 hx (l' := #[vr ca_, vi (1 : Int32), vr ba_, vi (0 : Int32), vi (4 : Int32), vi (0 : Int32), vi c0_]) (D 17 rfl) rfl rfl <| o_iinc X1 hx (l' := #[vr ca_, vi (1 : Int32), vr ba_, vi (1 : Int32), vi (4 : Int32), vi (0 : Int32), vi c0_]) (D 18 rfl) rfl rfl <| o_iinc X1 hx (l' := #[vr ca_, vi (1 : Int32), vr ba_, vi (1 : Int32), vi (4 : Int32), vi (1 : Int32), vi c0_]) (D 19 rfl) rfl rfl <| o_goto X1 hx 3 (D 20 rfl) rfl <| o_iload X1 hx (D 2 rfl) rfl <| o_iload X1 hx (D 3 rfl) rfl <| o_icmpNo X1 hx (D 4 rfl) (tlt (by decide : (1 : Int32) < (4 : Int32))).2.1 <| o_aloadN X1 hx (D 5 rfl) rfl rfl <| o_iloadN X1 hx (D 6 rfl) rfl <| o_cal X1 hx hZ rfl (pr0.other W1 pr2) ⟨by decide, by decide⟩ (v := (.int c1_)) rfl (D 7 rfl) <| o_istore X1 hx (l' := #[vr ca_, vi (1 : Int32), vr ba_, vi (1 : Int32), vi (4 : Int32), vi (1 : Int32), vi c1_]) (D 8 rfl) rfl <| o_iload X1 hx (D 9 rfl) rfl <| o_sipush X1 hx 255 (D 10 rfl) rfl <| o_icmpYes X1 hx 26 (D 11 rfl) (flt pr5).2.2.2 rfl <| o_aloadN X1 hx (D 12 rfl) rfl rfl <| o_iloadN X1 hx (D 13 rfl) rfl <| o_iload X1 hx (D 14 rfl) rfl <| o_i2b X1 hx (D 15 rfl) ?_
  obtain ⟨cl2, Ar2, q2, S2, N2z, H2, G2⟩ := (id V1)
  obtain ⟨T2, _, X2, rfl, W2, st2⟩ := stB X1 hx hZ rfl Ar2 (j := (1 : Int32)) (inb_of S2 ⟨by decide, by decide⟩) (g := (mkF m 31 #[vr ca_, vi (1 : Int32), vr ba_, vi (1 : Int32), vi (4 : Int32), vi (1 : Int32), vi c1_] [(.int c1_.toInt8.toInt32), (.int (1 : Int32)), (.ref ba_)])) rfl rfl (D 16 rfl)
  rw [own_narb] at W2
  have V2 : Arv Z T2.heap ba_ kb_ .byte (4 : Int32) [(.int c0_.toInt8.toInt32), (.int c1_.toInt8.toInt32), (.int 0), (.int 0)] (.int 0) := Arv.set Ar2 q2 S2 N2z H2 G2 (fits_nar_byte _) W2 1 rfl (Nat.le_of_ble_eq_true rfl)
  have N2 := Fr.snoc X2 N1 pr3
  refine ogoF st2 <| o_iinc X2 hx (l' := #[vr ca_, vi (2 : Int32), vr ba_, vi (1 : Int32), vi (4 : Int32), vi (1 : Int32), vi c1_]) (D 17 rfl) rfl rfl <| o_iinc X2 hx (l' := #[vr ca_, vi (2 : Int32), vr ba_, vi (2 : Int32), vi (4 : Int32), vi (1 : Int32), vi c1_]) (D 18 rfl) rfl rfl <| o_iinc X2 hx (l' := #[vr ca_, vi (2 : Int32), vr ba_, vi (2 : Int32), vi (4 : Int32), vi (2 : Int32), vi c1_]) (D 19 rfl) rfl rfl <| o_goto X2 hx 3 (D 20 rfl) rfl <| o_iload X2 hx (D 2 rfl) rfl <| o_iload X2 hx (D 3 rfl) rfl <| o_icmpNo X2 hx (D 4 rfl) (tlt (by decide : (2 : Int32) < (4 : Int32))).2.1 <| o_aloadN X2 hx (D 5 rfl) rfl rfl <| o_iloadN X2 hx (D 6 rfl) rfl <| o_cal X2 hx hZ rfl ((pr0.other W1 pr2).other W2 pr2) ⟨by decide, by decide⟩ (v := (.int c2_)) rfl (D 7 rfl) <| o_istore X2 hx (l' := #[vr ca_, vi (2 : Int32), vr ba_, vi (2 : Int32), vi (4 : Int32), vi (2 : Int32), vi c2_]) (D 8 rfl) rfl <| o_iload X2 hx (D 9 rfl) rfl <| o_sipush X2 hx 255 (D 10 rfl) rfl <| o_icmpYes X2 hx 26 (D 11 rfl) (flt pr6).2.2.2 rfl <| o_aloadN X2 hx (D 12 rfl) rfl rfl <| o_iloadN X2 hx (D 13 rfl) rfl <| o_iload X2 hx (D 14 rfl) rfl <| o_i2b X2 hx (D 15 rfl) ?_
  obtain ⟨cl3, Ar3, q3, S3, N3z, H3, G3⟩ := (id V2)
  obtain ⟨T3, _, X3, rfl, W3, st3⟩ := stB X2 hx hZ rfl Ar3 (j := (2 : Int32)) (inb_of S3 ⟨by decide, by decide⟩) (g := (mkF m 31 #[vr ca_, vi (2 : Int32), vr ba_, vi (2 : Int32), vi (4 : Int32), vi (2 : Int32), vi c2_] [(.int c2_.toInt8.toInt32), (.int (2 : Int32)), (.ref ba_)])) rfl rfl (D 16 rfl)
  rw [own_narb] at W3
  have V3 : Arv Z T3.heap ba_ kb_ .byte (4 : Int32) [(.int c0_.toInt8.toInt32), (.int c1_.toInt8.toInt32), (.int c2_.toInt8.toInt32), (.int 0)] (.int 0) := Arv.set Ar3 q3 S3 N3z H3 G3 (fits_nar_byte _) W3 2 rfl (Nat.le_of_ble_eq_true rfl)
  have N3 := Fr.snoc X3 N2 pr3
  refine ogoF st3 <| o_iinc X3 hx (l' := #[vr ca_, vi (3 : Int32), vr ba_, vi (2 : Int32), vi (4 : Int32), vi (2 : Int32), vi c2_]) (D 17 rfl) rfl rfl <| o_iinc X3 hx (l' := #[vr ca_, vi (3 : Int32), vr ba_, vi (3 : Int32), vi (4 : Int32), vi (2 : Int32), vi c2_]) (D 18 rfl) rfl rfl <| o_iinc X3 hx (l' := #[vr ca_, vi (3 : Int32), vr ba_, vi (3 : Int32), vi (4 : Int32), vi (3 : Int32), vi c2_]) (D 19 rfl) rfl rfl <| o_goto X3 hx 3 (D 20 rfl) rfl <| o_iload X3 hx (D 2 rfl) rfl <| o_iload X3 hx (D 3 rfl) rfl <| o_icmpNo X3 hx (D 4 rfl) (tlt (by decide : (3 : Int32) < (4 : Int32))).2.1 <| o_aloadN X3 hx (D 5 rfl) rfl rfl <| o_iloadN X3 hx (D 6 rfl) rfl <| o_cal X3 hx hZ rfl (((pr0.other W1 pr2).other W2 pr2).other W3 pr2) ⟨by decide, by decide⟩ (v := (.int c3_)) rfl (D 7 rfl) <| o_istore X3 hx (l' := #[vr ca_, vi (3 : Int32), vr ba_, vi (3 : Int32), vi (4 : Int32), vi (3 : Int32), vi c3_]) (D 8 rfl) rfl <| o_iload X3 hx (D 9 rfl) rfl <| o_sipush X3 hx 255 (D 10 rfl) rfl <| o_icmpYes X3 hx 26 (D 11 rfl) (flt pr7).2.2.2 rfl <| o_aloadN X3 hx (D 12 rfl) rfl rfl <| o_iloadN X3 hx (D 13 rfl) rfl <| o_iload X3 hx (D 14 rfl) rfl <| o_i2b X3 hx (D 15 rfl) ?_
  obtain ⟨cl4, Ar4, q4, S4, N4z, H4, G4⟩ := (id V3)
  obtain ⟨T4, _, X4, rfl, W4, st4⟩ := stB X3 hx hZ rfl Ar4 (j := (3 : Int32)) (inb_of S4 ⟨by decide, by decide⟩) (g := (mkF m 31 #[vr ca_, vi (3 : Int32), vr ba_, vi (3 : Int32), vi (4 : Int32), vi (3 : Int32), vi c3_] [(.int c3_.toInt8.toInt32), (.int (3 : Int32)), (.ref ba_)])) rfl rfl (D 16 rfl)
  rw [own_narb] at W4
  have V4 : Arv Z T4.heap ba_ kb_ .byte (4 : Int32) [(.int c0_.toInt8.toInt32), (.int c1_.toInt8.toInt32), (.int c2_.toInt8.toInt32), (.int c3_.toInt8.toInt32)] (.int 0) := Arv.set Ar4 q4 S4 N4z H4 G4 (fits_nar_byte _) W4 3 rfl (Nat.le_of_ble_eq_true rfl)
  have N4 := Fr.snoc X4 N3 pr3
  refine ogoF st4 <| o_iinc X4 hx (l' := #[vr ca_, vi (4 : Int32), vr ba_, vi (3 : Int32), vi (4 : Int32), vi (3 : Int32), vi c3_]) (D 17 rfl) rfl rfl <| o_iinc X4 hx (l' := #[vr ca_, vi (4 : Int32), vr ba_, vi (4 : Int32), vi (4 : Int32), vi (3 : Int32), vi c3_]) (D 18 rfl) rfl rfl <| o_iinc X4 hx (l' := #[vr ca_, vi (4 : Int32), vr ba_, vi (4 : Int32), vi (4 : Int32), vi (4 : Int32), vi c3_]) (D 19 rfl) rfl rfl <| o_goto X4 hx 3 (D 20 rfl) rfl <| o_iload X4 hx (D 2 rfl) rfl <| o_iload X4 hx (D 3 rfl) rfl <| o_icmpYes X4 hx 44 (D 4 rfl) (flt (by decide : ¬ ((4 : Int32) < (4 : Int32)))).2.1 rfl <| o_iload X4 hx (D 21 rfl) rfl ?_
  exact oendI X4 hx hlk hret (D 22 rfl) (by decide) rfl ⟨rfl, N4, (((((Keep.refl h0 [ba_]).wr W1 (Or.inl (List.mem_of_getElem? (i := 0) rfl))).wr W2 (Or.inl (List.mem_of_getElem? (i := 0) rfl))).wr W3 (Or.inl (List.mem_of_getElem? (i := 0) rfl))).wr W4 (Or.inl (List.mem_of_getElem? (i := 0) rfl))), V4⟩
def own_Q_cmp3_4 (Z : State)  (ca_ : Addr) (kc_ : ClassId) (c0_ c1_ c2_ c3_ : Int32) (h0 : Heap) (n0 : Nat) (v : Option Value) (h : Heap) (L : List Loc) : Prop := ∃ ba_ : Addr, ∃ kb_ : ClassId, (v = some (.ref ba_)) ∧ (Fr n0 L) ∧ (Keep h0 h []) ∧ (h0.size ≤ ba_) ∧ (Arv Z h ba_ kb_ .byte (4 : Int32) [(.int c0_.toInt8.toInt32), (.int c1_.toInt8.toInt32), (.int c2_.toInt8.toInt32), (.int c3_.toInt8.toInt32)] (.int 0))
theorem rm_cmp3_4 {l : Launch} {Z : State} {a0 : Array Value} (hw : own_hw a0 Z)  {ca_ : Addr} {kc_ : ClassId} {c0_ c1_ c2_ c3_ : Int32}  {h0 : Heap} {n0 : Nat} (O0 : Old Z n0 h0) (pr0 : Arv Z h0 ca_ kc_ .char (4 : Int32) [(.int c0_), (.int c1_), (.int c2_), (.int c3_)] (.int 0)) (pr1 : ¬ ((255 : Int32) < c0_)) (pr2 : ¬ ((255 : Int32) < c1_)) (pr3 : ¬ ((255 : Int32) < c2_)) (pr4 : ¬ ((255 : Int32) < c3_)) :
    oMet l Z yM12 jdk_52_method_16_code 6 (some (.array .byte)) [] (rmo 1 1 4 18) 1 4 #[(.ref ca_), (.int (0 : Int32)), (.int (4 : Int32))] h0 (own_Q_cmp3_4 Z  ca_ kc_ c0_ c1_ c2_ c3_ h0 n0) := by
  refine oenter (plainFor_of_name own_pn4) #[vr ca_, vi (0 : Int32), vi (4 : Int32), .unset, .unset, .unset] (fun _ => rfl) ?_
  intro p e s m below meth c s₁ X0 hx hZ hby hml hret hown hnm hlk e0
  have N0 := Fr.nil n0
  have D := own_hb hby D13
  have W := own_w hw
  refine o_iloadN X0 hx (D 0 rfl) rfl ?_
  obtain ⟨T1, _, k1, X1, rfl, E1, A1, Ex1, st1⟩ := newPE (aty := .byte) X0 hx hZ (W 24 rfl) e0 (g := (mkF m 1 #[vr ca_, vi (0 : Int32), vi (4 : Int32), .unset, .unset, .unset] [(.int (4 : Int32))])) rfl (D 1 rfl) rfl (by decide) (cap := 4) (by decide) (by decide) (by decide) (by decide) (ad := "[B") rfl
  obtain ⟨b1, g1⟩ : ∃ z, z = h0.size := ⟨_, rfl⟩
  rw [← g1] at A1 Ex1 st1
  have n0_b1 := own_on O0 g1
  have V1 : Arv Z T1.heap b1 k1 .byte (4 : Int32) [(.int 0), (.int 0), (.int 0), (.int 0)] (.int 0) := (Arv.new A1 (by decide)).pad (pad_rep [] (.int 0) 4)
  refine ogoF st1 <| o_astoreN X1 hx (l' := #[vr ca_, vi (0 : Int32), vi (4 : Int32), vr b1, .unset, .unset]) (D 2 rfl) rfl rfl <| o_aloadN X1 hx (D 3 rfl) rfl rfl <| o_iloadN X1 hx (D 4 rfl) rfl <| o_aloadN X1 hx (D 5 rfl) rfl rfl <| o_iconst X1 hx 0 (D 6 rfl) rfl <| o_iloadN X1 hx (D 7 rfl) rfl ?_
  have y3 : ca_ ≠ b1 := (Nat.ne_of_lt (Nat.lt_of_lt_of_le (Nat.lt_of_lt_of_le pr0.lt (Nat.le_refl _)) (Nat.le_of_eq g1.symm)))
  refine o_cS X1 hx hZ hown (rm_cmp5_4 hw  (O0.ext E1) (pr0.ext E1) V1 y3 n0_b1 pr1 pr2 pr3 pr4) (W 333 rfl) (W 334 rfl) (W 331 rfl) (W 335 rfl) (by decide) rfl hml rfl [(.ref ca_), (.int (0 : Int32)), (.ref b1), (.int (0 : Int32)), (.int (4 : Int32))] [] own_pd8 rfl rfl 0 rfl (by decide) (D 8 rfl) fun T2 L2 v2 X2 hQ2 => ?_
  obtain ⟨rfl, Nq2, K2, p2_0⟩ := hQ2
  have N2 := Fr.app N0 Nq2
  refine o_istore X2 hx (l' := #[vr ca_, vi (0 : Int32), vi (4 : Int32), vr b1, vi (4 : Int32), .unset]) (D 9 rfl) rfl <| o_iload X2 hx (D 10 rfl) rfl <| o_iloadN X2 hx (D 11 rfl) rfl <| o_icmpYes X2 hx 57 (D 12 rfl) (teq (by decide : (4 : Int32) = (4 : Int32))).1 rfl <| o_aloadN X2 hx (D 13 rfl) rfl rfl ?_
  exact oendR X2 hx hlk hret rfl rfl rfl (D 14 rfl) (by decide) rfl ⟨b1, k1, rfl, N2, (((Keep.refl h0 []).ext E1).trans K2 (allS (Or.inr (Nat.le_trans (Nat.le_refl _) (Nat.le_of_eq g1.symm))) all0)), (Nat.le_trans (Nat.le_refl _) (Nat.le_of_eq g1.symm)), p2_0⟩
def own_Q_codl_4 (Z : State)  (ba_ : Addr) (kb_ : ClassId) (vs_ : List Value) (h0 : Heap) (n0 : Nat) (v : Option Value) (h : Heap) (L : List Loc) : Prop := (v = some (.int (0 : Int32))) ∧ (Fr n0 L) ∧ (h = h0)
theorem rm_codl_4 {l : Launch} {Z : State} {a0 : Array Value} (hw : own_hw a0 Z)  {ba_ : Addr} {kb_ : ClassId} {vs_ : List Value}  {h0 : Heap} {n0 : Nat} (O0 : Old Z n0 h0) (pr0 : Arv Z h0 ba_ kb_ .byte (4 : Int32) vs_ (.int 0)) :
    oMet l Z yM13 jdk_52_method_15_code 2 (some .byte) [] (rmo 0 0 0 0) 0 0 #[(.ref ba_), (.int (4 : Int32))] h0 (own_Q_codl_4 Z  ba_ kb_ vs_ h0 n0) := by
  refine oenter (plainFor_of_name own_pn4) #[vr ba_, vi (4 : Int32)] (fun _ => rfl) ?_
  intro p e s m below meth c s₁ X0 hx hZ hby hml hret hown hnm hlk e0
  have N0 := Fr.nil n0
  have D := own_hb hby D14
  have W := own_w hw
  refine o_iloadN X0 hx (D 0 rfl) rfl <| o_aloadN X0 hx (D 1 rfl) rfl rfl <| o_alen X0 hx hZ e0 pr0 (D 2 rfl) <| o_isub X0 hx (D 3 rfl) <| o_bipush X0 hx 31 (D 4 rfl) rfl <| o_iushr X0 hx (D 5 rfl) <| o_i2b X0 hx (D 6 rfl) ?_
  exact oendN X0 hx hlk hret (by simp) (y := (0 : Int32)) rfl (D 7 rfl) (by decide) e0 ⟨rfl, N0, rfl⟩
def own_Q_new4_4 (Z : State) (z_CS : Int32) (v_FMT : Value) (s_DC : Addr) (k_DC : ClassId) (v_IO : Value) (x_ ca_ : Addr) (kc_ : ClassId) (c0_ c1_ c2_ c3_ : Int32) (h0 : Heap) (n0 : Nat) (v : Option Value) (h : Heap) (L : List Loc) : Prop := ∃ ba_ : Addr, ∃ kb_ : ClassId, (v = none) ∧ (Fr n0 L) ∧ (Keep h0 h [x_]) ∧ (h0.size ≤ ba_) ∧ (Arv Z h ba_ kb_ .byte (4 : Int32) [(.int c0_.toInt8.toInt32), (.int c1_.toInt8.toInt32), (.int c2_.toInt8.toInt32), (.int c3_.toInt8.toInt32)] (.int 0)) ∧ (Exa Z h x_ "java/lang/String") ∧ (Fld Z h x_ "java/lang/String" "value" "[B" (.ref ba_)) ∧ (Fld Z h x_ "java/lang/String" "coder" "B" (.int (0 : Int32)))
theorem rm_new4_4 {l : Launch} {Z : State} {a0 : Array Value} (hw : own_hw a0 Z) {z_CS : Int32} {v_FMT : Value} {s_DC : Addr} {k_DC : ClassId} {v_IO : Value} {x_ ca_ : Addr} {kc_ : ClassId} {c0_ c1_ c2_ c3_ : Int32}  {h0 : Heap} {n0 : Nat} (SB : own_Start Z z_CS v_FMT s_DC k_DC v_IO) (O0 : Old Z n0 h0) (pr0 : Exa Z h0 x_ "java/lang/String") (pr1 : Fld Z h0 x_ "java/lang/String" "value" "[B" .null) (pr2 : Fld Z h0 x_ "java/lang/String" "coder" "B" (.int (0 : Int32))) (pr3 : Arv Z h0 ca_ kc_ .char (4 : Int32) [(.int c0_), (.int c1_), (.int c2_), (.int c3_)] (.int 0)) (pr4 : n0 ≤ x_) (pr5 : ¬ ((255 : Int32) < c0_)) (pr6 : ¬ ((255 : Int32) < c1_)) (pr7 : ¬ ((255 : Int32) < c2_)) (pr8 : ¬ ((255 : Int32) < c3_)) :
    oMet l Z yM14 jdk_42_method_149_code 6 none [] (rmo 2 1 4 35) 1 4 #[(.ref x_), (.ref ca_), (.int (0 : Int32)), (.int (4 : Int32)), .null] h0 (own_Q_new4_4 Z z_CS v_FMT s_DC k_DC v_IO x_ ca_ kc_ c0_ c1_ c2_ c3_ h0 n0) := by
  refine oenter (plainFor_of_name own_pn0) #[vr x_, vr ca_, vi (0 : Int32), vi (4 : Int32), .val .null, .unset] (fun _ => rfl) ?_
  intro p e s m below meth c s₁ X0 hx hZ hby hml hret hown hnm hlk e0
  have N0 := Fr.nil n0
  have D := own_hb hby D15
  obtain ⟨S_CS, H_CS, -⟩ := (id SB)
  have W := own_w hw
  refine o_aloadN X0 hx (D 0 rfl) rfl rfl ?_
  obtain ⟨T1, X1, e1, st1⟩ := initO X0 hx hZ hown (W 20 rfl) (W 21 rfl) (W 22 rfl) e0 (g := (mkF m 1 #[vr x_, vr ca_, vi (0 : Int32), vi (4 : Int32), .val .null, .unset] [(.ref x_)])) rfl (by rw [hml]; rfl) rfl (D 1 rfl) (by decide) (W := 0) (by show 2 * 0 + _ ≤ _; exact Nat.le_of_eq rfl) (by decide)
  refine ogoF st1 <| o_iloadN X1 hx (D 2 rfl) rfl <| o_ifYes X1 hx 27 (D 3 rfl) (feq (by decide : ¬ ((4 : Int32) = (0 : Int32)))).2 rfl <| o_getS X1 hx hZ hown (host := "") (Or.inl (W 174 rfl)) Via.refl e1 (Sta.ext O0.2 S_CS) (D 4 rfl) fun T2 X2 e2 => o_ifNo X2 hx (D 5 rfl) (feq H_CS).1 <| o_aloadN X2 hx (D 6 rfl) rfl rfl <| o_iloadN X2 hx (D 7 rfl) rfl <| o_iloadN X2 hx (D 8 rfl) rfl <| o_cS X2 hx hZ hown (rm_cmp3_4 hw  O0 pr3 pr5 pr6 pr7 pr8) (W 329 rfl) (W 330 rfl) (W 331 rfl) (W 332 rfl) (by decide) e2 hml rfl [(.ref ca_), (.int (0 : Int32)), (.int (4 : Int32))] [] own_pd9 rfl rfl 0 rfl (by decide) (D 9 rfl) fun T3 L3 v3 X3 hQ3 => ?_
  obtain ⟨ba_3, kb_3, rfl, Nq3, K3, p3_0, p3_1⟩ := hQ3
  have N3 := Fr.app N0 Nq3
  have n0_ba_3 := own_og O0 (Nat.le_trans (Nat.le_refl _) p3_0)
  refine o_astore X3 hx (l' := #[vr x_, vr ca_, vi (0 : Int32), vi (4 : Int32), .val .null, vr ba_3]) (D 10 rfl) rfl rfl <| o_aloadN X3 hx (D 11 rfl) rfl rfl <| o_aload X3 hx (D 12 rfl) rfl rfl <| o_iloadN X3 hx (D 13 rfl) rfl <| o_cS X3 hx hZ hown (rm_codl_4 hw  (O0.keep K3 all0) p3_1) (W 336 rfl) (W 337 rfl) (W 331 rfl) (W 338 rfl) (by decide) rfl hml rfl [(.ref ba_3), (.int (4 : Int32))] [(.ref x_)] own_pd10 rfl rfl 1 rfl (by decide) (D 14 rfl) fun T4 L4 v4 X4 hQ4 => ?_
  obtain ⟨rfl, Nq4, q4⟩ := hQ4
  have N4 := Fr.app N3 Nq4
  obtain ⟨T5, _, X5, rfl, W5, st5⟩ := putFN X4 hx hZ hown (W 30 rfl) Via.refl q4 (pr2.keep K3 nin0) (pr0.keep K3) (Or.inr ⟨(W 26 rfl), rfl, hnm⟩) (W 11 rfl) (ty := .byte) (v' := (.int (0 : Int32))) (by decide) rfl (by decide) (g := (mkF m 48 #[vr x_, vr ca_, vi (0 : Int32), vi (4 : Int32), .val .null, vr ba_3] [(.int (0 : Int32)), (.ref x_)])) rfl rfl (D 15 rfl)
  have N5 := Fr.snoc X5 N4 pr4
  have F5 := Fld.same W5 (pr2.keep K3 nin0)
  refine ogoF st5 <| o_aloadN X5 hx (D 16 rfl) rfl rfl <| o_aload X5 hx (D 17 rfl) rfl rfl ?_
  have c7 := (Fld.other W5 (pr1.keep K3 nin0) (Or.inr (slot_ne (Or.inr (W 25 rfl)) (Or.inr (W 26 rfl)) (by decide) (t := (.array .byte)) (t' := .byte) (by decide) (by decide))))
  obtain ⟨T6, _, X6, rfl, W6, st6⟩ := putF X5 hx hZ hown (host := "") (Or.inl (W 29 rfl)) Via.refl rfl c7 (Exa.wr W5 (pr0.keep K3)) (Or.inr ⟨(W 25 rfl), rfl, hnm⟩) (W 11 rfl) (ty := (.array .byte)) (by decide) rfl rfl (g := (mkF m 54 #[vr x_, vr ca_, vi (0 : Int32), vi (4 : Int32), .val .null, vr ba_3] [(.ref ba_3), (.ref x_)])) rfl rfl (D 18 rfl)
  have N6 := Fr.snoc X6 N5 pr4
  have F6 := Fld.same W6 c7
  refine ogoF st6 ?_
  have y8 : ba_3 ≠ x_ := (Nat.ne_of_gt (Nat.lt_of_lt_of_le (Nat.lt_of_lt_of_le pr0.lt (Nat.le_refl _)) p3_0))
  have c9 := (Fld.other W6 F5 (Or.inr (slot_ne (Or.inr (W 26 rfl)) (Or.inr (W 25 rfl)) (by decide) (t := .byte) (t' := (.array .byte)) (by decide) (by decide))))
  exact oendV X6 hx hlk hret (D 19 rfl) (by decide) rfl ⟨ba_3, kb_3, rfl, N6, ((((Keep.refl h0 [x_]).trans K3 all0).wr W5 (Or.inl (List.mem_of_getElem? (i := 0) rfl))).wr W6 (Or.inl (List.mem_of_getElem? (i := 0) rfl))), (Nat.le_trans (Nat.le_refl _) p3_0), ((p3_1.other W5 y8).other W6 y8), (Exa.wr W6 (Exa.wr W5 (pr0.keep K3))), F6, c9⟩
def own_Q_new1_4 (Z : State) (z_CS : Int32) (v_FMT : Value) (s_DC : Addr) (k_DC : ClassId) (v_IO : Value) (x_ ca_ : Addr) (kc_ : ClassId) (c0_ c1_ c2_ c3_ : Int32) (h0 : Heap) (n0 : Nat) (v : Option Value) (h : Heap) (L : List Loc) : Prop := ∃ ba_ : Addr, ∃ kb_ : ClassId, (v = none) ∧ (Fr n0 L) ∧ (Keep h0 h [x_]) ∧ (h0.size ≤ ba_) ∧ (Arv Z h ba_ kb_ .byte (4 : Int32) [(.int c0_.toInt8.toInt32), (.int c1_.toInt8.toInt32), (.int c2_.toInt8.toInt32), (.int c3_.toInt8.toInt32)] (.int 0)) ∧ (Exa Z h x_ "java/lang/String") ∧ (Fld Z h x_ "java/lang/String" "value" "[B" (.ref ba_)) ∧ (Fld Z h x_ "java/lang/String" "coder" "B" (.int (0 : Int32)))
theorem rm_new1_4 {l : Launch} {Z : State} {a0 : Array Value} (hw : own_hw a0 Z) {z_CS : Int32} {v_FMT : Value} {s_DC : Addr} {k_DC : ClassId} {v_IO : Value} {x_ ca_ : Addr} {kc_ : ClassId} {c0_ c1_ c2_ c3_ : Int32}  {h0 : Heap} {n0 : Nat} (SB : own_Start Z z_CS v_FMT s_DC k_DC v_IO) (O0 : Old Z n0 h0) (pr0 : Exa Z h0 x_ "java/lang/String") (pr1 : Fld Z h0 x_ "java/lang/String" "value" "[B" .null) (pr2 : Fld Z h0 x_ "java/lang/String" "coder" "B" (.int (0 : Int32))) (pr3 : Arv Z h0 ca_ kc_ .char (4 : Int32) [(.int c0_), (.int c1_), (.int c2_), (.int c3_)] (.int 0)) (pr4 : n0 ≤ x_) (pr5 : ¬ ((255 : Int32) < c0_)) (pr6 : ¬ ((255 : Int32) < c1_)) (pr7 : ¬ ((255 : Int32) < c2_)) (pr8 : ¬ ((255 : Int32) < c3_)) :
    oMet l Z yM15 jdk_42_method_3_code 2 none [] (rmo 3 1 4 52) 1 4 #[(.ref x_), (.ref ca_)] h0 (own_Q_new1_4 Z z_CS v_FMT s_DC k_DC v_IO x_ ca_ kc_ c0_ c1_ c2_ c3_ h0 n0) := by
  refine oenter (plainFor_of_name own_pn0) #[vr x_, vr ca_] (fun _ => rfl) ?_
  intro p e s m below meth c s₁ X0 hx hZ hby hml hret hown hnm hlk e0
  have N0 := Fr.nil n0
  have D := own_hb hby D16
  have W := own_w hw
  refine o_aloadN X0 hx (D 0 rfl) rfl rfl <| o_aloadN X0 hx (D 1 rfl) rfl rfl <| o_iconst X0 hx 0 (D 2 rfl) rfl <| o_aloadN X0 hx (D 3 rfl) rfl rfl <| o_alen X0 hx hZ e0 pr3 (D 4 rfl) <| o_aconst_null X0 hx (D 5 rfl) <| o_cI X0 hx hZ hown (rm_new4_4 hw  SB O0 pr0 pr1 pr2 pr3 pr4 pr5 pr6 pr7 pr8) rfl (W 16 rfl) (W 17 rfl) (W 12 rfl) (W 19 rfl) (by decide) e0 hml rfl [(.ref ca_), (.int (0 : Int32)), (.int (4 : Int32)), .null] [] own_pd11 rfl rfl 0 rfl (by decide) (D 6 rfl) fun T1 L1 v1 X1 hQ1 => ?_
  obtain ⟨ba_1, kb_1, rfl, Nq1, K1, p1_0, p1_1, p1_2, p1_3, p1_4⟩ := hQ1
  have N1 := Fr.app N0 Nq1
  have n0_ba_1 := own_og O0 (Nat.le_trans (Nat.le_refl _) p1_0)
  exact oendV X1 hx hlk hret (D 7 rfl) (by decide) rfl ⟨ba_1, kb_1, rfl, N1, ((Keep.refl h0 [x_]).trans K1 (allS (Or.inl (List.mem_of_getElem? (i := 0) rfl)) all0)), (Nat.le_trans (Nat.le_refl _) p1_0), p1_1, p1_2, p1_3, p1_4⟩
def own_Q_new4z (Z : State)  (x_ ca_ : Addr) (h0 : Heap) (n0 : Nat) (v : Option Value) (h : Heap) (L : List Loc) : Prop := ∃ ba_ : Addr, ∃ kb_ : ClassId, (v = none) ∧ (Fr n0 L) ∧ (Keep h0 h [x_]) ∧ (ba_ < h.size) ∧ (Arv Z h ba_ kb_ .byte (0 : Int32) [] (.int 0)) ∧ (Exa Z h x_ "java/lang/String") ∧ (Fld Z h x_ "java/lang/String" "value" "[B" (.ref ba_)) ∧ (Fld Z h x_ "java/lang/String" "coder" "B" (.int (0 : Int32)))
theorem rm_new4z {l : Launch} {Z : State} {a0 : Array Value} (hw : own_hw a0 Z)  {x_ : Addr} (ca_ : Addr) {h0 : Heap} {n0 : Nat} (O0 : Old Z n0 h0) (pr0 : Exa Z h0 x_ "java/lang/String") (pr1 : Fld Z h0 x_ "java/lang/String" "value" "[B" .null) (pr2 : Fld Z h0 x_ "java/lang/String" "coder" "B" (.int (0 : Int32))) (pr3 : n0 ≤ x_) :
    oMetS l Z yM14 jdk_42_method_149_code 6 none [] (rmo 1 4 8 12) 4 8 #[(.ref x_), (.ref ca_), (.int (0 : Int32)), (.int (0 : Int32)), .null] h0 (own_Q_new4z Z  x_ ca_ h0 n0) := by
  refine oenterS (plainFor_of_name own_pn0) #[vr x_, vr ca_, vi (0 : Int32), vi (0 : Int32), .val .null, .unset] (fun _ => rfl) ?_
  intro p e s m below meth c s₁ X0 hx hZ hby hml hret hown hnm hlk e0 hs0 H0 hS0
  have hEL := own_EW hw
  have wS := own_wS hw
  have N0 := Fr.nil n0
  have D := own_hb hby D15
  have W := own_w hw
  refine o_aloadN X0 hx (D 0 rfl) rfl rfl ?_
  obtain ⟨T1, X1, e1, st1⟩ := initO X0 hx hZ hown (W 20 rfl) (W 21 rfl) (W 22 rfl) e0 (g := (mkF m 1 #[vr x_, vr ca_, vi (0 : Int32), vi (0 : Int32), .val .null, .unset] [(.ref x_)])) rfl (by rw [hml]; rfl) rfl (D 1 rfl) (by decide) (W := 0) (by show 2 * 0 + _ ≤ _; exact Nat.le_of_eq rfl) (by decide)
  refine ogoF st1 <| o_iloadN X1 hx (D 2 rfl) rfl <| o_ifNo X1 hx (D 3 rfl) (teq (by decide : (0 : Int32) = (0 : Int32))).2 <| o_aloadN X1 hx (D 20 rfl) rfl rfl ?_
  obtain ⟨a2, T2, _, ks2, b2, kk2, X2, rfl, E2, hS2, hk2, hZ2, hown2, Ex2, Fc2, Fv2, Va2, la2, lb2, C2, -, Nx2, st2⟩ := ldcCH X1 hx hZ hown (W 23 rfl) wS e1 hS0 (Nat.zero_le _) hEL (List.mem_of_getElem? (i := 2) rfl) H0 (vs := []) (z := (0 : Int32)) ⟨by decide, by decide⟩ (by decide) rfl (g := (mkF m 9 #[vr x_, vr ca_, vi (0 : Int32), vi (0 : Int32), .val .null, .unset] [(.ref x_)])) rfl (D 21 rfl) (n := 0) (by decide) (by decide) (by decide) (by decide)
  have H3 := C2.1
  have c4 := (CHr.safe C2 (Nat.lt_of_lt_of_le pr0.lt (Nat.le_refl _)) (own_safe hZ.alike pr0 pr1))
  refine ogoF st2 <| o_getF X2 hx hZ2 hown2 (host := "") (Or.inl (W 29 rfl)) Via.refl rfl Fv2 (D 22 rfl) fun T5 X5 e5 => ?_
  obtain ⟨T6, _, X6, rfl, W6, st6⟩ := putF X5 hx hZ2 hown2 (host := "") (Or.inl (W 29 rfl)) Via.refl e5 (Fld.ext E2 pr1) (Exa.ext E2 pr0) (Or.inr ⟨(W 25 rfl), rfl, hnm⟩) (W 11 rfl) (ty := (.array .byte)) (by decide) rfl rfl (g := (mkF m 14 #[vr x_, vr ca_, vi (0 : Int32), vi (0 : Int32), .val .null, .unset] [(.ref b2), (.ref x_)])) rfl rfl (D 23 rfl)
  have N6 := Fr.snoc X6 N0 pr3
  have H7 := CHv.wr W6 c4 H3
  have F6 := Fld.same W6 (Fld.ext E2 pr1)
  refine ogoF st6 <| o_aloadN X6 hx (D 24 rfl) rfl rfl ?_
  obtain ⟨a8, T8, _, ks8, b8, kk8, X8, rfl, E8, hS8, hk8, hZ8, hown8, Ex8, Fc8, Fv8, Va8, la8, lb8, C8, -, Nx8, st8⟩ := ldcCH X6 hx hZ2 hown2 (W 23 rfl) wS rfl hS2 (Nat.le_trans hk2 (Keep.of_wr W6).1) hEL (List.mem_of_getElem? (i := 2) rfl) H7 (vs := []) (z := (0 : Int32)) ⟨by decide, by decide⟩ (by decide) rfl (g := (mkF m 18 #[vr x_, vr ca_, vi (0 : Int32), vi (0 : Int32), .val .null, .unset] [(.ref x_)])) rfl (D 25 rfl) (n := 0) (by decide) (by decide) (by decide) (by decide)
  have H9 := C8.1
  have z10 := Nat.le_trans E2.1 (Keep.of_wr W6).1
  have c11 := (CHr.safe C8 (Nat.lt_of_lt_of_le pr0.lt z10) (Safe.wr W6 c4 H3 c4))
  refine ogoF st8 <| o_getF X8 hx hZ8 hown8 (host := "") (Or.inl (W 30 rfl)) Via.refl rfl Fc8 (D 26 rfl) fun T12 X12 e12 => ?_
  have c14 := (Fld.ext E8 (Fld.other W6 (Fld.ext E2 pr2) (Or.inr (slot_ne (Or.inr (W 26 rfl)) (Or.inr (W 25 rfl)) (by decide) (t := .byte) (t' := (.array .byte)) (by decide) (by decide)))))
  obtain ⟨T13, _, X13, rfl, W13, st13⟩ := putFN X12 hx hZ8 hown8 (W 30 rfl) Via.refl e12 c14 (Exa.ext E8 (Exa.wr W6 (Exa.ext E2 pr0))) (Or.inr ⟨(W 26 rfl), rfl, hnm⟩) (W 11 rfl) (ty := .byte) (v' := (.int (0 : Int32))) (by decide) rfl (by decide) (g := (mkF m 23 #[vr x_, vr ca_, vi (0 : Int32), vi (0 : Int32), .val .null, .unset] [(.int (0 : Int32)), (.ref x_)])) rfl rfl (D 27 rfl)
  have N13 := Fr.snoc X13 N6 pr3
  have H15 := CHv.wr W13 c11 H9
  have F13 := Fld.same W13 c14
  refine ogoF st13 ?_
  have z16 := Nat.le_trans (Keep.of_wr W6).1 E8.1
  have z17 := Nat.le_trans z16 (Keep.of_wr W13).1
  have c18 := (((Va2.other W6 (Ne.symm (Nx2 _ c4).2)).ext E8).other W13 (Ne.symm (Nx2 _ c4).2))
  have c19 := (Fld.other W13 (Fld.ext E8 F6) (Or.inr (slot_ne (Or.inr (W 25 rfl)) (Or.inr (W 26 rfl)) (by decide) (t := (.array .byte)) (t' := .byte) (by decide) (by decide))))
  exact oendSV X13 hx hlk hret (D 28 rfl) (by decide) rfl hS8 (Nat.le_trans hk8 (Keep.of_wr W13).1) hZ8 hEL hs0 (CHr.trans (CHr.trans (CHr.trans C2 (CHr.wr W6 c4 H3)) C8) (CHr.wr W13 c11 H9)) ⟨b2, kk2, rfl, N13, (((((Keep.refl h0 [x_]).ext E2).wr W6 (Or.inl (List.mem_of_getElem? (i := 0) rfl))).ext E8).wr W13 (Or.inl (List.mem_of_getElem? (i := 0) rfl))), (Nat.lt_of_lt_of_le lb2 z17), c18, (Exa.wr W13 (Exa.ext E8 (Exa.wr W6 (Exa.ext E2 pr0)))), c19, F13⟩
def own_Q_new1z (Z : State)  (x_ ca_ : Addr) (kc_ : ClassId) (h0 : Heap) (n0 : Nat) (v : Option Value) (h : Heap) (L : List Loc) : Prop := ∃ ba_ : Addr, ∃ kb_ : ClassId, (v = none) ∧ (Fr n0 L) ∧ (Keep h0 h [x_]) ∧ (ba_ < h.size) ∧ (Arv Z h ba_ kb_ .byte (0 : Int32) [] (.int 0)) ∧ (Exa Z h x_ "java/lang/String") ∧ (Fld Z h x_ "java/lang/String" "value" "[B" (.ref ba_)) ∧ (Fld Z h x_ "java/lang/String" "coder" "B" (.int (0 : Int32)))
theorem rm_new1z {l : Launch} {Z : State} {a0 : Array Value} (hw : own_hw a0 Z)  {x_ ca_ : Addr} {kc_ : ClassId}  {h0 : Heap} {n0 : Nat} (O0 : Old Z n0 h0) (pr0 : Exa Z h0 x_ "java/lang/String") (pr1 : Fld Z h0 x_ "java/lang/String" "value" "[B" .null) (pr2 : Fld Z h0 x_ "java/lang/String" "coder" "B" (.int (0 : Int32))) (pr3 : n0 ≤ x_) (pr4 : Arv Z h0 ca_ kc_ .char (0 : Int32) [] (.int 0)) :
    oMetS l Z yM15 jdk_42_method_3_code 2 none [] (rmo 2 4 8 29) 4 8 #[(.ref x_), (.ref ca_)] h0 (own_Q_new1z Z  x_ ca_ kc_ h0 n0) := by
  refine oenterS (plainFor_of_name own_pn0) #[vr x_, vr ca_] (fun _ => rfl) ?_
  intro p e s m below meth c s₁ X0 hx hZ hby hml hret hown hnm hlk e0 hs0 H0 hS0
  have hEL := own_EW hw
  have wS := own_wS hw
  have N0 := Fr.nil n0
  have D := own_hb hby D16
  have W := own_w hw
  refine o_aloadN X0 hx (D 0 rfl) rfl rfl <| o_aloadN X0 hx (D 1 rfl) rfl rfl <| o_iconst X0 hx 0 (D 2 rfl) rfl <| o_aloadN X0 hx (D 3 rfl) rfl rfl <| o_alen X0 hx hZ e0 pr4 (D 4 rfl) <| o_aconst_null X0 hx (D 5 rfl) <| o_cIS X0 hx hZ hown (rm_new4z hw ca_ O0 pr0 pr1 pr2 pr3) rfl (W 16 rfl) (W 17 rfl) (W 12 rfl) (W 19 rfl) (by decide) e0 hS0 (Nat.zero_le _) hEL H0 hml rfl [(.ref ca_), (.int (0 : Int32)), (.int (0 : Int32)), .null] [] own_pd11 rfl rfl 0 rfl (by decide) (D 6 rfl) fun T1 L1 v1 X1 hS1 hZ1 hown1 C1 hQ1 => ?_
  obtain ⟨ba_1, kb_1, rfl, Nq1, K1, p1_0, p1_1, p1_2, p1_3, p1_4⟩ := hQ1
  have N1 := Fr.app N0 Nq1
  have H2 := C1.1
  exact oendSV X1 hx hlk hret (D 7 rfl) (by decide) rfl hS1 (Nat.le_refl _) hZ1 hEL hs0 C1 ⟨ba_1, kb_1, rfl, N1, ((Keep.refl h0 [x_]).trans K1 (allS (Or.inl (List.mem_of_getElem? (i := 0) rfl)) all0)), (Nat.lt_of_lt_of_le p1_0 (Nat.le_refl _)), p1_1, p1_2, p1_3, p1_4⟩
theorem own_pd12 : parseMethodDescriptor "([C)V" = some ⟨[(.array .char)], none⟩ := by decide +kernel
abbrev cd17 : ByteArray := method_4_code
theorem D17 : own_DD cd17 [(0, .iload_n 1, 1), (1, .ifCond .ne 14, 3), (4, .new 41, 3), (7, .dup, 1), (8, .iconst 0, 1), (9, .newarray .char, 2), (11, .invokespecial 55, 3), (14, .areturn, 1), (15, .iload_n 1, 1), (16, .iconst 1, 1), (17, .if_icmp .ne 22, 3), (20, .iconst 1, 1), (21, .newarray .char, 2), (23, .astore_n 2, 1), (24, .aload_n 2, 1), (25, .iconst 0, 1), (26, .aload_n 0, 1), (27, .iconst 0, 1), (28, .caload, 1), (29, .castore, 1), (30, .new 41, 3), (33, .dup, 1), (34, .aload_n 2, 1), (35, .invokespecial 55, 3), (38, .areturn, 1), (39, .iload_n 1, 1), (40, .iconst 2, 1), (41, .if_icmp .ne 28, 3), (44, .iconst 2, 1), (45, .newarray .char, 2), (47, .astore_n 2, 1), (48, .aload_n 2, 1), (49, .iconst 0, 1), (50, .aload_n 0, 1), (51, .iconst 0, 1), (52, .caload, 1), (53, .castore, 1), (54, .aload_n 2, 1), (55, .iconst 1, 1), (56, .aload_n 0, 1), (57, .iconst 1, 1), (58, .caload, 1), (59, .castore, 1), (60, .new 41, 3), (63, .dup, 1), (64, .aload_n 2, 1), (65, .invokespecial 55, 3), (68, .areturn, 1), (69, .iload_n 1, 1), (70, .iconst 3, 1), (71, .if_icmp .ne 34, 3), (74, .iconst 3, 1), (75, .newarray .char, 2), (77, .astore_n 2, 1), (78, .aload_n 2, 1), (79, .iconst 0, 1), (80, .aload_n 0, 1), (81, .iconst 0, 1), (82, .caload, 1), (83, .castore, 1), (84, .aload_n 2, 1), (85, .iconst 1, 1), (86, .aload_n 0, 1), (87, .iconst 1, 1), (88, .caload, 1), (89, .castore, 1), (90, .aload_n 2, 1), (91, .iconst 2, 1), (92, .aload_n 0, 1), (93, .iconst 2, 1), (94, .caload, 1), (95, .castore, 1), (96, .new 41, 3), (99, .dup, 1), (100, .aload_n 2, 1), (101, .invokespecial 55, 3), (104, .areturn, 1), (105, .iconst 4, 1), (106, .newarray .char, 2), (108, .astore_n 2, 1), (109, .aload_n 2, 1), (110, .iconst 0, 1), (111, .aload_n 0, 1), (112, .iconst 0, 1), (113, .caload, 1), (114, .castore, 1), (115, .aload_n 2, 1), (116, .iconst 1, 1), (117, .aload_n 0, 1), (118, .iconst 1, 1), (119, .caload, 1), (120, .castore, 1), (121, .aload_n 2, 1), (122, .iconst 2, 1), (123, .aload_n 0, 1), (124, .iconst 2, 1), (125, .caload, 1), (126, .castore, 1), (127, .aload_n 2, 1), (128, .iconst 3, 1), (129, .aload_n 0, 1), (130, .iconst 3, 1), (131, .caload, 1), (132, .castore, 1), (133, .new 41, 3), (136, .dup, 1), (137, .aload_n 2, 1), (138, .invokespecial 55, 3), (141, .areturn, 1)] := own_dk (by decide +kernel)
def own_Q_txo (Z : State) (z_CS : Int32) (v_FMT : Value) (s_DC : Addr) (k_DC : ClassId) (v_IO : Value) (ca_ : Addr) (kc_ : ClassId) (t0_ t1_ t2_ t3_ m_ : Int32) (h0 : Heap) (n0 : Nat) (v : Option Value) (h : Heap) (L : List Loc) : Prop := ∃ r_ : Addr, ∃ rb_ : Addr, ∃ rk_ : ClassId, ∃ rs_ : List Int32, ∃ rn_ : Nat, (v = some (.ref r_)) ∧ (Fr n0 L) ∧ (Keep h0 h []) ∧ (h0.size ≤ r_) ∧ (rb_ < h.size) ∧ (Exa Z h r_ "java/lang/String") ∧ (Fld Z h r_ "java/lang/String" "coder" "B" (.int (0 : Int32))) ∧ (Fld Z h r_ "java/lang/String" "value" "[B" (.ref rb_)) ∧ (Arv Z h rb_ rk_ .byte (Int32.ofNat rn_) (own_vs rs_) (.int 0)) ∧ (rs_ = own_txt t0_ t1_ t2_ t3_ m_ ∧ rn_ = own_tn m_)
abbrev yM16 : MethodName := ⟨"com/example/reliquary/reliquary/SecretsHidePinLaw", "textOf", "([CI)Ljava/lang/String;"⟩
theorem rm_txo {l : Launch} {Z : State} {a0 : Array Value} (hw : own_hw a0 Z) {z_CS : Int32} {v_FMT : Value} {s_DC : Addr} {k_DC : ClassId} {v_IO : Value} {ca_ : Addr} {kc_ : ClassId} {t0_ t1_ t2_ t3_ : Int32} (m_ : Int32) {h0 : Heap} {n0 : Nat} (SB : own_Start Z z_CS v_FMT s_DC k_DC v_IO) (O0 : Old Z n0 h0) (pr0 : Arv Z h0 ca_ kc_ .char (4 : Int32) [(.int t0_), (.int t1_), (.int t2_), (.int t3_)] (.int 0)) (pr1 : own_ok t0_) (pr2 : own_ok t1_) (pr3 : own_ok t2_) (pr4 : own_ok t3_) (pr5 : nar .char t0_ = t0_) (pr6 : nar .char t1_ = t1_) (pr7 : nar .char t2_ = t2_) (pr8 : nar .char t3_ = t3_) :
    oMetS l Z yM16 method_4_code 3 (some (.object "java/lang/String")) [] (rmo 4 6 12 66) 6 12 #[(.ref ca_), (.int m_)] h0 (own_Q_txo Z z_CS v_FMT s_DC k_DC v_IO ca_ kc_ t0_ t1_ t2_ t3_ m_ h0 n0) := by
  refine oenterS (plainFor_of_name own_pn3) #[vr ca_, vi m_, .unset] (fun _ => rfl) ?_
  intro p e s m below meth c s₁ X0 hx hZ hby hml hret hown hnm hlk e0 hs0 H0 hS0
  have hEL := own_EW hw
  have wS := own_wS hw
  have N0 := Fr.nil n0
  have D := own_hb hby D17
  have W := own_w hw
  have w1 := W 1 rfl
  have w10 := W 10 rfl
  have w11 := W 11 rfl
  have w12 := W 12 rfl
  have w13 := W 13 rfl
  have w14 := W 14 rfl
  have w15 := W 15 rfl
  have w25 := W 25 rfl
  have w26 := W 26 rfl
  refine o_iloadN X0 hx (D 0 rfl) rfl ?_
  by_cases hc2 : m_ = (0 : Int32)
  · refine o_ifNo X0 hx (D 1 rfl) (teq hc2).2 ?_
    obtain ⟨T3, _, X3, rfl, E3, A3, D3, -, st3⟩ := newO X0 hx hZ hown w10 w11 w12 e0 (g := (mkF m 4 #[vr ca_, vi m_, .unset] [])) rfl (D 2 rfl) (by decide) (by decide)
    obtain ⟨b3, g3⟩ : ∃ z, z = h0.size := ⟨_, rfl⟩
    rw [← g3] at A3 D3 st3
    have n0_b3 := own_on O0 g3
    have H4 := CHv.ext E3 H0
    have F3_value : Fld Z T3.heap b3 "java/lang/String" "value" "[B" .null := D3 (Or.inr w25) (ty := (.array .byte)) (by decide)
    have F3_coder : Fld Z T3.heap b3 "java/lang/String" "coder" "B" (.int (0 : Int32)) := D3 (Or.inr w26) (ty := .byte) (by decide)
    refine ogoF st3 <| o_dup X3 hx (D 3 rfl) rfl <| o_iconst X3 hx 0 (D 4 rfl) rfl ?_
    obtain ⟨T5, _, k5, X5, rfl, E5, A5, Ex5, st5⟩ := newPE (aty := .char) X3 hx hZ w1 rfl (g := (mkF m 9 #[vr ca_, vi m_, .unset] [(.int (0 : Int32)), (.ref b3), (.ref b3)])) rfl (D 5 rfl) rfl (by decide) (cap := 0) (by decide) (by decide) (by decide) (by decide) (ad := "[C") rfl
    obtain ⟨b5, g5⟩ : ∃ z, z = T3.heap.size := ⟨_, rfl⟩
    rw [← g5] at A5 Ex5 st5
    have n0_b5 := own_on (O0.ext E3) g5
    have H6 := CHv.ext E5 H4
    have V5 : Arv Z T5.heap b5 k5 .char (0 : Int32) [] (.int 0) := (Arv.new A5 (by decide)).pad (pad_rep [] (.int 0) 0)
    refine ogoF st5 ?_
    have z8 := Nat.le_trans E3.1 E5.1
    refine o_cIS X5 hx hZ hown (rm_new1z hw  ((O0.ext E3).ext E5) (Exa.ext E5 A3) (Fld.ext E5 F3_value) (Fld.ext E5 F3_coder) n0_b3 V5) rfl w13 w14 w12 w15 (by decide) rfl hS0 (Nat.le_trans (Nat.zero_le _) z8) hEL H6 hml rfl [(.ref b5)] [(.ref b3)] own_pd12 rfl rfl 1 rfl (by decide) (D 6 rfl) fun T7 L7 v7 X7 hS7 hZ7 hown7 C7 hQ7 => ?_
    obtain ⟨ba_7, kb_7, rfl, Nq7, K7, p7_0, p7_1, p7_2, p7_3, p7_4⟩ := hQ7
    have N7 := Fr.app N0 Nq7
    have H9 := C7.1
    have en_ : own_tn m_ = 0 := by unfold own_tn; rw [if_pos hc2]
    have el_ : own_txt t0_ t1_ t2_ t3_ m_ = [] := by unfold own_txt; rw [if_pos hc2]
    exact oendSR X7 hx hlk hret rfl rfl rfl (D 7 rfl) (by decide) rfl hS7 (Nat.le_refl _) hZ7 hEL hs0 (CHr.trans (CHr.trans (CHr.ext E3 H0) (CHr.ext E5 H4)) C7) ⟨b3, ba_7, kb_7, (own_txt t0_ t1_ t2_ t3_ m_), (own_tn m_), rfl, N7, ((((Keep.refl h0 []).ext E3).ext E5).trans K7 (allS (Or.inr (Nat.le_trans (Nat.le_refl _) (Nat.le_of_eq g3.symm))) all0)), (Nat.le_trans (Nat.le_refl _) (Nat.le_of_eq g3.symm)), (Nat.lt_of_lt_of_le p7_0 (Nat.le_refl _)), p7_2, p7_4, p7_3, (by rw [en_, el_]; exact p7_1), ⟨rfl, rfl⟩⟩
  · refine o_ifYes X0 hx 15 (D 1 rfl) (feq hc2).2 rfl <| o_iloadN X0 hx (D 8 rfl) rfl <| o_iconst X0 hx 1 (D 9 rfl) rfl ?_
    by_cases hc11 : m_ = (1 : Int32)
    · refine o_icmpNo X0 hx (D 10 rfl) (teq hc11).2 <| o_iconst X0 hx 1 (D 11 rfl) rfl ?_
      obtain ⟨T12, _, k12, X12, rfl, E12, A12, Ex12, st12⟩ := newPE (aty := .char) X0 hx hZ w1 e0 (g := (mkF m 21 #[vr ca_, vi m_, .unset] [(.int (1 : Int32))])) rfl (D 12 rfl) rfl (by decide) (cap := 1) (by decide) (by decide) (by decide) (by decide) (ad := "[C") rfl
      obtain ⟨b12, g12⟩ : ∃ z, z = h0.size := ⟨_, rfl⟩
      rw [← g12] at A12 Ex12 st12
      have n0_b12 := own_on O0 g12
      have H13 := CHv.ext E12 H0
      have V12 : Arv Z T12.heap b12 k12 .char (1 : Int32) [(.int 0)] (.int 0) := (Arv.new A12 (by decide)).pad (pad_rep [] (.int 0) 1)
      refine ogoF st12 <| o_astoreN X12 hx (l' := #[vr ca_, vi m_, vr b12]) (D 13 rfl) rfl rfl <| o_aloadN X12 hx (D 14 rfl) rfl rfl <| o_iconst X12 hx 0 (D 15 rfl) rfl <| o_aloadN X12 hx (D 16 rfl) rfl rfl <| o_iconst X12 hx 0 (D 17 rfl) rfl <| o_cal X12 hx hZ rfl (pr0.ext E12) ⟨by decide, by decide⟩ (v := (.int t0_)) rfl (D 18 rfl) ?_
      obtain ⟨cl14, Ar14, q14, S14, N14z, H14, G14⟩ := (id V12)
      obtain ⟨T14, _, X14, rfl, W14, st14⟩ := stC X12 hx hZ rfl Ar14 (j := (0 : Int32)) (inb_of S14 ⟨by decide, by decide⟩) (g := (mkF m 29 #[vr ca_, vi m_, vr b12] [(.int t0_), (.int (0 : Int32)), (.ref b12)])) rfl rfl (D 19 rfl)
      rw [pr5] at W14
      have V14 : Arv Z T14.heap b12 k12 .char (1 : Int32) [(.int t0_)] (.int 0) := Arv.set Ar14 q14 S14 N14z H14 G14 (by have q := fits_nar_char t0_; rw [pr5] at q; exact q) W14 0 rfl (Nat.le_of_ble_eq_true rfl)
      have N14 := Fr.snoc X14 N0 n0_b12
      have H15 := CHv.wr W14 (Safe.exa hZ.alike Ex12 (by decide) (by decide)) H13
      refine ogoF st14 ?_
      obtain ⟨T16, _, X16, rfl, E16, A16, D16, -, st16⟩ := newO X14 hx hZ hown w10 w11 w12 rfl (g := (mkF m 30 #[vr ca_, vi m_, vr b12] [])) rfl (D 20 rfl) (by decide) (by decide)
      obtain ⟨b16, g16⟩ : ∃ z, z = T14.heap.size := ⟨_, rfl⟩
      rw [← g16] at A16 D16 st16
      have n0_b16 := own_on ((O0.ext E12).wr W14 n0_b12) g16
      have H17 := CHv.ext E16 H15
      have F16_value : Fld Z T16.heap b16 "java/lang/String" "value" "[B" .null := D16 (Or.inr w25) (ty := (.array .byte)) (by decide)
      have F16_coder : Fld Z T16.heap b16 "java/lang/String" "coder" "B" (.int (0 : Int32)) := D16 (Or.inr w26) (ty := .byte) (by decide)
      refine ogoF st16 <| o_dup X16 hx (D 21 rfl) rfl <| o_aloadN X16 hx (D 22 rfl) rfl rfl <| o_cI X16 hx hZ hown (rm_new1_1 hw  SB (((O0.ext E12).wr W14 n0_b12).ext E16) A16 F16_value F16_coder (V14.ext E16) n0_b16 pr1.2) rfl w13 w14 w12 w15 (by decide) rfl hml rfl [(.ref b12)] [(.ref b16)] own_pd12 rfl rfl 1 rfl (by decide) (D 23 rfl) fun T18 L18 v18 X18 hQ18 => ?_
      obtain ⟨ba_18, kb_18, rfl, Nq18, K18, p18_0, p18_1, p18_2, p18_3, p18_4⟩ := hQ18
      have N18 := Fr.app N14 Nq18
      have H19 := CHv.keep K18 (allS (Safe.ext E16 H15 (Safe.new (Nat.le_of_eq g16.symm))) all0) H17
      have z20 := Nat.le_trans E12.1 (Keep.of_wr W14).1
      have z21 := Nat.le_trans z20 E16.1
      have n0_ba_18 := own_og O0 (Nat.le_trans z21 p18_0)
      have en_ : own_tn m_ = 1 := by unfold own_tn; rw [if_neg hc2, if_pos hc11]
      have el_ : own_txt t0_ t1_ t2_ t3_ m_ = [own_by t0_] := by unfold own_txt; rw [if_neg hc2, if_pos hc11]
      have z22 := Nat.le_trans z21 K18.1
      exact oendSR X18 hx hlk hret rfl rfl rfl (D 24 rfl) (by decide) rfl hS0 (Nat.le_trans (Nat.zero_le _) z22) hZ hEL hs0 (CHr.trans (CHr.trans (CHr.trans (CHr.ext E12 H0) (CHr.wr W14 (Safe.exa hZ.alike Ex12 (by decide) (by decide)) H13)) (CHr.ext E16 H15)) (CHr.keep K18 (allS (Safe.ext E16 H15 (Safe.new (Nat.le_of_eq g16.symm))) all0) H17)) ⟨b16, ba_18, kb_18, (own_txt t0_ t1_ t2_ t3_ m_), (own_tn m_), rfl, N18, (((((Keep.refl h0 []).ext E12).wr W14 (Or.inr (Nat.le_trans (Nat.le_refl _) (Nat.le_of_eq g12.symm)))).ext E16).trans K18 (allS (Or.inr (Nat.le_trans z20 (Nat.le_of_eq g16.symm))) all0)), (Nat.le_trans z20 (Nat.le_of_eq g16.symm)), (Nat.lt_of_lt_of_le p18_1.lt (Nat.le_refl _)), p18_2, p18_4, p18_3, (by rw [en_, el_]; exact p18_1), ⟨rfl, rfl⟩⟩
    · refine o_icmpYes X0 hx 39 (D 10 rfl) (feq hc11).2 rfl <| o_iloadN X0 hx (D 25 rfl) rfl <| o_iconst X0 hx 2 (D 26 rfl) rfl ?_
      by_cases hc24 : m_ = (2 : Int32)
      · refine o_icmpNo X0 hx (D 27 rfl) (teq hc24).2 <| o_iconst X0 hx 2 (D 28 rfl) rfl ?_
        obtain ⟨T25, _, k25, X25, rfl, E25, A25, Ex25, st25⟩ := newPE (aty := .char) X0 hx hZ w1 e0 (g := (mkF m 45 #[vr ca_, vi m_, .unset] [(.int (2 : Int32))])) rfl (D 29 rfl) rfl (by decide) (cap := 2) (by decide) (by decide) (by decide) (by decide) (ad := "[C") rfl
        obtain ⟨b25, g25⟩ : ∃ z, z = h0.size := ⟨_, rfl⟩
        rw [← g25] at A25 Ex25 st25
        have n0_b25 := own_on O0 g25
        have H26 := CHv.ext E25 H0
        have V25 : Arv Z T25.heap b25 k25 .char (2 : Int32) [(.int 0), (.int 0)] (.int 0) := (Arv.new A25 (by decide)).pad (pad_rep [] (.int 0) 2)
        refine ogoF st25 <| o_astoreN X25 hx (l' := #[vr ca_, vi m_, vr b25]) (D 30 rfl) rfl rfl <| o_aloadN X25 hx (D 31 rfl) rfl rfl <| o_iconst X25 hx 0 (D 32 rfl) rfl <| o_aloadN X25 hx (D 33 rfl) rfl rfl <| o_iconst X25 hx 0 (D 34 rfl) rfl <| o_cal X25 hx hZ rfl (pr0.ext E25) ⟨by decide, by decide⟩ (v := (.int t0_)) rfl (D 35 rfl) ?_
        obtain ⟨cl27, Ar27, q27, S27, N27z, H27, G27⟩ := (id V25)
        obtain ⟨T27, _, X27, rfl, W27, st27⟩ := stC X25 hx hZ rfl Ar27 (j := (0 : Int32)) (inb_of S27 ⟨by decide, by decide⟩) (g := (mkF m 53 #[vr ca_, vi m_, vr b25] [(.int t0_), (.int (0 : Int32)), (.ref b25)])) rfl rfl (D 36 rfl)
        rw [pr5] at W27
        have V27 : Arv Z T27.heap b25 k25 .char (2 : Int32) [(.int t0_), (.int 0)] (.int 0) := Arv.set Ar27 q27 S27 N27z H27 G27 (by have q := fits_nar_char t0_; rw [pr5] at q; exact q) W27 0 rfl (Nat.le_of_ble_eq_true rfl)
        have N27 := Fr.snoc X27 N0 n0_b25
        have H28 := CHv.wr W27 (Safe.exa hZ.alike Ex25 (by decide) (by decide)) H26
        refine ogoF st27 <| o_aloadN X27 hx (D 37 rfl) rfl rfl <| o_iconst X27 hx 1 (D 38 rfl) rfl <| o_aloadN X27 hx (D 39 rfl) rfl rfl <| o_iconst X27 hx 1 (D 40 rfl) rfl ?_
        have y29 : ca_ ≠ b25 := (Nat.ne_of_lt (Nat.lt_of_lt_of_le (Nat.lt_of_lt_of_le pr0.lt (Nat.le_refl _)) (Nat.le_of_eq g25.symm)))
        refine o_cal X27 hx hZ rfl ((pr0.ext E25).other W27 y29) ⟨by decide, by decide⟩ (v := (.int t1_)) rfl (D 41 rfl) ?_
        obtain ⟨cl30, Ar30, q30, S30, N30z, H30, G30⟩ := (id V27)
        obtain ⟨T30, _, X30, rfl, W30, st30⟩ := stC X27 hx hZ rfl Ar30 (j := (1 : Int32)) (inb_of S30 ⟨by decide, by decide⟩) (g := (mkF m 59 #[vr ca_, vi m_, vr b25] [(.int t1_), (.int (1 : Int32)), (.ref b25)])) rfl rfl (D 42 rfl)
        rw [pr6] at W30
        have V30 : Arv Z T30.heap b25 k25 .char (2 : Int32) [(.int t0_), (.int t1_)] (.int 0) := Arv.set Ar30 q30 S30 N30z H30 G30 (by have q := fits_nar_char t1_; rw [pr6] at q; exact q) W30 1 rfl (Nat.le_of_ble_eq_true rfl)
        have N30 := Fr.snoc X30 N27 n0_b25
        have H31 := CHv.wr W30 (Safe.exa hZ.alike (Exa.wr W27 Ex25) (by decide) (by decide)) H28
        refine ogoF st30 ?_
        obtain ⟨T32, _, X32, rfl, E32, A32, D32, -, st32⟩ := newO X30 hx hZ hown w10 w11 w12 rfl (g := (mkF m 60 #[vr ca_, vi m_, vr b25] [])) rfl (D 43 rfl) (by decide) (by decide)
        obtain ⟨b32, g32⟩ : ∃ z, z = T30.heap.size := ⟨_, rfl⟩
        rw [← g32] at A32 D32 st32
        have n0_b32 := own_on (((O0.ext E25).wr W27 n0_b25).wr W30 n0_b25) g32
        have H33 := CHv.ext E32 H31
        have F32_value : Fld Z T32.heap b32 "java/lang/String" "value" "[B" .null := D32 (Or.inr w25) (ty := (.array .byte)) (by decide)
        have F32_coder : Fld Z T32.heap b32 "java/lang/String" "coder" "B" (.int (0 : Int32)) := D32 (Or.inr w26) (ty := .byte) (by decide)
        refine ogoF st32 <| o_dup X32 hx (D 44 rfl) rfl <| o_aloadN X32 hx (D 45 rfl) rfl rfl <| o_cI X32 hx hZ hown (rm_new1_2 hw  SB ((((O0.ext E25).wr W27 n0_b25).wr W30 n0_b25).ext E32) A32 F32_value F32_coder (V30.ext E32) n0_b32 pr1.2 pr2.2) rfl w13 w14 w12 w15 (by decide) rfl hml rfl [(.ref b25)] [(.ref b32)] own_pd12 rfl rfl 1 rfl (by decide) (D 46 rfl) fun T34 L34 v34 X34 hQ34 => ?_
        obtain ⟨ba_34, kb_34, rfl, Nq34, K34, p34_0, p34_1, p34_2, p34_3, p34_4⟩ := hQ34
        have N34 := Fr.app N30 Nq34
        have H35 := CHv.keep K34 (allS (Safe.ext E32 H31 (Safe.new (Nat.le_of_eq g32.symm))) all0) H33
        have z36 := Nat.le_trans E25.1 (Keep.of_wr W27).1
        have z37 := Nat.le_trans z36 (Keep.of_wr W30).1
        have z38 := Nat.le_trans z37 E32.1
        have n0_ba_34 := own_og O0 (Nat.le_trans z38 p34_0)
        have en_ : own_tn m_ = 2 := by unfold own_tn; rw [if_neg hc2, if_neg hc11, if_pos hc24]
        have el_ : own_txt t0_ t1_ t2_ t3_ m_ = [own_by t0_, own_by t1_] := by unfold own_txt; rw [if_neg hc2, if_neg hc11, if_pos hc24]
        have z39 := Nat.le_trans z38 K34.1
        exact oendSR X34 hx hlk hret rfl rfl rfl (D 47 rfl) (by decide) rfl hS0 (Nat.le_trans (Nat.zero_le _) z39) hZ hEL hs0 (CHr.trans (CHr.trans (CHr.trans (CHr.trans (CHr.ext E25 H0) (CHr.wr W27 (Safe.exa hZ.alike Ex25 (by decide) (by decide)) H26)) (CHr.wr W30 (Safe.exa hZ.alike (Exa.wr W27 Ex25) (by decide) (by decide)) H28)) (CHr.ext E32 H31)) (CHr.keep K34 (allS (Safe.ext E32 H31 (Safe.new (Nat.le_of_eq g32.symm))) all0) H33)) ⟨b32, ba_34, kb_34, (own_txt t0_ t1_ t2_ t3_ m_), (own_tn m_), rfl, N34, ((((((Keep.refl h0 []).ext E25).wr W27 (Or.inr (Nat.le_trans (Nat.le_refl _) (Nat.le_of_eq g25.symm)))).wr W30 (Or.inr (Nat.le_trans (Nat.le_refl _) (Nat.le_of_eq g25.symm)))).ext E32).trans K34 (allS (Or.inr (Nat.le_trans z37 (Nat.le_of_eq g32.symm))) all0)), (Nat.le_trans z37 (Nat.le_of_eq g32.symm)), (Nat.lt_of_lt_of_le p34_1.lt (Nat.le_refl _)), p34_2, p34_4, p34_3, (by rw [en_, el_]; exact p34_1), ⟨rfl, rfl⟩⟩
      · refine o_icmpYes X0 hx 69 (D 27 rfl) (feq hc24).2 rfl <| o_iloadN X0 hx (D 48 rfl) rfl <| o_iconst X0 hx 3 (D 49 rfl) rfl ?_
        by_cases hc41 : m_ = (3 : Int32)
        · refine o_icmpNo X0 hx (D 50 rfl) (teq hc41).2 <| o_iconst X0 hx 3 (D 51 rfl) rfl ?_
          obtain ⟨T42, _, k42, X42, rfl, E42, A42, Ex42, st42⟩ := newPE (aty := .char) X0 hx hZ w1 e0 (g := (mkF m 75 #[vr ca_, vi m_, .unset] [(.int (3 : Int32))])) rfl (D 52 rfl) rfl (by decide) (cap := 3) (by decide) (by decide) (by decide) (by decide) (ad := "[C") rfl
          obtain ⟨b42, g42⟩ : ∃ z, z = h0.size := ⟨_, rfl⟩
          rw [← g42] at A42 Ex42 st42
          have n0_b42 := own_on O0 g42
          have H43 := CHv.ext E42 H0
          have V42 : Arv Z T42.heap b42 k42 .char (3 : Int32) [(.int 0), (.int 0), (.int 0)] (.int 0) := (Arv.new A42 (by decide)).pad (pad_rep [] (.int 0) 3)
          refine ogoF st42 <| o_astoreN X42 hx (l' := #[vr ca_, vi m_, vr b42]) (D 53 rfl) rfl rfl <| o_aloadN X42 hx (D 54 rfl) rfl rfl <| o_iconst X42 hx 0 (D 55 rfl) rfl <| o_aloadN X42 hx (D 56 rfl) rfl rfl <| o_iconst X42 hx 0 (D 57 rfl) rfl <| o_cal X42 hx hZ rfl (pr0.ext E42) ⟨by decide, by decide⟩ (v := (.int t0_)) rfl (D 58 rfl) ?_
          obtain ⟨cl44, Ar44, q44, S44, N44z, H44, G44⟩ := (id V42)
          obtain ⟨T44, _, X44, rfl, W44, st44⟩ := stC X42 hx hZ rfl Ar44 (j := (0 : Int32)) (inb_of S44 ⟨by decide, by decide⟩) (g := (mkF m 83 #[vr ca_, vi m_, vr b42] [(.int t0_), (.int (0 : Int32)), (.ref b42)])) rfl rfl (D 59 rfl)
          rw [pr5] at W44
          have V44 : Arv Z T44.heap b42 k42 .char (3 : Int32) [(.int t0_), (.int 0), (.int 0)] (.int 0) := Arv.set Ar44 q44 S44 N44z H44 G44 (by have q := fits_nar_char t0_; rw [pr5] at q; exact q) W44 0 rfl (Nat.le_of_ble_eq_true rfl)
          have N44 := Fr.snoc X44 N0 n0_b42
          have H45 := CHv.wr W44 (Safe.exa hZ.alike Ex42 (by decide) (by decide)) H43
          refine ogoF st44 <| o_aloadN X44 hx (D 60 rfl) rfl rfl <| o_iconst X44 hx 1 (D 61 rfl) rfl <| o_aloadN X44 hx (D 62 rfl) rfl rfl <| o_iconst X44 hx 1 (D 63 rfl) rfl ?_
          have y46 : ca_ ≠ b42 := (Nat.ne_of_lt (Nat.lt_of_lt_of_le (Nat.lt_of_lt_of_le pr0.lt (Nat.le_refl _)) (Nat.le_of_eq g42.symm)))
          refine o_cal X44 hx hZ rfl ((pr0.ext E42).other W44 y46) ⟨by decide, by decide⟩ (v := (.int t1_)) rfl (D 64 rfl) ?_
          obtain ⟨cl47, Ar47, q47, S47, N47z, H47, G47⟩ := (id V44)
          obtain ⟨T47, _, X47, rfl, W47, st47⟩ := stC X44 hx hZ rfl Ar47 (j := (1 : Int32)) (inb_of S47 ⟨by decide, by decide⟩) (g := (mkF m 89 #[vr ca_, vi m_, vr b42] [(.int t1_), (.int (1 : Int32)), (.ref b42)])) rfl rfl (D 65 rfl)
          rw [pr6] at W47
          have V47 : Arv Z T47.heap b42 k42 .char (3 : Int32) [(.int t0_), (.int t1_), (.int 0)] (.int 0) := Arv.set Ar47 q47 S47 N47z H47 G47 (by have q := fits_nar_char t1_; rw [pr6] at q; exact q) W47 1 rfl (Nat.le_of_ble_eq_true rfl)
          have N47 := Fr.snoc X47 N44 n0_b42
          have H48 := CHv.wr W47 (Safe.exa hZ.alike (Exa.wr W44 Ex42) (by decide) (by decide)) H45
          refine ogoF st47 <| o_aloadN X47 hx (D 66 rfl) rfl rfl <| o_iconst X47 hx 2 (D 67 rfl) rfl <| o_aloadN X47 hx (D 68 rfl) rfl rfl <| o_iconst X47 hx 2 (D 69 rfl) rfl <| o_cal X47 hx hZ rfl (((pr0.ext E42).other W44 y46).other W47 y46) ⟨by decide, by decide⟩ (v := (.int t2_)) rfl (D 70 rfl) ?_
          obtain ⟨cl49, Ar49, q49, S49, N49z, H49, G49⟩ := (id V47)
          obtain ⟨T49, _, X49, rfl, W49, st49⟩ := stC X47 hx hZ rfl Ar49 (j := (2 : Int32)) (inb_of S49 ⟨by decide, by decide⟩) (g := (mkF m 95 #[vr ca_, vi m_, vr b42] [(.int t2_), (.int (2 : Int32)), (.ref b42)])) rfl rfl (D 71 rfl)
          rw [pr7] at W49
          have V49 : Arv Z T49.heap b42 k42 .char (3 : Int32) [(.int t0_), (.int t1_), (.int t2_)] (.int 0) := Arv.set Ar49 q49 S49 N49z H49 G49 (by have q := fits_nar_char t2_; rw [pr7] at q; exact q) W49 2 rfl (Nat.le_of_ble_eq_true rfl)
          have N49 := Fr.snoc X49 N47 n0_b42
          have H50 := CHv.wr W49 (Safe.exa hZ.alike (Exa.wr W47 (Exa.wr W44 Ex42)) (by decide) (by decide)) H48
          refine ogoF st49 ?_
          obtain ⟨T51, _, X51, rfl, E51, A51, D51, -, st51⟩ := newO X49 hx hZ hown w10 w11 w12 rfl (g := (mkF m 96 #[vr ca_, vi m_, vr b42] [])) rfl (D 72 rfl) (by decide) (by decide)
          obtain ⟨b51, g51⟩ : ∃ z, z = T49.heap.size := ⟨_, rfl⟩
          rw [← g51] at A51 D51 st51
          have c52 := ((((O0.ext E42).wr W44 n0_b42).wr W47 n0_b42).wr W49 n0_b42)
          have n0_b51 := own_on c52 g51
          have H53 := CHv.ext E51 H50
          have F51_value : Fld Z T51.heap b51 "java/lang/String" "value" "[B" .null := D51 (Or.inr w25) (ty := (.array .byte)) (by decide)
          have F51_coder : Fld Z T51.heap b51 "java/lang/String" "coder" "B" (.int (0 : Int32)) := D51 (Or.inr w26) (ty := .byte) (by decide)
          refine ogoF st51 <| o_dup X51 hx (D 73 rfl) rfl <| o_aloadN X51 hx (D 74 rfl) rfl rfl <| o_cI X51 hx hZ hown (rm_new1_3 hw  SB (c52.ext E51) A51 F51_value F51_coder (V49.ext E51) n0_b51 pr1.2 pr2.2 pr3.2) rfl w13 w14 w12 w15 (by decide) rfl hml rfl [(.ref b42)] [(.ref b51)] own_pd12 rfl rfl 1 rfl (by decide) (D 75 rfl) fun T54 L54 v54 X54 hQ54 => ?_
          obtain ⟨ba_54, kb_54, rfl, Nq54, K54, p54_0, p54_1, p54_2, p54_3, p54_4⟩ := hQ54
          have N54 := Fr.app N49 Nq54
          have H55 := CHv.keep K54 (allS (Safe.ext E51 H50 (Safe.new (Nat.le_of_eq g51.symm))) all0) H53
          have z56 := Nat.le_trans E42.1 (Keep.of_wr W44).1
          have z57 := Nat.le_trans z56 (Keep.of_wr W47).1
          have z58 := Nat.le_trans z57 (Keep.of_wr W49).1
          have z59 := Nat.le_trans z58 E51.1
          have n0_ba_54 := own_og O0 (Nat.le_trans z59 p54_0)
          have en_ : own_tn m_ = 3 := by unfold own_tn; rw [if_neg hc2, if_neg hc11, if_neg hc24, if_pos hc41]
          have el_ : own_txt t0_ t1_ t2_ t3_ m_ = [own_by t0_, own_by t1_, own_by t2_] := by unfold own_txt; rw [if_neg hc2, if_neg hc11, if_neg hc24, if_pos hc41]
          have z60 := Nat.le_trans z59 K54.1
          exact oendSR X54 hx hlk hret rfl rfl rfl (D 76 rfl) (by decide) rfl hS0 (Nat.le_trans (Nat.zero_le _) z60) hZ hEL hs0 (CHr.trans (CHr.trans (CHr.trans (CHr.trans (CHr.trans (CHr.ext E42 H0) (CHr.wr W44 (Safe.exa hZ.alike Ex42 (by decide) (by decide)) H43)) (CHr.wr W47 (Safe.exa hZ.alike (Exa.wr W44 Ex42) (by decide) (by decide)) H45)) (CHr.wr W49 (Safe.exa hZ.alike (Exa.wr W47 (Exa.wr W44 Ex42)) (by decide) (by decide)) H48)) (CHr.ext E51 H50)) (CHr.keep K54 (allS (Safe.ext E51 H50 (Safe.new (Nat.le_of_eq g51.symm))) all0) H53)) ⟨b51, ba_54, kb_54, (own_txt t0_ t1_ t2_ t3_ m_), (own_tn m_), rfl, N54, (((((((Keep.refl h0 []).ext E42).wr W44 (Or.inr (Nat.le_trans (Nat.le_refl _) (Nat.le_of_eq g42.symm)))).wr W47 (Or.inr (Nat.le_trans (Nat.le_refl _) (Nat.le_of_eq g42.symm)))).wr W49 (Or.inr (Nat.le_trans (Nat.le_refl _) (Nat.le_of_eq g42.symm)))).ext E51).trans K54 (allS (Or.inr (Nat.le_trans z58 (Nat.le_of_eq g51.symm))) all0)), (Nat.le_trans z58 (Nat.le_of_eq g51.symm)), (Nat.lt_of_lt_of_le p54_1.lt (Nat.le_refl _)), p54_2, p54_4, p54_3, (by rw [en_, el_]; exact p54_1), ⟨rfl, rfl⟩⟩
        · refine o_icmpYes X0 hx 105 (D 50 rfl) (feq hc41).2 rfl <| o_iconst X0 hx 4 (D 77 rfl) rfl ?_
          obtain ⟨T61, _, k61, X61, rfl, E61, A61, Ex61, st61⟩ := newPE (aty := .char) X0 hx hZ w1 e0 (g := (mkF m 106 #[vr ca_, vi m_, .unset] [(.int (4 : Int32))])) rfl (D 78 rfl) rfl (by decide) (cap := 4) (by decide) (by decide) (by decide) (by decide) (ad := "[C") rfl
          obtain ⟨b61, g61⟩ : ∃ z, z = h0.size := ⟨_, rfl⟩
          rw [← g61] at A61 Ex61 st61
          have n0_b61 := own_on O0 g61
          have H62 := CHv.ext E61 H0
          have V61 : Arv Z T61.heap b61 k61 .char (4 : Int32) [(.int 0), (.int 0), (.int 0), (.int 0)] (.int 0) := (Arv.new A61 (by decide)).pad (pad_rep [] (.int 0) 4)
          refine ogoF st61 <| o_astoreN X61 hx (l' := #[vr ca_, vi m_, vr b61]) (D 79 rfl) rfl rfl <| o_aloadN X61 hx (D 80 rfl) rfl rfl <| o_iconst X61 hx 0 (D 81 rfl) rfl <| o_aloadN X61 hx (D 82 rfl) rfl rfl <| o_iconst X61 hx 0 (D 83 rfl) rfl <| o_cal X61 hx hZ rfl (pr0.ext E61) ⟨by decide, by decide⟩ (v := (.int t0_)) rfl (D 84 rfl) ?_
          obtain ⟨cl63, Ar63, q63, S63, N63z, H63, G63⟩ := (id V61)
          obtain ⟨T63, _, X63, rfl, W63, st63⟩ := stC X61 hx hZ rfl Ar63 (j := (0 : Int32)) (inb_of S63 ⟨by decide, by decide⟩) (g := (mkF m 114 #[vr ca_, vi m_, vr b61] [(.int t0_), (.int (0 : Int32)), (.ref b61)])) rfl rfl (D 85 rfl)
          rw [pr5] at W63
          have V63 : Arv Z T63.heap b61 k61 .char (4 : Int32) [(.int t0_), (.int 0), (.int 0), (.int 0)] (.int 0) := Arv.set Ar63 q63 S63 N63z H63 G63 (by have q := fits_nar_char t0_; rw [pr5] at q; exact q) W63 0 rfl (Nat.le_of_ble_eq_true rfl)
          have N63 := Fr.snoc X63 N0 n0_b61
          have H64 := CHv.wr W63 (Safe.exa hZ.alike Ex61 (by decide) (by decide)) H62
          refine ogoF st63 <| o_aloadN X63 hx (D 86 rfl) rfl rfl <| o_iconst X63 hx 1 (D 87 rfl) rfl <| o_aloadN X63 hx (D 88 rfl) rfl rfl <| o_iconst X63 hx 1 (D 89 rfl) rfl ?_
          have y65 : ca_ ≠ b61 := (Nat.ne_of_lt (Nat.lt_of_lt_of_le (Nat.lt_of_lt_of_le pr0.lt (Nat.le_refl _)) (Nat.le_of_eq g61.symm)))
          refine o_cal X63 hx hZ rfl ((pr0.ext E61).other W63 y65) ⟨by decide, by decide⟩ (v := (.int t1_)) rfl (D 90 rfl) ?_
          obtain ⟨cl66, Ar66, q66, S66, N66z, H66, G66⟩ := (id V63)
          obtain ⟨T66, _, X66, rfl, W66, st66⟩ := stC X63 hx hZ rfl Ar66 (j := (1 : Int32)) (inb_of S66 ⟨by decide, by decide⟩) (g := (mkF m 120 #[vr ca_, vi m_, vr b61] [(.int t1_), (.int (1 : Int32)), (.ref b61)])) rfl rfl (D 91 rfl)
          rw [pr6] at W66
          have V66 : Arv Z T66.heap b61 k61 .char (4 : Int32) [(.int t0_), (.int t1_), (.int 0), (.int 0)] (.int 0) := Arv.set Ar66 q66 S66 N66z H66 G66 (by have q := fits_nar_char t1_; rw [pr6] at q; exact q) W66 1 rfl (Nat.le_of_ble_eq_true rfl)
          have N66 := Fr.snoc X66 N63 n0_b61
          have H67 := CHv.wr W66 (Safe.exa hZ.alike (Exa.wr W63 Ex61) (by decide) (by decide)) H64
          refine ogoF st66 <| o_aloadN X66 hx (D 92 rfl) rfl rfl <| o_iconst X66 hx 2 (D 93 rfl) rfl <| o_aloadN X66 hx (D 94 rfl) rfl rfl <| o_iconst X66 hx 2 (D 95 rfl) rfl <| o_cal X66 hx hZ rfl (((pr0.ext E61).other W63 y65).other W66 y65) ⟨by decide, by decide⟩ (v := (.int t2_)) rfl (D 96 rfl) ?_
          obtain ⟨cl68, Ar68, q68, S68, N68z, H68, G68⟩ := (id V66)
          obtain ⟨T68, _, X68, rfl, W68, st68⟩ := stC X66 hx hZ rfl Ar68 (j := (2 : Int32)) (inb_of S68 ⟨by decide, by decide⟩) (g := (mkF m 126 #[vr ca_, vi m_, vr b61] [(.int t2_), (.int (2 : Int32)), (.ref b61)])) rfl rfl (D 97 rfl)
          rw [pr7] at W68
          have V68 : Arv Z T68.heap b61 k61 .char (4 : Int32) [(.int t0_), (.int t1_), (.int t2_), (.int 0)] (.int 0) := Arv.set Ar68 q68 S68 N68z H68 G68 (by have q := fits_nar_char t2_; rw [pr7] at q; exact q) W68 2 rfl (Nat.le_of_ble_eq_true rfl)
          have N68 := Fr.snoc X68 N66 n0_b61
          have H69 := CHv.wr W68 (Safe.exa hZ.alike (Exa.wr W66 (Exa.wr W63 Ex61)) (by decide) (by decide)) H67
          refine ogoF st68 <| o_aloadN X68 hx (D 98 rfl) rfl rfl <| o_iconst X68 hx 3 (D 99 rfl) rfl <| o_aloadN X68 hx (D 100 rfl) rfl rfl <| o_iconst X68 hx 3 (D 101 rfl) rfl ?_
          have c70 := ((((pr0.ext E61).other W63 y65).other W66 y65).other W68 y65)
          refine o_cal X68 hx hZ rfl c70 ⟨by decide, by decide⟩ (v := (.int t3_)) rfl (D 102 rfl) ?_
          obtain ⟨cl71, Ar71, q71, S71, N71z, H71, G71⟩ := (id V68)
          obtain ⟨T71, _, X71, rfl, W71, st71⟩ := stC X68 hx hZ rfl Ar71 (j := (3 : Int32)) (inb_of S71 ⟨by decide, by decide⟩) (g := (mkF m 132 #[vr ca_, vi m_, vr b61] [(.int t3_), (.int (3 : Int32)), (.ref b61)])) rfl rfl (D 103 rfl)
          rw [pr8] at W71
          have V71 : Arv Z T71.heap b61 k61 .char (4 : Int32) [(.int t0_), (.int t1_), (.int t2_), (.int t3_)] (.int 0) := Arv.set Ar71 q71 S71 N71z H71 G71 (by have q := fits_nar_char t3_; rw [pr8] at q; exact q) W71 3 rfl (Nat.le_of_ble_eq_true rfl)
          have N71 := Fr.snoc X71 N68 n0_b61
          have H72 := CHv.wr W71 (Safe.exa hZ.alike (Exa.wr W68 (Exa.wr W66 (Exa.wr W63 Ex61))) (by decide) (by decide)) H69
          refine ogoF st71 ?_
          obtain ⟨T73, _, X73, rfl, E73, A73, D73, -, st73⟩ := newO X71 hx hZ hown w10 w11 w12 rfl (g := (mkF m 133 #[vr ca_, vi m_, vr b61] [])) rfl (D 104 rfl) (by decide) (by decide)
          obtain ⟨b73, g73⟩ : ∃ z, z = T71.heap.size := ⟨_, rfl⟩
          rw [← g73] at A73 D73 st73
          have c74 := (((((O0.ext E61).wr W63 n0_b61).wr W66 n0_b61).wr W68 n0_b61).wr W71 n0_b61)
          have n0_b73 := own_on c74 g73
          have H75 := CHv.ext E73 H72
          have F73_value : Fld Z T73.heap b73 "java/lang/String" "value" "[B" .null := D73 (Or.inr w25) (ty := (.array .byte)) (by decide)
          have F73_coder : Fld Z T73.heap b73 "java/lang/String" "coder" "B" (.int (0 : Int32)) := D73 (Or.inr w26) (ty := .byte) (by decide)
          refine ogoF st73 <| o_dup X73 hx (D 105 rfl) rfl <| o_aloadN X73 hx (D 106 rfl) rfl rfl <| o_cI X73 hx hZ hown (rm_new1_4 hw  SB (c74.ext E73) A73 F73_value F73_coder (V71.ext E73) n0_b73 pr1.2 pr2.2 pr3.2 pr4.2) rfl w13 w14 w12 w15 (by decide) rfl hml rfl [(.ref b61)] [(.ref b73)] own_pd12 rfl rfl 1 rfl (by decide) (D 107 rfl) fun T76 L76 v76 X76 hQ76 => ?_
          obtain ⟨ba_76, kb_76, rfl, Nq76, K76, p76_0, p76_1, p76_2, p76_3, p76_4⟩ := hQ76
          have N76 := Fr.app N71 Nq76
          have H77 := CHv.keep K76 (allS (Safe.ext E73 H72 (Safe.new (Nat.le_of_eq g73.symm))) all0) H75
          have z78 := Nat.le_trans E61.1 (Keep.of_wr W63).1
          have z79 := Nat.le_trans z78 (Keep.of_wr W66).1
          have z80 := Nat.le_trans z79 (Keep.of_wr W68).1
          have z81 := Nat.le_trans z80 (Keep.of_wr W71).1
          have z82 := Nat.le_trans z81 E73.1
          have n0_ba_76 := own_og O0 (Nat.le_trans z82 p76_0)
          have en_ : own_tn m_ = 4 := by unfold own_tn; rw [if_neg hc2, if_neg hc11, if_neg hc24, if_neg hc41]
          have el_ : own_txt t0_ t1_ t2_ t3_ m_ = [own_by t0_, own_by t1_, own_by t2_, own_by t3_] := by unfold own_txt; rw [if_neg hc2, if_neg hc11, if_neg hc24, if_neg hc41]
          have z83 := Nat.le_trans z82 K76.1
          exact oendSR X76 hx hlk hret rfl rfl rfl (D 108 rfl) (by decide) rfl hS0 (Nat.le_trans (Nat.zero_le _) z83) hZ hEL hs0 (CHr.trans (CHr.trans (CHr.trans (CHr.trans (CHr.trans (CHr.trans (CHr.ext E61 H0) (CHr.wr W63 (Safe.exa hZ.alike Ex61 (by decide) (by decide)) H62)) (CHr.wr W66 (Safe.exa hZ.alike (Exa.wr W63 Ex61) (by decide) (by decide)) H64)) (CHr.wr W68 (Safe.exa hZ.alike (Exa.wr W66 (Exa.wr W63 Ex61)) (by decide) (by decide)) H67)) (CHr.wr W71 (Safe.exa hZ.alike (Exa.wr W68 (Exa.wr W66 (Exa.wr W63 Ex61))) (by decide) (by decide)) H69)) (CHr.ext E73 H72)) (CHr.keep K76 (allS (Safe.ext E73 H72 (Safe.new (Nat.le_of_eq g73.symm))) all0) H75)) ⟨b73, ba_76, kb_76, (own_txt t0_ t1_ t2_ t3_ m_), (own_tn m_), rfl, N76, ((((((((Keep.refl h0 []).ext E61).wr W63 (Or.inr (Nat.le_trans (Nat.le_refl _) (Nat.le_of_eq g61.symm)))).wr W66 (Or.inr (Nat.le_trans (Nat.le_refl _) (Nat.le_of_eq g61.symm)))).wr W68 (Or.inr (Nat.le_trans (Nat.le_refl _) (Nat.le_of_eq g61.symm)))).wr W71 (Or.inr (Nat.le_trans (Nat.le_refl _) (Nat.le_of_eq g61.symm)))).ext E73).trans K76 (allS (Or.inr (Nat.le_trans z81 (Nat.le_of_eq g73.symm))) all0)), (Nat.le_trans z81 (Nat.le_of_eq g73.symm)), (Nat.lt_of_lt_of_le p76_1.lt (Nat.le_refl _)), p76_2, p76_4, p76_3, (by rw [en_, el_]; exact p76_1), ⟨rfl, rfl⟩⟩
abbrev cd18 : ByteArray := jdk_43_method_3_code
theorem D18 : own_DD cd18 [(0, .iload_n 0, 1), (1, .sipush 255, 3), (4, .if_icmp .gt 7, 3), (7, .iconst 1, 1), (8, .goto 4, 3), (12, .ireturn, 1)] := own_dk (by decide +kernel)
def own_Q_canenc (Z : State)  (c0_ : Int32) (h0 : Heap) (n0 : Nat) (v : Option Value) (h : Heap) (L : List Loc) : Prop := (v = some (.int (1 : Int32))) ∧ (Fr n0 L) ∧ (h = h0)
abbrev yM17 : MethodName := ⟨"java/lang/StringLatin1", "canEncode", "(C)Z"⟩
theorem rm_canenc {l : Launch} {Z : State} {a0 : Array Value} (hw : own_hw a0 Z)   (c0_ : Int32) {h0 : Heap} {n0 : Nat} (O0 : Old Z n0 h0) (pr0 : ¬ ((255 : Int32) < c0_)) :
    oMet l Z yM17 jdk_43_method_3_code 1 (some .boolean) [] (rmo 0 0 0 0) 0 0 #[(.int c0_)] h0 (own_Q_canenc Z  c0_ h0 n0) := by
  refine oenter (plainFor_of_name own_pn2) #[vi c0_] (fun _ => rfl) ?_
  intro p e s m below meth c s₁ X0 hx hZ hby hml hret hown hnm hlk e0
  have N0 := Fr.nil n0
  have D := own_hb hby D18
  have W := own_w hw
  refine o_iloadN X0 hx (D 0 rfl) rfl <| o_sipush X0 hx 255 (D 1 rfl) rfl <| o_icmpNo X0 hx (D 2 rfl) (flt pr0).2.2.1 <| o_iconst X0 hx 1 (D 3 rfl) rfl <| o_goto X0 hx 12 (D 4 rfl) rfl ?_
  exact oendN X0 hx hlk hret (by simp) (y := (1 : Int32)) rfl (D 5 rfl) (by decide) e0 ⟨rfl, N0, rfl⟩
abbrev cd19 : ByteArray := jdk_43_method_46_code
theorem D19 : own_DD cd19 [(0, .iconst 1, 1), (1, .newarray .byte, 2), (3, .dup, 1), (4, .iconst 0, 1), (5, .iload_n 0, 1), (6, .i2b, 1), (7, .bastore, 1), (8, .areturn, 1)] := own_dk (by decide +kernel)
def own_Q_l1tob (Z : State)  (c0_ : Int32) (h0 : Heap) (n0 : Nat) (v : Option Value) (h : Heap) (L : List Loc) : Prop := ∃ ba_ : Addr, ∃ kb_ : ClassId, (v = some (.ref ba_)) ∧ (Fr n0 L) ∧ (Keep h0 h []) ∧ (h0.size ≤ ba_) ∧ (Arv Z h ba_ kb_ .byte (1 : Int32) [(.int c0_.toInt8.toInt32)] (.int 0))
abbrev yM18 : MethodName := ⟨"java/lang/StringLatin1", "toBytes", "(C)[B"⟩
theorem rm_l1tob {l : Launch} {Z : State} {a0 : Array Value} (hw : own_hw a0 Z)   (c0_ : Int32) {h0 : Heap} {n0 : Nat} (O0 : Old Z n0 h0)  :
    oMet l Z yM18 jdk_43_method_46_code 1 (some (.array .byte)) [] (rmo 0 1 1 0) 1 1 #[(.int c0_)] h0 (own_Q_l1tob Z  c0_ h0 n0) := by
  refine oenter (plainFor_of_name own_pn2) #[vi c0_] (fun _ => rfl) ?_
  intro p e s m below meth c s₁ X0 hx hZ hby hml hret hown hnm hlk e0
  have N0 := Fr.nil n0
  have D := own_hb hby D19
  have W := own_w hw
  refine o_iconst X0 hx 1 (D 0 rfl) rfl ?_
  obtain ⟨T1, _, k1, X1, rfl, E1, A1, Ex1, st1⟩ := newPE (aty := .byte) X0 hx hZ (W 24 rfl) e0 (g := (mkF m 1 #[vi c0_] [(.int (1 : Int32))])) rfl (D 1 rfl) rfl (by decide) (cap := 1) (by decide) (by decide) (by decide) (by decide) (ad := "[B") rfl
  obtain ⟨b1, g1⟩ : ∃ z, z = h0.size := ⟨_, rfl⟩
  rw [← g1] at A1 Ex1 st1
  have n0_b1 := own_on O0 g1
  have V1 : Arv Z T1.heap b1 k1 .byte (1 : Int32) [(.int 0)] (.int 0) := (Arv.new A1 (by decide)).pad (pad_rep [] (.int 0) 1)
  refine ogoF st1 <| o_dup X1 hx (D 2 rfl) rfl <| o_iconst X1 hx 0 (D 3 rfl) rfl <| o_iloadN X1 hx (D 4 rfl) rfl <| o_i2b X1 hx (D 5 rfl) ?_
  obtain ⟨cl2, Ar2, q2, S2, N2z, H2, G2⟩ := (id V1)
  obtain ⟨T2, _, X2, rfl, W2, st2⟩ := stB X1 hx hZ rfl Ar2 (j := (0 : Int32)) (inb_of S2 ⟨by decide, by decide⟩) (g := (mkF m 7 #[vi c0_] [(.int c0_.toInt8.toInt32), (.int (0 : Int32)), (.ref b1), (.ref b1)])) rfl rfl (D 6 rfl)
  rw [own_narb] at W2
  have V2 : Arv Z T2.heap b1 k1 .byte (1 : Int32) [(.int c0_.toInt8.toInt32)] (.int 0) := Arv.set Ar2 q2 S2 N2z H2 G2 (fits_nar_byte _) W2 0 rfl (Nat.le_of_ble_eq_true rfl)
  have N2 := Fr.snoc X2 N0 n0_b1
  refine ogoF st2 ?_
  exact oendR X2 hx hlk hret rfl rfl rfl (D 7 rfl) (by decide) rfl ⟨b1, k1, rfl, N2, (((Keep.refl h0 []).ext E1).wr W2 (Or.inr (Nat.le_trans (Nat.le_refl _) (Nat.le_of_eq g1.symm)))), (Nat.le_trans (Nat.le_refl _) (Nat.le_of_eq g1.symm)), V2⟩
abbrev cd20 : ByteArray := jdk_42_method_151_code
theorem D20 : own_DD cd20 [(0, .aload_n 0, 1), (1, .invokespecial 1, 3), (4, .aload_n 0, 1), (5, .aload_n 1, 1), (6, .putfield 9, 3), (9, .aload_n 0, 1), (10, .iload_n 2, 1), (11, .putfield 15, 3), (14, .return_, 1)] := own_dk (by decide +kernel)
def own_Q_newbb (Z : State)  (x_ ba_ : Addr) (h0 : Heap) (n0 : Nat) (v : Option Value) (h : Heap) (L : List Loc) : Prop := (v = none) ∧ (Fr n0 L) ∧ (Keep h0 h [x_]) ∧ (Exa Z h x_ "java/lang/String") ∧ (Fld Z h x_ "java/lang/String" "value" "[B" (.ref ba_)) ∧ (Fld Z h x_ "java/lang/String" "coder" "B" (.int (0 : Int32)))
abbrev yM19 : MethodName := ⟨"java/lang/String", "<init>", "([BB)V"⟩
theorem rm_newbb {l : Launch} {Z : State} {a0 : Array Value} (hw : own_hw a0 Z)  {x_ : Addr} (ba_ : Addr) {h0 : Heap} {n0 : Nat} (O0 : Old Z n0 h0) (pr0 : Exa Z h0 x_ "java/lang/String") (pr1 : Fld Z h0 x_ "java/lang/String" "value" "[B" .null) (pr2 : Fld Z h0 x_ "java/lang/String" "coder" "B" (.int (0 : Int32))) (pr3 : n0 ≤ x_) :
    oMet l Z yM19 jdk_42_method_151_code 3 none [] (rmo 1 0 0 12) 0 0 #[(.ref x_), (.ref ba_), (.int (0 : Int32))] h0 (own_Q_newbb Z  x_ ba_ h0 n0) := by
  refine oenter (plainFor_of_name own_pn0) #[vr x_, vr ba_, vi (0 : Int32)] (fun _ => rfl) ?_
  intro p e s m below meth c s₁ X0 hx hZ hby hml hret hown hnm hlk e0
  have N0 := Fr.nil n0
  have D := own_hb hby D20
  have W := own_w hw
  refine o_aloadN X0 hx (D 0 rfl) rfl rfl ?_
  obtain ⟨T1, X1, e1, st1⟩ := initO X0 hx hZ hown (W 20 rfl) (W 21 rfl) (W 22 rfl) e0 (g := (mkF m 1 #[vr x_, vr ba_, vi (0 : Int32)] [(.ref x_)])) rfl (by rw [hml]; rfl) rfl (D 1 rfl) (by decide) (W := 0) (by show 2 * 0 + _ ≤ _; exact Nat.le_of_eq rfl) (by decide)
  refine ogoF st1 <| o_aloadN X1 hx (D 2 rfl) rfl rfl <| o_aloadN X1 hx (D 3 rfl) rfl rfl ?_
  obtain ⟨T2, _, X2, rfl, W2, st2⟩ := putF X1 hx hZ hown (host := "") (Or.inl (W 29 rfl)) Via.refl e1 pr1 pr0 (Or.inr ⟨(W 25 rfl), rfl, hnm⟩) (W 11 rfl) (ty := (.array .byte)) (by decide) rfl rfl (g := (mkF m 6 #[vr x_, vr ba_, vi (0 : Int32)] [(.ref ba_), (.ref x_)])) rfl rfl (D 4 rfl)
  have N2 := Fr.snoc X2 N0 pr3
  have F2 := Fld.same W2 pr1
  refine ogoF st2 <| o_aloadN X2 hx (D 5 rfl) rfl rfl <| o_iloadN X2 hx (D 6 rfl) rfl ?_
  have c4 := (Fld.other W2 pr2 (Or.inr (slot_ne (Or.inr (W 26 rfl)) (Or.inr (W 25 rfl)) (by decide) (t := .byte) (t' := (.array .byte)) (by decide) (by decide))))
  obtain ⟨T3, _, X3, rfl, W3, st3⟩ := putFN X2 hx hZ hown (W 30 rfl) Via.refl rfl c4 (Exa.wr W2 pr0) (Or.inr ⟨(W 26 rfl), rfl, hnm⟩) (W 11 rfl) (ty := .byte) (v' := (.int (0 : Int32))) (by decide) rfl (by decide) (g := (mkF m 11 #[vr x_, vr ba_, vi (0 : Int32)] [(.int (0 : Int32)), (.ref x_)])) rfl rfl (D 7 rfl)
  have N3 := Fr.snoc X3 N2 pr3
  have F3 := Fld.same W3 c4
  refine ogoF st3 ?_
  have c5 := (Fld.other W3 F2 (Or.inr (slot_ne (Or.inr (W 25 rfl)) (Or.inr (W 26 rfl)) (by decide) (t := (.array .byte)) (t' := .byte) (by decide) (by decide))))
  exact oendV X3 hx hlk hret (D 8 rfl) (by decide) rfl ⟨rfl, N3, (((Keep.refl h0 [x_]).wr W2 (Or.inl (List.mem_of_getElem? (i := 0) rfl))).wr W3 (Or.inl (List.mem_of_getElem? (i := 0) rfl))), (Exa.wr W3 (Exa.wr W2 pr0)), c5, F3⟩
theorem own_pd13 : parseMethodDescriptor "(C)Z" = some ⟨[.char], some .boolean⟩ := by decide +kernel
theorem own_pd14 : parseMethodDescriptor "(C)[B" = some ⟨[.char], some (.array .byte)⟩ := by decide +kernel
theorem own_pd15 : parseMethodDescriptor "([BB)V" = some ⟨[(.array .byte), .byte], none⟩ := by decide +kernel
abbrev cd21 : ByteArray := jdk_42_method_139_code
theorem D21 : own_DD cd21 [(0, .getstatic 38, 3), (3, .ifCond .eq 23, 3), (6, .iload_n 0, 1), (7, .invokestatic 1015, 3), (10, .ifCond .eq 16, 3), (13, .new 10, 3), (16, .dup, 1), (17, .iload_n 0, 1), (18, .invokestatic 1018, 3), (21, .iconst 0, 1), (22, .invokespecial 209, 3), (25, .areturn, 1)] := own_dk (by decide +kernel)
def own_Q_valueof (Z : State) (z_CS : Int32) (v_FMT : Value) (s_DC : Addr) (k_DC : ClassId) (v_IO : Value) (c0_ : Int32) (h0 : Heap) (n0 : Nat) (v : Option Value) (h : Heap) (L : List Loc) : Prop := ∃ x_ : Addr, ∃ ba_ : Addr, ∃ kb_ : ClassId, (v = some (.ref x_)) ∧ (Fr n0 L) ∧ (Keep h0 h []) ∧ (h0.size ≤ x_) ∧ (h0.size ≤ ba_) ∧ (Exa Z h x_ "java/lang/String") ∧ (Fld Z h x_ "java/lang/String" "coder" "B" (.int (0 : Int32))) ∧ (Fld Z h x_ "java/lang/String" "value" "[B" (.ref ba_)) ∧ (Arv Z h ba_ kb_ .byte (1 : Int32) [(.int c0_.toInt8.toInt32)] (.int 0))
abbrev yM20 : MethodName := ⟨"java/lang/String", "valueOf", "(C)Ljava/lang/String;"⟩
theorem rm_valueof {l : Launch} {Z : State} {a0 : Array Value} (hw : own_hw a0 Z) {z_CS : Int32} {v_FMT : Value} {s_DC : Addr} {k_DC : ClassId} {v_IO : Value}  (c0_ : Int32) {h0 : Heap} {n0 : Nat} (SB : own_Start Z z_CS v_FMT s_DC k_DC v_IO) (O0 : Old Z n0 h0) (pr0 : ¬ ((255 : Int32) < c0_)) :
    oMet l Z yM20 jdk_42_method_139_code 1 (some (.object "java/lang/String")) [] (rmo 2 2 5 27) 2 5 #[(.int c0_)] h0 (own_Q_valueof Z z_CS v_FMT s_DC k_DC v_IO c0_ h0 n0) := by
  refine oenter (plainFor_of_name own_pn0) #[vi c0_] (fun _ => rfl) ?_
  intro p e s m below meth c s₁ X0 hx hZ hby hml hret hown hnm hlk e0
  have N0 := Fr.nil n0
  have D := own_hb hby D21
  obtain ⟨S_CS, H_CS, -⟩ := (id SB)
  have W := own_w hw
  refine o_getS X0 hx hZ hown (host := "") (Or.inl (W 174 rfl)) Via.refl e0 (Sta.ext O0.2 S_CS) (D 0 rfl) fun T1 X1 e1 => o_ifNo X1 hx (D 1 rfl) (feq H_CS).1 <| o_iloadN X1 hx (D 2 rfl) rfl <| o_cS X1 hx hZ hown (rm_canenc hw c0_ O0 pr0) (W 376 rfl) (W 377 rfl) (W 347 rfl) (W 378 rfl) (by decide) e1 hml rfl [(.int c0_)] [] own_pd13 rfl rfl 0 rfl (by decide) (D 3 rfl) fun T2 L2 v2 X2 hQ2 => ?_
  obtain ⟨rfl, Nq2, q2⟩ := hQ2
  have N2 := Fr.app N0 Nq2
  refine o_ifNo X2 hx (D 4 rfl) (feq (by decide : ¬ ((1 : Int32) = (0 : Int32)))).1 ?_
  obtain ⟨T3, _, X3, rfl, E3, A3, D3, -, st3⟩ := newO X2 hx hZ hown (W 379 rfl) (W 11 rfl) (W 12 rfl) q2 (g := (mkF m 13 #[vi c0_] [])) rfl (D 5 rfl) (by decide) (by decide)
  obtain ⟨b3, g3⟩ : ∃ z, z = h0.size := ⟨_, rfl⟩
  rw [← g3] at A3 D3 st3
  have n0_b3 := own_on O0 g3
  have F3_value : Fld Z T3.heap b3 "java/lang/String" "value" "[B" .null := D3 (Or.inr (W 25 rfl)) (ty := (.array .byte)) (by decide)
  have F3_coder : Fld Z T3.heap b3 "java/lang/String" "coder" "B" (.int (0 : Int32)) := D3 (Or.inr (W 26 rfl)) (ty := .byte) (by decide)
  refine ogoF st3 <| o_dup X3 hx (D 6 rfl) rfl <| o_iloadN X3 hx (D 7 rfl) rfl <| o_cS X3 hx hZ hown (rm_l1tob hw c0_ (O0.ext E3) ) (W 380 rfl) (W 381 rfl) (W 347 rfl) (W 382 rfl) (by decide) rfl hml rfl [(.int c0_)] [(.ref b3), (.ref b3)] own_pd14 rfl rfl 2 rfl (by decide) (D 8 rfl) fun T4 L4 v4 X4 hQ4 => ?_
  obtain ⟨ba_4, kb_4, rfl, Nq4, K4, p4_0, p4_1⟩ := hQ4
  have N4 := Fr.app N2 Nq4
  have n0_ba_4 := own_og O0 (Nat.le_trans E3.1 p4_0)
  refine o_iconst X4 hx 0 (D 9 rfl) rfl <| o_cI X4 hx hZ hown (rm_newbb hw ba_4 ((O0.ext E3).keep K4 all0) (A3.keep K4) (F3_value.keep K4 nin0) (F3_coder.keep K4 nin0) n0_b3) rfl (W 383 rfl) (W 384 rfl) (W 12 rfl) (W 385 rfl) (by decide) rfl hml rfl [(.ref ba_4), (.int (0 : Int32))] [(.ref b3)] own_pd15 rfl rfl 1 rfl (by decide) (D 10 rfl) fun T5 L5 v5 X5 hQ5 => ?_
  obtain ⟨rfl, Nq5, K5, p5_0, p5_1, p5_2⟩ := hQ5
  have N5 := Fr.app N4 Nq5
  have y6 : ba_4 ≠ b3 := (Nat.ne_of_gt (Nat.lt_of_lt_of_le (Nat.lt_of_lt_of_le A3.lt (Nat.le_refl _)) p4_0))
  exact oendR X5 hx hlk hret rfl rfl rfl (D 11 rfl) (by decide) rfl ⟨b3, ba_4, kb_4, rfl, N5, ((((Keep.refl h0 []).ext E3).trans K4 all0).trans K5 (allS (Or.inr (Nat.le_trans (Nat.le_refl _) (Nat.le_of_eq g3.symm))) all0)), (Nat.le_trans (Nat.le_refl _) (Nat.le_of_eq g3.symm)), (Nat.le_trans E3.1 p4_0), p5_0, p5_2, p5_1, (p4_1.keep K5 (ninS y6 nin0))⟩
theorem own_pd16 : parseMethodDescriptor "(C)Ljava/lang/String;" = some ⟨[.char], some (.object "java/lang/String")⟩ := by decide +kernel
abbrev cd22 : ByteArray := method_5_code
theorem D22 : own_DD cd22 [(0, .iload_n 2, 1), (1, .ifCond .ne 14, 3), (4, .new 41, 3), (7, .dup, 1), (8, .iconst 0, 1), (9, .newarray .char, 2), (11, .invokespecial 55, 3), (14, .areturn, 1), (15, .iload_n 2, 1), (16, .iconst 1, 1), (17, .if_icmp .ne 8, 3), (20, .iload_n 0, 1), (21, .invokestatic 58, 3), (24, .areturn, 1), (25, .iconst 2, 1), (26, .newarray .char, 2), (28, .astore_n 3, 1), (29, .aload_n 3, 1), (30, .iconst 0, 1), (31, .iload_n 0, 1), (32, .castore, 1), (33, .aload_n 3, 1), (34, .iconst 1, 1), (35, .iload_n 1, 1), (36, .castore, 1), (37, .new 41, 3), (40, .dup, 1), (41, .aload_n 3, 1), (42, .invokespecial 55, 3), (45, .areturn, 1)] := own_dk (by decide +kernel)
def own_Q_pto (Z : State) (z_CS : Int32) (v_FMT : Value) (s_DC : Addr) (k_DC : ClassId) (v_IO : Value) (a_ b_ m_ : Int32) (h0 : Heap) (n0 : Nat) (v : Option Value) (h : Heap) (L : List Loc) : Prop := ∃ r_ : Addr, ∃ rb_ : Addr, ∃ rk_ : ClassId, ∃ rs_ : List Int32, ∃ rn_ : Nat, (v = some (.ref r_)) ∧ (Fr n0 L) ∧ (Keep h0 h []) ∧ (h0.size ≤ r_) ∧ (rb_ < h.size) ∧ (Exa Z h r_ "java/lang/String") ∧ (Fld Z h r_ "java/lang/String" "coder" "B" (.int (0 : Int32))) ∧ (Fld Z h r_ "java/lang/String" "value" "[B" (.ref rb_)) ∧ (Arv Z h rb_ rk_ .byte (Int32.ofNat rn_) (own_vs rs_) (.int 0)) ∧ (rs_ = own_prt a_ b_ m_ ∧ rn_ = own_pn m_)
abbrev yM21 : MethodName := ⟨"com/example/reliquary/reliquary/SecretsHidePinLaw", "partOf", "(CCI)Ljava/lang/String;"⟩
theorem rm_pto {l : Launch} {Z : State} {a0 : Array Value} (hw : own_hw a0 Z) {z_CS : Int32} {v_FMT : Value} {s_DC : Addr} {k_DC : ClassId} {v_IO : Value}  (a_ b_ m_ : Int32) {h0 : Heap} {n0 : Nat} (SB : own_Start Z z_CS v_FMT s_DC k_DC v_IO) (O0 : Old Z n0 h0) (pr0 : own_ok a_) (pr1 : own_ok b_) (pr2 : nar .char a_ = a_) (pr3 : nar .char b_ = b_) :
    oMetS l Z yM21 method_5_code 4 (some (.object "java/lang/String")) [] (rmo 4 6 12 66) 6 12 #[(.int a_), (.int b_), (.int m_)] h0 (own_Q_pto Z z_CS v_FMT s_DC k_DC v_IO a_ b_ m_ h0 n0) := by
  refine oenterS (plainFor_of_name own_pn3) #[vi a_, vi b_, vi m_, .unset] (fun _ => rfl) ?_
  intro p e s m below meth c s₁ X0 hx hZ hby hml hret hown hnm hlk e0 hs0 H0 hS0
  have hEL := own_EW hw
  have wS := own_wS hw
  have N0 := Fr.nil n0
  have D := own_hb hby D22
  have W := own_w hw
  have w12 := W 12 rfl
  refine o_iloadN X0 hx (D 0 rfl) rfl ?_
  by_cases hc2 : m_ = (0 : Int32)
  · refine o_ifNo X0 hx (D 1 rfl) (teq hc2).2 ?_
    obtain ⟨T3, _, X3, rfl, E3, A3, D3, -, st3⟩ := newO X0 hx hZ hown (W 10 rfl) (W 11 rfl) w12 e0 (g := (mkF m 4 #[vi a_, vi b_, vi m_, .unset] [])) rfl (D 2 rfl) (by decide) (by decide)
    obtain ⟨b3, g3⟩ : ∃ z, z = h0.size := ⟨_, rfl⟩
    rw [← g3] at A3 D3 st3
    have n0_b3 := own_on O0 g3
    have H4 := CHv.ext E3 H0
    have F3_value : Fld Z T3.heap b3 "java/lang/String" "value" "[B" .null := D3 (Or.inr (W 25 rfl)) (ty := (.array .byte)) (by decide)
    have F3_coder : Fld Z T3.heap b3 "java/lang/String" "coder" "B" (.int (0 : Int32)) := D3 (Or.inr (W 26 rfl)) (ty := .byte) (by decide)
    refine ogoF st3 <| o_dup X3 hx (D 3 rfl) rfl <| o_iconst X3 hx 0 (D 4 rfl) rfl ?_
    obtain ⟨T5, _, k5, X5, rfl, E5, A5, Ex5, st5⟩ := newPE (aty := .char) X3 hx hZ (W 1 rfl) rfl (g := (mkF m 9 #[vi a_, vi b_, vi m_, .unset] [(.int (0 : Int32)), (.ref b3), (.ref b3)])) rfl (D 5 rfl) rfl (by decide) (cap := 0) (by decide) (by decide) (by decide) (by decide) (ad := "[C") rfl
    obtain ⟨b5, g5⟩ : ∃ z, z = T3.heap.size := ⟨_, rfl⟩
    rw [← g5] at A5 Ex5 st5
    have n0_b5 := own_on (O0.ext E3) g5
    have H6 := CHv.ext E5 H4
    have V5 : Arv Z T5.heap b5 k5 .char (0 : Int32) [] (.int 0) := (Arv.new A5 (by decide)).pad (pad_rep [] (.int 0) 0)
    refine ogoF st5 ?_
    have z8 := Nat.le_trans E3.1 E5.1
    refine o_cIS X5 hx hZ hown (rm_new1z hw  ((O0.ext E3).ext E5) (Exa.ext E5 A3) (Fld.ext E5 F3_value) (Fld.ext E5 F3_coder) n0_b3 V5) rfl (W 13 rfl) (W 14 rfl) w12 (W 15 rfl) (by decide) rfl hS0 (Nat.le_trans (Nat.zero_le _) z8) hEL H6 hml rfl [(.ref b5)] [(.ref b3)] own_pd12 rfl rfl 1 rfl (by decide) (D 6 rfl) fun T7 L7 v7 X7 hS7 hZ7 hown7 C7 hQ7 => ?_
    obtain ⟨ba_7, kb_7, rfl, Nq7, K7, p7_0, p7_1, p7_2, p7_3, p7_4⟩ := hQ7
    have N7 := Fr.app N0 Nq7
    have H9 := C7.1
    have en_ : own_pn m_ = 0 := by unfold own_pn; rw [if_pos hc2]
    have el_ : own_prt a_ b_ m_ = [] := by unfold own_prt; rw [if_pos hc2]
    exact oendSR X7 hx hlk hret rfl rfl rfl (D 7 rfl) (by decide) rfl hS7 (Nat.le_refl _) hZ7 hEL hs0 (CHr.trans (CHr.trans (CHr.ext E3 H0) (CHr.ext E5 H4)) C7) ⟨b3, ba_7, kb_7, (own_prt a_ b_ m_), (own_pn m_), rfl, N7, ((((Keep.refl h0 []).ext E3).ext E5).trans K7 (allS (Or.inr (Nat.le_trans (Nat.le_refl _) (Nat.le_of_eq g3.symm))) all0)), (Nat.le_trans (Nat.le_refl _) (Nat.le_of_eq g3.symm)), (Nat.lt_of_lt_of_le p7_0 (Nat.le_refl _)), p7_2, p7_4, p7_3, (by rw [en_, el_]; exact p7_1), ⟨rfl, rfl⟩⟩
  · refine o_ifYes X0 hx 15 (D 1 rfl) (feq hc2).2 rfl <| o_iloadN X0 hx (D 8 rfl) rfl <| o_iconst X0 hx 1 (D 9 rfl) rfl ?_
    by_cases hc11 : m_ = (1 : Int32)
    · refine o_icmpNo X0 hx (D 10 rfl) (teq hc11).2 <| o_iloadN X0 hx (D 11 rfl) rfl <| o_cS X0 hx hZ hown (rm_valueof hw a_ SB O0 pr0.2) (W 373 rfl) (W 374 rfl) w12 (W 375 rfl) (by decide) e0 hml rfl [(.int a_)] [] own_pd16 rfl rfl 0 rfl (by decide) (D 12 rfl) fun T12 L12 v12 X12 hQ12 => ?_
      obtain ⟨x_12, ba_12, kb_12, rfl, Nq12, K12, p12_0, p12_1, p12_2, p12_3, p12_4, p12_5⟩ := hQ12
      have N12 := Fr.app N0 Nq12
      have H13 := CHv.keep K12 all0 H0
      have n0_x_12 := own_og O0 (Nat.le_trans (Nat.le_refl _) p12_0)
      have n0_ba_12 := own_og O0 (Nat.le_trans (Nat.le_refl _) p12_1)
      have en_ : own_pn m_ = 1 := by unfold own_pn; rw [if_neg hc2, if_pos hc11]
      have el_ : own_prt a_ b_ m_ = [own_by a_] := by unfold own_prt; rw [if_neg hc2, if_pos hc11]
      exact oendSR X12 hx hlk hret rfl rfl rfl (D 13 rfl) (by decide) rfl hS0 (Nat.le_trans (Nat.zero_le _) K12.1) hZ hEL hs0 (CHr.keep K12 all0 H0) ⟨x_12, ba_12, kb_12, (own_prt a_ b_ m_), (own_pn m_), rfl, N12, ((Keep.refl h0 []).trans K12 all0), (Nat.le_trans (Nat.le_refl _) p12_0), (Nat.lt_of_lt_of_le p12_5.lt (Nat.le_refl _)), p12_2, p12_3, p12_4, (by rw [en_, el_]; exact p12_5), ⟨rfl, rfl⟩⟩
    · refine o_icmpYes X0 hx 25 (D 10 rfl) (feq hc11).2 rfl <| o_iconst X0 hx 2 (D 14 rfl) rfl ?_
      obtain ⟨T14, _, k14, X14, rfl, E14, A14, Ex14, st14⟩ := newPE (aty := .char) X0 hx hZ (W 1 rfl) e0 (g := (mkF m 26 #[vi a_, vi b_, vi m_, .unset] [(.int (2 : Int32))])) rfl (D 15 rfl) rfl (by decide) (cap := 2) (by decide) (by decide) (by decide) (by decide) (ad := "[C") rfl
      obtain ⟨b14, g14⟩ : ∃ z, z = h0.size := ⟨_, rfl⟩
      rw [← g14] at A14 Ex14 st14
      have n0_b14 := own_on O0 g14
      have H15 := CHv.ext E14 H0
      have V14 : Arv Z T14.heap b14 k14 .char (2 : Int32) [(.int 0), (.int 0)] (.int 0) := (Arv.new A14 (by decide)).pad (pad_rep [] (.int 0) 2)
      refine ogoF st14 <| o_astoreN X14 hx (l' := #[vi a_, vi b_, vi m_, vr b14]) (D 16 rfl) rfl rfl <| o_aloadN X14 hx (D 17 rfl) rfl rfl <| o_iconst X14 hx 0 (D 18 rfl) rfl <| o_iloadN X14 hx (D 19 rfl) rfl ?_
      obtain ⟨cl16, Ar16, q16, S16, N16z, H16, G16⟩ := (id V14)
      obtain ⟨T16, _, X16, rfl, W16, st16⟩ := stC X14 hx hZ rfl Ar16 (j := (0 : Int32)) (inb_of S16 ⟨by decide, by decide⟩) (g := (mkF m 32 #[vi a_, vi b_, vi m_, vr b14] [(.int a_), (.int (0 : Int32)), (.ref b14)])) rfl rfl (D 20 rfl)
      rw [pr2] at W16
      have V16 : Arv Z T16.heap b14 k14 .char (2 : Int32) [(.int a_), (.int 0)] (.int 0) := Arv.set Ar16 q16 S16 N16z H16 G16 (by have q := fits_nar_char a_; rw [pr2] at q; exact q) W16 0 rfl (Nat.le_of_ble_eq_true rfl)
      have N16 := Fr.snoc X16 N0 n0_b14
      have H17 := CHv.wr W16 (Safe.exa hZ.alike Ex14 (by decide) (by decide)) H15
      refine ogoF st16 <| o_aloadN X16 hx (D 21 rfl) rfl rfl <| o_iconst X16 hx 1 (D 22 rfl) rfl <| o_iloadN X16 hx (D 23 rfl) rfl ?_
      obtain ⟨cl18, Ar18, q18, S18, N18z, H18, G18⟩ := (id V16)
      obtain ⟨T18, _, X18, rfl, W18, st18⟩ := stC X16 hx hZ rfl Ar18 (j := (1 : Int32)) (inb_of S18 ⟨by decide, by decide⟩) (g := (mkF m 36 #[vi a_, vi b_, vi m_, vr b14] [(.int b_), (.int (1 : Int32)), (.ref b14)])) rfl rfl (D 24 rfl)
      rw [pr3] at W18
      have V18 : Arv Z T18.heap b14 k14 .char (2 : Int32) [(.int a_), (.int b_)] (.int 0) := Arv.set Ar18 q18 S18 N18z H18 G18 (by have q := fits_nar_char b_; rw [pr3] at q; exact q) W18 1 rfl (Nat.le_of_ble_eq_true rfl)
      have N18 := Fr.snoc X18 N16 n0_b14
      have H19 := CHv.wr W18 (Safe.exa hZ.alike (Exa.wr W16 Ex14) (by decide) (by decide)) H17
      refine ogoF st18 ?_
      obtain ⟨T20, _, X20, rfl, E20, A20, D20, -, st20⟩ := newO X18 hx hZ hown (W 10 rfl) (W 11 rfl) w12 rfl (g := (mkF m 37 #[vi a_, vi b_, vi m_, vr b14] [])) rfl (D 25 rfl) (by decide) (by decide)
      obtain ⟨b20, g20⟩ : ∃ z, z = T18.heap.size := ⟨_, rfl⟩
      rw [← g20] at A20 D20 st20
      have n0_b20 := own_on (((O0.ext E14).wr W16 n0_b14).wr W18 n0_b14) g20
      have H21 := CHv.ext E20 H19
      have F20_value : Fld Z T20.heap b20 "java/lang/String" "value" "[B" .null := D20 (Or.inr (W 25 rfl)) (ty := (.array .byte)) (by decide)
      have F20_coder : Fld Z T20.heap b20 "java/lang/String" "coder" "B" (.int (0 : Int32)) := D20 (Or.inr (W 26 rfl)) (ty := .byte) (by decide)
      refine ogoF st20 <| o_dup X20 hx (D 26 rfl) rfl <| o_aloadN X20 hx (D 27 rfl) rfl rfl <| o_cI X20 hx hZ hown (rm_new1_2 hw  SB ((((O0.ext E14).wr W16 n0_b14).wr W18 n0_b14).ext E20) A20 F20_value F20_coder (V18.ext E20) n0_b20 pr0.2 pr1.2) rfl (W 13 rfl) (W 14 rfl) w12 (W 15 rfl) (by decide) rfl hml rfl [(.ref b14)] [(.ref b20)] own_pd12 rfl rfl 1 rfl (by decide) (D 28 rfl) fun T22 L22 v22 X22 hQ22 => ?_
      obtain ⟨ba_22, kb_22, rfl, Nq22, K22, p22_0, p22_1, p22_2, p22_3, p22_4⟩ := hQ22
      have N22 := Fr.app N18 Nq22
      have H23 := CHv.keep K22 (allS (Safe.ext E20 H19 (Safe.new (Nat.le_of_eq g20.symm))) all0) H21
      have z24 := Nat.le_trans E14.1 (Keep.of_wr W16).1
      have z25 := Nat.le_trans z24 (Keep.of_wr W18).1
      have z26 := Nat.le_trans z25 E20.1
      have n0_ba_22 := own_og O0 (Nat.le_trans z26 p22_0)
      have en_ : own_pn m_ = 2 := by unfold own_pn; rw [if_neg hc2, if_neg hc11]
      have el_ : own_prt a_ b_ m_ = [own_by a_, own_by b_] := by unfold own_prt; rw [if_neg hc2, if_neg hc11]
      have z27 := Nat.le_trans z26 K22.1
      exact oendSR X22 hx hlk hret rfl rfl rfl (D 29 rfl) (by decide) rfl hS0 (Nat.le_trans (Nat.zero_le _) z27) hZ hEL hs0 (CHr.trans (CHr.trans (CHr.trans (CHr.trans (CHr.ext E14 H0) (CHr.wr W16 (Safe.exa hZ.alike Ex14 (by decide) (by decide)) H15)) (CHr.wr W18 (Safe.exa hZ.alike (Exa.wr W16 Ex14) (by decide) (by decide)) H17)) (CHr.ext E20 H19)) (CHr.keep K22 (allS (Safe.ext E20 H19 (Safe.new (Nat.le_of_eq g20.symm))) all0) H21)) ⟨b20, ba_22, kb_22, (own_prt a_ b_ m_), (own_pn m_), rfl, N22, ((((((Keep.refl h0 []).ext E14).wr W16 (Or.inr (Nat.le_trans (Nat.le_refl _) (Nat.le_of_eq g14.symm)))).wr W18 (Or.inr (Nat.le_trans (Nat.le_refl _) (Nat.le_of_eq g14.symm)))).ext E20).trans K22 (allS (Or.inr (Nat.le_trans z25 (Nat.le_of_eq g20.symm))) all0)), (Nat.le_trans z25 (Nat.le_of_eq g20.symm)), (Nat.lt_of_lt_of_le p22_1.lt (Nat.le_refl _)), p22_2, p22_4, p22_3, (by rw [en_, el_]; exact p22_1), ⟨rfl, rfl⟩⟩
abbrev cd23 : ByteArray := jdk_22_method_1_code
theorem D23 : own_DD cd23 [(0, .aload_n 0, 1), (1, .invokespecial 1, 3), (4, .return_, 1)] := own_dk (by decide +kernel)
theorem own_pn5 : plainName "java/util/AbstractCollection" = true := by first | (simp [plainName, overriddenIn]; done) | decide +kernel
def own_Q_abc (Z : State)  (x_ : Addr) (h0 : Heap) (n0 : Nat) (v : Option Value) (h : Heap) (L : List Loc) : Prop := (v = none) ∧ (Fr n0 L) ∧ (h = h0)
abbrev yM22 : MethodName := ⟨"java/util/AbstractCollection", "<init>", "()V"⟩
theorem rm_abc {l : Launch} {Z : State} {a0 : Array Value} (hw : own_hw a0 Z)   (x_ : Addr) {h0 : Heap} {n0 : Nat} (O0 : Old Z n0 h0)  :
    oMet l Z yM22 jdk_22_method_1_code 1 none [] (rmo 1 0 0 12) 0 0 #[(.ref x_)] h0 (own_Q_abc Z  x_ h0 n0) := by
  refine oenter (plainFor_of_name own_pn5) #[vr x_] (fun _ => rfl) ?_
  intro p e s m below meth c s₁ X0 hx hZ hby hml hret hown hnm hlk e0
  have N0 := Fr.nil n0
  have D := own_hb hby D23
  have W := own_w hw
  refine o_aloadN X0 hx (D 0 rfl) rfl rfl ?_
  obtain ⟨T1, X1, e1, st1⟩ := initO X0 hx hZ hown (W 49 rfl) (W 21 rfl) (W 22 rfl) e0 (g := (mkF m 1 #[vr x_] [(.ref x_)])) rfl (by rw [hml]; rfl) rfl (D 1 rfl) (by decide) (W := 0) (by show 2 * 0 + _ ≤ _; exact Nat.le_of_eq rfl) (by decide)
  refine ogoF st1 ?_
  exact oendV X1 hx hlk hret (D 2 rfl) (by decide) e1 ⟨rfl, N0, rfl⟩
theorem own_pd17 : parseMethodDescriptor "()V" = some ⟨[], none⟩ := by decide +kernel
abbrev cd24 : ByteArray := jdk_39_method_1_code
theorem D24 : own_DD cd24 [(0, .aload_n 0, 1), (1, .invokespecial 1, 3), (4, .aload_n 0, 1), (5, .iconst 0, 1), (6, .putfield 7, 3), (9, .return_, 1)] := own_dk (by decide +kernel)
theorem own_pn6 : plainName "java/util/AbstractList" = true := by first | (simp [plainName, overriddenIn]; done) | decide +kernel
def own_Q_abl (Z : State)  (x_ : Addr) (h0 : Heap) (n0 : Nat) (v : Option Value) (h : Heap) (L : List Loc) : Prop := (v = none) ∧ (Fr n0 L) ∧ (Keep h0 h [x_]) ∧ (Exa Z h x_ "java/util/ArrayList") ∧ (Fld Z h x_ "java/util/ArrayList" "elementData" "[Ljava/lang/Object;" .null) ∧ (Fld Z h x_ "java/util/ArrayList" "size" "I" (.int (0 : Int32))) ∧ (Fld Z h x_ "java/util/AbstractList" "modCount" "I" (.int (0 : Int32)))
abbrev yM23 : MethodName := ⟨"java/util/AbstractList", "<init>", "()V"⟩
theorem rm_abl {l : Launch} {Z : State} {a0 : Array Value} (hw : own_hw a0 Z)  {x_ : Addr}  {h0 : Heap} {n0 : Nat} (O0 : Old Z n0 h0) (pr0 : Exa Z h0 x_ "java/util/ArrayList") (pr1 : Fld Z h0 x_ "java/util/ArrayList" "elementData" "[Ljava/lang/Object;" .null) (pr2 : Fld Z h0 x_ "java/util/ArrayList" "size" "I" (.int (0 : Int32))) (pr3 : Fld Z h0 x_ "java/util/AbstractList" "modCount" "I" (.int (0 : Int32))) (pr4 : n0 ≤ x_) :
    oMet l Z yM23 jdk_39_method_1_code 1 none [] (rmo 2 0 0 24) 0 0 #[(.ref x_)] h0 (own_Q_abl Z  x_ h0 n0) := by
  refine oenter (plainFor_of_name own_pn6) #[vr x_] (fun _ => rfl) ?_
  intro p e s m below meth c s₁ X0 hx hZ hby hml hret hown hnm hlk e0
  have N0 := Fr.nil n0
  have D := own_hb hby D24
  have W := own_w hw
  refine o_aloadN X0 hx (D 0 rfl) rfl rfl <| o_cI X0 hx hZ hown (rm_abc hw x_ O0 ) rfl (W 43 rfl) (W 44 rfl) (W 47 rfl) (W 48 rfl) (by decide) e0 hml rfl [] [] own_pd17 rfl rfl 0 rfl (by decide) (D 1 rfl) fun T1 L1 v1 X1 hQ1 => ?_
  obtain ⟨rfl, Nq1, q1⟩ := hQ1
  have N1 := Fr.app N0 Nq1
  refine o_aloadN X1 hx (D 2 rfl) rfl rfl <| o_iconst X1 hx 0 (D 3 rfl) rfl ?_
  obtain ⟨T2, _, X2, rfl, W2, st2⟩ := putF X1 hx hZ hown (host := "") (Or.inl (W 50 rfl)) Via.refl q1 pr3 pr0 (Or.inl (W 51 rfl)) (W 32 rfl) (ty := .int) (by decide) rfl rfl (g := (mkF m 6 #[vr x_] [(.int (0 : Int32)), (.ref x_)])) rfl rfl (D 4 rfl)
  have N2 := Fr.snoc X2 N1 pr4
  have F2 := Fld.same W2 pr3
  refine ogoF st2 ?_
  have c3 := (Fld.other W2 pr1 (Or.inr (slot_ne (Or.inl (W 54 rfl)) (Or.inl (W 51 rfl)) (by decide) (t := (.array (.object "java/lang/Object"))) (t' := .int) (by decide) (by decide))))
  have c4 := (Fld.other W2 pr2 (Or.inr (slot_ne (Or.inl (W 66 rfl)) (Or.inl (W 51 rfl)) (by decide) (t := .int) (t' := .int) (by decide) (by decide))))
  exact oendV X2 hx hlk hret (D 5 rfl) (by decide) rfl ⟨rfl, N2, ((Keep.refl h0 [x_]).wr W2 (Or.inl (List.mem_of_getElem? (i := 0) rfl))), (Exa.wr W2 pr0), c3, c4, F2⟩
abbrev cd25 : ByteArray := jdk_38_method_2_code
theorem D25 : own_DD cd25 [(0, .aload_n 0, 1), (1, .invokespecial 1, 3), (4, .aload_n 0, 1), (5, .getstatic 39, 3), (8, .putfield 9, 3), (11, .return_, 1)] := own_dk (by decide +kernel)
theorem own_pn7 : plainName "java/util/ArrayList" = true := by first | (simp [plainName, overriddenIn]; done) | decide +kernel
def own_Q_ali (Z : State) (z_CS : Int32) (v_FMT : Value) (s_DC : Addr) (k_DC : ClassId) (v_IO : Value) (x_ : Addr) (h0 : Heap) (n0 : Nat) (v : Option Value) (h : Heap) (L : List Loc) : Prop := (v = none) ∧ (Fr n0 L) ∧ (Keep h0 h [x_]) ∧ (Exa Z h x_ "java/util/ArrayList") ∧ (Fld Z h x_ "java/util/ArrayList" "elementData" "[Ljava/lang/Object;" (.ref s_DC)) ∧ (Fld Z h x_ "java/util/ArrayList" "size" "I" (.int (0 : Int32))) ∧ (Fld Z h x_ "java/util/AbstractList" "modCount" "I" (.int (0 : Int32)))
abbrev yM24 : MethodName := ⟨"java/util/ArrayList", "<init>", "()V"⟩
theorem rm_ali {l : Launch} {Z : State} {a0 : Array Value} (hw : own_hw a0 Z) {z_CS : Int32} {v_FMT : Value} {s_DC : Addr} {k_DC : ClassId} {v_IO : Value} {x_ : Addr}  {h0 : Heap} {n0 : Nat} (SB : own_Start Z z_CS v_FMT s_DC k_DC v_IO) (O0 : Old Z n0 h0) (pr0 : Exa Z h0 x_ "java/util/ArrayList") (pr1 : Fld Z h0 x_ "java/util/ArrayList" "elementData" "[Ljava/lang/Object;" .null) (pr2 : Fld Z h0 x_ "java/util/ArrayList" "size" "I" (.int (0 : Int32))) (pr3 : Fld Z h0 x_ "java/util/AbstractList" "modCount" "I" (.int (0 : Int32))) (pr4 : n0 ≤ x_) :
    oMet l Z yM24 jdk_38_method_2_code 1 none [] (rmo 3 0 0 36) 0 0 #[(.ref x_)] h0 (own_Q_ali Z z_CS v_FMT s_DC k_DC v_IO x_ h0 n0) := by
  refine oenter (plainFor_of_name own_pn7) #[vr x_] (fun _ => rfl) ?_
  intro p e s m below meth c s₁ X0 hx hZ hby hml hret hown hnm hlk e0
  have N0 := Fr.nil n0
  have D := own_hb hby D25
  obtain ⟨-, -, -, -, -, S_DC, -⟩ := (id SB)
  have W := own_w hw
  refine o_aloadN X0 hx (D 0 rfl) rfl rfl <| o_cI X0 hx hZ hown (rm_abl hw  O0 pr0 pr1 pr2 pr3 pr4) rfl (W 37 rfl) (W 38 rfl) (W 41 rfl) (W 42 rfl) (by decide) e0 hml rfl [] [] own_pd17 rfl rfl 0 rfl (by decide) (D 1 rfl) fun T1 L1 v1 X1 hQ1 => ?_
  obtain ⟨rfl, Nq1, K1, p1_0, p1_1, p1_2, p1_3⟩ := hQ1
  have N1 := Fr.app N0 Nq1
  refine o_aloadN X1 hx (D 2 rfl) rfl rfl <| o_getS X1 hx hZ hown (host := "") (Or.inl (W 52 rfl)) Via.refl rfl (Sta.ext (O0.keep K1 (allS pr4 all0)).2 S_DC) (D 3 rfl) fun T2 X2 e2 => ?_
  obtain ⟨T3, _, X3, rfl, W3, st3⟩ := putF X2 hx hZ hown (host := "") (Or.inl (W 53 rfl)) Via.refl e2 p1_1 p1_0 (Or.inl (W 54 rfl)) (W 32 rfl) (ty := (.array (.object "java/lang/Object"))) (by decide) rfl rfl (g := (mkF m 8 #[vr x_] [(.ref s_DC), (.ref x_)])) rfl rfl (D 4 rfl)
  have N3 := Fr.snoc X3 N1 pr4
  have F3 := Fld.same W3 p1_1
  refine ogoF st3 ?_
  have c4 := (Fld.other W3 p1_2 (Or.inr (slot_ne (Or.inl (W 66 rfl)) (Or.inl (W 54 rfl)) (by decide) (t := .int) (t' := (.array (.object "java/lang/Object"))) (by decide) (by decide))))
  have c5 := (Fld.other W3 p1_3 (Or.inr (slot_ne (Or.inl (W 51 rfl)) (Or.inl (W 54 rfl)) (by decide) (t := .int) (t' := (.array (.object "java/lang/Object"))) (by decide) (by decide))))
  exact oendV X3 hx hlk hret (D 5 rfl) (by decide) rfl ⟨rfl, N3, (((Keep.refl h0 [x_]).trans K1 (allS (Or.inl (List.mem_of_getElem? (i := 0) rfl)) all0)).wr W3 (Or.inl (List.mem_of_getElem? (i := 0) rfl))), (Exa.wr W3 p1_0), F3, c4, c5⟩
abbrev cd26 : ByteArray := jdk_29_method_65_code
theorem D26 : own_DD cd26 [(0, .iload_n 0, 1), (1, .iload_n 1, 1), (2, .if_icmp .lt 7, 3), (5, .iload_n 0, 1), (6, .goto 4, 3), (10, .ireturn, 1), (9, .iload_n 1, 1)] := own_dk (by decide +kernel)
def own_Q_mx10 (Z : State)   (h0 : Heap) (n0 : Nat) (v : Option Value) (h : Heap) (L : List Loc) : Prop := (v = some (.int (10 : Int32))) ∧ (Fr n0 L) ∧ (h = h0)
abbrev yM25 : MethodName := ⟨"java/lang/Math", "max", "(II)I"⟩
theorem rm_mx10 {l : Launch} {Z : State} {a0 : Array Value} (hw : own_hw a0 Z)    {h0 : Heap} {n0 : Nat} (O0 : Old Z n0 h0)  :
    oMet l Z yM25 jdk_29_method_65_code 2 (some .int) [] (rmo 0 0 0 0) 0 0 #[(.int (10 : Int32)), (.int (1 : Int32))] h0 (own_Q_mx10 Z   h0 n0) := by
  refine oenter (by decide +kernel) #[vi (10 : Int32), vi (1 : Int32)] (fun _ => rfl) ?_
  intro p e s m below meth c s₁ X0 hx hZ hby hml hret hown hnm hlk e0
  have N0 := Fr.nil n0
  have D := own_hb hby D26
  have W := own_w hw
  refine o_iloadN X0 hx (D 0 rfl) rfl <| o_iloadN X0 hx (D 1 rfl) rfl <| o_icmpNo X0 hx (D 2 rfl) (flt (by decide : ¬ ((10 : Int32) < (1 : Int32)))).1 <| o_iloadN X0 hx (D 3 rfl) rfl <| o_goto X0 hx 10 (D 4 rfl) rfl ?_
  exact oendI X0 hx hlk hret (D 5 rfl) (by decide) e0 ⟨rfl, N0, rfl⟩
theorem own_pd18 : parseMethodDescriptor "(II)I" = some ⟨[.int, .int], some .int⟩ := by decide +kernel
abbrev cd27 : ByteArray := jdk_38_method_6_code
theorem D27 : own_DD cd27 [(0, .aload_n 0, 1), (1, .getfield 9, 3), (4, .arraylength, 1), (5, .istore_n 2, 1), (6, .iload_n 2, 1), (7, .ifCond .gt 13, 3), (10, .aload_n 0, 1), (11, .getfield 9, 3), (14, .getstatic 39, 3), (17, .if_acmp .eq 28, 3), (45, .aload_n 0, 1), (46, .bipush 10, 2), (48, .iload_n 1, 1), (49, .invokestatic 79, 3), (52, .anewarray 7, 3), (55, .dup_x1, 1), (56, .putfield 9, 3), (59, .areturn, 1)] := own_dk (by decide +kernel)
def own_Q_gr1 (Z : State) (z_CS : Int32) (v_FMT : Value) (s_DC : Addr) (k_DC : ClassId) (v_IO : Value) (x_ : Addr) (mc_ : Int32) (h0 : Heap) (n0 : Nat) (v : Option Value) (h : Heap) (L : List Loc) : Prop := ∃ d_ : Addr, ∃ kd_ : ClassId, (v = some (.ref d_)) ∧ (Fr n0 L) ∧ (Keep h0 h [x_]) ∧ (h0.size ≤ d_) ∧ (Exa Z h x_ "java/util/ArrayList") ∧ (Fld Z h x_ "java/util/ArrayList" "elementData" "[Ljava/lang/Object;" (.ref d_)) ∧ (Fld Z h x_ "java/util/ArrayList" "size" "I" (.int (0 : Int32))) ∧ (Fld Z h x_ "java/util/AbstractList" "modCount" "I" (.int mc_)) ∧ (Arv Z h d_ kd_ (.object "java/lang/Object") (10 : Int32) [.null, .null, .null, .null, .null, .null, .null, .null, .null, .null] .null) ∧ (Exa Z h d_ "[Ljava/lang/Object;") ∧ (Ovr Z kd_ "java/lang/Object")
abbrev yM26 : MethodName := ⟨"java/util/ArrayList", "grow", "(I)[Ljava/lang/Object;"⟩
theorem rm_gr1 {l : Launch} {Z : State} {a0 : Array Value} (hw : own_hw a0 Z) {z_CS : Int32} {v_FMT : Value} {s_DC : Addr} {k_DC : ClassId} {v_IO : Value} {x_ : Addr} {mc_ : Int32}  {h0 : Heap} {n0 : Nat} (SB : own_Start Z z_CS v_FMT s_DC k_DC v_IO) (O0 : Old Z n0 h0) (pr0 : Exa Z h0 x_ "java/util/ArrayList") (pr1 : Fld Z h0 x_ "java/util/ArrayList" "elementData" "[Ljava/lang/Object;" (.ref s_DC)) (pr2 : Fld Z h0 x_ "java/util/ArrayList" "size" "I" (.int (0 : Int32))) (pr3 : Fld Z h0 x_ "java/util/AbstractList" "modCount" "I" (.int mc_)) (pr4 : n0 ≤ x_) :
    oMet l Z yM26 jdk_38_method_6_code 4 (some (.array (.object "java/lang/Object"))) [] (rmo 1 1 10 14) 1 10 #[(.ref x_), (.int (1 : Int32))] h0 (own_Q_gr1 Z z_CS v_FMT s_DC k_DC v_IO x_ mc_ h0 n0) := by
  refine oenter (plainFor_of_name own_pn7) #[vr x_, vi (1 : Int32), .unset, .unset] (fun _ => rfl) ?_
  intro p e s m below meth c s₁ X0 hx hZ hby hml hret hown hnm hlk e0
  have N0 := Fr.nil n0
  have D := own_hb hby D27
  obtain ⟨-, -, -, -, -, S_DC, -, V_DC, -⟩ := (id SB)
  have W := own_w hw
  refine o_aloadN X0 hx (D 0 rfl) rfl rfl <| o_getF X0 hx hZ hown (host := "") (Or.inl (W 53 rfl)) Via.refl e0 pr1 (D 1 rfl) fun T1 X1 e1 => o_alen X1 hx hZ e1 (V_DC.ext O0.2) (D 2 rfl) <| o_istoreN X1 hx (l' := #[vr x_, vi (1 : Int32), vi (0 : Int32), .unset]) (D 3 rfl) rfl <| o_iloadN X1 hx (D 4 rfl) rfl <| o_ifNo X1 hx (D 5 rfl) (flt (by decide : ¬ ((0 : Int32) < (0 : Int32)))).2.2.1 <| o_aloadN X1 hx (D 6 rfl) rfl rfl <| o_getF X1 hx hZ hown (host := "") (Or.inl (W 53 rfl)) Via.refl e1 pr1 (D 7 rfl) fun T2 X2 e2 => o_getS X2 hx hZ hown (host := "") (Or.inl (W 52 rfl)) Via.refl e2 (Sta.ext O0.2 S_DC) (D 8 rfl) fun T3 X3 e3 => o_acmp X3 hx 45 true rfl rfl (D 9 rfl) (decide_eq_true rfl) (by decide) (by decide) <| o_aloadN X3 hx (D 10 rfl) rfl rfl <| o_bipush X3 hx 10 (D 11 rfl) rfl <| o_iloadN X3 hx (D 12 rfl) rfl <| o_cS X3 hx hZ hown (rm_mx10 hw  O0 ) (W 82 rfl) (W 83 rfl) (W 84 rfl) (W 85 rfl) (by decide) e3 hml rfl [(.int (10 : Int32)), (.int (1 : Int32))] [(.ref x_)] own_pd18 rfl rfl 1 rfl (by decide) (D 13 rfl) fun T4 L4 v4 X4 hQ4 => ?_
  obtain ⟨rfl, Nq4, q4⟩ := hQ4
  have N4 := Fr.app N0 Nq4
  obtain ⟨T5, _, k5, X5, rfl, E5, A5, Ex5, Ov5, st5⟩ := newRE X4 hx hZ hown (W 86 rfl) (W 87 rfl) q4 (g := (mkF m 52 #[vr x_, vi (1 : Int32), vi (0 : Int32), .unset] [(.int (10 : Int32)), (.ref x_)])) rfl (D 14 rfl) rfl (by decide) (cap := 10) (by decide) (by decide) (by decide) (by decide) (ad := "[Ljava/lang/Object;") (by decide)
  obtain ⟨b5, g5⟩ : ∃ z, z = h0.size := ⟨_, rfl⟩
  rw [← g5] at A5 Ex5 st5
  have n0_b5 := own_on O0 g5
  have V5 : Arv Z T5.heap b5 k5 (.object "java/lang/Object") (10 : Int32) [.null, .null, .null, .null, .null, .null, .null, .null, .null, .null] .null := (Arv.new A5 (by decide)).pad (pad_rep [] .null 10)
  refine ogoF st5 <| o_dup_x1 X5 hx (D 15 rfl) rfl rfl ?_
  obtain ⟨T6, _, X6, rfl, W6, st6⟩ := putF X5 hx hZ hown (host := "") (Or.inl (W 53 rfl)) Via.refl rfl (Fld.ext E5 pr1) (Exa.ext E5 pr0) (Or.inl (W 54 rfl)) (W 32 rfl) (ty := (.array (.object "java/lang/Object"))) (by decide) rfl rfl (g := (mkF m 56 #[vr x_, vi (1 : Int32), vi (0 : Int32), .unset] [(.ref b5), (.ref x_), (.ref b5)])) rfl rfl (D 16 rfl)
  have N6 := Fr.snoc X6 N4 pr4
  have F6 := Fld.same W6 (Fld.ext E5 pr1)
  refine ogoF st6 ?_
  have c7 := (Fld.other W6 (Fld.ext E5 pr2) (Or.inr (slot_ne (Or.inl (W 66 rfl)) (Or.inl (W 54 rfl)) (by decide) (t := .int) (t' := (.array (.object "java/lang/Object"))) (by decide) (by decide))))
  have c8 := (Fld.other W6 (Fld.ext E5 pr3) (Or.inr (slot_ne (Or.inl (W 51 rfl)) (Or.inl (W 54 rfl)) (by decide) (t := .int) (t' := (.array (.object "java/lang/Object"))) (by decide) (by decide))))
  have y9 : b5 ≠ x_ := (Nat.ne_of_gt (Nat.lt_of_lt_of_le (Nat.lt_of_lt_of_le pr0.lt (Nat.le_refl _)) (Nat.le_of_eq g5.symm)))
  exact oendR X6 hx hlk hret rfl rfl rfl (D 17 rfl) (by decide) rfl ⟨b5, k5, rfl, N6, (((Keep.refl h0 [x_]).ext E5).wr W6 (Or.inl (List.mem_of_getElem? (i := 0) rfl))), (Nat.le_trans (Nat.le_refl _) (Nat.le_of_eq g5.symm)), (Exa.wr W6 (Exa.ext E5 pr0)), F6, c7, c8, (V5.other W6 y9), (Exa.wr W6 Ex5), (by first | assumption | omega)⟩
theorem own_pd19 : parseMethodDescriptor "(I)[Ljava/lang/Object;" = some ⟨[.int], some (.array (.object "java/lang/Object"))⟩ := by decide +kernel
abbrev cd28 : ByteArray := jdk_38_method_7_code
theorem D28 : own_DD cd28 [(0, .aload_n 0, 1), (1, .aload_n 0, 1), (2, .getfield 48, 3), (5, .iconst 1, 1), (6, .iadd, 1), (7, .invokevirtual 69, 3), (10, .areturn, 1)] := own_dk (by decide +kernel)
def own_Q_gr0 (Z : State) (z_CS : Int32) (v_FMT : Value) (s_DC : Addr) (k_DC : ClassId) (v_IO : Value) (x_ : Addr) (mc_ : Int32) (h0 : Heap) (n0 : Nat) (v : Option Value) (h : Heap) (L : List Loc) : Prop := ∃ d_ : Addr, ∃ kd_ : ClassId, (v = some (.ref d_)) ∧ (Fr n0 L) ∧ (Keep h0 h [x_]) ∧ (h0.size ≤ d_) ∧ (Exa Z h x_ "java/util/ArrayList") ∧ (Fld Z h x_ "java/util/ArrayList" "elementData" "[Ljava/lang/Object;" (.ref d_)) ∧ (Fld Z h x_ "java/util/ArrayList" "size" "I" (.int (0 : Int32))) ∧ (Fld Z h x_ "java/util/AbstractList" "modCount" "I" (.int mc_)) ∧ (Arv Z h d_ kd_ (.object "java/lang/Object") (10 : Int32) [.null, .null, .null, .null, .null, .null, .null, .null, .null, .null] .null) ∧ (Exa Z h d_ "[Ljava/lang/Object;") ∧ (Ovr Z kd_ "java/lang/Object")
abbrev yM27 : MethodName := ⟨"java/util/ArrayList", "grow", "()[Ljava/lang/Object;"⟩
theorem rm_gr0 {l : Launch} {Z : State} {a0 : Array Value} (hw : own_hw a0 Z) {z_CS : Int32} {v_FMT : Value} {s_DC : Addr} {k_DC : ClassId} {v_IO : Value} {x_ : Addr} {mc_ : Int32}  {h0 : Heap} {n0 : Nat} (SB : own_Start Z z_CS v_FMT s_DC k_DC v_IO) (O0 : Old Z n0 h0) (pr0 : Exa Z h0 x_ "java/util/ArrayList") (pr1 : Fld Z h0 x_ "java/util/ArrayList" "elementData" "[Ljava/lang/Object;" (.ref s_DC)) (pr2 : Fld Z h0 x_ "java/util/ArrayList" "size" "I" (.int (0 : Int32))) (pr3 : Fld Z h0 x_ "java/util/AbstractList" "modCount" "I" (.int mc_)) (pr4 : n0 ≤ x_) :
    oMet l Z yM27 jdk_38_method_7_code 1 (some (.array (.object "java/lang/Object"))) [] (rmo 2 1 10 29) 1 10 #[(.ref x_)] h0 (own_Q_gr0 Z z_CS v_FMT s_DC k_DC v_IO x_ mc_ h0 n0) := by
  refine oenter (plainFor_of_name own_pn7) #[vr x_] (fun _ => rfl) ?_
  intro p e s m below meth c s₁ X0 hx hZ hby hml hret hown hnm hlk e0
  have N0 := Fr.nil n0
  have D := own_hb hby D28
  have W := own_w hw
  refine o_aloadN X0 hx (D 0 rfl) rfl rfl <| o_aloadN X0 hx (D 1 rfl) rfl rfl <| o_getF X0 hx hZ hown (host := "") (Or.inl (W 65 rfl)) Via.refl e0 pr2 (D 2 rfl) fun T1 X1 e1 => o_iconst X1 hx 1 (D 3 rfl) rfl <| o_iadd X1 hx (D 4 rfl) <| o_cP X1 hx hZ hown (rm_gr1 hw  SB O0 pr0 pr1 pr2 pr3 pr4) (W 77 rfl) (W 78 rfl) (W 80 rfl) (W 79 rfl) (W 33 rfl) (W 81 rfl) (by decide) e1 pr0 hml rfl [(.int (1 : Int32))] [] own_pd19 rfl rfl 0 rfl (by decide) (D 5 rfl) fun T2 L2 v2 X2 hQ2 => ?_
  obtain ⟨d_2, kd_2, rfl, Nq2, K2, p2_0, p2_1, p2_2, p2_3, p2_4, p2_5, p2_6, p2_7⟩ := hQ2
  have N2 := Fr.app N0 Nq2
  have n0_d_2 := own_og O0 (Nat.le_trans (Nat.le_refl _) p2_0)
  exact oendR X2 hx hlk hret rfl rfl rfl (D 6 rfl) (by decide) rfl ⟨d_2, kd_2, rfl, N2, ((Keep.refl h0 [x_]).trans K2 (allS (Or.inl (List.mem_of_getElem? (i := 0) rfl)) all0)), (Nat.le_trans (Nat.le_refl _) p2_0), p2_1, p2_2, p2_3, p2_4, p2_5, p2_6, (by first | assumption | omega)⟩
theorem own_pd20 : parseMethodDescriptor "()[Ljava/lang/Object;" = some ⟨[], some (.array (.object "java/lang/Object"))⟩ := by decide +kernel
abbrev cd29 : ByteArray := jdk_38_method_24_code
theorem D29 : own_DD cd29 [(0, .iload_n 3, 1), (1, .aload_n 2, 1), (2, .arraylength, 1), (3, .if_icmp .ne 8, 3), (6, .aload_n 0, 1), (7, .invokevirtual 129, 3), (10, .astore_n 2, 1), (11, .aload_n 2, 1), (12, .iload_n 3, 1), (13, .aload_n 1, 1), (14, .aastore, 1), (15, .aload_n 0, 1), (16, .iload_n 3, 1), (17, .iconst 1, 1), (18, .iadd, 1), (19, .putfield 48, 3), (22, .return_, 1)] := own_dk (by decide +kernel)
def own_Q_a30 (Z : State) (z_CS : Int32) (v_FMT : Value) (s_DC : Addr) (k_DC : ClassId) (v_IO : Value) (x_ e_ : Addr) (mc_ : Int32) (h0 : Heap) (n0 : Nat) (v : Option Value) (h : Heap) (L : List Loc) : Prop := ∃ d_ : Addr, ∃ kd_ : ClassId, (v = none) ∧ (Fr n0 L) ∧ (Keep h0 h [x_]) ∧ (h0.size ≤ d_) ∧ (Exa Z h x_ "java/util/ArrayList") ∧ (Fld Z h x_ "java/util/ArrayList" "elementData" "[Ljava/lang/Object;" (.ref d_)) ∧ (Fld Z h x_ "java/util/ArrayList" "size" "I" (.int (1 : Int32))) ∧ (Fld Z h x_ "java/util/AbstractList" "modCount" "I" (.int mc_)) ∧ (Arv Z h d_ kd_ (.object "java/lang/Object") (10 : Int32) [(.ref e_), .null, .null, .null, .null, .null, .null, .null, .null, .null] .null) ∧ (Exa Z h d_ "[Ljava/lang/Object;") ∧ (Ovr Z kd_ "java/lang/Object")
abbrev yM28 : MethodName := ⟨"java/util/ArrayList", "add", "(Ljava/lang/Object;[Ljava/lang/Object;I)V"⟩
theorem rm_a30 {l : Launch} {Z : State} {a0 : Array Value} (hw : own_hw a0 Z) {z_CS : Int32} {v_FMT : Value} {s_DC : Addr} {k_DC : ClassId} {v_IO : Value} {x_ e_ : Addr} {mc_ : Int32}  {h0 : Heap} {n0 : Nat} (SB : own_Start Z z_CS v_FMT s_DC k_DC v_IO) (O0 : Old Z n0 h0) (pr0 : Exa Z h0 x_ "java/util/ArrayList") (pr1 : Fld Z h0 x_ "java/util/ArrayList" "elementData" "[Ljava/lang/Object;" (.ref s_DC)) (pr2 : Fld Z h0 x_ "java/util/ArrayList" "size" "I" (.int (0 : Int32))) (pr3 : Fld Z h0 x_ "java/util/AbstractList" "modCount" "I" (.int mc_)) (pr4 : n0 ≤ x_) (pr5 : Exa Z h0 e_ "java/lang/String") :
    oMet l Z yM28 jdk_38_method_24_code 4 none [] (rmo 3 1 10 41) 1 10 #[(.ref x_), (.ref e_), (.ref s_DC), (.int (0 : Int32))] h0 (own_Q_a30 Z z_CS v_FMT s_DC k_DC v_IO x_ e_ mc_ h0 n0) := by
  refine oenter (plainFor_of_name own_pn7) #[vr x_, vr e_, vr s_DC, vi (0 : Int32)] (fun _ => rfl) ?_
  intro p e s m below meth c s₁ X0 hx hZ hby hml hret hown hnm hlk e0
  have N0 := Fr.nil n0
  have D := own_hb hby D29
  obtain ⟨-, -, -, -, -, -, -, V_DC, -⟩ := (id SB)
  have W := own_w hw
  refine o_iloadN X0 hx (D 0 rfl) rfl <| o_aloadN X0 hx (D 1 rfl) rfl rfl <| o_alen X0 hx hZ e0 (V_DC.ext O0.2) (D 2 rfl) <| o_icmpNo X0 hx (D 3 rfl) (teq (by decide : (0 : Int32) = (0 : Int32))).2 <| o_aloadN X0 hx (D 4 rfl) rfl rfl <| o_cP X0 hx hZ hown (rm_gr0 hw  SB O0 pr0 pr1 pr2 pr3 pr4) (W 72 rfl) (W 73 rfl) (W 75 rfl) (W 74 rfl) (W 33 rfl) (W 76 rfl) (by decide) e0 pr0 hml rfl [] [] own_pd20 rfl rfl 0 rfl (by decide) (D 5 rfl) fun T1 L1 v1 X1 hQ1 => ?_
  obtain ⟨d_1, kd_1, rfl, Nq1, K1, p1_0, p1_1, p1_2, p1_3, p1_4, p1_5, p1_6, p1_7⟩ := hQ1
  have N1 := Fr.app N0 Nq1
  have n0_d_1 := own_og O0 (Nat.le_trans (Nat.le_refl _) p1_0)
  refine o_astoreN X1 hx (l' := #[vr x_, vr e_, vr d_1, vi (0 : Int32)]) (D 6 rfl) rfl rfl <| o_aloadN X1 hx (D 7 rfl) rfl rfl <| o_iloadN X1 hx (D 8 rfl) rfl <| o_aloadN X1 hx (D 9 rfl) rfl rfl ?_
  obtain ⟨cl2, Ar2, q2, S2, N2z, H2, G2⟩ := (id p1_5)
  obtain ⟨T2, _, X2, rfl, W2, st2⟩ := stR X1 hx hZ rfl Ar2 (j := (0 : Int32)) (inb_of S2 ⟨by decide, by decide⟩) rfl (Sto.ofV Ar2 q2 p1_7 (Ins.of_exa (pr5.keep K1) (W 88 rfl))) (g := (mkF m 14 #[vr x_, vr e_, vr d_1, vi (0 : Int32)] [(.ref e_), (.int (0 : Int32)), (.ref d_1)])) rfl rfl (D 10 rfl)
  have V2 : Arv Z T2.heap d_1 kd_1 (.object "java/lang/Object") (10 : Int32) [(.ref e_), .null, .null, .null, .null, .null, .null, .null, .null, .null] .null := Arv.set Ar2 q2 S2 N2z H2 G2 rfl W2 0 rfl (Nat.le_of_ble_eq_true rfl)
  have N2 := Fr.snoc X2 N1 n0_d_1
  refine ogoF st2 <| o_aloadN X2 hx (D 11 rfl) rfl rfl <| o_iloadN X2 hx (D 12 rfl) rfl <| o_iconst X2 hx 1 (D 13 rfl) rfl <| o_iadd X2 hx (D 14 rfl) ?_
  have y4 : x_ ≠ d_1 := (Nat.ne_of_lt (Nat.lt_of_lt_of_le (Nat.lt_of_lt_of_le pr0.lt (Nat.le_refl _)) p1_0))
  obtain ⟨T3, _, X3, rfl, W3, st3⟩ := putF X2 hx hZ hown (host := "") (Or.inl (W 65 rfl)) Via.refl rfl (Fld.other W2 p1_3 (Or.inl y4)) (Exa.wr W2 p1_1) (Or.inl (W 66 rfl)) (W 32 rfl) (ty := .int) (by decide) rfl rfl (g := (mkF m 19 #[vr x_, vr e_, vr d_1, vi (0 : Int32)] [(.int (1 : Int32)), (.ref x_)])) rfl rfl (D 15 rfl)
  have N3 := Fr.snoc X3 N2 pr4
  have F3 := Fld.same W3 (Fld.other W2 p1_3 (Or.inl y4))
  refine ogoF st3 ?_
  have c5 := (Fld.other W3 (Fld.other W2 p1_2 (Or.inl y4)) (Or.inr (slot_ne (Or.inl (W 54 rfl)) (Or.inl (W 66 rfl)) (by decide) (t := (.array (.object "java/lang/Object"))) (t' := .int) (by decide) (by decide))))
  have c6 := (Fld.other W3 (Fld.other W2 p1_4 (Or.inl y4)) (Or.inr (slot_ne (Or.inl (W 51 rfl)) (Or.inl (W 66 rfl)) (by decide) (t := .int) (t' := .int) (by decide) (by decide))))
  exact oendV X3 hx hlk hret (D 16 rfl) (by decide) rfl ⟨d_1, kd_1, rfl, N3, ((((Keep.refl h0 [x_]).trans K1 (allS (Or.inl (List.mem_of_getElem? (i := 0) rfl)) all0)).wr W2 (Or.inr (Nat.le_trans (Nat.le_refl _) p1_0))).wr W3 (Or.inl (List.mem_of_getElem? (i := 0) rfl))), (Nat.le_trans (Nat.le_refl _) p1_0), (Exa.wr W3 (Exa.wr W2 p1_1)), c5, F3, c6, (V2.other W3 (Ne.symm y4)), (Exa.wr W3 (Exa.wr W2 p1_6)), (by first | assumption | omega)⟩
def own_Q_a31 (Z : State)  (x_ e_ d_ : Addr) (kd_ : ClassId) (p_ : Addr) (mc_ : Int32) (h0 : Heap) (n0 : Nat) (v : Option Value) (h : Heap) (L : List Loc) : Prop := (v = none) ∧ (Fr n0 L) ∧ (Keep h0 h [x_, d_]) ∧ (Exa Z h x_ "java/util/ArrayList") ∧ (Fld Z h x_ "java/util/ArrayList" "elementData" "[Ljava/lang/Object;" (.ref d_)) ∧ (Fld Z h x_ "java/util/ArrayList" "size" "I" (.int (2 : Int32))) ∧ (Fld Z h x_ "java/util/AbstractList" "modCount" "I" (.int mc_)) ∧ (Arv Z h d_ kd_ (.object "java/lang/Object") (10 : Int32) [(.ref p_), (.ref e_), .null, .null, .null, .null, .null, .null, .null, .null] .null) ∧ (Exa Z h d_ "[Ljava/lang/Object;")
theorem rm_a31 {l : Launch} {Z : State} {a0 : Array Value} (hw : own_hw a0 Z)  {x_ e_ d_ : Addr} {kd_ : ClassId} {p_ : Addr} {mc_ : Int32}  {h0 : Heap} {n0 : Nat} (O0 : Old Z n0 h0) (pr0 : Exa Z h0 x_ "java/util/ArrayList") (pr1 : Fld Z h0 x_ "java/util/ArrayList" "elementData" "[Ljava/lang/Object;" (.ref d_)) (pr2 : Fld Z h0 x_ "java/util/ArrayList" "size" "I" (.int (1 : Int32))) (pr3 : Fld Z h0 x_ "java/util/AbstractList" "modCount" "I" (.int mc_)) (pr4 : n0 ≤ x_) (pr5 : n0 ≤ d_) (pr6 : Exa Z h0 e_ "java/lang/String") (pr7 : Arv Z h0 d_ kd_ (.object "java/lang/Object") (10 : Int32) [(.ref p_), .null, .null, .null, .null, .null, .null, .null, .null, .null] .null) (pr8 : Exa Z h0 d_ "[Ljava/lang/Object;") (pr9 : Ovr Z kd_ "java/lang/Object") :
    oMet l Z yM28 jdk_38_method_24_code 4 none [] (rmo 0 0 0 0) 0 0 #[(.ref x_), (.ref e_), (.ref d_), (.int (1 : Int32))] h0 (own_Q_a31 Z  x_ e_ d_ kd_ p_ mc_ h0 n0) := by
  refine oenter (plainFor_of_name own_pn7) #[vr x_, vr e_, vr d_, vi (1 : Int32)] (fun _ => rfl) ?_
  intro p e s m below meth c s₁ X0 hx hZ hby hml hret hown hnm hlk e0
  have N0 := Fr.nil n0
  have D := own_hb hby D29
  have W := own_w hw
  refine o_iloadN X0 hx (D 0 rfl) rfl <| o_aloadN X0 hx (D 1 rfl) rfl rfl <| o_alen X0 hx hZ e0 pr7 (D 2 rfl) <| o_icmpYes X0 hx 11 (D 3 rfl) (feq (by decide : ¬ ((1 : Int32) = (10 : Int32)))).2 rfl <| o_aloadN X0 hx (D 7 rfl) rfl rfl <| o_iloadN X0 hx (D 8 rfl) rfl <| o_aloadN X0 hx (D 9 rfl) rfl rfl ?_
  obtain ⟨cl1, Ar1, q1, S1, N1z, H1, G1⟩ := (id pr7)
  obtain ⟨T1, _, X1, rfl, W1, st1⟩ := stR X0 hx hZ e0 Ar1 (j := (1 : Int32)) (inb_of S1 ⟨by decide, by decide⟩) rfl (Sto.ofV Ar1 q1 pr9 (Ins.of_exa pr6 (W 88 rfl))) (g := (mkF m 14 #[vr x_, vr e_, vr d_, vi (1 : Int32)] [(.ref e_), (.int (1 : Int32)), (.ref d_)])) rfl rfl (D 10 rfl)
  have V1 : Arv Z T1.heap d_ kd_ (.object "java/lang/Object") (10 : Int32) [(.ref p_), (.ref e_), .null, .null, .null, .null, .null, .null, .null, .null] .null := Arv.set Ar1 q1 S1 N1z H1 G1 rfl W1 1 rfl (Nat.le_of_ble_eq_true rfl)
  have N1 := Fr.snoc X1 N0 pr5
  refine ogoF st1 <| o_aloadN X1 hx (D 11 rfl) rfl rfl <| o_iloadN X1 hx (D 12 rfl) rfl <| o_iconst X1 hx 1 (D 13 rfl) rfl <| o_iadd X1 hx (D 14 rfl) ?_
  have y3 : x_ ≠ d_ := (ne_exa (Exa.wr W1 pr0) (Exa.wr W1 pr8) (by decide))
  obtain ⟨T2, _, X2, rfl, W2, st2⟩ := putF X1 hx hZ hown (host := "") (Or.inl (W 65 rfl)) Via.refl rfl (Fld.other W1 pr2 (Or.inl y3)) (Exa.wr W1 pr0) (Or.inl (W 66 rfl)) (W 32 rfl) (ty := .int) (by decide) rfl rfl (g := (mkF m 19 #[vr x_, vr e_, vr d_, vi (1 : Int32)] [(.int (2 : Int32)), (.ref x_)])) rfl rfl (D 15 rfl)
  have N2 := Fr.snoc X2 N1 pr4
  have F2 := Fld.same W2 (Fld.other W1 pr2 (Or.inl y3))
  refine ogoF st2 ?_
  have c4 := (Fld.other W2 (Fld.other W1 pr1 (Or.inl y3)) (Or.inr (slot_ne (Or.inl (W 54 rfl)) (Or.inl (W 66 rfl)) (by decide) (t := (.array (.object "java/lang/Object"))) (t' := .int) (by decide) (by decide))))
  have c5 := (Fld.other W2 (Fld.other W1 pr3 (Or.inl y3)) (Or.inr (slot_ne (Or.inl (W 51 rfl)) (Or.inl (W 66 rfl)) (by decide) (t := .int) (t' := .int) (by decide) (by decide))))
  exact oendV X2 hx hlk hret (D 16 rfl) (by decide) rfl ⟨rfl, N2, (((Keep.refl h0 [x_, d_]).wr W1 (Or.inl (List.mem_of_getElem? (i := 1) rfl))).wr W2 (Or.inl (List.mem_of_getElem? (i := 0) rfl))), (Exa.wr W2 (Exa.wr W1 pr0)), c4, F2, c5, (V1.other W2 (Ne.symm y3)), (Exa.wr W2 (Exa.wr W1 pr8))⟩
theorem own_pd21 : parseMethodDescriptor "(Ljava/lang/Object;[Ljava/lang/Object;I)V" = some ⟨[(.object "java/lang/Object"), (.array (.object "java/lang/Object")), .int], none⟩ := by decide +kernel
abbrev cd30 : ByteArray := jdk_38_method_25_code
theorem D30 : own_DD cd30 [(0, .aload_n 0, 1), (1, .dup, 1), (2, .getfield 63, 3), (5, .iconst 1, 1), (6, .iadd, 1), (7, .putfield 63, 3), (10, .aload_n 0, 1), (11, .aload_n 1, 1), (12, .aload_n 0, 1), (13, .getfield 9, 3), (16, .aload_n 0, 1), (17, .getfield 48, 3), (20, .invokevirtual 131, 3), (23, .iconst 1, 1), (24, .ireturn, 1)] := own_dk (by decide +kernel)
def own_Q_ad0 (Z : State) (z_CS : Int32) (v_FMT : Value) (s_DC : Addr) (k_DC : ClassId) (v_IO : Value) (x_ e_ : Addr) (mc_ : Int32) (h0 : Heap) (n0 : Nat) (v : Option Value) (h : Heap) (L : List Loc) : Prop := ∃ d_ : Addr, ∃ kd_ : ClassId, (v = some (.int (1 : Int32))) ∧ (Fr n0 L) ∧ (Keep h0 h [x_]) ∧ (h0.size ≤ d_) ∧ (Exa Z h x_ "java/util/ArrayList") ∧ (Fld Z h x_ "java/util/ArrayList" "elementData" "[Ljava/lang/Object;" (.ref d_)) ∧ (Fld Z h x_ "java/util/ArrayList" "size" "I" (.int (1 : Int32))) ∧ (Fld Z h x_ "java/util/AbstractList" "modCount" "I" (.int (mc_ + (1 : Int32)))) ∧ (Arv Z h d_ kd_ (.object "java/lang/Object") (10 : Int32) [(.ref e_), .null, .null, .null, .null, .null, .null, .null, .null, .null] .null) ∧ (Exa Z h d_ "[Ljava/lang/Object;") ∧ (Ovr Z kd_ "java/lang/Object")
abbrev yM29 : MethodName := ⟨"java/util/ArrayList", "add", "(Ljava/lang/Object;)Z"⟩
theorem rm_ad0 {l : Launch} {Z : State} {a0 : Array Value} (hw : own_hw a0 Z) {z_CS : Int32} {v_FMT : Value} {s_DC : Addr} {k_DC : ClassId} {v_IO : Value} {x_ e_ : Addr} {mc_ : Int32}  {h0 : Heap} {n0 : Nat} (SB : own_Start Z z_CS v_FMT s_DC k_DC v_IO) (O0 : Old Z n0 h0) (pr0 : Exa Z h0 x_ "java/util/ArrayList") (pr1 : Fld Z h0 x_ "java/util/ArrayList" "elementData" "[Ljava/lang/Object;" (.ref s_DC)) (pr2 : Fld Z h0 x_ "java/util/ArrayList" "size" "I" (.int (0 : Int32))) (pr3 : Fld Z h0 x_ "java/util/AbstractList" "modCount" "I" (.int mc_)) (pr4 : n0 ≤ x_) (pr5 : Exa Z h0 e_ "java/lang/String") :
    oMet l Z yM29 jdk_38_method_25_code 2 (some .boolean) [] (rmo 4 1 10 56) 1 10 #[(.ref x_), (.ref e_)] h0 (own_Q_ad0 Z z_CS v_FMT s_DC k_DC v_IO x_ e_ mc_ h0 n0) := by
  refine oenter (plainFor_of_name own_pn7) #[vr x_, vr e_] (fun _ => rfl) ?_
  intro p e s m below meth c s₁ X0 hx hZ hby hml hret hown hnm hlk e0
  have N0 := Fr.nil n0
  have D := own_hb hby D30
  have W := own_w hw
  refine o_aloadN X0 hx (D 0 rfl) rfl rfl <| o_dup X0 hx (D 1 rfl) rfl <| o_getF X0 hx hZ hown (host := "") (Or.inl (W 63 rfl)) (Via.of (W 64 rfl)) e0 pr3 (D 2 rfl) fun T1 X1 e1 => o_iconst X1 hx 1 (D 3 rfl) rfl <| o_iadd X1 hx (D 4 rfl) ?_
  obtain ⟨T2, _, X2, rfl, W2, st2⟩ := putF X1 hx hZ hown (host := "") (Or.inl (W 63 rfl)) (Via.of (W 64 rfl)) e1 pr3 pr0 (Or.inl (W 51 rfl)) (W 32 rfl) (ty := .int) (by decide) rfl rfl (g := (mkF m 7 #[vr x_, vr e_] [(.int (mc_ + (1 : Int32))), (.ref x_)])) rfl rfl (D 5 rfl)
  have N2 := Fr.snoc X2 N0 pr4
  have F2 := Fld.same W2 pr3
  refine ogoF st2 <| o_aloadN X2 hx (D 6 rfl) rfl rfl <| o_aloadN X2 hx (D 7 rfl) rfl rfl <| o_aloadN X2 hx (D 8 rfl) rfl rfl ?_
  have c3 := (Fld.other W2 pr1 (Or.inr (slot_ne (Or.inl (W 54 rfl)) (Or.inl (W 51 rfl)) (by decide) (t := (.array (.object "java/lang/Object"))) (t' := .int) (by decide) (by decide))))
  refine o_getF X2 hx hZ hown (host := "") (Or.inl (W 53 rfl)) Via.refl rfl c3 (D 9 rfl) fun T4 X4 e4 => o_aloadN X4 hx (D 10 rfl) rfl rfl ?_
  have c5 := (Fld.other W2 pr2 (Or.inr (slot_ne (Or.inl (W 66 rfl)) (Or.inl (W 51 rfl)) (by decide) (t := .int) (t' := .int) (by decide) (by decide))))
  refine o_getF X4 hx hZ hown (host := "") (Or.inl (W 65 rfl)) Via.refl e4 c5 (D 11 rfl) fun T6 X6 e6 => o_cP X6 hx hZ hown (rm_a30 hw  SB (O0.wr W2 pr4) (Exa.wr W2 pr0) c3 c5 F2 pr4 (Exa.wr W2 pr5)) (W 67 rfl) (W 68 rfl) (W 70 rfl) (W 69 rfl) (W 33 rfl) (W 71 rfl) (by decide) e6 (Exa.wr W2 pr0) hml rfl [(.ref e_), (.ref s_DC), (.int (0 : Int32))] [] own_pd21 rfl rfl 0 rfl (by decide) (D 12 rfl) fun T7 L7 v7 X7 hQ7 => ?_
  obtain ⟨d_7, kd_7, rfl, Nq7, K7, p7_0, p7_1, p7_2, p7_3, p7_4, p7_5, p7_6, p7_7⟩ := hQ7
  have N7 := Fr.app N2 Nq7
  have n0_d_7 := own_og O0 (Nat.le_trans (Keep.of_wr W2).1 p7_0)
  refine o_iconst X7 hx 1 (D 13 rfl) rfl ?_
  exact oendN X7 hx hlk hret (by simp) (y := (1 : Int32)) rfl (D 14 rfl) (by decide) rfl ⟨d_7, kd_7, rfl, N7, (((Keep.refl h0 [x_]).wr W2 (Or.inl (List.mem_of_getElem? (i := 0) rfl))).trans K7 (allS (Or.inl (List.mem_of_getElem? (i := 0) rfl)) all0)), (Nat.le_trans (Keep.of_wr W2).1 p7_0), p7_1, p7_2, p7_3, p7_4, p7_5, p7_6, (by first | assumption | omega)⟩
def own_Q_ad1 (Z : State)  (x_ e_ d_ : Addr) (kd_ : ClassId) (p_ : Addr) (mc_ : Int32) (h0 : Heap) (n0 : Nat) (v : Option Value) (h : Heap) (L : List Loc) : Prop := (v = some (.int (1 : Int32))) ∧ (Fr n0 L) ∧ (Keep h0 h [x_, d_]) ∧ (Exa Z h x_ "java/util/ArrayList") ∧ (Fld Z h x_ "java/util/ArrayList" "elementData" "[Ljava/lang/Object;" (.ref d_)) ∧ (Fld Z h x_ "java/util/ArrayList" "size" "I" (.int (2 : Int32))) ∧ (Fld Z h x_ "java/util/AbstractList" "modCount" "I" (.int (mc_ + (1 : Int32)))) ∧ (Arv Z h d_ kd_ (.object "java/lang/Object") (10 : Int32) [(.ref p_), (.ref e_), .null, .null, .null, .null, .null, .null, .null, .null] .null) ∧ (Exa Z h d_ "[Ljava/lang/Object;")
theorem rm_ad1 {l : Launch} {Z : State} {a0 : Array Value} (hw : own_hw a0 Z)  {x_ e_ d_ : Addr} {kd_ : ClassId} {p_ : Addr} {mc_ : Int32}  {h0 : Heap} {n0 : Nat} (O0 : Old Z n0 h0) (pr0 : Exa Z h0 x_ "java/util/ArrayList") (pr1 : Fld Z h0 x_ "java/util/ArrayList" "elementData" "[Ljava/lang/Object;" (.ref d_)) (pr2 : Fld Z h0 x_ "java/util/ArrayList" "size" "I" (.int (1 : Int32))) (pr3 : Fld Z h0 x_ "java/util/AbstractList" "modCount" "I" (.int mc_)) (pr4 : n0 ≤ x_) (pr5 : n0 ≤ d_) (pr6 : Exa Z h0 e_ "java/lang/String") (pr7 : Arv Z h0 d_ kd_ (.object "java/lang/Object") (10 : Int32) [(.ref p_), .null, .null, .null, .null, .null, .null, .null, .null, .null] .null) (pr8 : Exa Z h0 d_ "[Ljava/lang/Object;") (pr9 : Ovr Z kd_ "java/lang/Object") :
    oMet l Z yM29 jdk_38_method_25_code 2 (some .boolean) [] (rmo 1 0 0 15) 0 0 #[(.ref x_), (.ref e_)] h0 (own_Q_ad1 Z  x_ e_ d_ kd_ p_ mc_ h0 n0) := by
  refine oenter (plainFor_of_name own_pn7) #[vr x_, vr e_] (fun _ => rfl) ?_
  intro p e s m below meth c s₁ X0 hx hZ hby hml hret hown hnm hlk e0
  have N0 := Fr.nil n0
  have D := own_hb hby D30
  have W := own_w hw
  refine o_aloadN X0 hx (D 0 rfl) rfl rfl <| o_dup X0 hx (D 1 rfl) rfl <| o_getF X0 hx hZ hown (host := "") (Or.inl (W 63 rfl)) (Via.of (W 64 rfl)) e0 pr3 (D 2 rfl) fun T1 X1 e1 => o_iconst X1 hx 1 (D 3 rfl) rfl <| o_iadd X1 hx (D 4 rfl) ?_
  obtain ⟨T2, _, X2, rfl, W2, st2⟩ := putF X1 hx hZ hown (host := "") (Or.inl (W 63 rfl)) (Via.of (W 64 rfl)) e1 pr3 pr0 (Or.inl (W 51 rfl)) (W 32 rfl) (ty := .int) (by decide) rfl rfl (g := (mkF m 7 #[vr x_, vr e_] [(.int (mc_ + (1 : Int32))), (.ref x_)])) rfl rfl (D 5 rfl)
  have N2 := Fr.snoc X2 N0 pr4
  have F2 := Fld.same W2 pr3
  refine ogoF st2 <| o_aloadN X2 hx (D 6 rfl) rfl rfl <| o_aloadN X2 hx (D 7 rfl) rfl rfl <| o_aloadN X2 hx (D 8 rfl) rfl rfl ?_
  have c3 := (Fld.other W2 pr1 (Or.inr (slot_ne (Or.inl (W 54 rfl)) (Or.inl (W 51 rfl)) (by decide) (t := (.array (.object "java/lang/Object"))) (t' := .int) (by decide) (by decide))))
  refine o_getF X2 hx hZ hown (host := "") (Or.inl (W 53 rfl)) Via.refl rfl c3 (D 9 rfl) fun T4 X4 e4 => o_aloadN X4 hx (D 10 rfl) rfl rfl ?_
  have c5 := (Fld.other W2 pr2 (Or.inr (slot_ne (Or.inl (W 66 rfl)) (Or.inl (W 51 rfl)) (by decide) (t := .int) (t' := .int) (by decide) (by decide))))
  refine o_getF X4 hx hZ hown (host := "") (Or.inl (W 65 rfl)) Via.refl e4 c5 (D 11 rfl) fun T6 X6 e6 => ?_
  have y8 : d_ ≠ x_ := (ne_exa (Exa.wr W2 pr8) (Exa.wr W2 pr0) (by decide))
  refine o_cP X6 hx hZ hown (rm_a31 hw  (O0.wr W2 pr4) (Exa.wr W2 pr0) c3 c5 F2 pr4 pr5 (Exa.wr W2 pr6) (pr7.other W2 y8) (Exa.wr W2 pr8) pr9) (W 67 rfl) (W 68 rfl) (W 70 rfl) (W 69 rfl) (W 33 rfl) (W 71 rfl) (by decide) e6 (Exa.wr W2 pr0) hml rfl [(.ref e_), (.ref d_), (.int (1 : Int32))] [] own_pd21 rfl rfl 0 rfl (by decide) (D 12 rfl) fun T7 L7 v7 X7 hQ7 => ?_
  obtain ⟨rfl, Nq7, K7, p7_0, p7_1, p7_2, p7_3, p7_4, p7_5⟩ := hQ7
  have N7 := Fr.app N2 Nq7
  refine o_iconst X7 hx 1 (D 13 rfl) rfl ?_
  exact oendN X7 hx hlk hret (by simp) (y := (1 : Int32)) rfl (D 14 rfl) (by decide) rfl ⟨rfl, N7, (((Keep.refl h0 [x_, d_]).wr W2 (Or.inl (List.mem_of_getElem? (i := 0) rfl))).trans K7 (allS (Or.inl (List.mem_of_getElem? (i := 0) rfl)) (allS (Or.inl (List.mem_of_getElem? (i := 1) rfl)) all0))), p7_0, p7_1, p7_2, p7_3, p7_4, p7_5⟩
abbrev cd31 : ByteArray := jdk_49_method_1_code
theorem D31 : own_DD cd31 [(0, .aload_n 0, 1), (1, .aload_n 1, 1), (2, .putfield 1, 3), (5, .aload_n 0, 1), (6, .invokespecial 7, 3), (9, .aload_n 0, 1), (10, .iconst (-1), 1), (11, .putfield 13, 3), (14, .aload_n 0, 1), (15, .aload_n 0, 1), (16, .getfield 1, 3), (19, .getfield 17, 3), (22, .putfield 22, 3), (25, .return_, 1)] := own_dk (by decide +kernel)
theorem own_pn8 : plainName "java/util/ArrayList$Itr" = true := by first | (simp [plainName, overriddenIn]; done) | decide +kernel
def own_Q_iti (Z : State)  (t_ x_ : Addr) (mc_ : Int32) (h0 : Heap) (n0 : Nat) (v : Option Value) (h : Heap) (L : List Loc) : Prop := (v = none) ∧ (Fr n0 L) ∧ (Keep h0 h [t_]) ∧ (Exa Z h t_ "java/util/ArrayList$Itr") ∧ (Fld Z h t_ "java/util/ArrayList$Itr" "this$0" "Ljava/util/ArrayList;" (.ref x_)) ∧ (Fld Z h t_ "java/util/ArrayList$Itr" "cursor" "I" (.int (0 : Int32))) ∧ (Fld Z h t_ "java/util/ArrayList$Itr" "lastRet" "I" (.int (-1 : Int32))) ∧ (Fld Z h t_ "java/util/ArrayList$Itr" "expectedModCount" "I" (.int mc_))
abbrev yM30 : MethodName := ⟨"java/util/ArrayList$Itr", "<init>", "(Ljava/util/ArrayList;)V"⟩
theorem rm_iti {l : Launch} {Z : State} {a0 : Array Value} (hw : own_hw a0 Z)  {t_ x_ : Addr} {mc_ : Int32}  {h0 : Heap} {n0 : Nat} (O0 : Old Z n0 h0) (pr0 : Exa Z h0 t_ "java/util/ArrayList$Itr") (pr1 : Fld Z h0 t_ "java/util/ArrayList$Itr" "this$0" "Ljava/util/ArrayList;" .null) (pr2 : Fld Z h0 t_ "java/util/ArrayList$Itr" "cursor" "I" (.int (0 : Int32))) (pr3 : Fld Z h0 t_ "java/util/ArrayList$Itr" "lastRet" "I" (.int (0 : Int32))) (pr4 : Fld Z h0 t_ "java/util/ArrayList$Itr" "expectedModCount" "I" (.int (0 : Int32))) (pr5 : n0 ≤ t_) (pr6 : Exa Z h0 x_ "java/util/ArrayList") (pr7 : Fld Z h0 x_ "java/util/AbstractList" "modCount" "I" (.int mc_)) :
    oMet l Z yM30 jdk_49_method_1_code 2 none [] (rmo 1 0 0 12) 0 0 #[(.ref t_), (.ref x_)] h0 (own_Q_iti Z  t_ x_ mc_ h0 n0) := by
  refine oenter (plainFor_of_name own_pn8) #[vr t_, vr x_] (fun _ => rfl) ?_
  intro p e s m below meth c s₁ X0 hx hZ hby hml hret hown hnm hlk e0
  have N0 := Fr.nil n0
  have D := own_hb hby D31
  have W := own_w hw
  have w117 := W 117 rfl
  have w120 := W 120 rfl
  have w123 := W 123 rfl
  refine o_aloadN X0 hx (D 0 rfl) rfl rfl <| o_aloadN X0 hx (D 1 rfl) rfl rfl ?_
  obtain ⟨T1, _, X1, rfl, W1, st1⟩ := putF X0 hx hZ hown (host := "") (Or.inl (W 116 rfl)) Via.refl e0 pr1 pr0 (Or.inr ⟨w117, rfl, hnm⟩) (W 110 rfl) (ty := (.object "java/util/ArrayList")) (by decide) rfl rfl (g := (mkF m 2 #[vr t_, vr x_] [(.ref x_), (.ref t_)])) rfl rfl (D 2 rfl)
  have N1 := Fr.snoc X1 N0 pr5
  have F1 := Fld.same W1 pr1
  refine ogoF st1 <| o_aloadN X1 hx (D 3 rfl) rfl rfl ?_
  obtain ⟨T2, X2, e2, st2⟩ := initO X1 hx hZ hown (W 118 rfl) (W 21 rfl) (W 22 rfl) rfl (g := (mkF m 6 #[vr t_, vr x_] [(.ref t_)])) rfl (by rw [hml]; rfl) rfl (D 4 rfl) (by decide) (W := 0) (by show 2 * 0 + _ ≤ _; exact Nat.le_of_eq rfl) (by decide)
  refine ogoF st2 <| o_aloadN X2 hx (D 5 rfl) rfl rfl <| o_iconst X2 hx (-1) (D 6 rfl) rfl ?_
  have c4 := (Fld.other W1 pr3 (Or.inr (slot_ne (Or.inl w120) (Or.inr w117) (by decide) (t := .int) (t' := (.object "java/util/ArrayList")) (by decide) (by decide))))
  obtain ⟨T3, _, X3, rfl, W3, st3⟩ := putF X2 hx hZ hown (host := "") (Or.inl (W 119 rfl)) Via.refl e2 c4 (Exa.wr W1 pr0) (Or.inl w120) (W 110 rfl) (ty := .int) (by decide) rfl rfl (g := (mkF m 11 #[vr t_, vr x_] [(.int (-1 : Int32)), (.ref t_)])) rfl rfl (D 7 rfl)
  have N3 := Fr.snoc X3 N1 pr5
  have F3 := Fld.same W3 c4
  refine ogoF st3 <| o_aloadN X3 hx (D 8 rfl) rfl rfl <| o_aloadN X3 hx (D 9 rfl) rfl rfl ?_
  have c5 := (Fld.other W3 F1 (Or.inr (slot_ne (Or.inr w117) (Or.inl w120) (by decide) (t := (.object "java/util/ArrayList")) (t' := .int) (by decide) (by decide))))
  refine o_getF X3 hx hZ hown (host := "") (Or.inl (W 116 rfl)) Via.refl rfl c5 (D 10 rfl) fun T6 X6 e6 => ?_
  have y7 : x_ ≠ t_ := (ne_exa (Exa.wr W3 (Exa.wr W1 pr6)) (Exa.wr W3 (Exa.wr W1 pr0)) (by decide))
  refine o_getF X6 hx hZ hown (host := "") (Or.inl (W 121 rfl)) (Via.of (W 64 rfl)) e6 (Fld.other W3 (Fld.other W1 pr7 (Or.inl y7)) (Or.inl y7)) (D 11 rfl) fun T8 X8 e8 => ?_
  have c10 := (Fld.other W3 (Fld.other W1 pr4 (Or.inr (slot_ne (Or.inl w123) (Or.inr w117) (by decide) (t := .int) (t' := (.object "java/util/ArrayList")) (by decide) (by decide)))) (Or.inr (slot_ne (Or.inl w123) (Or.inl w120) (by decide) (t := .int) (t' := .int) (by decide) (by decide))))
  obtain ⟨T9, _, X9, rfl, W9, st9⟩ := putF X8 hx hZ hown (host := "") (Or.inl (W 122 rfl)) Via.refl e8 c10 (Exa.wr W3 (Exa.wr W1 pr0)) (Or.inl w123) (W 110 rfl) (ty := .int) (by decide) rfl rfl (g := (mkF m 22 #[vr t_, vr x_] [(.int mc_), (.ref t_)])) rfl rfl (D 12 rfl)
  have N9 := Fr.snoc X9 N3 pr5
  have F9 := Fld.same W9 c10
  refine ogoF st9 ?_
  have c11 := (Fld.other W9 c5 (Or.inr (slot_ne (Or.inr w117) (Or.inl w123) (by decide) (t := (.object "java/util/ArrayList")) (t' := .int) (by decide) (by decide))))
  have c12 := (Fld.other W9 (Fld.other W3 (Fld.other W1 pr2 (Or.inr (slot_ne (Or.inl (W 134 rfl)) (Or.inr w117) (by decide) (t := .int) (t' := (.object "java/util/ArrayList")) (by decide) (by decide)))) (Or.inr (slot_ne (Or.inl (W 134 rfl)) (Or.inl w120) (by decide) (t := .int) (t' := .int) (by decide) (by decide)))) (Or.inr (slot_ne (Or.inl (W 134 rfl)) (Or.inl w123) (by decide) (t := .int) (t' := .int) (by decide) (by decide))))
  have c13 := (Fld.other W9 F3 (Or.inr (slot_ne (Or.inl w120) (Or.inl w123) (by decide) (t := .int) (t' := .int) (by decide) (by decide))))
  exact oendV X9 hx hlk hret (D 13 rfl) (by decide) rfl ⟨rfl, N9, ((((Keep.refl h0 [t_]).wr W1 (Or.inl (List.mem_of_getElem? (i := 0) rfl))).wr W3 (Or.inl (List.mem_of_getElem? (i := 0) rfl))).wr W9 (Or.inl (List.mem_of_getElem? (i := 0) rfl))), (Exa.wr W9 (Exa.wr W3 (Exa.wr W1 pr0))), c11, c12, c13, F9⟩
theorem own_pd22 : parseMethodDescriptor "(Ljava/util/ArrayList;)V" = some ⟨[(.object "java/util/ArrayList")], none⟩ := by decide +kernel
abbrev cd32 : ByteArray := jdk_38_method_55_code
theorem D32 : own_DD cd32 [(0, .new 267, 3), (3, .dup, 1), (4, .aload_n 0, 1), (5, .invokespecial 269, 3), (8, .areturn, 1)] := own_dk (by decide +kernel)
def own_Q_itr (Z : State)  (x_ : Addr) (mc_ : Int32) (h0 : Heap) (n0 : Nat) (v : Option Value) (h : Heap) (L : List Loc) : Prop := ∃ t_ : Addr, (v = some (.ref t_)) ∧ (Fr n0 L) ∧ (Keep h0 h []) ∧ (h0.size ≤ t_) ∧ (Exa Z h t_ "java/util/ArrayList$Itr") ∧ (Fld Z h t_ "java/util/ArrayList$Itr" "this$0" "Ljava/util/ArrayList;" (.ref x_)) ∧ (Fld Z h t_ "java/util/ArrayList$Itr" "cursor" "I" (.int (0 : Int32))) ∧ (Fld Z h t_ "java/util/ArrayList$Itr" "lastRet" "I" (.int (-1 : Int32))) ∧ (Fld Z h t_ "java/util/ArrayList$Itr" "expectedModCount" "I" (.int mc_))
abbrev yM31 : MethodName := ⟨"java/util/ArrayList", "iterator", "()Ljava/util/Iterator;"⟩
theorem rm_itr {l : Launch} {Z : State} {a0 : Array Value} (hw : own_hw a0 Z)  {x_ : Addr} {mc_ : Int32}  {h0 : Heap} {n0 : Nat} (O0 : Old Z n0 h0) (pr0 : Exa Z h0 x_ "java/util/ArrayList") (pr1 : Fld Z h0 x_ "java/util/AbstractList" "modCount" "I" (.int mc_)) :
    oMet l Z yM31 jdk_38_method_55_code 1 (some (.object "java/util/Iterator")) [] (rmo 2 1 4 26) 1 4 #[(.ref x_)] h0 (own_Q_itr Z  x_ mc_ h0 n0) := by
  refine oenter (plainFor_of_name own_pn7) #[vr x_] (fun _ => rfl) ?_
  intro p e s m below meth c s₁ X0 hx hZ hby hml hret hown hnm hlk e0
  have N0 := Fr.nil n0
  have D := own_hb hby D32
  have W := own_w hw
  obtain ⟨T1, _, X1, rfl, E1, A1, D1, -, st1⟩ := newO X0 hx hZ hown (W 109 rfl) (W 110 rfl) (W 111 rfl) e0 (g := (mkF m 0 #[vr x_] [])) rfl (D 0 rfl) (by decide) (by decide)
  obtain ⟨b1, g1⟩ : ∃ z, z = h0.size := ⟨_, rfl⟩
  rw [← g1] at A1 D1 st1
  have n0_b1 := own_on O0 g1
  have F1_this_0 : Fld Z T1.heap b1 "java/util/ArrayList$Itr" "this$0" "Ljava/util/ArrayList;" .null := D1 (Or.inr (W 117 rfl)) (ty := (.object "java/util/ArrayList")) (by decide)
  have F1_lastRet : Fld Z T1.heap b1 "java/util/ArrayList$Itr" "lastRet" "I" (.int (0 : Int32)) := D1 (Or.inl (W 120 rfl)) (ty := .int) (by decide)
  have F1_expectedModCount : Fld Z T1.heap b1 "java/util/ArrayList$Itr" "expectedModCount" "I" (.int (0 : Int32)) := D1 (Or.inl (W 123 rfl)) (ty := .int) (by decide)
  have F1_cursor : Fld Z T1.heap b1 "java/util/ArrayList$Itr" "cursor" "I" (.int (0 : Int32)) := D1 (Or.inl (W 134 rfl)) (ty := .int) (by decide)
  refine ogoF st1 <| o_dup X1 hx (D 1 rfl) rfl <| o_aloadN X1 hx (D 2 rfl) rfl rfl <| o_cI X1 hx hZ hown (rm_iti hw  (O0.ext E1) A1 F1_this_0 F1_cursor F1_lastRet F1_expectedModCount n0_b1 (Exa.ext E1 pr0) (Fld.ext E1 pr1)) rfl (W 112 rfl) (W 113 rfl) (W 111 rfl) (W 115 rfl) (by decide) rfl hml rfl [(.ref x_)] [(.ref b1)] own_pd22 rfl rfl 1 rfl (by decide) (D 3 rfl) fun T2 L2 v2 X2 hQ2 => ?_
  obtain ⟨rfl, Nq2, K2, p2_0, p2_1, p2_2, p2_3, p2_4⟩ := hQ2
  have N2 := Fr.app N0 Nq2
  exact oendR X2 hx hlk hret rfl rfl rfl (D 4 rfl) (by decide) rfl ⟨b1, rfl, N2, (((Keep.refl h0 []).ext E1).trans K2 (allS (Or.inr (Nat.le_trans (Nat.le_refl _) (Nat.le_of_eq g1.symm))) all0)), (Nat.le_trans (Nat.le_refl _) (Nat.le_of_eq g1.symm)), p2_0, p2_1, p2_2, p2_3, p2_4⟩
abbrev cd33 : ByteArray := jdk_49_method_2_code
theorem D33 : own_DD cd33 [(0, .aload_n 0, 1), (1, .getfield 25, 3), (4, .aload_n 0, 1), (5, .getfield 1, 3), (8, .getfield 28, 3), (11, .if_icmp .eq 7, 3), (18, .iconst 0, 1), (19, .ireturn, 1), (14, .iconst 1, 1), (15, .goto 4, 3)] := own_dk (by decide +kernel)
def own_Q_hn0 (Z : State)  (t_ x_ : Addr) (cu_ sz_ : Int32) (h0 : Heap) (n0 : Nat) (v : Option Value) (h : Heap) (L : List Loc) : Prop := (v = some (.int (0 : Int32))) ∧ (Fr n0 L) ∧ (h = h0)
abbrev yM32 : MethodName := ⟨"java/util/ArrayList$Itr", "hasNext", "()Z"⟩
theorem rm_hn0 {l : Launch} {Z : State} {a0 : Array Value} (hw : own_hw a0 Z)  {t_ x_ : Addr} {cu_ sz_ : Int32}  {h0 : Heap} {n0 : Nat} (O0 : Old Z n0 h0) (pr0 : Fld Z h0 t_ "java/util/ArrayList$Itr" "this$0" "Ljava/util/ArrayList;" (.ref x_)) (pr1 : Fld Z h0 t_ "java/util/ArrayList$Itr" "cursor" "I" (.int cu_)) (pr2 : Fld Z h0 x_ "java/util/ArrayList" "size" "I" (.int sz_)) (pr3 : cu_ = sz_) :
    oMet l Z yM32 jdk_49_method_2_code 1 (some .boolean) [] (rmo 0 0 0 0) 0 0 #[(.ref t_)] h0 (own_Q_hn0 Z  t_ x_ cu_ sz_ h0 n0) := by
  refine oenter (plainFor_of_name own_pn8) #[vr t_] (fun _ => rfl) ?_
  intro p e s m below meth c s₁ X0 hx hZ hby hml hret hown hnm hlk e0
  have N0 := Fr.nil n0
  have D := own_hb hby D33
  have W := own_w hw
  refine o_aloadN X0 hx (D 0 rfl) rfl rfl <| o_getF X0 hx hZ hown (host := "") (Or.inl (W 133 rfl)) Via.refl e0 pr1 (D 1 rfl) fun T1 X1 e1 => o_aloadN X1 hx (D 2 rfl) rfl rfl <| o_getF X1 hx hZ hown (host := "") (Or.inl (W 116 rfl)) Via.refl e1 pr0 (D 3 rfl) fun T2 X2 e2 => o_getF X2 hx hZ hown (Or.inr (W 135 rfl)) Via.refl e2 pr2 (D 4 rfl) fun T3 X3 e3 => o_icmpYes X3 hx 18 (D 5 rfl) (teq pr3).1 rfl <| o_iconst X3 hx 0 (D 6 rfl) rfl ?_
  exact oendN X3 hx hlk hret (by simp) (y := (0 : Int32)) rfl (D 7 rfl) (by decide) e3 ⟨rfl, N0, rfl⟩
def own_Q_hn1 (Z : State)  (t_ x_ : Addr) (cu_ sz_ : Int32) (h0 : Heap) (n0 : Nat) (v : Option Value) (h : Heap) (L : List Loc) : Prop := (v = some (.int (1 : Int32))) ∧ (Fr n0 L) ∧ (h = h0)
theorem rm_hn1 {l : Launch} {Z : State} {a0 : Array Value} (hw : own_hw a0 Z)  {t_ x_ : Addr} {cu_ sz_ : Int32}  {h0 : Heap} {n0 : Nat} (O0 : Old Z n0 h0) (pr0 : Fld Z h0 t_ "java/util/ArrayList$Itr" "this$0" "Ljava/util/ArrayList;" (.ref x_)) (pr1 : Fld Z h0 t_ "java/util/ArrayList$Itr" "cursor" "I" (.int cu_)) (pr2 : Fld Z h0 x_ "java/util/ArrayList" "size" "I" (.int sz_)) (pr3 : ¬ (cu_ = sz_)) :
    oMet l Z yM32 jdk_49_method_2_code 1 (some .boolean) [] (rmo 0 0 0 0) 0 0 #[(.ref t_)] h0 (own_Q_hn1 Z  t_ x_ cu_ sz_ h0 n0) := by
  refine oenter (plainFor_of_name own_pn8) #[vr t_] (fun _ => rfl) ?_
  intro p e s m below meth c s₁ X0 hx hZ hby hml hret hown hnm hlk e0
  have N0 := Fr.nil n0
  have D := own_hb hby D33
  have W := own_w hw
  refine o_aloadN X0 hx (D 0 rfl) rfl rfl <| o_getF X0 hx hZ hown (host := "") (Or.inl (W 133 rfl)) Via.refl e0 pr1 (D 1 rfl) fun T1 X1 e1 => o_aloadN X1 hx (D 2 rfl) rfl rfl <| o_getF X1 hx hZ hown (host := "") (Or.inl (W 116 rfl)) Via.refl e1 pr0 (D 3 rfl) fun T2 X2 e2 => o_getF X2 hx hZ hown (Or.inr (W 135 rfl)) Via.refl e2 pr2 (D 4 rfl) fun T3 X3 e3 => o_icmpNo X3 hx (D 5 rfl) (feq pr3).1 <| o_iconst X3 hx 1 (D 8 rfl) rfl <| o_goto X3 hx 19 (D 9 rfl) rfl ?_
  exact oendN X3 hx hlk hret (by simp) (y := (1 : Int32)) rfl (D 7 rfl) (by decide) e3 ⟨rfl, N0, rfl⟩
abbrev cd34 : ByteArray := jdk_49_method_6_code
theorem D34 : own_DD cd34 [(0, .aload_n 0, 1), (1, .getfield 1, 3), (4, .getfield 17, 3), (7, .aload_n 0, 1), (8, .getfield 22, 3), (11, .if_icmp .eq 11, 3), (22, .return_, 1)] := own_dk (by decide +kernel)
def own_Q_cfm (Z : State)  (t_ x_ : Addr) (mc_ : Int32) (h0 : Heap) (n0 : Nat) (v : Option Value) (h : Heap) (L : List Loc) : Prop := (v = none) ∧ (Fr n0 L) ∧ (h = h0)
abbrev yM33 : MethodName := ⟨"java/util/ArrayList$Itr", "checkForComodification", "()V"⟩
theorem rm_cfm {l : Launch} {Z : State} {a0 : Array Value} (hw : own_hw a0 Z)  {t_ x_ : Addr} {mc_ : Int32}  {h0 : Heap} {n0 : Nat} (O0 : Old Z n0 h0) (pr0 : Fld Z h0 t_ "java/util/ArrayList$Itr" "this$0" "Ljava/util/ArrayList;" (.ref x_)) (pr1 : Fld Z h0 t_ "java/util/ArrayList$Itr" "expectedModCount" "I" (.int mc_)) (pr2 : Fld Z h0 x_ "java/util/AbstractList" "modCount" "I" (.int mc_)) :
    oMet l Z yM33 jdk_49_method_6_code 1 none [] (rmo 0 0 0 0) 0 0 #[(.ref t_)] h0 (own_Q_cfm Z  t_ x_ mc_ h0 n0) := by
  refine oenter (plainFor_of_name own_pn8) #[vr t_] (fun _ => rfl) ?_
  intro p e s m below meth c s₁ X0 hx hZ hby hml hret hown hnm hlk e0
  have N0 := Fr.nil n0
  have D := own_hb hby D34
  have W := own_w hw
  refine o_aloadN X0 hx (D 0 rfl) rfl rfl <| o_getF X0 hx hZ hown (host := "") (Or.inl (W 116 rfl)) Via.refl e0 pr0 (D 1 rfl) fun T1 X1 e1 => o_getF X1 hx hZ hown (host := "") (Or.inl (W 121 rfl)) (Via.of (W 64 rfl)) e1 pr2 (D 2 rfl) fun T2 X2 e2 => o_aloadN X2 hx (D 3 rfl) rfl rfl <| o_getF X2 hx hZ hown (host := "") (Or.inl (W 122 rfl)) Via.refl e2 pr1 (D 4 rfl) fun T3 X3 e3 => o_icmpYes X3 hx 22 (D 5 rfl) (teq (rfl : mc_ = mc_)).1 rfl ?_
  exact oendV X3 hx hlk hret (D 6 rfl) (by decide) e3 ⟨rfl, N0, rfl⟩
abbrev cd35 : ByteArray := jdk_49_method_3_code
theorem D35 : own_DD cd35 [(0, .aload_n 0, 1), (1, .invokevirtual 31, 3), (4, .aload_n 0, 1), (5, .getfield 25, 3), (8, .istore_n 1, 1), (9, .iload_n 1, 1), (10, .aload_n 0, 1), (11, .getfield 1, 3), (14, .getfield 28, 3), (17, .if_icmp .lt 11, 3), (28, .aload_n 0, 1), (29, .getfield 1, 3), (32, .getfield 37, 3), (35, .astore_n 2, 1), (36, .iload_n 1, 1), (37, .aload_n 2, 1), (38, .arraylength, 1), (39, .if_icmp .lt 11, 3), (50, .aload_n 0, 1), (51, .iload_n 1, 1), (52, .iconst 1, 1), (53, .iadd, 1), (54, .putfield 25, 3), (57, .aload_n 2, 1), (58, .aload_n 0, 1), (59, .iload_n 1, 1), (60, .dup_x1, 1), (61, .putfield 13, 3), (64, .aaload, 1), (65, .areturn, 1)] := own_dk (by decide +kernel)
def own_Q_nx0a (Z : State)  (t_ x_ : Addr) (lr_ mc_ : Int32) (d_ : Addr) (kd_ : ClassId) (p_ : Addr) (h0 : Heap) (n0 : Nat) (v : Option Value) (h : Heap) (L : List Loc) : Prop := (v = some (.ref p_)) ∧ (Fr n0 L) ∧ (Keep h0 h [t_]) ∧ (Exa Z h t_ "java/util/ArrayList$Itr") ∧ (Fld Z h t_ "java/util/ArrayList$Itr" "this$0" "Ljava/util/ArrayList;" (.ref x_)) ∧ (Fld Z h t_ "java/util/ArrayList$Itr" "cursor" "I" (.int (1 : Int32))) ∧ (Fld Z h t_ "java/util/ArrayList$Itr" "lastRet" "I" (.int (0 : Int32))) ∧ (Fld Z h t_ "java/util/ArrayList$Itr" "expectedModCount" "I" (.int mc_))
abbrev yM34 : MethodName := ⟨"java/util/ArrayList$Itr", "next", "()Ljava/lang/Object;"⟩
theorem rm_nx0a {l : Launch} {Z : State} {a0 : Array Value} (hw : own_hw a0 Z)  {t_ x_ : Addr} {lr_ mc_ : Int32} {d_ : Addr} {kd_ : ClassId} {p_ : Addr}  {h0 : Heap} {n0 : Nat} (O0 : Old Z n0 h0) (pr0 : Exa Z h0 t_ "java/util/ArrayList$Itr") (pr1 : Fld Z h0 t_ "java/util/ArrayList$Itr" "this$0" "Ljava/util/ArrayList;" (.ref x_)) (pr2 : Fld Z h0 t_ "java/util/ArrayList$Itr" "cursor" "I" (.int (0 : Int32))) (pr3 : Fld Z h0 t_ "java/util/ArrayList$Itr" "lastRet" "I" (.int lr_)) (pr4 : Fld Z h0 t_ "java/util/ArrayList$Itr" "expectedModCount" "I" (.int mc_)) (pr5 : Fld Z h0 x_ "java/util/ArrayList" "elementData" "[Ljava/lang/Object;" (.ref d_)) (pr6 : Fld Z h0 x_ "java/util/ArrayList" "size" "I" (.int (1 : Int32))) (pr7 : Fld Z h0 x_ "java/util/AbstractList" "modCount" "I" (.int mc_)) (pr8 : Arv Z h0 d_ kd_ (.object "java/lang/Object") (10 : Int32) [(.ref p_), .null, .null, .null, .null, .null, .null, .null, .null, .null] .null) (pr9 : n0 ≤ t_) (pr10 : t_ ≠ x_) (pr11 : t_ ≠ d_) :
    oMet l Z yM34 jdk_49_method_3_code 3 (some (.object "java/lang/Object")) [] (rmo 1 0 0 12) 0 0 #[(.ref t_)] h0 (own_Q_nx0a Z  t_ x_ lr_ mc_ d_ kd_ p_ h0 n0) := by
  refine oenter (plainFor_of_name own_pn8) #[vr t_, .unset, .unset] (fun _ => rfl) ?_
  intro p e s m below meth c s₁ X0 hx hZ hby hml hret hown hnm hlk e0
  have N0 := Fr.nil n0
  have D := own_hb hby D35
  have W := own_w hw
  have w120 := W 120 rfl
  have w134 := W 134 rfl
  refine o_aloadN X0 hx (D 0 rfl) rfl rfl <| o_cv X0 hx hZ hown (rm_cfm hw  O0 pr1 pr4 pr7) (W 144 rfl) (W 145 rfl) (W 147 rfl) (W 146 rfl) (W 111 rfl) (W 148 rfl) (by decide) e0 pr0 hml rfl [] [] own_pd17 rfl rfl 0 rfl (by decide) (D 1 rfl) fun T1 L1 v1 X1 hQ1 => ?_
  obtain ⟨rfl, Nq1, q1⟩ := hQ1
  have N1 := Fr.app N0 Nq1
  refine o_aloadN X1 hx (D 2 rfl) rfl rfl <| o_getF X1 hx hZ hown (host := "") (Or.inl (W 133 rfl)) Via.refl q1 pr2 (D 3 rfl) fun T2 X2 e2 => o_istoreN X2 hx (l' := #[vr t_, vi (0 : Int32), .unset]) (D 4 rfl) rfl <| o_iloadN X2 hx (D 5 rfl) rfl <| o_aloadN X2 hx (D 6 rfl) rfl rfl <| o_getF X2 hx hZ hown (host := "") (Or.inl (W 116 rfl)) Via.refl e2 pr1 (D 7 rfl) fun T3 X3 e3 => o_getF X3 hx hZ hown (Or.inr (W 135 rfl)) Via.refl e3 pr6 (D 8 rfl) fun T4 X4 e4 => o_icmpYes X4 hx 28 (D 9 rfl) (tlt (by decide : (0 : Int32) < (1 : Int32))).1 rfl <| o_aloadN X4 hx (D 10 rfl) rfl rfl <| o_getF X4 hx hZ hown (host := "") (Or.inl (W 116 rfl)) Via.refl e4 pr1 (D 11 rfl) fun T5 X5 e5 => o_getF X5 hx hZ hown (host := "") (Or.inl (W 149 rfl)) Via.refl e5 pr5 (D 12 rfl) fun T6 X6 e6 => o_astoreN X6 hx (l' := #[vr t_, vi (0 : Int32), vr d_]) (D 13 rfl) rfl rfl <| o_iloadN X6 hx (D 14 rfl) rfl <| o_aloadN X6 hx (D 15 rfl) rfl rfl <| o_alen X6 hx hZ e6 pr8 (D 16 rfl) <| o_icmpYes X6 hx 50 (D 17 rfl) (tlt (by decide : (0 : Int32) < (10 : Int32))).1 rfl <| o_aloadN X6 hx (D 18 rfl) rfl rfl <| o_iloadN X6 hx (D 19 rfl) rfl <| o_iconst X6 hx 1 (D 20 rfl) rfl <| o_iadd X6 hx (D 21 rfl) ?_
  obtain ⟨T7, _, X7, rfl, W7, st7⟩ := putF X6 hx hZ hown (host := "") (Or.inl (W 133 rfl)) Via.refl e6 pr2 pr0 (Or.inl w134) (W 110 rfl) (ty := .int) (by decide) rfl rfl (g := (mkF m 54 #[vr t_, vi (0 : Int32), vr d_] [(.int (1 : Int32)), (.ref t_)])) rfl rfl (D 22 rfl)
  have N7 := Fr.snoc X7 N1 pr9
  have F7 := Fld.same W7 pr2
  refine ogoF st7 <| o_aloadN X7 hx (D 23 rfl) rfl rfl <| o_aloadN X7 hx (D 24 rfl) rfl rfl <| o_iloadN X7 hx (D 25 rfl) rfl <| o_dup_x1 X7 hx (D 26 rfl) rfl rfl ?_
  have c9 := (Fld.other W7 pr3 (Or.inr (slot_ne (Or.inl w120) (Or.inl w134) (by decide) (t := .int) (t' := .int) (by decide) (by decide))))
  obtain ⟨T8, _, X8, rfl, W8, st8⟩ := putF X7 hx hZ hown (host := "") (Or.inl (W 119 rfl)) Via.refl rfl c9 (Exa.wr W7 pr0) (Or.inl w120) (W 110 rfl) (ty := .int) (by decide) rfl rfl (g := (mkF m 61 #[vr t_, vi (0 : Int32), vr d_] [(.int (0 : Int32)), (.ref t_), (.int (0 : Int32)), (.ref d_)])) rfl rfl (D 27 rfl)
  have N8 := Fr.snoc X8 N7 pr9
  have F8 := Fld.same W8 c9
  refine ogoF st8 <| o_aal X8 hx hZ rfl ((pr8.other W7 (Ne.symm pr11)).other W8 (Ne.symm pr11)) ⟨by decide, by decide⟩ (v := (.ref p_)) rfl (D 28 rfl) ?_
  have c10 := (Fld.other W8 (Fld.other W7 pr1 (Or.inr (slot_ne (Or.inr (W 117 rfl)) (Or.inl w134) (by decide) (t := (.object "java/util/ArrayList")) (t' := .int) (by decide) (by decide)))) (Or.inr (slot_ne (Or.inr (W 117 rfl)) (Or.inl w120) (by decide) (t := (.object "java/util/ArrayList")) (t' := .int) (by decide) (by decide))))
  have c11 := (Fld.other W8 F7 (Or.inr (slot_ne (Or.inl w134) (Or.inl w120) (by decide) (t := .int) (t' := .int) (by decide) (by decide))))
  have c12 := (Fld.other W8 (Fld.other W7 pr4 (Or.inr (slot_ne (Or.inl (W 123 rfl)) (Or.inl w134) (by decide) (t := .int) (t' := .int) (by decide) (by decide)))) (Or.inr (slot_ne (Or.inl (W 123 rfl)) (Or.inl w120) (by decide) (t := .int) (t' := .int) (by decide) (by decide))))
  exact oendR X8 hx hlk hret rfl rfl rfl (D 29 rfl) (by decide) rfl ⟨rfl, N8, (((Keep.refl h0 [t_]).wr W7 (Or.inl (List.mem_of_getElem? (i := 0) rfl))).wr W8 (Or.inl (List.mem_of_getElem? (i := 0) rfl))), (Exa.wr W8 (Exa.wr W7 pr0)), c10, c11, F8, c12⟩
def own_Q_nx0b (Z : State)  (t_ x_ : Addr) (lr_ mc_ : Int32) (d_ : Addr) (kd_ : ClassId) (p_ q_ : Addr) (h0 : Heap) (n0 : Nat) (v : Option Value) (h : Heap) (L : List Loc) : Prop := (v = some (.ref p_)) ∧ (Fr n0 L) ∧ (Keep h0 h [t_]) ∧ (Exa Z h t_ "java/util/ArrayList$Itr") ∧ (Fld Z h t_ "java/util/ArrayList$Itr" "this$0" "Ljava/util/ArrayList;" (.ref x_)) ∧ (Fld Z h t_ "java/util/ArrayList$Itr" "cursor" "I" (.int (1 : Int32))) ∧ (Fld Z h t_ "java/util/ArrayList$Itr" "lastRet" "I" (.int (0 : Int32))) ∧ (Fld Z h t_ "java/util/ArrayList$Itr" "expectedModCount" "I" (.int mc_))
theorem rm_nx0b {l : Launch} {Z : State} {a0 : Array Value} (hw : own_hw a0 Z)  {t_ x_ : Addr} {lr_ mc_ : Int32} {d_ : Addr} {kd_ : ClassId} {p_ q_ : Addr}  {h0 : Heap} {n0 : Nat} (O0 : Old Z n0 h0) (pr0 : Exa Z h0 t_ "java/util/ArrayList$Itr") (pr1 : Fld Z h0 t_ "java/util/ArrayList$Itr" "this$0" "Ljava/util/ArrayList;" (.ref x_)) (pr2 : Fld Z h0 t_ "java/util/ArrayList$Itr" "cursor" "I" (.int (0 : Int32))) (pr3 : Fld Z h0 t_ "java/util/ArrayList$Itr" "lastRet" "I" (.int lr_)) (pr4 : Fld Z h0 t_ "java/util/ArrayList$Itr" "expectedModCount" "I" (.int mc_)) (pr5 : Fld Z h0 x_ "java/util/ArrayList" "elementData" "[Ljava/lang/Object;" (.ref d_)) (pr6 : Fld Z h0 x_ "java/util/ArrayList" "size" "I" (.int (2 : Int32))) (pr7 : Fld Z h0 x_ "java/util/AbstractList" "modCount" "I" (.int mc_)) (pr8 : Arv Z h0 d_ kd_ (.object "java/lang/Object") (10 : Int32) [(.ref p_), (.ref q_), .null, .null, .null, .null, .null, .null, .null, .null] .null) (pr9 : n0 ≤ t_) (pr10 : t_ ≠ x_) (pr11 : t_ ≠ d_) :
    oMet l Z yM34 jdk_49_method_3_code 3 (some (.object "java/lang/Object")) [] (rmo 1 0 0 12) 0 0 #[(.ref t_)] h0 (own_Q_nx0b Z  t_ x_ lr_ mc_ d_ kd_ p_ q_ h0 n0) := by
  refine oenter (plainFor_of_name own_pn8) #[vr t_, .unset, .unset] (fun _ => rfl) ?_
  intro p e s m below meth c s₁ X0 hx hZ hby hml hret hown hnm hlk e0
  have N0 := Fr.nil n0
  have D := own_hb hby D35
  have W := own_w hw
  have w120 := W 120 rfl
  have w134 := W 134 rfl
  refine o_aloadN X0 hx (D 0 rfl) rfl rfl <| o_cv X0 hx hZ hown (rm_cfm hw  O0 pr1 pr4 pr7) (W 144 rfl) (W 145 rfl) (W 147 rfl) (W 146 rfl) (W 111 rfl) (W 148 rfl) (by decide) e0 pr0 hml rfl [] [] own_pd17 rfl rfl 0 rfl (by decide) (D 1 rfl) fun T1 L1 v1 X1 hQ1 => ?_
  obtain ⟨rfl, Nq1, q1⟩ := hQ1
  have N1 := Fr.app N0 Nq1
  refine o_aloadN X1 hx (D 2 rfl) rfl rfl <| o_getF X1 hx hZ hown (host := "") (Or.inl (W 133 rfl)) Via.refl q1 pr2 (D 3 rfl) fun T2 X2 e2 => o_istoreN X2 hx (l' := #[vr t_, vi (0 : Int32), .unset]) (D 4 rfl) rfl <| o_iloadN X2 hx (D 5 rfl) rfl <| o_aloadN X2 hx (D 6 rfl) rfl rfl <| o_getF X2 hx hZ hown (host := "") (Or.inl (W 116 rfl)) Via.refl e2 pr1 (D 7 rfl) fun T3 X3 e3 => o_getF X3 hx hZ hown (Or.inr (W 135 rfl)) Via.refl e3 pr6 (D 8 rfl) fun T4 X4 e4 => o_icmpYes X4 hx 28 (D 9 rfl) (tlt (by decide : (0 : Int32) < (2 : Int32))).1 rfl <| o_aloadN X4 hx (D 10 rfl) rfl rfl <| o_getF X4 hx hZ hown (host := "") (Or.inl (W 116 rfl)) Via.refl e4 pr1 (D 11 rfl) fun T5 X5 e5 => o_getF X5 hx hZ hown (host := "") (Or.inl (W 149 rfl)) Via.refl e5 pr5 (D 12 rfl) fun T6 X6 e6 => o_astoreN X6 hx (l' := #[vr t_, vi (0 : Int32), vr d_]) (D 13 rfl) rfl rfl <| o_iloadN X6 hx (D 14 rfl) rfl <| o_aloadN X6 hx (D 15 rfl) rfl rfl <| o_alen X6 hx hZ e6 pr8 (D 16 rfl) <| o_icmpYes X6 hx 50 (D 17 rfl) (tlt (by decide : (0 : Int32) < (10 : Int32))).1 rfl <| o_aloadN X6 hx (D 18 rfl) rfl rfl <| o_iloadN X6 hx (D 19 rfl) rfl <| o_iconst X6 hx 1 (D 20 rfl) rfl <| o_iadd X6 hx (D 21 rfl) ?_
  obtain ⟨T7, _, X7, rfl, W7, st7⟩ := putF X6 hx hZ hown (host := "") (Or.inl (W 133 rfl)) Via.refl e6 pr2 pr0 (Or.inl w134) (W 110 rfl) (ty := .int) (by decide) rfl rfl (g := (mkF m 54 #[vr t_, vi (0 : Int32), vr d_] [(.int (1 : Int32)), (.ref t_)])) rfl rfl (D 22 rfl)
  have N7 := Fr.snoc X7 N1 pr9
  have F7 := Fld.same W7 pr2
  refine ogoF st7 <| o_aloadN X7 hx (D 23 rfl) rfl rfl <| o_aloadN X7 hx (D 24 rfl) rfl rfl <| o_iloadN X7 hx (D 25 rfl) rfl <| o_dup_x1 X7 hx (D 26 rfl) rfl rfl ?_
  have c9 := (Fld.other W7 pr3 (Or.inr (slot_ne (Or.inl w120) (Or.inl w134) (by decide) (t := .int) (t' := .int) (by decide) (by decide))))
  obtain ⟨T8, _, X8, rfl, W8, st8⟩ := putF X7 hx hZ hown (host := "") (Or.inl (W 119 rfl)) Via.refl rfl c9 (Exa.wr W7 pr0) (Or.inl w120) (W 110 rfl) (ty := .int) (by decide) rfl rfl (g := (mkF m 61 #[vr t_, vi (0 : Int32), vr d_] [(.int (0 : Int32)), (.ref t_), (.int (0 : Int32)), (.ref d_)])) rfl rfl (D 27 rfl)
  have N8 := Fr.snoc X8 N7 pr9
  have F8 := Fld.same W8 c9
  refine ogoF st8 <| o_aal X8 hx hZ rfl ((pr8.other W7 (Ne.symm pr11)).other W8 (Ne.symm pr11)) ⟨by decide, by decide⟩ (v := (.ref p_)) rfl (D 28 rfl) ?_
  have c10 := (Fld.other W8 (Fld.other W7 pr1 (Or.inr (slot_ne (Or.inr (W 117 rfl)) (Or.inl w134) (by decide) (t := (.object "java/util/ArrayList")) (t' := .int) (by decide) (by decide)))) (Or.inr (slot_ne (Or.inr (W 117 rfl)) (Or.inl w120) (by decide) (t := (.object "java/util/ArrayList")) (t' := .int) (by decide) (by decide))))
  have c11 := (Fld.other W8 F7 (Or.inr (slot_ne (Or.inl w134) (Or.inl w120) (by decide) (t := .int) (t' := .int) (by decide) (by decide))))
  have c12 := (Fld.other W8 (Fld.other W7 pr4 (Or.inr (slot_ne (Or.inl (W 123 rfl)) (Or.inl w134) (by decide) (t := .int) (t' := .int) (by decide) (by decide)))) (Or.inr (slot_ne (Or.inl (W 123 rfl)) (Or.inl w120) (by decide) (t := .int) (t' := .int) (by decide) (by decide))))
  exact oendR X8 hx hlk hret rfl rfl rfl (D 29 rfl) (by decide) rfl ⟨rfl, N8, (((Keep.refl h0 [t_]).wr W7 (Or.inl (List.mem_of_getElem? (i := 0) rfl))).wr W8 (Or.inl (List.mem_of_getElem? (i := 0) rfl))), (Exa.wr W8 (Exa.wr W7 pr0)), c10, c11, F8, c12⟩
def own_Q_nx1b (Z : State)  (t_ x_ : Addr) (lr_ mc_ : Int32) (d_ : Addr) (kd_ : ClassId) (p_ q_ : Addr) (h0 : Heap) (n0 : Nat) (v : Option Value) (h : Heap) (L : List Loc) : Prop := (v = some (.ref q_)) ∧ (Fr n0 L) ∧ (Keep h0 h [t_]) ∧ (Exa Z h t_ "java/util/ArrayList$Itr") ∧ (Fld Z h t_ "java/util/ArrayList$Itr" "this$0" "Ljava/util/ArrayList;" (.ref x_)) ∧ (Fld Z h t_ "java/util/ArrayList$Itr" "cursor" "I" (.int (2 : Int32))) ∧ (Fld Z h t_ "java/util/ArrayList$Itr" "lastRet" "I" (.int (1 : Int32))) ∧ (Fld Z h t_ "java/util/ArrayList$Itr" "expectedModCount" "I" (.int mc_))
theorem rm_nx1b {l : Launch} {Z : State} {a0 : Array Value} (hw : own_hw a0 Z)  {t_ x_ : Addr} {lr_ mc_ : Int32} {d_ : Addr} {kd_ : ClassId} {p_ q_ : Addr}  {h0 : Heap} {n0 : Nat} (O0 : Old Z n0 h0) (pr0 : Exa Z h0 t_ "java/util/ArrayList$Itr") (pr1 : Fld Z h0 t_ "java/util/ArrayList$Itr" "this$0" "Ljava/util/ArrayList;" (.ref x_)) (pr2 : Fld Z h0 t_ "java/util/ArrayList$Itr" "cursor" "I" (.int (1 : Int32))) (pr3 : Fld Z h0 t_ "java/util/ArrayList$Itr" "lastRet" "I" (.int lr_)) (pr4 : Fld Z h0 t_ "java/util/ArrayList$Itr" "expectedModCount" "I" (.int mc_)) (pr5 : Fld Z h0 x_ "java/util/ArrayList" "elementData" "[Ljava/lang/Object;" (.ref d_)) (pr6 : Fld Z h0 x_ "java/util/ArrayList" "size" "I" (.int (2 : Int32))) (pr7 : Fld Z h0 x_ "java/util/AbstractList" "modCount" "I" (.int mc_)) (pr8 : Arv Z h0 d_ kd_ (.object "java/lang/Object") (10 : Int32) [(.ref p_), (.ref q_), .null, .null, .null, .null, .null, .null, .null, .null] .null) (pr9 : n0 ≤ t_) (pr10 : t_ ≠ x_) (pr11 : t_ ≠ d_) :
    oMet l Z yM34 jdk_49_method_3_code 3 (some (.object "java/lang/Object")) [] (rmo 1 0 0 12) 0 0 #[(.ref t_)] h0 (own_Q_nx1b Z  t_ x_ lr_ mc_ d_ kd_ p_ q_ h0 n0) := by
  refine oenter (plainFor_of_name own_pn8) #[vr t_, .unset, .unset] (fun _ => rfl) ?_
  intro p e s m below meth c s₁ X0 hx hZ hby hml hret hown hnm hlk e0
  have N0 := Fr.nil n0
  have D := own_hb hby D35
  have W := own_w hw
  have w120 := W 120 rfl
  have w134 := W 134 rfl
  refine o_aloadN X0 hx (D 0 rfl) rfl rfl <| o_cv X0 hx hZ hown (rm_cfm hw  O0 pr1 pr4 pr7) (W 144 rfl) (W 145 rfl) (W 147 rfl) (W 146 rfl) (W 111 rfl) (W 148 rfl) (by decide) e0 pr0 hml rfl [] [] own_pd17 rfl rfl 0 rfl (by decide) (D 1 rfl) fun T1 L1 v1 X1 hQ1 => ?_
  obtain ⟨rfl, Nq1, q1⟩ := hQ1
  have N1 := Fr.app N0 Nq1
  refine o_aloadN X1 hx (D 2 rfl) rfl rfl <| o_getF X1 hx hZ hown (host := "") (Or.inl (W 133 rfl)) Via.refl q1 pr2 (D 3 rfl) fun T2 X2 e2 => o_istoreN X2 hx (l' := #[vr t_, vi (1 : Int32), .unset]) (D 4 rfl) rfl <| o_iloadN X2 hx (D 5 rfl) rfl <| o_aloadN X2 hx (D 6 rfl) rfl rfl <| o_getF X2 hx hZ hown (host := "") (Or.inl (W 116 rfl)) Via.refl e2 pr1 (D 7 rfl) fun T3 X3 e3 => o_getF X3 hx hZ hown (Or.inr (W 135 rfl)) Via.refl e3 pr6 (D 8 rfl) fun T4 X4 e4 => o_icmpYes X4 hx 28 (D 9 rfl) (tlt (by decide : (1 : Int32) < (2 : Int32))).1 rfl <| o_aloadN X4 hx (D 10 rfl) rfl rfl <| o_getF X4 hx hZ hown (host := "") (Or.inl (W 116 rfl)) Via.refl e4 pr1 (D 11 rfl) fun T5 X5 e5 => o_getF X5 hx hZ hown (host := "") (Or.inl (W 149 rfl)) Via.refl e5 pr5 (D 12 rfl) fun T6 X6 e6 => o_astoreN X6 hx (l' := #[vr t_, vi (1 : Int32), vr d_]) (D 13 rfl) rfl rfl <| o_iloadN X6 hx (D 14 rfl) rfl <| o_aloadN X6 hx (D 15 rfl) rfl rfl <| o_alen X6 hx hZ e6 pr8 (D 16 rfl) <| o_icmpYes X6 hx 50 (D 17 rfl) (tlt (by decide : (1 : Int32) < (10 : Int32))).1 rfl <| o_aloadN X6 hx (D 18 rfl) rfl rfl <| o_iloadN X6 hx (D 19 rfl) rfl <| o_iconst X6 hx 1 (D 20 rfl) rfl <| o_iadd X6 hx (D 21 rfl) ?_
  obtain ⟨T7, _, X7, rfl, W7, st7⟩ := putF X6 hx hZ hown (host := "") (Or.inl (W 133 rfl)) Via.refl e6 pr2 pr0 (Or.inl w134) (W 110 rfl) (ty := .int) (by decide) rfl rfl (g := (mkF m 54 #[vr t_, vi (1 : Int32), vr d_] [(.int (2 : Int32)), (.ref t_)])) rfl rfl (D 22 rfl)
  have N7 := Fr.snoc X7 N1 pr9
  have F7 := Fld.same W7 pr2
  refine ogoF st7 <| o_aloadN X7 hx (D 23 rfl) rfl rfl <| o_aloadN X7 hx (D 24 rfl) rfl rfl <| o_iloadN X7 hx (D 25 rfl) rfl <| o_dup_x1 X7 hx (D 26 rfl) rfl rfl ?_
  have c9 := (Fld.other W7 pr3 (Or.inr (slot_ne (Or.inl w120) (Or.inl w134) (by decide) (t := .int) (t' := .int) (by decide) (by decide))))
  obtain ⟨T8, _, X8, rfl, W8, st8⟩ := putF X7 hx hZ hown (host := "") (Or.inl (W 119 rfl)) Via.refl rfl c9 (Exa.wr W7 pr0) (Or.inl w120) (W 110 rfl) (ty := .int) (by decide) rfl rfl (g := (mkF m 61 #[vr t_, vi (1 : Int32), vr d_] [(.int (1 : Int32)), (.ref t_), (.int (1 : Int32)), (.ref d_)])) rfl rfl (D 27 rfl)
  have N8 := Fr.snoc X8 N7 pr9
  have F8 := Fld.same W8 c9
  refine ogoF st8 <| o_aal X8 hx hZ rfl ((pr8.other W7 (Ne.symm pr11)).other W8 (Ne.symm pr11)) ⟨by decide, by decide⟩ (v := (.ref q_)) rfl (D 28 rfl) ?_
  have c10 := (Fld.other W8 (Fld.other W7 pr1 (Or.inr (slot_ne (Or.inr (W 117 rfl)) (Or.inl w134) (by decide) (t := (.object "java/util/ArrayList")) (t' := .int) (by decide) (by decide)))) (Or.inr (slot_ne (Or.inr (W 117 rfl)) (Or.inl w120) (by decide) (t := (.object "java/util/ArrayList")) (t' := .int) (by decide) (by decide))))
  have c11 := (Fld.other W8 F7 (Or.inr (slot_ne (Or.inl w134) (Or.inl w120) (by decide) (t := .int) (t' := .int) (by decide) (by decide))))
  have c12 := (Fld.other W8 (Fld.other W7 pr4 (Or.inr (slot_ne (Or.inl (W 123 rfl)) (Or.inl w134) (by decide) (t := .int) (t' := .int) (by decide) (by decide)))) (Or.inr (slot_ne (Or.inl (W 123 rfl)) (Or.inl w120) (by decide) (t := .int) (t' := .int) (by decide) (by decide))))
  exact oendR X8 hx hlk hret rfl rfl rfl (D 29 rfl) (by decide) rfl ⟨rfl, N8, (((Keep.refl h0 [t_]).wr W7 (Or.inl (List.mem_of_getElem? (i := 0) rfl))).wr W8 (Or.inl (List.mem_of_getElem? (i := 0) rfl))), (Exa.wr W8 (Exa.wr W7 pr0)), c10, c11, F8, c12⟩
theorem own_wix {i : Nat} (h : i < 64) : (Int32.ofNat i >>> ((6 : Int32) &&& 31)) = (0 : Int32) := by
  refine Int32.toInt_inj.mp ?_
  rw [c_ishr _ 6 6 rfl, Int32.toInt_ofNat_small (by omega)]
  show (i : Int) / (64 : Nat) = 0
  omega
def own_msk (i : Int32) : Int64 := (-1 : Int64) <<< (i &&& 0x3f).toInt64
def own_rng (i j : Int32) : Int64 := own_msk i &&& own_ushrL (-1 : Int64) (-j)
def own_y (x : Int32) : Int32 := (x ^^^ (-1 : Int32)) &&& (x - (1 : Int32))
def own_ntz (x : Int32) : Int32 := if (0 : Int32) < own_y x then (if (4 : Int32) < own_y x then ((3 : Int32) + own_ushr (own_ushr (own_y x) (2 : Int32)) (1 : Int32)) else ((1 : Int32) + own_ushr (own_y x) (1 : Int32))) else (own_y x &&& (32 : Int32))
def own_small (v : Int64) : Prop := ¬ v.toInt32 = (0 : Int32) ∧ ¬ (65536 : Int32) < own_y v.toInt32 ∧ ¬ (256 : Int32) < own_y v.toInt32 ∧ ¬ (16 : Int32) < own_y v.toInt32
instance (v : Int64) : Decidable (own_small v) := by unfold own_small; infer_instance
def own_nsb (w : Int64) (i : Int32) : Int32 := if (w &&& own_msk i) = (0 : Int64) then (-1 : Int32) else ((0 : Int32) + own_ntz (w &&& own_msk i).toInt32)
def own_ncb (w : Int64) (i : Int32) : Int32 := ((0 : Int32) + own_ntz ((w ^^^ (-1 : Int64)) &&& own_msk i).toInt32)
/-- what the walk knows of a BitSet made for n bits: its word w, wordsInUse u -/
def own_bw (n : Nat) (w : Int64) (u zw : Int32) (lw : List Value) : Prop := (n = 0 ∧ w = 0 ∧ u = (0 : Int32)) ∨ (0 < n ∧ zw = (1 : Int32) ∧ lw = [.long w] ∧ (u = (0 : Int32) ∧ w = 0 ∨ u = (1 : Int32)))
theorem own_bw2 {n : Nat} {w : Int64} {u zw : Int32} {lw : List Value} (h : own_bw n w u zw lw) : (u = (0 : Int32) ∧ w = 0) ∨ (u = (1 : Int32) ∧ zw = (1 : Int32) ∧ lw = [.long w]) := by
  rcases h with ⟨-, h1, h2⟩ | ⟨-, h1, h2, h3 | h3⟩
  · exact Or.inl ⟨h2, h1⟩
  · exact Or.inl h3
  · exact Or.inr ⟨h3, h1, h2⟩
abbrev cd36 : ByteArray := jdk_92_method_1_code
theorem D36 : own_DD cd36 [(0, .iload_n 0, 1), (1, .bipush 6, 2), (3, .ishr, 1), (4, .ireturn, 1)] := own_dk (by decide +kernel)
theorem own_pn9 : plainName "java/util/BitSet" = true := by first | (simp [plainName, overriddenIn]; done) | decide +kernel
def own_Q_wix (Z : State)  (i_ : Nat) (h0 : Heap) (n0 : Nat) (v : Option Value) (h : Heap) (L : List Loc) : Prop := (v = some (.int (0 : Int32))) ∧ (Fr n0 L) ∧ (h = h0)
abbrev yM35 : MethodName := ⟨"java/util/BitSet", "wordIndex", "(I)I"⟩
theorem rm_wix {l : Launch} {Z : State} {a0 : Array Value} (hw : own_hw a0 Z)   (i_ : Nat) {h0 : Heap} {n0 : Nat} (O0 : Old Z n0 h0) (pr0 : i_ < 64) :
    oMet l Z yM35 jdk_92_method_1_code 1 (some .int) [] (rmo 0 0 0 0) 0 0 #[(.int (Int32.ofNat i_))] h0 (own_Q_wix Z  i_ h0 n0) := by
  refine oenter (plainFor_of_name own_pn9) #[vi (Int32.ofNat i_)] (fun _ => rfl) ?_
  intro p e s m below meth c s₁ X0 hx hZ hby hml hret hown hnm hlk e0
  have N0 := Fr.nil n0
  have D := own_hb hby D36
  have W := own_w hw
  refine o_iloadN X0 hx (D 0 rfl) rfl <| o_bipush X0 hx 6 (D 1 rfl) rfl <| o_ishr X0 hx (D 2 rfl) ?_
  rw [own_wix (by omega)]
  exact oendI X0 hx hlk hret (D 3 rfl) (by decide) e0 ⟨rfl, N0, rfl⟩
def own_Q_wim (Z : State)   (h0 : Heap) (n0 : Nat) (v : Option Value) (h : Heap) (L : List Loc) : Prop := (v = some (.int (-1 : Int32))) ∧ (Fr n0 L) ∧ (h = h0)
theorem rm_wim {l : Launch} {Z : State} {a0 : Array Value} (hw : own_hw a0 Z)    {h0 : Heap} {n0 : Nat} (O0 : Old Z n0 h0)  :
    oMet l Z yM35 jdk_92_method_1_code 1 (some .int) [] (rmo 0 0 0 0) 0 0 #[(.int (-1 : Int32))] h0 (own_Q_wim Z   h0 n0) := by
  refine oenter (plainFor_of_name own_pn9) #[vi (-1 : Int32)] (fun _ => rfl) ?_
  intro p e s m below meth c s₁ X0 hx hZ hby hml hret hown hnm hlk e0
  have N0 := Fr.nil n0
  have D := own_hb hby D36
  have W := own_w hw
  refine o_iloadN X0 hx (D 0 rfl) rfl <| o_bipush X0 hx 6 (D 1 rfl) rfl <| o_ishr X0 hx (D 2 rfl) ?_
  exact oendI X0 hx hlk hret (D 3 rfl) (by decide) e0 ⟨rfl, N0, rfl⟩
theorem own_pd23 : parseMethodDescriptor "(I)I" = some ⟨[.int], some .int⟩ := by decide +kernel
abbrev cd37 : ByteArray := jdk_92_method_6_code
theorem D37 : own_DD cd37 [(0, .aload_n 0, 1), (1, .iload_n 1, 1), (2, .iconst 1, 1), (3, .isub, 1), (4, .invokestatic 52, 3), (7, .iconst 1, 1), (8, .iadd, 1), (9, .newarray .long, 2), (11, .putfield 11, 3), (14, .return_, 1)] := own_dk (by decide +kernel)
def own_Q_inw0 (Z : State)  (x_ : Addr) (h0 : Heap) (n0 : Nat) (v : Option Value) (h : Heap) (L : List Loc) : Prop := ∃ wa_ : Addr, ∃ kw_ : ClassId, (v = none) ∧ (Fr n0 L) ∧ (Keep h0 h [x_]) ∧ (h0.size ≤ wa_) ∧ (Exa Z h x_ "java/util/BitSet") ∧ (Fld Z h x_ "java/util/BitSet" "words" "[J" (.ref wa_)) ∧ (Fld Z h x_ "java/util/BitSet" "wordsInUse" "I" (.int (0 : Int32))) ∧ (Fld Z h x_ "java/util/BitSet" "sizeIsSticky" "Z" (.int (0 : Int32))) ∧ (Arv Z h wa_ kw_ .long (0 : Int32) [] (.long 0)) ∧ (Exa Z h wa_ "[J")
abbrev yM36 : MethodName := ⟨"java/util/BitSet", "initWords", "(I)V"⟩
theorem rm_inw0 {l : Launch} {Z : State} {a0 : Array Value} (hw : own_hw a0 Z)  {x_ : Addr}  {h0 : Heap} {n0 : Nat} (O0 : Old Z n0 h0) (pr0 : Exa Z h0 x_ "java/util/BitSet") (pr1 : Fld Z h0 x_ "java/util/BitSet" "words" "[J" .null) (pr2 : Fld Z h0 x_ "java/util/BitSet" "wordsInUse" "I" (.int (0 : Int32))) (pr3 : Fld Z h0 x_ "java/util/BitSet" "sizeIsSticky" "Z" (.int (0 : Int32))) (pr4 : n0 ≤ x_) :
    oMet l Z yM36 jdk_92_method_6_code 2 none [] (rmo 1 1 0 13) 1 0 #[(.ref x_), (.int (0 : Int32))] h0 (own_Q_inw0 Z  x_ h0 n0) := by
  refine oenter (plainFor_of_name own_pn9) #[vr x_, vi (0 : Int32)] (fun _ => rfl) ?_
  intro p e s m below meth c s₁ X0 hx hZ hby hml hret hown hnm hlk e0
  have N0 := Fr.nil n0
  have D := own_hb hby D37
  have W := own_w hw
  refine o_aloadN X0 hx (D 0 rfl) rfl rfl <| o_iloadN X0 hx (D 1 rfl) rfl <| o_iconst X0 hx 1 (D 2 rfl) rfl <| o_isub X0 hx (D 3 rfl) <| o_cS X0 hx hZ hown (rm_wim hw  O0 ) (W 188 rfl) (W 189 rfl) (W 163 rfl) (W 190 rfl) (by decide) e0 hml rfl [(.int (-1 : Int32))] [(.ref x_)] own_pd23 rfl rfl 1 rfl (by decide) (D 4 rfl) fun T1 L1 v1 X1 hQ1 => ?_
  obtain ⟨rfl, Nq1, q1⟩ := hQ1
  have N1 := Fr.app N0 Nq1
  refine o_iconst X1 hx 1 (D 5 rfl) rfl <| o_iadd X1 hx (D 6 rfl) ?_
  obtain ⟨T2, _, k2, X2, rfl, E2, A2, Ex2, st2⟩ := newPE (aty := .long) X1 hx hZ (W 191 rfl) q1 (g := (mkF m 9 #[vr x_, vi (0 : Int32)] [(.int (0 : Int32)), (.ref x_)])) rfl (D 7 rfl) rfl (by decide) (cap := 0) (by decide) (by decide) (by decide) (by decide) (ad := "[J") rfl
  obtain ⟨b2, g2⟩ : ∃ z, z = h0.size := ⟨_, rfl⟩
  rw [← g2] at A2 Ex2 st2
  have n0_b2 := own_on O0 g2
  have V2 : Arv Z T2.heap b2 k2 .long (0 : Int32) [] (.long 0) := (Arv.new A2 (by decide)).pad (pad_rep [] (.long 0) 0)
  refine ogoF st2 ?_
  obtain ⟨T3, _, X3, rfl, W3, st3⟩ := putF X2 hx hZ hown (host := "") (Or.inl (W 192 rfl)) Via.refl rfl (Fld.ext E2 pr1) (Exa.ext E2 pr0) (Or.inl (W 193 rfl)) (W 162 rfl) (ty := (.array .long)) (by decide) rfl rfl (g := (mkF m 11 #[vr x_, vi (0 : Int32)] [(.ref b2), (.ref x_)])) rfl rfl (D 8 rfl)
  have N3 := Fr.snoc X3 N1 pr4
  have F3 := Fld.same W3 (Fld.ext E2 pr1)
  refine ogoF st3 ?_
  have c4 := (Fld.other W3 (Fld.ext E2 pr2) (Or.inr (slot_ne (Or.inl (W 180 rfl)) (Or.inl (W 193 rfl)) (by decide) (t := .int) (t' := (.array .long)) (by decide) (by decide))))
  have c5 := (Fld.other W3 (Fld.ext E2 pr3) (Or.inr (slot_ne (Or.inl (W 182 rfl)) (Or.inl (W 193 rfl)) (by decide) (t := .boolean) (t' := (.array .long)) (by decide) (by decide))))
  have y6 : b2 ≠ x_ := (Nat.ne_of_gt (Nat.lt_of_lt_of_le (Nat.lt_of_lt_of_le pr0.lt (Nat.le_refl _)) (Nat.le_of_eq g2.symm)))
  exact oendV X3 hx hlk hret (D 9 rfl) (by decide) rfl ⟨b2, k2, rfl, N3, (((Keep.refl h0 [x_]).ext E2).wr W3 (Or.inl (List.mem_of_getElem? (i := 0) rfl))), (Nat.le_trans (Nat.le_refl _) (Nat.le_of_eq g2.symm)), (Exa.wr W3 (Exa.ext E2 pr0)), F3, c4, c5, (V2.other W3 y6), (Exa.wr W3 Ex2)⟩
def own_Q_inw1 (Z : State)  (x_ : Addr) (n_ : Nat) (h0 : Heap) (n0 : Nat) (v : Option Value) (h : Heap) (L : List Loc) : Prop := ∃ wa_ : Addr, ∃ kw_ : ClassId, (v = none) ∧ (Fr n0 L) ∧ (Keep h0 h [x_]) ∧ (h0.size ≤ wa_) ∧ (Exa Z h x_ "java/util/BitSet") ∧ (Fld Z h x_ "java/util/BitSet" "words" "[J" (.ref wa_)) ∧ (Fld Z h x_ "java/util/BitSet" "wordsInUse" "I" (.int (0 : Int32))) ∧ (Fld Z h x_ "java/util/BitSet" "sizeIsSticky" "Z" (.int (0 : Int32))) ∧ (Arv Z h wa_ kw_ .long (1 : Int32) [(.long 0)] (.long 0)) ∧ (Exa Z h wa_ "[J")
theorem rm_inw1 {l : Launch} {Z : State} {a0 : Array Value} (hw : own_hw a0 Z)  {x_ : Addr} (n_ : Nat) {h0 : Heap} {n0 : Nat} (O0 : Old Z n0 h0) (pr0 : Exa Z h0 x_ "java/util/BitSet") (pr1 : Fld Z h0 x_ "java/util/BitSet" "words" "[J" .null) (pr2 : Fld Z h0 x_ "java/util/BitSet" "wordsInUse" "I" (.int (0 : Int32))) (pr3 : Fld Z h0 x_ "java/util/BitSet" "sizeIsSticky" "Z" (.int (0 : Int32))) (pr4 : n0 ≤ x_) (pr5 : 0 < n_ ∧ n_ ≤ 64) :
    oMet l Z yM36 jdk_92_method_6_code 2 none [] (rmo 1 1 1 13) 1 1 #[(.ref x_), (.int (Int32.ofNat n_))] h0 (own_Q_inw1 Z  x_ n_ h0 n0) := by
  refine oenter (plainFor_of_name own_pn9) #[vr x_, vi (Int32.ofNat n_)] (fun _ => rfl) ?_
  intro p e s m below meth c s₁ X0 hx hZ hby hml hret hown hnm hlk e0
  have N0 := Fr.nil n0
  have D := own_hb hby D37
  have W := own_w hw
  refine o_aloadN X0 hx (D 0 rfl) rfl rfl <| o_iloadN X0 hx (D 1 rfl) rfl <| o_iconst X0 hx 1 (D 2 rfl) rfl <| o_isub X0 hx (D 3 rfl) ?_
  rw [show ((Int32.ofNat n_) - (1 : Int32)) = (Int32.ofNat (n_ - 1)) from XT.sub32n (a := n_) (b := 1) (by omega)]
  refine o_cS X0 hx hZ hown (rm_wix hw (n_ - 1) O0 (by first | rfl | assumption | decide | omega)) (W 188 rfl) (W 189 rfl) (W 163 rfl) (W 190 rfl) (by decide) e0 hml rfl [(.int (Int32.ofNat (n_ - 1)))] [(.ref x_)] own_pd23 rfl rfl 1 rfl (by decide) (D 4 rfl) fun T1 L1 v1 X1 hQ1 => ?_
  obtain ⟨rfl, Nq1, q1⟩ := hQ1
  have N1 := Fr.app N0 Nq1
  refine o_iconst X1 hx 1 (D 5 rfl) rfl <| o_iadd X1 hx (D 6 rfl) ?_
  obtain ⟨T2, _, k2, X2, rfl, E2, A2, Ex2, st2⟩ := newPE (aty := .long) X1 hx hZ (W 191 rfl) q1 (g := (mkF m 9 #[vr x_, vi (Int32.ofNat n_)] [(.int (1 : Int32)), (.ref x_)])) rfl (D 7 rfl) rfl (by decide) (cap := 1) (by decide) (by decide) (by decide) (by decide) (ad := "[J") rfl
  obtain ⟨b2, g2⟩ : ∃ z, z = h0.size := ⟨_, rfl⟩
  rw [← g2] at A2 Ex2 st2
  have n0_b2 := own_on O0 g2
  have V2 : Arv Z T2.heap b2 k2 .long (1 : Int32) [(.long 0)] (.long 0) := (Arv.new A2 (by decide)).pad (pad_rep [] (.long 0) 1)
  refine ogoF st2 ?_
  obtain ⟨T3, _, X3, rfl, W3, st3⟩ := putF X2 hx hZ hown (host := "") (Or.inl (W 192 rfl)) Via.refl rfl (Fld.ext E2 pr1) (Exa.ext E2 pr0) (Or.inl (W 193 rfl)) (W 162 rfl) (ty := (.array .long)) (by decide) rfl rfl (g := (mkF m 11 #[vr x_, vi (Int32.ofNat n_)] [(.ref b2), (.ref x_)])) rfl rfl (D 8 rfl)
  have N3 := Fr.snoc X3 N1 pr4
  have F3 := Fld.same W3 (Fld.ext E2 pr1)
  refine ogoF st3 ?_
  have c4 := (Fld.other W3 (Fld.ext E2 pr2) (Or.inr (slot_ne (Or.inl (W 180 rfl)) (Or.inl (W 193 rfl)) (by decide) (t := .int) (t' := (.array .long)) (by decide) (by decide))))
  have c5 := (Fld.other W3 (Fld.ext E2 pr3) (Or.inr (slot_ne (Or.inl (W 182 rfl)) (Or.inl (W 193 rfl)) (by decide) (t := .boolean) (t' := (.array .long)) (by decide) (by decide))))
  have y6 : b2 ≠ x_ := (Nat.ne_of_gt (Nat.lt_of_lt_of_le (Nat.lt_of_lt_of_le pr0.lt (Nat.le_refl _)) (Nat.le_of_eq g2.symm)))
  exact oendV X3 hx hlk hret (D 9 rfl) (by decide) rfl ⟨b2, k2, rfl, N3, (((Keep.refl h0 [x_]).ext E2).wr W3 (Or.inl (List.mem_of_getElem? (i := 0) rfl))), (Nat.le_trans (Nat.le_refl _) (Nat.le_of_eq g2.symm)), (Exa.wr W3 (Exa.ext E2 pr0)), F3, c4, c5, (V2.other W3 y6), (Exa.wr W3 Ex2)⟩
theorem own_pd24 : parseMethodDescriptor "(I)V" = some ⟨[.int], none⟩ := by decide +kernel
abbrev cd38 : ByteArray := jdk_92_method_5_code
theorem D38 : own_DD cd38 [(0, .aload_n 0, 1), (1, .invokespecial 21, 3), (4, .aload_n 0, 1), (5, .iconst 0, 1), (6, .putfield 7, 3), (9, .aload_n 0, 1), (10, .iconst 0, 1), (11, .putfield 24, 3), (14, .iload_n 1, 1), (15, .ifCond .ge 30, 3), (45, .aload_n 0, 1), (46, .iload_n 1, 1), (47, .invokevirtual 27, 3), (50, .aload_n 0, 1), (51, .iconst 1, 1), (52, .putfield 24, 3), (55, .return_, 1)] := own_dk (by decide +kernel)
def own_Q_bsi (Z : State)  (x_ : Addr) (n_ : Nat) (h0 : Heap) (n0 : Nat) (v : Option Value) (h : Heap) (L : List Loc) : Prop := ∃ wa_ : Addr, ∃ kw_ : ClassId, ∃ zw_ : Int32, ∃ lw_ : List Value, (v = none) ∧ (Fr n0 L) ∧ (Keep h0 h [x_]) ∧ (h0.size ≤ wa_) ∧ (Exa Z h x_ "java/util/BitSet") ∧ (Fld Z h x_ "java/util/BitSet" "words" "[J" (.ref wa_)) ∧ (Fld Z h x_ "java/util/BitSet" "wordsInUse" "I" (.int (0 : Int32))) ∧ (Arv Z h wa_ kw_ .long zw_ lw_ (.long 0)) ∧ (Exa Z h wa_ "[J") ∧ ((n_ = 0 ∧ zw_ = (0 : Int32) ∧ lw_ = []) ∨ (0 < n_ ∧ zw_ = (1 : Int32) ∧ lw_ = [.long 0]))
abbrev yM37 : MethodName := ⟨"java/util/BitSet", "<init>", "(I)V"⟩
theorem rm_bsi {l : Launch} {Z : State} {a0 : Array Value} (hw : own_hw a0 Z)  {x_ : Addr} (n_ : Nat) {h0 : Heap} {n0 : Nat} (O0 : Old Z n0 h0) (pr0 : Exa Z h0 x_ "java/util/BitSet") (pr1 : Fld Z h0 x_ "java/util/BitSet" "words" "[J" .null) (pr2 : Fld Z h0 x_ "java/util/BitSet" "wordsInUse" "I" (.int (0 : Int32))) (pr3 : Fld Z h0 x_ "java/util/BitSet" "sizeIsSticky" "Z" (.int (0 : Int32))) (pr4 : n0 ≤ x_) (pr5 : n_ ≤ 4) :
    oMet l Z yM37 jdk_92_method_5_code 2 none [] (rmo 2 1 1 26) 1 1 #[(.ref x_), (.int (Int32.ofNat n_))] h0 (own_Q_bsi Z  x_ n_ h0 n0) := by
  refine oenter (plainFor_of_name own_pn9) #[vr x_, vi (Int32.ofNat n_)] (fun _ => rfl) ?_
  intro p e s m below meth c s₁ X0 hx hZ hby hml hret hown hnm hlk e0
  have N0 := Fr.nil n0
  have D := own_hb hby D38
  have W := own_w hw
  have w162 := W 162 rfl
  have w180 := W 180 rfl
  have w182 := W 182 rfl
  have w193 := W 193 rfl
  refine o_aloadN X0 hx (D 0 rfl) rfl rfl ?_
  obtain ⟨T1, X1, e1, st1⟩ := initO X0 hx hZ hown (W 178 rfl) (W 21 rfl) (W 22 rfl) e0 (g := (mkF m 1 #[vr x_, vi (Int32.ofNat n_)] [(.ref x_)])) rfl (by rw [hml]; rfl) rfl (D 1 rfl) (by decide) (W := 0) (by show 2 * 0 + _ ≤ _; exact Nat.le_of_eq rfl) (by decide)
  refine ogoF st1 <| o_aloadN X1 hx (D 2 rfl) rfl rfl <| o_iconst X1 hx 0 (D 3 rfl) rfl ?_
  obtain ⟨T2, _, X2, rfl, W2, st2⟩ := putF X1 hx hZ hown (host := "") (Or.inl (W 179 rfl)) Via.refl e1 pr2 pr0 (Or.inl w180) w162 (ty := .int) (by decide) rfl rfl (g := (mkF m 6 #[vr x_, vi (Int32.ofNat n_)] [(.int (0 : Int32)), (.ref x_)])) rfl rfl (D 4 rfl)
  have N2 := Fr.snoc X2 N0 pr4
  have F2 := Fld.same W2 pr2
  refine ogoF st2 <| o_aloadN X2 hx (D 5 rfl) rfl rfl <| o_iconst X2 hx 0 (D 6 rfl) rfl ?_
  have c4 := (Fld.other W2 pr3 (Or.inr (slot_ne (Or.inl w182) (Or.inl w180) (by decide) (t := .boolean) (t' := .int) (by decide) (by decide))))
  obtain ⟨T3, _, X3, rfl, W3, st3⟩ := putFN X2 hx hZ hown (W 181 rfl) Via.refl rfl c4 (Exa.wr W2 pr0) (Or.inl w182) w162 (ty := .boolean) (v' := (.int (0 : Int32))) (by decide) rfl (by decide) (g := (mkF m 11 #[vr x_, vi (Int32.ofNat n_)] [(.int (0 : Int32)), (.ref x_)])) rfl rfl (D 7 rfl)
  have N3 := Fr.snoc X3 N2 pr4
  have F3 := Fld.same W3 c4
  refine ogoF st3 <| o_iloadN X3 hx (D 8 rfl) rfl <| o_ifYes X3 hx 45 (D 9 rfl) (flt (show ¬ ((Int32.ofNat n_) < (0 : Int32)) from XT.nlt32 (a := n_) (b := 0) (by omega) (by omega))).2.1 rfl <| o_aloadN X3 hx (D 10 rfl) rfl rfl <| o_iloadN X3 hx (D 11 rfl) rfl ?_
  by_cases hc6 : n_ = 0
  · rw [show Int32.ofNat n_ = (0 : Int32) from by rw [hc6]; rfl]
    have c8 := (Fld.other W3 (Fld.other W2 pr1 (Or.inr (slot_ne (Or.inl w193) (Or.inl w180) (by decide) (t := (.array .long)) (t' := .int) (by decide) (by decide)))) (Or.inr (slot_ne (Or.inl w193) (Or.inl w182) (by decide) (t := (.array .long)) (t' := .boolean) (by decide) (by decide))))
    have c9 := (Fld.other W3 F2 (Or.inr (slot_ne (Or.inl w180) (Or.inl w182) (by decide) (t := .int) (t' := .boolean) (by decide) (by decide))))
    refine o_cP X3 hx hZ hown (rm_inw0 hw  ((O0.wr W2 pr4).wr W3 pr4) (Exa.wr W3 (Exa.wr W2 pr0)) c8 c9 F3 pr4) (W 183 rfl) (W 184 rfl) (W 186 rfl) (W 185 rfl) (W 163 rfl) (W 187 rfl) (by decide) rfl (Exa.wr W3 (Exa.wr W2 pr0)) hml rfl [(.int (0 : Int32))] [] own_pd24 rfl rfl 0 rfl (by decide) (D 12 rfl) fun T7 L7 v7 X7 hQ7 => ?_
    obtain ⟨wa_7, kw_7, rfl, Nq7, K7, p7_0, p7_1, p7_2, p7_3, p7_4, p7_5, p7_6⟩ := hQ7
    have N7 := Fr.app N3 Nq7
    have z10 := Nat.le_trans (Keep.of_wr W2).1 (Keep.of_wr W3).1
    have n0_wa_7 := own_og O0 (Nat.le_trans z10 p7_0)
    refine o_aloadN X7 hx (D 13 rfl) rfl rfl <| o_iconst X7 hx 1 (D 14 rfl) rfl ?_
    obtain ⟨T11, _, X11, rfl, W11, st11⟩ := putFN X7 hx hZ hown (W 181 rfl) Via.refl rfl p7_4 p7_1 (Or.inl w182) w162 (ty := .boolean) (v' := (.int (1 : Int32))) (by decide) rfl (by decide) (g := (mkF m 52 #[vr x_, vi (0 : Int32)] [(.int (1 : Int32)), (.ref x_)])) rfl rfl (D 15 rfl)
    have N11 := Fr.snoc X11 N7 pr4
    have F11 := Fld.same W11 p7_4
    refine ogoF st11 ?_
    have c12 := (Fld.other W11 p7_2 (Or.inr (slot_ne (Or.inl w193) (Or.inl w182) (by decide) (t := (.array .long)) (t' := .boolean) (by decide) (by decide))))
    have c13 := (Fld.other W11 p7_3 (Or.inr (slot_ne (Or.inl w180) (Or.inl w182) (by decide) (t := .int) (t' := .boolean) (by decide) (by decide))))
    have y14 : wa_7 ≠ x_ := (Nat.ne_of_gt (Nat.lt_of_lt_of_le (Nat.lt_of_lt_of_le pr0.lt z10) p7_0))
    exact oendV X11 hx hlk hret (D 16 rfl) (by decide) rfl ⟨wa_7, kw_7, (0 : Int32), [], rfl, N11, (((((Keep.refl h0 [x_]).wr W2 (Or.inl (List.mem_of_getElem? (i := 0) rfl))).wr W3 (Or.inl (List.mem_of_getElem? (i := 0) rfl))).trans K7 (allS (Or.inl (List.mem_of_getElem? (i := 0) rfl)) all0)).wr W11 (Or.inl (List.mem_of_getElem? (i := 0) rfl))), (Nat.le_trans z10 p7_0), (Exa.wr W11 p7_1), c12, c13, (p7_5.other W11 y14), (Exa.wr W11 p7_6), (Or.inl ⟨hc6, rfl, rfl⟩)⟩
  · have hn0 : 0 < n_ ∧ n_ ≤ 64 := by omega
    have c16 := (Fld.other W3 (Fld.other W2 pr1 (Or.inr (slot_ne (Or.inl w193) (Or.inl w180) (by decide) (t := (.array .long)) (t' := .int) (by decide) (by decide)))) (Or.inr (slot_ne (Or.inl w193) (Or.inl w182) (by decide) (t := (.array .long)) (t' := .boolean) (by decide) (by decide))))
    have c17 := (Fld.other W3 F2 (Or.inr (slot_ne (Or.inl w180) (Or.inl w182) (by decide) (t := .int) (t' := .boolean) (by decide) (by decide))))
    refine o_cP X3 hx hZ hown (rm_inw1 hw n_ ((O0.wr W2 pr4).wr W3 pr4) (Exa.wr W3 (Exa.wr W2 pr0)) c16 c17 F3 pr4 hn0) (W 183 rfl) (W 184 rfl) (W 186 rfl) (W 185 rfl) (W 163 rfl) (W 187 rfl) (by decide) rfl (Exa.wr W3 (Exa.wr W2 pr0)) hml rfl [(.int (Int32.ofNat n_))] [] own_pd24 rfl rfl 0 rfl (by decide) (D 12 rfl) fun T15 L15 v15 X15 hQ15 => ?_
    obtain ⟨wa_15, kw_15, rfl, Nq15, K15, p15_0, p15_1, p15_2, p15_3, p15_4, p15_5, p15_6⟩ := hQ15
    have N15 := Fr.app N3 Nq15
    have z18 := Nat.le_trans (Keep.of_wr W2).1 (Keep.of_wr W3).1
    have n0_wa_15 := own_og O0 (Nat.le_trans z18 p15_0)
    refine o_aloadN X15 hx (D 13 rfl) rfl rfl <| o_iconst X15 hx 1 (D 14 rfl) rfl ?_
    obtain ⟨T19, _, X19, rfl, W19, st19⟩ := putFN X15 hx hZ hown (W 181 rfl) Via.refl rfl p15_4 p15_1 (Or.inl w182) w162 (ty := .boolean) (v' := (.int (1 : Int32))) (by decide) rfl (by decide) (g := (mkF m 52 #[vr x_, vi (Int32.ofNat n_)] [(.int (1 : Int32)), (.ref x_)])) rfl rfl (D 15 rfl)
    have N19 := Fr.snoc X19 N15 pr4
    have F19 := Fld.same W19 p15_4
    refine ogoF st19 ?_
    have c20 := (Fld.other W19 p15_2 (Or.inr (slot_ne (Or.inl w193) (Or.inl w182) (by decide) (t := (.array .long)) (t' := .boolean) (by decide) (by decide))))
    have c21 := (Fld.other W19 p15_3 (Or.inr (slot_ne (Or.inl w180) (Or.inl w182) (by decide) (t := .int) (t' := .boolean) (by decide) (by decide))))
    have y22 : wa_15 ≠ x_ := (Nat.ne_of_gt (Nat.lt_of_lt_of_le (Nat.lt_of_lt_of_le pr0.lt z18) p15_0))
    exact oendV X19 hx hlk hret (D 16 rfl) (by decide) rfl ⟨wa_15, kw_15, (1 : Int32), [(.long 0)], rfl, N19, (((((Keep.refl h0 [x_]).wr W2 (Or.inl (List.mem_of_getElem? (i := 0) rfl))).wr W3 (Or.inl (List.mem_of_getElem? (i := 0) rfl))).trans K15 (allS (Or.inl (List.mem_of_getElem? (i := 0) rfl)) all0)).wr W19 (Or.inl (List.mem_of_getElem? (i := 0) rfl))), (Nat.le_trans z18 p15_0), (Exa.wr W19 p15_1), c20, c21, (p15_5.other W19 y22), (Exa.wr W19 p15_6), (Or.inr ⟨hn0.1, rfl, rfl⟩)⟩
abbrev cd39 : ByteArray := jdk_92_method_2_code
theorem D39 : own_DD cd39 [(0, .getstatic 3, 3), (3, .ifCond .ne 34, 3), (37, .getstatic 3, 3), (40, .ifCond .ne 30, 3), (70, .getstatic 3, 3), (73, .ifCond .ne 37, 3), (110, .return_, 1)] := own_dk (by decide +kernel)
def own_Q_cki (Z : State) (z_CS : Int32) (v_FMT : Value) (s_DC : Addr) (k_DC : ClassId) (v_IO : Value) (x_ : Addr) (h0 : Heap) (n0 : Nat) (v : Option Value) (h : Heap) (L : List Loc) : Prop := (v = none) ∧ (Fr n0 L) ∧ (h = h0)
abbrev yM38 : MethodName := ⟨"java/util/BitSet", "checkInvariants", "()V"⟩
theorem rm_cki {l : Launch} {Z : State} {a0 : Array Value} (hw : own_hw a0 Z) {z_CS : Int32} {v_FMT : Value} {s_DC : Addr} {k_DC : ClassId} {v_IO : Value}  (x_ : Addr) {h0 : Heap} {n0 : Nat} (SB : own_Start Z z_CS v_FMT s_DC k_DC v_IO) (O0 : Old Z n0 h0)  :
    oMet l Z yM38 jdk_92_method_2_code 1 none [] (rmo 0 0 0 0) 0 0 #[(.ref x_)] h0 (own_Q_cki Z z_CS v_FMT s_DC k_DC v_IO x_ h0 n0) := by
  refine oenter (plainFor_of_name own_pn9) #[vr x_] (fun _ => rfl) ?_
  intro p e s m below meth c s₁ X0 hx hZ hby hml hret hown hnm hlk e0
  have N0 := Fr.nil n0
  have D := own_hb hby D39
  obtain ⟨-, -, S__assertionsDisabled, -⟩ := (id SB)
  have W := own_w hw
  refine o_getS X0 hx hZ hown (host := "") (Or.inl (W 227 rfl)) Via.refl e0 (Sta.ext O0.2 S__assertionsDisabled) (D 0 rfl) fun T1 X1 e1 => o_ifYes X1 hx 37 (D 1 rfl) (feq (by decide : ¬ ((1 : Int32) = (0 : Int32)))).2 rfl <| o_getS X1 hx hZ hown (host := "") (Or.inl (W 227 rfl)) Via.refl e1 (Sta.ext O0.2 S__assertionsDisabled) (D 2 rfl) fun T2 X2 e2 => o_ifYes X2 hx 70 (D 3 rfl) (feq (by decide : ¬ ((1 : Int32) = (0 : Int32)))).2 rfl <| o_getS X2 hx hZ hown (host := "") (Or.inl (W 227 rfl)) Via.refl e2 (Sta.ext O0.2 S__assertionsDisabled) (D 4 rfl) fun T3 X3 e3 => o_ifYes X3 hx 110 (D 5 rfl) (feq (by decide : ¬ ((1 : Int32) = (0 : Int32)))).2 rfl ?_
  exact oendV X3 hx hlk hret (D 6 rfl) (by decide) e3 ⟨rfl, N0, rfl⟩
abbrev cd40 : ByteArray := jdk_92_method_16_code
theorem D40 : own_DD cd40 [(0, .iload_n 0, 1), (1, .ifCond .ge 30, 3), (31, .iload_n 1, 1), (32, .ifCond .ge 30, 3), (62, .iload_n 0, 1), (63, .iload_n 1, 1), (64, .if_icmp .le 39, 3), (103, .return_, 1)] := own_dk (by decide +kernel)
def own_Q_ckr (Z : State)  (i_ j_ : Nat) (h0 : Heap) (n0 : Nat) (v : Option Value) (h : Heap) (L : List Loc) : Prop := (v = none) ∧ (Fr n0 L) ∧ (h = h0)
abbrev yM39 : MethodName := ⟨"java/util/BitSet", "checkRange", "(II)V"⟩
theorem rm_ckr {l : Launch} {Z : State} {a0 : Array Value} (hw : own_hw a0 Z)   (i_ j_ : Nat) {h0 : Heap} {n0 : Nat} (O0 : Old Z n0 h0) (pr0 : i_ < j_ ∧ j_ ≤ 64) :
    oMet l Z yM39 jdk_92_method_16_code 2 none [] (rmo 0 0 0 0) 0 0 #[(.int (Int32.ofNat i_)), (.int (Int32.ofNat j_))] h0 (own_Q_ckr Z  i_ j_ h0 n0) := by
  refine oenter (plainFor_of_name own_pn9) #[vi (Int32.ofNat i_), vi (Int32.ofNat j_)] (fun _ => rfl) ?_
  intro p e s m below meth c s₁ X0 hx hZ hby hml hret hown hnm hlk e0
  have N0 := Fr.nil n0
  have D := own_hb hby D40
  have W := own_w hw
  refine o_iloadN X0 hx (D 0 rfl) rfl <| o_ifYes X0 hx 31 (D 1 rfl) (flt (show ¬ ((Int32.ofNat i_) < (0 : Int32)) from XT.nlt32 (a := i_) (b := 0) (by omega) (by omega))).2.1 rfl <| o_iloadN X0 hx (D 2 rfl) rfl <| o_ifYes X0 hx 62 (D 3 rfl) (flt (show ¬ ((Int32.ofNat j_) < (0 : Int32)) from XT.nlt32 (a := j_) (b := 0) (by omega) (by omega))).2.1 rfl <| o_iloadN X0 hx (D 4 rfl) rfl <| o_iloadN X0 hx (D 5 rfl) rfl <| o_icmpYes X0 hx 103 (D 6 rfl) (flt (show ¬ ((Int32.ofNat j_) < (Int32.ofNat i_)) from XT.nlt32 (a := j_) (b := i_) (by omega) (by omega))).2.2.2 rfl ?_
  exact oendV X0 hx hlk hret (D 7 rfl) (by decide) e0 ⟨rfl, N0, rfl⟩
abbrev cd41 : ByteArray := jdk_92_method_14_code
theorem D41 : own_DD cd41 [(0, .aload_n 0, 1), (1, .getfield 11, 3), (4, .arraylength, 1), (5, .iload_n 1, 1), (6, .if_icmp .ge 32, 3), (38, .return_, 1)] := own_dk (by decide +kernel)
def own_Q_enc (Z : State)  (x_ wa_ : Addr) (kw_ : ClassId) (w_ : Int64) (h0 : Heap) (n0 : Nat) (v : Option Value) (h : Heap) (L : List Loc) : Prop := (v = none) ∧ (Fr n0 L) ∧ (h = h0)
abbrev yM40 : MethodName := ⟨"java/util/BitSet", "ensureCapacity", "(I)V"⟩
theorem rm_enc {l : Launch} {Z : State} {a0 : Array Value} (hw : own_hw a0 Z)  {x_ wa_ : Addr} {kw_ : ClassId} {w_ : Int64}  {h0 : Heap} {n0 : Nat} (O0 : Old Z n0 h0) (pr0 : Fld Z h0 x_ "java/util/BitSet" "words" "[J" (.ref wa_)) (pr1 : Arv Z h0 wa_ kw_ .long (1 : Int32) [(.long w_)] (.long 0)) :
    oMet l Z yM40 jdk_92_method_14_code 3 none [] (rmo 0 0 0 0) 0 0 #[(.ref x_), (.int (1 : Int32))] h0 (own_Q_enc Z  x_ wa_ kw_ w_ h0 n0) := by
  refine oenter (plainFor_of_name own_pn9) #[vr x_, vi (1 : Int32), .unset] (fun _ => rfl) ?_
  intro p e s m below meth c s₁ X0 hx hZ hby hml hret hown hnm hlk e0
  have N0 := Fr.nil n0
  have D := own_hb hby D41
  have W := own_w hw
  refine o_aloadN X0 hx (D 0 rfl) rfl rfl <| o_getF X0 hx hZ hown (host := "") (Or.inl (W 192 rfl)) Via.refl e0 pr0 (D 1 rfl) fun T1 X1 e1 => o_alen X1 hx hZ e1 pr1 (D 2 rfl) <| o_iloadN X1 hx (D 3 rfl) rfl <| o_icmpYes X1 hx 38 (D 4 rfl) (flt (by decide : ¬ ((1 : Int32) < (1 : Int32)))).2.1 rfl ?_
  exact oendV X1 hx hlk hret (D 5 rfl) (by decide) e1 ⟨rfl, N0, rfl⟩
abbrev cd42 : ByteArray := jdk_92_method_15_code
theorem D42 : own_DD cd42 [(0, .iload_n 1, 1), (1, .iconst 1, 1), (2, .iadd, 1), (3, .istore_n 2, 1), (4, .aload_n 0, 1), (5, .getfield 7, 3), (8, .iload_n 2, 1), (9, .if_icmp .ge 13, 3), (12, .aload_n 0, 1), (13, .iload_n 2, 1), (14, .invokevirtual 139, 3), (17, .aload_n 0, 1), (18, .iload_n 2, 1), (19, .putfield 7, 3), (22, .return_, 1)] := own_dk (by decide +kernel)
def own_Q_ex0 (Z : State)  (x_ wa_ : Addr) (kw_ : ClassId) (w_ : Int64) (h0 : Heap) (n0 : Nat) (v : Option Value) (h : Heap) (L : List Loc) : Prop := (v = none) ∧ (Fr n0 L) ∧ (Keep h0 h [x_]) ∧ (Exa Z h x_ "java/util/BitSet") ∧ (Fld Z h x_ "java/util/BitSet" "words" "[J" (.ref wa_)) ∧ (Fld Z h x_ "java/util/BitSet" "wordsInUse" "I" (.int (1 : Int32)))
abbrev yM41 : MethodName := ⟨"java/util/BitSet", "expandTo", "(I)V"⟩
theorem rm_ex0 {l : Launch} {Z : State} {a0 : Array Value} (hw : own_hw a0 Z)  {x_ wa_ : Addr} {kw_ : ClassId} {w_ : Int64}  {h0 : Heap} {n0 : Nat} (O0 : Old Z n0 h0) (pr0 : Exa Z h0 x_ "java/util/BitSet") (pr1 : Fld Z h0 x_ "java/util/BitSet" "words" "[J" (.ref wa_)) (pr2 : Fld Z h0 x_ "java/util/BitSet" "wordsInUse" "I" (.int (0 : Int32))) (pr3 : Arv Z h0 wa_ kw_ .long (1 : Int32) [(.long w_)] (.long 0)) (pr4 : n0 ≤ x_) :
    oMet l Z yM41 jdk_92_method_15_code 3 none [] (rmo 1 0 0 14) 0 0 #[(.ref x_), (.int (0 : Int32))] h0 (own_Q_ex0 Z  x_ wa_ kw_ w_ h0 n0) := by
  refine oenter (plainFor_of_name own_pn9) #[vr x_, vi (0 : Int32), .unset] (fun _ => rfl) ?_
  intro p e s m below meth c s₁ X0 hx hZ hby hml hret hown hnm hlk e0
  have N0 := Fr.nil n0
  have D := own_hb hby D42
  have W := own_w hw
  refine o_iloadN X0 hx (D 0 rfl) rfl <| o_iconst X0 hx 1 (D 1 rfl) rfl <| o_iadd X0 hx (D 2 rfl) <| o_istoreN X0 hx (l' := #[vr x_, vi (0 : Int32), vi (1 : Int32)]) (D 3 rfl) rfl <| o_aloadN X0 hx (D 4 rfl) rfl rfl <| o_getF X0 hx hZ hown (host := "") (Or.inl (W 179 rfl)) Via.refl e0 pr2 (D 5 rfl) fun T1 X1 e1 => o_iloadN X1 hx (D 6 rfl) rfl <| o_icmpNo X1 hx (D 7 rfl) (tlt (by decide : (0 : Int32) < (1 : Int32))).2.1 <| o_aloadN X1 hx (D 8 rfl) rfl rfl <| o_iloadN X1 hx (D 9 rfl) rfl <| o_cP X1 hx hZ hown (rm_enc hw  O0 pr1 pr3) (W 399 rfl) (W 400 rfl) (W 402 rfl) (W 401 rfl) (W 163 rfl) (W 403 rfl) (by decide) e1 pr0 hml rfl [(.int (1 : Int32))] [] own_pd24 rfl rfl 0 rfl (by decide) (D 10 rfl) fun T2 L2 v2 X2 hQ2 => ?_
  obtain ⟨rfl, Nq2, q2⟩ := hQ2
  have N2 := Fr.app N0 Nq2
  refine o_aloadN X2 hx (D 11 rfl) rfl rfl <| o_iloadN X2 hx (D 12 rfl) rfl ?_
  obtain ⟨T3, _, X3, rfl, W3, st3⟩ := putF X2 hx hZ hown (host := "") (Or.inl (W 179 rfl)) Via.refl q2 pr2 pr0 (Or.inl (W 180 rfl)) (W 162 rfl) (ty := .int) (by decide) rfl rfl (g := (mkF m 19 #[vr x_, vi (0 : Int32), vi (1 : Int32)] [(.int (1 : Int32)), (.ref x_)])) rfl rfl (D 13 rfl)
  have N3 := Fr.snoc X3 N2 pr4
  have F3 := Fld.same W3 pr2
  refine ogoF st3 ?_
  have c4 := (Fld.other W3 pr1 (Or.inr (slot_ne (Or.inl (W 193 rfl)) (Or.inl (W 180 rfl)) (by decide) (t := (.array .long)) (t' := .int) (by decide) (by decide))))
  exact oendV X3 hx hlk hret (D 14 rfl) (by decide) rfl ⟨rfl, N3, ((Keep.refl h0 [x_]).wr W3 (Or.inl (List.mem_of_getElem? (i := 0) rfl))), (Exa.wr W3 pr0), c4, F3⟩
def own_Q_ex1 (Z : State)  (x_ wa_ : Addr) (kw_ : ClassId) (w_ : Int64) (h0 : Heap) (n0 : Nat) (v : Option Value) (h : Heap) (L : List Loc) : Prop := (v = none) ∧ (Fr n0 L) ∧ (h = h0)
theorem rm_ex1 {l : Launch} {Z : State} {a0 : Array Value} (hw : own_hw a0 Z)  {x_ wa_ : Addr} {kw_ : ClassId} {w_ : Int64}  {h0 : Heap} {n0 : Nat} (O0 : Old Z n0 h0) (pr0 : Exa Z h0 x_ "java/util/BitSet") (pr1 : Fld Z h0 x_ "java/util/BitSet" "words" "[J" (.ref wa_)) (pr2 : Fld Z h0 x_ "java/util/BitSet" "wordsInUse" "I" (.int (1 : Int32))) (pr3 : Arv Z h0 wa_ kw_ .long (1 : Int32) [(.long w_)] (.long 0)) :
    oMet l Z yM41 jdk_92_method_15_code 3 none [] (rmo 0 0 0 0) 0 0 #[(.ref x_), (.int (0 : Int32))] h0 (own_Q_ex1 Z  x_ wa_ kw_ w_ h0 n0) := by
  refine oenter (plainFor_of_name own_pn9) #[vr x_, vi (0 : Int32), .unset] (fun _ => rfl) ?_
  intro p e s m below meth c s₁ X0 hx hZ hby hml hret hown hnm hlk e0
  have N0 := Fr.nil n0
  have D := own_hb hby D42
  have W := own_w hw
  refine o_iloadN X0 hx (D 0 rfl) rfl <| o_iconst X0 hx 1 (D 1 rfl) rfl <| o_iadd X0 hx (D 2 rfl) <| o_istoreN X0 hx (l' := #[vr x_, vi (0 : Int32), vi (1 : Int32)]) (D 3 rfl) rfl <| o_aloadN X0 hx (D 4 rfl) rfl rfl <| o_getF X0 hx hZ hown (host := "") (Or.inl (W 179 rfl)) Via.refl e0 pr2 (D 5 rfl) fun T1 X1 e1 => o_iloadN X1 hx (D 6 rfl) rfl <| o_icmpYes X1 hx 22 (D 7 rfl) (flt (by decide : ¬ ((1 : Int32) < (1 : Int32)))).2.1 rfl ?_
  exact oendV X1 hx hlk hret (D 14 rfl) (by decide) e1 ⟨rfl, N0, rfl⟩
abbrev cd43 : ByteArray := jdk_92_method_21_code
theorem D43 : own_DD cd43 [(0, .iload_n 1, 1), (1, .iload_n 2, 1), (2, .invokestatic 161, 3), (5, .iload_n 1, 1), (6, .iload_n 2, 1), (7, .if_icmp .ne 4, 3), (11, .iload_n 1, 1), (12, .invokestatic 52, 3), (15, .istore_n 3, 1), (16, .iload_n 2, 1), (17, .iconst 1, 1), (18, .isub, 1), (19, .invokestatic 52, 3), (22, .istore 4, 2), (24, .aload_n 0, 1), (25, .iload 4, 2), (27, .invokevirtual 155, 3), (30, .ldc2_w 165, 3), (33, .iload_n 1, 1), (34, .lshl, 1), (35, .lstore 5, 2), (37, .ldc2_w 165, 3), (40, .iload_n 2, 1), (41, .ineg, 1), (42, .lushr, 1), (43, .lstore 7, 2), (45, .iload_n 3, 1), (46, .iload 4, 2), (48, .if_icmp .ne 20, 3), (51, .aload_n 0, 1), (52, .getfield 11, 3), (55, .iload_n 3, 1), (56, .dup2, 1), (57, .laload, 1), (58, .lload 5, 2), (60, .lload 7, 2), (62, .land, 1), (63, .lor, 1), (64, .lastore, 1), (65, .goto 54, 3), (119, .aload_n 0, 1), (120, .invokevirtual 56, 3), (123, .return_, 1)] := own_dk (by decide +kernel)
def own_Q_setb (Z : State) (z_CS : Int32) (v_FMT : Value) (s_DC : Addr) (k_DC : ClassId) (v_IO : Value) (x_ wa_ : Addr) (kw_ : ClassId) (w_ : Int64) (u_ : Int32) (i_ j_ : Nat) (h0 : Heap) (n0 : Nat) (v : Option Value) (h : Heap) (L : List Loc) : Prop := (v = none) ∧ (Fr n0 L) ∧ (Keep h0 h [x_, wa_]) ∧ (Exa Z h x_ "java/util/BitSet") ∧ (Fld Z h x_ "java/util/BitSet" "words" "[J" (.ref wa_)) ∧ (Fld Z h x_ "java/util/BitSet" "wordsInUse" "I" (.int (1 : Int32))) ∧ (Arv Z h wa_ kw_ .long (1 : Int32) [(.long (w_ ||| (own_rng (Int32.ofNat i_) (Int32.ofNat j_))))] (.long 0))
abbrev yM42 : MethodName := ⟨"java/util/BitSet", "set", "(II)V"⟩
theorem rm_setb {l : Launch} {Z : State} {a0 : Array Value} (hw : own_hw a0 Z) {z_CS : Int32} {v_FMT : Value} {s_DC : Addr} {k_DC : ClassId} {v_IO : Value} {x_ wa_ : Addr} {kw_ : ClassId} {w_ : Int64} {u_ : Int32} (i_ j_ : Nat) {h0 : Heap} {n0 : Nat} (SB : own_Start Z z_CS v_FMT s_DC k_DC v_IO) (O0 : Old Z n0 h0) (pr0 : Exa Z h0 x_ "java/util/BitSet") (pr1 : Fld Z h0 x_ "java/util/BitSet" "words" "[J" (.ref wa_)) (pr2 : Fld Z h0 x_ "java/util/BitSet" "wordsInUse" "I" (.int u_)) (pr3 : Arv Z h0 wa_ kw_ .long (1 : Int32) [(.long w_)] (.long 0)) (pr4 : n0 ≤ x_) (pr5 : n0 ≤ wa_) (pr6 : Exa Z h0 wa_ "[J") (pr7 : i_ < j_ ∧ j_ ≤ 64) (pr8 : u_ = (0 : Int32) ∨ u_ = (1 : Int32)) :
    oMet l Z yM42 jdk_92_method_21_code 10 none [] (rmo 2 0 0 28) 0 0 #[(.ref x_), (.int (Int32.ofNat i_)), (.int (Int32.ofNat j_))] h0 (own_Q_setb Z z_CS v_FMT s_DC k_DC v_IO x_ wa_ kw_ w_ u_ i_ j_ h0 n0) := by
  refine oenter (plainFor_of_name own_pn9) #[vr x_, vi (Int32.ofNat i_), vi (Int32.ofNat j_), .unset, .unset, .unset, .unset, .unset, .unset, .unset] (fun _ => rfl) ?_
  intro p e s m below meth c s₁ X0 hx hZ hby hml hret hown hnm hlk e0
  have N0 := Fr.nil n0
  have D := own_hb hby D43
  have W := own_w hw
  have w163 := W 163 rfl
  have w188 := W 188 rfl
  have w189 := W 189 rfl
  have w190 := W 190 rfl
  have w404 := W 404 rfl
  rcases pr8 with hu | hu
  · have Fu : Fld Z h0 x_ "java/util/BitSet" "wordsInUse" "I" (.int (0 : Int32)) := by have q := pr2; rw [hu] at q; exact q
    refine o_iloadN X0 hx (D 0 rfl) rfl <| o_iloadN X0 hx (D 1 rfl) rfl <| o_cS X0 hx hZ hown (rm_ckr hw i_ j_ O0 pr7) (W 391 rfl) (W 392 rfl) w163 (W 393 rfl) (by decide) e0 hml rfl [(.int (Int32.ofNat i_)), (.int (Int32.ofNat j_))] [] own_pd2 rfl rfl 0 rfl (by decide) (D 2 rfl) fun T1 L1 v1 X1 hQ1 => ?_
    obtain ⟨rfl, Nq1, q1⟩ := hQ1
    have N1 := Fr.app N0 Nq1
    refine o_iloadN X1 hx (D 3 rfl) rfl <| o_iloadN X1 hx (D 4 rfl) rfl <| o_icmpYes X1 hx 11 (D 5 rfl) (feq (show ¬ ((Int32.ofNat i_) = (Int32.ofNat j_)) from XT.ne32 (a := i_) (b := j_) (by omega) (by omega) (by omega))).2 rfl <| o_iloadN X1 hx (D 6 rfl) rfl <| o_cS X1 hx hZ hown (rm_wix hw i_ O0 (by first | rfl | assumption | decide | omega)) w188 w189 w163 w190 (by decide) q1 hml rfl [(.int (Int32.ofNat i_))] [] own_pd23 rfl rfl 0 rfl (by decide) (D 7 rfl) fun T2 L2 v2 X2 hQ2 => ?_
    obtain ⟨rfl, Nq2, q2⟩ := hQ2
    have N2 := Fr.app N1 Nq2
    refine o_istoreN X2 hx (l' := #[vr x_, vi (Int32.ofNat i_), vi (Int32.ofNat j_), vi (0 : Int32), .unset, .unset, .unset, .unset, .unset, .unset]) (D 8 rfl) rfl <| o_iloadN X2 hx (D 9 rfl) rfl <| o_iconst X2 hx 1 (D 10 rfl) rfl <| o_isub X2 hx (D 11 rfl) ?_
    rw [show ((Int32.ofNat j_) - (1 : Int32)) = (Int32.ofNat (j_ - 1)) from XT.sub32n (a := j_) (b := 1) (by omega)]
    refine o_cS X2 hx hZ hown (rm_wix hw (j_ - 1) O0 (by first | rfl | assumption | decide | omega)) w188 w189 w163 w190 (by decide) q2 hml rfl [(.int (Int32.ofNat (j_ - 1)))] [] own_pd23 rfl rfl 0 rfl (by decide) (D 12 rfl) fun T3 L3 v3 X3 hQ3 => ?_
    obtain ⟨rfl, Nq3, q3⟩ := hQ3
    have N3 := Fr.app N2 Nq3
    refine o_istore X3 hx (l' := #[vr x_, vi (Int32.ofNat i_), vi (Int32.ofNat j_), vi (0 : Int32), vi (0 : Int32), .unset, .unset, .unset, .unset, .unset]) (D 13 rfl) rfl <| o_aloadN X3 hx (D 14 rfl) rfl rfl <| o_iload X3 hx (D 15 rfl) rfl <| o_cP X3 hx hZ hown (rm_ex0 hw  O0 pr0 pr1 Fu pr3 pr4) (W 394 rfl) (W 395 rfl) (W 397 rfl) (W 396 rfl) w163 (W 398 rfl) (by decide) q3 pr0 hml rfl [(.int (0 : Int32))] [] own_pd24 rfl rfl 0 rfl (by decide) (D 16 rfl) fun T4 L4 v4 X4 hQ4 => ?_
    obtain ⟨rfl, Nq4, K4, p4_0, p4_1, p4_2⟩ := hQ4
    have N4 := Fr.app N3 Nq4
    refine ogo (S' := T4.setTop (mkF m 33 #[vr x_, vi (Int32.ofNat i_), vi (Int32.ofNat j_), vi (0 : Int32), vi (0 : Int32), .unset, .unset, .unset, .unset, .unset] [(.long (-1 : Int64))])) (X4.ldc2Long hx hown (mvT hZ w404) (g := (mkF m 30 #[vr x_, vi (Int32.ofNat i_), vi (Int32.ofNat j_), vi (0 : Int32), vi (0 : Int32), .unset, .unset, .unset, .unset, .unset] [])) rfl (D 17 rfl)) <| o_iloadN X4 hx (D 18 rfl) rfl <| o_lshl X4 hx (D 19 rfl) <| o_lstore X4 hx (l' := #[vr x_, vi (Int32.ofNat i_), vi (Int32.ofNat j_), vi (0 : Int32), vi (0 : Int32), vl ((-1 : Int64) <<< ((Int32.ofNat i_) &&& 0x3f).toInt64), .second, .unset, .unset, .unset]) (D 20 rfl) rfl <| ogo (S' := T4.setTop (mkF m 40 #[vr x_, vi (Int32.ofNat i_), vi (Int32.ofNat j_), vi (0 : Int32), vi (0 : Int32), vl ((-1 : Int64) <<< ((Int32.ofNat i_) &&& 0x3f).toInt64), .second, .unset, .unset, .unset] [(.long (-1 : Int64))])) (X4.ldc2Long hx hown (mvT hZ w404) (g := (mkF m 37 #[vr x_, vi (Int32.ofNat i_), vi (Int32.ofNat j_), vi (0 : Int32), vi (0 : Int32), vl ((-1 : Int64) <<< ((Int32.ofNat i_) &&& 0x3f).toInt64), .second, .unset, .unset, .unset] [])) rfl (D 21 rfl)) <| o_iloadN X4 hx (D 22 rfl) rfl <| o_ineg X4 hx (D 23 rfl) <| o_lushr X4 hx (D 24 rfl) <| o_lstore X4 hx (l' := #[vr x_, vi (Int32.ofNat i_), vi (Int32.ofNat j_), vi (0 : Int32), vi (0 : Int32), vl ((-1 : Int64) <<< ((Int32.ofNat i_) &&& 0x3f).toInt64), .second, vl (own_ushrL (-1 : Int64) (-(Int32.ofNat j_))), .second, .unset]) (D 25 rfl) rfl <| o_iloadN X4 hx (D 26 rfl) rfl <| o_iload X4 hx (D 27 rfl) rfl <| o_icmpNo X4 hx (D 28 rfl) (teq (by decide : (0 : Int32) = (0 : Int32))).2 <| o_aloadN X4 hx (D 29 rfl) rfl rfl <| o_getF X4 hx hZ hown (host := "") (Or.inl (W 192 rfl)) Via.refl rfl p4_1 (D 30 rfl) fun T5 X5 e5 => o_iloadN X5 hx (D 31 rfl) rfl <| o_dup2 X5 hx (D 32 rfl) rfl rfl ?_
    have c6 := (pr3.keep K4 (ninS (ne_exa (pr6.keep K4) p4_0 (by decide)) nin0))
    refine o_lal X5 hx hZ e5 c6 ⟨by decide, by decide⟩ (v := (.long w_)) rfl (D 33 rfl) <| o_lload X5 hx (D 34 rfl) rfl <| o_lload X5 hx (D 35 rfl) rfl <| o_land X5 hx (D 36 rfl) <| o_lor X5 hx (D 37 rfl) ?_
    obtain ⟨cl7, Ar7, q7, S7, N7z, H7, G7⟩ := (id c6)
    obtain ⟨T7, _, X7, rfl, W7, st7⟩ := stJ X5 hx hZ e5 Ar7 (j := (0 : Int32)) (inb_of S7 ⟨by decide, by decide⟩) (g := (mkF m 64 #[vr x_, vi (Int32.ofNat i_), vi (Int32.ofNat j_), vi (0 : Int32), vi (0 : Int32), vl ((-1 : Int64) <<< ((Int32.ofNat i_) &&& 0x3f).toInt64), .second, vl (own_ushrL (-1 : Int64) (-(Int32.ofNat j_))), .second, .unset] [(.long (w_ ||| (((-1 : Int64) <<< ((Int32.ofNat i_) &&& 0x3f).toInt64) &&& (own_ushrL (-1 : Int64) (-(Int32.ofNat j_)))))), (.int (0 : Int32)), (.ref wa_)])) rfl rfl (D 38 rfl)
    have V7 : Arv Z T7.heap wa_ kw_ .long (1 : Int32) [(.long (w_ ||| (((-1 : Int64) <<< ((Int32.ofNat i_) &&& 0x3f).toInt64) &&& (own_ushrL (-1 : Int64) (-(Int32.ofNat j_))))))] (.long 0) := Arv.set Ar7 q7 S7 N7z H7 G7 rfl W7 0 rfl (Nat.le_of_ble_eq_true rfl)
    have N7 := Fr.snoc X7 N4 pr5
    refine ogoF st7 <| o_goto X7 hx 119 (D 39 rfl) rfl <| o_aloadN X7 hx (D 40 rfl) rfl rfl <| o_cP X7 hx hZ hown (rm_cki hw x_ SB ((O0.keep K4 (allS pr4 all0)).wr W7 pr5) ) (W 222 rfl) (W 223 rfl) (W 225 rfl) (W 224 rfl) w163 (W 226 rfl) (by decide) rfl (Exa.wr W7 p4_0) hml rfl [] [] own_pd17 rfl rfl 0 rfl (by decide) (D 41 rfl) fun T8 L8 v8 X8 hQ8 => ?_
    obtain ⟨rfl, Nq8, q8⟩ := hQ8
    have N8 := Fr.app N7 Nq8
    have y9 : x_ ≠ wa_ := (ne_exa (Exa.wr W7 p4_0) (Exa.wr W7 (pr6.keep K4)) (by decide))
    exact oendV X8 hx hlk hret (D 42 rfl) (by decide) q8 ⟨rfl, N8, (((Keep.refl h0 [x_, wa_]).trans K4 (allS (Or.inl (List.mem_of_getElem? (i := 0) rfl)) all0)).wr W7 (Or.inl (List.mem_of_getElem? (i := 1) rfl))), (Exa.wr W7 p4_0), (Fld.other W7 p4_1 (Or.inl y9)), (Fld.other W7 p4_2 (Or.inl y9)), V7⟩
  · have Fu : Fld Z h0 x_ "java/util/BitSet" "wordsInUse" "I" (.int (1 : Int32)) := by have q := pr2; rw [hu] at q; exact q
    refine o_iloadN X0 hx (D 0 rfl) rfl <| o_iloadN X0 hx (D 1 rfl) rfl <| o_cS X0 hx hZ hown (rm_ckr hw i_ j_ O0 pr7) (W 391 rfl) (W 392 rfl) w163 (W 393 rfl) (by decide) e0 hml rfl [(.int (Int32.ofNat i_)), (.int (Int32.ofNat j_))] [] own_pd2 rfl rfl 0 rfl (by decide) (D 2 rfl) fun T10 L10 v10 X10 hQ10 => ?_
    obtain ⟨rfl, Nq10, q10⟩ := hQ10
    have N10 := Fr.app N0 Nq10
    refine o_iloadN X10 hx (D 3 rfl) rfl <| o_iloadN X10 hx (D 4 rfl) rfl <| o_icmpYes X10 hx 11 (D 5 rfl) (feq (show ¬ ((Int32.ofNat i_) = (Int32.ofNat j_)) from XT.ne32 (a := i_) (b := j_) (by omega) (by omega) (by omega))).2 rfl <| o_iloadN X10 hx (D 6 rfl) rfl <| o_cS X10 hx hZ hown (rm_wix hw i_ O0 (by first | rfl | assumption | decide | omega)) w188 w189 w163 w190 (by decide) q10 hml rfl [(.int (Int32.ofNat i_))] [] own_pd23 rfl rfl 0 rfl (by decide) (D 7 rfl) fun T11 L11 v11 X11 hQ11 => ?_
    obtain ⟨rfl, Nq11, q11⟩ := hQ11
    have N11 := Fr.app N10 Nq11
    refine o_istoreN X11 hx (l' := #[vr x_, vi (Int32.ofNat i_), vi (Int32.ofNat j_), vi (0 : Int32), .unset, .unset, .unset, .unset, .unset, .unset]) (D 8 rfl) rfl <| o_iloadN X11 hx (D 9 rfl) rfl <| o_iconst X11 hx 1 (D 10 rfl) rfl <| o_isub X11 hx (D 11 rfl) ?_
    rw [show ((Int32.ofNat j_) - (1 : Int32)) = (Int32.ofNat (j_ - 1)) from XT.sub32n (a := j_) (b := 1) (by omega)]
    refine o_cS X11 hx hZ hown (rm_wix hw (j_ - 1) O0 (by first | rfl | assumption | decide | omega)) w188 w189 w163 w190 (by decide) q11 hml rfl [(.int (Int32.ofNat (j_ - 1)))] [] own_pd23 rfl rfl 0 rfl (by decide) (D 12 rfl) fun T12 L12 v12 X12 hQ12 => ?_
    obtain ⟨rfl, Nq12, q12⟩ := hQ12
    have N12 := Fr.app N11 Nq12
    refine o_istore X12 hx (l' := #[vr x_, vi (Int32.ofNat i_), vi (Int32.ofNat j_), vi (0 : Int32), vi (0 : Int32), .unset, .unset, .unset, .unset, .unset]) (D 13 rfl) rfl <| o_aloadN X12 hx (D 14 rfl) rfl rfl <| o_iload X12 hx (D 15 rfl) rfl <| o_cP X12 hx hZ hown (rm_ex1 hw  O0 pr0 pr1 Fu pr3) (W 394 rfl) (W 395 rfl) (W 397 rfl) (W 396 rfl) w163 (W 398 rfl) (by decide) q12 pr0 hml rfl [(.int (0 : Int32))] [] own_pd24 rfl rfl 0 rfl (by decide) (D 16 rfl) fun T13 L13 v13 X13 hQ13 => ?_
    obtain ⟨rfl, Nq13, q13⟩ := hQ13
    have N13 := Fr.app N12 Nq13
    refine ogo (S' := T13.setTop (mkF m 33 #[vr x_, vi (Int32.ofNat i_), vi (Int32.ofNat j_), vi (0 : Int32), vi (0 : Int32), .unset, .unset, .unset, .unset, .unset] [(.long (-1 : Int64))])) (X13.ldc2Long hx hown (mvT hZ w404) (g := (mkF m 30 #[vr x_, vi (Int32.ofNat i_), vi (Int32.ofNat j_), vi (0 : Int32), vi (0 : Int32), .unset, .unset, .unset, .unset, .unset] [])) rfl (D 17 rfl)) <| o_iloadN X13 hx (D 18 rfl) rfl <| o_lshl X13 hx (D 19 rfl) <| o_lstore X13 hx (l' := #[vr x_, vi (Int32.ofNat i_), vi (Int32.ofNat j_), vi (0 : Int32), vi (0 : Int32), vl ((-1 : Int64) <<< ((Int32.ofNat i_) &&& 0x3f).toInt64), .second, .unset, .unset, .unset]) (D 20 rfl) rfl <| ogo (S' := T13.setTop (mkF m 40 #[vr x_, vi (Int32.ofNat i_), vi (Int32.ofNat j_), vi (0 : Int32), vi (0 : Int32), vl ((-1 : Int64) <<< ((Int32.ofNat i_) &&& 0x3f).toInt64), .second, .unset, .unset, .unset] [(.long (-1 : Int64))])) (X13.ldc2Long hx hown (mvT hZ w404) (g := (mkF m 37 #[vr x_, vi (Int32.ofNat i_), vi (Int32.ofNat j_), vi (0 : Int32), vi (0 : Int32), vl ((-1 : Int64) <<< ((Int32.ofNat i_) &&& 0x3f).toInt64), .second, .unset, .unset, .unset] [])) rfl (D 21 rfl)) <| o_iloadN X13 hx (D 22 rfl) rfl <| o_ineg X13 hx (D 23 rfl) <| o_lushr X13 hx (D 24 rfl) <| o_lstore X13 hx (l' := #[vr x_, vi (Int32.ofNat i_), vi (Int32.ofNat j_), vi (0 : Int32), vi (0 : Int32), vl ((-1 : Int64) <<< ((Int32.ofNat i_) &&& 0x3f).toInt64), .second, vl (own_ushrL (-1 : Int64) (-(Int32.ofNat j_))), .second, .unset]) (D 25 rfl) rfl <| o_iloadN X13 hx (D 26 rfl) rfl <| o_iload X13 hx (D 27 rfl) rfl <| o_icmpNo X13 hx (D 28 rfl) (teq (by decide : (0 : Int32) = (0 : Int32))).2 <| o_aloadN X13 hx (D 29 rfl) rfl rfl <| o_getF X13 hx hZ hown (host := "") (Or.inl (W 192 rfl)) Via.refl q13 pr1 (D 30 rfl) fun T14 X14 e14 => o_iloadN X14 hx (D 31 rfl) rfl <| o_dup2 X14 hx (D 32 rfl) rfl rfl <| o_lal X14 hx hZ e14 pr3 ⟨by decide, by decide⟩ (v := (.long w_)) rfl (D 33 rfl) <| o_lload X14 hx (D 34 rfl) rfl <| o_lload X14 hx (D 35 rfl) rfl <| o_land X14 hx (D 36 rfl) <| o_lor X14 hx (D 37 rfl) ?_
    obtain ⟨cl15, Ar15, q15, S15, N15z, H15, G15⟩ := (id pr3)
    obtain ⟨T15, _, X15, rfl, W15, st15⟩ := stJ X14 hx hZ e14 Ar15 (j := (0 : Int32)) (inb_of S15 ⟨by decide, by decide⟩) (g := (mkF m 64 #[vr x_, vi (Int32.ofNat i_), vi (Int32.ofNat j_), vi (0 : Int32), vi (0 : Int32), vl ((-1 : Int64) <<< ((Int32.ofNat i_) &&& 0x3f).toInt64), .second, vl (own_ushrL (-1 : Int64) (-(Int32.ofNat j_))), .second, .unset] [(.long (w_ ||| (((-1 : Int64) <<< ((Int32.ofNat i_) &&& 0x3f).toInt64) &&& (own_ushrL (-1 : Int64) (-(Int32.ofNat j_)))))), (.int (0 : Int32)), (.ref wa_)])) rfl rfl (D 38 rfl)
    have V15 : Arv Z T15.heap wa_ kw_ .long (1 : Int32) [(.long (w_ ||| (((-1 : Int64) <<< ((Int32.ofNat i_) &&& 0x3f).toInt64) &&& (own_ushrL (-1 : Int64) (-(Int32.ofNat j_))))))] (.long 0) := Arv.set Ar15 q15 S15 N15z H15 G15 rfl W15 0 rfl (Nat.le_of_ble_eq_true rfl)
    have N15 := Fr.snoc X15 N13 pr5
    refine ogoF st15 <| o_goto X15 hx 119 (D 39 rfl) rfl <| o_aloadN X15 hx (D 40 rfl) rfl rfl <| o_cP X15 hx hZ hown (rm_cki hw x_ SB (O0.wr W15 pr5) ) (W 222 rfl) (W 223 rfl) (W 225 rfl) (W 224 rfl) w163 (W 226 rfl) (by decide) rfl (Exa.wr W15 pr0) hml rfl [] [] own_pd17 rfl rfl 0 rfl (by decide) (D 41 rfl) fun T16 L16 v16 X16 hQ16 => ?_
    obtain ⟨rfl, Nq16, q16⟩ := hQ16
    have N16 := Fr.app N15 Nq16
    have y17 : x_ ≠ wa_ := (ne_exa (Exa.wr W15 pr0) (Exa.wr W15 pr6) (by decide))
    exact oendV X16 hx hlk hret (D 42 rfl) (by decide) q16 ⟨rfl, N16, ((Keep.refl h0 [x_, wa_]).wr W15 (Or.inl (List.mem_of_getElem? (i := 1) rfl))), (Exa.wr W15 pr0), (Fld.other W15 pr1 (Or.inl y17)), (Fld.other W15 Fu (Or.inl y17)), V15⟩
abbrev cd44 : ByteArray := jdk_33_method_48_code
theorem D44 : own_DD cd44 [(0, .iload_n 0, 1), (1, .iconst (-1), 1), (2, .ixor, 1), (3, .iload_n 0, 1), (4, .iconst 1, 1), (5, .isub, 1), (6, .iand, 1), (7, .istore_n 0, 1), (8, .iload_n 0, 1), (9, .ifCond .gt 8, 3), (17, .iconst 1, 1), (18, .istore_n 1, 1), (19, .iload_n 0, 1), (20, .ldc_w 264, 3), (23, .if_icmp .le 11, 3), (34, .iload_n 0, 1), (35, .sipush 256, 3), (38, .if_icmp .le 11, 3), (49, .iload_n 0, 1), (50, .bipush 16, 2), (52, .if_icmp .le 10, 3), (62, .iload_n 0, 1), (63, .iconst 4, 1), (64, .if_icmp .le 10, 3), (67, .iinc 1 2, 3), (70, .iload_n 0, 1), (71, .iconst 2, 1), (72, .iushr, 1), (73, .istore_n 0, 1), (74, .iload_n 1, 1), (75, .iload_n 0, 1), (76, .iconst 1, 1), (77, .iushr, 1), (78, .iadd, 1), (79, .ireturn, 1), (12, .iload_n 0, 1), (13, .bipush 32, 2), (15, .iand, 1), (16, .ireturn, 1)] := own_dk (by decide +kernel)
theorem own_pn10 : plainName "java/lang/Integer" = true := by first | (simp [plainName, overriddenIn]; done) | decide +kernel
def own_Q_ntz (Z : State)  (x_ : Int32) (h0 : Heap) (n0 : Nat) (v : Option Value) (h : Heap) (L : List Loc) : Prop := (v = some (.int (own_ntz x_))) ∧ (Fr n0 L) ∧ (h = h0)
abbrev yM43 : MethodName := ⟨"java/lang/Integer", "numberOfTrailingZeros", "(I)I"⟩
theorem rm_ntz {l : Launch} {Z : State} {a0 : Array Value} (hw : own_hw a0 Z)   (x_ : Int32) {h0 : Heap} {n0 : Nat} (O0 : Old Z n0 h0) (pr0 : ¬ ((65536 : Int32) < ((x_ ^^^ (-1 : Int32)) &&& (x_ - (1 : Int32))))) (pr1 : ¬ ((256 : Int32) < ((x_ ^^^ (-1 : Int32)) &&& (x_ - (1 : Int32))))) (pr2 : ¬ ((16 : Int32) < ((x_ ^^^ (-1 : Int32)) &&& (x_ - (1 : Int32))))) :
    oMet l Z yM43 jdk_33_method_48_code 2 (some .int) [] (rmo 0 0 0 0) 0 0 #[(.int x_)] h0 (own_Q_ntz Z  x_ h0 n0) := by
  refine oenter (plainFor_of_name own_pn10) #[vi x_, .unset] (fun _ => rfl) ?_
  intro p e s m below meth c s₁ X0 hx hZ hby hml hret hown hnm hlk e0
  have N0 := Fr.nil n0
  have D := own_hb hby D44
  have W := own_w hw
  refine o_iloadN X0 hx (D 0 rfl) rfl <| o_iconst X0 hx (-1) (D 1 rfl) rfl <| o_ixor X0 hx (D 2 rfl) <| o_iloadN X0 hx (D 3 rfl) rfl <| o_iconst X0 hx 1 (D 4 rfl) rfl <| o_isub X0 hx (D 5 rfl) <| o_iand X0 hx (D 6 rfl) <| o_istoreN X0 hx (l' := #[vi ((x_ ^^^ (-1 : Int32)) &&& (x_ - (1 : Int32))), .unset]) (D 7 rfl) rfl <| o_iloadN X0 hx (D 8 rfl) rfl ?_
  by_cases hc2 : (0 : Int32) < ((x_ ^^^ (-1 : Int32)) &&& (x_ - (1 : Int32)))
  · refine o_ifYes X0 hx 17 (D 9 rfl) (tlt hc2).2.2.1 rfl <| o_iconst X0 hx 1 (D 10 rfl) rfl <| o_istoreN X0 hx (l' := #[vi ((x_ ^^^ (-1 : Int32)) &&& (x_ - (1 : Int32))), vi (1 : Int32)]) (D 11 rfl) rfl <| o_iloadN X0 hx (D 12 rfl) rfl <| ogo (S' := s₁.setTop (mkF m 23 #[vi ((x_ ^^^ (-1 : Int32)) &&& (x_ - (1 : Int32))), vi (1 : Int32)] [(.int (65536 : Int32)), (.int ((x_ ^^^ (-1 : Int32)) &&& (x_ - (1 : Int32))))])) (X0.ldcwInt hx hown (mvT hZ (W 431 rfl)) (g := (mkF m 20 #[vi ((x_ ^^^ (-1 : Int32)) &&& (x_ - (1 : Int32))), vi (1 : Int32)] [(.int ((x_ ^^^ (-1 : Int32)) &&& (x_ - (1 : Int32))))])) rfl (D 13 rfl)) <| o_icmpYes X0 hx 34 (D 14 rfl) (flt pr0).2.2.2 rfl <| o_iloadN X0 hx (D 15 rfl) rfl <| o_sipush X0 hx 256 (D 16 rfl) rfl <| o_icmpYes X0 hx 49 (D 17 rfl) (flt pr1).2.2.2 rfl <| o_iloadN X0 hx (D 18 rfl) rfl <| o_bipush X0 hx 16 (D 19 rfl) rfl <| o_icmpYes X0 hx 62 (D 20 rfl) (flt pr2).2.2.2 rfl <| o_iloadN X0 hx (D 21 rfl) rfl <| o_iconst X0 hx 4 (D 22 rfl) rfl ?_
    by_cases hc4 : (4 : Int32) < ((x_ ^^^ (-1 : Int32)) &&& (x_ - (1 : Int32)))
    · refine o_icmpNo X0 hx (D 23 rfl) (tlt hc4).2.2.2 <| o_iinc X0 hx (l' := #[vi ((x_ ^^^ (-1 : Int32)) &&& (x_ - (1 : Int32))), vi (3 : Int32)]) (D 24 rfl) rfl rfl <| o_iloadN X0 hx (D 25 rfl) rfl <| o_iconst X0 hx 2 (D 26 rfl) rfl <| o_iushr X0 hx (D 27 rfl) <| o_istoreN X0 hx (l' := #[vi (own_ushr ((x_ ^^^ (-1 : Int32)) &&& (x_ - (1 : Int32))) (2 : Int32)), vi (3 : Int32)]) (D 28 rfl) rfl <| o_iloadN X0 hx (D 29 rfl) rfl <| o_iloadN X0 hx (D 30 rfl) rfl <| o_iconst X0 hx 1 (D 31 rfl) rfl <| o_iushr X0 hx (D 32 rfl) <| o_iadd X0 hx (D 33 rfl) ?_
      exact oendI X0 hx hlk hret (D 34 rfl) (by decide) e0 ⟨congrArg (fun z_ => some (Value.int z_)) (by unfold own_ntz own_y; rw [if_pos hc2, if_pos hc4]), N0, rfl⟩
    · refine o_icmpYes X0 hx 74 (D 23 rfl) (flt hc4).2.2.2 rfl <| o_iloadN X0 hx (D 29 rfl) rfl <| o_iloadN X0 hx (D 30 rfl) rfl <| o_iconst X0 hx 1 (D 31 rfl) rfl <| o_iushr X0 hx (D 32 rfl) <| o_iadd X0 hx (D 33 rfl) ?_
      exact oendI X0 hx hlk hret (D 34 rfl) (by decide) e0 ⟨congrArg (fun z_ => some (Value.int z_)) (by unfold own_ntz own_y; rw [if_pos hc2, if_neg hc4]), N0, rfl⟩
  · refine o_ifNo X0 hx (D 9 rfl) (flt hc2).2.2.1 <| o_iloadN X0 hx (D 35 rfl) rfl <| o_bipush X0 hx 32 (D 36 rfl) rfl <| o_iand X0 hx (D 37 rfl) ?_
    exact oendI X0 hx hlk hret (D 38 rfl) (by decide) e0 ⟨congrArg (fun z_ => some (Value.int z_)) (by unfold own_ntz own_y; rw [if_neg hc2]), N0, rfl⟩
abbrev cd45 : ByteArray := jdk_35_method_49_code
theorem D45 : own_DD cd45 [(0, .lload_n 0, 1), (1, .l2i, 1), (2, .istore_n 2, 1), (3, .iload_n 2, 1), (4, .ifCond .ne 17, 3), (21, .iload_n 2, 1), (22, .invokestatic 311, 3), (25, .ireturn, 1)] := own_dk (by decide +kernel)
theorem own_pn11 : plainName "java/lang/Long" = true := by first | (simp [plainName, overriddenIn]; done) | decide +kernel
def own_Q_ntl (Z : State)  (x_ : Int64) (h0 : Heap) (n0 : Nat) (v : Option Value) (h : Heap) (L : List Loc) : Prop := (v = some (.int (own_ntz x_.toInt32))) ∧ (Fr n0 L) ∧ (h = h0)
abbrev yM44 : MethodName := ⟨"java/lang/Long", "numberOfTrailingZeros", "(J)I"⟩
theorem rm_ntl {l : Launch} {Z : State} {a0 : Array Value} (hw : own_hw a0 Z)   (x_ : Int64) {h0 : Heap} {n0 : Nat} (O0 : Old Z n0 h0) (pr0 : own_small x_) :
    oMet l Z yM44 jdk_35_method_49_code 3 (some .int) [] (rmo 1 0 0 13) 0 0 #[(.long x_)] h0 (own_Q_ntl Z  x_ h0 n0) := by
  refine oenter (plainFor_of_name own_pn11) #[vl x_, .second, .unset] (fun _ => rfl) ?_
  intro p e s m below meth c s₁ X0 hx hZ hby hml hret hown hnm hlk e0
  have N0 := Fr.nil n0
  have D := own_hb hby D45
  have W := own_w hw
  refine o_lloadN X0 hx (D 0 rfl) rfl <| o_l2i X0 hx (D 1 rfl) <| o_istoreN X0 hx (l' := #[vl x_, .second, vi x_.toInt32]) (D 2 rfl) rfl <| o_iloadN X0 hx (D 3 rfl) rfl <| o_ifYes X0 hx 21 (D 4 rfl) (feq pr0.1).2 rfl <| o_iloadN X0 hx (D 5 rfl) rfl <| o_cS X0 hx hZ hown (rm_ntz hw x_.toInt32 O0 pr0.2.1 pr0.2.2.1 pr0.2.2.2) (W 427 rfl) (W 428 rfl) (W 429 rfl) (W 430 rfl) (by decide) e0 hml rfl [(.int x_.toInt32)] [] own_pd23 rfl rfl 0 rfl (by decide) (D 6 rfl) fun T1 L1 v1 X1 hQ1 => ?_
  obtain ⟨rfl, Nq1, q1⟩ := hQ1
  have N1 := Fr.app N0 Nq1
  exact oendI X1 hx hlk hret (D 7 rfl) (by decide) q1 ⟨rfl, N1, rfl⟩
theorem own_pd25 : parseMethodDescriptor "(J)I" = some ⟨[.long], some .int⟩ := by decide +kernel
abbrev cd46 : ByteArray := jdk_92_method_28_code
theorem D46 : own_DD cd46 [(0, .iload_n 1, 1), (1, .ifCond .ge 30, 3), (31, .aload_n 0, 1), (32, .invokevirtual 56, 3), (35, .iload_n 1, 1), (36, .invokestatic 52, 3), (39, .istore_n 2, 1), (40, .iload_n 2, 1), (41, .aload_n 0, 1), (42, .getfield 7, 3), (45, .if_icmp .lt 5, 3), (48, .iconst (-1), 1), (49, .ireturn, 1), (50, .aload_n 0, 1), (51, .getfield 11, 3), (54, .iload_n 2, 1), (55, .laload, 1), (56, .ldc2_w 165, 3), (59, .iload_n 1, 1), (60, .lshl, 1), (61, .land, 1), (62, .lstore_n 3, 1), (63, .lload_n 3, 1), (64, .lconst 0, 1), (65, .lcmp, 1), (66, .ifCond .eq 13, 3), (79, .iinc 2 1, 3), (82, .iload_n 2, 1), (83, .aload_n 0, 1), (84, .getfield 7, 3), (87, .if_icmp .ne 5, 3), (90, .iconst (-1), 1), (91, .ireturn, 1), (69, .iload_n 2, 1), (70, .bipush 64, 2), (72, .imul, 1), (73, .lload_n 3, 1), (74, .invokestatic 182, 3), (77, .iadd, 1), (78, .ireturn, 1)] := own_dk (by decide +kernel)
def own_Q_nsb (Z : State) (z_CS : Int32) (v_FMT : Value) (s_DC : Addr) (k_DC : ClassId) (v_IO : Value) (x_ wa_ : Addr) (kw_ : ClassId) (zw_ : Int32) (lw_ : List Value) (w_ : Int64) (u_ : Int32) (n_ i_ : Nat) (h0 : Heap) (n0 : Nat) (v : Option Value) (h : Heap) (L : List Loc) : Prop := (v = some (.int (own_nsb w_ (Int32.ofNat i_)))) ∧ (Fr n0 L) ∧ (h = h0)
abbrev yM45 : MethodName := ⟨"java/util/BitSet", "nextSetBit", "(I)I"⟩
theorem rm_nsb {l : Launch} {Z : State} {a0 : Array Value} (hw : own_hw a0 Z) {z_CS : Int32} {v_FMT : Value} {s_DC : Addr} {k_DC : ClassId} {v_IO : Value} {x_ wa_ : Addr} {kw_ : ClassId} {zw_ : Int32} {lw_ : List Value} {u_ : Int32} (w_ : Int64) (n_ i_ : Nat) {h0 : Heap} {n0 : Nat} (SB : own_Start Z z_CS v_FMT s_DC k_DC v_IO) (O0 : Old Z n0 h0) (pr0 : Exa Z h0 x_ "java/util/BitSet") (pr1 : Fld Z h0 x_ "java/util/BitSet" "words" "[J" (.ref wa_)) (pr2 : Fld Z h0 x_ "java/util/BitSet" "wordsInUse" "I" (.int u_)) (pr3 : Arv Z h0 wa_ kw_ .long zw_ lw_ (.long 0)) (pr4 : own_bw n_ w_ u_ zw_ lw_) (pr5 : i_ < 64) (pr6 : (w_ &&& (own_msk (Int32.ofNat i_))) = 0 ∨ own_small (w_ &&& (own_msk (Int32.ofNat i_)))) :
    oMet l Z yM45 jdk_92_method_28_code 5 (some .int) [] (rmo 2 0 0 28) 0 0 #[(.ref x_), (.int (Int32.ofNat i_))] h0 (own_Q_nsb Z z_CS v_FMT s_DC k_DC v_IO x_ wa_ kw_ zw_ lw_ w_ u_ n_ i_ h0 n0) := by
  refine oenter (plainFor_of_name own_pn9) #[vr x_, vi (Int32.ofNat i_), .unset, .unset, .unset] (fun _ => rfl) ?_
  intro p e s m below meth c s₁ X0 hx hZ hby hml hret hown hnm hlk e0
  have N0 := Fr.nil n0
  have D := own_hb hby D46
  have W := own_w hw
  have w163 := W 163 rfl
  rcases own_bw2 pr4 with ⟨hu, hw0⟩ | ⟨hu, hz, hl⟩
  · have Fu : Fld Z h0 x_ "java/util/BitSet" "wordsInUse" "I" (.int (0 : Int32)) := by have q := pr2; rw [hu] at q; exact q
    refine o_iloadN X0 hx (D 0 rfl) rfl <| o_ifYes X0 hx 31 (D 1 rfl) (flt (show ¬ ((Int32.ofNat i_) < (0 : Int32)) from XT.nlt32 (a := i_) (b := 0) (by omega) (by omega))).2.1 rfl <| o_aloadN X0 hx (D 2 rfl) rfl rfl <| o_cP X0 hx hZ hown (rm_cki hw x_ SB O0 ) (W 222 rfl) (W 223 rfl) (W 225 rfl) (W 224 rfl) w163 (W 226 rfl) (by decide) e0 pr0 hml rfl [] [] own_pd17 rfl rfl 0 rfl (by decide) (D 3 rfl) fun T1 L1 v1 X1 hQ1 => ?_
    obtain ⟨rfl, Nq1, q1⟩ := hQ1
    have N1 := Fr.app N0 Nq1
    refine o_iloadN X1 hx (D 4 rfl) rfl <| o_cS X1 hx hZ hown (rm_wix hw i_ O0 pr5) (W 188 rfl) (W 189 rfl) w163 (W 190 rfl) (by decide) q1 hml rfl [(.int (Int32.ofNat i_))] [] own_pd23 rfl rfl 0 rfl (by decide) (D 5 rfl) fun T2 L2 v2 X2 hQ2 => ?_
    obtain ⟨rfl, Nq2, q2⟩ := hQ2
    have N2 := Fr.app N1 Nq2
    refine o_istoreN X2 hx (l' := #[vr x_, vi (Int32.ofNat i_), vi (0 : Int32), .unset, .unset]) (D 6 rfl) rfl <| o_iloadN X2 hx (D 7 rfl) rfl <| o_aloadN X2 hx (D 8 rfl) rfl rfl <| o_getF X2 hx hZ hown (host := "") (Or.inl (W 179 rfl)) Via.refl q2 Fu (D 9 rfl) fun T3 X3 e3 => o_icmpNo X3 hx (D 10 rfl) (flt (by decide : ¬ ((0 : Int32) < (0 : Int32)))).1 <| o_iconst X3 hx (-1) (D 11 rfl) rfl ?_
    exact oendI X3 hx hlk hret (D 12 rfl) (by decide) e3 ⟨congrArg (fun z_ => some (Value.int z_)) (by rw [hw0]; unfold own_nsb; rw [if_pos (by simp)]), N2, rfl⟩
  · have Fu : Fld Z h0 x_ "java/util/BitSet" "wordsInUse" "I" (.int (1 : Int32)) := by have q := pr2; rw [hu] at q; exact q
    have Va : Arv Z h0 wa_ kw_ .long (1 : Int32) [.long w_] (.long 0) := by have q := pr3; rw [hz, hl] at q; exact q
    refine o_iloadN X0 hx (D 0 rfl) rfl <| o_ifYes X0 hx 31 (D 1 rfl) (flt (show ¬ ((Int32.ofNat i_) < (0 : Int32)) from XT.nlt32 (a := i_) (b := 0) (by omega) (by omega))).2.1 rfl <| o_aloadN X0 hx (D 2 rfl) rfl rfl <| o_cP X0 hx hZ hown (rm_cki hw x_ SB O0 ) (W 222 rfl) (W 223 rfl) (W 225 rfl) (W 224 rfl) w163 (W 226 rfl) (by decide) e0 pr0 hml rfl [] [] own_pd17 rfl rfl 0 rfl (by decide) (D 3 rfl) fun T4 L4 v4 X4 hQ4 => ?_
    obtain ⟨rfl, Nq4, q4⟩ := hQ4
    have N4 := Fr.app N0 Nq4
    refine o_iloadN X4 hx (D 4 rfl) rfl <| o_cS X4 hx hZ hown (rm_wix hw i_ O0 pr5) (W 188 rfl) (W 189 rfl) w163 (W 190 rfl) (by decide) q4 hml rfl [(.int (Int32.ofNat i_))] [] own_pd23 rfl rfl 0 rfl (by decide) (D 5 rfl) fun T5 L5 v5 X5 hQ5 => ?_
    obtain ⟨rfl, Nq5, q5⟩ := hQ5
    have N5 := Fr.app N4 Nq5
    refine o_istoreN X5 hx (l' := #[vr x_, vi (Int32.ofNat i_), vi (0 : Int32), .unset, .unset]) (D 6 rfl) rfl <| o_iloadN X5 hx (D 7 rfl) rfl <| o_aloadN X5 hx (D 8 rfl) rfl rfl <| o_getF X5 hx hZ hown (host := "") (Or.inl (W 179 rfl)) Via.refl q5 Fu (D 9 rfl) fun T6 X6 e6 => o_icmpYes X6 hx 50 (D 10 rfl) (tlt (by decide : (0 : Int32) < (1 : Int32))).1 rfl <| o_aloadN X6 hx (D 13 rfl) rfl rfl <| o_getF X6 hx hZ hown (host := "") (Or.inl (W 192 rfl)) Via.refl e6 pr1 (D 14 rfl) fun T7 X7 e7 => o_iloadN X7 hx (D 15 rfl) rfl <| o_lal X7 hx hZ e7 Va ⟨by decide, by decide⟩ (v := (.long w_)) rfl (D 16 rfl) <| ogo (S' := T7.setTop (mkF m 59 #[vr x_, vi (Int32.ofNat i_), vi (0 : Int32), .unset, .unset] [(.long (-1 : Int64)), (.long w_)])) (X7.ldc2Long hx hown (mvT hZ (W 404 rfl)) (g := (mkF m 56 #[vr x_, vi (Int32.ofNat i_), vi (0 : Int32), .unset, .unset] [(.long w_)])) rfl (D 17 rfl)) <| o_iloadN X7 hx (D 18 rfl) rfl <| o_lshl X7 hx (D 19 rfl) ?_
    rw [show ((-1 : Int64) <<< ((Int32.ofNat i_) &&& 0x3f).toInt64) = (own_msk (Int32.ofNat i_)) from rfl]
    refine o_land X7 hx (D 20 rfl) <| o_lstoreN X7 hx (l' := #[vr x_, vi (Int32.ofNat i_), vi (0 : Int32), vl (w_ &&& (own_msk (Int32.ofNat i_))), .second]) (D 21 rfl) rfl <| o_lloadN X7 hx (D 22 rfl) rfl <| o_lconst X7 hx 0 (D 23 rfl) rfl <| o_lcmp X7 hx (D 24 rfl) ?_
    by_cases hc9 : (w_ &&& (own_msk (Int32.ofNat i_))) = (0 : Int64)
    · refine o_ifYes X7 hx 79 (D 25 rfl) (teq ((lw_eq _ _).mpr hc9)).1 rfl <| o_iinc X7 hx (l' := #[vr x_, vi (Int32.ofNat i_), vi (1 : Int32), vl (w_ &&& (own_msk (Int32.ofNat i_))), .second]) (D 26 rfl) rfl rfl <| o_iloadN X7 hx (D 27 rfl) rfl <| o_aloadN X7 hx (D 28 rfl) rfl rfl <| o_getF X7 hx hZ hown (host := "") (Or.inl (W 179 rfl)) Via.refl e7 Fu (D 29 rfl) fun T10 X10 e10 => o_icmpNo X10 hx (D 30 rfl) (teq (by decide : (1 : Int32) = (1 : Int32))).2 <| o_iconst X10 hx (-1) (D 31 rfl) rfl ?_
      exact oendI X10 hx hlk hret (D 32 rfl) (by decide) e10 ⟨congrArg (fun z_ => some (Value.int z_)) (by unfold own_nsb; rw [if_pos hc9]), N5, rfl⟩
    · refine o_ifNo X7 hx (D 25 rfl) (feq (fun q => hc9 ((lw_eq _ _).mp q))).1 <| o_iloadN X7 hx (D 33 rfl) rfl <| o_bipush X7 hx 64 (D 34 rfl) rfl <| o_imul X7 hx (D 35 rfl) <| o_lloadN X7 hx (D 36 rfl) rfl <| o_cS X7 hx hZ hown (rm_ntl hw (w_ &&& (own_msk (Int32.ofNat i_))) O0 (pr6.resolve_left hc9)) (W 423 rfl) (W 424 rfl) (W 425 rfl) (W 426 rfl) (by decide) e7 hml rfl [(.long (w_ &&& (own_msk (Int32.ofNat i_))))] [(.int (0 : Int32))] own_pd25 rfl rfl 1 rfl (by decide) (D 37 rfl) fun T11 L11 v11 X11 hQ11 => ?_
      obtain ⟨rfl, Nq11, q11⟩ := hQ11
      have N11 := Fr.app N5 Nq11
      refine o_iadd X11 hx (D 38 rfl) ?_
      exact oendI X11 hx hlk hret (D 39 rfl) (by decide) q11 ⟨congrArg (fun z_ => some (Value.int z_)) (by unfold own_nsb; rw [if_neg hc9]), N11, rfl⟩
abbrev cd47 : ByteArray := jdk_92_method_29_code
theorem D47 : own_DD cd47 [(0, .iload_n 1, 1), (1, .ifCond .ge 30, 3), (31, .aload_n 0, 1), (32, .invokevirtual 56, 3), (35, .iload_n 1, 1), (36, .invokestatic 52, 3), (39, .istore_n 2, 1), (40, .iload_n 2, 1), (41, .aload_n 0, 1), (42, .getfield 7, 3), (45, .if_icmp .lt 5, 3), (50, .aload_n 0, 1), (51, .getfield 11, 3), (54, .iload_n 2, 1), (55, .laload, 1), (56, .ldc2_w 165, 3), (59, .lxor, 1), (60, .ldc2_w 165, 3), (63, .iload_n 1, 1), (64, .lshl, 1), (65, .land, 1), (66, .lstore_n 3, 1), (67, .lload_n 3, 1), (68, .lconst 0, 1), (69, .lcmp, 1), (70, .ifCond .eq 13, 3), (73, .iload_n 2, 1), (74, .bipush 64, 2), (76, .imul, 1), (77, .lload_n 3, 1), (78, .invokestatic 182, 3), (81, .iadd, 1), (82, .ireturn, 1)] := own_dk (by decide +kernel)
def own_Q_ncb (Z : State) (z_CS : Int32) (v_FMT : Value) (s_DC : Addr) (k_DC : ClassId) (v_IO : Value) (x_ wa_ : Addr) (kw_ : ClassId) (zw_ : Int32) (lw_ : List Value) (w_ : Int64) (u_ : Int32) (n_ i_ : Nat) (h0 : Heap) (n0 : Nat) (v : Option Value) (h : Heap) (L : List Loc) : Prop := (v = some (.int (own_ncb w_ (Int32.ofNat i_)))) ∧ (Fr n0 L) ∧ (h = h0)
abbrev yM46 : MethodName := ⟨"java/util/BitSet", "nextClearBit", "(I)I"⟩
theorem rm_ncb {l : Launch} {Z : State} {a0 : Array Value} (hw : own_hw a0 Z) {z_CS : Int32} {v_FMT : Value} {s_DC : Addr} {k_DC : ClassId} {v_IO : Value} {x_ wa_ : Addr} {kw_ : ClassId} {zw_ : Int32} {lw_ : List Value} {u_ : Int32} (w_ : Int64) (n_ i_ : Nat) {h0 : Heap} {n0 : Nat} (SB : own_Start Z z_CS v_FMT s_DC k_DC v_IO) (O0 : Old Z n0 h0) (pr0 : Exa Z h0 x_ "java/util/BitSet") (pr1 : Fld Z h0 x_ "java/util/BitSet" "words" "[J" (.ref wa_)) (pr2 : Fld Z h0 x_ "java/util/BitSet" "wordsInUse" "I" (.int u_)) (pr3 : Arv Z h0 wa_ kw_ .long zw_ lw_ (.long 0)) (pr4 : own_bw n_ w_ u_ zw_ lw_) (pr5 : i_ < 64) (pr6 : u_ = (1 : Int32)) (pr7 : ¬ ((w_ ^^^ (-1 : Int64)) &&& (own_msk (Int32.ofNat i_))) = (0 : Int64) ∧ own_small ((w_ ^^^ (-1 : Int64)) &&& (own_msk (Int32.ofNat i_)))) :
    oMet l Z yM46 jdk_92_method_29_code 5 (some .int) [] (rmo 2 0 0 28) 0 0 #[(.ref x_), (.int (Int32.ofNat i_))] h0 (own_Q_ncb Z z_CS v_FMT s_DC k_DC v_IO x_ wa_ kw_ zw_ lw_ w_ u_ n_ i_ h0 n0) := by
  refine oenter (plainFor_of_name own_pn9) #[vr x_, vi (Int32.ofNat i_), .unset, .unset, .unset] (fun _ => rfl) ?_
  intro p e s m below meth c s₁ X0 hx hZ hby hml hret hown hnm hlk e0
  have N0 := Fr.nil n0
  have D := own_hb hby D47
  have W := own_w hw
  rcases own_bw2 pr4 with ⟨hu, -⟩ | ⟨-, hz, hl⟩
  · exact absurd (hu.symm.trans pr6) (by decide)
  have Fu : Fld Z h0 x_ "java/util/BitSet" "wordsInUse" "I" (.int (1 : Int32)) := by have q := pr2; rw [pr6] at q; exact q
  have Va : Arv Z h0 wa_ kw_ .long (1 : Int32) [.long w_] (.long 0) := by have q := pr3; rw [hz, hl] at q; exact q
  refine o_iloadN X0 hx (D 0 rfl) rfl <| o_ifYes X0 hx 31 (D 1 rfl) (flt (show ¬ ((Int32.ofNat i_) < (0 : Int32)) from XT.nlt32 (a := i_) (b := 0) (by omega) (by omega))).2.1 rfl <| o_aloadN X0 hx (D 2 rfl) rfl rfl <| o_cP X0 hx hZ hown (rm_cki hw x_ SB O0 ) (W 222 rfl) (W 223 rfl) (W 225 rfl) (W 224 rfl) (W 163 rfl) (W 226 rfl) (by decide) e0 pr0 hml rfl [] [] own_pd17 rfl rfl 0 rfl (by decide) (D 3 rfl) fun T1 L1 v1 X1 hQ1 => ?_
  obtain ⟨rfl, Nq1, q1⟩ := hQ1
  have N1 := Fr.app N0 Nq1
  refine o_iloadN X1 hx (D 4 rfl) rfl <| o_cS X1 hx hZ hown (rm_wix hw i_ O0 pr5) (W 188 rfl) (W 189 rfl) (W 163 rfl) (W 190 rfl) (by decide) q1 hml rfl [(.int (Int32.ofNat i_))] [] own_pd23 rfl rfl 0 rfl (by decide) (D 5 rfl) fun T2 L2 v2 X2 hQ2 => ?_
  obtain ⟨rfl, Nq2, q2⟩ := hQ2
  have N2 := Fr.app N1 Nq2
  refine o_istoreN X2 hx (l' := #[vr x_, vi (Int32.ofNat i_), vi (0 : Int32), .unset, .unset]) (D 6 rfl) rfl <| o_iloadN X2 hx (D 7 rfl) rfl <| o_aloadN X2 hx (D 8 rfl) rfl rfl <| o_getF X2 hx hZ hown (host := "") (Or.inl (W 179 rfl)) Via.refl q2 Fu (D 9 rfl) fun T3 X3 e3 => o_icmpYes X3 hx 50 (D 10 rfl) (tlt (by decide : (0 : Int32) < (1 : Int32))).1 rfl <| o_aloadN X3 hx (D 11 rfl) rfl rfl <| o_getF X3 hx hZ hown (host := "") (Or.inl (W 192 rfl)) Via.refl e3 pr1 (D 12 rfl) fun T4 X4 e4 => o_iloadN X4 hx (D 13 rfl) rfl <| o_lal X4 hx hZ e4 Va ⟨by decide, by decide⟩ (v := (.long w_)) rfl (D 14 rfl) <| ogo (S' := T4.setTop (mkF m 59 #[vr x_, vi (Int32.ofNat i_), vi (0 : Int32), .unset, .unset] [(.long (-1 : Int64)), (.long w_)])) (X4.ldc2Long hx hown (mvT hZ (W 404 rfl)) (g := (mkF m 56 #[vr x_, vi (Int32.ofNat i_), vi (0 : Int32), .unset, .unset] [(.long w_)])) rfl (D 15 rfl)) <| o_lxor X4 hx (D 16 rfl) <| ogo (S' := T4.setTop (mkF m 63 #[vr x_, vi (Int32.ofNat i_), vi (0 : Int32), .unset, .unset] [(.long (-1 : Int64)), (.long (w_ ^^^ (-1 : Int64)))])) (X4.ldc2Long hx hown (mvT hZ (W 404 rfl)) (g := (mkF m 60 #[vr x_, vi (Int32.ofNat i_), vi (0 : Int32), .unset, .unset] [(.long (w_ ^^^ (-1 : Int64)))])) rfl (D 17 rfl)) <| o_iloadN X4 hx (D 18 rfl) rfl <| o_lshl X4 hx (D 19 rfl) ?_
  rw [show ((-1 : Int64) <<< ((Int32.ofNat i_) &&& 0x3f).toInt64) = (own_msk (Int32.ofNat i_)) from rfl]
  refine o_land X4 hx (D 20 rfl) <| o_lstoreN X4 hx (l' := #[vr x_, vi (Int32.ofNat i_), vi (0 : Int32), vl ((w_ ^^^ (-1 : Int64)) &&& (own_msk (Int32.ofNat i_))), .second]) (D 21 rfl) rfl <| o_lloadN X4 hx (D 22 rfl) rfl <| o_lconst X4 hx 0 (D 23 rfl) rfl <| o_lcmp X4 hx (D 24 rfl) <| o_ifNo X4 hx (D 25 rfl) (feq (fun q => pr7.1 ((lw_eq _ _).mp q))).1 <| o_iloadN X4 hx (D 26 rfl) rfl <| o_bipush X4 hx 64 (D 27 rfl) rfl <| o_imul X4 hx (D 28 rfl) <| o_lloadN X4 hx (D 29 rfl) rfl <| o_cS X4 hx hZ hown (rm_ntl hw ((w_ ^^^ (-1 : Int64)) &&& (own_msk (Int32.ofNat i_))) O0 pr7.2) (W 423 rfl) (W 424 rfl) (W 425 rfl) (W 426 rfl) (by decide) e4 hml rfl [(.long ((w_ ^^^ (-1 : Int64)) &&& (own_msk (Int32.ofNat i_))))] [(.int (0 : Int32))] own_pd25 rfl rfl 1 rfl (by decide) (D 30 rfl) fun T5 L5 v5 X5 hQ5 => ?_
  obtain ⟨rfl, Nq5, q5⟩ := hQ5
  have N5 := Fr.app N2 Nq5
  refine o_iadd X5 hx (D 31 rfl) ?_
  exact oendI X5 hx hlk hret (D 32 rfl) (by decide) q5 ⟨rfl, N5, rfl⟩
def own_sl (o : Slot) : Prop := o = .unset ∨ ∃ x : Int32, o = .val (.int x)
def own_m (xs ys : List Int32) (m i : Nat) : Prop := xs.getD i 0 = ys.getD 0 0 ∧ (m = 2 → xs.getD (i + 1) 0 = ys.getD 1 0)
instance (xs ys : List Int32) (m i : Nat) : Decidable (own_m xs ys m i) := by unfold own_m; infer_instance
def own_idxF (xs ys : List Int32) (m : Nat) : Nat → Nat → Int32
  | 0, _ => (-1 : Int32)
  | k + 1, i => if own_m xs ys m i then Int32.ofNat i else own_idxF xs ys m k (i + 1)
theorem own_idxY {xs ys : List Int32} {m k i : Nat} (h : own_m xs ys m i) : own_idxF xs ys m (k + 1) i = Int32.ofNat i := if_pos h
theorem own_idxN {xs ys : List Int32} {m k i : Nat} (h : ¬ own_m xs ys m i) : own_idxF xs ys m (k + 1) i = own_idxF xs ys m k (i + 1) := if_neg h
theorem own_mx {n m i : Nat} (hn : n ≤ 99) (hm : m ≤ 99) (hi : i ≤ 999) : Int32.ofNat n - Int32.ofNat m < Int32.ofNat i ↔ n < m + i := by
  have a := c_isub (Int32.ofNat n) (Int32.ofNat m)
  have b := rng32 (Int32.ofNat n - Int32.ofNat m)
  rw [Int32.toInt_ofNat_small (by omega), Int32.toInt_ofNat_small (by omega)] at a
  rw [Int32.lt_iff_toInt_lt, Int32.toInt_ofNat_small (n := i) (by omega)]
  omega
abbrev cd48 : ByteArray := jdk_43_method_25_code
theorem D48 : own_DD cd48 [(0, .aload_n 2, 1), (1, .iconst 0, 1), (2, .baload, 1), (3, .istore 5, 2), (5, .iload_n 1, 1), (6, .iload_n 3, 1), (7, .isub, 1), (8, .istore 6, 2), (10, .iload 4, 2), (12, .istore 7, 2), (14, .iload 7, 2), (16, .iload 6, 2), (18, .if_icmp .gt 101, 3), (119, .iconst (-1), 1), (120, .ireturn, 1), (52, .iload 7, 2), (54, .iload 6, 2), (56, .if_icmp .gt 57, 3), (113, .iinc 7 1, 3), (116, .goto (-102), 3), (30, .iinc 7 1, 3), (33, .iload 7, 2), (35, .iload 6, 2), (37, .if_icmp .gt 15, 3), (59, .iload 7, 2), (61, .iconst 1, 1), (62, .iadd, 1), (63, .istore 8, 2), (65, .iload 8, 2), (67, .iload_n 3, 1), (68, .iadd, 1), (69, .iconst 1, 1), (70, .isub, 1), (71, .istore 9, 2), (73, .iconst 1, 1), (74, .istore 10, 2), (76, .iload 8, 2), (78, .iload 9, 2), (80, .if_icmp .ge 23, 3), (103, .iload 8, 2), (105, .iload 9, 2), (107, .if_icmp .ne 6, 3), (110, .iload 7, 2), (112, .ireturn, 1), (83, .aload_n 0, 1), (84, .iload 8, 2), (86, .baload, 1), (87, .aload_n 2, 1), (88, .iload 10, 2), (90, .baload, 1), (91, .if_icmp .ne 12, 3), (94, .iinc 8 1, 3), (97, .iinc 10 1, 3), (100, .goto (-24), 3), (40, .aload_n 0, 1), (41, .iload 7, 2), (43, .baload, 1), (44, .iload 5, 2), (46, .if_icmp .eq 6, 3), (49, .goto (-19), 3), (21, .aload_n 0, 1), (22, .iload 7, 2), (24, .baload, 1), (25, .iload 5, 2), (27, .if_icmp .eq 25, 3)] := own_dk (by decide +kernel)
def own_Q_l1x (Z : State)  (ba_ : Addr) (kb_ : ClassId) (xs_ : List Int32) (n_ : Nat) (bb_ : Addr) (kc_ : ClassId) (ys_ : List Int32) (m_ f_ : Nat) (h0 : Heap) (n0 : Nat) (v : Option Value) (h : Heap) (L : List Loc) : Prop := (v = some (.int (own_idxF xs_ ys_ m_ (n_ + 1 - m_ - f_) f_))) ∧ (Fr n0 L) ∧ (h = h0)
abbrev yM47 : MethodName := ⟨"java/lang/StringLatin1", "indexOf", "([BI[BII)I"⟩
theorem rm_l1x {l : Launch} {Z : State} {a0 : Array Value} (hw : own_hw a0 Z)  {ba_ : Addr} {kb_ : ClassId} {xs_ : List Int32} {bb_ : Addr} {kc_ : ClassId} {ys_ : List Int32} (n_ m_ f_ : Nat) {h0 : Heap} {n0 : Nat} (O0 : Old Z n0 h0) (pr0 : Arv Z h0 ba_ kb_ .byte (Int32.ofNat n_) (own_vs xs_) (.int 0)) (pr1 : Arv Z h0 bb_ kc_ .byte (Int32.ofNat m_) (own_vs ys_) (.int 0)) (pr2 : xs_.length = n_ ∧ n_ ≤ 9) (pr3 : f_ ≤ n_ + 1) (pr4 : m_ = 1 ∨ m_ = 2) :
    oMet l Z yM47 jdk_43_method_25_code 11 (some .int) [] (rmo 0 0 0 0) 0 0 #[(.ref ba_), (.int (Int32.ofNat n_)), (.ref bb_), (.int (Int32.ofNat m_)), (.int (Int32.ofNat f_))] h0 (own_Q_l1x Z  ba_ kb_ xs_ n_ bb_ kc_ ys_ m_ f_ h0 n0) := by
  refine oenter (plainFor_of_name own_pn2) #[vr ba_, vi (Int32.ofNat n_), vr bb_, vi (Int32.ofNat m_), vi (Int32.ofNat f_), .unset, .unset, .unset, .unset, .unset, .unset] (fun _ => rfl) ?_
  intro p e s m below meth c s₁ X0 hx hZ hby hml hret hown hnm hlk e0
  have N0 := Fr.nil n0
  have D := own_hb hby D48
  have W := own_w hw
  refine o_aloadN X0 hx (D 0 rfl) rfl rfl <| o_iconst X0 hx 0 (D 1 rfl) rfl <| o_bal X0 hx hZ e0 pr1 (own_inb (i := 0) (n := m_) (by omega) (by omega)) (v := (.int (ys_.getD 0 0))) (own_vsat (i := 0) (by omega)) (D 2 rfl) <| o_istore X0 hx (l' := #[vr ba_, vi (Int32.ofNat n_), vr bb_, vi (Int32.ofNat m_), vi (Int32.ofNat f_), vi (ys_.getD 0 0), .unset, .unset, .unset, .unset, .unset]) (D 3 rfl) rfl <| o_iloadN X0 hx (D 4 rfl) rfl <| o_iloadN X0 hx (D 5 rfl) rfl <| o_isub X0 hx (D 6 rfl) <| o_istore X0 hx (l' := #[vr ba_, vi (Int32.ofNat n_), vr bb_, vi (Int32.ofNat m_), vi (Int32.ofNat f_), vi (ys_.getD 0 0), vi ((Int32.ofNat n_) - (Int32.ofNat m_)), .unset, .unset, .unset, .unset]) (D 7 rfl) rfl <| o_iload X0 hx (D 8 rfl) rfl <| o_istore X0 hx (l' := #[vr ba_, vi (Int32.ofNat n_), vr bb_, vi (Int32.ofNat m_), vi (Int32.ofNat f_), vi (ys_.getD 0 0), vi ((Int32.ofNat n_) - (Int32.ofNat m_)), vi (Int32.ofNat f_), .unset, .unset, .unset]) (D 9 rfl) rfl ?_
  have main : ∀ k : Nat, (∀ (i : Nat) (o8 o9 o10 : Slot), own_sl o8 → own_sl o9 → own_sl o10 → (n_ + 1 - m_ - i = k) → (i ≤ n_ + 2) → (own_idxF xs_ ys_ m_ (n_ + 1 - m_ - f_) f_ = own_idxF xs_ ys_ m_ k i) → (m_ + i ≤ n_ → xs_.getD i 0 = ys_.getD 0 0) → Own p e below (oPost (own_Q_l1x Z  ba_ kb_ xs_ n_ bb_ kc_ ys_ m_ f_ h0 n0) s 0 0) (s₁.setTop (mkF m 52 #[vr ba_, vi (Int32.ofNat n_), vr bb_, vi (Int32.ofNat m_), vi (Int32.ofNat f_), vi (ys_.getD 0 0), vi ((Int32.ofNat n_) - (Int32.ofNat m_)), vi (Int32.ofNat i), o8, o9, o10] []))) ∧ (∀ (i : Nat) (o8 o9 o10 : Slot), own_sl o8 → own_sl o9 → own_sl o10 → (n_ + 1 - m_ - (i + 1) = k) → (m_ + i ≤ n_) → (own_idxF xs_ ys_ m_ (n_ + 1 - m_ - f_) f_ = own_idxF xs_ ys_ m_ k (i + 1)) → Own p e below (oPost (own_Q_l1x Z  ba_ kb_ xs_ n_ bb_ kc_ ys_ m_ f_ h0 n0) s 0 0) (s₁.setTop (mkF m 30 #[vr ba_, vi (Int32.ofNat n_), vr bb_, vi (Int32.ofNat m_), vi (Int32.ofNat f_), vi (ys_.getD 0 0), vi ((Int32.ofNat n_) - (Int32.ofNat m_)), vi (Int32.ofNat i), o8, o9, o10] []))) ∧ (∀ (i : Nat) (o8 o9 o10 : Slot), own_sl o8 → own_sl o9 → own_sl o10 → (n_ + 1 - m_ - i = k) → (i ≤ n_ + 3) → (own_idxF xs_ ys_ m_ (n_ + 1 - m_ - f_) f_ = own_idxF xs_ ys_ m_ k i) → Own p e below (oPost (own_Q_l1x Z  ba_ kb_ xs_ n_ bb_ kc_ ys_ m_ f_ h0 n0) s 0 0) (s₁.setTop (mkF m 14 #[vr ba_, vi (Int32.ofNat n_), vr bb_, vi (Int32.ofNat m_), vi (Int32.ofNat f_), vi (ys_.getD 0 0), vi ((Int32.ofNat n_) - (Int32.ofNat m_)), vi (Int32.ofNat i), o8, o9, o10] []))) := by
    intro k
    induction k with
    | zero =>
      have hA : ∀ (i : Nat) (o8 o9 o10 : Slot), own_sl o8 → own_sl o9 → own_sl o10 → (n_ + 1 - m_ - i = 0) → (i ≤ n_ + 3) → (own_idxF xs_ ys_ m_ (n_ + 1 - m_ - f_) f_ = own_idxF xs_ ys_ m_ 0 i) → Own p e below (oPost (own_Q_l1x Z  ba_ kb_ xs_ n_ bb_ kc_ ys_ m_ f_ h0 n0) s 0 0) (s₁.setTop (mkF m 14 #[vr ba_, vi (Int32.ofNat n_), vr bb_, vi (Int32.ofNat m_), vi (Int32.ofNat f_), vi (ys_.getD 0 0), vi ((Int32.ofNat n_) - (Int32.ofNat m_)), vi (Int32.ofNat i), o8, o9, o10] [])) := by
        intro i o8 o9 o10 h8 h9 h10 hk hi hR
        refine o_iload X0 hx (D 10 rfl) rfl <| o_iload X0 hx (D 11 rfl) rfl <| o_icmpYes X0 hx 119 (D 12 rfl) (tlt ((own_mx (by omega) (by omega) (by omega)).mpr (by omega))).2.2.1 rfl <| o_iconst X0 hx (-1) (D 13 rfl) rfl ?_
        exact oendI X0 hx hlk hret (D 14 rfl) (by decide) e0 ⟨congrArg (fun z_ => some (Value.int z_)) hR.symm, N0, rfl⟩
      have hC : ∀ (i : Nat) (o8 o9 o10 : Slot), own_sl o8 → own_sl o9 → own_sl o10 → (n_ + 1 - m_ - i = 0) → (i ≤ n_ + 2) → (own_idxF xs_ ys_ m_ (n_ + 1 - m_ - f_) f_ = own_idxF xs_ ys_ m_ 0 i) → (m_ + i ≤ n_ → xs_.getD i 0 = ys_.getD 0 0) → Own p e below (oPost (own_Q_l1x Z  ba_ kb_ xs_ n_ bb_ kc_ ys_ m_ f_ h0 n0) s 0 0) (s₁.setTop (mkF m 52 #[vr ba_, vi (Int32.ofNat n_), vr bb_, vi (Int32.ofNat m_), vi (Int32.ofNat f_), vi (ys_.getD 0 0), vi ((Int32.ofNat n_) - (Int32.ofNat m_)), vi (Int32.ofNat i), o8, o9, o10] [])) := by
        intro i o8 o9 o10 h8 h9 h10 hk hi hR he
        refine o_iload X0 hx (D 15 rfl) rfl <| o_iload X0 hx (D 16 rfl) rfl <| o_icmpYes X0 hx 113 (D 17 rfl) (tlt ((own_mx (by omega) (by omega) (by omega)).mpr (by omega))).2.2.1 rfl <| o_iinc X0 hx (l' := #[vr ba_, vi (Int32.ofNat n_), vr bb_, vi (Int32.ofNat m_), vi (Int32.ofNat f_), vi (ys_.getD 0 0), vi ((Int32.ofNat n_) - (Int32.ofNat m_)), vi ((Int32.ofNat i) + (1 : Int32)), o8, o9, o10]) (D 18 rfl) rfl rfl ?_
        rw [show ((Int32.ofNat i) + (1 : Int32)) = (Int32.ofNat (i + 1)) from XT.add32n i 1]
        refine o_goto X0 hx 14 (D 19 rfl) rfl ?_
        exact hA (i + 1) _ _ _ h8 h9 h10 (by omega) (by omega) (hR)
      have hB : ∀ (i : Nat) (o8 o9 o10 : Slot), own_sl o8 → own_sl o9 → own_sl o10 → (n_ + 1 - m_ - (i + 1) = 0) → (m_ + i ≤ n_) → (own_idxF xs_ ys_ m_ (n_ + 1 - m_ - f_) f_ = own_idxF xs_ ys_ m_ 0 (i + 1)) → Own p e below (oPost (own_Q_l1x Z  ba_ kb_ xs_ n_ bb_ kc_ ys_ m_ f_ h0 n0) s 0 0) (s₁.setTop (mkF m 30 #[vr ba_, vi (Int32.ofNat n_), vr bb_, vi (Int32.ofNat m_), vi (Int32.ofNat f_), vi (ys_.getD 0 0), vi ((Int32.ofNat n_) - (Int32.ofNat m_)), vi (Int32.ofNat i), o8, o9, o10] [])) := by
        intro i o8 o9 o10 h8 h9 h10 hk hi hR
        refine o_iinc X0 hx (l' := #[vr ba_, vi (Int32.ofNat n_), vr bb_, vi (Int32.ofNat m_), vi (Int32.ofNat f_), vi (ys_.getD 0 0), vi ((Int32.ofNat n_) - (Int32.ofNat m_)), vi ((Int32.ofNat i) + (1 : Int32)), o8, o9, o10]) (D 20 rfl) rfl rfl ?_
        rw [show ((Int32.ofNat i) + (1 : Int32)) = (Int32.ofNat (i + 1)) from XT.add32n i 1]
        refine o_iload X0 hx (D 21 rfl) rfl <| o_iload X0 hx (D 22 rfl) rfl <| o_icmpYes X0 hx 52 (D 23 rfl) (tlt ((own_mx (by omega) (by omega) (by omega)).mpr (by omega))).2.2.1 rfl ?_
        exact hC (i + 1) _ _ _ h8 h9 h10 (by omega) (by omega) (hR) (fun q => absurd q (by omega))
      exact ⟨hC, hB, hA⟩
    | succ k ih =>
      obtain ⟨ihC, ihB, ihA⟩ := ih
      have hC : ∀ (i : Nat) (o8 o9 o10 : Slot), own_sl o8 → own_sl o9 → own_sl o10 → (n_ + 1 - m_ - i = (k + 1)) → (i ≤ n_ + 2) → (own_idxF xs_ ys_ m_ (n_ + 1 - m_ - f_) f_ = own_idxF xs_ ys_ m_ (k + 1) i) → (m_ + i ≤ n_ → xs_.getD i 0 = ys_.getD 0 0) → Own p e below (oPost (own_Q_l1x Z  ba_ kb_ xs_ n_ bb_ kc_ ys_ m_ f_ h0 n0) s 0 0) (s₁.setTop (mkF m 52 #[vr ba_, vi (Int32.ofNat n_), vr bb_, vi (Int32.ofNat m_), vi (Int32.ofNat f_), vi (ys_.getD 0 0), vi ((Int32.ofNat n_) - (Int32.ofNat m_)), vi (Int32.ofNat i), o8, o9, o10] [])) := by
        intro i o8 o9 o10 h8 h9 h10 hk hi hR he
        refine o_iload X0 hx (D 15 rfl) rfl <| o_iload X0 hx (D 16 rfl) rfl <| o_icmpNo X0 hx (D 17 rfl) (flt (fun q => absurd ((own_mx (by omega) (by omega) (by omega)).mp q) (by omega))).2.2.1 <| o_iload X0 hx (D 24 rfl) rfl <| o_iconst X0 hx 1 (D 25 rfl) rfl <| o_iadd X0 hx (D 26 rfl) ?_
        rw [show ((Int32.ofNat i) + (1 : Int32)) = (Int32.ofNat (i + 1)) from XT.add32n i 1]
        refine o_istore X0 hx (l' := #[vr ba_, vi (Int32.ofNat n_), vr bb_, vi (Int32.ofNat m_), vi (Int32.ofNat f_), vi (ys_.getD 0 0), vi ((Int32.ofNat n_) - (Int32.ofNat m_)), vi (Int32.ofNat i), vi (Int32.ofNat (i + 1)), o9, o10]) (D 27 rfl) (by rcases h8 with rfl | ⟨_, rfl⟩ <;> rfl) <| o_iload X0 hx (D 28 rfl) rfl <| o_iloadN X0 hx (D 29 rfl) rfl <| o_iadd X0 hx (D 30 rfl) ?_
        rw [show ((Int32.ofNat (i + 1)) + (Int32.ofNat m_)) = (Int32.ofNat ((i + 1) + m_)) from XT.add32n (i + 1) m_]
        refine o_iconst X0 hx 1 (D 31 rfl) rfl <| o_isub X0 hx (D 32 rfl) ?_
        rw [show ((Int32.ofNat ((i + 1) + m_)) - (1 : Int32)) = (Int32.ofNat (((i + 1) + m_) - 1)) from XT.sub32n (a := ((i + 1) + m_)) (b := 1) (by omega)]
        refine o_istore X0 hx (l' := #[vr ba_, vi (Int32.ofNat n_), vr bb_, vi (Int32.ofNat m_), vi (Int32.ofNat f_), vi (ys_.getD 0 0), vi ((Int32.ofNat n_) - (Int32.ofNat m_)), vi (Int32.ofNat i), vi (Int32.ofNat (i + 1)), vi (Int32.ofNat (((i + 1) + m_) - 1)), o10]) (D 33 rfl) (by rcases h9 with rfl | ⟨_, rfl⟩ <;> rfl) <| o_iconst X0 hx 1 (D 34 rfl) rfl <| o_istore X0 hx (l' := #[vr ba_, vi (Int32.ofNat n_), vr bb_, vi (Int32.ofNat m_), vi (Int32.ofNat f_), vi (ys_.getD 0 0), vi ((Int32.ofNat n_) - (Int32.ofNat m_)), vi (Int32.ofNat i), vi (Int32.ofNat (i + 1)), vi (Int32.ofNat (((i + 1) + m_) - 1)), vi (1 : Int32)]) (D 35 rfl) (by rcases h10 with rfl | ⟨_, rfl⟩ <;> rfl) ?_
        rcases pr4 with hm | hm
        · refine o_iload X0 hx (D 36 rfl) rfl <| o_iload X0 hx (D 37 rfl) rfl <| o_icmpYes X0 hx 103 (D 38 rfl) (flt (show ¬ ((Int32.ofNat (i + 1)) < (Int32.ofNat (((i + 1) + m_) - 1))) from XT.nlt32 (a := (i + 1)) (b := (((i + 1) + m_) - 1)) (by omega) (by omega))).2.1 rfl <| o_iload X0 hx (D 39 rfl) rfl <| o_iload X0 hx (D 40 rfl) rfl <| o_icmpNo X0 hx (D 41 rfl) (teq (show (Int32.ofNat (i + 1)) = (Int32.ofNat (((i + 1) + m_) - 1)) from congrArg Int32.ofNat (show (i + 1) = (((i + 1) + m_) - 1) by omega))).2 <| o_iload X0 hx (D 42 rfl) rfl ?_
          exact oendI X0 hx hlk hret (D 43 rfl) (by decide) e0 ⟨congrArg (fun z_ => some (Value.int z_)) ((hR.trans (own_idxY ⟨he (by omega), fun q => absurd q (by omega)⟩)).symm), N0, rfl⟩
        · refine o_iload X0 hx (D 36 rfl) rfl <| o_iload X0 hx (D 37 rfl) rfl <| o_icmpNo X0 hx (D 38 rfl) (tlt (show (Int32.ofNat (i + 1)) < (Int32.ofNat (((i + 1) + m_) - 1)) from XT.lt32 (a := (i + 1)) (b := (((i + 1) + m_) - 1)) (by omega) (by omega))).2.1 <| o_aloadN X0 hx (D 44 rfl) rfl rfl <| o_iload X0 hx (D 45 rfl) rfl <| o_bal X0 hx hZ e0 pr0 (own_inb (i := (i + 1)) (n := n_) (by omega) (by omega)) (v := (.int (xs_.getD (i + 1) 0))) (own_vsat (i := (i + 1)) (by omega)) (D 46 rfl) <| o_aloadN X0 hx (D 47 rfl) rfl rfl <| o_iload X0 hx (D 48 rfl) rfl <| o_bal X0 hx hZ e0 pr1 (own_inb (i := 1) (n := m_) (by omega) (by omega)) (v := (.int (ys_.getD 1 0))) (own_vsat (i := 1) (by omega)) (D 49 rfl) ?_
          by_cases hc2 : (xs_.getD (i + 1) 0) = (ys_.getD 1 0)
          · refine o_icmpNo X0 hx (D 50 rfl) (teq hc2).2 <| o_iinc X0 hx (l' := #[vr ba_, vi (Int32.ofNat n_), vr bb_, vi (Int32.ofNat m_), vi (Int32.ofNat f_), vi (ys_.getD 0 0), vi ((Int32.ofNat n_) - (Int32.ofNat m_)), vi (Int32.ofNat i), vi ((Int32.ofNat (i + 1)) + (1 : Int32)), vi (Int32.ofNat (((i + 1) + m_) - 1)), vi (1 : Int32)]) (D 51 rfl) rfl rfl ?_
            rw [show ((Int32.ofNat (i + 1)) + (1 : Int32)) = (Int32.ofNat ((i + 1) + 1)) from XT.add32n (i + 1) 1]
            refine o_iinc X0 hx (l' := #[vr ba_, vi (Int32.ofNat n_), vr bb_, vi (Int32.ofNat m_), vi (Int32.ofNat f_), vi (ys_.getD 0 0), vi ((Int32.ofNat n_) - (Int32.ofNat m_)), vi (Int32.ofNat i), vi (Int32.ofNat ((i + 1) + 1)), vi (Int32.ofNat (((i + 1) + m_) - 1)), vi (2 : Int32)]) (D 52 rfl) rfl rfl <| o_goto X0 hx 76 (D 53 rfl) rfl <| o_iload X0 hx (D 36 rfl) rfl <| o_iload X0 hx (D 37 rfl) rfl <| o_icmpYes X0 hx 103 (D 38 rfl) (flt (show ¬ ((Int32.ofNat ((i + 1) + 1)) < (Int32.ofNat (((i + 1) + m_) - 1))) from XT.nlt32 (a := ((i + 1) + 1)) (b := (((i + 1) + m_) - 1)) (by omega) (by omega))).2.1 rfl <| o_iload X0 hx (D 39 rfl) rfl <| o_iload X0 hx (D 40 rfl) rfl <| o_icmpNo X0 hx (D 41 rfl) (teq (show (Int32.ofNat ((i + 1) + 1)) = (Int32.ofNat (((i + 1) + m_) - 1)) from congrArg Int32.ofNat (show ((i + 1) + 1) = (((i + 1) + m_) - 1) by omega))).2 <| o_iload X0 hx (D 42 rfl) rfl ?_
            exact oendI X0 hx hlk hret (D 43 rfl) (by decide) e0 ⟨congrArg (fun z_ => some (Value.int z_)) ((hR.trans (own_idxY ⟨he (by omega), fun _ => hc2⟩)).symm), N0, rfl⟩
          · refine o_icmpYes X0 hx 103 (D 50 rfl) (feq hc2).2 rfl <| o_iload X0 hx (D 39 rfl) rfl <| o_iload X0 hx (D 40 rfl) rfl <| o_icmpYes X0 hx 113 (D 41 rfl) (feq (show ¬ ((Int32.ofNat (i + 1)) = (Int32.ofNat (((i + 1) + m_) - 1))) from XT.ne32 (a := (i + 1)) (b := (((i + 1) + m_) - 1)) (by omega) (by omega) (by omega))).2 rfl <| o_iinc X0 hx (l' := #[vr ba_, vi (Int32.ofNat n_), vr bb_, vi (Int32.ofNat m_), vi (Int32.ofNat f_), vi (ys_.getD 0 0), vi ((Int32.ofNat n_) - (Int32.ofNat m_)), vi ((Int32.ofNat i) + (1 : Int32)), vi (Int32.ofNat (i + 1)), vi (Int32.ofNat (((i + 1) + m_) - 1)), vi (1 : Int32)]) (D 18 rfl) rfl rfl ?_
            rw [show ((Int32.ofNat i) + (1 : Int32)) = (Int32.ofNat (i + 1)) from XT.add32n i 1]
            refine o_goto X0 hx 14 (D 19 rfl) rfl ?_
            exact ihA (i + 1) _ _ _ (Or.inr ⟨_, rfl⟩) (Or.inr ⟨_, rfl⟩) (Or.inr ⟨_, rfl⟩) (by omega) (by omega) (hR.trans (own_idxN (fun q => hc2 (q.2 hm))))
      have hB : ∀ (i : Nat) (o8 o9 o10 : Slot), own_sl o8 → own_sl o9 → own_sl o10 → (n_ + 1 - m_ - (i + 1) = (k + 1)) → (m_ + i ≤ n_) → (own_idxF xs_ ys_ m_ (n_ + 1 - m_ - f_) f_ = own_idxF xs_ ys_ m_ (k + 1) (i + 1)) → Own p e below (oPost (own_Q_l1x Z  ba_ kb_ xs_ n_ bb_ kc_ ys_ m_ f_ h0 n0) s 0 0) (s₁.setTop (mkF m 30 #[vr ba_, vi (Int32.ofNat n_), vr bb_, vi (Int32.ofNat m_), vi (Int32.ofNat f_), vi (ys_.getD 0 0), vi ((Int32.ofNat n_) - (Int32.ofNat m_)), vi (Int32.ofNat i), o8, o9, o10] [])) := by
        intro i o8 o9 o10 h8 h9 h10 hk hi hR
        refine o_iinc X0 hx (l' := #[vr ba_, vi (Int32.ofNat n_), vr bb_, vi (Int32.ofNat m_), vi (Int32.ofNat f_), vi (ys_.getD 0 0), vi ((Int32.ofNat n_) - (Int32.ofNat m_)), vi ((Int32.ofNat i) + (1 : Int32)), o8, o9, o10]) (D 20 rfl) rfl rfl ?_
        rw [show ((Int32.ofNat i) + (1 : Int32)) = (Int32.ofNat (i + 1)) from XT.add32n i 1]
        refine o_iload X0 hx (D 21 rfl) rfl <| o_iload X0 hx (D 22 rfl) rfl <| o_icmpNo X0 hx (D 23 rfl) (flt (fun q => absurd ((own_mx (by omega) (by omega) (by omega)).mp q) (by omega))).2.2.1 <| o_aloadN X0 hx (D 54 rfl) rfl rfl <| o_iload X0 hx (D 55 rfl) rfl <| o_bal X0 hx hZ e0 pr0 (own_inb (i := (i + 1)) (n := n_) (by omega) (by omega)) (v := (.int (xs_.getD (i + 1) 0))) (own_vsat (i := (i + 1)) (by omega)) (D 56 rfl) <| o_iload X0 hx (D 57 rfl) rfl ?_
        by_cases hc4 : (xs_.getD (i + 1) 0) = (ys_.getD 0 0)
        · refine o_icmpYes X0 hx 52 (D 58 rfl) (teq hc4).1 rfl ?_
          exact hC (i + 1) _ _ _ h8 h9 h10 (by omega) (by omega) (hR) (fun _ => hc4)
        · refine o_icmpNo X0 hx (D 58 rfl) (feq hc4).1 <| o_goto X0 hx 30 (D 59 rfl) rfl ?_
          exact ihB (i + 1) _ _ _ h8 h9 h10 (by omega) (by omega) (hR.trans (own_idxN (fun q => hc4 q.1)))
      have hA : ∀ (i : Nat) (o8 o9 o10 : Slot), own_sl o8 → own_sl o9 → own_sl o10 → (n_ + 1 - m_ - i = (k + 1)) → (i ≤ n_ + 3) → (own_idxF xs_ ys_ m_ (n_ + 1 - m_ - f_) f_ = own_idxF xs_ ys_ m_ (k + 1) i) → Own p e below (oPost (own_Q_l1x Z  ba_ kb_ xs_ n_ bb_ kc_ ys_ m_ f_ h0 n0) s 0 0) (s₁.setTop (mkF m 14 #[vr ba_, vi (Int32.ofNat n_), vr bb_, vi (Int32.ofNat m_), vi (Int32.ofNat f_), vi (ys_.getD 0 0), vi ((Int32.ofNat n_) - (Int32.ofNat m_)), vi (Int32.ofNat i), o8, o9, o10] [])) := by
        intro i o8 o9 o10 h8 h9 h10 hk hi hR
        refine o_iload X0 hx (D 10 rfl) rfl <| o_iload X0 hx (D 11 rfl) rfl <| o_icmpNo X0 hx (D 12 rfl) (flt (fun q => absurd ((own_mx (by omega) (by omega) (by omega)).mp q) (by omega))).2.2.1 <| o_aloadN X0 hx (D 60 rfl) rfl rfl <| o_iload X0 hx (D 61 rfl) rfl <| o_bal X0 hx hZ e0 pr0 (own_inb (i := i) (n := n_) (by omega) (by omega)) (v := (.int (xs_.getD i 0))) (own_vsat (i := i) (by omega)) (D 62 rfl) <| o_iload X0 hx (D 63 rfl) rfl ?_
        by_cases hc6 : (xs_.getD i 0) = (ys_.getD 0 0)
        · refine o_icmpYes X0 hx 52 (D 64 rfl) (teq hc6).1 rfl ?_
          exact hC i _ _ _ h8 h9 h10 (by omega) (by omega) (hR) (fun _ => hc6)
        · refine o_icmpNo X0 hx (D 64 rfl) (feq hc6).1 ?_
          exact ihB i _ _ _ h8 h9 h10 (by omega) (by omega) (hR.trans (own_idxN (fun q => hc6 q.1)))
      exact ⟨hC, hB, hA⟩
  exact (main (n_ + 1 - m_ - f_)).2.2 f_ _ _ _ (Or.inl rfl) (Or.inl rfl) (Or.inl rfl) rfl (by omega) rfl
theorem own_pd26 : parseMethodDescriptor "([BI[BII)I" = some ⟨[(.array .byte), .int, (.array .byte), .int, .int], some .int⟩ := by decide +kernel
abbrev cd49 : ByteArray := jdk_43_method_24_code
theorem D49 : own_DD cd49 [(0, .aload_n 1, 1), (1, .arraylength, 1), (2, .ifCond .ne 5, 3), (7, .aload_n 0, 1), (8, .arraylength, 1), (9, .ifCond .ne 5, 3), (12, .iconst (-1), 1), (13, .ireturn, 1), (14, .aload_n 0, 1), (15, .aload_n 0, 1), (16, .arraylength, 1), (17, .aload_n 1, 1), (18, .aload_n 1, 1), (19, .arraylength, 1), (20, .iconst 0, 1), (21, .invokestatic 99, 3), (24, .ireturn, 1)] := own_dk (by decide +kernel)
def own_Q_l1y (Z : State)  (ba_ : Addr) (kb_ : ClassId) (xs_ : List Int32) (n_ : Nat) (bb_ : Addr) (kc_ : ClassId) (ys_ : List Int32) (m_ : Nat) (h0 : Heap) (n0 : Nat) (v : Option Value) (h : Heap) (L : List Loc) : Prop := (v = some (.int (own_idxF xs_ ys_ m_ (n_ + 1 - m_ - 0) 0))) ∧ (Fr n0 L) ∧ (h = h0)
abbrev yM48 : MethodName := ⟨"java/lang/StringLatin1", "indexOf", "([B[B)I"⟩
theorem rm_l1y {l : Launch} {Z : State} {a0 : Array Value} (hw : own_hw a0 Z)  {ba_ : Addr} {kb_ : ClassId} {xs_ : List Int32} {bb_ : Addr} {kc_ : ClassId} {ys_ : List Int32} (n_ m_ : Nat) {h0 : Heap} {n0 : Nat} (O0 : Old Z n0 h0) (pr0 : Arv Z h0 ba_ kb_ .byte (Int32.ofNat n_) (own_vs xs_) (.int 0)) (pr1 : Arv Z h0 bb_ kc_ .byte (Int32.ofNat m_) (own_vs ys_) (.int 0)) (pr2 : xs_.length = n_ ∧ n_ ≤ 9) (pr3 : m_ = 1 ∨ m_ = 2) :
    oMet l Z yM48 jdk_43_method_24_code 2 (some .int) [] (rmo 1 0 0 22) 0 0 #[(.ref ba_), (.ref bb_)] h0 (own_Q_l1y Z  ba_ kb_ xs_ n_ bb_ kc_ ys_ m_ h0 n0) := by
  refine oenter (plainFor_of_name own_pn2) #[vr ba_, vr bb_] (fun _ => rfl) ?_
  intro p e s m below meth c s₁ X0 hx hZ hby hml hret hown hnm hlk e0
  have N0 := Fr.nil n0
  have D := own_hb hby D49
  have W := own_w hw
  refine o_aloadN X0 hx (D 0 rfl) rfl rfl <| o_alen X0 hx hZ e0 pr1 (D 1 rfl) <| o_ifYes X0 hx 7 (D 2 rfl) (feq (show ¬ ((Int32.ofNat m_) = (0 : Int32)) from XT.ne32 (a := m_) (b := 0) (by omega) (by omega) (by omega))).2 rfl <| o_aloadN X0 hx (D 3 rfl) rfl rfl <| o_alen X0 hx hZ e0 pr0 (D 4 rfl) ?_
  by_cases hc2 : n_ = 0
  · refine o_ifNo X0 hx (D 5 rfl) (teq (show (Int32.ofNat n_) = (0 : Int32) from congrArg Int32.ofNat (show n_ = 0 by omega))).2 <| o_iconst X0 hx (-1) (D 6 rfl) rfl ?_
    exact oendI X0 hx hlk hret (D 7 rfl) (by decide) e0 ⟨congrArg (fun z_ => some (Value.int z_)) (by rw [show n_ + 1 - m_ - 0 = 0 by omega]; rfl), N0, rfl⟩
  · refine o_ifYes X0 hx 14 (D 5 rfl) (feq (show ¬ ((Int32.ofNat n_) = (0 : Int32)) from XT.ne32 (a := n_) (b := 0) (by omega) (by omega) (by omega))).2 rfl <| o_aloadN X0 hx (D 8 rfl) rfl rfl <| o_aloadN X0 hx (D 9 rfl) rfl rfl <| o_alen X0 hx hZ e0 pr0 (D 10 rfl) <| o_aloadN X0 hx (D 11 rfl) rfl rfl <| o_aloadN X0 hx (D 12 rfl) rfl rfl <| o_alen X0 hx hZ e0 pr1 (D 13 rfl) <| o_iconst X0 hx 0 (D 14 rfl) rfl <| o_cS X0 hx hZ hown (rm_l1x hw n_ m_ 0 O0 pr0 pr1 pr2 (by first | rfl | assumption | decide | omega) pr3) (W 370 rfl) (W 371 rfl) (W 347 rfl) (W 372 rfl) (by decide) e0 hml rfl [(.ref ba_), (.int (Int32.ofNat n_)), (.ref bb_), (.int (Int32.ofNat m_)), (.int (0 : Int32))] [] own_pd26 rfl rfl 0 rfl (by decide) (D 15 rfl) fun T3 L3 v3 X3 hQ3 => ?_
    obtain ⟨rfl, Nq3, q3⟩ := hQ3
    have N3 := Fr.app N0 Nq3
    exact oendI X3 hx hlk hret (D 16 rfl) (by decide) q3 ⟨rfl, N3, rfl⟩
theorem own_pd27 : parseMethodDescriptor "([B[B)I" = some ⟨[(.array .byte), (.array .byte)], some .int⟩ := by decide +kernel
abbrev cd50 : ByteArray := jdk_42_method_84_code
theorem D50 : own_DD cd50 [(0, .aload_n 0, 1), (1, .invokevirtual 335, 3), (4, .istore_n 2, 1), (5, .iload_n 2, 1), (6, .aload_n 1, 1), (7, .invokevirtual 335, 3), (10, .if_icmp .ne 36, 3), (13, .aload_n 0, 1), (14, .invokevirtual 492, 3), (17, .ifCond .eq 17, 3), (20, .aload_n 0, 1), (21, .getfield 9, 3), (24, .aload_n 1, 1), (25, .getfield 9, 3), (28, .invokestatic 647, 3), (31, .goto 14, 3), (45, .ireturn, 1)] := own_dk (by decide +kernel)
def own_Q_sio (Z : State) (z_CS : Int32) (v_FMT : Value) (s_DC : Addr) (k_DC : ClassId) (v_IO : Value) (x_ ba_ : Addr) (kb_ : ClassId) (xs_ : List Int32) (n_ : Nat) (y_ bb_ : Addr) (kc_ : ClassId) (ys_ : List Int32) (m_ : Nat) (h0 : Heap) (n0 : Nat) (v : Option Value) (h : Heap) (L : List Loc) : Prop := (v = some (.int (own_idxF xs_ ys_ m_ (n_ + 1 - m_ - 0) 0))) ∧ (Fr n0 L) ∧ (h = h0)
abbrev yM49 : MethodName := ⟨"java/lang/String", "indexOf", "(Ljava/lang/String;)I"⟩
theorem rm_sio {l : Launch} {Z : State} {a0 : Array Value} (hw : own_hw a0 Z) {z_CS : Int32} {v_FMT : Value} {s_DC : Addr} {k_DC : ClassId} {v_IO : Value} {x_ ba_ : Addr} {kb_ : ClassId} {xs_ : List Int32} {y_ bb_ : Addr} {kc_ : ClassId} {ys_ : List Int32} (n_ m_ : Nat) {h0 : Heap} {n0 : Nat} (SB : own_Start Z z_CS v_FMT s_DC k_DC v_IO) (O0 : Old Z n0 h0) (pr0 : Exa Z h0 x_ "java/lang/String") (pr1 : Fld Z h0 x_ "java/lang/String" "coder" "B" (.int (0 : Int32))) (pr2 : Fld Z h0 x_ "java/lang/String" "value" "[B" (.ref ba_)) (pr3 : Arv Z h0 ba_ kb_ .byte (Int32.ofNat n_) (own_vs xs_) (.int 0)) (pr4 : Exa Z h0 y_ "java/lang/String") (pr5 : Fld Z h0 y_ "java/lang/String" "coder" "B" (.int (0 : Int32))) (pr6 : Fld Z h0 y_ "java/lang/String" "value" "[B" (.ref bb_)) (pr7 : Arv Z h0 bb_ kc_ .byte (Int32.ofNat m_) (own_vs ys_) (.int 0)) (pr8 : xs_.length = n_ ∧ n_ ≤ 9) (pr9 : m_ = 1 ∨ m_ = 2) :
    oMet l Z yM49 jdk_42_method_84_code 3 (some .int) [] (rmo 2 0 0 35) 0 0 #[(.ref x_), (.ref y_)] h0 (own_Q_sio Z z_CS v_FMT s_DC k_DC v_IO x_ ba_ kb_ xs_ n_ y_ bb_ kc_ ys_ m_ h0 n0) := by
  refine oenter (plainFor_of_name own_pn0) #[vr x_, vr y_, .unset] (fun _ => rfl) ?_
  intro p e s m below meth c s₁ X0 hx hZ hby hml hret hown hnm hlk e0
  have N0 := Fr.nil n0
  have D := own_hb hby D50
  have W := own_w hw
  refine o_aloadN X0 hx (D 0 rfl) rfl rfl <| o_cv X0 hx hZ hown (rm_coder hw  SB O0 pr1) (W 169 rfl) (W 170 rfl) (W 172 rfl) (W 171 rfl) (W 12 rfl) (W 173 rfl) (by decide) e0 pr0 hml rfl [] [] own_pd0 rfl rfl 0 rfl (by decide) (D 1 rfl) fun T1 L1 v1 X1 hQ1 => ?_
  obtain ⟨rfl, Nq1, q1⟩ := hQ1
  have N1 := Fr.app N0 Nq1
  refine o_istoreN X1 hx (l' := #[vr x_, vr y_, vi (0 : Int32)]) (D 2 rfl) rfl <| o_iloadN X1 hx (D 3 rfl) rfl <| o_aloadN X1 hx (D 4 rfl) rfl rfl <| o_cv X1 hx hZ hown (rm_coder hw  SB O0 pr5) (W 169 rfl) (W 170 rfl) (W 172 rfl) (W 171 rfl) (W 12 rfl) (W 173 rfl) (by decide) q1 pr4 hml rfl [] [(.int (0 : Int32))] own_pd0 rfl rfl 1 rfl (by decide) (D 5 rfl) fun T2 L2 v2 X2 hQ2 => ?_
  obtain ⟨rfl, Nq2, q2⟩ := hQ2
  have N2 := Fr.app N1 Nq2
  refine o_icmpNo X2 hx (D 6 rfl) (teq (by decide : (0 : Int32) = (0 : Int32))).2 <| o_aloadN X2 hx (D 7 rfl) rfl rfl <| o_cv X2 hx hZ hown (rm_isl1 hw  SB O0 pr1) (W 344 rfl) (W 270 rfl) (W 272 rfl) (W 271 rfl) (W 12 rfl) (W 273 rfl) (by decide) q2 pr0 hml rfl [] [] own_pd3 rfl rfl 0 rfl (by decide) (D 8 rfl) fun T3 L3 v3 X3 hQ3 => ?_
  obtain ⟨rfl, Nq3, q3⟩ := hQ3
  have N3 := Fr.app N2 Nq3
  refine o_ifNo X3 hx (D 9 rfl) (feq (by decide : ¬ ((1 : Int32) = (0 : Int32)))).1 <| o_aloadN X3 hx (D 10 rfl) rfl rfl <| o_getF X3 hx hZ hown (host := "") (Or.inl (W 29 rfl)) Via.refl q3 pr2 (D 11 rfl) fun T4 X4 e4 => o_aloadN X4 hx (D 12 rfl) rfl rfl <| o_getF X4 hx hZ hown (host := "") (Or.inl (W 29 rfl)) Via.refl e4 pr6 (D 13 rfl) fun T5 X5 e5 => o_cS X5 hx hZ hown (rm_l1y hw n_ m_ O0 pr3 pr7 pr8 pr9) (W 367 rfl) (W 368 rfl) (W 347 rfl) (W 369 rfl) (by decide) e5 hml rfl [(.ref ba_), (.ref bb_)] [] own_pd27 rfl rfl 0 rfl (by decide) (D 14 rfl) fun T6 L6 v6 X6 hQ6 => ?_
  obtain ⟨rfl, Nq6, q6⟩ := hQ6
  have N6 := Fr.app N3 Nq6
  refine o_goto X6 hx 45 (D 15 rfl) rfl ?_
  exact oendI X6 hx hlk hret (D 16 rfl) (by decide) q6 ⟨rfl, N6, rfl⟩
def own_lmax (a b : Int64) : Int64 := if a < b then b else a
def own_lmin (a b : Int64) : Int64 := if b < a then b else a
theorem own_clamp {f n : Nat} (h : f ≤ n) (hn : n ≤ 99) : (own_lmin (Int32.ofNat n).toInt64 (own_lmax (Int32.ofNat f).toInt64 (0 : Int64))).toInt32 = Int32.ofNat f := by
  have a : (Int32.ofNat f).toInt64.toInt = f := by rw [c_i2l, Int32.toInt_ofNat_small (by omega)]
  have b : (Int32.ofNat n).toInt64.toInt = n := by rw [c_i2l, Int32.toInt_ofNat_small (by omega)]
  have z : (0 : Int64).toInt = 0 := rfl
  have e1 : own_lmax (Int32.ofNat f).toInt64 (0 : Int64) = (Int32.ofNat f).toInt64 := if_neg (by rw [Int64.lt_iff_toInt_lt]; omega)
  rw [e1]
  have e2 : own_lmin (Int32.ofNat n).toInt64 (Int32.ofNat f).toInt64 = (Int32.ofNat f).toInt64 := by
    unfold own_lmin
    by_cases q : (Int32.ofNat f).toInt64 < (Int32.ofNat n).toInt64
    · rw [if_pos q]
    · rw [if_neg q]
      rw [Int64.lt_iff_toInt_lt] at q
      exact Int64.toInt_inj.mp (by omega)
  rw [e2]
  refine Int32.toInt_inj.mp ?_
  have c := c_l2i (Int32.ofNat f).toInt64
  have d := rng32 (Int32.ofNat f).toInt64.toInt32
  rw [Int32.toInt_ofNat_small (by omega)]
  omega
abbrev cd51 : ByteArray := jdk_29_method_66_code
theorem D51 : own_DD cd51 [(0, .lload_n 0, 1), (1, .lload_n 2, 1), (2, .lcmp, 1), (3, .ifCond .lt 7, 3), (10, .lload_n 2, 1), (11, .lreturn, 1), (6, .lload_n 0, 1), (7, .goto 4, 3)] := own_dk (by decide +kernel)
def own_Q_lmx (Z : State)  (a_ b_ : Int64) (h0 : Heap) (n0 : Nat) (v : Option Value) (h : Heap) (L : List Loc) : Prop := (v = some (.long (own_lmax a_ b_))) ∧ (Fr n0 L) ∧ (h = h0)
abbrev yM50 : MethodName := ⟨"java/lang/Math", "max", "(JJ)J"⟩
theorem rm_lmx {l : Launch} {Z : State} {a0 : Array Value} (hw : own_hw a0 Z)   (a_ b_ : Int64) {h0 : Heap} {n0 : Nat} (O0 : Old Z n0 h0)  :
    oMet l Z yM50 jdk_29_method_66_code 4 (some .long) [] (rmo 0 0 0 0) 0 0 #[(.long a_), (.long b_)] h0 (own_Q_lmx Z  a_ b_ h0 n0) := by
  refine oenter (by decide +kernel) #[vl a_, .second, vl b_, .second] (fun _ => rfl) ?_
  intro p e s m below meth c s₁ X0 hx hZ hby hml hret hown hnm hlk e0
  have N0 := Fr.nil n0
  have D := own_hb hby D51
  have W := own_w hw
  refine o_lloadN X0 hx (D 0 rfl) rfl <| o_lloadN X0 hx (D 1 rfl) rfl <| o_lcmp X0 hx (D 2 rfl) ?_
  by_cases hc2 : a_ < b_
  · refine o_ifYes X0 hx 10 (D 3 rfl) (tlt ((lw_lt _ _).mpr hc2)).1 rfl <| o_lloadN X0 hx (D 4 rfl) rfl ?_
    exact oendJ X0 hx hlk hret (D 5 rfl) (by decide) e0 ⟨congrArg (fun z_ => some (Value.long z_)) (by unfold own_lmax; rw [if_pos hc2]), N0, rfl⟩
  · refine o_ifNo X0 hx (D 3 rfl) (flt (fun q => hc2 ((lw_lt _ _).mp q))).1 <| o_lloadN X0 hx (D 6 rfl) rfl <| o_goto X0 hx 11 (D 7 rfl) rfl ?_
    exact oendJ X0 hx hlk hret (D 5 rfl) (by decide) e0 ⟨congrArg (fun z_ => some (Value.long z_)) (by unfold own_lmax; rw [if_neg hc2]), N0, rfl⟩
abbrev cd52 : ByteArray := jdk_29_method_70_code
theorem D52 : own_DD cd52 [(0, .lload_n 0, 1), (1, .lload_n 2, 1), (2, .lcmp, 1), (3, .ifCond .gt 7, 3), (10, .lload_n 2, 1), (11, .lreturn, 1), (6, .lload_n 0, 1), (7, .goto 4, 3)] := own_dk (by decide +kernel)
def own_Q_lmn (Z : State)  (a_ b_ : Int64) (h0 : Heap) (n0 : Nat) (v : Option Value) (h : Heap) (L : List Loc) : Prop := (v = some (.long (own_lmin a_ b_))) ∧ (Fr n0 L) ∧ (h = h0)
abbrev yM51 : MethodName := ⟨"java/lang/Math", "min", "(JJ)J"⟩
theorem rm_lmn {l : Launch} {Z : State} {a0 : Array Value} (hw : own_hw a0 Z)   (a_ b_ : Int64) {h0 : Heap} {n0 : Nat} (O0 : Old Z n0 h0)  :
    oMet l Z yM51 jdk_29_method_70_code 4 (some .long) [] (rmo 0 0 0 0) 0 0 #[(.long a_), (.long b_)] h0 (own_Q_lmn Z  a_ b_ h0 n0) := by
  refine oenter (by decide +kernel) #[vl a_, .second, vl b_, .second] (fun _ => rfl) ?_
  intro p e s m below meth c s₁ X0 hx hZ hby hml hret hown hnm hlk e0
  have N0 := Fr.nil n0
  have D := own_hb hby D52
  have W := own_w hw
  refine o_lloadN X0 hx (D 0 rfl) rfl <| o_lloadN X0 hx (D 1 rfl) rfl <| o_lcmp X0 hx (D 2 rfl) ?_
  by_cases hc2 : b_ < a_
  · refine o_ifYes X0 hx 10 (D 3 rfl) (tlt ((lw_gt _ _).mpr hc2)).2.2.1 rfl <| o_lloadN X0 hx (D 4 rfl) rfl ?_
    exact oendJ X0 hx hlk hret (D 5 rfl) (by decide) e0 ⟨congrArg (fun z_ => some (Value.long z_)) (by unfold own_lmin; rw [if_pos hc2]), N0, rfl⟩
  · refine o_ifNo X0 hx (D 3 rfl) (flt (fun q => hc2 ((lw_gt _ _).mp q))).2.2.1 <| o_lloadN X0 hx (D 6 rfl) rfl <| o_goto X0 hx 11 (D 7 rfl) rfl ?_
    exact oendJ X0 hx hlk hret (D 5 rfl) (by decide) e0 ⟨congrArg (fun z_ => some (Value.long z_)) (by unfold own_lmin; rw [if_neg hc2]), N0, rfl⟩
theorem own_pd28 : parseMethodDescriptor "(JJ)J" = some ⟨[.long, .long], some .long⟩ := by decide +kernel
abbrev cd53 : ByteArray := jdk_29_method_73_code
theorem D53 : own_DD cd53 [(0, .iload_n 2, 1), (1, .iload_n 3, 1), (2, .if_icmp .le 34, 3), (36, .iload_n 3, 1), (37, .i2l, 1), (38, .lload_n 0, 1), (39, .iload_n 2, 1), (40, .i2l, 1), (41, .invokestatic 196, 3), (44, .invokestatic 199, 3), (47, .l2i, 1), (48, .ireturn, 1)] := own_dk (by decide +kernel)
def own_Q_clp (Z : State)  (v_ : Int64) (n_ : Nat) (h0 : Heap) (n0 : Nat) (v : Option Value) (h : Heap) (L : List Loc) : Prop := (v = some (.int (own_lmin (Int32.ofNat n_).toInt64 (own_lmax v_ (0 : Int64))).toInt32)) ∧ (Fr n0 L) ∧ (h = h0)
abbrev yM52 : MethodName := ⟨"java/lang/Math", "clamp", "(JII)I"⟩
theorem rm_clp {l : Launch} {Z : State} {a0 : Array Value} (hw : own_hw a0 Z)   (v_ : Int64) (n_ : Nat) {h0 : Heap} {n0 : Nat} (O0 : Old Z n0 h0) (pr0 : n_ ≤ 99) :
    oMet l Z yM52 jdk_29_method_73_code 4 (some .int) [] (rmo 1 0 0 17) 0 0 #[(.long v_), (.int (0 : Int32)), (.int (Int32.ofNat n_))] h0 (own_Q_clp Z  v_ n_ h0 n0) := by
  refine oenter (by decide +kernel) #[vl v_, .second, vi (0 : Int32), vi (Int32.ofNat n_)] (fun _ => rfl) ?_
  intro p e s m below meth c s₁ X0 hx hZ hby hml hret hown hnm hlk e0
  have N0 := Fr.nil n0
  have D := own_hb hby D53
  have W := own_w hw
  refine o_iloadN X0 hx (D 0 rfl) rfl <| o_iloadN X0 hx (D 1 rfl) rfl <| o_icmpYes X0 hx 36 (D 2 rfl) (flt (show ¬ ((Int32.ofNat n_) < (0 : Int32)) from XT.nlt32 (a := n_) (b := 0) (by omega) (by omega))).2.2.2 rfl <| o_iloadN X0 hx (D 3 rfl) rfl <| o_i2l X0 hx (D 4 rfl) <| o_lloadN X0 hx (D 5 rfl) rfl <| o_iloadN X0 hx (D 6 rfl) rfl <| o_i2l X0 hx (D 7 rfl) <| o_cS X0 hx hZ hown (rm_lmx hw v_ (0 : Int64) O0 ) (W 417 rfl) (W 418 rfl) (W 84 rfl) (W 419 rfl) (by decide) e0 hml rfl [(.long v_), (.long (0 : Int64))] [(.long (Int32.ofNat n_).toInt64)] own_pd28 rfl rfl 2 rfl (by decide) (D 8 rfl) fun T1 L1 v1 X1 hQ1 => ?_
  obtain ⟨rfl, Nq1, q1⟩ := hQ1
  have N1 := Fr.app N0 Nq1
  refine o_cS X1 hx hZ hown (rm_lmn hw ((Int32.ofNat n_).toInt64) (own_lmax v_ (0 : Int64)) O0 ) (W 420 rfl) (W 421 rfl) (W 84 rfl) (W 422 rfl) (by decide) q1 hml rfl [(.long (Int32.ofNat n_).toInt64), (.long (own_lmax v_ (0 : Int64)))] [] own_pd28 rfl rfl 0 rfl (by decide) (D 9 rfl) fun T2 L2 v2 X2 hQ2 => ?_
  obtain ⟨rfl, Nq2, q2⟩ := hQ2
  have N2 := Fr.app N1 Nq2
  refine o_l2i X2 hx (D 10 rfl) ?_
  exact oendI X2 hx hlk hret (D 11 rfl) (by decide) q2 ⟨rfl, N2, rfl⟩
theorem own_pd29 : parseMethodDescriptor "(JII)I" = some ⟨[.long, .int, .int], some .int⟩ := by decide +kernel
abbrev cd54 : ByteArray := jdk_42_method_87_code
theorem D54 : own_DD cd54 [(0, .iload 4, 2), (2, .i2l, 1), (3, .iconst 0, 1), (4, .iload_n 2, 1), (5, .invokestatic 659, 3), (8, .istore 4, 2), (10, .aload_n 3, 1), (11, .invokevirtual 505, 3), (14, .istore 5, 2), (16, .iload 5, 2), (18, .iload_n 2, 1), (19, .iload 4, 2), (21, .isub, 1), (22, .if_icmp .le 5, 3), (25, .iconst (-1), 1), (26, .ireturn, 1), (27, .iload 5, 2), (29, .ifCond .ne 6, 3), (35, .aload_n 3, 1), (36, .getfield 9, 3), (39, .astore 6, 2), (41, .aload_n 3, 1), (42, .invokevirtual 335, 3), (45, .istore 7, 2), (47, .iload_n 1, 1), (48, .iload 7, 2), (50, .if_icmp .ne 33, 3), (53, .iload_n 1, 1), (54, .ifCond .ne 17, 3), (57, .aload_n 0, 1), (58, .iload_n 2, 1), (59, .aload 6, 2), (61, .iload 5, 2), (63, .iload 4, 2), (65, .invokestatic 665, 3), (68, .goto 14, 3), (82, .ireturn, 1)] := own_dk (by decide +kernel)
def own_Q_si5 (Z : State) (z_CS : Int32) (v_FMT : Value) (s_DC : Addr) (k_DC : ClassId) (v_IO : Value) (ba_ : Addr) (kb_ : ClassId) (xs_ : List Int32) (n_ : Nat) (y_ bb_ : Addr) (kc_ : ClassId) (ys_ : List Int32) (m_ f_ : Nat) (h0 : Heap) (n0 : Nat) (v : Option Value) (h : Heap) (L : List Loc) : Prop := (v = some (.int (own_idxF xs_ ys_ m_ (n_ + 1 - m_ - f_) f_))) ∧ (Fr n0 L) ∧ (h = h0)
abbrev yM53 : MethodName := ⟨"java/lang/String", "indexOf", "([BBILjava/lang/String;I)I"⟩
theorem rm_si5 {l : Launch} {Z : State} {a0 : Array Value} (hw : own_hw a0 Z) {z_CS : Int32} {v_FMT : Value} {s_DC : Addr} {k_DC : ClassId} {v_IO : Value} {ba_ : Addr} {kb_ : ClassId} {xs_ : List Int32} {y_ bb_ : Addr} {kc_ : ClassId} {ys_ : List Int32} (n_ m_ f_ : Nat) {h0 : Heap} {n0 : Nat} (SB : own_Start Z z_CS v_FMT s_DC k_DC v_IO) (O0 : Old Z n0 h0) (pr0 : Arv Z h0 ba_ kb_ .byte (Int32.ofNat n_) (own_vs xs_) (.int 0)) (pr1 : Exa Z h0 y_ "java/lang/String") (pr2 : Fld Z h0 y_ "java/lang/String" "coder" "B" (.int (0 : Int32))) (pr3 : Fld Z h0 y_ "java/lang/String" "value" "[B" (.ref bb_)) (pr4 : Arv Z h0 bb_ kc_ .byte (Int32.ofNat m_) (own_vs ys_) (.int 0)) (pr5 : xs_.length = n_ ∧ n_ ≤ 9) (pr6 : m_ = 1 ∨ m_ = 2) (pr7 : f_ ≤ n_) :
    oMet l Z yM53 jdk_42_method_87_code 8 (some .int) [] (rmo 2 0 0 32) 0 0 #[(.ref ba_), (.int (0 : Int32)), (.int (Int32.ofNat n_)), (.ref y_), (.int (Int32.ofNat f_))] h0 (own_Q_si5 Z z_CS v_FMT s_DC k_DC v_IO ba_ kb_ xs_ n_ y_ bb_ kc_ ys_ m_ f_ h0 n0) := by
  refine oenter (plainFor_of_name own_pn0) #[vr ba_, vi (0 : Int32), vi (Int32.ofNat n_), vr y_, vi (Int32.ofNat f_), .unset, .unset, .unset] (fun _ => rfl) ?_
  intro p e s m below meth c s₁ X0 hx hZ hby hml hret hown hnm hlk e0
  have N0 := Fr.nil n0
  have D := own_hb hby D54
  have W := own_w hw
  refine o_iload X0 hx (D 0 rfl) rfl <| o_i2l X0 hx (D 1 rfl) <| o_iconst X0 hx 0 (D 2 rfl) rfl <| o_iloadN X0 hx (D 3 rfl) rfl <| o_cS X0 hx hZ hown (rm_clp hw ((Int32.ofNat f_).toInt64) n_ O0 (by first | rfl | assumption | decide | omega)) (W 414 rfl) (W 415 rfl) (W 84 rfl) (W 416 rfl) (by decide) e0 hml rfl [(.long (Int32.ofNat f_).toInt64), (.int (0 : Int32)), (.int (Int32.ofNat n_))] [] own_pd29 rfl rfl 0 rfl (by decide) (D 4 rfl) fun T1 L1 v1 X1 hQ1 => ?_
  obtain ⟨rfl, Nq1, q1⟩ := hQ1
  have N1 := Fr.app N0 Nq1
  rw [own_clamp (f := f_) (n := n_) (by omega) (by omega)]
  refine o_istore X1 hx (l' := #[vr ba_, vi (0 : Int32), vi (Int32.ofNat n_), vr y_, vi (Int32.ofNat f_), .unset, .unset, .unset]) (D 5 rfl) rfl <| o_aloadN X1 hx (D 6 rfl) rfl rfl <| o_cv X1 hx hZ hown (rm_slen hw m_ SB O0 pr1 pr2 pr3 pr4) (W 410 rfl) (W 165 rfl) (W 167 rfl) (W 166 rfl) (W 12 rfl) (W 168 rfl) (by decide) q1 pr1 hml rfl [] [] own_pd5 rfl rfl 0 rfl (by decide) (D 7 rfl) fun T2 L2 v2 X2 hQ2 => ?_
  obtain ⟨rfl, Nq2, q2⟩ := hQ2
  have N2 := Fr.app N1 Nq2
  refine o_istore X2 hx (l' := #[vr ba_, vi (0 : Int32), vi (Int32.ofNat n_), vr y_, vi (Int32.ofNat f_), vi (Int32.ofNat m_), .unset, .unset]) (D 8 rfl) rfl <| o_iload X2 hx (D 9 rfl) rfl <| o_iloadN X2 hx (D 10 rfl) rfl <| o_iload X2 hx (D 11 rfl) rfl <| o_isub X2 hx (D 12 rfl) ?_
  rw [show ((Int32.ofNat n_) - (Int32.ofNat f_)) = (Int32.ofNat (n_ - f_)) from XT.sub32n (a := n_) (b := f_) (by omega)]
  by_cases hc4 : (n_ - f_) < m_
  · refine o_icmpNo X2 hx (D 13 rfl) (tlt (show (Int32.ofNat (n_ - f_)) < (Int32.ofNat m_) from XT.lt32 (a := (n_ - f_)) (b := m_) (by omega) (by omega))).2.2.2 <| o_iconst X2 hx (-1) (D 14 rfl) rfl ?_
    exact oendI X2 hx hlk hret (D 15 rfl) (by decide) q2 ⟨congrArg (fun z_ => some (Value.int z_)) (by rw [show n_ + 1 - m_ - f_ = 0 by omega]; rfl), N2, rfl⟩
  · refine o_icmpYes X2 hx 27 (D 13 rfl) (flt (show ¬ ((Int32.ofNat (n_ - f_)) < (Int32.ofNat m_)) from XT.nlt32 (a := (n_ - f_)) (b := m_) (by omega) (by omega))).2.2.2 rfl <| o_iload X2 hx (D 16 rfl) rfl <| o_ifYes X2 hx 35 (D 17 rfl) (feq (show ¬ ((Int32.ofNat m_) = (0 : Int32)) from XT.ne32 (a := m_) (b := 0) (by omega) (by omega) (by omega))).2 rfl <| o_aloadN X2 hx (D 18 rfl) rfl rfl <| o_getF X2 hx hZ hown (host := "") (Or.inl (W 29 rfl)) Via.refl q2 pr3 (D 19 rfl) fun T5 X5 e5 => o_astore X5 hx (l' := #[vr ba_, vi (0 : Int32), vi (Int32.ofNat n_), vr y_, vi (Int32.ofNat f_), vi (Int32.ofNat m_), vr bb_, .unset]) (D 20 rfl) rfl rfl <| o_aloadN X5 hx (D 21 rfl) rfl rfl <| o_cv X5 hx hZ hown (rm_coder hw  SB O0 pr2) (W 169 rfl) (W 170 rfl) (W 172 rfl) (W 171 rfl) (W 12 rfl) (W 173 rfl) (by decide) e5 pr1 hml rfl [] [] own_pd0 rfl rfl 0 rfl (by decide) (D 22 rfl) fun T6 L6 v6 X6 hQ6 => ?_
    obtain ⟨rfl, Nq6, q6⟩ := hQ6
    have N6 := Fr.app N2 Nq6
    refine o_istore X6 hx (l' := #[vr ba_, vi (0 : Int32), vi (Int32.ofNat n_), vr y_, vi (Int32.ofNat f_), vi (Int32.ofNat m_), vr bb_, vi (0 : Int32)]) (D 23 rfl) rfl <| o_iloadN X6 hx (D 24 rfl) rfl <| o_iload X6 hx (D 25 rfl) rfl <| o_icmpNo X6 hx (D 26 rfl) (teq (by decide : (0 : Int32) = (0 : Int32))).2 <| o_iloadN X6 hx (D 27 rfl) rfl <| o_ifNo X6 hx (D 28 rfl) (teq (by decide : (0 : Int32) = (0 : Int32))).2 <| o_aloadN X6 hx (D 29 rfl) rfl rfl <| o_iloadN X6 hx (D 30 rfl) rfl <| o_aload X6 hx (D 31 rfl) rfl rfl <| o_iload X6 hx (D 32 rfl) rfl <| o_iload X6 hx (D 33 rfl) rfl <| o_cS X6 hx hZ hown (rm_l1x hw n_ m_ f_ O0 pr0 pr4 pr5 (by first | rfl | assumption | decide | omega) pr6) (W 488 rfl) (W 371 rfl) (W 347 rfl) (W 372 rfl) (by decide) q6 hml rfl [(.ref ba_), (.int (Int32.ofNat n_)), (.ref bb_), (.int (Int32.ofNat m_)), (.int (Int32.ofNat f_))] [] own_pd26 rfl rfl 0 rfl (by decide) (D 34 rfl) fun T7 L7 v7 X7 hQ7 => ?_
    obtain ⟨rfl, Nq7, q7⟩ := hQ7
    have N7 := Fr.app N6 Nq7
    refine o_goto X7 hx 82 (D 35 rfl) rfl ?_
    exact oendI X7 hx hlk hret (D 36 rfl) (by decide) q7 ⟨rfl, N7, rfl⟩
theorem own_pd30 : parseMethodDescriptor "([BBILjava/lang/String;I)I" = some ⟨[(.array .byte), .byte, .int, (.object "java/lang/String"), .int], some .int⟩ := by decide +kernel
abbrev cd55 : ByteArray := jdk_42_method_85_code
theorem D55 : own_DD cd55 [(0, .aload_n 0, 1), (1, .getfield 9, 3), (4, .aload_n 0, 1), (5, .invokevirtual 335, 3), (8, .aload_n 0, 1), (9, .invokevirtual 505, 3), (12, .aload_n 1, 1), (13, .iload_n 2, 1), (14, .invokestatic 653, 3), (17, .ireturn, 1)] := own_dk (by decide +kernel)
def own_Q_sif (Z : State) (z_CS : Int32) (v_FMT : Value) (s_DC : Addr) (k_DC : ClassId) (v_IO : Value) (x_ ba_ : Addr) (kb_ : ClassId) (xs_ : List Int32) (n_ : Nat) (y_ bb_ : Addr) (kc_ : ClassId) (ys_ : List Int32) (m_ f_ : Nat) (h0 : Heap) (n0 : Nat) (v : Option Value) (h : Heap) (L : List Loc) : Prop := (v = some (.int (own_idxF xs_ ys_ m_ (n_ + 1 - m_ - f_) f_))) ∧ (Fr n0 L) ∧ (h = h0)
abbrev yM54 : MethodName := ⟨"java/lang/String", "indexOf", "(Ljava/lang/String;I)I"⟩
theorem rm_sif {l : Launch} {Z : State} {a0 : Array Value} (hw : own_hw a0 Z) {z_CS : Int32} {v_FMT : Value} {s_DC : Addr} {k_DC : ClassId} {v_IO : Value} {x_ ba_ : Addr} {kb_ : ClassId} {xs_ : List Int32} {y_ bb_ : Addr} {kc_ : ClassId} {ys_ : List Int32} (n_ m_ f_ : Nat) {h0 : Heap} {n0 : Nat} (SB : own_Start Z z_CS v_FMT s_DC k_DC v_IO) (O0 : Old Z n0 h0) (pr0 : Exa Z h0 x_ "java/lang/String") (pr1 : Fld Z h0 x_ "java/lang/String" "coder" "B" (.int (0 : Int32))) (pr2 : Fld Z h0 x_ "java/lang/String" "value" "[B" (.ref ba_)) (pr3 : Arv Z h0 ba_ kb_ .byte (Int32.ofNat n_) (own_vs xs_) (.int 0)) (pr4 : Exa Z h0 y_ "java/lang/String") (pr5 : Fld Z h0 y_ "java/lang/String" "coder" "B" (.int (0 : Int32))) (pr6 : Fld Z h0 y_ "java/lang/String" "value" "[B" (.ref bb_)) (pr7 : Arv Z h0 bb_ kc_ .byte (Int32.ofNat m_) (own_vs ys_) (.int 0)) (pr8 : xs_.length = n_ ∧ n_ ≤ 9) (pr9 : m_ = 1 ∨ m_ = 2) (pr10 : f_ ≤ n_) :
    oMet l Z yM54 jdk_42_method_85_code 3 (some .int) [] (rmo 3 0 0 51) 0 0 #[(.ref x_), (.ref y_), (.int (Int32.ofNat f_))] h0 (own_Q_sif Z z_CS v_FMT s_DC k_DC v_IO x_ ba_ kb_ xs_ n_ y_ bb_ kc_ ys_ m_ f_ h0 n0) := by
  refine oenter (plainFor_of_name own_pn0) #[vr x_, vr y_, vi (Int32.ofNat f_)] (fun _ => rfl) ?_
  intro p e s m below meth c s₁ X0 hx hZ hby hml hret hown hnm hlk e0
  have N0 := Fr.nil n0
  have D := own_hb hby D55
  have W := own_w hw
  refine o_aloadN X0 hx (D 0 rfl) rfl rfl <| o_getF X0 hx hZ hown (host := "") (Or.inl (W 29 rfl)) Via.refl e0 pr2 (D 1 rfl) fun T1 X1 e1 => o_aloadN X1 hx (D 2 rfl) rfl rfl <| o_cv X1 hx hZ hown (rm_coder hw  SB O0 pr1) (W 169 rfl) (W 170 rfl) (W 172 rfl) (W 171 rfl) (W 12 rfl) (W 173 rfl) (by decide) e1 pr0 hml rfl [] [(.ref ba_)] own_pd0 rfl rfl 1 rfl (by decide) (D 3 rfl) fun T2 L2 v2 X2 hQ2 => ?_
  obtain ⟨rfl, Nq2, q2⟩ := hQ2
  have N2 := Fr.app N0 Nq2
  refine o_aloadN X2 hx (D 4 rfl) rfl rfl <| o_cv X2 hx hZ hown (rm_slen hw n_ SB O0 pr0 pr1 pr2 pr3) (W 410 rfl) (W 165 rfl) (W 167 rfl) (W 166 rfl) (W 12 rfl) (W 168 rfl) (by decide) q2 pr0 hml rfl [] [(.int (0 : Int32)), (.ref ba_)] own_pd5 rfl rfl 2 rfl (by decide) (D 5 rfl) fun T3 L3 v3 X3 hQ3 => ?_
  obtain ⟨rfl, Nq3, q3⟩ := hQ3
  have N3 := Fr.app N2 Nq3
  refine o_aloadN X3 hx (D 6 rfl) rfl rfl <| o_iloadN X3 hx (D 7 rfl) rfl <| o_cS X3 hx hZ hown (rm_si5 hw n_ m_ f_ SB O0 pr3 pr4 pr5 pr6 pr7 pr8 pr9 pr10) (W 411 rfl) (W 412 rfl) (W 12 rfl) (W 413 rfl) (by decide) q3 hml rfl [(.ref ba_), (.int (0 : Int32)), (.int (Int32.ofNat n_)), (.ref y_), (.int (Int32.ofNat f_))] [] own_pd30 rfl rfl 0 rfl (by decide) (D 8 rfl) fun T4 L4 v4 X4 hQ4 => ?_
  obtain ⟨rfl, Nq4, q4⟩ := hQ4
  have N4 := Fr.app N3 Nq4
  exact oendI X4 hx hlk hret (D 9 rfl) (by decide) q4 ⟨rfl, N4, rfl⟩
theorem own_lnA {vs xs : List Int32} {o e c n : Nat} (h : vs.length = c) (hx : xs.length = n) (h1 : o ≤ e) (h2 : e ≤ n) : (vs ++ (xs.drop o).take (e - o)).length = c + (e - o) := by
  simp only [List.length_append, List.length_take, List.length_drop]; omega
theorem own_lnS {vs xs : List Int32} {c n : Nat} (h : vs.length = c) (hx : xs.length = n) : (vs ++ (xs.drop 0).take n).length = c + n := by
  simp only [List.length_append, List.length_take, List.length_drop]; omega
theorem own_pad {Z : State} {h : Heap} {a : Addr} {k : ClassId} {z : Int32} {xs : List Int32} (j : Nat) (F : Arv Z h a k .byte z (own_vs xs) (.int 0)) : Arv Z h a k .byte z (own_vs (xs ++ List.replicate j 0)) (.int 0) := F.pad fun i => by
  rw [own_vs_getD, own_vs_getD]
  congr 1
  simp only [List.getD_eq_getElem?_getD, List.getElem?_append, List.getElem?_replicate]
  by_cases q : i < xs.length
  · simp only [if_pos q]
  · rw [if_neg q, List.getElem?_eq_none (Nat.le_of_not_lt q)]
    split <;> rfl
theorem own_unpad {Z : State} {h : Heap} {a : Addr} {k : ClassId} {z : Int32} {xs : List Int32} {c p : Nat} (hl : xs.length = c) (hp : c ≤ p) (F : Arv Z h a k .byte z (own_vs ([] ++ ((xs ++ List.replicate (p - c) 0).drop 0).take p)) (.int 0)) : Arv Z h a k .byte z (own_vs xs) (.int 0) := by
  have e : ([] ++ ((xs ++ List.replicate (p - c) 0).drop 0).take p) = xs ++ List.replicate (p - c) (0 : Int32) := by
    rw [List.nil_append, List.drop_zero, List.take_of_length_le]
    simp only [List.length_append, List.length_replicate]; omega
  rw [e] at F
  exact F.pad fun i => by
    rw [own_vs_getD, own_vs_getD]
    congr 1
    simp only [List.getD_eq_getElem?_getD, List.getElem?_append, List.getElem?_replicate]
    by_cases q : i < xs.length
    · simp only [if_pos q]
    · rw [if_neg q, List.getElem?_eq_none (Nat.le_of_not_lt q)]
      split <;> rfl
theorem own_take {xs : List Int32} {c : Nat} (hl : xs.length = c) : ([] ++ (xs.drop 0).take c) = xs := by rw [List.nil_append, List.drop_zero, List.take_of_length_le (by omega)]
theorem own_gap {a b : Nat} (ha : a ≤ 9999) (hb : b ≤ 9999) : (0 : Int32) < Int32.ofNat a - Int32.ofNat b ↔ b < a := by
  have q := c_isub (Int32.ofNat a) (Int32.ofNat b)
  have r := rng32 (Int32.ofNat a - Int32.ofNat b)
  have z : (0 : Int32).toInt = 0 := rfl
  rw [Int32.toInt_ofNat_small (by omega), Int32.toInt_ofNat_small (by omega)] at q
  rw [Int32.lt_iff_toInt_lt]
  omega
abbrev cd56 : ByteArray := jdk_68_method_2_code
theorem D56 : own_DD cd56 [(0, .aload_n 0, 1), (1, .invokespecial 3, 3), (4, .getstatic 18, 3), (7, .ifCond .eq 18, 3), (10, .aload_n 0, 1), (11, .iload_n 1, 1), (12, .newarray .byte, 2), (14, .putfield 15, 3), (17, .aload_n 0, 1), (18, .iconst 0, 1), (19, .putfield 22, 3), (22, .goto 16, 3), (38, .return_, 1)] := own_dk (by decide +kernel)
theorem own_pn12 : plainName "java/lang/AbstractStringBuilder" = true := by first | (simp [plainName, overriddenIn]; done) | decide +kernel
def own_Q_asi (Z : State) (z_CS : Int32) (v_FMT : Value) (s_DC : Addr) (k_DC : ClassId) (v_IO : Value) (x_ : Addr) (n_ : Nat) (h0 : Heap) (n0 : Nat) (v : Option Value) (h : Heap) (L : List Loc) : Prop := ∃ vb_ : Addr, ∃ kv_ : ClassId, (v = none) ∧ (Fr n0 L) ∧ (Keep h0 h [x_]) ∧ (h0.size ≤ vb_) ∧ (Exa Z h x_ "java/lang/StringBuilder") ∧ (Fld Z h x_ "java/lang/AbstractStringBuilder" "value" "[B" (.ref vb_)) ∧ (Fld Z h x_ "java/lang/AbstractStringBuilder" "coder" "B" (.int (0 : Int32))) ∧ (Fld Z h x_ "java/lang/AbstractStringBuilder" "count" "I" (.int (0 : Int32))) ∧ (Arv Z h vb_ kv_ .byte (Int32.ofNat n_) (own_vs []) (.int 0)) ∧ (Exa Z h vb_ "[B")
abbrev yM55 : MethodName := ⟨"java/lang/AbstractStringBuilder", "<init>", "(I)V"⟩
theorem rm_asi {l : Launch} {Z : State} {a0 : Array Value} (hw : own_hw a0 Z) {z_CS : Int32} {v_FMT : Value} {s_DC : Addr} {k_DC : ClassId} {v_IO : Value} {x_ : Addr} (n_ : Nat) {h0 : Heap} {n0 : Nat} (SB : own_Start Z z_CS v_FMT s_DC k_DC v_IO) (O0 : Old Z n0 h0) (pr0 : Exa Z h0 x_ "java/lang/StringBuilder") (pr1 : Fld Z h0 x_ "java/lang/AbstractStringBuilder" "value" "[B" .null) (pr2 : Fld Z h0 x_ "java/lang/AbstractStringBuilder" "coder" "B" (.int (0 : Int32))) (pr3 : Fld Z h0 x_ "java/lang/AbstractStringBuilder" "count" "I" (.int (0 : Int32))) (pr4 : n0 ≤ x_) (pr5 : n_ ≤ 4) :
    oMet l Z yM55 jdk_68_method_2_code 2 none [] (rmo 1 1 4 12) 1 4 #[(.ref x_), (.int (Int32.ofNat n_))] h0 (own_Q_asi Z z_CS v_FMT s_DC k_DC v_IO x_ n_ h0 n0) := by
  refine oenter (plainFor_of_name own_pn12) #[vr x_, vi (Int32.ofNat n_)] (fun _ => rfl) ?_
  intro p e s m below meth c s₁ X0 hx hZ hby hml hret hown hnm hlk e0
  have N0 := Fr.nil n0
  have D := own_hb hby D56
  obtain ⟨S_CS, H_CS, -⟩ := (id SB)
  have W := own_w hw
  have w214 := W 214 rfl
  have w216 := W 216 rfl
  refine o_aloadN X0 hx (D 0 rfl) rfl rfl ?_
  obtain ⟨T1, X1, e1, st1⟩ := initO X0 hx hZ hown (W 211 rfl) (W 21 rfl) (W 22 rfl) e0 (g := (mkF m 1 #[vr x_, vi (Int32.ofNat n_)] [(.ref x_)])) rfl (by rw [hml]; rfl) rfl (D 1 rfl) (by decide) (W := 0) (by show 2 * 0 + _ ≤ _; exact Nat.le_of_eq rfl) (by decide)
  refine ogoF st1 <| o_getS X1 hx hZ hown (host := "") (Or.inl (W 212 rfl)) Via.refl e1 (Sta.ext O0.2 S_CS) (D 2 rfl) fun T2 X2 e2 => o_ifNo X2 hx (D 3 rfl) (feq H_CS).1 <| o_aloadN X2 hx (D 4 rfl) rfl rfl <| o_iloadN X2 hx (D 5 rfl) rfl ?_
  obtain ⟨T3, _, k3, X3, rfl, E3, A3, Ex3, st3⟩ := newPE (aty := .byte) X2 hx hZ (W 24 rfl) e2 (g := (mkF m 12 #[vr x_, vi (Int32.ofNat n_)] [(.int (Int32.ofNat n_)), (.ref x_)])) rfl (D 6 rfl) rfl (show ¬ (Int32.ofNat n_) < (0 : Int32) from XT.nlt32 (a := n_) (b := 0) (by omega) (Nat.zero_le _)) (cap := 4) (by rw [XT.n32 (by omega)]; omega) (by decide) (by decide) (by decide) (ad := "[B") rfl
  obtain ⟨b3, g3⟩ : ∃ z, z = h0.size := ⟨_, rfl⟩
  rw [← g3] at A3 Ex3 st3
  have n0_b3 := own_on O0 g3
  have V3 : Arv Z T3.heap b3 k3 .byte (Int32.ofNat n_) [] (.int 0) := Arv.new A3 (show ¬ (Int32.ofNat n_) < (0 : Int32) from XT.nlt32 (a := n_) (b := 0) (by omega) (Nat.zero_le _))
  have V4 : Arv Z T3.heap b3 k3 .byte (Int32.ofNat n_) (own_vs []) (.int 0) := V3
  refine ogoF st3 ?_
  obtain ⟨T5, _, X5, rfl, W5, st5⟩ := putF X3 hx hZ hown (host := "") (Or.inl (W 213 rfl)) Via.refl rfl (Fld.ext E3 pr1) (Exa.ext E3 pr0) (Or.inl w214) (W 200 rfl) (ty := (.array .byte)) (by decide) rfl rfl (g := (mkF m 14 #[vr x_, vi (Int32.ofNat n_)] [(.ref b3), (.ref x_)])) rfl rfl (D 7 rfl)
  have N5 := Fr.snoc X5 N0 pr4
  have F5 := Fld.same W5 (Fld.ext E3 pr1)
  refine ogoF st5 <| o_aloadN X5 hx (D 8 rfl) rfl rfl <| o_iconst X5 hx 0 (D 9 rfl) rfl ?_
  have c7 := (Fld.other W5 (Fld.ext E3 pr2) (Or.inr (slot_ne (Or.inl w216) (Or.inl w214) (by decide) (t := .byte) (t' := (.array .byte)) (by decide) (by decide))))
  obtain ⟨T6, _, X6, rfl, W6, st6⟩ := putFN X5 hx hZ hown (W 215 rfl) Via.refl rfl c7 (Exa.wr W5 (Exa.ext E3 pr0)) (Or.inl w216) (W 200 rfl) (ty := .byte) (v' := (.int (0 : Int32))) (by decide) rfl (by decide) (g := (mkF m 19 #[vr x_, vi (Int32.ofNat n_)] [(.int (0 : Int32)), (.ref x_)])) rfl rfl (D 10 rfl)
  have N6 := Fr.snoc X6 N5 pr4
  have F6 := Fld.same W6 c7
  refine ogoF st6 <| o_goto X6 hx 38 (D 11 rfl) rfl ?_
  have c8 := (Fld.other W6 F5 (Or.inr (slot_ne (Or.inl w214) (Or.inl w216) (by decide) (t := (.array .byte)) (t' := .byte) (by decide) (by decide))))
  have c9 := (Fld.other W6 (Fld.other W5 (Fld.ext E3 pr3) (Or.inr (slot_ne (Or.inl (W 252 rfl)) (Or.inl w214) (by decide) (t := .int) (t' := (.array .byte)) (by decide) (by decide)))) (Or.inr (slot_ne (Or.inl (W 252 rfl)) (Or.inl w216) (by decide) (t := .int) (t' := .byte) (by decide) (by decide))))
  have y10 : b3 ≠ x_ := (Nat.ne_of_gt (Nat.lt_of_lt_of_le (Nat.lt_of_lt_of_le pr0.lt (Nat.le_refl _)) (Nat.le_of_eq g3.symm)))
  exact oendV X6 hx hlk hret (D 12 rfl) (by decide) rfl ⟨b3, k3, rfl, N6, ((((Keep.refl h0 [x_]).ext E3).wr W5 (Or.inl (List.mem_of_getElem? (i := 0) rfl))).wr W6 (Or.inl (List.mem_of_getElem? (i := 0) rfl))), (Nat.le_trans (Nat.le_refl _) (Nat.le_of_eq g3.symm)), (Exa.wr W6 (Exa.wr W5 (Exa.ext E3 pr0))), c8, F6, c9, ((V4.other W5 y10).other W6 y10), (Exa.wr W6 (Exa.wr W5 Ex3))⟩
abbrev cd57 : ByteArray := jdk_67_method_2_code
theorem D57 : own_DD cd57 [(0, .aload_n 0, 1), (1, .iload_n 1, 1), (2, .invokespecial 1, 3), (5, .return_, 1)] := own_dk (by decide +kernel)
theorem own_pn13 : plainName "java/lang/StringBuilder" = true := by first | (simp [plainName, overriddenIn]; done) | decide +kernel
def own_Q_sbi (Z : State) (z_CS : Int32) (v_FMT : Value) (s_DC : Addr) (k_DC : ClassId) (v_IO : Value) (x_ : Addr) (n_ : Nat) (h0 : Heap) (n0 : Nat) (v : Option Value) (h : Heap) (L : List Loc) : Prop := ∃ vb_ : Addr, ∃ kv_ : ClassId, (v = none) ∧ (Fr n0 L) ∧ (Keep h0 h [x_]) ∧ (h0.size ≤ vb_) ∧ (Exa Z h x_ "java/lang/StringBuilder") ∧ (Fld Z h x_ "java/lang/AbstractStringBuilder" "value" "[B" (.ref vb_)) ∧ (Fld Z h x_ "java/lang/AbstractStringBuilder" "coder" "B" (.int (0 : Int32))) ∧ (Fld Z h x_ "java/lang/AbstractStringBuilder" "count" "I" (.int (0 : Int32))) ∧ (Arv Z h vb_ kv_ .byte (Int32.ofNat n_) (own_vs []) (.int 0)) ∧ (Exa Z h vb_ "[B")
abbrev yM56 : MethodName := ⟨"java/lang/StringBuilder", "<init>", "(I)V"⟩
theorem rm_sbi {l : Launch} {Z : State} {a0 : Array Value} (hw : own_hw a0 Z) {z_CS : Int32} {v_FMT : Value} {s_DC : Addr} {k_DC : ClassId} {v_IO : Value} {x_ : Addr} (n_ : Nat) {h0 : Heap} {n0 : Nat} (SB : own_Start Z z_CS v_FMT s_DC k_DC v_IO) (O0 : Old Z n0 h0) (pr0 : Exa Z h0 x_ "java/lang/StringBuilder") (pr1 : Fld Z h0 x_ "java/lang/AbstractStringBuilder" "value" "[B" .null) (pr2 : Fld Z h0 x_ "java/lang/AbstractStringBuilder" "coder" "B" (.int (0 : Int32))) (pr3 : Fld Z h0 x_ "java/lang/AbstractStringBuilder" "count" "I" (.int (0 : Int32))) (pr4 : n0 ≤ x_) (pr5 : n_ ≤ 4) :
    oMet l Z yM56 jdk_67_method_2_code 2 none [] (rmo 2 1 4 25) 1 4 #[(.ref x_), (.int (Int32.ofNat n_))] h0 (own_Q_sbi Z z_CS v_FMT s_DC k_DC v_IO x_ n_ h0 n0) := by
  refine oenter (plainFor_of_name own_pn13) #[vr x_, vi (Int32.ofNat n_)] (fun _ => rfl) ?_
  intro p e s m below meth c s₁ X0 hx hZ hby hml hret hown hnm hlk e0
  have N0 := Fr.nil n0
  have D := own_hb hby D57
  have W := own_w hw
  refine o_aloadN X0 hx (D 0 rfl) rfl rfl <| o_iloadN X0 hx (D 1 rfl) rfl <| o_cI X0 hx hZ hown (rm_asi hw n_ SB O0 pr0 pr1 pr2 pr3 pr4 pr5) rfl (W 205 rfl) (W 206 rfl) (W 209 rfl) (W 210 rfl) (by decide) e0 hml rfl [(.int (Int32.ofNat n_))] [] own_pd24 rfl rfl 0 rfl (by decide) (D 2 rfl) fun T1 L1 v1 X1 hQ1 => ?_
  obtain ⟨vb_1, kv_1, rfl, Nq1, K1, p1_0, p1_1, p1_2, p1_3, p1_4, p1_5, p1_6⟩ := hQ1
  have N1 := Fr.app N0 Nq1
  have n0_vb_1 := own_og O0 (Nat.le_trans (Nat.le_refl _) p1_0)
  exact oendV X1 hx hlk hret (D 3 rfl) (by decide) rfl ⟨vb_1, kv_1, rfl, N1, ((Keep.refl h0 [x_]).trans K1 (allS (Or.inl (List.mem_of_getElem? (i := 0) rfl)) all0)), (Nat.le_trans (Nat.le_refl _) p1_0), p1_1, p1_2, p1_3, p1_4, p1_5, p1_6⟩
abbrev cd58 : ByteArray := jdk_41_method_12_code
theorem D58 : own_DD cd58 [(0, .iload_n 0, 1), (1, .ifCond .lt 13, 3), (4, .iload_n 0, 1), (5, .iload_n 1, 1), (6, .if_icmp .gt 8, 3), (9, .iload_n 1, 1), (10, .iload_n 2, 1), (11, .if_icmp .le 11, 3), (22, .iload_n 0, 1), (23, .ireturn, 1)] := own_dk (by decide +kernel)
def own_Q_cft (Z : State)  (a_ b_ n_ : Nat) (f_ : Value) (h0 : Heap) (n0 : Nat) (v : Option Value) (h : Heap) (L : List Loc) : Prop := (v = some (.int (Int32.ofNat a_))) ∧ (Fr n0 L) ∧ (h = h0)
abbrev yM57 : MethodName := ⟨"jdk/internal/util/Preconditions", "checkFromToIndex", "(IIILjava/util/function/BiFunction;)I"⟩
theorem rm_cft {l : Launch} {Z : State} {a0 : Array Value} (hw : own_hw a0 Z)   (a_ b_ n_ : Nat) (f_ : Value) {h0 : Heap} {n0 : Nat} (O0 : Old Z n0 h0) (pr0 : a_ ≤ b_ ∧ b_ ≤ n_ ∧ n_ ≤ 99) (pr1 : f_.isRef = true) (pr2 : f_.category = 1) :
    oMet l Z yM57 jdk_41_method_12_code 4 (some .int) [] (rmo 0 0 0 0) 0 0 #[(.int (Int32.ofNat a_)), (.int (Int32.ofNat b_)), (.int (Int32.ofNat n_)), f_] h0 (own_Q_cft Z  a_ b_ n_ f_ h0 n0) := by
  refine oenter (plainFor_of_name own_pn1) #[vi (Int32.ofNat a_), vi (Int32.ofNat b_), vi (Int32.ofNat n_), .val f_] (fun m => by first | (simp [entryFrame, mkF, argsToLocals, Value.category, pr2]; done) | rfl | (cases f_ <;> first | (cases pr1; done) | rfl)) ?_
  intro p e s m below meth c s₁ X0 hx hZ hby hml hret hown hnm hlk e0
  have N0 := Fr.nil n0
  have D := own_hb hby D58
  have W := own_w hw
  refine o_iloadN X0 hx (D 0 rfl) rfl <| o_ifNo X0 hx (D 1 rfl) (flt (show ¬ ((Int32.ofNat a_) < (0 : Int32)) from XT.nlt32 (a := a_) (b := 0) (by omega) (by omega))).1 <| o_iloadN X0 hx (D 2 rfl) rfl <| o_iloadN X0 hx (D 3 rfl) rfl <| o_icmpNo X0 hx (D 4 rfl) (flt (show ¬ ((Int32.ofNat b_) < (Int32.ofNat a_)) from XT.nlt32 (a := b_) (b := a_) (by omega) (by omega))).2.2.1 <| o_iloadN X0 hx (D 5 rfl) rfl <| o_iloadN X0 hx (D 6 rfl) rfl <| o_icmpYes X0 hx 22 (D 7 rfl) (flt (show ¬ ((Int32.ofNat n_) < (Int32.ofNat b_)) from XT.nlt32 (a := n_) (b := b_) (by omega) (by omega))).2.2.2 rfl <| o_iloadN X0 hx (D 8 rfl) rfl ?_
  exact oendI X0 hx hlk hret (D 9 rfl) (by decide) e0 ⟨rfl, N0, rfl⟩
abbrev cd59 : ByteArray := jdk_68_method_68_code
theorem D59 : own_DD cd59 [(0, .getstatic 18, 3), (3, .ifCond .eq 14, 3), (6, .aload_n 0, 1), (7, .getfield 22, 3), (10, .ifCond .ne 7, 3), (13, .iconst 1, 1), (14, .goto 4, 3), (18, .ireturn, 1)] := own_dk (by decide +kernel)
def own_Q_asl (Z : State) (z_CS : Int32) (v_FMT : Value) (s_DC : Addr) (k_DC : ClassId) (v_IO : Value) (x_ : Addr) (h0 : Heap) (n0 : Nat) (v : Option Value) (h : Heap) (L : List Loc) : Prop := (v = some (.int (1 : Int32))) ∧ (Fr n0 L) ∧ (h = h0)
abbrev yM58 : MethodName := ⟨"java/lang/AbstractStringBuilder", "isLatin1", "()Z"⟩
theorem rm_asl {l : Launch} {Z : State} {a0 : Array Value} (hw : own_hw a0 Z) {z_CS : Int32} {v_FMT : Value} {s_DC : Addr} {k_DC : ClassId} {v_IO : Value} {x_ : Addr}  {h0 : Heap} {n0 : Nat} (SB : own_Start Z z_CS v_FMT s_DC k_DC v_IO) (O0 : Old Z n0 h0) (pr0 : Fld Z h0 x_ "java/lang/AbstractStringBuilder" "coder" "B" (.int (0 : Int32))) :
    oMet l Z yM58 jdk_68_method_68_code 1 (some .boolean) [] (rmo 0 0 0 0) 0 0 #[(.ref x_)] h0 (own_Q_asl Z z_CS v_FMT s_DC k_DC v_IO x_ h0 n0) := by
  refine oenter (plainFor_of_name own_pn12) #[vr x_] (fun _ => rfl) ?_
  intro p e s m below meth c s₁ X0 hx hZ hby hml hret hown hnm hlk e0
  have N0 := Fr.nil n0
  have D := own_hb hby D59
  obtain ⟨S_CS, H_CS, -⟩ := (id SB)
  have W := own_w hw
  refine o_getS X0 hx hZ hown (host := "") (Or.inl (W 212 rfl)) Via.refl e0 (Sta.ext O0.2 S_CS) (D 0 rfl) fun T1 X1 e1 => o_ifNo X1 hx (D 1 rfl) (feq H_CS).1 <| o_aloadN X1 hx (D 2 rfl) rfl rfl <| o_getF X1 hx hZ hown (host := "") (Or.inl (W 215 rfl)) Via.refl e1 pr0 (D 3 rfl) fun T2 X2 e2 => o_ifNo X2 hx (D 4 rfl) (teq (by decide : (0 : Int32) = (0 : Int32))).2 <| o_iconst X2 hx 1 (D 5 rfl) rfl <| o_goto X2 hx 18 (D 6 rfl) rfl ?_
  exact oendN X2 hx hlk hret (by simp) (y := (1 : Int32)) rfl (D 7 rfl) (by decide) e2 ⟨rfl, N0, rfl⟩
abbrev cd60 : ByteArray := jdk_42_method_153_code
theorem D60 : own_DD cd60 [(0, .aload_n 0, 1), (1, .getfield 9, 3), (4, .areturn, 1)] := own_dk (by decide +kernel)
def own_Q_svl (Z : State)  (x_ ba_ : Addr) (h0 : Heap) (n0 : Nat) (v : Option Value) (h : Heap) (L : List Loc) : Prop := (v = some (.ref ba_)) ∧ (Fr n0 L) ∧ (h = h0)
abbrev yM59 : MethodName := ⟨"java/lang/String", "value", "()[B"⟩
theorem rm_svl {l : Launch} {Z : State} {a0 : Array Value} (hw : own_hw a0 Z)  {x_ ba_ : Addr}  {h0 : Heap} {n0 : Nat} (O0 : Old Z n0 h0) (pr0 : Fld Z h0 x_ "java/lang/String" "value" "[B" (.ref ba_)) :
    oMet l Z yM59 jdk_42_method_153_code 1 (some (.array .byte)) [] (rmo 0 0 0 0) 0 0 #[(.ref x_)] h0 (own_Q_svl Z  x_ ba_ h0 n0) := by
  refine oenter (plainFor_of_name own_pn0) #[vr x_] (fun _ => rfl) ?_
  intro p e s m below meth c s₁ X0 hx hZ hby hml hret hown hnm hlk e0
  have N0 := Fr.nil n0
  have D := own_hb hby D60
  have W := own_w hw
  refine o_aloadN X0 hx (D 0 rfl) rfl rfl <| o_getF X0 hx hZ hown (host := "") (Or.inl (W 29 rfl)) Via.refl e0 pr0 (D 1 rfl) fun T1 X1 e1 => ?_
  exact oendR X1 hx hlk hret rfl rfl rfl (D 2 rfl) (by decide) e1 ⟨rfl, N0, rfl⟩
abbrev cd61 : ByteArray := jdk_68_method_64_code
theorem D61 : own_DD cd61 [(0, .aload_n 0, 1), (1, .getfield 15, 3), (4, .areturn, 1)] := own_dk (by decide +kernel)
def own_Q_gvl (Z : State)  (x_ vb_ : Addr) (h0 : Heap) (n0 : Nat) (v : Option Value) (h : Heap) (L : List Loc) : Prop := (v = some (.ref vb_)) ∧ (Fr n0 L) ∧ (h = h0)
abbrev yM60 : MethodName := ⟨"java/lang/AbstractStringBuilder", "getValue", "()[B"⟩
theorem rm_gvl {l : Launch} {Z : State} {a0 : Array Value} (hw : own_hw a0 Z)  {x_ vb_ : Addr}  {h0 : Heap} {n0 : Nat} (O0 : Old Z n0 h0) (pr0 : Fld Z h0 x_ "java/lang/AbstractStringBuilder" "value" "[B" (.ref vb_)) :
    oMet l Z yM60 jdk_68_method_64_code 1 (some (.array .byte)) [] (rmo 0 0 0 0) 0 0 #[(.ref x_)] h0 (own_Q_gvl Z  x_ vb_ h0 n0) := by
  refine oenter (plainFor_of_name own_pn12) #[vr x_] (fun _ => rfl) ?_
  intro p e s m below meth c s₁ X0 hx hZ hby hml hret hown hnm hlk e0
  have N0 := Fr.nil n0
  have D := own_hb hby D61
  have W := own_w hw
  refine o_aloadN X0 hx (D 0 rfl) rfl rfl <| o_getF X0 hx hZ hown (host := "") (Or.inl (W 213 rfl)) Via.refl e0 pr0 (D 1 rfl) fun T1 X1 e1 => ?_
  exact oendR X1 hx hlk hret rfl rfl rfl (D 2 rfl) (by decide) e1 ⟨rfl, N0, rfl⟩
abbrev cd62 : ByteArray := jdk_68_method_6_code
theorem D62 : own_DD cd62 [(0, .aload_n 0, 1), (1, .getfield 79, 3), (4, .ireturn, 1)] := own_dk (by decide +kernel)
def own_Q_aln (Z : State)  (x_ : Addr) (c_ : Nat) (h0 : Heap) (n0 : Nat) (v : Option Value) (h : Heap) (L : List Loc) : Prop := (v = some (.int (Int32.ofNat c_))) ∧ (Fr n0 L) ∧ (h = h0)
abbrev yM61 : MethodName := ⟨"java/lang/AbstractStringBuilder", "length", "()I"⟩
theorem rm_aln {l : Launch} {Z : State} {a0 : Array Value} (hw : own_hw a0 Z)  {x_ : Addr} (c_ : Nat) {h0 : Heap} {n0 : Nat} (O0 : Old Z n0 h0) (pr0 : Exa Z h0 x_ "java/lang/StringBuilder") (pr1 : Fld Z h0 x_ "java/lang/AbstractStringBuilder" "count" "I" (.int (Int32.ofNat c_))) :
    oMet l Z yM61 jdk_68_method_6_code 1 (some .int) [] (rmo 0 0 0 0) 0 0 #[(.ref x_)] h0 (own_Q_aln Z  x_ c_ h0 n0) := by
  refine oenter (plainFor_of_name own_pn12) #[vr x_] (fun _ => rfl) ?_
  intro p e s m below meth c s₁ X0 hx hZ hby hml hret hown hnm hlk e0
  have N0 := Fr.nil n0
  have D := own_hb hby D62
  have W := own_w hw
  refine o_aloadN X0 hx (D 0 rfl) rfl rfl <| o_getF X0 hx hZ hown (host := "") (Or.inl (W 251 rfl)) Via.refl e0 pr1 (D 1 rfl) fun T1 X1 e1 => ?_
  exact oendI X1 hx hlk hret (D 2 rfl) (by decide) e1 ⟨rfl, N0, rfl⟩
abbrev cd63 : ByteArray := jdk_67_method_93_code
theorem D63 : own_DD cd63 [(0, .aload_n 0, 1), (1, .invokespecial 343, 3), (4, .ireturn, 1)] := own_dk (by decide +kernel)
def own_Q_sln (Z : State)  (x_ : Addr) (c_ : Nat) (h0 : Heap) (n0 : Nat) (v : Option Value) (h : Heap) (L : List Loc) : Prop := (v = some (.int (Int32.ofNat c_))) ∧ (Fr n0 L) ∧ (h = h0)
abbrev yM62 : MethodName := ⟨"java/lang/StringBuilder", "length", "()I"⟩
theorem rm_sln {l : Launch} {Z : State} {a0 : Array Value} (hw : own_hw a0 Z)  {x_ : Addr} (c_ : Nat) {h0 : Heap} {n0 : Nat} (O0 : Old Z n0 h0) (pr0 : Exa Z h0 x_ "java/lang/StringBuilder") (pr1 : Fld Z h0 x_ "java/lang/AbstractStringBuilder" "count" "I" (.int (Int32.ofNat c_))) :
    oMet l Z yM62 jdk_67_method_93_code 1 (some .int) [] (rmo 1 0 0 12) 0 0 #[(.ref x_)] h0 (own_Q_sln Z  x_ c_ h0 n0) := by
  refine oenter (plainFor_of_name own_pn13) #[vr x_] (fun _ => rfl) ?_
  intro p e s m below meth c s₁ X0 hx hZ hby hml hret hown hnm hlk e0
  have N0 := Fr.nil n0
  have D := own_hb hby D63
  have W := own_w hw
  refine o_aloadN X0 hx (D 0 rfl) rfl rfl <| o_cU X0 hx hZ hown (rm_aln hw c_ O0 pr0 pr1) (W 306 rfl) (own_same (W 302 rfl) (W 267 rfl) rfl (by decide)) (W 302 rfl) (W 235 rfl) (W 209 rfl) (W 307 rfl) (by decide) e0 pr0 hml rfl [] [] own_pd5 rfl rfl 0 rfl (by decide) (D 1 rfl) fun T1 L1 v1 X1 hQ1 => ?_
  obtain ⟨rfl, Nq1, q1⟩ := hQ1
  have N1 := Fr.app N0 Nq1
  exact oendI X1 hx hlk hret (D 2 rfl) (by decide) q1 ⟨rfl, N1, rfl⟩
theorem own_pd31 : parseMethodDescriptor "()[B" = some ⟨[], some (.array .byte)⟩ := by decide +kernel
abbrev cd64 : ByteArray := jdk_68_method_75_code
theorem D64 : own_DD cd64 [(0, .aload_n 0, 1), (1, .invokevirtual 83, 3), (4, .ifCond .eq 141, 3), (7, .aload_n 1, 1), (8, .invokevirtual 400, 3), (11, .ifCond .eq 25, 3), (14, .aload_n 1, 1), (15, .invokevirtual 401, 3), (18, .iload_n 2, 1), (19, .aload_n 0, 1), (20, .getfield 15, 3), (23, .aload_n 0, 1), (24, .getfield 79, 3), (27, .iload_n 3, 1), (28, .iload_n 2, 1), (29, .isub, 1), (30, .invokestatic 309, 3), (33, .goto 161, 3), (194, .aload_n 0, 1), (195, .dup, 1), (196, .getfield 79, 3), (199, .iload_n 3, 1), (200, .iload_n 2, 1), (201, .isub, 1), (202, .iadd, 1), (203, .putfield 79, 3), (206, .return_, 1)] := own_dk (by decide +kernel)
def own_Q_apc (Z : State) (z_CS : Int32) (v_FMT : Value) (s_DC : Addr) (k_DC : ClassId) (v_IO : Value) (x_ vb_ : Addr) (kv_ : ClassId) (p_ : Nat) (vs_ : List Int32) (c_ : Nat) (s_ ba_ : Addr) (kb_ : ClassId) (xs_ : List Int32) (n_ o_ e_ : Nat) (h0 : Heap) (n0 : Nat) (v : Option Value) (h : Heap) (L : List Loc) : Prop := (v = none) ∧ (Fr n0 L) ∧ (Keep h0 h [x_, vb_]) ∧ (Exa Z h x_ "java/lang/StringBuilder") ∧ (Fld Z h x_ "java/lang/AbstractStringBuilder" "value" "[B" (.ref vb_)) ∧ (Fld Z h x_ "java/lang/AbstractStringBuilder" "coder" "B" (.int (0 : Int32))) ∧ (Fld Z h x_ "java/lang/AbstractStringBuilder" "count" "I" (.int (Int32.ofNat (c_ + (e_ - o_))))) ∧ (Arv Z h vb_ kv_ .byte (Int32.ofNat p_) (own_vs (vs_ ++ (xs_.drop o_).take (e_ - o_))) (.int 0)) ∧ (Exa Z h vb_ "[B") ∧ ((vs_ ++ (xs_.drop o_).take (e_ - o_)).length = (c_ + (e_ - o_)) ∧ (c_ + (e_ - o_)) ≤ p_ ∧ p_ ≤ 60)
abbrev yM63 : MethodName := ⟨"java/lang/AbstractStringBuilder", "appendChars", "(Ljava/lang/String;II)V"⟩
theorem rm_apc {l : Launch} {Z : State} {a0 : Array Value} (hw : own_hw a0 Z) {z_CS : Int32} {v_FMT : Value} {s_DC : Addr} {k_DC : ClassId} {v_IO : Value} {x_ vb_ : Addr} {kv_ : ClassId} {vs_ : List Int32} {s_ ba_ : Addr} {kb_ : ClassId} {xs_ : List Int32} (p_ c_ n_ o_ e_ : Nat) {h0 : Heap} {n0 : Nat} (SB : own_Start Z z_CS v_FMT s_DC k_DC v_IO) (O0 : Old Z n0 h0) (pr0 : Exa Z h0 x_ "java/lang/StringBuilder") (pr1 : Fld Z h0 x_ "java/lang/AbstractStringBuilder" "value" "[B" (.ref vb_)) (pr2 : Fld Z h0 x_ "java/lang/AbstractStringBuilder" "coder" "B" (.int (0 : Int32))) (pr3 : Fld Z h0 x_ "java/lang/AbstractStringBuilder" "count" "I" (.int (Int32.ofNat c_))) (pr4 : Arv Z h0 vb_ kv_ .byte (Int32.ofNat p_) (own_vs vs_) (.int 0)) (pr5 : Exa Z h0 vb_ "[B") (pr6 : vs_.length = c_ ∧ c_ ≤ p_ ∧ p_ ≤ 60) (pr7 : n0 ≤ x_) (pr8 : n0 ≤ vb_) (pr9 : Exa Z h0 s_ "java/lang/String") (pr10 : Fld Z h0 s_ "java/lang/String" "coder" "B" (.int (0 : Int32))) (pr11 : Fld Z h0 s_ "java/lang/String" "value" "[B" (.ref ba_)) (pr12 : Arv Z h0 ba_ kb_ .byte (Int32.ofNat n_) (own_vs xs_) (.int 0)) (pr13 : xs_.length = n_ ∧ n_ ≤ 20) (pr14 : o_ ≤ e_ ∧ e_ ≤ n_) (pr15 : c_ + (e_ - o_) ≤ p_) :
    oMet l Z yM63 jdk_68_method_75_code 8 none [] (rmo 1 0 0 40) 0 0 #[(.ref x_), (.ref s_), (.int (Int32.ofNat o_)), (.int (Int32.ofNat e_))] h0 (own_Q_apc Z z_CS v_FMT s_DC k_DC v_IO x_ vb_ kv_ p_ vs_ c_ s_ ba_ kb_ xs_ n_ o_ e_ h0 n0) := by
  refine oenter (plainFor_of_name own_pn12) #[vr x_, vr s_, vi (Int32.ofNat o_), vi (Int32.ofNat e_), .unset, .unset, .unset, .unset] (fun _ => rfl) ?_
  intro p e s m below meth c s₁ X0 hx hZ hby hml hret hown hnm hlk e0
  have N0 := Fr.nil n0
  have D := own_hb hby D64
  have W := own_w hw
  refine o_aloadN X0 hx (D 0 rfl) rfl rfl <| o_cv X0 hx hZ hown (rm_asl hw  SB O0 pr2) (W 264 rfl) (W 265 rfl) (W 267 rfl) (W 266 rfl) (W 209 rfl) (W 268 rfl) (by decide) e0 pr0 hml rfl [] [] own_pd3 rfl rfl 0 rfl (by decide) (D 1 rfl) fun T1 L1 v1 X1 hQ1 => ?_
  obtain ⟨rfl, Nq1, q1⟩ := hQ1
  have N1 := Fr.app N0 Nq1
  refine o_ifNo X1 hx (D 2 rfl) (feq (by decide : ¬ ((1 : Int32) = (0 : Int32)))).1 <| o_aloadN X1 hx (D 3 rfl) rfl rfl <| o_cv X1 hx hZ hown (rm_isl1 hw  SB O0 pr10) (W 269 rfl) (W 270 rfl) (W 272 rfl) (W 271 rfl) (W 12 rfl) (W 273 rfl) (by decide) q1 pr9 hml rfl [] [] own_pd3 rfl rfl 0 rfl (by decide) (D 4 rfl) fun T2 L2 v2 X2 hQ2 => ?_
  obtain ⟨rfl, Nq2, q2⟩ := hQ2
  have N2 := Fr.app N1 Nq2
  refine o_ifNo X2 hx (D 5 rfl) (feq (by decide : ¬ ((1 : Int32) = (0 : Int32)))).1 <| o_aloadN X2 hx (D 6 rfl) rfl rfl <| o_cv X2 hx hZ hown (rm_svl hw  O0 pr11) (W 274 rfl) (W 275 rfl) (W 277 rfl) (W 276 rfl) (W 12 rfl) (W 278 rfl) (by decide) q2 pr9 hml rfl [] [] own_pd31 rfl rfl 0 rfl (by decide) (D 7 rfl) fun T3 L3 v3 X3 hQ3 => ?_
  obtain ⟨rfl, Nq3, q3⟩ := hQ3
  have N3 := Fr.app N2 Nq3
  refine o_iloadN X3 hx (D 8 rfl) rfl <| o_aloadN X3 hx (D 9 rfl) rfl rfl <| o_getF X3 hx hZ hown (host := "") (Or.inl (W 213 rfl)) Via.refl q3 pr1 (D 10 rfl) fun T4 X4 e4 => o_aloadN X4 hx (D 11 rfl) rfl rfl <| o_getF X4 hx hZ hown (host := "") (Or.inl (W 251 rfl)) Via.refl e4 pr3 (D 12 rfl) fun T5 X5 e5 => o_iloadN X5 hx (D 13 rfl) rfl <| o_iloadN X5 hx (D 14 rfl) rfl <| o_isub X5 hx (D 15 rfl) ?_
  rw [show ((Int32.ofNat e_) - (Int32.ofNat o_)) = (Int32.ofNat (e_ - o_)) from XT.sub32n (a := e_) (b := o_) (by omega)]
  obtain ⟨T6, _, X6, rfl, K6, V6, Nf6, st6⟩ := own_copy X5 hx hZ hown (W 279 rfl) (W 282 rfl) (W 280 rfl) (W 281 rfl) e5 pr12 pr4 (o := o_) (q := c_) (n := (e_ - o_)) (na := n_) (nb := p_) rfl rfl rfl rfl rfl (by omega) (by omega) (by omega) (by omega) (by omega) (by omega) (g := (mkF m 30 #[vr x_, vr s_, vi (Int32.ofNat o_), vi (Int32.ofNat e_), .unset, .unset, .unset, .unset] [(.int (Int32.ofNat (e_ - o_))), (.int (Int32.ofNat c_)), (.ref vb_), (.int (Int32.ofNat o_)), (.ref ba_)])) rfl (by rw [hml]; rfl) (rest := []) rfl (D 16 rfl) (W := 0) (by show 2 * 0 + _ ≤ _; exact Nat.le_of_eq rfl) (by decide) (by decide)
  have N6 := Nf6 n0 N3 pr8
  refine ogoF st6 <| o_goto X6 hx 194 (D 17 rfl) rfl <| o_aloadN X6 hx (D 18 rfl) rfl rfl <| o_dup X6 hx (D 19 rfl) rfl ?_
  have y7 : x_ ≠ vb_ := (ne_exa (pr0.keep K6) (pr5.keep K6) (by decide))
  refine o_getF X6 hx hZ hown (host := "") (Or.inl (W 251 rfl)) Via.refl rfl (pr3.keep K6 (ninS y7 nin0)) (D 20 rfl) fun T8 X8 e8 => o_iloadN X8 hx (D 21 rfl) rfl <| o_iloadN X8 hx (D 22 rfl) rfl <| o_isub X8 hx (D 23 rfl) ?_
  rw [show ((Int32.ofNat e_) - (Int32.ofNat o_)) = (Int32.ofNat (e_ - o_)) from XT.sub32n (a := e_) (b := o_) (by omega)]
  refine o_iadd X8 hx (D 24 rfl) ?_
  rw [show ((Int32.ofNat c_) + (Int32.ofNat (e_ - o_))) = (Int32.ofNat (c_ + (e_ - o_))) from XT.add32n c_ (e_ - o_)]
  obtain ⟨T9, _, X9, rfl, W9, st9⟩ := putF X8 hx hZ hown (host := "") (Or.inl (W 251 rfl)) Via.refl e8 (pr3.keep K6 (ninS y7 nin0)) (pr0.keep K6) (Or.inl (W 252 rfl)) (W 200 rfl) (ty := .int) (by decide) rfl rfl (g := (mkF m 203 #[vr x_, vr s_, vi (Int32.ofNat o_), vi (Int32.ofNat e_), .unset, .unset, .unset, .unset] [(.int (Int32.ofNat (c_ + (e_ - o_)))), (.ref x_)])) rfl rfl (D 25 rfl)
  have N9 := Fr.snoc X9 N6 pr7
  have F9 := Fld.same W9 (pr3.keep K6 (ninS y7 nin0))
  refine ogoF st9 ?_
  have c10 := (Fld.other W9 (pr1.keep K6 (ninS y7 nin0)) (Or.inr (slot_ne (Or.inl (W 214 rfl)) (Or.inl (W 252 rfl)) (by decide) (t := (.array .byte)) (t' := .int) (by decide) (by decide))))
  have c11 := (Fld.other W9 (pr2.keep K6 (ninS y7 nin0)) (Or.inr (slot_ne (Or.inl (W 216 rfl)) (Or.inl (W 252 rfl)) (by decide) (t := .byte) (t' := .int) (by decide) (by decide))))
  exact oendV X9 hx hlk hret (D 26 rfl) (by decide) rfl ⟨rfl, N9, (((Keep.refl h0 [x_, vb_]).trans K6 (allS (Or.inl (List.mem_of_getElem? (i := 1) rfl)) all0)).wr W9 (Or.inl (List.mem_of_getElem? (i := 0) rfl))), (Exa.wr W9 (pr0.keep K6)), c10, c11, F9, (V6.other W9 (Ne.symm y7)), (Exa.wr W9 (pr5.keep K6)), ⟨own_lnA (by omega) (n := n_) (by omega) (by omega) (by omega), by omega, by omega⟩⟩
abbrev cd65 : ByteArray := jdk_68_method_9_code
theorem D65 : own_DD cd65 [(0, .aload_n 0, 1), (1, .getfield 15, 3), (4, .arraylength, 1), (5, .aload_n 0, 1), (6, .getfield 22, 3), (9, .ishr, 1), (10, .istore_n 2, 1), (11, .iload_n 1, 1), (12, .iload_n 2, 1), (13, .isub, 1), (14, .ifCond .le 24, 3), (38, .return_, 1), (17, .aload_n 0, 1), (18, .aload_n 0, 1), (19, .getfield 15, 3), (22, .aload_n 0, 1), (23, .iload_n 1, 1), (24, .invokevirtual 104, 3), (27, .aload_n 0, 1), (28, .getfield 22, 3), (31, .ishl, 1), (32, .invokestatic 108, 3), (35, .putfield 15, 3)] := own_dk (by decide +kernel)
def own_Q_ens0 (Z : State)  (x_ vb_ : Addr) (kv_ : ClassId) (p_ : Nat) (vs_ : List Int32) (c_ q_ : Nat) (h0 : Heap) (n0 : Nat) (v : Option Value) (h : Heap) (L : List Loc) : Prop := (v = none) ∧ (Fr n0 L) ∧ (h = h0)
abbrev yM64 : MethodName := ⟨"java/lang/AbstractStringBuilder", "ensureCapacityInternal", "(I)V"⟩
theorem rm_ens0 {l : Launch} {Z : State} {a0 : Array Value} (hw : own_hw a0 Z)  {x_ vb_ : Addr} {kv_ : ClassId} {vs_ : List Int32} (p_ c_ q_ : Nat) {h0 : Heap} {n0 : Nat} (O0 : Old Z n0 h0) (pr0 : Exa Z h0 x_ "java/lang/StringBuilder") (pr1 : Fld Z h0 x_ "java/lang/AbstractStringBuilder" "value" "[B" (.ref vb_)) (pr2 : Fld Z h0 x_ "java/lang/AbstractStringBuilder" "coder" "B" (.int (0 : Int32))) (pr3 : Fld Z h0 x_ "java/lang/AbstractStringBuilder" "count" "I" (.int (Int32.ofNat c_))) (pr4 : Arv Z h0 vb_ kv_ .byte (Int32.ofNat p_) (own_vs vs_) (.int 0)) (pr5 : Exa Z h0 vb_ "[B") (pr6 : vs_.length = c_ ∧ c_ ≤ p_ ∧ p_ ≤ 60) (pr7 : n0 ≤ x_) (pr8 : n0 ≤ vb_) (pr9 : q_ ≤ p_) :
    oMet l Z yM64 jdk_68_method_9_code 3 none [] (rmo 0 0 0 0) 0 0 #[(.ref x_), (.int (Int32.ofNat q_))] h0 (own_Q_ens0 Z  x_ vb_ kv_ p_ vs_ c_ q_ h0 n0) := by
  refine oenter (plainFor_of_name own_pn12) #[vr x_, vi (Int32.ofNat q_), .unset] (fun _ => rfl) ?_
  intro p e s m below meth c s₁ X0 hx hZ hby hml hret hown hnm hlk e0
  have N0 := Fr.nil n0
  have D := own_hb hby D65
  have W := own_w hw
  refine o_aloadN X0 hx (D 0 rfl) rfl rfl <| o_getF X0 hx hZ hown (host := "") (Or.inl (W 213 rfl)) Via.refl e0 pr1 (D 1 rfl) fun T1 X1 e1 => o_alen X1 hx hZ e1 pr4 (D 2 rfl) <| o_aloadN X1 hx (D 3 rfl) rfl rfl <| o_getF X1 hx hZ hown (host := "") (Or.inl (W 215 rfl)) Via.refl e1 pr2 (D 4 rfl) fun T2 X2 e2 => o_ishr X2 hx (D 5 rfl) ?_
  rw [show ((Int32.ofNat p_) >>> ((0 : Int32) &&& 31)) = (Int32.ofNat p_) from own_shr0 _]
  refine o_istoreN X2 hx (l' := #[vr x_, vi (Int32.ofNat q_), vi (Int32.ofNat p_)]) (D 6 rfl) rfl <| o_iloadN X2 hx (D 7 rfl) rfl <| o_iloadN X2 hx (D 8 rfl) rfl <| o_isub X2 hx (D 9 rfl) <| o_ifYes X2 hx 38 (D 10 rfl) (flt (fun q => absurd ((own_gap (by omega) (by omega)).mp q) (by omega))).2.2.2 rfl ?_
  exact oendV X2 hx hlk hret (D 11 rfl) (by decide) e2 ⟨rfl, N0, rfl⟩
def own_Q_mxn (Z : State)  (a_ b_ : Nat) (h0 : Heap) (n0 : Nat) (v : Option Value) (h : Heap) (L : List Loc) : Prop := (v = some (.int (Int32.ofNat (max a_ b_)))) ∧ (Fr n0 L) ∧ (h = h0)
theorem rm_mxn {l : Launch} {Z : State} {a0 : Array Value} (hw : own_hw a0 Z)   (a_ b_ : Nat) {h0 : Heap} {n0 : Nat} (O0 : Old Z n0 h0) (pr0 : a_ ≤ 999 ∧ b_ ≤ 999) :
    oMet l Z yM25 jdk_29_method_65_code 2 (some .int) [] (rmo 0 0 0 0) 0 0 #[(.int (Int32.ofNat a_)), (.int (Int32.ofNat b_))] h0 (own_Q_mxn Z  a_ b_ h0 n0) := by
  refine oenter (by decide +kernel) #[vi (Int32.ofNat a_), vi (Int32.ofNat b_)] (fun _ => rfl) ?_
  intro p e s m below meth c s₁ X0 hx hZ hby hml hret hown hnm hlk e0
  have N0 := Fr.nil n0
  have D := own_hb hby D26
  have W := own_w hw
  refine o_iloadN X0 hx (D 0 rfl) rfl <| o_iloadN X0 hx (D 1 rfl) rfl ?_
  by_cases hc2 : a_ < b_
  · refine o_icmpYes X0 hx 9 (D 2 rfl) (tlt (show (Int32.ofNat a_) < (Int32.ofNat b_) from XT.lt32 (a := a_) (b := b_) (by omega) (by omega))).1 rfl <| o_iloadN X0 hx (D 6 rfl) rfl ?_
    exact oendI X0 hx hlk hret (D 5 rfl) (by decide) e0 ⟨congrArg (fun z_ => some (Value.int (Int32.ofNat z_))) (by omega), N0, rfl⟩
  · refine o_icmpNo X0 hx (D 2 rfl) (flt (show ¬ ((Int32.ofNat a_) < (Int32.ofNat b_)) from XT.nlt32 (a := a_) (b := b_) (by omega) (by omega))).1 <| o_iloadN X0 hx (D 3 rfl) rfl <| o_goto X0 hx 10 (D 4 rfl) rfl ?_
    exact oendI X0 hx hlk hret (D 5 rfl) (by decide) e0 ⟨congrArg (fun z_ => some (Value.int (Int32.ofNat z_))) (by omega), N0, rfl⟩
abbrev cd66 : ByteArray := jdk_29_method_69_code
theorem D66 : own_DD cd66 [(0, .iload_n 0, 1), (1, .iload_n 1, 1), (2, .if_icmp .gt 7, 3), (5, .iload_n 0, 1), (6, .goto 4, 3), (10, .ireturn, 1), (9, .iload_n 1, 1)] := own_dk (by decide +kernel)
def own_Q_mnA (Z : State)  (a_ b_ : Nat) (h0 : Heap) (n0 : Nat) (v : Option Value) (h : Heap) (L : List Loc) : Prop := (v = some (.int (Int32.ofNat a_))) ∧ (Fr n0 L) ∧ (h = h0)
abbrev yM65 : MethodName := ⟨"java/lang/Math", "min", "(II)I"⟩
theorem rm_mnA {l : Launch} {Z : State} {a0 : Array Value} (hw : own_hw a0 Z)   (a_ b_ : Nat) {h0 : Heap} {n0 : Nat} (O0 : Old Z n0 h0) (pr0 : a_ ≤ b_ ∧ b_ ≤ 999) :
    oMet l Z yM65 jdk_29_method_69_code 2 (some .int) [] (rmo 0 0 0 0) 0 0 #[(.int (Int32.ofNat a_)), (.int (Int32.ofNat b_))] h0 (own_Q_mnA Z  a_ b_ h0 n0) := by
  refine oenter (by decide +kernel) #[vi (Int32.ofNat a_), vi (Int32.ofNat b_)] (fun _ => rfl) ?_
  intro p e s m below meth c s₁ X0 hx hZ hby hml hret hown hnm hlk e0
  have N0 := Fr.nil n0
  have D := own_hb hby D66
  have W := own_w hw
  refine o_iloadN X0 hx (D 0 rfl) rfl <| o_iloadN X0 hx (D 1 rfl) rfl <| o_icmpNo X0 hx (D 2 rfl) (flt (show ¬ ((Int32.ofNat b_) < (Int32.ofNat a_)) from XT.nlt32 (a := b_) (b := a_) (by omega) (by omega))).2.2.1 <| o_iloadN X0 hx (D 3 rfl) rfl <| o_goto X0 hx 10 (D 4 rfl) rfl ?_
  exact oendI X0 hx hlk hret (D 5 rfl) (by decide) e0 ⟨rfl, N0, rfl⟩
def own_Q_mnB (Z : State)  (a_ b_ : Nat) (h0 : Heap) (n0 : Nat) (v : Option Value) (h : Heap) (L : List Loc) : Prop := (v = some (.int (Int32.ofNat b_))) ∧ (Fr n0 L) ∧ (h = h0)
theorem rm_mnB {l : Launch} {Z : State} {a0 : Array Value} (hw : own_hw a0 Z)   (a_ b_ : Nat) {h0 : Heap} {n0 : Nat} (O0 : Old Z n0 h0) (pr0 : b_ < a_ ∧ a_ ≤ 999) :
    oMet l Z yM65 jdk_29_method_69_code 2 (some .int) [] (rmo 0 0 0 0) 0 0 #[(.int (Int32.ofNat a_)), (.int (Int32.ofNat b_))] h0 (own_Q_mnB Z  a_ b_ h0 n0) := by
  refine oenter (by decide +kernel) #[vi (Int32.ofNat a_), vi (Int32.ofNat b_)] (fun _ => rfl) ?_
  intro p e s m below meth c s₁ X0 hx hZ hby hml hret hown hnm hlk e0
  have N0 := Fr.nil n0
  have D := own_hb hby D66
  have W := own_w hw
  refine o_iloadN X0 hx (D 0 rfl) rfl <| o_iloadN X0 hx (D 1 rfl) rfl <| o_icmpYes X0 hx 9 (D 2 rfl) (tlt (show (Int32.ofNat b_) < (Int32.ofNat a_) from XT.lt32 (a := b_) (b := a_) (by omega) (by omega))).2.2.1 rfl <| o_iloadN X0 hx (D 6 rfl) rfl ?_
  exact oendI X0 hx hlk hret (D 5 rfl) (by decide) e0 ⟨rfl, N0, rfl⟩
abbrev cd67 : ByteArray := jdk_48_method_27_code
theorem D67 : own_DD cd67 [(0, .iload_n 0, 1), (1, .iload_n 1, 1), (2, .iload_n 2, 1), (3, .invokestatic 194, 3), (6, .iadd, 1), (7, .istore_n 3, 1), (8, .iconst 0, 1), (9, .iload_n 3, 1), (10, .if_icmp .ge 11, 3), (13, .iload_n 3, 1), (14, .ldc 200, 2), (16, .if_icmp .gt 5, 3), (19, .iload_n 3, 1), (20, .ireturn, 1)] := own_dk (by decide +kernel)
theorem own_pn14 : plainName "jdk/internal/util/ArraysSupport" = true := by first | (simp [plainName, overriddenIn]; done) | decide +kernel
def own_Q_nln (Z : State)  (a_ b_ d_ : Nat) (h0 : Heap) (n0 : Nat) (v : Option Value) (h : Heap) (L : List Loc) : Prop := (v = some (.int (Int32.ofNat (a_ + (max b_ d_))))) ∧ (Fr n0 L) ∧ (h = h0)
abbrev yM66 : MethodName := ⟨"jdk/internal/util/ArraysSupport", "newLength", "(III)I"⟩
theorem rm_nln {l : Launch} {Z : State} {a0 : Array Value} (hw : own_hw a0 Z)   (a_ b_ d_ : Nat) {h0 : Heap} {n0 : Nat} (O0 : Old Z n0 h0) (pr0 : 0 < a_ + max b_ d_ ∧ a_ + max b_ d_ ≤ 999) :
    oMet l Z yM66 jdk_48_method_27_code 4 (some .int) [] (rmo 1 0 0 14) 0 0 #[(.int (Int32.ofNat a_)), (.int (Int32.ofNat b_)), (.int (Int32.ofNat d_))] h0 (own_Q_nln Z  a_ b_ d_ h0 n0) := by
  refine oenter (plainFor_of_name own_pn14) #[vi (Int32.ofNat a_), vi (Int32.ofNat b_), vi (Int32.ofNat d_), .unset] (fun _ => rfl) ?_
  intro p e s m below meth c s₁ X0 hx hZ hby hml hret hown hnm hlk e0
  have N0 := Fr.nil n0
  have D := own_hb hby D67
  have W := own_w hw
  refine o_iloadN X0 hx (D 0 rfl) rfl <| o_iloadN X0 hx (D 1 rfl) rfl <| o_iloadN X0 hx (D 2 rfl) rfl <| o_cS X0 hx hZ hown (rm_mxn hw b_ d_ O0 (by first | rfl | assumption | decide | omega)) (W 452 rfl) (W 83 rfl) (W 84 rfl) (W 85 rfl) (by decide) e0 hml rfl [(.int (Int32.ofNat b_)), (.int (Int32.ofNat d_))] [(.int (Int32.ofNat a_))] own_pd18 rfl rfl 1 rfl (by decide) (D 3 rfl) fun T1 L1 v1 X1 hQ1 => ?_
  obtain ⟨rfl, Nq1, q1⟩ := hQ1
  have N1 := Fr.app N0 Nq1
  refine o_iadd X1 hx (D 4 rfl) ?_
  rw [show ((Int32.ofNat a_) + (Int32.ofNat (max b_ d_))) = (Int32.ofNat (a_ + (max b_ d_))) from XT.add32n a_ (max b_ d_)]
  refine o_istoreN X1 hx (l' := #[vi (Int32.ofNat a_), vi (Int32.ofNat b_), vi (Int32.ofNat d_), vi (Int32.ofNat (a_ + (max b_ d_)))]) (D 5 rfl) rfl <| o_iconst X1 hx 0 (D 6 rfl) rfl <| o_iloadN X1 hx (D 7 rfl) rfl <| o_icmpNo X1 hx (D 8 rfl) (tlt (show (0 : Int32) < (Int32.ofNat (a_ + (max b_ d_))) from XT.lt32 (a := 0) (b := (a_ + (max b_ d_))) (by omega) (by omega))).2.1 <| o_iloadN X1 hx (D 9 rfl) rfl <| ogo (S' := T1.setTop (mkF m 16 #[vi (Int32.ofNat a_), vi (Int32.ofNat b_), vi (Int32.ofNat d_), vi (Int32.ofNat (a_ + (max b_ d_)))] [(.int (2147483639 : Int32)), (.int (Int32.ofNat (a_ + (max b_ d_))))])) (X1.ldcInt hx hown (mvT hZ (W 453 rfl)) (g := (mkF m 14 #[vi (Int32.ofNat a_), vi (Int32.ofNat b_), vi (Int32.ofNat d_), vi (Int32.ofNat (a_ + (max b_ d_)))] [(.int (Int32.ofNat (a_ + (max b_ d_))))])) rfl (D 10 rfl)) <| o_icmpNo X1 hx (D 11 rfl) (flt (show ¬ ((2147483639 : Int32) < (Int32.ofNat (a_ + (max b_ d_)))) from XT.nlt32 (a := 2147483639) (b := (a_ + (max b_ d_))) (by omega) (by omega))).2.2.1 <| o_iloadN X1 hx (D 12 rfl) rfl ?_
  exact oendI X1 hx hlk hret (D 13 rfl) (by decide) q1 ⟨rfl, N1, rfl⟩
theorem own_pd32 : parseMethodDescriptor "(III)I" = some ⟨[.int, .int, .int], some .int⟩ := by decide +kernel
abbrev cd68 : ByteArray := jdk_68_method_10_code
theorem D68 : own_DD cd68 [(0, .aload_n 0, 1), (1, .getfield 15, 3), (4, .arraylength, 1), (5, .istore_n 2, 1), (6, .iload_n 1, 1), (7, .aload_n 0, 1), (8, .getfield 22, 3), (11, .ishl, 1), (12, .istore_n 3, 1), (13, .iload_n 3, 1), (14, .iload_n 2, 1), (15, .isub, 1), (16, .istore 4, 2), (18, .iload_n 2, 1), (19, .iload 4, 2), (21, .iload_n 2, 1), (22, .iconst 2, 1), (23, .aload_n 0, 1), (24, .getfield 22, 3), (27, .ishl, 1), (28, .iadd, 1), (29, .invokestatic 114, 3), (32, .istore 5, 2), (34, .iload 5, 2), (36, .ldc 39, 2), (38, .if_icmp .ne 13, 3), (51, .iload 5, 2), (53, .aload_n 0, 1), (54, .getfield 22, 3), (57, .ishr, 1), (58, .ireturn, 1)] := own_dk (by decide +kernel)
def own_Q_ncp (Z : State)  (x_ vb_ : Addr) (kv_ : ClassId) (p_ : Nat) (vs_ : List Int32) (c_ q_ : Nat) (h0 : Heap) (n0 : Nat) (v : Option Value) (h : Heap) (L : List Loc) : Prop := (v = some (.int (Int32.ofNat (p_ + (max (q_ - p_) (p_ + 2)))))) ∧ (Fr n0 L) ∧ (h = h0)
abbrev yM67 : MethodName := ⟨"java/lang/AbstractStringBuilder", "newCapacity", "(I)I"⟩
theorem rm_ncp {l : Launch} {Z : State} {a0 : Array Value} (hw : own_hw a0 Z)  {x_ vb_ : Addr} {kv_ : ClassId} {vs_ : List Int32} (p_ c_ q_ : Nat) {h0 : Heap} {n0 : Nat} (O0 : Old Z n0 h0) (pr0 : Exa Z h0 x_ "java/lang/StringBuilder") (pr1 : Fld Z h0 x_ "java/lang/AbstractStringBuilder" "value" "[B" (.ref vb_)) (pr2 : Fld Z h0 x_ "java/lang/AbstractStringBuilder" "coder" "B" (.int (0 : Int32))) (pr3 : Fld Z h0 x_ "java/lang/AbstractStringBuilder" "count" "I" (.int (Int32.ofNat c_))) (pr4 : Arv Z h0 vb_ kv_ .byte (Int32.ofNat p_) (own_vs vs_) (.int 0)) (pr5 : Exa Z h0 vb_ "[B") (pr6 : vs_.length = c_ ∧ c_ ≤ p_ ∧ p_ ≤ 60) (pr7 : n0 ≤ x_) (pr8 : n0 ≤ vb_) (pr9 : p_ < q_ ∧ q_ ≤ 60) :
    oMet l Z yM67 jdk_68_method_10_code 6 (some .int) [] (rmo 2 0 0 29) 0 0 #[(.ref x_), (.int (Int32.ofNat q_))] h0 (own_Q_ncp Z  x_ vb_ kv_ p_ vs_ c_ q_ h0 n0) := by
  refine oenter (plainFor_of_name own_pn12) #[vr x_, vi (Int32.ofNat q_), .unset, .unset, .unset, .unset] (fun _ => rfl) ?_
  intro p e s m below meth c s₁ X0 hx hZ hby hml hret hown hnm hlk e0
  have N0 := Fr.nil n0
  have D := own_hb hby D68
  have W := own_w hw
  refine o_aloadN X0 hx (D 0 rfl) rfl rfl <| o_getF X0 hx hZ hown (host := "") (Or.inl (W 213 rfl)) Via.refl e0 pr1 (D 1 rfl) fun T1 X1 e1 => o_alen X1 hx hZ e1 pr4 (D 2 rfl) <| o_istoreN X1 hx (l' := #[vr x_, vi (Int32.ofNat q_), vi (Int32.ofNat p_), .unset, .unset, .unset]) (D 3 rfl) rfl <| o_iloadN X1 hx (D 4 rfl) rfl <| o_aloadN X1 hx (D 5 rfl) rfl rfl <| o_getF X1 hx hZ hown (host := "") (Or.inl (W 215 rfl)) Via.refl e1 pr2 (D 6 rfl) fun T2 X2 e2 => o_ishl X2 hx (D 7 rfl) ?_
  rw [show ((Int32.ofNat q_) <<< ((0 : Int32) &&& 31)) = (Int32.ofNat q_) from own_shl0 _]
  refine o_istoreN X2 hx (l' := #[vr x_, vi (Int32.ofNat q_), vi (Int32.ofNat p_), vi (Int32.ofNat q_), .unset, .unset]) (D 8 rfl) rfl <| o_iloadN X2 hx (D 9 rfl) rfl <| o_iloadN X2 hx (D 10 rfl) rfl <| o_isub X2 hx (D 11 rfl) ?_
  rw [show ((Int32.ofNat q_) - (Int32.ofNat p_)) = (Int32.ofNat (q_ - p_)) from XT.sub32n (a := q_) (b := p_) (by omega)]
  refine o_istore X2 hx (l' := #[vr x_, vi (Int32.ofNat q_), vi (Int32.ofNat p_), vi (Int32.ofNat q_), vi (Int32.ofNat (q_ - p_)), .unset]) (D 12 rfl) rfl <| o_iloadN X2 hx (D 13 rfl) rfl <| o_iload X2 hx (D 14 rfl) rfl <| o_iloadN X2 hx (D 15 rfl) rfl <| o_iconst X2 hx 2 (D 16 rfl) rfl <| o_aloadN X2 hx (D 17 rfl) rfl rfl <| o_getF X2 hx hZ hown (host := "") (Or.inl (W 215 rfl)) Via.refl e2 pr2 (D 18 rfl) fun T3 X3 e3 => o_ishl X3 hx (D 19 rfl) <| o_iadd X3 hx (D 20 rfl) ?_
  show Own _ _ _ _ (T3.setTop (mkF m 29 #[vr x_, vi (Int32.ofNat q_), vi (Int32.ofNat p_), vi (Int32.ofNat q_), vi (Int32.ofNat (q_ - p_)), .unset] [(.int ((Int32.ofNat p_) + (2 : Int32))), (.int (Int32.ofNat (q_ - p_))), (.int (Int32.ofNat p_))]))
  rw [show ((Int32.ofNat p_) + (2 : Int32)) = (Int32.ofNat (p_ + 2)) from XT.add32n p_ 2]
  refine o_cS X3 hx hZ hown (rm_nln hw p_ (q_ - p_) (p_ + 2) O0 (by first | rfl | assumption | decide | omega)) (W 448 rfl) (W 449 rfl) (W 450 rfl) (W 451 rfl) (by decide) e3 hml rfl [(.int (Int32.ofNat p_)), (.int (Int32.ofNat (q_ - p_))), (.int (Int32.ofNat (p_ + 2)))] [] own_pd32 rfl rfl 0 rfl (by decide) (D 21 rfl) fun T4 L4 v4 X4 hQ4 => ?_
  obtain ⟨rfl, Nq4, q4⟩ := hQ4
  have N4 := Fr.app N0 Nq4
  refine o_istore X4 hx (l' := #[vr x_, vi (Int32.ofNat q_), vi (Int32.ofNat p_), vi (Int32.ofNat q_), vi (Int32.ofNat (q_ - p_)), vi (Int32.ofNat (p_ + (max (q_ - p_) (p_ + 2))))]) (D 22 rfl) rfl <| o_iload X4 hx (D 23 rfl) rfl <| ogo (S' := T4.setTop (mkF m 38 #[vr x_, vi (Int32.ofNat q_), vi (Int32.ofNat p_), vi (Int32.ofNat q_), vi (Int32.ofNat (q_ - p_)), vi (Int32.ofNat (p_ + (max (q_ - p_) (p_ + 2))))] [(.int (2147483647 : Int32)), (.int (Int32.ofNat (p_ + (max (q_ - p_) (p_ + 2)))))])) (X4.ldcInt hx hown (mvT hZ (W 454 rfl)) (g := (mkF m 36 #[vr x_, vi (Int32.ofNat q_), vi (Int32.ofNat p_), vi (Int32.ofNat q_), vi (Int32.ofNat (q_ - p_)), vi (Int32.ofNat (p_ + (max (q_ - p_) (p_ + 2))))] [(.int (Int32.ofNat (p_ + (max (q_ - p_) (p_ + 2)))))])) rfl (D 24 rfl)) <| o_icmpYes X4 hx 51 (D 25 rfl) (feq (show ¬ ((Int32.ofNat (p_ + (max (q_ - p_) (p_ + 2)))) = (2147483647 : Int32)) from XT.ne32 (a := (p_ + (max (q_ - p_) (p_ + 2)))) (b := 2147483647) (by omega) (by omega) (by omega))).2 rfl <| o_iload X4 hx (D 26 rfl) rfl <| o_aloadN X4 hx (D 27 rfl) rfl rfl <| o_getF X4 hx hZ hown (host := "") (Or.inl (W 215 rfl)) Via.refl q4 pr2 (D 28 rfl) fun T5 X5 e5 => o_ishr X5 hx (D 29 rfl) ?_
  rw [show ((Int32.ofNat (p_ + (max (q_ - p_) (p_ + 2)))) >>> ((0 : Int32) &&& 31)) = (Int32.ofNat (p_ + (max (q_ - p_) (p_ + 2)))) from own_shr0 _]
  exact oendI X5 hx hlk hret (D 30 rfl) (by decide) e5 ⟨rfl, N4, rfl⟩
abbrev cd69 : ByteArray := jdk_65_method_121_code
theorem D69 : own_DD cd69 [(0, .iload_n 1, 1), (1, .aload_n 0, 1), (2, .arraylength, 1), (3, .if_icmp .ne 11, 3), (14, .iload_n 1, 1), (15, .newarray .byte, 2), (17, .astore_n 2, 1), (18, .aload_n 0, 1), (19, .iconst 0, 1), (20, .aload_n 2, 1), (21, .iconst 0, 1), (22, .aload_n 0, 1), (23, .arraylength, 1), (24, .iload_n 1, 1), (25, .invokestatic 304, 3), (28, .invokestatic 150, 3), (31, .aload_n 2, 1), (32, .areturn, 1)] := own_dk (by decide +kernel)
theorem own_pn15 : plainName "java/util/Arrays" = true := by first | (simp [plainName, overriddenIn]; done) | decide +kernel
def own_Q_cof (Z : State)  (vb_ : Addr) (kv_ : ClassId) (p_ : Nat) (vs_ : List Int32) (c_ k_ : Nat) (h0 : Heap) (n0 : Nat) (v : Option Value) (h : Heap) (L : List Loc) : Prop := ∃ r_ : Addr, ∃ rk_ : ClassId, (v = some (.ref r_)) ∧ (Fr n0 L) ∧ (Keep h0 h []) ∧ (h0.size ≤ r_) ∧ (Arv Z h r_ rk_ .byte (Int32.ofNat k_) (own_vs vs_) (.int 0)) ∧ (Exa Z h r_ "[B")
abbrev yM68 : MethodName := ⟨"java/util/Arrays", "copyOf", "([BI)[B"⟩
theorem rm_cof {l : Launch} {Z : State} {a0 : Array Value} (hw : own_hw a0 Z)  {vb_ : Addr} {kv_ : ClassId} {vs_ : List Int32} (p_ c_ k_ : Nat) {h0 : Heap} {n0 : Nat} (O0 : Old Z n0 h0) (pr0 : Arv Z h0 vb_ kv_ .byte (Int32.ofNat p_) (own_vs vs_) (.int 0)) (pr1 : vs_.length = c_ ∧ c_ ≤ p_ ∧ p_ ≤ 60) (pr2 : p_ < k_ ∧ k_ ≤ 140) :
    oMet l Z yM68 jdk_65_method_121_code 3 (some (.array .byte)) [] (rmo 1 1 140 40) 1 140 #[(.ref vb_), (.int (Int32.ofNat k_))] h0 (own_Q_cof Z  vb_ kv_ p_ vs_ c_ k_ h0 n0) := by
  refine oenter (plainFor_of_name own_pn15) #[vr vb_, vi (Int32.ofNat k_), .unset] (fun _ => rfl) ?_
  intro p e s m below meth c s₁ X0 hx hZ hby hml hret hown hnm hlk e0
  have N0 := Fr.nil n0
  have D := own_hb hby D69
  have W := own_w hw
  refine o_iloadN X0 hx (D 0 rfl) rfl <| o_aloadN X0 hx (D 1 rfl) rfl rfl <| o_alen X0 hx hZ e0 pr0 (D 2 rfl) <| o_icmpYes X0 hx 14 (D 3 rfl) (feq (show ¬ ((Int32.ofNat k_) = (Int32.ofNat p_)) from XT.ne32 (a := k_) (b := p_) (by omega) (by omega) (by omega))).2 rfl <| o_iloadN X0 hx (D 4 rfl) rfl ?_
  obtain ⟨T1, _, k1, X1, rfl, E1, A1, Ex1, st1⟩ := newPE (aty := .byte) X0 hx hZ (W 24 rfl) e0 (g := (mkF m 15 #[vr vb_, vi (Int32.ofNat k_), .unset] [(.int (Int32.ofNat k_))])) rfl (D 5 rfl) rfl (show ¬ (Int32.ofNat k_) < (0 : Int32) from XT.nlt32 (a := k_) (b := 0) (by omega) (Nat.zero_le _)) (cap := 140) (by rw [XT.n32 (by omega)]; omega) (by decide) (by decide) (by decide) (ad := "[B") rfl
  obtain ⟨b1, g1⟩ : ∃ z, z = h0.size := ⟨_, rfl⟩
  rw [← g1] at A1 Ex1 st1
  have n0_b1 := own_on O0 g1
  have V1 : Arv Z T1.heap b1 k1 .byte (Int32.ofNat k_) [] (.int 0) := Arv.new A1 (show ¬ (Int32.ofNat k_) < (0 : Int32) from XT.nlt32 (a := k_) (b := 0) (by omega) (Nat.zero_le _))
  have V2 : Arv Z T1.heap b1 k1 .byte (Int32.ofNat k_) (own_vs []) (.int 0) := V1
  refine ogoF st1 <| o_astoreN X1 hx (l' := #[vr vb_, vi (Int32.ofNat k_), vr b1]) (D 6 rfl) rfl rfl <| o_aloadN X1 hx (D 7 rfl) rfl rfl <| o_iconst X1 hx 0 (D 8 rfl) rfl <| o_aloadN X1 hx (D 9 rfl) rfl rfl <| o_iconst X1 hx 0 (D 10 rfl) rfl <| o_aloadN X1 hx (D 11 rfl) rfl rfl <| o_alen X1 hx hZ rfl (pr0.ext E1) (D 12 rfl) <| o_iloadN X1 hx (D 13 rfl) rfl <| o_cS X1 hx hZ hown (rm_mnA hw p_ k_ (O0.ext E1) (by first | rfl | assumption | decide | omega)) (W 458 rfl) (W 459 rfl) (W 84 rfl) (W 460 rfl) (by decide) rfl hml rfl [(.int (Int32.ofNat p_)), (.int (Int32.ofNat k_))] [(.int (0 : Int32)), (.ref b1), (.int (0 : Int32)), (.ref vb_)] own_pd18 rfl rfl 4 rfl (by decide) (D 14 rfl) fun T3 L3 v3 X3 hQ3 => ?_
  obtain ⟨rfl, Nq3, q3⟩ := hQ3
  have N3 := Fr.app N0 Nq3
  have Vp4 := own_pad (p_ - c_) (pr0.ext E1)
  have lp4 : (vs_ ++ List.replicate (p_ - c_) (0 : Int32)).length = p_ := by simp only [List.length_append, List.length_replicate]; omega
  obtain ⟨T5, _, X5, rfl, K5, V5, Nf5, st5⟩ := own_copy X3 hx hZ hown (W 461 rfl) (W 282 rfl) (W 280 rfl) (W 281 rfl) q3 Vp4 V2 (o := 0) (q := 0) (n := p_) (na := p_) (nb := k_) rfl rfl rfl rfl rfl rfl (by rw [lp4]; omega) (by omega) (by omega) (by omega) (by omega) (g := (mkF m 28 #[vr vb_, vi (Int32.ofNat k_), vr b1] [(.int (Int32.ofNat p_)), (.int (0 : Int32)), (.ref b1), (.int (0 : Int32)), (.ref vb_)])) rfl (by rw [hml]; rfl) (rest := []) rfl (D 15 rfl) (W := 0) (by show 2 * 0 + _ ≤ _; exact Nat.le_of_eq rfl) (by decide) (by decide)
  have N5 := Nf5 n0 N3 n0_b1
  refine ogoF st5 ?_
  have Vu6 := own_unpad (c := c_) (by omega) (by omega) V5
  refine o_aloadN X5 hx (D 16 rfl) rfl rfl ?_
  exact oendR X5 hx hlk hret rfl rfl rfl (D 17 rfl) (by decide) rfl ⟨b1, k1, rfl, N5, (((Keep.refl h0 []).ext E1).trans K5 (allS (Or.inr (Nat.le_trans (Nat.le_refl _) (Nat.le_of_eq g1.symm))) all0)), (Nat.le_trans (Nat.le_refl _) (Nat.le_of_eq g1.symm)), Vu6, (Ex1.keep K5)⟩
theorem own_pd33 : parseMethodDescriptor "([BI)[B" = some ⟨[(.array .byte), .int], some (.array .byte)⟩ := by decide +kernel
def own_Q_ensG (Z : State)  (x_ vb_ : Addr) (kv_ : ClassId) (p_ : Nat) (vs_ : List Int32) (c_ q_ : Nat) (h0 : Heap) (n0 : Nat) (v : Option Value) (h : Heap) (L : List Loc) : Prop := ∃ vc_ : Addr, ∃ kx_ : ClassId, (v = none) ∧ (Fr n0 L) ∧ (Keep h0 h [x_]) ∧ (h0.size ≤ vc_) ∧ (Exa Z h x_ "java/lang/StringBuilder") ∧ (Fld Z h x_ "java/lang/AbstractStringBuilder" "value" "[B" (.ref vc_)) ∧ (Fld Z h x_ "java/lang/AbstractStringBuilder" "coder" "B" (.int (0 : Int32))) ∧ (Fld Z h x_ "java/lang/AbstractStringBuilder" "count" "I" (.int (Int32.ofNat c_))) ∧ (Arv Z h vc_ kx_ .byte (Int32.ofNat (p_ + (max (q_ - p_) (p_ + 2)))) (own_vs vs_) (.int 0)) ∧ (Exa Z h vc_ "[B")
theorem rm_ensG {l : Launch} {Z : State} {a0 : Array Value} (hw : own_hw a0 Z)  {x_ vb_ : Addr} {kv_ : ClassId} {vs_ : List Int32} (p_ c_ q_ : Nat) {h0 : Heap} {n0 : Nat} (O0 : Old Z n0 h0) (pr0 : Exa Z h0 x_ "java/lang/StringBuilder") (pr1 : Fld Z h0 x_ "java/lang/AbstractStringBuilder" "value" "[B" (.ref vb_)) (pr2 : Fld Z h0 x_ "java/lang/AbstractStringBuilder" "coder" "B" (.int (0 : Int32))) (pr3 : Fld Z h0 x_ "java/lang/AbstractStringBuilder" "count" "I" (.int (Int32.ofNat c_))) (pr4 : Arv Z h0 vb_ kv_ .byte (Int32.ofNat p_) (own_vs vs_) (.int 0)) (pr5 : Exa Z h0 vb_ "[B") (pr6 : vs_.length = c_ ∧ c_ ≤ p_ ∧ p_ ≤ 60) (pr7 : n0 ≤ x_) (pr8 : n0 ≤ vb_) (pr9 : p_ < q_ ∧ q_ ≤ 60) :
    oMet l Z yM64 jdk_68_method_9_code 3 none [] (rmo 3 1 140 55) 1 140 #[(.ref x_), (.int (Int32.ofNat q_))] h0 (own_Q_ensG Z  x_ vb_ kv_ p_ vs_ c_ q_ h0 n0) := by
  refine oenter (plainFor_of_name own_pn12) #[vr x_, vi (Int32.ofNat q_), .unset] (fun _ => rfl) ?_
  intro p e s m below meth c s₁ X0 hx hZ hby hml hret hown hnm hlk e0
  have N0 := Fr.nil n0
  have D := own_hb hby D65
  have W := own_w hw
  refine o_aloadN X0 hx (D 0 rfl) rfl rfl <| o_getF X0 hx hZ hown (host := "") (Or.inl (W 213 rfl)) Via.refl e0 pr1 (D 1 rfl) fun T1 X1 e1 => o_alen X1 hx hZ e1 pr4 (D 2 rfl) <| o_aloadN X1 hx (D 3 rfl) rfl rfl <| o_getF X1 hx hZ hown (host := "") (Or.inl (W 215 rfl)) Via.refl e1 pr2 (D 4 rfl) fun T2 X2 e2 => o_ishr X2 hx (D 5 rfl) ?_
  rw [show ((Int32.ofNat p_) >>> ((0 : Int32) &&& 31)) = (Int32.ofNat p_) from own_shr0 _]
  refine o_istoreN X2 hx (l' := #[vr x_, vi (Int32.ofNat q_), vi (Int32.ofNat p_)]) (D 6 rfl) rfl <| o_iloadN X2 hx (D 7 rfl) rfl <| o_iloadN X2 hx (D 8 rfl) rfl <| o_isub X2 hx (D 9 rfl) <| o_ifNo X2 hx (D 10 rfl) (tlt ((own_gap (by omega) (by omega)).mpr (by omega))).2.2.2 <| o_aloadN X2 hx (D 12 rfl) rfl rfl <| o_aloadN X2 hx (D 13 rfl) rfl rfl <| o_getF X2 hx hZ hown (host := "") (Or.inl (W 213 rfl)) Via.refl e2 pr1 (D 14 rfl) fun T3 X3 e3 => o_aloadN X3 hx (D 15 rfl) rfl rfl <| o_iloadN X3 hx (D 16 rfl) rfl <| o_cV X3 hx hZ hown (rm_ncp hw p_ c_ q_ O0 pr0 pr1 pr2 pr3 pr4 pr5 pr6 pr7 pr8 pr9) (W 443 rfl) (own_decl (mvT hZ (W 444 rfl)) (mvT hZ (W 447 rfl))) (notFace_of_selects (args := #[]) (mvT hZ (W 446 rfl))) (W 446 rfl) (W 444 rfl) (W 209 rfl) (W 447 rfl) (by decide) e3 pr0 hml rfl [(.int (Int32.ofNat q_))] [(.ref vb_), (.ref x_)] own_pd23 rfl rfl 2 rfl (by decide) (D 17 rfl) fun T4 L4 v4 X4 hQ4 => ?_
  obtain ⟨rfl, Nq4, q4⟩ := hQ4
  have N4 := Fr.app N0 Nq4
  refine o_aloadN X4 hx (D 18 rfl) rfl rfl <| o_getF X4 hx hZ hown (host := "") (Or.inl (W 215 rfl)) Via.refl q4 pr2 (D 19 rfl) fun T5 X5 e5 => o_ishl X5 hx (D 20 rfl) ?_
  rw [show ((Int32.ofNat (p_ + (max (q_ - p_) (p_ + 2)))) <<< ((0 : Int32) &&& 31)) = (Int32.ofNat (p_ + (max (q_ - p_) (p_ + 2)))) from own_shl0 _]
  refine o_cS X5 hx hZ hown (rm_cof hw p_ c_ (p_ + (max (q_ - p_) (p_ + 2))) O0 pr4 pr6 (by first | rfl | assumption | decide | omega)) (W 455 rfl) (W 456 rfl) (W 311 rfl) (W 457 rfl) (by decide) e5 hml rfl [(.ref vb_), (.int (Int32.ofNat (p_ + (max (q_ - p_) (p_ + 2)))))] [(.ref x_)] own_pd33 rfl rfl 1 rfl (by decide) (D 21 rfl) fun T6 L6 v6 X6 hQ6 => ?_
  obtain ⟨r_6, rk_6, rfl, Nq6, K6, p6_0, p6_1, p6_2⟩ := hQ6
  have N6 := Fr.app N4 Nq6
  have n0_r_6 := own_og O0 (Nat.le_trans (Nat.le_refl _) p6_0)
  obtain ⟨T7, _, X7, rfl, W7, st7⟩ := putF X6 hx hZ hown (host := "") (Or.inl (W 213 rfl)) Via.refl rfl (pr1.keep K6 nin0) (pr0.keep K6) (Or.inl (W 214 rfl)) (W 200 rfl) (ty := (.array .byte)) (by decide) rfl rfl (g := (mkF m 35 #[vr x_, vi (Int32.ofNat q_), vi (Int32.ofNat p_)] [(.ref r_6), (.ref x_)])) rfl rfl (D 22 rfl)
  have N7 := Fr.snoc X7 N6 pr7
  have F7 := Fld.same W7 (pr1.keep K6 nin0)
  refine ogoF st7 ?_
  have c8 := (Fld.other W7 (pr2.keep K6 nin0) (Or.inr (slot_ne (Or.inl (W 216 rfl)) (Or.inl (W 214 rfl)) (by decide) (t := .byte) (t' := (.array .byte)) (by decide) (by decide))))
  have c9 := (Fld.other W7 (pr3.keep K6 nin0) (Or.inr (slot_ne (Or.inl (W 252 rfl)) (Or.inl (W 214 rfl)) (by decide) (t := .int) (t' := (.array .byte)) (by decide) (by decide))))
  have y10 : r_6 ≠ x_ := (Nat.ne_of_gt (Nat.lt_of_lt_of_le (Nat.lt_of_lt_of_le pr0.lt (Nat.le_refl _)) p6_0))
  exact oendV X7 hx hlk hret (D 11 rfl) (by decide) rfl ⟨r_6, rk_6, rfl, N7, (((Keep.refl h0 [x_]).trans K6 all0).wr W7 (Or.inl (List.mem_of_getElem? (i := 0) rfl))), (Nat.le_trans (Nat.le_refl _) p6_0), (Exa.wr W7 (pr0.keep K6)), F7, c8, c9, (p6_1.other W7 y10), (Exa.wr W7 p6_2)⟩
theorem own_pd34 : parseMethodDescriptor "(IIILjava/util/function/BiFunction;)I" = some ⟨[.int, .int, .int, (.object "java/util/function/BiFunction")], some .int⟩ := by decide +kernel
theorem own_pd35 : parseMethodDescriptor "(Ljava/lang/String;II)V" = some ⟨[(.object "java/lang/String"), .int, .int], none⟩ := by decide +kernel
abbrev cd70 : ByteArray := jdk_68_method_27_code
theorem D70 : own_DD cd70 [(0, .aload_n 1, 1), (1, .ifnonnull 6, 3), (7, .iload_n 2, 1), (8, .iload_n 3, 1), (9, .aload_n 1, 1), (10, .invokeinterface 47 1, 5), (15, .getstatic 183, 3), (18, .invokestatic 161, 3), (21, .pop, 1), (22, .iload_n 3, 1), (23, .iload_n 2, 1), (24, .isub, 1), (25, .istore 4, 2), (27, .aload_n 0, 1), (28, .aload_n 0, 1), (29, .getfield 79, 3), (32, .iload 4, 2), (34, .iadd, 1), (35, .invokevirtual 100, 3), (38, .aload_n 1, 1), (39, .instanceof 1, 3), (42, .ifCond .eq 16, 3), (45, .aload_n 0, 1), (46, .aload_n 1, 1), (47, .checkcast 1, 3), (50, .iload_n 2, 1), (51, .iload_n 3, 1), (52, .invokevirtual 232, 3), (55, .goto 10, 3), (65, .aload_n 0, 1), (66, .areturn, 1)] := own_dk (by decide +kernel)
def own_Q_aa0 (Z : State) (z_CS : Int32) (v_FMT : Value) (s_DC : Addr) (k_DC : ClassId) (v_IO : Value) (x_ vb_ : Addr) (kv_ : ClassId) (p_ : Nat) (vs_ : List Int32) (c_ : Nat) (s_ ba_ : Addr) (kb_ : ClassId) (xs_ : List Int32) (n_ o_ e_ : Nat) (h0 : Heap) (n0 : Nat) (v : Option Value) (h : Heap) (L : List Loc) : Prop := (v = some (.ref x_)) ∧ (Fr n0 L) ∧ (Keep h0 h [x_, vb_]) ∧ (Exa Z h x_ "java/lang/StringBuilder") ∧ (Fld Z h x_ "java/lang/AbstractStringBuilder" "value" "[B" (.ref vb_)) ∧ (Fld Z h x_ "java/lang/AbstractStringBuilder" "coder" "B" (.int (0 : Int32))) ∧ (Fld Z h x_ "java/lang/AbstractStringBuilder" "count" "I" (.int (Int32.ofNat (c_ + (e_ - o_))))) ∧ (Arv Z h vb_ kv_ .byte (Int32.ofNat p_) (own_vs (vs_ ++ (xs_.drop o_).take (e_ - o_))) (.int 0)) ∧ (Exa Z h vb_ "[B") ∧ ((vs_ ++ (xs_.drop o_).take (e_ - o_)).length = (c_ + (e_ - o_)) ∧ (c_ + (e_ - o_)) ≤ p_ ∧ p_ ≤ 60)
abbrev yM69 : MethodName := ⟨"java/lang/AbstractStringBuilder", "append", "(Ljava/lang/CharSequence;II)Ljava/lang/AbstractStringBuilder;"⟩
theorem rm_aa0 {l : Launch} {Z : State} {a0 : Array Value} (hw : own_hw a0 Z) {z_CS : Int32} {v_FMT : Value} {s_DC : Addr} {k_DC : ClassId} {v_IO : Value} {x_ vb_ : Addr} {kv_ : ClassId} {vs_ : List Int32} {s_ ba_ : Addr} {kb_ : ClassId} {xs_ : List Int32} (p_ c_ n_ o_ e_ : Nat) {h0 : Heap} {n0 : Nat} (SB : own_Start Z z_CS v_FMT s_DC k_DC v_IO) (O0 : Old Z n0 h0) (pr0 : Exa Z h0 x_ "java/lang/StringBuilder") (pr1 : Fld Z h0 x_ "java/lang/AbstractStringBuilder" "value" "[B" (.ref vb_)) (pr2 : Fld Z h0 x_ "java/lang/AbstractStringBuilder" "coder" "B" (.int (0 : Int32))) (pr3 : Fld Z h0 x_ "java/lang/AbstractStringBuilder" "count" "I" (.int (Int32.ofNat c_))) (pr4 : Arv Z h0 vb_ kv_ .byte (Int32.ofNat p_) (own_vs vs_) (.int 0)) (pr5 : Exa Z h0 vb_ "[B") (pr6 : vs_.length = c_ ∧ c_ ≤ p_ ∧ p_ ≤ 60) (pr7 : n0 ≤ x_) (pr8 : n0 ≤ vb_) (pr9 : Exa Z h0 s_ "java/lang/String") (pr10 : Fld Z h0 s_ "java/lang/String" "coder" "B" (.int (0 : Int32))) (pr11 : Fld Z h0 s_ "java/lang/String" "value" "[B" (.ref ba_)) (pr12 : Arv Z h0 ba_ kb_ .byte (Int32.ofNat n_) (own_vs xs_) (.int 0)) (pr13 : xs_.length = n_ ∧ n_ ≤ 20) (pr14 : ba_ ≠ x_) (pr15 : o_ ≤ e_ ∧ e_ ≤ n_) (pr16 : c_ + (e_ - o_) ≤ p_) :
    oMet l Z yM69 jdk_68_method_27_code 5 (some (.object "java/lang/AbstractStringBuilder")) [] (rmo 2 0 0 59) 0 0 #[(.ref x_), (.ref s_), (.int (Int32.ofNat o_)), (.int (Int32.ofNat e_))] h0 (own_Q_aa0 Z z_CS v_FMT s_DC k_DC v_IO x_ vb_ kv_ p_ vs_ c_ s_ ba_ kb_ xs_ n_ o_ e_ h0 n0) := by
  refine oenter (plainFor_of_name own_pn12) #[vr x_, vr s_, vi (Int32.ofNat o_), vi (Int32.ofNat e_), .unset] (fun _ => rfl) ?_
  intro p e s m below meth c s₁ X0 hx hZ hby hml hret hown hnm hlk e0
  have N0 := Fr.nil n0
  have D := own_hb hby D70
  obtain ⟨-, -, -, -, -, -, -, -, S_IO, R_IO⟩ := (id SB)
  have W := own_w hw
  refine o_aloadN X0 hx (D 0 rfl) rfl rfl <| o_ifnonnullYes X0 hx 7 (D 1 rfl) rfl <| o_iloadN X0 hx (D 2 rfl) rfl <| o_iloadN X0 hx (D 3 rfl) rfl <| o_aloadN X0 hx (D 4 rfl) rfl rfl <| o_cF X0 hx hZ hown (rm_slen hw n_ SB O0 pr9 pr10 pr11 pr12) (W 238 rfl) (W 239 rfl) (mvT hZ (W 240 rfl)) (W 241 rfl) (W 166 rfl) (W 242 rfl) (W 243 rfl) (W 244 rfl) (W 12 rfl) (W 168 rfl) (by decide) e0 pr9 hml rfl [] [(.int (Int32.ofNat e_)), (.int (Int32.ofNat o_))] own_pd5 rfl rfl 2 rfl (by decide) (D 5 rfl) fun T1 L1 v1 X1 hQ1 => ?_
  obtain ⟨rfl, Nq1, q1⟩ := hQ1
  have N1 := Fr.app N0 Nq1
  refine o_getS X1 hx hZ hown (host := "") (Or.inl (W 245 rfl)) Via.refl q1 (Sta.ext O0.2 S_IO) (D 6 rfl) fun T2 X2 e2 => o_cS X2 hx hZ hown (rm_cft hw o_ e_ n_ v_IO O0 (by omega) R_IO (own_cat R_IO)) (W 248 rfl) (W 249 rfl) (W 246 rfl) (W 250 rfl) (by decide) e2 hml rfl [(.int (Int32.ofNat o_)), (.int (Int32.ofNat e_)), (.int (Int32.ofNat n_)), v_IO] [] own_pd34 rfl rfl 0 rfl (by decide) (D 7 rfl) fun T3 L3 v3 X3 hQ3 => ?_
  obtain ⟨rfl, Nq3, q3⟩ := hQ3
  have N3 := Fr.app N1 Nq3
  refine o_pop X3 hx (D 8 rfl) rfl <| o_iloadN X3 hx (D 9 rfl) rfl <| o_iloadN X3 hx (D 10 rfl) rfl <| o_isub X3 hx (D 11 rfl) ?_
  rw [show ((Int32.ofNat e_) - (Int32.ofNat o_)) = (Int32.ofNat (e_ - o_)) from XT.sub32n (a := e_) (b := o_) (by omega)]
  refine o_istore X3 hx (l' := #[vr x_, vr s_, vi (Int32.ofNat o_), vi (Int32.ofNat e_), vi (Int32.ofNat (e_ - o_))]) (D 12 rfl) rfl <| o_aloadN X3 hx (D 13 rfl) rfl rfl <| o_aloadN X3 hx (D 14 rfl) rfl rfl <| o_getF X3 hx hZ hown (host := "") (Or.inl (W 251 rfl)) Via.refl q3 pr3 (D 15 rfl) fun T4 X4 e4 => o_iload X4 hx (D 16 rfl) rfl <| o_iadd X4 hx (D 17 rfl) ?_
  rw [show ((Int32.ofNat c_) + (Int32.ofNat (e_ - o_))) = (Int32.ofNat (c_ + (e_ - o_))) from XT.add32n c_ (e_ - o_)]
  refine o_cV X4 hx hZ hown (rm_ens0 hw p_ c_ (c_ + (e_ - o_)) O0 pr0 pr1 pr2 pr3 pr4 pr5 pr6 pr7 pr8 (by first | rfl | assumption | decide | omega)) (W 253 rfl) (own_decl (mvT hZ (W 254 rfl)) (mvT hZ (W 257 rfl))) (notFace_of_selects (args := #[]) (mvT hZ (W 256 rfl))) (W 256 rfl) (W 254 rfl) (W 209 rfl) (W 257 rfl) (by decide) e4 pr0 hml rfl [(.int (Int32.ofNat (c_ + (e_ - o_))))] [] own_pd24 rfl rfl 0 rfl (by decide) (D 18 rfl) fun T5 L5 v5 X5 hQ5 => ?_
  obtain ⟨rfl, Nq5, q5⟩ := hQ5
  have N5 := Fr.app N3 Nq5
  refine o_aloadN X5 hx (D 19 rfl) rfl rfl ?_
  obtain ⟨T6, X6, e6, st6⟩ := instY X5 hx hZ hown (W 258 rfl) q5 (Ins.self pr9) (g := (mkF m 39 #[vr x_, vr s_, vi (Int32.ofNat o_), vi (Int32.ofNat e_), vi (Int32.ofNat (e_ - o_))] [(.ref s_)])) rfl rfl (D 20 rfl)
  refine ogoF st6 <| o_ifNo X6 hx (D 21 rfl) (feq (by decide : ¬ ((1 : Int32) = (0 : Int32)))).1 <| o_aloadN X6 hx (D 22 rfl) rfl rfl <| o_aloadN X6 hx (D 23 rfl) rfl rfl ?_
  obtain ⟨T7, X7, e7, st7⟩ := castY X6 hx hZ hown (W 258 rfl) e6 (Ins.self pr9) (g := (mkF m 47 #[vr x_, vr s_, vi (Int32.ofNat o_), vi (Int32.ofNat e_), vi (Int32.ofNat (e_ - o_))] [(.ref s_), (.ref x_)])) rfl rfl (D 24 rfl)
  refine ogoF st7 <| o_iloadN X7 hx (D 25 rfl) rfl <| o_iloadN X7 hx (D 26 rfl) rfl <| o_cV X7 hx hZ hown (rm_apc hw p_ c_ n_ o_ e_ SB O0 pr0 pr1 pr2 pr3 pr4 pr5 pr6 pr7 pr8 pr9 pr10 pr11 pr12 pr13 pr15 pr16) (W 259 rfl) (own_decl (mvT hZ (W 260 rfl)) (mvT hZ (W 263 rfl))) (notFace_of_selects (args := #[]) (mvT hZ (W 262 rfl))) (W 262 rfl) (W 260 rfl) (W 209 rfl) (W 263 rfl) (by decide) e7 pr0 hml rfl [(.ref s_), (.int (Int32.ofNat o_)), (.int (Int32.ofNat e_))] [] own_pd35 rfl rfl 0 rfl (by decide) (D 27 rfl) fun T8 L8 v8 X8 hQ8 => ?_
  obtain ⟨rfl, Nq8, K8, p8_0, p8_1, p8_2, p8_3, p8_4, p8_5, p8_6⟩ := hQ8
  have N8 := Fr.app N5 Nq8
  refine o_goto X8 hx 65 (D 28 rfl) rfl <| o_aloadN X8 hx (D 29 rfl) rfl rfl ?_
  exact oendR X8 hx hlk hret rfl rfl rfl (D 30 rfl) (by decide) rfl ⟨rfl, N8, ((Keep.refl h0 [x_, vb_]).trans K8 (allS (Or.inl (List.mem_of_getElem? (i := 0) rfl)) (allS (Or.inl (List.mem_of_getElem? (i := 1) rfl)) all0))), p8_0, p8_1, p8_2, p8_3, p8_4, p8_5, ⟨own_lnA (by omega) (n := n_) (by omega) (by omega) (by omega), by omega, by omega⟩⟩
def own_Q_aaG (Z : State) (z_CS : Int32) (v_FMT : Value) (s_DC : Addr) (k_DC : ClassId) (v_IO : Value) (x_ vb_ : Addr) (kv_ : ClassId) (p_ : Nat) (vs_ : List Int32) (c_ : Nat) (s_ ba_ : Addr) (kb_ : ClassId) (xs_ : List Int32) (n_ o_ e_ : Nat) (h0 : Heap) (n0 : Nat) (v : Option Value) (h : Heap) (L : List Loc) : Prop := ∃ vc_ : Addr, ∃ kx_ : ClassId, (v = some (.ref x_)) ∧ (Fr n0 L) ∧ (Keep h0 h [x_]) ∧ (h0.size ≤ vc_) ∧ (Exa Z h x_ "java/lang/StringBuilder") ∧ (Fld Z h x_ "java/lang/AbstractStringBuilder" "value" "[B" (.ref vc_)) ∧ (Fld Z h x_ "java/lang/AbstractStringBuilder" "coder" "B" (.int (0 : Int32))) ∧ (Fld Z h x_ "java/lang/AbstractStringBuilder" "count" "I" (.int (Int32.ofNat (c_ + (e_ - o_))))) ∧ (Arv Z h vc_ kx_ .byte (Int32.ofNat (p_ + (max ((c_ + (e_ - o_)) - p_) (p_ + 2)))) (own_vs (vs_ ++ (xs_.drop o_).take (e_ - o_))) (.int 0)) ∧ (Exa Z h vc_ "[B") ∧ ((vs_ ++ (xs_.drop o_).take (e_ - o_)).length = (c_ + (e_ - o_)) ∧ (c_ + (e_ - o_)) ≤ (p_ + (max ((c_ + (e_ - o_)) - p_) (p_ + 2))) ∧ (p_ + (max ((c_ + (e_ - o_)) - p_) (p_ + 2))) ≤ 60)
theorem rm_aaG {l : Launch} {Z : State} {a0 : Array Value} (hw : own_hw a0 Z) {z_CS : Int32} {v_FMT : Value} {s_DC : Addr} {k_DC : ClassId} {v_IO : Value} {x_ vb_ : Addr} {kv_ : ClassId} {vs_ : List Int32} {s_ ba_ : Addr} {kb_ : ClassId} {xs_ : List Int32} (p_ c_ n_ o_ e_ : Nat) {h0 : Heap} {n0 : Nat} (SB : own_Start Z z_CS v_FMT s_DC k_DC v_IO) (O0 : Old Z n0 h0) (pr0 : Exa Z h0 x_ "java/lang/StringBuilder") (pr1 : Fld Z h0 x_ "java/lang/AbstractStringBuilder" "value" "[B" (.ref vb_)) (pr2 : Fld Z h0 x_ "java/lang/AbstractStringBuilder" "coder" "B" (.int (0 : Int32))) (pr3 : Fld Z h0 x_ "java/lang/AbstractStringBuilder" "count" "I" (.int (Int32.ofNat c_))) (pr4 : Arv Z h0 vb_ kv_ .byte (Int32.ofNat p_) (own_vs vs_) (.int 0)) (pr5 : Exa Z h0 vb_ "[B") (pr6 : vs_.length = c_ ∧ c_ ≤ p_ ∧ p_ ≤ 60) (pr7 : n0 ≤ x_) (pr8 : n0 ≤ vb_) (pr9 : Exa Z h0 s_ "java/lang/String") (pr10 : Fld Z h0 s_ "java/lang/String" "coder" "B" (.int (0 : Int32))) (pr11 : Fld Z h0 s_ "java/lang/String" "value" "[B" (.ref ba_)) (pr12 : Arv Z h0 ba_ kb_ .byte (Int32.ofNat n_) (own_vs xs_) (.int 0)) (pr13 : xs_.length = n_ ∧ n_ ≤ 20) (pr14 : ba_ ≠ x_) (pr15 : o_ ≤ e_ ∧ e_ ≤ n_) (pr16 : p_ < c_ + (e_ - o_) ∧ c_ + (e_ - o_) ≤ 60 ∧ (p_ + (max ((c_ + (e_ - o_)) - p_) (p_ + 2))) ≤ 60) :
    oMet l Z yM69 jdk_68_method_27_code 5 (some (.object "java/lang/AbstractStringBuilder")) [] (rmo 4 1 140 69) 1 140 #[(.ref x_), (.ref s_), (.int (Int32.ofNat o_)), (.int (Int32.ofNat e_))] h0 (own_Q_aaG Z z_CS v_FMT s_DC k_DC v_IO x_ vb_ kv_ p_ vs_ c_ s_ ba_ kb_ xs_ n_ o_ e_ h0 n0) := by
  refine oenter (plainFor_of_name own_pn12) #[vr x_, vr s_, vi (Int32.ofNat o_), vi (Int32.ofNat e_), .unset] (fun _ => rfl) ?_
  intro p e s m below meth c s₁ X0 hx hZ hby hml hret hown hnm hlk e0
  have N0 := Fr.nil n0
  have D := own_hb hby D70
  obtain ⟨-, -, -, -, -, -, -, -, S_IO, R_IO⟩ := (id SB)
  have W := own_w hw
  refine o_aloadN X0 hx (D 0 rfl) rfl rfl <| o_ifnonnullYes X0 hx 7 (D 1 rfl) rfl <| o_iloadN X0 hx (D 2 rfl) rfl <| o_iloadN X0 hx (D 3 rfl) rfl <| o_aloadN X0 hx (D 4 rfl) rfl rfl <| o_cF X0 hx hZ hown (rm_slen hw n_ SB O0 pr9 pr10 pr11 pr12) (W 238 rfl) (W 239 rfl) (mvT hZ (W 240 rfl)) (W 241 rfl) (W 166 rfl) (W 242 rfl) (W 243 rfl) (W 244 rfl) (W 12 rfl) (W 168 rfl) (by decide) e0 pr9 hml rfl [] [(.int (Int32.ofNat e_)), (.int (Int32.ofNat o_))] own_pd5 rfl rfl 2 rfl (by decide) (D 5 rfl) fun T1 L1 v1 X1 hQ1 => ?_
  obtain ⟨rfl, Nq1, q1⟩ := hQ1
  have N1 := Fr.app N0 Nq1
  refine o_getS X1 hx hZ hown (host := "") (Or.inl (W 245 rfl)) Via.refl q1 (Sta.ext O0.2 S_IO) (D 6 rfl) fun T2 X2 e2 => o_cS X2 hx hZ hown (rm_cft hw o_ e_ n_ v_IO O0 (by omega) R_IO (own_cat R_IO)) (W 248 rfl) (W 249 rfl) (W 246 rfl) (W 250 rfl) (by decide) e2 hml rfl [(.int (Int32.ofNat o_)), (.int (Int32.ofNat e_)), (.int (Int32.ofNat n_)), v_IO] [] own_pd34 rfl rfl 0 rfl (by decide) (D 7 rfl) fun T3 L3 v3 X3 hQ3 => ?_
  obtain ⟨rfl, Nq3, q3⟩ := hQ3
  have N3 := Fr.app N1 Nq3
  refine o_pop X3 hx (D 8 rfl) rfl <| o_iloadN X3 hx (D 9 rfl) rfl <| o_iloadN X3 hx (D 10 rfl) rfl <| o_isub X3 hx (D 11 rfl) ?_
  rw [show ((Int32.ofNat e_) - (Int32.ofNat o_)) = (Int32.ofNat (e_ - o_)) from XT.sub32n (a := e_) (b := o_) (by omega)]
  refine o_istore X3 hx (l' := #[vr x_, vr s_, vi (Int32.ofNat o_), vi (Int32.ofNat e_), vi (Int32.ofNat (e_ - o_))]) (D 12 rfl) rfl <| o_aloadN X3 hx (D 13 rfl) rfl rfl <| o_aloadN X3 hx (D 14 rfl) rfl rfl <| o_getF X3 hx hZ hown (host := "") (Or.inl (W 251 rfl)) Via.refl q3 pr3 (D 15 rfl) fun T4 X4 e4 => o_iload X4 hx (D 16 rfl) rfl <| o_iadd X4 hx (D 17 rfl) ?_
  rw [show ((Int32.ofNat c_) + (Int32.ofNat (e_ - o_))) = (Int32.ofNat (c_ + (e_ - o_))) from XT.add32n c_ (e_ - o_)]
  refine o_cV X4 hx hZ hown (rm_ensG hw p_ c_ (c_ + (e_ - o_)) O0 pr0 pr1 pr2 pr3 pr4 pr5 pr6 pr7 pr8 (by omega)) (W 253 rfl) (own_decl (mvT hZ (W 254 rfl)) (mvT hZ (W 257 rfl))) (notFace_of_selects (args := #[]) (mvT hZ (W 256 rfl))) (W 256 rfl) (W 254 rfl) (W 209 rfl) (W 257 rfl) (by decide) e4 pr0 hml rfl [(.int (Int32.ofNat (c_ + (e_ - o_))))] [] own_pd24 rfl rfl 0 rfl (by decide) (D 18 rfl) fun T5 L5 v5 X5 hQ5 => ?_
  obtain ⟨vc_5, kx_5, rfl, Nq5, K5, p5_0, p5_1, p5_2, p5_3, p5_4, p5_5, p5_6⟩ := hQ5
  have N5 := Fr.app N3 Nq5
  have n0_vc_5 := own_og O0 (Nat.le_trans (Nat.le_refl _) p5_0)
  refine o_aloadN X5 hx (D 19 rfl) rfl rfl ?_
  obtain ⟨T6, X6, e6, st6⟩ := instY X5 hx hZ hown (W 258 rfl) rfl (Ins.self (pr9.keep K5)) (g := (mkF m 39 #[vr x_, vr s_, vi (Int32.ofNat o_), vi (Int32.ofNat e_), vi (Int32.ofNat (e_ - o_))] [(.ref s_)])) rfl rfl (D 20 rfl)
  refine ogoF st6 <| o_ifNo X6 hx (D 21 rfl) (feq (by decide : ¬ ((1 : Int32) = (0 : Int32)))).1 <| o_aloadN X6 hx (D 22 rfl) rfl rfl <| o_aloadN X6 hx (D 23 rfl) rfl rfl ?_
  obtain ⟨T7, X7, e7, st7⟩ := castY X6 hx hZ hown (W 258 rfl) e6 (Ins.self (pr9.keep K5)) (g := (mkF m 47 #[vr x_, vr s_, vi (Int32.ofNat o_), vi (Int32.ofNat e_), vi (Int32.ofNat (e_ - o_))] [(.ref s_), (.ref x_)])) rfl rfl (D 24 rfl)
  refine ogoF st7 <| o_iloadN X7 hx (D 25 rfl) rfl <| o_iloadN X7 hx (D 26 rfl) rfl ?_
  have c9 := (pr10.keep K5 (ninS (ne_exa (pr9.keep K5) p5_1 (by decide)) nin0))
  have c10 := (pr11.keep K5 (ninS (ne_exa (pr9.keep K5) p5_1 (by decide)) nin0))
  refine o_cV X7 hx hZ hown (rm_apc hw (p_ + (max ((c_ + (e_ - o_)) - p_) (p_ + 2))) c_ n_ o_ e_ SB (O0.keep K5 (allS pr7 all0)) p5_1 p5_2 p5_3 p5_4 p5_5 p5_6 (by omega) pr7 n0_vc_5 (pr9.keep K5) c9 c10 (pr12.keep K5 (ninS pr14 nin0)) pr13 pr15 (by first | rfl | assumption | decide | omega)) (W 259 rfl) (own_decl (mvT hZ (W 260 rfl)) (mvT hZ (W 263 rfl))) (notFace_of_selects (args := #[]) (mvT hZ (W 262 rfl))) (W 262 rfl) (W 260 rfl) (W 209 rfl) (W 263 rfl) (by decide) e7 p5_1 hml rfl [(.ref s_), (.int (Int32.ofNat o_)), (.int (Int32.ofNat e_))] [] own_pd35 rfl rfl 0 rfl (by decide) (D 27 rfl) fun T8 L8 v8 X8 hQ8 => ?_
  obtain ⟨rfl, Nq8, K8, p8_0, p8_1, p8_2, p8_3, p8_4, p8_5, p8_6⟩ := hQ8
  have N8 := Fr.app N5 Nq8
  refine o_goto X8 hx 65 (D 28 rfl) rfl <| o_aloadN X8 hx (D 29 rfl) rfl rfl ?_
  exact oendR X8 hx hlk hret rfl rfl rfl (D 30 rfl) (by decide) rfl ⟨vc_5, kx_5, rfl, N8, (((Keep.refl h0 [x_]).trans K5 (allS (Or.inl (List.mem_of_getElem? (i := 0) rfl)) all0)).trans K8 (allS (Or.inl (List.mem_of_getElem? (i := 0) rfl)) (allS (Or.inr (Nat.le_trans (Nat.le_refl _) p5_0)) all0))), (Nat.le_trans (Nat.le_refl _) p5_0), p8_0, p8_1, p8_2, p8_3, p8_4, p8_5, ⟨own_lnA (by omega) (n := n_) (by omega) (by omega) (by omega), by omega, by omega⟩⟩
theorem own_pd36 : parseMethodDescriptor "(Ljava/lang/CharSequence;II)Ljava/lang/AbstractStringBuilder;" = some ⟨[(.object "java/lang/CharSequence"), .int, .int], some (.object "java/lang/AbstractStringBuilder")⟩ := by decide +kernel
abbrev cd71 : ByteArray := jdk_67_method_10_code
theorem D71 : own_DD cd71 [(0, .aload_n 0, 1), (1, .aload_n 1, 1), (2, .iload_n 2, 1), (3, .iload_n 3, 1), (4, .invokespecial 38, 3), (7, .pop, 1), (8, .aload_n 0, 1), (9, .areturn, 1)] := own_dk (by decide +kernel)
def own_Q_sa0 (Z : State) (z_CS : Int32) (v_FMT : Value) (s_DC : Addr) (k_DC : ClassId) (v_IO : Value) (x_ vb_ : Addr) (kv_ : ClassId) (p_ : Nat) (vs_ : List Int32) (c_ : Nat) (s_ ba_ : Addr) (kb_ : ClassId) (xs_ : List Int32) (n_ o_ e_ : Nat) (h0 : Heap) (n0 : Nat) (v : Option Value) (h : Heap) (L : List Loc) : Prop := (v = some (.ref x_)) ∧ (Fr n0 L) ∧ (Keep h0 h [x_, vb_]) ∧ (Exa Z h x_ "java/lang/StringBuilder") ∧ (Fld Z h x_ "java/lang/AbstractStringBuilder" "value" "[B" (.ref vb_)) ∧ (Fld Z h x_ "java/lang/AbstractStringBuilder" "coder" "B" (.int (0 : Int32))) ∧ (Fld Z h x_ "java/lang/AbstractStringBuilder" "count" "I" (.int (Int32.ofNat (c_ + (e_ - o_))))) ∧ (Arv Z h vb_ kv_ .byte (Int32.ofNat p_) (own_vs (vs_ ++ (xs_.drop o_).take (e_ - o_))) (.int 0)) ∧ (Exa Z h vb_ "[B") ∧ ((vs_ ++ (xs_.drop o_).take (e_ - o_)).length = (c_ + (e_ - o_)) ∧ (c_ + (e_ - o_)) ≤ p_ ∧ p_ ≤ 60)
abbrev yM70 : MethodName := ⟨"java/lang/StringBuilder", "append", "(Ljava/lang/CharSequence;II)Ljava/lang/StringBuilder;"⟩
theorem rm_sa0 {l : Launch} {Z : State} {a0 : Array Value} (hw : own_hw a0 Z) {z_CS : Int32} {v_FMT : Value} {s_DC : Addr} {k_DC : ClassId} {v_IO : Value} {x_ vb_ : Addr} {kv_ : ClassId} {vs_ : List Int32} {s_ ba_ : Addr} {kb_ : ClassId} {xs_ : List Int32} (p_ c_ n_ o_ e_ : Nat) {h0 : Heap} {n0 : Nat} (SB : own_Start Z z_CS v_FMT s_DC k_DC v_IO) (O0 : Old Z n0 h0) (pr0 : Exa Z h0 x_ "java/lang/StringBuilder") (pr1 : Fld Z h0 x_ "java/lang/AbstractStringBuilder" "value" "[B" (.ref vb_)) (pr2 : Fld Z h0 x_ "java/lang/AbstractStringBuilder" "coder" "B" (.int (0 : Int32))) (pr3 : Fld Z h0 x_ "java/lang/AbstractStringBuilder" "count" "I" (.int (Int32.ofNat c_))) (pr4 : Arv Z h0 vb_ kv_ .byte (Int32.ofNat p_) (own_vs vs_) (.int 0)) (pr5 : Exa Z h0 vb_ "[B") (pr6 : vs_.length = c_ ∧ c_ ≤ p_ ∧ p_ ≤ 60) (pr7 : n0 ≤ x_) (pr8 : n0 ≤ vb_) (pr9 : Exa Z h0 s_ "java/lang/String") (pr10 : Fld Z h0 s_ "java/lang/String" "coder" "B" (.int (0 : Int32))) (pr11 : Fld Z h0 s_ "java/lang/String" "value" "[B" (.ref ba_)) (pr12 : Arv Z h0 ba_ kb_ .byte (Int32.ofNat n_) (own_vs xs_) (.int 0)) (pr13 : xs_.length = n_ ∧ n_ ≤ 20) (pr14 : ba_ ≠ x_) (pr15 : o_ ≤ e_ ∧ e_ ≤ n_) (pr16 : c_ + (e_ - o_) ≤ p_) :
    oMet l Z yM70 jdk_67_method_10_code 4 (some (.object "java/lang/StringBuilder")) [] (rmo 3 0 0 75) 0 0 #[(.ref x_), (.ref s_), (.int (Int32.ofNat o_)), (.int (Int32.ofNat e_))] h0 (own_Q_sa0 Z z_CS v_FMT s_DC k_DC v_IO x_ vb_ kv_ p_ vs_ c_ s_ ba_ kb_ xs_ n_ o_ e_ h0 n0) := by
  refine oenter (plainFor_of_name own_pn13) #[vr x_, vr s_, vi (Int32.ofNat o_), vi (Int32.ofNat e_)] (fun _ => rfl) ?_
  intro p e s m below meth c s₁ X0 hx hZ hby hml hret hown hnm hlk e0
  have N0 := Fr.nil n0
  have D := own_hb hby D71
  have W := own_w hw
  refine o_aloadN X0 hx (D 0 rfl) rfl rfl <| o_aloadN X0 hx (D 1 rfl) rfl rfl <| o_iloadN X0 hx (D 2 rfl) rfl <| o_iloadN X0 hx (D 3 rfl) rfl <| o_cU X0 hx hZ hown (rm_aa0 hw p_ c_ n_ o_ e_ SB O0 pr0 pr1 pr2 pr3 pr4 pr5 pr6 pr7 pr8 pr9 pr10 pr11 pr12 pr13 pr14 pr15 pr16) (W 233 rfl) (own_same (W 234 rfl) (W 267 rfl) rfl (by decide)) (W 234 rfl) (W 235 rfl) (W 209 rfl) (W 237 rfl) (by decide) e0 pr0 hml rfl [(.ref s_), (.int (Int32.ofNat o_)), (.int (Int32.ofNat e_))] [] own_pd36 rfl rfl 0 rfl (by decide) (D 4 rfl) fun T1 L1 v1 X1 hQ1 => ?_
  obtain ⟨rfl, Nq1, K1, p1_0, p1_1, p1_2, p1_3, p1_4, p1_5, p1_6⟩ := hQ1
  have N1 := Fr.app N0 Nq1
  refine o_pop X1 hx (D 5 rfl) rfl <| o_aloadN X1 hx (D 6 rfl) rfl rfl ?_
  exact oendR X1 hx hlk hret rfl rfl rfl (D 7 rfl) (by decide) rfl ⟨rfl, N1, ((Keep.refl h0 [x_, vb_]).trans K1 (allS (Or.inl (List.mem_of_getElem? (i := 0) rfl)) (allS (Or.inl (List.mem_of_getElem? (i := 1) rfl)) all0))), p1_0, p1_1, p1_2, p1_3, p1_4, p1_5, ⟨own_lnA (by omega) (n := n_) (by omega) (by omega) (by omega), by omega, by omega⟩⟩
def own_Q_saG (Z : State) (z_CS : Int32) (v_FMT : Value) (s_DC : Addr) (k_DC : ClassId) (v_IO : Value) (x_ vb_ : Addr) (kv_ : ClassId) (p_ : Nat) (vs_ : List Int32) (c_ : Nat) (s_ ba_ : Addr) (kb_ : ClassId) (xs_ : List Int32) (n_ o_ e_ : Nat) (h0 : Heap) (n0 : Nat) (v : Option Value) (h : Heap) (L : List Loc) : Prop := ∃ vc_ : Addr, ∃ kx_ : ClassId, (v = some (.ref x_)) ∧ (Fr n0 L) ∧ (Keep h0 h [x_]) ∧ (h0.size ≤ vc_) ∧ (Exa Z h x_ "java/lang/StringBuilder") ∧ (Fld Z h x_ "java/lang/AbstractStringBuilder" "value" "[B" (.ref vc_)) ∧ (Fld Z h x_ "java/lang/AbstractStringBuilder" "coder" "B" (.int (0 : Int32))) ∧ (Fld Z h x_ "java/lang/AbstractStringBuilder" "count" "I" (.int (Int32.ofNat (c_ + (e_ - o_))))) ∧ (Arv Z h vc_ kx_ .byte (Int32.ofNat (p_ + (max ((c_ + (e_ - o_)) - p_) (p_ + 2)))) (own_vs (vs_ ++ (xs_.drop o_).take (e_ - o_))) (.int 0)) ∧ (Exa Z h vc_ "[B") ∧ ((vs_ ++ (xs_.drop o_).take (e_ - o_)).length = (c_ + (e_ - o_)) ∧ (c_ + (e_ - o_)) ≤ (p_ + (max ((c_ + (e_ - o_)) - p_) (p_ + 2))) ∧ (p_ + (max ((c_ + (e_ - o_)) - p_) (p_ + 2))) ≤ 60)
theorem rm_saG {l : Launch} {Z : State} {a0 : Array Value} (hw : own_hw a0 Z) {z_CS : Int32} {v_FMT : Value} {s_DC : Addr} {k_DC : ClassId} {v_IO : Value} {x_ vb_ : Addr} {kv_ : ClassId} {vs_ : List Int32} {s_ ba_ : Addr} {kb_ : ClassId} {xs_ : List Int32} (p_ c_ n_ o_ e_ : Nat) {h0 : Heap} {n0 : Nat} (SB : own_Start Z z_CS v_FMT s_DC k_DC v_IO) (O0 : Old Z n0 h0) (pr0 : Exa Z h0 x_ "java/lang/StringBuilder") (pr1 : Fld Z h0 x_ "java/lang/AbstractStringBuilder" "value" "[B" (.ref vb_)) (pr2 : Fld Z h0 x_ "java/lang/AbstractStringBuilder" "coder" "B" (.int (0 : Int32))) (pr3 : Fld Z h0 x_ "java/lang/AbstractStringBuilder" "count" "I" (.int (Int32.ofNat c_))) (pr4 : Arv Z h0 vb_ kv_ .byte (Int32.ofNat p_) (own_vs vs_) (.int 0)) (pr5 : Exa Z h0 vb_ "[B") (pr6 : vs_.length = c_ ∧ c_ ≤ p_ ∧ p_ ≤ 60) (pr7 : n0 ≤ x_) (pr8 : n0 ≤ vb_) (pr9 : Exa Z h0 s_ "java/lang/String") (pr10 : Fld Z h0 s_ "java/lang/String" "coder" "B" (.int (0 : Int32))) (pr11 : Fld Z h0 s_ "java/lang/String" "value" "[B" (.ref ba_)) (pr12 : Arv Z h0 ba_ kb_ .byte (Int32.ofNat n_) (own_vs xs_) (.int 0)) (pr13 : xs_.length = n_ ∧ n_ ≤ 20) (pr14 : ba_ ≠ x_) (pr15 : o_ ≤ e_ ∧ e_ ≤ n_) (pr16 : p_ < c_ + (e_ - o_) ∧ c_ + (e_ - o_) ≤ 60 ∧ (p_ + (max ((c_ + (e_ - o_)) - p_) (p_ + 2))) ≤ 60) :
    oMet l Z yM70 jdk_67_method_10_code 4 (some (.object "java/lang/StringBuilder")) [] (rmo 5 1 140 85) 1 140 #[(.ref x_), (.ref s_), (.int (Int32.ofNat o_)), (.int (Int32.ofNat e_))] h0 (own_Q_saG Z z_CS v_FMT s_DC k_DC v_IO x_ vb_ kv_ p_ vs_ c_ s_ ba_ kb_ xs_ n_ o_ e_ h0 n0) := by
  refine oenter (plainFor_of_name own_pn13) #[vr x_, vr s_, vi (Int32.ofNat o_), vi (Int32.ofNat e_)] (fun _ => rfl) ?_
  intro p e s m below meth c s₁ X0 hx hZ hby hml hret hown hnm hlk e0
  have N0 := Fr.nil n0
  have D := own_hb hby D71
  have W := own_w hw
  refine o_aloadN X0 hx (D 0 rfl) rfl rfl <| o_aloadN X0 hx (D 1 rfl) rfl rfl <| o_iloadN X0 hx (D 2 rfl) rfl <| o_iloadN X0 hx (D 3 rfl) rfl <| o_cU X0 hx hZ hown (rm_aaG hw p_ c_ n_ o_ e_ SB O0 pr0 pr1 pr2 pr3 pr4 pr5 pr6 pr7 pr8 pr9 pr10 pr11 pr12 pr13 pr14 pr15 pr16) (W 233 rfl) (own_same (W 234 rfl) (W 267 rfl) rfl (by decide)) (W 234 rfl) (W 235 rfl) (W 209 rfl) (W 237 rfl) (by decide) e0 pr0 hml rfl [(.ref s_), (.int (Int32.ofNat o_)), (.int (Int32.ofNat e_))] [] own_pd36 rfl rfl 0 rfl (by decide) (D 4 rfl) fun T1 L1 v1 X1 hQ1 => ?_
  obtain ⟨vc_1, kx_1, rfl, Nq1, K1, p1_0, p1_1, p1_2, p1_3, p1_4, p1_5, p1_6, p1_7⟩ := hQ1
  have N1 := Fr.app N0 Nq1
  have n0_vc_1 := own_og O0 (Nat.le_trans (Nat.le_refl _) p1_0)
  refine o_pop X1 hx (D 5 rfl) rfl <| o_aloadN X1 hx (D 6 rfl) rfl rfl ?_
  exact oendR X1 hx hlk hret rfl rfl rfl (D 7 rfl) (by decide) rfl ⟨vc_1, kx_1, rfl, N1, ((Keep.refl h0 [x_]).trans K1 (allS (Or.inl (List.mem_of_getElem? (i := 0) rfl)) all0)), (Nat.le_trans (Nat.le_refl _) p1_0), p1_1, p1_2, p1_3, p1_4, p1_5, p1_6, ⟨own_lnA (by omega) (n := n_) (by omega) (by omega) (by omega), by omega, by omega⟩⟩
abbrev cd72 : ByteArray := jdk_68_method_71_code
theorem D72 : own_DD cd72 [(0, .getstatic 18, 3), (3, .ifCond .eq 18, 3), (6, .aload_n 0, 1), (7, .getfield 22, 3), (10, .aload_n 1, 1), (11, .invokevirtual 40, 3), (14, .if_icmp .eq 7, 3), (21, .return_, 1)] := own_dk (by decide +kernel)
def own_Q_inf (Z : State) (z_CS : Int32) (v_FMT : Value) (s_DC : Addr) (k_DC : ClassId) (v_IO : Value) (x_ s_ : Addr) (h0 : Heap) (n0 : Nat) (v : Option Value) (h : Heap) (L : List Loc) : Prop := (v = none) ∧ (Fr n0 L) ∧ (h = h0)
abbrev yM71 : MethodName := ⟨"java/lang/AbstractStringBuilder", "inflateIfNeededFor", "(Ljava/lang/String;)V"⟩
theorem rm_inf {l : Launch} {Z : State} {a0 : Array Value} (hw : own_hw a0 Z) {z_CS : Int32} {v_FMT : Value} {s_DC : Addr} {k_DC : ClassId} {v_IO : Value} {x_ s_ : Addr}  {h0 : Heap} {n0 : Nat} (SB : own_Start Z z_CS v_FMT s_DC k_DC v_IO) (O0 : Old Z n0 h0) (pr0 : Exa Z h0 x_ "java/lang/StringBuilder") (pr1 : Fld Z h0 x_ "java/lang/AbstractStringBuilder" "coder" "B" (.int (0 : Int32))) (pr2 : Exa Z h0 s_ "java/lang/String") (pr3 : Fld Z h0 s_ "java/lang/String" "coder" "B" (.int (0 : Int32))) :
    oMet l Z yM71 jdk_68_method_71_code 2 none [] (rmo 1 0 0 13) 0 0 #[(.ref x_), (.ref s_)] h0 (own_Q_inf Z z_CS v_FMT s_DC k_DC v_IO x_ s_ h0 n0) := by
  refine oenter (plainFor_of_name own_pn12) #[vr x_, vr s_] (fun _ => rfl) ?_
  intro p e s m below meth c s₁ X0 hx hZ hby hml hret hown hnm hlk e0
  have N0 := Fr.nil n0
  have D := own_hb hby D72
  obtain ⟨S_CS, H_CS, -⟩ := (id SB)
  have W := own_w hw
  refine o_getS X0 hx hZ hown (host := "") (Or.inl (W 212 rfl)) Via.refl e0 (Sta.ext O0.2 S_CS) (D 0 rfl) fun T1 X1 e1 => o_ifNo X1 hx (D 1 rfl) (feq H_CS).1 <| o_aloadN X1 hx (D 2 rfl) rfl rfl <| o_getF X1 hx hZ hown (host := "") (Or.inl (W 215 rfl)) Via.refl e1 pr1 (D 3 rfl) fun T2 X2 e2 => o_aloadN X2 hx (D 4 rfl) rfl rfl <| o_cv X2 hx hZ hown (rm_coder hw  SB O0 pr3) (W 472 rfl) (W 170 rfl) (W 172 rfl) (W 171 rfl) (W 12 rfl) (W 173 rfl) (by decide) e2 pr2 hml rfl [] [(.int (0 : Int32))] own_pd0 rfl rfl 1 rfl (by decide) (D 5 rfl) fun T3 L3 v3 X3 hQ3 => ?_
  obtain ⟨rfl, Nq3, q3⟩ := hQ3
  have N3 := Fr.app N0 Nq3
  refine o_icmpYes X3 hx 21 (D 6 rfl) (teq (by decide : (0 : Int32) = (0 : Int32))).1 rfl ?_
  exact oendV X3 hx hlk hret (D 7 rfl) (by decide) q3 ⟨rfl, N3, rfl⟩
abbrev cd73 : ByteArray := jdk_42_method_147_code
theorem D73 : own_DD cd73 [(0, .aload_n 0, 1), (1, .invokevirtual 335, 3), (4, .iload_n 3, 1), (5, .if_icmp .ne 23, 3), (8, .aload_n 0, 1), (9, .getfield 9, 3), (12, .iconst 0, 1), (13, .aload_n 1, 1), (14, .iload_n 2, 1), (15, .iload_n 3, 1), (16, .ishl, 1), (17, .aload_n 0, 1), (18, .getfield 9, 3), (21, .arraylength, 1), (22, .invokestatic 212, 3), (25, .goto 18, 3), (43, .return_, 1)] := own_dk (by decide +kernel)
def own_Q_gby (Z : State) (z_CS : Int32) (v_FMT : Value) (s_DC : Addr) (k_DC : ClassId) (v_IO : Value) (s_ ba_ : Addr) (kb_ : ClassId) (xs_ : List Int32) (n_ : Nat) (vb_ : Addr) (kv_ : ClassId) (p_ : Nat) (vs_ : List Int32) (c_ : Nat) (h0 : Heap) (n0 : Nat) (v : Option Value) (h : Heap) (L : List Loc) : Prop := (v = none) ∧ (Fr n0 L) ∧ (Keep h0 h [vb_]) ∧ (Arv Z h vb_ kv_ .byte (Int32.ofNat p_) (own_vs (vs_ ++ (xs_.drop 0).take n_)) (.int 0)) ∧ (Exa Z h vb_ "[B")
abbrev yM72 : MethodName := ⟨"java/lang/String", "getBytes", "([BIB)V"⟩
theorem rm_gby {l : Launch} {Z : State} {a0 : Array Value} (hw : own_hw a0 Z) {z_CS : Int32} {v_FMT : Value} {s_DC : Addr} {k_DC : ClassId} {v_IO : Value} {s_ ba_ : Addr} {kb_ : ClassId} {xs_ : List Int32} {vb_ : Addr} {kv_ : ClassId} {vs_ : List Int32} (n_ p_ c_ : Nat) {h0 : Heap} {n0 : Nat} (SB : own_Start Z z_CS v_FMT s_DC k_DC v_IO) (O0 : Old Z n0 h0) (pr0 : Exa Z h0 s_ "java/lang/String") (pr1 : Fld Z h0 s_ "java/lang/String" "coder" "B" (.int (0 : Int32))) (pr2 : Fld Z h0 s_ "java/lang/String" "value" "[B" (.ref ba_)) (pr3 : Arv Z h0 ba_ kb_ .byte (Int32.ofNat n_) (own_vs xs_) (.int 0)) (pr4 : xs_.length = n_ ∧ n_ ≤ 20) (pr5 : Arv Z h0 vb_ kv_ .byte (Int32.ofNat p_) (own_vs vs_) (.int 0)) (pr6 : Exa Z h0 vb_ "[B") (pr7 : vs_.length = c_ ∧ c_ ≤ p_ ∧ p_ ≤ 60) (pr8 : n0 ≤ vb_) (pr9 : c_ + n_ ≤ p_) :
    oMet l Z yM72 jdk_42_method_147_code 4 none [] (rmo 1 0 0 40) 0 0 #[(.ref s_), (.ref vb_), (.int (Int32.ofNat c_)), (.int (0 : Int32))] h0 (own_Q_gby Z z_CS v_FMT s_DC k_DC v_IO s_ ba_ kb_ xs_ n_ vb_ kv_ p_ vs_ c_ h0 n0) := by
  refine oenter (plainFor_of_name own_pn0) #[vr s_, vr vb_, vi (Int32.ofNat c_), vi (0 : Int32)] (fun _ => rfl) ?_
  intro p e s m below meth c s₁ X0 hx hZ hby hml hret hown hnm hlk e0
  have N0 := Fr.nil n0
  have D := own_hb hby D73
  have W := own_w hw
  refine o_aloadN X0 hx (D 0 rfl) rfl rfl <| o_cv X0 hx hZ hown (rm_coder hw  SB O0 pr1) (W 169 rfl) (W 170 rfl) (W 172 rfl) (W 171 rfl) (W 12 rfl) (W 173 rfl) (by decide) e0 pr0 hml rfl [] [] own_pd0 rfl rfl 0 rfl (by decide) (D 1 rfl) fun T1 L1 v1 X1 hQ1 => ?_
  obtain ⟨rfl, Nq1, q1⟩ := hQ1
  have N1 := Fr.app N0 Nq1
  refine o_iloadN X1 hx (D 2 rfl) rfl <| o_icmpNo X1 hx (D 3 rfl) (teq (by decide : (0 : Int32) = (0 : Int32))).2 <| o_aloadN X1 hx (D 4 rfl) rfl rfl <| o_getF X1 hx hZ hown (host := "") (Or.inl (W 29 rfl)) Via.refl q1 pr2 (D 5 rfl) fun T2 X2 e2 => o_iconst X2 hx 0 (D 6 rfl) rfl <| o_aloadN X2 hx (D 7 rfl) rfl rfl <| o_iloadN X2 hx (D 8 rfl) rfl <| o_iloadN X2 hx (D 9 rfl) rfl <| o_ishl X2 hx (D 10 rfl) ?_
  rw [show ((Int32.ofNat c_) <<< ((0 : Int32) &&& 31)) = (Int32.ofNat c_) from own_shl0 _]
  refine o_aloadN X2 hx (D 11 rfl) rfl rfl <| o_getF X2 hx hZ hown (host := "") (Or.inl (W 29 rfl)) Via.refl e2 pr2 (D 12 rfl) fun T3 X3 e3 => o_alen X3 hx hZ e3 pr3 (D 13 rfl) ?_
  obtain ⟨T4, _, X4, rfl, K4, V4, Nf4, st4⟩ := own_copy X3 hx hZ hown (W 478 rfl) (W 282 rfl) (W 280 rfl) (W 281 rfl) e3 pr3 pr5 (o := 0) (q := c_) (n := n_) (na := n_) (nb := p_) rfl rfl rfl rfl rfl (by omega) (by omega) (by omega) (by omega) (by omega) (by omega) (g := (mkF m 22 #[vr s_, vr vb_, vi (Int32.ofNat c_), vi (0 : Int32)] [(.int (Int32.ofNat n_)), (.int (Int32.ofNat c_)), (.ref vb_), (.int (0 : Int32)), (.ref ba_)])) rfl (by rw [hml]; rfl) (rest := []) rfl (D 14 rfl) (W := 0) (by show 2 * 0 + _ ≤ _; exact Nat.le_of_eq rfl) (by decide) (by decide)
  have N4 := Nf4 n0 N1 pr8
  refine ogoF st4 <| o_goto X4 hx 43 (D 15 rfl) rfl ?_
  exact oendV X4 hx hlk hret (D 16 rfl) (by decide) rfl ⟨rfl, N4, ((Keep.refl h0 [vb_]).trans K4 (allS (Or.inl (List.mem_of_getElem? (i := 0) rfl)) all0)), V4, (pr6.keep K4)⟩
theorem own_pd37 : parseMethodDescriptor "(Ljava/lang/String;)V" = some ⟨[(.object "java/lang/String")], none⟩ := by decide +kernel
theorem own_pd38 : parseMethodDescriptor "([BIB)V" = some ⟨[(.array .byte), .int, .byte], none⟩ := by decide +kernel
abbrev cd74 : ByteArray := jdk_68_method_73_code
theorem D74 : own_DD cd74 [(0, .aload_n 0, 1), (1, .aload_n 2, 1), (2, .invokevirtual 397, 3), (5, .aload_n 2, 1), (6, .aload_n 0, 1), (7, .getfield 15, 3), (10, .iload_n 1, 1), (11, .aload_n 0, 1), (12, .getfield 22, 3), (15, .invokevirtual 399, 3), (18, .return_, 1)] := own_dk (by decide +kernel)
def own_Q_psa (Z : State) (z_CS : Int32) (v_FMT : Value) (s_DC : Addr) (k_DC : ClassId) (v_IO : Value) (x_ vb_ : Addr) (kv_ : ClassId) (p_ : Nat) (vs_ : List Int32) (c_ : Nat) (s_ ba_ : Addr) (kb_ : ClassId) (xs_ : List Int32) (n_ : Nat) (h0 : Heap) (n0 : Nat) (v : Option Value) (h : Heap) (L : List Loc) : Prop := (v = none) ∧ (Fr n0 L) ∧ (Keep h0 h [vb_]) ∧ (Arv Z h vb_ kv_ .byte (Int32.ofNat p_) (own_vs (vs_ ++ (xs_.drop 0).take n_)) (.int 0)) ∧ (Exa Z h vb_ "[B")
abbrev yM73 : MethodName := ⟨"java/lang/AbstractStringBuilder", "putStringAt", "(ILjava/lang/String;)V"⟩
theorem rm_psa {l : Launch} {Z : State} {a0 : Array Value} (hw : own_hw a0 Z) {z_CS : Int32} {v_FMT : Value} {s_DC : Addr} {k_DC : ClassId} {v_IO : Value} {x_ vb_ : Addr} {kv_ : ClassId} {vs_ : List Int32} {s_ ba_ : Addr} {kb_ : ClassId} {xs_ : List Int32} (p_ c_ n_ : Nat) {h0 : Heap} {n0 : Nat} (SB : own_Start Z z_CS v_FMT s_DC k_DC v_IO) (O0 : Old Z n0 h0) (pr0 : Exa Z h0 x_ "java/lang/StringBuilder") (pr1 : Fld Z h0 x_ "java/lang/AbstractStringBuilder" "value" "[B" (.ref vb_)) (pr2 : Fld Z h0 x_ "java/lang/AbstractStringBuilder" "coder" "B" (.int (0 : Int32))) (pr3 : Fld Z h0 x_ "java/lang/AbstractStringBuilder" "count" "I" (.int (Int32.ofNat c_))) (pr4 : Arv Z h0 vb_ kv_ .byte (Int32.ofNat p_) (own_vs vs_) (.int 0)) (pr5 : Exa Z h0 vb_ "[B") (pr6 : vs_.length = c_ ∧ c_ ≤ p_ ∧ p_ ≤ 60) (pr7 : n0 ≤ x_) (pr8 : n0 ≤ vb_) (pr9 : Exa Z h0 s_ "java/lang/String") (pr10 : Fld Z h0 s_ "java/lang/String" "coder" "B" (.int (0 : Int32))) (pr11 : Fld Z h0 s_ "java/lang/String" "value" "[B" (.ref ba_)) (pr12 : Arv Z h0 ba_ kb_ .byte (Int32.ofNat n_) (own_vs xs_) (.int 0)) (pr13 : xs_.length = n_ ∧ n_ ≤ 20) (pr14 : c_ + n_ ≤ p_) :
    oMet l Z yM73 jdk_68_method_73_code 3 none [] (rmo 2 0 0 55) 0 0 #[(.ref x_), (.int (Int32.ofNat c_)), (.ref s_)] h0 (own_Q_psa Z z_CS v_FMT s_DC k_DC v_IO x_ vb_ kv_ p_ vs_ c_ s_ ba_ kb_ xs_ n_ h0 n0) := by
  refine oenter (plainFor_of_name own_pn12) #[vr x_, vi (Int32.ofNat c_), vr s_] (fun _ => rfl) ?_
  intro p e s m below meth c s₁ X0 hx hZ hby hml hret hown hnm hlk e0
  have N0 := Fr.nil n0
  have D := own_hb hby D74
  have W := own_w hw
  refine o_aloadN X0 hx (D 0 rfl) rfl rfl <| o_aloadN X0 hx (D 1 rfl) rfl rfl <| o_cV X0 hx hZ hown (rm_inf hw  SB O0 pr0 pr2 pr9 pr10) (W 467 rfl) (own_decl (mvT hZ (W 468 rfl)) (mvT hZ (W 471 rfl))) (notFace_of_selects (args := #[]) (mvT hZ (W 470 rfl))) (W 470 rfl) (W 468 rfl) (W 209 rfl) (W 471 rfl) (by decide) e0 pr0 hml rfl [(.ref s_)] [] own_pd37 rfl rfl 0 rfl (by decide) (D 2 rfl) fun T1 L1 v1 X1 hQ1 => ?_
  obtain ⟨rfl, Nq1, q1⟩ := hQ1
  have N1 := Fr.app N0 Nq1
  refine o_aloadN X1 hx (D 3 rfl) rfl rfl <| o_aloadN X1 hx (D 4 rfl) rfl rfl <| o_getF X1 hx hZ hown (host := "") (Or.inl (W 213 rfl)) Via.refl q1 pr1 (D 5 rfl) fun T2 X2 e2 => o_iloadN X2 hx (D 6 rfl) rfl <| o_aloadN X2 hx (D 7 rfl) rfl rfl <| o_getF X2 hx hZ hown (host := "") (Or.inl (W 215 rfl)) Via.refl e2 pr2 (D 8 rfl) fun T3 X3 e3 => o_cv X3 hx hZ hown (rm_gby hw n_ p_ c_ SB O0 pr9 pr10 pr11 pr12 pr13 pr4 pr5 pr6 pr8 pr14) (W 473 rfl) (W 474 rfl) (W 476 rfl) (W 475 rfl) (W 12 rfl) (W 477 rfl) (by decide) e3 pr9 hml rfl [(.ref vb_), (.int (Int32.ofNat c_)), (.int (0 : Int32))] [] own_pd38 rfl rfl 0 rfl (by decide) (D 9 rfl) fun T4 L4 v4 X4 hQ4 => ?_
  obtain ⟨rfl, Nq4, K4, p4_0, p4_1⟩ := hQ4
  have N4 := Fr.app N1 Nq4
  exact oendV X4 hx hlk hret (D 10 rfl) (by decide) rfl ⟨rfl, N4, ((Keep.refl h0 [vb_]).trans K4 (allS (Or.inl (List.mem_of_getElem? (i := 0) rfl)) all0)), p4_0, p4_1⟩
theorem own_pd39 : parseMethodDescriptor "(ILjava/lang/String;)V" = some ⟨[.int, (.object "java/lang/String")], none⟩ := by decide +kernel
abbrev cd75 : ByteArray := jdk_68_method_22_code
theorem D75 : own_DD cd75 [(0, .aload_n 1, 1), (1, .ifnonnull 8, 3), (9, .aload_n 1, 1), (10, .invokevirtual 32, 3), (13, .istore_n 2, 1), (14, .aload_n 0, 1), (15, .aload_n 0, 1), (16, .getfield 79, 3), (19, .iload_n 2, 1), (20, .iadd, 1), (21, .invokevirtual 100, 3), (24, .aload_n 0, 1), (25, .aload_n 0, 1), (26, .getfield 79, 3), (29, .aload_n 1, 1), (30, .invokevirtual 208, 3), (33, .aload_n 0, 1), (34, .dup, 1), (35, .getfield 79, 3), (38, .iload_n 2, 1), (39, .iadd, 1), (40, .putfield 79, 3), (43, .aload_n 0, 1), (44, .areturn, 1)] := own_dk (by decide +kernel)
def own_Q_as0 (Z : State) (z_CS : Int32) (v_FMT : Value) (s_DC : Addr) (k_DC : ClassId) (v_IO : Value) (x_ vb_ : Addr) (kv_ : ClassId) (p_ : Nat) (vs_ : List Int32) (c_ : Nat) (s_ ba_ : Addr) (kb_ : ClassId) (xs_ : List Int32) (n_ : Nat) (h0 : Heap) (n0 : Nat) (v : Option Value) (h : Heap) (L : List Loc) : Prop := (v = some (.ref x_)) ∧ (Fr n0 L) ∧ (Keep h0 h [x_, vb_]) ∧ (Exa Z h x_ "java/lang/StringBuilder") ∧ (Fld Z h x_ "java/lang/AbstractStringBuilder" "value" "[B" (.ref vb_)) ∧ (Fld Z h x_ "java/lang/AbstractStringBuilder" "coder" "B" (.int (0 : Int32))) ∧ (Fld Z h x_ "java/lang/AbstractStringBuilder" "count" "I" (.int (Int32.ofNat (c_ + n_)))) ∧ (Arv Z h vb_ kv_ .byte (Int32.ofNat p_) (own_vs (vs_ ++ (xs_.drop 0).take n_)) (.int 0)) ∧ (Exa Z h vb_ "[B") ∧ ((vs_ ++ (xs_.drop 0).take n_).length = (c_ + n_) ∧ (c_ + n_) ≤ p_ ∧ p_ ≤ 60)
abbrev yM74 : MethodName := ⟨"java/lang/AbstractStringBuilder", "append", "(Ljava/lang/String;)Ljava/lang/AbstractStringBuilder;"⟩
theorem rm_as0 {l : Launch} {Z : State} {a0 : Array Value} (hw : own_hw a0 Z) {z_CS : Int32} {v_FMT : Value} {s_DC : Addr} {k_DC : ClassId} {v_IO : Value} {x_ vb_ : Addr} {kv_ : ClassId} {vs_ : List Int32} {s_ ba_ : Addr} {kb_ : ClassId} {xs_ : List Int32} (p_ c_ n_ : Nat) {h0 : Heap} {n0 : Nat} (SB : own_Start Z z_CS v_FMT s_DC k_DC v_IO) (O0 : Old Z n0 h0) (pr0 : Exa Z h0 x_ "java/lang/StringBuilder") (pr1 : Fld Z h0 x_ "java/lang/AbstractStringBuilder" "value" "[B" (.ref vb_)) (pr2 : Fld Z h0 x_ "java/lang/AbstractStringBuilder" "coder" "B" (.int (0 : Int32))) (pr3 : Fld Z h0 x_ "java/lang/AbstractStringBuilder" "count" "I" (.int (Int32.ofNat c_))) (pr4 : Arv Z h0 vb_ kv_ .byte (Int32.ofNat p_) (own_vs vs_) (.int 0)) (pr5 : Exa Z h0 vb_ "[B") (pr6 : vs_.length = c_ ∧ c_ ≤ p_ ∧ p_ ≤ 60) (pr7 : n0 ≤ x_) (pr8 : n0 ≤ vb_) (pr9 : Exa Z h0 s_ "java/lang/String") (pr10 : Fld Z h0 s_ "java/lang/String" "coder" "B" (.int (0 : Int32))) (pr11 : Fld Z h0 s_ "java/lang/String" "value" "[B" (.ref ba_)) (pr12 : Arv Z h0 ba_ kb_ .byte (Int32.ofNat n_) (own_vs xs_) (.int 0)) (pr13 : xs_.length = n_ ∧ n_ ≤ 20) (pr14 : ba_ ≠ x_) (pr15 : c_ + n_ ≤ p_) :
    oMet l Z yM74 jdk_68_method_22_code 3 (some (.object "java/lang/AbstractStringBuilder")) [] (rmo 3 0 0 69) 0 0 #[(.ref x_), (.ref s_)] h0 (own_Q_as0 Z z_CS v_FMT s_DC k_DC v_IO x_ vb_ kv_ p_ vs_ c_ s_ ba_ kb_ xs_ n_ h0 n0) := by
  refine oenter (plainFor_of_name own_pn12) #[vr x_, vr s_, .unset] (fun _ => rfl) ?_
  intro p e s m below meth c s₁ X0 hx hZ hby hml hret hown hnm hlk e0
  have N0 := Fr.nil n0
  have D := own_hb hby D75
  have W := own_w hw
  have w251 := W 251 rfl
  refine o_aloadN X0 hx (D 0 rfl) rfl rfl <| o_ifnonnullYes X0 hx 9 (D 1 rfl) rfl <| o_aloadN X0 hx (D 2 rfl) rfl rfl <| o_cv X0 hx hZ hown (rm_slen hw n_ SB O0 pr9 pr10 pr11 pr12) (W 442 rfl) (W 165 rfl) (W 167 rfl) (W 166 rfl) (W 12 rfl) (W 168 rfl) (by decide) e0 pr9 hml rfl [] [] own_pd5 rfl rfl 0 rfl (by decide) (D 3 rfl) fun T1 L1 v1 X1 hQ1 => ?_
  obtain ⟨rfl, Nq1, q1⟩ := hQ1
  have N1 := Fr.app N0 Nq1
  refine o_istoreN X1 hx (l' := #[vr x_, vr s_, vi (Int32.ofNat n_)]) (D 4 rfl) rfl <| o_aloadN X1 hx (D 5 rfl) rfl rfl <| o_aloadN X1 hx (D 6 rfl) rfl rfl <| o_getF X1 hx hZ hown (host := "") (Or.inl w251) Via.refl q1 pr3 (D 7 rfl) fun T2 X2 e2 => o_iloadN X2 hx (D 8 rfl) rfl <| o_iadd X2 hx (D 9 rfl) ?_
  rw [show ((Int32.ofNat c_) + (Int32.ofNat n_)) = (Int32.ofNat (c_ + n_)) from XT.add32n c_ n_]
  refine o_cV X2 hx hZ hown (rm_ens0 hw p_ c_ (c_ + n_) O0 pr0 pr1 pr2 pr3 pr4 pr5 pr6 pr7 pr8 (by first | rfl | assumption | decide | omega)) (W 253 rfl) (own_decl (mvT hZ (W 254 rfl)) (mvT hZ (W 257 rfl))) (notFace_of_selects (args := #[]) (mvT hZ (W 256 rfl))) (W 256 rfl) (W 254 rfl) (W 209 rfl) (W 257 rfl) (by decide) e2 pr0 hml rfl [(.int (Int32.ofNat (c_ + n_)))] [] own_pd24 rfl rfl 0 rfl (by decide) (D 10 rfl) fun T3 L3 v3 X3 hQ3 => ?_
  obtain ⟨rfl, Nq3, q3⟩ := hQ3
  have N3 := Fr.app N1 Nq3
  refine o_aloadN X3 hx (D 11 rfl) rfl rfl <| o_aloadN X3 hx (D 12 rfl) rfl rfl <| o_getF X3 hx hZ hown (host := "") (Or.inl w251) Via.refl q3 pr3 (D 13 rfl) fun T4 X4 e4 => o_aloadN X4 hx (D 14 rfl) rfl rfl <| o_cV X4 hx hZ hown (rm_psa hw p_ c_ n_ SB O0 pr0 pr1 pr2 pr3 pr4 pr5 pr6 pr7 pr8 pr9 pr10 pr11 pr12 pr13 pr15) (W 462 rfl) (own_decl (mvT hZ (W 463 rfl)) (mvT hZ (W 466 rfl))) (notFace_of_selects (args := #[]) (mvT hZ (W 465 rfl))) (W 465 rfl) (W 463 rfl) (W 209 rfl) (W 466 rfl) (by decide) e4 pr0 hml rfl [(.int (Int32.ofNat c_)), (.ref s_)] [] own_pd39 rfl rfl 0 rfl (by decide) (D 15 rfl) fun T5 L5 v5 X5 hQ5 => ?_
  obtain ⟨rfl, Nq5, K5, p5_0, p5_1⟩ := hQ5
  have N5 := Fr.app N3 Nq5
  refine o_aloadN X5 hx (D 16 rfl) rfl rfl <| o_dup X5 hx (D 17 rfl) rfl ?_
  have c6 := (pr3.keep K5 (ninS (ne_exa (pr0.keep K5) p5_1 (by decide)) nin0))
  refine o_getF X5 hx hZ hown (host := "") (Or.inl w251) Via.refl rfl c6 (D 18 rfl) fun T7 X7 e7 => o_iloadN X7 hx (D 19 rfl) rfl <| o_iadd X7 hx (D 20 rfl) ?_
  rw [show ((Int32.ofNat c_) + (Int32.ofNat n_)) = (Int32.ofNat (c_ + n_)) from XT.add32n c_ n_]
  obtain ⟨T8, _, X8, rfl, W8, st8⟩ := putF X7 hx hZ hown (host := "") (Or.inl w251) Via.refl e7 c6 (pr0.keep K5) (Or.inl (W 252 rfl)) (W 200 rfl) (ty := .int) (by decide) rfl rfl (g := (mkF m 40 #[vr x_, vr s_, vi (Int32.ofNat n_)] [(.int (Int32.ofNat (c_ + n_))), (.ref x_)])) rfl rfl (D 21 rfl)
  have N8 := Fr.snoc X8 N5 pr7
  have F8 := Fld.same W8 c6
  refine ogoF st8 <| o_aloadN X8 hx (D 22 rfl) rfl rfl ?_
  have y9 : x_ ≠ vb_ := (ne_exa (Exa.wr W8 (pr0.keep K5)) (Exa.wr W8 p5_1) (by decide))
  have c10 := (Fld.other W8 (pr1.keep K5 (ninS y9 nin0)) (Or.inr (slot_ne (Or.inl (W 214 rfl)) (Or.inl (W 252 rfl)) (by decide) (t := (.array .byte)) (t' := .int) (by decide) (by decide))))
  have c11 := (Fld.other W8 (pr2.keep K5 (ninS y9 nin0)) (Or.inr (slot_ne (Or.inl (W 216 rfl)) (Or.inl (W 252 rfl)) (by decide) (t := .byte) (t' := .int) (by decide) (by decide))))
  exact oendR X8 hx hlk hret rfl rfl rfl (D 23 rfl) (by decide) rfl ⟨rfl, N8, (((Keep.refl h0 [x_, vb_]).trans K5 (allS (Or.inl (List.mem_of_getElem? (i := 1) rfl)) all0)).wr W8 (Or.inl (List.mem_of_getElem? (i := 0) rfl))), (Exa.wr W8 (pr0.keep K5)), c10, c11, F8, (p5_0.other W8 (Ne.symm y9)), (Exa.wr W8 p5_1), ⟨own_lnS (by omega) (by omega), by omega, by omega⟩⟩
def own_Q_asG (Z : State) (z_CS : Int32) (v_FMT : Value) (s_DC : Addr) (k_DC : ClassId) (v_IO : Value) (x_ vb_ : Addr) (kv_ : ClassId) (p_ : Nat) (vs_ : List Int32) (c_ : Nat) (s_ ba_ : Addr) (kb_ : ClassId) (xs_ : List Int32) (n_ : Nat) (h0 : Heap) (n0 : Nat) (v : Option Value) (h : Heap) (L : List Loc) : Prop := ∃ vc_ : Addr, ∃ kx_ : ClassId, (v = some (.ref x_)) ∧ (Fr n0 L) ∧ (Keep h0 h [x_]) ∧ (h0.size ≤ vc_) ∧ (Exa Z h x_ "java/lang/StringBuilder") ∧ (Fld Z h x_ "java/lang/AbstractStringBuilder" "value" "[B" (.ref vc_)) ∧ (Fld Z h x_ "java/lang/AbstractStringBuilder" "coder" "B" (.int (0 : Int32))) ∧ (Fld Z h x_ "java/lang/AbstractStringBuilder" "count" "I" (.int (Int32.ofNat (c_ + n_)))) ∧ (Arv Z h vc_ kx_ .byte (Int32.ofNat (p_ + (max ((c_ + n_) - p_) (p_ + 2)))) (own_vs (vs_ ++ (xs_.drop 0).take n_)) (.int 0)) ∧ (Exa Z h vc_ "[B") ∧ ((vs_ ++ (xs_.drop 0).take n_).length = (c_ + n_) ∧ (c_ + n_) ≤ (p_ + (max ((c_ + n_) - p_) (p_ + 2))) ∧ (p_ + (max ((c_ + n_) - p_) (p_ + 2))) ≤ 60)
theorem rm_asG {l : Launch} {Z : State} {a0 : Array Value} (hw : own_hw a0 Z) {z_CS : Int32} {v_FMT : Value} {s_DC : Addr} {k_DC : ClassId} {v_IO : Value} {x_ vb_ : Addr} {kv_ : ClassId} {vs_ : List Int32} {s_ ba_ : Addr} {kb_ : ClassId} {xs_ : List Int32} (p_ c_ n_ : Nat) {h0 : Heap} {n0 : Nat} (SB : own_Start Z z_CS v_FMT s_DC k_DC v_IO) (O0 : Old Z n0 h0) (pr0 : Exa Z h0 x_ "java/lang/StringBuilder") (pr1 : Fld Z h0 x_ "java/lang/AbstractStringBuilder" "value" "[B" (.ref vb_)) (pr2 : Fld Z h0 x_ "java/lang/AbstractStringBuilder" "coder" "B" (.int (0 : Int32))) (pr3 : Fld Z h0 x_ "java/lang/AbstractStringBuilder" "count" "I" (.int (Int32.ofNat c_))) (pr4 : Arv Z h0 vb_ kv_ .byte (Int32.ofNat p_) (own_vs vs_) (.int 0)) (pr5 : Exa Z h0 vb_ "[B") (pr6 : vs_.length = c_ ∧ c_ ≤ p_ ∧ p_ ≤ 60) (pr7 : n0 ≤ x_) (pr8 : n0 ≤ vb_) (pr9 : Exa Z h0 s_ "java/lang/String") (pr10 : Fld Z h0 s_ "java/lang/String" "coder" "B" (.int (0 : Int32))) (pr11 : Fld Z h0 s_ "java/lang/String" "value" "[B" (.ref ba_)) (pr12 : Arv Z h0 ba_ kb_ .byte (Int32.ofNat n_) (own_vs xs_) (.int 0)) (pr13 : xs_.length = n_ ∧ n_ ≤ 20) (pr14 : ba_ ≠ x_) (pr15 : p_ < c_ + n_ ∧ c_ + n_ ≤ 60 ∧ (p_ + (max ((c_ + n_) - p_) (p_ + 2))) ≤ 60) :
    oMet l Z yM74 jdk_68_method_22_code 3 (some (.object "java/lang/AbstractStringBuilder")) [] (rmo 4 1 140 69) 1 140 #[(.ref x_), (.ref s_)] h0 (own_Q_asG Z z_CS v_FMT s_DC k_DC v_IO x_ vb_ kv_ p_ vs_ c_ s_ ba_ kb_ xs_ n_ h0 n0) := by
  refine oenter (plainFor_of_name own_pn12) #[vr x_, vr s_, .unset] (fun _ => rfl) ?_
  intro p e s m below meth c s₁ X0 hx hZ hby hml hret hown hnm hlk e0
  have N0 := Fr.nil n0
  have D := own_hb hby D75
  have W := own_w hw
  have w251 := W 251 rfl
  refine o_aloadN X0 hx (D 0 rfl) rfl rfl <| o_ifnonnullYes X0 hx 9 (D 1 rfl) rfl <| o_aloadN X0 hx (D 2 rfl) rfl rfl <| o_cv X0 hx hZ hown (rm_slen hw n_ SB O0 pr9 pr10 pr11 pr12) (W 442 rfl) (W 165 rfl) (W 167 rfl) (W 166 rfl) (W 12 rfl) (W 168 rfl) (by decide) e0 pr9 hml rfl [] [] own_pd5 rfl rfl 0 rfl (by decide) (D 3 rfl) fun T1 L1 v1 X1 hQ1 => ?_
  obtain ⟨rfl, Nq1, q1⟩ := hQ1
  have N1 := Fr.app N0 Nq1
  refine o_istoreN X1 hx (l' := #[vr x_, vr s_, vi (Int32.ofNat n_)]) (D 4 rfl) rfl <| o_aloadN X1 hx (D 5 rfl) rfl rfl <| o_aloadN X1 hx (D 6 rfl) rfl rfl <| o_getF X1 hx hZ hown (host := "") (Or.inl w251) Via.refl q1 pr3 (D 7 rfl) fun T2 X2 e2 => o_iloadN X2 hx (D 8 rfl) rfl <| o_iadd X2 hx (D 9 rfl) ?_
  rw [show ((Int32.ofNat c_) + (Int32.ofNat n_)) = (Int32.ofNat (c_ + n_)) from XT.add32n c_ n_]
  refine o_cV X2 hx hZ hown (rm_ensG hw p_ c_ (c_ + n_) O0 pr0 pr1 pr2 pr3 pr4 pr5 pr6 pr7 pr8 (by omega)) (W 253 rfl) (own_decl (mvT hZ (W 254 rfl)) (mvT hZ (W 257 rfl))) (notFace_of_selects (args := #[]) (mvT hZ (W 256 rfl))) (W 256 rfl) (W 254 rfl) (W 209 rfl) (W 257 rfl) (by decide) e2 pr0 hml rfl [(.int (Int32.ofNat (c_ + n_)))] [] own_pd24 rfl rfl 0 rfl (by decide) (D 10 rfl) fun T3 L3 v3 X3 hQ3 => ?_
  obtain ⟨vc_3, kx_3, rfl, Nq3, K3, p3_0, p3_1, p3_2, p3_3, p3_4, p3_5, p3_6⟩ := hQ3
  have N3 := Fr.app N1 Nq3
  have n0_vc_3 := own_og O0 (Nat.le_trans (Nat.le_refl _) p3_0)
  refine o_aloadN X3 hx (D 11 rfl) rfl rfl <| o_aloadN X3 hx (D 12 rfl) rfl rfl <| o_getF X3 hx hZ hown (host := "") (Or.inl w251) Via.refl rfl p3_4 (D 13 rfl) fun T4 X4 e4 => o_aloadN X4 hx (D 14 rfl) rfl rfl ?_
  have c6 := (pr10.keep K3 (ninS (ne_exa (pr9.keep K3) p3_1 (by decide)) nin0))
  have c7 := (pr11.keep K3 (ninS (ne_exa (pr9.keep K3) p3_1 (by decide)) nin0))
  refine o_cV X4 hx hZ hown (rm_psa hw (p_ + (max ((c_ + n_) - p_) (p_ + 2))) c_ n_ SB (O0.keep K3 (allS pr7 all0)) p3_1 p3_2 p3_3 p3_4 p3_5 p3_6 (by omega) pr7 n0_vc_3 (pr9.keep K3) c6 c7 (pr12.keep K3 (ninS pr14 nin0)) pr13 (by first | rfl | assumption | decide | omega)) (W 462 rfl) (own_decl (mvT hZ (W 463 rfl)) (mvT hZ (W 466 rfl))) (notFace_of_selects (args := #[]) (mvT hZ (W 465 rfl))) (W 465 rfl) (W 463 rfl) (W 209 rfl) (W 466 rfl) (by decide) e4 p3_1 hml rfl [(.int (Int32.ofNat c_)), (.ref s_)] [] own_pd39 rfl rfl 0 rfl (by decide) (D 15 rfl) fun T5 L5 v5 X5 hQ5 => ?_
  obtain ⟨rfl, Nq5, K5, p5_0, p5_1⟩ := hQ5
  have N5 := Fr.app N3 Nq5
  refine o_aloadN X5 hx (D 16 rfl) rfl rfl <| o_dup X5 hx (D 17 rfl) rfl ?_
  have y8 : x_ ≠ vc_3 := (Nat.ne_of_lt (Nat.lt_of_lt_of_le (Nat.lt_of_lt_of_le pr0.lt (Nat.le_refl _)) p3_0))
  refine o_getF X5 hx hZ hown (host := "") (Or.inl w251) Via.refl rfl (p3_4.keep K5 (ninS y8 nin0)) (D 18 rfl) fun T9 X9 e9 => o_iloadN X9 hx (D 19 rfl) rfl <| o_iadd X9 hx (D 20 rfl) ?_
  rw [show ((Int32.ofNat c_) + (Int32.ofNat n_)) = (Int32.ofNat (c_ + n_)) from XT.add32n c_ n_]
  obtain ⟨T10, _, X10, rfl, W10, st10⟩ := putF X9 hx hZ hown (host := "") (Or.inl w251) Via.refl e9 (p3_4.keep K5 (ninS y8 nin0)) (p3_1.keep K5) (Or.inl (W 252 rfl)) (W 200 rfl) (ty := .int) (by decide) rfl rfl (g := (mkF m 40 #[vr x_, vr s_, vi (Int32.ofNat n_)] [(.int (Int32.ofNat (c_ + n_))), (.ref x_)])) rfl rfl (D 21 rfl)
  have N10 := Fr.snoc X10 N5 pr7
  have F10 := Fld.same W10 (p3_4.keep K5 (ninS y8 nin0))
  refine ogoF st10 <| o_aloadN X10 hx (D 22 rfl) rfl rfl ?_
  have c11 := (Fld.other W10 (p3_2.keep K5 (ninS y8 nin0)) (Or.inr (slot_ne (Or.inl (W 214 rfl)) (Or.inl (W 252 rfl)) (by decide) (t := (.array .byte)) (t' := .int) (by decide) (by decide))))
  have c12 := (Fld.other W10 (p3_3.keep K5 (ninS y8 nin0)) (Or.inr (slot_ne (Or.inl (W 216 rfl)) (Or.inl (W 252 rfl)) (by decide) (t := .byte) (t' := .int) (by decide) (by decide))))
  exact oendR X10 hx hlk hret rfl rfl rfl (D 23 rfl) (by decide) rfl ⟨vc_3, kx_3, rfl, N10, ((((Keep.refl h0 [x_]).trans K3 (allS (Or.inl (List.mem_of_getElem? (i := 0) rfl)) all0)).trans K5 (allS (Or.inr (Nat.le_trans (Nat.le_refl _) p3_0)) all0)).wr W10 (Or.inl (List.mem_of_getElem? (i := 0) rfl))), (Nat.le_trans (Nat.le_refl _) p3_0), (Exa.wr W10 (p3_1.keep K5)), c11, c12, F10, (p5_0.other W10 (Ne.symm y8)), (Exa.wr W10 p5_1), ⟨own_lnS (by omega) (by omega), by omega, by omega⟩⟩
theorem own_pd40 : parseMethodDescriptor "(Ljava/lang/String;)Ljava/lang/AbstractStringBuilder;" = some ⟨[(.object "java/lang/String")], some (.object "java/lang/AbstractStringBuilder")⟩ := by decide +kernel
abbrev cd76 : ByteArray := jdk_67_method_7_code
theorem D76 : own_DD cd76 [(0, .aload_n 0, 1), (1, .aload_n 1, 1), (2, .invokespecial 29, 3), (5, .pop, 1), (6, .aload_n 0, 1), (7, .areturn, 1)] := own_dk (by decide +kernel)
def own_Q_ss0 (Z : State) (z_CS : Int32) (v_FMT : Value) (s_DC : Addr) (k_DC : ClassId) (v_IO : Value) (x_ vb_ : Addr) (kv_ : ClassId) (p_ : Nat) (vs_ : List Int32) (c_ : Nat) (s_ ba_ : Addr) (kb_ : ClassId) (xs_ : List Int32) (n_ : Nat) (h0 : Heap) (n0 : Nat) (v : Option Value) (h : Heap) (L : List Loc) : Prop := (v = some (.ref x_)) ∧ (Fr n0 L) ∧ (Keep h0 h [x_, vb_]) ∧ (Exa Z h x_ "java/lang/StringBuilder") ∧ (Fld Z h x_ "java/lang/AbstractStringBuilder" "value" "[B" (.ref vb_)) ∧ (Fld Z h x_ "java/lang/AbstractStringBuilder" "coder" "B" (.int (0 : Int32))) ∧ (Fld Z h x_ "java/lang/AbstractStringBuilder" "count" "I" (.int (Int32.ofNat (c_ + n_)))) ∧ (Arv Z h vb_ kv_ .byte (Int32.ofNat p_) (own_vs (vs_ ++ (xs_.drop 0).take n_)) (.int 0)) ∧ (Exa Z h vb_ "[B") ∧ ((vs_ ++ (xs_.drop 0).take n_).length = (c_ + n_) ∧ (c_ + n_) ≤ p_ ∧ p_ ≤ 60)
abbrev yM75 : MethodName := ⟨"java/lang/StringBuilder", "append", "(Ljava/lang/String;)Ljava/lang/StringBuilder;"⟩
theorem rm_ss0 {l : Launch} {Z : State} {a0 : Array Value} (hw : own_hw a0 Z) {z_CS : Int32} {v_FMT : Value} {s_DC : Addr} {k_DC : ClassId} {v_IO : Value} {x_ vb_ : Addr} {kv_ : ClassId} {vs_ : List Int32} {s_ ba_ : Addr} {kb_ : ClassId} {xs_ : List Int32} (p_ c_ n_ : Nat) {h0 : Heap} {n0 : Nat} (SB : own_Start Z z_CS v_FMT s_DC k_DC v_IO) (O0 : Old Z n0 h0) (pr0 : Exa Z h0 x_ "java/lang/StringBuilder") (pr1 : Fld Z h0 x_ "java/lang/AbstractStringBuilder" "value" "[B" (.ref vb_)) (pr2 : Fld Z h0 x_ "java/lang/AbstractStringBuilder" "coder" "B" (.int (0 : Int32))) (pr3 : Fld Z h0 x_ "java/lang/AbstractStringBuilder" "count" "I" (.int (Int32.ofNat c_))) (pr4 : Arv Z h0 vb_ kv_ .byte (Int32.ofNat p_) (own_vs vs_) (.int 0)) (pr5 : Exa Z h0 vb_ "[B") (pr6 : vs_.length = c_ ∧ c_ ≤ p_ ∧ p_ ≤ 60) (pr7 : n0 ≤ x_) (pr8 : n0 ≤ vb_) (pr9 : Exa Z h0 s_ "java/lang/String") (pr10 : Fld Z h0 s_ "java/lang/String" "coder" "B" (.int (0 : Int32))) (pr11 : Fld Z h0 s_ "java/lang/String" "value" "[B" (.ref ba_)) (pr12 : Arv Z h0 ba_ kb_ .byte (Int32.ofNat n_) (own_vs xs_) (.int 0)) (pr13 : xs_.length = n_ ∧ n_ ≤ 20) (pr14 : ba_ ≠ x_) (pr15 : c_ + n_ ≤ p_) :
    oMet l Z yM75 jdk_67_method_7_code 2 (some (.object "java/lang/StringBuilder")) [] (rmo 4 0 0 83) 0 0 #[(.ref x_), (.ref s_)] h0 (own_Q_ss0 Z z_CS v_FMT s_DC k_DC v_IO x_ vb_ kv_ p_ vs_ c_ s_ ba_ kb_ xs_ n_ h0 n0) := by
  refine oenter (plainFor_of_name own_pn13) #[vr x_, vr s_] (fun _ => rfl) ?_
  intro p e s m below meth c s₁ X0 hx hZ hby hml hret hown hnm hlk e0
  have N0 := Fr.nil n0
  have D := own_hb hby D76
  have W := own_w hw
  refine o_aloadN X0 hx (D 0 rfl) rfl rfl <| o_aloadN X0 hx (D 1 rfl) rfl rfl <| o_cU X0 hx hZ hown (rm_as0 hw p_ c_ n_ SB O0 pr0 pr1 pr2 pr3 pr4 pr5 pr6 pr7 pr8 pr9 pr10 pr11 pr12 pr13 pr14 pr15) (W 438 rfl) (own_same (W 439 rfl) (W 267 rfl) rfl (by decide)) (W 439 rfl) (W 235 rfl) (W 209 rfl) (W 441 rfl) (by decide) e0 pr0 hml rfl [(.ref s_)] [] own_pd40 rfl rfl 0 rfl (by decide) (D 2 rfl) fun T1 L1 v1 X1 hQ1 => ?_
  obtain ⟨rfl, Nq1, K1, p1_0, p1_1, p1_2, p1_3, p1_4, p1_5, p1_6⟩ := hQ1
  have N1 := Fr.app N0 Nq1
  refine o_pop X1 hx (D 3 rfl) rfl <| o_aloadN X1 hx (D 4 rfl) rfl rfl ?_
  exact oendR X1 hx hlk hret rfl rfl rfl (D 5 rfl) (by decide) rfl ⟨rfl, N1, ((Keep.refl h0 [x_, vb_]).trans K1 (allS (Or.inl (List.mem_of_getElem? (i := 0) rfl)) (allS (Or.inl (List.mem_of_getElem? (i := 1) rfl)) all0))), p1_0, p1_1, p1_2, p1_3, p1_4, p1_5, ⟨own_lnS (by omega) (by omega), by omega, by omega⟩⟩
def own_Q_ssG (Z : State) (z_CS : Int32) (v_FMT : Value) (s_DC : Addr) (k_DC : ClassId) (v_IO : Value) (x_ vb_ : Addr) (kv_ : ClassId) (p_ : Nat) (vs_ : List Int32) (c_ : Nat) (s_ ba_ : Addr) (kb_ : ClassId) (xs_ : List Int32) (n_ : Nat) (h0 : Heap) (n0 : Nat) (v : Option Value) (h : Heap) (L : List Loc) : Prop := ∃ vc_ : Addr, ∃ kx_ : ClassId, (v = some (.ref x_)) ∧ (Fr n0 L) ∧ (Keep h0 h [x_]) ∧ (h0.size ≤ vc_) ∧ (Exa Z h x_ "java/lang/StringBuilder") ∧ (Fld Z h x_ "java/lang/AbstractStringBuilder" "value" "[B" (.ref vc_)) ∧ (Fld Z h x_ "java/lang/AbstractStringBuilder" "coder" "B" (.int (0 : Int32))) ∧ (Fld Z h x_ "java/lang/AbstractStringBuilder" "count" "I" (.int (Int32.ofNat (c_ + n_)))) ∧ (Arv Z h vc_ kx_ .byte (Int32.ofNat (p_ + (max ((c_ + n_) - p_) (p_ + 2)))) (own_vs (vs_ ++ (xs_.drop 0).take n_)) (.int 0)) ∧ (Exa Z h vc_ "[B") ∧ ((vs_ ++ (xs_.drop 0).take n_).length = (c_ + n_) ∧ (c_ + n_) ≤ (p_ + (max ((c_ + n_) - p_) (p_ + 2))) ∧ (p_ + (max ((c_ + n_) - p_) (p_ + 2))) ≤ 60)
theorem rm_ssG {l : Launch} {Z : State} {a0 : Array Value} (hw : own_hw a0 Z) {z_CS : Int32} {v_FMT : Value} {s_DC : Addr} {k_DC : ClassId} {v_IO : Value} {x_ vb_ : Addr} {kv_ : ClassId} {vs_ : List Int32} {s_ ba_ : Addr} {kb_ : ClassId} {xs_ : List Int32} (p_ c_ n_ : Nat) {h0 : Heap} {n0 : Nat} (SB : own_Start Z z_CS v_FMT s_DC k_DC v_IO) (O0 : Old Z n0 h0) (pr0 : Exa Z h0 x_ "java/lang/StringBuilder") (pr1 : Fld Z h0 x_ "java/lang/AbstractStringBuilder" "value" "[B" (.ref vb_)) (pr2 : Fld Z h0 x_ "java/lang/AbstractStringBuilder" "coder" "B" (.int (0 : Int32))) (pr3 : Fld Z h0 x_ "java/lang/AbstractStringBuilder" "count" "I" (.int (Int32.ofNat c_))) (pr4 : Arv Z h0 vb_ kv_ .byte (Int32.ofNat p_) (own_vs vs_) (.int 0)) (pr5 : Exa Z h0 vb_ "[B") (pr6 : vs_.length = c_ ∧ c_ ≤ p_ ∧ p_ ≤ 60) (pr7 : n0 ≤ x_) (pr8 : n0 ≤ vb_) (pr9 : Exa Z h0 s_ "java/lang/String") (pr10 : Fld Z h0 s_ "java/lang/String" "coder" "B" (.int (0 : Int32))) (pr11 : Fld Z h0 s_ "java/lang/String" "value" "[B" (.ref ba_)) (pr12 : Arv Z h0 ba_ kb_ .byte (Int32.ofNat n_) (own_vs xs_) (.int 0)) (pr13 : xs_.length = n_ ∧ n_ ≤ 20) (pr14 : ba_ ≠ x_) (pr15 : p_ < c_ + n_ ∧ c_ + n_ ≤ 60 ∧ (p_ + (max ((c_ + n_) - p_) (p_ + 2))) ≤ 60) :
    oMet l Z yM75 jdk_67_method_7_code 2 (some (.object "java/lang/StringBuilder")) [] (rmo 5 1 140 83) 1 140 #[(.ref x_), (.ref s_)] h0 (own_Q_ssG Z z_CS v_FMT s_DC k_DC v_IO x_ vb_ kv_ p_ vs_ c_ s_ ba_ kb_ xs_ n_ h0 n0) := by
  refine oenter (plainFor_of_name own_pn13) #[vr x_, vr s_] (fun _ => rfl) ?_
  intro p e s m below meth c s₁ X0 hx hZ hby hml hret hown hnm hlk e0
  have N0 := Fr.nil n0
  have D := own_hb hby D76
  have W := own_w hw
  refine o_aloadN X0 hx (D 0 rfl) rfl rfl <| o_aloadN X0 hx (D 1 rfl) rfl rfl <| o_cU X0 hx hZ hown (rm_asG hw p_ c_ n_ SB O0 pr0 pr1 pr2 pr3 pr4 pr5 pr6 pr7 pr8 pr9 pr10 pr11 pr12 pr13 pr14 pr15) (W 438 rfl) (own_same (W 439 rfl) (W 267 rfl) rfl (by decide)) (W 439 rfl) (W 235 rfl) (W 209 rfl) (W 441 rfl) (by decide) e0 pr0 hml rfl [(.ref s_)] [] own_pd40 rfl rfl 0 rfl (by decide) (D 2 rfl) fun T1 L1 v1 X1 hQ1 => ?_
  obtain ⟨vc_1, kx_1, rfl, Nq1, K1, p1_0, p1_1, p1_2, p1_3, p1_4, p1_5, p1_6, p1_7⟩ := hQ1
  have N1 := Fr.app N0 Nq1
  have n0_vc_1 := own_og O0 (Nat.le_trans (Nat.le_refl _) p1_0)
  refine o_pop X1 hx (D 3 rfl) rfl <| o_aloadN X1 hx (D 4 rfl) rfl rfl ?_
  exact oendR X1 hx hlk hret rfl rfl rfl (D 5 rfl) (by decide) rfl ⟨vc_1, kx_1, rfl, N1, ((Keep.refl h0 [x_]).trans K1 (allS (Or.inl (List.mem_of_getElem? (i := 0) rfl)) all0)), (Nat.le_trans (Nat.le_refl _) p1_0), p1_1, p1_2, p1_3, p1_4, p1_5, p1_6, ⟨own_lnS (by omega) (by omega), by omega, by omega⟩⟩
abbrev cd77 : ByteArray := jdk_65_method_131_code
theorem D77 : own_DD cd77 [(0, .iload_n 1, 1), (1, .iload_n 0, 1), (2, .if_icmp .ge 35, 3), (37, .return_, 1)] := own_dk (by decide +kernel)
def own_Q_ckl (Z : State)  (c_ : Nat) (h0 : Heap) (n0 : Nat) (v : Option Value) (h : Heap) (L : List Loc) : Prop := (v = none) ∧ (Fr n0 L) ∧ (h = h0)
abbrev yM76 : MethodName := ⟨"java/util/Arrays", "checkLength", "(II)V"⟩
theorem rm_ckl {l : Launch} {Z : State} {a0 : Array Value} (hw : own_hw a0 Z)   (c_ : Nat) {h0 : Heap} {n0 : Nat} (O0 : Old Z n0 h0) (pr0 : c_ ≤ 99) :
    oMet l Z yM76 jdk_65_method_131_code 2 none [] (rmo 0 0 0 0) 0 0 #[(.int (0 : Int32)), (.int (Int32.ofNat c_))] h0 (own_Q_ckl Z  c_ h0 n0) := by
  refine oenter (plainFor_of_name own_pn15) #[vi (0 : Int32), vi (Int32.ofNat c_)] (fun _ => rfl) ?_
  intro p e s m below meth c s₁ X0 hx hZ hby hml hret hown hnm hlk e0
  have N0 := Fr.nil n0
  have D := own_hb hby D77
  have W := own_w hw
  refine o_iloadN X0 hx (D 0 rfl) rfl <| o_iloadN X0 hx (D 1 rfl) rfl <| o_icmpYes X0 hx 37 (D 2 rfl) (flt (show ¬ ((Int32.ofNat c_) < (0 : Int32)) from XT.nlt32 (a := c_) (b := 0) (by omega) (by omega))).2.1 rfl ?_
  exact oendV X0 hx hlk hret (D 3 rfl) (by decide) e0 ⟨rfl, N0, rfl⟩
abbrev cd78 : ByteArray := jdk_65_method_133_code
theorem D78 : own_DD cd78 [(0, .iload_n 1, 1), (1, .iload_n 2, 1), (2, .invokestatic 343, 3), (5, .iload_n 2, 1), (6, .iload_n 1, 1), (7, .isub, 1), (8, .istore_n 3, 1), (9, .iload_n 3, 1), (10, .newarray .byte, 2), (12, .astore 4, 2), (14, .aload_n 0, 1), (15, .iload_n 1, 1), (16, .aload 4, 2), (18, .iconst 0, 1), (19, .aload_n 0, 1), (20, .arraylength, 1), (21, .iload_n 1, 1), (22, .isub, 1), (23, .iload_n 3, 1), (24, .invokestatic 304, 3), (27, .invokestatic 150, 3), (30, .aload 4, 2), (32, .areturn, 1)] := own_dk (by decide +kernel)
def own_Q_crb (Z : State)  (vb_ : Addr) (kv_ : ClassId) (p_ : Nat) (vs_ : List Int32) (c_ : Nat) (h0 : Heap) (n0 : Nat) (v : Option Value) (h : Heap) (L : List Loc) : Prop := ∃ rb_ : Addr, ∃ rk_ : ClassId, (v = some (.ref rb_)) ∧ (Fr n0 L) ∧ (Keep h0 h []) ∧ (h0.size ≤ rb_) ∧ (Arv Z h rb_ rk_ .byte (Int32.ofNat c_) (own_vs vs_) (.int 0))
abbrev yM77 : MethodName := ⟨"java/util/Arrays", "copyOfRangeByte", "([BII)[B"⟩
theorem rm_crb {l : Launch} {Z : State} {a0 : Array Value} (hw : own_hw a0 Z)  {vb_ : Addr} {kv_ : ClassId} {vs_ : List Int32} (p_ c_ : Nat) {h0 : Heap} {n0 : Nat} (O0 : Old Z n0 h0) (pr0 : Arv Z h0 vb_ kv_ .byte (Int32.ofNat p_) (own_vs vs_) (.int 0)) (pr1 : vs_.length = c_ ∧ c_ ≤ p_ ∧ p_ ≤ 60) (pr2 : c_ < p_) :
    oMet l Z yM77 jdk_65_method_133_code 5 (some (.array .byte)) [] (rmo 1 1 60 40) 1 60 #[(.ref vb_), (.int (0 : Int32)), (.int (Int32.ofNat c_))] h0 (own_Q_crb Z  vb_ kv_ p_ vs_ c_ h0 n0) := by
  refine oenter (plainFor_of_name own_pn15) #[vr vb_, vi (0 : Int32), vi (Int32.ofNat c_), .unset, .unset] (fun _ => rfl) ?_
  intro p e s m below meth c s₁ X0 hx hZ hby hml hret hown hnm hlk e0
  have N0 := Fr.nil n0
  have D := own_hb hby D78
  have W := own_w hw
  refine o_iloadN X0 hx (D 0 rfl) rfl <| o_iloadN X0 hx (D 1 rfl) rfl <| o_cS X0 hx hZ hown (rm_ckl hw c_ O0 (by first | rfl | assumption | decide | omega)) (W 492 rfl) (W 493 rfl) (W 311 rfl) (W 494 rfl) (by decide) e0 hml rfl [(.int (0 : Int32)), (.int (Int32.ofNat c_))] [] own_pd2 rfl rfl 0 rfl (by decide) (D 2 rfl) fun T1 L1 v1 X1 hQ1 => ?_
  obtain ⟨rfl, Nq1, q1⟩ := hQ1
  have N1 := Fr.app N0 Nq1
  refine o_iloadN X1 hx (D 3 rfl) rfl <| o_iloadN X1 hx (D 4 rfl) rfl <| o_isub X1 hx (D 5 rfl) ?_
  rw [show ((Int32.ofNat c_) - (0 : Int32)) = (Int32.ofNat c_) from XT.sub32n (a := c_) (b := 0) (by omega)]
  refine o_istoreN X1 hx (l' := #[vr vb_, vi (0 : Int32), vi (Int32.ofNat c_), vi (Int32.ofNat c_), .unset]) (D 6 rfl) rfl <| o_iloadN X1 hx (D 7 rfl) rfl ?_
  obtain ⟨T2, _, k2, X2, rfl, E2, A2, Ex2, st2⟩ := newPE (aty := .byte) X1 hx hZ (W 24 rfl) q1 (g := (mkF m 10 #[vr vb_, vi (0 : Int32), vi (Int32.ofNat c_), vi (Int32.ofNat c_), .unset] [(.int (Int32.ofNat c_))])) rfl (D 8 rfl) rfl (show ¬ (Int32.ofNat c_) < (0 : Int32) from XT.nlt32 (a := c_) (b := 0) (by omega) (Nat.zero_le _)) (cap := 60) (by rw [XT.n32 (by omega)]; omega) (by decide) (by decide) (by decide) (ad := "[B") rfl
  obtain ⟨b2, g2⟩ : ∃ z, z = h0.size := ⟨_, rfl⟩
  rw [← g2] at A2 Ex2 st2
  have n0_b2 := own_on O0 g2
  have V2 : Arv Z T2.heap b2 k2 .byte (Int32.ofNat c_) [] (.int 0) := Arv.new A2 (show ¬ (Int32.ofNat c_) < (0 : Int32) from XT.nlt32 (a := c_) (b := 0) (by omega) (Nat.zero_le _))
  have V3 : Arv Z T2.heap b2 k2 .byte (Int32.ofNat c_) (own_vs []) (.int 0) := V2
  refine ogoF st2 <| o_astore X2 hx (l' := #[vr vb_, vi (0 : Int32), vi (Int32.ofNat c_), vi (Int32.ofNat c_), vr b2]) (D 9 rfl) rfl rfl <| o_aloadN X2 hx (D 10 rfl) rfl rfl <| o_iloadN X2 hx (D 11 rfl) rfl <| o_aload X2 hx (D 12 rfl) rfl rfl <| o_iconst X2 hx 0 (D 13 rfl) rfl <| o_aloadN X2 hx (D 14 rfl) rfl rfl <| o_alen X2 hx hZ rfl (pr0.ext E2) (D 15 rfl) <| o_iloadN X2 hx (D 16 rfl) rfl <| o_isub X2 hx (D 17 rfl) ?_
  rw [show ((Int32.ofNat p_) - (0 : Int32)) = (Int32.ofNat p_) from XT.sub32n (a := p_) (b := 0) (by omega)]
  refine o_iloadN X2 hx (D 18 rfl) rfl <| o_cS X2 hx hZ hown (rm_mnB hw p_ c_ (O0.ext E2) (by first | rfl | assumption | decide | omega)) (W 458 rfl) (W 459 rfl) (W 84 rfl) (W 460 rfl) (by decide) rfl hml rfl [(.int (Int32.ofNat p_)), (.int (Int32.ofNat c_))] [(.int (0 : Int32)), (.ref b2), (.int (0 : Int32)), (.ref vb_)] own_pd18 rfl rfl 4 rfl (by decide) (D 19 rfl) fun T4 L4 v4 X4 hQ4 => ?_
  obtain ⟨rfl, Nq4, q4⟩ := hQ4
  have N4 := Fr.app N1 Nq4
  obtain ⟨T5, _, X5, rfl, K5, V5, Nf5, st5⟩ := own_copy X4 hx hZ hown (W 461 rfl) (W 282 rfl) (W 280 rfl) (W 281 rfl) q4 (pr0.ext E2) V3 (o := 0) (q := 0) (n := c_) (na := p_) (nb := c_) rfl rfl rfl rfl rfl rfl (by omega) (by omega) (by omega) (by omega) (by omega) (g := (mkF m 27 #[vr vb_, vi (0 : Int32), vi (Int32.ofNat c_), vi (Int32.ofNat c_), vr b2] [(.int (Int32.ofNat c_)), (.int (0 : Int32)), (.ref b2), (.int (0 : Int32)), (.ref vb_)])) rfl (by rw [hml]; rfl) (rest := []) rfl (D 20 rfl) (W := 0) (by show 2 * 0 + _ ≤ _; exact Nat.le_of_eq rfl) (by decide) (by decide)
  have N5 := Nf5 n0 N4 n0_b2
  have VV5 : Arv Z T5.heap b2 k2 .byte (Int32.ofNat c_) (own_vs vs_) (.int 0) := by rw [own_take (by omega)] at V5; exact V5
  refine ogoF st5 <| o_aload X5 hx (D 21 rfl) rfl rfl ?_
  exact oendR X5 hx hlk hret rfl rfl rfl (D 22 rfl) (by decide) rfl ⟨b2, k2, rfl, N5, (((Keep.refl h0 []).ext E2).trans K5 (allS (Or.inr (Nat.le_trans (Nat.le_refl _) (Nat.le_of_eq g2.symm))) all0)), (Nat.le_trans (Nat.le_refl _) (Nat.le_of_eq g2.symm)), VV5⟩
theorem own_pd41 : parseMethodDescriptor "([BII)[B" = some ⟨[(.array .byte), .int, .int], some (.array .byte)⟩ := by decide +kernel
abbrev cd79 : ByteArray := jdk_65_method_132_code
theorem D79 : own_DD cd79 [(0, .iload_n 1, 1), (1, .ifCond .ne 9, 3), (4, .iload_n 2, 1), (5, .aload_n 0, 1), (6, .arraylength, 1), (7, .if_icmp .eq 10, 3), (17, .aload_n 0, 1), (18, .invokevirtual 310, 3), (21, .checkcast 311, 3), (24, .areturn, 1), (10, .aload_n 0, 1), (11, .iload_n 1, 1), (12, .iload_n 2, 1), (13, .invokestatic 339, 3), (16, .areturn, 1)] := own_dk (by decide +kernel)
def own_Q_cor (Z : State)  (vb_ : Addr) (kv_ : ClassId) (p_ : Nat) (vs_ : List Int32) (c_ : Nat) (h0 : Heap) (n0 : Nat) (v : Option Value) (h : Heap) (L : List Loc) : Prop := ∃ rb_ : Addr, ∃ rk_ : ClassId, (v = some (.ref rb_)) ∧ (Fr n0 L) ∧ (Keep h0 h []) ∧ (h0.size ≤ rb_) ∧ (Arv Z h rb_ rk_ .byte (Int32.ofNat c_) (own_vs vs_) (.int 0))
abbrev yM78 : MethodName := ⟨"java/util/Arrays", "copyOfRange", "([BII)[B"⟩
theorem rm_cor {l : Launch} {Z : State} {a0 : Array Value} (hw : own_hw a0 Z)  {vb_ : Addr} {kv_ : ClassId} {vs_ : List Int32} (p_ c_ : Nat) {h0 : Heap} {n0 : Nat} (O0 : Old Z n0 h0) (pr0 : Arv Z h0 vb_ kv_ .byte (Int32.ofNat p_) (own_vs vs_) (.int 0)) (pr1 : Exa Z h0 vb_ "[B") (pr2 : vs_.length = c_ ∧ c_ ≤ p_ ∧ p_ ≤ 60) :
    oMet l Z yM78 jdk_65_method_132_code 3 (some (.array .byte)) [] (rmo 2 1 60 56) 1 60 #[(.ref vb_), (.int (0 : Int32)), (.int (Int32.ofNat c_))] h0 (own_Q_cor Z  vb_ kv_ p_ vs_ c_ h0 n0) := by
  refine oenter (plainFor_of_name own_pn15) #[vr vb_, vi (0 : Int32), vi (Int32.ofNat c_)] (fun _ => rfl) ?_
  intro p e s m below meth c s₁ X0 hx hZ hby hml hret hown hnm hlk e0
  have N0 := Fr.nil n0
  have D := own_hb hby D79
  have W := own_w hw
  refine o_iloadN X0 hx (D 0 rfl) rfl <| o_ifNo X0 hx (D 1 rfl) (teq (by decide : (0 : Int32) = (0 : Int32))).2 <| o_iloadN X0 hx (D 2 rfl) rfl <| o_aloadN X0 hx (D 3 rfl) rfl rfl <| o_alen X0 hx hZ e0 pr0 (D 4 rfl) ?_
  by_cases hc2 : c_ = p_
  · refine o_icmpYes X0 hx 17 (D 5 rfl) (teq (show (Int32.ofNat c_) = (Int32.ofNat p_) from congrArg Int32.ofNat (show c_ = p_ by omega))).1 rfl <| o_aloadN X0 hx (D 6 rfl) rfl rfl ?_
    obtain ⟨cl3, Ar3, q3, S3, N3z, H3, G3⟩ := (id pr0)
    have FC3 : FitC Z cl3 := fitC_of Ar3 fun i hi v hv => by rw [H3 i hi] at hv; cases hv; exact G3 i hi
    obtain ⟨T3, _, X3, rfl, E3, A3, Ex3, st3⟩ := cloneA X0 hx hZ hown (W 313 rfl) (W 314 rfl) (W 318 rfl) (W 316 rfl) (W 317 rfl) (W 319 rfl) e0 Ar3 pr1 FC3 (g := (mkF m 18 #[vr vb_, vi (0 : Int32), vi (Int32.ofNat c_)] [(.ref vb_)])) rfl (by rw [hml]; rfl) rfl (D 7 rfl) (by decide) (W := 0) (cap := 60) (by show 2 * 0 + _ ≤ _; exact Nat.le_of_eq rfl) (by decide) (by rw [S3, XT.n32 (by omega)]; omega) (by decide) (by decide)
    obtain ⟨b3, g3⟩ : ∃ z, z = h0.size := ⟨_, rfl⟩
    rw [← g3] at A3 Ex3 st3
    have n0_b3 := own_on O0 g3
    have V3 : Arv Z T3.heap b3 kv_ .byte (Int32.ofNat p_) (own_vs vs_) (.int 0) := ⟨cloneOf cl3, A3, q3, S3, N3z, H3, G3⟩
    refine ogoF st3 ?_
    obtain ⟨T4, X4, e4, st4⟩ := castY X3 hx hZ hown (W 320 rfl) rfl (Ins.self Ex3) (g := (mkF m 21 #[vr vb_, vi (0 : Int32), vi (Int32.ofNat c_)] [(.ref b3)])) rfl rfl (D 8 rfl)
    refine ogoF st4 ?_
    exact oendR X4 hx hlk hret rfl rfl rfl (D 9 rfl) (by decide) e4 ⟨b3, kv_, rfl, N0, ((Keep.refl h0 []).ext E3), (Nat.le_trans (Nat.le_refl _) (Nat.le_of_eq g3.symm)), (by have q := V3; rw [← hc2] at q; exact q)⟩
  · refine o_icmpNo X0 hx (D 5 rfl) (feq (show ¬ ((Int32.ofNat c_) = (Int32.ofNat p_)) from XT.ne32 (a := c_) (b := p_) (by omega) (by omega) (by omega))).1 <| o_aloadN X0 hx (D 10 rfl) rfl rfl <| o_iloadN X0 hx (D 11 rfl) rfl <| o_iloadN X0 hx (D 12 rfl) rfl <| o_cS X0 hx hZ hown (rm_crb hw p_ c_ O0 pr0 pr2 (by omega)) (W 489 rfl) (W 490 rfl) (W 311 rfl) (W 491 rfl) (by decide) e0 hml rfl [(.ref vb_), (.int (0 : Int32)), (.int (Int32.ofNat c_))] [] own_pd41 rfl rfl 0 rfl (by decide) (D 13 rfl) fun T5 L5 v5 X5 hQ5 => ?_
    obtain ⟨rb_5, rk_5, rfl, Nq5, K5, p5_0, p5_1⟩ := hQ5
    have N5 := Fr.app N0 Nq5
    have n0_rb_5 := own_og O0 (Nat.le_trans (Nat.le_refl _) p5_0)
    exact oendR X5 hx hlk hret rfl rfl rfl (D 14 rfl) (by decide) rfl ⟨rb_5, rk_5, rfl, N5, ((Keep.refl h0 []).trans K5 all0), (Nat.le_trans (Nat.le_refl _) p5_0), p5_1⟩
abbrev cd80 : ByteArray := jdk_42_method_150_code
theorem D80 : own_DD cd80 [(0, .aload_n 0, 1), (1, .invokespecial 1, 3), (4, .aload_n 1, 1), (5, .invokevirtual 552, 3), (8, .astore_n 3, 1), (9, .aload_n 1, 1), (10, .invokevirtual 549, 3), (13, .istore 4, 2), (15, .aload_n 1, 1), (16, .invokevirtual 1047, 3), (19, .ifCond .eq 22, 3), (22, .aload_n 0, 1), (23, .iconst 0, 1), (24, .putfield 15, 3), (27, .aload_n 0, 1), (28, .aload_n 3, 1), (29, .iconst 0, 1), (30, .iload 4, 2), (32, .invokestatic 54, 3), (35, .putfield 9, 3), (38, .goto 59, 3), (97, .return_, 1)] := own_dk (by decide +kernel)
def own_Q_sti (Z : State) (z_CS : Int32) (v_FMT : Value) (s_DC : Addr) (k_DC : ClassId) (v_IO : Value) (r_ x_ vb_ : Addr) (kv_ : ClassId) (p_ : Nat) (vs_ : List Int32) (c_ : Nat) (h0 : Heap) (n0 : Nat) (v : Option Value) (h : Heap) (L : List Loc) : Prop := ∃ rb_ : Addr, ∃ rk_ : ClassId, (v = none) ∧ (Fr n0 L) ∧ (Keep h0 h [r_]) ∧ (h0.size ≤ rb_) ∧ (Exa Z h r_ "java/lang/String") ∧ (Fld Z h r_ "java/lang/String" "coder" "B" (.int (0 : Int32))) ∧ (Fld Z h r_ "java/lang/String" "value" "[B" (.ref rb_)) ∧ (Arv Z h rb_ rk_ .byte (Int32.ofNat c_) (own_vs vs_) (.int 0))
abbrev yM79 : MethodName := ⟨"java/lang/String", "<init>", "(Ljava/lang/AbstractStringBuilder;Ljava/lang/Void;)V"⟩
theorem rm_sti {l : Launch} {Z : State} {a0 : Array Value} (hw : own_hw a0 Z) {z_CS : Int32} {v_FMT : Value} {s_DC : Addr} {k_DC : ClassId} {v_IO : Value} {r_ x_ vb_ : Addr} {kv_ : ClassId} {vs_ : List Int32} (p_ c_ : Nat) {h0 : Heap} {n0 : Nat} (SB : own_Start Z z_CS v_FMT s_DC k_DC v_IO) (O0 : Old Z n0 h0) (pr0 : Exa Z h0 r_ "java/lang/String") (pr1 : Fld Z h0 r_ "java/lang/String" "value" "[B" .null) (pr2 : Fld Z h0 r_ "java/lang/String" "coder" "B" (.int (0 : Int32))) (pr3 : n0 ≤ r_) (pr4 : Exa Z h0 x_ "java/lang/StringBuilder") (pr5 : Fld Z h0 x_ "java/lang/AbstractStringBuilder" "value" "[B" (.ref vb_)) (pr6 : Fld Z h0 x_ "java/lang/AbstractStringBuilder" "coder" "B" (.int (0 : Int32))) (pr7 : Fld Z h0 x_ "java/lang/AbstractStringBuilder" "count" "I" (.int (Int32.ofNat c_))) (pr8 : Arv Z h0 vb_ kv_ .byte (Int32.ofNat p_) (own_vs vs_) (.int 0)) (pr9 : Exa Z h0 vb_ "[B") (pr10 : vs_.length = c_ ∧ c_ ≤ p_ ∧ p_ ≤ 60) :
    oMet l Z yM79 jdk_42_method_150_code 5 none [] (rmo 3 1 60 71) 1 60 #[(.ref r_), (.ref x_), .null] h0 (own_Q_sti Z z_CS v_FMT s_DC k_DC v_IO r_ x_ vb_ kv_ p_ vs_ c_ h0 n0) := by
  refine oenter (plainFor_of_name own_pn0) #[vr r_, vr x_, .val .null, .unset, .unset] (fun _ => rfl) ?_
  intro p e s m below meth c s₁ X0 hx hZ hby hml hret hown hnm hlk e0
  have N0 := Fr.nil n0
  have D := own_hb hby D80
  have W := own_w hw
  refine o_aloadN X0 hx (D 0 rfl) rfl rfl ?_
  obtain ⟨T1, X1, e1, st1⟩ := initO X0 hx hZ hown (W 20 rfl) (W 21 rfl) (W 22 rfl) e0 (g := (mkF m 1 #[vr r_, vr x_, .val .null, .unset, .unset] [(.ref r_)])) rfl (by rw [hml]; rfl) rfl (D 1 rfl) (by decide) (W := 0) (by show 2 * 0 + _ ≤ _; exact Nat.le_of_eq rfl) (by decide)
  refine ogoF st1 <| o_aloadN X1 hx (D 2 rfl) rfl rfl <| o_cv X1 hx hZ hown (rm_gvl hw  O0 pr5) (W 295 rfl) (W 296 rfl) (W 298 rfl) (W 297 rfl) (W 209 rfl) (W 299 rfl) (by decide) e1 pr4 hml rfl [] [] own_pd31 rfl rfl 0 rfl (by decide) (D 3 rfl) fun T2 L2 v2 X2 hQ2 => ?_
  obtain ⟨rfl, Nq2, q2⟩ := hQ2
  have N2 := Fr.app N0 Nq2
  refine o_astoreN X2 hx (l' := #[vr r_, vr x_, .val .null, vr vb_, .unset]) (D 4 rfl) rfl rfl <| o_aloadN X2 hx (D 5 rfl) rfl rfl <| o_cV X2 hx hZ hown (rm_sln hw c_ O0 pr4 pr7) (W 300 rfl) (mvT hZ (W 301 rfl)) (own_nf (args := #[]) (mvT hZ (W 267 rfl)) rfl) (W 303 rfl) (W 304 rfl) (W 201 rfl) (W 305 rfl) (by decide) q2 pr4 hml rfl [] [] own_pd5 rfl rfl 0 rfl (by decide) (D 6 rfl) fun T3 L3 v3 X3 hQ3 => ?_
  obtain ⟨rfl, Nq3, q3⟩ := hQ3
  have N3 := Fr.app N2 Nq3
  refine o_istore X3 hx (l' := #[vr r_, vr x_, .val .null, vr vb_, vi (Int32.ofNat c_)]) (D 7 rfl) rfl <| o_aloadN X3 hx (D 8 rfl) rfl rfl <| o_cv X3 hx hZ hown (rm_asl hw  SB O0 pr6) (W 308 rfl) (W 265 rfl) (W 267 rfl) (W 266 rfl) (W 209 rfl) (W 268 rfl) (by decide) q3 pr4 hml rfl [] [] own_pd3 rfl rfl 0 rfl (by decide) (D 9 rfl) fun T4 L4 v4 X4 hQ4 => ?_
  obtain ⟨rfl, Nq4, q4⟩ := hQ4
  have N4 := Fr.app N3 Nq4
  refine o_ifNo X4 hx (D 10 rfl) (feq (by decide : ¬ ((1 : Int32) = (0 : Int32)))).1 <| o_aloadN X4 hx (D 11 rfl) rfl rfl <| o_iconst X4 hx 0 (D 12 rfl) rfl ?_
  obtain ⟨T5, _, X5, rfl, W5, st5⟩ := putFN X4 hx hZ hown (W 30 rfl) Via.refl q4 pr2 pr0 (Or.inr ⟨(W 26 rfl), rfl, hnm⟩) (W 11 rfl) (ty := .byte) (v' := (.int (0 : Int32))) (by decide) rfl (by decide) (g := (mkF m 24 #[vr r_, vr x_, .val .null, vr vb_, vi (Int32.ofNat c_)] [(.int (0 : Int32)), (.ref r_)])) rfl rfl (D 13 rfl)
  have N5 := Fr.snoc X5 N4 pr3
  have F5 := Fld.same W5 pr2
  refine ogoF st5 <| o_aloadN X5 hx (D 14 rfl) rfl rfl <| o_aloadN X5 hx (D 15 rfl) rfl rfl <| o_iconst X5 hx 0 (D 16 rfl) rfl <| o_iload X5 hx (D 17 rfl) rfl ?_
  have y7 : vb_ ≠ r_ := (ne_exa (Exa.wr W5 pr9) (Exa.wr W5 pr0) (by decide))
  refine o_cS X5 hx hZ hown (rm_cor hw p_ c_ (O0.wr W5 pr3) (pr8.other W5 y7) (Exa.wr W5 pr9) pr10) (W 309 rfl) (W 310 rfl) (W 311 rfl) (W 312 rfl) (by decide) rfl hml rfl [(.ref vb_), (.int (0 : Int32)), (.int (Int32.ofNat c_))] [(.ref r_)] own_pd41 rfl rfl 1 rfl (by decide) (D 18 rfl) fun T6 L6 v6 X6 hQ6 => ?_
  obtain ⟨rb_6, rk_6, rfl, Nq6, K6, p6_0, p6_1⟩ := hQ6
  have N6 := Fr.app N5 Nq6
  have n0_rb_6 := own_og O0 (Nat.le_trans (Keep.of_wr W5).1 p6_0)
  have c9 := ((Fld.other W5 pr1 (Or.inr (slot_ne (Or.inr (W 25 rfl)) (Or.inr (W 26 rfl)) (by decide) (t := (.array .byte)) (t' := .byte) (by decide) (by decide)))).keep K6 nin0)
  obtain ⟨T8, _, X8, rfl, W8, st8⟩ := putF X6 hx hZ hown (host := "") (Or.inl (W 29 rfl)) Via.refl rfl c9 ((Exa.wr W5 pr0).keep K6) (Or.inr ⟨(W 25 rfl), rfl, hnm⟩) (W 11 rfl) (ty := (.array .byte)) (by decide) rfl rfl (g := (mkF m 35 #[vr r_, vr x_, .val .null, vr vb_, vi (Int32.ofNat c_)] [(.ref rb_6), (.ref r_)])) rfl rfl (D 19 rfl)
  have N8 := Fr.snoc X8 N6 pr3
  have F8 := Fld.same W8 c9
  refine ogoF st8 <| o_goto X8 hx 97 (D 20 rfl) rfl ?_
  have c10 := (Fld.other W8 (F5.keep K6 nin0) (Or.inr (slot_ne (Or.inr (W 26 rfl)) (Or.inr (W 25 rfl)) (by decide) (t := .byte) (t' := (.array .byte)) (by decide) (by decide))))
  have y11 : rb_6 ≠ r_ := (Nat.ne_of_gt (Nat.lt_of_lt_of_le (Nat.lt_of_lt_of_le pr0.lt (Keep.of_wr W5).1) p6_0))
  exact oendV X8 hx hlk hret (D 21 rfl) (by decide) rfl ⟨rb_6, rk_6, rfl, N8, ((((Keep.refl h0 [r_]).wr W5 (Or.inl (List.mem_of_getElem? (i := 0) rfl))).trans K6 all0).wr W8 (Or.inl (List.mem_of_getElem? (i := 0) rfl))), (Nat.le_trans (Keep.of_wr W5).1 p6_0), (Exa.wr W8 ((Exa.wr W5 pr0).keep K6)), c10, F8, (p6_1.other W8 y11)⟩
theorem own_pd42 : parseMethodDescriptor "(Ljava/lang/AbstractStringBuilder;Ljava/lang/Void;)V" = some ⟨[(.object "java/lang/AbstractStringBuilder"), (.object "java/lang/Void")], none⟩ := by decide +kernel
abbrev cd81 : ByteArray := jdk_42_method_53_code
theorem D81 : own_DD cd81 [(0, .aload_n 0, 1), (1, .aload_n 1, 1), (2, .aconst_null, 1), (3, .invokespecial 489, 3), (6, .return_, 1)] := own_dk (by decide +kernel)
def own_Q_stj (Z : State) (z_CS : Int32) (v_FMT : Value) (s_DC : Addr) (k_DC : ClassId) (v_IO : Value) (r_ x_ vb_ : Addr) (kv_ : ClassId) (p_ : Nat) (vs_ : List Int32) (c_ : Nat) (h0 : Heap) (n0 : Nat) (v : Option Value) (h : Heap) (L : List Loc) : Prop := ∃ rb_ : Addr, ∃ rk_ : ClassId, (v = none) ∧ (Fr n0 L) ∧ (Keep h0 h [r_]) ∧ (h0.size ≤ rb_) ∧ (Exa Z h r_ "java/lang/String") ∧ (Fld Z h r_ "java/lang/String" "coder" "B" (.int (0 : Int32))) ∧ (Fld Z h r_ "java/lang/String" "value" "[B" (.ref rb_)) ∧ (Arv Z h rb_ rk_ .byte (Int32.ofNat c_) (own_vs vs_) (.int 0))
abbrev yM80 : MethodName := ⟨"java/lang/String", "<init>", "(Ljava/lang/StringBuilder;)V"⟩
theorem rm_stj {l : Launch} {Z : State} {a0 : Array Value} (hw : own_hw a0 Z) {z_CS : Int32} {v_FMT : Value} {s_DC : Addr} {k_DC : ClassId} {v_IO : Value} {r_ x_ vb_ : Addr} {kv_ : ClassId} {vs_ : List Int32} (p_ c_ : Nat) {h0 : Heap} {n0 : Nat} (SB : own_Start Z z_CS v_FMT s_DC k_DC v_IO) (O0 : Old Z n0 h0) (pr0 : Exa Z h0 r_ "java/lang/String") (pr1 : Fld Z h0 r_ "java/lang/String" "value" "[B" .null) (pr2 : Fld Z h0 r_ "java/lang/String" "coder" "B" (.int (0 : Int32))) (pr3 : n0 ≤ r_) (pr4 : Exa Z h0 x_ "java/lang/StringBuilder") (pr5 : Fld Z h0 x_ "java/lang/AbstractStringBuilder" "value" "[B" (.ref vb_)) (pr6 : Fld Z h0 x_ "java/lang/AbstractStringBuilder" "coder" "B" (.int (0 : Int32))) (pr7 : Fld Z h0 x_ "java/lang/AbstractStringBuilder" "count" "I" (.int (Int32.ofNat c_))) (pr8 : Arv Z h0 vb_ kv_ .byte (Int32.ofNat p_) (own_vs vs_) (.int 0)) (pr9 : Exa Z h0 vb_ "[B") (pr10 : vs_.length = c_ ∧ c_ ≤ p_ ∧ p_ ≤ 60) :
    oMet l Z yM80 jdk_42_method_53_code 2 none [] (rmo 4 1 60 87) 1 60 #[(.ref r_), (.ref x_)] h0 (own_Q_stj Z z_CS v_FMT s_DC k_DC v_IO r_ x_ vb_ kv_ p_ vs_ c_ h0 n0) := by
  refine oenter (plainFor_of_name own_pn0) #[vr r_, vr x_] (fun _ => rfl) ?_
  intro p e s m below meth c s₁ X0 hx hZ hby hml hret hown hnm hlk e0
  have N0 := Fr.nil n0
  have D := own_hb hby D81
  have W := own_w hw
  refine o_aloadN X0 hx (D 0 rfl) rfl rfl <| o_aloadN X0 hx (D 1 rfl) rfl rfl <| o_aconst_null X0 hx (D 2 rfl) <| o_cI X0 hx hZ hown (rm_sti hw p_ c_ SB O0 pr0 pr1 pr2 pr3 pr4 pr5 pr6 pr7 pr8 pr9 pr10) rfl (W 292 rfl) (W 293 rfl) (W 12 rfl) (W 294 rfl) (by decide) e0 hml rfl [(.ref x_), .null] [] own_pd42 rfl rfl 0 rfl (by decide) (D 3 rfl) fun T1 L1 v1 X1 hQ1 => ?_
  obtain ⟨rb_1, rk_1, rfl, Nq1, K1, p1_0, p1_1, p1_2, p1_3, p1_4⟩ := hQ1
  have N1 := Fr.app N0 Nq1
  have n0_rb_1 := own_og O0 (Nat.le_trans (Nat.le_refl _) p1_0)
  exact oendV X1 hx hlk hret (D 4 rfl) (by decide) rfl ⟨rb_1, rk_1, rfl, N1, ((Keep.refl h0 [r_]).trans K1 (allS (Or.inl (List.mem_of_getElem? (i := 0) rfl)) all0)), (Nat.le_trans (Nat.le_refl _) p1_0), p1_1, p1_2, p1_3, p1_4⟩
theorem own_pd43 : parseMethodDescriptor "(Ljava/lang/StringBuilder;)V" = some ⟨[(.object "java/lang/StringBuilder")], none⟩ := by decide +kernel
abbrev cd82 : ByteArray := jdk_67_method_42_code
theorem D82 : own_DD cd82 [(0, .new 18, 3), (3, .dup, 1), (4, .aload_n 0, 1), (5, .invokespecial 137, 3), (8, .areturn, 1)] := own_dk (by decide +kernel)
def own_Q_tos (Z : State) (z_CS : Int32) (v_FMT : Value) (s_DC : Addr) (k_DC : ClassId) (v_IO : Value) (x_ vb_ : Addr) (kv_ : ClassId) (p_ : Nat) (vs_ : List Int32) (c_ : Nat) (h0 : Heap) (n0 : Nat) (v : Option Value) (h : Heap) (L : List Loc) : Prop := ∃ r_ : Addr, ∃ rb_ : Addr, ∃ rk_ : ClassId, (v = some (.ref r_)) ∧ (Fr n0 L) ∧ (Keep h0 h []) ∧ (h0.size ≤ r_) ∧ (h0.size ≤ rb_) ∧ (Exa Z h r_ "java/lang/String") ∧ (Fld Z h r_ "java/lang/String" "coder" "B" (.int (0 : Int32))) ∧ (Fld Z h r_ "java/lang/String" "value" "[B" (.ref rb_)) ∧ (Arv Z h rb_ rk_ .byte (Int32.ofNat c_) (own_vs vs_) (.int 0))
abbrev yM81 : MethodName := ⟨"java/lang/StringBuilder", "toString", "()Ljava/lang/String;"⟩
theorem rm_tos {l : Launch} {Z : State} {a0 : Array Value} (hw : own_hw a0 Z) {z_CS : Int32} {v_FMT : Value} {s_DC : Addr} {k_DC : ClassId} {v_IO : Value} {x_ vb_ : Addr} {kv_ : ClassId} {vs_ : List Int32} (p_ c_ : Nat) {h0 : Heap} {n0 : Nat} (SB : own_Start Z z_CS v_FMT s_DC k_DC v_IO) (O0 : Old Z n0 h0) (pr0 : Exa Z h0 x_ "java/lang/StringBuilder") (pr1 : Fld Z h0 x_ "java/lang/AbstractStringBuilder" "value" "[B" (.ref vb_)) (pr2 : Fld Z h0 x_ "java/lang/AbstractStringBuilder" "coder" "B" (.int (0 : Int32))) (pr3 : Fld Z h0 x_ "java/lang/AbstractStringBuilder" "count" "I" (.int (Int32.ofNat c_))) (pr4 : Arv Z h0 vb_ kv_ .byte (Int32.ofNat p_) (own_vs vs_) (.int 0)) (pr5 : Exa Z h0 vb_ "[B") (pr6 : vs_.length = c_ ∧ c_ ≤ p_ ∧ p_ ≤ 60) :
    oMet l Z yM81 jdk_67_method_42_code 1 (some (.object "java/lang/String")) [] (rmo 5 2 64 101) 2 64 #[(.ref x_)] h0 (own_Q_tos Z z_CS v_FMT s_DC k_DC v_IO x_ vb_ kv_ p_ vs_ c_ h0 n0) := by
  refine oenter (plainFor_of_name own_pn13) #[vr x_] (fun _ => rfl) ?_
  intro p e s m below meth c s₁ X0 hx hZ hby hml hret hown hnm hlk e0
  have N0 := Fr.nil n0
  have D := own_hb hby D82
  have W := own_w hw
  obtain ⟨T1, _, X1, rfl, E1, A1, D1, -, st1⟩ := newO X0 hx hZ hown (W 288 rfl) (W 11 rfl) (W 12 rfl) e0 (g := (mkF m 0 #[vr x_] [])) rfl (D 0 rfl) (by decide) (by decide)
  obtain ⟨b1, g1⟩ : ∃ z, z = h0.size := ⟨_, rfl⟩
  rw [← g1] at A1 D1 st1
  have n0_b1 := own_on O0 g1
  have F1_value : Fld Z T1.heap b1 "java/lang/String" "value" "[B" .null := D1 (Or.inr (W 25 rfl)) (ty := (.array .byte)) (by decide)
  have F1_coder : Fld Z T1.heap b1 "java/lang/String" "coder" "B" (.int (0 : Int32)) := D1 (Or.inr (W 26 rfl)) (ty := .byte) (by decide)
  refine ogoF st1 <| o_dup X1 hx (D 1 rfl) rfl <| o_aloadN X1 hx (D 2 rfl) rfl rfl <| o_cI X1 hx hZ hown (rm_stj hw p_ c_ SB (O0.ext E1) A1 F1_value F1_coder n0_b1 (Exa.ext E1 pr0) (Fld.ext E1 pr1) (Fld.ext E1 pr2) (Fld.ext E1 pr3) (pr4.ext E1) (Exa.ext E1 pr5) pr6) rfl (W 289 rfl) (W 290 rfl) (W 12 rfl) (W 291 rfl) (by decide) rfl hml rfl [(.ref x_)] [(.ref b1)] own_pd43 rfl rfl 1 rfl (by decide) (D 3 rfl) fun T2 L2 v2 X2 hQ2 => ?_
  obtain ⟨rb_2, rk_2, rfl, Nq2, K2, p2_0, p2_1, p2_2, p2_3, p2_4⟩ := hQ2
  have N2 := Fr.app N0 Nq2
  have n0_rb_2 := own_og O0 (Nat.le_trans E1.1 p2_0)
  exact oendR X2 hx hlk hret rfl rfl rfl (D 4 rfl) (by decide) rfl ⟨b1, rb_2, rk_2, rfl, N2, (((Keep.refl h0 []).ext E1).trans K2 (allS (Or.inr (Nat.le_trans (Nat.le_refl _) (Nat.le_of_eq g1.symm))) all0)), (Nat.le_trans (Nat.le_refl _) (Nat.le_of_eq g1.symm)), (Nat.le_trans E1.1 p2_0), p2_1, p2_2, p2_3, p2_4⟩
abbrev cd83 : ByteArray := jdk_42_method_55_code
theorem D83 : own_DD cd83 [(0, .aload_n 0, 1), (1, .getfield 9, 3), (4, .arraylength, 1), (5, .ifCond .ne 7, 3), (12, .iconst 0, 1), (13, .ireturn, 1), (8, .iconst 1, 1), (9, .goto 4, 3)] := own_dk (by decide +kernel)
def own_Q_emp0 (Z : State)  (x_ ba_ : Addr) (kb_ : ClassId) (bs_ : List Int32) (n_ : Nat) (h0 : Heap) (n0 : Nat) (v : Option Value) (h : Heap) (L : List Loc) : Prop := (v = some (.int (0 : Int32))) ∧ (Fr n0 L) ∧ (h = h0)
abbrev yM82 : MethodName := ⟨"java/lang/String", "isEmpty", "()Z"⟩
theorem rm_emp0 {l : Launch} {Z : State} {a0 : Array Value} (hw : own_hw a0 Z)  {x_ ba_ : Addr} {kb_ : ClassId} {bs_ : List Int32} (n_ : Nat) {h0 : Heap} {n0 : Nat} (O0 : Old Z n0 h0) (pr0 : Exa Z h0 x_ "java/lang/String") (pr1 : Fld Z h0 x_ "java/lang/String" "coder" "B" (.int (0 : Int32))) (pr2 : Fld Z h0 x_ "java/lang/String" "value" "[B" (.ref ba_)) (pr3 : Arv Z h0 ba_ kb_ .byte (Int32.ofNat n_) (own_vs bs_) (.int 0)) (pr4 : ¬ ((Int32.ofNat n_) = (0 : Int32))) :
    oMet l Z yM82 jdk_42_method_55_code 1 (some .boolean) [] (rmo 0 0 0 0) 0 0 #[(.ref x_)] h0 (own_Q_emp0 Z  x_ ba_ kb_ bs_ n_ h0 n0) := by
  refine oenter (plainFor_of_name own_pn0) #[vr x_] (fun _ => rfl) ?_
  intro p e s m below meth c s₁ X0 hx hZ hby hml hret hown hnm hlk e0
  have N0 := Fr.nil n0
  have D := own_hb hby D83
  have W := own_w hw
  refine o_aloadN X0 hx (D 0 rfl) rfl rfl <| o_getF X0 hx hZ hown (host := "") (Or.inl (W 29 rfl)) Via.refl e0 pr2 (D 1 rfl) fun T1 X1 e1 => o_alen X1 hx hZ e1 pr3 (D 2 rfl) <| o_ifYes X1 hx 12 (D 3 rfl) (feq pr4).2 rfl <| o_iconst X1 hx 0 (D 4 rfl) rfl ?_
  exact oendN X1 hx hlk hret (by simp) (y := (0 : Int32)) rfl (D 5 rfl) (by decide) e1 ⟨rfl, N0, rfl⟩
def own_Q_emp1 (Z : State)  (x_ ba_ : Addr) (kb_ : ClassId) (bs_ : List Int32) (n_ : Nat) (h0 : Heap) (n0 : Nat) (v : Option Value) (h : Heap) (L : List Loc) : Prop := (v = some (.int (1 : Int32))) ∧ (Fr n0 L) ∧ (h = h0)
theorem rm_emp1 {l : Launch} {Z : State} {a0 : Array Value} (hw : own_hw a0 Z)  {x_ ba_ : Addr} {kb_ : ClassId} {bs_ : List Int32} (n_ : Nat) {h0 : Heap} {n0 : Nat} (O0 : Old Z n0 h0) (pr0 : Exa Z h0 x_ "java/lang/String") (pr1 : Fld Z h0 x_ "java/lang/String" "coder" "B" (.int (0 : Int32))) (pr2 : Fld Z h0 x_ "java/lang/String" "value" "[B" (.ref ba_)) (pr3 : Arv Z h0 ba_ kb_ .byte (Int32.ofNat n_) (own_vs bs_) (.int 0)) (pr4 : (Int32.ofNat n_) = (0 : Int32)) :
    oMet l Z yM82 jdk_42_method_55_code 1 (some .boolean) [] (rmo 0 0 0 0) 0 0 #[(.ref x_)] h0 (own_Q_emp1 Z  x_ ba_ kb_ bs_ n_ h0 n0) := by
  refine oenter (plainFor_of_name own_pn0) #[vr x_] (fun _ => rfl) ?_
  intro p e s m below meth c s₁ X0 hx hZ hby hml hret hown hnm hlk e0
  have N0 := Fr.nil n0
  have D := own_hb hby D83
  have W := own_w hw
  refine o_aloadN X0 hx (D 0 rfl) rfl rfl <| o_getF X0 hx hZ hown (host := "") (Or.inl (W 29 rfl)) Via.refl e0 pr2 (D 1 rfl) fun T1 X1 e1 => o_alen X1 hx hZ e1 pr3 (D 2 rfl) <| o_ifNo X1 hx (D 3 rfl) (teq pr4).2 <| o_iconst X1 hx 1 (D 6 rfl) rfl <| o_goto X1 hx 13 (D 7 rfl) rfl ?_
  exact oendN X1 hx hlk hret (by simp) (y := (1 : Int32)) rfl (D 5 rfl) (by decide) e1 ⟨rfl, N0, rfl⟩
def own_la (a b : Value) : List Value := [a, b, .null, .null, .null, .null, .null, .null, .null, .null]
/-- the list that the constructor keeps: the parts that aren't empty -/
def own_sel (sz ze : Int32) (ve : List Value) (q1 q2 : Addr) (m1 m2 r1 r2 : Nat) (y1 y2 u1 u2 : List Int32) : Prop :=
  (m1 = 0 ∧ m2 = 0 ∧ sz = (0 : Int32)) ∨ (¬ m1 = 0 ∧ m2 = 0 ∧ sz = (1 : Int32) ∧ ze = (10 : Int32) ∧ ve = own_la (.ref q1) .null ∧ u1 = y1 ∧ r1 = m1) ∨ (m1 = 0 ∧ ¬ m2 = 0 ∧ sz = (1 : Int32) ∧ ze = (10 : Int32) ∧ ve = own_la (.ref q1) .null ∧ u1 = y2 ∧ r1 = m2) ∨ (¬ m1 = 0 ∧ ¬ m2 = 0 ∧ sz = (2 : Int32) ∧ ze = (10 : Int32) ∧ ve = own_la (.ref q1) (.ref q2) ∧ u1 = y1 ∧ r1 = m1 ∧ u2 = y2 ∧ r2 = m2)
def own_pl (sz ze : Int32) (ve : List Value) (q1 q2 : Addr) (r1 r2 : Nat) : Prop := (sz = (0 : Int32)) ∨ (sz = (1 : Int32) ∧ ze = (10 : Int32) ∧ ve = own_la (.ref q1) .null ∧ (r1 = 1 ∨ r1 = 2)) ∨ (sz = (2 : Int32) ∧ ze = (10 : Int32) ∧ ve = own_la (.ref q1) (.ref q2) ∧ (r1 = 1 ∨ r1 = 2) ∧ (r2 = 1 ∨ r2 = 2))
theorem own_selpl {sz ze : Int32} {ve : List Value} {q1 q2 : Addr} {m1 m2 r1 r2 : Nat} {y1 y2 u1 u2 : List Int32} (h1 : m1 ≤ 2) (h2 : m2 ≤ 2) (h : own_sel sz ze ve q1 q2 m1 m2 r1 r2 y1 y2 u1 u2) : own_pl sz ze ve q1 q2 r1 r2 := by
  rcases h with ⟨-, -, e⟩ | ⟨a, b, e, z, v, -, r⟩ | ⟨a, b, e, z, v, -, r⟩ | ⟨a, b, e, z, v, -, r, -, s⟩
  · exact Or.inl e
  · exact Or.inr (Or.inl ⟨e, z, v, by omega⟩)
  · exact Or.inr (Or.inl ⟨e, z, v, by omega⟩)
  · exact Or.inr (Or.inr ⟨e, z, v, by omega, by omega⟩)
theorem own_pd44 : parseMethodDescriptor "()Ljava/util/Iterator;" = some ⟨[], some (.object "java/util/Iterator")⟩ := by decide +kernel
theorem own_pd45 : parseMethodDescriptor "()Ljava/lang/Object;" = some ⟨[], some (.object "java/lang/Object")⟩ := by decide +kernel
theorem own_pd46 : parseMethodDescriptor "(Ljava/lang/Object;)Z" = some ⟨[(.object "java/lang/Object")], some .boolean⟩ := by decide +kernel
abbrev cd84 : ByteArray := prog_7_method_1_code
theorem D84 : own_DD cd84 [(0, .aload_n 0, 1), (1, .invokespecial 1, 3), (4, .aload_n 0, 1), (5, .new 7, 3), (8, .dup, 1), (9, .invokespecial 9, 3), (12, .putfield 10, 3), (15, .aload_n 1, 1), (16, .invokeinterface 16 1, 5), (21, .astore_n 2, 1), (22, .aload_n 2, 1), (23, .invokeinterface 22 1, 5), (28, .ifCond .eq 34, 3), (31, .aload_n 2, 1), (32, .invokeinterface 28 1, 5), (37, .checkcast 32, 3), (40, .astore_n 3, 1), (41, .aload_n 3, 1), (42, .invokevirtual 34, 3), (45, .ifCond .ne 14, 3), (59, .goto (-37), 3), (62, .return_, 1), (48, .aload_n 0, 1), (49, .getfield 10, 3), (52, .aload_n 3, 1), (53, .invokeinterface 37 2, 5), (58, .pop, 1)] := own_dk (by decide +kernel)
theorem own_pn16 : plainName "com/example/reliquary/reliquary/Secrets" = true := by first | (simp [plainName, overriddenIn]; done) | decide +kernel
def own_Q_sei (Z : State) (z_CS : Int32) (v_FMT : Value) (s_DC : Addr) (k_DC : ClassId) (v_IO : Value) (z_ l_ d_ : Addr) (kd_ : ClassId) (mc_ : Int32) (p1_ b1_ : Addr) (k1_ : ClassId) (y1_ : List Int32) (m1_ : Nat) (p2_ b2_ : Addr) (k2_ : ClassId) (y2_ : List Int32) (m2_ : Nat) (h0 : Heap) (n0 : Nat) (v : Option Value) (h : Heap) (L : List Loc) : Prop := ∃ w_ : Addr, ∃ e_ : Addr, ∃ ke_ : ClassId, ∃ ze_ : Int32, ∃ ve_ : List Value, ∃ sz_ : Int32, ∃ mo_ : Int32, ∃ q1_ : Addr, ∃ c1_ : Addr, ∃ j1_ : ClassId, ∃ u1_ : List Int32, ∃ r1_ : Nat, ∃ q2_ : Addr, ∃ c2_ : Addr, ∃ j2_ : ClassId, ∃ u2_ : List Int32, ∃ r2_ : Nat, (v = none) ∧ (Fr n0 L) ∧ (Keep h0 h [z_]) ∧ (h0.size ≤ w_) ∧ (Exa Z h z_ "com/example/reliquary/reliquary/Secrets") ∧ (Fld Z h z_ "com/example/reliquary/reliquary/Secrets" "parts" "Ljava/util/List;" (.ref w_)) ∧ (Exa Z h w_ "java/util/ArrayList") ∧ (Fld Z h w_ "java/util/ArrayList" "elementData" "[Ljava/lang/Object;" (.ref e_)) ∧ (Fld Z h w_ "java/util/ArrayList" "size" "I" (.int sz_)) ∧ (Fld Z h w_ "java/util/AbstractList" "modCount" "I" (.int mo_)) ∧ (Arv Z h e_ ke_ (.object "java/lang/Object") ze_ ve_ .null) ∧ (Exa Z h q1_ "java/lang/String") ∧ (Fld Z h q1_ "java/lang/String" "coder" "B" (.int (0 : Int32))) ∧ (Fld Z h q1_ "java/lang/String" "value" "[B" (.ref c1_)) ∧ (Arv Z h c1_ j1_ .byte (Int32.ofNat r1_) (own_vs u1_) (.int 0)) ∧ (Exa Z h q2_ "java/lang/String") ∧ (Fld Z h q2_ "java/lang/String" "coder" "B" (.int (0 : Int32))) ∧ (Fld Z h q2_ "java/lang/String" "value" "[B" (.ref c2_)) ∧ (Arv Z h c2_ j2_ .byte (Int32.ofNat r2_) (own_vs u2_) (.int 0)) ∧ (own_sel sz_ ze_ ve_ q1_ q2_ m1_ m2_ r1_ r2_ y1_ y2_ u1_ u2_)
abbrev yM83 : MethodName := ⟨"com/example/reliquary/reliquary/Secrets", "<init>", "(Ljava/util/Collection;)V"⟩
theorem rm_sei {l : Launch} {Z : State} {a0 : Array Value} (hw : own_hw a0 Z) {z_CS : Int32} {v_FMT : Value} {s_DC : Addr} {k_DC : ClassId} {v_IO : Value} {z_ l_ d_ : Addr} {kd_ : ClassId} {mc_ : Int32} {p1_ b1_ : Addr} {k1_ : ClassId} {y1_ : List Int32} {p2_ b2_ : Addr} {k2_ : ClassId} {y2_ : List Int32} (m1_ m2_ : Nat) {h0 : Heap} {n0 : Nat} (SB : own_Start Z z_CS v_FMT s_DC k_DC v_IO) (O0 : Old Z n0 h0) (pr0 : Exa Z h0 z_ "com/example/reliquary/reliquary/Secrets") (pr1 : Fld Z h0 z_ "com/example/reliquary/reliquary/Secrets" "parts" "Ljava/util/List;" .null) (pr2 : n0 ≤ z_) (pr3 : Exa Z h0 l_ "java/util/ArrayList") (pr4 : Fld Z h0 l_ "java/util/ArrayList" "elementData" "[Ljava/lang/Object;" (.ref d_)) (pr5 : Fld Z h0 l_ "java/util/ArrayList" "size" "I" (.int (2 : Int32))) (pr6 : Fld Z h0 l_ "java/util/AbstractList" "modCount" "I" (.int mc_)) (pr7 : Arv Z h0 d_ kd_ (.object "java/lang/Object") (10 : Int32) [(.ref p1_), (.ref p2_), .null, .null, .null, .null, .null, .null, .null, .null] .null) (pr8 : d_ ≠ z_) (pr9 : Exa Z h0 p1_ "java/lang/String") (pr10 : Fld Z h0 p1_ "java/lang/String" "coder" "B" (.int (0 : Int32))) (pr11 : Fld Z h0 p1_ "java/lang/String" "value" "[B" (.ref b1_)) (pr12 : Arv Z h0 b1_ k1_ .byte (Int32.ofNat m1_) (own_vs y1_) (.int 0)) (pr13 : Exa Z h0 p2_ "java/lang/String") (pr14 : Fld Z h0 p2_ "java/lang/String" "coder" "B" (.int (0 : Int32))) (pr15 : Fld Z h0 p2_ "java/lang/String" "value" "[B" (.ref b2_)) (pr16 : Arv Z h0 b2_ k2_ .byte (Int32.ofNat m2_) (own_vs y2_) (.int 0)) (pr17 : b1_ ≠ z_) (pr18 : b2_ ≠ z_) (pr19 : m1_ ≤ 99 ∧ m2_ ≤ 99) :
    oMet l Z yM83 prog_7_method_1_code 4 none [] (rmo 5 3 17 69) 3 17 #[(.ref z_), (.ref l_)] h0 (own_Q_sei Z z_CS v_FMT s_DC k_DC v_IO z_ l_ d_ kd_ mc_ p1_ b1_ k1_ y1_ m1_ p2_ b2_ k2_ y2_ m2_ h0 n0) := by
  refine oenter (plainFor_of_name own_pn16) #[vr z_, vr l_, .unset, .unset] (fun _ => rfl) ?_
  intro p e s m below meth c s₁ X0 hx hZ hby hml hret hown hnm hlk e0
  have N0 := Fr.nil n0
  have D := own_hb hby D84
  obtain ⟨-, -, -, -, -, -, -, V_DC, -⟩ := (id SB)
  have W := own_w hw
  have w12 := W 12 rfl
  have w33 := W 33 rfl
  have w98 := W 98 rfl
  have w111 := W 111 rfl
  have w124 := W 124 rfl
  have w125 := W 125 rfl
  have w126 := W 126 rfl
  have w127 := W 127 rfl
  have w128 := W 128 rfl
  have w129 := W 129 rfl
  have w130 := W 130 rfl
  have w131 := W 131 rfl
  have w132 := W 132 rfl
  have w151 := W 151 rfl
  have w152 := W 152 rfl
  have w153 := W 153 rfl
  have w154 := W 154 rfl
  have w155 := W 155 rfl
  refine o_aloadN X0 hx (D 0 rfl) rfl rfl ?_
  obtain ⟨T1, X1, e1, st1⟩ := initO X0 hx hZ hown (W 95 rfl) (W 21 rfl) (W 22 rfl) e0 (g := (mkF m 1 #[vr z_, vr l_, .unset, .unset] [(.ref z_)])) rfl (by rw [hml]; rfl) rfl (D 1 rfl) (by decide) (W := 0) (by show 2 * 0 + _ ≤ _; exact Nat.le_of_eq rfl) (by decide)
  refine ogoF st1 <| o_aloadN X1 hx (D 2 rfl) rfl rfl ?_
  obtain ⟨T2, _, X2, rfl, E2, A2, D2, -, st2⟩ := newO X1 hx hZ hown (W 96 rfl) (W 32 rfl) w33 e1 (g := (mkF m 5 #[vr z_, vr l_, .unset, .unset] [(.ref z_)])) rfl (D 3 rfl) (by decide) (by decide)
  obtain ⟨b2, g2⟩ : ∃ z, z = h0.size := ⟨_, rfl⟩
  rw [← g2] at A2 D2 st2
  have n0_b2 := own_on O0 g2
  have F2_modCount : Fld Z T2.heap b2 "java/util/AbstractList" "modCount" "I" (.int (0 : Int32)) := D2 (Or.inl (W 51 rfl)) (ty := .int) (by decide)
  have F2_elementData : Fld Z T2.heap b2 "java/util/ArrayList" "elementData" "[Ljava/lang/Object;" .null := D2 (Or.inl (W 54 rfl)) (ty := (.array (.object "java/lang/Object"))) (by decide)
  have F2_size : Fld Z T2.heap b2 "java/util/ArrayList" "size" "I" (.int (0 : Int32)) := D2 (Or.inl (W 66 rfl)) (ty := .int) (by decide)
  refine ogoF st2 <| o_dup X2 hx (D 4 rfl) rfl <| o_cI X2 hx hZ hown (rm_ali hw  SB (O0.ext E2) A2 F2_elementData F2_size F2_modCount n0_b2) rfl (W 97 rfl) (W 35 rfl) w33 (W 36 rfl) (by decide) rfl hml rfl [] [(.ref b2), (.ref z_)] own_pd17 rfl rfl 2 rfl (by decide) (D 5 rfl) fun T3 L3 v3 X3 hQ3 => ?_
  obtain ⟨rfl, Nq3, K3, p3_0, p3_1, p3_2, p3_3⟩ := hQ3
  have N3 := Fr.app N0 Nq3
  have y5 : z_ ≠ b2 := (Nat.ne_of_lt (Nat.lt_of_lt_of_le (Nat.lt_of_lt_of_le pr0.lt (Nat.le_refl _)) (Nat.le_of_eq g2.symm)))
  obtain ⟨T4, _, X4, rfl, W4, st4⟩ := putF X3 hx hZ hown (host := "") (Or.inl w98) Via.refl rfl ((Fld.ext E2 pr1).keep K3 (ninS y5 nin0)) ((Exa.ext E2 pr0).keep K3) (Or.inr ⟨(W 99 rfl), rfl, hnm⟩) (W 90 rfl) (ty := (.object "java/util/List")) (by decide) rfl rfl (g := (mkF m 12 #[vr z_, vr l_, .unset, .unset] [(.ref b2), (.ref z_)])) rfl rfl (D 6 rfl)
  have N4 := Fr.snoc X4 N3 pr2
  have F4 := Fld.same W4 ((Fld.ext E2 pr1).keep K3 (ninS y5 nin0))
  refine ogoF st4 <| o_aloadN X4 hx (D 7 rfl) rfl rfl ?_
  have y7 : l_ ≠ b2 := (Nat.ne_of_lt (Nat.lt_of_lt_of_le (Nat.lt_of_lt_of_le pr3.lt (Nat.le_refl _)) (Nat.le_of_eq g2.symm)))
  have y8 : l_ ≠ z_ := (ne_exa (Exa.wr W4 ((Exa.ext E2 pr3).keep K3)) (Exa.wr W4 ((Exa.ext E2 pr0).keep K3)) (by decide))
  have c9 := (Fld.other W4 ((Fld.ext E2 pr6).keep K3 (ninS y7 nin0)) (Or.inl y8))
  refine o_cF X4 hx hZ hown (rm_itr hw  (((O0.ext E2).keep K3 (allS n0_b2 all0)).wr W4 pr2) (Exa.wr W4 ((Exa.ext E2 pr3).keep K3)) c9) (W 100 rfl) (W 101 rfl) (mvT hZ (W 102 rfl)) (W 103 rfl) (W 104 rfl) (W 105 rfl) (W 106 rfl) (W 107 rfl) w33 (W 108 rfl) (by decide) rfl (Exa.wr W4 ((Exa.ext E2 pr3).keep K3)) hml rfl [] [] own_pd44 rfl rfl 0 rfl (by decide) (D 8 rfl) fun T6 L6 v6 X6 hQ6 => ?_
  obtain ⟨t_6, rfl, Nq6, K6, p6_0, p6_1, p6_2, p6_3, p6_4, p6_5⟩ := hQ6
  have N6 := Fr.app N4 Nq6
  have z10 := Nat.le_trans E2.1 K3.1
  have z11 := Nat.le_trans z10 (Keep.of_wr W4).1
  have n0_t_6 := own_og O0 (Nat.le_trans z11 p6_0)
  refine o_astoreN X6 hx (l' := #[vr z_, vr l_, vr t_6, .unset]) (D 9 rfl) rfl rfl <| o_aloadN X6 hx (D 10 rfl) rfl rfl ?_
  have c13 := ((((O0.ext E2).keep K3 (allS n0_b2 all0)).wr W4 pr2).keep K6 all0)
  have c14 := ((Fld.other W4 ((Fld.ext E2 pr5).keep K3 (ninS y7 nin0)) (Or.inl y8)).keep K6 nin0)
  refine o_cF X6 hx hZ hown (rm_hn1 hw  c13 p6_2 p6_3 c14 (show ¬ ((0 : Int32) = (2 : Int32)) from XT.ne32 (a := 0) (b := 2) (by omega) (by omega) (by omega))) w124 w125 (mvT hZ w126) w127 w128 w129 w130 w131 w111 w132 (by decide) rfl p6_1 hml rfl [] [] own_pd3 rfl rfl 0 rfl (by decide) (D 11 rfl) fun T12 L12 v12 X12 hQ12 => ?_
  obtain ⟨rfl, Nq12, q12⟩ := hQ12
  have N12 := Fr.app N6 Nq12
  refine o_ifNo X12 hx (D 12 rfl) (feq (by decide : ¬ ((1 : Int32) = (0 : Int32)))).1 <| o_aloadN X12 hx (D 13 rfl) rfl rfl ?_
  have c16 := ((Fld.other W4 ((Fld.ext E2 pr4).keep K3 (ninS y7 nin0)) (Or.inl y8)).keep K6 nin0)
  have y17 : d_ ≠ b2 := (Nat.ne_of_lt (Nat.lt_of_lt_of_le (Nat.lt_of_lt_of_le pr7.lt (Nat.le_refl _)) (Nat.le_of_eq g2.symm)))
  have c18 := ((((pr7.ext E2).keep K3 (ninS y17 nin0)).other W4 pr8).keep K6 nin0)
  have y19 : t_6 ≠ l_ := (Nat.ne_of_gt (Nat.lt_of_lt_of_le (Nat.lt_of_lt_of_le pr3.lt z11) p6_0))
  have y20 : t_6 ≠ d_ := (Nat.ne_of_gt (Nat.lt_of_lt_of_le (Nat.lt_of_lt_of_le pr7.lt z11) p6_0))
  refine o_cF X12 hx hZ hown (rm_nx0b hw  c13 p6_1 p6_2 p6_3 p6_4 p6_5 c16 c14 (c9.keep K6 nin0) c18 n0_t_6 y19 y20) (W 136 rfl) (W 137 rfl) (mvT hZ (W 138 rfl)) (W 139 rfl) (W 140 rfl) (W 141 rfl) (W 142 rfl) w131 w111 (W 143 rfl) (by decide) q12 p6_1 hml rfl [] [] own_pd45 rfl rfl 0 rfl (by decide) (D 14 rfl) fun T15 L15 v15 X15 hQ15 => ?_
  obtain ⟨rfl, Nq15, K15, p15_0, p15_1, p15_2, p15_3, p15_4⟩ := hQ15
  have N15 := Fr.app N12 Nq15
  obtain ⟨T21, X21, e21, st21⟩ := castY X15 hx hZ hown (W 150 rfl) rfl (Ins.self (((Exa.wr W4 ((Exa.ext E2 pr9).keep K3)).keep K6).keep K15)) (g := (mkF m 37 #[vr z_, vr l_, vr t_6, .unset] [(.ref p1_)])) rfl rfl (D 15 rfl)
  refine ogoF st21 <| o_astoreN X21 hx (l' := #[vr z_, vr l_, vr t_6, vr p1_]) (D 16 rfl) rfl rfl <| o_aloadN X21 hx (D 17 rfl) rfl rfl ?_
  have KR22 := ((((((Keep.refl h0 [z_]).ext E2).trans K3 (allS (Or.inr (Nat.le_trans (Nat.le_refl _) (Nat.le_of_eq g2.symm))) all0)).wr W4 (Or.inl (List.mem_of_getElem? (i := 0) rfl))).trans K6 all0).trans K15 (allS (Or.inr (Nat.le_trans z11 p6_0)) all0))
  by_cases hc23 : m1_ = 0
  · have y25 : p1_ ≠ b2 := (Nat.ne_of_lt (Nat.lt_of_lt_of_le (Nat.lt_of_lt_of_le pr9.lt (Nat.le_refl _)) (Nat.le_of_eq g2.symm)))
    have y26 : p1_ ≠ z_ := (ne_exa (((Exa.wr W4 ((Exa.ext E2 pr9).keep K3)).keep K6).keep K15) (((Exa.wr W4 ((Exa.ext E2 pr0).keep K3)).keep K6).keep K15) (by decide))
    have y27 : p1_ ≠ t_6 := (Nat.ne_of_lt (Nat.lt_of_lt_of_le (Nat.lt_of_lt_of_le pr9.lt z11) p6_0))
    have c28 := (((Fld.other W4 ((Fld.ext E2 pr10).keep K3 (ninS y25 nin0)) (Or.inl y26)).keep K6 nin0).keep K15 (ninS y27 nin0))
    have c29 := (((Fld.other W4 ((Fld.ext E2 pr11).keep K3 (ninS y25 nin0)) (Or.inl y26)).keep K6 nin0).keep K15 (ninS y27 nin0))
    have y30 : b1_ ≠ b2 := (Nat.ne_of_lt (Nat.lt_of_lt_of_le (Nat.lt_of_lt_of_le pr12.lt (Nat.le_refl _)) (Nat.le_of_eq g2.symm)))
    have y31 : b1_ ≠ t_6 := (Nat.ne_of_lt (Nat.lt_of_lt_of_le (Nat.lt_of_lt_of_le pr12.lt z11) p6_0))
    have c32 := (((((pr12.ext E2).keep K3 (ninS y30 nin0)).other W4 pr17).keep K6 nin0).keep K15 (ninS y31 nin0))
    refine o_cv X21 hx hZ hown (rm_emp1 hw m1_ (c13.keep K15 (allS n0_t_6 all0)) (((Exa.wr W4 ((Exa.ext E2 pr9).keep K3)).keep K6).keep K15) c28 c29 c32 (show (Int32.ofNat m1_) = (0 : Int32) from congrArg Int32.ofNat (show m1_ = 0 by omega))) w151 w152 w154 w153 w12 w155 (by decide) e21 (((Exa.wr W4 ((Exa.ext E2 pr9).keep K3)).keep K6).keep K15) hml rfl [] [] own_pd3 rfl rfl 0 rfl (by decide) (D 18 rfl) fun T24 L24 v24 X24 hQ24 => ?_
    obtain ⟨rfl, Nq24, q24⟩ := hQ24
    have N24 := Fr.app N15 Nq24
    refine o_ifYes X24 hx 59 (D 19 rfl) (feq (by decide : ¬ ((1 : Int32) = (0 : Int32)))).2 rfl <| o_goto X24 hx 22 (D 20 rfl) rfl <| o_aloadN X24 hx (D 10 rfl) rfl rfl <| o_cF X24 hx hZ hown (rm_hn1 hw  (c13.keep K15 (allS n0_t_6 all0)) p15_1 p15_2 (c14.keep K15 (ninS (Ne.symm y19) nin0)) (show ¬ ((1 : Int32) = (2 : Int32)) from XT.ne32 (a := 1) (b := 2) (by omega) (by omega) (by omega))) w124 w125 (mvT hZ w126) w127 w128 w129 w130 w131 w111 w132 (by decide) q24 p15_0 hml rfl [] [] own_pd3 rfl rfl 0 rfl (by decide) (D 11 rfl) fun T33 L33 v33 X33 hQ33 => ?_
    obtain ⟨rfl, Nq33, q33⟩ := hQ33
    have N33 := Fr.app N24 Nq33
    refine o_ifNo X33 hx (D 12 rfl) (feq (by decide : ¬ ((1 : Int32) = (0 : Int32)))).1 <| o_aloadN X33 hx (D 13 rfl) rfl rfl <| o_cF X33 hx hZ hown (rm_nx1b hw  (c13.keep K15 (allS n0_t_6 all0)) p15_0 p15_1 p15_2 p15_3 p15_4 (c16.keep K15 (ninS (Ne.symm y19) nin0)) (c14.keep K15 (ninS (Ne.symm y19) nin0)) ((c9.keep K6 nin0).keep K15 (ninS (Ne.symm y19) nin0)) (c18.keep K15 (ninS (Ne.symm y20) nin0)) n0_t_6 y19 y20) (W 136 rfl) (W 137 rfl) (mvT hZ (W 138 rfl)) (W 139 rfl) (W 140 rfl) (W 141 rfl) (W 142 rfl) w131 w111 (W 143 rfl) (by decide) q33 p15_0 hml rfl [] [] own_pd45 rfl rfl 0 rfl (by decide) (D 14 rfl) fun T34 L34 v34 X34 hQ34 => ?_
    obtain ⟨rfl, Nq34, K34, p34_0, p34_1, p34_2, p34_3, p34_4⟩ := hQ34
    have N34 := Fr.app N33 Nq34
    have c35 := ((((Exa.wr W4 ((Exa.ext E2 pr13).keep K3)).keep K6).keep K15).keep K34)
    obtain ⟨T36, X36, e36, st36⟩ := castY X34 hx hZ hown (W 150 rfl) rfl (Ins.self c35) (g := (mkF m 37 #[vr z_, vr l_, vr t_6, vr p1_] [(.ref p2_)])) rfl rfl (D 15 rfl)
    refine ogoF st36 <| o_astoreN X36 hx (l' := #[vr z_, vr l_, vr t_6, vr p2_]) (D 16 rfl) rfl rfl <| o_aloadN X36 hx (D 17 rfl) rfl rfl ?_
    by_cases hc38 : m2_ = 0
    · have c40 := ((c13.keep K15 (allS n0_t_6 all0)).keep K34 (allS n0_t_6 all0))
      have y41 : p2_ ≠ b2 := (Nat.ne_of_lt (Nat.lt_of_lt_of_le (Nat.lt_of_lt_of_le pr13.lt (Nat.le_refl _)) (Nat.le_of_eq g2.symm)))
      have c42 := ((((Exa.wr W4 ((Exa.ext E2 pr0).keep K3)).keep K6).keep K15).keep K34)
      have y43 : p2_ ≠ t_6 := (Nat.ne_of_lt (Nat.lt_of_lt_of_le (Nat.lt_of_lt_of_le pr13.lt z11) p6_0))
      have c44 := ((((Fld.other W4 ((Fld.ext E2 pr14).keep K3 (ninS y41 nin0)) (Or.inl (ne_exa c35 c42 (by decide)))).keep K6 nin0).keep K15 (ninS y43 nin0)).keep K34 (ninS y43 nin0))
      have c45 := ((((Fld.other W4 ((Fld.ext E2 pr15).keep K3 (ninS y41 nin0)) (Or.inl (ne_exa c35 c42 (by decide)))).keep K6 nin0).keep K15 (ninS y43 nin0)).keep K34 (ninS y43 nin0))
      have y46 : b2_ ≠ b2 := (Nat.ne_of_lt (Nat.lt_of_lt_of_le (Nat.lt_of_lt_of_le pr16.lt (Nat.le_refl _)) (Nat.le_of_eq g2.symm)))
      have y47 : b2_ ≠ t_6 := (Nat.ne_of_lt (Nat.lt_of_lt_of_le (Nat.lt_of_lt_of_le pr16.lt z11) p6_0))
      have c48 := ((((((pr16.ext E2).keep K3 (ninS y46 nin0)).other W4 pr18).keep K6 nin0).keep K15 (ninS y47 nin0)).keep K34 (ninS y47 nin0))
      refine o_cv X36 hx hZ hown (rm_emp1 hw m2_ c40 c35 c44 c45 c48 (show (Int32.ofNat m2_) = (0 : Int32) from congrArg Int32.ofNat (show m2_ = 0 by omega))) w151 w152 w154 w153 w12 w155 (by decide) e36 c35 hml rfl [] [] own_pd3 rfl rfl 0 rfl (by decide) (D 18 rfl) fun T39 L39 v39 X39 hQ39 => ?_
      obtain ⟨rfl, Nq39, q39⟩ := hQ39
      have N39 := Fr.app N34 Nq39
      refine o_ifYes X39 hx 59 (D 19 rfl) (feq (by decide : ¬ ((1 : Int32) = (0 : Int32)))).2 rfl <| o_goto X39 hx 22 (D 20 rfl) rfl <| o_aloadN X39 hx (D 10 rfl) rfl rfl ?_
      have c50 := ((c14.keep K15 (ninS (Ne.symm y19) nin0)).keep K34 (ninS (Ne.symm y19) nin0))
      refine o_cF X39 hx hZ hown (rm_hn0 hw  c40 p34_1 p34_2 c50 (show (2 : Int32) = (2 : Int32) from congrArg Int32.ofNat (show 2 = 2 by omega))) w124 w125 (mvT hZ w126) w127 w128 w129 w130 w131 w111 w132 (by decide) q39 p34_0 hml rfl [] [] own_pd3 rfl rfl 0 rfl (by decide) (D 11 rfl) fun T49 L49 v49 X49 hQ49 => ?_
      obtain ⟨rfl, Nq49, q49⟩ := hQ49
      have N49 := Fr.app N39 Nq49
      refine o_ifYes X49 hx 62 (D 12 rfl) (teq (by decide : (0 : Int32) = (0 : Int32))).1 rfl ?_
      have y51 : z_ ≠ t_6 := (Nat.ne_of_lt (Nat.lt_of_lt_of_le (Nat.lt_of_lt_of_le pr0.lt z11) p6_0))
      have c52 := (((F4.keep K6 nin0).keep K15 (ninS y51 nin0)).keep K34 (ninS y51 nin0))
      have z53 := Nat.le_trans K3.1 (Keep.of_wr W4).1
      have y54 : b2 ≠ t_6 := (Nat.ne_of_lt (Nat.lt_of_lt_of_le (Nat.lt_of_lt_of_le A2.lt z53) p6_0))
      have c55 := ((((Fld.other W4 p3_1 (Or.inl (Ne.symm y5))).keep K6 nin0).keep K15 (ninS y54 nin0)).keep K34 (ninS y54 nin0))
      have c56 := ((((Fld.other W4 p3_2 (Or.inl (Ne.symm y5))).keep K6 nin0).keep K15 (ninS y54 nin0)).keep K34 (ninS y54 nin0))
      have c57 := ((((Fld.other W4 p3_3 (Or.inl (Ne.symm y5))).keep K6 nin0).keep K15 (ninS y54 nin0)).keep K34 (ninS y54 nin0))
      have c58 := ((((Exa.wr W4 ((Exa.ext E2 pr9).keep K3)).keep K6).keep K15).keep K34)
      exact oendV X49 hx hlk hret (D 21 rfl) (by decide) q49 ⟨b2, s_DC, k_DC, (0 : Int32), [], (0 : Int32), (0 : Int32), p1_, b1_, k1_, y1_, m1_, p2_, b2_, k2_, y2_, m2_, rfl, N49, (KR22.trans K34 (allS (Or.inr (Nat.le_trans z11 p6_0)) all0)), (Nat.le_trans (Nat.le_refl _) (Nat.le_of_eq g2.symm)), c42, c52, ((((Exa.wr W4 p3_0).keep K6).keep K15).keep K34), c55, c56, c57, (V_DC.ext c40.2), c58, (c28.keep K34 (ninS y27 nin0)), (c29.keep K34 (ninS y27 nin0)), (c32.keep K34 (ninS y31 nin0)), c35, c44, c45, c48, (Or.inl ⟨hc23, hc38, rfl⟩)⟩
    · have c60 := ((c13.keep K15 (allS n0_t_6 all0)).keep K34 (allS n0_t_6 all0))
      have y61 : p2_ ≠ b2 := (Nat.ne_of_lt (Nat.lt_of_lt_of_le (Nat.lt_of_lt_of_le pr13.lt (Nat.le_refl _)) (Nat.le_of_eq g2.symm)))
      have c62 := ((((Exa.wr W4 ((Exa.ext E2 pr0).keep K3)).keep K6).keep K15).keep K34)
      have y63 : p2_ ≠ t_6 := (Nat.ne_of_lt (Nat.lt_of_lt_of_le (Nat.lt_of_lt_of_le pr13.lt z11) p6_0))
      have c64 := ((((Fld.other W4 ((Fld.ext E2 pr14).keep K3 (ninS y61 nin0)) (Or.inl (ne_exa c35 c62 (by decide)))).keep K6 nin0).keep K15 (ninS y63 nin0)).keep K34 (ninS y63 nin0))
      have c65 := ((((Fld.other W4 ((Fld.ext E2 pr15).keep K3 (ninS y61 nin0)) (Or.inl (ne_exa c35 c62 (by decide)))).keep K6 nin0).keep K15 (ninS y63 nin0)).keep K34 (ninS y63 nin0))
      have y66 : b2_ ≠ b2 := (Nat.ne_of_lt (Nat.lt_of_lt_of_le (Nat.lt_of_lt_of_le pr16.lt (Nat.le_refl _)) (Nat.le_of_eq g2.symm)))
      have y67 : b2_ ≠ t_6 := (Nat.ne_of_lt (Nat.lt_of_lt_of_le (Nat.lt_of_lt_of_le pr16.lt z11) p6_0))
      have c68 := ((((((pr16.ext E2).keep K3 (ninS y66 nin0)).other W4 pr18).keep K6 nin0).keep K15 (ninS y67 nin0)).keep K34 (ninS y67 nin0))
      refine o_cv X36 hx hZ hown (rm_emp0 hw m2_ c60 c35 c64 c65 c68 (show ¬ ((Int32.ofNat m2_) = (0 : Int32)) from XT.ne32 (a := m2_) (b := 0) (by omega) (by omega) (by omega))) w151 w152 w154 w153 w12 w155 (by decide) e36 c35 hml rfl [] [] own_pd3 rfl rfl 0 rfl (by decide) (D 18 rfl) fun T59 L59 v59 X59 hQ59 => ?_
      obtain ⟨rfl, Nq59, q59⟩ := hQ59
      have N59 := Fr.app N34 Nq59
      refine o_ifNo X59 hx (D 19 rfl) (teq (by decide : (0 : Int32) = (0 : Int32))).2 <| o_aloadN X59 hx (D 22 rfl) rfl rfl ?_
      have y69 : z_ ≠ t_6 := (Nat.ne_of_lt (Nat.lt_of_lt_of_le (Nat.lt_of_lt_of_le pr0.lt z11) p6_0))
      have c70 := (((F4.keep K6 nin0).keep K15 (ninS y69 nin0)).keep K34 (ninS y69 nin0))
      refine o_getF X59 hx hZ hown (host := "") (Or.inl w98) Via.refl q59 c70 (D 23 rfl) fun T71 X71 e71 => o_aloadN X71 hx (D 24 rfl) rfl rfl ?_
      have z73 := Nat.le_trans K3.1 (Keep.of_wr W4).1
      have y74 : b2 ≠ t_6 := (Nat.ne_of_lt (Nat.lt_of_lt_of_le (Nat.lt_of_lt_of_le A2.lt z73) p6_0))
      have c75 := ((((Fld.other W4 p3_1 (Or.inl (Ne.symm y5))).keep K6 nin0).keep K15 (ninS y74 nin0)).keep K34 (ninS y74 nin0))
      have c76 := ((((Fld.other W4 p3_2 (Or.inl (Ne.symm y5))).keep K6 nin0).keep K15 (ninS y74 nin0)).keep K34 (ninS y74 nin0))
      have c77 := ((((Fld.other W4 p3_3 (Or.inl (Ne.symm y5))).keep K6 nin0).keep K15 (ninS y74 nin0)).keep K34 (ninS y74 nin0))
      refine o_cF X71 hx hZ hown (rm_ad0 hw  SB c60 ((((Exa.wr W4 p3_0).keep K6).keep K15).keep K34) c75 c76 c77 n0_b2 c35) (W 356 rfl) (W 357 rfl) (mvT hZ (W 358 rfl)) (W 359 rfl) (W 60 rfl) (W 360 rfl) (W 361 rfl) (W 198 rfl) w33 (W 62 rfl) (by decide) e71 ((((Exa.wr W4 p3_0).keep K6).keep K15).keep K34) hml rfl [(.ref p2_)] [] own_pd46 rfl rfl 0 rfl (by decide) (D 25 rfl) fun T72 L72 v72 X72 hQ72 => ?_
      obtain ⟨d_72, kd_72, rfl, Nq72, K72, p72_0, p72_1, p72_2, p72_3, p72_4, p72_5, p72_6, p72_7⟩ := hQ72
      have N72 := Fr.app N59 Nq72
      have z78 := Nat.le_trans z11 K6.1
      have z79 := Nat.le_trans z78 K15.1
      have z80 := Nat.le_trans z79 K34.1
      have n0_d_72 := own_og O0 (Nat.le_trans z80 p72_0)
      refine o_pop X72 hx (D 26 rfl) rfl <| o_goto X72 hx 22 (D 20 rfl) rfl <| o_aloadN X72 hx (D 10 rfl) rfl rfl ?_
      have c82 := (((c14.keep K15 (ninS (Ne.symm y19) nin0)).keep K34 (ninS (Ne.symm y19) nin0)).keep K72 (ninS y7 nin0))
      refine o_cF X72 hx hZ hown (rm_hn0 hw  (c60.keep K72 (allS n0_b2 all0)) (p34_1.keep K72 (ninS (Ne.symm y74) nin0)) (p34_2.keep K72 (ninS (Ne.symm y74) nin0)) c82 (show (2 : Int32) = (2 : Int32) from congrArg Int32.ofNat (show 2 = 2 by omega))) w124 w125 (mvT hZ w126) w127 w128 w129 w130 w131 w111 w132 (by decide) rfl (p34_0.keep K72) hml rfl [] [] own_pd3 rfl rfl 0 rfl (by decide) (D 11 rfl) fun T81 L81 v81 X81 hQ81 => ?_
      obtain ⟨rfl, Nq81, q81⟩ := hQ81
      have N81 := Fr.app N72 Nq81
      refine o_ifYes X81 hx 62 (D 12 rfl) (teq (by decide : (0 : Int32) = (0 : Int32))).1 rfl ?_
      have c83 := (((((Exa.wr W4 ((Exa.ext E2 pr9).keep K3)).keep K6).keep K15).keep K34).keep K72)
      exact oendV X81 hx hlk hret (D 21 rfl) (by decide) q81 ⟨b2, d_72, kd_72, (10 : Int32), [(.ref p2_), .null, .null, .null, .null, .null, .null, .null, .null, .null], (1 : Int32), ((0 : Int32) + (1 : Int32)), p2_, b2_, k2_, y2_, m2_, p1_, b1_, k1_, y1_, m1_, rfl, N81, ((KR22.trans K34 (allS (Or.inr (Nat.le_trans z11 p6_0)) all0)).trans K72 (allS (Or.inr (Nat.le_trans (Nat.le_refl _) (Nat.le_of_eq g2.symm))) all0)), (Nat.le_trans (Nat.le_refl _) (Nat.le_of_eq g2.symm)), (c62.keep K72), (c70.keep K72 (ninS y5 nin0)), p72_1, p72_2, p72_3, p72_4, p72_5, (c35.keep K72), (c64.keep K72 (ninS y61 nin0)), (c65.keep K72 (ninS y61 nin0)), (c68.keep K72 (ninS y66 nin0)), c83, ((c28.keep K34 (ninS y27 nin0)).keep K72 (ninS y25 nin0)), ((c29.keep K34 (ninS y27 nin0)).keep K72 (ninS y25 nin0)), ((c32.keep K34 (ninS y31 nin0)).keep K72 (ninS y30 nin0)), (Or.inr (Or.inr (Or.inl ⟨hc23, hc38, rfl, rfl, rfl, rfl, rfl⟩)))⟩
  · have y85 : p1_ ≠ b2 := (Nat.ne_of_lt (Nat.lt_of_lt_of_le (Nat.lt_of_lt_of_le pr9.lt (Nat.le_refl _)) (Nat.le_of_eq g2.symm)))
    have y86 : p1_ ≠ z_ := (ne_exa (((Exa.wr W4 ((Exa.ext E2 pr9).keep K3)).keep K6).keep K15) (((Exa.wr W4 ((Exa.ext E2 pr0).keep K3)).keep K6).keep K15) (by decide))
    have y87 : p1_ ≠ t_6 := (Nat.ne_of_lt (Nat.lt_of_lt_of_le (Nat.lt_of_lt_of_le pr9.lt z11) p6_0))
    have c88 := (((Fld.other W4 ((Fld.ext E2 pr10).keep K3 (ninS y85 nin0)) (Or.inl y86)).keep K6 nin0).keep K15 (ninS y87 nin0))
    have c89 := (((Fld.other W4 ((Fld.ext E2 pr11).keep K3 (ninS y85 nin0)) (Or.inl y86)).keep K6 nin0).keep K15 (ninS y87 nin0))
    have y90 : b1_ ≠ b2 := (Nat.ne_of_lt (Nat.lt_of_lt_of_le (Nat.lt_of_lt_of_le pr12.lt (Nat.le_refl _)) (Nat.le_of_eq g2.symm)))
    have y91 : b1_ ≠ t_6 := (Nat.ne_of_lt (Nat.lt_of_lt_of_le (Nat.lt_of_lt_of_le pr12.lt z11) p6_0))
    have c92 := (((((pr12.ext E2).keep K3 (ninS y90 nin0)).other W4 pr17).keep K6 nin0).keep K15 (ninS y91 nin0))
    refine o_cv X21 hx hZ hown (rm_emp0 hw m1_ (c13.keep K15 (allS n0_t_6 all0)) (((Exa.wr W4 ((Exa.ext E2 pr9).keep K3)).keep K6).keep K15) c88 c89 c92 (show ¬ ((Int32.ofNat m1_) = (0 : Int32)) from XT.ne32 (a := m1_) (b := 0) (by omega) (by omega) (by omega))) w151 w152 w154 w153 w12 w155 (by decide) e21 (((Exa.wr W4 ((Exa.ext E2 pr9).keep K3)).keep K6).keep K15) hml rfl [] [] own_pd3 rfl rfl 0 rfl (by decide) (D 18 rfl) fun T84 L84 v84 X84 hQ84 => ?_
    obtain ⟨rfl, Nq84, q84⟩ := hQ84
    have N84 := Fr.app N15 Nq84
    refine o_ifNo X84 hx (D 19 rfl) (teq (by decide : (0 : Int32) = (0 : Int32))).2 <| o_aloadN X84 hx (D 22 rfl) rfl rfl ?_
    have y93 : z_ ≠ t_6 := (Nat.ne_of_lt (Nat.lt_of_lt_of_le (Nat.lt_of_lt_of_le pr0.lt z11) p6_0))
    refine o_getF X84 hx hZ hown (host := "") (Or.inl w98) Via.refl q84 ((F4.keep K6 nin0).keep K15 (ninS y93 nin0)) (D 23 rfl) fun T94 X94 e94 => o_aloadN X94 hx (D 24 rfl) rfl rfl ?_
    have z96 := Nat.le_trans K3.1 (Keep.of_wr W4).1
    have y97 : b2 ≠ t_6 := (Nat.ne_of_lt (Nat.lt_of_lt_of_le (Nat.lt_of_lt_of_le A2.lt z96) p6_0))
    have c98 := (((Fld.other W4 p3_1 (Or.inl (Ne.symm y5))).keep K6 nin0).keep K15 (ninS y97 nin0))
    have c99 := (((Fld.other W4 p3_2 (Or.inl (Ne.symm y5))).keep K6 nin0).keep K15 (ninS y97 nin0))
    have c100 := (((Fld.other W4 p3_3 (Or.inl (Ne.symm y5))).keep K6 nin0).keep K15 (ninS y97 nin0))
    refine o_cF X94 hx hZ hown (rm_ad0 hw  SB (c13.keep K15 (allS n0_t_6 all0)) (((Exa.wr W4 p3_0).keep K6).keep K15) c98 c99 c100 n0_b2 (((Exa.wr W4 ((Exa.ext E2 pr9).keep K3)).keep K6).keep K15)) (W 356 rfl) (W 357 rfl) (mvT hZ (W 358 rfl)) (W 359 rfl) (W 60 rfl) (W 360 rfl) (W 361 rfl) (W 198 rfl) w33 (W 62 rfl) (by decide) e94 (((Exa.wr W4 p3_0).keep K6).keep K15) hml rfl [(.ref p1_)] [] own_pd46 rfl rfl 0 rfl (by decide) (D 25 rfl) fun T95 L95 v95 X95 hQ95 => ?_
    obtain ⟨d_95, kd_95, rfl, Nq95, K95, p95_0, p95_1, p95_2, p95_3, p95_4, p95_5, p95_6, p95_7⟩ := hQ95
    have N95 := Fr.app N84 Nq95
    have z101 := Nat.le_trans z11 K6.1
    have z102 := Nat.le_trans z101 K15.1
    have n0_d_95 := own_og O0 (Nat.le_trans z102 p95_0)
    refine o_pop X95 hx (D 26 rfl) rfl <| o_goto X95 hx 22 (D 20 rfl) rfl <| o_aloadN X95 hx (D 10 rfl) rfl rfl ?_
    have c104 := ((c13.keep K15 (allS n0_t_6 all0)).keep K95 (allS n0_b2 all0))
    have c105 := ((c14.keep K15 (ninS (Ne.symm y19) nin0)).keep K95 (ninS y7 nin0))
    refine o_cF X95 hx hZ hown (rm_hn1 hw  c104 (p15_1.keep K95 (ninS (Ne.symm y97) nin0)) (p15_2.keep K95 (ninS (Ne.symm y97) nin0)) c105 (show ¬ ((1 : Int32) = (2 : Int32)) from XT.ne32 (a := 1) (b := 2) (by omega) (by omega) (by omega))) w124 w125 (mvT hZ w126) w127 w128 w129 w130 w131 w111 w132 (by decide) rfl (p15_0.keep K95) hml rfl [] [] own_pd3 rfl rfl 0 rfl (by decide) (D 11 rfl) fun T103 L103 v103 X103 hQ103 => ?_
    obtain ⟨rfl, Nq103, q103⟩ := hQ103
    have N103 := Fr.app N95 Nq103
    refine o_ifNo X103 hx (D 12 rfl) (feq (by decide : ¬ ((1 : Int32) = (0 : Int32)))).1 <| o_aloadN X103 hx (D 13 rfl) rfl rfl ?_
    have c107 := ((c16.keep K15 (ninS (Ne.symm y19) nin0)).keep K95 (ninS y7 nin0))
    have c108 := (((c9.keep K6 nin0).keep K15 (ninS (Ne.symm y19) nin0)).keep K95 (ninS y7 nin0))
    have c109 := ((c18.keep K15 (ninS (Ne.symm y20) nin0)).keep K95 (ninS y17 nin0))
    refine o_cF X103 hx hZ hown (rm_nx1b hw  c104 (p15_0.keep K95) (p15_1.keep K95 (ninS (Ne.symm y97) nin0)) (p15_2.keep K95 (ninS (Ne.symm y97) nin0)) (p15_3.keep K95 (ninS (Ne.symm y97) nin0)) (p15_4.keep K95 (ninS (Ne.symm y97) nin0)) c107 c105 c108 c109 n0_t_6 y19 y20) (W 136 rfl) (W 137 rfl) (mvT hZ (W 138 rfl)) (W 139 rfl) (W 140 rfl) (W 141 rfl) (W 142 rfl) w131 w111 (W 143 rfl) (by decide) q103 (p15_0.keep K95) hml rfl [] [] own_pd45 rfl rfl 0 rfl (by decide) (D 14 rfl) fun T106 L106 v106 X106 hQ106 => ?_
    obtain ⟨rfl, Nq106, K106, p106_0, p106_1, p106_2, p106_3, p106_4⟩ := hQ106
    have N106 := Fr.app N103 Nq106
    have c110 := (((((Exa.wr W4 ((Exa.ext E2 pr13).keep K3)).keep K6).keep K15).keep K95).keep K106)
    obtain ⟨T111, X111, e111, st111⟩ := castY X106 hx hZ hown (W 150 rfl) rfl (Ins.self c110) (g := (mkF m 37 #[vr z_, vr l_, vr t_6, vr p1_] [(.ref p2_)])) rfl rfl (D 15 rfl)
    refine ogoF st111 <| o_astoreN X111 hx (l' := #[vr z_, vr l_, vr t_6, vr p2_]) (D 16 rfl) rfl rfl <| o_aloadN X111 hx (D 17 rfl) rfl rfl ?_
    by_cases hc113 : m2_ = 0
    · have y115 : p2_ ≠ b2 := (Nat.ne_of_lt (Nat.lt_of_lt_of_le (Nat.lt_of_lt_of_le pr13.lt (Nat.le_refl _)) (Nat.le_of_eq g2.symm)))
      have c116 := (((((Exa.wr W4 ((Exa.ext E2 pr0).keep K3)).keep K6).keep K15).keep K95).keep K106)
      have y117 : p2_ ≠ t_6 := (Nat.ne_of_lt (Nat.lt_of_lt_of_le (Nat.lt_of_lt_of_le pr13.lt z11) p6_0))
      have c118 := (((((Fld.other W4 ((Fld.ext E2 pr14).keep K3 (ninS y115 nin0)) (Or.inl (ne_exa c110 c116 (by decide)))).keep K6 nin0).keep K15 (ninS y117 nin0)).keep K95 (ninS y115 nin0)).keep K106 (ninS y117 nin0))
      have c119 := (((((Fld.other W4 ((Fld.ext E2 pr15).keep K3 (ninS y115 nin0)) (Or.inl (ne_exa c110 c116 (by decide)))).keep K6 nin0).keep K15 (ninS y117 nin0)).keep K95 (ninS y115 nin0)).keep K106 (ninS y117 nin0))
      have y120 : b2_ ≠ b2 := (Nat.ne_of_lt (Nat.lt_of_lt_of_le (Nat.lt_of_lt_of_le pr16.lt (Nat.le_refl _)) (Nat.le_of_eq g2.symm)))
      have y121 : b2_ ≠ t_6 := (Nat.ne_of_lt (Nat.lt_of_lt_of_le (Nat.lt_of_lt_of_le pr16.lt z11) p6_0))
      have c122 := (((((((pr16.ext E2).keep K3 (ninS y120 nin0)).other W4 pr18).keep K6 nin0).keep K15 (ninS y121 nin0)).keep K95 (ninS y120 nin0)).keep K106 (ninS y121 nin0))
      refine o_cv X111 hx hZ hown (rm_emp1 hw m2_ (c104.keep K106 (allS n0_t_6 all0)) c110 c118 c119 c122 (show (Int32.ofNat m2_) = (0 : Int32) from congrArg Int32.ofNat (show m2_ = 0 by omega))) w151 w152 w154 w153 w12 w155 (by decide) e111 c110 hml rfl [] [] own_pd3 rfl rfl 0 rfl (by decide) (D 18 rfl) fun T114 L114 v114 X114 hQ114 => ?_
      obtain ⟨rfl, Nq114, q114⟩ := hQ114
      have N114 := Fr.app N106 Nq114
      refine o_ifYes X114 hx 59 (D 19 rfl) (feq (by decide : ¬ ((1 : Int32) = (0 : Int32)))).2 rfl <| o_goto X114 hx 22 (D 20 rfl) rfl <| o_aloadN X114 hx (D 10 rfl) rfl rfl <| o_cF X114 hx hZ hown (rm_hn0 hw  (c104.keep K106 (allS n0_t_6 all0)) p106_1 p106_2 (c105.keep K106 (ninS (Ne.symm y19) nin0)) (show (2 : Int32) = (2 : Int32) from congrArg Int32.ofNat (show 2 = 2 by omega))) w124 w125 (mvT hZ w126) w127 w128 w129 w130 w131 w111 w132 (by decide) q114 p106_0 hml rfl [] [] own_pd3 rfl rfl 0 rfl (by decide) (D 11 rfl) fun T123 L123 v123 X123 hQ123 => ?_
      obtain ⟨rfl, Nq123, q123⟩ := hQ123
      have N123 := Fr.app N114 Nq123
      refine o_ifYes X123 hx 62 (D 12 rfl) (teq (by decide : (0 : Int32) = (0 : Int32))).1 rfl ?_
      have c124 := ((((F4.keep K6 nin0).keep K15 (ninS y93 nin0)).keep K95 (ninS y5 nin0)).keep K106 (ninS y93 nin0))
      have y125 : d_95 ≠ t_6 := (Nat.ne_of_gt (Nat.lt_of_lt_of_le (Nat.lt_of_lt_of_le p6_1.lt K15.1) p95_0))
      have c126 := (((((Exa.wr W4 ((Exa.ext E2 pr9).keep K3)).keep K6).keep K15).keep K95).keep K106)
      exact oendV X123 hx hlk hret (D 21 rfl) (by decide) q123 ⟨b2, d_95, kd_95, (10 : Int32), [(.ref p1_), .null, .null, .null, .null, .null, .null, .null, .null, .null], (1 : Int32), ((0 : Int32) + (1 : Int32)), p1_, b1_, k1_, y1_, m1_, p2_, b2_, k2_, y2_, m2_, rfl, N123, ((KR22.trans K95 (allS (Or.inr (Nat.le_trans (Nat.le_refl _) (Nat.le_of_eq g2.symm))) all0)).trans K106 (allS (Or.inr (Nat.le_trans z11 p6_0)) all0)), (Nat.le_trans (Nat.le_refl _) (Nat.le_of_eq g2.symm)), c116, c124, (p95_1.keep K106), (p95_2.keep K106 (ninS y97 nin0)), (p95_3.keep K106 (ninS y97 nin0)), (p95_4.keep K106 (ninS y97 nin0)), (p95_5.keep K106 (ninS y125 nin0)), c126, ((c88.keep K95 (ninS y85 nin0)).keep K106 (ninS y87 nin0)), ((c89.keep K95 (ninS y85 nin0)).keep K106 (ninS y87 nin0)), ((c92.keep K95 (ninS y90 nin0)).keep K106 (ninS y91 nin0)), c110, c118, c119, c122, (Or.inr (Or.inl ⟨hc23, hc113, rfl, rfl, rfl, rfl, rfl⟩))⟩
    · have y128 : p2_ ≠ b2 := (Nat.ne_of_lt (Nat.lt_of_lt_of_le (Nat.lt_of_lt_of_le pr13.lt (Nat.le_refl _)) (Nat.le_of_eq g2.symm)))
      have c129 := (((((Exa.wr W4 ((Exa.ext E2 pr0).keep K3)).keep K6).keep K15).keep K95).keep K106)
      have y130 : p2_ ≠ t_6 := (Nat.ne_of_lt (Nat.lt_of_lt_of_le (Nat.lt_of_lt_of_le pr13.lt z11) p6_0))
      have c131 := (((((Fld.other W4 ((Fld.ext E2 pr14).keep K3 (ninS y128 nin0)) (Or.inl (ne_exa c110 c129 (by decide)))).keep K6 nin0).keep K15 (ninS y130 nin0)).keep K95 (ninS y128 nin0)).keep K106 (ninS y130 nin0))
      have c132 := (((((Fld.other W4 ((Fld.ext E2 pr15).keep K3 (ninS y128 nin0)) (Or.inl (ne_exa c110 c129 (by decide)))).keep K6 nin0).keep K15 (ninS y130 nin0)).keep K95 (ninS y128 nin0)).keep K106 (ninS y130 nin0))
      have y133 : b2_ ≠ b2 := (Nat.ne_of_lt (Nat.lt_of_lt_of_le (Nat.lt_of_lt_of_le pr16.lt (Nat.le_refl _)) (Nat.le_of_eq g2.symm)))
      have y134 : b2_ ≠ t_6 := (Nat.ne_of_lt (Nat.lt_of_lt_of_le (Nat.lt_of_lt_of_le pr16.lt z11) p6_0))
      have c135 := (((((((pr16.ext E2).keep K3 (ninS y133 nin0)).other W4 pr18).keep K6 nin0).keep K15 (ninS y134 nin0)).keep K95 (ninS y133 nin0)).keep K106 (ninS y134 nin0))
      refine o_cv X111 hx hZ hown (rm_emp0 hw m2_ (c104.keep K106 (allS n0_t_6 all0)) c110 c131 c132 c135 (show ¬ ((Int32.ofNat m2_) = (0 : Int32)) from XT.ne32 (a := m2_) (b := 0) (by omega) (by omega) (by omega))) w151 w152 w154 w153 w12 w155 (by decide) e111 c110 hml rfl [] [] own_pd3 rfl rfl 0 rfl (by decide) (D 18 rfl) fun T127 L127 v127 X127 hQ127 => ?_
      obtain ⟨rfl, Nq127, q127⟩ := hQ127
      have N127 := Fr.app N106 Nq127
      refine o_ifNo X127 hx (D 19 rfl) (teq (by decide : (0 : Int32) = (0 : Int32))).2 <| o_aloadN X127 hx (D 22 rfl) rfl rfl ?_
      have c136 := ((((F4.keep K6 nin0).keep K15 (ninS y93 nin0)).keep K95 (ninS y5 nin0)).keep K106 (ninS y93 nin0))
      refine o_getF X127 hx hZ hown (host := "") (Or.inl w98) Via.refl q127 c136 (D 23 rfl) fun T137 X137 e137 => o_aloadN X137 hx (D 24 rfl) rfl rfl ?_
      have y139 : d_95 ≠ t_6 := (Nat.ne_of_gt (Nat.lt_of_lt_of_le (Nat.lt_of_lt_of_le p6_1.lt K15.1) p95_0))
      refine o_cF X137 hx hZ hown (rm_ad1 hw  (c104.keep K106 (allS n0_t_6 all0)) (p95_1.keep K106) (p95_2.keep K106 (ninS y97 nin0)) (p95_3.keep K106 (ninS y97 nin0)) (p95_4.keep K106 (ninS y97 nin0)) n0_b2 n0_d_95 c110 (p95_5.keep K106 (ninS y139 nin0)) (p95_6.keep K106) p95_7) (W 356 rfl) (W 357 rfl) (mvT hZ (W 358 rfl)) (W 359 rfl) (W 60 rfl) (W 360 rfl) (W 361 rfl) (W 198 rfl) w33 (W 62 rfl) (by decide) e137 (p95_1.keep K106) hml rfl [(.ref p2_)] [] own_pd46 rfl rfl 0 rfl (by decide) (D 25 rfl) fun T138 L138 v138 X138 hQ138 => ?_
      obtain ⟨rfl, Nq138, K138, p138_0, p138_1, p138_2, p138_3, p138_4, p138_5⟩ := hQ138
      have N138 := Fr.app N127 Nq138
      refine o_pop X138 hx (D 26 rfl) rfl <| o_goto X138 hx 22 (D 20 rfl) rfl <| o_aloadN X138 hx (D 10 rfl) rfl rfl ?_
      have c141 := ((c104.keep K106 (allS n0_t_6 all0)).keep K138 (allS n0_b2 (allS n0_d_95 all0)))
      have c142 := (p106_1.keep K138 (ninS (Ne.symm y97) (ninS (Ne.symm y139) nin0)))
      have c143 := (p106_2.keep K138 (ninS (Ne.symm y97) (ninS (Ne.symm y139) nin0)))
      have y144 : l_ ≠ d_95 := (Nat.ne_of_lt (Nat.lt_of_lt_of_le (Nat.lt_of_lt_of_le pr3.lt z102) p95_0))
      have c145 := ((c105.keep K106 (ninS (Ne.symm y19) nin0)).keep K138 (ninS y7 (ninS y144 nin0)))
      refine o_cF X138 hx hZ hown (rm_hn0 hw  c141 c142 c143 c145 (show (2 : Int32) = (2 : Int32) from congrArg Int32.ofNat (show 2 = 2 by omega))) w124 w125 (mvT hZ w126) w127 w128 w129 w130 w131 w111 w132 (by decide) rfl (p106_0.keep K138) hml rfl [] [] own_pd3 rfl rfl 0 rfl (by decide) (D 11 rfl) fun T140 L140 v140 X140 hQ140 => ?_
      obtain ⟨rfl, Nq140, q140⟩ := hQ140
      have N140 := Fr.app N138 Nq140
      refine o_ifYes X140 hx 62 (D 12 rfl) (teq (by decide : (0 : Int32) = (0 : Int32))).1 rfl ?_
      have y146 : z_ ≠ d_95 := (Nat.ne_of_lt (Nat.lt_of_lt_of_le (Nat.lt_of_lt_of_le pr0.lt z102) p95_0))
      have c147 := ((((((Exa.wr W4 ((Exa.ext E2 pr9).keep K3)).keep K6).keep K15).keep K95).keep K106).keep K138)
      have y148 : p1_ ≠ d_95 := (Nat.ne_of_lt (Nat.lt_of_lt_of_le (Nat.lt_of_lt_of_le pr9.lt z102) p95_0))
      have c149 := (((c88.keep K95 (ninS y85 nin0)).keep K106 (ninS y87 nin0)).keep K138 (ninS y85 (ninS y148 nin0)))
      have c150 := (((c89.keep K95 (ninS y85 nin0)).keep K106 (ninS y87 nin0)).keep K138 (ninS y85 (ninS y148 nin0)))
      have y151 : b1_ ≠ d_95 := (Nat.ne_of_lt (Nat.lt_of_lt_of_le (Nat.lt_of_lt_of_le pr12.lt z102) p95_0))
      have c152 := (((c92.keep K95 (ninS y90 nin0)).keep K106 (ninS y91 nin0)).keep K138 (ninS y90 (ninS y151 nin0)))
      have y153 : p2_ ≠ d_95 := (Nat.ne_of_lt (Nat.lt_of_lt_of_le (Nat.lt_of_lt_of_le pr13.lt z102) p95_0))
      have y154 : b2_ ≠ d_95 := (Nat.ne_of_lt (Nat.lt_of_lt_of_le (Nat.lt_of_lt_of_le pr16.lt z102) p95_0))
      exact oendV X140 hx hlk hret (D 21 rfl) (by decide) q140 ⟨b2, d_95, kd_95, (10 : Int32), [(.ref p1_), (.ref p2_), .null, .null, .null, .null, .null, .null, .null, .null], (2 : Int32), (((0 : Int32) + (1 : Int32)) + (1 : Int32)), p1_, b1_, k1_, y1_, m1_, p2_, b2_, k2_, y2_, m2_, rfl, N140, (((KR22.trans K95 (allS (Or.inr (Nat.le_trans (Nat.le_refl _) (Nat.le_of_eq g2.symm))) all0)).trans K106 (allS (Or.inr (Nat.le_trans z11 p6_0)) all0)).trans K138 (allS (Or.inr (Nat.le_trans (Nat.le_refl _) (Nat.le_of_eq g2.symm))) (allS (Or.inr (Nat.le_trans z102 p95_0)) all0))), (Nat.le_trans (Nat.le_refl _) (Nat.le_of_eq g2.symm)), (c129.keep K138), (c136.keep K138 (ninS y5 (ninS y146 nin0))), p138_0, p138_1, p138_2, p138_3, p138_4, c147, c149, c150, c152, (c110.keep K138), (c131.keep K138 (ninS y128 (ninS y153 nin0))), (c132.keep K138 (ninS y128 (ninS y153 nin0))), (c135.keep K138 (ninS y133 (ninS y154 nin0))), (Or.inr (Or.inr (Or.inr ⟨hc23, hc113, rfl, rfl, rfl, rfl, rfl, rfl, rfl⟩)))⟩
def own_occ (xs ys : List Int32) (m : Nat) : Nat → Nat → Int64 → Int64
  | 0, _, w => w
  | k + 1, i, w => own_occ xs ys m k (i + 1) (if own_m xs ys m i then w ||| own_rng (Int32.ofNat i) (Int32.ofNat (i + m)) else w)
def own_mask (xs : List Int32) (n : Nat) (sz : Int32) (y1 : List Int32) (m1 : Nat) (y2 : List Int32) (m2 : Nat) : Int64 := if sz = (0 : Int32) then 0 else if sz = (1 : Int32) then own_occ xs y1 m1 (n + 1 - m1 - 0) 0 0 else own_occ xs y2 m2 (n + 1 - m2 - 0) 0 (own_occ xs y1 m1 (n + 1 - m1 - 0) 0 0)
theorem own_idxC (xs ys : List Int32) (m k : Nat) : ∀ f, (own_idxF xs ys m k f = (-1 : Int32) ∧ ∀ w, own_occ xs ys m k f w = w) ∨ ∃ j, own_idxF xs ys m k f = Int32.ofNat j ∧ f ≤ j ∧ j < f + k ∧ ∀ w, own_occ xs ys m k f w = own_occ xs ys m (k - (j + 1 - f)) (j + 1) (w ||| own_rng (Int32.ofNat j) (Int32.ofNat (j + m))) := by
  induction k with
  | zero => exact fun f => Or.inl ⟨rfl, fun w => rfl⟩
  | succ k ih =>
    intro f
    by_cases h : own_m xs ys m f
    · refine Or.inr ⟨f, own_idxY h, Nat.le_refl _, by omega, fun w => ?_⟩
      show own_occ xs ys m k (f + 1) (if own_m xs ys m f then _ else _) = _
      rw [if_pos h, show k + 1 - (f + 1 - f) = k by omega]
    · rw [own_idxN h]
      rcases ih (f + 1) with ⟨a, b⟩ | ⟨j, a, b, c, d⟩
      · refine Or.inl ⟨a, fun w => ?_⟩
        show own_occ xs ys m k (f + 1) (if own_m xs ys m f then _ else _) = _
        rw [if_neg h, b]
      · refine Or.inr ⟨j, a, by omega, by omega, fun w => ?_⟩
        show own_occ xs ys m k (f + 1) (if own_m xs ys m f then _ else _) = _
        rw [if_neg h, d, show k + 1 - (j + 1 - f) = k - (j + 1 - (f + 1)) by omega]
theorem own_rngF : ∀ (n : Fin 5) (j : Fin 16) (i : Fin 4) (m : Fin 3), j.1 < 2 ^ n.1 → 0 < m.1 → i.1 + m.1 ≤ n.1 → ∃ t : Fin 16, t.1 < 2 ^ n.1 ∧ (Int64.ofNat j.1 ||| own_rng (Int32.ofNat i.1) (Int32.ofNat (i.1 + m.1))) = Int64.ofNat t.1 := by decide +kernel
def own_lo (n : Nat) (w : Int64) : Prop := ∃ j : Nat, j < 2 ^ n ∧ w = Int64.ofNat j
theorem own_p16 {n : Nat} (hn : n ≤ 4) : 2 ^ n ≤ 16 := Nat.pow_le_pow_right (n := 2) (by decide) hn
theorem own_occlo {xs ys : List Int32} {m n : Nat} (hn : n ≤ 4) (hm : m = 1 ∨ m = 2) : ∀ k i w, i + k + m ≤ n + 1 → own_lo n w → own_lo n (own_occ xs ys m k i w) := by
  intro k
  induction k with
  | zero => exact fun i w _ h => h
  | succ k ih =>
    intro i w h1 ⟨j, hj, e⟩
    refine ih (i + 1) _ (by omega) ?_
    by_cases h : own_m xs ys m i
    · rw [if_pos h, e]
      have p := own_p16 hn
      obtain ⟨t, ht, et⟩ := own_rngF ⟨n, by omega⟩ ⟨j, by omega⟩ ⟨i, by omega⟩ ⟨m, by omega⟩ hj (by show 0 < m; omega) (by show i + m ≤ n; omega)
      exact ⟨t.1, ht, et⟩
    · rw [if_neg h]; exact ⟨j, hj, e⟩
theorem own_occ0 {xs ys : List Int32} {m n : Nat} (hn : n ≤ 4) (hm : m = 1 ∨ m = 2) {w : Int64} (h : own_lo n w) : own_lo n (own_occ xs ys m (n + 1 - m - 0) 0 w) := by
  by_cases q : m ≤ n
  · exact own_occlo hn hm _ _ _ (by omega) h
  · rw [show n + 1 - m - 0 = 0 by omega]; exact h
theorem own_masklo {xs : List Int32} {n : Nat} {sz ze : Int32} {ve : List Value} {q1 q2 : Addr} {y1 y2 : List Int32} {m1 m2 : Nat} (hn : n ≤ 4) (h : own_pl sz ze ve q1 q2 m1 m2) : own_lo n (own_mask xs n sz y1 m1 y2 m2) := by
  have z : own_lo n 0 := ⟨0, Nat.pow_pos (by decide), rfl⟩
  unfold own_mask
  rcases h with e | ⟨e, -, -, a⟩ | ⟨e, -, -, a, b⟩
  · rw [if_pos e]; exact z
  · rw [if_neg (by rw [e]; decide), if_pos e]; exact own_occ0 hn a z
  · rw [if_neg (by rw [e]; decide), if_neg (by rw [e]; decide)]; exact own_occ0 hn b (own_occ0 hn a z)
theorem own_nsbF : ∀ (j : Fin 16) (i : Fin 5), ((Int64.ofNat j.1 &&& own_msk (Int32.ofNat i.1)) = 0 ∨ own_small (Int64.ofNat j.1 &&& own_msk (Int32.ofNat i.1))) ∧ (¬ ((Int64.ofNat j.1 ^^^ (-1 : Int64)) &&& own_msk (Int32.ofNat i.1)) = (0 : Int64) ∧ own_small ((Int64.ofNat j.1 ^^^ (-1 : Int64)) &&& own_msk (Int32.ofNat i.1))) := by decide +kernel
theorem own_nsbP {n : Nat} {w : Int64} (hn : n ≤ 4) (h : own_lo n w) (i : Nat) (hi : i ≤ n) : ((w &&& own_msk (Int32.ofNat i)) = 0 ∨ own_small (w &&& own_msk (Int32.ofNat i))) ∧ (¬ ((w ^^^ (-1 : Int64)) &&& own_msk (Int32.ofNat i)) = (0 : Int64) ∧ own_small ((w ^^^ (-1 : Int64)) &&& own_msk (Int32.ofNat i))) := by
  obtain ⟨j, hj, rfl⟩ := h
  have p := own_p16 hn
  exact own_nsbF ⟨j, by omega⟩ ⟨i, by omega⟩
def own_R2 (n : Nat) (w : Int64) (b : Nat) (c d : Nat) : Prop := b < c ∧ c < d ∧ d ≤ n ∧ own_nsb w (Int32.ofNat b) = Int32.ofNat c ∧ own_ncb w (Int32.ofNat c) = Int32.ofNat d ∧ own_nsb w (Int32.ofNat d) = (-1 : Int32)
instance (n : Nat) (w : Int64) (b c d : Nat) : Decidable (own_R2 n w b c d) := by unfold own_R2; infer_instance
def own_R1 (n : Nat) (w : Int64) (a b : Nat) : Prop := a < b ∧ b ≤ n ∧ own_nsb w (Int32.ofNat 0) = Int32.ofNat a ∧ own_ncb w (Int32.ofNat a) = Int32.ofNat b
instance (n : Nat) (w : Int64) (a b : Nat) : Decidable (own_R1 n w a b) := by unfold own_R1; infer_instance
theorem own_runF : ∀ (n : Fin 5) (j : Fin 16), j.1 < 2 ^ n.1 → own_nsb (Int64.ofNat j.1) (Int32.ofNat 0) = (-1 : Int32) ∨ ∃ a b : Fin 5, own_R1 n.1 (Int64.ofNat j.1) a.1 b.1 ∧ (own_nsb (Int64.ofNat j.1) (Int32.ofNat b.1) = (-1 : Int32) ∨ ∃ c d : Fin 5, own_R2 n.1 (Int64.ofNat j.1) b.1 c.1 d.1) := by decide +kernel
theorem own_runs {n : Nat} {w : Int64} (hn : n ≤ 4) (h : own_lo n w) : own_nsb w (Int32.ofNat 0) = (-1 : Int32) ∨ (∃ a b, own_R1 n w a b ∧ own_nsb w (Int32.ofNat b) = (-1 : Int32)) ∨ ∃ a b c d, own_R1 n w a b ∧ own_R2 n w b c d := by
  obtain ⟨j, hj, rfl⟩ := h
  have p := own_p16 hn
  rcases own_runF ⟨n, by omega⟩ ⟨j, by omega⟩ hj with h | ⟨a, b, h, r | ⟨c, d, r⟩⟩
  · exact Or.inl h
  · exact Or.inr (Or.inl ⟨a.1, b.1, h, r⟩)
  · exact Or.inr (Or.inr ⟨a.1, b.1, c.1, d.1, h, r⟩)
def own_h1 (xs : List Int32) (a : Nat) : List Int32 := ([] ++ (xs.drop 0).take (a - 0)) ++ (own_HID.drop 0).take 11
def own_hide (xs : List Int32) (n : Nat) (w : Int64) : List Int32 :=
  if own_nsb w (Int32.ofNat 0) = (-1 : Int32) then ([] ++ (xs.drop 0).take (n - 0)) else
  let a := (own_nsb w (Int32.ofNat 0)).toNatClampNeg
  let b := (own_ncb w (Int32.ofNat a)).toNatClampNeg
  if own_nsb w (Int32.ofNat b) = (-1 : Int32) then own_h1 xs a ++ (xs.drop b).take (n - b) else
  let c := (own_nsb w (Int32.ofNat b)).toNatClampNeg
  let d := (own_ncb w (Int32.ofNat c)).toNatClampNeg
  ((own_h1 xs a ++ (xs.drop b).take (c - b)) ++ (own_HID.drop 0).take 11) ++ (xs.drop d).take (n - d)
theorem own_nm {a : Nat} (h : a ≤ 99) : ¬ Int32.ofNat a = (-1 : Int32) := fun q => by
  have := congrArg Int32.toInt q
  rw [Int32.toInt_ofNat_small (by omega)] at this
  have e : (-1 : Int32).toInt = -1 := rfl
  omega
theorem own_hide1 {xs : List Int32} {n a b : Nat} {w : Int64} (hn : n ≤ 4) (h : own_R1 n w a b) (r : own_nsb w (Int32.ofNat b) = (-1 : Int32)) : own_hide xs n w = own_h1 xs a ++ (xs.drop b).take (n - b) := by
  obtain ⟨h1, h2, h3, h4⟩ := h
  unfold own_hide
  rw [h3, if_neg (own_nm (by omega)), XT.n32 (by omega)]
  simp only []
  rw [h4, XT.n32 (by omega), if_pos r]
theorem own_hide2 {xs : List Int32} {n a b c d : Nat} {w : Int64} (hn : n ≤ 4) (h : own_R1 n w a b) (r : own_R2 n w b c d) : own_hide xs n w = ((own_h1 xs a ++ (xs.drop b).take (c - b)) ++ (own_HID.drop 0).take 11) ++ (xs.drop d).take (n - d) := by
  obtain ⟨h1, h2, h3, h4⟩ := h
  obtain ⟨r1, r2, r3, r4, r5, r6⟩ := r
  unfold own_hide
  rw [h3, if_neg (own_nm (by omega)), XT.n32 (by omega)]
  simp only []
  rw [h4, XT.n32 (by omega), r4, if_neg (own_nm (by omega)), XT.n32 (by omega), r5, XT.n32 (by omega)]
def own_sr (o : Slot) : Prop := o = .unset ∨ ∃ a : Addr, o = .val (.ref a)
theorem own_bw3 {n : Nat} {w : Int64} {u zw : Int32} {lw : List Value} (h : own_bw n w u zw lw) (hn : 0 < n) : zw = (1 : Int32) ∧ lw = [.long w] ∧ (u = (0 : Int32) ∨ u = (1 : Int32)) := by
  rcases h with ⟨h1, -, -⟩ | ⟨-, h1, h2, h3 | h3⟩
  · omega
  · exact ⟨h1, h2, Or.inl h3.1⟩
  · exact ⟨h1, h2, Or.inr h3⟩
theorem own_HID20 : own_HID.length = 11 ∧ 11 ≤ 20 := ⟨rfl, by decide⟩
theorem own_pd47 : parseMethodDescriptor "(Ljava/lang/CharSequence;II)Ljava/lang/StringBuilder;" = some ⟨[(.object "java/lang/CharSequence"), .int, .int], some (.object "java/lang/StringBuilder")⟩ := by decide +kernel
theorem own_pd48 : parseMethodDescriptor "()Ljava/lang/String;" = some ⟨[], some (.object "java/lang/String")⟩ := by decide +kernel
theorem own_pd49 : parseMethodDescriptor "(Ljava/lang/String;)Ljava/lang/StringBuilder;" = some ⟨[(.object "java/lang/String")], some (.object "java/lang/StringBuilder")⟩ := by decide +kernel
theorem own_pd50 : parseMethodDescriptor "(Ljava/lang/String;I)I" = some ⟨[(.object "java/lang/String"), .int], some .int⟩ := by decide +kernel
theorem own_pd51 : parseMethodDescriptor "(Ljava/lang/String;)I" = some ⟨[(.object "java/lang/String")], some .int⟩ := by decide +kernel
abbrev cd85 : ByteArray := prog_7_method_2_code
theorem D85 : own_DD cd85 [(0, .aload_n 1, 1), (1, .ifnonnull 5, 3), (6, .new 43, 3), (9, .dup, 1), (10, .aload_n 1, 1), (11, .invokevirtual 45, 3), (14, .invokespecial 49, 3), (17, .astore_n 2, 1), (18, .aload_n 0, 1), (19, .getfield 10, 3), (22, .invokeinterface 52 1, 5), (27, .astore_n 3, 1), (93, .new 64, 3), (96, .dup, 1), (97, .aload_n 1, 1), (98, .invokevirtual 45, 3), (101, .invokespecial 66, 3), (104, .astore_n 3, 1), (105, .iconst 0, 1), (106, .istore 4, 2), (108, .aload_n 2, 1), (109, .iconst 0, 1), (110, .invokevirtual 67, 3), (113, .istore 5, 2), (115, .iload 5, 2), (117, .ifCond .lt 37, 3), (154, .aload_n 3, 1), (155, .aload_n 1, 1), (156, .iload 4, 2), (158, .aload_n 1, 1), (159, .invokevirtual 45, 3), (162, .invokevirtual 71, 3), (165, .invokevirtual 83, 3), (168, .areturn, 1), (120, .aload_n 3, 1), (121, .aload_n 1, 1), (122, .iload 4, 2), (124, .iload 5, 2), (126, .invokevirtual 71, 3), (129, .ldc 75, 2), (131, .invokevirtual 77, 3), (134, .pop, 1), (135, .aload_n 2, 1), (136, .iload 5, 2), (138, .invokevirtual 80, 3), (141, .istore 4, 2), (143, .aload_n 2, 1), (144, .iload 4, 2), (146, .invokevirtual 67, 3), (149, .istore 5, 2), (151, .goto (-36), 3), (56, .iload 5, 2), (58, .ifCond .lt 32, 3), (90, .goto (-62), 3), (61, .aload_n 2, 1), (62, .iload 5, 2), (64, .iload 5, 2), (66, .aload 4, 2), (68, .invokevirtual 45, 3), (71, .iadd, 1), (72, .invokevirtual 57, 3), (75, .aload_n 1, 1), (76, .aload 4, 2), (78, .iload 5, 2), (80, .iconst 1, 1), (81, .iadd, 1), (82, .invokevirtual 61, 3), (85, .istore 5, 2), (87, .goto (-31), 3), (28, .aload_n 3, 1), (29, .invokeinterface 22 1, 5), (34, .ifCond .eq 59, 3), (37, .aload_n 3, 1), (38, .invokeinterface 28 1, 5), (43, .checkcast 32, 3), (46, .astore 4, 2), (48, .aload_n 1, 1), (49, .aload 4, 2), (51, .invokevirtual 53, 3), (54, .istore 5, 2), (4, .aconst_null, 1), (5, .areturn, 1)] := own_dk (by decide +kernel)
def own_Q_hdb (Z : State) (z_CS : Int32) (v_FMT : Value) (s_DC : Addr) (k_DC : ClassId) (v_IO : Value) (z_ x_ ba_ : Addr) (kb_ : ClassId) (xs_ : List Int32) (n_ : Nat) (w_ e_ : Addr) (ke_ : ClassId) (ze_ : Int32) (ve_ : List Value) (sz_ mo_ : Int32) (q1_ c1_ : Addr) (j1_ : ClassId) (u1_ : List Int32) (r1_ : Nat) (q2_ c2_ : Addr) (j2_ : ClassId) (u2_ : List Int32) (r2_ : Nat) (h0 : Heap) (n0 : Nat) (v : Option Value) (h : Heap) (L : List Loc) : Prop := ∃ r_ : Addr, ∃ rb_ : Addr, ∃ rk_ : ClassId, ∃ rs_ : List Int32, ∃ rn_ : Nat, (v = some (.ref r_)) ∧ (Fr n0 L) ∧ (Keep h0 h []) ∧ (h0.size ≤ r_) ∧ (h0.size ≤ rb_) ∧ (Exa Z h r_ "java/lang/String") ∧ (Fld Z h r_ "java/lang/String" "coder" "B" (.int (0 : Int32))) ∧ (Fld Z h r_ "java/lang/String" "value" "[B" (.ref rb_)) ∧ (Arv Z h rb_ rk_ .byte (Int32.ofNat rn_) (own_vs rs_) (.int 0)) ∧ (rs_.length = rn_ ∧ rn_ ≤ 60) ∧ (rs_ = own_hide xs_ n_ (own_mask xs_ n_ sz_ u1_ r1_ u2_ r2_))
abbrev yM84 : MethodName := ⟨"com/example/reliquary/reliquary/Secrets", "hide", "(Ljava/lang/String;)Ljava/lang/String;"⟩
theorem rm_hdb {l : Launch} {Z : State} {a0 : Array Value} (hw : own_hw a0 Z) {z_CS : Int32} {v_FMT : Value} {s_DC : Addr} {k_DC : ClassId} {v_IO : Value} {z_ x_ ba_ : Addr} {kb_ : ClassId} {xs_ : List Int32} {w_ e_ : Addr} {ke_ : ClassId} {ze_ : Int32} {ve_ : List Value} {sz_ mo_ : Int32} {q1_ c1_ : Addr} {j1_ : ClassId} {u1_ : List Int32} {q2_ c2_ : Addr} {j2_ : ClassId} {u2_ : List Int32} (n_ r1_ r2_ : Nat) {h0 : Heap} {n0 : Nat} (SB : own_Start Z z_CS v_FMT s_DC k_DC v_IO) (O0 : Old Z n0 h0) (pr0 : Exa Z h0 z_ "com/example/reliquary/reliquary/Secrets") (pr1 : Fld Z h0 z_ "com/example/reliquary/reliquary/Secrets" "parts" "Ljava/util/List;" (.ref w_)) (pr2 : Exa Z h0 w_ "java/util/ArrayList") (pr3 : Fld Z h0 w_ "java/util/ArrayList" "elementData" "[Ljava/lang/Object;" (.ref e_)) (pr4 : Fld Z h0 w_ "java/util/ArrayList" "size" "I" (.int sz_)) (pr5 : Fld Z h0 w_ "java/util/AbstractList" "modCount" "I" (.int mo_)) (pr6 : Arv Z h0 e_ ke_ (.object "java/lang/Object") ze_ ve_ .null) (pr7 : Exa Z h0 x_ "java/lang/String") (pr8 : Fld Z h0 x_ "java/lang/String" "coder" "B" (.int (0 : Int32))) (pr9 : Fld Z h0 x_ "java/lang/String" "value" "[B" (.ref ba_)) (pr10 : Arv Z h0 ba_ kb_ .byte (Int32.ofNat n_) (own_vs xs_) (.int 0)) (pr11 : Exa Z h0 q1_ "java/lang/String") (pr12 : Fld Z h0 q1_ "java/lang/String" "coder" "B" (.int (0 : Int32))) (pr13 : Fld Z h0 q1_ "java/lang/String" "value" "[B" (.ref c1_)) (pr14 : Arv Z h0 c1_ j1_ .byte (Int32.ofNat r1_) (own_vs u1_) (.int 0)) (pr15 : Exa Z h0 q2_ "java/lang/String") (pr16 : Fld Z h0 q2_ "java/lang/String" "coder" "B" (.int (0 : Int32))) (pr17 : Fld Z h0 q2_ "java/lang/String" "value" "[B" (.ref c2_)) (pr18 : Arv Z h0 c2_ j2_ .byte (Int32.ofNat r2_) (own_vs u2_) (.int 0)) (pr19 : xs_.length = n_ ∧ n_ ≤ 4) (pr20 : own_pl sz_ ze_ ve_ q1_ q2_ r1_ r2_) :
    oMetS l Z yM84 prog_7_method_2_code 6 (some (.object "java/lang/String")) [] (rmo 6 13 456 113) 13 456 #[(.ref z_), (.ref x_)] h0 (own_Q_hdb Z z_CS v_FMT s_DC k_DC v_IO z_ x_ ba_ kb_ xs_ n_ w_ e_ ke_ ze_ ve_ sz_ mo_ q1_ c1_ j1_ u1_ r1_ q2_ c2_ j2_ u2_ r2_ h0 n0) := by
  refine oenterS (plainFor_of_name own_pn16) #[vr z_, vr x_, .unset, .unset, .unset, .unset] (fun _ => rfl) ?_
  intro p e s m below meth c s₁ X0 hx hZ hby hml hret hown hnm hlk e0 hs0 H0 hS0
  have hEL := own_EW hw
  have wS := own_wS hw
  have N0 := Fr.nil n0
  have D := own_hb hby D85
  have W := own_w hw
  have w12 := W 12 rfl
  have w111 := W 111 rfl
  have w124 := W 124 rfl
  have w125 := W 125 rfl
  have w126 := W 126 rfl
  have w127 := W 127 rfl
  have w128 := W 128 rfl
  have w129 := W 129 rfl
  have w130 := W 130 rfl
  have w131 := W 131 rfl
  have w132 := W 132 rfl
  have w163 := W 163 rfl
  have w164 := W 164 rfl
  have w165 := W 165 rfl
  have w166 := W 166 rfl
  have w167 := W 167 rfl
  have w168 := W 168 rfl
  have w201 := W 201 rfl
  have w217 := W 217 rfl
  have w218 := W 218 rfl
  have w219 := W 219 rfl
  have w220 := W 220 rfl
  have w221 := W 221 rfl
  have w228 := W 228 rfl
  have w229 := W 229 rfl
  have w230 := W 230 rfl
  have w231 := W 231 rfl
  have w232 := W 232 rfl
  have w283 := W 283 rfl
  have w284 := W 284 rfl
  have w285 := W 285 rfl
  have w286 := W 286 rfl
  have w287 := W 287 rfl
  refine o_aloadN X0 hx (D 0 rfl) rfl rfl <| o_ifnonnullYes X0 hx 6 (D 1 rfl) rfl ?_
  obtain ⟨T1, _, X1, rfl, E1, A1, D1, -, st1⟩ := newO X0 hx hZ hown (W 161 rfl) (W 162 rfl) w163 e0 (g := (mkF m 6 #[vr z_, vr x_, .unset, .unset, .unset, .unset] [])) rfl (D 2 rfl) (by decide) (by decide)
  obtain ⟨b1, g1⟩ : ∃ z, z = h0.size := ⟨_, rfl⟩
  rw [← g1] at A1 D1 st1
  have n0_b1 := own_on O0 g1
  have H2 := CHv.ext E1 H0
  have F1_wordsInUse : Fld Z T1.heap b1 "java/util/BitSet" "wordsInUse" "I" (.int (0 : Int32)) := D1 (Or.inl (W 180 rfl)) (ty := .int) (by decide)
  have F1_sizeIsSticky : Fld Z T1.heap b1 "java/util/BitSet" "sizeIsSticky" "Z" (.int (0 : Int32)) := D1 (Or.inl (W 182 rfl)) (ty := .boolean) (by decide)
  have F1_words : Fld Z T1.heap b1 "java/util/BitSet" "words" "[J" .null := D1 (Or.inl (W 193 rfl)) (ty := (.array .long)) (by decide)
  refine ogoF st1 <| o_dup X1 hx (D 3 rfl) rfl <| o_aloadN X1 hx (D 4 rfl) rfl rfl <| o_cv X1 hx hZ hown (rm_slen hw n_ SB (O0.ext E1) (Exa.ext E1 pr7) (Fld.ext E1 pr8) (Fld.ext E1 pr9) (pr10.ext E1)) w164 w165 w167 w166 w12 w168 (by decide) rfl (Exa.ext E1 pr7) hml rfl [] [(.ref b1), (.ref b1)] own_pd5 rfl rfl 2 rfl (by decide) (D 5 rfl) fun T3 L3 v3 X3 hQ3 => ?_
  obtain ⟨rfl, Nq3, q3⟩ := hQ3
  have N3 := Fr.app N0 Nq3
  refine o_cI X3 hx hZ hown (rm_bsi hw n_ (O0.ext E1) A1 F1_words F1_wordsInUse F1_sizeIsSticky n0_b1 (by first | rfl | assumption | decide | omega)) rfl (W 175 rfl) (W 176 rfl) w163 (W 177 rfl) (by decide) q3 hml rfl [(.int (Int32.ofNat n_))] [(.ref b1)] own_pd24 rfl rfl 1 rfl (by decide) (D 6 rfl) fun T4 L4 v4 X4 hQ4 => ?_
  obtain ⟨wa_4, kw_4, zw_4, lw_4, rfl, Nq4, K4, p4_0, p4_1, p4_2, p4_3, p4_4, p4_5, p4_6⟩ := hQ4
  have N4 := Fr.app N3 Nq4
  have H5 := CHv.keep K4 (allS (Safe.exa hZ.alike A1 (by decide) (by decide)) all0) H2
  have n0_wa_4 := own_og O0 (Nat.le_trans E1.1 p4_0)
  refine o_astoreN X4 hx (l' := #[vr z_, vr x_, vr b1, .unset, .unset, .unset]) (D 7 rfl) rfl rfl <| o_aloadN X4 hx (D 8 rfl) rfl rfl ?_
  have y6 : z_ ≠ b1 := (Nat.ne_of_lt (Nat.lt_of_lt_of_le (Nat.lt_of_lt_of_le pr0.lt (Nat.le_refl _)) (Nat.le_of_eq g1.symm)))
  refine o_getF X4 hx hZ hown (host := "") (Or.inl (W 98 rfl)) Via.refl rfl ((Fld.ext E1 pr1).keep K4 (ninS y6 nin0)) (D 9 rfl) fun T7 X7 e7 => ?_
  have y9 : w_ ≠ b1 := (Nat.ne_of_lt (Nat.lt_of_lt_of_le (Nat.lt_of_lt_of_le pr2.lt (Nat.le_refl _)) (Nat.le_of_eq g1.symm)))
  refine o_cF X7 hx hZ hown (rm_itr hw  ((O0.ext E1).keep K4 (allS n0_b1 all0)) ((Exa.ext E1 pr2).keep K4) ((Fld.ext E1 pr5).keep K4 (ninS y9 nin0))) (W 194 rfl) (W 195 rfl) (mvT hZ (W 196 rfl)) (W 197 rfl) (W 104 rfl) (W 105 rfl) (W 106 rfl) (W 198 rfl) (W 33 rfl) (W 108 rfl) (by decide) e7 ((Exa.ext E1 pr2).keep K4) hml rfl [] [] own_pd44 rfl rfl 0 rfl (by decide) (D 10 rfl) fun T8 L8 v8 X8 hQ8 => ?_
  obtain ⟨t_8, rfl, Nq8, K8, p8_0, p8_1, p8_2, p8_3, p8_4, p8_5⟩ := hQ8
  have N8 := Fr.app N4 Nq8
  have H10 := CHv.keep K8 all0 H5
  have z11 := Nat.le_trans E1.1 K4.1
  have n0_t_8 := own_og O0 (Nat.le_trans z11 p8_0)
  refine o_astoreN X8 hx (l' := #[vr z_, vr x_, vr b1, vr t_8, .unset, .unset]) (D 11 rfl) rfl rfl ?_
  have ge_b1 : h0.size ≤ b1 := (Nat.le_trans (Nat.le_refl _) (Nat.le_of_eq g1.symm))
  have ge_wa_4 : h0.size ≤ wa_4 := (Nat.le_trans E1.1 p4_0)
  have ge_t_8 : h0.size ≤ t_8 := (Nat.le_trans z11 p8_0)
  have T93 : ∀ (w : Int64) (u : Int32) (lw : List Value) (o4 o5 : Slot) (T12 : State) (Lo12 : List Loc) (X12 : Stand p l e (rmo 6 13 456 113) (s.setVm s.vm) m #[(.ref z_), (.ref x_)] below meth c T12 Lo12 3 8) (N12 : Fr n0 Lo12) (O12 : Old Z n0 T12.heap) (K12 : Keep h0 T12.heap []) (C12 : CHr Z own_EL s.vm h0 s.vm T12.heap), Exa Z T12.heap b1 "java/util/BitSet" → Fld Z T12.heap b1 "java/util/BitSet" "words" "[J" (.ref wa_4) → Fld Z T12.heap b1 "java/util/BitSet" "wordsInUse" "I" (.int u) → Arv Z T12.heap wa_4 kw_4 .long zw_4 lw (.long 0) → Exa Z T12.heap wa_4 "[J" → own_sr o4 → own_sl o5 → own_bw n_ w u zw_4 lw → w = (own_mask xs_ n_ sz_ u1_ r1_ u2_ r2_) → Own p e below (oPostS Z (own_Q_hdb Z z_CS v_FMT s_DC k_DC v_IO z_ x_ ba_ kb_ xs_ n_ w_ e_ ke_ ze_ ve_ sz_ mo_ q1_ c1_ j1_ u1_ r1_ q2_ c2_ j2_ u2_ r2_ h0 n0) s 13 456) (T12.setTop (mkF m 93 #[vr z_, vr x_, vr b1, vr t_8, o4, o5] [])) := by
    intro w u lw o4 o5 T12 Lo12 X12 N12 O12 K12 C12 a12_0 a12_1 a12_2 a12_3 a12_4 h4 h5 hbw hwm
    have hlo : own_lo n_ w := by rw [hwm]; exact own_masklo (by omega) pr20
    rcases own_runs (by omega) hlo with h0r | ⟨a, b, hr1, h0r⟩ | ⟨a, b, c2, d, hr1, hr2⟩
    · have _h := h0r
      obtain ⟨T13, _, X13, rfl, E13, A13, D13, -, st13⟩ := newO X12 hx hZ hown (W 199 rfl) (W 200 rfl) w201 rfl (g := (mkF m 93 #[vr z_, vr x_, vr b1, vr t_8, o4, o5] [])) rfl (D 12 rfl) (by decide) (by decide)
      obtain ⟨b13, g13⟩ : ∃ z, z = T12.heap.size := ⟨_, rfl⟩
      rw [← g13] at A13 D13 st13
      have n0_b13 := own_on O12 g13
      have H14 := CHv.ext E13 C12.1
      have F13_value : Fld Z T13.heap b13 "java/lang/AbstractStringBuilder" "value" "[B" .null := D13 (Or.inl (W 214 rfl)) (ty := (.array .byte)) (by decide)
      have F13_coder : Fld Z T13.heap b13 "java/lang/AbstractStringBuilder" "coder" "B" (.int (0 : Int32)) := D13 (Or.inl (W 216 rfl)) (ty := .byte) (by decide)
      have F13_count : Fld Z T13.heap b13 "java/lang/AbstractStringBuilder" "count" "I" (.int (0 : Int32)) := D13 (Or.inl (W 252 rfl)) (ty := .int) (by decide)
      refine ogoF st13 <| o_dup X13 hx (D 13 rfl) rfl <| o_aloadN X13 hx (D 14 rfl) rfl rfl <| o_cv X13 hx hZ hown (rm_slen hw n_ SB (O12.ext E13) (Exa.ext E13 (pr7.keep K12)) (Fld.ext E13 (pr8.keep K12 nin0)) (Fld.ext E13 (pr9.keep K12 nin0)) ((pr10.keep K12 nin0).ext E13)) w164 w165 w167 w166 w12 w168 (by decide) rfl (Exa.ext E13 (pr7.keep K12)) hml rfl [] [(.ref b13), (.ref b13)] own_pd5 rfl rfl 2 rfl (by decide) (D 15 rfl) fun T15 L15 v15 X15 hQ15 => ?_
      obtain ⟨rfl, Nq15, q15⟩ := hQ15
      have N15 := Fr.app N12 Nq15
      refine o_cI X15 hx hZ hown (rm_sbi hw n_ SB (O12.ext E13) A13 F13_value F13_coder F13_count n0_b13 (by first | rfl | assumption | decide | omega)) rfl (W 202 rfl) (W 203 rfl) w201 (W 204 rfl) (by decide) q15 hml rfl [(.int (Int32.ofNat n_))] [(.ref b13)] own_pd24 rfl rfl 1 rfl (by decide) (D 16 rfl) fun T16 L16 v16 X16 hQ16 => ?_
      obtain ⟨vb_16, kv_16, rfl, Nq16, K16, p16_0, p16_1, p16_2, p16_3, p16_4, p16_5, p16_6⟩ := hQ16
      have N16 := Fr.app N15 Nq16
      have H17 := CHv.keep K16 (allS (Safe.exa hZ.alike A13 (by decide) (by decide)) all0) H14
      have z18 := Nat.le_trans K12.1 E13.1
      have n0_vb_16 := own_og O0 (Nat.le_trans z18 p16_0)
      refine o_astoreN X16 hx (l' := #[vr z_, vr x_, vr b1, vr b13, o4, o5]) (D 17 rfl) rfl rfl <| o_iconst X16 hx 0 (D 18 rfl) rfl <| o_istore X16 hx (l' := #[vr z_, vr x_, vr b1, vr b13, vi (0 : Int32), o5]) (D 19 rfl) (by rcases h4 with rfl | ⟨_, rfl⟩ <;> rfl) <| o_aloadN X16 hx (D 20 rfl) rfl rfl <| o_iconst X16 hx 0 (D 21 rfl) rfl ?_
      have y20 : b1 ≠ b13 := (Nat.ne_of_lt (Nat.lt_of_lt_of_le (Nat.lt_of_lt_of_le a12_0.lt (Nat.le_refl _)) (Nat.le_of_eq g13.symm)))
      have y21 : wa_4 ≠ b13 := (Nat.ne_of_lt (Nat.lt_of_lt_of_le (Nat.lt_of_lt_of_le a12_3.lt (Nat.le_refl _)) (Nat.le_of_eq g13.symm)))
      refine o_cv X16 hx hZ hown (rm_nsb hw w n_ 0 SB ((O12.ext E13).keep K16 (allS n0_b13 all0)) ((Exa.ext E13 a12_0).keep K16) ((Fld.ext E13 a12_1).keep K16 (ninS y20 nin0)) ((Fld.ext E13 a12_2).keep K16 (ninS y20 nin0)) ((a12_3.ext E13).keep K16 (ninS y21 nin0)) hbw (by omega) (own_nsbP (by omega) hlo 0 (by omega)).1) w217 w218 w220 w219 w163 w221 (by decide) rfl ((Exa.ext E13 a12_0).keep K16) hml rfl [(.int (0 : Int32))] [] own_pd23 rfl rfl 0 rfl (by decide) (D 22 rfl) fun T19 L19 v19 X19 hQ19 => ?_
      obtain ⟨rfl, Nq19, q19⟩ := hQ19
      have N19 := Fr.app N16 Nq19
      rw [h0r]
      refine o_istore X19 hx (l' := #[vr z_, vr x_, vr b1, vr b13, vi (0 : Int32), vi (-1 : Int32)]) (D 23 rfl) (by rcases h5 with rfl | ⟨_, rfl⟩ <;> rfl) <| o_iload X19 hx (D 24 rfl) rfl <| o_ifYes X19 hx 154 (D 25 rfl) (tlt (by decide : (-1 : Int32) < (0 : Int32))).1 rfl <| o_aloadN X19 hx (D 26 rfl) rfl rfl <| o_aloadN X19 hx (D 27 rfl) rfl rfl <| o_iload X19 hx (D 28 rfl) rfl <| o_aloadN X19 hx (D 29 rfl) rfl rfl ?_
      have y23 : x_ ≠ b13 := (Nat.ne_of_lt (Nat.lt_of_lt_of_le (Nat.lt_of_lt_of_le pr7.lt K12.1) (Nat.le_of_eq g13.symm)))
      have c24 := ((Fld.ext E13 (pr8.keep K12 nin0)).keep K16 (ninS y23 nin0))
      have c25 := ((Fld.ext E13 (pr9.keep K12 nin0)).keep K16 (ninS y23 nin0))
      have y26 : ba_ ≠ b13 := (Nat.ne_of_lt (Nat.lt_of_lt_of_le (Nat.lt_of_lt_of_le pr10.lt K12.1) (Nat.le_of_eq g13.symm)))
      refine o_cv X19 hx hZ hown (rm_slen hw n_ SB ((O12.ext E13).keep K16 (allS n0_b13 all0)) ((Exa.ext E13 (pr7.keep K12)).keep K16) c24 c25 (((pr10.keep K12 nin0).ext E13).keep K16 (ninS y26 nin0))) w164 w165 w167 w166 w12 w168 (by decide) q19 ((Exa.ext E13 (pr7.keep K12)).keep K16) hml rfl [] [(.int (0 : Int32)), (.ref x_), (.ref b13)] own_pd5 rfl rfl 3 rfl (by decide) (D 30 rfl) fun T22 L22 v22 X22 hQ22 => ?_
      obtain ⟨rfl, Nq22, q22⟩ := hQ22
      have N22 := Fr.app N19 Nq22
      have c28 := (Safe.keep K16 (allS (Safe.exa hZ.alike A13 (by decide) (by decide)) all0) H14 (Safe.new p16_0))
      refine o_cv X22 hx hZ hown (rm_sa0 hw n_ 0 n_ 0 n_ SB ((O12.ext E13).keep K16 (allS n0_b13 all0)) p16_1 p16_2 p16_3 p16_4 p16_5 p16_6 ⟨rfl, by omega, by omega⟩ n0_b13 n0_vb_16 ((Exa.ext E13 (pr7.keep K12)).keep K16) c24 c25 (((pr10.keep K12 nin0).ext E13).keep K16 (ninS y26 nin0)) (by omega) y26 (by omega) (by omega)) w228 w229 w231 w230 w201 w232 (by decide) q22 p16_1 hml rfl [(.ref x_), (.int (0 : Int32)), (.int (Int32.ofNat n_))] [] own_pd47 rfl rfl 0 rfl (by decide) (D 31 rfl) fun T27 L27 v27 X27 hQ27 => ?_
      obtain ⟨rfl, Nq27, K27, p27_0, p27_1, p27_2, p27_3, p27_4, p27_5, p27_6⟩ := hQ27
      have N27 := Fr.app N22 Nq27
      have H29 := CHv.keep K27 (allS (Safe.exa hZ.alike p16_1 (by decide) (by decide)) (allS c28 all0)) H17
      have c31 := (((O12.ext E13).keep K16 (allS n0_b13 all0)).keep K27 (allS n0_b13 (allS n0_vb_16 all0)))
      refine o_cv X27 hx hZ hown (rm_tos hw n_ (0 + (n_ - 0)) SB c31 p27_0 p27_1 p27_2 p27_3 p27_4 p27_5 p27_6) w283 w284 w286 w285 w201 w287 (by decide) rfl p27_0 hml rfl [] [] own_pd48 rfl rfl 0 rfl (by decide) (D 32 rfl) fun T30 L30 v30 X30 hQ30 => ?_
      obtain ⟨r_30, rb_30, rk_30, rfl, Nq30, K30, p30_0, p30_1, p30_2, p30_3, p30_4, p30_5⟩ := hQ30
      have N30 := Fr.app N27 Nq30
      have H32 := CHv.keep K30 all0 H29
      have z33 := Nat.le_trans z18 K16.1
      have z34 := Nat.le_trans z33 K27.1
      have n0_r_30 := own_og O0 (Nat.le_trans z34 p30_0)
      have n0_rb_30 := own_og O0 (Nat.le_trans z34 p30_1)
      have z35 := Nat.le_trans z34 K30.1
      exact oendSR X30 hx hlk hret rfl rfl rfl (D 33 rfl) (by decide) rfl hS0 (Nat.le_trans (Nat.zero_le _) z35) hZ hEL hs0 (CHr.trans (CHr.trans (CHr.trans (CHr.trans C12 (CHr.ext E13 C12.1)) (CHr.keep K16 (allS (Safe.exa hZ.alike A13 (by decide) (by decide)) all0) H14)) (CHr.keep K27 (allS (Safe.exa hZ.alike p16_1 (by decide) (by decide)) (allS c28 all0)) H17)) (CHr.keep K30 all0 H29)) ⟨r_30, rb_30, rk_30, ([] ++ (xs_.drop 0).take (n_ - 0)), (0 + (n_ - 0)), rfl, N30, ((((((Keep.refl h0 []).trans K12 all0).ext E13).trans K16 (allS (Or.inr (Nat.le_trans K12.1 (Nat.le_of_eq g13.symm))) all0)).trans K27 (allS (Or.inr (Nat.le_trans K12.1 (Nat.le_of_eq g13.symm))) (allS (Or.inr (Nat.le_trans z18 p16_0)) all0))).trans K30 all0), (Nat.le_trans z34 p30_0), (Nat.le_trans z34 p30_1), p30_2, p30_3, p30_4, p30_5, ⟨p27_6.1, by have q := p27_6; omega⟩, (by rw [← hwm]; exact (if_pos h0r).symm)⟩
    · obtain ⟨g1, g2, g3, g4⟩ := id hr1
      obtain ⟨T36, _, X36, rfl, E36, A36, D36, -, st36⟩ := newO X12 hx hZ hown (W 199 rfl) (W 200 rfl) w201 rfl (g := (mkF m 93 #[vr z_, vr x_, vr b1, vr t_8, o4, o5] [])) rfl (D 12 rfl) (by decide) (by decide)
      obtain ⟨b36, g36⟩ : ∃ z, z = T12.heap.size := ⟨_, rfl⟩
      rw [← g36] at A36 D36 st36
      have n0_b36 := own_on O12 g36
      have H37 := CHv.ext E36 C12.1
      have F36_value : Fld Z T36.heap b36 "java/lang/AbstractStringBuilder" "value" "[B" .null := D36 (Or.inl (W 214 rfl)) (ty := (.array .byte)) (by decide)
      have F36_coder : Fld Z T36.heap b36 "java/lang/AbstractStringBuilder" "coder" "B" (.int (0 : Int32)) := D36 (Or.inl (W 216 rfl)) (ty := .byte) (by decide)
      have F36_count : Fld Z T36.heap b36 "java/lang/AbstractStringBuilder" "count" "I" (.int (0 : Int32)) := D36 (Or.inl (W 252 rfl)) (ty := .int) (by decide)
      refine ogoF st36 <| o_dup X36 hx (D 13 rfl) rfl <| o_aloadN X36 hx (D 14 rfl) rfl rfl <| o_cv X36 hx hZ hown (rm_slen hw n_ SB (O12.ext E36) (Exa.ext E36 (pr7.keep K12)) (Fld.ext E36 (pr8.keep K12 nin0)) (Fld.ext E36 (pr9.keep K12 nin0)) ((pr10.keep K12 nin0).ext E36)) w164 w165 w167 w166 w12 w168 (by decide) rfl (Exa.ext E36 (pr7.keep K12)) hml rfl [] [(.ref b36), (.ref b36)] own_pd5 rfl rfl 2 rfl (by decide) (D 15 rfl) fun T38 L38 v38 X38 hQ38 => ?_
      obtain ⟨rfl, Nq38, q38⟩ := hQ38
      have N38 := Fr.app N12 Nq38
      refine o_cI X38 hx hZ hown (rm_sbi hw n_ SB (O12.ext E36) A36 F36_value F36_coder F36_count n0_b36 (by first | rfl | assumption | decide | omega)) rfl (W 202 rfl) (W 203 rfl) w201 (W 204 rfl) (by decide) q38 hml rfl [(.int (Int32.ofNat n_))] [(.ref b36)] own_pd24 rfl rfl 1 rfl (by decide) (D 16 rfl) fun T39 L39 v39 X39 hQ39 => ?_
      obtain ⟨vb_39, kv_39, rfl, Nq39, K39, p39_0, p39_1, p39_2, p39_3, p39_4, p39_5, p39_6⟩ := hQ39
      have N39 := Fr.app N38 Nq39
      have H40 := CHv.keep K39 (allS (Safe.exa hZ.alike A36 (by decide) (by decide)) all0) H37
      have z41 := Nat.le_trans K12.1 E36.1
      have n0_vb_39 := own_og O0 (Nat.le_trans z41 p39_0)
      refine o_astoreN X39 hx (l' := #[vr z_, vr x_, vr b1, vr b36, o4, o5]) (D 17 rfl) rfl rfl <| o_iconst X39 hx 0 (D 18 rfl) rfl <| o_istore X39 hx (l' := #[vr z_, vr x_, vr b1, vr b36, vi (0 : Int32), o5]) (D 19 rfl) (by rcases h4 with rfl | ⟨_, rfl⟩ <;> rfl) <| o_aloadN X39 hx (D 20 rfl) rfl rfl <| o_iconst X39 hx 0 (D 21 rfl) rfl ?_
      have y43 : b1 ≠ b36 := (Nat.ne_of_lt (Nat.lt_of_lt_of_le (Nat.lt_of_lt_of_le a12_0.lt (Nat.le_refl _)) (Nat.le_of_eq g36.symm)))
      have y44 : wa_4 ≠ b36 := (Nat.ne_of_lt (Nat.lt_of_lt_of_le (Nat.lt_of_lt_of_le a12_3.lt (Nat.le_refl _)) (Nat.le_of_eq g36.symm)))
      refine o_cv X39 hx hZ hown (rm_nsb hw w n_ 0 SB ((O12.ext E36).keep K39 (allS n0_b36 all0)) ((Exa.ext E36 a12_0).keep K39) ((Fld.ext E36 a12_1).keep K39 (ninS y43 nin0)) ((Fld.ext E36 a12_2).keep K39 (ninS y43 nin0)) ((a12_3.ext E36).keep K39 (ninS y44 nin0)) hbw (by omega) (own_nsbP (by omega) hlo 0 (by omega)).1) w217 w218 w220 w219 w163 w221 (by decide) rfl ((Exa.ext E36 a12_0).keep K39) hml rfl [(.int (0 : Int32))] [] own_pd23 rfl rfl 0 rfl (by decide) (D 22 rfl) fun T42 L42 v42 X42 hQ42 => ?_
      obtain ⟨rfl, Nq42, q42⟩ := hQ42
      have N42 := Fr.app N39 Nq42
      rw [g3]
      refine o_istore X42 hx (l' := #[vr z_, vr x_, vr b1, vr b36, vi (0 : Int32), vi (Int32.ofNat a)]) (D 23 rfl) (by rcases h5 with rfl | ⟨_, rfl⟩ <;> rfl) <| o_iload X42 hx (D 24 rfl) rfl <| o_ifNo X42 hx (D 25 rfl) (flt (show ¬ ((Int32.ofNat a) < (0 : Int32)) from XT.nlt32 (a := a) (b := 0) (by omega) (by omega))).1 <| o_aloadN X42 hx (D 34 rfl) rfl rfl <| o_aloadN X42 hx (D 35 rfl) rfl rfl <| o_iload X42 hx (D 36 rfl) rfl <| o_iload X42 hx (D 37 rfl) rfl ?_
      have y46 : x_ ≠ b36 := (Nat.ne_of_lt (Nat.lt_of_lt_of_le (Nat.lt_of_lt_of_le pr7.lt K12.1) (Nat.le_of_eq g36.symm)))
      have c47 := ((Fld.ext E36 (pr8.keep K12 nin0)).keep K39 (ninS y46 nin0))
      have c48 := ((Fld.ext E36 (pr9.keep K12 nin0)).keep K39 (ninS y46 nin0))
      have y49 : ba_ ≠ b36 := (Nat.ne_of_lt (Nat.lt_of_lt_of_le (Nat.lt_of_lt_of_le pr10.lt K12.1) (Nat.le_of_eq g36.symm)))
      have c50 := (Safe.keep K39 (allS (Safe.exa hZ.alike A36 (by decide) (by decide)) all0) H37 (Safe.new p39_0))
      refine o_cv X42 hx hZ hown (rm_sa0 hw n_ 0 n_ 0 a SB ((O12.ext E36).keep K39 (allS n0_b36 all0)) p39_1 p39_2 p39_3 p39_4 p39_5 p39_6 ⟨rfl, by omega, by omega⟩ n0_b36 n0_vb_39 ((Exa.ext E36 (pr7.keep K12)).keep K39) c47 c48 (((pr10.keep K12 nin0).ext E36).keep K39 (ninS y49 nin0)) (by omega) y49 (by omega) (by omega)) w228 w229 w231 w230 w201 w232 (by decide) q42 p39_1 hml rfl [(.ref x_), (.int (0 : Int32)), (.int (Int32.ofNat a))] [] own_pd47 rfl rfl 0 rfl (by decide) (D 38 rfl) fun T45 L45 v45 X45 hQ45 => ?_
      obtain ⟨rfl, Nq45, K45, p45_0, p45_1, p45_2, p45_3, p45_4, p45_5, p45_6⟩ := hQ45
      have N45 := Fr.app N42 Nq45
      have H51 := CHv.keep K45 (allS (Safe.exa hZ.alike p39_1 (by decide) (by decide)) (allS c50 all0)) H40
      have c52 := (Safe.keep K45 (allS (Safe.exa hZ.alike p39_1 (by decide) (by decide)) (allS c50 all0)) H40 c50)
      have z54 := Nat.le_trans z41 K39.1
      have z55 := Nat.le_trans z54 K45.1
      obtain ⟨a53, T53, _, ks53, b53, kk53, X53, rfl, E53, hS53, hk53, hZ53, hown53, Ex53, Fc53, Fv53, Va53, la53, lb53, C53, -, Nx53, st53⟩ := ldcCH X45 hx hZ hown (W 432 rfl) wS rfl hS0 (Nat.le_trans (Nat.zero_le _) z55) hEL (List.mem_of_getElem? (i := 0) rfl) H51 (vs := [(.int (40 : Int32)), (.int (110 : Int32)), (.int (111 : Int32)), (.int (116 : Int32)), (.int (32 : Int32)), (.int (115 : Int32)), (.int (104 : Int32)), (.int (111 : Int32)), (.int (119 : Int32)), (.int (110 : Int32)), (.int (41 : Int32))]) (z := (11 : Int32)) ⟨by decide, by decide⟩ (by decide) rfl (g := (mkF m 129 #[vr z_, vr x_, vr b1, vr b36, vi (0 : Int32), vi (Int32.ofNat a)] [(.ref b36)])) rfl (D 39 rfl) (n := 44) (by decide) (by decide) (by decide) (by decide)
      have H56 := C53.1
      have z57 := Nat.le_trans K39.1 K45.1
      have c58 := (CHr.safe C53 (Nat.lt_of_lt_of_le A36.lt z57) (Safe.exa hZ.alike p45_0 (by decide) (by decide)))
      refine ogoF st53 ?_
      have VH59 : Arv Z T53.heap b53 kk53 .byte (Int32.ofNat 11) (own_vs own_HID) (.int 0) := Va53
      have c61 := ((((O12.ext E36).keep K39 (allS n0_b36 all0)).keep K45 (allS n0_b36 (allS n0_vb_39 all0))).ext E53)
      refine o_cv X53 hx hZ53 hown53 (rm_ssG hw n_ (0 + (a - 0)) 11 SB c61 (Exa.ext E53 p45_0) (Fld.ext E53 p45_1) (Fld.ext E53 p45_2) (Fld.ext E53 p45_3) (p45_4.ext E53) (Exa.ext E53 p45_5) p45_6 n0_b36 n0_vb_39 Ex53 Fc53 Fv53 VH59 own_HID20 (Ne.symm (Nx53 _ c58).2) (by omega)) (W 433 rfl) (W 434 rfl) (W 436 rfl) (W 435 rfl) w201 (W 437 rfl) (by decide) rfl (Exa.ext E53 p45_0) hml rfl [(.ref a53)] [] own_pd49 rfl rfl 0 rfl (by decide) (D 40 rfl) fun T60 L60 v60 X60 hQ60 => ?_
      obtain ⟨vc_60, kx_60, rfl, Nq60, K60, p60_0, p60_1, p60_2, p60_3, p60_4, p60_5, p60_6, p60_7⟩ := hQ60
      have N60 := Fr.app N45 Nq60
      have H62 := CHv.keep K60 (allS c58 all0) H56
      have z63 := Nat.le_trans z55 E53.1
      have n0_vc_60 := own_og O0 (Nat.le_trans z63 p60_0)
      refine o_pop X60 hx (D 41 rfl) rfl <| o_aloadN X60 hx (D 42 rfl) rfl rfl <| o_iload X60 hx (D 43 rfl) rfl ?_
      have hu1 : u = (1 : Int32) := by
        rcases own_bw2 hbw with ⟨-, q⟩ | ⟨q, -⟩
        · rw [q] at g3; exact absurd (g3.symm.trans (by decide)) (own_nm (a := a) (by omega))
        · exact q
      have c65 := ((Exa.ext E53 (((Exa.ext E36 a12_0).keep K39).keep K45)).keep K60)
      have y66 : b1 ≠ vb_39 := (Nat.ne_of_lt (Nat.lt_of_lt_of_le (Nat.lt_of_lt_of_le a12_0.lt E36.1) p39_0))
      have c67 := ((Fld.ext E53 (((Fld.ext E36 a12_1).keep K39 (ninS y43 nin0)).keep K45 (ninS y43 (ninS y66 nin0)))).keep K60 (ninS y43 nin0))
      have c68 := ((Fld.ext E53 (((Fld.ext E36 a12_2).keep K39 (ninS y43 nin0)).keep K45 (ninS y43 (ninS y66 nin0)))).keep K60 (ninS y43 nin0))
      have y69 : wa_4 ≠ vb_39 := (Nat.ne_of_lt (Nat.lt_of_lt_of_le (Nat.lt_of_lt_of_le a12_3.lt E36.1) p39_0))
      have c70 := (((((a12_3.ext E36).keep K39 (ninS y44 nin0)).keep K45 (ninS y44 (ninS y69 nin0))).ext E53).keep K60 (ninS y44 nin0))
      refine o_cv X60 hx hZ53 hown53 (rm_ncb hw w n_ a SB (c61.keep K60 (allS n0_b36 all0)) c65 c67 c68 c70 hbw (by omega) hu1 (own_nsbP (by omega) hlo a (by omega)).2) (W 479 rfl) (W 480 rfl) (W 482 rfl) (W 481 rfl) w163 (W 483 rfl) (by decide) rfl c65 hml rfl [(.int (Int32.ofNat a))] [] own_pd23 rfl rfl 0 rfl (by decide) (D 44 rfl) fun T64 L64 v64 X64 hQ64 => ?_
      obtain ⟨rfl, Nq64, q64⟩ := hQ64
      have N64 := Fr.app N60 Nq64
      rw [g4]
      refine o_istore X64 hx (l' := #[vr z_, vr x_, vr b1, vr b36, vi (Int32.ofNat b), vi (Int32.ofNat a)]) (D 45 rfl) rfl <| o_aloadN X64 hx (D 46 rfl) rfl rfl <| o_iload X64 hx (D 47 rfl) rfl <| o_cv X64 hx hZ53 hown53 (rm_nsb hw w n_ b SB (c61.keep K60 (allS n0_b36 all0)) c65 c67 c68 c70 hbw (by omega) (own_nsbP (by omega) hlo b (by omega)).1) w217 w218 w220 w219 w163 w221 (by decide) q64 c65 hml rfl [(.int (Int32.ofNat b))] [] own_pd23 rfl rfl 0 rfl (by decide) (D 48 rfl) fun T71 L71 v71 X71 hQ71 => ?_
      obtain ⟨rfl, Nq71, q71⟩ := hQ71
      have N71 := Fr.app N64 Nq71
      rw [h0r]
      refine o_istore X71 hx (l' := #[vr z_, vr x_, vr b1, vr b36, vi (Int32.ofNat b), vi (-1 : Int32)]) (D 49 rfl) rfl <| o_goto X71 hx 115 (D 50 rfl) rfl <| o_iload X71 hx (D 24 rfl) rfl <| o_ifYes X71 hx 154 (D 25 rfl) (tlt (by decide : (-1 : Int32) < (0 : Int32))).1 rfl <| o_aloadN X71 hx (D 26 rfl) rfl rfl <| o_aloadN X71 hx (D 27 rfl) rfl rfl <| o_iload X71 hx (D 28 rfl) rfl <| o_aloadN X71 hx (D 29 rfl) rfl rfl ?_
      have c73 := ((Exa.ext E53 (((Exa.ext E36 (pr7.keep K12)).keep K39).keep K45)).keep K60)
      have y74 : x_ ≠ vb_39 := (Nat.ne_of_lt (Nat.lt_of_lt_of_le (Nat.lt_of_lt_of_le pr7.lt z41) p39_0))
      have c75 := ((Fld.ext E53 (c47.keep K45 (ninS y46 (ninS y74 nin0)))).keep K60 (ninS y46 nin0))
      have c76 := ((Fld.ext E53 (c48.keep K45 (ninS y46 (ninS y74 nin0)))).keep K60 (ninS y46 nin0))
      have y77 : ba_ ≠ vb_39 := (Nat.ne_of_lt (Nat.lt_of_lt_of_le (Nat.lt_of_lt_of_le pr10.lt z41) p39_0))
      have c78 := ((((((pr10.keep K12 nin0).ext E36).keep K39 (ninS y49 nin0)).keep K45 (ninS y49 (ninS y77 nin0))).ext E53).keep K60 (ninS y49 nin0))
      refine o_cv X71 hx hZ53 hown53 (rm_slen hw n_ SB (c61.keep K60 (allS n0_b36 all0)) c73 c75 c76 c78) w164 w165 w167 w166 w12 w168 (by decide) q71 c73 hml rfl [] [(.int (Int32.ofNat b)), (.ref x_), (.ref b36)] own_pd5 rfl rfl 3 rfl (by decide) (D 30 rfl) fun T72 L72 v72 X72 hQ72 => ?_
      obtain ⟨rfl, Nq72, q72⟩ := hQ72
      have N72 := Fr.app N71 Nq72
      have KR79 := (((((((Keep.refl h0 []).trans K12 all0).ext E36).trans K39 (allS (Or.inr (Nat.le_trans K12.1 (Nat.le_of_eq g36.symm))) all0)).trans K45 (allS (Or.inr (Nat.le_trans K12.1 (Nat.le_of_eq g36.symm))) (allS (Or.inr (Nat.le_trans z41 p39_0)) all0))).ext E53).trans K60 (allS (Or.inr (Nat.le_trans K12.1 (Nat.le_of_eq g36.symm))) all0))
      have CR79 := (CHr.trans (CHr.trans (CHr.trans (CHr.trans (CHr.trans C12 (CHr.ext E36 C12.1)) (CHr.keep K39 (allS (Safe.exa hZ.alike A36 (by decide) (by decide)) all0) H37)) (CHr.keep K45 (allS (Safe.exa hZ.alike p39_1 (by decide) (by decide)) (allS c50 all0)) H40)) C53) (CHr.keep K60 (allS c58 all0) H56))
      by_cases hc80 : b = n_
      · refine o_cv X72 hx hZ53 hown53 (rm_sa0 hw (n_ + (max (((0 + (a - 0)) + 11) - n_) (n_ + 2))) ((0 + (a - 0)) + 11) n_ b n_ SB (c61.keep K60 (allS n0_b36 all0)) p60_1 p60_2 p60_3 p60_4 p60_5 p60_6 p60_7 n0_b36 n0_vc_60 c73 c75 c76 c78 (by omega) y49 (by omega) (by omega)) w228 w229 w231 w230 w201 w232 (by decide) q72 p60_1 hml rfl [(.ref x_), (.int (Int32.ofNat b)), (.int (Int32.ofNat n_))] [] own_pd47 rfl rfl 0 rfl (by decide) (D 31 rfl) fun T81 L81 v81 X81 hQ81 => ?_
        obtain ⟨rfl, Nq81, K81, p81_0, p81_1, p81_2, p81_3, p81_4, p81_5, p81_6⟩ := hQ81
        have N81 := Fr.app N72 Nq81
        have H82 := CHv.keep K81 (allS (Safe.keep K60 (allS c58 all0) H56 c58) (allS (Safe.keep K60 (allS c58 all0) H56 (Safe.new p60_0)) all0)) H62
        have c84 := ((c61.keep K60 (allS n0_b36 all0)).keep K81 (allS n0_b36 (allS n0_vc_60 all0)))
        refine o_cv X81 hx hZ53 hown53 (rm_tos hw (n_ + (max (((0 + (a - 0)) + 11) - n_) (n_ + 2))) (((0 + (a - 0)) + 11) + (n_ - b)) SB c84 p81_0 p81_1 p81_2 p81_3 p81_4 p81_5 p81_6) w283 w284 w286 w285 w201 w287 (by decide) rfl p81_0 hml rfl [] [] own_pd48 rfl rfl 0 rfl (by decide) (D 32 rfl) fun T83 L83 v83 X83 hQ83 => ?_
        obtain ⟨r_83, rb_83, rk_83, rfl, Nq83, K83, p83_0, p83_1, p83_2, p83_3, p83_4, p83_5⟩ := hQ83
        have N83 := Fr.app N81 Nq83
        have H85 := CHv.keep K83 all0 H82
        have z86 := Nat.le_trans z63 K60.1
        have z87 := Nat.le_trans z86 K81.1
        have n0_r_83 := own_og O0 (Nat.le_trans z87 p83_0)
        have n0_rb_83 := own_og O0 (Nat.le_trans z87 p83_1)
        have z88 := Nat.le_trans K60.1 K81.1
        have z89 := Nat.le_trans z88 K83.1
        exact oendSR X83 hx hlk hret rfl rfl rfl (D 33 rfl) (by decide) rfl hS53 (Nat.le_trans hk53 z89) hZ53 hEL hs0 (CHr.trans (CHr.trans CR79 (CHr.keep K81 (allS (Safe.keep K60 (allS c58 all0) H56 c58) (allS (Safe.keep K60 (allS c58 all0) H56 (Safe.new p60_0)) all0)) H62)) (CHr.keep K83 all0 H82)) ⟨r_83, rb_83, rk_83, ((([] ++ (xs_.drop 0).take (a - 0)) ++ (own_HID.drop 0).take 11) ++ (xs_.drop b).take (n_ - b)), (((0 + (a - 0)) + 11) + (n_ - b)), rfl, N83, ((KR79.trans K81 (allS (Or.inr (Nat.le_trans K12.1 (Nat.le_of_eq g36.symm))) (allS (Or.inr (Nat.le_trans z63 p60_0)) all0))).trans K83 all0), (Nat.le_trans z87 p83_0), (Nat.le_trans z87 p83_1), p83_2, p83_3, p83_4, p83_5, ⟨p81_6.1, by have q := p81_6; omega⟩, (by rw [← hwm]; exact (own_hide1 (by omega) hr1 h0r).symm)⟩
      · refine o_cv X72 hx hZ53 hown53 (rm_saG hw (n_ + (max (((0 + (a - 0)) + 11) - n_) (n_ + 2))) ((0 + (a - 0)) + 11) n_ b n_ SB (c61.keep K60 (allS n0_b36 all0)) p60_1 p60_2 p60_3 p60_4 p60_5 p60_6 p60_7 n0_b36 n0_vc_60 c73 c75 c76 c78 (by omega) y49 (by omega) (by omega)) w228 w229 w231 w230 w201 w232 (by decide) q72 p60_1 hml rfl [(.ref x_), (.int (Int32.ofNat b)), (.int (Int32.ofNat n_))] [] own_pd47 rfl rfl 0 rfl (by decide) (D 31 rfl) fun T90 L90 v90 X90 hQ90 => ?_
        obtain ⟨vc_90, kx_90, rfl, Nq90, K90, p90_0, p90_1, p90_2, p90_3, p90_4, p90_5, p90_6, p90_7⟩ := hQ90
        have N90 := Fr.app N72 Nq90
        have H91 := CHv.keep K90 (allS (Safe.keep K60 (allS c58 all0) H56 c58) all0) H62
        have z92 := Nat.le_trans z63 K60.1
        have n0_vc_90 := own_og O0 (Nat.le_trans z92 p90_0)
        have c94 := ((c61.keep K60 (allS n0_b36 all0)).keep K90 (allS n0_b36 all0))
        refine o_cv X90 hx hZ53 hown53 (rm_tos hw ((n_ + (max (((0 + (a - 0)) + 11) - n_) (n_ + 2))) + (max ((((0 + (a - 0)) + 11) + (n_ - b)) - (n_ + (max (((0 + (a - 0)) + 11) - n_) (n_ + 2)))) ((n_ + (max (((0 + (a - 0)) + 11) - n_) (n_ + 2))) + 2))) (((0 + (a - 0)) + 11) + (n_ - b)) SB c94 p90_1 p90_2 p90_3 p90_4 p90_5 p90_6 p90_7) w283 w284 w286 w285 w201 w287 (by decide) rfl p90_1 hml rfl [] [] own_pd48 rfl rfl 0 rfl (by decide) (D 32 rfl) fun T93 L93 v93 X93 hQ93 => ?_
        obtain ⟨r_93, rb_93, rk_93, rfl, Nq93, K93, p93_0, p93_1, p93_2, p93_3, p93_4, p93_5⟩ := hQ93
        have N93 := Fr.app N90 Nq93
        have H95 := CHv.keep K93 all0 H91
        have z96 := Nat.le_trans z92 K90.1
        have n0_r_93 := own_og O0 (Nat.le_trans z96 p93_0)
        have n0_rb_93 := own_og O0 (Nat.le_trans z96 p93_1)
        have z97 := Nat.le_trans K60.1 K90.1
        have z98 := Nat.le_trans z97 K93.1
        exact oendSR X93 hx hlk hret rfl rfl rfl (D 33 rfl) (by decide) rfl hS53 (Nat.le_trans hk53 z98) hZ53 hEL hs0 (CHr.trans (CHr.trans CR79 (CHr.keep K90 (allS (Safe.keep K60 (allS c58 all0) H56 c58) all0) H62)) (CHr.keep K93 all0 H91)) ⟨r_93, rb_93, rk_93, ((([] ++ (xs_.drop 0).take (a - 0)) ++ (own_HID.drop 0).take 11) ++ (xs_.drop b).take (n_ - b)), (((0 + (a - 0)) + 11) + (n_ - b)), rfl, N93, ((KR79.trans K90 (allS (Or.inr (Nat.le_trans K12.1 (Nat.le_of_eq g36.symm))) all0)).trans K93 all0), (Nat.le_trans z96 p93_0), (Nat.le_trans z96 p93_1), p93_2, p93_3, p93_4, p93_5, ⟨p90_7.1, by have q := p90_7; omega⟩, (by rw [← hwm]; exact (own_hide1 (by omega) hr1 h0r).symm)⟩
    · obtain ⟨g1, g2, g3, g4⟩ := id hr1
      obtain ⟨g5, g6, g7, g8, g9, g10⟩ := id hr2
      obtain ⟨T99, _, X99, rfl, E99, A99, D99, -, st99⟩ := newO X12 hx hZ hown (W 199 rfl) (W 200 rfl) w201 rfl (g := (mkF m 93 #[vr z_, vr x_, vr b1, vr t_8, o4, o5] [])) rfl (D 12 rfl) (by decide) (by decide)
      obtain ⟨b99, g99⟩ : ∃ z, z = T12.heap.size := ⟨_, rfl⟩
      rw [← g99] at A99 D99 st99
      have n0_b99 := own_on O12 g99
      have H100 := CHv.ext E99 C12.1
      have F99_value : Fld Z T99.heap b99 "java/lang/AbstractStringBuilder" "value" "[B" .null := D99 (Or.inl (W 214 rfl)) (ty := (.array .byte)) (by decide)
      have F99_coder : Fld Z T99.heap b99 "java/lang/AbstractStringBuilder" "coder" "B" (.int (0 : Int32)) := D99 (Or.inl (W 216 rfl)) (ty := .byte) (by decide)
      have F99_count : Fld Z T99.heap b99 "java/lang/AbstractStringBuilder" "count" "I" (.int (0 : Int32)) := D99 (Or.inl (W 252 rfl)) (ty := .int) (by decide)
      refine ogoF st99 <| o_dup X99 hx (D 13 rfl) rfl <| o_aloadN X99 hx (D 14 rfl) rfl rfl <| o_cv X99 hx hZ hown (rm_slen hw n_ SB (O12.ext E99) (Exa.ext E99 (pr7.keep K12)) (Fld.ext E99 (pr8.keep K12 nin0)) (Fld.ext E99 (pr9.keep K12 nin0)) ((pr10.keep K12 nin0).ext E99)) w164 w165 w167 w166 w12 w168 (by decide) rfl (Exa.ext E99 (pr7.keep K12)) hml rfl [] [(.ref b99), (.ref b99)] own_pd5 rfl rfl 2 rfl (by decide) (D 15 rfl) fun T101 L101 v101 X101 hQ101 => ?_
      obtain ⟨rfl, Nq101, q101⟩ := hQ101
      have N101 := Fr.app N12 Nq101
      refine o_cI X101 hx hZ hown (rm_sbi hw n_ SB (O12.ext E99) A99 F99_value F99_coder F99_count n0_b99 (by first | rfl | assumption | decide | omega)) rfl (W 202 rfl) (W 203 rfl) w201 (W 204 rfl) (by decide) q101 hml rfl [(.int (Int32.ofNat n_))] [(.ref b99)] own_pd24 rfl rfl 1 rfl (by decide) (D 16 rfl) fun T102 L102 v102 X102 hQ102 => ?_
      obtain ⟨vb_102, kv_102, rfl, Nq102, K102, p102_0, p102_1, p102_2, p102_3, p102_4, p102_5, p102_6⟩ := hQ102
      have N102 := Fr.app N101 Nq102
      have H103 := CHv.keep K102 (allS (Safe.exa hZ.alike A99 (by decide) (by decide)) all0) H100
      have z104 := Nat.le_trans K12.1 E99.1
      have n0_vb_102 := own_og O0 (Nat.le_trans z104 p102_0)
      refine o_astoreN X102 hx (l' := #[vr z_, vr x_, vr b1, vr b99, o4, o5]) (D 17 rfl) rfl rfl <| o_iconst X102 hx 0 (D 18 rfl) rfl <| o_istore X102 hx (l' := #[vr z_, vr x_, vr b1, vr b99, vi (0 : Int32), o5]) (D 19 rfl) (by rcases h4 with rfl | ⟨_, rfl⟩ <;> rfl) <| o_aloadN X102 hx (D 20 rfl) rfl rfl <| o_iconst X102 hx 0 (D 21 rfl) rfl ?_
      have y106 : b1 ≠ b99 := (Nat.ne_of_lt (Nat.lt_of_lt_of_le (Nat.lt_of_lt_of_le a12_0.lt (Nat.le_refl _)) (Nat.le_of_eq g99.symm)))
      have y107 : wa_4 ≠ b99 := (Nat.ne_of_lt (Nat.lt_of_lt_of_le (Nat.lt_of_lt_of_le a12_3.lt (Nat.le_refl _)) (Nat.le_of_eq g99.symm)))
      refine o_cv X102 hx hZ hown (rm_nsb hw w n_ 0 SB ((O12.ext E99).keep K102 (allS n0_b99 all0)) ((Exa.ext E99 a12_0).keep K102) ((Fld.ext E99 a12_1).keep K102 (ninS y106 nin0)) ((Fld.ext E99 a12_2).keep K102 (ninS y106 nin0)) ((a12_3.ext E99).keep K102 (ninS y107 nin0)) hbw (by omega) (own_nsbP (by omega) hlo 0 (by omega)).1) w217 w218 w220 w219 w163 w221 (by decide) rfl ((Exa.ext E99 a12_0).keep K102) hml rfl [(.int (0 : Int32))] [] own_pd23 rfl rfl 0 rfl (by decide) (D 22 rfl) fun T105 L105 v105 X105 hQ105 => ?_
      obtain ⟨rfl, Nq105, q105⟩ := hQ105
      have N105 := Fr.app N102 Nq105
      rw [g3]
      refine o_istore X105 hx (l' := #[vr z_, vr x_, vr b1, vr b99, vi (0 : Int32), vi (Int32.ofNat a)]) (D 23 rfl) (by rcases h5 with rfl | ⟨_, rfl⟩ <;> rfl) <| o_iload X105 hx (D 24 rfl) rfl <| o_ifNo X105 hx (D 25 rfl) (flt (show ¬ ((Int32.ofNat a) < (0 : Int32)) from XT.nlt32 (a := a) (b := 0) (by omega) (by omega))).1 <| o_aloadN X105 hx (D 34 rfl) rfl rfl <| o_aloadN X105 hx (D 35 rfl) rfl rfl <| o_iload X105 hx (D 36 rfl) rfl <| o_iload X105 hx (D 37 rfl) rfl ?_
      have y109 : x_ ≠ b99 := (Nat.ne_of_lt (Nat.lt_of_lt_of_le (Nat.lt_of_lt_of_le pr7.lt K12.1) (Nat.le_of_eq g99.symm)))
      have c110 := ((Fld.ext E99 (pr8.keep K12 nin0)).keep K102 (ninS y109 nin0))
      have c111 := ((Fld.ext E99 (pr9.keep K12 nin0)).keep K102 (ninS y109 nin0))
      have y112 : ba_ ≠ b99 := (Nat.ne_of_lt (Nat.lt_of_lt_of_le (Nat.lt_of_lt_of_le pr10.lt K12.1) (Nat.le_of_eq g99.symm)))
      have c113 := (Safe.keep K102 (allS (Safe.exa hZ.alike A99 (by decide) (by decide)) all0) H100 (Safe.new p102_0))
      refine o_cv X105 hx hZ hown (rm_sa0 hw n_ 0 n_ 0 a SB ((O12.ext E99).keep K102 (allS n0_b99 all0)) p102_1 p102_2 p102_3 p102_4 p102_5 p102_6 ⟨rfl, by omega, by omega⟩ n0_b99 n0_vb_102 ((Exa.ext E99 (pr7.keep K12)).keep K102) c110 c111 (((pr10.keep K12 nin0).ext E99).keep K102 (ninS y112 nin0)) (by omega) y112 (by omega) (by omega)) w228 w229 w231 w230 w201 w232 (by decide) q105 p102_1 hml rfl [(.ref x_), (.int (0 : Int32)), (.int (Int32.ofNat a))] [] own_pd47 rfl rfl 0 rfl (by decide) (D 38 rfl) fun T108 L108 v108 X108 hQ108 => ?_
      obtain ⟨rfl, Nq108, K108, p108_0, p108_1, p108_2, p108_3, p108_4, p108_5, p108_6⟩ := hQ108
      have N108 := Fr.app N105 Nq108
      have H114 := CHv.keep K108 (allS (Safe.exa hZ.alike p102_1 (by decide) (by decide)) (allS c113 all0)) H103
      have c115 := (Safe.keep K108 (allS (Safe.exa hZ.alike p102_1 (by decide) (by decide)) (allS c113 all0)) H103 c113)
      have z117 := Nat.le_trans z104 K102.1
      have z118 := Nat.le_trans z117 K108.1
      obtain ⟨a116, T116, _, ks116, b116, kk116, X116, rfl, E116, hS116, hk116, hZ116, hown116, Ex116, Fc116, Fv116, Va116, la116, lb116, C116, -, Nx116, st116⟩ := ldcCH X108 hx hZ hown (W 432 rfl) wS rfl hS0 (Nat.le_trans (Nat.zero_le _) z118) hEL (List.mem_of_getElem? (i := 0) rfl) H114 (vs := [(.int (40 : Int32)), (.int (110 : Int32)), (.int (111 : Int32)), (.int (116 : Int32)), (.int (32 : Int32)), (.int (115 : Int32)), (.int (104 : Int32)), (.int (111 : Int32)), (.int (119 : Int32)), (.int (110 : Int32)), (.int (41 : Int32))]) (z := (11 : Int32)) ⟨by decide, by decide⟩ (by decide) rfl (g := (mkF m 129 #[vr z_, vr x_, vr b1, vr b99, vi (0 : Int32), vi (Int32.ofNat a)] [(.ref b99)])) rfl (D 39 rfl) (n := 44) (by decide) (by decide) (by decide) (by decide)
      have H119 := C116.1
      have z120 := Nat.le_trans K102.1 K108.1
      have c121 := (CHr.safe C116 (Nat.lt_of_lt_of_le A99.lt z120) (Safe.exa hZ.alike p108_0 (by decide) (by decide)))
      refine ogoF st116 ?_
      have VH122 : Arv Z T116.heap b116 kk116 .byte (Int32.ofNat 11) (own_vs own_HID) (.int 0) := Va116
      have c124 := ((((O12.ext E99).keep K102 (allS n0_b99 all0)).keep K108 (allS n0_b99 (allS n0_vb_102 all0))).ext E116)
      refine o_cv X116 hx hZ116 hown116 (rm_ssG hw n_ (0 + (a - 0)) 11 SB c124 (Exa.ext E116 p108_0) (Fld.ext E116 p108_1) (Fld.ext E116 p108_2) (Fld.ext E116 p108_3) (p108_4.ext E116) (Exa.ext E116 p108_5) p108_6 n0_b99 n0_vb_102 Ex116 Fc116 Fv116 VH122 own_HID20 (Ne.symm (Nx116 _ c121).2) (by omega)) (W 433 rfl) (W 434 rfl) (W 436 rfl) (W 435 rfl) w201 (W 437 rfl) (by decide) rfl (Exa.ext E116 p108_0) hml rfl [(.ref a116)] [] own_pd49 rfl rfl 0 rfl (by decide) (D 40 rfl) fun T123 L123 v123 X123 hQ123 => ?_
      obtain ⟨vc_123, kx_123, rfl, Nq123, K123, p123_0, p123_1, p123_2, p123_3, p123_4, p123_5, p123_6, p123_7⟩ := hQ123
      have N123 := Fr.app N108 Nq123
      have H125 := CHv.keep K123 (allS c121 all0) H119
      have z126 := Nat.le_trans z118 E116.1
      have n0_vc_123 := own_og O0 (Nat.le_trans z126 p123_0)
      refine o_pop X123 hx (D 41 rfl) rfl <| o_aloadN X123 hx (D 42 rfl) rfl rfl <| o_iload X123 hx (D 43 rfl) rfl ?_
      have hu1 : u = (1 : Int32) := by
        rcases own_bw2 hbw with ⟨-, q⟩ | ⟨q, -⟩
        · rw [q] at g3; exact absurd (g3.symm.trans (by decide)) (own_nm (a := a) (by omega))
        · exact q
      have c128 := ((Exa.ext E116 (((Exa.ext E99 a12_0).keep K102).keep K108)).keep K123)
      have y129 : b1 ≠ vb_102 := (Nat.ne_of_lt (Nat.lt_of_lt_of_le (Nat.lt_of_lt_of_le a12_0.lt E99.1) p102_0))
      have c130 := ((Fld.ext E116 (((Fld.ext E99 a12_1).keep K102 (ninS y106 nin0)).keep K108 (ninS y106 (ninS y129 nin0)))).keep K123 (ninS y106 nin0))
      have c131 := ((Fld.ext E116 (((Fld.ext E99 a12_2).keep K102 (ninS y106 nin0)).keep K108 (ninS y106 (ninS y129 nin0)))).keep K123 (ninS y106 nin0))
      have y132 : wa_4 ≠ vb_102 := (Nat.ne_of_lt (Nat.lt_of_lt_of_le (Nat.lt_of_lt_of_le a12_3.lt E99.1) p102_0))
      have c133 := (((((a12_3.ext E99).keep K102 (ninS y107 nin0)).keep K108 (ninS y107 (ninS y132 nin0))).ext E116).keep K123 (ninS y107 nin0))
      refine o_cv X123 hx hZ116 hown116 (rm_ncb hw w n_ a SB (c124.keep K123 (allS n0_b99 all0)) c128 c130 c131 c133 hbw (by omega) hu1 (own_nsbP (by omega) hlo a (by omega)).2) (W 479 rfl) (W 480 rfl) (W 482 rfl) (W 481 rfl) w163 (W 483 rfl) (by decide) rfl c128 hml rfl [(.int (Int32.ofNat a))] [] own_pd23 rfl rfl 0 rfl (by decide) (D 44 rfl) fun T127 L127 v127 X127 hQ127 => ?_
      obtain ⟨rfl, Nq127, q127⟩ := hQ127
      have N127 := Fr.app N123 Nq127
      rw [g4]
      refine o_istore X127 hx (l' := #[vr z_, vr x_, vr b1, vr b99, vi (Int32.ofNat b), vi (Int32.ofNat a)]) (D 45 rfl) rfl <| o_aloadN X127 hx (D 46 rfl) rfl rfl <| o_iload X127 hx (D 47 rfl) rfl <| o_cv X127 hx hZ116 hown116 (rm_nsb hw w n_ b SB (c124.keep K123 (allS n0_b99 all0)) c128 c130 c131 c133 hbw (by omega) (own_nsbP (by omega) hlo b (by omega)).1) w217 w218 w220 w219 w163 w221 (by decide) q127 c128 hml rfl [(.int (Int32.ofNat b))] [] own_pd23 rfl rfl 0 rfl (by decide) (D 48 rfl) fun T134 L134 v134 X134 hQ134 => ?_
      obtain ⟨rfl, Nq134, q134⟩ := hQ134
      have N134 := Fr.app N127 Nq134
      rw [g8]
      refine o_istore X134 hx (l' := #[vr z_, vr x_, vr b1, vr b99, vi (Int32.ofNat b), vi (Int32.ofNat c2)]) (D 49 rfl) rfl <| o_goto X134 hx 115 (D 50 rfl) rfl <| o_iload X134 hx (D 24 rfl) rfl <| o_ifNo X134 hx (D 25 rfl) (flt (show ¬ ((Int32.ofNat c2) < (0 : Int32)) from XT.nlt32 (a := c2) (b := 0) (by omega) (by omega))).1 <| o_aloadN X134 hx (D 34 rfl) rfl rfl <| o_aloadN X134 hx (D 35 rfl) rfl rfl <| o_iload X134 hx (D 36 rfl) rfl <| o_iload X134 hx (D 37 rfl) rfl ?_
      have c136 := ((Exa.ext E116 (((Exa.ext E99 (pr7.keep K12)).keep K102).keep K108)).keep K123)
      have y137 : x_ ≠ vb_102 := (Nat.ne_of_lt (Nat.lt_of_lt_of_le (Nat.lt_of_lt_of_le pr7.lt z104) p102_0))
      have c138 := ((Fld.ext E116 (c110.keep K108 (ninS y109 (ninS y137 nin0)))).keep K123 (ninS y109 nin0))
      have c139 := ((Fld.ext E116 (c111.keep K108 (ninS y109 (ninS y137 nin0)))).keep K123 (ninS y109 nin0))
      have y140 : ba_ ≠ vb_102 := (Nat.ne_of_lt (Nat.lt_of_lt_of_le (Nat.lt_of_lt_of_le pr10.lt z104) p102_0))
      have c141 := ((((((pr10.keep K12 nin0).ext E99).keep K102 (ninS y112 nin0)).keep K108 (ninS y112 (ninS y140 nin0))).ext E116).keep K123 (ninS y112 nin0))
      refine o_cv X134 hx hZ116 hown116 (rm_saG hw (n_ + (max (((0 + (a - 0)) + 11) - n_) (n_ + 2))) ((0 + (a - 0)) + 11) n_ b c2 SB (c124.keep K123 (allS n0_b99 all0)) p123_1 p123_2 p123_3 p123_4 p123_5 p123_6 p123_7 n0_b99 n0_vc_123 c136 c138 c139 c141 (by omega) y112 (by omega) (by omega)) w228 w229 w231 w230 w201 w232 (by decide) q134 p123_1 hml rfl [(.ref x_), (.int (Int32.ofNat b)), (.int (Int32.ofNat c2))] [] own_pd47 rfl rfl 0 rfl (by decide) (D 38 rfl) fun T135 L135 v135 X135 hQ135 => ?_
      obtain ⟨vc_135, kx_135, rfl, Nq135, K135, p135_0, p135_1, p135_2, p135_3, p135_4, p135_5, p135_6, p135_7⟩ := hQ135
      have N135 := Fr.app N134 Nq135
      have H142 := CHv.keep K135 (allS (Safe.keep K123 (allS c121 all0) H119 c121) all0) H125
      have z143 := Nat.le_trans z126 K123.1
      have n0_vc_135 := own_og O0 (Nat.le_trans z143 p135_0)
      have c144 := (Safe.keep K135 (allS (Safe.keep K123 (allS c121 all0) H119 c121) all0) H125 (Safe.keep K123 (allS c121 all0) H119 c121))
      have c145 := (Safe.keep K135 (allS (Safe.keep K123 (allS c121 all0) H119 c121) all0) H125 (Safe.new p135_0))
      have z147 := Nat.le_trans K123.1 K135.1
      obtain ⟨a146, T146, _, ks146, b146, kk146, X146, rfl, E146, hS146, hk146, hZ146, hown146, Ex146, Fc146, Fv146, Va146, la146, lb146, C146, -, Nx146, st146⟩ := ldcCH X135 hx hZ116 hown116 (W 432 rfl) wS rfl hS116 (Nat.le_trans hk116 z147) hEL (List.mem_of_getElem? (i := 0) rfl) H142 (vs := [(.int (40 : Int32)), (.int (110 : Int32)), (.int (111 : Int32)), (.int (116 : Int32)), (.int (32 : Int32)), (.int (115 : Int32)), (.int (104 : Int32)), (.int (111 : Int32)), (.int (119 : Int32)), (.int (110 : Int32)), (.int (41 : Int32))]) (z := (11 : Int32)) ⟨by decide, by decide⟩ (by decide) rfl (g := (mkF m 129 #[vr z_, vr x_, vr b1, vr b99, vi (Int32.ofNat b), vi (Int32.ofNat c2)] [(.ref b99)])) rfl (D 39 rfl) (n := 44) (by decide) (by decide) (by decide) (by decide)
      have H148 := C146.1
      have z149 := Nat.le_trans K108.1 E116.1
      have z150 := Nat.le_trans z149 K123.1
      have z151 := Nat.le_trans z150 K135.1
      have c152 := (CHr.safe C146 (Nat.lt_of_lt_of_le p102_5.lt z151) (Safe.keep K135 (allS (Safe.keep K123 (allS c121 all0) H119 c121) all0) H125 (Safe.keep K123 (allS c121 all0) H119 (CHr.safe C116 (Nat.lt_of_lt_of_le p102_5.lt K108.1) c115))))
      have z153 := Nat.le_trans z120 E116.1
      have z154 := Nat.le_trans z153 K123.1
      have z155 := Nat.le_trans z154 K135.1
      have c156 := (CHr.safe C146 (Nat.lt_of_lt_of_le p135_5.lt (Nat.le_refl _)) c145)
      refine ogoF st146 ?_
      have VH157 : Arv Z T146.heap b146 kk146 .byte (Int32.ofNat 11) (own_vs own_HID) (.int 0) := Va146
      have c159 := (((c124.keep K123 (allS n0_b99 all0)).keep K135 (allS n0_b99 all0)).ext E146)
      refine o_cv X146 hx hZ146 hown146 (rm_ss0 hw ((n_ + (max (((0 + (a - 0)) + 11) - n_) (n_ + 2))) + (max ((((0 + (a - 0)) + 11) + (c2 - b)) - (n_ + (max (((0 + (a - 0)) + 11) - n_) (n_ + 2)))) ((n_ + (max (((0 + (a - 0)) + 11) - n_) (n_ + 2))) + 2))) (((0 + (a - 0)) + 11) + (c2 - b)) 11 SB c159 (Exa.ext E146 p135_1) (Fld.ext E146 p135_2) (Fld.ext E146 p135_3) (Fld.ext E146 p135_4) (p135_5.ext E146) (Exa.ext E146 p135_6) p135_7 n0_b99 n0_vc_135 Ex146 Fc146 Fv146 VH157 own_HID20 (Ne.symm (Nx146 _ (CHr.safe C146 (Nat.lt_of_lt_of_le A99.lt z155) c144)).2) (by omega)) (W 433 rfl) (W 434 rfl) (W 436 rfl) (W 435 rfl) w201 (W 437 rfl) (by decide) rfl (Exa.ext E146 p135_1) hml rfl [(.ref a146)] [] own_pd49 rfl rfl 0 rfl (by decide) (D 40 rfl) fun T158 L158 v158 X158 hQ158 => ?_
      obtain ⟨rfl, Nq158, K158, p158_0, p158_1, p158_2, p158_3, p158_4, p158_5, p158_6⟩ := hQ158
      have N158 := Fr.app N135 Nq158
      have H160 := CHv.keep K158 (allS (CHr.safe C146 (Nat.lt_of_lt_of_le A99.lt z155) c144) (allS c156 all0)) H148
      refine o_pop X158 hx (D 41 rfl) rfl <| o_aloadN X158 hx (D 42 rfl) rfl rfl <| o_iload X158 hx (D 43 rfl) rfl ?_
      have z162 := Nat.le_trans E99.1 K102.1
      have z163 := Nat.le_trans z162 K108.1
      have z164 := Nat.le_trans z163 E116.1
      have z165 := Nat.le_trans z164 K123.1
      have y166 : b1 ≠ vc_135 := (Nat.ne_of_lt (Nat.lt_of_lt_of_le (Nat.lt_of_lt_of_le a12_0.lt z165) p135_0))
      have c167 := ((Fld.ext E146 (c130.keep K135 (ninS y106 nin0))).keep K158 (ninS y106 (ninS y166 nin0)))
      have c168 := ((Fld.ext E146 (c131.keep K135 (ninS y106 nin0))).keep K158 (ninS y106 (ninS y166 nin0)))
      have y169 : wa_4 ≠ vc_135 := (Nat.ne_of_lt (Nat.lt_of_lt_of_le (Nat.lt_of_lt_of_le a12_3.lt z165) p135_0))
      have c170 := (((c133.keep K135 (ninS y107 nin0)).ext E146).keep K158 (ninS y107 (ninS y169 nin0)))
      refine o_cv X158 hx hZ146 hown146 (rm_ncb hw w n_ c2 SB (c159.keep K158 (allS n0_b99 (allS n0_vc_135 all0))) ((Exa.ext E146 (c128.keep K135)).keep K158) c167 c168 c170 hbw (by omega) hu1 (own_nsbP (by omega) hlo c2 (by omega)).2) (W 479 rfl) (W 480 rfl) (W 482 rfl) (W 481 rfl) w163 (W 483 rfl) (by decide) rfl ((Exa.ext E146 (c128.keep K135)).keep K158) hml rfl [(.int (Int32.ofNat c2))] [] own_pd23 rfl rfl 0 rfl (by decide) (D 44 rfl) fun T161 L161 v161 X161 hQ161 => ?_
      obtain ⟨rfl, Nq161, q161⟩ := hQ161
      have N161 := Fr.app N158 Nq161
      rw [g9]
      refine o_istore X161 hx (l' := #[vr z_, vr x_, vr b1, vr b99, vi (Int32.ofNat d), vi (Int32.ofNat c2)]) (D 45 rfl) rfl <| o_aloadN X161 hx (D 46 rfl) rfl rfl <| o_iload X161 hx (D 47 rfl) rfl <| o_cv X161 hx hZ146 hown146 (rm_nsb hw w n_ d SB (c159.keep K158 (allS n0_b99 (allS n0_vc_135 all0))) ((Exa.ext E146 (c128.keep K135)).keep K158) c167 c168 c170 hbw (by omega) (own_nsbP (by omega) hlo d (by omega)).1) w217 w218 w220 w219 w163 w221 (by decide) q161 ((Exa.ext E146 (c128.keep K135)).keep K158) hml rfl [(.int (Int32.ofNat d))] [] own_pd23 rfl rfl 0 rfl (by decide) (D 48 rfl) fun T171 L171 v171 X171 hQ171 => ?_
      obtain ⟨rfl, Nq171, q171⟩ := hQ171
      have N171 := Fr.app N161 Nq171
      rw [g10]
      refine o_istore X171 hx (l' := #[vr z_, vr x_, vr b1, vr b99, vi (Int32.ofNat d), vi (-1 : Int32)]) (D 49 rfl) rfl <| o_goto X171 hx 115 (D 50 rfl) rfl <| o_iload X171 hx (D 24 rfl) rfl <| o_ifYes X171 hx 154 (D 25 rfl) (tlt (by decide : (-1 : Int32) < (0 : Int32))).1 rfl <| o_aloadN X171 hx (D 26 rfl) rfl rfl <| o_aloadN X171 hx (D 27 rfl) rfl rfl <| o_iload X171 hx (D 28 rfl) rfl <| o_aloadN X171 hx (D 29 rfl) rfl rfl ?_
      have y173 : x_ ≠ vc_135 := (Nat.ne_of_lt (Nat.lt_of_lt_of_le (Nat.lt_of_lt_of_le pr7.lt z143) p135_0))
      have c174 := ((Fld.ext E146 (c138.keep K135 (ninS y109 nin0))).keep K158 (ninS y109 (ninS y173 nin0)))
      have c175 := ((Fld.ext E146 (c139.keep K135 (ninS y109 nin0))).keep K158 (ninS y109 (ninS y173 nin0)))
      have y176 : ba_ ≠ vc_135 := (Nat.ne_of_lt (Nat.lt_of_lt_of_le (Nat.lt_of_lt_of_le pr10.lt z143) p135_0))
      have c177 := (((c141.keep K135 (ninS y112 nin0)).ext E146).keep K158 (ninS y112 (ninS y176 nin0)))
      refine o_cv X171 hx hZ146 hown146 (rm_slen hw n_ SB (c159.keep K158 (allS n0_b99 (allS n0_vc_135 all0))) ((Exa.ext E146 (c136.keep K135)).keep K158) c174 c175 c177) w164 w165 w167 w166 w12 w168 (by decide) q171 ((Exa.ext E146 (c136.keep K135)).keep K158) hml rfl [] [(.int (Int32.ofNat d)), (.ref x_), (.ref b99)] own_pd5 rfl rfl 3 rfl (by decide) (D 30 rfl) fun T172 L172 v172 X172 hQ172 => ?_
      obtain ⟨rfl, Nq172, q172⟩ := hQ172
      have N172 := Fr.app N171 Nq172
      have c179 := (Safe.keep K158 (allS (CHr.safe C146 (Nat.lt_of_lt_of_le A99.lt z155) c144) (allS c156 all0)) H148 (CHr.safe C146 (Nat.lt_of_lt_of_le A99.lt z155) c144))
      have c180 := (Safe.keep K158 (allS (CHr.safe C146 (Nat.lt_of_lt_of_le A99.lt z155) c144) (allS c156 all0)) H148 c156)
      refine o_cv X172 hx hZ146 hown146 (rm_sa0 hw ((n_ + (max (((0 + (a - 0)) + 11) - n_) (n_ + 2))) + (max ((((0 + (a - 0)) + 11) + (c2 - b)) - (n_ + (max (((0 + (a - 0)) + 11) - n_) (n_ + 2)))) ((n_ + (max (((0 + (a - 0)) + 11) - n_) (n_ + 2))) + 2))) ((((0 + (a - 0)) + 11) + (c2 - b)) + 11) n_ d n_ SB (c159.keep K158 (allS n0_b99 (allS n0_vc_135 all0))) p158_0 p158_1 p158_2 p158_3 p158_4 p158_5 p158_6 n0_b99 n0_vc_135 ((Exa.ext E146 (c136.keep K135)).keep K158) c174 c175 c177 (by omega) y112 (by omega) (by omega)) w228 w229 w231 w230 w201 w232 (by decide) q172 p158_0 hml rfl [(.ref x_), (.int (Int32.ofNat d)), (.int (Int32.ofNat n_))] [] own_pd47 rfl rfl 0 rfl (by decide) (D 31 rfl) fun T178 L178 v178 X178 hQ178 => ?_
      obtain ⟨rfl, Nq178, K178, p178_0, p178_1, p178_2, p178_3, p178_4, p178_5, p178_6⟩ := hQ178
      have N178 := Fr.app N172 Nq178
      have H181 := CHv.keep K178 (allS c179 (allS c180 all0)) H160
      have c183 := ((c159.keep K158 (allS n0_b99 (allS n0_vc_135 all0))).keep K178 (allS n0_b99 (allS n0_vc_135 all0)))
      refine o_cv X178 hx hZ146 hown146 (rm_tos hw ((n_ + (max (((0 + (a - 0)) + 11) - n_) (n_ + 2))) + (max ((((0 + (a - 0)) + 11) + (c2 - b)) - (n_ + (max (((0 + (a - 0)) + 11) - n_) (n_ + 2)))) ((n_ + (max (((0 + (a - 0)) + 11) - n_) (n_ + 2))) + 2))) (((((0 + (a - 0)) + 11) + (c2 - b)) + 11) + (n_ - d)) SB c183 p178_0 p178_1 p178_2 p178_3 p178_4 p178_5 p178_6) w283 w284 w286 w285 w201 w287 (by decide) rfl p178_0 hml rfl [] [] own_pd48 rfl rfl 0 rfl (by decide) (D 32 rfl) fun T182 L182 v182 X182 hQ182 => ?_
      obtain ⟨r_182, rb_182, rk_182, rfl, Nq182, K182, p182_0, p182_1, p182_2, p182_3, p182_4, p182_5⟩ := hQ182
      have N182 := Fr.app N178 Nq182
      have H184 := CHv.keep K182 all0 H181
      have z185 := Nat.le_trans z143 K135.1
      have z186 := Nat.le_trans z185 E146.1
      have z187 := Nat.le_trans z186 K158.1
      have z188 := Nat.le_trans z187 K178.1
      have n0_r_182 := own_og O0 (Nat.le_trans z188 p182_0)
      have n0_rb_182 := own_og O0 (Nat.le_trans z188 p182_1)
      have z189 := Nat.le_trans K158.1 K178.1
      have z190 := Nat.le_trans z189 K182.1
      exact oendSR X182 hx hlk hret rfl rfl rfl (D 33 rfl) (by decide) rfl hS146 (Nat.le_trans hk146 z190) hZ146 hEL hs0 (CHr.trans (CHr.trans (CHr.trans (CHr.trans (CHr.trans (CHr.trans (CHr.trans (CHr.trans (CHr.trans (CHr.trans C12 (CHr.ext E99 C12.1)) (CHr.keep K102 (allS (Safe.exa hZ.alike A99 (by decide) (by decide)) all0) H100)) (CHr.keep K108 (allS (Safe.exa hZ.alike p102_1 (by decide) (by decide)) (allS c113 all0)) H103)) C116) (CHr.keep K123 (allS c121 all0) H119)) (CHr.keep K135 (allS (Safe.keep K123 (allS c121 all0) H119 c121) all0) H125)) C146) (CHr.keep K158 (allS (CHr.safe C146 (Nat.lt_of_lt_of_le A99.lt z155) c144) (allS c156 all0)) H148)) (CHr.keep K178 (allS c179 (allS c180 all0)) H160)) (CHr.keep K182 all0 H181)) ⟨r_182, rb_182, rk_182, ((((([] ++ (xs_.drop 0).take (a - 0)) ++ (own_HID.drop 0).take 11) ++ (xs_.drop b).take (c2 - b)) ++ (own_HID.drop 0).take 11) ++ (xs_.drop d).take (n_ - d)), (((((0 + (a - 0)) + 11) + (c2 - b)) + 11) + (n_ - d)), rfl, N182, ((((((((((((Keep.refl h0 []).trans K12 all0).ext E99).trans K102 (allS (Or.inr (Nat.le_trans K12.1 (Nat.le_of_eq g99.symm))) all0)).trans K108 (allS (Or.inr (Nat.le_trans K12.1 (Nat.le_of_eq g99.symm))) (allS (Or.inr (Nat.le_trans z104 p102_0)) all0))).ext E116).trans K123 (allS (Or.inr (Nat.le_trans K12.1 (Nat.le_of_eq g99.symm))) all0)).trans K135 (allS (Or.inr (Nat.le_trans K12.1 (Nat.le_of_eq g99.symm))) all0)).ext E146).trans K158 (allS (Or.inr (Nat.le_trans K12.1 (Nat.le_of_eq g99.symm))) (allS (Or.inr (Nat.le_trans z143 p135_0)) all0))).trans K178 (allS (Or.inr (Nat.le_trans K12.1 (Nat.le_of_eq g99.symm))) (allS (Or.inr (Nat.le_trans z143 p135_0)) all0))).trans K182 all0), (Nat.le_trans z188 p182_0), (Nat.le_trans z188 p182_1), p182_2, p182_3, p182_4, p182_5, ⟨p178_6.1, by have q := p178_6; omega⟩, (by rw [← hwm]; exact (own_hide2 (by omega) hr1 hr2).symm)⟩
  have L56 : ∀ (q bq : Addr) (kq : ClassId) (ys : List Int32) (mq : Nat), Exa Z h0 q "java/lang/String" → Fld Z h0 q "java/lang/String" "coder" "B" (.int (0 : Int32)) → Fld Z h0 q "java/lang/String" "value" "[B" (.ref bq) → Arv Z h0 bq kq .byte (Int32.ofNat mq) (own_vs ys) (.int 0) → (mq = 1 ∨ mq = 2) → ∀ (cu lr : Int32) (wr : Int64), (∀ (v : Int32) (lv : List Value) (T192 : State) (Lo192 : List Loc) (X192 : Stand p l e (rmo 6 13 456 113) (s.setVm s.vm) m #[(.ref z_), (.ref x_)] below meth c T192 Lo192 3 8) (N192 : Fr n0 Lo192) (O192 : Old Z n0 T192.heap) (K192 : Keep h0 T192.heap []) (C192 : CHr Z own_EL s.vm h0 s.vm T192.heap), Exa Z T192.heap b1 "java/util/BitSet" → Fld Z T192.heap b1 "java/util/BitSet" "words" "[J" (.ref wa_4) → Fld Z T192.heap b1 "java/util/BitSet" "wordsInUse" "I" (.int v) → Arv Z T192.heap wa_4 kw_4 .long zw_4 lv (.long 0) → Exa Z T192.heap wa_4 "[J" → Exa Z T192.heap t_8 "java/util/ArrayList$Itr" → Fld Z T192.heap t_8 "java/util/ArrayList$Itr" "this$0" "Ljava/util/ArrayList;" (.ref w_) → Fld Z T192.heap t_8 "java/util/ArrayList$Itr" "cursor" "I" (.int cu) → Fld Z T192.heap t_8 "java/util/ArrayList$Itr" "lastRet" "I" (.int lr) → Fld Z T192.heap t_8 "java/util/ArrayList$Itr" "expectedModCount" "I" (.int mo_) → own_bw n_ wr v zw_4 lv → Own p e below (oPostS Z (own_Q_hdb Z z_CS v_FMT s_DC k_DC v_IO z_ x_ ba_ kb_ xs_ n_ w_ e_ ke_ ze_ ve_ sz_ mo_ q1_ c1_ j1_ u1_ r1_ q2_ c2_ j2_ u2_ r2_ h0 n0) s 13 456) (T192.setTop (mkF m 28 #[vr z_, vr x_, vr b1, vr t_8, vr q, vi (-1 : Int32)] []))) → ∀ (k f : Nat) (w : Int64) (u : Int32) (lw : List Value) (T191 : State) (Lo191 : List Loc) (X191 : Stand p l e (rmo 6 13 456 113) (s.setVm s.vm) m #[(.ref z_), (.ref x_)] below meth c T191 Lo191 3 8) (N191 : Fr n0 Lo191) (O191 : Old Z n0 T191.heap) (K191 : Keep h0 T191.heap []) (C191 : CHr Z own_EL s.vm h0 s.vm T191.heap), Exa Z T191.heap b1 "java/util/BitSet" → Fld Z T191.heap b1 "java/util/BitSet" "words" "[J" (.ref wa_4) → Fld Z T191.heap b1 "java/util/BitSet" "wordsInUse" "I" (.int u) → Arv Z T191.heap wa_4 kw_4 .long zw_4 lw (.long 0) → Exa Z T191.heap wa_4 "[J" → Exa Z T191.heap t_8 "java/util/ArrayList$Itr" → Fld Z T191.heap t_8 "java/util/ArrayList$Itr" "this$0" "Ljava/util/ArrayList;" (.ref w_) → Fld Z T191.heap t_8 "java/util/ArrayList$Itr" "cursor" "I" (.int cu) → Fld Z T191.heap t_8 "java/util/ArrayList$Itr" "lastRet" "I" (.int lr) → Fld Z T191.heap t_8 "java/util/ArrayList$Itr" "expectedModCount" "I" (.int mo_) → own_bw n_ w u zw_4 lw → n_ + 1 - mq - f = k → own_occ xs_ ys mq k f w = wr → Own p e below (oPostS Z (own_Q_hdb Z z_CS v_FMT s_DC k_DC v_IO z_ x_ ba_ kb_ xs_ n_ w_ e_ ke_ ze_ ve_ sz_ mo_ q1_ c1_ j1_ u1_ r1_ q2_ c2_ j2_ u2_ r2_ h0 n0) s 13 456) (T191.setTop (mkF m 56 #[vr z_, vr x_, vr b1, vr t_8, vr q, vi (own_idxF xs_ ys mq (n_ + 1 - mq - f) f)] [])) := by
    intro q bq kq ys mq pq0 pq1 pq2 pq3 hm12 cu lr wr kont k
    induction k using Nat.strongRecOn with
    | ind k ih =>
      intro f w u lw T191 Lo191 X191 N191 O191 K191 C191 a191_0 a191_1 a191_2 a191_3 a191_4 a191_5 a191_6 a191_7 a191_8 a191_9 hbw hk hwr
      rcases own_idxC xs_ ys mq k f with ⟨hr, ho⟩ | ⟨j, hr, hj1, hj2, ho⟩
      · rw [hk, hr]
        refine o_iload X191 hx (D 51 rfl) rfl <| o_ifYes X191 hx 90 (D 52 rfl) (tlt (by decide : (-1 : Int32) < (0 : Int32))).1 rfl <| o_goto X191 hx 28 (D 53 rfl) rfl ?_
        exact kont _ _ _ _ (X191.more (by decide) (by decide)) N191 O191 ((Keep.refl h0 []).trans K191 all0) C191 a191_0 a191_1 a191_2 a191_3 a191_4 a191_5 a191_6 a191_7 a191_8 a191_9 ((ho w).symm.trans hwr ▸ hbw)
      · rw [hk, hr]
        obtain ⟨hz, hl, hu⟩ := own_bw3 hbw (by omega)
        have Va : Arv Z T191.heap wa_4 kw_4 .long (1 : Int32) [.long w] (.long 0) := by have q := a191_3; rw [hz, hl] at q; exact q
        refine o_iload X191 hx (D 51 rfl) rfl <| o_ifNo X191 hx (D 52 rfl) (flt (show ¬ ((Int32.ofNat j) < (0 : Int32)) from XT.nlt32 (a := j) (b := 0) (by omega) (by omega))).1 <| o_aloadN X191 hx (D 54 rfl) rfl rfl <| o_iload X191 hx (D 55 rfl) rfl <| o_iload X191 hx (D 56 rfl) rfl <| o_aload X191 hx (D 57 rfl) rfl rfl <| o_cv X191 hx hZ hown (rm_slen hw mq SB O191 (pq0.keep K191) (pq1.keep K191 nin0) (pq2.keep K191 nin0) (pq3.keep K191 nin0)) w164 w165 w167 w166 w12 w168 (by decide) rfl (pq0.keep K191) hml rfl [] [(.int (Int32.ofNat j)), (.int (Int32.ofNat j)), (.ref b1)] own_pd5 rfl rfl 3 rfl (by decide) (D 58 rfl) fun T193 L193 v193 X193 hQ193 => ?_
        obtain ⟨rfl, Nq193, q193⟩ := hQ193
        have N193 := Fr.app N191 Nq193
        refine o_iadd X193 hx (D 59 rfl) ?_
        rw [show ((Int32.ofNat j) + (Int32.ofNat mq)) = (Int32.ofNat (j + mq)) from XT.add32n j mq]
        refine o_cv X193 hx hZ hown (rm_setb hw j (j + mq) SB O191 a191_0 a191_1 a191_2 Va n0_b1 n0_wa_4 a191_4 (by first | rfl | assumption | decide | omega) hu) (W 386 rfl) (W 387 rfl) (W 389 rfl) (W 388 rfl) w163 (W 390 rfl) (by decide) q193 a191_0 hml rfl [(.int (Int32.ofNat j)), (.int (Int32.ofNat (j + mq)))] [] own_pd2 rfl rfl 0 rfl (by decide) (D 60 rfl) fun T194 L194 v194 X194 hQ194 => ?_
        obtain ⟨rfl, Nq194, K194, p194_0, p194_1, p194_2, p194_3⟩ := hQ194
        have N194 := Fr.app N193 Nq194
        have H195 := CHv.keep K194 (allS (Safe.exa hZ.alike a191_0 (by decide) (by decide)) (allS (Safe.exa hZ.alike a191_4 (by decide) (by decide)) all0)) C191.1
        refine o_aloadN X194 hx (D 61 rfl) rfl rfl <| o_aload X194 hx (D 62 rfl) rfl rfl <| o_iload X194 hx (D 63 rfl) rfl <| o_iconst X194 hx 1 (D 64 rfl) rfl <| o_iadd X194 hx (D 65 rfl) ?_
        rw [show ((Int32.ofNat j) + (1 : Int32)) = (Int32.ofNat (j + 1)) from XT.add32n j 1]
        have y197 : x_ ≠ wa_4 := (Nat.ne_of_lt (Nat.lt_of_lt_of_le (Nat.lt_of_lt_of_le pr7.lt (Nat.le_refl _)) ge_wa_4))
        have y198 : x_ ≠ b1 := (Nat.ne_of_lt (Nat.lt_of_lt_of_le (Nat.lt_of_lt_of_le pr7.lt (Nat.le_refl _)) ge_b1))
        have c199 := ((pr8.keep K191 nin0).keep K194 (ninS y198 (ninS y197 nin0)))
        have c200 := ((pr9.keep K191 nin0).keep K194 (ninS y198 (ninS y197 nin0)))
        have y201 : ba_ ≠ wa_4 := (Nat.ne_of_lt (Nat.lt_of_lt_of_le (Nat.lt_of_lt_of_le pr10.lt (Nat.le_refl _)) ge_wa_4))
        have y202 : ba_ ≠ b1 := (Nat.ne_of_lt (Nat.lt_of_lt_of_le (Nat.lt_of_lt_of_le pr10.lt (Nat.le_refl _)) ge_b1))
        have c203 := ((pr10.keep K191 nin0).keep K194 (ninS y202 (ninS y201 nin0)))
        have y204 : q ≠ wa_4 := (Nat.ne_of_lt (Nat.lt_of_lt_of_le (Nat.lt_of_lt_of_le pq0.lt (Nat.le_refl _)) ge_wa_4))
        have y205 : q ≠ b1 := (Nat.ne_of_lt (Nat.lt_of_lt_of_le (Nat.lt_of_lt_of_le pq0.lt (Nat.le_refl _)) ge_b1))
        have c206 := ((pq1.keep K191 nin0).keep K194 (ninS y205 (ninS y204 nin0)))
        have c207 := ((pq2.keep K191 nin0).keep K194 (ninS y205 (ninS y204 nin0)))
        have y208 : bq ≠ wa_4 := (Nat.ne_of_lt (Nat.lt_of_lt_of_le (Nat.lt_of_lt_of_le pq3.lt (Nat.le_refl _)) ge_wa_4))
        have y209 : bq ≠ b1 := (Nat.ne_of_lt (Nat.lt_of_lt_of_le (Nat.lt_of_lt_of_le pq3.lt (Nat.le_refl _)) ge_b1))
        have c210 := ((pq3.keep K191 nin0).keep K194 (ninS y209 (ninS y208 nin0)))
        refine o_cv X194 hx hZ hown (rm_sif hw n_ mq (j + 1) SB (O191.keep K194 (allS n0_b1 (allS n0_wa_4 all0))) ((pr7.keep K191).keep K194) c199 c200 c203 ((pq0.keep K191).keep K194) c206 c207 c210 (by first | rfl | assumption | decide | omega) hm12 (by first | rfl | assumption | decide | omega)) (W 405 rfl) (W 406 rfl) (W 408 rfl) (W 407 rfl) w12 (W 409 rfl) (by decide) rfl ((pr7.keep K191).keep K194) hml rfl [(.ref q), (.int (Int32.ofNat (j + 1)))] [] own_pd50 rfl rfl 0 rfl (by decide) (D 66 rfl) fun T196 L196 v196 X196 hQ196 => ?_
        obtain ⟨rfl, Nq196, q196⟩ := hQ196
        have N196 := Fr.app N194 Nq196
        refine o_istore X196 hx (l' := #[vr z_, vr x_, vr b1, vr t_8, vr q, vi (own_idxF xs_ ys mq (n_ + 1 - mq - (j + 1)) (j + 1))]) (D 67 rfl) rfl <| o_goto X196 hx 56 (D 68 rfl) rfl ?_
        have y211 : t_8 ≠ wa_4 := (ne_exa (a191_5.keep K194) (a191_4.keep K194) (by decide))
        have y212 : t_8 ≠ b1 := (ne_exa (a191_5.keep K194) p194_0 (by decide))
        exact ih (n_ + 1 - mq - (j + 1)) (by omega) (j + 1) (w ||| (own_rng (Int32.ofNat j) (Int32.ofNat (j + mq)))) _ _ _ _ (X196.more (by decide) (by decide)) N196 (by rw [q196]; exact (O191.keep K194 (allS n0_b1 (allS n0_wa_4 all0)))) (by rw [q196]; exact (((Keep.refl h0 []).trans K191 all0).trans K194 (allS (Or.inr (Nat.le_trans (Nat.le_refl _) ge_b1)) (allS (Or.inr (Nat.le_trans (Nat.le_refl _) ge_wa_4)) all0)))) (by rw [q196]; exact (CHr.trans C191 (CHr.keep K194 (allS (Safe.exa hZ.alike a191_0 (by decide) (by decide)) (allS (Safe.exa hZ.alike a191_4 (by decide) (by decide)) all0)) C191.1))) (by rw [q196]; exact p194_0) (by rw [q196]; exact p194_1) (by rw [q196]; exact p194_2) (by rw [q196]; exact (by rw [hz]; exact p194_3)) (by rw [q196]; exact (a191_4.keep K194)) (by rw [q196]; exact (a191_5.keep K194)) (by rw [q196]; exact (a191_6.keep K194 (ninS y212 (ninS y211 nin0)))) (by rw [q196]; exact (a191_7.keep K194 (ninS y212 (ninS y211 nin0)))) (by rw [q196]; exact (a191_8.keep K194 (ninS y212 (ninS y211 nin0)))) (by rw [q196]; exact (a191_9.keep K194 (ninS y212 (ninS y211 nin0)))) (Or.inr ⟨by omega, hz, rfl, Or.inr rfl⟩) rfl (by rw [show n_ + 1 - mq - (j + 1) = k - (j + 1 - f) by omega, ← ho]; exact hwr)
  rcases pr20 with e1 | ⟨e1, e2, e3, e4⟩ | ⟨e1, e2, e3, e4, e5⟩
  · have bw0 : own_bw n_ 0 (0 : Int32) zw_4 lw_4 := by
      rcases p4_6 with ⟨q1, q2, q3⟩ | ⟨q1, q2, q3⟩
      · exact Or.inl ⟨q1, rfl, rfl⟩
      · exact Or.inr ⟨q1, q2, q3, Or.inl ⟨rfl, rfl⟩⟩
    have Fz : Fld Z T8.heap w_ "java/util/ArrayList" "size" "I" (.int (0 : Int32)) := by have q := (((Fld.ext E1 pr4).keep K4 (ninS y9 nin0)).keep K8 nin0); rw [e1] at q; exact q
    have Fy : Fld Z h0 w_ "java/util/ArrayList" "size" "I" (.int (0 : Int32)) := by have q := pr4; rw [e1] at q; exact q
    refine o_aloadN X8 hx (D 69 rfl) rfl rfl <| o_cF X8 hx hZ hown (rm_hn0 hw  (((O0.ext E1).keep K4 (allS n0_b1 all0)).keep K8 all0) p8_2 p8_3 Fz (show (0 : Int32) = (0 : Int32) from congrArg Int32.ofNat (show 0 = 0 by omega))) w124 w125 (mvT hZ w126) w127 w128 w129 w130 w131 w111 w132 (by decide) rfl p8_1 hml rfl [] [] own_pd3 rfl rfl 0 rfl (by decide) (D 70 rfl) fun T213 L213 v213 X213 hQ213 => ?_
    obtain ⟨rfl, Nq213, q213⟩ := hQ213
    have N213 := Fr.app N8 Nq213
    refine o_ifYes X213 hx 93 (D 71 rfl) (teq (by decide : (0 : Int32) = (0 : Int32))).1 rfl ?_
    exact T93 _ _ _ _ _ _ _ (X213.more (by decide) (by decide)) N213 (by rw [q213]; exact (((O0.ext E1).keep K4 (allS n0_b1 all0)).keep K8 all0)) (by rw [q213]; exact ((((Keep.refl h0 []).ext E1).trans K4 (allS (Or.inr (Nat.le_trans (Nat.le_refl _) (Nat.le_of_eq g1.symm))) all0)).trans K8 all0)) (by rw [q213]; exact (CHr.trans (CHr.trans (CHr.ext E1 H0) (CHr.keep K4 (allS (Safe.exa hZ.alike A1 (by decide) (by decide)) all0) H2)) (CHr.keep K8 all0 H5))) (by rw [q213]; exact (p4_1.keep K8)) (by rw [q213]; exact (p4_2.keep K8 nin0)) (by rw [q213]; exact (p4_3.keep K8 nin0)) (by rw [q213]; exact (p4_4.keep K8 nin0)) (by rw [q213]; exact (p4_5.keep K8)) (Or.inl rfl) (Or.inl rfl) bw0 (by simp [own_mask, e1])
  · have bw0 : own_bw n_ 0 (0 : Int32) zw_4 lw_4 := by
      rcases p4_6 with ⟨q1, q2, q3⟩ | ⟨q1, q2, q3⟩
      · exact Or.inl ⟨q1, rfl, rfl⟩
      · exact Or.inr ⟨q1, q2, q3, Or.inl ⟨rfl, rfl⟩⟩
    have Fz : Fld Z T8.heap w_ "java/util/ArrayList" "size" "I" (.int (1 : Int32)) := by have q := (((Fld.ext E1 pr4).keep K4 (ninS y9 nin0)).keep K8 nin0); rw [e1] at q; exact q
    have y214 : e_ ≠ b1 := (Nat.ne_of_lt (Nat.lt_of_lt_of_le (Nat.lt_of_lt_of_le pr6.lt (Nat.le_refl _)) (Nat.le_of_eq g1.symm)))
    have Vz : Arv Z T8.heap e_ ke_ (.object "java/lang/Object") (10 : Int32) [(.ref q1_), .null, .null, .null, .null, .null, .null, .null, .null, .null] .null := by have q := (((pr6.ext E1).keep K4 (ninS y214 nin0)).keep K8 nin0); rw [e2, e3] at q; exact q
    have Fy : Fld Z h0 w_ "java/util/ArrayList" "size" "I" (.int (1 : Int32)) := by have q := pr4; rw [e1] at q; exact q
    have Vy : Arv Z h0 e_ ke_ (.object "java/lang/Object") (10 : Int32) [(.ref q1_), .null, .null, .null, .null, .null, .null, .null, .null, .null] .null := by have q := pr6; rw [e2, e3] at q; exact q
    refine o_aloadN X8 hx (D 69 rfl) rfl rfl <| o_cF X8 hx hZ hown (rm_hn1 hw  (((O0.ext E1).keep K4 (allS n0_b1 all0)).keep K8 all0) p8_2 p8_3 Fz (show ¬ ((0 : Int32) = (1 : Int32)) from XT.ne32 (a := 0) (b := 1) (by omega) (by omega) (by omega))) w124 w125 (mvT hZ w126) w127 w128 w129 w130 w131 w111 w132 (by decide) rfl p8_1 hml rfl [] [] own_pd3 rfl rfl 0 rfl (by decide) (D 70 rfl) fun T215 L215 v215 X215 hQ215 => ?_
    obtain ⟨rfl, Nq215, q215⟩ := hQ215
    have N215 := Fr.app N8 Nq215
    refine o_ifNo X215 hx (D 71 rfl) (feq (by decide : ¬ ((1 : Int32) = (0 : Int32)))).1 <| o_aloadN X215 hx (D 72 rfl) rfl rfl ?_
    have y217 : t_8 ≠ w_ := (Nat.ne_of_gt (Nat.lt_of_lt_of_le (Nat.lt_of_lt_of_le pr2.lt z11) p8_0))
    have y218 : t_8 ≠ e_ := (Nat.ne_of_gt (Nat.lt_of_lt_of_le (Nat.lt_of_lt_of_le pr6.lt z11) p8_0))
    refine o_cF X215 hx hZ hown (rm_nx0a hw  (((O0.ext E1).keep K4 (allS n0_b1 all0)).keep K8 all0) p8_1 p8_2 p8_3 p8_4 p8_5 (((Fld.ext E1 pr3).keep K4 (ninS y9 nin0)).keep K8 nin0) Fz (((Fld.ext E1 pr5).keep K4 (ninS y9 nin0)).keep K8 nin0) Vz n0_t_8 y217 y218) (W 136 rfl) (W 137 rfl) (mvT hZ (W 138 rfl)) (W 139 rfl) (W 140 rfl) (W 141 rfl) (W 142 rfl) w131 w111 (W 143 rfl) (by decide) q215 p8_1 hml rfl [] [] own_pd45 rfl rfl 0 rfl (by decide) (D 73 rfl) fun T216 L216 v216 X216 hQ216 => ?_
    obtain ⟨rfl, Nq216, K216, p216_0, p216_1, p216_2, p216_3, p216_4⟩ := hQ216
    have N216 := Fr.app N215 Nq216
    have H219 := CHv.keep K216 (allS (Safe.exa hZ.alike p8_1 (by decide) (by decide)) all0) H10
    obtain ⟨T220, X220, e220, st220⟩ := castY X216 hx hZ hown (W 150 rfl) rfl (Ins.self ((((Exa.ext E1 pr11).keep K4).keep K8).keep K216)) (g := (mkF m 43 #[vr z_, vr x_, vr b1, vr t_8, .unset, .unset] [(.ref q1_)])) rfl rfl (D 74 rfl)
    refine ogoF st220 <| o_astore X220 hx (l' := #[vr z_, vr x_, vr b1, vr t_8, vr q1_, .unset]) (D 75 rfl) rfl rfl <| o_aloadN X220 hx (D 76 rfl) rfl rfl <| o_aload X220 hx (D 77 rfl) rfl rfl ?_
    have c222 := ((((O0.ext E1).keep K4 (allS n0_b1 all0)).keep K8 all0).keep K216 (allS n0_t_8 all0))
    have y223 : x_ ≠ b1 := (Nat.ne_of_lt (Nat.lt_of_lt_of_le (Nat.lt_of_lt_of_le pr7.lt (Nat.le_refl _)) (Nat.le_of_eq g1.symm)))
    have y224 : x_ ≠ t_8 := (Nat.ne_of_lt (Nat.lt_of_lt_of_le (Nat.lt_of_lt_of_le pr7.lt z11) p8_0))
    have c225 := ((((Fld.ext E1 pr8).keep K4 (ninS y223 nin0)).keep K8 nin0).keep K216 (ninS y224 nin0))
    have c226 := ((((Fld.ext E1 pr9).keep K4 (ninS y223 nin0)).keep K8 nin0).keep K216 (ninS y224 nin0))
    have y227 : ba_ ≠ b1 := (Nat.ne_of_lt (Nat.lt_of_lt_of_le (Nat.lt_of_lt_of_le pr10.lt (Nat.le_refl _)) (Nat.le_of_eq g1.symm)))
    have y228 : ba_ ≠ t_8 := (Nat.ne_of_lt (Nat.lt_of_lt_of_le (Nat.lt_of_lt_of_le pr10.lt z11) p8_0))
    have c229 := ((((pr10.ext E1).keep K4 (ninS y227 nin0)).keep K8 nin0).keep K216 (ninS y228 nin0))
    have y230 : q1_ ≠ b1 := (Nat.ne_of_lt (Nat.lt_of_lt_of_le (Nat.lt_of_lt_of_le pr11.lt (Nat.le_refl _)) (Nat.le_of_eq g1.symm)))
    have y231 : q1_ ≠ t_8 := (Nat.ne_of_lt (Nat.lt_of_lt_of_le (Nat.lt_of_lt_of_le pr11.lt z11) p8_0))
    have c232 := ((((Fld.ext E1 pr12).keep K4 (ninS y230 nin0)).keep K8 nin0).keep K216 (ninS y231 nin0))
    have c233 := ((((Fld.ext E1 pr13).keep K4 (ninS y230 nin0)).keep K8 nin0).keep K216 (ninS y231 nin0))
    have y234 : c1_ ≠ b1 := (Nat.ne_of_lt (Nat.lt_of_lt_of_le (Nat.lt_of_lt_of_le pr14.lt (Nat.le_refl _)) (Nat.le_of_eq g1.symm)))
    have y235 : c1_ ≠ t_8 := (Nat.ne_of_lt (Nat.lt_of_lt_of_le (Nat.lt_of_lt_of_le pr14.lt z11) p8_0))
    have c236 := ((((pr14.ext E1).keep K4 (ninS y234 nin0)).keep K8 nin0).keep K216 (ninS y235 nin0))
    refine o_cv X220 hx hZ hown (rm_sio hw n_ r1_ SB c222 ((((Exa.ext E1 pr7).keep K4).keep K8).keep K216) c225 c226 c229 ((((Exa.ext E1 pr11).keep K4).keep K8).keep K216) c232 c233 c236 (by first | rfl | assumption | decide | omega) (by first | rfl | assumption | decide | omega)) (W 362 rfl) (W 363 rfl) (W 365 rfl) (W 364 rfl) w12 (W 366 rfl) (by decide) e220 ((((Exa.ext E1 pr7).keep K4).keep K8).keep K216) hml rfl [(.ref q1_)] [] own_pd51 rfl rfl 0 rfl (by decide) (D 78 rfl) fun T221 L221 v221 X221 hQ221 => ?_
    obtain ⟨rfl, Nq221, q221⟩ := hQ221
    have N221 := Fr.app N216 Nq221
    refine o_istore X221 hx (l' := #[vr z_, vr x_, vr b1, vr t_8, vr q1_, vi (own_idxF xs_ u1_ r1_ (n_ + 1 - r1_ - 0) 0)]) (D 79 rfl) rfl ?_
    have y238 : b1 ≠ t_8 := (Nat.ne_of_lt (Nat.lt_of_lt_of_le (Nat.lt_of_lt_of_le A1.lt K4.1) p8_0))
    have y239 : wa_4 ≠ t_8 := (Nat.ne_of_lt (Nat.lt_of_lt_of_le (Nat.lt_of_lt_of_le p4_4.lt (Nat.le_refl _)) p8_0))
    refine L56 q1_ c1_ j1_ u1_ r1_ pr11 pr12 pr13 pr14 e4 (1 : Int32) (0 : Int32) (own_occ xs_ u1_ r1_ (n_ + 1 - r1_ - 0) 0 0) (fun v237 lv237 T237 Lo237 X237 N237 O237 K237 C237 a237_0 a237_1 a237_2 a237_3 a237_4 a237_5 a237_6 a237_7 a237_8 a237_9 hb237 => ?_) _ 0 0 _ _ _ _ (X221.more (by decide) (by decide)) N221 (by rw [q221]; exact c222) (by rw [q221]; exact (((((Keep.refl h0 []).ext E1).trans K4 (allS (Or.inr (Nat.le_trans (Nat.le_refl _) (Nat.le_of_eq g1.symm))) all0)).trans K8 all0).trans K216 (allS (Or.inr (Nat.le_trans z11 p8_0)) all0))) (by rw [q221]; exact (CHr.trans (CHr.trans (CHr.trans (CHr.ext E1 H0) (CHr.keep K4 (allS (Safe.exa hZ.alike A1 (by decide) (by decide)) all0) H2)) (CHr.keep K8 all0 H5)) (CHr.keep K216 (allS (Safe.exa hZ.alike p8_1 (by decide) (by decide)) all0) H10))) (by rw [q221]; exact ((p4_1.keep K8).keep K216)) (by rw [q221]; exact ((p4_2.keep K8 nin0).keep K216 (ninS y238 nin0))) (by rw [q221]; exact ((p4_3.keep K8 nin0).keep K216 (ninS y238 nin0))) (by rw [q221]; exact ((p4_4.keep K8 nin0).keep K216 (ninS y239 nin0))) (by rw [q221]; exact ((p4_5.keep K8).keep K216)) (by rw [q221]; exact p216_0) (by rw [q221]; exact p216_1) (by rw [q221]; exact p216_2) (by rw [q221]; exact p216_3) (by rw [q221]; exact p216_4) bw0 rfl rfl
    refine o_aloadN X237 hx (D 69 rfl) rfl rfl <| o_cF X237 hx hZ hown (rm_hn0 hw  O237 a237_6 a237_7 (Fy.keep K237 nin0) (show (1 : Int32) = (1 : Int32) from congrArg Int32.ofNat (show 1 = 1 by omega))) w124 w125 (mvT hZ w126) w127 w128 w129 w130 w131 w111 w132 (by decide) rfl a237_5 hml rfl [] [] own_pd3 rfl rfl 0 rfl (by decide) (D 70 rfl) fun T240 L240 v240 X240 hQ240 => ?_
    obtain ⟨rfl, Nq240, q240⟩ := hQ240
    have N240 := Fr.app N237 Nq240
    refine o_ifYes X240 hx 93 (D 71 rfl) (teq (by decide : (0 : Int32) = (0 : Int32))).1 rfl ?_
    exact T93 _ _ _ _ _ _ _ (X240.more (by decide) (by decide)) N240 (by rw [q240]; exact O237) (by rw [q240]; exact ((Keep.refl h0 []).trans K237 all0)) (by rw [q240]; exact C237) (by rw [q240]; exact a237_0) (by rw [q240]; exact a237_1) (by rw [q240]; exact a237_2) (by rw [q240]; exact a237_3) (by rw [q240]; exact a237_4) (Or.inr ⟨_, rfl⟩) (Or.inr ⟨_, rfl⟩) hb237 (by simp [own_mask, e1])
  · have bw0 : own_bw n_ 0 (0 : Int32) zw_4 lw_4 := by
      rcases p4_6 with ⟨q1, q2, q3⟩ | ⟨q1, q2, q3⟩
      · exact Or.inl ⟨q1, rfl, rfl⟩
      · exact Or.inr ⟨q1, q2, q3, Or.inl ⟨rfl, rfl⟩⟩
    have Fz : Fld Z T8.heap w_ "java/util/ArrayList" "size" "I" (.int (2 : Int32)) := by have q := (((Fld.ext E1 pr4).keep K4 (ninS y9 nin0)).keep K8 nin0); rw [e1] at q; exact q
    have y241 : e_ ≠ b1 := (Nat.ne_of_lt (Nat.lt_of_lt_of_le (Nat.lt_of_lt_of_le pr6.lt (Nat.le_refl _)) (Nat.le_of_eq g1.symm)))
    have Vz : Arv Z T8.heap e_ ke_ (.object "java/lang/Object") (10 : Int32) [(.ref q1_), (.ref q2_), .null, .null, .null, .null, .null, .null, .null, .null] .null := by have q := (((pr6.ext E1).keep K4 (ninS y241 nin0)).keep K8 nin0); rw [e2, e3] at q; exact q
    have Fy : Fld Z h0 w_ "java/util/ArrayList" "size" "I" (.int (2 : Int32)) := by have q := pr4; rw [e1] at q; exact q
    have Vy : Arv Z h0 e_ ke_ (.object "java/lang/Object") (10 : Int32) [(.ref q1_), (.ref q2_), .null, .null, .null, .null, .null, .null, .null, .null] .null := by have q := pr6; rw [e2, e3] at q; exact q
    refine o_aloadN X8 hx (D 69 rfl) rfl rfl <| o_cF X8 hx hZ hown (rm_hn1 hw  (((O0.ext E1).keep K4 (allS n0_b1 all0)).keep K8 all0) p8_2 p8_3 Fz (show ¬ ((0 : Int32) = (2 : Int32)) from XT.ne32 (a := 0) (b := 2) (by omega) (by omega) (by omega))) w124 w125 (mvT hZ w126) w127 w128 w129 w130 w131 w111 w132 (by decide) rfl p8_1 hml rfl [] [] own_pd3 rfl rfl 0 rfl (by decide) (D 70 rfl) fun T242 L242 v242 X242 hQ242 => ?_
    obtain ⟨rfl, Nq242, q242⟩ := hQ242
    have N242 := Fr.app N8 Nq242
    refine o_ifNo X242 hx (D 71 rfl) (feq (by decide : ¬ ((1 : Int32) = (0 : Int32)))).1 <| o_aloadN X242 hx (D 72 rfl) rfl rfl ?_
    have y244 : t_8 ≠ w_ := (Nat.ne_of_gt (Nat.lt_of_lt_of_le (Nat.lt_of_lt_of_le pr2.lt z11) p8_0))
    have y245 : t_8 ≠ e_ := (Nat.ne_of_gt (Nat.lt_of_lt_of_le (Nat.lt_of_lt_of_le pr6.lt z11) p8_0))
    refine o_cF X242 hx hZ hown (rm_nx0b hw  (((O0.ext E1).keep K4 (allS n0_b1 all0)).keep K8 all0) p8_1 p8_2 p8_3 p8_4 p8_5 (((Fld.ext E1 pr3).keep K4 (ninS y9 nin0)).keep K8 nin0) Fz (((Fld.ext E1 pr5).keep K4 (ninS y9 nin0)).keep K8 nin0) Vz n0_t_8 y244 y245) (W 136 rfl) (W 137 rfl) (mvT hZ (W 138 rfl)) (W 139 rfl) (W 140 rfl) (W 141 rfl) (W 142 rfl) w131 w111 (W 143 rfl) (by decide) q242 p8_1 hml rfl [] [] own_pd45 rfl rfl 0 rfl (by decide) (D 73 rfl) fun T243 L243 v243 X243 hQ243 => ?_
    obtain ⟨rfl, Nq243, K243, p243_0, p243_1, p243_2, p243_3, p243_4⟩ := hQ243
    have N243 := Fr.app N242 Nq243
    have H246 := CHv.keep K243 (allS (Safe.exa hZ.alike p8_1 (by decide) (by decide)) all0) H10
    obtain ⟨T247, X247, e247, st247⟩ := castY X243 hx hZ hown (W 150 rfl) rfl (Ins.self ((((Exa.ext E1 pr11).keep K4).keep K8).keep K243)) (g := (mkF m 43 #[vr z_, vr x_, vr b1, vr t_8, .unset, .unset] [(.ref q1_)])) rfl rfl (D 74 rfl)
    refine ogoF st247 <| o_astore X247 hx (l' := #[vr z_, vr x_, vr b1, vr t_8, vr q1_, .unset]) (D 75 rfl) rfl rfl <| o_aloadN X247 hx (D 76 rfl) rfl rfl <| o_aload X247 hx (D 77 rfl) rfl rfl ?_
    have c249 := ((((O0.ext E1).keep K4 (allS n0_b1 all0)).keep K8 all0).keep K243 (allS n0_t_8 all0))
    have y250 : x_ ≠ b1 := (Nat.ne_of_lt (Nat.lt_of_lt_of_le (Nat.lt_of_lt_of_le pr7.lt (Nat.le_refl _)) (Nat.le_of_eq g1.symm)))
    have y251 : x_ ≠ t_8 := (Nat.ne_of_lt (Nat.lt_of_lt_of_le (Nat.lt_of_lt_of_le pr7.lt z11) p8_0))
    have c252 := ((((Fld.ext E1 pr8).keep K4 (ninS y250 nin0)).keep K8 nin0).keep K243 (ninS y251 nin0))
    have c253 := ((((Fld.ext E1 pr9).keep K4 (ninS y250 nin0)).keep K8 nin0).keep K243 (ninS y251 nin0))
    have y254 : ba_ ≠ b1 := (Nat.ne_of_lt (Nat.lt_of_lt_of_le (Nat.lt_of_lt_of_le pr10.lt (Nat.le_refl _)) (Nat.le_of_eq g1.symm)))
    have y255 : ba_ ≠ t_8 := (Nat.ne_of_lt (Nat.lt_of_lt_of_le (Nat.lt_of_lt_of_le pr10.lt z11) p8_0))
    have c256 := ((((pr10.ext E1).keep K4 (ninS y254 nin0)).keep K8 nin0).keep K243 (ninS y255 nin0))
    have y257 : q1_ ≠ b1 := (Nat.ne_of_lt (Nat.lt_of_lt_of_le (Nat.lt_of_lt_of_le pr11.lt (Nat.le_refl _)) (Nat.le_of_eq g1.symm)))
    have y258 : q1_ ≠ t_8 := (Nat.ne_of_lt (Nat.lt_of_lt_of_le (Nat.lt_of_lt_of_le pr11.lt z11) p8_0))
    have c259 := ((((Fld.ext E1 pr12).keep K4 (ninS y257 nin0)).keep K8 nin0).keep K243 (ninS y258 nin0))
    have c260 := ((((Fld.ext E1 pr13).keep K4 (ninS y257 nin0)).keep K8 nin0).keep K243 (ninS y258 nin0))
    have y261 : c1_ ≠ b1 := (Nat.ne_of_lt (Nat.lt_of_lt_of_le (Nat.lt_of_lt_of_le pr14.lt (Nat.le_refl _)) (Nat.le_of_eq g1.symm)))
    have y262 : c1_ ≠ t_8 := (Nat.ne_of_lt (Nat.lt_of_lt_of_le (Nat.lt_of_lt_of_le pr14.lt z11) p8_0))
    have c263 := ((((pr14.ext E1).keep K4 (ninS y261 nin0)).keep K8 nin0).keep K243 (ninS y262 nin0))
    refine o_cv X247 hx hZ hown (rm_sio hw n_ r1_ SB c249 ((((Exa.ext E1 pr7).keep K4).keep K8).keep K243) c252 c253 c256 ((((Exa.ext E1 pr11).keep K4).keep K8).keep K243) c259 c260 c263 (by first | rfl | assumption | decide | omega) (by first | rfl | assumption | decide | omega)) (W 362 rfl) (W 363 rfl) (W 365 rfl) (W 364 rfl) w12 (W 366 rfl) (by decide) e247 ((((Exa.ext E1 pr7).keep K4).keep K8).keep K243) hml rfl [(.ref q1_)] [] own_pd51 rfl rfl 0 rfl (by decide) (D 78 rfl) fun T248 L248 v248 X248 hQ248 => ?_
    obtain ⟨rfl, Nq248, q248⟩ := hQ248
    have N248 := Fr.app N243 Nq248
    refine o_istore X248 hx (l' := #[vr z_, vr x_, vr b1, vr t_8, vr q1_, vi (own_idxF xs_ u1_ r1_ (n_ + 1 - r1_ - 0) 0)]) (D 79 rfl) rfl ?_
    have y265 : b1 ≠ t_8 := (Nat.ne_of_lt (Nat.lt_of_lt_of_le (Nat.lt_of_lt_of_le A1.lt K4.1) p8_0))
    have y266 : wa_4 ≠ t_8 := (Nat.ne_of_lt (Nat.lt_of_lt_of_le (Nat.lt_of_lt_of_le p4_4.lt (Nat.le_refl _)) p8_0))
    refine L56 q1_ c1_ j1_ u1_ r1_ pr11 pr12 pr13 pr14 e4 (1 : Int32) (0 : Int32) (own_occ xs_ u1_ r1_ (n_ + 1 - r1_ - 0) 0 0) (fun v264 lv264 T264 Lo264 X264 N264 O264 K264 C264 a264_0 a264_1 a264_2 a264_3 a264_4 a264_5 a264_6 a264_7 a264_8 a264_9 hb264 => ?_) _ 0 0 _ _ _ _ (X248.more (by decide) (by decide)) N248 (by rw [q248]; exact c249) (by rw [q248]; exact (((((Keep.refl h0 []).ext E1).trans K4 (allS (Or.inr (Nat.le_trans (Nat.le_refl _) (Nat.le_of_eq g1.symm))) all0)).trans K8 all0).trans K243 (allS (Or.inr (Nat.le_trans z11 p8_0)) all0))) (by rw [q248]; exact (CHr.trans (CHr.trans (CHr.trans (CHr.ext E1 H0) (CHr.keep K4 (allS (Safe.exa hZ.alike A1 (by decide) (by decide)) all0) H2)) (CHr.keep K8 all0 H5)) (CHr.keep K243 (allS (Safe.exa hZ.alike p8_1 (by decide) (by decide)) all0) H10))) (by rw [q248]; exact ((p4_1.keep K8).keep K243)) (by rw [q248]; exact ((p4_2.keep K8 nin0).keep K243 (ninS y265 nin0))) (by rw [q248]; exact ((p4_3.keep K8 nin0).keep K243 (ninS y265 nin0))) (by rw [q248]; exact ((p4_4.keep K8 nin0).keep K243 (ninS y266 nin0))) (by rw [q248]; exact ((p4_5.keep K8).keep K243)) (by rw [q248]; exact p243_0) (by rw [q248]; exact p243_1) (by rw [q248]; exact p243_2) (by rw [q248]; exact p243_3) (by rw [q248]; exact p243_4) bw0 rfl rfl
    refine o_aloadN X264 hx (D 69 rfl) rfl rfl <| o_cF X264 hx hZ hown (rm_hn1 hw  O264 a264_6 a264_7 (Fy.keep K264 nin0) (show ¬ ((1 : Int32) = (2 : Int32)) from XT.ne32 (a := 1) (b := 2) (by omega) (by omega) (by omega))) w124 w125 (mvT hZ w126) w127 w128 w129 w130 w131 w111 w132 (by decide) rfl a264_5 hml rfl [] [] own_pd3 rfl rfl 0 rfl (by decide) (D 70 rfl) fun T267 L267 v267 X267 hQ267 => ?_
    obtain ⟨rfl, Nq267, q267⟩ := hQ267
    have N267 := Fr.app N264 Nq267
    refine o_ifNo X267 hx (D 71 rfl) (feq (by decide : ¬ ((1 : Int32) = (0 : Int32)))).1 <| o_aloadN X267 hx (D 72 rfl) rfl rfl ?_
    have y269 : t_8 ≠ w_ := (Nat.ne_of_gt (Nat.lt_of_lt_of_le (Nat.lt_of_lt_of_le pr2.lt (Nat.le_refl _)) ge_t_8))
    have y270 : t_8 ≠ e_ := (Nat.ne_of_gt (Nat.lt_of_lt_of_le (Nat.lt_of_lt_of_le pr6.lt (Nat.le_refl _)) ge_t_8))
    refine o_cF X267 hx hZ hown (rm_nx1b hw  O264 a264_5 a264_6 a264_7 a264_8 a264_9 (pr3.keep K264 nin0) (Fy.keep K264 nin0) (pr5.keep K264 nin0) (Vy.keep K264 nin0) n0_t_8 y269 y270) (W 136 rfl) (W 137 rfl) (mvT hZ (W 138 rfl)) (W 139 rfl) (W 140 rfl) (W 141 rfl) (W 142 rfl) w131 w111 (W 143 rfl) (by decide) q267 a264_5 hml rfl [] [] own_pd45 rfl rfl 0 rfl (by decide) (D 73 rfl) fun T268 L268 v268 X268 hQ268 => ?_
    obtain ⟨rfl, Nq268, K268, p268_0, p268_1, p268_2, p268_3, p268_4⟩ := hQ268
    have N268 := Fr.app N267 Nq268
    have H271 := CHv.keep K268 (allS (Safe.exa hZ.alike a264_5 (by decide) (by decide)) all0) C264.1
    obtain ⟨T272, X272, e272, st272⟩ := castY X268 hx hZ hown (W 150 rfl) rfl (Ins.self ((pr15.keep K264).keep K268)) (g := (mkF m 43 #[vr z_, vr x_, vr b1, vr t_8, vr q1_, vi (-1 : Int32)] [(.ref q2_)])) rfl rfl (D 74 rfl)
    refine ogoF st272 <| o_astore X272 hx (l' := #[vr z_, vr x_, vr b1, vr t_8, vr q2_, vi (-1 : Int32)]) (D 75 rfl) rfl rfl <| o_aloadN X272 hx (D 76 rfl) rfl rfl <| o_aload X272 hx (D 77 rfl) rfl rfl ?_
    have y274 : x_ ≠ t_8 := (Nat.ne_of_lt (Nat.lt_of_lt_of_le (Nat.lt_of_lt_of_le pr7.lt (Nat.le_refl _)) ge_t_8))
    have y275 : ba_ ≠ t_8 := (Nat.ne_of_lt (Nat.lt_of_lt_of_le (Nat.lt_of_lt_of_le pr10.lt (Nat.le_refl _)) ge_t_8))
    have y276 : q2_ ≠ t_8 := (Nat.ne_of_lt (Nat.lt_of_lt_of_le (Nat.lt_of_lt_of_le pr15.lt (Nat.le_refl _)) ge_t_8))
    have y277 : c2_ ≠ t_8 := (Nat.ne_of_lt (Nat.lt_of_lt_of_le (Nat.lt_of_lt_of_le pr18.lt (Nat.le_refl _)) ge_t_8))
    refine o_cv X272 hx hZ hown (rm_sio hw n_ r2_ SB (O264.keep K268 (allS n0_t_8 all0)) ((pr7.keep K264).keep K268) ((pr8.keep K264 nin0).keep K268 (ninS y274 nin0)) ((pr9.keep K264 nin0).keep K268 (ninS y274 nin0)) ((pr10.keep K264 nin0).keep K268 (ninS y275 nin0)) ((pr15.keep K264).keep K268) ((pr16.keep K264 nin0).keep K268 (ninS y276 nin0)) ((pr17.keep K264 nin0).keep K268 (ninS y276 nin0)) ((pr18.keep K264 nin0).keep K268 (ninS y277 nin0)) (by first | rfl | assumption | decide | omega) (by first | rfl | assumption | decide | omega)) (W 362 rfl) (W 363 rfl) (W 365 rfl) (W 364 rfl) w12 (W 366 rfl) (by decide) e272 ((pr7.keep K264).keep K268) hml rfl [(.ref q2_)] [] own_pd51 rfl rfl 0 rfl (by decide) (D 78 rfl) fun T273 L273 v273 X273 hQ273 => ?_
    obtain ⟨rfl, Nq273, q273⟩ := hQ273
    have N273 := Fr.app N268 Nq273
    refine o_istore X273 hx (l' := #[vr z_, vr x_, vr b1, vr t_8, vr q2_, vi (own_idxF xs_ u2_ r2_ (n_ + 1 - r2_ - 0) 0)]) (D 79 rfl) rfl ?_
    have y279 : b1 ≠ t_8 := (ne_exa (a264_0.keep K268) p268_0 (by decide))
    have y280 : wa_4 ≠ t_8 := (ne_exa (a264_4.keep K268) p268_0 (by decide))
    refine L56 q2_ c2_ j2_ u2_ r2_ pr15 pr16 pr17 pr18 e5 (2 : Int32) (1 : Int32) (own_occ xs_ u2_ r2_ (n_ + 1 - r2_ - 0) 0 (own_occ xs_ u1_ r1_ (n_ + 1 - r1_ - 0) 0 0)) (fun v278 lv278 T278 Lo278 X278 N278 O278 K278 C278 a278_0 a278_1 a278_2 a278_3 a278_4 a278_5 a278_6 a278_7 a278_8 a278_9 hb278 => ?_) _ 0 (own_occ xs_ u1_ r1_ (n_ + 1 - r1_ - 0) 0 0) _ _ _ _ (X273.more (by decide) (by decide)) N273 (by rw [q273]; exact (O264.keep K268 (allS n0_t_8 all0))) (by rw [q273]; exact (((Keep.refl h0 []).trans K264 all0).trans K268 (allS (Or.inr (Nat.le_trans (Nat.le_refl _) ge_t_8)) all0))) (by rw [q273]; exact (CHr.trans C264 (CHr.keep K268 (allS (Safe.exa hZ.alike a264_5 (by decide) (by decide)) all0) C264.1))) (by rw [q273]; exact (a264_0.keep K268)) (by rw [q273]; exact (a264_1.keep K268 (ninS y279 nin0))) (by rw [q273]; exact (a264_2.keep K268 (ninS y279 nin0))) (by rw [q273]; exact (a264_3.keep K268 (ninS y280 nin0))) (by rw [q273]; exact (a264_4.keep K268)) (by rw [q273]; exact p268_0) (by rw [q273]; exact p268_1) (by rw [q273]; exact p268_2) (by rw [q273]; exact p268_3) (by rw [q273]; exact p268_4) hb264 rfl rfl
    refine o_aloadN X278 hx (D 69 rfl) rfl rfl <| o_cF X278 hx hZ hown (rm_hn0 hw  O278 a278_6 a278_7 (Fy.keep K278 nin0) (show (2 : Int32) = (2 : Int32) from congrArg Int32.ofNat (show 2 = 2 by omega))) w124 w125 (mvT hZ w126) w127 w128 w129 w130 w131 w111 w132 (by decide) rfl a278_5 hml rfl [] [] own_pd3 rfl rfl 0 rfl (by decide) (D 70 rfl) fun T281 L281 v281 X281 hQ281 => ?_
    obtain ⟨rfl, Nq281, q281⟩ := hQ281
    have N281 := Fr.app N278 Nq281
    refine o_ifYes X281 hx 93 (D 71 rfl) (teq (by decide : (0 : Int32) = (0 : Int32))).1 rfl ?_
    exact T93 _ _ _ _ _ _ _ (X281.more (by decide) (by decide)) N281 (by rw [q281]; exact O278) (by rw [q281]; exact ((Keep.refl h0 []).trans K278 all0)) (by rw [q281]; exact C278) (by rw [q281]; exact a278_0) (by rw [q281]; exact a278_1) (by rw [q281]; exact a278_2) (by rw [q281]; exact a278_3) (by rw [q281]; exact a278_4) (Or.inr ⟨_, rfl⟩) (Or.inr ⟨_, rfl⟩) hb278 (by simp [own_mask, e1])
def own_Q_hdn (Z : State)  (z_ : Addr) (h0 : Heap) (n0 : Nat) (v : Option Value) (h : Heap) (L : List Loc) : Prop := (v = some .null) ∧ (Fr n0 L) ∧ (h = h0)
theorem rm_hdn {l : Launch} {Z : State} {a0 : Array Value} (hw : own_hw a0 Z)   (z_ : Addr) {h0 : Heap} {n0 : Nat} (O0 : Old Z n0 h0)  :
    oMet l Z yM84 prog_7_method_2_code 6 (some (.object "java/lang/String")) [] (rmo 0 0 0 0) 0 0 #[(.ref z_), .null] h0 (own_Q_hdn Z  z_ h0 n0) := by
  refine oenter (plainFor_of_name own_pn16) #[vr z_, .val .null, .unset, .unset, .unset, .unset] (fun _ => rfl) ?_
  intro p e s m below meth c s₁ X0 hx hZ hby hml hret hown hnm hlk e0
  have N0 := Fr.nil n0
  have D := own_hb hby D85
  have W := own_w hw
  refine o_aloadN X0 hx (D 0 rfl) rfl rfl <| o_ifnonnullNo X0 hx (D 1 rfl) <| o_aconst_null X0 hx (D 80 rfl) ?_
  exact oendR X0 hx hlk hret rfl rfl rfl (D 81 rfl) (by decide) e0 ⟨rfl, N0, rfl⟩
def own_or (x y : Int32) : Int32 := if x = (0 : Int32) then (if y = (0 : Int32) then (0 : Int32) else (1 : Int32)) else (1 : Int32)
theorem own_okL (y : Int64) : own_ok (nar .char (y &&& (255 : Int64)).toInt32) := by
  have a := c_maskL y (255 : Int64) 8 (by decide) (by decide)
  have b := c_l2i (y &&& (255 : Int64))
  have c := rng32 (y &&& (255 : Int64)).toInt32
  have d := c_i2c (y &&& (255 : Int64)).toInt32
  have e : (255 : Int32).toInt = 255 := rfl
  have e0 : (0 : Int32).toInt = 0 := rfl
  have q : (nar .char (y &&& (255 : Int64)).toInt32).toInt = (y &&& (255 : Int64)).toInt32.toUInt32.toUInt16.toUInt32.toInt32.toInt := rfl
  simp only [Nat.reducePow] at a
  refine ⟨?_, ?_⟩ <;> rw [Int32.lt_iff_toInt_lt] <;> omega
theorem own_n5 (y : Int64) : ((y &&& (7 : Int64)).toInt32 % (5 : Int32)) = (0 : Int32) ∨ ((y &&& (7 : Int64)).toInt32 % (5 : Int32)) = (1 : Int32) ∨ ((y &&& (7 : Int64)).toInt32 % (5 : Int32)) = (2 : Int32) ∨ ((y &&& (7 : Int64)).toInt32 % (5 : Int32)) = (3 : Int32) ∨ ((y &&& (7 : Int64)).toInt32 % (5 : Int32)) = (4 : Int32) := by
  have a := c_maskL y (7 : Int64) 3 (by decide) (by decide)
  have b := c_l2i (y &&& (7 : Int64))
  have c := rng32 (y &&& (7 : Int64)).toInt32
  have d := (c_irem (y &&& (7 : Int64)).toInt32 (5 : Int32) 5 rfl).1
  simp only [Nat.reducePow] at a
  have h : ∀ k : Int32, ((y &&& (7 : Int64)).toInt32 % (5 : Int32)).toInt = k.toInt → ((y &&& (7 : Int64)).toInt32 % (5 : Int32)) = k := fun k q => Int32.toInt_inj.mp q
  have z0 : (0 : Int32).toInt = 0 := rfl
  have z1 : (1 : Int32).toInt = 1 := rfl
  have z2 : (2 : Int32).toInt = 2 := rfl
  have z3 : (3 : Int32).toInt = 3 := rfl
  have z4 : (4 : Int32).toInt = 4 := rfl
  have r : ((y &&& (7 : Int64)).toInt32 % (5 : Int32)).toInt = 0 ∨ ((y &&& (7 : Int64)).toInt32 % (5 : Int32)).toInt = 1 ∨ ((y &&& (7 : Int64)).toInt32 % (5 : Int32)).toInt = 2 ∨ ((y &&& (7 : Int64)).toInt32 % (5 : Int32)).toInt = 3 ∨ ((y &&& (7 : Int64)).toInt32 % (5 : Int32)).toInt = 4 := by
    have d' := d (by omega)
    omega
  rcases r with r | r | r | r | r
  · exact Or.inl (h 0 (r.trans z0.symm))
  · exact Or.inr (Or.inl (h 1 (r.trans z1.symm)))
  · exact Or.inr (Or.inr (Or.inl (h 2 (r.trans z2.symm))))
  · exact Or.inr (Or.inr (Or.inr (Or.inl (h 3 (r.trans z3.symm)))))
  · exact Or.inr (Or.inr (Or.inr (Or.inr (h 4 (r.trans z4.symm)))))
/-- all that the walk knows of the values -/
def own_W (t0 t1 t2 t3 a1 b1 a2 b2 nn mA mB c0 c1 c2 c3 : Int32) (xs rs : List Int32) (n rn : Nat) : Prop := own_ok t0 ∧ own_ok t1 ∧ own_ok t2 ∧ own_ok t3 ∧ own_ok a1 ∧ own_ok b1 ∧ own_ok a2 ∧ own_ok b2 ∧ (∃ sz ze ve q1 q2 r1 r2 u1 u2, own_sel sz ze ve q1 q2 (own_pn mA) (own_pn mB) r1 r2 (own_prt a1 b1 mA) (own_prt a2 b2 mB) u1 u2 ∧ rs = own_hide xs n (own_mask xs n sz u1 r1 u2 r2)) ∧ xs = own_txt t0 t1 t2 t3 nn ∧ n = own_tn nn ∧ rs.length = rn ∧ rn ≤ 60 ∧ c0 = own_or (own_cov t0 t0 t1 (0 : Int32) (1 : Int32) nn a1 b1 mA) (own_cov t0 t0 t1 (0 : Int32) (1 : Int32) nn a2 b2 mB) ∧ c1 = own_or (own_cov t0 t1 t2 (1 : Int32) (2 : Int32) nn a1 b1 mA) (own_cov t0 t1 t2 (1 : Int32) (2 : Int32) nn a2 b2 mB) ∧ c2 = own_or (own_cov t1 t2 t3 (2 : Int32) (3 : Int32) nn a1 b1 mA) (own_cov t1 t2 t3 (2 : Int32) (3 : Int32) nn a2 b2 mB) ∧ c3 = own_or (own_cov t2 t3 (0 : Int32) (3 : Int32) (4 : Int32) nn a1 b1 mA) (own_cov t2 t3 (0 : Int32) (3 : Int32) (4 : Int32) nn a2 b2 mB)
theorem own_byi {c d : Int32} (hc : own_ok c) (hd : own_ok d) : own_by c = own_by d ↔ c = d := by
  refine ⟨fun h => ?_, fun h => by rw [h]⟩
  have a := own_char hc.1 hc.2
  have b := own_char hd.1 hd.2
  have h' : c.toInt8.toInt32 = d.toInt8.toInt32 := h
  rw [← a, ← b, h']
def own_bi (b : Bool) : Int32 := if b then (1 : Int32) else (0 : Int32)
def own_Wb (b0 b1 b2 b3 : Bool) : Int64 := (if b0 then 1 else 0) + (if b1 then 2 else 0) + (if b2 then 4 else 0) + (if b3 then 8 else 0)
def own_eb (e0 e1 e2 e3 : Bool) (i : Nat) : Bool := if i = 0 then e0 else if i = 1 then e1 else if i = 2 then e2 else if i = 3 then e3 else false
def own_occB (e : Nat → Bool) (m : Nat) : Nat → Nat → Int64 → Int64
  | 0, _, w => w
  | k + 1, i, w => own_occB e m k (i + 1) (if e i = true then w ||| own_rng (Int32.ofNat i) (Int32.ofNat (i + m)) else w)
theorem own_occ_B {xs ys : List Int32} {m : Nat} (e : Nat → Bool) : ∀ k i w, (∀ j, j < i + k → (e j = true ↔ own_m xs ys m j)) → own_occ xs ys m k i w = own_occB e m k i w := by
  intro k
  induction k with
  | zero => exact fun i w _ => rfl
  | succ k ih =>
    intro i w h
    show own_occ xs ys m k (i + 1) (if own_m xs ys m i then _ else _) = own_occB e m k (i + 1) (if e i = true then _ else _)
    have hi := h i (by omega)
    rw [ih (i + 1) _ (fun j hj => h j (by omega))]
    by_cases q : own_m xs ys m i
    · rw [if_pos q, if_pos (hi.mpr q)]
    · rw [if_neg q, if_neg (fun z => q (hi.mp z))]
def own_dB (n m : Nat) (e0 e1 e2 e3 : Bool) (i : Nat) : Bool := decide (i < n) && (if m = 1 then own_eb e0 e1 e2 e3 i else ((decide (i + 1 < n) && own_eb e0 e1 e2 e3 i) || (decide (1 ≤ i) && own_eb e0 e1 e2 e3 (i - 1))))
theorem own_occF : ∀ (n : Fin 5) (m : Fin 3) (e0 e1 e2 e3 b0 b1 b2 b3 : Bool), 0 < m.1 → own_occB (own_eb e0 e1 e2 e3) m.1 (n.1 + 1 - m.1 - 0) 0 (own_Wb b0 b1 b2 b3) = own_Wb (b0 || own_dB n.1 m.1 e0 e1 e2 e3 0) (b1 || own_dB n.1 m.1 e0 e1 e2 e3 1) (b2 || own_dB n.1 m.1 e0 e1 e2 e3 2) (b3 || own_dB n.1 m.1 e0 e1 e2 e3 3) := by decide +kernel
def own_occP (xs ys : List Int32) (m n : Nat) (w : Int64) : Int64 := if m = 0 then w else own_occ xs ys m (n + 1 - m - 0) 0 w
theorem own_maskP {xs : List Int32} {n : Nat} {sz ze : Int32} {ve : List Value} {q1 q2 : Addr} {m1 m2 r1 r2 : Nat} {y1 y2 u1 u2 : List Int32} (h : own_sel sz ze ve q1 q2 m1 m2 r1 r2 y1 y2 u1 u2) : own_mask xs n sz u1 r1 u2 r2 = own_occP xs y2 m2 n (own_occP xs y1 m1 n 0) := by
  unfold own_mask own_occP
  rcases h with ⟨a, b, e⟩ | ⟨a, b, e, -, -, rfl, rfl⟩ | ⟨a, b, e, -, -, rfl, rfl⟩ | ⟨a, b, e, -, -, rfl, rfl, rfl, rfl⟩
  · rw [if_pos e, if_pos b, if_pos a]
  · rw [if_neg (by rw [e]; decide), if_pos e, if_pos b, if_neg a]
  · rw [if_neg (by rw [e]; decide), if_pos e, if_neg b, if_pos a]
  · rw [if_neg (by rw [e]; decide), if_neg (by rw [e]; decide), if_neg b, if_neg a]
theorem own_covB {tm t tp i i1 n a b m : Int32} : own_cov tm t tp i i1 n a b m ≠ (0 : Int32) ↔ (i < n ∧ ¬ m = (0 : Int32) ∧ ((m = (1 : Int32) ∧ t = a) ∨ (¬ m = (1 : Int32) ∧ ((i1 < n ∧ t = a ∧ tp = b) ∨ (¬ i < (1 : Int32) ∧ tm = a ∧ t = b))))) := by
  unfold own_cov
  by_cases h1 : i < n
  · by_cases h2 : m = (0 : Int32)
    · rw [if_pos h1, if_pos h2]; exact ⟨fun q => absurd rfl q, fun q => absurd h2 q.2.1⟩
    · by_cases h3 : m = (1 : Int32)
      · rw [if_pos h1, if_neg h2, if_pos h3]
        by_cases h4 : t = a
        · rw [if_pos h4]; exact ⟨fun _ => ⟨h1, h2, Or.inl ⟨h3, h4⟩⟩, fun _ => by decide⟩
        · rw [if_neg h4]; exact ⟨fun q => absurd rfl q, fun q => by rcases q.2.2 with z | z; exact absurd z.2 h4; exact absurd h3 z.1⟩
      · rw [if_pos h1, if_neg h2, if_neg h3]
        by_cases h4 : i1 < n ∧ t = a ∧ tp = b
        · rw [if_pos h4]; exact ⟨fun _ => ⟨h1, h2, Or.inr ⟨h3, Or.inl h4⟩⟩, fun _ => by decide⟩
        · rw [if_neg h4]
          by_cases h5 : ¬ i < (1 : Int32) ∧ tm = a ∧ t = b
          · rw [if_pos h5]; exact ⟨fun _ => ⟨h1, h2, Or.inr ⟨h3, Or.inr h5⟩⟩, fun _ => by decide⟩
          · rw [if_neg h5]; exact ⟨fun q => absurd rfl q, fun q => by rcases q.2.2 with z | z; exact absurd z.1 h3; rcases z.2 with y | y; exact absurd y h4; exact absurd y h5⟩
  · rw [if_neg h1]; exact ⟨fun q => absurd rfl q, fun q => absurd q.1 h1⟩
def own_E (xs ys : List Int32) (m i : Nat) : Bool := decide (own_m xs ys m i)
theorem own_occE {xs ys : List Int32} {m n : Nat} (hn : n ≤ 4) (hm : m = 1 ∨ m = 2) (b0 b1 b2 b3 : Bool) : own_occ xs ys m (n + 1 - m - 0) 0 (own_Wb b0 b1 b2 b3) = own_Wb (b0 || own_dB n m (own_E xs ys m 0) (own_E xs ys m 1) (own_E xs ys m 2) (own_E xs ys m 3) 0) (b1 || own_dB n m (own_E xs ys m 0) (own_E xs ys m 1) (own_E xs ys m 2) (own_E xs ys m 3) 1) (b2 || own_dB n m (own_E xs ys m 0) (own_E xs ys m 1) (own_E xs ys m 2) (own_E xs ys m 3) 2) (b3 || own_dB n m (own_E xs ys m 0) (own_E xs ys m 1) (own_E xs ys m 2) (own_E xs ys m 3) 3) := by
  rw [own_occ_B (own_eb (own_E xs ys m 0) (own_E xs ys m 1) (own_E xs ys m 2) (own_E xs ys m 3)) _ _ _ (fun j hj => ?_)]
  · exact own_occF ⟨n, by omega⟩ ⟨m, by omega⟩ _ _ _ _ b0 b1 b2 b3 (by show 0 < m; omega)
  · have hj' : j = 0 ∨ j = 1 ∨ j = 2 ∨ j = 3 := by omega
    rcases hj' with rfl | rfl | rfl | rfl <;> simp [own_eb, own_E]
theorem own_dc {t0 t1 t2 t3 a b nn m : Int32} (k0 : own_ok t0) (k1 : own_ok t1) (k2 : own_ok t2) (k3 : own_ok t3) (ka : own_ok a) (kb : own_ok b) (h5 : nn = (0 : Int32) ∨ nn = (1 : Int32) ∨ nn = (2 : Int32) ∨ nn = (3 : Int32) ∨ nn = (4 : Int32)) (hm : ¬ m = (0 : Int32)) :
    (∀ E, E = own_E (own_txt t0 t1 t2 t3 nn) (own_prt a b m) (own_pn m) → own_dB (own_tn nn) (own_pn m) (E 0) (E 1) (E 2) (E 3) 0 = decide (own_cov t0 t0 t1 (0 : Int32) (1 : Int32) nn a b m ≠ (0 : Int32)) ∧ own_dB (own_tn nn) (own_pn m) (E 0) (E 1) (E 2) (E 3) 1 = decide (own_cov t0 t1 t2 (1 : Int32) (2 : Int32) nn a b m ≠ (0 : Int32)) ∧ own_dB (own_tn nn) (own_pn m) (E 0) (E 1) (E 2) (E 3) 2 = decide (own_cov t1 t2 t3 (2 : Int32) (3 : Int32) nn a b m ≠ (0 : Int32)) ∧ own_dB (own_tn nn) (own_pn m) (E 0) (E 1) (E 2) (E 3) 3 = decide (own_cov t2 t3 (0 : Int32) (3 : Int32) (4 : Int32) nn a b m ≠ (0 : Int32))) := by
  intro E hE
  subst hE
  have q0 : (own_by t0 = own_by a) = (t0 = a) := propext (own_byi k0 ka)
  have q1 : (own_by t1 = own_by a) = (t1 = a) := propext (own_byi k1 ka)
  have q2 : (own_by t2 = own_by a) = (t2 = a) := propext (own_byi k2 ka)
  have q3 : (own_by t3 = own_by a) = (t3 = a) := propext (own_byi k3 ka)
  have p0 : (own_by t0 = own_by b) = (t0 = b) := propext (own_byi k0 kb)
  have p1 : (own_by t1 = own_by b) = (t1 = b) := propext (own_byi k1 kb)
  have p2 : (own_by t2 = own_by b) = (t2 = b) := propext (own_byi k2 kb)
  have p3 : (own_by t3 = own_by b) = (t3 = b) := propext (own_byi k3 kb)
  by_cases h1 : m = (1 : Int32)
  · rcases h5 with rfl | rfl | rfl | rfl | rfl <;> refine ⟨?_, ?_, ?_, ?_⟩ <;> rw [Bool.eq_iff_iff, decide_eq_true_iff, own_covB] <;> simp +decide [own_dB, own_eb, own_E, own_m, own_txt, own_prt, own_pn, own_tn, h1, q0, q1, q2, q3]
  · rcases h5 with rfl | rfl | rfl | rfl | rfl <;> refine ⟨?_, ?_, ?_, ?_⟩ <;> rw [Bool.eq_iff_iff, decide_eq_true_iff, own_covB] <;> simp +decide [own_dB, own_eb, own_E, own_m, own_txt, own_prt, own_pn, own_tn, h1, hm, q0, q1, q2, q3, p0, p1, p2, p3]

theorem own_part {t0 t1 t2 t3 a b nn m : Int32} (k0 : own_ok t0) (k1 : own_ok t1) (k2 : own_ok t2) (k3 : own_ok t3) (ka : own_ok a) (kb : own_ok b) (h5 : nn = (0 : Int32) ∨ nn = (1 : Int32) ∨ nn = (2 : Int32) ∨ nn = (3 : Int32) ∨ nn = (4 : Int32)) (b0 b1 b2 b3 : Bool) : own_occP (own_txt t0 t1 t2 t3 nn) (own_prt a b m) (own_pn m) (own_tn nn) (own_Wb b0 b1 b2 b3) = own_Wb (b0 || decide (own_cov t0 t0 t1 (0 : Int32) (1 : Int32) nn a b m ≠ (0 : Int32))) (b1 || decide (own_cov t0 t1 t2 (1 : Int32) (2 : Int32) nn a b m ≠ (0 : Int32))) (b2 || decide (own_cov t1 t2 t3 (2 : Int32) (3 : Int32) nn a b m ≠ (0 : Int32))) (b3 || decide (own_cov t2 t3 (0 : Int32) (3 : Int32) (4 : Int32) nn a b m ≠ (0 : Int32))) := by
  unfold own_occP
  by_cases hm : m = (0 : Int32)
  · have e : own_pn m = 0 := if_pos hm
    rw [if_pos e]
    have f : ∀ tm t tp i i1, decide (own_cov tm t tp i i1 nn a b m ≠ (0 : Int32)) = false := fun tm t tp i i1 => decide_eq_false fun q => (own_covB.mp q).2.1 hm
    rw [f, f, f, f, Bool.or_false, Bool.or_false, Bool.or_false, Bool.or_false]
  · have hn := (own_txl t0 t1 t2 t3 nn).2
    have e : own_pn m = 1 ∨ own_pn m = 2 := by
      unfold own_pn; rw [if_neg hm]; by_cases z : m = (1 : Int32)
      · rw [if_pos z]; exact Or.inl rfl
      · rw [if_neg z]; exact Or.inr rfl
    rw [if_neg (by omega), own_occE hn e]
    obtain ⟨d0, d1, d2, d3⟩ := own_dc k0 k1 k2 k3 ka kb h5 hm _ rfl
    rw [d0, d1, d2, d3]
def own_hideG {α : Type} (hid xs : List α) (n : Nat) (w : Int64) : List α :=
  if own_nsb w (Int32.ofNat 0) = (-1 : Int32) then ([] ++ (xs.drop 0).take (n - 0)) else
  let a := (own_nsb w (Int32.ofNat 0)).toNatClampNeg
  let b := (own_ncb w (Int32.ofNat a)).toNatClampNeg
  if own_nsb w (Int32.ofNat b) = (-1 : Int32) then (([] ++ (xs.drop 0).take (a - 0)) ++ (hid.drop 0).take 11) ++ (xs.drop b).take (n - b) else
  let c := (own_nsb w (Int32.ofNat b)).toNatClampNeg
  let d := (own_ncb w (Int32.ofNat c)).toNatClampNeg
  (((([] ++ (xs.drop 0).take (a - 0)) ++ (hid.drop 0).take 11) ++ (xs.drop b).take (c - b)) ++ (hid.drop 0).take 11) ++ (xs.drop d).take (n - d)
theorem own_hideM {α β : Type} (f : α → β) (hid xs : List α) (n : Nat) (w : Int64) : own_hideG (hid.map f) (xs.map f) n w = (own_hideG hid xs n w).map f := by
  unfold own_hideG
  by_cases h1 : own_nsb w (Int32.ofNat 0) = (-1 : Int32)
  · rw [if_pos h1, if_pos h1]; simp
  · rw [if_neg h1, if_neg h1]
    simp only []
    split <;> simp
def own_hc : List Nat := [0, 1, 2, 3, 4, 5, 6, 7, 8, 9, 10]
def own_cs : List Nat := [100, 101, 102, 103]
def own_sc (rs : List Nat) (k i : Nat) (b p : Bool) : Option Nat := if b then (if p then some k else if (rs.drop k).take 11 = own_hc then some (k + 11) else none) else if rs[k]? = some (100 + i) then some (k + 1) else none
def own_rs (n : Nat) (b0 b1 b2 b3 : Bool) : List Nat := own_hideG own_hc (own_cs.take n) n (own_Wb b0 b1 b2 b3)
theorem own_r0 : (own_rs 0 false false false false).length = 0 := by decide +kernel
theorem own_r1 : ∀ b0, own_sc (own_rs 1 b0 false false false) 0 0 b0 false = some (own_rs 1 b0 false false false).length := by decide +kernel
theorem own_r2 : ∀ b0 b1, ((own_sc (own_rs 2 b0 b1 false false) 0 0 b0 false).bind fun k1 => own_sc (own_rs 2 b0 b1 false false) k1 1 b1 b0) = some (own_rs 2 b0 b1 false false).length := by decide +kernel
theorem own_r3 : ∀ b0 b1 b2, ((own_sc (own_rs 3 b0 b1 b2 false) 0 0 b0 false).bind fun k1 => (own_sc (own_rs 3 b0 b1 b2 false) k1 1 b1 b0).bind fun k2 => own_sc (own_rs 3 b0 b1 b2 false) k2 2 b2 b1) = some (own_rs 3 b0 b1 b2 false).length := by decide +kernel
theorem own_r4 : ∀ b0 b1 b2 b3, ((own_sc (own_rs 4 b0 b1 b2 b3) 0 0 b0 false).bind fun k1 => (own_sc (own_rs 4 b0 b1 b2 b3) k1 1 b1 b0).bind fun k2 => (own_sc (own_rs 4 b0 b1 b2 b3) k2 2 b2 b1).bind fun k3 => own_sc (own_rs 4 b0 b1 b2 b3) k3 3 b3 b2) = some (own_rs 4 b0 b1 b2 b3).length := by decide +kernel
def own_f (t0 t1 t2 t3 : Int32) (c : Nat) : Int32 := if c < 11 then own_HID.getD c 0 else if c = 100 then own_by t0 else if c = 101 then own_by t1 else if c = 102 then own_by t2 else own_by t3
theorem own_chb {t : Int32} (h : own_ok t) : nar .char (own_by t &&& (255 : Int32)) = t := own_char h.1 h.2
theorem own_mget {f : Nat → Int32} {rs : List Nat} {k c : Nat} (h : rs[k]? = some c) : (rs.map f).getD k 0 = f c := by
  rw [List.getD_eq_getElem?_getD, List.getElem?_map, h]; rfl
theorem own_scT {t0 t1 t2 t3 t : Int32} {rs : List Nat} {k i k' : Nat} {b p : Bool} (h : own_sc rs k i b p = some k') (hk : k ≤ rs.length) (ht : own_f t0 t1 t2 t3 (100 + i) = own_by t) (ok : own_ok t) : own_step (rs.map (own_f t0 t1 t2 t3)) rs.length k t (own_bi b) (own_bi p) = Int32.ofNat k' ∧ k' ≤ rs.length := by
  unfold own_sc at h
  cases b with
  | true =>
    rw [if_pos rfl] at h
    have e1 : ¬ own_bi true = (0 : Int32) := by decide
    cases p with
    | true =>
      rw [if_pos rfl] at h
      cases h
      have e2 : ¬ own_bi true = (0 : Int32) := by decide
      exact ⟨by unfold own_step; rw [if_neg e1, if_neg e2], hk⟩
    | false =>
      rw [if_neg (by decide)] at h
      by_cases q : (rs.drop k).take 11 = own_hc
      · rw [if_pos q] at h
        cases h
        have hl : k + 11 ≤ rs.length := by
          have := congrArg List.length q
          simp only [List.length_take, List.length_drop] at this
          have z : own_hc.length = 11 := rfl
          omega
        have gt : ∀ j, j < 11 → own_ch (rs.map (own_f t0 t1 t2 t3)) (k + j) = own_ch own_HID j := fun j hj => by
          have w : rs[k + j]? = some j := by
            have z : ((rs.drop k).take 11)[j]? = own_hc[j]? := by rw [q]
            rw [List.getElem?_take, if_pos hj, List.getElem?_drop] at z
            rw [z]
            have : j = 0 ∨ j = 1 ∨ j = 2 ∨ j = 3 ∨ j = 4 ∨ j = 5 ∨ j = 6 ∨ j = 7 ∨ j = 8 ∨ j = 9 ∨ j = 10 := by omega
            rcases this with rfl | rfl | rfl | rfl | rfl | rfl | rfl | rfl | rfl | rfl | rfl <;> rfl
          unfold own_ch
          rw [own_mget w]
          unfold own_f
          rw [if_pos hj]
        have hh : own_hid (rs.map (own_f t0 t1 t2 t3)) rs.length k = (1 : Int32) := by
          unfold own_hid
          rw [if_neg (by omega), if_pos (show own_ch (rs.map (own_f t0 t1 t2 t3)) k = own_ch own_HID 0 from gt 0 (by omega)), if_pos (gt 1 (by omega)), if_pos (gt 2 (by omega)), if_pos (gt 3 (by omega)), if_pos (gt 4 (by omega)), if_pos (gt 5 (by omega)), if_pos (gt 6 (by omega)), if_pos (gt 7 (by omega)), if_pos (gt 8 (by omega)), if_pos (gt 9 (by omega)), if_pos (gt 10 (by omega))]
        refine ⟨?_, hl⟩
        unfold own_step
        rw [if_neg e1, if_pos (show own_bi false = (0 : Int32) from rfl), hh, if_neg (by decide)]
      · rw [if_neg q] at h; cases h
  | false =>
    rw [if_neg (by decide)] at h
    by_cases q : rs[k]? = some (100 + i)
    · rw [if_pos q] at h
      cases h
      have hl : k < rs.length := (List.getElem?_eq_some_iff.mp q).1
      refine ⟨?_, hl⟩
      unfold own_step
      rw [if_pos (show own_bi false = (0 : Int32) from rfl), if_pos hl, if_pos]
      unfold own_ch
      rw [own_mget q, ht]; exact own_chb ok
    · rw [if_neg q] at h; cases h
theorem own_orb (x y : Int32) : own_or x y = own_bi ((false || decide (x ≠ (0 : Int32))) || decide (y ≠ (0 : Int32))) := by
  unfold own_or own_bi
  by_cases h : x = (0 : Int32) <;> by_cases k : y = (0 : Int32) <;> simp [h, k]
theorem own_prep {t0 t1 t2 t3 a1 b1 a2 b2 nn mA mB c0 c1 c2 c3 : Int32} {xs rs : List Int32} {n rn : Nat} (h : own_W t0 t1 t2 t3 a1 b1 a2 b2 nn mA mB c0 c1 c2 c3 xs rs n rn) (h5 : nn = (0 : Int32) ∨ nn = (1 : Int32) ∨ nn = (2 : Int32) ∨ nn = (3 : Int32) ∨ nn = (4 : Int32)) : ∃ d0 d1 d2 d3 : Bool, c0 = own_bi d0 ∧ c1 = own_bi d1 ∧ c2 = own_bi d2 ∧ c3 = own_bi d3 ∧ rs = own_hide xs n (own_Wb d0 d1 d2 d3) ∧ (¬ (0 : Int32) < nn → d0 = false) ∧ (¬ (1 : Int32) < nn → d1 = false) ∧ (¬ (2 : Int32) < nn → d2 = false) ∧ (¬ (3 : Int32) < nn → d3 = false) := by
  obtain ⟨k0, k1, k2, k3, ka1, kb1, ka2, kb2, ⟨sz, ze, ve, q1, q2, r1, r2, u1, u2, hs, hr⟩, hx, hn, -, -, hc0, hc1, hc2, hc3⟩ := h
  refine ⟨_, _, _, _, hc0.trans (own_orb _ _), hc1.trans (own_orb _ _), hc2.trans (own_orb _ _), hc3.trans (own_orb _ _), ?_, ?_, ?_, ?_, ?_⟩
  · rw [hr, own_maskP hs, show (0 : Int64) = own_Wb false false false false from rfl, hx, hn, own_part k0 k1 k2 k3 ka1 kb1 h5, own_part k0 k1 k2 k3 ka2 kb2 h5]
  all_goals
    intro q
    have f : ∀ {tm t tp i i1 a b m : Int32}, ¬ i < nn → decide (own_cov tm t tp i i1 nn a b m ≠ (0 : Int32)) = false := fun z => decide_eq_false fun y => z (own_covB.mp y).1
    rw [f q, f q]; rfl
theorem own_mapH (t0 t1 t2 t3 : Int32) : own_HID = own_hc.map (own_f t0 t1 t2 t3) := rfl
theorem own_out {t0 t1 t2 t3 : Int32} {xs : List Int32} {n : Nat} {d0 d1 d2 d3 : Bool} (hx : xs = (own_cs.take n).map (own_f t0 t1 t2 t3)) : own_hide xs n (own_Wb d0 d1 d2 d3) = (own_rs n d0 d1 d2 d3).map (own_f t0 t1 t2 t3) := by
  have e : own_hide xs n (own_Wb d0 d1 d2 d3) = own_hideG own_HID xs n (own_Wb d0 d1 d2 d3) := rfl
  rw [e, hx, own_mapH t0 t1 t2 t3, own_hideM]; rfl
theorem own_finA0 {t0 t1 t2 t3 a1 b1 a2 b2 nn mA mB c0 c1 c2 c3 : Int32} {xs rs : List Int32} {n rn : Nat} (h : own_W t0 t1 t2 t3 a1 b1 a2 b2 nn mA mB c0 c1 c2 c3 xs rs n rn) (e : nn = (0 : Int32)) : rn = 0 := by
  obtain ⟨d0, d1, d2, d3, e0, e1, e2, e3, hr, f0, f1, f2, f3⟩ := own_prep h (by rw [e]; decide)
  obtain ⟨k0, k1, k2, k3, -, -, -, -, -, hx, hn, hl, hl2, -⟩ := h
  subst e
  have hn' : n = 0 := hn
  subst hn'
  obtain rfl := f0 (by decide)
  obtain rfl := f1 (by decide)
  obtain rfl := f2 (by decide)
  obtain rfl := f3 (by decide)
  rw [own_out (t0 := t0) (t1 := t1) (t2 := t2) (t3 := t3) (hx.trans rfl)] at hr
  have hlen : rn = (own_rs 0 false false false false).length := by rw [← hl, hr, List.length_map]
  rw [hlen]; exact own_r0
theorem own_finA1 {t0 t1 t2 t3 a1 b1 a2 b2 nn mA mB c0 c1 c2 c3 : Int32} {xs rs : List Int32} {n rn : Nat} (h : own_W t0 t1 t2 t3 a1 b1 a2 b2 nn mA mB c0 c1 c2 c3 xs rs n rn) (e : nn = (1 : Int32)) : own_step rs rn 0 t0 c0 (0 : Int32) = Int32.ofNat rn := by
  obtain ⟨d0, d1, d2, d3, e0, e1, e2, e3, hr, f0, f1, f2, f3⟩ := own_prep h (by rw [e]; decide)
  obtain ⟨k0, k1, k2, k3, -, -, -, -, -, hx, hn, hl, hl2, -⟩ := h
  subst e
  have hn' : n = 1 := hn
  subst hn'
  obtain rfl := f1 (by decide)
  obtain rfl := f2 (by decide)
  obtain rfl := f3 (by decide)
  rw [own_out (t0 := t0) (t1 := t1) (t2 := t2) (t3 := t3) (hx.trans rfl)] at hr
  have hlen : rn = (own_rs 1 d0 false false false).length := by rw [← hl, hr, List.length_map]
  subst hlen hr e0 e1 e2 e3
  have r := own_r1 d0
  have s1 := r
  have z0 := own_scT (t0 := t0) (t1 := t1) (t2 := t2) (t3 := t3) (t := t0) s1 (Nat.zero_le _) rfl k0
  exact z0.1
theorem own_finA2 {t0 t1 t2 t3 a1 b1 a2 b2 nn mA mB c0 c1 c2 c3 : Int32} {xs rs : List Int32} {n rn : Nat} (h : own_W t0 t1 t2 t3 a1 b1 a2 b2 nn mA mB c0 c1 c2 c3 xs rs n rn) (e : nn = (2 : Int32)) : ∃ k1 : Nat, own_step rs rn 0 t0 c0 (0 : Int32) = Int32.ofNat k1 ∧ own_step rs rn k1 t1 c1 c0 = Int32.ofNat rn ∧ k1 ≤ 99 := by
  obtain ⟨d0, d1, d2, d3, e0, e1, e2, e3, hr, f0, f1, f2, f3⟩ := own_prep h (by rw [e]; decide)
  obtain ⟨k0, k1, k2, k3, -, -, -, -, -, hx, hn, hl, hl2, -⟩ := h
  subst e
  have hn' : n = 2 := hn
  subst hn'
  obtain rfl := f2 (by decide)
  obtain rfl := f3 (by decide)
  rw [own_out (t0 := t0) (t1 := t1) (t2 := t2) (t3 := t3) (hx.trans rfl)] at hr
  have hlen : rn = (own_rs 2 d0 d1 false false).length := by rw [← hl, hr, List.length_map]
  subst hlen hr e0 e1 e2 e3
  have r := own_r2 d0 d1
  simp only [Option.bind_eq_some_iff] at r
  obtain ⟨j1, s1, s2⟩ := r
  have z0 := own_scT (t0 := t0) (t1 := t1) (t2 := t2) (t3 := t3) (t := t0) s1 (Nat.zero_le _) rfl k0
  have z1 := own_scT (t0 := t0) (t1 := t1) (t2 := t2) (t3 := t3) (t := t1) s2 z0.2 rfl k1
  exact ⟨j1, z0.1, z1.1, (by have q := z0.2; omega)⟩
theorem own_finA3 {t0 t1 t2 t3 a1 b1 a2 b2 nn mA mB c0 c1 c2 c3 : Int32} {xs rs : List Int32} {n rn : Nat} (h : own_W t0 t1 t2 t3 a1 b1 a2 b2 nn mA mB c0 c1 c2 c3 xs rs n rn) (e : nn = (3 : Int32)) : ∃ k1 k2 : Nat, own_step rs rn 0 t0 c0 (0 : Int32) = Int32.ofNat k1 ∧ own_step rs rn k1 t1 c1 c0 = Int32.ofNat k2 ∧ own_step rs rn k2 t2 c2 c1 = Int32.ofNat rn ∧ k1 ≤ 99 ∧ k2 ≤ 99 := by
  obtain ⟨d0, d1, d2, d3, e0, e1, e2, e3, hr, f0, f1, f2, f3⟩ := own_prep h (by rw [e]; decide)
  obtain ⟨k0, k1, k2, k3, -, -, -, -, -, hx, hn, hl, hl2, -⟩ := h
  subst e
  have hn' : n = 3 := hn
  subst hn'
  obtain rfl := f3 (by decide)
  rw [own_out (t0 := t0) (t1 := t1) (t2 := t2) (t3 := t3) (hx.trans rfl)] at hr
  have hlen : rn = (own_rs 3 d0 d1 d2 false).length := by rw [← hl, hr, List.length_map]
  subst hlen hr e0 e1 e2 e3
  have r := own_r3 d0 d1 d2
  simp only [Option.bind_eq_some_iff] at r
  obtain ⟨j1, s1, j2, s2, s3⟩ := r
  have z0 := own_scT (t0 := t0) (t1 := t1) (t2 := t2) (t3 := t3) (t := t0) s1 (Nat.zero_le _) rfl k0
  have z1 := own_scT (t0 := t0) (t1 := t1) (t2 := t2) (t3 := t3) (t := t1) s2 z0.2 rfl k1
  have z2 := own_scT (t0 := t0) (t1 := t1) (t2 := t2) (t3 := t3) (t := t2) s3 z1.2 rfl k2
  exact ⟨j1, j2, z0.1, z1.1, z2.1, (by have q := z0.2; omega), (by have q := z1.2; omega)⟩
theorem own_finA4 {t0 t1 t2 t3 a1 b1 a2 b2 nn mA mB c0 c1 c2 c3 : Int32} {xs rs : List Int32} {n rn : Nat} (h : own_W t0 t1 t2 t3 a1 b1 a2 b2 nn mA mB c0 c1 c2 c3 xs rs n rn) (e : nn = (4 : Int32)) : ∃ k1 k2 k3 : Nat, own_step rs rn 0 t0 c0 (0 : Int32) = Int32.ofNat k1 ∧ own_step rs rn k1 t1 c1 c0 = Int32.ofNat k2 ∧ own_step rs rn k2 t2 c2 c1 = Int32.ofNat k3 ∧ own_step rs rn k3 t3 c3 c2 = Int32.ofNat rn ∧ k1 ≤ 99 ∧ k2 ≤ 99 ∧ k3 ≤ 99 := by
  obtain ⟨d0, d1, d2, d3, e0, e1, e2, e3, hr, f0, f1, f2, f3⟩ := own_prep h (by rw [e]; decide)
  obtain ⟨k0, k1, k2, k3, -, -, -, -, -, hx, hn, hl, hl2, -⟩ := h
  subst e
  have hn' : n = 4 := hn
  subst hn'
  rw [own_out (t0 := t0) (t1 := t1) (t2 := t2) (t3 := t3) (hx.trans rfl)] at hr
  have hlen : rn = (own_rs 4 d0 d1 d2 d3).length := by rw [← hl, hr, List.length_map]
  subst hlen hr e0 e1 e2 e3
  have r := own_r4 d0 d1 d2 d3
  simp only [Option.bind_eq_some_iff] at r
  obtain ⟨j1, s1, j2, s2, j3, s3, s4⟩ := r
  have z0 := own_scT (t0 := t0) (t1 := t1) (t2 := t2) (t3 := t3) (t := t0) s1 (Nat.zero_le _) rfl k0
  have z1 := own_scT (t0 := t0) (t1 := t1) (t2 := t2) (t3 := t3) (t := t1) s2 z0.2 rfl k1
  have z2 := own_scT (t0 := t0) (t1 := t1) (t2 := t2) (t3 := t3) (t := t2) s3 z1.2 rfl k2
  have z3 := own_scT (t0 := t0) (t1 := t1) (t2 := t2) (t3 := t3) (t := t3) s4 z2.2 rfl k3
  exact ⟨j1, j2, j3, z0.1, z1.1, z2.1, z3.1, (by have q := z0.2; omega), (by have q := z1.2; omega), (by have q := z2.2; omega)⟩

theorem own_fin0 {t0 t1 t2 t3 a1 b1 a2 b2 nn mA mB c0 c1 c2 c3 : Int32} {xs rs : List Int32} {n rn : Nat} (h : own_W t0 t1 t2 t3 a1 b1 a2 b2 nn mA mB c0 c1 c2 c3 xs rs n rn) (e : nn = (0 : Int32)) : rn = 0 := own_finA0 h e
theorem own_fin1 {t0 t1 t2 t3 a1 b1 a2 b2 nn mA mB c0 c1 c2 c3 : Int32} {xs rs : List Int32} {n rn : Nat} (h : own_W t0 t1 t2 t3 a1 b1 a2 b2 nn mA mB c0 c1 c2 c3 xs rs n rn) (e : nn = (1 : Int32)) : own_step rs rn 0 t0 c0 (0 : Int32) = Int32.ofNat rn := own_finA1 h e
theorem own_fin2 {t0 t1 t2 t3 a1 b1 a2 b2 nn mA mB c0 c1 c2 c3 : Int32} {xs rs : List Int32} {n rn : Nat} (h : own_W t0 t1 t2 t3 a1 b1 a2 b2 nn mA mB c0 c1 c2 c3 xs rs n rn) (e : nn = (2 : Int32)) : ∃ k1 : Nat, own_step rs rn 0 t0 c0 (0 : Int32) = Int32.ofNat k1 ∧ own_step rs rn k1 t1 c1 c0 = Int32.ofNat rn ∧ k1 ≤ 99 := own_finA2 h e
theorem own_fin3 {t0 t1 t2 t3 a1 b1 a2 b2 nn mA mB c0 c1 c2 c3 : Int32} {xs rs : List Int32} {n rn : Nat} (h : own_W t0 t1 t2 t3 a1 b1 a2 b2 nn mA mB c0 c1 c2 c3 xs rs n rn) (e : nn = (3 : Int32)) : ∃ k1 k2 : Nat, own_step rs rn 0 t0 c0 (0 : Int32) = Int32.ofNat k1 ∧ own_step rs rn k1 t1 c1 c0 = Int32.ofNat k2 ∧ own_step rs rn k2 t2 c2 c1 = Int32.ofNat rn ∧ k1 ≤ 99 ∧ k2 ≤ 99 := own_finA3 h e
theorem own_fin4 {t0 t1 t2 t3 a1 b1 a2 b2 nn mA mB c0 c1 c2 c3 : Int32} {xs rs : List Int32} {n rn : Nat} (h : own_W t0 t1 t2 t3 a1 b1 a2 b2 nn mA mB c0 c1 c2 c3 xs rs n rn) (e : nn = (4 : Int32)) : ∃ k1 k2 k3 : Nat, own_step rs rn 0 t0 c0 (0 : Int32) = Int32.ofNat k1 ∧ own_step rs rn k1 t1 c1 c0 = Int32.ofNat k2 ∧ own_step rs rn k2 t2 c2 c1 = Int32.ofNat k3 ∧ own_step rs rn k3 t3 c3 c2 = Int32.ofNat rn ∧ k1 ≤ 99 ∧ k2 ≤ 99 ∧ k3 ≤ 99 := own_finA4 h e
theorem own_nea {Z : State} {h : Heap} {x b : Addr} {C : String} {n : Nat} {a0 : Array Value} {k : ClassId} {ty : FieldType} {z : Int32} {vs : List Value} {dv : Value} (w : (Jvm.Cond.instantiable C n).before a0 Z = true) (E : Exa Z h x C) (A : Arv Z h b k ty z vs dv) : b ≠ x := fun q => by
  subst q
  obtain ⟨cell, kc, h1, h2, h3, -, -⟩ := E
  obtain ⟨c, ⟨c1, ⟨c2, kz, c3, c4⟩, -⟩, -⟩ := A
  cases h1.symm.trans c1
  obtain ⟨_, kI, i1, i2, i3, -⟩ := Cond.instantiable_spec w
  cases h2.symm.trans i1
  cases c3.symm.trans i2
  first | (rw [i3] at c4; simp at c4; done) | (obtain ⟨_, c4⟩ := c4; rw [i3] at c4; cases c4)
theorem own_neb {Z : State} {h : Heap} {a b : Addr} {k k' : ClassId} {C : String} {z z' : Int32} {vs vs' : List Value} {dv dv' : Value} (A : Arv Z h a k .byte z vs dv) (B : Arv Z h b k' (.object C) z' vs' dv') : a ≠ b := fun q => by
  subst q
  obtain ⟨c, ⟨c1, ⟨c2, kz, c3, c4⟩, -⟩, -⟩ := A
  obtain ⟨d, ⟨d1, ⟨d2, ky, d3, d4⟩, -⟩, -⟩ := B
  cases c1.symm.trans d1
  cases c3.symm.trans d3
  first | (rw [c4] at d4; simp at d4; done) | (obtain ⟨_, c4⟩ := c4; obtain ⟨_, d4⟩ := d4; rw [c4] at d4; cases d4)
theorem own_pd52 : parseMethodDescriptor "(I[C)C" = some ⟨[.int, (.array .char)], some .char⟩ := by decide +kernel
theorem own_pd53 : parseMethodDescriptor "([CI)Ljava/lang/String;" = some ⟨[(.array .char), .int], some (.object "java/lang/String")⟩ := by decide +kernel
theorem own_pd54 : parseMethodDescriptor "(CCI)Ljava/lang/String;" = some ⟨[.char, .char, .int], some (.object "java/lang/String")⟩ := by decide +kernel
theorem own_pd55 : parseMethodDescriptor "(Ljava/util/Collection;)V" = some ⟨[(.object "java/util/Collection")], none⟩ := by decide +kernel
theorem own_pd56 : parseMethodDescriptor "(Ljava/lang/String;)Ljava/lang/String;" = some ⟨[(.object "java/lang/String")], some (.object "java/lang/String")⟩ := by decide +kernel
theorem own_pd57 : parseMethodDescriptor "(Ljava/lang/String;IZCZZ)I" = some ⟨[(.object "java/lang/String"), .int, .boolean, .char, .boolean, .boolean], some .int⟩ := by decide +kernel
theorem own_pd58 : parseMethodDescriptor "([CIICCI)Z" = some ⟨[(.array .char), .int, .int, .char, .char, .int], some .boolean⟩ := by decide +kernel
def own_Q_law (Z : State) (z_CS : Int32) (v_FMT : Value) (s_DC : Addr) (k_DC : ClassId) (v_IO : Value) (i_ : Int64) (j_ k_ : Int32) (h0 : Heap) (n0 : Nat) (v : Option Value) (h : Heap) (L : List Loc) : Prop := (v = some (.int (1 : Int32))) ∧ (Fr n0 L) ∧ (Keep h0 h [])
theorem rm_law (l : Launch) (Z : State) (a0 : Array Value) (hw : own_hw a0 Z) (ws : List Jvm.Cond) (z_CS : Int32) (v_FMT : Value) (s_DC : Addr) (k_DC : ClassId) (v_IO : Value) (i_ : Int64) (j_ k_ : Int32) (h0 : Heap) (n0 : Nat) (SB : own_Start Z z_CS v_FMT s_DC k_DC v_IO) (O0 : Old Z n0 h0)  :
    oMetS l Z x code maxLocals ret ws room_1 64 3456 #[(.long i_), (.int j_), (.int k_)] h0 (own_Q_law Z z_CS v_FMT s_DC k_DC v_IO i_ j_ k_ h0 n0) := by
  refine oenterS (plainFor_of_name own_pn3) #[vl i_, .second, vi j_, vi k_, .unset, .unset, .unset, .unset, .unset, .unset, .unset, .unset, .unset, .unset, .unset, .unset, .unset, .unset, .unset, .unset, .unset] (fun m => by first | (simp [entryFrame, mkF, argsToLocals, Value.category, maxLocals]; done) | rfl) ?_
  intro p e s m below meth c s₁ X0 hx hZ hby hml hret hown0 hnm hlk e0 hs0 H0 hS0
  have hEL := own_EW hw
  have wS := own_wS hw
  have hown : s.vm.findClass "com/example/reliquary/reliquary/SecretsHidePinLaw" = some m.cls := hown0
  have N0 := Fr.nil n0
  have W := own_w hw
  have w2 := W 2 rfl
  have w3 := W 3 rfl
  have w4 := W 4 rfl
  have w5 := W 5 rfl
  have w6 := W 6 rfl
  have w12 := W 12 rfl
  have w33 := W 33 rfl
  have w91 := W 91 rfl
  have w165 := W 165 rfl
  have w166 := W 166 rfl
  have w167 := W 167 rfl
  have w168 := W 168 rfl
  have w322 := W 322 rfl
  have w323 := W 323 rfl
  have w324 := W 324 rfl
  have w325 := W 325 rfl
  have w326 := W 326 rfl
  have w327 := W 327 rfl
  have w328 := W 328 rfl
  refine o_lloadN X0 hx (hb hby at_0) rfl <| o_bipush X0 hx 32 (hb hby at_1) rfl <| o_lushr X0 hx (hb hby at_3) <| ogo (S' := s₁.setTop (mkF m 7 #[vl i_, .second, vi j_, vi k_, .unset, .unset, .unset, .unset, .unset, .unset, .unset, .unset, .unset, .unset, .unset, .unset, .unset, .unset, .unset, .unset, .unset] [(.long (7 : Int64)), (.long (own_ushrL i_ (32 : Int32)))])) (X0.ldc2Long hx hown (mvT hZ (W 0 rfl)) (g := (mkF m 4 #[vl i_, .second, vi j_, vi k_, .unset, .unset, .unset, .unset, .unset, .unset, .unset, .unset, .unset, .unset, .unset, .unset, .unset, .unset, .unset, .unset, .unset] [(.long (own_ushrL i_ (32 : Int32)))])) rfl (hb hby at_4)) <| o_land X0 hx (hb hby at_7) <| o_l2i X0 hx (hb hby at_8) <| o_iconst X0 hx 5 (hb hby at_9) rfl <| o_irem X0 hx (hb hby at_10) (by decide) ?_
  obtain ⟨nn, h_nn⟩ : ∃ z, z = (((own_ushrL i_ (32 : Int32)) &&& (7 : Int64)).toInt32 % (5 : Int32)) := ⟨_, rfl⟩
  rw [← h_nn]
  have h5 : nn = (0 : Int32) ∨ nn = (1 : Int32) ∨ nn = (2 : Int32) ∨ nn = (3 : Int32) ∨ nn = (4 : Int32) := by rw [h_nn]; exact own_n5 _
  have h4n : ¬ (4 : Int32) < nn := by rcases h5 with h | h | h | h | h <;> rw [h] <;> decide
  refine o_istore X0 hx (l' := #[vl i_, .second, vi j_, vi k_, vi nn, .unset, .unset, .unset, .unset, .unset, .unset, .unset, .unset, .unset, .unset, .unset, .unset, .unset, .unset, .unset, .unset]) (hb hby at_11) rfl <| o_iconst X0 hx 4 (hb hby at_13) rfl ?_
  obtain ⟨T1, _, k1, X1, rfl, E1, A1, Ex1, st1⟩ := newPE (aty := .char) X0 hx hZ (W 1 rfl) e0 (g := (mkF m 14 #[vl i_, .second, vi j_, vi k_, vi nn, .unset, .unset, .unset, .unset, .unset, .unset, .unset, .unset, .unset, .unset, .unset, .unset, .unset, .unset, .unset, .unset] [(.int (4 : Int32))])) rfl (hb hby at_14) rfl (by decide) (cap := 4) (by decide) (by decide) (by decide) (by decide) (ad := "[C") rfl
  obtain ⟨b1, g1⟩ : ∃ z, z = h0.size := ⟨_, rfl⟩
  rw [← g1] at A1 Ex1 st1
  have n0_b1 := own_on O0 g1
  have H2 := CHv.ext E1 H0
  have V1 : Arv Z T1.heap b1 k1 .char (4 : Int32) [(.int 0), (.int 0), (.int 0), (.int 0)] (.int 0) := (Arv.new A1 (by decide)).pad (pad_rep [] (.int 0) 4)
  refine ogoF st1 <| o_astore X1 hx (l' := #[vl i_, .second, vi j_, vi k_, vi nn, vr b1, .unset, .unset, .unset, .unset, .unset, .unset, .unset, .unset, .unset, .unset, .unset, .unset, .unset, .unset, .unset]) (hb hby at_16) rfl rfl <| o_aload X1 hx (hb hby at_18) rfl rfl <| o_iconst X1 hx 0 (hb hby at_20) rfl <| o_lloadN X1 hx (hb hby at_21) rfl <| ogo (S' := T1.setTop (mkF m 25 #[vl i_, .second, vi j_, vi k_, vi nn, vr b1, .unset, .unset, .unset, .unset, .unset, .unset, .unset, .unset, .unset, .unset, .unset, .unset, .unset, .unset, .unset] [(.long (255 : Int64)), (.long i_), (.int (0 : Int32)), (.ref b1)])) (X1.ldc2Long hx hown (mvT hZ w2) (g := (mkF m 22 #[vl i_, .second, vi j_, vi k_, vi nn, vr b1, .unset, .unset, .unset, .unset, .unset, .unset, .unset, .unset, .unset, .unset, .unset, .unset, .unset, .unset, .unset] [(.long i_), (.int (0 : Int32)), (.ref b1)])) rfl (hb hby at_22)) <| o_land X1 hx (hb hby at_25) <| o_l2i X1 hx (hb hby at_26) <| o_i2c X1 hx (hb hby at_27) ?_
  obtain ⟨t0, h_t0⟩ : ∃ z, z = (nar .char (i_ &&& (255 : Int64)).toInt32) := ⟨_, rfl⟩
  rw [← h_t0]
  have ok_t0 : own_ok t0 := by rw [h_t0]; exact own_okL _
  obtain ⟨cl3, Ar3, q3, S3, N3z, H3, G3⟩ := (id V1)
  obtain ⟨T3, _, X3, rfl, W3, st3⟩ := stC X1 hx hZ rfl Ar3 (j := (0 : Int32)) (inb_of S3 ⟨by decide, by decide⟩) (g := (mkF m 28 #[vl i_, .second, vi j_, vi k_, vi nn, vr b1, .unset, .unset, .unset, .unset, .unset, .unset, .unset, .unset, .unset, .unset, .unset, .unset, .unset, .unset, .unset] [(.int t0), (.int (0 : Int32)), (.ref b1)])) rfl rfl (hb hby at_28)
  rw [(own_okn ok_t0)] at W3
  have V3 : Arv Z T3.heap b1 k1 .char (4 : Int32) [(.int t0), (.int 0), (.int 0), (.int 0)] (.int 0) := Arv.set Ar3 q3 S3 N3z H3 G3 (by have q := fits_nar_char t0; rw [(own_okn ok_t0)] at q; exact q) W3 0 rfl (Nat.le_of_ble_eq_true rfl)
  have N3 := Fr.snoc X3 N0 n0_b1
  have H4 := CHv.wr W3 (Safe.exa hZ.alike Ex1 (by decide) (by decide)) H2
  refine ogoF st3 <| o_aload X3 hx (hb hby at_29) rfl rfl <| o_iconst X3 hx 1 (hb hby at_31) rfl <| o_lloadN X3 hx (hb hby at_32) rfl <| o_bipush X3 hx 8 (hb hby at_33) rfl <| o_lushr X3 hx (hb hby at_35) <| ogo (S' := T3.setTop (mkF m 39 #[vl i_, .second, vi j_, vi k_, vi nn, vr b1, .unset, .unset, .unset, .unset, .unset, .unset, .unset, .unset, .unset, .unset, .unset, .unset, .unset, .unset, .unset] [(.long (255 : Int64)), (.long (own_ushrL i_ (8 : Int32))), (.int (1 : Int32)), (.ref b1)])) (X3.ldc2Long hx hown (mvT hZ w2) (g := (mkF m 36 #[vl i_, .second, vi j_, vi k_, vi nn, vr b1, .unset, .unset, .unset, .unset, .unset, .unset, .unset, .unset, .unset, .unset, .unset, .unset, .unset, .unset, .unset] [(.long (own_ushrL i_ (8 : Int32))), (.int (1 : Int32)), (.ref b1)])) rfl (hb hby at_36)) <| o_land X3 hx (hb hby at_39) <| o_l2i X3 hx (hb hby at_40) <| o_i2c X3 hx (hb hby at_41) ?_
  obtain ⟨t1, h_t1⟩ : ∃ z, z = (nar .char ((own_ushrL i_ (8 : Int32)) &&& (255 : Int64)).toInt32) := ⟨_, rfl⟩
  rw [← h_t1]
  have ok_t1 : own_ok t1 := by rw [h_t1]; exact own_okL _
  obtain ⟨cl5, Ar5, q5, S5, N5z, H5, G5⟩ := (id V3)
  obtain ⟨T5, _, X5, rfl, W5, st5⟩ := stC X3 hx hZ rfl Ar5 (j := (1 : Int32)) (inb_of S5 ⟨by decide, by decide⟩) (g := (mkF m 42 #[vl i_, .second, vi j_, vi k_, vi nn, vr b1, .unset, .unset, .unset, .unset, .unset, .unset, .unset, .unset, .unset, .unset, .unset, .unset, .unset, .unset, .unset] [(.int t1), (.int (1 : Int32)), (.ref b1)])) rfl rfl (hb hby at_42)
  rw [(own_okn ok_t1)] at W5
  have V5 : Arv Z T5.heap b1 k1 .char (4 : Int32) [(.int t0), (.int t1), (.int 0), (.int 0)] (.int 0) := Arv.set Ar5 q5 S5 N5z H5 G5 (by have q := fits_nar_char t1; rw [(own_okn ok_t1)] at q; exact q) W5 1 rfl (Nat.le_of_ble_eq_true rfl)
  have N5 := Fr.snoc X5 N3 n0_b1
  have H6 := CHv.wr W5 (Safe.exa hZ.alike (Exa.wr W3 Ex1) (by decide) (by decide)) H4
  refine ogoF st5 <| o_aload X5 hx (hb hby at_43) rfl rfl <| o_iconst X5 hx 2 (hb hby at_45) rfl <| o_lloadN X5 hx (hb hby at_46) rfl <| o_bipush X5 hx 16 (hb hby at_47) rfl <| o_lushr X5 hx (hb hby at_49) <| ogo (S' := T5.setTop (mkF m 53 #[vl i_, .second, vi j_, vi k_, vi nn, vr b1, .unset, .unset, .unset, .unset, .unset, .unset, .unset, .unset, .unset, .unset, .unset, .unset, .unset, .unset, .unset] [(.long (255 : Int64)), (.long (own_ushrL i_ (16 : Int32))), (.int (2 : Int32)), (.ref b1)])) (X5.ldc2Long hx hown (mvT hZ w2) (g := (mkF m 50 #[vl i_, .second, vi j_, vi k_, vi nn, vr b1, .unset, .unset, .unset, .unset, .unset, .unset, .unset, .unset, .unset, .unset, .unset, .unset, .unset, .unset, .unset] [(.long (own_ushrL i_ (16 : Int32))), (.int (2 : Int32)), (.ref b1)])) rfl (hb hby at_50)) <| o_land X5 hx (hb hby at_53) <| o_l2i X5 hx (hb hby at_54) <| o_i2c X5 hx (hb hby at_55) ?_
  obtain ⟨t2, h_t2⟩ : ∃ z, z = (nar .char ((own_ushrL i_ (16 : Int32)) &&& (255 : Int64)).toInt32) := ⟨_, rfl⟩
  rw [← h_t2]
  have ok_t2 : own_ok t2 := by rw [h_t2]; exact own_okL _
  obtain ⟨cl7, Ar7, q7, S7, N7z, H7, G7⟩ := (id V5)
  obtain ⟨T7, _, X7, rfl, W7, st7⟩ := stC X5 hx hZ rfl Ar7 (j := (2 : Int32)) (inb_of S7 ⟨by decide, by decide⟩) (g := (mkF m 56 #[vl i_, .second, vi j_, vi k_, vi nn, vr b1, .unset, .unset, .unset, .unset, .unset, .unset, .unset, .unset, .unset, .unset, .unset, .unset, .unset, .unset, .unset] [(.int t2), (.int (2 : Int32)), (.ref b1)])) rfl rfl (hb hby at_56)
  rw [(own_okn ok_t2)] at W7
  have V7 : Arv Z T7.heap b1 k1 .char (4 : Int32) [(.int t0), (.int t1), (.int t2), (.int 0)] (.int 0) := Arv.set Ar7 q7 S7 N7z H7 G7 (by have q := fits_nar_char t2; rw [(own_okn ok_t2)] at q; exact q) W7 2 rfl (Nat.le_of_ble_eq_true rfl)
  have N7 := Fr.snoc X7 N5 n0_b1
  have H8 := CHv.wr W7 (Safe.exa hZ.alike (Exa.wr W5 (Exa.wr W3 Ex1)) (by decide) (by decide)) H6
  refine ogoF st7 <| o_aload X7 hx (hb hby at_57) rfl rfl <| o_iconst X7 hx 3 (hb hby at_59) rfl <| o_lloadN X7 hx (hb hby at_60) rfl <| o_bipush X7 hx 24 (hb hby at_61) rfl <| o_lushr X7 hx (hb hby at_63) <| ogo (S' := T7.setTop (mkF m 67 #[vl i_, .second, vi j_, vi k_, vi nn, vr b1, .unset, .unset, .unset, .unset, .unset, .unset, .unset, .unset, .unset, .unset, .unset, .unset, .unset, .unset, .unset] [(.long (255 : Int64)), (.long (own_ushrL i_ (24 : Int32))), (.int (3 : Int32)), (.ref b1)])) (X7.ldc2Long hx hown (mvT hZ w2) (g := (mkF m 64 #[vl i_, .second, vi j_, vi k_, vi nn, vr b1, .unset, .unset, .unset, .unset, .unset, .unset, .unset, .unset, .unset, .unset, .unset, .unset, .unset, .unset, .unset] [(.long (own_ushrL i_ (24 : Int32))), (.int (3 : Int32)), (.ref b1)])) rfl (hb hby at_64)) <| o_land X7 hx (hb hby at_67) <| o_l2i X7 hx (hb hby at_68) <| o_i2c X7 hx (hb hby at_69) ?_
  obtain ⟨t3, h_t3⟩ : ∃ z, z = (nar .char ((own_ushrL i_ (24 : Int32)) &&& (255 : Int64)).toInt32) := ⟨_, rfl⟩
  rw [← h_t3]
  have ok_t3 : own_ok t3 := by rw [h_t3]; exact own_okL _
  obtain ⟨cl9, Ar9, q9, S9, N9z, H9, G9⟩ := (id V7)
  obtain ⟨T9, _, X9, rfl, W9, st9⟩ := stC X7 hx hZ rfl Ar9 (j := (3 : Int32)) (inb_of S9 ⟨by decide, by decide⟩) (g := (mkF m 70 #[vl i_, .second, vi j_, vi k_, vi nn, vr b1, .unset, .unset, .unset, .unset, .unset, .unset, .unset, .unset, .unset, .unset, .unset, .unset, .unset, .unset, .unset] [(.int t3), (.int (3 : Int32)), (.ref b1)])) rfl rfl (hb hby at_70)
  rw [(own_okn ok_t3)] at W9
  have V9 : Arv Z T9.heap b1 k1 .char (4 : Int32) [(.int t0), (.int t1), (.int t2), (.int t3)] (.int 0) := Arv.set Ar9 q9 S9 N9z H9 G9 (by have q := fits_nar_char t3; rw [(own_okn ok_t3)] at q; exact q) W9 3 rfl (Nat.le_of_ble_eq_true rfl)
  have N9 := Fr.snoc X9 N7 n0_b1
  have H10 := CHv.wr W9 (Safe.exa hZ.alike (Exa.wr W7 (Exa.wr W5 (Exa.wr W3 Ex1))) (by decide) (by decide)) H8
  refine ogoF st9 <| o_iloadN X9 hx (hb hby at_71) rfl <| o_bipush X9 hx 18 (hb hby at_72) rfl <| o_iushr X9 hx (hb hby at_74) <| o_iconst X9 hx 3 (hb hby at_75) rfl <| o_iand X9 hx (hb hby at_76) <| o_iconst X9 hx 3 (hb hby at_77) rfl <| o_irem X9 hx (hb hby at_78) (by decide) ?_
  obtain ⟨mA, h_mA⟩ : ∃ z, z = (((own_ushr j_ (18 : Int32)) &&& (3 : Int32)) % (3 : Int32)) := ⟨_, rfl⟩
  rw [← h_mA]
  refine o_istore X9 hx (l' := #[vl i_, .second, vi j_, vi k_, vi nn, vr b1, vi mA, .unset, .unset, .unset, .unset, .unset, .unset, .unset, .unset, .unset, .unset, .unset, .unset, .unset, .unset]) (hb hby at_79) rfl <| o_iloadN X9 hx (hb hby at_81) rfl <| o_aload X9 hx (hb hby at_82) rfl rfl ?_
  have c12 := (((((O0.ext E1).wr W3 n0_b1).wr W5 n0_b1).wr W7 n0_b1).wr W9 n0_b1)
  refine o_cS X9 hx hZ hown (rm_pcb hw j_ c12 V9 (own_okn ok_t0) (own_okn ok_t1) (own_okn ok_t2) (own_okn ok_t3)) w3 w4 w5 w6 (by decide) rfl hml rfl [(.int j_), (.ref b1)] [] own_pd52 rfl rfl 0 rfl (by decide) (hb hby at_84) fun T11 L11 v11 X11 hQ11 => ?_
  obtain ⟨rfl, Nq11, q11⟩ := hQ11
  have N11 := Fr.app N9 Nq11
  obtain ⟨xA, h_xA⟩ : ∃ z, z = (own_pc j_ t0 t1 t2 t3) := ⟨_, rfl⟩
  rw [← h_xA]
  have ok_xA : own_ok xA := by rw [h_xA]; exact own_pc_ok _ ok_t0 ok_t1 ok_t2 ok_t3
  refine o_istore X11 hx (l' := #[vl i_, .second, vi j_, vi k_, vi nn, vr b1, vi mA, vi xA, .unset, .unset, .unset, .unset, .unset, .unset, .unset, .unset, .unset, .unset, .unset, .unset, .unset]) (hb hby at_87) rfl <| o_iloadN X11 hx (hb hby at_89) rfl <| o_bipush X11 hx 9 (hb hby at_90) rfl <| o_iushr X11 hx (hb hby at_92) <| o_aload X11 hx (hb hby at_93) rfl rfl <| o_cS X11 hx hZ hown (rm_pcb hw (own_ushr j_ (9 : Int32)) c12 V9 (own_okn ok_t0) (own_okn ok_t1) (own_okn ok_t2) (own_okn ok_t3)) w3 w4 w5 w6 (by decide) q11 hml rfl [(.int (own_ushr j_ (9 : Int32))), (.ref b1)] [] own_pd52 rfl rfl 0 rfl (by decide) (hb hby at_95) fun T13 L13 v13 X13 hQ13 => ?_
  obtain ⟨rfl, Nq13, q13⟩ := hQ13
  have N13 := Fr.app N11 Nq13
  obtain ⟨yA, h_yA⟩ : ∃ z, z = (own_pc (own_ushr j_ (9 : Int32)) t0 t1 t2 t3) := ⟨_, rfl⟩
  rw [← h_yA]
  have ok_yA : own_ok yA := by rw [h_yA]; exact own_pc_ok _ ok_t0 ok_t1 ok_t2 ok_t3
  refine o_istore X13 hx (l' := #[vl i_, .second, vi j_, vi k_, vi nn, vr b1, vi mA, vi xA, vi yA, .unset, .unset, .unset, .unset, .unset, .unset, .unset, .unset, .unset, .unset, .unset, .unset]) (hb hby at_98) rfl <| o_iloadN X13 hx (hb hby at_100) rfl <| o_bipush X13 hx 18 (hb hby at_101) rfl <| o_iushr X13 hx (hb hby at_103) <| o_iconst X13 hx 3 (hb hby at_104) rfl <| o_iand X13 hx (hb hby at_105) <| o_iconst X13 hx 3 (hb hby at_106) rfl <| o_irem X13 hx (hb hby at_107) (by decide) ?_
  obtain ⟨mB, h_mB⟩ : ∃ z, z = (((own_ushr k_ (18 : Int32)) &&& (3 : Int32)) % (3 : Int32)) := ⟨_, rfl⟩
  rw [← h_mB]
  refine o_istore X13 hx (l' := #[vl i_, .second, vi j_, vi k_, vi nn, vr b1, vi mA, vi xA, vi yA, vi mB, .unset, .unset, .unset, .unset, .unset, .unset, .unset, .unset, .unset, .unset, .unset]) (hb hby at_108) rfl <| o_iloadN X13 hx (hb hby at_110) rfl <| o_aload X13 hx (hb hby at_111) rfl rfl <| o_cS X13 hx hZ hown (rm_pcb hw k_ c12 V9 (own_okn ok_t0) (own_okn ok_t1) (own_okn ok_t2) (own_okn ok_t3)) w3 w4 w5 w6 (by decide) q13 hml rfl [(.int k_), (.ref b1)] [] own_pd52 rfl rfl 0 rfl (by decide) (hb hby at_113) fun T14 L14 v14 X14 hQ14 => ?_
  obtain ⟨rfl, Nq14, q14⟩ := hQ14
  have N14 := Fr.app N13 Nq14
  obtain ⟨xB, h_xB⟩ : ∃ z, z = (own_pc k_ t0 t1 t2 t3) := ⟨_, rfl⟩
  rw [← h_xB]
  have ok_xB : own_ok xB := by rw [h_xB]; exact own_pc_ok _ ok_t0 ok_t1 ok_t2 ok_t3
  refine o_istore X14 hx (l' := #[vl i_, .second, vi j_, vi k_, vi nn, vr b1, vi mA, vi xA, vi yA, vi mB, vi xB, .unset, .unset, .unset, .unset, .unset, .unset, .unset, .unset, .unset, .unset]) (hb hby at_116) rfl <| o_iloadN X14 hx (hb hby at_118) rfl <| o_bipush X14 hx 9 (hb hby at_119) rfl <| o_iushr X14 hx (hb hby at_121) <| o_aload X14 hx (hb hby at_122) rfl rfl <| o_cS X14 hx hZ hown (rm_pcb hw (own_ushr k_ (9 : Int32)) c12 V9 (own_okn ok_t0) (own_okn ok_t1) (own_okn ok_t2) (own_okn ok_t3)) w3 w4 w5 w6 (by decide) q14 hml rfl [(.int (own_ushr k_ (9 : Int32))), (.ref b1)] [] own_pd52 rfl rfl 0 rfl (by decide) (hb hby at_124) fun T15 L15 v15 X15 hQ15 => ?_
  obtain ⟨rfl, Nq15, q15⟩ := hQ15
  have N15 := Fr.app N14 Nq15
  obtain ⟨yB, h_yB⟩ : ∃ z, z = (own_pc (own_ushr k_ (9 : Int32)) t0 t1 t2 t3) := ⟨_, rfl⟩
  rw [← h_yB]
  have ok_yB : own_ok yB := by rw [h_yB]; exact own_pc_ok _ ok_t0 ok_t1 ok_t2 ok_t3
  refine o_istore X15 hx (l' := #[vl i_, .second, vi j_, vi k_, vi nn, vr b1, vi mA, vi xA, vi yA, vi mB, vi xB, vi yB, .unset, .unset, .unset, .unset, .unset, .unset, .unset, .unset, .unset]) (hb hby at_127) rfl <| o_aload X15 hx (hb hby at_129) rfl rfl <| o_iload X15 hx (hb hby at_131) rfl ?_
  have z17 := Nat.le_trans E1.1 (Keep.of_wr W3).1
  have z18 := Nat.le_trans z17 (Keep.of_wr W5).1
  have z19 := Nat.le_trans z18 (Keep.of_wr W7).1
  have z20 := Nat.le_trans z19 (Keep.of_wr W9).1
  refine o_cSS X15 hx hZ hown (rm_txo hw nn SB c12 V9 ok_t0 ok_t1 ok_t2 ok_t3 (own_okn ok_t0) (own_okn ok_t1) (own_okn ok_t2) (own_okn ok_t3)) (W 7 rfl) (W 8 rfl) w5 (W 9 rfl) (by decide) q15 hS0 (Nat.le_trans (Nat.zero_le _) z20) hEL H10 hml rfl [(.ref b1), (.int nn)] [] own_pd53 rfl rfl 0 rfl (by decide) (hb hby at_133) fun T16 L16 v16 X16 hS16 hZ16 hown16 C16 hQ16 => ?_
  obtain ⟨r_16, rb_16, rk_16, rs_16, rn_16, rfl, Nq16, K16, p16_0, p16_1, p16_2, p16_3, p16_4, p16_5, p16_6⟩ := hQ16
  have N16 := Fr.app N15 Nq16
  have H21 := C16.1
  have n0_r_16 := own_og O0 (Nat.le_trans z20 p16_0)
  have lnT : rs_16.length = rn_16 ∧ rn_16 ≤ 4 := by rw [p16_6.1, p16_6.2]; exact own_txl _ _ _ _ _
  refine o_astore X16 hx (l' := #[vl i_, .second, vi j_, vi k_, vi nn, vr b1, vi mA, vi xA, vi yA, vi mB, vi xB, vi yB, vr r_16, .unset, .unset, .unset, .unset, .unset, .unset, .unset, .unset]) (hb hby at_136) rfl rfl ?_
  obtain ⟨T22, _, X22, rfl, E22, A22, D22, -, st22⟩ := newO X16 hx hZ16 hown16 (W 31 rfl) (W 32 rfl) w33 rfl (g := (mkF m 138 #[vl i_, .second, vi j_, vi k_, vi nn, vr b1, vi mA, vi xA, vi yA, vi mB, vi xB, vi yB, vr r_16, .unset, .unset, .unset, .unset, .unset, .unset, .unset, .unset] [])) rfl (hb hby at_138) (by decide) (by decide)
  obtain ⟨b22, g22⟩ : ∃ z, z = T16.heap.size := ⟨_, rfl⟩
  rw [← g22] at A22 D22 st22
  have n0_b22 := own_on (c12.keep K16 all0) g22
  have H23 := CHv.ext E22 H21
  have F22_modCount : Fld Z T22.heap b22 "java/util/AbstractList" "modCount" "I" (.int (0 : Int32)) := D22 (Or.inl (W 51 rfl)) (ty := .int) (by decide)
  have F22_elementData : Fld Z T22.heap b22 "java/util/ArrayList" "elementData" "[Ljava/lang/Object;" .null := D22 (Or.inl (W 54 rfl)) (ty := (.array (.object "java/lang/Object"))) (by decide)
  have F22_size : Fld Z T22.heap b22 "java/util/ArrayList" "size" "I" (.int (0 : Int32)) := D22 (Or.inl (W 66 rfl)) (ty := .int) (by decide)
  refine ogoF st22 <| o_dup X22 hx (hb hby at_141) rfl <| o_cI X22 hx hZ16 hown16 (rm_ali hw  SB ((c12.keep K16 all0).ext E22) A22 F22_elementData F22_size F22_modCount n0_b22) rfl (W 34 rfl) (W 35 rfl) w33 (W 36 rfl) (by decide) rfl hml rfl [] [(.ref b22)] own_pd17 rfl rfl 1 rfl (by decide) (hb hby at_142) fun T24 L24 v24 X24 hQ24 => ?_
  obtain ⟨rfl, Nq24, K24, p24_0, p24_1, p24_2, p24_3⟩ := hQ24
  have N24 := Fr.app N16 Nq24
  have H25 := CHv.keep K24 (allS (Safe.exa hZ16.alike A22 (by decide) (by decide)) all0) H23
  refine o_astore X24 hx (l' := #[vl i_, .second, vi j_, vi k_, vi nn, vr b1, vi mA, vi xA, vi yA, vi mB, vi xB, vi yB, vr r_16, vr b22, .unset, .unset, .unset, .unset, .unset, .unset, .unset]) (hb hby at_145) rfl rfl <| o_aload X24 hx (hb hby at_147) rfl rfl <| o_iload X24 hx (hb hby at_149) rfl <| o_iload X24 hx (hb hby at_151) rfl <| o_iload X24 hx (hb hby at_153) rfl ?_
  have z27 := Nat.le_trans E22.1 K24.1
  refine o_cSS X24 hx hZ16 hown16 (rm_pto hw xA yA mA SB (((c12.keep K16 all0).ext E22).keep K24 (allS n0_b22 all0)) ok_xA ok_yA (own_okn ok_xA) (own_okn ok_yA)) (W 55 rfl) (W 56 rfl) w5 (W 57 rfl) (by decide) rfl hS16 (Nat.le_trans (Nat.le_refl _) z27) hEL H25 hml rfl [(.int xA), (.int yA), (.int mA)] [(.ref b22)] own_pd54 rfl rfl 1 rfl (by decide) (hb hby at_155) fun T26 L26 v26 X26 hS26 hZ26 hown26 C26 hQ26 => ?_
  obtain ⟨r_26, rb_26, rk_26, rs_26, rn_26, rfl, Nq26, K26, p26_0, p26_1, p26_2, p26_3, p26_4, p26_5, p26_6⟩ := hQ26
  have N26 := Fr.app N24 Nq26
  have H28 := C26.1
  have z29 := Nat.le_trans z20 K16.1
  have z30 := Nat.le_trans z29 E22.1
  have z31 := Nat.le_trans z30 K24.1
  have n0_r_26 := own_og O0 (Nat.le_trans z31 p26_0)
  have lnA : rs_26.length = rn_26 ∧ rn_26 ≤ 2 := by rw [p26_6.1, p26_6.2]; exact own_prl _ _ _
  have ne32 := own_nea (W 32 rfl) (p24_0.keep K26) p26_5
  have c34 := ((((c12.keep K16 all0).ext E22).keep K24 (allS n0_b22 all0)).keep K26 all0)
  refine o_cv X26 hx hZ26 hown26 (rm_ad0 hw  SB c34 (p24_0.keep K26) (p24_1.keep K26 nin0) (p24_2.keep K26 nin0) (p24_3.keep K26 nin0) n0_b22 p26_2) (W 58 rfl) (W 59 rfl) (W 61 rfl) (W 60 rfl) w33 (W 62 rfl) (by decide) rfl (p24_0.keep K26) hml rfl [(.ref r_26)] [] own_pd46 rfl rfl 0 rfl (by decide) (hb hby at_158) fun T33 L33 v33 X33 hQ33 => ?_
  obtain ⟨d_33, kd_33, rfl, Nq33, K33, p33_0, p33_1, p33_2, p33_3, p33_4, p33_5, p33_6, p33_7⟩ := hQ33
  have N33 := Fr.app N26 Nq33
  have H35 := CHv.keep K33 (allS (Safe.exa hZ26.alike (p24_0.keep K26) (by decide) (by decide)) all0) H28
  have z36 := Nat.le_trans z31 K26.1
  have n0_d_33 := own_og O0 (Nat.le_trans z36 p33_0)
  refine o_pop X33 hx (hb hby at_161) rfl <| o_aload X33 hx (hb hby at_162) rfl rfl <| o_iload X33 hx (hb hby at_164) rfl <| o_iload X33 hx (hb hby at_166) rfl <| o_iload X33 hx (hb hby at_168) rfl <| o_cSS X33 hx hZ26 hown26 (rm_pto hw xB yB mB SB (c34.keep K33 (allS n0_b22 all0)) ok_xB ok_yB (own_okn ok_xB) (own_okn ok_yB)) (W 55 rfl) (W 56 rfl) w5 (W 57 rfl) (by decide) rfl hS26 (Nat.le_trans (Nat.le_refl _) K33.1) hEL H35 hml rfl [(.int xB), (.int yB), (.int mB)] [(.ref b22)] own_pd54 rfl rfl 1 rfl (by decide) (hb hby at_170) fun T37 L37 v37 X37 hS37 hZ37 hown37 C37 hQ37 => ?_
  obtain ⟨r_37, rb_37, rk_37, rs_37, rn_37, rfl, Nq37, K37, p37_0, p37_1, p37_2, p37_3, p37_4, p37_5, p37_6⟩ := hQ37
  have N37 := Fr.app N33 Nq37
  have H38 := C37.1
  have z39 := Nat.le_trans z36 K33.1
  have n0_r_37 := own_og O0 (Nat.le_trans z39 p37_0)
  have lnB : rs_37.length = rn_37 ∧ rn_37 ≤ 2 := by rw [p37_6.1, p37_6.2]; exact own_prl _ _ _
  have ne40 := own_nea (W 32 rfl) (p33_1.keep K37) p37_5
  have nf40 := own_neb p37_5 (p33_5.keep K37 nin0)
  refine o_cv X37 hx hZ37 hown37 (rm_ad1 hw  ((c34.keep K33 (allS n0_b22 all0)).keep K37 all0) (p33_1.keep K37) (p33_2.keep K37 nin0) (p33_3.keep K37 nin0) (p33_4.keep K37 nin0) n0_b22 n0_d_33 p37_2 (p33_5.keep K37 nin0) (p33_6.keep K37) p33_7) (W 58 rfl) (W 59 rfl) (W 61 rfl) (W 60 rfl) w33 (W 62 rfl) (by decide) rfl (p33_1.keep K37) hml rfl [(.ref r_37)] [] own_pd46 rfl rfl 0 rfl (by decide) (hb hby at_173) fun T41 L41 v41 X41 hQ41 => ?_
  obtain ⟨rfl, Nq41, K41, p41_0, p41_1, p41_2, p41_3, p41_4, p41_5⟩ := hQ41
  have N41 := Fr.app N37 Nq41
  have H42 := CHv.keep K41 (allS (Safe.exa hZ37.alike (p33_1.keep K37) (by decide) (by decide)) (allS (Safe.exa hZ37.alike (p33_6.keep K37) (by decide) (by decide)) all0)) H38
  refine o_pop X41 hx (hb hby at_176) rfl ?_
  obtain ⟨T43, _, X43, rfl, E43, A43, D43, -, st43⟩ := newO X41 hx hZ37 hown37 (W 89 rfl) (W 90 rfl) w91 rfl (g := (mkF m 177 #[vl i_, .second, vi j_, vi k_, vi nn, vr b1, vi mA, vi xA, vi yA, vi mB, vi xB, vi yB, vr r_16, vr b22, .unset, .unset, .unset, .unset, .unset, .unset, .unset] [])) rfl (hb hby at_177) (by decide) (by decide)
  obtain ⟨b43, g43⟩ : ∃ z, z = T41.heap.size := ⟨_, rfl⟩
  rw [← g43] at A43 D43 st43
  have c44 := (((c34.keep K33 (allS n0_b22 all0)).keep K37 all0).keep K41 (allS n0_b22 (allS n0_d_33 all0)))
  have n0_b43 := own_on c44 g43
  have H45 := CHv.ext E43 H42
  have F43_parts : Fld Z T43.heap b43 "com/example/reliquary/reliquary/Secrets" "parts" "Ljava/util/List;" .null := D43 (Or.inr (W 99 rfl)) (ty := (.object "java/util/List")) (by decide)
  refine ogoF st43 <| o_dup X43 hx (hb hby at_180) rfl <| o_aload X43 hx (hb hby at_181) rfl rfl ?_
  have z47 := Nat.le_trans K37.1 K41.1
  have y48 : d_33 ≠ b43 := (Nat.ne_of_lt (Nat.lt_of_lt_of_le (Nat.lt_of_lt_of_le p33_5.lt z47) (Nat.le_of_eq g43.symm)))
  have y49 : r_26 ≠ b22 := (Nat.ne_of_gt (Nat.lt_of_lt_of_le (Nat.lt_of_lt_of_le A22.lt K24.1) p26_0))
  have y50 : r_26 ≠ d_33 := (Nat.ne_of_lt (Nat.lt_of_lt_of_le (Nat.lt_of_lt_of_le p26_2.lt (Nat.le_refl _)) p33_0))
  have c51 := (Fld.ext E43 (((p26_3.keep K33 (ninS y49 nin0)).keep K37 nin0).keep K41 (ninS y49 (ninS y50 nin0))))
  have c52 := (Fld.ext E43 (((p26_4.keep K33 (ninS y49 nin0)).keep K37 nin0).keep K41 (ninS y49 (ninS y50 nin0))))
  have y53 : rb_26 ≠ d_33 := (Nat.ne_of_lt (Nat.lt_of_lt_of_le (Nat.lt_of_lt_of_le p26_1 (Nat.le_refl _)) p33_0))
  have c54 := ((((p26_5.keep K33 (ninS ne32 nin0)).keep K37 nin0).keep K41 (ninS ne32 (ninS y53 nin0))).ext E43)
  have y55 : r_37 ≠ d_33 := (Nat.ne_of_gt (Nat.lt_of_lt_of_le (Nat.lt_of_lt_of_le p33_5.lt (Nat.le_refl _)) p37_0))
  have z56 := Nat.le_trans K24.1 K26.1
  have z57 := Nat.le_trans z56 K33.1
  have y58 : r_37 ≠ b22 := (Nat.ne_of_gt (Nat.lt_of_lt_of_le (Nat.lt_of_lt_of_le A22.lt z57) p37_0))
  have z59 := Nat.le_trans K33.1 K37.1
  have z60 := Nat.le_trans z59 K41.1
  have y61 : rb_26 ≠ b43 := (Nat.ne_of_lt (Nat.lt_of_lt_of_le (Nat.lt_of_lt_of_le p26_1 z60) (Nat.le_of_eq g43.symm)))
  have y62 : rb_37 ≠ b43 := (Nat.ne_of_lt (Nat.lt_of_lt_of_le (Nat.lt_of_lt_of_le p37_1 K41.1) (Nat.le_of_eq g43.symm)))
  refine o_cI X43 hx hZ37 hown37 (rm_sei hw rn_26 rn_37 SB (c44.ext E43) A43 F43_parts n0_b43 (Exa.ext E43 p41_0) (Fld.ext E43 p41_1) (Fld.ext E43 p41_2) (Fld.ext E43 p41_3) (p41_4.ext E43) y48 (Exa.ext E43 (((p26_2.keep K33).keep K37).keep K41)) c51 c52 c54 (Exa.ext E43 (p37_2.keep K41)) (Fld.ext E43 (p37_3.keep K41 (ninS y58 (ninS y55 nin0)))) (Fld.ext E43 (p37_4.keep K41 (ninS y58 (ninS y55 nin0)))) ((p37_5.keep K41 (ninS ne40 (ninS nf40 nin0))).ext E43) y61 y62 (by first | rfl | assumption | decide | omega)) rfl (W 92 rfl) (W 93 rfl) w91 (W 94 rfl) (by decide) rfl hml rfl [(.ref b22)] [(.ref b43)] own_pd55 rfl rfl 1 rfl (by decide) (hb hby at_183) fun T46 L46 v46 X46 hQ46 => ?_
  obtain ⟨w_46, e_46, ke_46, ze_46, ve_46, sz_46, mo_46, q1_46, c1_46, j1_46, u1_46, r1_46, q2_46, c2_46, j2_46, u2_46, r2_46, rfl, Nq46, K46, p46_0, p46_1, p46_2, p46_3, p46_4, p46_5, p46_6, p46_7, p46_8, p46_9, p46_10, p46_11, p46_12, p46_13, p46_14, p46_15, p46_16⟩ := hQ46
  have N46 := Fr.app N41 Nq46
  have H63 := CHv.keep K46 (allS (Safe.exa hZ37.alike A43 (by decide) (by decide)) all0) H45
  have z64 := Nat.le_trans z39 K37.1
  have z65 := Nat.le_trans z64 K41.1
  have z66 := Nat.le_trans z65 E43.1
  have n0_w_46 := own_og O0 (Nat.le_trans z66 p46_0)
  refine o_astore X46 hx (l' := #[vl i_, .second, vi j_, vi k_, vi nn, vr b1, vi mA, vi xA, vi yA, vi mB, vi xB, vi yB, vr r_16, vr b22, vr b43, .unset, .unset, .unset, .unset, .unset, .unset]) (hb hby at_186) rfl rfl <| o_aload X46 hx (hb hby at_188) rfl rfl <| o_aload X46 hx (hb hby at_190) rfl rfl ?_
  have c68 := ((Exa.ext E43 ((((((Exa.ext E22 p16_2).keep K24).keep K26).keep K33).keep K37).keep K41)).keep K46)
  have y69 : r_16 ≠ b22 := (Nat.ne_of_lt (Nat.lt_of_lt_of_le (Nat.lt_of_lt_of_le p16_2.lt (Nat.le_refl _)) (Nat.le_of_eq g22.symm)))
  have z70 := Nat.le_trans z27 K26.1
  have y71 : r_16 ≠ d_33 := (Nat.ne_of_lt (Nat.lt_of_lt_of_le (Nat.lt_of_lt_of_le p16_2.lt z70) p33_0))
  have z72 := Nat.le_trans z70 K33.1
  have z73 := Nat.le_trans z72 K37.1
  have z74 := Nat.le_trans z73 K41.1
  have y75 : r_16 ≠ b43 := (Nat.ne_of_lt (Nat.lt_of_lt_of_le (Nat.lt_of_lt_of_le p16_2.lt z74) (Nat.le_of_eq g43.symm)))
  have c76 := ((Fld.ext E43 ((((((Fld.ext E22 p16_3).keep K24 (ninS y69 nin0)).keep K26 nin0).keep K33 (ninS y69 nin0)).keep K37 nin0).keep K41 (ninS y69 (ninS y71 nin0)))).keep K46 (ninS y75 nin0))
  have c77 := ((Fld.ext E43 ((((((Fld.ext E22 p16_4).keep K24 (ninS y69 nin0)).keep K26 nin0).keep K33 (ninS y69 nin0)).keep K37 nin0).keep K41 (ninS y69 (ninS y71 nin0)))).keep K46 (ninS y75 nin0))
  have y78 : rb_16 ≠ b22 := (Nat.ne_of_lt (Nat.lt_of_lt_of_le (Nat.lt_of_lt_of_le p16_1 (Nat.le_refl _)) (Nat.le_of_eq g22.symm)))
  have y79 : rb_16 ≠ d_33 := (Nat.ne_of_lt (Nat.lt_of_lt_of_le (Nat.lt_of_lt_of_le p16_1 z70) p33_0))
  have y80 : rb_16 ≠ b43 := (Nat.ne_of_lt (Nat.lt_of_lt_of_le (Nat.lt_of_lt_of_le p16_1 z74) (Nat.le_of_eq g43.symm)))
  have c81 := ((((((((p16_5.ext E22).keep K24 (ninS y78 nin0)).keep K26 nin0).keep K33 (ninS y78 nin0)).keep K37 nin0).keep K41 (ninS y78 (ninS y79 nin0))).ext E43).keep K46 (ninS y80 nin0))
  have z82 := Nat.le_trans K41.1 E43.1
  have z83 := Nat.le_trans z82 K46.1
  refine o_cVS X46 hx hZ37 hown37 (rm_hdb hw rn_16 r1_46 r2_46 SB ((c44.ext E43).keep K46 (allS n0_b43 all0)) p46_1 p46_2 p46_3 p46_4 p46_5 p46_6 p46_7 c68 c76 c77 c81 p46_8 p46_9 p46_10 p46_11 p46_12 p46_13 p46_14 p46_15 lnT (own_selpl lnA.2 lnB.2 p46_16)) (W 156 rfl) (mvT hZ37 (W 157 rfl)) (notFace_of_selects (args := #[]) (mvT hZ37 (W 159 rfl))) (W 159 rfl) (W 158 rfl) w91 (W 160 rfl) (by decide) rfl p46_1 hS37 (Nat.le_trans (Nat.le_refl _) z83) hEL H63 hml rfl [(.ref r_16)] [] own_pd56 rfl rfl 0 rfl (by decide) (hb hby at_192) fun T67 L67 v67 X67 hS67 hZ67 hown67 C67 hQ67 => ?_
  obtain ⟨r_67, rb_67, rk_67, rs_67, rn_67, rfl, Nq67, K67, p67_0, p67_1, p67_2, p67_3, p67_4, p67_5, p67_6, p67_7⟩ := hQ67
  have N67 := Fr.app N46 Nq67
  have H84 := C67.1
  have z85 := Nat.le_trans z66 K46.1
  have n0_r_67 := own_og O0 (Nat.le_trans z85 p67_0)
  have n0_rb_67 := own_og O0 (Nat.le_trans z85 p67_1)
  refine o_astore X67 hx (l' := #[vl i_, .second, vi j_, vi k_, vi nn, vr b1, vi mA, vi xA, vi yA, vi mB, vi xB, vi yB, vr r_16, vr b22, vr b43, vr r_67, .unset, .unset, .unset, .unset, .unset]) (hb hby at_195) rfl rfl <| o_aload X67 hx (hb hby at_197) rfl rfl <| o_aconst_null X67 hx (hb hby at_199) <| ogo (S' := T67.setTop (mkF m 203 #[vl i_, .second, vi j_, vi k_, vi nn, vr b1, vi mA, vi xA, vi yA, vi mB, vi xB, vi yB, vr r_16, vr b22, vr b43, vr r_67, .unset, .unset, .unset, .unset, .unset] [.null, (.ref b43)])) (X67.checkcastNull hx (g := (mkF m 200 #[vl i_, .second, vi j_, vi k_, vi nn, vr b1, vi mA, vi xA, vi yA, vi mB, vi xB, vi yB, vr r_16, vr b22, vr b43, vr r_67, .unset, .unset, .unset, .unset, .unset] [.null, (.ref b43)])) rfl rfl (hb hby at_200)) <| o_cv X67 hx hZ67 hown67 (rm_hdn hw b43 (((c44.ext E43).keep K46 (allS n0_b43 all0)).keep K67 all0) ) (W 156 rfl) (W 157 rfl) (W 159 rfl) (W 158 rfl) w91 (W 160 rfl) (by decide) rfl (p46_1.keep K67) hml rfl [.null] [] own_pd56 rfl rfl 0 rfl (by decide) (hb hby at_203) fun T86 L86 v86 X86 hQ86 => ?_
  obtain ⟨rfl, Nq86, q86⟩ := hQ86
  have N86 := Fr.app N67 Nq86
  refine o_ifnullYes X86 hx 211 (hb hby at_206) rfl <| o_aload X86 hx (hb hby at_211) rfl rfl <| o_ifnonnullYes X86 hx 218 (hb hby at_213) rfl ?_
  have KR87 := ((((((((((((((((Keep.refl h0 []).ext E1).wr W3 (Or.inr (Nat.le_trans (Nat.le_refl _) (Nat.le_of_eq g1.symm)))).wr W5 (Or.inr (Nat.le_trans (Nat.le_refl _) (Nat.le_of_eq g1.symm)))).wr W7 (Or.inr (Nat.le_trans (Nat.le_refl _) (Nat.le_of_eq g1.symm)))).wr W9 (Or.inr (Nat.le_trans (Nat.le_refl _) (Nat.le_of_eq g1.symm)))).trans K16 all0).ext E22).trans K24 (allS (Or.inr (Nat.le_trans z29 (Nat.le_of_eq g22.symm))) all0)).trans K26 all0).trans K33 (allS (Or.inr (Nat.le_trans z29 (Nat.le_of_eq g22.symm))) all0)).trans K37 all0).trans K41 (allS (Or.inr (Nat.le_trans z29 (Nat.le_of_eq g22.symm))) (allS (Or.inr (Nat.le_trans z36 p33_0)) all0))).ext E43).trans K46 (allS (Or.inr (Nat.le_trans z65 (Nat.le_of_eq g43.symm))) all0)).trans K67 all0)
  have CR87 := (CHr.trans (CHr.trans (CHr.trans (CHr.trans (CHr.trans (CHr.trans (CHr.trans (CHr.trans (CHr.trans (CHr.trans (CHr.trans (CHr.trans (CHr.trans (CHr.trans (CHr.ext E1 H0) (CHr.wr W3 (Safe.exa hZ.alike Ex1 (by decide) (by decide)) H2)) (CHr.wr W5 (Safe.exa hZ.alike (Exa.wr W3 Ex1) (by decide) (by decide)) H4)) (CHr.wr W7 (Safe.exa hZ.alike (Exa.wr W5 (Exa.wr W3 Ex1)) (by decide) (by decide)) H6)) (CHr.wr W9 (Safe.exa hZ.alike (Exa.wr W7 (Exa.wr W5 (Exa.wr W3 Ex1))) (by decide) (by decide)) H8)) C16) (CHr.ext E22 H21)) (CHr.keep K24 (allS (Safe.exa hZ16.alike A22 (by decide) (by decide)) all0) H23)) C26) (CHr.keep K33 (allS (Safe.exa hZ26.alike (p24_0.keep K26) (by decide) (by decide)) all0) H28)) C37) (CHr.keep K41 (allS (Safe.exa hZ37.alike (p33_1.keep K37) (by decide) (by decide)) (allS (Safe.exa hZ37.alike (p33_6.keep K37) (by decide) (by decide)) all0)) H38)) (CHr.ext E43 H42)) (CHr.keep K46 (allS (Safe.exa hZ37.alike A43 (by decide) (by decide)) all0) H45)) C67)
  have z88 := Nat.le_trans z85 K67.1
  have z89 := Nat.le_trans (Keep.of_wr W3).1 (Keep.of_wr W5).1
  have z90 := Nat.le_trans z89 (Keep.of_wr W7).1
  have z91 := Nat.le_trans z90 (Keep.of_wr W9).1
  have z92 := Nat.le_trans z91 K16.1
  have y93 : b1 ≠ b22 := (Nat.ne_of_lt (Nat.lt_of_lt_of_le (Nat.lt_of_lt_of_le V1.lt z92) (Nat.le_of_eq g22.symm)))
  have z94 := Nat.le_trans z92 E22.1
  have z95 := Nat.le_trans z94 K24.1
  have z96 := Nat.le_trans z95 K26.1
  have y97 : b1 ≠ d_33 := (Nat.ne_of_lt (Nat.lt_of_lt_of_le (Nat.lt_of_lt_of_le V1.lt z96) p33_0))
  have z98 := Nat.le_trans z96 K33.1
  have z99 := Nat.le_trans z98 K37.1
  have z100 := Nat.le_trans z99 K41.1
  have y101 : b1 ≠ b43 := (Nat.ne_of_lt (Nat.lt_of_lt_of_le (Nat.lt_of_lt_of_le V1.lt z100) (Nat.le_of_eq g43.symm)))
  have c102 := ((((((((((V9.keep K16 nin0).ext E22).keep K24 (ninS y93 nin0)).keep K26 nin0).keep K33 (ninS y93 nin0)).keep K37 nin0).keep K41 (ninS y93 (ninS y97 nin0))).ext E43).keep K46 (ninS y101 nin0)).keep K67 nin0)
  have c103 := (((Exa.ext E43 ((((((Exa.ext E22 ((Exa.wr W9 (Exa.wr W7 (Exa.wr W5 (Exa.wr W3 Ex1)))).keep K16)).keep K24).keep K26).keep K33).keep K37).keep K41)).keep K46).keep K67)
  have Vt : Arv Z T67.heap b1 k1 .char (Int32.ofNat 4) (own_vs [t0, t1, t2, t3]) (.int 0) := c102
  have J259 : ∀ (c0 : Int32) (T104 : State) (Lo104 : List Loc) (X104 : Stand p l e room_1 (s.setVm T67.vm) m #[(.long i_), (.int j_), (.int k_)] below meth c T104 Lo104 38 527) (N104 : Fr n0 Lo104) (e104 : T104.heap = T67.heap), c0 = own_or (own_cov t0 t0 t1 (0 : Int32) (1 : Int32) nn xA yA mA) (own_cov t0 t0 t1 (0 : Int32) (1 : Int32) nn xB yB mB) → Own p e below (oPostS Z (own_Q_law Z z_CS v_FMT s_DC k_DC v_IO i_ j_ k_ h0 n0) s 64 3456) (T104.setTop (mkF m 259 #[vl i_, .second, vi j_, vi k_, vi nn, vr b1, vi mA, vi xA, vi yA, vi mB, vi xB, vi yB, vr r_16, vr b22, vr b43, vr r_67, vi c0, .unset, .unset, .unset, .unset] [])) := by
    intro c0 T104 Lo104 X104 N104 e104 hc_0
    have J300 : ∀ (c1 : Int32) (T105 : State) (Lo105 : List Loc) (X105 : Stand p l e room_1 (s.setVm T67.vm) m #[(.long i_), (.int j_), (.int k_)] below meth c T105 Lo105 38 527) (N105 : Fr n0 Lo105) (e105 : T105.heap = T67.heap), c1 = own_or (own_cov t0 t1 t2 (1 : Int32) (2 : Int32) nn xA yA mA) (own_cov t0 t1 t2 (1 : Int32) (2 : Int32) nn xB yB mB) → Own p e below (oPostS Z (own_Q_law Z z_CS v_FMT s_DC k_DC v_IO i_ j_ k_ h0 n0) s 64 3456) (T105.setTop (mkF m 300 #[vl i_, .second, vi j_, vi k_, vi nn, vr b1, vi mA, vi xA, vi yA, vi mB, vi xB, vi yB, vr r_16, vr b22, vr b43, vr r_67, vi c0, vi c1, .unset, .unset, .unset] [])) := by
      intro c1 T105 Lo105 X105 N105 e105 hc_1
      have J341 : ∀ (c2 : Int32) (T106 : State) (Lo106 : List Loc) (X106 : Stand p l e room_1 (s.setVm T67.vm) m #[(.long i_), (.int j_), (.int k_)] below meth c T106 Lo106 38 527) (N106 : Fr n0 Lo106) (e106 : T106.heap = T67.heap), c2 = own_or (own_cov t1 t2 t3 (2 : Int32) (3 : Int32) nn xA yA mA) (own_cov t1 t2 t3 (2 : Int32) (3 : Int32) nn xB yB mB) → Own p e below (oPostS Z (own_Q_law Z z_CS v_FMT s_DC k_DC v_IO i_ j_ k_ h0 n0) s 64 3456) (T106.setTop (mkF m 341 #[vl i_, .second, vi j_, vi k_, vi nn, vr b1, vi mA, vi xA, vi yA, vi mB, vi xB, vi yB, vr r_16, vr b22, vr b43, vr r_67, vi c0, vi c1, vi c2, .unset, .unset] [])) := by
        intro c2 T106 Lo106 X106 N106 e106 hc_2
        have J382 : ∀ (c3 : Int32) (T107 : State) (Lo107 : List Loc) (X107 : Stand p l e room_1 (s.setVm T67.vm) m #[(.long i_), (.int j_), (.int k_)] below meth c T107 Lo107 38 527) (N107 : Fr n0 Lo107) (e107 : T107.heap = T67.heap), c3 = own_or (own_cov t2 t3 (0 : Int32) (3 : Int32) (4 : Int32) nn xA yA mA) (own_cov t2 t3 (0 : Int32) (3 : Int32) (4 : Int32) nn xB yB mB) → Own p e below (oPostS Z (own_Q_law Z z_CS v_FMT s_DC k_DC v_IO i_ j_ k_ h0 n0) s 64 3456) (T107.setTop (mkF m 382 #[vl i_, .second, vi j_, vi k_, vi nn, vr b1, vi mA, vi xA, vi yA, vi mB, vi xB, vi yB, vr r_16, vr b22, vr b43, vr r_67, vi c0, vi c1, vi c2, vi c3, .unset] [])) := by
          intro c3 T107 Lo107 X107 N107 e107 hc_3
          have hW : own_W t0 t1 t2 t3 xA yA xB yB nn mA mB c0 c1 c2 c3 rs_16 rs_67 rn_16 rn_67 := ⟨ok_t0, ok_t1, ok_t2, ok_t3, ok_xA, ok_yA, ok_xB, ok_yB, ⟨_, _, _, _, _, _, _, _, _, by rw [← p26_6.1, ← p37_6.1, ← p26_6.2, ← p37_6.2]; exact p46_16, p67_7⟩, p16_6.1, p16_6.2, p67_6.1, p67_6.2, hc_0, hc_1, hc_2, hc_3⟩
          rcases h5 with e | e | e | e | e
          · have fg0 := own_fin0 hW e
            refine o_aload X107 hx (hb hby at_382) rfl rfl <| o_iconst X107 hx 0 (hb hby at_384) rfl <| o_iconst X107 hx 0 (hb hby at_385) rfl <| o_iload X107 hx (hb hby at_386) rfl <| o_icmpYes X107 hx 395 (hb hby at_388) (flt (by rw [e]; decide)).2.1 rfl <| o_iconst X107 hx 0 (hb hby at_395) rfl <| o_aload X107 hx (hb hby at_396) rfl rfl <| o_iconst X107 hx 0 (hb hby at_398) rfl <| o_cal X107 hx hZ67 e107 c102 ⟨by decide, by decide⟩ (v := (.int t0)) rfl (hb hby at_399) <| o_iload X107 hx (hb hby at_400) rfl <| o_iconst X107 hx 0 (hb hby at_402) rfl <| o_cS X107 hx hZ67 hown67 (rm_stp0 hw r_67 0 t0 c0 (0 : Int32) (((c44.ext E43).keep K46 (allS n0_b43 all0)).keep K67 all0) (by omega)) w325 w326 w5 w327 (by decide) e107 hml rfl [(.ref r_67), (.int (0 : Int32)), (.int (0 : Int32)), (.int t0), (.int c0), (.int (0 : Int32))] [] own_pd57 rfl rfl 0 rfl (by decide) (hb hby at_403) fun T109 L109 v109 X109 hQ109 => ?_
            obtain ⟨rfl, Nq109, q109⟩ := hQ109
            have N109 := Fr.app N107 Nq109
            refine o_istore X109 hx (l' := #[vl i_, .second, vi j_, vi k_, vi nn, vr b1, vi mA, vi xA, vi yA, vi mB, vi xB, vi yB, vr r_16, vr b22, vr b43, vr r_67, vi c0, vi c1, vi c2, vi c3, vi (Int32.ofNat 0)]) (hb hby at_406) rfl <| o_aload X109 hx (hb hby at_408) rfl rfl <| o_iload X109 hx (hb hby at_410) rfl <| o_iconst X109 hx 1 (hb hby at_412) rfl <| o_iload X109 hx (hb hby at_413) rfl <| o_icmpYes X109 hx 422 (hb hby at_415) (flt (by rw [e]; decide)).2.1 rfl <| o_iconst X109 hx 0 (hb hby at_422) rfl <| o_aload X109 hx (hb hby at_423) rfl rfl <| o_iconst X109 hx 1 (hb hby at_425) rfl <| o_cal X109 hx hZ67 q109 c102 ⟨by decide, by decide⟩ (v := (.int t1)) rfl (hb hby at_426) <| o_iload X109 hx (hb hby at_427) rfl <| o_iload X109 hx (hb hby at_429) rfl <| o_cS X109 hx hZ67 hown67 (rm_stp0 hw r_67 0 t1 c1 c0 (((c44.ext E43).keep K46 (allS n0_b43 all0)).keep K67 all0) (by omega)) w325 w326 w5 w327 (by decide) q109 hml rfl [(.ref r_67), (.int (Int32.ofNat 0)), (.int (0 : Int32)), (.int t1), (.int c1), (.int c0)] [] own_pd57 rfl rfl 0 rfl (by decide) (hb hby at_431) fun T110 L110 v110 X110 hQ110 => ?_
            obtain ⟨rfl, Nq110, q110⟩ := hQ110
            have N110 := Fr.app N109 Nq110
            refine o_istore X110 hx (l' := #[vl i_, .second, vi j_, vi k_, vi nn, vr b1, vi mA, vi xA, vi yA, vi mB, vi xB, vi yB, vr r_16, vr b22, vr b43, vr r_67, vi c0, vi c1, vi c2, vi c3, vi (Int32.ofNat 0)]) (hb hby at_434) rfl <| o_aload X110 hx (hb hby at_436) rfl rfl <| o_iload X110 hx (hb hby at_438) rfl <| o_iconst X110 hx 2 (hb hby at_440) rfl <| o_iload X110 hx (hb hby at_441) rfl <| o_icmpYes X110 hx 450 (hb hby at_443) (flt (by rw [e]; decide)).2.1 rfl <| o_iconst X110 hx 0 (hb hby at_450) rfl <| o_aload X110 hx (hb hby at_451) rfl rfl <| o_iconst X110 hx 2 (hb hby at_453) rfl <| o_cal X110 hx hZ67 q110 c102 ⟨by decide, by decide⟩ (v := (.int t2)) rfl (hb hby at_454) <| o_iload X110 hx (hb hby at_455) rfl <| o_iload X110 hx (hb hby at_457) rfl <| o_cS X110 hx hZ67 hown67 (rm_stp0 hw r_67 0 t2 c2 c1 (((c44.ext E43).keep K46 (allS n0_b43 all0)).keep K67 all0) (by omega)) w325 w326 w5 w327 (by decide) q110 hml rfl [(.ref r_67), (.int (Int32.ofNat 0)), (.int (0 : Int32)), (.int t2), (.int c2), (.int c1)] [] own_pd57 rfl rfl 0 rfl (by decide) (hb hby at_459) fun T111 L111 v111 X111 hQ111 => ?_
            obtain ⟨rfl, Nq111, q111⟩ := hQ111
            have N111 := Fr.app N110 Nq111
            refine o_istore X111 hx (l' := #[vl i_, .second, vi j_, vi k_, vi nn, vr b1, vi mA, vi xA, vi yA, vi mB, vi xB, vi yB, vr r_16, vr b22, vr b43, vr r_67, vi c0, vi c1, vi c2, vi c3, vi (Int32.ofNat 0)]) (hb hby at_462) rfl <| o_aload X111 hx (hb hby at_464) rfl rfl <| o_iload X111 hx (hb hby at_466) rfl <| o_iconst X111 hx 3 (hb hby at_468) rfl <| o_iload X111 hx (hb hby at_469) rfl <| o_icmpYes X111 hx 478 (hb hby at_471) (flt (by rw [e]; decide)).2.1 rfl <| o_iconst X111 hx 0 (hb hby at_478) rfl <| o_aload X111 hx (hb hby at_479) rfl rfl <| o_iconst X111 hx 3 (hb hby at_481) rfl <| o_cal X111 hx hZ67 q111 c102 ⟨by decide, by decide⟩ (v := (.int t3)) rfl (hb hby at_482) <| o_iload X111 hx (hb hby at_483) rfl <| o_iload X111 hx (hb hby at_485) rfl <| o_cS X111 hx hZ67 hown67 (rm_stp0 hw r_67 0 t3 c3 c2 (((c44.ext E43).keep K46 (allS n0_b43 all0)).keep K67 all0) (by omega)) w325 w326 w5 w327 (by decide) q111 hml rfl [(.ref r_67), (.int (Int32.ofNat 0)), (.int (0 : Int32)), (.int t3), (.int c3), (.int c2)] [] own_pd57 rfl rfl 0 rfl (by decide) (hb hby at_487) fun T112 L112 v112 X112 hQ112 => ?_
            obtain ⟨rfl, Nq112, q112⟩ := hQ112
            have N112 := Fr.app N111 Nq112
            refine o_istore X112 hx (l' := #[vl i_, .second, vi j_, vi k_, vi nn, vr b1, vi mA, vi xA, vi yA, vi mB, vi xB, vi yB, vr r_16, vr b22, vr b43, vr r_67, vi c0, vi c1, vi c2, vi c3, vi (Int32.ofNat 0)]) (hb hby at_490) rfl <| o_iload X112 hx (hb hby at_492) rfl <| o_aload X112 hx (hb hby at_494) rfl rfl <| o_cv X112 hx hZ67 hown67 (rm_slen hw rn_67 SB (((c44.ext E43).keep K46 (allS n0_b43 all0)).keep K67 all0) p67_2 p67_3 p67_4 p67_5) w328 w165 w167 w166 w12 w168 (by decide) q112 p67_2 hml rfl [] [(.int (Int32.ofNat 0))] own_pd5 rfl rfl 1 rfl (by decide) (hb hby at_496) fun T113 L113 v113 X113 hQ113 => ?_
            obtain ⟨rfl, Nq113, q113⟩ := hQ113
            have N113 := Fr.app N112 Nq113
            refine o_icmpNo X113 hx (hb hby at_499) (teq (show (Int32.ofNat 0) = (Int32.ofNat rn_67) from congrArg Int32.ofNat (show 0 = rn_67 by omega))).2 <| o_iconst X113 hx 1 (hb hby at_502) rfl <| o_goto X113 hx 507 (hb hby at_503) rfl ?_
            exact oendSN X113 hx hlk hret (by simp) (y := (1 : Int32)) rfl (hb hby at_507) (by decide) q113 hS67 (Nat.le_refl _) hZ67 hEL hs0 CR87 ⟨rfl, N113, KR87⟩
          · have fg0 := own_fin1 hW e
            refine o_aload X107 hx (hb hby at_382) rfl rfl <| o_iconst X107 hx 0 (hb hby at_384) rfl <| o_iconst X107 hx 0 (hb hby at_385) rfl <| o_iload X107 hx (hb hby at_386) rfl <| o_icmpNo X107 hx (hb hby at_388) (tlt (by rw [e]; decide)).2.1 <| o_iconst X107 hx 1 (hb hby at_391) rfl <| o_goto X107 hx 396 (hb hby at_392) rfl <| o_aload X107 hx (hb hby at_396) rfl rfl <| o_iconst X107 hx 0 (hb hby at_398) rfl <| o_cal X107 hx hZ67 e107 c102 ⟨by decide, by decide⟩ (v := (.int t0)) rfl (hb hby at_399) <| o_iload X107 hx (hb hby at_400) rfl <| o_iconst X107 hx 0 (hb hby at_402) rfl <| o_cSS X107 hx hZ67 hown67 (rm_stp1 hw rn_67 0 t0 c0 (0 : Int32) SB (((c44.ext E43).keep K46 (allS n0_b43 all0)).keep K67 all0) p67_2 p67_3 p67_4 p67_5 (by omega) (by omega)) w325 w326 w5 w327 (by decide) e107 hS67 (Nat.le_refl _) hEL H84 hml rfl [(.ref r_67), (.int (0 : Int32)), (.int (1 : Int32)), (.int t0), (.int c0), (.int (0 : Int32))] [] own_pd57 rfl rfl 0 rfl (by decide) (hb hby at_403) fun T114 L114 v114 X114 hS114 hZ114 hown114 C114 hQ114 => ?_
            obtain ⟨rfl, Nq114, K114⟩ := hQ114
            have N114 := Fr.app N107 Nq114
            have H115 := C114.1
            rw [fg0]
            refine o_istore X114 hx (l' := #[vl i_, .second, vi j_, vi k_, vi nn, vr b1, vi mA, vi xA, vi yA, vi mB, vi xB, vi yB, vr r_16, vr b22, vr b43, vr r_67, vi c0, vi c1, vi c2, vi c3, vi (Int32.ofNat rn_67)]) (hb hby at_406) rfl <| o_aload X114 hx (hb hby at_408) rfl rfl <| o_iload X114 hx (hb hby at_410) rfl <| o_iconst X114 hx 1 (hb hby at_412) rfl <| o_iload X114 hx (hb hby at_413) rfl <| o_icmpYes X114 hx 422 (hb hby at_415) (flt (by rw [e]; decide)).2.1 rfl <| o_iconst X114 hx 0 (hb hby at_422) rfl <| o_aload X114 hx (hb hby at_423) rfl rfl <| o_iconst X114 hx 1 (hb hby at_425) rfl <| o_cal X114 hx hZ114 rfl (c102.keep K114 nin0) ⟨by decide, by decide⟩ (v := (.int t1)) rfl (hb hby at_426) <| o_iload X114 hx (hb hby at_427) rfl <| o_iload X114 hx (hb hby at_429) rfl ?_
            have c117 := ((((c44.ext E43).keep K46 (allS n0_b43 all0)).keep K67 all0).keep K114 all0)
            refine o_cS X114 hx hZ114 hown114 (rm_stp0 hw r_67 rn_67 t1 c1 c0 c117 (by omega)) w325 w326 w5 w327 (by decide) rfl hml rfl [(.ref r_67), (.int (Int32.ofNat rn_67)), (.int (0 : Int32)), (.int t1), (.int c1), (.int c0)] [] own_pd57 rfl rfl 0 rfl (by decide) (hb hby at_431) fun T116 L116 v116 X116 hQ116 => ?_
            obtain ⟨rfl, Nq116, q116⟩ := hQ116
            have N116 := Fr.app N114 Nq116
            refine o_istore X116 hx (l' := #[vl i_, .second, vi j_, vi k_, vi nn, vr b1, vi mA, vi xA, vi yA, vi mB, vi xB, vi yB, vr r_16, vr b22, vr b43, vr r_67, vi c0, vi c1, vi c2, vi c3, vi (Int32.ofNat rn_67)]) (hb hby at_434) rfl <| o_aload X116 hx (hb hby at_436) rfl rfl <| o_iload X116 hx (hb hby at_438) rfl <| o_iconst X116 hx 2 (hb hby at_440) rfl <| o_iload X116 hx (hb hby at_441) rfl <| o_icmpYes X116 hx 450 (hb hby at_443) (flt (by rw [e]; decide)).2.1 rfl <| o_iconst X116 hx 0 (hb hby at_450) rfl <| o_aload X116 hx (hb hby at_451) rfl rfl <| o_iconst X116 hx 2 (hb hby at_453) rfl <| o_cal X116 hx hZ114 q116 (c102.keep K114 nin0) ⟨by decide, by decide⟩ (v := (.int t2)) rfl (hb hby at_454) <| o_iload X116 hx (hb hby at_455) rfl <| o_iload X116 hx (hb hby at_457) rfl <| o_cS X116 hx hZ114 hown114 (rm_stp0 hw r_67 rn_67 t2 c2 c1 c117 (by omega)) w325 w326 w5 w327 (by decide) q116 hml rfl [(.ref r_67), (.int (Int32.ofNat rn_67)), (.int (0 : Int32)), (.int t2), (.int c2), (.int c1)] [] own_pd57 rfl rfl 0 rfl (by decide) (hb hby at_459) fun T118 L118 v118 X118 hQ118 => ?_
            obtain ⟨rfl, Nq118, q118⟩ := hQ118
            have N118 := Fr.app N116 Nq118
            refine o_istore X118 hx (l' := #[vl i_, .second, vi j_, vi k_, vi nn, vr b1, vi mA, vi xA, vi yA, vi mB, vi xB, vi yB, vr r_16, vr b22, vr b43, vr r_67, vi c0, vi c1, vi c2, vi c3, vi (Int32.ofNat rn_67)]) (hb hby at_462) rfl <| o_aload X118 hx (hb hby at_464) rfl rfl <| o_iload X118 hx (hb hby at_466) rfl <| o_iconst X118 hx 3 (hb hby at_468) rfl <| o_iload X118 hx (hb hby at_469) rfl <| o_icmpYes X118 hx 478 (hb hby at_471) (flt (by rw [e]; decide)).2.1 rfl <| o_iconst X118 hx 0 (hb hby at_478) rfl <| o_aload X118 hx (hb hby at_479) rfl rfl <| o_iconst X118 hx 3 (hb hby at_481) rfl <| o_cal X118 hx hZ114 q118 (c102.keep K114 nin0) ⟨by decide, by decide⟩ (v := (.int t3)) rfl (hb hby at_482) <| o_iload X118 hx (hb hby at_483) rfl <| o_iload X118 hx (hb hby at_485) rfl <| o_cS X118 hx hZ114 hown114 (rm_stp0 hw r_67 rn_67 t3 c3 c2 c117 (by omega)) w325 w326 w5 w327 (by decide) q118 hml rfl [(.ref r_67), (.int (Int32.ofNat rn_67)), (.int (0 : Int32)), (.int t3), (.int c3), (.int c2)] [] own_pd57 rfl rfl 0 rfl (by decide) (hb hby at_487) fun T119 L119 v119 X119 hQ119 => ?_
            obtain ⟨rfl, Nq119, q119⟩ := hQ119
            have N119 := Fr.app N118 Nq119
            refine o_istore X119 hx (l' := #[vl i_, .second, vi j_, vi k_, vi nn, vr b1, vi mA, vi xA, vi yA, vi mB, vi xB, vi yB, vr r_16, vr b22, vr b43, vr r_67, vi c0, vi c1, vi c2, vi c3, vi (Int32.ofNat rn_67)]) (hb hby at_490) rfl <| o_iload X119 hx (hb hby at_492) rfl <| o_aload X119 hx (hb hby at_494) rfl rfl <| o_cv X119 hx hZ114 hown114 (rm_slen hw rn_67 SB c117 (p67_2.keep K114) (p67_3.keep K114 nin0) (p67_4.keep K114 nin0) (p67_5.keep K114 nin0)) w328 w165 w167 w166 w12 w168 (by decide) q119 (p67_2.keep K114) hml rfl [] [(.int (Int32.ofNat rn_67))] own_pd5 rfl rfl 1 rfl (by decide) (hb hby at_496) fun T120 L120 v120 X120 hQ120 => ?_
            obtain ⟨rfl, Nq120, q120⟩ := hQ120
            have N120 := Fr.app N119 Nq120
            refine o_icmpNo X120 hx (hb hby at_499) (teq (rfl : (Int32.ofNat rn_67) = (Int32.ofNat rn_67))).2 <| o_iconst X120 hx 1 (hb hby at_502) rfl <| o_goto X120 hx 507 (hb hby at_503) rfl ?_
            exact oendSN X120 hx hlk hret (by simp) (y := (1 : Int32)) rfl (hb hby at_507) (by decide) q120 hS114 (Nat.le_refl _) hZ114 hEL hs0 (CHr.trans CR87 C114) ⟨rfl, N120, (KR87.trans K114 all0)⟩
          · obtain ⟨k1, fg0, fg1, l1_⟩ := own_fin2 hW e
            refine o_aload X107 hx (hb hby at_382) rfl rfl <| o_iconst X107 hx 0 (hb hby at_384) rfl <| o_iconst X107 hx 0 (hb hby at_385) rfl <| o_iload X107 hx (hb hby at_386) rfl <| o_icmpNo X107 hx (hb hby at_388) (tlt (by rw [e]; decide)).2.1 <| o_iconst X107 hx 1 (hb hby at_391) rfl <| o_goto X107 hx 396 (hb hby at_392) rfl <| o_aload X107 hx (hb hby at_396) rfl rfl <| o_iconst X107 hx 0 (hb hby at_398) rfl <| o_cal X107 hx hZ67 e107 c102 ⟨by decide, by decide⟩ (v := (.int t0)) rfl (hb hby at_399) <| o_iload X107 hx (hb hby at_400) rfl <| o_iconst X107 hx 0 (hb hby at_402) rfl <| o_cSS X107 hx hZ67 hown67 (rm_stp1 hw rn_67 0 t0 c0 (0 : Int32) SB (((c44.ext E43).keep K46 (allS n0_b43 all0)).keep K67 all0) p67_2 p67_3 p67_4 p67_5 (by omega) (by omega)) w325 w326 w5 w327 (by decide) e107 hS67 (Nat.le_refl _) hEL H84 hml rfl [(.ref r_67), (.int (0 : Int32)), (.int (1 : Int32)), (.int t0), (.int c0), (.int (0 : Int32))] [] own_pd57 rfl rfl 0 rfl (by decide) (hb hby at_403) fun T121 L121 v121 X121 hS121 hZ121 hown121 C121 hQ121 => ?_
            obtain ⟨rfl, Nq121, K121⟩ := hQ121
            have N121 := Fr.app N107 Nq121
            have H122 := C121.1
            rw [fg0]
            refine o_istore X121 hx (l' := #[vl i_, .second, vi j_, vi k_, vi nn, vr b1, vi mA, vi xA, vi yA, vi mB, vi xB, vi yB, vr r_16, vr b22, vr b43, vr r_67, vi c0, vi c1, vi c2, vi c3, vi (Int32.ofNat k1)]) (hb hby at_406) rfl <| o_aload X121 hx (hb hby at_408) rfl rfl <| o_iload X121 hx (hb hby at_410) rfl <| o_iconst X121 hx 1 (hb hby at_412) rfl <| o_iload X121 hx (hb hby at_413) rfl <| o_icmpNo X121 hx (hb hby at_415) (tlt (by rw [e]; decide)).2.1 <| o_iconst X121 hx 1 (hb hby at_418) rfl <| o_goto X121 hx 423 (hb hby at_419) rfl <| o_aload X121 hx (hb hby at_423) rfl rfl <| o_iconst X121 hx 1 (hb hby at_425) rfl <| o_cal X121 hx hZ121 rfl (c102.keep K121 nin0) ⟨by decide, by decide⟩ (v := (.int t1)) rfl (hb hby at_426) <| o_iload X121 hx (hb hby at_427) rfl <| o_iload X121 hx (hb hby at_429) rfl ?_
            have c124 := ((((c44.ext E43).keep K46 (allS n0_b43 all0)).keep K67 all0).keep K121 all0)
            refine o_cSS X121 hx hZ121 hown121 (rm_stp1 hw rn_67 k1 t1 c1 c0 SB c124 (p67_2.keep K121) (p67_3.keep K121 nin0) (p67_4.keep K121 nin0) (p67_5.keep K121 nin0) (by omega) (by omega)) w325 w326 w5 w327 (by decide) rfl hS121 (Nat.le_refl _) hEL H122 hml rfl [(.ref r_67), (.int (Int32.ofNat k1)), (.int (1 : Int32)), (.int t1), (.int c1), (.int c0)] [] own_pd57 rfl rfl 0 rfl (by decide) (hb hby at_431) fun T123 L123 v123 X123 hS123 hZ123 hown123 C123 hQ123 => ?_
            obtain ⟨rfl, Nq123, K123⟩ := hQ123
            have N123 := Fr.app N121 Nq123
            have H125 := C123.1
            rw [fg1]
            refine o_istore X123 hx (l' := #[vl i_, .second, vi j_, vi k_, vi nn, vr b1, vi mA, vi xA, vi yA, vi mB, vi xB, vi yB, vr r_16, vr b22, vr b43, vr r_67, vi c0, vi c1, vi c2, vi c3, vi (Int32.ofNat rn_67)]) (hb hby at_434) rfl <| o_aload X123 hx (hb hby at_436) rfl rfl <| o_iload X123 hx (hb hby at_438) rfl <| o_iconst X123 hx 2 (hb hby at_440) rfl <| o_iload X123 hx (hb hby at_441) rfl <| o_icmpYes X123 hx 450 (hb hby at_443) (flt (by rw [e]; decide)).2.1 rfl <| o_iconst X123 hx 0 (hb hby at_450) rfl <| o_aload X123 hx (hb hby at_451) rfl rfl <| o_iconst X123 hx 2 (hb hby at_453) rfl <| o_cal X123 hx hZ123 rfl ((c102.keep K121 nin0).keep K123 nin0) ⟨by decide, by decide⟩ (v := (.int t2)) rfl (hb hby at_454) <| o_iload X123 hx (hb hby at_455) rfl <| o_iload X123 hx (hb hby at_457) rfl <| o_cS X123 hx hZ123 hown123 (rm_stp0 hw r_67 rn_67 t2 c2 c1 (c124.keep K123 all0) (by omega)) w325 w326 w5 w327 (by decide) rfl hml rfl [(.ref r_67), (.int (Int32.ofNat rn_67)), (.int (0 : Int32)), (.int t2), (.int c2), (.int c1)] [] own_pd57 rfl rfl 0 rfl (by decide) (hb hby at_459) fun T126 L126 v126 X126 hQ126 => ?_
            obtain ⟨rfl, Nq126, q126⟩ := hQ126
            have N126 := Fr.app N123 Nq126
            refine o_istore X126 hx (l' := #[vl i_, .second, vi j_, vi k_, vi nn, vr b1, vi mA, vi xA, vi yA, vi mB, vi xB, vi yB, vr r_16, vr b22, vr b43, vr r_67, vi c0, vi c1, vi c2, vi c3, vi (Int32.ofNat rn_67)]) (hb hby at_462) rfl <| o_aload X126 hx (hb hby at_464) rfl rfl <| o_iload X126 hx (hb hby at_466) rfl <| o_iconst X126 hx 3 (hb hby at_468) rfl <| o_iload X126 hx (hb hby at_469) rfl <| o_icmpYes X126 hx 478 (hb hby at_471) (flt (by rw [e]; decide)).2.1 rfl <| o_iconst X126 hx 0 (hb hby at_478) rfl <| o_aload X126 hx (hb hby at_479) rfl rfl <| o_iconst X126 hx 3 (hb hby at_481) rfl <| o_cal X126 hx hZ123 q126 ((c102.keep K121 nin0).keep K123 nin0) ⟨by decide, by decide⟩ (v := (.int t3)) rfl (hb hby at_482) <| o_iload X126 hx (hb hby at_483) rfl <| o_iload X126 hx (hb hby at_485) rfl <| o_cS X126 hx hZ123 hown123 (rm_stp0 hw r_67 rn_67 t3 c3 c2 (c124.keep K123 all0) (by omega)) w325 w326 w5 w327 (by decide) q126 hml rfl [(.ref r_67), (.int (Int32.ofNat rn_67)), (.int (0 : Int32)), (.int t3), (.int c3), (.int c2)] [] own_pd57 rfl rfl 0 rfl (by decide) (hb hby at_487) fun T127 L127 v127 X127 hQ127 => ?_
            obtain ⟨rfl, Nq127, q127⟩ := hQ127
            have N127 := Fr.app N126 Nq127
            refine o_istore X127 hx (l' := #[vl i_, .second, vi j_, vi k_, vi nn, vr b1, vi mA, vi xA, vi yA, vi mB, vi xB, vi yB, vr r_16, vr b22, vr b43, vr r_67, vi c0, vi c1, vi c2, vi c3, vi (Int32.ofNat rn_67)]) (hb hby at_490) rfl <| o_iload X127 hx (hb hby at_492) rfl <| o_aload X127 hx (hb hby at_494) rfl rfl <| o_cv X127 hx hZ123 hown123 (rm_slen hw rn_67 SB (c124.keep K123 all0) ((p67_2.keep K121).keep K123) ((p67_3.keep K121 nin0).keep K123 nin0) ((p67_4.keep K121 nin0).keep K123 nin0) ((p67_5.keep K121 nin0).keep K123 nin0)) w328 w165 w167 w166 w12 w168 (by decide) q127 ((p67_2.keep K121).keep K123) hml rfl [] [(.int (Int32.ofNat rn_67))] own_pd5 rfl rfl 1 rfl (by decide) (hb hby at_496) fun T128 L128 v128 X128 hQ128 => ?_
            obtain ⟨rfl, Nq128, q128⟩ := hQ128
            have N128 := Fr.app N127 Nq128
            refine o_icmpNo X128 hx (hb hby at_499) (teq (rfl : (Int32.ofNat rn_67) = (Int32.ofNat rn_67))).2 <| o_iconst X128 hx 1 (hb hby at_502) rfl <| o_goto X128 hx 507 (hb hby at_503) rfl ?_
            exact oendSN X128 hx hlk hret (by simp) (y := (1 : Int32)) rfl (hb hby at_507) (by decide) q128 hS123 (Nat.le_refl _) hZ123 hEL hs0 (CHr.trans (CHr.trans CR87 C121) C123) ⟨rfl, N128, ((KR87.trans K121 all0).trans K123 all0)⟩
          · obtain ⟨k1, k2, fg0, fg1, fg2, l1_, l2_⟩ := own_fin3 hW e
            refine o_aload X107 hx (hb hby at_382) rfl rfl <| o_iconst X107 hx 0 (hb hby at_384) rfl <| o_iconst X107 hx 0 (hb hby at_385) rfl <| o_iload X107 hx (hb hby at_386) rfl <| o_icmpNo X107 hx (hb hby at_388) (tlt (by rw [e]; decide)).2.1 <| o_iconst X107 hx 1 (hb hby at_391) rfl <| o_goto X107 hx 396 (hb hby at_392) rfl <| o_aload X107 hx (hb hby at_396) rfl rfl <| o_iconst X107 hx 0 (hb hby at_398) rfl <| o_cal X107 hx hZ67 e107 c102 ⟨by decide, by decide⟩ (v := (.int t0)) rfl (hb hby at_399) <| o_iload X107 hx (hb hby at_400) rfl <| o_iconst X107 hx 0 (hb hby at_402) rfl <| o_cSS X107 hx hZ67 hown67 (rm_stp1 hw rn_67 0 t0 c0 (0 : Int32) SB (((c44.ext E43).keep K46 (allS n0_b43 all0)).keep K67 all0) p67_2 p67_3 p67_4 p67_5 (by omega) (by omega)) w325 w326 w5 w327 (by decide) e107 hS67 (Nat.le_refl _) hEL H84 hml rfl [(.ref r_67), (.int (0 : Int32)), (.int (1 : Int32)), (.int t0), (.int c0), (.int (0 : Int32))] [] own_pd57 rfl rfl 0 rfl (by decide) (hb hby at_403) fun T129 L129 v129 X129 hS129 hZ129 hown129 C129 hQ129 => ?_
            obtain ⟨rfl, Nq129, K129⟩ := hQ129
            have N129 := Fr.app N107 Nq129
            have H130 := C129.1
            rw [fg0]
            refine o_istore X129 hx (l' := #[vl i_, .second, vi j_, vi k_, vi nn, vr b1, vi mA, vi xA, vi yA, vi mB, vi xB, vi yB, vr r_16, vr b22, vr b43, vr r_67, vi c0, vi c1, vi c2, vi c3, vi (Int32.ofNat k1)]) (hb hby at_406) rfl <| o_aload X129 hx (hb hby at_408) rfl rfl <| o_iload X129 hx (hb hby at_410) rfl <| o_iconst X129 hx 1 (hb hby at_412) rfl <| o_iload X129 hx (hb hby at_413) rfl <| o_icmpNo X129 hx (hb hby at_415) (tlt (by rw [e]; decide)).2.1 <| o_iconst X129 hx 1 (hb hby at_418) rfl <| o_goto X129 hx 423 (hb hby at_419) rfl <| o_aload X129 hx (hb hby at_423) rfl rfl <| o_iconst X129 hx 1 (hb hby at_425) rfl <| o_cal X129 hx hZ129 rfl (c102.keep K129 nin0) ⟨by decide, by decide⟩ (v := (.int t1)) rfl (hb hby at_426) <| o_iload X129 hx (hb hby at_427) rfl <| o_iload X129 hx (hb hby at_429) rfl ?_
            have c132 := ((((c44.ext E43).keep K46 (allS n0_b43 all0)).keep K67 all0).keep K129 all0)
            refine o_cSS X129 hx hZ129 hown129 (rm_stp1 hw rn_67 k1 t1 c1 c0 SB c132 (p67_2.keep K129) (p67_3.keep K129 nin0) (p67_4.keep K129 nin0) (p67_5.keep K129 nin0) (by omega) (by omega)) w325 w326 w5 w327 (by decide) rfl hS129 (Nat.le_refl _) hEL H130 hml rfl [(.ref r_67), (.int (Int32.ofNat k1)), (.int (1 : Int32)), (.int t1), (.int c1), (.int c0)] [] own_pd57 rfl rfl 0 rfl (by decide) (hb hby at_431) fun T131 L131 v131 X131 hS131 hZ131 hown131 C131 hQ131 => ?_
            obtain ⟨rfl, Nq131, K131⟩ := hQ131
            have N131 := Fr.app N129 Nq131
            have H133 := C131.1
            rw [fg1]
            refine o_istore X131 hx (l' := #[vl i_, .second, vi j_, vi k_, vi nn, vr b1, vi mA, vi xA, vi yA, vi mB, vi xB, vi yB, vr r_16, vr b22, vr b43, vr r_67, vi c0, vi c1, vi c2, vi c3, vi (Int32.ofNat k2)]) (hb hby at_434) rfl <| o_aload X131 hx (hb hby at_436) rfl rfl <| o_iload X131 hx (hb hby at_438) rfl <| o_iconst X131 hx 2 (hb hby at_440) rfl <| o_iload X131 hx (hb hby at_441) rfl <| o_icmpNo X131 hx (hb hby at_443) (tlt (by rw [e]; decide)).2.1 <| o_iconst X131 hx 1 (hb hby at_446) rfl <| o_goto X131 hx 451 (hb hby at_447) rfl <| o_aload X131 hx (hb hby at_451) rfl rfl <| o_iconst X131 hx 2 (hb hby at_453) rfl <| o_cal X131 hx hZ131 rfl ((c102.keep K129 nin0).keep K131 nin0) ⟨by decide, by decide⟩ (v := (.int t2)) rfl (hb hby at_454) <| o_iload X131 hx (hb hby at_455) rfl <| o_iload X131 hx (hb hby at_457) rfl <| o_cSS X131 hx hZ131 hown131 (rm_stp1 hw rn_67 k2 t2 c2 c1 SB (c132.keep K131 all0) ((p67_2.keep K129).keep K131) ((p67_3.keep K129 nin0).keep K131 nin0) ((p67_4.keep K129 nin0).keep K131 nin0) ((p67_5.keep K129 nin0).keep K131 nin0) (by omega) (by omega)) w325 w326 w5 w327 (by decide) rfl hS131 (Nat.le_refl _) hEL H133 hml rfl [(.ref r_67), (.int (Int32.ofNat k2)), (.int (1 : Int32)), (.int t2), (.int c2), (.int c1)] [] own_pd57 rfl rfl 0 rfl (by decide) (hb hby at_459) fun T134 L134 v134 X134 hS134 hZ134 hown134 C134 hQ134 => ?_
            obtain ⟨rfl, Nq134, K134⟩ := hQ134
            have N134 := Fr.app N131 Nq134
            have H135 := C134.1
            rw [fg2]
            refine o_istore X134 hx (l' := #[vl i_, .second, vi j_, vi k_, vi nn, vr b1, vi mA, vi xA, vi yA, vi mB, vi xB, vi yB, vr r_16, vr b22, vr b43, vr r_67, vi c0, vi c1, vi c2, vi c3, vi (Int32.ofNat rn_67)]) (hb hby at_462) rfl <| o_aload X134 hx (hb hby at_464) rfl rfl <| o_iload X134 hx (hb hby at_466) rfl <| o_iconst X134 hx 3 (hb hby at_468) rfl <| o_iload X134 hx (hb hby at_469) rfl <| o_icmpYes X134 hx 478 (hb hby at_471) (flt (by rw [e]; decide)).2.1 rfl <| o_iconst X134 hx 0 (hb hby at_478) rfl <| o_aload X134 hx (hb hby at_479) rfl rfl <| o_iconst X134 hx 3 (hb hby at_481) rfl <| o_cal X134 hx hZ134 rfl (((c102.keep K129 nin0).keep K131 nin0).keep K134 nin0) ⟨by decide, by decide⟩ (v := (.int t3)) rfl (hb hby at_482) <| o_iload X134 hx (hb hby at_483) rfl <| o_iload X134 hx (hb hby at_485) rfl <| o_cS X134 hx hZ134 hown134 (rm_stp0 hw r_67 rn_67 t3 c3 c2 ((c132.keep K131 all0).keep K134 all0) (by omega)) w325 w326 w5 w327 (by decide) rfl hml rfl [(.ref r_67), (.int (Int32.ofNat rn_67)), (.int (0 : Int32)), (.int t3), (.int c3), (.int c2)] [] own_pd57 rfl rfl 0 rfl (by decide) (hb hby at_487) fun T136 L136 v136 X136 hQ136 => ?_
            obtain ⟨rfl, Nq136, q136⟩ := hQ136
            have N136 := Fr.app N134 Nq136
            refine o_istore X136 hx (l' := #[vl i_, .second, vi j_, vi k_, vi nn, vr b1, vi mA, vi xA, vi yA, vi mB, vi xB, vi yB, vr r_16, vr b22, vr b43, vr r_67, vi c0, vi c1, vi c2, vi c3, vi (Int32.ofNat rn_67)]) (hb hby at_490) rfl <| o_iload X136 hx (hb hby at_492) rfl <| o_aload X136 hx (hb hby at_494) rfl rfl <| o_cv X136 hx hZ134 hown134 (rm_slen hw rn_67 SB ((c132.keep K131 all0).keep K134 all0) (((p67_2.keep K129).keep K131).keep K134) (((p67_3.keep K129 nin0).keep K131 nin0).keep K134 nin0) (((p67_4.keep K129 nin0).keep K131 nin0).keep K134 nin0) (((p67_5.keep K129 nin0).keep K131 nin0).keep K134 nin0)) w328 w165 w167 w166 w12 w168 (by decide) q136 (((p67_2.keep K129).keep K131).keep K134) hml rfl [] [(.int (Int32.ofNat rn_67))] own_pd5 rfl rfl 1 rfl (by decide) (hb hby at_496) fun T137 L137 v137 X137 hQ137 => ?_
            obtain ⟨rfl, Nq137, q137⟩ := hQ137
            have N137 := Fr.app N136 Nq137
            refine o_icmpNo X137 hx (hb hby at_499) (teq (rfl : (Int32.ofNat rn_67) = (Int32.ofNat rn_67))).2 <| o_iconst X137 hx 1 (hb hby at_502) rfl <| o_goto X137 hx 507 (hb hby at_503) rfl ?_
            exact oendSN X137 hx hlk hret (by simp) (y := (1 : Int32)) rfl (hb hby at_507) (by decide) q137 hS134 (Nat.le_refl _) hZ134 hEL hs0 (CHr.trans (CHr.trans (CHr.trans CR87 C129) C131) C134) ⟨rfl, N137, (((KR87.trans K129 all0).trans K131 all0).trans K134 all0)⟩
          · obtain ⟨k1, k2, k3, fg0, fg1, fg2, fg3, l1_, l2_, l3_⟩ := own_fin4 hW e
            refine o_aload X107 hx (hb hby at_382) rfl rfl <| o_iconst X107 hx 0 (hb hby at_384) rfl <| o_iconst X107 hx 0 (hb hby at_385) rfl <| o_iload X107 hx (hb hby at_386) rfl <| o_icmpNo X107 hx (hb hby at_388) (tlt (by rw [e]; decide)).2.1 <| o_iconst X107 hx 1 (hb hby at_391) rfl <| o_goto X107 hx 396 (hb hby at_392) rfl <| o_aload X107 hx (hb hby at_396) rfl rfl <| o_iconst X107 hx 0 (hb hby at_398) rfl <| o_cal X107 hx hZ67 e107 c102 ⟨by decide, by decide⟩ (v := (.int t0)) rfl (hb hby at_399) <| o_iload X107 hx (hb hby at_400) rfl <| o_iconst X107 hx 0 (hb hby at_402) rfl <| o_cSS X107 hx hZ67 hown67 (rm_stp1 hw rn_67 0 t0 c0 (0 : Int32) SB (((c44.ext E43).keep K46 (allS n0_b43 all0)).keep K67 all0) p67_2 p67_3 p67_4 p67_5 (by omega) (by omega)) w325 w326 w5 w327 (by decide) e107 hS67 (Nat.le_refl _) hEL H84 hml rfl [(.ref r_67), (.int (0 : Int32)), (.int (1 : Int32)), (.int t0), (.int c0), (.int (0 : Int32))] [] own_pd57 rfl rfl 0 rfl (by decide) (hb hby at_403) fun T138 L138 v138 X138 hS138 hZ138 hown138 C138 hQ138 => ?_
            obtain ⟨rfl, Nq138, K138⟩ := hQ138
            have N138 := Fr.app N107 Nq138
            have H139 := C138.1
            rw [fg0]
            refine o_istore X138 hx (l' := #[vl i_, .second, vi j_, vi k_, vi nn, vr b1, vi mA, vi xA, vi yA, vi mB, vi xB, vi yB, vr r_16, vr b22, vr b43, vr r_67, vi c0, vi c1, vi c2, vi c3, vi (Int32.ofNat k1)]) (hb hby at_406) rfl <| o_aload X138 hx (hb hby at_408) rfl rfl <| o_iload X138 hx (hb hby at_410) rfl <| o_iconst X138 hx 1 (hb hby at_412) rfl <| o_iload X138 hx (hb hby at_413) rfl <| o_icmpNo X138 hx (hb hby at_415) (tlt (by rw [e]; decide)).2.1 <| o_iconst X138 hx 1 (hb hby at_418) rfl <| o_goto X138 hx 423 (hb hby at_419) rfl <| o_aload X138 hx (hb hby at_423) rfl rfl <| o_iconst X138 hx 1 (hb hby at_425) rfl <| o_cal X138 hx hZ138 rfl (c102.keep K138 nin0) ⟨by decide, by decide⟩ (v := (.int t1)) rfl (hb hby at_426) <| o_iload X138 hx (hb hby at_427) rfl <| o_iload X138 hx (hb hby at_429) rfl ?_
            have c141 := ((((c44.ext E43).keep K46 (allS n0_b43 all0)).keep K67 all0).keep K138 all0)
            refine o_cSS X138 hx hZ138 hown138 (rm_stp1 hw rn_67 k1 t1 c1 c0 SB c141 (p67_2.keep K138) (p67_3.keep K138 nin0) (p67_4.keep K138 nin0) (p67_5.keep K138 nin0) (by omega) (by omega)) w325 w326 w5 w327 (by decide) rfl hS138 (Nat.le_refl _) hEL H139 hml rfl [(.ref r_67), (.int (Int32.ofNat k1)), (.int (1 : Int32)), (.int t1), (.int c1), (.int c0)] [] own_pd57 rfl rfl 0 rfl (by decide) (hb hby at_431) fun T140 L140 v140 X140 hS140 hZ140 hown140 C140 hQ140 => ?_
            obtain ⟨rfl, Nq140, K140⟩ := hQ140
            have N140 := Fr.app N138 Nq140
            have H142 := C140.1
            rw [fg1]
            refine o_istore X140 hx (l' := #[vl i_, .second, vi j_, vi k_, vi nn, vr b1, vi mA, vi xA, vi yA, vi mB, vi xB, vi yB, vr r_16, vr b22, vr b43, vr r_67, vi c0, vi c1, vi c2, vi c3, vi (Int32.ofNat k2)]) (hb hby at_434) rfl <| o_aload X140 hx (hb hby at_436) rfl rfl <| o_iload X140 hx (hb hby at_438) rfl <| o_iconst X140 hx 2 (hb hby at_440) rfl <| o_iload X140 hx (hb hby at_441) rfl <| o_icmpNo X140 hx (hb hby at_443) (tlt (by rw [e]; decide)).2.1 <| o_iconst X140 hx 1 (hb hby at_446) rfl <| o_goto X140 hx 451 (hb hby at_447) rfl <| o_aload X140 hx (hb hby at_451) rfl rfl <| o_iconst X140 hx 2 (hb hby at_453) rfl <| o_cal X140 hx hZ140 rfl ((c102.keep K138 nin0).keep K140 nin0) ⟨by decide, by decide⟩ (v := (.int t2)) rfl (hb hby at_454) <| o_iload X140 hx (hb hby at_455) rfl <| o_iload X140 hx (hb hby at_457) rfl <| o_cSS X140 hx hZ140 hown140 (rm_stp1 hw rn_67 k2 t2 c2 c1 SB (c141.keep K140 all0) ((p67_2.keep K138).keep K140) ((p67_3.keep K138 nin0).keep K140 nin0) ((p67_4.keep K138 nin0).keep K140 nin0) ((p67_5.keep K138 nin0).keep K140 nin0) (by omega) (by omega)) w325 w326 w5 w327 (by decide) rfl hS140 (Nat.le_refl _) hEL H142 hml rfl [(.ref r_67), (.int (Int32.ofNat k2)), (.int (1 : Int32)), (.int t2), (.int c2), (.int c1)] [] own_pd57 rfl rfl 0 rfl (by decide) (hb hby at_459) fun T143 L143 v143 X143 hS143 hZ143 hown143 C143 hQ143 => ?_
            obtain ⟨rfl, Nq143, K143⟩ := hQ143
            have N143 := Fr.app N140 Nq143
            have H144 := C143.1
            rw [fg2]
            refine o_istore X143 hx (l' := #[vl i_, .second, vi j_, vi k_, vi nn, vr b1, vi mA, vi xA, vi yA, vi mB, vi xB, vi yB, vr r_16, vr b22, vr b43, vr r_67, vi c0, vi c1, vi c2, vi c3, vi (Int32.ofNat k3)]) (hb hby at_462) rfl <| o_aload X143 hx (hb hby at_464) rfl rfl <| o_iload X143 hx (hb hby at_466) rfl <| o_iconst X143 hx 3 (hb hby at_468) rfl <| o_iload X143 hx (hb hby at_469) rfl <| o_icmpNo X143 hx (hb hby at_471) (tlt (by rw [e]; decide)).2.1 <| o_iconst X143 hx 1 (hb hby at_474) rfl <| o_goto X143 hx 479 (hb hby at_475) rfl <| o_aload X143 hx (hb hby at_479) rfl rfl <| o_iconst X143 hx 3 (hb hby at_481) rfl <| o_cal X143 hx hZ143 rfl (((c102.keep K138 nin0).keep K140 nin0).keep K143 nin0) ⟨by decide, by decide⟩ (v := (.int t3)) rfl (hb hby at_482) <| o_iload X143 hx (hb hby at_483) rfl <| o_iload X143 hx (hb hby at_485) rfl <| o_cSS X143 hx hZ143 hown143 (rm_stp1 hw rn_67 k3 t3 c3 c2 SB ((c141.keep K140 all0).keep K143 all0) (((p67_2.keep K138).keep K140).keep K143) (((p67_3.keep K138 nin0).keep K140 nin0).keep K143 nin0) (((p67_4.keep K138 nin0).keep K140 nin0).keep K143 nin0) (((p67_5.keep K138 nin0).keep K140 nin0).keep K143 nin0) (by omega) (by omega)) w325 w326 w5 w327 (by decide) rfl hS143 (Nat.le_refl _) hEL H144 hml rfl [(.ref r_67), (.int (Int32.ofNat k3)), (.int (1 : Int32)), (.int t3), (.int c3), (.int c2)] [] own_pd57 rfl rfl 0 rfl (by decide) (hb hby at_487) fun T145 L145 v145 X145 hS145 hZ145 hown145 C145 hQ145 => ?_
            obtain ⟨rfl, Nq145, K145⟩ := hQ145
            have N145 := Fr.app N143 Nq145
            have H146 := C145.1
            rw [fg3]
            refine o_istore X145 hx (l' := #[vl i_, .second, vi j_, vi k_, vi nn, vr b1, vi mA, vi xA, vi yA, vi mB, vi xB, vi yB, vr r_16, vr b22, vr b43, vr r_67, vi c0, vi c1, vi c2, vi c3, vi (Int32.ofNat rn_67)]) (hb hby at_490) rfl <| o_iload X145 hx (hb hby at_492) rfl <| o_aload X145 hx (hb hby at_494) rfl rfl ?_
            have c148 := ((((p67_3.keep K138 nin0).keep K140 nin0).keep K143 nin0).keep K145 nin0)
            have c149 := ((((p67_4.keep K138 nin0).keep K140 nin0).keep K143 nin0).keep K145 nin0)
            have c150 := ((((p67_5.keep K138 nin0).keep K140 nin0).keep K143 nin0).keep K145 nin0)
            refine o_cv X145 hx hZ145 hown145 (rm_slen hw rn_67 SB (((c141.keep K140 all0).keep K143 all0).keep K145 all0) ((((p67_2.keep K138).keep K140).keep K143).keep K145) c148 c149 c150) w328 w165 w167 w166 w12 w168 (by decide) rfl ((((p67_2.keep K138).keep K140).keep K143).keep K145) hml rfl [] [(.int (Int32.ofNat rn_67))] own_pd5 rfl rfl 1 rfl (by decide) (hb hby at_496) fun T147 L147 v147 X147 hQ147 => ?_
            obtain ⟨rfl, Nq147, q147⟩ := hQ147
            have N147 := Fr.app N145 Nq147
            refine o_icmpNo X147 hx (hb hby at_499) (teq (rfl : (Int32.ofNat rn_67) = (Int32.ofNat rn_67))).2 <| o_iconst X147 hx 1 (hb hby at_502) rfl <| o_goto X147 hx 507 (hb hby at_503) rfl ?_
            exact oendSN X147 hx hlk hret (by simp) (y := (1 : Int32)) rfl (hb hby at_507) (by decide) q147 hS145 (Nat.le_refl _) hZ145 hEL hs0 (CHr.trans (CHr.trans (CHr.trans (CHr.trans CR87 C138) C140) C143) C145) ⟨rfl, N147, ((((KR87.trans K138 all0).trans K140 all0).trans K143 all0).trans K145 all0)⟩
        refine o_aload X106 hx (hb hby at_341) rfl rfl <| o_iload X106 hx (hb hby at_343) rfl <| o_iconst X106 hx 3 (hb hby at_345) rfl <| o_iload X106 hx (hb hby at_346) rfl <| o_iload X106 hx (hb hby at_348) rfl <| o_iload X106 hx (hb hby at_350) rfl <| o_cS X106 hx hZ67 hown67 (rm_cvx hw 3 nn xA yA mA (((c44.ext E43).keep K46 (allS n0_b43 all0)).keep K67 all0) Vt rfl (by decide) h4n) w322 w323 w5 w324 (by decide) e106 hml rfl [(.ref b1), (.int nn), (.int (3 : Int32)), (.int xA), (.int yA), (.int mA)] [] own_pd58 rfl rfl 0 rfl (by decide) (hb hby at_352) fun T151 L151 v151 X151 hQ151 => ?_
        obtain ⟨rfl, Nq151, q151⟩ := hQ151
        have N151 := Fr.app N106 Nq151
        by_cases hc153 : (own_cov t2 t3 (0 : Int32) (3 : Int32) (4 : Int32) nn xA yA mA) = (0 : Int32)
        · refine o_ifNo X151 hx (hb hby at_355) (teq hc153).2 <| o_aload X151 hx (hb hby at_358) rfl rfl <| o_iload X151 hx (hb hby at_360) rfl <| o_iconst X151 hx 3 (hb hby at_362) rfl <| o_iload X151 hx (hb hby at_363) rfl <| o_iload X151 hx (hb hby at_365) rfl <| o_iload X151 hx (hb hby at_367) rfl <| o_cS X151 hx hZ67 hown67 (rm_cvx hw 3 nn xB yB mB (((c44.ext E43).keep K46 (allS n0_b43 all0)).keep K67 all0) Vt rfl (by decide) h4n) w322 w323 w5 w324 (by decide) q151 hml rfl [(.ref b1), (.int nn), (.int (3 : Int32)), (.int xB), (.int yB), (.int mB)] [] own_pd58 rfl rfl 0 rfl (by decide) (hb hby at_369) fun T154 L154 v154 X154 hQ154 => ?_
          obtain ⟨rfl, Nq154, q154⟩ := hQ154
          have N154 := Fr.app N151 Nq154
          by_cases hc156 : (own_cov t2 t3 (0 : Int32) (3 : Int32) (4 : Int32) nn xB yB mB) = (0 : Int32)
          · refine o_ifYes X154 hx 379 (hb hby at_372) (teq hc156).1 rfl <| o_iconst X154 hx 0 (hb hby at_379) rfl <| o_istore X154 hx (l' := #[vl i_, .second, vi j_, vi k_, vi nn, vr b1, vi mA, vi xA, vi yA, vi mB, vi xB, vi yB, vr r_16, vr b22, vr b43, vr r_67, vi c0, vi c1, vi c2, vi (0 : Int32), .unset]) (hb hby at_380) rfl ?_
            exact J382 _ _ _ (X154.more (by decide) (by decide)) N154 q154 (by simp [own_or, hc153, hc156])
          · refine o_ifNo X154 hx (hb hby at_372) (feq hc156).1 <| o_iconst X154 hx 1 (hb hby at_375) rfl <| o_goto X154 hx 380 (hb hby at_376) rfl <| o_istore X154 hx (l' := #[vl i_, .second, vi j_, vi k_, vi nn, vr b1, vi mA, vi xA, vi yA, vi mB, vi xB, vi yB, vr r_16, vr b22, vr b43, vr r_67, vi c0, vi c1, vi c2, vi (1 : Int32), .unset]) (hb hby at_380) rfl ?_
            exact J382 _ _ _ (X154.more (by decide) (by decide)) N154 q154 (by simp [own_or, hc153, hc156])
        · refine o_ifYes X151 hx 375 (hb hby at_355) (feq hc153).2 rfl <| o_iconst X151 hx 1 (hb hby at_375) rfl <| o_goto X151 hx 380 (hb hby at_376) rfl <| o_istore X151 hx (l' := #[vl i_, .second, vi j_, vi k_, vi nn, vr b1, vi mA, vi xA, vi yA, vi mB, vi xB, vi yB, vr r_16, vr b22, vr b43, vr r_67, vi c0, vi c1, vi c2, vi (1 : Int32), .unset]) (hb hby at_380) rfl ?_
          exact J382 _ _ _ (X151.more (by decide) (by decide)) N151 q151 (by simp [own_or, hc153])
      refine o_aload X105 hx (hb hby at_300) rfl rfl <| o_iload X105 hx (hb hby at_302) rfl <| o_iconst X105 hx 2 (hb hby at_304) rfl <| o_iload X105 hx (hb hby at_305) rfl <| o_iload X105 hx (hb hby at_307) rfl <| o_iload X105 hx (hb hby at_309) rfl <| o_cS X105 hx hZ67 hown67 (rm_cvx hw 2 nn xA yA mA (((c44.ext E43).keep K46 (allS n0_b43 all0)).keep K67 all0) Vt rfl (by decide) h4n) w322 w323 w5 w324 (by decide) e105 hml rfl [(.ref b1), (.int nn), (.int (2 : Int32)), (.int xA), (.int yA), (.int mA)] [] own_pd58 rfl rfl 0 rfl (by decide) (hb hby at_311) fun T157 L157 v157 X157 hQ157 => ?_
      obtain ⟨rfl, Nq157, q157⟩ := hQ157
      have N157 := Fr.app N105 Nq157
      by_cases hc159 : (own_cov t1 t2 t3 (2 : Int32) (3 : Int32) nn xA yA mA) = (0 : Int32)
      · refine o_ifNo X157 hx (hb hby at_314) (teq hc159).2 <| o_aload X157 hx (hb hby at_317) rfl rfl <| o_iload X157 hx (hb hby at_319) rfl <| o_iconst X157 hx 2 (hb hby at_321) rfl <| o_iload X157 hx (hb hby at_322) rfl <| o_iload X157 hx (hb hby at_324) rfl <| o_iload X157 hx (hb hby at_326) rfl <| o_cS X157 hx hZ67 hown67 (rm_cvx hw 2 nn xB yB mB (((c44.ext E43).keep K46 (allS n0_b43 all0)).keep K67 all0) Vt rfl (by decide) h4n) w322 w323 w5 w324 (by decide) q157 hml rfl [(.ref b1), (.int nn), (.int (2 : Int32)), (.int xB), (.int yB), (.int mB)] [] own_pd58 rfl rfl 0 rfl (by decide) (hb hby at_328) fun T160 L160 v160 X160 hQ160 => ?_
        obtain ⟨rfl, Nq160, q160⟩ := hQ160
        have N160 := Fr.app N157 Nq160
        by_cases hc162 : (own_cov t1 t2 t3 (2 : Int32) (3 : Int32) nn xB yB mB) = (0 : Int32)
        · refine o_ifYes X160 hx 338 (hb hby at_331) (teq hc162).1 rfl <| o_iconst X160 hx 0 (hb hby at_338) rfl <| o_istore X160 hx (l' := #[vl i_, .second, vi j_, vi k_, vi nn, vr b1, vi mA, vi xA, vi yA, vi mB, vi xB, vi yB, vr r_16, vr b22, vr b43, vr r_67, vi c0, vi c1, vi (0 : Int32), .unset, .unset]) (hb hby at_339) rfl ?_
          exact J341 _ _ _ (X160.more (by decide) (by decide)) N160 q160 (by simp [own_or, hc159, hc162])
        · refine o_ifNo X160 hx (hb hby at_331) (feq hc162).1 <| o_iconst X160 hx 1 (hb hby at_334) rfl <| o_goto X160 hx 339 (hb hby at_335) rfl <| o_istore X160 hx (l' := #[vl i_, .second, vi j_, vi k_, vi nn, vr b1, vi mA, vi xA, vi yA, vi mB, vi xB, vi yB, vr r_16, vr b22, vr b43, vr r_67, vi c0, vi c1, vi (1 : Int32), .unset, .unset]) (hb hby at_339) rfl ?_
          exact J341 _ _ _ (X160.more (by decide) (by decide)) N160 q160 (by simp [own_or, hc159, hc162])
      · refine o_ifYes X157 hx 334 (hb hby at_314) (feq hc159).2 rfl <| o_iconst X157 hx 1 (hb hby at_334) rfl <| o_goto X157 hx 339 (hb hby at_335) rfl <| o_istore X157 hx (l' := #[vl i_, .second, vi j_, vi k_, vi nn, vr b1, vi mA, vi xA, vi yA, vi mB, vi xB, vi yB, vr r_16, vr b22, vr b43, vr r_67, vi c0, vi c1, vi (1 : Int32), .unset, .unset]) (hb hby at_339) rfl ?_
        exact J341 _ _ _ (X157.more (by decide) (by decide)) N157 q157 (by simp [own_or, hc159])
    refine o_aload X104 hx (hb hby at_259) rfl rfl <| o_iload X104 hx (hb hby at_261) rfl <| o_iconst X104 hx 1 (hb hby at_263) rfl <| o_iload X104 hx (hb hby at_264) rfl <| o_iload X104 hx (hb hby at_266) rfl <| o_iload X104 hx (hb hby at_268) rfl <| o_cS X104 hx hZ67 hown67 (rm_cvx hw 1 nn xA yA mA (((c44.ext E43).keep K46 (allS n0_b43 all0)).keep K67 all0) Vt rfl (by decide) h4n) w322 w323 w5 w324 (by decide) e104 hml rfl [(.ref b1), (.int nn), (.int (1 : Int32)), (.int xA), (.int yA), (.int mA)] [] own_pd58 rfl rfl 0 rfl (by decide) (hb hby at_270) fun T163 L163 v163 X163 hQ163 => ?_
    obtain ⟨rfl, Nq163, q163⟩ := hQ163
    have N163 := Fr.app N104 Nq163
    by_cases hc165 : (own_cov t0 t1 t2 (1 : Int32) (2 : Int32) nn xA yA mA) = (0 : Int32)
    · refine o_ifNo X163 hx (hb hby at_273) (teq hc165).2 <| o_aload X163 hx (hb hby at_276) rfl rfl <| o_iload X163 hx (hb hby at_278) rfl <| o_iconst X163 hx 1 (hb hby at_280) rfl <| o_iload X163 hx (hb hby at_281) rfl <| o_iload X163 hx (hb hby at_283) rfl <| o_iload X163 hx (hb hby at_285) rfl <| o_cS X163 hx hZ67 hown67 (rm_cvx hw 1 nn xB yB mB (((c44.ext E43).keep K46 (allS n0_b43 all0)).keep K67 all0) Vt rfl (by decide) h4n) w322 w323 w5 w324 (by decide) q163 hml rfl [(.ref b1), (.int nn), (.int (1 : Int32)), (.int xB), (.int yB), (.int mB)] [] own_pd58 rfl rfl 0 rfl (by decide) (hb hby at_287) fun T166 L166 v166 X166 hQ166 => ?_
      obtain ⟨rfl, Nq166, q166⟩ := hQ166
      have N166 := Fr.app N163 Nq166
      by_cases hc168 : (own_cov t0 t1 t2 (1 : Int32) (2 : Int32) nn xB yB mB) = (0 : Int32)
      · refine o_ifYes X166 hx 297 (hb hby at_290) (teq hc168).1 rfl <| o_iconst X166 hx 0 (hb hby at_297) rfl <| o_istore X166 hx (l' := #[vl i_, .second, vi j_, vi k_, vi nn, vr b1, vi mA, vi xA, vi yA, vi mB, vi xB, vi yB, vr r_16, vr b22, vr b43, vr r_67, vi c0, vi (0 : Int32), .unset, .unset, .unset]) (hb hby at_298) rfl ?_
        exact J300 _ _ _ (X166.more (by decide) (by decide)) N166 q166 (by simp [own_or, hc165, hc168])
      · refine o_ifNo X166 hx (hb hby at_290) (feq hc168).1 <| o_iconst X166 hx 1 (hb hby at_293) rfl <| o_goto X166 hx 298 (hb hby at_294) rfl <| o_istore X166 hx (l' := #[vl i_, .second, vi j_, vi k_, vi nn, vr b1, vi mA, vi xA, vi yA, vi mB, vi xB, vi yB, vr r_16, vr b22, vr b43, vr r_67, vi c0, vi (1 : Int32), .unset, .unset, .unset]) (hb hby at_298) rfl ?_
        exact J300 _ _ _ (X166.more (by decide) (by decide)) N166 q166 (by simp [own_or, hc165, hc168])
    · refine o_ifYes X163 hx 293 (hb hby at_273) (feq hc165).2 rfl <| o_iconst X163 hx 1 (hb hby at_293) rfl <| o_goto X163 hx 298 (hb hby at_294) rfl <| o_istore X163 hx (l' := #[vl i_, .second, vi j_, vi k_, vi nn, vr b1, vi mA, vi xA, vi yA, vi mB, vi xB, vi yB, vr r_16, vr b22, vr b43, vr r_67, vi c0, vi (1 : Int32), .unset, .unset, .unset]) (hb hby at_298) rfl ?_
      exact J300 _ _ _ (X163.more (by decide) (by decide)) N163 q163 (by simp [own_or, hc165])
  refine o_aload X86 hx (hb hby at_218) rfl rfl <| o_iload X86 hx (hb hby at_220) rfl <| o_iconst X86 hx 0 (hb hby at_222) rfl <| o_iload X86 hx (hb hby at_223) rfl <| o_iload X86 hx (hb hby at_225) rfl <| o_iload X86 hx (hb hby at_227) rfl <| o_cS X86 hx hZ67 hown67 (rm_cvx hw 0 nn xA yA mA (((c44.ext E43).keep K46 (allS n0_b43 all0)).keep K67 all0) Vt rfl (by decide) h4n) w322 w323 w5 w324 (by decide) q86 hml rfl [(.ref b1), (.int nn), (.int (0 : Int32)), (.int xA), (.int yA), (.int mA)] [] own_pd58 rfl rfl 0 rfl (by decide) (hb hby at_229) fun T169 L169 v169 X169 hQ169 => ?_
  obtain ⟨rfl, Nq169, q169⟩ := hQ169
  have N169 := Fr.app N86 Nq169
  by_cases hc171 : (own_cov t0 t0 t1 (0 : Int32) (1 : Int32) nn xA yA mA) = (0 : Int32)
  · refine o_ifNo X169 hx (hb hby at_232) (teq hc171).2 <| o_aload X169 hx (hb hby at_235) rfl rfl <| o_iload X169 hx (hb hby at_237) rfl <| o_iconst X169 hx 0 (hb hby at_239) rfl <| o_iload X169 hx (hb hby at_240) rfl <| o_iload X169 hx (hb hby at_242) rfl <| o_iload X169 hx (hb hby at_244) rfl <| o_cS X169 hx hZ67 hown67 (rm_cvx hw 0 nn xB yB mB (((c44.ext E43).keep K46 (allS n0_b43 all0)).keep K67 all0) Vt rfl (by decide) h4n) w322 w323 w5 w324 (by decide) q169 hml rfl [(.ref b1), (.int nn), (.int (0 : Int32)), (.int xB), (.int yB), (.int mB)] [] own_pd58 rfl rfl 0 rfl (by decide) (hb hby at_246) fun T172 L172 v172 X172 hQ172 => ?_
    obtain ⟨rfl, Nq172, q172⟩ := hQ172
    have N172 := Fr.app N169 Nq172
    by_cases hc174 : (own_cov t0 t0 t1 (0 : Int32) (1 : Int32) nn xB yB mB) = (0 : Int32)
    · refine o_ifYes X172 hx 256 (hb hby at_249) (teq hc174).1 rfl <| o_iconst X172 hx 0 (hb hby at_256) rfl <| o_istore X172 hx (l' := #[vl i_, .second, vi j_, vi k_, vi nn, vr b1, vi mA, vi xA, vi yA, vi mB, vi xB, vi yB, vr r_16, vr b22, vr b43, vr r_67, vi (0 : Int32), .unset, .unset, .unset, .unset]) (hb hby at_257) rfl ?_
      exact J259 _ _ _ (X172.more (by decide) (by decide)) N172 q172 (by simp [own_or, hc171, hc174])
    · refine o_ifNo X172 hx (hb hby at_249) (feq hc174).1 <| o_iconst X172 hx 1 (hb hby at_252) rfl <| o_goto X172 hx 257 (hb hby at_253) rfl <| o_istore X172 hx (l' := #[vl i_, .second, vi j_, vi k_, vi nn, vr b1, vi mA, vi xA, vi yA, vi mB, vi xB, vi yB, vr r_16, vr b22, vr b43, vr r_67, vi (1 : Int32), .unset, .unset, .unset, .unset]) (hb hby at_257) rfl ?_
      exact J259 _ _ _ (X172.more (by decide) (by decide)) N172 q172 (by simp [own_or, hc171, hc174])
  · refine o_ifYes X169 hx 252 (hb hby at_232) (feq hc171).2 rfl <| o_iconst X169 hx 1 (hb hby at_252) rfl <| o_goto X169 hx 257 (hb hby at_253) rfl <| o_istore X169 hx (l' := #[vl i_, .second, vi j_, vi k_, vi nn, vr b1, vi mA, vi xA, vi yA, vi mB, vi xB, vi yB, vr r_16, vr b22, vr b43, vr r_67, vi (1 : Int32), .unset, .unset, .unset, .unset]) (hb hby at_257) rfl ?_
    exact J259 _ _ _ (X169.more (by decide) (by decide)) N169 q169 (by simp [own_or, hc171])
theorem comes_1 {Post : Tables → Env → Array Value → State → Outcome → State → Prop} (hpost : ∀ tb e args s v u, (limb_1_1.after args s (.returned v) u = true ∧ limb_1_2.after args s (.returned v) u = true ∧ True) → ReturnedEndW s (.returned v) u (Jvm.fieldLocs frame_1_writes args s ++ Jvm.arrayLocs frame_1_arrays args s ++ Jvm.staticLocs frame_1_statics s) 64 3456 → Post tb e args s (.returned v) u) :
    ArmFor flags0 classFile x code maxLocals ret World_1 tables_1 room_1 Calls_1 rest_1 Pre_1 Post := by
  intro l hfl _ _ p e ha hc hk s m args below hf hA hF happ hP
  obtain ⟨hcalls, hrest, hpre⟩ := hP
  obtain ⟨-, -, -, hnamed, -, -, -, hat⟩ := (Spec.applies_iff hf).mp happ
  obtain ⟨hg, hn⟩ := and_e (Cond.before_iff.mp (show (Jvm.Cond.and given_1 narrow_1).before args s = true from hpre))
  obtain ⟨g0, gr0⟩ := and_e hg
  obtain ⟨g1, gr1⟩ := and_e gr0
  obtain ⟨g2, gr2⟩ := and_e gr1
  obtain ⟨w0, w1, w2, rfl⟩ : ∃ w0 w1 w2 : Value, args = #[w0, w1, w2] := by
    have hs : args.size = 3 := by simpa [Cond.value, given_1] using g0
    obtain ⟨L⟩ := args
    match L, hs with
    | [w0, w1, w2], _ => exact ⟨w0, w1, w2, rfl⟩
  have hw := fun d (hd : d ∈ tables_1) => atoms_spec (ws := Jvm.Cond.code x code maxLocals ret :: tables_1) hat d (List.mem_cons_of_mem _ hd)
  obtain ⟨hsets, hown0⟩ := atoms_of _ (rest_1_c_eq ▸ (show rest_1_c.before _ s = true from hrest))
  have hfit : Fit s := fun {y c} hc i hi => by
    obtain ⟨ha, rfl⟩ := Array.getElem?_eq_some_iff.mp hc
    have q := List.all_eq_true.mp ((Array.all_eq_true_iff_forall_mem.mp hF) _ (Array.getElem_mem ha)) i (List.mem_range.mpr hi)
    simpa [Array.getElem?_eq_getElem hi] using q
  obtain ⟨i0, ei0⟩ := isL_v g1
  obtain rfl : w0 = (.long i0) := Option.some.inj ei0
  obtain ⟨i1, ei1⟩ := is_v g2
  obtain rfl : w1 = (.int i1) := Option.some.inj ei1
  obtain ⟨i2, ei2⟩ := is_v gr2
  obtain rfl : w2 = (.int i2) := Option.some.inj ei2
  obtain ⟨z_CS, ev_CS⟩ := is_v (Cond.before_iff.mp (hsets _ (List.mem_of_getElem? (i := 10) rfl)))
  have n_CS := not_v (Cond.before_iff.mp (hsets _ (List.mem_of_getElem? (i := 11) rfl)))
  obtain ⟨v_FMT, ev_FMT, rf_FMT⟩ := isR_v (Cond.before_iff.mp (hsets _ (List.mem_of_getElem? (i := 17) rfl)))
  obtain ⟨s_DC, ev_DC⟩ := exa_v (Cond.before_iff.mp (hsets _ (List.mem_of_getElem? (i := 7) rfl)))
  obtain ⟨k_DC, V_DC⟩ := own_arv (dv := .null) (vs := []) hfit ev_DC (Cond.before_iff.mp (hsets _ (List.mem_of_getElem? (i := 6) rfl))) (Cond.eq_int (hsets _ (List.mem_of_getElem? (i := 8) rfl)) rfl) (by decide) rfl (fun cl hc => trivial)
  obtain ⟨v_IO, ev_IO, ft_IO⟩ := static_fit (ty := .object "java/util/function/BiFunction") hfit (hw _ (List.mem_of_getElem? (i := 247) rfl)) (by decide +kernel)
  have rf_IO : v_IO.isRef = true := by cases v_IO <;> first | rfl | cases ft_IO
  have hcw : Jvm.Lit.compactW.before _ s = true := (hsets _ (List.mem_of_getElem? (i := 11) rfl))
  have hCH : CHv s own_EL s.vm s.heap := CHv.start (own_EW hw) (fun q hq => hcalls.1 q hq) hcw (hw _ (List.mem_of_getElem? (i := 24) rfl)) (hw _ (List.mem_of_getElem? (i := 11) rfl))
  have SB : own_Start s z_CS v_FMT s_DC k_DC v_IO := ⟨(Sta.start ev_CS (Or.inl (hsets _ (List.mem_of_getElem? (i := 9) rfl)))), (gotF (Cond.eq_ints ev_CS (Term.int_eval (0))) n_CS), (Sta.start (Cond.eq_int (hsets _ (List.mem_of_getElem? (i := 20) rfl)) rfl) (Or.inl (hsets _ (List.mem_of_getElem? (i := 19) rfl)))), (Sta.start ev_FMT (Or.inl (hsets _ (List.mem_of_getElem? (i := 16) rfl)))), rf_FMT, (Sta.start ev_DC (Or.inr ⟨(hw _ (List.mem_of_getElem? (i := 33) rfl)), (hsets _ (List.mem_of_getElem? (i := 2) rfl))⟩)), (Exa.start ev_DC (Cond.before_iff.mp (hsets _ (List.mem_of_getElem? (i := 7) rfl)))), V_DC, (Sta.start ev_IO (Or.inr ⟨(hw _ (List.mem_of_getElem? (i := 246) rfl)), (hw _ (List.mem_of_getElem? (i := 247) rfl))⟩)), rf_IO⟩
  obtain ⟨n, o, h1, h2, h3, _, L, rfl, ⟨rfl, N, -⟩, -, hq⟩ := rm_law l s _ hw tables_1 z_CS v_FMT s_DC k_DC v_IO i0 i1 i2 s.heap s.heap.size SB (Old.start s)  p e ha hc hk s m _ below hf ((Spec.applies_iff_loose hf).mp happ).1 ⟨rfl, State.Warmed39.refl s, rfl, hCH⟩ trivial
  refine ⟨n, _, h1, h2, h3, hpost _ _ _ _ _ _ ⟨Cond.after_iff.mpr rfl, Cond.after_iff.mpr (eq_i res_at (Term.int_eval (1)) rfl), trivial⟩ ⟨hq.1, hq.2.1, hq.2.2.1, (hq.2.2.2.sift fun y hy => Or.inr (N y hy)).mono (by decide) (by decide)⟩⟩
theorem main_1_1 : Claimed_1_1 := comes_1 fun _ _ _ _ _ _ h hF => ⟨h.1, hF⟩
theorem main_1_2 : Claimed_1_2 := comes_1 fun _ _ _ _ _ _ h hF => ⟨h.2.1, hF⟩
end Jvm.Pilot.@@N@@
namespace Jvm.Pilot.@@N@@
open Jvm Jvm.ClassFile Sem Op Lib Jvm.Free Jvm.Stand Jvm.Pilot.@@N@@.Jvm.D
/-! MADE BY PROGRAM (witnessworld.py) out of the Statement's table words and the real class files: 43 classes; the members and pool entries that the words name. The judged class is class 1, her method 1. -/
namespace start1
open Jvm.ClassFile
def u (s : String) : CpInfo := .utf8 (stringToUtf16 s)
/-- a pool by its gaps: so many unusable entries, then the entry; so many at the end -/
def gap : Nat → List CpInfo → List CpInfo
  | 0, r => r
  | n + 1, r => .unusable :: gap n r
def poolList (es : List (Nat × CpInfo)) (last : Nat) : List CpInfo := es.foldr (fun e r => gap e.1 (e.2 :: r)) (gap last [])
def pool (es : List (Nat × CpInfo)) (last : Nat) : Array CpInfo := ⟨poolList es last⟩
def fileOf (pool : Array CpInfo) (this : Nat) (attrs : Array Attribute := #[]) (ms : Array MethodInfo := #[]) (fl : Nat := 33) (sup : Nat := 0) (ifs : Array Nat := #[]) (fds : Array FieldInfo := #[]) : ClassFile where
  minorVersion := 0
  majorVersion := 65
  constantPool := pool
  accessFlags := fl
  thisClass := this
  superClass := sup
  interfaces := ifs
  fields := fds
  methods := ms
  attributes := attrs
def plain (name : String) (sup : Option ClassId) : Class where
  name := name
  kind := .ordinary
  loader := none
  accessFlags := 33
  super := sup
  interfaces := #[]
  cf := none
  fields := #[]
  methods := #[]
  instanceTypes := #[]
  staticTypes := #[]
  resolved := #[]
  callSites := []
  init := .initialized
  statics := none
  mirror := none

def pool0 : Array CpInfo := pool [(5, u "<init>"), (0, u "()V"), (1, .class_ 10), (1, u "java/lang/Object"), (85, u "clone"), (0, u "()Ljava/lang/Object;")] 26

def k0c0 : Code := ⟨0, 1, object_method_1_code, #[], #[]⟩
def k0m0 : Method := ⟨"<init>", "()V", ⟨[], none⟩, 1, some k0c0⟩
def k0m1 : Method := ⟨"clone", "()Ljava/lang/Object;", ⟨[], some (.object "java/lang/Object")⟩, 260, none⟩
/-- java/lang/Object -/
def k0 : Class := { plain "java/lang/Object" none with
  accessFlags := 33
  interfaces := #[]
  cf := some (fileOf pool0 8 #[] #[⟨1, 5, 6, #[]⟩, ⟨260, 96, 97, #[]⟩] 33 0 #[] #[])
  fields := #[]
  methods := #[k0m0, k0m1]
  instanceTypes := #[]
  staticTypes := #[]
  resolved := Array.replicate 124 none
  statics := none }

def pool1 : Array CpInfo := pool [(2, .class_ 4), (0, .nameAndType 5 6), (0, u "java/lang/Object"), (0, u "<init>"), (0, u "()V"), (0, .long 7), (1, .long 255), (1, .methodref 12 13), (0, .class_ 14), (0, .nameAndType 15 16), (0, u "com/example/reliquary/reliquary/SecretsHidePinLaw"), (0, u "pc"), (0, u "(I[C)C"), (0, .methodref 12 18), (0, .nameAndType 19 20), (0, u "textOf"), (0, u "([CI)Ljava/lang/String;"), (0, .class_ 22), (0, u "java/util/ArrayList"), (0, .methodref 21 3), (0, .methodref 12 25), (0, .nameAndType 26 27), (0, u "partOf"), (0, u "(CCI)Ljava/lang/String;"), (0, .methodref 21 29), (0, .nameAndType 30 31), (0, u "add"), (0, u "(Ljava/lang/Object;)Z"), (0, .class_ 33), (0, u "com/example/reliquary/reliquary/Secrets"), (0, .methodref 32 35), (0, .nameAndType 5 36), (0, u "(Ljava/util/Collection;)V"), (0, .methodref 32 38), (0, .nameAndType 39 40), (0, u "hide"), (0, u "(Ljava/lang/String;)Ljava/lang/String;"), (0, .class_ 42), (0, u "java/lang/String"), (0, .methodref 12 44), (0, .nameAndType 45 46), (0, u "cov"), (0, u "([CIICCI)Z"), (0, .methodref 12 48), (0, .nameAndType 49 50), (0, u "step"), (0, u "(Ljava/lang/String;IZCZZ)I"), (0, .methodref 41 52), (0, .nameAndType 53 54), (0, u "length"), (0, u "()I"), (0, .methodref 41 56), (0, .nameAndType 5 57), (0, u "([C)V"), (0, .methodref 41 59), (0, .nameAndType 60 61), (0, u "valueOf"), (0, u "(C)Ljava/lang/String;"), (0, .string 63), (0, u "(not shown)"), (0, .methodref 41 65), (0, .nameAndType 66 67), (0, u "charAt"), (0, u "(I)C"), (0, .methodref 12 69), (0, .nameAndType 70 71), (0, u "hiddenAt"), (0, u "(Ljava/lang/String;I)Z"), (2, u "law"), (0, u "(JII)Z")] 5

def k1m0 : Method := ⟨"<init>", "()V", ⟨[], none⟩, 1, none⟩
def k1c1 : Code := ⟨6, 21, code, #[], #[]⟩
def k1m1 : Method := ⟨"law", "(JII)Z", ⟨[.long, .int, .int], some .boolean⟩, 9, some k1c1⟩
def k1c2 : Code := ⟨3, 2, method_3_code, #[], #[]⟩
def k1m2 : Method := ⟨"pc", "(I[C)C", ⟨[.int, (.array .char)], some .char⟩, 10, some k1c2⟩
def k1c3 : Code := ⟨4, 3, method_4_code, #[], #[]⟩
def k1m3 : Method := ⟨"textOf", "([CI)Ljava/lang/String;", ⟨[(.array .char), .int], some (.object "java/lang/String")⟩, 10, some k1c3⟩
def k1c4 : Code := ⟨3, 4, method_5_code, #[], #[]⟩
def k1m4 : Method := ⟨"partOf", "(CCI)Ljava/lang/String;", ⟨[.char, .char, .int], some (.object "java/lang/String")⟩, 10, some k1c4⟩
def k1c5 : Code := ⟨3, 8, method_6_code, #[], #[]⟩
def k1m5 : Method := ⟨"cov", "([CIICCI)Z", ⟨[(.array .char), .int, .int, .char, .char, .int], some .boolean⟩, 10, some k1c5⟩
def k1c6 : Code := ⟨3, 3, method_7_code, #[], #[]⟩
def k1m6 : Method := ⟨"hiddenAt", "(Ljava/lang/String;I)Z", ⟨[(.object "java/lang/String"), .int], some .boolean⟩, 10, some k1c6⟩
def k1c7 : Code := ⟨2, 6, method_8_code, #[], #[]⟩
def k1m7 : Method := ⟨"step", "(Ljava/lang/String;IZCZZ)I", ⟨[(.object "java/lang/String"), .int, .boolean, .char, .boolean, .boolean], some .int⟩, 10, some k1c7⟩
/-- com/example/reliquary/reliquary/SecretsHidePinLaw -/
def k1 : Class := { plain "com/example/reliquary/reliquary/SecretsHidePinLaw" (some 0) with
  accessFlags := 49
  interfaces := #[]
  cf := some (fileOf pool1 12 #[] #[⟨1, 5, 6, #[]⟩, ⟨9, 74, 75, #[]⟩, ⟨10, 15, 16, #[]⟩, ⟨10, 19, 20, #[]⟩, ⟨10, 26, 27, #[]⟩, ⟨10, 45, 46, #[]⟩, ⟨10, 70, 71, #[]⟩, ⟨10, 49, 50, #[]⟩] 49 2 #[] #[])
  fields := #[]
  methods := #[k1m0, k1m1, k1m2, k1m3, k1m4, k1m5, k1m6, k1m7]
  instanceTypes := #[]
  staticTypes := #[]
  resolved := Array.replicate 81 none
  statics := none }

def pool2 : Array CpInfo := pool [(1, .class_ 2), (0, u "java/io/Serializable"), (0, .class_ 4), (0, u "java/lang/Object")] 2

/-- java/io/Serializable -/
def k2 : Class := { plain "java/io/Serializable" (some 0) with
  accessFlags := 1537
  interfaces := #[]
  cf := some (fileOf pool2 1 #[] #[] 1537 3 #[] #[])
  fields := #[]
  methods := #[]
  instanceTypes := #[]
  staticTypes := #[]
  resolved := Array.replicate 7 none
  statics := none }

def pool3 : Array CpInfo := pool [(1, .class_ 2), (0, u "java/lang/Comparable"), (0, .class_ 4), (0, u "java/lang/Object")] 7

/-- java/lang/Comparable -/
def k3 : Class := { plain "java/lang/Comparable" (some 0) with
  accessFlags := 1537
  interfaces := #[]
  cf := some (fileOf pool3 1 #[] #[] 1537 3 #[] #[])
  fields := #[]
  methods := #[]
  instanceTypes := #[]
  staticTypes := #[]
  resolved := Array.replicate 12 none
  statics := none }

def pool4 : Array CpInfo := pool [(2, .class_ 4), (1, u "java/lang/CharSequence"), (0, u "length"), (0, u "()I"), (40, .class_ 48), (0, u "java/lang/CharSequence$1CodePointIterator"), (10, .class_ 60), (0, u "java/lang/CharSequence$1CharIterator"), (5, .class_ 67), (0, u "java/lang/Object")] 63

def k4m0 : Method := ⟨"length", "()I", ⟨[], some .int⟩, 1025, none⟩
/-- java/lang/CharSequence -/
def k4 : Class := { plain "java/lang/CharSequence" (some 0) with
  accessFlags := 1537
  interfaces := #[]
  cf := some (fileOf pool4 2 #[.nestMembers #[47, 59]] #[⟨1025, 5, 6, #[]⟩] 1537 66 #[] #[])
  fields := #[]
  methods := #[k4m0]
  instanceTypes := #[]
  staticTypes := #[]
  resolved := Array.replicate 131 none
  statics := none }

def pool5 : Array CpInfo := pool [(1, .class_ 2), (0, u "java/lang/constant/Constable"), (0, .class_ 4), (0, u "java/lang/Object")] 6

/-- java/lang/constant/Constable -/
def k5 : Class := { plain "java/lang/constant/Constable" (some 0) with
  accessFlags := 1537
  interfaces := #[]
  cf := some (fileOf pool5 1 #[] #[] 1537 3 #[] #[])
  fields := #[]
  methods := #[]
  instanceTypes := #[]
  staticTypes := #[]
  resolved := Array.replicate 11 none
  statics := none }

def pool6 : Array CpInfo := pool [(1, .class_ 2), (0, u "java/lang/constant/ConstantDesc"), (0, .class_ 4), (0, u "java/lang/Object")] 32

/-- java/lang/constant/ConstantDesc -/
def k6 : Class := { plain "java/lang/constant/ConstantDesc" (some 0) with
  accessFlags := 1537
  interfaces := #[]
  cf := some (fileOf pool6 1 #[] #[] 1537 3 #[] #[])
  fields := #[]
  methods := #[]
  instanceTypes := #[]
  staticTypes := #[]
  resolved := Array.replicate 37 none
  statics := none }

def pool7 : Array CpInfo := pool [(1, .methodref 2 3), (0, .class_ 4), (0, .nameAndType 5 6), (0, u "java/lang/Object"), (0, u "<init>"), (0, u "()V"), (0, .string 8), (0, u ""), (0, .fieldref 10 11), (0, .class_ 12), (0, .nameAndType 13 14), (0, u "java/lang/String"), (0, u "value"), (0, u "[B"), (0, .fieldref 10 16), (0, .nameAndType 17 18), (0, u "coder"), (0, u "B"), (2, u "hash"), (0, u "I"), (2, u "hashIsZero"), (0, u "Z"), (0, .methodref 10 28), (0, .nameAndType 5 29), (0, u "([CIILjava/lang/Void;)V"), (8, .fieldref 10 39), (0, .nameAndType 40 26), (0, u "COMPACT_STRINGS"), (1, .class_ 44), (1, u "java/lang/StringUTF16"), (0, u "compress"), (1, .methodref 42 48), (0, .nameAndType 49 50), (0, u "coderFromArrayLen"), (0, u "([BI)B"), (2, u "toBytes"), (0, .methodref 55 56), (0, .class_ 57), (0, .nameAndType 58 59), (0, u "java/util/Arrays"), (0, u "copyOfRange"), (0, u "([BII)[B"), (47, .class_ 109), (1, u "java/lang/StringLatin1"), (32, u "()Z"), (34, .methodref 42 178), (0, .nameAndType 45 179), (0, u "([CII)[B"), (13, .class_ 195), (1, u "java/lang/System"), (13, .methodref 10 210), (0, .nameAndType 5 211), (0, u "([BB)V"), (0, .methodref 193 213), (0, .nameAndType 214 215), (0, u "arraycopy"), (0, u "(Ljava/lang/Object;ILjava/lang/Object;II)V"), (118, u "()I"), (0, .methodref 10 336), (0, .nameAndType 17 337), (0, u "()B"), (2, u "()[B"), (22, u "([BI)C"), (5, u "(C)Z"), (6, u "([BI[BII)I"), (14, u "(II)V"), (35, u "(I)C"), (61, .methodref 10 490), (0, .nameAndType 5 491), (0, u "(Ljava/lang/AbstractStringBuilder;Ljava/lang/Void;)V"), (0, .methodref 10 493), (0, .nameAndType 494 142), (0, u "isLatin1"), (0, .methodref 107 496), (0, .nameAndType 497 363), (0, u "charAt"), (3, u "checkIndex"), (3, .methodref 10 506), (0, .nameAndType 507 334), (0, u "length"), (24, u "getBytes"), (16, .methodref 550 506), (0, .class_ 551), (0, u "java/lang/AbstractStringBuilder"), (0, .methodref 550 553), (0, .nameAndType 554 340), (0, u "getValue"), (20, .class_ 576), (0, u "java/lang/CharSequence"), (12, u "([B[B)I"), (9, u "CASE_INSENSITIVE_ORDER"), (0, u "Ljava/util/Comparator;"), (34, u "indexOf"), (11, .methodref 107 648), (0, .nameAndType 635 589), (4, .methodref 10 654), (0, .nameAndType 635 655), (0, u "([BBILjava/lang/String;I)I"), (3, .methodref 660 661), (0, .class_ 662), (0, .nameAndType 663 664), (0, u "java/lang/Math"), (0, u "clamp"), (0, u "(JII)I"), (0, .methodref 107 666), (0, .nameAndType 635 376), (5, u "(Ljava/lang/String;I)I"), (19, u "isEmpty"), (20, u "(Ljava/lang/String;)I"), (68, u "valueOf"), (0, u "(C)Ljava/lang/String;"), (37, u "([BIB)V"), (188, u "([C)V"), (4, .methodref 107 1016), (0, .nameAndType 1017 369), (0, u "canEncode"), (0, .methodref 107 1019), (0, .nameAndType 53 1020), (0, u "(C)[B"), (26, .methodref 550 493), (5, .fieldref 1054 1055), (0, .class_ 1056), (0, .nameAndType 1057 1058), (0, u "jdk/internal/util/Preconditions"), (0, u "SIOOBE_FORMATTER"), (0, u "Ljava/util/function/BiFunction;"), (0, .methodref 1054 1060), (0, .nameAndType 501 1061), (0, u "(IILjava/util/function/BiFunction;)I"), (39, u "serialPersistentFields"), (0, u "[Ljava/io/ObjectStreamField;"), (0, .class_ 1104), (0, u "java/lang/String$CaseInsensitiveComparator"), (1, .class_ 1107), (0, u "java/io/Serializable"), (0, .class_ 1109), (0, u "java/lang/Comparable"), (0, .class_ 1111), (0, u "java/lang/constant/Constable"), (0, .class_ 1113), (0, u "java/lang/constant/ConstantDesc"), (2, u "serialVersionUID"), (0, u "J"), (3, u "REPL"), (0, u "C"), (2, u "LATIN1"), (1, u "UTF16"), (105, u "(Ljava/lang/StringBuilder;)V")] 217

def k7m0 : Method := ⟨"<init>", "()V", ⟨[], none⟩, 1, none⟩
def k7c1 : Code := ⟨5, 2, jdk_42_method_3_code, #[], #[]⟩
def k7m1 : Method := ⟨"<init>", "([C)V", ⟨[(.array .char)], none⟩, 1, some k7c1⟩
def k7c2 : Code := ⟨3, 2, jdk_42_method_53_code, #[], #[]⟩
def k7m2 : Method := ⟨"<init>", "(Ljava/lang/StringBuilder;)V", ⟨[(.object "java/lang/StringBuilder")], none⟩, 1, some k7c2⟩
def k7c3 : Code := ⟨2, 1, jdk_42_method_54_code, #[], #[]⟩
def k7m3 : Method := ⟨"length", "()I", ⟨[], some .int⟩, 1, some k7c3⟩
def k7c4 : Code := ⟨1, 1, jdk_42_method_55_code, #[], #[]⟩
def k7m4 : Method := ⟨"isEmpty", "()Z", ⟨[], some .boolean⟩, 1, some k7c4⟩
def k7c5 : Code := ⟨2, 2, jdk_42_method_56_code, #[], #[]⟩
def k7m5 : Method := ⟨"charAt", "(I)C", ⟨[.int], some .char⟩, 1, some k7c5⟩
def k7c6 : Code := ⟨2, 3, jdk_42_method_84_code, #[], #[]⟩
def k7m6 : Method := ⟨"indexOf", "(Ljava/lang/String;)I", ⟨[(.object "java/lang/String")], some .int⟩, 1, some k7c6⟩
def k7c7 : Code := ⟨5, 3, jdk_42_method_85_code, #[], #[]⟩
def k7m7 : Method := ⟨"indexOf", "(Ljava/lang/String;I)I", ⟨[(.object "java/lang/String"), .int], some .int⟩, 1, some k7c7⟩
def k7c8 : Code := ⟨5, 8, jdk_42_method_87_code, #[], #[]⟩
def k7m8 : Method := ⟨"indexOf", "([BBILjava/lang/String;I)I", ⟨[(.array .byte), .byte, .int, (.object "java/lang/String"), .int], some .int⟩, 8, some k7c8⟩
def k7c9 : Code := ⟨4, 1, jdk_42_method_139_code, #[], #[]⟩
def k7m9 : Method := ⟨"valueOf", "(C)Ljava/lang/String;", ⟨[.char], some (.object "java/lang/String")⟩, 9, some k7c9⟩
def k7c10 : Code := ⟨5, 4, jdk_42_method_147_code, #[], #[]⟩
def k7m10 : Method := ⟨"getBytes", "([BIB)V", ⟨[(.array .byte), .int, .byte], none⟩, 0, some k7c10⟩
def k7c11 : Code := ⟨4, 6, jdk_42_method_149_code, #[], #[]⟩
def k7m11 : Method := ⟨"<init>", "([CIILjava/lang/Void;)V", ⟨[(.array .char), .int, .int, (.object "java/lang/Void")], none⟩, 2, some k7c11⟩
def k7c12 : Code := ⟨5, 5, jdk_42_method_150_code, #[], #[]⟩
def k7m12 : Method := ⟨"<init>", "(Ljava/lang/AbstractStringBuilder;Ljava/lang/Void;)V", ⟨[(.object "java/lang/AbstractStringBuilder"), (.object "java/lang/Void")], none⟩, 0, some k7c12⟩
def k7c13 : Code := ⟨2, 3, jdk_42_method_151_code, #[], #[]⟩
def k7m13 : Method := ⟨"<init>", "([BB)V", ⟨[(.array .byte), .byte], none⟩, 0, some k7c13⟩
def k7c14 : Code := ⟨1, 1, jdk_42_method_152_code, #[], #[]⟩
def k7m14 : Method := ⟨"coder", "()B", ⟨[], some .byte⟩, 0, some k7c14⟩
def k7c15 : Code := ⟨1, 1, jdk_42_method_153_code, #[], #[]⟩
def k7m15 : Method := ⟨"value", "()[B", ⟨[], some (.array .byte)⟩, 0, some k7c15⟩
def k7c16 : Code := ⟨1, 1, jdk_42_method_154_code, #[], #[]⟩
def k7m16 : Method := ⟨"isLatin1", "()Z", ⟨[], some .boolean⟩, 0, some k7c16⟩
def k7c17 : Code := ⟨3, 2, jdk_42_method_155_code, #[], #[]⟩
def k7m17 : Method := ⟨"checkIndex", "(II)V", ⟨[.int, .int], none⟩, 8, some k7c17⟩
/-- java/lang/String -/
def k7 : Class := { plain "java/lang/String" (some 0) with
  accessFlags := 49
  interfaces := #[2, 3, 4, 5, 6]
  cf := some (fileOf pool7 10 #[.nestMembers #[1103]] #[⟨1, 5, 6, #[]⟩, ⟨1, 5, 1010, #[]⟩, ⟨1, 5, 1233, #[]⟩, ⟨1, 507, 334, #[]⟩, ⟨1, 692, 142, #[]⟩, ⟨1, 497, 427, #[]⟩, ⟨1, 635, 713, #[]⟩, ⟨1, 635, 672, #[]⟩, ⟨8, 635, 655, #[]⟩, ⟨9, 782, 783, #[]⟩, ⟨0, 532, 821, #[]⟩, ⟨2, 5, 29, #[]⟩, ⟨0, 5, 491, #[]⟩, ⟨0, 5, 211, #[]⟩, ⟨0, 17, 337, #[]⟩, ⟨0, 13, 340, #[]⟩, ⟨0, 494, 142, #[]⟩, ⟨8, 501, 391, #[]⟩] 49 2 #[1106, 1108, 575, 1110, 1112] #[⟨18, 13, 14, #[]⟩, ⟨18, 17, 18, #[]⟩, ⟨2, 21, 22, #[]⟩, ⟨2, 25, 26, #[]⟩, ⟨26, 1116, 1117, #[]⟩, ⟨24, 40, 26, #[]⟩, ⟨26, 1101, 1102, #[]⟩, ⟨26, 1121, 1122, #[]⟩, ⟨25, 599, 600, #[]⟩, ⟨24, 1125, 18, #[]⟩, ⟨24, 1127, 18, #[]⟩])
  fields := #[⟨"value", (.array .byte), 18, 0, 0⟩, ⟨"coder", .byte, 18, 1, 0⟩, ⟨"hash", .int, 2, 2, 0⟩, ⟨"hashIsZero", .boolean, 2, 3, 0⟩, ⟨"serialVersionUID", .long, 26, 0, 0⟩, ⟨"COMPACT_STRINGS", .boolean, 24, 1, 0⟩, ⟨"serialPersistentFields", (.array (.object "java/io/ObjectStreamField")), 26, 2, 0⟩, ⟨"REPL", .char, 26, 3, 0⟩, ⟨"CASE_INSENSITIVE_ORDER", (.object "java/util/Comparator"), 25, 4, 0⟩, ⟨"LATIN1", .byte, 24, 5, 0⟩, ⟨"UTF16", .byte, 24, 6, 0⟩]
  methods := #[k7m0, k7m1, k7m2, k7m3, k7m4, k7m5, k7m6, k7m7, k7m8, k7m9, k7m10, k7m11, k7m12, k7m13, k7m14, k7m15, k7m16, k7m17]
  instanceTypes := #[(.array .byte), .byte, .int, .boolean]
  staticTypes := #[.long, .boolean, (.array (.object "java/io/ObjectStreamField")), .char, (.object "java/util/Comparator"), .byte, .byte]
  resolved := Array.replicate 1451 none
  statics := some 0 }

def pool8 : Array CpInfo := pool [(8, .class_ 10), (1, u "java/lang/Iterable"), (24, .class_ 36), (0, u "java/lang/Object")] 25

/-- java/lang/Iterable -/
def k8 : Class := { plain "java/lang/Iterable" (some 0) with
  accessFlags := 1537
  interfaces := #[]
  cf := some (fileOf pool8 8 #[] #[] 1537 35 #[] #[])
  fields := #[]
  methods := #[]
  instanceTypes := #[]
  staticTypes := #[]
  resolved := Array.replicate 62 none
  statics := none }

def pool9 : Array CpInfo := pool [(10, .class_ 12), (1, u "java/util/Collection"), (10, u "iterator"), (0, u "()Ljava/util/Iterator;"), (35, .class_ 61), (0, u "java/lang/Object"), (0, .class_ 63), (0, u "java/lang/Iterable")] 51

def k9m0 : Method := ⟨"iterator", "()Ljava/util/Iterator;", ⟨[], some (.object "java/util/Iterator")⟩, 1025, none⟩
/-- java/util/Collection -/
def k9 : Class := { plain "java/util/Collection" (some 0) with
  accessFlags := 1537
  interfaces := #[8]
  cf := some (fileOf pool9 10 #[] #[⟨1025, 23, 24, #[]⟩] 1537 60 #[62] #[])
  fields := #[]
  methods := #[k9m0]
  instanceTypes := #[]
  staticTypes := #[]
  resolved := Array.replicate 115 none
  statics := none }

def pool10 : Array CpInfo := pool [(1, .methodref 2 3), (0, .class_ 4), (0, .nameAndType 5 6), (0, u "java/lang/Object"), (0, u "<init>"), (0, u "()V"), (1, .class_ 10), (1, u "java/util/AbstractCollection"), (66, .class_ 78), (0, u "java/util/Collection")] 81

def k10c0 : Code := ⟨1, 1, jdk_22_method_1_code, #[], #[]⟩
def k10m0 : Method := ⟨"<init>", "()V", ⟨[], none⟩, 4, some k10c0⟩
/-- java/util/AbstractCollection -/
def k10 : Class := { plain "java/util/AbstractCollection" (some 0) with
  accessFlags := 1057
  interfaces := #[9]
  cf := some (fileOf pool10 8 #[] #[⟨4, 5, 6, #[]⟩] 1057 2 #[77] #[])
  fields := #[]
  methods := #[k10m0]
  instanceTypes := #[]
  staticTypes := #[]
  resolved := Array.replicate 160 none
  statics := none }

def pool11 : Array CpInfo := pool [(8, .class_ 10), (1, u "java/util/SequencedCollection"), (15, .class_ 27), (0, u "java/lang/Object"), (0, .class_ 29), (0, u "java/util/Collection")] 27

/-- java/util/SequencedCollection -/
def k11 : Class := { plain "java/util/SequencedCollection" (some 0) with
  accessFlags := 1537
  interfaces := #[9]
  cf := some (fileOf pool11 8 #[] #[] 1537 26 #[28] #[])
  fields := #[]
  methods := #[]
  instanceTypes := #[]
  staticTypes := #[]
  resolved := Array.replicate 57 none
  statics := none }

def pool12 : Array CpInfo := pool [(8, .class_ 10), (1, u "java/util/List"), (49, u "add"), (3, u "(Ljava/lang/Object;)Z"), (38, .class_ 104), (0, u "java/lang/Object"), (15, .class_ 121), (0, u "java/util/SequencedCollection"), (1, u "iterator"), (0, u "()Ljava/util/Iterator;")] 126

def k12m0 : Method := ⟨"iterator", "()Ljava/util/Iterator;", ⟨[], some (.object "java/util/Iterator")⟩, 1025, none⟩
def k12m1 : Method := ⟨"add", "(Ljava/lang/Object;)Z", ⟨[(.object "java/lang/Object")], some .boolean⟩, 1025, none⟩
/-- java/util/List -/
def k12 : Class := { plain "java/util/List" (some 0) with
  accessFlags := 1537
  interfaces := #[11]
  cf := some (fileOf pool12 8 #[] #[⟨1025, 123, 124, #[]⟩, ⟨1025, 60, 64, #[]⟩] 1537 103 #[120] #[])
  fields := #[]
  methods := #[k12m0, k12m1]
  instanceTypes := #[]
  staticTypes := #[]
  resolved := Array.replicate 251 none
  statics := none }

def pool13 : Array CpInfo := pool [(1, .methodref 2 3), (0, .class_ 4), (0, .nameAndType 5 6), (0, u "java/util/AbstractCollection"), (0, u "<init>"), (0, u "()V"), (0, .fieldref 8 9), (0, .class_ 10), (0, .nameAndType 11 12), (0, u "java/util/AbstractList"), (0, u "modCount"), (0, u "I"), (64, .class_ 78), (0, u "java/util/AbstractList$Itr"), (3, .class_ 83), (0, u "java/util/AbstractList$ListItr"), (9, .class_ 94), (0, u "java/util/AbstractList$RandomAccessSubList"), (3, .class_ 99), (0, u "java/util/AbstractList$SubList"), (33, .class_ 134), (0, u "java/util/List"), (73, .class_ 209), (0, u "java/util/AbstractList$SubList$1"), (0, .class_ 211), (0, u "java/util/AbstractList$RandomAccessSpliterator")] 6

def k13c0 : Code := ⟨2, 1, jdk_39_method_1_code, #[], #[]⟩
def k13m0 : Method := ⟨"<init>", "()V", ⟨[], none⟩, 4, some k13c0⟩
/-- java/util/AbstractList -/
def k13 : Class := { plain "java/util/AbstractList" (some 10) with
  accessFlags := 1057
  interfaces := #[12]
  cf := some (fileOf pool13 8 #[.nestMembers #[93, 98, 208, 210, 82, 77]] #[⟨4, 5, 6, #[]⟩] 1057 2 #[133] #[⟨132, 11, 12, #[]⟩])
  fields := #[⟨"modCount", .int, 132, 0, 0⟩]
  methods := #[k13m0]
  instanceTypes := #[.int]
  staticTypes := #[]
  resolved := Array.replicate 218 none
  statics := none }

def pool14 : Array CpInfo := pool [(1, .class_ 2), (0, u "java/util/RandomAccess"), (0, .class_ 4), (0, u "java/lang/Object")] 2

/-- java/util/RandomAccess -/
def k14 : Class := { plain "java/util/RandomAccess" (some 0) with
  accessFlags := 1537
  interfaces := #[]
  cf := some (fileOf pool14 1 #[] #[] 1537 3 #[] #[])
  fields := #[]
  methods := #[]
  instanceTypes := #[]
  staticTypes := #[]
  resolved := Array.replicate 7 none
  statics := none }

def pool15 : Array CpInfo := pool [(1, .class_ 2), (0, u "java/lang/Cloneable"), (0, .class_ 4), (0, u "java/lang/Object")] 2

/-- java/lang/Cloneable -/
def k15 : Class := { plain "java/lang/Cloneable" (some 0) with
  accessFlags := 1537
  interfaces := #[]
  cf := some (fileOf pool15 1 #[] #[] 1537 3 #[] #[])
  fields := #[]
  methods := #[]
  instanceTypes := #[]
  staticTypes := #[]
  resolved := Array.replicate 7 none
  statics := none }

def pool16 : Array CpInfo := pool [(1, .methodref 2 3), (0, .class_ 4), (0, .nameAndType 5 6), (0, u "java/util/AbstractList"), (0, u "<init>"), (0, u "()V"), (0, .class_ 8), (0, u "java/lang/Object"), (0, .fieldref 10 11), (0, .class_ 12), (0, .nameAndType 13 14), (0, u "java/util/ArrayList"), (0, u "elementData"), (0, u "[Ljava/lang/Object;"), (2, u "EMPTY_ELEMENTDATA"), (21, .fieldref 10 40), (0, .nameAndType 41 14), (0, u "DEFAULTCAPACITY_EMPTY_ELEMENTDATA"), (5, u "()[Ljava/lang/Object;"), (0, .fieldref 10 49), (0, .nameAndType 50 51), (0, u "size"), (0, u "I"), (11, .fieldref 10 64), (0, .nameAndType 65 51), (0, u "modCount"), (3, .methodref 10 70), (0, .nameAndType 71 72), (0, u "grow"), (0, u "(I)[Ljava/lang/Object;"), (6, .methodref 80 81), (0, .class_ 82), (0, .nameAndType 83 84), (0, u "java/lang/Math"), (0, u "max"), (0, u "(II)I"), (11, u "(Ljava/lang/Object;)Z"), (32, .methodref 10 130), (0, .nameAndType 71 47), (0, .methodref 10 132), (0, .nameAndType 133 134), (0, u "add"), (0, u "(Ljava/lang/Object;[Ljava/lang/Object;I)V"), (13, .class_ 149), (0, u "java/util/List"), (16, u "iterator"), (0, u "()Ljava/util/Iterator;"), (94, .class_ 263), (0, u "java/util/ArrayList$ListItr"), (3, .class_ 268), (0, u "java/util/ArrayList$Itr"), (0, .methodref 267 270), (0, .nameAndType 5 271), (0, u "(Ljava/util/ArrayList;)V"), (4, .class_ 277), (0, u "java/util/ArrayList$SubList"), (12, .class_ 291), (0, u "java/util/ArrayList$ArrayListSpliterator"), (37, .class_ 330), (0, u "java/util/RandomAccess"), (0, .class_ 332), (0, u "java/lang/Cloneable"), (0, .class_ 334), (0, u "java/io/Serializable"), (0, u "serialVersionUID"), (0, u "J"), (3, u "DEFAULT_CAPACITY"), (159, .class_ 501), (0, u "java/util/ArrayList$SubList$2"), (0, .class_ 503), (0, u "java/util/ArrayList$SubList$1")] 5

def k16c0 : Code := ⟨2, 1, jdk_38_method_2_code, #[], #[]⟩
def k16m0 : Method := ⟨"<init>", "()V", ⟨[], none⟩, 1, some k16c0⟩
def k16c1 : Code := ⟨4, 4, jdk_38_method_6_code, #[], #[]⟩
def k16m1 : Method := ⟨"grow", "(I)[Ljava/lang/Object;", ⟨[.int], some (.array (.object "java/lang/Object"))⟩, 2, some k16c1⟩
def k16c2 : Code := ⟨3, 1, jdk_38_method_7_code, #[], #[]⟩
def k16m2 : Method := ⟨"grow", "()[Ljava/lang/Object;", ⟨[], some (.array (.object "java/lang/Object"))⟩, 2, some k16c2⟩
def k16c3 : Code := ⟨3, 4, jdk_38_method_24_code, #[], #[]⟩
def k16m3 : Method := ⟨"add", "(Ljava/lang/Object;[Ljava/lang/Object;I)V", ⟨[(.object "java/lang/Object"), (.array (.object "java/lang/Object")), .int], none⟩, 2, some k16c3⟩
def k16c4 : Code := ⟨4, 2, jdk_38_method_25_code, #[], #[]⟩
def k16m4 : Method := ⟨"add", "(Ljava/lang/Object;)Z", ⟨[(.object "java/lang/Object")], some .boolean⟩, 1, some k16c4⟩
def k16c5 : Code := ⟨3, 1, jdk_38_method_55_code, #[], #[]⟩
def k16m5 : Method := ⟨"iterator", "()Ljava/util/Iterator;", ⟨[], some (.object "java/util/Iterator")⟩, 1, some k16c5⟩
/-- java/util/ArrayList -/
def k16 : Class := { plain "java/util/ArrayList" (some 13) with
  accessFlags := 33
  interfaces := #[12, 14, 15, 2]
  cf := some (fileOf pool16 10 #[.nestMembers #[290, 276, 500, 502, 262, 267]] #[⟨1, 5, 6, #[]⟩, ⟨2, 71, 72, #[]⟩, ⟨2, 71, 47, #[]⟩, ⟨2, 133, 134, #[]⟩, ⟨1, 133, 96, #[]⟩, ⟨1, 166, 167, #[]⟩] 33 2 #[148, 329, 331, 333] #[⟨26, 335, 336, #[]⟩, ⟨26, 340, 51, #[]⟩, ⟨26, 17, 14, #[]⟩, ⟨26, 41, 14, #[]⟩, ⟨128, 13, 14, #[]⟩, ⟨2, 50, 51, #[]⟩])
  fields := #[⟨"serialVersionUID", .long, 26, 0, 0⟩, ⟨"DEFAULT_CAPACITY", .int, 26, 1, 0⟩, ⟨"EMPTY_ELEMENTDATA", (.array (.object "java/lang/Object")), 26, 2, 0⟩, ⟨"DEFAULTCAPACITY_EMPTY_ELEMENTDATA", (.array (.object "java/lang/Object")), 26, 3, 0⟩, ⟨"elementData", (.array (.object "java/lang/Object")), 128, 1, 0⟩, ⟨"size", .int, 2, 2, 0⟩]
  methods := #[k16m0, k16m1, k16m2, k16m3, k16m4, k16m5]
  instanceTypes := #[.int, (.array (.object "java/lang/Object")), .int]
  staticTypes := #[.long, .int, (.array (.object "java/lang/Object")), (.array (.object "java/lang/Object"))]
  resolved := Array.replicate 509 none
  statics := some 1 }

def pool17 : Array CpInfo := pool [(1, .class_ 2), (0, u "java/lang/Math"), (1, .class_ 6), (1, u "java/lang/Object"), (0, u "<init>"), (0, u "()V"), (89, .class_ 100), (1, u "java/lang/Math$RandomNumberGeneratorHolder"), (20, u "(JJ)J"), (50, u "negativeZeroFloatBits"), (0, u "J"), (2, u "negativeZeroDoubleBits"), (19, .methodref 1 197), (0, .nameAndType 198 121), (0, u "max"), (0, .methodref 1 200), (0, .nameAndType 201 121), (0, u "min"), (43, u "$assertionsDisabled"), (0, u "Z"), (88, u "(II)I"), (2, u "twoToTheDoubleScaleDown"), (0, u "D"), (4, u "twoToTheDoubleScaleUp"), (9, u "E"), (3, u "PI"), (2, u "TAU"), (2, u "DEGREES_TO_RADIANS"), (0, u "RADIANS_TO_DEGREES"), (56, u "clamp"), (0, u "(JII)I")] 36

def k17m0 : Method := ⟨"<init>", "()V", ⟨[], none⟩, 2, none⟩
def k17c1 : Code := ⟨2, 2, jdk_29_method_65_code, #[], #[]⟩
def k17m1 : Method := ⟨"max", "(II)I", ⟨[.int, .int], some .int⟩, 9, some k17c1⟩
def k17c2 : Code := ⟨4, 4, jdk_29_method_66_code, #[], #[]⟩
def k17m2 : Method := ⟨"max", "(JJ)J", ⟨[.long, .long], some .long⟩, 9, some k17c2⟩
def k17c3 : Code := ⟨2, 2, jdk_29_method_69_code, #[], #[]⟩
def k17m3 : Method := ⟨"min", "(II)I", ⟨[.int, .int], some .int⟩, 9, some k17c3⟩
def k17c4 : Code := ⟨4, 4, jdk_29_method_70_code, #[], #[]⟩
def k17m4 : Method := ⟨"min", "(JJ)J", ⟨[.long, .long], some .long⟩, 9, some k17c4⟩
def k17c5 : Code := ⟨6, 4, jdk_29_method_73_code, #[], #[]⟩
def k17m5 : Method := ⟨"clamp", "(JII)I", ⟨[.long, .int, .int], some .int⟩, 9, some k17c5⟩
/-- java/lang/Math -/
def k17 : Class := { plain "java/lang/Math" (some 0) with
  accessFlags := 49
  interfaces := #[]
  cf := some (fileOf pool17 1 #[.nestMembers #[98]] #[⟨2, 7, 8, #[]⟩, ⟨9, 198, 335, #[]⟩, ⟨9, 198, 121, #[]⟩, ⟨9, 201, 335, #[]⟩, ⟨9, 201, 121, #[]⟩, ⟨9, 422, 423, #[]⟩] 49 4 #[] #[⟨25, 354, 339, #[]⟩, ⟨25, 358, 339, #[]⟩, ⟨25, 361, 339, #[]⟩, ⟨26, 364, 339, #[]⟩, ⟨26, 365, 339, #[]⟩, ⟨26, 172, 173, #[]⟩, ⟨26, 176, 173, #[]⟩, ⟨8, 344, 339, #[]⟩, ⟨8, 338, 339, #[]⟩, ⟨4120, 245, 246, #[]⟩])
  fields := #[⟨"E", .double, 25, 0, 0⟩, ⟨"PI", .double, 25, 1, 0⟩, ⟨"TAU", .double, 25, 2, 0⟩, ⟨"DEGREES_TO_RADIANS", .double, 26, 3, 0⟩, ⟨"RADIANS_TO_DEGREES", .double, 26, 4, 0⟩, ⟨"negativeZeroFloatBits", .long, 26, 5, 0⟩, ⟨"negativeZeroDoubleBits", .long, 26, 6, 0⟩, ⟨"twoToTheDoubleScaleUp", .double, 8, 7, 0⟩, ⟨"twoToTheDoubleScaleDown", .double, 8, 8, 0⟩, ⟨"$assertionsDisabled", .boolean, 4120, 9, 0⟩]
  methods := #[k17m0, k17m1, k17m2, k17m3, k17m4, k17m5]
  instanceTypes := #[]
  staticTypes := #[.double, .double, .double, .double, .double, .long, .long, .double, .double, .boolean]
  resolved := Array.replicate 460 none
  statics := none }

def pool18 : Array CpInfo := pool [(1, .methodref 2 3), (0, .class_ 4), (0, .nameAndType 5 6), (0, u "java/lang/Object"), (0, u "<init>"), (0, u "()V"), (0, .class_ 8), (0, u "java/util/ArrayList"), (0, .methodref 7 3), (0, .fieldref 11 12), (0, .class_ 13), (0, .nameAndType 14 15), (0, u "com/example/reliquary/reliquary/Secrets"), (0, u "parts"), (0, u "Ljava/util/List;"), (0, .interfaceMethodref 17 18), (0, .class_ 19), (0, .nameAndType 20 21), (0, u "java/util/Collection"), (0, u "iterator"), (0, u "()Ljava/util/Iterator;"), (0, .interfaceMethodref 23 24), (0, .class_ 25), (0, .nameAndType 26 27), (0, u "java/util/Iterator"), (0, u "hasNext"), (0, u "()Z"), (0, .interfaceMethodref 23 29), (0, .nameAndType 30 31), (0, u "next"), (0, u "()Ljava/lang/Object;"), (0, .class_ 33), (0, u "java/lang/String"), (0, .methodref 32 35), (0, .nameAndType 36 27), (0, u "isEmpty"), (0, .interfaceMethodref 38 39), (0, .class_ 40), (0, .nameAndType 41 42), (0, u "java/util/List"), (0, u "add"), (0, u "(Ljava/lang/Object;)Z"), (0, .class_ 44), (0, u "java/util/BitSet"), (0, .methodref 32 46), (0, .nameAndType 47 48), (0, u "length"), (0, u "()I"), (0, .methodref 43 50), (0, .nameAndType 5 51), (0, u "(I)V"), (0, .interfaceMethodref 38 18), (0, .methodref 32 54), (0, .nameAndType 55 56), (0, u "indexOf"), (0, u "(Ljava/lang/String;)I"), (0, .methodref 43 58), (0, .nameAndType 59 60), (0, u "set"), (0, u "(II)V"), (0, .methodref 32 62), (0, .nameAndType 55 63), (0, u "(Ljava/lang/String;I)I"), (0, .class_ 65), (0, u "java/lang/StringBuilder"), (0, .methodref 64 50), (0, .methodref 43 68), (0, .nameAndType 69 70), (0, u "nextSetBit"), (0, u "(I)I"), (0, .methodref 64 72), (0, .nameAndType 73 74), (0, u "append"), (0, u "(Ljava/lang/CharSequence;II)Ljava/lang/StringBuilder;"), (0, .string 76), (0, u "(not shown)"), (0, .methodref 64 78), (0, .nameAndType 73 79), (0, u "(Ljava/lang/String;)Ljava/lang/StringBuilder;"), (0, .methodref 43 81), (0, .nameAndType 82 70), (0, u "nextClearBit"), (0, .methodref 64 84), (0, .nameAndType 85 86), (0, u "toString"), (0, u "()Ljava/lang/String;"), (16, .class_ 104), (0, u "com/example/reliquary/reliquary/Secrets$Shown"), (16, u "hide"), (0, u "(Ljava/lang/String;)Ljava/lang/String;"), (30, u "HIDDEN"), (0, u "Ljava/lang/String;"), (3, u "(Ljava/util/Collection;)V")] 12

def k18c0 : Code := ⟨3, 4, prog_7_method_1_code, #[], #[]⟩
def k18m0 : Method := ⟨"<init>", "(Ljava/util/Collection;)V", ⟨[(.object "java/util/Collection")], none⟩, 0, some k18c0⟩
def k18c1 : Code := ⟨4, 6, prog_7_method_2_code, #[], #[]⟩
def k18m1 : Method := ⟨"hide", "(Ljava/lang/String;)Ljava/lang/String;", ⟨[(.object "java/lang/String")], some (.object "java/lang/String")⟩, 0, some k18c1⟩
/-- com/example/reliquary/reliquary/Secrets -/
def k18 : Class := { plain "com/example/reliquary/reliquary/Secrets" (some 0) with
  accessFlags := 48
  interfaces := #[]
  cf := some (fileOf pool18 11 #[.nestMembers #[103]] #[⟨0, 5, 158, #[]⟩, ⟨0, 121, 122, #[]⟩] 48 2 #[] #[⟨24, 153, 154, #[]⟩, ⟨18, 14, 15, #[]⟩])
  fields := #[⟨"HIDDEN", (.object "java/lang/String"), 24, 0, 0⟩, ⟨"parts", (.object "java/util/List"), 18, 0, 0⟩]
  methods := #[k18m0, k18m1]
  instanceTypes := #[(.object "java/util/List")]
  staticTypes := #[(.object "java/lang/String")]
  resolved := Array.replicate 171 none
  statics := none }

def pool19 : Array CpInfo := pool [(16, .class_ 18), (1, u "java/util/Iterator"), (0, u "hasNext"), (0, u "()Z"), (2, u "next"), (0, u "()Ljava/lang/Object;"), (6, .class_ 32), (0, u "java/lang/Object")] 20

def k19m0 : Method := ⟨"hasNext", "()Z", ⟨[], some .boolean⟩, 1025, none⟩
def k19m1 : Method := ⟨"next", "()Ljava/lang/Object;", ⟨[], some (.object "java/lang/Object")⟩, 1025, none⟩
/-- java/util/Iterator -/
def k19 : Class := { plain "java/util/Iterator" (some 0) with
  accessFlags := 1537
  interfaces := #[]
  cf := some (fileOf pool19 16 #[] #[⟨1025, 19, 20, #[]⟩, ⟨1025, 23, 24, #[]⟩] 1537 31 #[] #[])
  fields := #[]
  methods := #[k19m0, k19m1]
  instanceTypes := #[]
  staticTypes := #[]
  resolved := Array.replicate 53 none
  statics := none }

def pool20 : Array CpInfo := pool [(1, .fieldref 2 3), (0, .class_ 4), (0, .nameAndType 5 6), (0, u "java/util/ArrayList$Itr"), (0, u "this$0"), (0, u "Ljava/util/ArrayList;"), (0, .methodref 8 9), (0, .class_ 10), (0, .nameAndType 11 12), (0, u "java/lang/Object"), (0, u "<init>"), (0, u "()V"), (0, .fieldref 2 14), (0, .nameAndType 15 16), (0, u "lastRet"), (0, u "I"), (0, .fieldref 18 19), (0, .class_ 20), (0, .nameAndType 21 16), (0, u "java/util/ArrayList"), (0, u "modCount"), (0, .fieldref 2 23), (0, .nameAndType 24 16), (0, u "expectedModCount"), (0, .fieldref 2 26), (0, .nameAndType 27 16), (0, u "cursor"), (0, .fieldref 18 29), (0, .nameAndType 30 16), (0, u "size"), (0, .methodref 2 32), (0, .nameAndType 33 12), (0, u "checkForComodification"), (3, .fieldref 18 38), (0, .nameAndType 39 40), (0, u "elementData"), (0, u "[Ljava/lang/Object;"), (28, .class_ 70), (0, u "java/util/Iterator"), (0, u "(Ljava/util/ArrayList;)V"), (8, u "hasNext"), (0, u "()Z"), (1, u "next"), (0, u "()Ljava/lang/Object;")] 19

def k20c0 : Code := ⟨2, 2, jdk_49_method_1_code, #[], #[]⟩
def k20m0 : Method := ⟨"<init>", "(Ljava/util/ArrayList;)V", ⟨[(.object "java/util/ArrayList")], none⟩, 0, some k20c0⟩
def k20c1 : Code := ⟨2, 1, jdk_49_method_2_code, #[], #[]⟩
def k20m1 : Method := ⟨"hasNext", "()Z", ⟨[], some .boolean⟩, 1, some k20c1⟩
def k20c2 : Code := ⟨4, 3, jdk_49_method_3_code, #[], #[]⟩
def k20m2 : Method := ⟨"next", "()Ljava/lang/Object;", ⟨[], some (.object "java/lang/Object")⟩, 1, some k20c2⟩
def k20c3 : Code := ⟨2, 1, jdk_49_method_6_code, #[], #[]⟩
def k20m3 : Method := ⟨"checkForComodification", "()V", ⟨[], none⟩, 16, some k20c3⟩
/-- java/util/ArrayList$Itr -/
def k20 : Class := { plain "java/util/ArrayList$Itr" (some 0) with
  accessFlags := 32
  interfaces := #[19]
  cf := some (fileOf pool20 2 #[.nestHost 18] #[⟨0, 11, 71, #[]⟩, ⟨1, 80, 81, #[]⟩, ⟨1, 83, 84, #[]⟩, ⟨16, 33, 12, #[]⟩] 32 8 #[69] #[⟨0, 27, 16, #[]⟩, ⟨0, 15, 16, #[]⟩, ⟨0, 24, 16, #[]⟩, ⟨4112, 5, 6, #[]⟩])
  fields := #[⟨"cursor", .int, 0, 0, 0⟩, ⟨"lastRet", .int, 0, 1, 0⟩, ⟨"expectedModCount", .int, 0, 2, 0⟩, ⟨"this$0", (.object "java/util/ArrayList"), 4112, 3, 0⟩]
  methods := #[k20m0, k20m1, k20m2, k20m3]
  instanceTypes := #[.int, .int, .int, (.object "java/util/ArrayList")]
  staticTypes := #[]
  resolved := Array.replicate 104 none
  statics := none }

def pool21 : Array CpInfo := pool [(1, .class_ 2), (0, u "java/util/BitSet"), (0, .fieldref 1 4), (0, .nameAndType 5 6), (0, u "$assertionsDisabled"), (0, u "Z"), (0, .fieldref 1 8), (0, .nameAndType 9 10), (0, u "wordsInUse"), (0, u "I"), (0, .fieldref 1 12), (0, .nameAndType 13 14), (0, u "words"), (0, u "[J"), (3, .nameAndType 19 20), (0, u "<init>"), (0, u "()V"), (0, .methodref 22 18), (0, .class_ 23), (0, u "java/lang/Object"), (0, .fieldref 1 25), (0, .nameAndType 26 6), (0, u "sizeIsSticky"), (0, .methodref 1 28), (0, .nameAndType 29 30), (0, u "initWords"), (0, u "(I)V"), (21, .methodref 1 53), (0, .nameAndType 54 55), (0, u "wordIndex"), (0, u "(I)I"), (0, .methodref 1 57), (0, .nameAndType 58 20), (0, u "checkInvariants"), (80, .methodref 1 140), (0, .nameAndType 141 30), (0, u "ensureCapacity"), (13, .methodref 1 156), (0, .nameAndType 157 30), (0, u "expandTo"), (3, .methodref 1 162), (0, .nameAndType 163 164), (0, u "checkRange"), (0, u "(II)V"), (0, .long 18446744073709551615), (3, u "set"), (12, .methodref 183 184), (0, .class_ 185), (0, .nameAndType 186 187), (0, u "java/lang/Long"), (0, u "numberOfTrailingZeros"), (0, u "(J)I"), (75, u "nextSetBit"), (2, u "nextClearBit"), (2, .class_ 270), (0, u "java/util/BitSet$1BitSetSpliterator"), (22, u "serialPersistentFields"), (0, u "[Ljava/io/ObjectStreamField;"), (0, .class_ 296), (0, u "java/lang/Cloneable"), (0, .class_ 298), (0, u "java/io/Serializable"), (0, u "ADDRESS_BITS_PER_WORD"), (2, u "BITS_PER_WORD"), (1, u "BIT_INDEX_MASK"), (1, u "WORD_MASK"), (0, u "J"), (0, u "serialVersionUID")] 108

def k21c0 : Code := ⟨2, 1, jdk_92_method_1_code, #[], #[]⟩
def k21m0 : Method := ⟨"wordIndex", "(I)I", ⟨[.int], some .int⟩, 10, some k21c0⟩
def k21c1 : Code := ⟨4, 1, jdk_92_method_2_code, #[], #[]⟩
def k21m1 : Method := ⟨"checkInvariants", "()V", ⟨[], none⟩, 2, some k21c1⟩
def k21m2 : Method := ⟨"<init>", "()V", ⟨[], none⟩, 1, none⟩
def k21c3 : Code := ⟨4, 2, jdk_92_method_5_code, #[], #[]⟩
def k21m3 : Method := ⟨"<init>", "(I)V", ⟨[.int], none⟩, 1, some k21c3⟩
def k21c4 : Code := ⟨3, 2, jdk_92_method_6_code, #[], #[]⟩
def k21m4 : Method := ⟨"initWords", "(I)V", ⟨[.int], none⟩, 2, some k21c4⟩
def k21c5 : Code := ⟨3, 3, jdk_92_method_14_code, #[], #[]⟩
def k21m5 : Method := ⟨"ensureCapacity", "(I)V", ⟨[.int], none⟩, 2, some k21c5⟩
def k21c6 : Code := ⟨2, 3, jdk_92_method_15_code, #[], #[]⟩
def k21m6 : Method := ⟨"expandTo", "(I)V", ⟨[.int], none⟩, 2, some k21c6⟩
def k21c7 : Code := ⟨4, 2, jdk_92_method_16_code, #[], #[]⟩
def k21m7 : Method := ⟨"checkRange", "(II)V", ⟨[.int, .int], none⟩, 10, some k21c7⟩
def k21c8 : Code := ⟨8, 10, jdk_92_method_21_code, #[], #[]⟩
def k21m8 : Method := ⟨"set", "(II)V", ⟨[.int, .int], none⟩, 1, some k21c8⟩
def k21c9 : Code := ⟨5, 5, jdk_92_method_28_code, #[], #[]⟩
def k21m9 : Method := ⟨"nextSetBit", "(I)I", ⟨[.int], some .int⟩, 1, some k21c9⟩
def k21c10 : Code := ⟨5, 5, jdk_92_method_29_code, #[], #[]⟩
def k21m10 : Method := ⟨"nextClearBit", "(I)I", ⟨[.int], some .int⟩, 1, some k21c10⟩
/-- java/util/BitSet -/
def k21 : Class := { plain "java/util/BitSet" (some 0) with
  accessFlags := 33
  interfaces := #[15, 2]
  cf := some (fileOf pool21 1 #[.nestMembers #[269]] #[⟨10, 54, 55, #[]⟩, ⟨2, 58, 20, #[]⟩, ⟨1, 19, 20, #[]⟩, ⟨1, 19, 30, #[]⟩, ⟨2, 29, 30, #[]⟩, ⟨2, 141, 30, #[]⟩, ⟨2, 157, 30, #[]⟩, ⟨10, 163, 164, #[]⟩, ⟨1, 169, 164, #[]⟩, ⟨1, 263, 55, #[]⟩, ⟨1, 266, 55, #[]⟩] 33 22 #[295, 297] #[⟨26, 299, 10, #[]⟩, ⟨26, 302, 10, #[]⟩, ⟨26, 304, 10, #[]⟩, ⟨26, 306, 307, #[]⟩, ⟨26, 293, 294, #[]⟩, ⟨2, 13, 14, #[]⟩, ⟨130, 9, 10, #[]⟩, ⟨130, 26, 6, #[]⟩, ⟨26, 308, 307, #[]⟩, ⟨4120, 5, 6, #[]⟩])
  fields := #[⟨"ADDRESS_BITS_PER_WORD", .int, 26, 0, 0⟩, ⟨"BITS_PER_WORD", .int, 26, 1, 0⟩, ⟨"BIT_INDEX_MASK", .int, 26, 2, 0⟩, ⟨"WORD_MASK", .long, 26, 3, 0⟩, ⟨"serialPersistentFields", (.array (.object "java/io/ObjectStreamField")), 26, 4, 0⟩, ⟨"words", (.array .long), 2, 0, 0⟩, ⟨"wordsInUse", .int, 130, 1, 0⟩, ⟨"sizeIsSticky", .boolean, 130, 2, 0⟩, ⟨"serialVersionUID", .long, 26, 5, 0⟩, ⟨"$assertionsDisabled", .boolean, 4120, 6, 0⟩]
  methods := #[k21m0, k21m1, k21m2, k21m3, k21m4, k21m5, k21m6, k21m7, k21m8, k21m9, k21m10]
  instanceTypes := #[(.array .long), .int, .boolean]
  staticTypes := #[.int, .int, .int, .long, (.array (.object "java/io/ObjectStreamField")), .long, .boolean]
  resolved := Array.replicate 417 none
  statics := some 2 }

def pool22 : Array CpInfo := pool [(1, .class_ 2), (0, u "java/lang/Appendable"), (0, .class_ 4), (0, u "java/lang/Object")] 9

/-- java/lang/Appendable -/
def k22 : Class := { plain "java/lang/Appendable" (some 0) with
  accessFlags := 1537
  interfaces := #[]
  cf := some (fileOf pool22 1 #[] #[] 1537 3 #[] #[])
  fields := #[]
  methods := #[]
  instanceTypes := #[]
  staticTypes := #[]
  resolved := Array.replicate 14 none
  statics := none }

def pool23 : Array CpInfo := pool [(1, .class_ 2), (0, u "java/lang/String"), (0, .methodref 4 5), (0, .class_ 6), (0, .nameAndType 7 8), (0, u "java/lang/Object"), (0, u "<init>"), (0, u "()V"), (1, .class_ 12), (1, u "java/lang/AbstractStringBuilder"), (0, u "EMPTYVALUE"), (0, u "[B"), (0, .fieldref 10 16), (0, .nameAndType 17 14), (0, u "value"), (0, .fieldref 1 19), (0, .nameAndType 20 21), (0, u "COMPACT_STRINGS"), (0, u "Z"), (0, .fieldref 10 23), (0, .nameAndType 24 25), (0, u "coder"), (0, u "B"), (6, .methodref 1 33), (0, .nameAndType 34 35), (0, u "length"), (0, u "()I"), (3, .integer 2147483647), (0, .methodref 1 41), (0, .nameAndType 24 42), (0, u "()B"), (2, u "append"), (0, u "(Ljava/lang/String;)Ljava/lang/AbstractStringBuilder;"), (0, .interfaceMethodref 48 33), (0, .class_ 49), (0, u "java/lang/CharSequence"), (19, u "(Ljava/lang/String;)V"), (5, u "maybeLatin1"), (3, .fieldref 10 80), (0, .nameAndType 81 82), (0, u "count"), (0, u "I"), (0, .methodref 10 84), (0, .nameAndType 85 86), (0, u "isLatin1"), (0, u "()Z"), (13, .methodref 10 101), (0, .nameAndType 102 103), (0, u "ensureCapacityInternal"), (0, u "(I)V"), (0, .methodref 10 105), (0, .nameAndType 106 107), (0, u "newCapacity"), (0, u "(I)I"), (0, .methodref 109 110), (0, .class_ 111), (0, .nameAndType 112 113), (0, u "java/util/Arrays"), (0, u "copyOf"), (0, u "([BI)[B"), (0, .methodref 115 116), (0, .class_ 117), (0, .nameAndType 118 119), (0, u "jdk/internal/util/ArraysSupport"), (0, u "newLength"), (0, u "(III)I"), (41, .methodref 162 163), (0, .class_ 164), (0, .nameAndType 165 166), (0, u "jdk/internal/util/Preconditions"), (0, u "checkFromToIndex"), (0, u "(IIILjava/util/function/BiFunction;)I"), (15, u "Ljava/util/function/BiFunction;"), (0, .fieldref 162 184), (0, .nameAndType 185 182), (0, u "IOOBE_FORMATTER"), (22, .methodref 10 209), (0, .nameAndType 210 211), (0, u "putStringAt"), (0, u "(ILjava/lang/String;)V"), (5, u "inflateIfNeededFor"), (2, .nameAndType 221 222), (0, u "getBytes"), (0, u "([BIB)V"), (2, u "(Ljava/lang/CharSequence;II)Ljava/lang/AbstractStringBuilder;"), (6, .methodref 10 233), (0, .nameAndType 234 235), (0, u "appendChars"), (0, u "(Ljava/lang/String;II)V"), (73, .methodref 310 311), (0, .class_ 312), (0, .nameAndType 313 314), (0, u "java/lang/System"), (0, u "arraycopy"), (0, u "(Ljava/lang/Object;ILjava/lang/Object;II)V"), (82, .methodref 10 398), (0, .nameAndType 217 69), (0, .methodref 1 220), (0, .methodref 1 84), (0, .methodref 1 402), (0, .nameAndType 17 403), (0, u "()[B"), (40, .class_ 445), (0, u "java/lang/Appendable"), (106, u "getValue")] 56

def k23m0 : Method := ⟨"<init>", "()V", ⟨[], none⟩, 0, none⟩
def k23c1 : Code := ⟨2, 2, jdk_68_method_2_code, #[], #[]⟩
def k23m1 : Method := ⟨"<init>", "(I)V", ⟨[.int], none⟩, 0, some k23c1⟩
def k23c2 : Code := ⟨1, 1, jdk_68_method_6_code, #[], #[]⟩
def k23m2 : Method := ⟨"length", "()I", ⟨[], some .int⟩, 1, some k23c2⟩
def k23c3 : Code := ⟨4, 3, jdk_68_method_9_code, #[], #[]⟩
def k23m3 : Method := ⟨"ensureCapacityInternal", "(I)V", ⟨[.int], none⟩, 2, some k23c3⟩
def k23c4 : Code := ⟨5, 6, jdk_68_method_10_code, #[], #[]⟩
def k23m4 : Method := ⟨"newCapacity", "(I)I", ⟨[.int], some .int⟩, 2, some k23c4⟩
def k23c5 : Code := ⟨3, 3, jdk_68_method_22_code, #[], #[]⟩
def k23m5 : Method := ⟨"append", "(Ljava/lang/String;)Ljava/lang/AbstractStringBuilder;", ⟨[(.object "java/lang/String")], some (.object "java/lang/AbstractStringBuilder")⟩, 1, some k23c5⟩
def k23c6 : Code := ⟨4, 5, jdk_68_method_27_code, #[], #[]⟩
def k23m6 : Method := ⟨"append", "(Ljava/lang/CharSequence;II)Ljava/lang/AbstractStringBuilder;", ⟨[(.object "java/lang/CharSequence"), .int, .int], some (.object "java/lang/AbstractStringBuilder")⟩, 1, some k23c6⟩
def k23c7 : Code := ⟨1, 1, jdk_68_method_64_code, #[], #[]⟩
def k23m7 : Method := ⟨"getValue", "()[B", ⟨[], some (.array .byte)⟩, 16, some k23c7⟩
def k23c8 : Code := ⟨1, 1, jdk_68_method_68_code, #[], #[]⟩
def k23m8 : Method := ⟨"isLatin1", "()Z", ⟨[], some .boolean⟩, 16, some k23c8⟩
def k23c9 : Code := ⟨2, 2, jdk_68_method_71_code, #[], #[]⟩
def k23m9 : Method := ⟨"inflateIfNeededFor", "(Ljava/lang/String;)V", ⟨[(.object "java/lang/String")], none⟩, 2, some k23c9⟩
def k23c10 : Code := ⟨4, 3, jdk_68_method_73_code, #[], #[]⟩
def k23m10 : Method := ⟨"putStringAt", "(ILjava/lang/String;)V", ⟨[.int, (.object "java/lang/String")], none⟩, 2, some k23c10⟩
def k23c11 : Code := ⟨6, 8, jdk_68_method_75_code, #[], #[]⟩
def k23m11 : Method := ⟨"appendChars", "(Ljava/lang/String;II)V", ⟨[(.object "java/lang/String"), .int, .int], none⟩, 18, some k23c11⟩
/-- java/lang/AbstractStringBuilder -/
def k23 : Class := { plain "java/lang/AbstractStringBuilder" (some 0) with
  accessFlags := 1056
  interfaces := #[22, 4]
  cf := some (fileOf pool23 10 #[] #[⟨0, 7, 8, #[]⟩, ⟨0, 7, 103, #[]⟩, ⟨1, 34, 35, #[]⟩, ⟨2, 102, 103, #[]⟩, ⟨2, 106, 107, #[]⟩, ⟨1, 45, 46, #[]⟩, ⟨1, 45, 225, #[]⟩, ⟨16, 552, 403, #[]⟩, ⟨16, 85, 86, #[]⟩, ⟨2, 217, 69, #[]⟩, ⟨2, 210, 211, #[]⟩, ⟨18, 234, 235, #[]⟩] 1056 4 #[444, 48] #[⟨0, 17, 14, #[]⟩, ⟨0, 24, 25, #[]⟩, ⟨0, 75, 21, #[]⟩, ⟨0, 81, 82, #[]⟩, ⟨26, 13, 14, #[]⟩])
  fields := #[⟨"value", (.array .byte), 0, 0, 0⟩, ⟨"coder", .byte, 0, 1, 0⟩, ⟨"maybeLatin1", .boolean, 0, 2, 0⟩, ⟨"count", .int, 0, 3, 0⟩, ⟨"EMPTYVALUE", (.array .byte), 26, 0, 0⟩]
  methods := #[k23m0, k23m1, k23m2, k23m3, k23m4, k23m5, k23m6, k23m7, k23m8, k23m9, k23m10, k23m11]
  instanceTypes := #[(.array .byte), .byte, .boolean, .int]
  staticTypes := #[(.array .byte)]
  resolved := Array.replicate 609 none
  statics := none }

def pool24 : Array CpInfo := pool [(1, .methodref 2 3), (0, .class_ 4), (0, .nameAndType 5 6), (0, u "java/lang/AbstractStringBuilder"), (0, u "<init>"), (0, u "(I)V"), (11, .class_ 20), (1, u "java/lang/String"), (3, .class_ 26), (1, u "java/lang/StringBuilder"), (0, u "append"), (0, u "(Ljava/lang/String;)Ljava/lang/StringBuilder;"), (0, .methodref 2 30), (0, .nameAndType 27 31), (0, u "(Ljava/lang/String;)Ljava/lang/AbstractStringBuilder;"), (6, .methodref 2 39), (0, .nameAndType 27 40), (0, u "(Ljava/lang/CharSequence;II)Ljava/lang/AbstractStringBuilder;"), (96, .methodref 18 138), (0, .nameAndType 5 139), (0, u "(Ljava/lang/StringBuilder;)V"), (5, u "()V"), (10, u "()I"), (141, u "(Ljava/lang/CharSequence;II)Ljava/lang/StringBuilder;"), (44, .methodref 2 344), (0, .nameAndType 345 156), (0, u "length"), (3, .class_ 350), (0, u "java/lang/Appendable"), (0, .class_ 352), (0, u "java/io/Serializable"), (0, .class_ 354), (0, u "java/lang/Comparable"), (0, .class_ 356), (0, u "java/lang/CharSequence"), (0, u "serialVersionUID"), (0, u "J"), (40, u "toString"), (0, u "()Ljava/lang/String;")] 21

def k24m0 : Method := ⟨"<init>", "()V", ⟨[], none⟩, 1, none⟩
def k24c1 : Code := ⟨2, 2, jdk_67_method_2_code, #[], #[]⟩
def k24m1 : Method := ⟨"<init>", "(I)V", ⟨[.int], none⟩, 1, some k24c1⟩
def k24c2 : Code := ⟨2, 2, jdk_67_method_7_code, #[], #[]⟩
def k24m2 : Method := ⟨"append", "(Ljava/lang/String;)Ljava/lang/StringBuilder;", ⟨[(.object "java/lang/String")], some (.object "java/lang/StringBuilder")⟩, 1, some k24c2⟩
def k24c3 : Code := ⟨4, 4, jdk_67_method_10_code, #[], #[]⟩
def k24m3 : Method := ⟨"append", "(Ljava/lang/CharSequence;II)Ljava/lang/StringBuilder;", ⟨[(.object "java/lang/CharSequence"), .int, .int], some (.object "java/lang/StringBuilder")⟩, 1, some k24c3⟩
def k24c4 : Code := ⟨3, 1, jdk_67_method_42_code, #[], #[]⟩
def k24m4 : Method := ⟨"toString", "()Ljava/lang/String;", ⟨[], some (.object "java/lang/String")⟩, 1, some k24c4⟩
def k24c5 : Code := ⟨1, 1, jdk_67_method_93_code, #[], #[]⟩
def k24m5 : Method := ⟨"length", "()I", ⟨[], some .int⟩, 4161, some k24c5⟩
/-- java/lang/StringBuilder -/
def k24 : Class := { plain "java/lang/StringBuilder" (some 23) with
  accessFlags := 49
  interfaces := #[22, 2, 3, 4]
  cf := some (fileOf pool24 24 #[] #[⟨1, 5, 145, #[]⟩, ⟨1, 5, 6, #[]⟩, ⟨1, 27, 28, #[]⟩, ⟨1, 27, 298, #[]⟩, ⟨1, 399, 400, #[]⟩, ⟨4161, 345, 156, #[]⟩] 49 2 #[349, 351, 353, 355] #[⟨24, 357, 358, #[]⟩])
  fields := #[⟨"serialVersionUID", .long, 24, 0, 0⟩]
  methods := #[k24m0, k24m1, k24m2, k24m3, k24m4, k24m5]
  instanceTypes := #[(.array .byte), .byte, .boolean, .int]
  staticTypes := #[.long]
  resolved := Array.replicate 422 none
  statics := none }

def pool25 : Array CpInfo := pool [(2, .class_ 4), (1, u "java/lang/Object"), (0, u "<init>"), (0, u "()V"), (17, .class_ 26), (1, u "jdk/internal/util/Preconditions"), (6, u "checkIndex"), (13, u "checkFromToIndex"), (7, .class_ 56), (0, u "jdk/internal/util/Preconditions$4"), (57, .class_ 115), (0, u "jdk/internal/util/Preconditions$1"), (7, u "SIOOBE_FORMATTER"), (0, u "Ljava/util/function/BiFunction;"), (0, .class_ 126), (0, u "jdk/internal/util/Preconditions$2"), (3, u "AIOOBE_FORMATTER"), (0, .class_ 132), (0, u "jdk/internal/util/Preconditions$3"), (3, u "IOOBE_FORMATTER"), (41, u "(IILjava/util/function/BiFunction;)I"), (4, u "(IIILjava/util/function/BiFunction;)I")] 10

def k25m0 : Method := ⟨"<init>", "()V", ⟨[], none⟩, 1, none⟩
def k25c1 : Code := ⟨3, 3, jdk_41_method_11_code, #[], #[]⟩
def k25m1 : Method := ⟨"checkIndex", "(IILjava/util/function/BiFunction;)I", ⟨[.int, .int, (.object "java/util/function/BiFunction")], some .int⟩, 9, some k25c1⟩
def k25c2 : Code := ⟨4, 4, jdk_41_method_12_code, #[], #[]⟩
def k25m2 : Method := ⟨"checkFromToIndex", "(IIILjava/util/function/BiFunction;)I", ⟨[.int, .int, .int, (.object "java/util/function/BiFunction")], some .int⟩, 9, some k25c2⟩
/-- jdk/internal/util/Preconditions -/
def k25 : Class := { plain "jdk/internal/util/Preconditions" (some 0) with
  accessFlags := 33
  interfaces := #[]
  cf := some (fileOf pool25 24 #[.nestMembers #[55, 131, 125, 114]] #[⟨1, 5, 6, #[]⟩, ⟨9, 33, 178, #[]⟩, ⟨9, 47, 183, #[]⟩] 33 2 #[] #[⟨25, 123, 124, #[]⟩, ⟨25, 130, 124, #[]⟩, ⟨25, 136, 124, #[]⟩])
  fields := #[⟨"SIOOBE_FORMATTER", (.object "java/util/function/BiFunction"), 25, 0, 0⟩, ⟨"AIOOBE_FORMATTER", (.object "java/util/function/BiFunction"), 25, 1, 0⟩, ⟨"IOOBE_FORMATTER", (.object "java/util/function/BiFunction"), 25, 2, 0⟩]
  methods := #[k25m0, k25m1, k25m2]
  instanceTypes := #[]
  staticTypes := #[(.object "java/util/function/BiFunction"), (.object "java/util/function/BiFunction"), (.object "java/util/function/BiFunction")]
  resolved := Array.replicate 194 none
  statics := some 3 }

def pool26 : Array CpInfo := pool [(2, .class_ 4), (1, u "java/lang/Object"), (0, u "<init>"), (0, u "()V"), (1, .class_ 10), (1, u "java/lang/System"), (0, u "allowSecurityManager"), (0, u "I"), (16, u "cons"), (0, u "Ljava/io/Console;"), (77, .class_ 110), (1, u "java/lang/System$CallersHolder"), (43, u "initialErrStream"), (0, u "Ljava/io/PrintStream;"), (19, u "security"), (0, u "Ljava/lang/SecurityManager;"), (31, .class_ 209), (0, u "java/lang/System$1"), (7, u "props"), (0, u "Ljava/util/Properties;"), (2, u "lineSeparator"), (0, u "Ljava/lang/String;"), (96, .class_ 321), (1, u "java/lang/System$LoggerFinder"), (5, .class_ 328), (0, u "java/lang/System$Logger"), (67, u "err"), (2, u "out"), (91, u "notSupportedJnuEncoding"), (15, u "in"), (17, u "initialIn"), (0, u "Ljava/io/InputStream;"), (35, u "bootLayer"), (0, u "Ljava/lang/ModuleLayer;"), (99, .class_ 664), (0, u "java/lang/System$2"), (9, u "NEVER"), (2, u "MAYBE"), (49, u "arraycopy"), (0, u "(Ljava/lang/Object;ILjava/lang/Object;II)V"), (72, .class_ 802), (0, u "java/lang/System$Logger$Level")] 31

def k26m0 : Method := ⟨"<init>", "()V", ⟨[], none⟩, 2, none⟩
def k26m1 : Method := ⟨"arraycopy", "(Ljava/lang/Object;ILjava/lang/Object;II)V", ⟨[(.object "java/lang/Object"), .int, (.object "java/lang/Object"), .int, .int], none⟩, 265, none⟩
/-- java/lang/System -/
def k26 : Class := { plain "java/lang/System" (some 0) with
  accessFlags := 49
  interfaces := #[]
  cf := some (fileOf pool26 8 #[.nestMembers #[319, 327, 801, 108, 663, 208]] #[⟨2, 5, 6, #[]⟩, ⟨265, 727, 728, #[]⟩] 49 2 #[] #[⟨25, 507, 526, #[]⟩, ⟨25, 399, 155, #[]⟩, ⟨25, 396, 155, #[]⟩, ⟨10, 525, 526, #[]⟩, ⟨26, 674, 12, #[]⟩, ⟨26, 677, 12, #[]⟩, ⟨10, 11, 12, #[]⟩, ⟨74, 175, 176, #[]⟩, ⟨10, 491, 222, #[]⟩, ⟨74, 29, 30, #[]⟩, ⟨74, 154, 155, #[]⟩, ⟨10, 217, 218, #[]⟩, ⟨10, 221, 222, #[]⟩, ⟨8, 562, 563, #[]⟩])
  fields := #[⟨"in", (.object "java/io/InputStream"), 25, 0, 0⟩, ⟨"out", (.object "java/io/PrintStream"), 25, 1, 0⟩, ⟨"err", (.object "java/io/PrintStream"), 25, 2, 0⟩, ⟨"initialIn", (.object "java/io/InputStream"), 10, 3, 0⟩, ⟨"NEVER", .int, 26, 4, 0⟩, ⟨"MAYBE", .int, 26, 5, 0⟩, ⟨"allowSecurityManager", .int, 10, 6, 0⟩, ⟨"security", (.object "java/lang/SecurityManager"), 74, 7, 0⟩, ⟨"notSupportedJnuEncoding", (.object "java/lang/String"), 10, 8, 0⟩, ⟨"cons", (.object "java/io/Console"), 74, 9, 0⟩, ⟨"initialErrStream", (.object "java/io/PrintStream"), 74, 10, 0⟩, ⟨"props", (.object "java/util/Properties"), 10, 11, 0⟩, ⟨"lineSeparator", (.object "java/lang/String"), 10, 12, 0⟩, ⟨"bootLayer", (.object "java/lang/ModuleLayer"), 8, 13, 0⟩]
  methods := #[k26m0, k26m1]
  instanceTypes := #[]
  staticTypes := #[(.object "java/io/InputStream"), (.object "java/io/PrintStream"), (.object "java/io/PrintStream"), (.object "java/io/InputStream"), .int, .int, .int, (.object "java/lang/SecurityManager"), (.object "java/lang/String"), (.object "java/io/Console"), (.object "java/io/PrintStream"), (.object "java/util/Properties"), (.object "java/lang/String"), (.object "java/lang/ModuleLayer")]
  resolved := Array.replicate 834 none
  statics := none }

def pool27 : Array CpInfo := pool [(2, .class_ 4), (1, u "java/lang/Object"), (0, u "<init>"), (0, u "()V"), (7, .class_ 16), (1, u "java/util/Arrays"), (57, .class_ 76), (1, u "java/util/Arrays$NaturalOrder"), (32, u "()Ljava/lang/Object;"), (3, .class_ 115), (1, u "java/util/Arrays$LegacyMergeSort"), (1, u "Z"), (10, .nameAndType 129 109), (0, u "clone"), (9, u "copyOfRange"), (10, .methodref 151 152), (0, .class_ 153), (0, .nameAndType 154 155), (0, u "java/lang/System"), (0, u "arraycopy"), (0, u "(Ljava/lang/Object;ILjava/lang/Object;II)V"), (146, u "copyOf"), (1, .methodref 305 306), (0, .class_ 307), (0, .nameAndType 308 309), (0, u "java/lang/Math"), (0, u "min"), (0, u "(II)I"), (0, .methodref 311 128), (0, .class_ 312), (0, u "[B"), (26, .methodref 14 340), (0, .nameAndType 341 342), (0, u "copyOfRangeByte"), (0, u "([BII)[B"), (0, .methodref 14 344), (0, .nameAndType 345 346), (0, u "checkLength"), (0, u "(II)V"), (28, .class_ 376), (0, u "java/util/Arrays$ArrayList"), (68, u "$assertionsDisabled"), (269, u "MIN_ARRAY_SORT_GRAN"), (0, u "I"), (2, u "INSERTIONSORT_THRESHOLD"), (149, u "([BI)[B"), (105, .class_ 976), (0, u "java/util/Arrays$ArrayItr")] 52

def k27m0 : Method := ⟨"<init>", "()V", ⟨[], none⟩, 2, none⟩
def k27c1 : Code := ⟨6, 3, jdk_65_method_121_code, #[], #[]⟩
def k27m1 : Method := ⟨"copyOf", "([BI)[B", ⟨[(.array .byte), .int], some (.array .byte)⟩, 9, some k27c1⟩
def k27c2 : Code := ⟨4, 2, jdk_65_method_131_code, #[], #[]⟩
def k27m2 : Method := ⟨"checkLength", "(II)V", ⟨[.int, .int], none⟩, 10, some k27c2⟩
def k27c3 : Code := ⟨3, 3, jdk_65_method_132_code, #[], #[]⟩
def k27m3 : Method := ⟨"copyOfRange", "([BII)[B", ⟨[(.array .byte), .int, .int], some (.array .byte)⟩, 9, some k27c3⟩
def k27c4 : Code := ⟨6, 5, jdk_65_method_133_code, #[], #[]⟩
def k27m4 : Method := ⟨"copyOfRangeByte", "([BII)[B", ⟨[(.array .byte), .int, .int], some (.array .byte)⟩, 10, some k27c4⟩
/-- java/util/Arrays -/
def k27 : Class := { plain "java/util/Arrays" (some 0) with
  accessFlags := 49
  interfaces := #[]
  cf := some (fileOf pool27 14 #[.nestMembers #[975, 375, 113, 74]] #[⟨2, 5, 6, #[]⟩, ⟨9, 302, 869, #[]⟩, ⟨10, 345, 346, #[]⟩, ⟨9, 139, 342, #[]⟩, ⟨10, 341, 342, #[]⟩] 49 2 #[] #[⟨26, 715, 716, #[]⟩, ⟨26, 719, 716, #[]⟩, ⟨4120, 445, 117, #[]⟩])
  fields := #[⟨"MIN_ARRAY_SORT_GRAN", .int, 26, 0, 0⟩, ⟨"INSERTIONSORT_THRESHOLD", .int, 26, 1, 0⟩, ⟨"$assertionsDisabled", .boolean, 4120, 2, 0⟩]
  methods := #[k27m0, k27m1, k27m2, k27m3, k27m4]
  instanceTypes := #[]
  staticTypes := #[.int, .int, .boolean]
  resolved := Array.replicate 1029 none
  statics := none }

def pool28 : Array CpInfo := pool [(6, .class_ 8), (1, u "java/lang/Object"), (0, u "<init>"), (0, u "()V"), (1, .class_ 14), (1, u "java/lang/StringUTF16"), (31, u "$assertionsDisabled"), (0, u "Z"), (13, u "HI_BYTE_SHIFT"), (0, u "I"), (2, u "LO_BYTE_SHIFT"), (49, .methodref 12 116), (0, .nameAndType 117 118), (0, u "compress"), (0, u "([CI[BII)I"), (3, u "([CII)[B"), (138, u "coderFromArrayLen"), (0, u "([BI)B"), (106, .class_ 371), (1, u "java/lang/StringUTF16$LinesSpliterator"), (58, u "MAX_LENGTH"), (196, .class_ 628), (0, u "java/lang/StringUTF16$CodePointsSpliterator"), (0, .class_ 630), (0, u "java/lang/StringUTF16$CharsSpliterator")] 4

def k28m0 : Method := ⟨"<init>", "()V", ⟨[], none⟩, 0, none⟩
def k28c1 : Code := ⟨2, 2, jdk_52_method_15_code, #[], #[]⟩
def k28m1 : Method := ⟨"coderFromArrayLen", "([BI)B", ⟨[(.array .byte), .int], some .byte⟩, 8, some k28c1⟩
def k28c2 : Code := ⟨5, 6, jdk_52_method_16_code, #[], #[]⟩
def k28m2 : Method := ⟨"compress", "([CII)[B", ⟨[(.array .char), .int, .int], some (.array .byte)⟩, 9, some k28c2⟩
def k28c3 : Code := ⟨3, 7, jdk_52_method_21_code, #[], #[]⟩
def k28m3 : Method := ⟨"compress", "([CI[BII)I", ⟨[(.array .char), .int, (.array .byte), .int, .int], some .int⟩, 9, some k28c3⟩
/-- java/lang/StringUTF16 -/
def k28 : Class := { plain "java/lang/StringUTF16" (some 0) with
  accessFlags := 48
  interfaces := #[]
  cf := some (fileOf pool28 12 #[.nestMembers #[627, 629, 369]] #[⟨0, 9, 10, #[]⟩, ⟨8, 261, 262, #[]⟩, ⟨9, 117, 122, #[]⟩, ⟨9, 117, 118, #[]⟩] 48 6 #[] #[⟨26, 61, 62, #[]⟩, ⟨26, 65, 62, #[]⟩, ⟨24, 430, 62, #[]⟩, ⟨4120, 46, 47, #[]⟩])
  fields := #[⟨"HI_BYTE_SHIFT", .int, 26, 0, 0⟩, ⟨"LO_BYTE_SHIFT", .int, 26, 1, 0⟩, ⟨"MAX_LENGTH", .int, 24, 2, 0⟩, ⟨"$assertionsDisabled", .boolean, 4120, 3, 0⟩]
  methods := #[k28m0, k28m1, k28m2, k28m3]
  instanceTypes := #[]
  staticTypes := #[.int, .int, .int, .boolean]
  resolved := Array.replicate 635 none
  statics := none }

def pool29 : Array CpInfo := pool [(1, .class_ 2), (0, u "java/lang/String"), (1, .class_ 6), (1, u "java/lang/Object"), (0, u "<init>"), (0, u "()V"), (0, .methodref 1 10), (0, .nameAndType 11 12), (0, u "checkIndex"), (0, u "(II)V"), (1, .class_ 16), (1, u "java/lang/StringLatin1"), (36, u "([BI)C"), (36, u "canEncode"), (8, .methodref 14 100), (0, .nameAndType 101 102), (0, u "indexOf"), (0, u "([BI[BII)I"), (2, u "(C)Z"), (15, u "$assertionsDisabled"), (0, u "Z"), (98, .class_ 223), (1, u "java/lang/StringLatin1$LinesSpliterator"), (28, u "charAt"), (34, u "([B[B)I"), (92, u "toBytes"), (1, u "(C)[B"), (7, .class_ 391), (0, u "java/lang/StringLatin1$CharsSpliterator")] 3

def k29m0 : Method := ⟨"<init>", "()V", ⟨[], none⟩, 0, none⟩
def k29c1 : Code := ⟨2, 2, jdk_43_method_2_code, #[], #[]⟩
def k29m1 : Method := ⟨"charAt", "([BI)C", ⟨[(.array .byte), .int], some .char⟩, 9, some k29c1⟩
def k29c2 : Code := ⟨2, 1, jdk_43_method_3_code, #[], #[]⟩
def k29m2 : Method := ⟨"canEncode", "(C)Z", ⟨[.char], some .boolean⟩, 9, some k29c2⟩
def k29c3 : Code := ⟨5, 2, jdk_43_method_24_code, #[], #[]⟩
def k29m3 : Method := ⟨"indexOf", "([B[B)I", ⟨[(.array .byte), (.array .byte)], some .int⟩, 9, some k29c3⟩
def k29c4 : Code := ⟨3, 11, jdk_43_method_25_code, #[], #[]⟩
def k29m4 : Method := ⟨"indexOf", "([BI[BII)I", ⟨[(.array .byte), .int, (.array .byte), .int, .int], some .int⟩, 9, some k29c4⟩
def k29c5 : Code := ⟨4, 1, jdk_43_method_46_code, #[], #[]⟩
def k29m5 : Method := ⟨"toBytes", "(C)[B", ⟨[.char], some (.array .byte)⟩, 9, some k29c5⟩
/-- java/lang/StringLatin1 -/
def k29 : Class := { plain "java/lang/StringLatin1" (some 0) with
  accessFlags := 48
  interfaces := #[]
  cf := some (fileOf pool29 14 #[.nestMembers #[390, 221]] #[⟨0, 7, 8, #[]⟩, ⟨9, 252, 53, #[]⟩, ⟨9, 90, 105, #[]⟩, ⟨9, 101, 287, #[]⟩, ⟨9, 101, 102, #[]⟩, ⟨9, 380, 382, #[]⟩] 48 4 #[] #[⟨4120, 121, 122, #[]⟩])
  fields := #[⟨"$assertionsDisabled", .boolean, 4120, 0, 0⟩]
  methods := #[k29m0, k29m1, k29m2, k29m3, k29m4, k29m5]
  instanceTypes := #[]
  staticTypes := #[.boolean]
  resolved := Array.replicate 395 none
  statics := none }

def pool30 : Array CpInfo := pool [(2, .class_ 4), (1, u "java/lang/Object"), (0, u "<init>"), (0, u "()V"), (1, .class_ 10), (1, u "java/lang/Number"), (2, .class_ 14), (0, u "java/io/Serializable"), (0, u "serialVersionUID"), (0, u "J")] 20

def k30m0 : Method := ⟨"<init>", "()V", ⟨[], none⟩, 1, none⟩
/-- java/lang/Number -/
def k30 : Class := { plain "java/lang/Number" (some 0) with
  accessFlags := 1057
  interfaces := #[2]
  cf := some (fileOf pool30 8 #[] #[⟨1, 5, 6, #[]⟩] 1057 2 #[13] #[⟨26, 15, 16, #[]⟩])
  fields := #[⟨"serialVersionUID", .long, 26, 0, 0⟩]
  methods := #[k30m0]
  instanceTypes := #[]
  staticTypes := #[.long]
  resolved := Array.replicate 37 none
  statics := none }

def pool31 : Array CpInfo := pool [(1, .class_ 2), (0, u "java/lang/Long"), (15, .class_ 20), (1, u "java/lang/Integer"), (80, u "(J)I"), (133, .class_ 237), (1, u "java/lang/Long$LongCache"), (33, .class_ 272), (0, u "java/lang/Number"), (2, u "value"), (0, u "J"), (33, u "(I)I"), (0, .methodref 18 312), (0, .nameAndType 313 310), (0, u "numberOfTrailingZeros"), (47, u "TYPE"), (0, u "Ljava/lang/Class;"), (0, .class_ 364), (0, u "java/lang/Comparable"), (0, .class_ 366), (0, u "java/lang/constant/Constable"), (0, .class_ 368), (0, u "java/lang/constant/ConstantDesc"), (0, u "MIN_VALUE"), (1, u "MAX_VALUE"), (4, u "SIZE"), (0, u "I"), (1, u "BYTES"), (1, u "serialVersionUID")] 142

def k31c0 : Code := ⟨4, 3, jdk_35_method_49_code, #[], #[]⟩
def k31m0 : Method := ⟨"numberOfTrailingZeros", "(J)I", ⟨[.long], some .int⟩, 9, some k31c0⟩
/-- java/lang/Long -/
def k31 : Class := { plain "java/lang/Long" (some 30) with
  accessFlags := 49
  interfaces := #[3, 5, 6]
  cf := some (fileOf pool31 1 #[.nestMembers #[235]] #[⟨9, 313, 101, #[]⟩] 49 271 #[363, 365, 367] #[⟨25, 369, 276, #[]⟩, ⟨25, 371, 276, #[]⟩, ⟨25, 361, 362, #[]⟩, ⟨18, 275, 276, #[]⟩, ⟨25, 376, 377, #[]⟩, ⟨25, 379, 377, #[]⟩, ⟨26, 381, 276, #[]⟩])
  fields := #[⟨"MIN_VALUE", .long, 25, 0, 0⟩, ⟨"MAX_VALUE", .long, 25, 1, 0⟩, ⟨"TYPE", (.object "java/lang/Class"), 25, 2, 0⟩, ⟨"value", .long, 18, 0, 0⟩, ⟨"SIZE", .int, 25, 3, 0⟩, ⟨"BYTES", .int, 25, 4, 0⟩, ⟨"serialVersionUID", .long, 26, 5, 0⟩]
  methods := #[k31m0]
  instanceTypes := #[.long]
  staticTypes := #[.long, .long, (.object "java/lang/Class"), .int, .int, .long]
  resolved := Array.replicate 524 none
  statics := none }

def pool32 : Array CpInfo := pool [(1, .class_ 2), (0, u "java/lang/Integer"), (16, u "digits"), (0, u "[C"), (33, u "(I)I"), (30, u "DigitOnes"), (0, u "[B"), (2, u "DigitTens"), (99, .class_ 190), (0, u "java/lang/Integer$IntegerCache"), (3, u "I"), (8, .class_ 204), (0, u "java/lang/Number"), (2, u "value"), (56, .integer 65536), (37, u "TYPE"), (0, u "Ljava/lang/Class;"), (0, .class_ 305), (0, u "java/lang/Comparable"), (0, .class_ 307), (0, u "java/lang/constant/Constable"), (0, .class_ 309), (0, u "java/lang/constant/ConstantDesc"), (0, u "MIN_VALUE"), (1, u "MAX_VALUE"), (3, u "SIZE"), (1, u "BYTES"), (1, u "serialVersionUID"), (0, u "J"), (84, u "numberOfTrailingZeros")] 46

def k32c0 : Code := ⟨3, 2, jdk_33_method_48_code, #[], #[]⟩
def k32m0 : Method := ⟨"numberOfTrailingZeros", "(I)I", ⟨[.int], some .int⟩, 9, some k32c0⟩
/-- java/lang/Integer -/
def k32 : Class := { plain "java/lang/Integer" (some 30) with
  accessFlags := 49
  interfaces := #[3, 5, 6]
  cf := some (fileOf pool32 1 #[.nestMembers #[189]] #[⟨9, 406, 54, #[]⟩] 49 203 #[304, 306, 308] #[⟨25, 310, 194, #[]⟩, ⟨25, 312, 194, #[]⟩, ⟨25, 302, 303, #[]⟩, ⟨24, 19, 20, #[]⟩, ⟨24, 89, 86, #[]⟩, ⟨24, 85, 86, #[]⟩, ⟨18, 207, 194, #[]⟩, ⟨25, 316, 194, #[]⟩, ⟨25, 318, 194, #[]⟩, ⟨26, 320, 321, #[]⟩])
  fields := #[⟨"MIN_VALUE", .int, 25, 0, 0⟩, ⟨"MAX_VALUE", .int, 25, 1, 0⟩, ⟨"TYPE", (.object "java/lang/Class"), 25, 2, 0⟩, ⟨"digits", (.array .char), 24, 3, 0⟩, ⟨"DigitTens", (.array .byte), 24, 4, 0⟩, ⟨"DigitOnes", (.array .byte), 24, 5, 0⟩, ⟨"value", .int, 18, 0, 0⟩, ⟨"SIZE", .int, 25, 6, 0⟩, ⟨"BYTES", .int, 25, 7, 0⟩, ⟨"serialVersionUID", .long, 26, 8, 0⟩]
  methods := #[k32m0]
  instanceTypes := #[.int]
  staticTypes := #[.int, .int, (.object "java/lang/Class"), (.array .char), (.array .byte), (.array .byte), .int, .int, .long]
  resolved := Array.replicate 453 none
  statics := none }

def pool33 : Array CpInfo := pool [(9, u "<init>"), (6, .class_ 18), (1, u "java/lang/Object"), (0, u "()V"), (1, .class_ 23), (1, u "jdk/internal/util/ArraysSupport"), (0, u "LOG2_ARRAY_LONG_INDEX_SCALE"), (0, u "I"), (2, u "U"), (0, u "Ljdk/internal/misc/Unsafe;"), (8, u "BIG_ENDIAN"), (0, u "Z"), (8, u "LOG2_BYTE_BIT_SIZE"), (4, u "LOG2_ARRAY_INT_INDEX_SCALE"), (54, u "JLA"), (0, u "Ljdk/internal/access/JavaLangAccess;"), (11, u "LOG2_ARRAY_BOOLEAN_INDEX_SCALE"), (9, u "LOG2_ARRAY_BYTE_INDEX_SCALE"), (5, u "LOG2_ARRAY_CHAR_INDEX_SCALE"), (5, u "LOG2_ARRAY_SHORT_INDEX_SCALE"), (18, u "LOG2_ARRAY_FLOAT_INDEX_SCALE"), (24, u "LOG2_ARRAY_DOUBLE_INDEX_SCALE"), (6, .methodref 195 196), (0, .class_ 197), (0, .nameAndType 198 199), (0, u "java/lang/Math"), (0, u "max"), (0, u "(II)I"), (0, .integer 2147483639), (76, u "T_BOOLEAN"), (2, u "T_CHAR"), (1, u "T_FLOAT"), (1, u "T_DOUBLE"), (1, u "T_BYTE"), (1, u "T_SHORT"), (1, u "T_INT"), (1, u "T_LONG"), (1, u "SOFT_MAX_ARRAY_LENGTH"), (56, u "newLength"), (0, u "(III)I")] 25

def k33m0 : Method := ⟨"<init>", "()V", ⟨[], none⟩, 2, none⟩
def k33c1 : Code := ⟨3, 4, jdk_48_method_27_code, #[], #[]⟩
def k33m1 : Method := ⟨"newLength", "(III)I", ⟨[.int, .int, .int], some .int⟩, 9, some k33c1⟩
/-- jdk/internal/util/ArraysSupport -/
def k33 : Class := { plain "jdk/internal/util/ArraysSupport" (some 0) with
  accessFlags := 33
  interfaces := #[]
  cf := some (fileOf pool33 21 #[] #[⟨2, 9, 19, #[]⟩, ⟨9, 351, 352, #[]⟩] 33 16 #[] #[⟨24, 28, 29, #[]⟩, ⟨26, 38, 39, #[]⟩, ⟨25, 121, 25, #[]⟩, ⟨25, 131, 25, #[]⟩, ⟨25, 137, 25, #[]⟩, ⟨25, 143, 25, #[]⟩, ⟨25, 53, 25, #[]⟩, ⟨25, 24, 25, #[]⟩, ⟨25, 162, 25, #[]⟩, ⟨25, 187, 25, #[]⟩, ⟨26, 48, 25, #[]⟩, ⟨25, 277, 25, #[]⟩, ⟨25, 280, 25, #[]⟩, ⟨25, 282, 25, #[]⟩, ⟨25, 284, 25, #[]⟩, ⟨25, 286, 25, #[]⟩, ⟨25, 288, 25, #[]⟩, ⟨25, 290, 25, #[]⟩, ⟨25, 292, 25, #[]⟩, ⟨26, 108, 109, #[]⟩, ⟨25, 294, 25, #[]⟩])
  fields := #[⟨"U", (.object "jdk/internal/misc/Unsafe"), 24, 0, 0⟩, ⟨"BIG_ENDIAN", .boolean, 26, 1, 0⟩, ⟨"LOG2_ARRAY_BOOLEAN_INDEX_SCALE", .int, 25, 2, 0⟩, ⟨"LOG2_ARRAY_BYTE_INDEX_SCALE", .int, 25, 3, 0⟩, ⟨"LOG2_ARRAY_CHAR_INDEX_SCALE", .int, 25, 4, 0⟩, ⟨"LOG2_ARRAY_SHORT_INDEX_SCALE", .int, 25, 5, 0⟩, ⟨"LOG2_ARRAY_INT_INDEX_SCALE", .int, 25, 6, 0⟩, ⟨"LOG2_ARRAY_LONG_INDEX_SCALE", .int, 25, 7, 0⟩, ⟨"LOG2_ARRAY_FLOAT_INDEX_SCALE", .int, 25, 8, 0⟩, ⟨"LOG2_ARRAY_DOUBLE_INDEX_SCALE", .int, 25, 9, 0⟩, ⟨"LOG2_BYTE_BIT_SIZE", .int, 26, 10, 0⟩, ⟨"T_BOOLEAN", .int, 25, 11, 0⟩, ⟨"T_CHAR", .int, 25, 12, 0⟩, ⟨"T_FLOAT", .int, 25, 13, 0⟩, ⟨"T_DOUBLE", .int, 25, 14, 0⟩, ⟨"T_BYTE", .int, 25, 15, 0⟩, ⟨"T_SHORT", .int, 25, 16, 0⟩, ⟨"T_INT", .int, 25, 17, 0⟩, ⟨"T_LONG", .int, 25, 18, 0⟩, ⟨"JLA", (.object "jdk/internal/access/JavaLangAccess"), 26, 19, 0⟩, ⟨"SOFT_MAX_ARRAY_LENGTH", .int, 25, 20, 0⟩]
  methods := #[k33m0, k33m1]
  instanceTypes := #[]
  staticTypes := #[(.object "jdk/internal/misc/Unsafe"), .boolean, .int, .int, .int, .int, .int, .int, .int, .int, .int, .int, .int, .int, .int, .int, .int, .int, .int, (.object "jdk/internal/access/JavaLangAccess"), .int]
  resolved := Array.replicate 378 none
  statics := none }

/-- the primitive byte -/
def k34 : Class := { plain "byte" none with kind := .primitive 'B', accessFlags := 0x411 }
/-- [B -/
def k35 : Class := { plain "[B" (some 0) with kind := .array 34 .byte, interfaces := #[15, 2], accessFlags := 1041 }

/-- the primitive char -/
def k36 : Class := { plain "char" none with kind := .primitive 'C', accessFlags := 0x411 }
/-- [C -/
def k37 : Class := { plain "[C" (some 0) with kind := .array 36 .char, interfaces := #[15, 2], accessFlags := 1041 }

/-- the primitive int -/
def k38 : Class := { plain "int" none with kind := .primitive 'I', accessFlags := 0x411 }
/-- [I -/
def k39 : Class := { plain "[I" (some 0) with kind := .array 38 .int, interfaces := #[15, 2], accessFlags := 1041 }

/-- the primitive long -/
def k40 : Class := { plain "long" none with kind := .primitive 'J', accessFlags := 0x411 }
/-- [J -/
def k41 : Class := { plain "[J" (some 0) with kind := .array 40 .long, interfaces := #[15, 2], accessFlags := 1041 }

/-- [Ljava/lang/Object; -/
def k42 : Class := { plain "[Ljava/lang/Object;" (some 0) with kind := .array 0 (.object "java/lang/Object"), interfaces := #[15, 2], accessFlags := 1041 }

def heap : Heap := #[{ cls := 7, slots := #[.long 0, .int 1, .null, .int 0, .null, .int 0, .int 0], vm := .statics 7 },
  { cls := 16, slots := #[.long 0, .int 0, .ref 4, .ref 5], vm := .statics 16 },
  { cls := 21, slots := #[.int 0, .int 0, .int 0, .long 0, .null, .long 0, .int 1], vm := .statics 21 },
  { cls := 25, slots := #[.null, .null, .null], vm := .statics 25 },
  { cls := 42, slots := #[], vm := .none },
  { cls := 42, slots := #[], vm := .none }]
def classes : Array Class := #[k0, k1, k2, k3, k4, k5, k6, k7, k8, k9, k10, k11, k12, k13, k14, k15, k16, k17, k18, k19, k20, k21, k22, k23, k24, k25, k26, k27, k28, k29, k30, k31, k32, k33, k34, k35, k36, k37, k38, k39, k40, k41, k42]
def interned : List (Array UInt16 × Addr) := []
def slotsUsed : Nat := 21
def theMethod : MethodId := ⟨1, 1⟩
def args0 : Array Value := #[.long 8589934657, .int 65, .int 65]
def aboutOver (below : List Frame) : State where
  vm := { classes := classes, interned := interned.toArray }
  heap := heap
  slotsUsed := slotsUsed
  threads := #[{ frames := .invoking theMethod args0 :: below }]
def below0 : List Frame := [.native { method := ⟨0, 0⟩, args := #[] }]
def about1 : State := aboutOver below0
def p0 : Program := .bare "" "" ""
def e0 : Env := launch0.env 0 0 0
theorem w_frames : about1.frames = Frame.invoking theMethod args0 :: below0 := rfl
theorem w_args : argsFit about1.vm theMethod args0 = true := by decide +kernel
theorem w_heap : heapFits about1 = true := by decide +kernel
theorem w_runnable : about1.curStatus? = some .runnable := by decide +kernel
theorem w_alone : about1.alone = true := by decide +kernel
theorem w_named : about1.methodNamed? x = some theMethod := by decide +kernel
theorem w_hears : about1.hears theMethod below0 = true := by decide +kernel
theorem w_ripe : about1.ripe theMethod args0 below0 = true := by decide +kernel
theorem w_running : about1.status = .running := rfl
theorem w_room : about1.hasRoom e0.platform room_1 = true :=
  launch0.hasRoom_least _ room_1 (by decide +kernel) (by decide +kernel) (by decide +kernel) (by decide +kernel) (by decide +kernel) (by decide +kernel)
theorem allAtoms_all (ts : List Jvm.Cond) (a : Array Jvm.Value) (st : Jvm.State) : (allAtoms ts).before a st = ts.all (fun c => c.before a st) := by
  induction ts with
  | nil => rfl
  | cons c t ih =>
    show (Jvm.Cond.and c (allAtoms t)).before a st = _
    rw [Jvm.Cond.before_and, ih, List.all_cons]
def words1 : List Jvm.Cond := Jvm.Cond.code x code maxLocals ret :: tables_1
/-- a 'code' word, met by the world's own term for the bytes: nothing is compared byte by byte -/
theorem code_word {y : MethodName} {bytes : ByteArray} {mx : Nat} {rt : Option FieldType} {a : Array Value} {s : State} {m : MethodId} {meth : Method} {c : Code} (h1 : s.methodNamed? y = some m) (h2 : s.vm.method? m = some meth) (h3 : meth.code = some c) (h4 : c.code = bytes)
    (h5 : (c.maxLocals == mx && c.exceptionTable.isEmpty && decide (c.maxStack ≤ mostOperands) && decide (meth.sig.returnType = rt) && !meth.locks && decide (parseMethodDescriptor y.desc = some meth.sig)) = true) : (Jvm.Cond.code y bytes mx rt).before a s = true := by
  simp only [Bool.and_eq_true, beq_iff_eq, Bool.not_eq_true', decide_eq_true_eq] at h5
  obtain ⟨⟨⟨⟨⟨g1, g2⟩, g3⟩, g4⟩, g5⟩, g6⟩ := h5
  simp [Cond.before, Cond.holds, Cond.value, h1, h2, h3, h4, g1, g2, g3, g4, g5, g6]
def isCode : Jvm.Cond → Bool
  | .code _ _ _ _ => true
  | _ => false
theorem all_split {L : List Jvm.Cond} {P : Jvm.Cond → Bool} (h1 : L.all (fun c => isCode c || P c) = true) (h2 : ∀ c ∈ L.filter isCode, P c = true) : L.all P = true := by
  refine List.all_eq_true.mpr fun c hc => ?_
  have h := List.all_eq_true.mp h1 c hc
  rcases Bool.eq_false_or_eq_true (isCode c) with hi | hi
  · exact h2 c (List.mem_filter.mpr ⟨hc, hi⟩)
  · simpa [hi] using h
theorem w_c0 : (Jvm.Cond.code x code maxLocals ret).before args0 about1 = true := code_word (m := ⟨1, 1⟩) (meth := k1m1) (c := k1c1) (by decide +kernel) rfl rfl rfl (by decide +kernel)
abbrev qc1 : Jvm.Cond := .code yM10 method_3_code 2 (some .char)
theorem w_c1 : qc1.before args0 about1 = true := code_word (m := ⟨1, 2⟩) (meth := k1m2) (c := k1c2) (by decide +kernel) rfl rfl rfl (by decide +kernel)
abbrev qc2 : Jvm.Cond := .code yM16 method_4_code 3 (some (.object "java/lang/String"))
theorem w_c2 : qc2.before args0 about1 = true := code_word (m := ⟨1, 3⟩) (meth := k1m3) (c := k1c3) (by decide +kernel) rfl rfl rfl (by decide +kernel)
abbrev qc3 : Jvm.Cond := .code yM15 jdk_42_method_3_code 2 none
theorem w_c3 : qc3.before args0 about1 = true := code_word (m := ⟨7, 1⟩) (meth := k7m1) (c := k7c1) (by decide +kernel) rfl rfl rfl (by decide +kernel)
abbrev qc4 : Jvm.Cond := .code yM14 jdk_42_method_149_code 6 none
theorem w_c4 : qc4.before args0 about1 = true := code_word (m := ⟨7, 11⟩) (meth := k7m11) (c := k7c11) (by decide +kernel) rfl rfl rfl (by decide +kernel)
abbrev qc5 : Jvm.Cond := .code ⟨"java/lang/Object", "<init>", "()V"⟩ object_method_1_code 1 none
theorem w_c5 : qc5.before args0 about1 = true := code_word (m := ⟨0, 0⟩) (meth := k0m0) (c := k0c0) (by decide +kernel) rfl rfl rfl (by decide +kernel)
abbrev qc6 : Jvm.Cond := .code yM24 jdk_38_method_2_code 1 none
theorem w_c6 : qc6.before args0 about1 = true := code_word (m := ⟨16, 0⟩) (meth := k16m0) (c := k16c0) (by decide +kernel) rfl rfl rfl (by decide +kernel)
abbrev qc7 : Jvm.Cond := .code yM23 jdk_39_method_1_code 1 none
theorem w_c7 : qc7.before args0 about1 = true := code_word (m := ⟨13, 0⟩) (meth := k13m0) (c := k13c0) (by decide +kernel) rfl rfl rfl (by decide +kernel)
abbrev qc8 : Jvm.Cond := .code yM22 jdk_22_method_1_code 1 none
theorem w_c8 : qc8.before args0 about1 = true := code_word (m := ⟨10, 0⟩) (meth := k10m0) (c := k10c0) (by decide +kernel) rfl rfl rfl (by decide +kernel)
abbrev qc9 : Jvm.Cond := .code yM21 method_5_code 4 (some (.object "java/lang/String"))
theorem w_c9 : qc9.before args0 about1 = true := code_word (m := ⟨1, 4⟩) (meth := k1m4) (c := k1c4) (by decide +kernel) rfl rfl rfl (by decide +kernel)
abbrev qc10 : Jvm.Cond := .code yM29 jdk_38_method_25_code 2 (some .boolean)
theorem w_c10 : qc10.before args0 about1 = true := code_word (m := ⟨16, 4⟩) (meth := k16m4) (c := k16c4) (by decide +kernel) rfl rfl rfl (by decide +kernel)
abbrev qc11 : Jvm.Cond := .code yM28 jdk_38_method_24_code 4 none
theorem w_c11 : qc11.before args0 about1 = true := code_word (m := ⟨16, 3⟩) (meth := k16m3) (c := k16c3) (by decide +kernel) rfl rfl rfl (by decide +kernel)
abbrev qc12 : Jvm.Cond := .code yM27 jdk_38_method_7_code 1 (some (.array (.object "java/lang/Object")))
theorem w_c12 : qc12.before args0 about1 = true := code_word (m := ⟨16, 2⟩) (meth := k16m2) (c := k16c2) (by decide +kernel) rfl rfl rfl (by decide +kernel)
abbrev qc13 : Jvm.Cond := .code yM26 jdk_38_method_6_code 4 (some (.array (.object "java/lang/Object")))
theorem w_c13 : qc13.before args0 about1 = true := code_word (m := ⟨16, 1⟩) (meth := k16m1) (c := k16c1) (by decide +kernel) rfl rfl rfl (by decide +kernel)
abbrev qc14 : Jvm.Cond := .code yM25 jdk_29_method_65_code 2 (some .int)
theorem w_c14 : qc14.before args0 about1 = true := code_word (m := ⟨17, 1⟩) (meth := k17m1) (c := k17c1) (by decide +kernel) rfl rfl rfl (by decide +kernel)
abbrev qc15 : Jvm.Cond := .code yM83 prog_7_method_1_code 4 none
theorem w_c15 : qc15.before args0 about1 = true := code_word (m := ⟨18, 0⟩) (meth := k18m0) (c := k18c0) (by decide +kernel) rfl rfl rfl (by decide +kernel)
abbrev qc16 : Jvm.Cond := .code yM31 jdk_38_method_55_code 1 (some (.object "java/util/Iterator"))
theorem w_c16 : qc16.before args0 about1 = true := code_word (m := ⟨16, 5⟩) (meth := k16m5) (c := k16c5) (by decide +kernel) rfl rfl rfl (by decide +kernel)
abbrev qc17 : Jvm.Cond := .code yM30 jdk_49_method_1_code 2 none
theorem w_c17 : qc17.before args0 about1 = true := code_word (m := ⟨20, 0⟩) (meth := k20m0) (c := k20c0) (by decide +kernel) rfl rfl rfl (by decide +kernel)
abbrev qc18 : Jvm.Cond := .code yM32 jdk_49_method_2_code 1 (some .boolean)
theorem w_c18 : qc18.before args0 about1 = true := code_word (m := ⟨20, 1⟩) (meth := k20m1) (c := k20c1) (by decide +kernel) rfl rfl rfl (by decide +kernel)
abbrev qc19 : Jvm.Cond := .code yM34 jdk_49_method_3_code 3 (some (.object "java/lang/Object"))
theorem w_c19 : qc19.before args0 about1 = true := code_word (m := ⟨20, 2⟩) (meth := k20m2) (c := k20c2) (by decide +kernel) rfl rfl rfl (by decide +kernel)
abbrev qc20 : Jvm.Cond := .code yM33 jdk_49_method_6_code 1 none
theorem w_c20 : qc20.before args0 about1 = true := code_word (m := ⟨20, 3⟩) (meth := k20m3) (c := k20c3) (by decide +kernel) rfl rfl rfl (by decide +kernel)
abbrev qc21 : Jvm.Cond := .code yM82 jdk_42_method_55_code 1 (some .boolean)
theorem w_c21 : qc21.before args0 about1 = true := code_word (m := ⟨7, 4⟩) (meth := k7m4) (c := k7c4) (by decide +kernel) rfl rfl rfl (by decide +kernel)
abbrev qc22 : Jvm.Cond := .code yM84 prog_7_method_2_code 6 (some (.object "java/lang/String"))
theorem w_c22 : qc22.before args0 about1 = true := code_word (m := ⟨18, 1⟩) (meth := k18m1) (c := k18c1) (by decide +kernel) rfl rfl rfl (by decide +kernel)
abbrev qc23 : Jvm.Cond := .code yM1 jdk_42_method_54_code 1 (some .int)
theorem w_c23 : qc23.before args0 about1 = true := code_word (m := ⟨7, 3⟩) (meth := k7m3) (c := k7c3) (by decide +kernel) rfl rfl rfl (by decide +kernel)
abbrev qc24 : Jvm.Cond := .code yM0 jdk_42_method_152_code 1 (some .byte)
theorem w_c24 : qc24.before args0 about1 = true := code_word (m := ⟨7, 14⟩) (meth := k7m14) (c := k7c14) (by decide +kernel) rfl rfl rfl (by decide +kernel)
abbrev qc25 : Jvm.Cond := .code yM37 jdk_92_method_5_code 2 none
theorem w_c25 : qc25.before args0 about1 = true := code_word (m := ⟨21, 3⟩) (meth := k21m3) (c := k21c3) (by decide +kernel) rfl rfl rfl (by decide +kernel)
abbrev qc26 : Jvm.Cond := .code yM36 jdk_92_method_6_code 2 none
theorem w_c26 : qc26.before args0 about1 = true := code_word (m := ⟨21, 4⟩) (meth := k21m4) (c := k21c4) (by decide +kernel) rfl rfl rfl (by decide +kernel)
abbrev qc27 : Jvm.Cond := .code yM35 jdk_92_method_1_code 1 (some .int)
theorem w_c27 : qc27.before args0 about1 = true := code_word (m := ⟨21, 0⟩) (meth := k21m0) (c := k21c0) (by decide +kernel) rfl rfl rfl (by decide +kernel)
abbrev qc28 : Jvm.Cond := .code yM56 jdk_67_method_2_code 2 none
theorem w_c28 : qc28.before args0 about1 = true := code_word (m := ⟨24, 1⟩) (meth := k24m1) (c := k24c1) (by decide +kernel) rfl rfl rfl (by decide +kernel)
abbrev qc29 : Jvm.Cond := .code yM55 jdk_68_method_2_code 2 none
theorem w_c29 : qc29.before args0 about1 = true := code_word (m := ⟨23, 1⟩) (meth := k23m1) (c := k23c1) (by decide +kernel) rfl rfl rfl (by decide +kernel)
abbrev qc30 : Jvm.Cond := .code yM45 jdk_92_method_28_code 5 (some .int)
theorem w_c30 : qc30.before args0 about1 = true := code_word (m := ⟨21, 9⟩) (meth := k21m9) (c := k21c9) (by decide +kernel) rfl rfl rfl (by decide +kernel)
abbrev qc31 : Jvm.Cond := .code yM38 jdk_92_method_2_code 1 none
theorem w_c31 : qc31.before args0 about1 = true := code_word (m := ⟨21, 1⟩) (meth := k21m1) (c := k21c1) (by decide +kernel) rfl rfl rfl (by decide +kernel)
abbrev qc32 : Jvm.Cond := .code yM70 jdk_67_method_10_code 4 (some (.object "java/lang/StringBuilder"))
theorem w_c32 : qc32.before args0 about1 = true := code_word (m := ⟨24, 3⟩) (meth := k24m3) (c := k24c3) (by decide +kernel) rfl rfl rfl (by decide +kernel)
abbrev qc33 : Jvm.Cond := .code yM69 jdk_68_method_27_code 5 (some (.object "java/lang/AbstractStringBuilder"))
theorem w_c33 : qc33.before args0 about1 = true := code_word (m := ⟨23, 6⟩) (meth := k23m6) (c := k23c6) (by decide +kernel) rfl rfl rfl (by decide +kernel)
abbrev qc34 : Jvm.Cond := .code yM57 jdk_41_method_12_code 4 (some .int)
theorem w_c34 : qc34.before args0 about1 = true := code_word (m := ⟨25, 2⟩) (meth := k25m2) (c := k25c2) (by decide +kernel) rfl rfl rfl (by decide +kernel)
abbrev qc35 : Jvm.Cond := .code yM64 jdk_68_method_9_code 3 none
theorem w_c35 : qc35.before args0 about1 = true := code_word (m := ⟨23, 3⟩) (meth := k23m3) (c := k23c3) (by decide +kernel) rfl rfl rfl (by decide +kernel)
abbrev qc36 : Jvm.Cond := .code yM63 jdk_68_method_75_code 8 none
theorem w_c36 : qc36.before args0 about1 = true := code_word (m := ⟨23, 11⟩) (meth := k23m11) (c := k23c11) (by decide +kernel) rfl rfl rfl (by decide +kernel)
abbrev qc37 : Jvm.Cond := .code yM58 jdk_68_method_68_code 1 (some .boolean)
theorem w_c37 : qc37.before args0 about1 = true := code_word (m := ⟨23, 8⟩) (meth := k23m8) (c := k23c8) (by decide +kernel) rfl rfl rfl (by decide +kernel)
abbrev qc38 : Jvm.Cond := .code yM5 jdk_42_method_154_code 1 (some .boolean)
theorem w_c38 : qc38.before args0 about1 = true := code_word (m := ⟨7, 16⟩) (meth := k7m16) (c := k7c16) (by decide +kernel) rfl rfl rfl (by decide +kernel)
abbrev qc39 : Jvm.Cond := .code yM59 jdk_42_method_153_code 1 (some (.array .byte))
theorem w_c39 : qc39.before args0 about1 = true := code_word (m := ⟨7, 15⟩) (meth := k7m15) (c := k7c15) (by decide +kernel) rfl rfl rfl (by decide +kernel)
abbrev qc40 : Jvm.Cond := .code yM81 jdk_67_method_42_code 1 (some (.object "java/lang/String"))
theorem w_c40 : qc40.before args0 about1 = true := code_word (m := ⟨24, 4⟩) (meth := k24m4) (c := k24c4) (by decide +kernel) rfl rfl rfl (by decide +kernel)
abbrev qc41 : Jvm.Cond := .code yM80 jdk_42_method_53_code 2 none
theorem w_c41 : qc41.before args0 about1 = true := code_word (m := ⟨7, 2⟩) (meth := k7m2) (c := k7c2) (by decide +kernel) rfl rfl rfl (by decide +kernel)
abbrev qc42 : Jvm.Cond := .code yM79 jdk_42_method_150_code 5 none
theorem w_c42 : qc42.before args0 about1 = true := code_word (m := ⟨7, 12⟩) (meth := k7m12) (c := k7c12) (by decide +kernel) rfl rfl rfl (by decide +kernel)
abbrev qc43 : Jvm.Cond := .code yM60 jdk_68_method_64_code 1 (some (.array .byte))
theorem w_c43 : qc43.before args0 about1 = true := code_word (m := ⟨23, 7⟩) (meth := k23m7) (c := k23c7) (by decide +kernel) rfl rfl rfl (by decide +kernel)
abbrev qc44 : Jvm.Cond := .code yM62 jdk_67_method_93_code 1 (some .int)
theorem w_c44 : qc44.before args0 about1 = true := code_word (m := ⟨24, 5⟩) (meth := k24m5) (c := k24c5) (by decide +kernel) rfl rfl rfl (by decide +kernel)
abbrev qc45 : Jvm.Cond := .code yM61 jdk_68_method_6_code 1 (some .int)
theorem w_c45 : qc45.before args0 about1 = true := code_word (m := ⟨23, 2⟩) (meth := k23m2) (c := k23c2) (by decide +kernel) rfl rfl rfl (by decide +kernel)
abbrev qc46 : Jvm.Cond := .code yM78 jdk_65_method_132_code 3 (some (.array .byte))
theorem w_c46 : qc46.before args0 about1 = true := code_word (m := ⟨27, 3⟩) (meth := k27m3) (c := k27c3) (by decide +kernel) rfl rfl rfl (by decide +kernel)
abbrev qc47 : Jvm.Cond := .code yM9 method_6_code 8 (some .boolean)
theorem w_c47 : qc47.before args0 about1 = true := code_word (m := ⟨1, 5⟩) (meth := k1m5) (c := k1c5) (by decide +kernel) rfl rfl rfl (by decide +kernel)
abbrev qc48 : Jvm.Cond := .code yM8 method_8_code 6 (some .int)
theorem w_c48 : qc48.before args0 about1 = true := code_word (m := ⟨1, 7⟩) (meth := k1m7) (c := k1c7) (by decide +kernel) rfl rfl rfl (by decide +kernel)
abbrev qc49 : Jvm.Cond := .code yM12 jdk_52_method_16_code 6 (some (.array .byte))
theorem w_c49 : qc49.before args0 about1 = true := code_word (m := ⟨28, 2⟩) (meth := k28m2) (c := k28c2) (by decide +kernel) rfl rfl rfl (by decide +kernel)
abbrev qc50 : Jvm.Cond := .code yM11 jdk_52_method_21_code 7 (some .int)
theorem w_c50 : qc50.before args0 about1 = true := code_word (m := ⟨28, 3⟩) (meth := k28m3) (c := k28c3) (by decide +kernel) rfl rfl rfl (by decide +kernel)
abbrev qc51 : Jvm.Cond := .code yM13 jdk_52_method_15_code 2 (some .byte)
theorem w_c51 : qc51.before args0 about1 = true := code_word (m := ⟨28, 1⟩) (meth := k28m1) (c := k28c1) (by decide +kernel) rfl rfl rfl (by decide +kernel)
abbrev qc52 : Jvm.Cond := .code yM6 jdk_42_method_56_code 2 (some .char)
theorem w_c52 : qc52.before args0 about1 = true := code_word (m := ⟨7, 5⟩) (meth := k7m5) (c := k7c5) (by decide +kernel) rfl rfl rfl (by decide +kernel)
abbrev qc53 : Jvm.Cond := .code yM4 jdk_43_method_2_code 2 (some .char)
theorem w_c53 : qc53.before args0 about1 = true := code_word (m := ⟨29, 1⟩) (meth := k29m1) (c := k29c1) (by decide +kernel) rfl rfl rfl (by decide +kernel)
abbrev qc54 : Jvm.Cond := .code yM3 jdk_42_method_155_code 2 none
theorem w_c54 : qc54.before args0 about1 = true := code_word (m := ⟨7, 17⟩) (meth := k7m17) (c := k7c17) (by decide +kernel) rfl rfl rfl (by decide +kernel)
abbrev qc55 : Jvm.Cond := .code yM2 jdk_41_method_11_code 3 (some .int)
theorem w_c55 : qc55.before args0 about1 = true := code_word (m := ⟨25, 1⟩) (meth := k25m1) (c := k25c1) (by decide +kernel) rfl rfl rfl (by decide +kernel)
abbrev qc56 : Jvm.Cond := .code yM49 jdk_42_method_84_code 3 (some .int)
theorem w_c56 : qc56.before args0 about1 = true := code_word (m := ⟨7, 6⟩) (meth := k7m6) (c := k7c6) (by decide +kernel) rfl rfl rfl (by decide +kernel)
abbrev qc57 : Jvm.Cond := .code yM48 jdk_43_method_24_code 2 (some .int)
theorem w_c57 : qc57.before args0 about1 = true := code_word (m := ⟨29, 3⟩) (meth := k29m3) (c := k29c3) (by decide +kernel) rfl rfl rfl (by decide +kernel)
abbrev qc58 : Jvm.Cond := .code yM47 jdk_43_method_25_code 11 (some .int)
theorem w_c58 : qc58.before args0 about1 = true := code_word (m := ⟨29, 4⟩) (meth := k29m4) (c := k29c4) (by decide +kernel) rfl rfl rfl (by decide +kernel)
abbrev qc59 : Jvm.Cond := .code yM20 jdk_42_method_139_code 1 (some (.object "java/lang/String"))
theorem w_c59 : qc59.before args0 about1 = true := code_word (m := ⟨7, 9⟩) (meth := k7m9) (c := k7c9) (by decide +kernel) rfl rfl rfl (by decide +kernel)
abbrev qc60 : Jvm.Cond := .code yM17 jdk_43_method_3_code 1 (some .boolean)
theorem w_c60 : qc60.before args0 about1 = true := code_word (m := ⟨29, 2⟩) (meth := k29m2) (c := k29c2) (by decide +kernel) rfl rfl rfl (by decide +kernel)
abbrev qc61 : Jvm.Cond := .code yM18 jdk_43_method_46_code 1 (some (.array .byte))
theorem w_c61 : qc61.before args0 about1 = true := code_word (m := ⟨29, 5⟩) (meth := k29m5) (c := k29c5) (by decide +kernel) rfl rfl rfl (by decide +kernel)
abbrev qc62 : Jvm.Cond := .code yM19 jdk_42_method_151_code 3 none
theorem w_c62 : qc62.before args0 about1 = true := code_word (m := ⟨7, 13⟩) (meth := k7m13) (c := k7c13) (by decide +kernel) rfl rfl rfl (by decide +kernel)
abbrev qc63 : Jvm.Cond := .code yM42 jdk_92_method_21_code 10 none
theorem w_c63 : qc63.before args0 about1 = true := code_word (m := ⟨21, 8⟩) (meth := k21m8) (c := k21c8) (by decide +kernel) rfl rfl rfl (by decide +kernel)
abbrev qc64 : Jvm.Cond := .code yM39 jdk_92_method_16_code 2 none
theorem w_c64 : qc64.before args0 about1 = true := code_word (m := ⟨21, 7⟩) (meth := k21m7) (c := k21c7) (by decide +kernel) rfl rfl rfl (by decide +kernel)
abbrev qc65 : Jvm.Cond := .code yM41 jdk_92_method_15_code 3 none
theorem w_c65 : qc65.before args0 about1 = true := code_word (m := ⟨21, 6⟩) (meth := k21m6) (c := k21c6) (by decide +kernel) rfl rfl rfl (by decide +kernel)
abbrev qc66 : Jvm.Cond := .code yM40 jdk_92_method_14_code 3 none
theorem w_c66 : qc66.before args0 about1 = true := code_word (m := ⟨21, 5⟩) (meth := k21m5) (c := k21c5) (by decide +kernel) rfl rfl rfl (by decide +kernel)
abbrev qc67 : Jvm.Cond := .code yM54 jdk_42_method_85_code 3 (some .int)
theorem w_c67 : qc67.before args0 about1 = true := code_word (m := ⟨7, 7⟩) (meth := k7m7) (c := k7c7) (by decide +kernel) rfl rfl rfl (by decide +kernel)
abbrev qc68 : Jvm.Cond := .code yM53 jdk_42_method_87_code 8 (some .int)
theorem w_c68 : qc68.before args0 about1 = true := code_word (m := ⟨7, 8⟩) (meth := k7m8) (c := k7c8) (by decide +kernel) rfl rfl rfl (by decide +kernel)
abbrev qc69 : Jvm.Cond := .code yM52 jdk_29_method_73_code 4 (some .int)
theorem w_c69 : qc69.before args0 about1 = true := code_word (m := ⟨17, 5⟩) (meth := k17m5) (c := k17c5) (by decide +kernel) rfl rfl rfl (by decide +kernel)
abbrev qc70 : Jvm.Cond := .code yM50 jdk_29_method_66_code 4 (some .long)
theorem w_c70 : qc70.before args0 about1 = true := code_word (m := ⟨17, 2⟩) (meth := k17m2) (c := k17c2) (by decide +kernel) rfl rfl rfl (by decide +kernel)
abbrev qc71 : Jvm.Cond := .code yM51 jdk_29_method_70_code 4 (some .long)
theorem w_c71 : qc71.before args0 about1 = true := code_word (m := ⟨17, 4⟩) (meth := k17m4) (c := k17c4) (by decide +kernel) rfl rfl rfl (by decide +kernel)
abbrev qc72 : Jvm.Cond := .code yM44 jdk_35_method_49_code 3 (some .int)
theorem w_c72 : qc72.before args0 about1 = true := code_word (m := ⟨31, 0⟩) (meth := k31m0) (c := k31c0) (by decide +kernel) rfl rfl rfl (by decide +kernel)
abbrev qc73 : Jvm.Cond := .code yM43 jdk_33_method_48_code 2 (some .int)
theorem w_c73 : qc73.before args0 about1 = true := code_word (m := ⟨32, 0⟩) (meth := k32m0) (c := k32c0) (by decide +kernel) rfl rfl rfl (by decide +kernel)
abbrev qc74 : Jvm.Cond := .code yM75 jdk_67_method_7_code 2 (some (.object "java/lang/StringBuilder"))
theorem w_c74 : qc74.before args0 about1 = true := code_word (m := ⟨24, 2⟩) (meth := k24m2) (c := k24c2) (by decide +kernel) rfl rfl rfl (by decide +kernel)
abbrev qc75 : Jvm.Cond := .code yM74 jdk_68_method_22_code 3 (some (.object "java/lang/AbstractStringBuilder"))
theorem w_c75 : qc75.before args0 about1 = true := code_word (m := ⟨23, 5⟩) (meth := k23m5) (c := k23c5) (by decide +kernel) rfl rfl rfl (by decide +kernel)
abbrev qc76 : Jvm.Cond := .code yM67 jdk_68_method_10_code 6 (some .int)
theorem w_c76 : qc76.before args0 about1 = true := code_word (m := ⟨23, 4⟩) (meth := k23m4) (c := k23c4) (by decide +kernel) rfl rfl rfl (by decide +kernel)
abbrev qc77 : Jvm.Cond := .code yM66 jdk_48_method_27_code 4 (some .int)
theorem w_c77 : qc77.before args0 about1 = true := code_word (m := ⟨33, 1⟩) (meth := k33m1) (c := k33c1) (by decide +kernel) rfl rfl rfl (by decide +kernel)
abbrev qc78 : Jvm.Cond := .code yM68 jdk_65_method_121_code 3 (some (.array .byte))
theorem w_c78 : qc78.before args0 about1 = true := code_word (m := ⟨27, 1⟩) (meth := k27m1) (c := k27c1) (by decide +kernel) rfl rfl rfl (by decide +kernel)
abbrev qc79 : Jvm.Cond := .code yM65 jdk_29_method_69_code 2 (some .int)
theorem w_c79 : qc79.before args0 about1 = true := code_word (m := ⟨17, 3⟩) (meth := k17m3) (c := k17c3) (by decide +kernel) rfl rfl rfl (by decide +kernel)
abbrev qc80 : Jvm.Cond := .code yM73 jdk_68_method_73_code 3 none
theorem w_c80 : qc80.before args0 about1 = true := code_word (m := ⟨23, 10⟩) (meth := k23m10) (c := k23c10) (by decide +kernel) rfl rfl rfl (by decide +kernel)
abbrev qc81 : Jvm.Cond := .code yM71 jdk_68_method_71_code 2 none
theorem w_c81 : qc81.before args0 about1 = true := code_word (m := ⟨23, 9⟩) (meth := k23m9) (c := k23c9) (by decide +kernel) rfl rfl rfl (by decide +kernel)
abbrev qc82 : Jvm.Cond := .code yM72 jdk_42_method_147_code 4 none
theorem w_c82 : qc82.before args0 about1 = true := code_word (m := ⟨7, 10⟩) (meth := k7m10) (c := k7c10) (by decide +kernel) rfl rfl rfl (by decide +kernel)
abbrev qc83 : Jvm.Cond := .code yM46 jdk_92_method_29_code 5 (some .int)
theorem w_c83 : qc83.before args0 about1 = true := code_word (m := ⟨21, 10⟩) (meth := k21m10) (c := k21c10) (by decide +kernel) rfl rfl rfl (by decide +kernel)
abbrev qc84 : Jvm.Cond := .code yM7 method_7_code 3 (some .boolean)
theorem w_c84 : qc84.before args0 about1 = true := code_word (m := ⟨1, 6⟩) (meth := k1m6) (c := k1c6) (by decide +kernel) rfl rfl rfl (by decide +kernel)
abbrev qc85 : Jvm.Cond := .code yM77 jdk_65_method_133_code 5 (some (.array .byte))
theorem w_c85 : qc85.before args0 about1 = true := code_word (m := ⟨27, 4⟩) (meth := k27m4) (c := k27c4) (by decide +kernel) rfl rfl rfl (by decide +kernel)
abbrev qc86 : Jvm.Cond := .code yM76 jdk_65_method_131_code 2 none
theorem w_c86 : qc86.before args0 about1 = true := code_word (m := ⟨27, 2⟩) (meth := k27m2) (c := k27c2) (by decide +kernel) rfl rfl rfl (by decide +kernel)
def codes1 : List Jvm.Cond := [Jvm.Cond.code x code maxLocals ret, qc1, qc2, qc3, qc4, qc5, qc6, qc7, qc8, qc9, qc10, qc11, qc12, qc13, qc14, qc15, qc16, qc17, qc18, qc19, qc20, qc21, qc22, qc23, qc24, qc25, qc26, qc27, qc28, qc29, qc30, qc31, qc32, qc33, qc34, qc35, qc36, qc37, qc38, qc39, qc40, qc41, qc42, qc43, qc44, qc45, qc46, qc47, qc48, qc49, qc50, qc51, qc52, qc53, qc54, qc55, qc56, qc57, qc58, qc59, qc60, qc61, qc62, qc63, qc64, qc65, qc66, qc67, qc68, qc69, qc70, qc71, qc72, qc73, qc74, qc75, qc76, qc77, qc78, qc79, qc80, qc81, qc82, qc83, qc84, qc85, qc86]
theorem codes_eq : words1.filter isCode = codes1 := rfl
theorem w_codes : ∀ c ∈ words1.filter isCode, c.before args0 about1 = true := by
  rw [codes_eq]
  intro c hc
  simp only [codes1, List.mem_cons, List.not_mem_nil, or_false] at hc
  rcases hc with rfl | rfl | rfl | rfl | rfl | rfl | rfl | rfl | rfl | rfl | rfl | rfl | rfl | rfl | rfl | rfl | rfl | rfl | rfl | rfl | rfl | rfl | rfl | rfl | rfl | rfl | rfl | rfl | rfl | rfl | rfl | rfl | rfl | rfl | rfl | rfl | rfl | rfl | rfl | rfl | rfl | rfl | rfl | rfl | rfl | rfl | rfl | rfl | rfl | rfl | rfl | rfl | rfl | rfl | rfl | rfl | rfl | rfl | rfl | rfl | rfl | rfl | rfl | rfl | rfl | rfl | rfl | rfl | rfl | rfl | rfl | rfl | rfl | rfl | rfl | rfl | rfl | rfl | rfl | rfl | rfl | rfl | rfl | rfl | rfl | rfl | rfl
  · exact w_c0
  · exact w_c1
  · exact w_c2
  · exact w_c3
  · exact w_c4
  · exact w_c5
  · exact w_c6
  · exact w_c7
  · exact w_c8
  · exact w_c9
  · exact w_c10
  · exact w_c11
  · exact w_c12
  · exact w_c13
  · exact w_c14
  · exact w_c15
  · exact w_c16
  · exact w_c17
  · exact w_c18
  · exact w_c19
  · exact w_c20
  · exact w_c21
  · exact w_c22
  · exact w_c23
  · exact w_c24
  · exact w_c25
  · exact w_c26
  · exact w_c27
  · exact w_c28
  · exact w_c29
  · exact w_c30
  · exact w_c31
  · exact w_c32
  · exact w_c33
  · exact w_c34
  · exact w_c35
  · exact w_c36
  · exact w_c37
  · exact w_c38
  · exact w_c39
  · exact w_c40
  · exact w_c41
  · exact w_c42
  · exact w_c43
  · exact w_c44
  · exact w_c45
  · exact w_c46
  · exact w_c47
  · exact w_c48
  · exact w_c49
  · exact w_c50
  · exact w_c51
  · exact w_c52
  · exact w_c53
  · exact w_c54
  · exact w_c55
  · exact w_c56
  · exact w_c57
  · exact w_c58
  · exact w_c59
  · exact w_c60
  · exact w_c61
  · exact w_c62
  · exact w_c63
  · exact w_c64
  · exact w_c65
  · exact w_c66
  · exact w_c67
  · exact w_c68
  · exact w_c69
  · exact w_c70
  · exact w_c71
  · exact w_c72
  · exact w_c73
  · exact w_c74
  · exact w_c75
  · exact w_c76
  · exact w_c77
  · exact w_c78
  · exact w_c79
  · exact w_c80
  · exact w_c81
  · exact w_c82
  · exact w_c83
  · exact w_c84
  · exact w_c85
  · exact w_c86
theorem w_t1 : (words1.take 24).all (fun c => isCode c || c.before args0 about1) = true := by decide +kernel
theorem w_t2 : ((words1.drop 24).take 24).all (fun c => isCode c || c.before args0 about1) = true := by decide +kernel
theorem w_t3 : (((words1.drop 24).drop 24).take 24).all (fun c => isCode c || c.before args0 about1) = true := by decide +kernel
theorem w_t4 : ((((words1.drop 24).drop 24).drop 24).take 24).all (fun c => isCode c || c.before args0 about1) = true := by decide +kernel
theorem w_t5 : (((((words1.drop 24).drop 24).drop 24).drop 24).take 24).all (fun c => isCode c || c.before args0 about1) = true := by decide +kernel
theorem w_t6 : ((((((words1.drop 24).drop 24).drop 24).drop 24).drop 24).take 24).all (fun c => isCode c || c.before args0 about1) = true := by decide +kernel
theorem w_t7 : (((((((words1.drop 24).drop 24).drop 24).drop 24).drop 24).drop 24).take 24).all (fun c => isCode c || c.before args0 about1) = true := by decide +kernel
theorem w_t8 : ((((((((words1.drop 24).drop 24).drop 24).drop 24).drop 24).drop 24).drop 24).take 24).all (fun c => isCode c || c.before args0 about1) = true := by decide +kernel
theorem w_t9 : (((((((((words1.drop 24).drop 24).drop 24).drop 24).drop 24).drop 24).drop 24).drop 24).take 24).all (fun c => isCode c || c.before args0 about1) = true := by decide +kernel
theorem w_t10 : ((((((((((words1.drop 24).drop 24).drop 24).drop 24).drop 24).drop 24).drop 24).drop 24).drop 24).take 24).all (fun c => isCode c || c.before args0 about1) = true := by decide +kernel
theorem w_t11 : (((((((((((words1.drop 24).drop 24).drop 24).drop 24).drop 24).drop 24).drop 24).drop 24).drop 24).drop 24).take 24).all (fun c => isCode c || c.before args0 about1) = true := by decide +kernel
theorem w_t12 : ((((((((((((words1.drop 24).drop 24).drop 24).drop 24).drop 24).drop 24).drop 24).drop 24).drop 24).drop 24).drop 24).take 24).all (fun c => isCode c || c.before args0 about1) = true := by decide +kernel
theorem w_t13 : (((((((((((((words1.drop 24).drop 24).drop 24).drop 24).drop 24).drop 24).drop 24).drop 24).drop 24).drop 24).drop 24).drop 24).take 24).all (fun c => isCode c || c.before args0 about1) = true := by decide +kernel
theorem w_t14 : ((((((((((((((words1.drop 24).drop 24).drop 24).drop 24).drop 24).drop 24).drop 24).drop 24).drop 24).drop 24).drop 24).drop 24).drop 24).take 24).all (fun c => isCode c || c.before args0 about1) = true := by decide +kernel
theorem w_t15 : (((((((((((((((words1.drop 24).drop 24).drop 24).drop 24).drop 24).drop 24).drop 24).drop 24).drop 24).drop 24).drop 24).drop 24).drop 24).drop 24).take 24).all (fun c => isCode c || c.before args0 about1) = true := by decide +kernel
theorem w_t16 : ((((((((((((((((words1.drop 24).drop 24).drop 24).drop 24).drop 24).drop 24).drop 24).drop 24).drop 24).drop 24).drop 24).drop 24).drop 24).drop 24).drop 24).take 24).all (fun c => isCode c || c.before args0 about1) = true := by decide +kernel
theorem w_t17 : (((((((((((((((((words1.drop 24).drop 24).drop 24).drop 24).drop 24).drop 24).drop 24).drop 24).drop 24).drop 24).drop 24).drop 24).drop 24).drop 24).drop 24).drop 24).take 24).all (fun c => isCode c || c.before args0 about1) = true := by decide +kernel
theorem w_t18 : ((((((((((((((((((words1.drop 24).drop 24).drop 24).drop 24).drop 24).drop 24).drop 24).drop 24).drop 24).drop 24).drop 24).drop 24).drop 24).drop 24).drop 24).drop 24).drop 24).take 24).all (fun c => isCode c || c.before args0 about1) = true := by decide +kernel
theorem w_t19 : (((((((((((((((((((words1.drop 24).drop 24).drop 24).drop 24).drop 24).drop 24).drop 24).drop 24).drop 24).drop 24).drop 24).drop 24).drop 24).drop 24).drop 24).drop 24).drop 24).drop 24).take 24).all (fun c => isCode c || c.before args0 about1) = true := by decide +kernel
theorem w_t20 : ((((((((((((((((((((words1.drop 24).drop 24).drop 24).drop 24).drop 24).drop 24).drop 24).drop 24).drop 24).drop 24).drop 24).drop 24).drop 24).drop 24).drop 24).drop 24).drop 24).drop 24).drop 24).take 24).all (fun c => isCode c || c.before args0 about1) = true := by decide +kernel
theorem w_t21 : ((((((((((((((((((((words1.drop 24).drop 24).drop 24).drop 24).drop 24).drop 24).drop 24).drop 24).drop 24).drop 24).drop 24).drop 24).drop 24).drop 24).drop 24).drop 24).drop 24).drop 24).drop 24).drop 24).all (fun c => isCode c || c.before args0 about1) = true := by decide +kernel
theorem w_tables : (allAtoms (Jvm.Cond.code x code maxLocals ret :: tables_1)).before args0 about1 = true := by
  rw [allAtoms_all]
  show words1.all (fun c => c.before args0 about1) = true
  refine all_split ?_ w_codes
  rw [← List.take_append_drop 24 words1, List.all_append, w_t1, ← List.take_append_drop 24 (words1.drop 24), List.all_append, w_t2, ← List.take_append_drop 24 ((words1.drop 24).drop 24), List.all_append, w_t3, ← List.take_append_drop 24 (((words1.drop 24).drop 24).drop 24), List.all_append, w_t4, ← List.take_append_drop 24 ((((words1.drop 24).drop 24).drop 24).drop 24), List.all_append, w_t5, ← List.take_append_drop 24 (((((words1.drop 24).drop 24).drop 24).drop 24).drop 24), List.all_append, w_t6, ← List.take_append_drop 24 ((((((words1.drop 24).drop 24).drop 24).drop 24).drop 24).drop 24), List.all_append, w_t7, ← List.take_append_drop 24 (((((((words1.drop 24).drop 24).drop 24).drop 24).drop 24).drop 24).drop 24), List.all_append, w_t8, ← List.take_append_drop 24 ((((((((words1.drop 24).drop 24).drop 24).drop 24).drop 24).drop 24).drop 24).drop 24), List.all_append, w_t9, ← List.take_append_drop 24 (((((((((words1.drop 24).drop 24).drop 24).drop 24).drop 24).drop 24).drop 24).drop 24).drop 24), List.all_append, w_t10, ← List.take_append_drop 24 ((((((((((words1.drop 24).drop 24).drop 24).drop 24).drop 24).drop 24).drop 24).drop 24).drop 24).drop 24), List.all_append, w_t11, ← List.take_append_drop 24 (((((((((((words1.drop 24).drop 24).drop 24).drop 24).drop 24).drop 24).drop 24).drop 24).drop 24).drop 24).drop 24), List.all_append, w_t12, ← List.take_append_drop 24 ((((((((((((words1.drop 24).drop 24).drop 24).drop 24).drop 24).drop 24).drop 24).drop 24).drop 24).drop 24).drop 24).drop 24), List.all_append, w_t13, ← List.take_append_drop 24 (((((((((((((words1.drop 24).drop 24).drop 24).drop 24).drop 24).drop 24).drop 24).drop 24).drop 24).drop 24).drop 24).drop 24).drop 24), List.all_append, w_t14, ← List.take_append_drop 24 ((((((((((((((words1.drop 24).drop 24).drop 24).drop 24).drop 24).drop 24).drop 24).drop 24).drop 24).drop 24).drop 24).drop 24).drop 24).drop 24), List.all_append, w_t15, ← List.take_append_drop 24 (((((((((((((((words1.drop 24).drop 24).drop 24).drop 24).drop 24).drop 24).drop 24).drop 24).drop 24).drop 24).drop 24).drop 24).drop 24).drop 24).drop 24), List.all_append, w_t16, ← List.take_append_drop 24 ((((((((((((((((words1.drop 24).drop 24).drop 24).drop 24).drop 24).drop 24).drop 24).drop 24).drop 24).drop 24).drop 24).drop 24).drop 24).drop 24).drop 24).drop 24), List.all_append, w_t17, ← List.take_append_drop 24 (((((((((((((((((words1.drop 24).drop 24).drop 24).drop 24).drop 24).drop 24).drop 24).drop 24).drop 24).drop 24).drop 24).drop 24).drop 24).drop 24).drop 24).drop 24).drop 24), List.all_append, w_t18, ← List.take_append_drop 24 ((((((((((((((((((words1.drop 24).drop 24).drop 24).drop 24).drop 24).drop 24).drop 24).drop 24).drop 24).drop 24).drop 24).drop 24).drop 24).drop 24).drop 24).drop 24).drop 24).drop 24), List.all_append, w_t19, ← List.take_append_drop 24 (((((((((((((((((((words1.drop 24).drop 24).drop 24).drop 24).drop 24).drop 24).drop 24).drop 24).drop 24).drop 24).drop 24).drop 24).drop 24).drop 24).drop 24).drop 24).drop 24).drop 24).drop 24), List.all_append, w_t20, w_t21]
  rfl
theorem w_rest : rest_1_c.before args0 about1 = true := by decide +kernel
theorem w_case : (Jvm.Cond.and given_1 narrow_1).before args0 about1 = true := by decide +kernel
theorem w_consts : constsHeld consts_1 about1 := Jvm.Lit.constsHeldB_iff.mp (by decide +kernel)
theorem w_applies : (headSpec (Jvm.Cond.code x code maxLocals ret :: tables_1) room_1).applies x e0.platform about1 = true :=
  (Spec.applies_iff w_frames).mpr ⟨w_running, w_runnable, w_alone, w_named, w_hears, w_ripe, w_room, w_tables⟩
theorem atStart : AtStart classFile x code maxLocals ret World_1 tables_1 room_1 Calls_1 rest_1 Pre_1 launch0 p0 e0 about1 theMethod args0 below0 :=
  ⟨lists_1, trivial, launch0.admits_env _ _ _, launch0.least_env, fairChoices_fair.cas, fairChoices_fair.clock, w_frames, w_args, w_heap, w_applies, ⟨w_consts, trivial⟩, w_rest, w_case⟩
end start1
theorem witness_1 : WitnessClaimed_1 := ⟨start1.p0, start1.e0, start1.about1, start1.theMethod, start1.args0, start1.below0, start1.atStart⟩
end Jvm.Pilot.@@N@@
